import JvmDerived
import JvmDerived.Pilot.@@N@@Statement
import JvmDerived.Pilot.@@N@@Code
set_option linter.unusedVariables false
set_option linter.unusedSimpArgs false
namespace Jvm.Pilot.@@N@@
open Jvm Jvm.ClassFile Sem Op Lib Jvm.Free Jvm.Stand Jvm.LawKit Jvm.RoadKit Bundle Jvm.Pilot.@@N@@.Jvm.D
section OwnLayer
variable {p : Program} {l : Launch} {e : Env} {R : Room} {s : State} {m : MethodId} {args : Array Value} {below : List Frame} {meth : Method} {c : Code} {Z : State} {a0 : Array Value} {n0 : Nat} {own nm : String} {bytes : ByteArray} {ml : Nat} {rt : Option FieldType} {Q : Option Value → Heap → Prop} {h : Heap} {cells slots pc pc' pcY : Nat} {Ls Ls' : Array Slot} {st st' : List Value}
def ushr (x y : Int32) : Int32 := (x.toUInt32 >>> (y &&& 31).toUInt32).toInt32
def ushrL (x : Int64) (y : Int32) : Int64 := (x.toUInt64 >>> (y &&& 0x3f).toInt64.toUInt64).toInt64
/-- what stays the same while a body is walked -/
def OCx (p : Program) (l : Launch) (e : Env) (R : Room) (s : State) (m : MethodId) (args : Array Value) (below : List Frame) (meth : Method) (c : Code) (Z : State) (own nm : String) (bytes : ByteArray) (ml : Nat) (rt : Option FieldType) : Prop :=
  p.tables.exec = Jvm.exec ∧ c.code = bytes ∧ c.maxLocals = ml ∧ meth.sig.returnType = rt ∧ meth.name = nm ∧ meth.locks = false ∧ s.vm.findClass own = some m.cls ∧ Z.Warmed39 s.vm
theorem OCx.ex (K : OCx p l e R s m args below meth c Z own nm bytes ml rt) : p.tables.exec = Jvm.exec := K.1
theorem OCx.by (K : OCx p l e R s m args below meth c Z own nm bytes ml rt) : c.code = bytes := K.2.1
theorem OCx.hml (K : OCx p l e R s m args below meth c Z own nm bytes ml rt) : c.maxLocals = ml := K.2.2.1
theorem OCx.hrt (K : OCx p l e R s m args below meth c Z own nm bytes ml rt) : meth.sig.returnType = rt := K.2.2.2.1
theorem OCx.hnm (K : OCx p l e R s m args below meth c Z own nm bytes ml rt) : meth.name = nm := K.2.2.2.2.1
theorem OCx.lk (K : OCx p l e R s m args below meth c Z own nm bytes ml rt) : meth.locks = false := K.2.2.2.2.2.1
theorem OCx.hown (K : OCx p l e R s m args below meth c Z own nm bytes ml rt) : s.vm.findClass own = some m.cls := K.2.2.2.2.2.2.1
theorem OCx.hZ (K : OCx p l e R s m args below meth c Z own nm bytes ml rt) : Z.Warmed39 s.vm := K.2.2.2.2.2.2.2
/-- from here the body ends as Q says -/
def OGo (p : Program) (l : Launch) (e : Env) (R : Room) (s : State) (m : MethodId) (args : Array Value) (below : List Frame) (meth : Method) (c : Code) (n0 : Nat) (Q : Option Value → Heap → Prop) (h : Heap) (cells slots pc : Nat) (Ls : Array Slot) (st : List Value) : Prop :=
  ∀ (T : State) (locs : List Loc) (k n : Nat), Stand p l e R s m args below meth c T locs k n → T.heap = h → Fr n0 locs → k ≤ cells → n ≤ slots →
    ∃ (s₂ : State) (v : Option Value) (L : List Loc), Steps p.tables e below (T.setTop (mkF m pc Ls st)) s₂ ∧ s₂.status = .running ∧ Ended s₂ below (.returned v) ∧ Q v s₂.heap ∧ Fr n0 L ∧ FrameEnd s (.returned v) s₂ L R.cells R.slots
abbrev OCon (l : Launch) (Z : State) (n0 : Nat) (y : MethodName) (bytes : ByteArray) (maxL : Nat) (ret : Option FieldType) (ws : List Jvm.Cond) (rm : Room) (as' : Array Value) (h0 : Heap) (Q : Option Value → Heap → Prop) : Prop :=
  MetFree l y (head1 (Jvm.Cond.code y bytes maxL ret :: ws) rm) (fun a U => a = as' ∧ Z.Warmed39 U.vm ∧ U.heap = h0) (fun _ _ _ _ _ => True) (fun _ U o U' => ∃ v L, o = .returned v ∧ (Q v U'.heap ∧ Fr n0 L) ∧ FrameEnd U o U' L rm.cells rm.slots)
def OV (P : Value → Heap → Prop) (v : Option Value) (h : Heap) : Prop := ∃ w, v = some w ∧ P w h
def ON (P : Heap → Prop) (v : Option Value) (h : Heap) : Prop := v = none ∧ P h
def own_lay : List Value → List Slot
  | [] => []
  | v :: vs => if v.category = 2 then .val v :: .second :: own_lay vs else .val v :: own_lay vs
theorem own_lay_fold (vs : List Value) (acc : Array Slot) : vs.foldl (fun acc v => if v.category = 2 then (acc.push (.val v)).push .second else acc.push (.val v)) acc = acc ++ (own_lay vs).toArray := by
  induction vs generalizing acc with
  | nil => simp [own_lay]
  | cons v vs ih =>
    rw [List.foldl_cons, ih]
    simp only [own_lay]
    split <;> simp
theorem own_entry (m : MethodId) {vs : List Value} {n : Nat} {L : List Slot} (h : own_lay vs ++ List.replicate (n - (own_lay vs).length) .unset = L) : entryFrame m vs.toArray n = mkF m 0 L.toArray [] := by
  unfold entryFrame mkF argsToLocals
  subst h
  simp [own_lay_fold]
theorem OCon.of {y : MethodName} {maxL : Nat} {ret : Option FieldType} {ws : List Jvm.Cond} {rm : Room} {as' : Array Value} {h0 : Heap} (hpl : plainFor y = true) (hf : ∀ m, entryFrame m as' maxL = mkF m 0 Ls [])
    (body : ∀ p e s m below meth c, OCx p l e rm s m as' below meth c Z y.cls y.name bytes maxL ret → OGo p l e rm s m as' below meth c n0 Q h0 0 0 0 Ls []) : OCon l Z n0 y bytes maxL ret ws rm as' h0 Q := by
  refine MetFree.of_bodySF hpl hisR ?_
  intro p e s m args below meth c s₁ Bd hml0 hP hK
  obtain ⟨rfl, hZ, hh⟩ := hP
  have X0 : Stand p l e rm s m _ below meth c s₁ [] 0 0 := Stand.of_body Bd
  have e0 : s₁.heap = h0 := by rw [← hh, Bd.state]; rfl
  obtain ⟨s₂, v, L, h1, h2, h3, h4, h5, h6⟩ := body p e s m below meth c ⟨Bd.exec, Bd.bytes, hml0, Bd.returns, (name_of_methodNamed Bd.named Bd.method).1, BodyLoose.notSynchronized Bd, findClass_of_methodNamed Bd.named, hZ⟩ s₁ [] 0 0 X0 e0 (Fr.nil n0) (Nat.le_refl _) (Nat.le_refl _)
  exact ⟨s₂, _, castTop (hf m) h1, h2, h3, v, L, rfl, ⟨h4, h5⟩, h6⟩
theorem OCon.mono {y : MethodName} {maxL : Nat} {ret : Option FieldType} {ws : List Jvm.Cond} {rm : Room} {as' : Array Value} {h0 : Heap} {Q' : Option Value → Heap → Prop} (H : OCon l Z n0 y bytes maxL ret ws rm as' h0 Q) (k : ∀ v h, Q v h → Q' v h) : OCon l Z n0 y bytes maxL ret ws rm as' h0 Q' := by
  intro p e ha hc hk s m args below hf happ hP hK
  obtain ⟨n, o, h1, h2, h3, v, L, h4, ⟨h5, h6⟩, h7⟩ := H p e ha hc hk s m args below hf happ hP hK
  exact ⟨n, o, h1, h2, h3, v, L, h4, ⟨k _ _ h5, h6⟩, h7⟩
theorem OGo.more {cells' slots' : Nat} (r : OGo p l e R s m args below meth c n0 Q h cells' slots' pc Ls st) (hc : cells ≤ cells') (hs : slots ≤ slots') : OGo p l e R s m args below meth c n0 Q h cells slots pc Ls st :=
  fun T locs k n X e0 N h1 h2 => r T locs k n X e0 N (Nat.le_trans h1 hc) (Nat.le_trans h2 hs)
theorem OGo.plain (hs : ∀ (T t : State), At T m c below → Steps p.tables e below (T.setTop (mkF m pc' Ls' st')) t → Steps p.tables e below (T.setTop (mkF m pc Ls st)) t) (r : OGo p l e R s m args below meth c n0 Q h cells slots pc' Ls' st') : OGo p l e R s m args below meth c n0 Q h cells slots pc Ls st := by
  intro T locs k n X e0 N h1 h2
  obtain ⟨s₂, v, L, g, r'⟩ := r T locs k n X e0 N h1 h2
  exact ⟨s₂, v, L, hs T s₂ X.here g, r'⟩
theorem OGo.same (hs : ∀ (T : State) (locs : List Loc) (k n : Nat), Stand p l e R s m args below meth c T locs k n → T.heap = h → ∃ T', Stand p l e R s m args below meth c T' locs k n ∧ T'.heap = h ∧ ∀ t, Steps p.tables e below (T'.setTop (mkF m pc' Ls' st')) t → Steps p.tables e below (T.setTop (mkF m pc Ls st)) t) (r : OGo p l e R s m args below meth c n0 Q h cells slots pc' Ls' st') : OGo p l e R s m args below meth c n0 Q h cells slots pc Ls st := by
  intro T locs k n X e0 N h1 h2
  obtain ⟨T', X', e', st'⟩ := hs T locs k n X e0
  obtain ⟨s₂, v, L, g, r'⟩ := r T' locs k n X' e' N h1 h2
  exact ⟨s₂, v, L, st' _ g, r'⟩
/-- a step that writes one place a -/
theorem OGo.write {a : Addr} {sl : Nat} {v : Value} (ga : n0 ≤ a) (hs : ∀ (T : State) (locs : List Loc) (k n : Nat), Stand p l e R s m args below meth c T locs k n → T.heap = h → ∃ T' h', Stand p l e R s m args below meth c T' (locs ++ [⟨a, sl⟩]) k n ∧ T'.heap = h' ∧ Wr h h' a sl v ∧ ∀ t, Steps p.tables e below (T'.setTop (mkF m pc' Ls' st')) t → Steps p.tables e below (T.setTop (mkF m pc Ls st)) t)
    (r : ∀ h', Wr h h' a sl v → OGo p l e R s m args below meth c n0 Q h' cells slots pc' Ls' st') : OGo p l e R s m args below meth c n0 Q h cells slots pc Ls st := by
  intro T locs k n X e0 N h1 h2
  obtain ⟨T', h', X', e', W, st'⟩ := hs T locs k n X e0
  obtain ⟨s₂, v, L, g, r'⟩ := r h' W T' _ k n X' e' (Fr.snoc X' N ga) h1 h2
  exact ⟨s₂, v, L, st' _ g, r'⟩
theorem OGo.leave {w : Option Value} (K : OCx p l e R s m args below meth c Z own nm bytes ml rt) (hv : rt = none → w = none) (hs : ∀ (T : State) (locs : List Loc) (k n : Nat) (fs : List Frame), Stand p l e R s m args below meth c T locs k n → (∀ (f : JFrame) (acts : List Action), f.method = m → f.locked = none → f.entered = [] → (doReturn e (T.setTop f) acts w).1 = T.setFrames fs) → Steps p.tables e below (T.setTop (mkF m pc Ls st)) (T.setFrames fs))
    (hc : cells ≤ R.cells) (hl : slots ≤ R.slots) (q : Q w h) : OGo p l e R s m args below meth c n0 Q h cells slots pc Ls st := by
  intro T locs k n X e0 N h1 h2
  obtain ⟨fs, hr, hrun, hended, hW, hsame⟩ := X.leave (v := w) (fun x => hv (K.hrt.symm.trans x)) K.lk
  refine ⟨_, w, locs, hs T locs k n fs X hr, hrun, hended, ?_, N, ⟨_, rfl⟩, hW, hsame.mono (Nat.le_trans h1 hc) (Nat.le_trans h2 hl)⟩
  show Q w T.heap
  rw [e0]; exact q
theorem OGo.ret {w : Value} {t : FieldType} {i : Instr} {rest : List Value} (K : OCx p l e R s m args below meth c Z own nm bytes ml (some t)) (hd : decode bytes pc = .ok (i, 1)) (hn : narrow t w = w)
    (hi : (i = .ireturn ∧ (t = .int ∨ t = .boolean ∨ t = .byte ∨ t = .char ∨ t = .short) ∧ ∃ z, w = .int z) ∨ (i = .lreturn ∧ t = .long ∧ ∃ z, w = .long z) ∨ (i = .dreturn ∧ t = .double ∧ ∃ z, w = .double z) ∨ (i = .freturn ∧ t = .float ∧ ∃ z, w = .float z) ∨ (i = .areturn ∧ t.isReference = true ∧ w.isRef = true))
    (hc : cells ≤ R.cells) (hl : slots ≤ R.slots) (q : Q (some w) h) : OGo p l e R s m args below meth c n0 Q h cells slots pc Ls (w :: rest) :=
  OGo.leave K (fun x => nomatch x) (fun T locs k n fs X hr => retOut X K.ex K.hrt hn hi (hb K.by hd) hr) hc hl q
theorem OGo.iret {z : Int32} {rest : List Value} (K : OCx p l e R s m args below meth c Z own nm bytes ml (some .int)) (hd : decode bytes pc = .ok (.ireturn, 1)) (hc : cells ≤ R.cells) (hl : slots ≤ R.slots) (q : Q (some (.int z)) h) : OGo p l e R s m args below meth c n0 Q h cells slots pc Ls (.int z :: rest) :=
  OGo.ret K hd rfl (Or.inl ⟨rfl, Or.inl rfl, z, rfl⟩) hc hl q
theorem OGo.nret {z : Int32} {t : FieldType} {rest : List Value} (K : OCx p l e R s m args below meth c Z own nm bytes ml (some t)) (ht : t = .boolean ∨ t = .byte ∨ t = .char ∨ t = .short) (hd : decode bytes pc = .ok (.ireturn, 1)) (hc : cells ≤ R.cells) (hl : slots ≤ R.slots) (q : Q (some (.int (nar t z))) h) : OGo p l e R s m args below meth c n0 Q h cells slots pc Ls (.int z :: rest) :=
  OGo.leave K (fun x => nomatch x) (fun T locs k n fs X hr => retN X K.ex K.hrt ht (hb K.by hd) hr) hc hl q
theorem OGo.lret {z : Int64} {rest : List Value} (K : OCx p l e R s m args below meth c Z own nm bytes ml (some .long)) (hd : decode bytes pc = .ok (.lreturn, 1)) (hc : cells ≤ R.cells) (hl : slots ≤ R.slots) (q : Q (some (.long z)) h) : OGo p l e R s m args below meth c n0 Q h cells slots pc Ls (.long z :: rest) :=
  OGo.ret K hd rfl (Or.inr (Or.inl ⟨rfl, rfl, z, rfl⟩)) hc hl q
theorem OGo.dret {z : UInt64} {rest : List Value} (K : OCx p l e R s m args below meth c Z own nm bytes ml (some .double)) (hd : decode bytes pc = .ok (.dreturn, 1)) (hc : cells ≤ R.cells) (hl : slots ≤ R.slots) (q : Q (some (.double z)) h) : OGo p l e R s m args below meth c n0 Q h cells slots pc Ls (.double z :: rest) :=
  OGo.ret K hd rfl (Or.inr (Or.inr (Or.inl ⟨rfl, rfl, z, rfl⟩))) hc hl q
theorem OGo.aret {w : Value} {t : FieldType} {rest : List Value} (K : OCx p l e R s m args below meth c Z own nm bytes ml (some t)) (hd : decode bytes pc = .ok (.areturn, 1)) (ht : t.isReference = true) (hw : w.isRef = true) (hc : cells ≤ R.cells) (hl : slots ≤ R.slots) (q : Q (some w) h) : OGo p l e R s m args below meth c n0 Q h cells slots pc Ls (w :: rest) :=
  OGo.ret K hd (by cases t <;> first | (cases ht; done) | (cases w <;> first | (cases hw; done) | rfl)) (Or.inr (Or.inr (Or.inr (Or.inr ⟨rfl, ht, hw⟩)))) hc hl q
theorem OGo.vret (K : OCx p l e R s m args below meth c Z own nm bytes ml none) (hd : decode bytes pc = .ok (.return_, 1)) (hc : cells ≤ R.cells) (hl : slots ≤ R.slots) (q : Q none h) : OGo p l e R s m args below meth c n0 Q h cells slots pc Ls [] :=
  OGo.leave K (fun _ => rfl) (fun T locs k n fs X hr => X.returnOut K.ex K.hrt (hb K.by hd) hr) hc hl q

theorem OGo.iload (K : OCx p l e R s m args below meth c Z own nm bytes ml rt) {k : Nat} {v : Int32} (hd : decode bytes pc = .ok (.iload k, 2)) (hp : pc + 2 = pc') (hl : Ls[k]? = some (.val (.int v))) (r : OGo p l e R s m args below meth c n0 Q h cells slots pc' Ls (.int v :: st)) : OGo p l e R s m args below meth c n0 Q h cells slots pc Ls st := by
  subst hp
  exact OGo.plain (fun T t hA q => XS.iload hA K.ex rfl (hb K.by hd) hl q) r
theorem OGo.iloadN (K : OCx p l e R s m args below meth c Z own nm bytes ml rt) {k : Fin 4} {v : Int32} (hd : decode bytes pc = .ok (.iload_n k, 1)) (hp : pc + 1 = pc') (hl : Ls[k.val]? = some (.val (.int v))) (r : OGo p l e R s m args below meth c n0 Q h cells slots pc' Ls (.int v :: st)) : OGo p l e R s m args below meth c n0 Q h cells slots pc Ls st := by
  subst hp
  exact OGo.plain (fun T t hA q => XS.iloadN hA K.ex rfl (hb K.by hd) hl q) r
theorem OGo.lload (K : OCx p l e R s m args below meth c Z own nm bytes ml rt) {k : Nat} {v : Int64} (hd : decode bytes pc = .ok (.lload k, 2)) (hp : pc + 2 = pc') (hl : Ls[k]? = some (.val (.long v))) (r : OGo p l e R s m args below meth c n0 Q h cells slots pc' Ls (.long v :: st)) : OGo p l e R s m args below meth c n0 Q h cells slots pc Ls st := by
  subst hp
  exact OGo.plain (fun T t hA q => XS.lload hA K.ex rfl (hb K.by hd) hl q) r
theorem OGo.lloadN (K : OCx p l e R s m args below meth c Z own nm bytes ml rt) {k : Fin 4} {v : Int64} (hd : decode bytes pc = .ok (.lload_n k, 1)) (hp : pc + 1 = pc') (hl : Ls[k.val]? = some (.val (.long v))) (r : OGo p l e R s m args below meth c n0 Q h cells slots pc' Ls (.long v :: st)) : OGo p l e R s m args below meth c n0 Q h cells slots pc Ls st := by
  subst hp
  exact OGo.plain (fun T t hA q => XS.lloadN hA K.ex rfl (hb K.by hd) hl q) r
theorem OGo.aload (K : OCx p l e R s m args below meth c Z own nm bytes ml rt) {k : Nat} {v : Value} (hd : decode bytes pc = .ok (.aload k, 2)) (hp : pc + 2 = pc') (hl : Ls[k]? = some (.val v)) (hv : v.isRef = true) (r : OGo p l e R s m args below meth c n0 Q h cells slots pc' Ls (v :: st)) : OGo p l e R s m args below meth c n0 Q h cells slots pc Ls st := by
  subst hp
  exact OGo.plain (fun T t hA q => XS.aload hA K.ex rfl (hb K.by hd) hl hv q) r
theorem OGo.aloadN (K : OCx p l e R s m args below meth c Z own nm bytes ml rt) {k : Fin 4} {v : Value} (hd : decode bytes pc = .ok (.aload_n k, 1)) (hp : pc + 1 = pc') (hl : Ls[k.val]? = some (.val v)) (hv : v.isRef = true) (r : OGo p l e R s m args below meth c n0 Q h cells slots pc' Ls (v :: st)) : OGo p l e R s m args below meth c n0 Q h cells slots pc Ls st := by
  subst hp
  exact OGo.plain (fun T t hA q => XS.aloadN hA K.ex rfl (hb K.by hd) hl hv q) r
theorem OGo.istore (K : OCx p l e R s m args below meth c Z own nm bytes ml rt) {k : Nat} {v : Int32} (hd : decode bytes pc = .ok (.istore k, 2)) (hp : pc + 2 = pc') (hl : storeLocals Ls k (.int v) = some Ls') (r : OGo p l e R s m args below meth c n0 Q h cells slots pc' Ls' st) : OGo p l e R s m args below meth c n0 Q h cells slots pc Ls (.int v :: st) := by
  subst hp
  exact OGo.plain (fun T t hA q => XS.istore hA K.ex rfl (hb K.by hd) rfl hl q) r
theorem OGo.istoreN (K : OCx p l e R s m args below meth c Z own nm bytes ml rt) {k : Fin 4} {v : Int32} (hd : decode bytes pc = .ok (.istore_n k, 1)) (hp : pc + 1 = pc') (hl : storeLocals Ls k.val (.int v) = some Ls') (r : OGo p l e R s m args below meth c n0 Q h cells slots pc' Ls' st) : OGo p l e R s m args below meth c n0 Q h cells slots pc Ls (.int v :: st) := by
  subst hp
  exact OGo.plain (fun T t hA q => XS.istoreN hA K.ex rfl (hb K.by hd) rfl hl q) r
theorem OGo.lstore (K : OCx p l e R s m args below meth c Z own nm bytes ml rt) {k : Nat} {v : Int64} (hd : decode bytes pc = .ok (.lstore k, 2)) (hp : pc + 2 = pc') (hl : storeLocals Ls k (.long v) = some Ls') (r : OGo p l e R s m args below meth c n0 Q h cells slots pc' Ls' st) : OGo p l e R s m args below meth c n0 Q h cells slots pc Ls (.long v :: st) := by
  subst hp
  exact OGo.plain (fun T t hA q => XS.lstore hA K.ex rfl (hb K.by hd) rfl hl q) r
theorem OGo.lstoreN (K : OCx p l e R s m args below meth c Z own nm bytes ml rt) {k : Fin 4} {v : Int64} (hd : decode bytes pc = .ok (.lstore_n k, 1)) (hp : pc + 1 = pc') (hl : storeLocals Ls k.val (.long v) = some Ls') (r : OGo p l e R s m args below meth c n0 Q h cells slots pc' Ls' st) : OGo p l e R s m args below meth c n0 Q h cells slots pc Ls (.long v :: st) := by
  subst hp
  exact OGo.plain (fun T t hA q => XS.lstoreN hA K.ex rfl (hb K.by hd) rfl hl q) r
theorem OGo.astore (K : OCx p l e R s m args below meth c Z own nm bytes ml rt) {k : Nat} {v : Value} (hd : decode bytes pc = .ok (.astore k, 2)) (hp : pc + 2 = pc') (hv : v.isRef = true) (hl : storeLocals Ls k v = some Ls') (r : OGo p l e R s m args below meth c n0 Q h cells slots pc' Ls' st) : OGo p l e R s m args below meth c n0 Q h cells slots pc Ls (v :: st) := by
  subst hp
  exact OGo.plain (fun T t hA q => XS.astore hA K.ex rfl (hb K.by hd) rfl hv hl q) r
theorem OGo.astoreN (K : OCx p l e R s m args below meth c Z own nm bytes ml rt) {k : Fin 4} {v : Value} (hd : decode bytes pc = .ok (.astore_n k, 1)) (hp : pc + 1 = pc') (hv : v.isRef = true) (hl : storeLocals Ls k.val v = some Ls') (r : OGo p l e R s m args below meth c n0 Q h cells slots pc' Ls' st) : OGo p l e R s m args below meth c n0 Q h cells slots pc Ls (v :: st) := by
  subst hp
  exact OGo.plain (fun T t hA q => XS.astoreN hA K.ex rfl (hb K.by hd) rfl hv hl q) r
theorem OGo.iconst (K : OCx p l e R s m args below meth c Z own nm bytes ml rt) {i : Int} {z : Int32} (hd : decode bytes pc = .ok (.iconst i, 1)) (hp : pc + 1 = pc') (hz : Int32.ofInt i = z) (r : OGo p l e R s m args below meth c n0 Q h cells slots pc' Ls (.int z :: st)) : OGo p l e R s m args below meth c n0 Q h cells slots pc Ls st := by
  subst hp
  exact OGo.plain (fun T t hA q => XS.iconst hA K.ex rfl (hb K.by hd) (by rw [hz]; exact q)) r
theorem OGo.bipush (K : OCx p l e R s m args below meth c Z own nm bytes ml rt) {i : Int} {z : Int32} (hd : decode bytes pc = .ok (.bipush i, 2)) (hp : pc + 2 = pc') (hz : (Int8.ofInt i).toInt32 = z) (r : OGo p l e R s m args below meth c n0 Q h cells slots pc' Ls (.int z :: st)) : OGo p l e R s m args below meth c n0 Q h cells slots pc Ls st := by
  subst hp
  exact OGo.plain (fun T t hA q => XS.bipush hA K.ex rfl (hb K.by hd) (by rw [hz]; exact q)) r
theorem OGo.sipush (K : OCx p l e R s m args below meth c Z own nm bytes ml rt) {i : Int} {z : Int32} (hd : decode bytes pc = .ok (.sipush i, 3)) (hp : pc + 3 = pc') (hz : (Int16.ofInt i).toInt32 = z) (r : OGo p l e R s m args below meth c n0 Q h cells slots pc' Ls (.int z :: st)) : OGo p l e R s m args below meth c n0 Q h cells slots pc Ls st := by
  subst hp
  exact OGo.plain (fun T t hA q => XS.sipush hA K.ex rfl (hb K.by hd) (by rw [hz]; exact q)) r
theorem OGo.lconst (K : OCx p l e R s m args below meth c Z own nm bytes ml rt) {i : Fin 2} {z : Int64} (hd : decode bytes pc = .ok (.lconst i, 1)) (hp : pc + 1 = pc') (hz : Int64.ofNat i = z) (r : OGo p l e R s m args below meth c n0 Q h cells slots pc' Ls (.long z :: st)) : OGo p l e R s m args below meth c n0 Q h cells slots pc Ls st := by
  subst hp
  exact OGo.plain (fun T t hA q => XS.lconst hA K.ex rfl (hb K.by hd) (by rw [hz]; exact q)) r
theorem OGo.aconstNull (K : OCx p l e R s m args below meth c Z own nm bytes ml rt) (hd : decode bytes pc = .ok (.aconst_null, 1)) (hp : pc + 1 = pc') (r : OGo p l e R s m args below meth c n0 Q h cells slots pc' Ls (.null :: st)) : OGo p l e R s m args below meth c n0 Q h cells slots pc Ls st := by
  subst hp
  exact OGo.plain (fun T t hA q => XS.aconstNull hA K.ex rfl (hb K.by hd) q) r
theorem OGo.iadd (K : OCx p l e R s m args below meth c Z own nm bytes ml rt) {x y : Int32} (hd : decode bytes pc = .ok (.iadd, 1)) (hp : pc + 1 = pc') (r : OGo p l e R s m args below meth c n0 Q h cells slots pc' Ls (.int (x + y) :: st)) : OGo p l e R s m args below meth c n0 Q h cells slots pc Ls (.int y :: .int x :: st) := by
  subst hp
  exact OGo.plain (fun T t hA q => XS.iadd hA K.ex rfl (hb K.by hd) rfl q) r
theorem OGo.isub (K : OCx p l e R s m args below meth c Z own nm bytes ml rt) {x y : Int32} (hd : decode bytes pc = .ok (.isub, 1)) (hp : pc + 1 = pc') (r : OGo p l e R s m args below meth c n0 Q h cells slots pc' Ls (.int (x - y) :: st)) : OGo p l e R s m args below meth c n0 Q h cells slots pc Ls (.int y :: .int x :: st) := by
  subst hp
  exact OGo.plain (fun T t hA q => XS.isub hA K.ex rfl (hb K.by hd) rfl q) r
theorem OGo.imul (K : OCx p l e R s m args below meth c Z own nm bytes ml rt) {x y : Int32} (hd : decode bytes pc = .ok (.imul, 1)) (hp : pc + 1 = pc') (r : OGo p l e R s m args below meth c n0 Q h cells slots pc' Ls (.int (x * y) :: st)) : OGo p l e R s m args below meth c n0 Q h cells slots pc Ls (.int y :: .int x :: st) := by
  subst hp
  exact OGo.plain (fun T t hA q => XS.imul hA K.ex rfl (hb K.by hd) rfl q) r
theorem OGo.iand (K : OCx p l e R s m args below meth c Z own nm bytes ml rt) {x y : Int32} (hd : decode bytes pc = .ok (.iand, 1)) (hp : pc + 1 = pc') (r : OGo p l e R s m args below meth c n0 Q h cells slots pc' Ls (.int (x &&& y) :: st)) : OGo p l e R s m args below meth c n0 Q h cells slots pc Ls (.int y :: .int x :: st) := by
  subst hp
  exact OGo.plain (fun T t hA q => XS.iand hA K.ex rfl (hb K.by hd) rfl q) r
theorem OGo.ior (K : OCx p l e R s m args below meth c Z own nm bytes ml rt) {x y : Int32} (hd : decode bytes pc = .ok (.ior, 1)) (hp : pc + 1 = pc') (r : OGo p l e R s m args below meth c n0 Q h cells slots pc' Ls (.int (x ||| y) :: st)) : OGo p l e R s m args below meth c n0 Q h cells slots pc Ls (.int y :: .int x :: st) := by
  subst hp
  exact OGo.plain (fun T t hA q => XS.ior hA K.ex rfl (hb K.by hd) rfl q) r
theorem OGo.ixor (K : OCx p l e R s m args below meth c Z own nm bytes ml rt) {x y : Int32} (hd : decode bytes pc = .ok (.ixor, 1)) (hp : pc + 1 = pc') (r : OGo p l e R s m args below meth c n0 Q h cells slots pc' Ls (.int (x ^^^ y) :: st)) : OGo p l e R s m args below meth c n0 Q h cells slots pc Ls (.int y :: .int x :: st) := by
  subst hp
  exact OGo.plain (fun T t hA q => XS.ixor hA K.ex rfl (hb K.by hd) rfl q) r
theorem OGo.ladd (K : OCx p l e R s m args below meth c Z own nm bytes ml rt) {x y : Int64} (hd : decode bytes pc = .ok (.ladd, 1)) (hp : pc + 1 = pc') (r : OGo p l e R s m args below meth c n0 Q h cells slots pc' Ls (.long (x + y) :: st)) : OGo p l e R s m args below meth c n0 Q h cells slots pc Ls (.long y :: .long x :: st) := by
  subst hp
  exact OGo.plain (fun T t hA q => XS.ladd hA K.ex rfl (hb K.by hd) rfl q) r
theorem OGo.lsub (K : OCx p l e R s m args below meth c Z own nm bytes ml rt) {x y : Int64} (hd : decode bytes pc = .ok (.lsub, 1)) (hp : pc + 1 = pc') (r : OGo p l e R s m args below meth c n0 Q h cells slots pc' Ls (.long (x - y) :: st)) : OGo p l e R s m args below meth c n0 Q h cells slots pc Ls (.long y :: .long x :: st) := by
  subst hp
  exact OGo.plain (fun T t hA q => XS.lsub hA K.ex rfl (hb K.by hd) rfl q) r
theorem OGo.lmul (K : OCx p l e R s m args below meth c Z own nm bytes ml rt) {x y : Int64} (hd : decode bytes pc = .ok (.lmul, 1)) (hp : pc + 1 = pc') (r : OGo p l e R s m args below meth c n0 Q h cells slots pc' Ls (.long (x * y) :: st)) : OGo p l e R s m args below meth c n0 Q h cells slots pc Ls (.long y :: .long x :: st) := by
  subst hp
  exact OGo.plain (fun T t hA q => XS.lmul hA K.ex rfl (hb K.by hd) rfl q) r
theorem OGo.land (K : OCx p l e R s m args below meth c Z own nm bytes ml rt) {x y : Int64} (hd : decode bytes pc = .ok (.land, 1)) (hp : pc + 1 = pc') (r : OGo p l e R s m args below meth c n0 Q h cells slots pc' Ls (.long (x &&& y) :: st)) : OGo p l e R s m args below meth c n0 Q h cells slots pc Ls (.long y :: .long x :: st) := by
  subst hp
  exact OGo.plain (fun T t hA q => XS.land hA K.ex rfl (hb K.by hd) rfl q) r
theorem OGo.lor (K : OCx p l e R s m args below meth c Z own nm bytes ml rt) {x y : Int64} (hd : decode bytes pc = .ok (.lor, 1)) (hp : pc + 1 = pc') (r : OGo p l e R s m args below meth c n0 Q h cells slots pc' Ls (.long (x ||| y) :: st)) : OGo p l e R s m args below meth c n0 Q h cells slots pc Ls (.long y :: .long x :: st) := by
  subst hp
  exact OGo.plain (fun T t hA q => XS.lor hA K.ex rfl (hb K.by hd) rfl q) r
theorem OGo.lxor (K : OCx p l e R s m args below meth c Z own nm bytes ml rt) {x y : Int64} (hd : decode bytes pc = .ok (.lxor, 1)) (hp : pc + 1 = pc') (r : OGo p l e R s m args below meth c n0 Q h cells slots pc' Ls (.long (x ^^^ y) :: st)) : OGo p l e R s m args below meth c n0 Q h cells slots pc Ls (.long y :: .long x :: st) := by
  subst hp
  exact OGo.plain (fun T t hA q => XS.lxor hA K.ex rfl (hb K.by hd) rfl q) r
theorem OGo.ishl (K : OCx p l e R s m args below meth c Z own nm bytes ml rt) {x y : Int32} (hd : decode bytes pc = .ok (.ishl, 1)) (hp : pc + 1 = pc') (r : OGo p l e R s m args below meth c n0 Q h cells slots pc' Ls (.int (x <<< (y &&& 31)) :: st)) : OGo p l e R s m args below meth c n0 Q h cells slots pc Ls (.int y :: .int x :: st) := by
  subst hp
  exact OGo.plain (fun T t hA q => XS.ishl hA K.ex rfl (hb K.by hd) rfl q) r
theorem OGo.ishr (K : OCx p l e R s m args below meth c Z own nm bytes ml rt) {x y : Int32} (hd : decode bytes pc = .ok (.ishr, 1)) (hp : pc + 1 = pc') (r : OGo p l e R s m args below meth c n0 Q h cells slots pc' Ls (.int (x >>> (y &&& 31)) :: st)) : OGo p l e R s m args below meth c n0 Q h cells slots pc Ls (.int y :: .int x :: st) := by
  subst hp
  exact OGo.plain (fun T t hA q => XS.ishr hA K.ex rfl (hb K.by hd) rfl q) r
theorem OGo.iushr (K : OCx p l e R s m args below meth c Z own nm bytes ml rt) {x y : Int32} (hd : decode bytes pc = .ok (.iushr, 1)) (hp : pc + 1 = pc') (r : OGo p l e R s m args below meth c n0 Q h cells slots pc' Ls (.int (ushr x y) :: st)) : OGo p l e R s m args below meth c n0 Q h cells slots pc Ls (.int y :: .int x :: st) := by
  subst hp
  exact OGo.plain (fun T t hA q => XS.iushr hA K.ex rfl (hb K.by hd) rfl q) r
theorem OGo.lshl (K : OCx p l e R s m args below meth c Z own nm bytes ml rt) {x : Int64} {y : Int32} (hd : decode bytes pc = .ok (.lshl, 1)) (hp : pc + 1 = pc') (r : OGo p l e R s m args below meth c n0 Q h cells slots pc' Ls (.long (x <<< (y &&& 63).toInt64) :: st)) : OGo p l e R s m args below meth c n0 Q h cells slots pc Ls (.int y :: .long x :: st) := by
  subst hp
  exact OGo.plain (fun T t hA q => XS.lshl hA K.ex rfl (hb K.by hd) rfl q) r
theorem OGo.lshr (K : OCx p l e R s m args below meth c Z own nm bytes ml rt) {x : Int64} {y : Int32} (hd : decode bytes pc = .ok (.lshr, 1)) (hp : pc + 1 = pc') (r : OGo p l e R s m args below meth c n0 Q h cells slots pc' Ls (.long (x >>> (y &&& 63).toInt64) :: st)) : OGo p l e R s m args below meth c n0 Q h cells slots pc Ls (.int y :: .long x :: st) := by
  subst hp
  exact OGo.plain (fun T t hA q => XS.lshr hA K.ex rfl (hb K.by hd) rfl q) r
theorem OGo.lushr (K : OCx p l e R s m args below meth c Z own nm bytes ml rt) {x : Int64} {y : Int32} (hd : decode bytes pc = .ok (.lushr, 1)) (hp : pc + 1 = pc') (r : OGo p l e R s m args below meth c n0 Q h cells slots pc' Ls (.long (ushrL x y) :: st)) : OGo p l e R s m args below meth c n0 Q h cells slots pc Ls (.int y :: .long x :: st) := by
  subst hp
  exact OGo.plain (fun T t hA q => XS.lushr hA K.ex rfl (hb K.by hd) rfl q) r
theorem OGo.idiv (K : OCx p l e R s m args below meth c Z own nm bytes ml rt) {x y : Int32} (hd : decode bytes pc = .ok (.idiv, 1)) (hp : pc + 1 = pc') (hy : y ≠ 0) (r : OGo p l e R s m args below meth c n0 Q h cells slots pc' Ls (.int (x / y) :: st)) : OGo p l e R s m args below meth c n0 Q h cells slots pc Ls (.int y :: .int x :: st) := by
  subst hp
  exact OGo.plain (fun T t hA q => XS.idiv hA K.ex rfl (hb K.by hd) rfl hy q) r
theorem OGo.irem (K : OCx p l e R s m args below meth c Z own nm bytes ml rt) {x y : Int32} (hd : decode bytes pc = .ok (.irem, 1)) (hp : pc + 1 = pc') (hy : y ≠ 0) (r : OGo p l e R s m args below meth c n0 Q h cells slots pc' Ls (.int (x % y) :: st)) : OGo p l e R s m args below meth c n0 Q h cells slots pc Ls (.int y :: .int x :: st) := by
  subst hp
  exact OGo.plain (fun T t hA q => XS.irem hA K.ex rfl (hb K.by hd) rfl hy (by rw [show x - x / y * y = x % y from irem_eq_mod x y]; exact q)) r
theorem OGo.ldiv (K : OCx p l e R s m args below meth c Z own nm bytes ml rt) {x y : Int64} (hd : decode bytes pc = .ok (.ldiv, 1)) (hp : pc + 1 = pc') (hy : y ≠ 0) (r : OGo p l e R s m args below meth c n0 Q h cells slots pc' Ls (.long (x / y) :: st)) : OGo p l e R s m args below meth c n0 Q h cells slots pc Ls (.long y :: .long x :: st) := by
  subst hp
  exact OGo.plain (fun T t hA q => XS.ldiv hA K.ex rfl (hb K.by hd) rfl hy q) r
theorem OGo.lrem (K : OCx p l e R s m args below meth c Z own nm bytes ml rt) {x y : Int64} (hd : decode bytes pc = .ok (.lrem, 1)) (hp : pc + 1 = pc') (hy : y ≠ 0) (r : OGo p l e R s m args below meth c n0 Q h cells slots pc' Ls (.long (x - (x / y) * y) :: st)) : OGo p l e R s m args below meth c n0 Q h cells slots pc Ls (.long y :: .long x :: st) := by
  subst hp
  exact OGo.plain (fun T t hA q => XS.lrem hA K.ex rfl (hb K.by hd) rfl hy q) r
theorem OGo.ineg (K : OCx p l e R s m args below meth c Z own nm bytes ml rt) {x : Int32} (hd : decode bytes pc = .ok (.ineg, 1)) (hp : pc + 1 = pc') (r : OGo p l e R s m args below meth c n0 Q h cells slots pc' Ls (.int (-x) :: st)) : OGo p l e R s m args below meth c n0 Q h cells slots pc Ls (.int x :: st) := by
  subst hp
  exact OGo.plain (fun T t hA q => XS.ineg hA K.ex rfl (hb K.by hd) rfl q) r
theorem OGo.lneg (K : OCx p l e R s m args below meth c Z own nm bytes ml rt) {x : Int64} (hd : decode bytes pc = .ok (.lneg, 1)) (hp : pc + 1 = pc') (r : OGo p l e R s m args below meth c n0 Q h cells slots pc' Ls (.long (-x) :: st)) : OGo p l e R s m args below meth c n0 Q h cells slots pc Ls (.long x :: st) := by
  subst hp
  exact OGo.plain (fun T t hA q => XS.lneg hA K.ex rfl (hb K.by hd) rfl q) r
theorem OGo.i2l (K : OCx p l e R s m args below meth c Z own nm bytes ml rt) {x : Int32} (hd : decode bytes pc = .ok (.i2l, 1)) (hp : pc + 1 = pc') (r : OGo p l e R s m args below meth c n0 Q h cells slots pc' Ls (.long x.toInt64 :: st)) : OGo p l e R s m args below meth c n0 Q h cells slots pc Ls (.int x :: st) := by
  subst hp
  exact OGo.plain (fun T t hA q => XS.i2l hA K.ex rfl (hb K.by hd) rfl q) r
theorem OGo.l2i (K : OCx p l e R s m args below meth c Z own nm bytes ml rt) {x : Int64} (hd : decode bytes pc = .ok (.l2i, 1)) (hp : pc + 1 = pc') (r : OGo p l e R s m args below meth c n0 Q h cells slots pc' Ls (.int x.toInt32 :: st)) : OGo p l e R s m args below meth c n0 Q h cells slots pc Ls (.long x :: st) := by
  subst hp
  exact OGo.plain (fun T t hA q => XS.l2i hA K.ex rfl (hb K.by hd) rfl q) r
theorem OGo.i2b (K : OCx p l e R s m args below meth c Z own nm bytes ml rt) {x : Int32} (hd : decode bytes pc = .ok (.i2b, 1)) (hp : pc + 1 = pc') (r : OGo p l e R s m args below meth c n0 Q h cells slots pc' Ls (.int x.toInt8.toInt32 :: st)) : OGo p l e R s m args below meth c n0 Q h cells slots pc Ls (.int x :: st) := by
  subst hp
  exact OGo.plain (fun T t hA q => XS.i2b hA K.ex rfl (hb K.by hd) rfl q) r
theorem OGo.i2s (K : OCx p l e R s m args below meth c Z own nm bytes ml rt) {x : Int32} (hd : decode bytes pc = .ok (.i2s, 1)) (hp : pc + 1 = pc') (r : OGo p l e R s m args below meth c n0 Q h cells slots pc' Ls (.int x.toInt16.toInt32 :: st)) : OGo p l e R s m args below meth c n0 Q h cells slots pc Ls (.int x :: st) := by
  subst hp
  exact OGo.plain (fun T t hA q => XS.i2s hA K.ex rfl (hb K.by hd) rfl q) r
theorem OGo.i2c (K : OCx p l e R s m args below meth c Z own nm bytes ml rt) {x : Int32} (hd : decode bytes pc = .ok (.i2c, 1)) (hp : pc + 1 = pc') (r : OGo p l e R s m args below meth c n0 Q h cells slots pc' Ls (.int x.toUInt32.toUInt16.toUInt32.toInt32 :: st)) : OGo p l e R s m args below meth c n0 Q h cells slots pc Ls (.int x :: st) := by
  subst hp
  exact OGo.plain (fun T t hA q => XS.i2c hA K.ex rfl (hb K.by hd) rfl q) r
theorem OGo.iinc (K : OCx p l e R s m args below meth c Z own nm bytes ml rt) {k : Nat} {i : Int} {x z : Int32} (hd : decode bytes pc = .ok (.iinc k i, 3)) (hp : pc + 3 = pc') (hl : Ls[k]? = some (.val (.int x))) (hz : Int32.ofInt i = z) (hl' : storeLocals Ls k (.int (x + z)) = some Ls') (r : OGo p l e R s m args below meth c n0 Q h cells slots pc' Ls' st) : OGo p l e R s m args below meth c n0 Q h cells slots pc Ls st := by
  subst hp
  exact OGo.plain (fun T t hA q => XS.iinc hA K.ex rfl (hb K.by hd) hl (by rw [hz]; exact hl') q) r
theorem OGo.dup (K : OCx p l e R s m args below meth c Z own nm bytes ml rt) {v : Value} (hd : decode bytes pc = .ok (.dup, 1)) (hp : pc + 1 = pc') (hc : v.category = 1) (r : OGo p l e R s m args below meth c n0 Q h cells slots pc' Ls (v :: v :: st)) : OGo p l e R s m args below meth c n0 Q h cells slots pc Ls (v :: st) := by
  subst hp
  exact OGo.plain (fun T t hA q => XS.dup hA K.ex rfl (hb K.by hd) rfl hc q) r
theorem OGo.pop (K : OCx p l e R s m args below meth c Z own nm bytes ml rt) {v : Value} (hd : decode bytes pc = .ok (.pop, 1)) (hp : pc + 1 = pc') (hc : v.category = 1) (r : OGo p l e R s m args below meth c n0 Q h cells slots pc' Ls st) : OGo p l e R s m args below meth c n0 Q h cells slots pc Ls (v :: st) := by
  subst hp
  exact OGo.plain (fun T t hA q => XS.pop hA K.ex rfl (hb K.by hd) rfl hc q) r
theorem OGo.dupX1 (K : OCx p l e R s m args below meth c Z own nm bytes ml rt) {v w : Value} (hd : decode bytes pc = .ok (.dup_x1, 1)) (hp : pc + 1 = pc') (hc : v.category = 1) (hc' : w.category = 1) (r : OGo p l e R s m args below meth c n0 Q h cells slots pc' Ls (v :: w :: v :: st)) : OGo p l e R s m args below meth c n0 Q h cells slots pc Ls (v :: w :: st) := by
  subst hp
  exact OGo.plain (fun T t hA q => XS.dupX1 hA K.ex rfl (hb K.by hd) rfl hc hc' q) r
theorem OGo.dup2 (K : OCx p l e R s m args below meth c Z own nm bytes ml rt) {v w : Value} (hd : decode bytes pc = .ok (.dup2, 1)) (hp : pc + 1 = pc') (hc : v.category = 1) (hc' : w.category = 1) (r : OGo p l e R s m args below meth c n0 Q h cells slots pc' Ls (v :: w :: v :: w :: st)) : OGo p l e R s m args below meth c n0 Q h cells slots pc Ls (v :: w :: st) := by
  subst hp
  exact OGo.plain (fun T t hA q => XT.dup2 hA K.ex rfl (hb K.by hd) rfl hc hc' q) r
theorem OGo.dup2L (K : OCx p l e R s m args below meth c Z own nm bytes ml rt) {x : Int64} (hd : decode bytes pc = .ok (.dup2, 1)) (hp : pc + 1 = pc') (r : OGo p l e R s m args below meth c n0 Q h cells slots pc' Ls (.long x :: .long x :: st)) : OGo p l e R s m args below meth c n0 Q h cells slots pc Ls (.long x :: st) := by
  subst hp
  exact OGo.plain (fun T t hA q => XT.dup2L hA K.ex rfl (hb K.by hd) rfl q) r
theorem OGo.lcmp (K : OCx p l e R s m args below meth c Z own nm bytes ml rt) {x y : Int64} (hd : decode bytes pc = .ok (.lcmp, 1)) (hp : pc + 1 = pc') (r : OGo p l e R s m args below meth c n0 Q h cells slots pc' Ls (.int (lcmpW x y) :: st)) : OGo p l e R s m args below meth c n0 Q h cells slots pc Ls (.long y :: .long x :: st) := by
  subst hp
  exact OGo.plain (fun T t hA q => XS.lcmp hA K.ex rfl (hb K.by hd) rfl q) r
theorem OGo.dload (K : OCx p l e R s m args below meth c Z own nm bytes ml rt) {k : Nat} {v : UInt64} (hd : decode bytes pc = .ok (.dload k, 2)) (hp : pc + 2 = pc') (hl : Ls[k]? = some (.val (.double v))) (r : OGo p l e R s m args below meth c n0 Q h cells slots pc' Ls (.double v :: st)) : OGo p l e R s m args below meth c n0 Q h cells slots pc Ls st := by
  subst hp
  exact OGo.plain (fun T t hA q => XS.dload hA K.ex rfl (hb K.by hd) hl q) r
theorem OGo.dloadN (K : OCx p l e R s m args below meth c Z own nm bytes ml rt) {k : Fin 4} {v : UInt64} (hd : decode bytes pc = .ok (.dload_n k, 1)) (hp : pc + 1 = pc') (hl : Ls[k.val]? = some (.val (.double v))) (r : OGo p l e R s m args below meth c n0 Q h cells slots pc' Ls (.double v :: st)) : OGo p l e R s m args below meth c n0 Q h cells slots pc Ls st := by
  subst hp
  exact OGo.plain (fun T t hA q => XS.dloadN hA K.ex rfl (hb K.by hd) hl q) r
theorem OGo.dstore (K : OCx p l e R s m args below meth c Z own nm bytes ml rt) {k : Nat} {v : UInt64} (hd : decode bytes pc = .ok (.dstore k, 2)) (hp : pc + 2 = pc') (hl : storeLocals Ls k (.double v) = some Ls') (r : OGo p l e R s m args below meth c n0 Q h cells slots pc' Ls' st) : OGo p l e R s m args below meth c n0 Q h cells slots pc Ls (.double v :: st) := by
  subst hp
  exact OGo.plain (fun T t hA q => XS.dstore hA K.ex rfl (hb K.by hd) rfl hl q) r
theorem OGo.dstoreN (K : OCx p l e R s m args below meth c Z own nm bytes ml rt) {k : Fin 4} {v : UInt64} (hd : decode bytes pc = .ok (.dstore_n k, 1)) (hp : pc + 1 = pc') (hl : storeLocals Ls k.val (.double v) = some Ls') (r : OGo p l e R s m args below meth c n0 Q h cells slots pc' Ls' st) : OGo p l e R s m args below meth c n0 Q h cells slots pc Ls (.double v :: st) := by
  subst hp
  exact OGo.plain (fun T t hA q => XS.dstoreN hA K.ex rfl (hb K.by hd) rfl hl q) r
theorem OGo.dconst0 (K : OCx p l e R s m args below meth c Z own nm bytes ml rt) {z : UInt64} (hd : decode bytes pc = .ok (.dconst 0, 1)) (hp : pc + 1 = pc') (hz : FP.dconst0 = z) (r : OGo p l e R s m args below meth c n0 Q h cells slots pc' Ls (.double z :: st)) : OGo p l e R s m args below meth c n0 Q h cells slots pc Ls st := by
  subst hp
  exact OGo.plain (fun T t hA q => XS.dconst0 hA K.ex rfl (hb K.by hd) hz q) r
theorem OGo.dconst1 (K : OCx p l e R s m args below meth c Z own nm bytes ml rt) {z : UInt64} (hd : decode bytes pc = .ok (.dconst 1, 1)) (hp : pc + 1 = pc') (hz : FP.dconst1 = z) (r : OGo p l e R s m args below meth c n0 Q h cells slots pc' Ls (.double z :: st)) : OGo p l e R s m args below meth c n0 Q h cells slots pc Ls st := by
  subst hp
  exact OGo.plain (fun T t hA q => XS.dconst1 hA K.ex rfl (hb K.by hd) hz q) r
theorem OGo.i2d (K : OCx p l e R s m args below meth c Z own nm bytes ml rt) {x : Int32} (hd : decode bytes pc = .ok (.i2d, 1)) (hp : pc + 1 = pc') (r : OGo p l e R s m args below meth c n0 Q h cells slots pc' Ls (.double (FP.i2d x) :: st)) : OGo p l e R s m args below meth c n0 Q h cells slots pc Ls (.int x :: st) := by
  subst hp
  exact OGo.plain (fun T t hA q => XS.i2dS hA K.ex rfl (hb K.by hd) rfl rfl q) r
theorem OGo.dadd (K : OCx p l e R s m args below meth c Z own nm bytes ml rt) {x y z : UInt64} (hd : decode bytes pc = .ok (.dadd, 1)) (hp : pc + 1 = pc') (hn : Jvm.Free.Fl.NoNaN64 (FP.dadd x y)) (hz : FP.dadd x y = z) (r : OGo p l e R s m args below meth c n0 Q h cells slots pc' Ls (.double z :: st)) : OGo p l e R s m args below meth c n0 Q h cells slots pc Ls (.double y :: .double x :: st) := by
  subst hp
  exact OGo.plain (fun T t hA q => XS.daddS hA K.ex rfl (hb K.by hd) rfl hn hz q) r
theorem OGo.dsub (K : OCx p l e R s m args below meth c Z own nm bytes ml rt) {x y z : UInt64} (hd : decode bytes pc = .ok (.dsub, 1)) (hp : pc + 1 = pc') (hn : Jvm.Free.Fl.NoNaN64 (FP.dsub x y)) (hz : FP.dsub x y = z) (r : OGo p l e R s m args below meth c n0 Q h cells slots pc' Ls (.double z :: st)) : OGo p l e R s m args below meth c n0 Q h cells slots pc Ls (.double y :: .double x :: st) := by
  subst hp
  exact OGo.plain (fun T t hA q => XS.dsubS hA K.ex rfl (hb K.by hd) rfl hn hz q) r
theorem OGo.dmul (K : OCx p l e R s m args below meth c Z own nm bytes ml rt) {x y z : UInt64} (hd : decode bytes pc = .ok (.dmul, 1)) (hp : pc + 1 = pc') (hn : Jvm.Free.Fl.NoNaN64 (FP.dmul x y)) (hz : FP.dmul x y = z) (r : OGo p l e R s m args below meth c n0 Q h cells slots pc' Ls (.double z :: st)) : OGo p l e R s m args below meth c n0 Q h cells slots pc Ls (.double y :: .double x :: st) := by
  subst hp
  exact OGo.plain (fun T t hA q => XS.dmulS hA K.ex rfl (hb K.by hd) rfl hn hz q) r
theorem OGo.ddiv (K : OCx p l e R s m args below meth c Z own nm bytes ml rt) {x y z : UInt64} (hd : decode bytes pc = .ok (.ddiv, 1)) (hp : pc + 1 = pc') (hn : Jvm.Free.Fl.NoNaN64 (FP.ddiv x y)) (hz : FP.ddiv x y = z) (r : OGo p l e R s m args below meth c n0 Q h cells slots pc' Ls (.double z :: st)) : OGo p l e R s m args below meth c n0 Q h cells slots pc Ls (.double y :: .double x :: st) := by
  subst hp
  exact OGo.plain (fun T t hA q => XS.ddivS hA K.ex rfl (hb K.by hd) rfl hn hz q) r
theorem OGo.dcmp (K : OCx p l e R s m args below meth c Z own nm bytes ml rt) {o : CmpOp} {x y : UInt64} {z : Int32} (hd : decode bytes pc = .ok (.dcmp o, 1)) (hp : pc + 1 = pc') (hz : cmpValue (FP.dcmp x y) o = z) (r : OGo p l e R s m args below meth c n0 Q h cells slots pc' Ls (.int z :: st)) : OGo p l e R s m args below meth c n0 Q h cells slots pc Ls (.double y :: .double x :: st) := by
  subst hp
  exact OGo.plain (fun T t hA q => XS.dcmpS hA K.ex rfl (hb K.by hd) rfl hz q) r
theorem OGo.goto (K : OCx p l e R s m args below meth c Z own nm bytes ml rt) {o : Int} (hd : decode bytes pc = .ok (.goto o, 3)) (ho : 0 ≤ (pc : Int) + o) (hp : ((pc : Int) + o).toNat = pc') (r : OGo p l e R s m args below meth c n0 Q h cells slots pc' Ls st) : OGo p l e R s m args below meth c n0 Q h cells slots pc Ls st :=
  OGo.plain (fun T t hA q => XS.goto hA K.ex rfl rfl (hb K.by hd) ho hp q) r
theorem OGo.icmp (K : OCx p l e R s m args below meth c Z own nm bytes ml rt) {cd : ClassFile.Cond} {o : Int} {x y : Int32} (hd : decode bytes pc = .ok (.if_icmp cd o, 3)) (hp : pc + 3 = pc') (ho : 0 ≤ (pc : Int) + o) (hq : ((pc : Int) + o).toNat = pcY) (ry : if_icmp.holds cd x y = true → OGo p l e R s m args below meth c n0 Q h cells slots pcY Ls st) (rn : if_icmp.holds cd x y = false → OGo p l e R s m args below meth c n0 Q h cells slots pc' Ls st) : OGo p l e R s m args below meth c n0 Q h cells slots pc Ls (.int y :: .int x :: st) := by
  subst hp
  cases hc : if_icmp.holds cd x y
  · exact OGo.plain (fun T t hA q => XS.icmpNo hA K.ex rfl (hb K.by hd) rfl hc q) (rn hc)
  · exact OGo.plain (fun T t hA q => XS.icmpYes hA K.ex rfl rfl (hb K.by hd) rfl hc ho hq q) (ry hc)
theorem OGo.ifc (K : OCx p l e R s m args below meth c Z own nm bytes ml rt) {cd : ClassFile.Cond} {o : Int} {x : Int32} (hd : decode bytes pc = .ok (.ifCond cd o, 3)) (hp : pc + 3 = pc') (ho : 0 ≤ (pc : Int) + o) (hq : ((pc : Int) + o).toNat = pcY) (ry : if_icmp.holds cd x 0 = true → OGo p l e R s m args below meth c n0 Q h cells slots pcY Ls st) (rn : if_icmp.holds cd x 0 = false → OGo p l e R s m args below meth c n0 Q h cells slots pc' Ls st) : OGo p l e R s m args below meth c n0 Q h cells slots pc Ls (.int x :: st) := by
  subst hp
  cases hc : if_icmp.holds cd x 0
  · exact OGo.plain (fun T t hA q => XS.ifNo hA K.ex rfl (hb K.by hd) rfl ((if0 _ _).trans hc) q) (rn hc)
  · exact OGo.plain (fun T t hA q => XS.ifYes hA K.ex rfl rfl (hb K.by hd) rfl ((if0 _ _).trans hc) ho hq q) (ry hc)
theorem own_holds {cd : ClassFile.Cond} {x y : Int32} {b : Bool} (q : if_icmp.holds cd x y = b) : match cd with | .eq => (x = y) = (b = true) | .ne => (¬ x = y) = (b = true) | .lt => (x < y) = (b = true) | .ge => (¬ x < y) = (b = true) | .gt => (y < x) = (b = true) | .le => (¬ y < x) = (b = true) := by
  subst q
  cases cd
  all_goals simp only [eq_iff_iff]
  · constructor
    · intro h; exact (teq h).1
    · intro h; by_cases q : x = y
      · exact q
      · rw [(feq q).1] at h; cases h
  · constructor
    · intro h; exact (feq h).2
    · intro h q; rw [(teq q).2] at h; cases h
  · constructor
    · intro h; exact (tlt h).1
    · intro h; by_cases q : x < y
      · exact q
      · rw [(flt q).1] at h; cases h
  · constructor
    · intro h; exact (flt h).2.1
    · intro h q; rw [(tlt q).2.1] at h; cases h
  · constructor
    · intro h; exact (tlt h).2.2.1
    · intro h; by_cases q : y < x
      · exact q
      · rw [(flt q).2.2.1] at h; cases h
  · constructor
    · intro h; exact (flt h).2.2.2
    · intro h q; rw [(tlt q).2.2.2] at h; cases h
theorem OGo.icmpEq (K : OCx p l e R s m args below meth c Z own nm bytes ml rt) {o : Int} {x y : Int32} (hd : decode bytes pc = .ok (.if_icmp .eq o, 3)) (hp : pc + 3 = pc') (ho : 0 ≤ (pc : Int) + o) (hq : ((pc : Int) + o).toNat = pcY) (ry : x = y → OGo p l e R s m args below meth c n0 Q h cells slots pcY Ls st) (rn : ¬ x = y → OGo p l e R s m args below meth c n0 Q h cells slots pc' Ls st) : OGo p l e R s m args below meth c n0 Q h cells slots pc Ls (.int y :: .int x :: st) :=
  OGo.icmp K hd hp ho hq (fun q => ry ((own_holds q : _ = _).mpr rfl)) (fun q => rn (fun z => Bool.false_ne_true ((own_holds q : _ = _).mp z)))
theorem OGo.ifEq (K : OCx p l e R s m args below meth c Z own nm bytes ml rt) {o : Int} {x : Int32} (hd : decode bytes pc = .ok (.ifCond .eq o, 3)) (hp : pc + 3 = pc') (ho : 0 ≤ (pc : Int) + o) (hq : ((pc : Int) + o).toNat = pcY) (ry : x = 0 → OGo p l e R s m args below meth c n0 Q h cells slots pcY Ls st) (rn : ¬ x = 0 → OGo p l e R s m args below meth c n0 Q h cells slots pc' Ls st) : OGo p l e R s m args below meth c n0 Q h cells slots pc Ls (.int x :: st) :=
  OGo.ifc K hd hp ho hq (fun q => ry ((own_holds q : _ = _).mpr rfl)) (fun q => rn (fun z => Bool.false_ne_true ((own_holds q : _ = _).mp z)))
theorem OGo.lcmpEq (K : OCx p l e R s m args below meth c Z own nm bytes ml rt) {o : Int} {x y : Int64} {pc1 : Nat} (hd0 : decode bytes pc = .ok (.lcmp, 1)) (hp0 : pc + 1 = pc1) (hd : decode bytes pc1 = .ok (.ifCond .eq o, 3)) (hp : pc1 + 3 = pc') (ho : 0 ≤ (pc1 : Int) + o) (hq : ((pc1 : Int) + o).toNat = pcY) (ry : x = y → OGo p l e R s m args below meth c n0 Q h cells slots pcY Ls st) (rn : ¬ x = y → OGo p l e R s m args below meth c n0 Q h cells slots pc' Ls st) : OGo p l e R s m args below meth c n0 Q h cells slots pc Ls (.long y :: .long x :: st) :=
  OGo.lcmp K hd0 hp0 (OGo.ifEq K hd hp ho hq (fun q => ry ((lw_eq x y).mp q)) (fun q => rn (fun z => q ((lw_eq x y).mpr z))))
theorem OGo.icmpNe (K : OCx p l e R s m args below meth c Z own nm bytes ml rt) {o : Int} {x y : Int32} (hd : decode bytes pc = .ok (.if_icmp .ne o, 3)) (hp : pc + 3 = pc') (ho : 0 ≤ (pc : Int) + o) (hq : ((pc : Int) + o).toNat = pcY) (ry : ¬ x = y → OGo p l e R s m args below meth c n0 Q h cells slots pcY Ls st) (rn : x = y → OGo p l e R s m args below meth c n0 Q h cells slots pc' Ls st) : OGo p l e R s m args below meth c n0 Q h cells slots pc Ls (.int y :: .int x :: st) :=
  OGo.icmp K hd hp ho hq (fun q => ry ((own_holds q : _ = _).mpr rfl)) (fun q => rn (Classical.byContradiction fun z => Bool.false_ne_true ((own_holds q : _ = _).mp z)))
theorem OGo.ifNe (K : OCx p l e R s m args below meth c Z own nm bytes ml rt) {o : Int} {x : Int32} (hd : decode bytes pc = .ok (.ifCond .ne o, 3)) (hp : pc + 3 = pc') (ho : 0 ≤ (pc : Int) + o) (hq : ((pc : Int) + o).toNat = pcY) (ry : ¬ x = 0 → OGo p l e R s m args below meth c n0 Q h cells slots pcY Ls st) (rn : x = 0 → OGo p l e R s m args below meth c n0 Q h cells slots pc' Ls st) : OGo p l e R s m args below meth c n0 Q h cells slots pc Ls (.int x :: st) :=
  OGo.ifc K hd hp ho hq (fun q => ry ((own_holds q : _ = _).mpr rfl)) (fun q => rn (Classical.byContradiction fun z => Bool.false_ne_true ((own_holds q : _ = _).mp z)))
theorem OGo.lcmpNe (K : OCx p l e R s m args below meth c Z own nm bytes ml rt) {o : Int} {x y : Int64} {pc1 : Nat} (hd0 : decode bytes pc = .ok (.lcmp, 1)) (hp0 : pc + 1 = pc1) (hd : decode bytes pc1 = .ok (.ifCond .ne o, 3)) (hp : pc1 + 3 = pc') (ho : 0 ≤ (pc1 : Int) + o) (hq : ((pc1 : Int) + o).toNat = pcY) (ry : ¬ x = y → OGo p l e R s m args below meth c n0 Q h cells slots pcY Ls st) (rn : x = y → OGo p l e R s m args below meth c n0 Q h cells slots pc' Ls st) : OGo p l e R s m args below meth c n0 Q h cells slots pc Ls (.long y :: .long x :: st) :=
  OGo.lcmp K hd0 hp0 (OGo.ifNe K hd hp ho hq (fun q => ry (fun z => q ((lw_eq x y).mpr z))) (fun q => rn ((lw_eq x y).mp q)))
theorem OGo.icmpLt (K : OCx p l e R s m args below meth c Z own nm bytes ml rt) {o : Int} {x y : Int32} (hd : decode bytes pc = .ok (.if_icmp .lt o, 3)) (hp : pc + 3 = pc') (ho : 0 ≤ (pc : Int) + o) (hq : ((pc : Int) + o).toNat = pcY) (ry : x < y → OGo p l e R s m args below meth c n0 Q h cells slots pcY Ls st) (rn : ¬ x < y → OGo p l e R s m args below meth c n0 Q h cells slots pc' Ls st) : OGo p l e R s m args below meth c n0 Q h cells slots pc Ls (.int y :: .int x :: st) :=
  OGo.icmp K hd hp ho hq (fun q => ry ((own_holds q : _ = _).mpr rfl)) (fun q => rn (fun z => Bool.false_ne_true ((own_holds q : _ = _).mp z)))
theorem OGo.ifLt (K : OCx p l e R s m args below meth c Z own nm bytes ml rt) {o : Int} {x : Int32} (hd : decode bytes pc = .ok (.ifCond .lt o, 3)) (hp : pc + 3 = pc') (ho : 0 ≤ (pc : Int) + o) (hq : ((pc : Int) + o).toNat = pcY) (ry : x < 0 → OGo p l e R s m args below meth c n0 Q h cells slots pcY Ls st) (rn : ¬ x < 0 → OGo p l e R s m args below meth c n0 Q h cells slots pc' Ls st) : OGo p l e R s m args below meth c n0 Q h cells slots pc Ls (.int x :: st) :=
  OGo.ifc K hd hp ho hq (fun q => ry ((own_holds q : _ = _).mpr rfl)) (fun q => rn (fun z => Bool.false_ne_true ((own_holds q : _ = _).mp z)))
theorem OGo.lcmpLt (K : OCx p l e R s m args below meth c Z own nm bytes ml rt) {o : Int} {x y : Int64} {pc1 : Nat} (hd0 : decode bytes pc = .ok (.lcmp, 1)) (hp0 : pc + 1 = pc1) (hd : decode bytes pc1 = .ok (.ifCond .lt o, 3)) (hp : pc1 + 3 = pc') (ho : 0 ≤ (pc1 : Int) + o) (hq : ((pc1 : Int) + o).toNat = pcY) (ry : x < y → OGo p l e R s m args below meth c n0 Q h cells slots pcY Ls st) (rn : ¬ x < y → OGo p l e R s m args below meth c n0 Q h cells slots pc' Ls st) : OGo p l e R s m args below meth c n0 Q h cells slots pc Ls (.long y :: .long x :: st) :=
  OGo.lcmp K hd0 hp0 (OGo.ifLt K hd hp ho hq (fun q => ry ((lw_lt x y).mp q)) (fun q => rn (fun z => q ((lw_lt x y).mpr z))))
theorem OGo.icmpGe (K : OCx p l e R s m args below meth c Z own nm bytes ml rt) {o : Int} {x y : Int32} (hd : decode bytes pc = .ok (.if_icmp .ge o, 3)) (hp : pc + 3 = pc') (ho : 0 ≤ (pc : Int) + o) (hq : ((pc : Int) + o).toNat = pcY) (ry : ¬ x < y → OGo p l e R s m args below meth c n0 Q h cells slots pcY Ls st) (rn : x < y → OGo p l e R s m args below meth c n0 Q h cells slots pc' Ls st) : OGo p l e R s m args below meth c n0 Q h cells slots pc Ls (.int y :: .int x :: st) :=
  OGo.icmp K hd hp ho hq (fun q => ry ((own_holds q : _ = _).mpr rfl)) (fun q => rn (Classical.byContradiction fun z => Bool.false_ne_true ((own_holds q : _ = _).mp z)))
theorem OGo.ifGe (K : OCx p l e R s m args below meth c Z own nm bytes ml rt) {o : Int} {x : Int32} (hd : decode bytes pc = .ok (.ifCond .ge o, 3)) (hp : pc + 3 = pc') (ho : 0 ≤ (pc : Int) + o) (hq : ((pc : Int) + o).toNat = pcY) (ry : ¬ x < 0 → OGo p l e R s m args below meth c n0 Q h cells slots pcY Ls st) (rn : x < 0 → OGo p l e R s m args below meth c n0 Q h cells slots pc' Ls st) : OGo p l e R s m args below meth c n0 Q h cells slots pc Ls (.int x :: st) :=
  OGo.ifc K hd hp ho hq (fun q => ry ((own_holds q : _ = _).mpr rfl)) (fun q => rn (Classical.byContradiction fun z => Bool.false_ne_true ((own_holds q : _ = _).mp z)))
theorem OGo.lcmpGe (K : OCx p l e R s m args below meth c Z own nm bytes ml rt) {o : Int} {x y : Int64} {pc1 : Nat} (hd0 : decode bytes pc = .ok (.lcmp, 1)) (hp0 : pc + 1 = pc1) (hd : decode bytes pc1 = .ok (.ifCond .ge o, 3)) (hp : pc1 + 3 = pc') (ho : 0 ≤ (pc1 : Int) + o) (hq : ((pc1 : Int) + o).toNat = pcY) (ry : ¬ x < y → OGo p l e R s m args below meth c n0 Q h cells slots pcY Ls st) (rn : x < y → OGo p l e R s m args below meth c n0 Q h cells slots pc' Ls st) : OGo p l e R s m args below meth c n0 Q h cells slots pc Ls (.long y :: .long x :: st) :=
  OGo.lcmp K hd0 hp0 (OGo.ifGe K hd hp ho hq (fun q => ry (fun z => q ((lw_lt x y).mpr z))) (fun q => rn ((lw_lt x y).mp q)))
theorem OGo.icmpGt (K : OCx p l e R s m args below meth c Z own nm bytes ml rt) {o : Int} {x y : Int32} (hd : decode bytes pc = .ok (.if_icmp .gt o, 3)) (hp : pc + 3 = pc') (ho : 0 ≤ (pc : Int) + o) (hq : ((pc : Int) + o).toNat = pcY) (ry : y < x → OGo p l e R s m args below meth c n0 Q h cells slots pcY Ls st) (rn : ¬ y < x → OGo p l e R s m args below meth c n0 Q h cells slots pc' Ls st) : OGo p l e R s m args below meth c n0 Q h cells slots pc Ls (.int y :: .int x :: st) :=
  OGo.icmp K hd hp ho hq (fun q => ry ((own_holds q : _ = _).mpr rfl)) (fun q => rn (fun z => Bool.false_ne_true ((own_holds q : _ = _).mp z)))
theorem OGo.ifGt (K : OCx p l e R s m args below meth c Z own nm bytes ml rt) {o : Int} {x : Int32} (hd : decode bytes pc = .ok (.ifCond .gt o, 3)) (hp : pc + 3 = pc') (ho : 0 ≤ (pc : Int) + o) (hq : ((pc : Int) + o).toNat = pcY) (ry : 0 < x → OGo p l e R s m args below meth c n0 Q h cells slots pcY Ls st) (rn : ¬ 0 < x → OGo p l e R s m args below meth c n0 Q h cells slots pc' Ls st) : OGo p l e R s m args below meth c n0 Q h cells slots pc Ls (.int x :: st) :=
  OGo.ifc K hd hp ho hq (fun q => ry ((own_holds q : _ = _).mpr rfl)) (fun q => rn (fun z => Bool.false_ne_true ((own_holds q : _ = _).mp z)))
theorem OGo.lcmpGt (K : OCx p l e R s m args below meth c Z own nm bytes ml rt) {o : Int} {x y : Int64} {pc1 : Nat} (hd0 : decode bytes pc = .ok (.lcmp, 1)) (hp0 : pc + 1 = pc1) (hd : decode bytes pc1 = .ok (.ifCond .gt o, 3)) (hp : pc1 + 3 = pc') (ho : 0 ≤ (pc1 : Int) + o) (hq : ((pc1 : Int) + o).toNat = pcY) (ry : y < x → OGo p l e R s m args below meth c n0 Q h cells slots pcY Ls st) (rn : ¬ y < x → OGo p l e R s m args below meth c n0 Q h cells slots pc' Ls st) : OGo p l e R s m args below meth c n0 Q h cells slots pc Ls (.long y :: .long x :: st) :=
  OGo.lcmp K hd0 hp0 (OGo.ifGt K hd hp ho hq (fun q => ry ((lw_gt x y).mp q)) (fun q => rn (fun z => q ((lw_gt x y).mpr z))))
theorem OGo.icmpLe (K : OCx p l e R s m args below meth c Z own nm bytes ml rt) {o : Int} {x y : Int32} (hd : decode bytes pc = .ok (.if_icmp .le o, 3)) (hp : pc + 3 = pc') (ho : 0 ≤ (pc : Int) + o) (hq : ((pc : Int) + o).toNat = pcY) (ry : ¬ y < x → OGo p l e R s m args below meth c n0 Q h cells slots pcY Ls st) (rn : y < x → OGo p l e R s m args below meth c n0 Q h cells slots pc' Ls st) : OGo p l e R s m args below meth c n0 Q h cells slots pc Ls (.int y :: .int x :: st) :=
  OGo.icmp K hd hp ho hq (fun q => ry ((own_holds q : _ = _).mpr rfl)) (fun q => rn (Classical.byContradiction fun z => Bool.false_ne_true ((own_holds q : _ = _).mp z)))
theorem OGo.ifLe (K : OCx p l e R s m args below meth c Z own nm bytes ml rt) {o : Int} {x : Int32} (hd : decode bytes pc = .ok (.ifCond .le o, 3)) (hp : pc + 3 = pc') (ho : 0 ≤ (pc : Int) + o) (hq : ((pc : Int) + o).toNat = pcY) (ry : ¬ 0 < x → OGo p l e R s m args below meth c n0 Q h cells slots pcY Ls st) (rn : 0 < x → OGo p l e R s m args below meth c n0 Q h cells slots pc' Ls st) : OGo p l e R s m args below meth c n0 Q h cells slots pc Ls (.int x :: st) :=
  OGo.ifc K hd hp ho hq (fun q => ry ((own_holds q : _ = _).mpr rfl)) (fun q => rn (Classical.byContradiction fun z => Bool.false_ne_true ((own_holds q : _ = _).mp z)))
theorem OGo.lcmpLe (K : OCx p l e R s m args below meth c Z own nm bytes ml rt) {o : Int} {x y : Int64} {pc1 : Nat} (hd0 : decode bytes pc = .ok (.lcmp, 1)) (hp0 : pc + 1 = pc1) (hd : decode bytes pc1 = .ok (.ifCond .le o, 3)) (hp : pc1 + 3 = pc') (ho : 0 ≤ (pc1 : Int) + o) (hq : ((pc1 : Int) + o).toNat = pcY) (ry : ¬ y < x → OGo p l e R s m args below meth c n0 Q h cells slots pcY Ls st) (rn : y < x → OGo p l e R s m args below meth c n0 Q h cells slots pc' Ls st) : OGo p l e R s m args below meth c n0 Q h cells slots pc Ls (.long y :: .long x :: st) :=
  OGo.lcmp K hd0 hp0 (OGo.ifLe K hd hp ho hq (fun q => ry (fun z => q ((lw_gt x y).mpr z))) (fun q => rn ((lw_gt x y).mp q)))
theorem OGo.ifnullY (K : OCx p l e R s m args below meth c Z own nm bytes ml rt) {o : Int} (hd : decode bytes pc = .ok (.ifnull o, 3)) (ho : 0 ≤ (pc : Int) + o) (hq : ((pc : Int) + o).toNat = pc') (r : OGo p l e R s m args below meth c n0 Q h cells slots pc' Ls st) : OGo p l e R s m args below meth c n0 Q h cells slots pc Ls (.null :: st) :=
  OGo.plain (fun T t hA q => XS.ifnullYes hA K.ex rfl rfl (hb K.by hd) rfl ho hq q) r
theorem OGo.ifnullN (K : OCx p l e R s m args below meth c Z own nm bytes ml rt) {b : Addr} {o : Int} (hd : decode bytes pc = .ok (.ifnull o, 3)) (hp : pc + 3 = pc') (r : OGo p l e R s m args below meth c n0 Q h cells slots pc' Ls st) : OGo p l e R s m args below meth c n0 Q h cells slots pc Ls (.ref b :: st) := by
  subst hp
  exact OGo.plain (fun T t hA q => XS.ifnullNo hA K.ex rfl (hb K.by hd) rfl q) r
theorem OGo.ifnonnullY (K : OCx p l e R s m args below meth c Z own nm bytes ml rt) {b : Addr} {o : Int} (hd : decode bytes pc = .ok (.ifnonnull o, 3)) (ho : 0 ≤ (pc : Int) + o) (hq : ((pc : Int) + o).toNat = pc') (r : OGo p l e R s m args below meth c n0 Q h cells slots pc' Ls st) : OGo p l e R s m args below meth c n0 Q h cells slots pc Ls (.ref b :: st) :=
  OGo.plain (fun T t hA q => XS.ifnonnullYes hA K.ex rfl rfl (hb K.by hd) rfl ho hq q) r
theorem OGo.ifnonnullN (K : OCx p l e R s m args below meth c Z own nm bytes ml rt) {o : Int} (hd : decode bytes pc = .ok (.ifnonnull o, 3)) (hp : pc + 3 = pc') (r : OGo p l e R s m args below meth c n0 Q h cells slots pc' Ls st) : OGo p l e R s m args below meth c n0 Q h cells slots pc Ls (.null :: st) := by
  subst hp
  exact OGo.plain (fun T t hA q => XS.ifnonnullNo hA K.ex rfl (hb K.by hd) rfl q) r
theorem OGo.getF (K : OCx p l e R s m args below meth c Z own nm bytes ml rt) {R0 O n d host : String} {index : Nat} {a : Addr} {v : Value} (w : (Jvm.Cond.fieldLink own index R0 n d).before a0 Z = true ∨ (Jvm.Cond.fieldLinkNest own index R0 n d host).before a0 Z = true) (via : Via Z R0 O n d) (F : Fld Z h a O n d v) (hd : decode bytes pc = .ok (.getfield index, 3)) (hp : pc + 3 = pc') (r : OGo p l e R s m args below meth c n0 Q h cells slots pc' Ls (v :: st)) : OGo p l e R s m args below meth c n0 Q h cells slots pc Ls (.ref a :: st) := by
  subst hp
  exact OGo.same (fun T locs k n X e0 => RoadKit.getF X K.ex K.hZ K.hown w via e0 F (g := mkF m pc Ls (.ref a :: st)) rfl rfl (hb K.by hd)) r
theorem OGo.getS (K : OCx p l e R s m args below meth c Z own nm bytes ml rt) {R0 O n d host : String} {index : Nat} {v : Value} (w : (Jvm.Cond.fieldLink own index R0 n d).before a0 Z = true ∨ (Jvm.Cond.fieldLinkNest own index R0 n d host).before a0 Z = true) (via : Via Z R0 O n d) (F : Sta Z h O n d v) (hd : decode bytes pc = .ok (.getstatic index, 3)) (hp : pc + 3 = pc') (r : OGo p l e R s m args below meth c n0 Q h cells slots pc' Ls (v :: st)) : OGo p l e R s m args below meth c n0 Q h cells slots pc Ls st := by
  subst hp
  exact OGo.same (fun T locs k n X e0 => RoadKit.getS2 X K.ex K.hZ K.hown w via e0 F (g := mkF m pc Ls st) rfl (hb K.by hd)) r
theorem OGo.putF (K : OCx p l e R s m args below meth c Z own nm bytes ml rt) {R0 O n d host C : String} {index kk : Nat} {ty : FieldType} {a : Addr} {v old : Value} (w : (Jvm.Cond.fieldLink own index R0 n d).before a0 Z = true ∨ (Jvm.Cond.fieldLinkNest own index R0 n d host).before a0 Z = true) (via : Via Z R0 O n d) (F : Fld Z h a O n d old) (E : Exa Z h a C) (L : (Jvm.Cond.lays C O n d).before a0 Z = true ∨ ((Jvm.Cond.laysFinal C O n d).before a0 Z = true ∧ own = O ∧ nm = "<init>")) (wi : (Jvm.Cond.instantiable C kk).before a0 Z = true) (hty : parseFieldDescriptor d = some ty) (hn : narrow ty v = v) (hf : fits ty v = true) (ga : n0 ≤ a) (hd : decode bytes pc = .ok (.putfield index, 3)) (hp : pc + 3 = pc')
    (r : ∀ h', Wr h h' a (RoadKit.slotOf Z O n d) v → OGo p l e R s m args below meth c n0 Q h' cells slots pc' Ls st) : OGo p l e R s m args below meth c n0 Q h cells slots pc Ls (v :: .ref a :: st) := by
  subst hp
  exact OGo.write ga (fun T locs k n X e0 => RoadKit.putF X K.ex K.hZ K.hown w via e0 F E (L.imp id fun q => ⟨q.1, q.2.1, K.hnm.trans q.2.2⟩) wi hty hn hf (g := mkF m pc Ls (v :: .ref a :: st)) rfl rfl (hb K.by hd)) r
theorem OGo.putFN (K : OCx p l e R s m args below meth c Z own nm bytes ml rt) {R0 O n d C : String} {index kk : Nat} {ty : FieldType} {a : Addr} {v v' old : Value} (w : (Jvm.Cond.fieldLink own index R0 n d).before a0 Z = true) (via : Via Z R0 O n d) (F : Fld Z h a O n d old) (E : Exa Z h a C) (L : (Jvm.Cond.lays C O n d).before a0 Z = true ∨ ((Jvm.Cond.laysFinal C O n d).before a0 Z = true ∧ own = O ∧ nm = "<init>")) (wi : (Jvm.Cond.instantiable C kk).before a0 Z = true) (hty : parseFieldDescriptor d = some ty) (hn : narrow ty v = v') (hf : fits ty v' = true) (ga : n0 ≤ a) (hd : decode bytes pc = .ok (.putfield index, 3)) (hp : pc + 3 = pc')
    (r : ∀ h', Wr h h' a (RoadKit.slotOf Z O n d) v' → OGo p l e R s m args below meth c n0 Q h' cells slots pc' Ls st) : OGo p l e R s m args below meth c n0 Q h cells slots pc Ls (v :: .ref a :: st) := by
  subst hp
  exact OGo.write ga (fun T locs k n X e0 => RoadKit.putFN X K.ex K.hZ K.hown w via e0 F E (L.imp id fun q => ⟨q.1, q.2.1, K.hnm.trans q.2.2⟩) wi hty hn hf (g := mkF m pc Ls (v :: .ref a :: st)) rfl rfl (hb K.by hd)) r
theorem OGo.newO (K : OCx p l e R s m args below meth c Z own nm bytes ml rt) {C : String} {index n cells' slots' : Nat} (w : (Jvm.Cond.classLink own index C).before a0 Z = true) (wi : (Jvm.Cond.instantiable C n).before a0 Z = true) (wz : (Jvm.Cond.initialized C).before a0 Z = true) (hd : decode bytes pc = .ok (.new index, 3)) (hp : pc + 3 = pc') (hc : cells + 1 = cells') (hl : slots + n = slots') (hc' : cells' ≤ R.cells) (hl' : slots' ≤ R.slots)
    (r : ∀ (h' : Heap) (a : Addr), a = h.size → Ext h h' → Exa Z h' a C → (∀ {O nm d : String} {ty : FieldType}, Laid Z a0 C O nm d → parseFieldDescriptor d = some ty → Fld Z h' a O nm d (defaultValue ty)) → OGo p l e R s m args below meth c n0 Q h' cells' slots' pc' Ls (.ref a :: st)) : OGo p l e R s m args below meth c n0 Q h cells slots pc Ls st := by
  subst hp hc hl
  intro T locs k j X e0 N h1 h2
  obtain ⟨T', h', X', e', E, A, D, -, st'⟩ := RoadKit.newO X K.ex K.hZ K.hown w wi wz e0 (g := mkF m pc Ls st) rfl (hb K.by hd) (by omega) (by omega)
  obtain ⟨s₂, v, L, g, r'⟩ := r h' h.size rfl E A D T' locs _ _ X' e' N (by omega) (by omega)
  exact ⟨s₂, v, L, st' _ g, r'⟩
theorem OGo.newP (K : OCx p l e R s m args below meth c Z own nm bytes ml rt) {aty : ArrayType} {z : Int32} {cap cells' slots' : Nat} (w : (Jvm.Cond.arrayClass (newarray.typeOf aty)).before a0 Z = true) (hd : decode bytes pc = .ok (.newarray aty, 2)) (hp : pc + 2 = pc') (hz : ¬ z < 0) (hcap : z.toNatClampNeg ≤ cap) (hb' : cap * 8 ≤ 536870912) (hc : cells + 1 = cells') (hl : slots + cap = slots') (hc' : cells' ≤ R.cells) (hl' : slots' ≤ R.slots)
    (r : ∀ (h' : Heap) (a : Addr) (ca : ClassId), a = h.size → Ext h h' → Arv Z h' a ca (newarray.typeOf aty) z [] (defaultValue (newarray.typeOf aty)) → OGo p l e R s m args below meth c n0 Q h' cells' slots' pc' Ls (.ref a :: st)) : OGo p l e R s m args below meth c n0 Q h cells slots pc Ls (.int z :: st) := by
  subst hp hc hl
  intro T locs k j X e0 N h1 h2
  obtain ⟨T', h', ca, X', e', E, A, st'⟩ := RoadKit.newP X K.ex K.hZ w e0 (g := mkF m pc Ls (.int z :: st)) rfl (hb K.by hd) rfl hz (cap := cap) hcap hb' (by omega) (by omega)
  obtain ⟨s₂, v, L, g, r'⟩ := r h' h.size ca rfl E (Arv.new A hz) T' locs _ _ X' e' N (by omega) (by omega)
  exact ⟨s₂, v, L, st' _ g, r'⟩
theorem OGo.newR (K : OCx p l e R s m args below meth c Z own nm bytes ml rt) {C : String} {index : Nat} {z : Int32} {cap cells' slots' : Nat} (w1 : (Jvm.Cond.classLink own index C).before a0 Z = true) (w2 : (Jvm.Cond.arrayOver (.object C)).before a0 Z = true) (hd : decode bytes pc = .ok (.anewarray index, 3)) (hp : pc + 3 = pc') (hz : ¬ z < 0) (hcap : z.toNatClampNeg ≤ cap) (hb' : cap * 8 ≤ 536870912) (hc : cells + 1 = cells') (hl : slots + cap = slots') (hc' : cells' ≤ R.cells) (hl' : slots' ≤ R.slots)
    (r : ∀ (h' : Heap) (a : Addr) (ca : ClassId), a = h.size → Ext h h' → Arv Z h' a ca (.object C) z [] .null → Ovr Z ca C → OGo p l e R s m args below meth c n0 Q h' cells' slots' pc' Ls (.ref a :: st)) : OGo p l e R s m args below meth c n0 Q h cells slots pc Ls (.int z :: st) := by
  subst hp hc hl
  intro T locs k j X e0 N h1 h2
  obtain ⟨T', h', ca, X', e', E, A, O, st'⟩ := RoadKit.newR X K.ex K.hZ K.hown w1 w2 e0 (g := mkF m pc Ls (.int z :: st)) rfl (hb K.by hd) rfl hz (cap := cap) hcap hb' (by omega) (by omega)
  obtain ⟨s₂, v, L, g, r'⟩ := r h' h.size ca rfl E (Arv.new A hz) O T' locs _ _ X' e' N (by omega) (by omega)
  exact ⟨s₂, v, L, st' _ g, r'⟩
theorem OGo.iaload (K : OCx p l e R s m args below meth c Z own nm bytes ml rt) {a : Addr} {ca : ClassId} {z j : Int32} {vs : List Value} {dv v : Value} (A : Arv Z h a ca .int z vs dv) (hj : ¬ j < 0 ∧ j < z) (hv : vs.getD j.toNatClampNeg dv = v) (hd : decode bytes pc = .ok (.iaload, 1)) (hp : pc + 1 = pc') (r : OGo p l e R s m args below meth c n0 Q h cells slots pc' Ls (v :: st)) : OGo p l e R s m args below meth c n0 Q h cells slots pc Ls (.int j :: .ref a :: st) := by
  subst hp
  obtain ⟨cl, A, -, S, -, H, -⟩ := A
  have hin := inb_of S hj
  exact OGo.same (fun T locs k n X e0 => ⟨T, X, e0, fun t q => X.iaload K.ex (j := j) (by rw [e0]; exact A.1) (State.isArrayOf_alike K.hZ.alike A.2.1) A.2.2 hin (H.at hin hv) (g := mkF m pc Ls (.int j :: .ref a :: st)) rfl rfl (hb K.by hd) t q⟩) r
theorem OGo.laload (K : OCx p l e R s m args below meth c Z own nm bytes ml rt) {a : Addr} {ca : ClassId} {z j : Int32} {vs : List Value} {dv v : Value} (A : Arv Z h a ca .long z vs dv) (hj : ¬ j < 0 ∧ j < z) (hv : vs.getD j.toNatClampNeg dv = v) (hd : decode bytes pc = .ok (.laload, 1)) (hp : pc + 1 = pc') (r : OGo p l e R s m args below meth c n0 Q h cells slots pc' Ls (v :: st)) : OGo p l e R s m args below meth c n0 Q h cells slots pc Ls (.int j :: .ref a :: st) := by
  subst hp
  obtain ⟨cl, A, -, S, -, H, -⟩ := A
  have hin := inb_of S hj
  exact OGo.same (fun T locs k n X e0 => ⟨T, X, e0, fun t q => X.laload K.ex (j := j) (by rw [e0]; exact A.1) (State.isArrayOf_alike K.hZ.alike A.2.1) A.2.2 hin (H.at hin hv) (g := mkF m pc Ls (.int j :: .ref a :: st)) rfl rfl (hb K.by hd) t q⟩) r
theorem OGo.caload (K : OCx p l e R s m args below meth c Z own nm bytes ml rt) {a : Addr} {ca : ClassId} {z j : Int32} {vs : List Value} {dv v : Value} (A : Arv Z h a ca .char z vs dv) (hj : ¬ j < 0 ∧ j < z) (hv : vs.getD j.toNatClampNeg dv = v) (hd : decode bytes pc = .ok (.caload, 1)) (hp : pc + 1 = pc') (r : OGo p l e R s m args below meth c n0 Q h cells slots pc' Ls (v :: st)) : OGo p l e R s m args below meth c n0 Q h cells slots pc Ls (.int j :: .ref a :: st) := by
  subst hp
  obtain ⟨cl, A, -, S, -, H, -⟩ := A
  have hin := inb_of S hj
  exact OGo.same (fun T locs k n X e0 => ⟨T, X, e0, fun t q => X.caload K.ex (j := j) (by rw [e0]; exact A.1) (State.isArrayOf_alike K.hZ.alike A.2.1) A.2.2 hin (H.at hin hv) (g := mkF m pc Ls (.int j :: .ref a :: st)) rfl rfl (hb K.by hd) t q⟩) r
theorem OGo.saload (K : OCx p l e R s m args below meth c Z own nm bytes ml rt) {a : Addr} {ca : ClassId} {z j : Int32} {vs : List Value} {dv v : Value} (A : Arv Z h a ca .short z vs dv) (hj : ¬ j < 0 ∧ j < z) (hv : vs.getD j.toNatClampNeg dv = v) (hd : decode bytes pc = .ok (.saload, 1)) (hp : pc + 1 = pc') (r : OGo p l e R s m args below meth c n0 Q h cells slots pc' Ls (v :: st)) : OGo p l e R s m args below meth c n0 Q h cells slots pc Ls (.int j :: .ref a :: st) := by
  subst hp
  obtain ⟨cl, A, -, S, -, H, -⟩ := A
  have hin := inb_of S hj
  exact OGo.same (fun T locs k n X e0 => ⟨T, X, e0, fun t q => X.saload K.ex (j := j) (by rw [e0]; exact A.1) (State.isArrayOf_alike K.hZ.alike A.2.1) A.2.2 hin (H.at hin hv) (g := mkF m pc Ls (.int j :: .ref a :: st)) rfl rfl (hb K.by hd) t q⟩) r
theorem OGo.baload (K : OCx p l e R s m args below meth c Z own nm bytes ml rt) {a : Addr} {ca : ClassId} {z j : Int32} {vs : List Value} {dv v : Value} (A : Arv Z h a ca .byte z vs dv) (hj : ¬ j < 0 ∧ j < z) (hv : vs.getD j.toNatClampNeg dv = v) (hd : decode bytes pc = .ok (.baload, 1)) (hp : pc + 1 = pc') (r : OGo p l e R s m args below meth c n0 Q h cells slots pc' Ls (v :: st)) : OGo p l e R s m args below meth c n0 Q h cells slots pc Ls (.int j :: .ref a :: st) := by
  subst hp
  obtain ⟨cl, A, -, S, -, H, -⟩ := A
  have hin := inb_of S hj
  exact OGo.same (fun T locs k n X e0 => ⟨T, X, e0, fun t q => X.baloadBytes K.ex (j := j) (by rw [e0]; exact A.1) (State.isArrayOf_alike K.hZ.alike A.2.1) A.2.2 hin (H.at hin hv) (g := mkF m pc Ls (.int j :: .ref a :: st)) rfl rfl (hb K.by hd) t q⟩) r
theorem OGo.zaload (K : OCx p l e R s m args below meth c Z own nm bytes ml rt) {a : Addr} {ca : ClassId} {z j : Int32} {vs : List Value} {dv v : Value} (A : Arv Z h a ca .boolean z vs dv) (hj : ¬ j < 0 ∧ j < z) (hv : vs.getD j.toNatClampNeg dv = v) (hd : decode bytes pc = .ok (.baload, 1)) (hp : pc + 1 = pc') (r : OGo p l e R s m args below meth c n0 Q h cells slots pc' Ls (v :: st)) : OGo p l e R s m args below meth c n0 Q h cells slots pc Ls (.int j :: .ref a :: st) := by
  subst hp
  obtain ⟨cl, A, -, S, -, H, -⟩ := A
  have hin := inb_of S hj
  exact OGo.same (fun T locs k n X e0 => ⟨T, X, e0, fun t q => X.baloadBooleans K.ex (j := j) (by rw [e0]; exact A.1) (State.isArrayOf_alike K.hZ.alike A.2.1) A.2.2 hin (H.at hin hv) (g := mkF m pc Ls (.int j :: .ref a :: st)) rfl rfl (hb K.by hd) t q⟩) r
theorem OGo.aaload (K : OCx p l e R s m args below meth c Z own nm bytes ml rt) {a : Addr} {ca : ClassId} {ty : FieldType} {z j : Int32} {vs : List Value} {dv v : Value} (A : Arv Z h a ca ty z vs dv) (hty : ty.isReference = true) (hj : ¬ j < 0 ∧ j < z) (hv : vs.getD j.toNatClampNeg dv = v) (hd : decode bytes pc = .ok (.aaload, 1)) (hp : pc + 1 = pc') (r : OGo p l e R s m args below meth c n0 Q h cells slots pc' Ls (v :: st)) : OGo p l e R s m args below meth c n0 Q h cells slots pc Ls (.int j :: .ref a :: st) := by
  subst hp
  obtain ⟨cl, A, -, S, -, H, -⟩ := A
  have hin := inb_of S hj
  exact OGo.same (fun T locs k n X e0 => ⟨T, X, e0, fun t q => X.aaload K.ex (j := j) (by rw [e0]; exact A.1) (State.isArrayOf_alike K.hZ.alike A.2.1) hty A.2.2 hin (H.at hin hv) (g := mkF m pc Ls (.int j :: .ref a :: st)) rfl rfl (hb K.by hd) t q⟩) r
theorem OGo.alen (K : OCx p l e R s m args below meth c Z own nm bytes ml rt) {a : Addr} {ca : ClassId} {ty : FieldType} {z : Int32} {vs : List Value} {dv : Value} (A : Arv Z h a ca ty z vs dv) (hd : decode bytes pc = .ok (.arraylength, 1)) (hp : pc + 1 = pc') (r : OGo p l e R s m args below meth c n0 Q h cells slots pc' Ls (.int z :: st)) : OGo p l e R s m args below meth c n0 Q h cells slots pc Ls (.ref a :: st) := by
  subst hp
  obtain ⟨cl, A, -, S, hz, -, -⟩ := A
  exact OGo.same (fun T locs k n X e0 => ⟨T, X, e0, fun t q => X.arraylength K.ex (by rw [e0]; exact A.1) (State.isArrayOf_alike K.hZ.alike A.2.1) (g := mkF m pc Ls (.ref a :: st)) rfl rfl (hb K.by hd) t (by rw [len_of S hz]; exact q)⟩) r
theorem OGo.iastore (K : OCx p l e R s m args below meth c Z own nm bytes ml rt) {a : Addr} {ca : ClassId} {z j : Int32} {vs : List Value} {dv : Value} {x : Int32} (A : Arv Z h a ca .int z vs dv) (hj : ¬ j < 0 ∧ j < z) {i : Nat} (hij : j.toNatClampNeg = i) (hi : i < vs.length) (ga : n0 ≤ a) (hd : decode bytes pc = .ok (.iastore, 1)) (hp : pc + 1 = pc')
    (r : ∀ h', Wr h h' a j.toNatClampNeg (.int x) → Arv Z h' a ca .int z (vs.set i (.int x)) dv → OGo p l e R s m args below meth c n0 Q h' cells slots pc' Ls st) : OGo p l e R s m args below meth c n0 Q h cells slots pc Ls (.int x :: .int j :: .ref a :: st) := by
  subst hp
  obtain ⟨cl, A, q1, S, hz, H, G⟩ := A
  have hin := inb_of S hj
  exact OGo.write ga (fun T locs k n X e0 => RoadKit.stI X K.ex K.hZ e0 A (j := j) hin (g := mkF m pc Ls (.int x :: .int j :: .ref a :: st)) rfl rfl (hb K.by hd)) (fun h' W => r h' W (Arv.set A q1 S hz H G rfl W _ hij hi))
theorem OGo.lastore (K : OCx p l e R s m args below meth c Z own nm bytes ml rt) {a : Addr} {ca : ClassId} {z j : Int32} {vs : List Value} {dv : Value} {x : Int64} (A : Arv Z h a ca .long z vs dv) (hj : ¬ j < 0 ∧ j < z) {i : Nat} (hij : j.toNatClampNeg = i) (hi : i < vs.length) (ga : n0 ≤ a) (hd : decode bytes pc = .ok (.lastore, 1)) (hp : pc + 1 = pc')
    (r : ∀ h', Wr h h' a j.toNatClampNeg (.long x) → Arv Z h' a ca .long z (vs.set i (.long x)) dv → OGo p l e R s m args below meth c n0 Q h' cells slots pc' Ls st) : OGo p l e R s m args below meth c n0 Q h cells slots pc Ls (.long x :: .int j :: .ref a :: st) := by
  subst hp
  obtain ⟨cl, A, q1, S, hz, H, G⟩ := A
  have hin := inb_of S hj
  exact OGo.write ga (fun T locs k n X e0 => RoadKit.stJ X K.ex K.hZ e0 A (j := j) hin (g := mkF m pc Ls (.long x :: .int j :: .ref a :: st)) rfl rfl (hb K.by hd)) (fun h' W => r h' W (Arv.set A q1 S hz H G rfl W _ hij hi))
theorem OGo.castore (K : OCx p l e R s m args below meth c Z own nm bytes ml rt) {a : Addr} {ca : ClassId} {z j : Int32} {vs : List Value} {dv : Value} {x : Int32} (A : Arv Z h a ca .char z vs dv) (hj : ¬ j < 0 ∧ j < z) {i : Nat} (hij : j.toNatClampNeg = i) (hi : i < vs.length) (ga : n0 ≤ a) (hd : decode bytes pc = .ok (.castore, 1)) (hp : pc + 1 = pc')
    (r : ∀ h', Wr h h' a j.toNatClampNeg (.int (nar .char x)) → Arv Z h' a ca .char z (vs.set i (.int (nar .char x))) dv → OGo p l e R s m args below meth c n0 Q h' cells slots pc' Ls st) : OGo p l e R s m args below meth c n0 Q h cells slots pc Ls (.int x :: .int j :: .ref a :: st) := by
  subst hp
  obtain ⟨cl, A, q1, S, hz, H, G⟩ := A
  have hin := inb_of S hj
  exact OGo.write ga (fun T locs k n X e0 => RoadKit.stC X K.ex K.hZ e0 A (j := j) hin (g := mkF m pc Ls (.int x :: .int j :: .ref a :: st)) rfl rfl (hb K.by hd)) (fun h' W => r h' W (Arv.set A q1 S hz H G (fits_nar_char x) W _ hij hi))
theorem OGo.sastore (K : OCx p l e R s m args below meth c Z own nm bytes ml rt) {a : Addr} {ca : ClassId} {z j : Int32} {vs : List Value} {dv : Value} {x : Int32} (A : Arv Z h a ca .short z vs dv) (hj : ¬ j < 0 ∧ j < z) {i : Nat} (hij : j.toNatClampNeg = i) (hi : i < vs.length) (ga : n0 ≤ a) (hd : decode bytes pc = .ok (.sastore, 1)) (hp : pc + 1 = pc')
    (r : ∀ h', Wr h h' a j.toNatClampNeg (.int (nar .short x)) → Arv Z h' a ca .short z (vs.set i (.int (nar .short x))) dv → OGo p l e R s m args below meth c n0 Q h' cells slots pc' Ls st) : OGo p l e R s m args below meth c n0 Q h cells slots pc Ls (.int x :: .int j :: .ref a :: st) := by
  subst hp
  obtain ⟨cl, A, q1, S, hz, H, G⟩ := A
  have hin := inb_of S hj
  exact OGo.write ga (fun T locs k n X e0 => RoadKit.stS X K.ex K.hZ e0 A (j := j) hin (g := mkF m pc Ls (.int x :: .int j :: .ref a :: st)) rfl rfl (hb K.by hd)) (fun h' W => r h' W (Arv.set A q1 S hz H G (fits_nar_short x) W _ hij hi))
theorem OGo.bastore (K : OCx p l e R s m args below meth c Z own nm bytes ml rt) {a : Addr} {ca : ClassId} {z j : Int32} {vs : List Value} {dv : Value} {x : Int32} (A : Arv Z h a ca .byte z vs dv) (hj : ¬ j < 0 ∧ j < z) {i : Nat} (hij : j.toNatClampNeg = i) (hi : i < vs.length) (ga : n0 ≤ a) (hd : decode bytes pc = .ok (.bastore, 1)) (hp : pc + 1 = pc')
    (r : ∀ h', Wr h h' a j.toNatClampNeg (.int (nar .byte x)) → Arv Z h' a ca .byte z (vs.set i (.int (nar .byte x))) dv → OGo p l e R s m args below meth c n0 Q h' cells slots pc' Ls st) : OGo p l e R s m args below meth c n0 Q h cells slots pc Ls (.int x :: .int j :: .ref a :: st) := by
  subst hp
  obtain ⟨cl, A, q1, S, hz, H, G⟩ := A
  have hin := inb_of S hj
  exact OGo.write ga (fun T locs k n X e0 => RoadKit.stB X K.ex K.hZ e0 A (j := j) hin (g := mkF m pc Ls (.int x :: .int j :: .ref a :: st)) rfl rfl (hb K.by hd)) (fun h' W => r h' W (Arv.set A q1 S hz H G (fits_nar_byte x) W _ hij hi))
theorem OGo.zastore (K : OCx p l e R s m args below meth c Z own nm bytes ml rt) {a : Addr} {ca : ClassId} {z j : Int32} {vs : List Value} {dv : Value} {x : Int32} (A : Arv Z h a ca .boolean z vs dv) (hj : ¬ j < 0 ∧ j < z) {i : Nat} (hij : j.toNatClampNeg = i) (hi : i < vs.length) (ga : n0 ≤ a) (hd : decode bytes pc = .ok (.bastore, 1)) (hp : pc + 1 = pc')
    (r : ∀ h', Wr h h' a j.toNatClampNeg (.int (nar .boolean x)) → Arv Z h' a ca .boolean z (vs.set i (.int (nar .boolean x))) dv → OGo p l e R s m args below meth c n0 Q h' cells slots pc' Ls st) : OGo p l e R s m args below meth c n0 Q h cells slots pc Ls (.int x :: .int j :: .ref a :: st) := by
  subst hp
  obtain ⟨cl, A, q1, S, hz, H, G⟩ := A
  have hin := inb_of S hj
  exact OGo.write ga (fun T locs k n X e0 => RoadKit.stZ X K.ex K.hZ e0 A (j := j) hin (g := mkF m pc Ls (.int x :: .int j :: .ref a :: st)) rfl rfl (hb K.by hd)) (fun h' W => r h' W (Arv.set A q1 S hz H G (fits_nar_bool x) W _ hij hi))
theorem OGo.aastore (K : OCx p l e R s m args below meth c Z own nm bytes ml rt) {a : Addr} {ca : ClassId} {ty : FieldType} {z j : Int32} {vs : List Value} {dv v : Value} (A : Arv Z h a ca ty z vs dv) (hty : ty.isReference = true) (hv : v.isRef = true) (F : Sto Z h a v) (hj : ¬ j < 0 ∧ j < z) {i : Nat} (hij : j.toNatClampNeg = i) (hi : i < vs.length) (ga : n0 ≤ a) (hd : decode bytes pc = .ok (.aastore, 1)) (hp : pc + 1 = pc')
    (r : ∀ h', Wr h h' a j.toNatClampNeg v → Arv Z h' a ca ty z (vs.set i v) dv → OGo p l e R s m args below meth c n0 Q h' cells slots pc' Ls st) : OGo p l e R s m args below meth c n0 Q h cells slots pc Ls (v :: .int j :: .ref a :: st) := by
  subst hp
  obtain ⟨cl, A, q1, S, hz, H, G⟩ := A
  have hin := inb_of S hj
  exact OGo.write ga (fun T locs k n X e0 => RoadKit.stR X K.ex K.hZ e0 A (j := j) hin hty F (g := mkF m pc Ls (v :: .int j :: .ref a :: st)) rfl rfl (hb K.by hd)) (fun h' W => r h' W (Arv.set A q1 S hz H G (by cases ty <;> first | (cases hty; done) | (cases v <;> first | (cases hv; done) | rfl)) W _ hij hi))
theorem OGo.initO (K : OCx p l e R s m args below meth c Z own nm bytes ml rt) {idx W : Nat} {a : Addr} (w1 : (Jvm.Cond.methodLink own idx Lib.objectInit).before a0 Z = true) (w2 : (Jvm.Cond.instanceMethod Lib.objectInit).before a0 Z = true) (w3 : (Jvm.Cond.code Lib.objectInit ⟨#[0xb1]⟩ 1 none).before a0 Z = true) (hd : decode bytes pc = .ok (.invokespecial idx, 3)) (hp : pc + 3 = pc') (hsz : Ls.size = ml) (hW : 2 * 0 + (st.map fun v => v.category).sum ≤ W) (hf : 1 ≤ R.frames) (hl : W + 12 ≤ R.locals) (r : OGo p l e R s m args below meth c n0 Q h cells slots pc' Ls st) : OGo p l e R s m args below meth c n0 Q h cells slots pc Ls (.ref a :: st) := by
  subst hp
  exact OGo.same (fun T locs k n X e0 => RoadKit.initO X K.ex K.hZ K.hown w1 w2 w3 e0 (g := mkF m pc Ls (.ref a :: st)) rfl (hsz.trans K.hml.symm) rfl (hb K.by hd) hf hW hl) r
theorem own_private {T : State} {locs : List Loc} {cells slots : Nat} (X : Stand p l e R s m args below meth c T locs cells slots) (hexec : p.tables.exec = Jvm.exec) {own : String} {index ni : Nat} {y : MethodName} {bytes : ByteArray} {maxL : Nat} {ret : Option FieldType}
    (hown : s.vm.findClass own = some m.cls) (hlink : (Jvm.Cond.methodLink own index y).before args s = true) (hinst : (Jvm.Cond.instanceMethod y).before args s = true) (hi : (Jvm.Cond.instantiable y.cls ni).before args s = true) (hpriv : s.PrivateAt y) (hcode : (Jvm.Cond.code y bytes maxL ret).before args s = true) (hy : y.cls ≠ "java/lang/invoke/MethodHandle" ∧ y.cls ≠ "java/lang/invoke/VarHandle")
    {W : Nat} {Pre : Pt → Array Value → Prop} {Post : Pt → Array Value → Option Value → Pt → Prop} (hK : Back l R p e below s args y 3 W Pre Post) {g : JFrame} (hg : g.method = m) (hsize : g.locals.size = c.maxLocals) {a : Addr} {cell : Cell} (hcell : T.heap[a]? = some cell) (hobj : ∀ q, cell.vm ≠ .statics q)
    {argsL rest : List Value} (hlen : ∀ sig, parseMethodDescriptor y.desc = some sig → argsL.length = sig.parameters.length) (hstack : g.stack = argsL.reverse ++ .ref a :: rest) (hW : 2 * g.monitorRoom + (rest.map fun v => v.category).sum ≤ W) (hdg : decode c.code g.pc = .ok (.invokevirtual index, 3))
    (hpre : ∀ vm₁, s.WarmedH vm₁ → Pre ⟨T.setVm vm₁, locs, cells, slots⟩ (.ref a :: argsL).toArray) :
    ∃ (v : Option Value) (vm₁ : Vm) (B : Pt), s.WarmedH vm₁ ∧ Stand p l e R s m args below meth c B.U B.locs B.cells B.slots ∧ Post ⟨T.setVm vm₁, locs, cells, slots⟩ (.ref a :: argsL).toArray v B ∧ Steps p.tables e below (T.setTop g) (B.U.setTop { g with pc := g.pc + 3, stack := v.toList ++ rest }) := by
  obtain ⟨mk, mt, n1, n2, n3, n4⟩ := Cond.instanceMethod_spec hinst
  obtain ⟨mt', ct, c1, -, -, -, -, -, -, c2⟩ := Cond.code_spec n1 hcode
  obtain rfl : mt' = mt := Option.some.inj (c1.symm.trans n2)
  obtain ⟨ci, ki, i1, i2, -, i3, -⟩ := Cond.instantiable_spec hi
  have i4 : s.vm.classes[mk.cls]? = some ki := by rw [Option.some.inj ((findClass_of_methodNamed n1).symm.trans i1)]; exact i2
  have i5 : ki.isInterface = false := (Bool.or_eq_false_iff.mp i3).1
  obtain ⟨vm₁, Y, sp⟩ := X.invokevirtual hexec hown hlink n1 n2 n3 i4 i5 hy hcell hobj (selectMethod_private n2 (hpriv mk mt' n1 n2)) n2 n4 i4 i5 hg (hlen _ c2) hstack hdg
  obtain ⟨v, B, Y', P', go⟩ := hK m meth c ⟨T.setVm vm₁, locs, cells, slots⟩ { g with stack := rest } (.invokevirtual index) mk (.ref a :: argsL).toArray Y hg hsize hdg hW (Y.named n1) (hpre vm₁ Y.warmed)
  exact ⟨v, vm₁, B, Y.warmed, Y', P', (sp _ fun acts => by rw [doInvoke_state]; exact Steps.refl _).trans go⟩
theorem OGo.callSV (K : OCx p l e R s m args below meth c Z own nm bytes ml rt) {y : MethodName} {index : Nat} {bytes' : ByteArray} {maxL : Nat} {ret : Option FieldType} {rm : Room} {W cells' slots' : Nat} {argsL : List Value} {P : Value → Heap → Prop} (w1 : (Jvm.Cond.methodLink own index y).before a0 Z = true) (w2 : (Jvm.Cond.static y).before a0 Z = true) (w3 : (Jvm.Cond.initialized y.cls).before a0 Z = true) (w4 : (Jvm.Cond.code y bytes' maxL ret).before a0 Z = true) (hy : y.cls ≠ "java/lang/invoke/MethodHandle" ∧ y.cls ≠ "java/lang/invoke/VarHandle") (C : OCon l Z n0 y bytes' maxL ret [] rm (argsL.toArray) h (OV P)) (hd : decode bytes pc = .ok (.invokestatic index, 3)) (hp : pc + 3 = pc') (hsz : Ls.size = ml) (hlen : ∀ sig, parseMethodDescriptor y.desc = some sig → argsL.length = sig.parameters.length) (hW : 2 * 0 + (st.map fun v => v.category).sum ≤ W) (hf : rm.frames + 1 ≤ R.frames) (hlo : W + (maxL + 11) + rm.locals ≤ R.locals) (hc : cells + rm.cells = cells') (hl : slots + rm.slots = slots') (hc' : cells' ≤ R.cells) (hl' : slots' ≤ R.slots) (r : ∀ (w : Value) (h' : Heap), P w h' → OGo p l e R s m args below meth c n0 Q h' cells' slots' pc' Ls (w :: st))
    : OGo p l e R s m args below meth c n0 Q h cells slots pc Ls (argsL.reverse ++ st) := by
  subst hp hc hl
  intro T locs k n X e0 N h1 h2
  obtain ⟨_, _, ⟨T', L', k', n'⟩, -, X', ⟨Lc, ⟨hQ, hN⟩, l', y', z'⟩, stp⟩ := Jvm.LawKit.callS X K.ex (y := y) K.hown (mvT K.hZ w1) (mvT K.hZ w2) (mvT K.hZ w3) (mvT K.hZ w4) hy (backOf (W := W) (Q := fun v h L => (OV P) v h ∧ Fr n0 L) C K.hZ w4 w3 hf hlo) (g := mkF m pc Ls (argsL.reverse ++ st)) rfl (hsz.trans K.hml.symm) (argsL := argsL) (rest := st) hlen rfl hW (hb K.by hd) (fun _ _ => ⟨rfl, e0, (by show k + rm.cells ≤ R.cells; omega), (by show n + rm.slots ≤ R.slots; omega)⟩)
  dsimp only [Pt.U, Pt.locs, Pt.cells, Pt.slots] at X' l' y' z' stp hQ
  subst l' y' z'
  obtain ⟨w, rfl, hQ⟩ := hQ
  obtain ⟨s₂, v, L, g, r'⟩ := r w _ hQ T' _ _ _ X' rfl (Fr.app N hN) (by omega) (by omega)
  exact ⟨s₂, v, L, stp _ g, r'⟩
theorem OGo.callSN (K : OCx p l e R s m args below meth c Z own nm bytes ml rt) {y : MethodName} {index : Nat} {bytes' : ByteArray} {maxL : Nat} {ret : Option FieldType} {rm : Room} {W cells' slots' : Nat} {argsL : List Value} {P : Heap → Prop} (w1 : (Jvm.Cond.methodLink own index y).before a0 Z = true) (w2 : (Jvm.Cond.static y).before a0 Z = true) (w3 : (Jvm.Cond.initialized y.cls).before a0 Z = true) (w4 : (Jvm.Cond.code y bytes' maxL ret).before a0 Z = true) (hy : y.cls ≠ "java/lang/invoke/MethodHandle" ∧ y.cls ≠ "java/lang/invoke/VarHandle") (C : OCon l Z n0 y bytes' maxL ret [] rm (argsL.toArray) h (ON P)) (hd : decode bytes pc = .ok (.invokestatic index, 3)) (hp : pc + 3 = pc') (hsz : Ls.size = ml) (hlen : ∀ sig, parseMethodDescriptor y.desc = some sig → argsL.length = sig.parameters.length) (hW : 2 * 0 + (st.map fun v => v.category).sum ≤ W) (hf : rm.frames + 1 ≤ R.frames) (hlo : W + (maxL + 11) + rm.locals ≤ R.locals) (hc : cells + rm.cells = cells') (hl : slots + rm.slots = slots') (hc' : cells' ≤ R.cells) (hl' : slots' ≤ R.slots) (r : ∀ (h' : Heap), P h' → OGo p l e R s m args below meth c n0 Q h' cells' slots' pc' Ls st)
    : OGo p l e R s m args below meth c n0 Q h cells slots pc Ls (argsL.reverse ++ st) := by
  subst hp hc hl
  intro T locs k n X e0 N h1 h2
  obtain ⟨_, _, ⟨T', L', k', n'⟩, -, X', ⟨Lc, ⟨hQ, hN⟩, l', y', z'⟩, stp⟩ := Jvm.LawKit.callS X K.ex (y := y) K.hown (mvT K.hZ w1) (mvT K.hZ w2) (mvT K.hZ w3) (mvT K.hZ w4) hy (backOf (W := W) (Q := fun v h L => (ON P) v h ∧ Fr n0 L) C K.hZ w4 w3 hf hlo) (g := mkF m pc Ls (argsL.reverse ++ st)) rfl (hsz.trans K.hml.symm) (argsL := argsL) (rest := st) hlen rfl hW (hb K.by hd) (fun _ _ => ⟨rfl, e0, (by show k + rm.cells ≤ R.cells; omega), (by show n + rm.slots ≤ R.slots; omega)⟩)
  dsimp only [Pt.U, Pt.locs, Pt.cells, Pt.slots] at X' l' y' z' stp hQ
  subst l' y' z'
  obtain ⟨rfl, hQ⟩ := hQ
  obtain ⟨s₂, v, L, g, r'⟩ := r  _ hQ T' _ _ _ X' rfl (Fr.app N hN) (by omega) (by omega)
  exact ⟨s₂, v, L, stp _ g, r'⟩
theorem OGo.callIV (K : OCx p l e R s m args below meth c Z own nm bytes ml rt) {y : MethodName} {a : Addr} {index : Nat} {bytes' : ByteArray} {maxL : Nat} {rm : Room} {W cells' slots' : Nat} {argsL : List Value} {P : Value → Heap → Prop} (hy1 : y.name = "<init>") (w1 : (Jvm.Cond.methodLink own index y).before a0 Z = true) (w2 : (Jvm.Cond.instanceMethod y).before a0 Z = true) (w3 : (Jvm.Cond.initialized y.cls).before a0 Z = true) (w4 : (Jvm.Cond.code y bytes' maxL none).before a0 Z = true) (hy : y.cls ≠ "java/lang/invoke/MethodHandle" ∧ y.cls ≠ "java/lang/invoke/VarHandle") (C : OCon l Z n0 y bytes' maxL none [] rm ((.ref a :: argsL).toArray) h (OV P)) (hd : decode bytes pc = .ok (.invokespecial index, 3)) (hp : pc + 3 = pc') (hsz : Ls.size = ml) (hlen : ∀ sig, parseMethodDescriptor y.desc = some sig → argsL.length = sig.parameters.length) (hW : 2 * 0 + (st.map fun v => v.category).sum ≤ W) (hf : rm.frames + 1 ≤ R.frames) (hlo : W + (maxL + 11) + rm.locals ≤ R.locals) (hc : cells + rm.cells = cells') (hl : slots + rm.slots = slots') (hc' : cells' ≤ R.cells) (hl' : slots' ≤ R.slots) (r : ∀ (w : Value) (h' : Heap), P w h' → OGo p l e R s m args below meth c n0 Q h' cells' slots' pc' Ls (w :: st))
    : OGo p l e R s m args below meth c n0 Q h cells slots pc Ls (argsL.reverse ++ .ref a :: st) := by
  subst hp hc hl
  intro T locs k n X e0 N h1 h2
  obtain ⟨_, _, ⟨T', L', k', n'⟩, -, X', ⟨Lc, ⟨hQ, hN⟩, l', y', z'⟩, stp⟩ := X.specialBack K.ex (y := y) hy1 K.hown (mvT K.hZ w1) (mvT K.hZ w2) (mvT K.hZ w4) hy (backOf (W := W) (Q := fun v h L => (OV P) v h ∧ Fr n0 L) C K.hZ w4 w3 hf hlo) (g := mkF m pc Ls (argsL.reverse ++ .ref a :: st)) rfl (hsz.trans K.hml.symm) (Steps.refl _) (a := a) (argsL := argsL) (rest := st) hlen rfl hW (hb K.by hd) (fun _ _ => ⟨rfl, e0, (by show k + rm.cells ≤ R.cells; omega), (by show n + rm.slots ≤ R.slots; omega)⟩)
  dsimp only [Pt.U, Pt.locs, Pt.cells, Pt.slots] at X' l' y' z' stp hQ
  subst l' y' z'
  obtain ⟨w, rfl, hQ⟩ := hQ
  obtain ⟨s₂, v, L, g, r'⟩ := r w _ hQ T' _ _ _ X' rfl (Fr.app N hN) (by omega) (by omega)
  exact ⟨s₂, v, L, stp.trans g, r'⟩
theorem OGo.callIN (K : OCx p l e R s m args below meth c Z own nm bytes ml rt) {y : MethodName} {a : Addr} {index : Nat} {bytes' : ByteArray} {maxL : Nat} {rm : Room} {W cells' slots' : Nat} {argsL : List Value} {P : Heap → Prop} (hy1 : y.name = "<init>") (w1 : (Jvm.Cond.methodLink own index y).before a0 Z = true) (w2 : (Jvm.Cond.instanceMethod y).before a0 Z = true) (w3 : (Jvm.Cond.initialized y.cls).before a0 Z = true) (w4 : (Jvm.Cond.code y bytes' maxL none).before a0 Z = true) (hy : y.cls ≠ "java/lang/invoke/MethodHandle" ∧ y.cls ≠ "java/lang/invoke/VarHandle") (C : OCon l Z n0 y bytes' maxL none [] rm ((.ref a :: argsL).toArray) h (ON P)) (hd : decode bytes pc = .ok (.invokespecial index, 3)) (hp : pc + 3 = pc') (hsz : Ls.size = ml) (hlen : ∀ sig, parseMethodDescriptor y.desc = some sig → argsL.length = sig.parameters.length) (hW : 2 * 0 + (st.map fun v => v.category).sum ≤ W) (hf : rm.frames + 1 ≤ R.frames) (hlo : W + (maxL + 11) + rm.locals ≤ R.locals) (hc : cells + rm.cells = cells') (hl : slots + rm.slots = slots') (hc' : cells' ≤ R.cells) (hl' : slots' ≤ R.slots) (r : ∀ (h' : Heap), P h' → OGo p l e R s m args below meth c n0 Q h' cells' slots' pc' Ls st)
    : OGo p l e R s m args below meth c n0 Q h cells slots pc Ls (argsL.reverse ++ .ref a :: st) := by
  subst hp hc hl
  intro T locs k n X e0 N h1 h2
  obtain ⟨_, _, ⟨T', L', k', n'⟩, -, X', ⟨Lc, ⟨hQ, hN⟩, l', y', z'⟩, stp⟩ := X.specialBack K.ex (y := y) hy1 K.hown (mvT K.hZ w1) (mvT K.hZ w2) (mvT K.hZ w4) hy (backOf (W := W) (Q := fun v h L => (ON P) v h ∧ Fr n0 L) C K.hZ w4 w3 hf hlo) (g := mkF m pc Ls (argsL.reverse ++ .ref a :: st)) rfl (hsz.trans K.hml.symm) (Steps.refl _) (a := a) (argsL := argsL) (rest := st) hlen rfl hW (hb K.by hd) (fun _ _ => ⟨rfl, e0, (by show k + rm.cells ≤ R.cells; omega), (by show n + rm.slots ≤ R.slots; omega)⟩)
  dsimp only [Pt.U, Pt.locs, Pt.cells, Pt.slots] at X' l' y' z' stp hQ
  subst l' y' z'
  obtain ⟨rfl, hQ⟩ := hQ
  obtain ⟨s₂, v, L, g, r'⟩ := r  _ hQ T' _ _ _ X' rfl (Fr.app N hN) (by omega) (by omega)
  exact ⟨s₂, v, L, stp.trans g, r'⟩
theorem OGo.callPV (K : OCx p l e R s m args below meth c Z own nm bytes ml rt) {y : MethodName} {a : Addr} {C0 : String} {index : Nat} {bytes' : ByteArray} {maxL : Nat} {ret : Option FieldType} {rm : Room} {W cells' slots' : Nat} {argsL : List Value} {P : Value → Heap → Prop} (E : Exa Z h a C0) (w1 : (Jvm.Cond.methodLink own index y).before a0 Z = true) (w2 : (Jvm.Cond.instanceMethod y).before a0 Z = true) (w5 : (Jvm.Cond.selects y.cls y y).before a0 Z = true) (w6 : (Jvm.Cond.privateMethod y).before a0 Z = true) (w3 : (Jvm.Cond.initialized y.cls).before a0 Z = true) (w4 : (Jvm.Cond.code y bytes' maxL ret).before a0 Z = true) (hy : y.cls ≠ "java/lang/invoke/MethodHandle" ∧ y.cls ≠ "java/lang/invoke/VarHandle") (C : OCon l Z n0 y bytes' maxL ret [] rm ((.ref a :: argsL).toArray) h (OV P)) (hd : decode bytes pc = .ok (.invokevirtual index, 3)) (hp : pc + 3 = pc') (hsz : Ls.size = ml) (hlen : ∀ sig, parseMethodDescriptor y.desc = some sig → argsL.length = sig.parameters.length) (hW : 2 * 0 + (st.map fun v => v.category).sum ≤ W) (hf : rm.frames + 1 ≤ R.frames) (hlo : W + (maxL + 11) + rm.locals ≤ R.locals) (hc : cells + rm.cells = cells') (hl : slots + rm.slots = slots') (hc' : cells' ≤ R.cells) (hl' : slots' ≤ R.slots) (r : ∀ (w : Value) (h' : Heap), P w h' → OGo p l e R s m args below meth c n0 Q h' cells' slots' pc' Ls (w :: st))
    : OGo p l e R s m args below meth c n0 Q h cells slots pc Ls (argsL.reverse ++ .ref a :: st) := by
  subst hp hc hl
  intro T locs k n X e0 N h1 h2
  obtain ⟨cq, q, q'⟩ := E.cell
  obtain ⟨_, _, ⟨T', L', k', n'⟩, -, X', ⟨Lc, ⟨hQ, hN⟩, l', y', z'⟩, stp⟩ := X.privateBack K.ex (y := y) K.hown (mvT K.hZ w1) (mvT K.hZ w2) (mvT K.hZ w5) (Cond.privateMethod_at (mvP K.hZ w6 (args := #[]))) (mvT K.hZ w4) hy (backOf (W := W) (Q := fun v h L => (OV P) v h ∧ Fr n0 L) C K.hZ w4 w3 hf hlo) (g := mkF m pc Ls (argsL.reverse ++ .ref a :: st)) rfl (hsz.trans K.hml.symm) (Steps.refl _) (a := a) (by rw [e0]; exact q) q' (argsL := argsL) (rest := st) hlen rfl hW (hb K.by hd) (fun _ _ => ⟨rfl, e0, (by show k + rm.cells ≤ R.cells; omega), (by show n + rm.slots ≤ R.slots; omega)⟩)
  dsimp only [Pt.U, Pt.locs, Pt.cells, Pt.slots] at X' l' y' z' stp hQ
  subst l' y' z'
  obtain ⟨w, rfl, hQ⟩ := hQ
  obtain ⟨s₂, v, L, g, r'⟩ := r w _ hQ T' _ _ _ X' rfl (Fr.app N hN) (by omega) (by omega)
  exact ⟨s₂, v, L, stp.trans g, r'⟩
theorem OGo.callPN (K : OCx p l e R s m args below meth c Z own nm bytes ml rt) {y : MethodName} {a : Addr} {C0 : String} {index : Nat} {bytes' : ByteArray} {maxL : Nat} {ret : Option FieldType} {rm : Room} {W cells' slots' : Nat} {argsL : List Value} {P : Heap → Prop} (E : Exa Z h a C0) (w1 : (Jvm.Cond.methodLink own index y).before a0 Z = true) (w2 : (Jvm.Cond.instanceMethod y).before a0 Z = true) (w5 : (Jvm.Cond.selects y.cls y y).before a0 Z = true) (w6 : (Jvm.Cond.privateMethod y).before a0 Z = true) (w3 : (Jvm.Cond.initialized y.cls).before a0 Z = true) (w4 : (Jvm.Cond.code y bytes' maxL ret).before a0 Z = true) (hy : y.cls ≠ "java/lang/invoke/MethodHandle" ∧ y.cls ≠ "java/lang/invoke/VarHandle") (C : OCon l Z n0 y bytes' maxL ret [] rm ((.ref a :: argsL).toArray) h (ON P)) (hd : decode bytes pc = .ok (.invokevirtual index, 3)) (hp : pc + 3 = pc') (hsz : Ls.size = ml) (hlen : ∀ sig, parseMethodDescriptor y.desc = some sig → argsL.length = sig.parameters.length) (hW : 2 * 0 + (st.map fun v => v.category).sum ≤ W) (hf : rm.frames + 1 ≤ R.frames) (hlo : W + (maxL + 11) + rm.locals ≤ R.locals) (hc : cells + rm.cells = cells') (hl : slots + rm.slots = slots') (hc' : cells' ≤ R.cells) (hl' : slots' ≤ R.slots) (r : ∀ (h' : Heap), P h' → OGo p l e R s m args below meth c n0 Q h' cells' slots' pc' Ls st)
    : OGo p l e R s m args below meth c n0 Q h cells slots pc Ls (argsL.reverse ++ .ref a :: st) := by
  subst hp hc hl
  intro T locs k n X e0 N h1 h2
  obtain ⟨cq, q, q'⟩ := E.cell
  obtain ⟨_, _, ⟨T', L', k', n'⟩, -, X', ⟨Lc, ⟨hQ, hN⟩, l', y', z'⟩, stp⟩ := X.privateBack K.ex (y := y) K.hown (mvT K.hZ w1) (mvT K.hZ w2) (mvT K.hZ w5) (Cond.privateMethod_at (mvP K.hZ w6 (args := #[]))) (mvT K.hZ w4) hy (backOf (W := W) (Q := fun v h L => (ON P) v h ∧ Fr n0 L) C K.hZ w4 w3 hf hlo) (g := mkF m pc Ls (argsL.reverse ++ .ref a :: st)) rfl (hsz.trans K.hml.symm) (Steps.refl _) (a := a) (by rw [e0]; exact q) q' (argsL := argsL) (rest := st) hlen rfl hW (hb K.by hd) (fun _ _ => ⟨rfl, e0, (by show k + rm.cells ≤ R.cells; omega), (by show n + rm.slots ≤ R.slots; omega)⟩)
  dsimp only [Pt.U, Pt.locs, Pt.cells, Pt.slots] at X' l' y' z' stp hQ
  subst l' y' z'
  obtain ⟨rfl, hQ⟩ := hQ
  obtain ⟨s₂, v, L, g, r'⟩ := r  _ hQ T' _ _ _ X' rfl (Fr.app N hN) (by omega) (by omega)
  exact ⟨s₂, v, L, stp.trans g, r'⟩
theorem OGo.callVV (K : OCx p l e R s m args below meth c Z own nm bytes ml rt) {y z : MethodName} {a : Addr} {C0 : String} {index : Nat} {bytes' : ByteArray} {maxL : Nat} {ret : Option FieldType} {rm : Room} {W cells' slots' : Nat} {argsL : List Value} {P : Value → Heap → Prop} (E : Exa Z h a C0) (w1 : (Jvm.Cond.methodLink own index y).before a0 Z = true) (w2 : (Jvm.Cond.declares y).before a0 Z = true) (hnf : NotFace s y) (w5 : (Jvm.Cond.selects C0 y z).before a0 Z = true) (w6 : (Jvm.Cond.instanceMethod z).before a0 Z = true) (w3 : (Jvm.Cond.initialized z.cls).before a0 Z = true) (w4 : (Jvm.Cond.code z bytes' maxL ret).before a0 Z = true) (hy : y.cls ≠ "java/lang/invoke/MethodHandle" ∧ y.cls ≠ "java/lang/invoke/VarHandle") (C : OCon l Z n0 z bytes' maxL ret [] rm ((.ref a :: argsL).toArray) h (OV P)) (hd : decode bytes pc = .ok (.invokevirtual index, 3)) (hp : pc + 3 = pc') (hsz : Ls.size = ml) (hlen : ∀ sig, parseMethodDescriptor y.desc = some sig → argsL.length = sig.parameters.length) (hW : 2 * 0 + (st.map fun v => v.category).sum ≤ W) (hf : rm.frames + 1 ≤ R.frames) (hlo : W + (maxL + 11) + rm.locals ≤ R.locals) (hc : cells + rm.cells = cells') (hl : slots + rm.slots = slots') (hc' : cells' ≤ R.cells) (hl' : slots' ≤ R.slots) (r : ∀ (w : Value) (h' : Heap), P w h' → OGo p l e R s m args below meth c n0 Q h' cells' slots' pc' Ls (w :: st))
    : OGo p l e R s m args below meth c n0 Q h cells slots pc Ls (argsL.reverse ++ .ref a :: st) := by
  subst hp hc hl
  intro T locs k n X e0 N h1 h2
  obtain ⟨cq, kq, qa, qb, qc⟩ := isOf K.hZ e0 E
  obtain ⟨_, _, ⟨T', L', k', n'⟩, -, X', ⟨Lc, ⟨hQ, hN⟩, l', y', z'⟩, stp⟩ := X.virtualBack K.ex (y := y) (z := z) K.hown (mvT K.hZ w1) (mvT K.hZ w2) hnf (mvT K.hZ w5) (mvT K.hZ w6) hy (backOf (W := W) (Q := fun v h L => (OV P) v h ∧ Fr n0 L) C K.hZ w4 w3 hf hlo) qa qc (g := mkF m pc Ls (argsL.reverse ++ .ref a :: st)) rfl (hsz.trans K.hml.symm) (Steps.refl _) (argsL := argsL) (rest := st) hlen rfl hW (hb K.by hd) (fun _ _ => ⟨rfl, e0, (by show k + rm.cells ≤ R.cells; omega), (by show n + rm.slots ≤ R.slots; omega)⟩)
  dsimp only [Pt.U, Pt.locs, Pt.cells, Pt.slots] at X' l' y' z' stp hQ
  subst l' y' z'
  obtain ⟨w, rfl, hQ⟩ := hQ
  obtain ⟨s₂, v, L, g, r'⟩ := r w _ hQ T' _ _ _ X' rfl (Fr.app N hN) (by omega) (by omega)
  exact ⟨s₂, v, L, stp.trans g, r'⟩
theorem OGo.callVN (K : OCx p l e R s m args below meth c Z own nm bytes ml rt) {y z : MethodName} {a : Addr} {C0 : String} {index : Nat} {bytes' : ByteArray} {maxL : Nat} {ret : Option FieldType} {rm : Room} {W cells' slots' : Nat} {argsL : List Value} {P : Heap → Prop} (E : Exa Z h a C0) (w1 : (Jvm.Cond.methodLink own index y).before a0 Z = true) (w2 : (Jvm.Cond.declares y).before a0 Z = true) (hnf : NotFace s y) (w5 : (Jvm.Cond.selects C0 y z).before a0 Z = true) (w6 : (Jvm.Cond.instanceMethod z).before a0 Z = true) (w3 : (Jvm.Cond.initialized z.cls).before a0 Z = true) (w4 : (Jvm.Cond.code z bytes' maxL ret).before a0 Z = true) (hy : y.cls ≠ "java/lang/invoke/MethodHandle" ∧ y.cls ≠ "java/lang/invoke/VarHandle") (C : OCon l Z n0 z bytes' maxL ret [] rm ((.ref a :: argsL).toArray) h (ON P)) (hd : decode bytes pc = .ok (.invokevirtual index, 3)) (hp : pc + 3 = pc') (hsz : Ls.size = ml) (hlen : ∀ sig, parseMethodDescriptor y.desc = some sig → argsL.length = sig.parameters.length) (hW : 2 * 0 + (st.map fun v => v.category).sum ≤ W) (hf : rm.frames + 1 ≤ R.frames) (hlo : W + (maxL + 11) + rm.locals ≤ R.locals) (hc : cells + rm.cells = cells') (hl : slots + rm.slots = slots') (hc' : cells' ≤ R.cells) (hl' : slots' ≤ R.slots) (r : ∀ (h' : Heap), P h' → OGo p l e R s m args below meth c n0 Q h' cells' slots' pc' Ls st)
    : OGo p l e R s m args below meth c n0 Q h cells slots pc Ls (argsL.reverse ++ .ref a :: st) := by
  subst hp hc hl
  intro T locs k n X e0 N h1 h2
  obtain ⟨cq, kq, qa, qb, qc⟩ := isOf K.hZ e0 E
  obtain ⟨_, _, ⟨T', L', k', n'⟩, -, X', ⟨Lc, ⟨hQ, hN⟩, l', y', z'⟩, stp⟩ := X.virtualBack K.ex (y := y) (z := z) K.hown (mvT K.hZ w1) (mvT K.hZ w2) hnf (mvT K.hZ w5) (mvT K.hZ w6) hy (backOf (W := W) (Q := fun v h L => (ON P) v h ∧ Fr n0 L) C K.hZ w4 w3 hf hlo) qa qc (g := mkF m pc Ls (argsL.reverse ++ .ref a :: st)) rfl (hsz.trans K.hml.symm) (Steps.refl _) (argsL := argsL) (rest := st) hlen rfl hW (hb K.by hd) (fun _ _ => ⟨rfl, e0, (by show k + rm.cells ≤ R.cells; omega), (by show n + rm.slots ≤ R.slots; omega)⟩)
  dsimp only [Pt.U, Pt.locs, Pt.cells, Pt.slots] at X' l' y' z' stp hQ
  subst l' y' z'
  obtain ⟨rfl, hQ⟩ := hQ
  obtain ⟨s₂, v, L, g, r'⟩ := r  _ hQ T' _ _ _ X' rfl (Fr.app N hN) (by omega) (by omega)
  exact ⟨s₂, v, L, stp.trans g, r'⟩
theorem OGo.callFV (K : OCx p l e R s m args below meth c Z own nm bytes ml rt) {y z : MethodName} {a : Addr} {C0 : String} {cnt : Nat} {index : Nat} {bytes' : ByteArray} {maxL : Nat} {ret : Option FieldType} {rm : Room} {W cells' slots' : Nat} {argsL : List Value} {P : Value → Heap → Prop} (E : Exa Z h a C0) (w1 : (Jvm.Cond.methodLink own index y).before a0 Z = true) (w2 : (Jvm.Cond.declares y).before a0 Z = true) (w7 : (Jvm.Cond.interfaceMethod y.cls y.cls y.name y.desc).before a0 Z = true) (w5 : (Jvm.Cond.selects C0 y z).before a0 Z = true) (w6 : (Jvm.Cond.instanceMethod z).before a0 Z = true) (w8 : (Jvm.Cond.publicMethod z).before a0 Z = true) (w9 : (Jvm.Cond.unhidden C0 y.name y.desc).before a0 Z = true) (w10 : (Jvm.Cond.castable C0 y.cls).before a0 Z = true) (w3 : (Jvm.Cond.initialized z.cls).before a0 Z = true) (w4 : (Jvm.Cond.code z bytes' maxL ret).before a0 Z = true) (hy : y.cls ≠ "java/lang/invoke/MethodHandle" ∧ y.cls ≠ "java/lang/invoke/VarHandle") (C : OCon l Z n0 z bytes' maxL ret [] rm ((.ref a :: argsL).toArray) h (OV P)) (hd : decode bytes pc = .ok (.invokeinterface index cnt, 5)) (hp : pc + 5 = pc') (hsz : Ls.size = ml) (hlen : ∀ sig, parseMethodDescriptor y.desc = some sig → argsL.length = sig.parameters.length) (hW : 2 * 0 + (st.map fun v => v.category).sum ≤ W) (hf : rm.frames + 1 ≤ R.frames) (hlo : W + (maxL + 11) + rm.locals ≤ R.locals) (hc : cells + rm.cells = cells') (hl : slots + rm.slots = slots') (hc' : cells' ≤ R.cells) (hl' : slots' ≤ R.slots) (r : ∀ (w : Value) (h' : Heap), P w h' → OGo p l e R s m args below meth c n0 Q h' cells' slots' pc' Ls (w :: st))
    : OGo p l e R s m args below meth c n0 Q h cells slots pc Ls (argsL.reverse ++ .ref a :: st) := by
  subst hp hc hl
  intro T locs k n X e0 N h1 h2
  obtain ⟨cq, kq, qa, qb, qc⟩ := isOf K.hZ e0 E
  obtain ⟨_, _, ⟨T', L', k', n'⟩, -, X', ⟨Lc, ⟨hQ, hN⟩, l', y', z'⟩, stp⟩ := X.interfaceBack K.ex (xi := y) (y := z) K.hown (mvT K.hZ w1) (mvT K.hZ w2) (mvT K.hZ w7 (by simp [Cond.onTables, Cond.keepsFace, Cond.keeps, Cond.steady, Cond.faceAtom, hy.1, hy.2])) (mvT K.hZ w5) (mvT K.hZ w6) (mvT K.hZ w8) (mvT K.hZ w9) (mvT K.hZ w10) hy (backOf (W := W) (Q := fun v h L => (OV P) v h ∧ Fr n0 L) C K.hZ w4 w3 hf hlo) qa qb qc (g := mkF m pc Ls (argsL.reverse ++ .ref a :: st)) rfl (hsz.trans K.hml.symm) (Steps.refl _) (argsL := argsL) (rest := st) hlen rfl hW (hb K.by hd) (fun _ _ => ⟨rfl, e0, (by show k + rm.cells ≤ R.cells; omega), (by show n + rm.slots ≤ R.slots; omega)⟩)
  dsimp only [Pt.U, Pt.locs, Pt.cells, Pt.slots] at X' l' y' z' stp hQ
  subst l' y' z'
  obtain ⟨w, rfl, hQ⟩ := hQ
  obtain ⟨s₂, v, L, g, r'⟩ := r w _ hQ T' _ _ _ X' rfl (Fr.app N hN) (by omega) (by omega)
  exact ⟨s₂, v, L, stp.trans g, r'⟩
theorem OGo.callFN (K : OCx p l e R s m args below meth c Z own nm bytes ml rt) {y z : MethodName} {a : Addr} {C0 : String} {cnt : Nat} {index : Nat} {bytes' : ByteArray} {maxL : Nat} {ret : Option FieldType} {rm : Room} {W cells' slots' : Nat} {argsL : List Value} {P : Heap → Prop} (E : Exa Z h a C0) (w1 : (Jvm.Cond.methodLink own index y).before a0 Z = true) (w2 : (Jvm.Cond.declares y).before a0 Z = true) (w7 : (Jvm.Cond.interfaceMethod y.cls y.cls y.name y.desc).before a0 Z = true) (w5 : (Jvm.Cond.selects C0 y z).before a0 Z = true) (w6 : (Jvm.Cond.instanceMethod z).before a0 Z = true) (w8 : (Jvm.Cond.publicMethod z).before a0 Z = true) (w9 : (Jvm.Cond.unhidden C0 y.name y.desc).before a0 Z = true) (w10 : (Jvm.Cond.castable C0 y.cls).before a0 Z = true) (w3 : (Jvm.Cond.initialized z.cls).before a0 Z = true) (w4 : (Jvm.Cond.code z bytes' maxL ret).before a0 Z = true) (hy : y.cls ≠ "java/lang/invoke/MethodHandle" ∧ y.cls ≠ "java/lang/invoke/VarHandle") (C : OCon l Z n0 z bytes' maxL ret [] rm ((.ref a :: argsL).toArray) h (ON P)) (hd : decode bytes pc = .ok (.invokeinterface index cnt, 5)) (hp : pc + 5 = pc') (hsz : Ls.size = ml) (hlen : ∀ sig, parseMethodDescriptor y.desc = some sig → argsL.length = sig.parameters.length) (hW : 2 * 0 + (st.map fun v => v.category).sum ≤ W) (hf : rm.frames + 1 ≤ R.frames) (hlo : W + (maxL + 11) + rm.locals ≤ R.locals) (hc : cells + rm.cells = cells') (hl : slots + rm.slots = slots') (hc' : cells' ≤ R.cells) (hl' : slots' ≤ R.slots) (r : ∀ (h' : Heap), P h' → OGo p l e R s m args below meth c n0 Q h' cells' slots' pc' Ls st)
    : OGo p l e R s m args below meth c n0 Q h cells slots pc Ls (argsL.reverse ++ .ref a :: st) := by
  subst hp hc hl
  intro T locs k n X e0 N h1 h2
  obtain ⟨cq, kq, qa, qb, qc⟩ := isOf K.hZ e0 E
  obtain ⟨_, _, ⟨T', L', k', n'⟩, -, X', ⟨Lc, ⟨hQ, hN⟩, l', y', z'⟩, stp⟩ := X.interfaceBack K.ex (xi := y) (y := z) K.hown (mvT K.hZ w1) (mvT K.hZ w2) (mvT K.hZ w7 (by simp [Cond.onTables, Cond.keepsFace, Cond.keeps, Cond.steady, Cond.faceAtom, hy.1, hy.2])) (mvT K.hZ w5) (mvT K.hZ w6) (mvT K.hZ w8) (mvT K.hZ w9) (mvT K.hZ w10) hy (backOf (W := W) (Q := fun v h L => (ON P) v h ∧ Fr n0 L) C K.hZ w4 w3 hf hlo) qa qb qc (g := mkF m pc Ls (argsL.reverse ++ .ref a :: st)) rfl (hsz.trans K.hml.symm) (Steps.refl _) (argsL := argsL) (rest := st) hlen rfl hW (hb K.by hd) (fun _ _ => ⟨rfl, e0, (by show k + rm.cells ≤ R.cells; omega), (by show n + rm.slots ≤ R.slots; omega)⟩)
  dsimp only [Pt.U, Pt.locs, Pt.cells, Pt.slots] at X' l' y' z' stp hQ
  subst l' y' z'
  obtain ⟨rfl, hQ⟩ := hQ
  obtain ⟨s₂, v, L, g, r'⟩ := r  _ hQ T' _ _ _ X' rfl (Fr.app N hN) (by omega) (by omega)
  exact ⟨s₂, v, L, stp.trans g, r'⟩
theorem OGo.copy (K : OCx p l e R s m args below meth c Z own nm bytes ml rt) {index W : Nat} {a b : Addr} {k k' : ClassId} {ty : FieldType} {z z' sp dp nn : Int32} {vs vd us : List Value} {dv dd : Value} (w1 : (Jvm.Cond.methodLink own index Jvm.Stand.acN).before a0 Z = true) (w2 : (Jvm.Cond.native Jvm.Stand.acN).before a0 Z = true) (w3 : (Jvm.Cond.static Jvm.Stand.acN).before a0 Z = true) (w4 : (Jvm.Cond.initialized "java/lang/System").before a0 Z = true)
    (A : Arv Z h a k ty z vs dv) (B : Arv Z h b k' ty z' vd dd) (hty : refKind ty = false) (h1 : ¬ sp < 0) (h2 : ¬ dp < 0) (h3 : ¬ nn < 0) (h4 : sp.toNatClampNeg + nn.toNatClampNeg ≤ z.toNatClampNeg) (h5 : dp.toNatClampNeg + nn.toNatClampNeg ≤ z'.toNatClampNeg) (hus : us = (List.range nn.toNatClampNeg).map fun i => vs.getD (sp.toNatClampNeg + i) dv) (hl : dp.toNatClampNeg + nn.toNatClampNeg ≤ vd.length) (ge : n0 ≤ b)
    (hd : decode bytes pc = .ok (.invokestatic index, 3)) (hp : pc + 3 = pc') (hsz : Ls.size = ml) (hf : 1 ≤ R.frames) (hW : 2 * 0 + (st.map fun v => v.category).sum ≤ W) (hlo : W + (nativeFrameWords "java/lang/System" "arraycopy" 5 + 11) ≤ R.locals)
    (r : ∀ h', Keep h h' [b] → Arv Z h' b k' ty z' (vd.take dp.toNatClampNeg ++ us ++ vd.drop (dp.toNatClampNeg + nn.toNatClampNeg)) dd → OGo p l e R s m args below meth c n0 Q h' cells slots pc' Ls st) : OGo p l e R s m args below meth c n0 Q h cells slots pc Ls (.int nn :: .int dp :: .ref b :: .int sp :: .ref a :: st) := by
  subst hp
  intro T locs k n X e0 N h1' h2'
  obtain ⟨T', h', L, X', e', N', K', V', st'⟩ := RoadKit.cpA X K.ex K.hZ K.hown w1 w2 w3 w4 e0 A B (Or.inl ⟨rfl, hty⟩) h1 h2 h3 h4 h5 hus hl N ge (g := mkF m pc Ls (.int nn :: .int dp :: .ref b :: .int sp :: .ref a :: st)) rfl (hsz.trans K.hml.symm) rfl (hb K.by hd) hf hW hlo
  obtain ⟨s₂, v, L2, g, r'⟩ := r h' K' V' T' L k n X' e' N' h1' h2'
  exact ⟨s₂, v, L2, st' _ g, r'⟩
theorem OGo.callQV (K : OCx p l e R s m args below meth c Z own nm bytes ml rt) {y : MethodName} {a : Addr} {C0 : String} {ni : Nat} {index : Nat} {bytes' : ByteArray} {maxL : Nat} {ret : Option FieldType} {rm : Room} {W cells' slots' : Nat} {argsL : List Value} {P : Value → Heap → Prop} (E : Exa Z h a C0) (w1 : (Jvm.Cond.methodLink own index y).before a0 Z = true) (w2 : (Jvm.Cond.instanceMethod y).before a0 Z = true) (w5 : (Jvm.Cond.instantiable y.cls ni).before a0 Z = true) (w6 : (Jvm.Cond.privateMethod y).before a0 Z = true) (w3 : (Jvm.Cond.initialized y.cls).before a0 Z = true) (w4 : (Jvm.Cond.code y bytes' maxL ret).before a0 Z = true) (hy : y.cls ≠ "java/lang/invoke/MethodHandle" ∧ y.cls ≠ "java/lang/invoke/VarHandle") (C : OCon l Z n0 y bytes' maxL ret [] rm ((.ref a :: argsL).toArray) h (OV P)) (hd : decode bytes pc = .ok (.invokevirtual index, 3)) (hp : pc + 3 = pc') (hsz : Ls.size = ml) (hlen : ∀ sig, parseMethodDescriptor y.desc = some sig → argsL.length = sig.parameters.length) (hW : 2 * 0 + (st.map fun v => v.category).sum ≤ W) (hf : rm.frames + 1 ≤ R.frames) (hlo : W + (maxL + 11) + rm.locals ≤ R.locals) (hc : cells + rm.cells = cells') (hl : slots + rm.slots = slots') (hc' : cells' ≤ R.cells) (hl' : slots' ≤ R.slots) (r : ∀ (w : Value) (h' : Heap), P w h' → OGo p l e R s m args below meth c n0 Q h' cells' slots' pc' Ls (w :: st))
    : OGo p l e R s m args below meth c n0 Q h cells slots pc Ls (argsL.reverse ++ .ref a :: st) := by
  subst hp hc hl
  intro T locs k n X e0 N h1 h2
  obtain ⟨cq, q, q'⟩ := E.cell
  obtain ⟨_, _, ⟨T', L', k', n'⟩, -, X', ⟨Lc, ⟨hQ, hN⟩, l', y', z'⟩, stp⟩ := own_private X K.ex (y := y) K.hown (mvT K.hZ w1) (mvT K.hZ w2) (mvT K.hZ w5) (Cond.privateMethod_at (mvP K.hZ w6 (args := #[]))) (mvT K.hZ w4) hy (backOf (W := W) (Q := fun v h L => (OV P) v h ∧ Fr n0 L) C K.hZ w4 w3 hf hlo) (g := mkF m pc Ls (argsL.reverse ++ .ref a :: st)) rfl (hsz.trans K.hml.symm) (a := a) (by rw [e0]; exact q) q' (argsL := argsL) (rest := st) hlen rfl hW (hb K.by hd) (fun _ _ => ⟨rfl, e0, (by show k + rm.cells ≤ R.cells; omega), (by show n + rm.slots ≤ R.slots; omega)⟩)
  dsimp only [Pt.U, Pt.locs, Pt.cells, Pt.slots] at X' l' y' z' stp hQ
  subst l' y' z'
  obtain ⟨w, rfl, hQ⟩ := hQ
  obtain ⟨s₂, v, L, g, r'⟩ := r w _ hQ T' _ _ _ X' rfl (Fr.app N hN) (by omega) (by omega)
  exact ⟨s₂, v, L, stp.trans g, r'⟩
theorem OGo.callQN (K : OCx p l e R s m args below meth c Z own nm bytes ml rt) {y : MethodName} {a : Addr} {C0 : String} {ni : Nat} {index : Nat} {bytes' : ByteArray} {maxL : Nat} {ret : Option FieldType} {rm : Room} {W cells' slots' : Nat} {argsL : List Value} {P : Heap → Prop} (E : Exa Z h a C0) (w1 : (Jvm.Cond.methodLink own index y).before a0 Z = true) (w2 : (Jvm.Cond.instanceMethod y).before a0 Z = true) (w5 : (Jvm.Cond.instantiable y.cls ni).before a0 Z = true) (w6 : (Jvm.Cond.privateMethod y).before a0 Z = true) (w3 : (Jvm.Cond.initialized y.cls).before a0 Z = true) (w4 : (Jvm.Cond.code y bytes' maxL ret).before a0 Z = true) (hy : y.cls ≠ "java/lang/invoke/MethodHandle" ∧ y.cls ≠ "java/lang/invoke/VarHandle") (C : OCon l Z n0 y bytes' maxL ret [] rm ((.ref a :: argsL).toArray) h (ON P)) (hd : decode bytes pc = .ok (.invokevirtual index, 3)) (hp : pc + 3 = pc') (hsz : Ls.size = ml) (hlen : ∀ sig, parseMethodDescriptor y.desc = some sig → argsL.length = sig.parameters.length) (hW : 2 * 0 + (st.map fun v => v.category).sum ≤ W) (hf : rm.frames + 1 ≤ R.frames) (hlo : W + (maxL + 11) + rm.locals ≤ R.locals) (hc : cells + rm.cells = cells') (hl : slots + rm.slots = slots') (hc' : cells' ≤ R.cells) (hl' : slots' ≤ R.slots) (r : ∀ (h' : Heap), P h' → OGo p l e R s m args below meth c n0 Q h' cells' slots' pc' Ls st)
    : OGo p l e R s m args below meth c n0 Q h cells slots pc Ls (argsL.reverse ++ .ref a :: st) := by
  subst hp hc hl
  intro T locs k n X e0 N h1 h2
  obtain ⟨cq, q, q'⟩ := E.cell
  obtain ⟨_, _, ⟨T', L', k', n'⟩, -, X', ⟨Lc, ⟨hQ, hN⟩, l', y', z'⟩, stp⟩ := own_private X K.ex (y := y) K.hown (mvT K.hZ w1) (mvT K.hZ w2) (mvT K.hZ w5) (Cond.privateMethod_at (mvP K.hZ w6 (args := #[]))) (mvT K.hZ w4) hy (backOf (W := W) (Q := fun v h L => (ON P) v h ∧ Fr n0 L) C K.hZ w4 w3 hf hlo) (g := mkF m pc Ls (argsL.reverse ++ .ref a :: st)) rfl (hsz.trans K.hml.symm) (a := a) (by rw [e0]; exact q) q' (argsL := argsL) (rest := st) hlen rfl hW (hb K.by hd) (fun _ _ => ⟨rfl, e0, (by show k + rm.cells ≤ R.cells; omega), (by show n + rm.slots ≤ R.slots; omega)⟩)
  dsimp only [Pt.U, Pt.locs, Pt.cells, Pt.slots] at X' l' y' z' stp hQ
  subst l' y' z'
  obtain ⟨rfl, hQ⟩ := hQ
  obtain ⟨s₂, v, L, g, r'⟩ := r  _ hQ T' _ _ _ X' rfl (Fr.app N hN) (by omega) (by omega)
  exact ⟨s₂, v, L, stp.trans g, r'⟩
theorem OGo.acmp (K : OCx p l e R s m args below meth c Z own nm bytes ml rt) {cd : ACond} {o : Int} {x y : Value} {same : Bool} (hd : decode bytes pc = .ok (.if_acmp cd o, 3)) (h1 : x.isRef = true) (h2 : y.isRef = true) (hq : decide (x = y) = same) (ho : 0 ≤ (pc : Int) + o) (hp : pc' = if acV cd same = true then ((pc : Int) + o).toNat else pc + 3) (r : OGo p l e R s m args below meth c n0 Q h cells slots pc' Ls st) : OGo p l e R s m args below meth c n0 Q h cells slots pc Ls (y :: x :: st) :=
  OGo.same (fun T locs k n X e0 => ⟨T, X, e0, fun t q => RoadKit.acmp X K.ex (g := mkF m pc Ls (y :: x :: st)) rfl h1 h2 rfl (hb K.by hd) rfl hq ho hp q⟩) r
theorem OGo.castY (K : OCx p l e R s m args below meth c Z own nm bytes ml rt) {C : String} {index : Nat} {a : Addr} (w : (Jvm.Cond.classLink own index C).before a0 Z = true) (I : Ins Z h a C true) (hd : decode bytes pc = .ok (.checkcast index, 3)) (hp : pc + 3 = pc') (r : OGo p l e R s m args below meth c n0 Q h cells slots pc' Ls (.ref a :: st)) : OGo p l e R s m args below meth c n0 Q h cells slots pc Ls (.ref a :: st) := by
  subst hp
  exact OGo.same (fun T locs k n X e0 => RoadKit.castY X K.ex K.hZ K.hown w e0 I (g := mkF m pc Ls (.ref a :: st)) rfl rfl (hb K.by hd)) r
theorem OGo.instY (K : OCx p l e R s m args below meth c Z own nm bytes ml rt) {C : String} {index : Nat} {a : Addr} (w : (Jvm.Cond.classLink own index C).before a0 Z = true) (I : Ins Z h a C true) (hd : decode bytes pc = .ok (.instanceof index, 3)) (hp : pc + 3 = pc') (r : OGo p l e R s m args below meth c n0 Q h cells slots pc' Ls (.int 1 :: st)) : OGo p l e R s m args below meth c n0 Q h cells slots pc Ls (.ref a :: st) := by
  subst hp
  exact OGo.same (fun T locs k n X e0 => RoadKit.instY X K.ex K.hZ K.hown w e0 I (g := mkF m pc Ls (.ref a :: st)) rfl rfl (hb K.by hd)) r
theorem OGo.ldcI (K : OCx p l e R s m args below meth c Z own nm bytes ml rt) {index : Nat} {v : Int32} (w : (Jvm.Cond.constant own index v).before a0 Z = true) (hd : decode bytes pc = .ok (.ldc index, 2)) (hp : pc + 2 = pc') (r : OGo p l e R s m args below meth c n0 Q h cells slots pc' Ls (.int v :: st)) : OGo p l e R s m args below meth c n0 Q h cells slots pc Ls st := by
  subst hp
  exact OGo.same (fun T locs k n X e0 => ⟨T, X, e0, fun t q => X.ldcInt K.ex K.hown (mvT K.hZ w) (g := mkF m pc Ls st) rfl (hb K.by hd) t q⟩) r
theorem OGo.ldcwI (K : OCx p l e R s m args below meth c Z own nm bytes ml rt) {index : Nat} {v : Int32} (w : (Jvm.Cond.constant own index v).before a0 Z = true) (hd : decode bytes pc = .ok (.ldc_w index, 3)) (hp : pc + 3 = pc') (r : OGo p l e R s m args below meth c n0 Q h cells slots pc' Ls (.int v :: st)) : OGo p l e R s m args below meth c n0 Q h cells slots pc Ls st := by
  subst hp
  exact OGo.same (fun T locs k n X e0 => ⟨T, X, e0, fun t q => X.ldcwInt K.ex K.hown (mvT K.hZ w) (g := mkF m pc Ls st) rfl (hb K.by hd) t q⟩) r
theorem OGo.ldcJ (K : OCx p l e R s m args below meth c Z own nm bytes ml rt) {index : Nat} {v : Int64} (w : (Jvm.Cond.constantLong own index v).before a0 Z = true) (hd : decode bytes pc = .ok (.ldc2_w index, 3)) (hp : pc + 3 = pc') (r : OGo p l e R s m args below meth c n0 Q h cells slots pc' Ls (.long v :: st)) : OGo p l e R s m args below meth c n0 Q h cells slots pc Ls st := by
  subst hp
  exact OGo.same (fun T locs k n X e0 => ⟨T, X, e0, fun t q => X.ldc2Long K.ex K.hown (mvT K.hZ w) (g := mkF m pc Ls st) rfl (hb K.by hd) t q⟩) r
theorem OGo.ldcD (K : OCx p l e R s m args below meth c Z own nm bytes ml rt) {index : Nat} {v : UInt64} (w : (Jvm.Cond.constantDouble own index v).before a0 Z = true) (hd : decode bytes pc = .ok (.ldc2_w index, 3)) (hp : pc + 3 = pc') (r : OGo p l e R s m args below meth c n0 Q h cells slots pc' Ls (.double v :: st)) : OGo p l e R s m args below meth c n0 Q h cells slots pc Ls st := by
  subst hp
  exact OGo.same (fun T locs k n X e0 => ⟨T, X, e0, fun t q => X.ldc2DoubleC K.ex K.hown (mvT K.hZ w) (g := mkF m pc Ls st) rfl (hb K.by hd) t q⟩) r
end OwnLayer
def OBI (Z : State) (n0 : Nat) (h : Heap) (a x y z : Addr) (ts : List Int64) : Prop :=
  Exa Z h a "com/example/exact_courier/exactcourier/storage/BatchIndex" ∧ Fld Z h a "com/example/exact_courier/exactcourier/storage/BatchIndex" "baseOffsets" "[J" (.ref x) ∧ Fld Z h a "com/example/exact_courier/exactcourier/storage/BatchIndex" "positions" "[J" (.ref y) ∧ Fld Z h a "com/example/exact_courier/exactcourier/storage/BatchIndex" "maxTimestamps" "[J" (.ref z) ∧ Fld Z h a "com/example/exact_courier/exactcourier/storage/BatchIndex" "count" "I" (.int (Int32.ofNat ts.length)) ∧
  (∃ k vs, Arv Z h x k .long 64 vs (.long 0) ∧ vs.length = 64) ∧ (∃ k vs, Arv Z h y k .long 64 vs (.long 0) ∧ vs.length = 64) ∧ (∃ k vs, Arv Z h z k .long 64 vs (.long 0) ∧ vs.length = 64 ∧ ∀ i (hi : i < ts.length), vs.getD i (.long 0) = .long ts[i]) ∧
  a ≠ x ∧ a ≠ y ∧ a ≠ z ∧ x ≠ y ∧ x ≠ z ∧ y ≠ z ∧ n0 ≤ a ∧ n0 ≤ x ∧ n0 ≤ y ∧ n0 ≤ z
theorem own_idx {n : Nat} (h : n < 64) : ¬ (Int32.ofNat n) < 0 ∧ Int32.ofNat n < 64 ∧ (Int32.ofNat n).toNatClampNeg = n ∧ ¬ Int32.ofNat n = 64 := by
  have e1 := toInt_of (n := Int32.ofNat n) rfl (by omega)
  have e2 := clamp_of (n := Int32.ofNat n) rfl (by omega)
  have e3 : (64 : Int32).toInt = 64 := rfl
  have e4 : (0 : Int32).toInt = 0 := rfl
  refine ⟨by rw [Int32.lt_iff_toInt_lt, e1, e4]; omega, by rw [Int32.lt_iff_toInt_lt, e1, e3]; omega, e2, fun q => ?_⟩
  have := congrArg Int32.toInt q
  rw [e1, e3] at this; omega
theorem own_len64 (d : Value) : ([] ++ List.replicate 64 d).length = 64 := by simp
theorem own_push {vs : List Value} {d : Value} {ts : List Int64} {t : Int64} (hl : vs.length = 64) (hn : ts.length < 64) (H : ∀ i (hi : i < ts.length), vs.getD i d = .long ts[i]) : ∀ i (hi : i < (ts ++ [t]).length), (vs.set ts.length (.long t)).getD i d = .long (ts ++ [t])[i] := by
  intro i hi
  simp only [List.length_append, List.length_cons, List.length_nil] at hi
  rw [List.getD_eq_getElem?_getD]
  by_cases q : i = ts.length
  · subst q
    rw [List.getElem?_set_self (by omega)]
    simp
  · have q' : i < ts.length := by omega
    rw [List.getElem?_set_ne (Ne.symm q), ← List.getD_eq_getElem?_getD, H i q', List.getElem_append_left q']
def own_first : List Int64 → Int64 → Nat → Int32
  | [], _, _ => -1
  | t :: r, q, i => if t < q then own_first r q (i + 1) else Int32.ofNat i
theorem own_and3 (x : Int32) : x &&& 3 = 0 ∨ x &&& 3 = 1 ∨ x &&& 3 = 2 ∨ x &&& 3 = 3 := by
  have hl : (x &&& 3).toBitVec.toNat ≤ 3 := by rw [Int32.toBitVec_and, BitVec.toNat_and]; exact Nat.and_le_right
  have h : ∀ k : Nat, (x &&& 3).toBitVec.toNat = k → k < 4294967296 → x &&& 3 = Int32.ofNat k := fun k hk hk' => by
    apply Int32.toBitVec_inj.mp
    apply BitVec.eq_of_toNat_eq
    rw [hk]
    show k = (BitVec.ofNat 32 k).toNat
    rw [BitVec.toNat_ofNat, Nat.mod_eq_of_lt hk']
  generalize hv : (x &&& 3).toBitVec.toNat = v at *
  have : v = 0 ∨ v = 1 ∨ v = 2 ∨ v = 3 := by omega
  rcases this with rfl | rfl | rfl | rfl
  · exact Or.inl (h _ rfl (by decide))
  · exact Or.inr (Or.inl (h _ rfl (by decide)))
  · exact Or.inr (Or.inr (Or.inl (h _ rfl (by decide))))
  · exact Or.inr (Or.inr (Or.inr (h _ rfl (by decide))))
theorem own_olt {i n : Nat} (h : i < n) (hn : n < 2 ^ 31) : Int32.ofNat i < Int32.ofNat n := by
  rw [Int32.lt_iff_toInt_lt, toInt_of (n := Int32.ofNat i) rfl (by omega), toInt_of (n := Int32.ofNat n) rfl hn]; omega
theorem own_d1_0 : decode prog_94_method_1_code 0 = .ok (.aload_n 0, 1) := by decide +kernel
theorem own_d1_1 : decode prog_94_method_1_code 1 = .ok (.invokespecial 1, 3) := by decide +kernel
theorem own_d1_4 : decode prog_94_method_1_code 4 = .ok (.aload_n 0, 1) := by decide +kernel
theorem own_d1_5 : decode prog_94_method_1_code 5 = .ok (.bipush 64, 2) := by decide +kernel
theorem own_d1_7 : decode prog_94_method_1_code 7 = .ok (.newarray .long, 2) := by decide +kernel
theorem own_d1_9 : decode prog_94_method_1_code 9 = .ok (.putfield 7, 3) := by decide +kernel
theorem own_d1_12 : decode prog_94_method_1_code 12 = .ok (.aload_n 0, 1) := by decide +kernel
theorem own_d1_13 : decode prog_94_method_1_code 13 = .ok (.bipush 64, 2) := by decide +kernel
theorem own_d1_15 : decode prog_94_method_1_code 15 = .ok (.newarray .long, 2) := by decide +kernel
theorem own_d1_17 : decode prog_94_method_1_code 17 = .ok (.putfield 13, 3) := by decide +kernel
theorem own_d1_20 : decode prog_94_method_1_code 20 = .ok (.aload_n 0, 1) := by decide +kernel
theorem own_d1_21 : decode prog_94_method_1_code 21 = .ok (.bipush 64, 2) := by decide +kernel
theorem own_d1_23 : decode prog_94_method_1_code 23 = .ok (.newarray .long, 2) := by decide +kernel
theorem own_d1_25 : decode prog_94_method_1_code 25 = .ok (.putfield 16, 3) := by decide +kernel
theorem own_d1_28 : decode prog_94_method_1_code 28 = .ok (.return_, 1) := by decide +kernel
theorem own_pn_1 : plainName "com/example/exact_courier/exactcourier/storage/BatchIndex" = true := by first | (simp [plainName, overriddenIn]; done) | decide +kernel
theorem own_d4_0 : decode prog_94_method_6_code 0 = .ok (.aload_n 0, 1) := by decide +kernel
theorem own_d4_1 : decode prog_94_method_6_code 1 = .ok (.getfield 19, 3) := by decide +kernel
theorem own_d4_4 : decode prog_94_method_6_code 4 = .ok (.aload_n 0, 1) := by decide +kernel
theorem own_d4_5 : decode prog_94_method_6_code 5 = .ok (.getfield 7, 3) := by decide +kernel
theorem own_d4_8 : decode prog_94_method_6_code 8 = .ok (.arraylength, 1) := by decide +kernel
theorem own_d4_9 : decode prog_94_method_6_code 9 = .ok (.if_icmp .ne 54, 3) := by decide +kernel
theorem own_d4_63 : decode prog_94_method_6_code 63 = .ok (.aload_n 0, 1) := by decide +kernel
theorem own_d4_64 : decode prog_94_method_6_code 64 = .ok (.getfield 7, 3) := by decide +kernel
theorem own_d4_67 : decode prog_94_method_6_code 67 = .ok (.aload_n 0, 1) := by decide +kernel
theorem own_d4_68 : decode prog_94_method_6_code 68 = .ok (.getfield 19, 3) := by decide +kernel
theorem own_d4_71 : decode prog_94_method_6_code 71 = .ok (.lload_n 1, 1) := by decide +kernel
theorem own_d4_72 : decode prog_94_method_6_code 72 = .ok (.lastore, 1) := by decide +kernel
theorem own_d4_73 : decode prog_94_method_6_code 73 = .ok (.aload_n 0, 1) := by decide +kernel
theorem own_d4_74 : decode prog_94_method_6_code 74 = .ok (.getfield 13, 3) := by decide +kernel
theorem own_d4_77 : decode prog_94_method_6_code 77 = .ok (.aload_n 0, 1) := by decide +kernel
theorem own_d4_78 : decode prog_94_method_6_code 78 = .ok (.getfield 19, 3) := by decide +kernel
theorem own_d4_81 : decode prog_94_method_6_code 81 = .ok (.lload_n 3, 1) := by decide +kernel
theorem own_d4_82 : decode prog_94_method_6_code 82 = .ok (.lastore, 1) := by decide +kernel
theorem own_d4_83 : decode prog_94_method_6_code 83 = .ok (.aload_n 0, 1) := by decide +kernel
theorem own_d4_84 : decode prog_94_method_6_code 84 = .ok (.getfield 16, 3) := by decide +kernel
theorem own_d4_87 : decode prog_94_method_6_code 87 = .ok (.aload_n 0, 1) := by decide +kernel
theorem own_d4_88 : decode prog_94_method_6_code 88 = .ok (.getfield 19, 3) := by decide +kernel
theorem own_d4_91 : decode prog_94_method_6_code 91 = .ok (.lload 5, 2) := by decide +kernel
theorem own_d4_93 : decode prog_94_method_6_code 93 = .ok (.lastore, 1) := by decide +kernel
theorem own_d4_94 : decode prog_94_method_6_code 94 = .ok (.aload_n 0, 1) := by decide +kernel
theorem own_d4_95 : decode prog_94_method_6_code 95 = .ok (.dup, 1) := by decide +kernel
theorem own_d4_96 : decode prog_94_method_6_code 96 = .ok (.getfield 19, 3) := by decide +kernel
theorem own_d4_99 : decode prog_94_method_6_code 99 = .ok (.iconst 1, 1) := by decide +kernel
theorem own_d4_100 : decode prog_94_method_6_code 100 = .ok (.iadd, 1) := by decide +kernel
theorem own_d4_101 : decode prog_94_method_6_code 101 = .ok (.putfield 19, 3) := by decide +kernel
theorem own_d4_104 : decode prog_94_method_6_code 104 = .ok (.return_, 1) := by decide +kernel
theorem own_d3_5 : decode prog_94_method_8_code 5 = .ok (.iload 4, 2) := by decide +kernel
theorem own_d3_7 : decode prog_94_method_8_code 7 = .ok (.aload_n 0, 1) := by decide +kernel
theorem own_d3_8 : decode prog_94_method_8_code 8 = .ok (.getfield 19, 3) := by decide +kernel
theorem own_d3_11 : decode prog_94_method_8_code 11 = .ok (.if_icmp .ge 27, 3) := by decide +kernel
theorem own_d3_38 : decode prog_94_method_8_code 38 = .ok (.iload_n 3, 1) := by decide +kernel
theorem own_d3_39 : decode prog_94_method_8_code 39 = .ok (.ireturn, 1) := by decide +kernel
theorem own_d3_14 : decode prog_94_method_8_code 14 = .ok (.aload_n 0, 1) := by decide +kernel
theorem own_d3_15 : decode prog_94_method_8_code 15 = .ok (.getfield 16, 3) := by decide +kernel
theorem own_d3_18 : decode prog_94_method_8_code 18 = .ok (.iload 4, 2) := by decide +kernel
theorem own_d3_20 : decode prog_94_method_8_code 20 = .ok (.laload, 1) := by decide +kernel
theorem own_d3_21 : decode prog_94_method_8_code 21 = .ok (.lload_n 1, 1) := by decide +kernel
theorem own_d3_22 : decode prog_94_method_8_code 22 = .ok (.lcmp, 1) := by decide +kernel
theorem own_d3_23 : decode prog_94_method_8_code 23 = .ok (.ifCond .lt 9, 3) := by decide +kernel
theorem own_d3_32 : decode prog_94_method_8_code 32 = .ok (.iinc 4 1, 3) := by decide +kernel
theorem own_d3_35 : decode prog_94_method_8_code 35 = .ok (.goto (-30), 3) := by decide +kernel
theorem own_d3_26 : decode prog_94_method_8_code 26 = .ok (.iload 4, 2) := by decide +kernel
theorem own_d3_28 : decode prog_94_method_8_code 28 = .ok (.istore_n 3, 1) := by decide +kernel
theorem own_d3_29 : decode prog_94_method_8_code 29 = .ok (.goto 9, 3) := by decide +kernel
theorem own_d3_0 : decode prog_94_method_8_code 0 = .ok (.iconst (-1), 1) := by decide +kernel
theorem own_d3_1 : decode prog_94_method_8_code 1 = .ok (.istore_n 3, 1) := by decide +kernel
theorem own_d3_2 : decode prog_94_method_8_code 2 = .ok (.iconst 0, 1) := by decide +kernel
theorem own_d3_3 : decode prog_94_method_8_code 3 = .ok (.istore 4, 2) := by decide +kernel
theorem own_pd1 : parseMethodDescriptor "()V" = some ⟨[], none⟩ := by decide +kernel
theorem own_pd2 : parseMethodDescriptor "(J)I" = some ⟨[.long], some .int⟩ := by decide +kernel
theorem own_pd3 : parseMethodDescriptor "(JJJ)V" = some ⟨[.long, .long, .long], none⟩ := by decide +kernel
theorem own_pn_0 : plainName "com/example/exact_courier/exactcourier/storage/BatchIndexFirstWithMaxTimestampAtLeastPinLaw" = true := by first | (simp [plainName, overriddenIn]; done) | decide +kernel
set_option maxRecDepth 65536 in
set_option maxHeartbeats 40000000 in
theorem own_rm1 (l : Launch) (Z : State) (a0 : Array Value) (hw : ∀ d ∈ tables_1, d.before a0 Z = true) (a : Addr) (h0 : Heap) (n0 : Nat) (Z0 : n0 ≤ h0.size) (E : Exa Z h0 a "com/example/exact_courier/exactcourier/storage/BatchIndex") (F_baseOffsets : Fld Z h0 a "com/example/exact_courier/exactcourier/storage/BatchIndex" "baseOffsets" "[J" .null) (F_positions : Fld Z h0 a "com/example/exact_courier/exactcourier/storage/BatchIndex" "positions" "[J" .null) (F_maxTimestamps : Fld Z h0 a "com/example/exact_courier/exactcourier/storage/BatchIndex" "maxTimestamps" "[J" .null) (Fc : Fld Z h0 a "com/example/exact_courier/exactcourier/storage/BatchIndex" "count" "I" (.int 0)) (g_a : n0 ≤ a) :
    OCon l Z n0 (⟨"com/example/exact_courier/exactcourier/storage/BatchIndex", "<init>", "()V"⟩ : MethodName) prog_94_method_1_code 1 none [] ({ frames := 1, cells := 3, slots := 192, locals := 12 } : Room) #[(.ref a)] h0 (ON fun h => ∃ x y z, OBI Z n0 h a x y z [] ∧ Keep h0 h [a]) := by
  refine OCon.of (Ls := #[.val (.ref a)]) (plainFor_of_name own_pn_1) (fun m => own_entry m rfl) ?_
  intro p e s m below meth c K
  refine OGo.aloadN K (pc' := 1) own_d1_0 rfl rfl rfl ?_
  refine OGo.initO K (pc' := 4) (W := 0) (hw _ (List.mem_of_getElem? (i := 6) rfl)) (hw _ (List.mem_of_getElem? (i := 7) rfl)) (hw _ (List.mem_of_getElem? (i := 8) rfl)) own_d1_1 rfl rfl (by show 2 * 0 + _ ≤ _; exact Nat.le_of_eq rfl) (by decide) (by decide) ?_
  refine OGo.aloadN K (pc' := 5) own_d1_4 rfl rfl rfl ?_
  refine OGo.bipush K (pc' := 7) (z := 64) own_d1_5 rfl rfl ?_
  refine OGo.newP K (pc' := 9) (cap := 64) (cells' := 1) (slots' := 64) (hw _ (List.mem_of_getElem? (i := 9) rfl)) own_d1_7 rfl (by decide) (by decide) (by decide) rfl rfl (by decide) (by decide) ?_
  intro h1 x k_x g1 E1 V_x
  have ne_a_x : a ≠ x := Nat.ne_of_lt (Nat.lt_of_lt_of_le E.lt (Nat.le_of_eq g1.symm))
  have g_x : n0 ≤ x := Nat.le_trans Z0 (Nat.le_of_eq g1.symm)
  have sz_x : h0.size ≤ x := Nat.le_trans (Keep.refl h0 [a]).1 (Nat.le_of_eq g1.symm)
  have Z1 : n0 ≤ h1.size := Nat.le_trans Z0 E1.1
  have Kp1 : Keep h0 h1 [a] := (Keep.refl h0 [a]).ext E1
  have E_1 := E.ext E1
  have Fc_1 := Fc.ext E1
  have F_baseOffsets_1 := F_baseOffsets.ext E1
  have F_positions_1 := F_positions.ext E1
  have F_maxTimestamps_1 := F_maxTimestamps.ext E1
  refine OGo.putF K (pc' := 12) (host := "") (Or.inl (hw _ (List.mem_of_getElem? (i := 10) rfl))) Via.refl F_baseOffsets_1 E_1 (Or.inl (hw _ (List.mem_of_getElem? (i := 11) rfl))) (hw _ (List.mem_of_getElem? (i := 1) rfl)) (ty := (.array .long)) (by decide) rfl rfl g_a own_d1_9 rfl ?_
  intro h2 W2
  have Z2 : n0 ≤ h2.size := by rw [W2.size]; exact Z1
  have Fw_baseOffsets_a_2 := F_baseOffsets_1.same W2
  have E_2 := E_1.wr W2
  have Fc_2 := Fc_1.other W2 (Or.inr (slot_ne (Or.inl (hw _ (List.mem_of_getElem? (i := 22) rfl))) (Or.inl (hw _ (List.mem_of_getElem? (i := 11) rfl))) (by decide) (t := .int) (t' := (.array .long)) (by decide) (by decide)))
  have F_positions_2 := F_positions_1.other W2 (Or.inr (slot_ne (Or.inl (hw _ (List.mem_of_getElem? (i := 13) rfl))) (Or.inl (hw _ (List.mem_of_getElem? (i := 11) rfl))) (by decide) (t := (.array .long)) (t' := (.array .long)) (by decide) (by decide)))
  have F_maxTimestamps_2 := F_maxTimestamps_1.other W2 (Or.inr (slot_ne (Or.inl (hw _ (List.mem_of_getElem? (i := 15) rfl))) (Or.inl (hw _ (List.mem_of_getElem? (i := 11) rfl))) (by decide) (t := (.array .long)) (t' := (.array .long)) (by decide) (by decide)))
  have V_x_2 := V_x.other W2 (Ne.symm ne_a_x)
  have Kp2 : Keep h0 h2 [a] := Kp1.wr W2 (Or.inl (List.mem_of_getElem? (i := 0) rfl))
  refine OGo.aloadN K (pc' := 13) own_d1_12 rfl rfl rfl ?_
  refine OGo.bipush K (pc' := 15) (z := 64) own_d1_13 rfl rfl ?_
  refine OGo.newP K (pc' := 17) (cap := 64) (cells' := 2) (slots' := 128) (hw _ (List.mem_of_getElem? (i := 9) rfl)) own_d1_15 rfl (by decide) (by decide) (by decide) rfl rfl (by decide) (by decide) ?_
  intro h3 y k_y g3 E3 V_y
  have ne_a_y : a ≠ y := Nat.ne_of_lt (Nat.lt_of_lt_of_le E_2.lt (Nat.le_of_eq g3.symm))
  have ne_x_y : x ≠ y := Nat.ne_of_lt (Nat.lt_of_lt_of_le V_x_2.lt (Nat.le_of_eq g3.symm))
  have g_y : n0 ≤ y := Nat.le_trans Z2 (Nat.le_of_eq g3.symm)
  have sz_y : h0.size ≤ y := Nat.le_trans Kp2.1 (Nat.le_of_eq g3.symm)
  have Z3 : n0 ≤ h3.size := Nat.le_trans Z2 E3.1
  have Kp3 : Keep h0 h3 [a] := Kp2.ext E3
  have E_3 := E_2.ext E3
  have Fc_3 := Fc_2.ext E3
  have Fw_baseOffsets_a_3 := Fw_baseOffsets_a_2.ext E3
  have F_positions_3 := F_positions_2.ext E3
  have F_maxTimestamps_3 := F_maxTimestamps_2.ext E3
  have V_x_3 := V_x_2.ext E3
  refine OGo.putF K (pc' := 20) (host := "") (Or.inl (hw _ (List.mem_of_getElem? (i := 12) rfl))) Via.refl F_positions_3 E_3 (Or.inl (hw _ (List.mem_of_getElem? (i := 13) rfl))) (hw _ (List.mem_of_getElem? (i := 1) rfl)) (ty := (.array .long)) (by decide) rfl rfl g_a own_d1_17 rfl ?_
  intro h4 W4
  have Z4 : n0 ≤ h4.size := by rw [W4.size]; exact Z3
  have Fw_positions_a_4 := F_positions_3.same W4
  have E_4 := E_3.wr W4
  have Fc_4 := Fc_3.other W4 (Or.inr (slot_ne (Or.inl (hw _ (List.mem_of_getElem? (i := 22) rfl))) (Or.inl (hw _ (List.mem_of_getElem? (i := 13) rfl))) (by decide) (t := .int) (t' := (.array .long)) (by decide) (by decide)))
  have Fw_baseOffsets_a_4 := Fw_baseOffsets_a_3.other W4 (Or.inr (slot_ne (Or.inl (hw _ (List.mem_of_getElem? (i := 11) rfl))) (Or.inl (hw _ (List.mem_of_getElem? (i := 13) rfl))) (by decide) (t := (.array .long)) (t' := (.array .long)) (by decide) (by decide)))
  have F_maxTimestamps_4 := F_maxTimestamps_3.other W4 (Or.inr (slot_ne (Or.inl (hw _ (List.mem_of_getElem? (i := 15) rfl))) (Or.inl (hw _ (List.mem_of_getElem? (i := 13) rfl))) (by decide) (t := (.array .long)) (t' := (.array .long)) (by decide) (by decide)))
  have V_x_4 := V_x_3.other W4 (Ne.symm ne_a_x)
  have V_y_4 := V_y.other W4 (Ne.symm ne_a_y)
  have Kp4 : Keep h0 h4 [a] := Kp3.wr W4 (Or.inl (List.mem_of_getElem? (i := 0) rfl))
  refine OGo.aloadN K (pc' := 21) own_d1_20 rfl rfl rfl ?_
  refine OGo.bipush K (pc' := 23) (z := 64) own_d1_21 rfl rfl ?_
  refine OGo.newP K (pc' := 25) (cap := 64) (cells' := 3) (slots' := 192) (hw _ (List.mem_of_getElem? (i := 9) rfl)) own_d1_23 rfl (by decide) (by decide) (by decide) rfl rfl (by decide) (by decide) ?_
  intro h5 z k_z g5 E5 V_z
  have ne_a_z : a ≠ z := Nat.ne_of_lt (Nat.lt_of_lt_of_le E_4.lt (Nat.le_of_eq g5.symm))
  have ne_x_z : x ≠ z := Nat.ne_of_lt (Nat.lt_of_lt_of_le V_x_4.lt (Nat.le_of_eq g5.symm))
  have ne_y_z : y ≠ z := Nat.ne_of_lt (Nat.lt_of_lt_of_le V_y_4.lt (Nat.le_of_eq g5.symm))
  have g_z : n0 ≤ z := Nat.le_trans Z4 (Nat.le_of_eq g5.symm)
  have sz_z : h0.size ≤ z := Nat.le_trans Kp4.1 (Nat.le_of_eq g5.symm)
  have Z5 : n0 ≤ h5.size := Nat.le_trans Z4 E5.1
  have Kp5 : Keep h0 h5 [a] := Kp4.ext E5
  have E_5 := E_4.ext E5
  have Fc_5 := Fc_4.ext E5
  have Fw_baseOffsets_a_5 := Fw_baseOffsets_a_4.ext E5
  have Fw_positions_a_5 := Fw_positions_a_4.ext E5
  have F_maxTimestamps_5 := F_maxTimestamps_4.ext E5
  have V_x_5 := V_x_4.ext E5
  have V_y_5 := V_y_4.ext E5
  refine OGo.putF K (pc' := 28) (host := "") (Or.inl (hw _ (List.mem_of_getElem? (i := 14) rfl))) Via.refl F_maxTimestamps_5 E_5 (Or.inl (hw _ (List.mem_of_getElem? (i := 15) rfl))) (hw _ (List.mem_of_getElem? (i := 1) rfl)) (ty := (.array .long)) (by decide) rfl rfl g_a own_d1_25 rfl ?_
  intro h6 W6
  have Z6 : n0 ≤ h6.size := by rw [W6.size]; exact Z5
  have Fw_maxTimestamps_a_6 := F_maxTimestamps_5.same W6
  have E_6 := E_5.wr W6
  have Fc_6 := Fc_5.other W6 (Or.inr (slot_ne (Or.inl (hw _ (List.mem_of_getElem? (i := 22) rfl))) (Or.inl (hw _ (List.mem_of_getElem? (i := 15) rfl))) (by decide) (t := .int) (t' := (.array .long)) (by decide) (by decide)))
  have Fw_baseOffsets_a_6 := Fw_baseOffsets_a_5.other W6 (Or.inr (slot_ne (Or.inl (hw _ (List.mem_of_getElem? (i := 11) rfl))) (Or.inl (hw _ (List.mem_of_getElem? (i := 15) rfl))) (by decide) (t := (.array .long)) (t' := (.array .long)) (by decide) (by decide)))
  have Fw_positions_a_6 := Fw_positions_a_5.other W6 (Or.inr (slot_ne (Or.inl (hw _ (List.mem_of_getElem? (i := 13) rfl))) (Or.inl (hw _ (List.mem_of_getElem? (i := 15) rfl))) (by decide) (t := (.array .long)) (t' := (.array .long)) (by decide) (by decide)))
  have V_x_6 := V_x_5.other W6 (Ne.symm ne_a_x)
  have V_y_6 := V_y_5.other W6 (Ne.symm ne_a_y)
  have V_z_6 := V_z.other W6 (Ne.symm ne_a_z)
  have Kp6 : Keep h0 h6 [a] := Kp5.wr W6 (Or.inl (List.mem_of_getElem? (i := 0) rfl))
  exact OGo.vret K own_d1_28 (by decide) (by decide) ⟨rfl, x, y, z, ⟨E_6, Fw_baseOffsets_a_6, Fw_positions_a_6, Fw_maxTimestamps_a_6, Fc_6, ⟨_, _, V_x_6.pad (pad_rep [] _ 64), own_len64 _⟩, ⟨_, _, V_y_6.pad (pad_rep [] _ 64), own_len64 _⟩, ⟨_, _, V_z_6.pad (pad_rep [] _ 64), own_len64 _, fun i hi => absurd hi (Nat.not_lt_zero i)⟩, ne_a_x, ne_a_y, ne_a_z, ne_x_y, ne_x_z, ne_y_z, g_a, g_x, g_y, g_z⟩, Kp6⟩
set_option maxRecDepth 65536 in
set_option maxHeartbeats 40000000 in
theorem own_rm4 (l : Launch) (Z : State) (a0 : Array Value) (hw : ∀ d ∈ tables_1, d.before a0 Z = true) (a x y z : Addr) (p1 p2 p3 : Int64) (ts : List Int64) (h0 : Heap) (n0 : Nat) (Z0 : n0 ≤ h0.size) (B : OBI Z n0 h0 a x y z ts) (hn : ts.length < 64) :
    OCon l Z n0 (⟨"com/example/exact_courier/exactcourier/storage/BatchIndex", "add", "(JJJ)V"⟩ : MethodName) prog_94_method_6_code 7 none [] ({ frames := 0, cells := 0, slots := 0, locals := 0 } : Room) #[(.ref a), (.long p1), (.long p2), (.long p3)] h0 (ON fun h => OBI Z n0 h a x y z (ts ++ [p3]) ∧ Keep h0 h [a, x, y, z]) := by
  refine OCon.of (Ls := #[.val (.ref a), .val (.long p1), .second, .val (.long p2), .second, .val (.long p3), .second]) (plainFor_of_name own_pn_1) (fun m => own_entry m rfl) ?_
  intro p e s m below meth c K
  obtain ⟨E, F1, F2, F3, F4, ⟨kx, vx, Vx, lx⟩, ⟨ky, vy, Vy, ly⟩, ⟨kz, vz, Vz, lz, Hz⟩, ne1, ne2, ne3, ne4, ne5, ne6, g_a, g_x, g_y, g_z⟩ := B
  obtain ⟨i1, i2, i3, i4⟩ := own_idx hn
  refine OGo.aloadN K (pc' := 1) own_d4_0 rfl rfl rfl ?_
  refine OGo.getF K (pc' := 4) (host := "") (Or.inl (hw _ (List.mem_of_getElem? (i := 21) rfl))) Via.refl F4 own_d4_1 rfl ?_
  refine OGo.aloadN K (pc' := 5) own_d4_4 rfl rfl rfl ?_
  refine OGo.getF K (pc' := 8) (host := "") (Or.inl (hw _ (List.mem_of_getElem? (i := 10) rfl))) Via.refl F1 own_d4_5 rfl ?_
  refine OGo.alen K (pc' := 9) Vx own_d4_8 rfl ?_
  refine OGo.icmpNe K (pc' := 12) (pcY := 63) own_d4_9 rfl (by decide) rfl (fun hc9 => ?_) (fun hc9 => absurd hc9 (i4 : ¬ (Int32.ofNat ts.length) = (64 : Int32)))
  refine OGo.aloadN K (pc' := 64) own_d4_63 rfl rfl rfl ?_
  refine OGo.getF K (pc' := 67) (host := "") (Or.inl (hw _ (List.mem_of_getElem? (i := 10) rfl))) Via.refl F1 own_d4_64 rfl ?_
  refine OGo.aloadN K (pc' := 68) own_d4_67 rfl rfl rfl ?_
  refine OGo.getF K (pc' := 71) (host := "") (Or.inl (hw _ (List.mem_of_getElem? (i := 21) rfl))) Via.refl F4 own_d4_68 rfl ?_
  refine OGo.lloadN K (pc' := 72) own_d4_71 rfl rfl ?_
  refine OGo.lastore K (pc' := 73) Vx ⟨i1, i2⟩ rfl (by rw [i3, lx]; exact hn) g_x own_d4_72 rfl ?_
  intro h1 W1 Vx_1
  have Z1 : n0 ≤ h1.size := by rw [W1.size]; exact Z0
  have E_1 := E.wr W1
  have F1_1 := F1.other W1 (Or.inl ne1)
  have F2_1 := F2.other W1 (Or.inl ne1)
  have Vy_1 := Vy.other W1 (Ne.symm ne4)
  have F3_1 := F3.other W1 (Or.inl ne1)
  have Vz_1 := Vz.other W1 (Ne.symm ne5)
  have F4_1 := F4.other W1 (Or.inl ne1)
  have Kp1 : Keep h0 h1 [a, x, y, z] := (Keep.refl h0 [a, x, y, z]).wr W1 (Or.inl (List.mem_of_getElem? (i := 1) rfl))
  refine OGo.aloadN K (pc' := 74) own_d4_73 rfl rfl rfl ?_
  refine OGo.getF K (pc' := 77) (host := "") (Or.inl (hw _ (List.mem_of_getElem? (i := 12) rfl))) Via.refl F2_1 own_d4_74 rfl ?_
  refine OGo.aloadN K (pc' := 78) own_d4_77 rfl rfl rfl ?_
  refine OGo.getF K (pc' := 81) (host := "") (Or.inl (hw _ (List.mem_of_getElem? (i := 21) rfl))) Via.refl F4_1 own_d4_78 rfl ?_
  refine OGo.lloadN K (pc' := 82) own_d4_81 rfl rfl ?_
  refine OGo.lastore K (pc' := 83) Vy_1 ⟨i1, i2⟩ rfl (by rw [i3, ly]; exact hn) g_y own_d4_82 rfl ?_
  intro h2 W2 Vy_2
  have Z2 : n0 ≤ h2.size := by rw [W2.size]; exact Z1
  have E_2 := E_1.wr W2
  have F1_2 := F1_1.other W2 (Or.inl ne2)
  have Vx_2 := Vx_1.other W2 ne4
  have F2_2 := F2_1.other W2 (Or.inl ne2)
  have F3_2 := F3_1.other W2 (Or.inl ne2)
  have Vz_2 := Vz_1.other W2 (Ne.symm ne6)
  have F4_2 := F4_1.other W2 (Or.inl ne2)
  have Kp2 : Keep h0 h2 [a, x, y, z] := Kp1.wr W2 (Or.inl (List.mem_of_getElem? (i := 2) rfl))
  refine OGo.aloadN K (pc' := 84) own_d4_83 rfl rfl rfl ?_
  refine OGo.getF K (pc' := 87) (host := "") (Or.inl (hw _ (List.mem_of_getElem? (i := 14) rfl))) Via.refl F3_2 own_d4_84 rfl ?_
  refine OGo.aloadN K (pc' := 88) own_d4_87 rfl rfl rfl ?_
  refine OGo.getF K (pc' := 91) (host := "") (Or.inl (hw _ (List.mem_of_getElem? (i := 21) rfl))) Via.refl F4_2 own_d4_88 rfl ?_
  refine OGo.lload K (pc' := 93) own_d4_91 rfl rfl ?_
  refine OGo.lastore K (pc' := 94) Vz_2 ⟨i1, i2⟩ rfl (by rw [i3, lz]; exact hn) g_z own_d4_93 rfl ?_
  intro h3 W3 Vz_3
  have Z3 : n0 ≤ h3.size := by rw [W3.size]; exact Z2
  have E_3 := E_2.wr W3
  have F1_3 := F1_2.other W3 (Or.inl ne3)
  have Vx_3 := Vx_2.other W3 ne5
  have F2_3 := F2_2.other W3 (Or.inl ne3)
  have Vy_3 := Vy_2.other W3 ne6
  have F3_3 := F3_2.other W3 (Or.inl ne3)
  have F4_3 := F4_2.other W3 (Or.inl ne3)
  have Kp3 : Keep h0 h3 [a, x, y, z] := Kp2.wr W3 (Or.inl (List.mem_of_getElem? (i := 3) rfl))
  refine OGo.aloadN K (pc' := 95) own_d4_94 rfl rfl rfl ?_
  refine OGo.dup K (pc' := 96) own_d4_95 rfl rfl ?_
  refine OGo.getF K (pc' := 99) (host := "") (Or.inl (hw _ (List.mem_of_getElem? (i := 21) rfl))) Via.refl F4_3 own_d4_96 rfl ?_
  refine OGo.iconst K (pc' := 100) (z := 1) own_d4_99 rfl rfl ?_
  refine OGo.iadd K (pc' := 101) own_d4_100 rfl ?_
  refine OGo.putF K (pc' := 104) (host := "") (Or.inl (hw _ (List.mem_of_getElem? (i := 21) rfl))) Via.refl F4_3 E_3 (Or.inl (hw _ (List.mem_of_getElem? (i := 22) rfl))) (hw _ (List.mem_of_getElem? (i := 1) rfl)) (ty := .int) (by decide) rfl rfl g_a own_d4_101 rfl ?_
  intro h4 W4
  have Z4 : n0 ≤ h4.size := by rw [W4.size]; exact Z3
  have Fw_count_a_4 := F4_3.same W4
  have E_4 := E_3.wr W4
  have F1_4 := F1_3.other W4 (Or.inr (slot_ne (Or.inl (hw _ (List.mem_of_getElem? (i := 11) rfl))) (Or.inl (hw _ (List.mem_of_getElem? (i := 22) rfl))) (by decide) (t := (.array .long)) (t' := .int) (by decide) (by decide)))
  have Vx_4 := Vx_3.other W4 (Ne.symm ne1)
  have F2_4 := F2_3.other W4 (Or.inr (slot_ne (Or.inl (hw _ (List.mem_of_getElem? (i := 13) rfl))) (Or.inl (hw _ (List.mem_of_getElem? (i := 22) rfl))) (by decide) (t := (.array .long)) (t' := .int) (by decide) (by decide)))
  have Vy_4 := Vy_3.other W4 (Ne.symm ne2)
  have F3_4 := F3_3.other W4 (Or.inr (slot_ne (Or.inl (hw _ (List.mem_of_getElem? (i := 15) rfl))) (Or.inl (hw _ (List.mem_of_getElem? (i := 22) rfl))) (by decide) (t := (.array .long)) (t' := .int) (by decide) (by decide)))
  have Vz_4 := Vz_3.other W4 (Ne.symm ne3)
  have Kp4 : Keep h0 h4 [a, x, y, z] := Kp3.wr W4 (Or.inl (List.mem_of_getElem? (i := 0) rfl))
  exact OGo.vret K own_d4_104 (by decide) (by decide) ⟨rfl, ⟨E_4, F1_4, F2_4, F3_4, (by rw [List.length_append, show ts.length + [p3].length = ts.length + 1 from rfl, inc_ofNat]; exact Fw_count_a_4), ⟨_, _, Vx_4, by rw [List.length_set]; exact lx⟩, ⟨_, _, Vy_4, by rw [List.length_set]; exact ly⟩, ⟨_, _, Vz_4, by rw [List.length_set]; exact lz, by rw [i3]; exact own_push lz hn Hz⟩, ne1, ne2, ne3, ne4, ne5, ne6, g_a, g_x, g_y, g_z⟩, Kp4⟩
set_option maxRecDepth 65536 in
set_option maxHeartbeats 40000000 in
theorem own_rm3 (l : Launch) (Z : State) (a0 : Array Value) (hw : ∀ d ∈ tables_1, d.before a0 Z = true) (a x y z : Addr) (q : Int64) (ts : List Int64) (h0 : Heap) (n0 : Nat) (Z0 : n0 ≤ h0.size) (B : OBI Z n0 h0 a x y z ts) (hn : ts.length < 64) :
    OCon l Z n0 (⟨"com/example/exact_courier/exactcourier/storage/BatchIndex", "firstWithMaxTimestampAtLeast", "(J)I"⟩ : MethodName) prog_94_method_8_code 5 (some .int) [] ({ frames := 0, cells := 0, slots := 0, locals := 0 } : Room) #[(.ref a), (.long q)] h0 (OV fun w h => w = .int (own_first ts q 0) ∧ h = h0) := by
  refine OCon.of (Ls := #[.val (.ref a), .val (.long q), .second, .unset, .unset]) (plainFor_of_name own_pn_1) (fun m => own_entry m rfl) ?_
  intro p e s m below meth c K
  obtain ⟨E, F1, F2, F3, F4, -, -, ⟨kz, vz, Vz, lz, Hz⟩, -⟩ := B
  have loop : ∀ (r : List Int64) (i : Nat) (hr : i + r.length = ts.length) (Hr : ∀ j (hj : j < r.length), vz.getD (i + j) (.long 0) = .long r[j]) (he : own_first ts q 0 = own_first r q i), OGo p l e ({ frames := 0, cells := 0, slots := 0, locals := 0 } : Room) s m #[(.ref a), (.long q)] below meth c n0 (OV fun w h => w = .int (own_first ts q 0) ∧ h = h0) h0 0 0 5 #[.val (.ref a), .val (.long q), .second, .val (.int (-1 : Int32)), .val (.int (Int32.ofNat i))] [] := by
    intro r
    induction r with
    | nil =>
      intro i hr Hr he
      have hi : i = ts.length := by simpa using hr
      refine OGo.iload K (pc' := 7) own_d3_5 rfl rfl ?_
      refine OGo.aloadN K (pc' := 8) own_d3_7 rfl rfl rfl ?_
      refine OGo.getF K (pc' := 11) (host := "") (Or.inl (hw _ (List.mem_of_getElem? (i := 21) rfl))) Via.refl F4 own_d3_8 rfl ?_
      refine OGo.icmpGe K (pc' := 14) (pcY := 38) own_d3_11 rfl (by decide) rfl (fun hc11 => ?_) (fun hc11 => absurd hc11 (by rw [hi]; exact Int32.lt_irrefl : ¬ (Int32.ofNat i) < (Int32.ofNat ts.length)))
      refine OGo.iloadN K (pc' := 39) own_d3_38 rfl rfl ?_
      exact OGo.iret K own_d3_39 (by decide) (by decide) ⟨_, rfl, by rw [he]; rfl, rfl⟩
    | cons t r ih =>
      intro i hr Hr he
      have hl : i < ts.length := by rw [List.length_cons] at hr; omega
      obtain ⟨i1, i2, i3, i4⟩ := own_idx (Nat.lt_trans hl hn)
      refine OGo.iload K (pc' := 7) own_d3_5 rfl rfl ?_
      refine OGo.aloadN K (pc' := 8) own_d3_7 rfl rfl rfl ?_
      refine OGo.getF K (pc' := 11) (host := "") (Or.inl (hw _ (List.mem_of_getElem? (i := 21) rfl))) Via.refl F4 own_d3_8 rfl ?_
      refine OGo.icmpGe K (pc' := 14) (pcY := 38) own_d3_11 rfl (by decide) rfl (fun hc11 => absurd (own_olt hl (Nat.lt_trans hn (by decide)) : (Int32.ofNat i) < (Int32.ofNat ts.length)) hc11) (fun hc11 => ?_)
      refine OGo.aloadN K (pc' := 15) own_d3_14 rfl rfl rfl ?_
      refine OGo.getF K (pc' := 18) (host := "") (Or.inl (hw _ (List.mem_of_getElem? (i := 14) rfl))) Via.refl F3 own_d3_15 rfl ?_
      refine OGo.iload K (pc' := 20) own_d3_18 rfl rfl ?_
      refine OGo.laload K (pc' := 21) (v := (.long t)) Vz ⟨i1, i2⟩ (by rw [i3]; have := Hr 0 (by simp); simpa using this) own_d3_20 rfl ?_
      refine OGo.lloadN K (pc' := 22) own_d3_21 rfl rfl ?_
      refine OGo.lcmpLt K (pc' := 26) (pcY := 32) own_d3_22 rfl own_d3_23 rfl (by decide) rfl (fun hc => ?_) (fun hc => ?_)
      · skip
        refine OGo.iinc K (pc' := 35) (z := 1) (Ls' := #[.val (.ref a), .val (.long q), .second, .val (.int (-1 : Int32)), .val (.int ((Int32.ofNat i) + (1 : Int32)))]) own_d3_32 rfl rfl rfl rfl ?_
        refine OGo.goto K (pc' := 5) own_d3_35 (by decide) rfl ?_
        rw [← inc_ofNat]
        exact ih (i + 1) (by rw [List.length_cons] at hr; omega) (fun j hj => by have := Hr (j + 1) (by simpa using hj); rw [show i + 1 + j = i + (j + 1) by omega, this]; rfl) (by rw [he, own_first, if_pos hc])
      · skip
        refine OGo.iload K (pc' := 28) own_d3_26 rfl rfl ?_
        refine OGo.istoreN K (pc' := 29) (Ls' := #[.val (.ref a), .val (.long q), .second, .val (.int (Int32.ofNat i)), .val (.int (Int32.ofNat i))]) own_d3_28 rfl rfl ?_
        refine OGo.goto K (pc' := 38) own_d3_29 (by decide) rfl ?_
        refine OGo.iloadN K (pc' := 39) own_d3_38 rfl rfl ?_
        exact OGo.iret K own_d3_39 (by decide) (by decide) ⟨_, rfl, by rw [he, own_first, if_neg hc], rfl⟩
  refine OGo.iconst K (pc' := 1) (z := (-1)) own_d3_0 rfl rfl ?_
  refine OGo.istoreN K (pc' := 2) (Ls' := #[.val (.ref a), .val (.long q), .second, .val (.int (-1 : Int32)), .unset]) own_d3_1 rfl rfl ?_
  refine OGo.iconst K (pc' := 3) (z := 0) own_d3_2 rfl rfl ?_
  refine OGo.istore K (pc' := 5) (Ls' := #[.val (.ref a), .val (.long q), .second, .val (.int (-1 : Int32)), .val (.int (0 : Int32))]) own_d3_3 rfl rfl ?_
  exact loop ts 0 (by simp) (fun j hj => by rw [Nat.zero_add]; exact Hz j hj) rfl
set_option maxRecDepth 65536 in
set_option maxHeartbeats 40000000 in
theorem own_rm0 (l : Launch) (Z : State) (a0 : Array Value) (hw : ∀ d ∈ tables_1, d.before a0 Z = true) (ws : List Jvm.Cond) (v0 : Int32) (t0 t1 t2 v4 : Int64) (v5 : Int32) (h0 : Heap) (n0 : Nat) (Z0 : n0 ≤ h0.size)  :
    OCon l Z n0 x code maxLocals ret ws room_1 #[(.int v0), (.long t0), (.long t1), (.long t2), (.long v4), (.int v5)] h0 (OV fun w h => w = .int 1) := by
  refine OCon.of (Ls := #[.val (.int v0), .val (.long t0), .second, .val (.long t1), .second, .val (.long t2), .second, .val (.long v4), .second, .val (.int v5), .unset, .unset, .unset, .unset, .unset, .unset, .unset, .unset, .unset, .unset]) (plainFor_of_name own_pn_0) (fun m => own_entry m rfl) ?_
  intro p e s m below meth c K
  refine OGo.iloadN K (pc' := 1) at_0 rfl rfl ?_
  refine OGo.iconst K (pc' := 2) (z := 3) at_1 rfl rfl ?_
  refine OGo.iand K (pc' := 3) at_2 rfl ?_
  refine OGo.istore K (pc' := 5) (Ls' := #[.val (.int v0), .val (.long t0), .second, .val (.long t1), .second, .val (.long t2), .second, .val (.long v4), .second, .val (.int v5), .val (.int (v0 &&& (3 : Int32))), .unset, .unset, .unset, .unset, .unset, .unset, .unset, .unset, .unset]) at_3 rfl rfl ?_
  refine OGo.newO K (pc' := 8) (cells' := 1) (slots' := 4) (hw _ (List.mem_of_getElem? (i := 0) rfl)) (hw _ (List.mem_of_getElem? (i := 1) rfl)) (hw _ (List.mem_of_getElem? (i := 2) rfl)) at_5 rfl rfl rfl (by decide) (by decide) ?_
  intro h1 a g1 E1 A1 D1
  have g_a : n0 ≤ a := Nat.le_trans Z0 (Nat.le_of_eq g1.symm)
  have Z1 : n0 ≤ h1.size := Nat.le_trans Z0 E1.1
  have F_baseOffsets_a : Fld Z h1 a "com/example/exact_courier/exactcourier/storage/BatchIndex" "baseOffsets" "[J" .null := D1 (Or.inl (hw _ (List.mem_of_getElem? (i := 11) rfl))) (ty := (.array .long)) (by decide)
  have F_positions_a : Fld Z h1 a "com/example/exact_courier/exactcourier/storage/BatchIndex" "positions" "[J" .null := D1 (Or.inl (hw _ (List.mem_of_getElem? (i := 13) rfl))) (ty := (.array .long)) (by decide)
  have F_maxTimestamps_a : Fld Z h1 a "com/example/exact_courier/exactcourier/storage/BatchIndex" "maxTimestamps" "[J" .null := D1 (Or.inl (hw _ (List.mem_of_getElem? (i := 15) rfl))) (ty := (.array .long)) (by decide)
  have F_count_a : Fld Z h1 a "com/example/exact_courier/exactcourier/storage/BatchIndex" "count" "I" (.int (0 : Int32)) := D1 (Or.inl (hw _ (List.mem_of_getElem? (i := 22) rfl))) (ty := .int) (by decide)
  refine OGo.dup K (pc' := 9) at_8 rfl rfl ?_
  refine OGo.callIN K (pc' := 12) (y := (⟨"com/example/exact_courier/exactcourier/storage/BatchIndex", "<init>", "()V"⟩ : MethodName)) (a := a) (W := 1) (cells' := 4) (slots' := 196) (argsL := []) (st := [(.ref a)]) rfl (hw _ (List.mem_of_getElem? (i := 3) rfl)) (hw _ (List.mem_of_getElem? (i := 4) rfl)) (hw _ (List.mem_of_getElem? (i := 2) rfl)) (hw _ (List.mem_of_getElem? (i := 5) rfl)) (by decide) (own_rm1 l Z a0 hw a h1 n0 Z1 A1 F_baseOffsets_a F_positions_a F_maxTimestamps_a F_count_a g_a) at_9 rfl rfl (lenOf own_pd1 rfl) (by show 2 * 0 + _ ≤ _; exact Nat.le_of_eq rfl) (by decide) (by decide) rfl rfl (by decide) (by decide) ?_
  rintro h2 ⟨x1, y1, z1, B2, K2⟩
  have Z2 : n0 ≤ h2.size := Nat.le_trans Z1 K2.1
  refine OGo.astore K (pc' := 14) (Ls' := #[.val (.int v0), .val (.long t0), .second, .val (.long t1), .second, .val (.long t2), .second, .val (.long v4), .second, .val (.int v5), .val (.int (v0 &&& (3 : Int32))), .val (.ref a), .unset, .unset, .unset, .unset, .unset, .unset, .unset, .unset]) at_12 rfl rfl rfl ?_
  generalize hcnt : v0 &&& (3 : Int32) = cnt
  have h3 := hcnt ▸ own_and3 v0
  rcases h3 with rfl | rfl | rfl | rfl
  · skip
    refine OGo.iload K (pc' := 16) at_14 rfl rfl ?_
    refine OGo.ifLe K (pc' := 19) (pcY := 27) at_16 rfl (by decide) rfl (fun hc16 => ?_) (fun hc16 => absurd hc16 (by decide : ¬ (0 : Int32) < (0 : Int32)))
    refine OGo.iload K (pc' := 29) at_27 rfl rfl ?_
    refine OGo.iconst K (pc' := 30) (z := 1) at_29 rfl rfl ?_
    refine OGo.icmpLe K (pc' := 33) (pcY := 43) at_30 rfl (by decide) rfl (fun hc30 => ?_) (fun hc30 => absurd hc30 (by decide : ¬ (1 : Int32) < (0 : Int32)))
    refine OGo.iload K (pc' := 45) at_43 rfl rfl ?_
    refine OGo.iconst K (pc' := 46) (z := 2) at_45 rfl rfl ?_
    refine OGo.icmpLe K (pc' := 49) (pcY := 62) at_46 rfl (by decide) rfl (fun hc46 => ?_) (fun hc46 => absurd hc46 (by decide : ¬ (2 : Int32) < (0 : Int32)))
    refine OGo.iload K (pc' := 64) at_62 rfl rfl ?_
    refine OGo.iconst K (pc' := 65) (z := 3) at_64 rfl rfl ?_
    refine OGo.iand K (pc' := 66) at_65 rfl ?_
    refine OGo.istore K (pc' := 68) (Ls' := #[.val (.int v0), .val (.long t0), .second, .val (.long t1), .second, .val (.long t2), .second, .val (.long v4), .second, .val (.int v5), .val (.int (0 : Int32)), .val (.ref a), .val (.int (v5 &&& (3 : Int32))), .unset, .unset, .unset, .unset, .unset, .unset, .unset]) at_66 rfl rfl ?_
    have J : ∀ base : Int64, OGo p l e room_1 s m #[(.int v0), (.long t0), (.long t1), (.long t2), (.long v4), (.int v5)] below meth c n0 (OV fun w h => w = .int 1) h2 4 196 108 #[.val (.int v0), .val (.long t0), .second, .val (.long t1), .second, .val (.long t2), .second, .val (.long v4), .second, .val (.int v5), .val (.int (0 : Int32)), .val (.ref a), .val (.int (v5 &&& (3 : Int32))), .val (.long base), .second, .unset, .unset, .unset, .unset, .unset] [] := by
      intro base
      refine OGo.iload K (pc' := 110) at_108 rfl rfl ?_
      refine OGo.iconst K (pc' := 111) (z := 2) at_110 rfl rfl ?_
      refine OGo.ishr K (pc' := 112) at_111 rfl ?_
      refine OGo.iconst K (pc' := 113) (z := 3) at_112 rfl rfl ?_
      refine OGo.iand K (pc' := 114) at_113 rfl ?_
      refine OGo.iconst K (pc' := 115) (z := 1) at_114 rfl rfl ?_
      refine OGo.isub K (pc' := 116) at_115 rfl ?_
      refine OGo.i2l K (pc' := 117) at_116 rfl ?_
      refine OGo.lstore K (pc' := 119) (Ls' := #[.val (.int v0), .val (.long t0), .second, .val (.long t1), .second, .val (.long t2), .second, .val (.long v4), .second, .val (.int v5), .val (.int (0 : Int32)), .val (.ref a), .val (.int (v5 &&& (3 : Int32))), .val (.long base), .second, .val (.long ((((v5 >>> ((2 : Int32) &&& 31)) &&& (3 : Int32)) - (1 : Int32)).toInt64)), .second, .unset, .unset, .unset]) at_117 rfl rfl ?_
      refine OGo.lload K (pc' := 121) at_119 rfl rfl ?_
      refine OGo.lload K (pc' := 123) at_121 rfl rfl ?_
      refine OGo.ladd K (pc' := 124) at_123 rfl ?_
      refine OGo.lstore K (pc' := 126) (Ls' := #[.val (.int v0), .val (.long t0), .second, .val (.long t1), .second, .val (.long t2), .second, .val (.long v4), .second, .val (.int v5), .val (.int (0 : Int32)), .val (.ref a), .val (.int (v5 &&& (3 : Int32))), .val (.long base), .second, .val (.long ((((v5 >>> ((2 : Int32) &&& 31)) &&& (3 : Int32)) - (1 : Int32)).toInt64)), .second, .val (.long (base + ((((v5 >>> ((2 : Int32) &&& 31)) &&& (3 : Int32)) - (1 : Int32)).toInt64))), .second, .unset]) at_124 rfl rfl ?_
      refine OGo.iload K (pc' := 128) at_126 rfl rfl ?_
      refine OGo.ifLe K (pc' := 131) (pcY := 144) at_128 rfl (by decide) rfl (fun hc128 => ?_) (fun hc128 => absurd hc128 (by decide : ¬ (0 : Int32) < (0 : Int32)))
      refine OGo.iload K (pc' := 146) at_144 rfl rfl ?_
      refine OGo.iconst K (pc' := 147) (z := 1) at_146 rfl rfl ?_
      refine OGo.icmpLe K (pc' := 150) (pcY := 163) at_147 rfl (by decide) rfl (fun hc147 => ?_) (fun hc147 => absurd hc147 (by decide : ¬ (1 : Int32) < (0 : Int32)))
      refine OGo.iload K (pc' := 165) at_163 rfl rfl ?_
      refine OGo.iconst K (pc' := 166) (z := 2) at_165 rfl rfl ?_
      refine OGo.icmpLe K (pc' := 169) (pcY := 183) at_166 rfl (by decide) rfl (fun hc166 => ?_) (fun hc166 => absurd hc166 (by decide : ¬ (2 : Int32) < (0 : Int32)))
      refine OGo.iconst K (pc' := 184) (z := (-1)) at_183 rfl rfl ?_
      refine OGo.istore K (pc' := 186) (Ls' := #[.val (.int v0), .val (.long t0), .second, .val (.long t1), .second, .val (.long t2), .second, .val (.long v4), .second, .val (.int v5), .val (.int (0 : Int32)), .val (.ref a), .val (.int (v5 &&& (3 : Int32))), .val (.long base), .second, .val (.long ((((v5 >>> ((2 : Int32) &&& 31)) &&& (3 : Int32)) - (1 : Int32)).toInt64)), .second, .val (.long (base + ((((v5 >>> ((2 : Int32) &&& 31)) &&& (3 : Int32)) - (1 : Int32)).toInt64))), .second, .val (.int (-1 : Int32))]) at_184 rfl rfl ?_
      refine OGo.aload K (pc' := 188) at_186 rfl rfl rfl ?_
      refine OGo.lload K (pc' := 190) at_188 rfl rfl ?_
      refine OGo.callVV K (pc' := 193) (y := (⟨"com/example/exact_courier/exactcourier/storage/BatchIndex", "firstWithMaxTimestampAtLeast", "(J)I"⟩ : MethodName)) (z := (⟨"com/example/exact_courier/exactcourier/storage/BatchIndex", "firstWithMaxTimestampAtLeast", "(J)I"⟩ : MethodName)) (a := a) (W := 0) (cells' := 4) (slots' := 196) (argsL := [(.long (base + ((((v5 >>> ((2 : Int32) &&& 31)) &&& (3 : Int32)) - (1 : Int32)).toInt64)))]) (st := []) B2.1 (hw _ (List.mem_of_getElem? (i := 16) rfl)) (hw _ (List.mem_of_getElem? (i := 17) rfl)) (notFace_of_selects (args := #[]) (mvT K.hZ (hw _ (List.mem_of_getElem? (i := 19) rfl)))) (hw _ (List.mem_of_getElem? (i := 19) rfl)) (hw _ (List.mem_of_getElem? (i := 18) rfl)) (hw _ (List.mem_of_getElem? (i := 2) rfl)) (hw _ (List.mem_of_getElem? (i := 20) rfl)) (by decide) (own_rm3 l Z a0 hw a x1 y1 z1 (base + ((((v5 >>> ((2 : Int32) &&& 31)) &&& (3 : Int32)) - (1 : Int32)).toInt64)) [] h2 n0 Z2 B2 (Nat.le_of_ble_eq_true rfl)) at_190 rfl rfl (lenOf own_pd2 rfl) (by show 2 * 0 + _ ≤ _; exact Nat.le_of_eq rfl) (by decide) (by decide) rfl rfl (by decide) (by decide) ?_
      rintro _ h3 ⟨rfl, e3⟩
      rw [e3]
      show OGo p l e _ s m _ below meth c n0 _ h2 4 196 193 #[.val (.int v0), .val (.long t0), .second, .val (.long t1), .second, .val (.long t2), .second, .val (.long v4), .second, .val (.int v5), .val (.int (0 : Int32)), .val (.ref a), .val (.int (v5 &&& (3 : Int32))), .val (.long base), .second, .val (.long ((((v5 >>> ((2 : Int32) &&& 31)) &&& (3 : Int32)) - (1 : Int32)).toInt64)), .second, .val (.long (base + ((((v5 >>> ((2 : Int32) &&& 31)) &&& (3 : Int32)) - (1 : Int32)).toInt64))), .second, .val (.int (-1 : Int32))] [(.int (own_first [] (base + ((((v5 >>> ((2 : Int32) &&& 31)) &&& (3 : Int32)) - (1 : Int32)).toInt64)) 0))]
      refine OGo.iload K (pc' := 195) at_193 rfl rfl ?_
      refine OGo.icmpNe K (pc' := 198) (pcY := 202) at_195 rfl (by decide) rfl (fun hc195 => absurd (by simp [own_first] : (own_first [] (base + ((((v5 >>> ((2 : Int32) &&& 31)) &&& (3 : Int32)) - (1 : Int32)).toInt64)) 0) = (-1 : Int32)) hc195) (fun hc195 => ?_)
      refine OGo.iconst K (pc' := 199) (z := 1) at_198 rfl rfl ?_
      refine OGo.goto K (pc' := 203) at_199 (by decide) rfl ?_
      exact OGo.ret K at_203 rfl (Or.inl ⟨rfl, by simp, _, rfl⟩) (by decide) (by decide) ⟨_, rfl, rfl⟩
    refine OGo.iload K (pc' := 70) at_68 rfl rfl ?_
    refine OGo.ifNe K (pc' := 73) (pcY := 80) at_70 rfl (by decide) rfl (fun hc70 => ?_) (fun hc70 => ?_)
    rotate_left
    · skip
      refine OGo.lload K (pc' := 75) at_73 rfl rfl ?_
      refine OGo.lstore K (pc' := 77) (Ls' := #[.val (.int v0), .val (.long t0), .second, .val (.long t1), .second, .val (.long t2), .second, .val (.long v4), .second, .val (.int v5), .val (.int (0 : Int32)), .val (.ref a), .val (.int (v5 &&& (3 : Int32))), .val (.long v4), .second, .unset, .unset, .unset, .unset, .unset]) at_75 rfl rfl ?_
      refine OGo.goto K (pc' := 108) at_77 (by decide) rfl ?_
      exact J _
    refine OGo.iload K (pc' := 82) at_80 rfl rfl ?_
    refine OGo.iconst K (pc' := 83) (z := 1) at_82 rfl rfl ?_
    refine OGo.icmpNe K (pc' := 86) (pcY := 92) at_83 rfl (by decide) rfl (fun hc83 => ?_) (fun hc83 => ?_)
    rotate_left
    · skip
      refine OGo.lloadN K (pc' := 87) at_86 rfl rfl ?_
      refine OGo.lstore K (pc' := 89) (Ls' := #[.val (.int v0), .val (.long t0), .second, .val (.long t1), .second, .val (.long t2), .second, .val (.long v4), .second, .val (.int v5), .val (.int (0 : Int32)), .val (.ref a), .val (.int (v5 &&& (3 : Int32))), .val (.long t0), .second, .unset, .unset, .unset, .unset, .unset]) at_87 rfl rfl ?_
      refine OGo.goto K (pc' := 108) at_89 (by decide) rfl ?_
      exact J _
    refine OGo.iload K (pc' := 94) at_92 rfl rfl ?_
    refine OGo.iconst K (pc' := 95) (z := 2) at_94 rfl rfl ?_
    refine OGo.icmpNe K (pc' := 98) (pcY := 104) at_95 rfl (by decide) rfl (fun hc95 => ?_) (fun hc95 => ?_)
    rotate_left
    · skip
      refine OGo.lloadN K (pc' := 99) at_98 rfl rfl ?_
      refine OGo.lstore K (pc' := 101) (Ls' := #[.val (.int v0), .val (.long t0), .second, .val (.long t1), .second, .val (.long t2), .second, .val (.long v4), .second, .val (.int v5), .val (.int (0 : Int32)), .val (.ref a), .val (.int (v5 &&& (3 : Int32))), .val (.long t1), .second, .unset, .unset, .unset, .unset, .unset]) at_99 rfl rfl ?_
      refine OGo.goto K (pc' := 108) at_101 (by decide) rfl ?_
      exact J _
    refine OGo.lload K (pc' := 106) at_104 rfl rfl ?_
    refine OGo.lstore K (pc' := 108) (Ls' := #[.val (.int v0), .val (.long t0), .second, .val (.long t1), .second, .val (.long t2), .second, .val (.long v4), .second, .val (.int v5), .val (.int (0 : Int32)), .val (.ref a), .val (.int (v5 &&& (3 : Int32))), .val (.long t2), .second, .unset, .unset, .unset, .unset, .unset]) at_106 rfl rfl ?_
    exact J _
  · skip
    refine OGo.iload K (pc' := 16) at_14 rfl rfl ?_
    refine OGo.ifLe K (pc' := 19) (pcY := 27) at_16 rfl (by decide) rfl (fun hc16 => absurd (by decide : (0 : Int32) < (1 : Int32)) hc16) (fun hc16 => ?_)
    refine OGo.aload K (pc' := 21) at_19 rfl rfl rfl ?_
    refine OGo.lconst K (pc' := 22) (z := 0) at_21 rfl rfl ?_
    refine OGo.lconst K (pc' := 23) (z := 0) at_22 rfl rfl ?_
    refine OGo.lloadN K (pc' := 24) at_23 rfl rfl ?_
    refine OGo.callVN K (pc' := 27) (y := (⟨"com/example/exact_courier/exactcourier/storage/BatchIndex", "add", "(JJJ)V"⟩ : MethodName)) (z := (⟨"com/example/exact_courier/exactcourier/storage/BatchIndex", "add", "(JJJ)V"⟩ : MethodName)) (a := a) (W := 0) (cells' := 4) (slots' := 196) (argsL := [(.long (0 : Int64)), (.long (0 : Int64)), (.long t0)]) (st := []) B2.1 (hw _ (List.mem_of_getElem? (i := 23) rfl)) (hw _ (List.mem_of_getElem? (i := 24) rfl)) (notFace_of_selects (args := #[]) (mvT K.hZ (hw _ (List.mem_of_getElem? (i := 26) rfl)))) (hw _ (List.mem_of_getElem? (i := 26) rfl)) (hw _ (List.mem_of_getElem? (i := 25) rfl)) (hw _ (List.mem_of_getElem? (i := 2) rfl)) (hw _ (List.mem_of_getElem? (i := 27) rfl)) (by decide) (own_rm4 l Z a0 hw a x1 y1 z1 (0 : Int64) (0 : Int64) t0 [] h2 n0 Z2 B2 (Nat.le_of_ble_eq_true rfl)) at_24 rfl rfl (lenOf own_pd3 rfl) (by show 2 * 0 + _ ≤ _; exact Nat.le_of_eq rfl) (by decide) (by decide) rfl rfl (by decide) (by decide) ?_
    rintro h4 ⟨B4, K4⟩
    have Z4 : n0 ≤ h4.size := Nat.le_trans Z2 K4.1
    refine OGo.iload K (pc' := 29) at_27 rfl rfl ?_
    refine OGo.iconst K (pc' := 30) (z := 1) at_29 rfl rfl ?_
    refine OGo.icmpLe K (pc' := 33) (pcY := 43) at_30 rfl (by decide) rfl (fun hc30 => ?_) (fun hc30 => absurd hc30 (by decide : ¬ (1 : Int32) < (1 : Int32)))
    refine OGo.iload K (pc' := 45) at_43 rfl rfl ?_
    refine OGo.iconst K (pc' := 46) (z := 2) at_45 rfl rfl ?_
    refine OGo.icmpLe K (pc' := 49) (pcY := 62) at_46 rfl (by decide) rfl (fun hc46 => ?_) (fun hc46 => absurd hc46 (by decide : ¬ (2 : Int32) < (1 : Int32)))
    refine OGo.iload K (pc' := 64) at_62 rfl rfl ?_
    refine OGo.iconst K (pc' := 65) (z := 3) at_64 rfl rfl ?_
    refine OGo.iand K (pc' := 66) at_65 rfl ?_
    refine OGo.istore K (pc' := 68) (Ls' := #[.val (.int v0), .val (.long t0), .second, .val (.long t1), .second, .val (.long t2), .second, .val (.long v4), .second, .val (.int v5), .val (.int (1 : Int32)), .val (.ref a), .val (.int (v5 &&& (3 : Int32))), .unset, .unset, .unset, .unset, .unset, .unset, .unset]) at_66 rfl rfl ?_
    have J : ∀ base : Int64, OGo p l e room_1 s m #[(.int v0), (.long t0), (.long t1), (.long t2), (.long v4), (.int v5)] below meth c n0 (OV fun w h => w = .int 1) h4 4 196 108 #[.val (.int v0), .val (.long t0), .second, .val (.long t1), .second, .val (.long t2), .second, .val (.long v4), .second, .val (.int v5), .val (.int (1 : Int32)), .val (.ref a), .val (.int (v5 &&& (3 : Int32))), .val (.long base), .second, .unset, .unset, .unset, .unset, .unset] [] := by
      intro base
      refine OGo.iload K (pc' := 110) at_108 rfl rfl ?_
      refine OGo.iconst K (pc' := 111) (z := 2) at_110 rfl rfl ?_
      refine OGo.ishr K (pc' := 112) at_111 rfl ?_
      refine OGo.iconst K (pc' := 113) (z := 3) at_112 rfl rfl ?_
      refine OGo.iand K (pc' := 114) at_113 rfl ?_
      refine OGo.iconst K (pc' := 115) (z := 1) at_114 rfl rfl ?_
      refine OGo.isub K (pc' := 116) at_115 rfl ?_
      refine OGo.i2l K (pc' := 117) at_116 rfl ?_
      refine OGo.lstore K (pc' := 119) (Ls' := #[.val (.int v0), .val (.long t0), .second, .val (.long t1), .second, .val (.long t2), .second, .val (.long v4), .second, .val (.int v5), .val (.int (1 : Int32)), .val (.ref a), .val (.int (v5 &&& (3 : Int32))), .val (.long base), .second, .val (.long ((((v5 >>> ((2 : Int32) &&& 31)) &&& (3 : Int32)) - (1 : Int32)).toInt64)), .second, .unset, .unset, .unset]) at_117 rfl rfl ?_
      refine OGo.lload K (pc' := 121) at_119 rfl rfl ?_
      refine OGo.lload K (pc' := 123) at_121 rfl rfl ?_
      refine OGo.ladd K (pc' := 124) at_123 rfl ?_
      refine OGo.lstore K (pc' := 126) (Ls' := #[.val (.int v0), .val (.long t0), .second, .val (.long t1), .second, .val (.long t2), .second, .val (.long v4), .second, .val (.int v5), .val (.int (1 : Int32)), .val (.ref a), .val (.int (v5 &&& (3 : Int32))), .val (.long base), .second, .val (.long ((((v5 >>> ((2 : Int32) &&& 31)) &&& (3 : Int32)) - (1 : Int32)).toInt64)), .second, .val (.long (base + ((((v5 >>> ((2 : Int32) &&& 31)) &&& (3 : Int32)) - (1 : Int32)).toInt64))), .second, .unset]) at_124 rfl rfl ?_
      refine OGo.iload K (pc' := 128) at_126 rfl rfl ?_
      refine OGo.ifLe K (pc' := 131) (pcY := 144) at_128 rfl (by decide) rfl (fun hc128 => absurd (by decide : (0 : Int32) < (1 : Int32)) hc128) (fun hc128 => ?_)
      refine OGo.lloadN K (pc' := 132) at_131 rfl rfl ?_
      refine OGo.lload K (pc' := 134) at_132 rfl rfl ?_
      refine OGo.lcmpLt K (pc' := 138) (pcY := 144) at_134 rfl at_135 rfl (by decide) rfl (fun hl0 => ?_) (fun hl0 => ?_)
      rotate_left
      · skip
        refine OGo.iconst K (pc' := 139) (z := 0) at_138 rfl rfl ?_
        refine OGo.istore K (pc' := 141) (Ls' := #[.val (.int v0), .val (.long t0), .second, .val (.long t1), .second, .val (.long t2), .second, .val (.long v4), .second, .val (.int v5), .val (.int (1 : Int32)), .val (.ref a), .val (.int (v5 &&& (3 : Int32))), .val (.long base), .second, .val (.long ((((v5 >>> ((2 : Int32) &&& 31)) &&& (3 : Int32)) - (1 : Int32)).toInt64)), .second, .val (.long (base + ((((v5 >>> ((2 : Int32) &&& 31)) &&& (3 : Int32)) - (1 : Int32)).toInt64))), .second, .val (.int (0 : Int32))]) at_139 rfl rfl ?_
        refine OGo.goto K (pc' := 186) at_141 (by decide) rfl ?_
        refine OGo.aload K (pc' := 188) at_186 rfl rfl rfl ?_
        refine OGo.lload K (pc' := 190) at_188 rfl rfl ?_
        refine OGo.callVV K (pc' := 193) (y := (⟨"com/example/exact_courier/exactcourier/storage/BatchIndex", "firstWithMaxTimestampAtLeast", "(J)I"⟩ : MethodName)) (z := (⟨"com/example/exact_courier/exactcourier/storage/BatchIndex", "firstWithMaxTimestampAtLeast", "(J)I"⟩ : MethodName)) (a := a) (W := 0) (cells' := 4) (slots' := 196) (argsL := [(.long (base + ((((v5 >>> ((2 : Int32) &&& 31)) &&& (3 : Int32)) - (1 : Int32)).toInt64)))]) (st := []) B4.1 (hw _ (List.mem_of_getElem? (i := 16) rfl)) (hw _ (List.mem_of_getElem? (i := 17) rfl)) (notFace_of_selects (args := #[]) (mvT K.hZ (hw _ (List.mem_of_getElem? (i := 19) rfl)))) (hw _ (List.mem_of_getElem? (i := 19) rfl)) (hw _ (List.mem_of_getElem? (i := 18) rfl)) (hw _ (List.mem_of_getElem? (i := 2) rfl)) (hw _ (List.mem_of_getElem? (i := 20) rfl)) (by decide) (own_rm3 l Z a0 hw a x1 y1 z1 (base + ((((v5 >>> ((2 : Int32) &&& 31)) &&& (3 : Int32)) - (1 : Int32)).toInt64)) [t0] h4 n0 Z4 B4 (Nat.le_of_ble_eq_true rfl)) at_190 rfl rfl (lenOf own_pd2 rfl) (by show 2 * 0 + _ ≤ _; exact Nat.le_of_eq rfl) (by decide) (by decide) rfl rfl (by decide) (by decide) ?_
        rintro _ h5 ⟨rfl, e5⟩
        rw [e5]
        show OGo p l e _ s m _ below meth c n0 _ h4 4 196 193 #[.val (.int v0), .val (.long t0), .second, .val (.long t1), .second, .val (.long t2), .second, .val (.long v4), .second, .val (.int v5), .val (.int (1 : Int32)), .val (.ref a), .val (.int (v5 &&& (3 : Int32))), .val (.long base), .second, .val (.long ((((v5 >>> ((2 : Int32) &&& 31)) &&& (3 : Int32)) - (1 : Int32)).toInt64)), .second, .val (.long (base + ((((v5 >>> ((2 : Int32) &&& 31)) &&& (3 : Int32)) - (1 : Int32)).toInt64))), .second, .val (.int (0 : Int32))] [(.int (own_first [t0] (base + ((((v5 >>> ((2 : Int32) &&& 31)) &&& (3 : Int32)) - (1 : Int32)).toInt64)) 0))]
        refine OGo.iload K (pc' := 195) at_193 rfl rfl ?_
        refine OGo.icmpNe K (pc' := 198) (pcY := 202) at_195 rfl (by decide) rfl (fun hc195 => absurd (by simp [own_first, hl0] : (own_first [t0] (base + ((((v5 >>> ((2 : Int32) &&& 31)) &&& (3 : Int32)) - (1 : Int32)).toInt64)) 0) = (0 : Int32)) hc195) (fun hc195 => ?_)
        refine OGo.iconst K (pc' := 199) (z := 1) at_198 rfl rfl ?_
        refine OGo.goto K (pc' := 203) at_199 (by decide) rfl ?_
        exact OGo.ret K at_203 rfl (Or.inl ⟨rfl, by simp, _, rfl⟩) (by decide) (by decide) ⟨_, rfl, rfl⟩
      refine OGo.iload K (pc' := 146) at_144 rfl rfl ?_
      refine OGo.iconst K (pc' := 147) (z := 1) at_146 rfl rfl ?_
      refine OGo.icmpLe K (pc' := 150) (pcY := 163) at_147 rfl (by decide) rfl (fun hc147 => ?_) (fun hc147 => absurd hc147 (by decide : ¬ (1 : Int32) < (1 : Int32)))
      refine OGo.iload K (pc' := 165) at_163 rfl rfl ?_
      refine OGo.iconst K (pc' := 166) (z := 2) at_165 rfl rfl ?_
      refine OGo.icmpLe K (pc' := 169) (pcY := 183) at_166 rfl (by decide) rfl (fun hc166 => ?_) (fun hc166 => absurd hc166 (by decide : ¬ (2 : Int32) < (1 : Int32)))
      refine OGo.iconst K (pc' := 184) (z := (-1)) at_183 rfl rfl ?_
      refine OGo.istore K (pc' := 186) (Ls' := #[.val (.int v0), .val (.long t0), .second, .val (.long t1), .second, .val (.long t2), .second, .val (.long v4), .second, .val (.int v5), .val (.int (1 : Int32)), .val (.ref a), .val (.int (v5 &&& (3 : Int32))), .val (.long base), .second, .val (.long ((((v5 >>> ((2 : Int32) &&& 31)) &&& (3 : Int32)) - (1 : Int32)).toInt64)), .second, .val (.long (base + ((((v5 >>> ((2 : Int32) &&& 31)) &&& (3 : Int32)) - (1 : Int32)).toInt64))), .second, .val (.int (-1 : Int32))]) at_184 rfl rfl ?_
      refine OGo.aload K (pc' := 188) at_186 rfl rfl rfl ?_
      refine OGo.lload K (pc' := 190) at_188 rfl rfl ?_
      refine OGo.callVV K (pc' := 193) (y := (⟨"com/example/exact_courier/exactcourier/storage/BatchIndex", "firstWithMaxTimestampAtLeast", "(J)I"⟩ : MethodName)) (z := (⟨"com/example/exact_courier/exactcourier/storage/BatchIndex", "firstWithMaxTimestampAtLeast", "(J)I"⟩ : MethodName)) (a := a) (W := 0) (cells' := 4) (slots' := 196) (argsL := [(.long (base + ((((v5 >>> ((2 : Int32) &&& 31)) &&& (3 : Int32)) - (1 : Int32)).toInt64)))]) (st := []) B4.1 (hw _ (List.mem_of_getElem? (i := 16) rfl)) (hw _ (List.mem_of_getElem? (i := 17) rfl)) (notFace_of_selects (args := #[]) (mvT K.hZ (hw _ (List.mem_of_getElem? (i := 19) rfl)))) (hw _ (List.mem_of_getElem? (i := 19) rfl)) (hw _ (List.mem_of_getElem? (i := 18) rfl)) (hw _ (List.mem_of_getElem? (i := 2) rfl)) (hw _ (List.mem_of_getElem? (i := 20) rfl)) (by decide) (own_rm3 l Z a0 hw a x1 y1 z1 (base + ((((v5 >>> ((2 : Int32) &&& 31)) &&& (3 : Int32)) - (1 : Int32)).toInt64)) [t0] h4 n0 Z4 B4 (Nat.le_of_ble_eq_true rfl)) at_190 rfl rfl (lenOf own_pd2 rfl) (by show 2 * 0 + _ ≤ _; exact Nat.le_of_eq rfl) (by decide) (by decide) rfl rfl (by decide) (by decide) ?_
      rintro _ h6 ⟨rfl, e6⟩
      rw [e6]
      show OGo p l e _ s m _ below meth c n0 _ h4 4 196 193 #[.val (.int v0), .val (.long t0), .second, .val (.long t1), .second, .val (.long t2), .second, .val (.long v4), .second, .val (.int v5), .val (.int (1 : Int32)), .val (.ref a), .val (.int (v5 &&& (3 : Int32))), .val (.long base), .second, .val (.long ((((v5 >>> ((2 : Int32) &&& 31)) &&& (3 : Int32)) - (1 : Int32)).toInt64)), .second, .val (.long (base + ((((v5 >>> ((2 : Int32) &&& 31)) &&& (3 : Int32)) - (1 : Int32)).toInt64))), .second, .val (.int (-1 : Int32))] [(.int (own_first [t0] (base + ((((v5 >>> ((2 : Int32) &&& 31)) &&& (3 : Int32)) - (1 : Int32)).toInt64)) 0))]
      refine OGo.iload K (pc' := 195) at_193 rfl rfl ?_
      refine OGo.icmpNe K (pc' := 198) (pcY := 202) at_195 rfl (by decide) rfl (fun hc195 => absurd (by simp [own_first, hl0] : (own_first [t0] (base + ((((v5 >>> ((2 : Int32) &&& 31)) &&& (3 : Int32)) - (1 : Int32)).toInt64)) 0) = (-1 : Int32)) hc195) (fun hc195 => ?_)
      refine OGo.iconst K (pc' := 199) (z := 1) at_198 rfl rfl ?_
      refine OGo.goto K (pc' := 203) at_199 (by decide) rfl ?_
      exact OGo.ret K at_203 rfl (Or.inl ⟨rfl, by simp, _, rfl⟩) (by decide) (by decide) ⟨_, rfl, rfl⟩
    refine OGo.iload K (pc' := 70) at_68 rfl rfl ?_
    refine OGo.ifNe K (pc' := 73) (pcY := 80) at_70 rfl (by decide) rfl (fun hc70 => ?_) (fun hc70 => ?_)
    rotate_left
    · skip
      refine OGo.lload K (pc' := 75) at_73 rfl rfl ?_
      refine OGo.lstore K (pc' := 77) (Ls' := #[.val (.int v0), .val (.long t0), .second, .val (.long t1), .second, .val (.long t2), .second, .val (.long v4), .second, .val (.int v5), .val (.int (1 : Int32)), .val (.ref a), .val (.int (v5 &&& (3 : Int32))), .val (.long v4), .second, .unset, .unset, .unset, .unset, .unset]) at_75 rfl rfl ?_
      refine OGo.goto K (pc' := 108) at_77 (by decide) rfl ?_
      exact J _
    refine OGo.iload K (pc' := 82) at_80 rfl rfl ?_
    refine OGo.iconst K (pc' := 83) (z := 1) at_82 rfl rfl ?_
    refine OGo.icmpNe K (pc' := 86) (pcY := 92) at_83 rfl (by decide) rfl (fun hc83 => ?_) (fun hc83 => ?_)
    rotate_left
    · skip
      refine OGo.lloadN K (pc' := 87) at_86 rfl rfl ?_
      refine OGo.lstore K (pc' := 89) (Ls' := #[.val (.int v0), .val (.long t0), .second, .val (.long t1), .second, .val (.long t2), .second, .val (.long v4), .second, .val (.int v5), .val (.int (1 : Int32)), .val (.ref a), .val (.int (v5 &&& (3 : Int32))), .val (.long t0), .second, .unset, .unset, .unset, .unset, .unset]) at_87 rfl rfl ?_
      refine OGo.goto K (pc' := 108) at_89 (by decide) rfl ?_
      exact J _
    refine OGo.iload K (pc' := 94) at_92 rfl rfl ?_
    refine OGo.iconst K (pc' := 95) (z := 2) at_94 rfl rfl ?_
    refine OGo.icmpNe K (pc' := 98) (pcY := 104) at_95 rfl (by decide) rfl (fun hc95 => ?_) (fun hc95 => ?_)
    rotate_left
    · skip
      refine OGo.lloadN K (pc' := 99) at_98 rfl rfl ?_
      refine OGo.lstore K (pc' := 101) (Ls' := #[.val (.int v0), .val (.long t0), .second, .val (.long t1), .second, .val (.long t2), .second, .val (.long v4), .second, .val (.int v5), .val (.int (1 : Int32)), .val (.ref a), .val (.int (v5 &&& (3 : Int32))), .val (.long t1), .second, .unset, .unset, .unset, .unset, .unset]) at_99 rfl rfl ?_
      refine OGo.goto K (pc' := 108) at_101 (by decide) rfl ?_
      exact J _
    refine OGo.lload K (pc' := 106) at_104 rfl rfl ?_
    refine OGo.lstore K (pc' := 108) (Ls' := #[.val (.int v0), .val (.long t0), .second, .val (.long t1), .second, .val (.long t2), .second, .val (.long v4), .second, .val (.int v5), .val (.int (1 : Int32)), .val (.ref a), .val (.int (v5 &&& (3 : Int32))), .val (.long t2), .second, .unset, .unset, .unset, .unset, .unset]) at_106 rfl rfl ?_
    exact J _
  · skip
    refine OGo.iload K (pc' := 16) at_14 rfl rfl ?_
    refine OGo.ifLe K (pc' := 19) (pcY := 27) at_16 rfl (by decide) rfl (fun hc16 => absurd (by decide : (0 : Int32) < (2 : Int32)) hc16) (fun hc16 => ?_)
    refine OGo.aload K (pc' := 21) at_19 rfl rfl rfl ?_
    refine OGo.lconst K (pc' := 22) (z := 0) at_21 rfl rfl ?_
    refine OGo.lconst K (pc' := 23) (z := 0) at_22 rfl rfl ?_
    refine OGo.lloadN K (pc' := 24) at_23 rfl rfl ?_
    refine OGo.callVN K (pc' := 27) (y := (⟨"com/example/exact_courier/exactcourier/storage/BatchIndex", "add", "(JJJ)V"⟩ : MethodName)) (z := (⟨"com/example/exact_courier/exactcourier/storage/BatchIndex", "add", "(JJJ)V"⟩ : MethodName)) (a := a) (W := 0) (cells' := 4) (slots' := 196) (argsL := [(.long (0 : Int64)), (.long (0 : Int64)), (.long t0)]) (st := []) B2.1 (hw _ (List.mem_of_getElem? (i := 23) rfl)) (hw _ (List.mem_of_getElem? (i := 24) rfl)) (notFace_of_selects (args := #[]) (mvT K.hZ (hw _ (List.mem_of_getElem? (i := 26) rfl)))) (hw _ (List.mem_of_getElem? (i := 26) rfl)) (hw _ (List.mem_of_getElem? (i := 25) rfl)) (hw _ (List.mem_of_getElem? (i := 2) rfl)) (hw _ (List.mem_of_getElem? (i := 27) rfl)) (by decide) (own_rm4 l Z a0 hw a x1 y1 z1 (0 : Int64) (0 : Int64) t0 [] h2 n0 Z2 B2 (Nat.le_of_ble_eq_true rfl)) at_24 rfl rfl (lenOf own_pd3 rfl) (by show 2 * 0 + _ ≤ _; exact Nat.le_of_eq rfl) (by decide) (by decide) rfl rfl (by decide) (by decide) ?_
    rintro h7 ⟨B7, K7⟩
    have Z7 : n0 ≤ h7.size := Nat.le_trans Z2 K7.1
    refine OGo.iload K (pc' := 29) at_27 rfl rfl ?_
    refine OGo.iconst K (pc' := 30) (z := 1) at_29 rfl rfl ?_
    refine OGo.icmpLe K (pc' := 33) (pcY := 43) at_30 rfl (by decide) rfl (fun hc30 => absurd (by decide : (1 : Int32) < (2 : Int32)) hc30) (fun hc30 => ?_)
    refine OGo.aload K (pc' := 35) at_33 rfl rfl rfl ?_
    refine OGo.lconst K (pc' := 36) (z := 1) at_35 rfl rfl ?_
    refine OGo.ldcJ K (pc' := 39) (v := 10) (hw _ (List.mem_of_getElem? (i := 28) rfl)) at_36 rfl ?_
    refine OGo.lloadN K (pc' := 40) at_39 rfl rfl ?_
    refine OGo.callVN K (pc' := 43) (y := (⟨"com/example/exact_courier/exactcourier/storage/BatchIndex", "add", "(JJJ)V"⟩ : MethodName)) (z := (⟨"com/example/exact_courier/exactcourier/storage/BatchIndex", "add", "(JJJ)V"⟩ : MethodName)) (a := a) (W := 0) (cells' := 4) (slots' := 196) (argsL := [(.long (1 : Int64)), (.long (10 : Int64)), (.long t1)]) (st := []) B7.1 (hw _ (List.mem_of_getElem? (i := 23) rfl)) (hw _ (List.mem_of_getElem? (i := 24) rfl)) (notFace_of_selects (args := #[]) (mvT K.hZ (hw _ (List.mem_of_getElem? (i := 26) rfl)))) (hw _ (List.mem_of_getElem? (i := 26) rfl)) (hw _ (List.mem_of_getElem? (i := 25) rfl)) (hw _ (List.mem_of_getElem? (i := 2) rfl)) (hw _ (List.mem_of_getElem? (i := 27) rfl)) (by decide) (own_rm4 l Z a0 hw a x1 y1 z1 (1 : Int64) (10 : Int64) t1 [t0] h7 n0 Z7 B7 (Nat.le_of_ble_eq_true rfl)) at_40 rfl rfl (lenOf own_pd3 rfl) (by show 2 * 0 + _ ≤ _; exact Nat.le_of_eq rfl) (by decide) (by decide) rfl rfl (by decide) (by decide) ?_
    rintro h8 ⟨B8, K8⟩
    have Z8 : n0 ≤ h8.size := Nat.le_trans Z7 K8.1
    refine OGo.iload K (pc' := 45) at_43 rfl rfl ?_
    refine OGo.iconst K (pc' := 46) (z := 2) at_45 rfl rfl ?_
    refine OGo.icmpLe K (pc' := 49) (pcY := 62) at_46 rfl (by decide) rfl (fun hc46 => ?_) (fun hc46 => absurd hc46 (by decide : ¬ (2 : Int32) < (2 : Int32)))
    refine OGo.iload K (pc' := 64) at_62 rfl rfl ?_
    refine OGo.iconst K (pc' := 65) (z := 3) at_64 rfl rfl ?_
    refine OGo.iand K (pc' := 66) at_65 rfl ?_
    refine OGo.istore K (pc' := 68) (Ls' := #[.val (.int v0), .val (.long t0), .second, .val (.long t1), .second, .val (.long t2), .second, .val (.long v4), .second, .val (.int v5), .val (.int (2 : Int32)), .val (.ref a), .val (.int (v5 &&& (3 : Int32))), .unset, .unset, .unset, .unset, .unset, .unset, .unset]) at_66 rfl rfl ?_
    have J : ∀ base : Int64, OGo p l e room_1 s m #[(.int v0), (.long t0), (.long t1), (.long t2), (.long v4), (.int v5)] below meth c n0 (OV fun w h => w = .int 1) h8 4 196 108 #[.val (.int v0), .val (.long t0), .second, .val (.long t1), .second, .val (.long t2), .second, .val (.long v4), .second, .val (.int v5), .val (.int (2 : Int32)), .val (.ref a), .val (.int (v5 &&& (3 : Int32))), .val (.long base), .second, .unset, .unset, .unset, .unset, .unset] [] := by
      intro base
      refine OGo.iload K (pc' := 110) at_108 rfl rfl ?_
      refine OGo.iconst K (pc' := 111) (z := 2) at_110 rfl rfl ?_
      refine OGo.ishr K (pc' := 112) at_111 rfl ?_
      refine OGo.iconst K (pc' := 113) (z := 3) at_112 rfl rfl ?_
      refine OGo.iand K (pc' := 114) at_113 rfl ?_
      refine OGo.iconst K (pc' := 115) (z := 1) at_114 rfl rfl ?_
      refine OGo.isub K (pc' := 116) at_115 rfl ?_
      refine OGo.i2l K (pc' := 117) at_116 rfl ?_
      refine OGo.lstore K (pc' := 119) (Ls' := #[.val (.int v0), .val (.long t0), .second, .val (.long t1), .second, .val (.long t2), .second, .val (.long v4), .second, .val (.int v5), .val (.int (2 : Int32)), .val (.ref a), .val (.int (v5 &&& (3 : Int32))), .val (.long base), .second, .val (.long ((((v5 >>> ((2 : Int32) &&& 31)) &&& (3 : Int32)) - (1 : Int32)).toInt64)), .second, .unset, .unset, .unset]) at_117 rfl rfl ?_
      refine OGo.lload K (pc' := 121) at_119 rfl rfl ?_
      refine OGo.lload K (pc' := 123) at_121 rfl rfl ?_
      refine OGo.ladd K (pc' := 124) at_123 rfl ?_
      refine OGo.lstore K (pc' := 126) (Ls' := #[.val (.int v0), .val (.long t0), .second, .val (.long t1), .second, .val (.long t2), .second, .val (.long v4), .second, .val (.int v5), .val (.int (2 : Int32)), .val (.ref a), .val (.int (v5 &&& (3 : Int32))), .val (.long base), .second, .val (.long ((((v5 >>> ((2 : Int32) &&& 31)) &&& (3 : Int32)) - (1 : Int32)).toInt64)), .second, .val (.long (base + ((((v5 >>> ((2 : Int32) &&& 31)) &&& (3 : Int32)) - (1 : Int32)).toInt64))), .second, .unset]) at_124 rfl rfl ?_
      refine OGo.iload K (pc' := 128) at_126 rfl rfl ?_
      refine OGo.ifLe K (pc' := 131) (pcY := 144) at_128 rfl (by decide) rfl (fun hc128 => absurd (by decide : (0 : Int32) < (2 : Int32)) hc128) (fun hc128 => ?_)
      refine OGo.lloadN K (pc' := 132) at_131 rfl rfl ?_
      refine OGo.lload K (pc' := 134) at_132 rfl rfl ?_
      refine OGo.lcmpLt K (pc' := 138) (pcY := 144) at_134 rfl at_135 rfl (by decide) rfl (fun hl0 => ?_) (fun hl0 => ?_)
      rotate_left
      · skip
        refine OGo.iconst K (pc' := 139) (z := 0) at_138 rfl rfl ?_
        refine OGo.istore K (pc' := 141) (Ls' := #[.val (.int v0), .val (.long t0), .second, .val (.long t1), .second, .val (.long t2), .second, .val (.long v4), .second, .val (.int v5), .val (.int (2 : Int32)), .val (.ref a), .val (.int (v5 &&& (3 : Int32))), .val (.long base), .second, .val (.long ((((v5 >>> ((2 : Int32) &&& 31)) &&& (3 : Int32)) - (1 : Int32)).toInt64)), .second, .val (.long (base + ((((v5 >>> ((2 : Int32) &&& 31)) &&& (3 : Int32)) - (1 : Int32)).toInt64))), .second, .val (.int (0 : Int32))]) at_139 rfl rfl ?_
        refine OGo.goto K (pc' := 186) at_141 (by decide) rfl ?_
        refine OGo.aload K (pc' := 188) at_186 rfl rfl rfl ?_
        refine OGo.lload K (pc' := 190) at_188 rfl rfl ?_
        refine OGo.callVV K (pc' := 193) (y := (⟨"com/example/exact_courier/exactcourier/storage/BatchIndex", "firstWithMaxTimestampAtLeast", "(J)I"⟩ : MethodName)) (z := (⟨"com/example/exact_courier/exactcourier/storage/BatchIndex", "firstWithMaxTimestampAtLeast", "(J)I"⟩ : MethodName)) (a := a) (W := 0) (cells' := 4) (slots' := 196) (argsL := [(.long (base + ((((v5 >>> ((2 : Int32) &&& 31)) &&& (3 : Int32)) - (1 : Int32)).toInt64)))]) (st := []) B8.1 (hw _ (List.mem_of_getElem? (i := 16) rfl)) (hw _ (List.mem_of_getElem? (i := 17) rfl)) (notFace_of_selects (args := #[]) (mvT K.hZ (hw _ (List.mem_of_getElem? (i := 19) rfl)))) (hw _ (List.mem_of_getElem? (i := 19) rfl)) (hw _ (List.mem_of_getElem? (i := 18) rfl)) (hw _ (List.mem_of_getElem? (i := 2) rfl)) (hw _ (List.mem_of_getElem? (i := 20) rfl)) (by decide) (own_rm3 l Z a0 hw a x1 y1 z1 (base + ((((v5 >>> ((2 : Int32) &&& 31)) &&& (3 : Int32)) - (1 : Int32)).toInt64)) [t0, t1] h8 n0 Z8 B8 (Nat.le_of_ble_eq_true rfl)) at_190 rfl rfl (lenOf own_pd2 rfl) (by show 2 * 0 + _ ≤ _; exact Nat.le_of_eq rfl) (by decide) (by decide) rfl rfl (by decide) (by decide) ?_
        rintro _ h9 ⟨rfl, e9⟩
        rw [e9]
        show OGo p l e _ s m _ below meth c n0 _ h8 4 196 193 #[.val (.int v0), .val (.long t0), .second, .val (.long t1), .second, .val (.long t2), .second, .val (.long v4), .second, .val (.int v5), .val (.int (2 : Int32)), .val (.ref a), .val (.int (v5 &&& (3 : Int32))), .val (.long base), .second, .val (.long ((((v5 >>> ((2 : Int32) &&& 31)) &&& (3 : Int32)) - (1 : Int32)).toInt64)), .second, .val (.long (base + ((((v5 >>> ((2 : Int32) &&& 31)) &&& (3 : Int32)) - (1 : Int32)).toInt64))), .second, .val (.int (0 : Int32))] [(.int (own_first [t0, t1] (base + ((((v5 >>> ((2 : Int32) &&& 31)) &&& (3 : Int32)) - (1 : Int32)).toInt64)) 0))]
        refine OGo.iload K (pc' := 195) at_193 rfl rfl ?_
        refine OGo.icmpNe K (pc' := 198) (pcY := 202) at_195 rfl (by decide) rfl (fun hc195 => absurd (by simp [own_first, hl0] : (own_first [t0, t1] (base + ((((v5 >>> ((2 : Int32) &&& 31)) &&& (3 : Int32)) - (1 : Int32)).toInt64)) 0) = (0 : Int32)) hc195) (fun hc195 => ?_)
        refine OGo.iconst K (pc' := 199) (z := 1) at_198 rfl rfl ?_
        refine OGo.goto K (pc' := 203) at_199 (by decide) rfl ?_
        exact OGo.ret K at_203 rfl (Or.inl ⟨rfl, by simp, _, rfl⟩) (by decide) (by decide) ⟨_, rfl, rfl⟩
      refine OGo.iload K (pc' := 146) at_144 rfl rfl ?_
      refine OGo.iconst K (pc' := 147) (z := 1) at_146 rfl rfl ?_
      refine OGo.icmpLe K (pc' := 150) (pcY := 163) at_147 rfl (by decide) rfl (fun hc147 => absurd (by decide : (1 : Int32) < (2 : Int32)) hc147) (fun hc147 => ?_)
      refine OGo.lloadN K (pc' := 151) at_150 rfl rfl ?_
      refine OGo.lload K (pc' := 153) at_151 rfl rfl ?_
      refine OGo.lcmpLt K (pc' := 157) (pcY := 163) at_153 rfl at_154 rfl (by decide) rfl (fun hl1 => ?_) (fun hl1 => ?_)
      rotate_left
      · skip
        refine OGo.iconst K (pc' := 158) (z := 1) at_157 rfl rfl ?_
        refine OGo.istore K (pc' := 160) (Ls' := #[.val (.int v0), .val (.long t0), .second, .val (.long t1), .second, .val (.long t2), .second, .val (.long v4), .second, .val (.int v5), .val (.int (2 : Int32)), .val (.ref a), .val (.int (v5 &&& (3 : Int32))), .val (.long base), .second, .val (.long ((((v5 >>> ((2 : Int32) &&& 31)) &&& (3 : Int32)) - (1 : Int32)).toInt64)), .second, .val (.long (base + ((((v5 >>> ((2 : Int32) &&& 31)) &&& (3 : Int32)) - (1 : Int32)).toInt64))), .second, .val (.int (1 : Int32))]) at_158 rfl rfl ?_
        refine OGo.goto K (pc' := 186) at_160 (by decide) rfl ?_
        refine OGo.aload K (pc' := 188) at_186 rfl rfl rfl ?_
        refine OGo.lload K (pc' := 190) at_188 rfl rfl ?_
        refine OGo.callVV K (pc' := 193) (y := (⟨"com/example/exact_courier/exactcourier/storage/BatchIndex", "firstWithMaxTimestampAtLeast", "(J)I"⟩ : MethodName)) (z := (⟨"com/example/exact_courier/exactcourier/storage/BatchIndex", "firstWithMaxTimestampAtLeast", "(J)I"⟩ : MethodName)) (a := a) (W := 0) (cells' := 4) (slots' := 196) (argsL := [(.long (base + ((((v5 >>> ((2 : Int32) &&& 31)) &&& (3 : Int32)) - (1 : Int32)).toInt64)))]) (st := []) B8.1 (hw _ (List.mem_of_getElem? (i := 16) rfl)) (hw _ (List.mem_of_getElem? (i := 17) rfl)) (notFace_of_selects (args := #[]) (mvT K.hZ (hw _ (List.mem_of_getElem? (i := 19) rfl)))) (hw _ (List.mem_of_getElem? (i := 19) rfl)) (hw _ (List.mem_of_getElem? (i := 18) rfl)) (hw _ (List.mem_of_getElem? (i := 2) rfl)) (hw _ (List.mem_of_getElem? (i := 20) rfl)) (by decide) (own_rm3 l Z a0 hw a x1 y1 z1 (base + ((((v5 >>> ((2 : Int32) &&& 31)) &&& (3 : Int32)) - (1 : Int32)).toInt64)) [t0, t1] h8 n0 Z8 B8 (Nat.le_of_ble_eq_true rfl)) at_190 rfl rfl (lenOf own_pd2 rfl) (by show 2 * 0 + _ ≤ _; exact Nat.le_of_eq rfl) (by decide) (by decide) rfl rfl (by decide) (by decide) ?_
        rintro _ h10 ⟨rfl, e10⟩
        rw [e10]
        show OGo p l e _ s m _ below meth c n0 _ h8 4 196 193 #[.val (.int v0), .val (.long t0), .second, .val (.long t1), .second, .val (.long t2), .second, .val (.long v4), .second, .val (.int v5), .val (.int (2 : Int32)), .val (.ref a), .val (.int (v5 &&& (3 : Int32))), .val (.long base), .second, .val (.long ((((v5 >>> ((2 : Int32) &&& 31)) &&& (3 : Int32)) - (1 : Int32)).toInt64)), .second, .val (.long (base + ((((v5 >>> ((2 : Int32) &&& 31)) &&& (3 : Int32)) - (1 : Int32)).toInt64))), .second, .val (.int (1 : Int32))] [(.int (own_first [t0, t1] (base + ((((v5 >>> ((2 : Int32) &&& 31)) &&& (3 : Int32)) - (1 : Int32)).toInt64)) 0))]
        refine OGo.iload K (pc' := 195) at_193 rfl rfl ?_
        refine OGo.icmpNe K (pc' := 198) (pcY := 202) at_195 rfl (by decide) rfl (fun hc195 => absurd (by simp [own_first, hl0, hl1] : (own_first [t0, t1] (base + ((((v5 >>> ((2 : Int32) &&& 31)) &&& (3 : Int32)) - (1 : Int32)).toInt64)) 0) = (1 : Int32)) hc195) (fun hc195 => ?_)
        refine OGo.iconst K (pc' := 199) (z := 1) at_198 rfl rfl ?_
        refine OGo.goto K (pc' := 203) at_199 (by decide) rfl ?_
        exact OGo.ret K at_203 rfl (Or.inl ⟨rfl, by simp, _, rfl⟩) (by decide) (by decide) ⟨_, rfl, rfl⟩
      refine OGo.iload K (pc' := 165) at_163 rfl rfl ?_
      refine OGo.iconst K (pc' := 166) (z := 2) at_165 rfl rfl ?_
      refine OGo.icmpLe K (pc' := 169) (pcY := 183) at_166 rfl (by decide) rfl (fun hc166 => ?_) (fun hc166 => absurd hc166 (by decide : ¬ (2 : Int32) < (2 : Int32)))
      refine OGo.iconst K (pc' := 184) (z := (-1)) at_183 rfl rfl ?_
      refine OGo.istore K (pc' := 186) (Ls' := #[.val (.int v0), .val (.long t0), .second, .val (.long t1), .second, .val (.long t2), .second, .val (.long v4), .second, .val (.int v5), .val (.int (2 : Int32)), .val (.ref a), .val (.int (v5 &&& (3 : Int32))), .val (.long base), .second, .val (.long ((((v5 >>> ((2 : Int32) &&& 31)) &&& (3 : Int32)) - (1 : Int32)).toInt64)), .second, .val (.long (base + ((((v5 >>> ((2 : Int32) &&& 31)) &&& (3 : Int32)) - (1 : Int32)).toInt64))), .second, .val (.int (-1 : Int32))]) at_184 rfl rfl ?_
      refine OGo.aload K (pc' := 188) at_186 rfl rfl rfl ?_
      refine OGo.lload K (pc' := 190) at_188 rfl rfl ?_
      refine OGo.callVV K (pc' := 193) (y := (⟨"com/example/exact_courier/exactcourier/storage/BatchIndex", "firstWithMaxTimestampAtLeast", "(J)I"⟩ : MethodName)) (z := (⟨"com/example/exact_courier/exactcourier/storage/BatchIndex", "firstWithMaxTimestampAtLeast", "(J)I"⟩ : MethodName)) (a := a) (W := 0) (cells' := 4) (slots' := 196) (argsL := [(.long (base + ((((v5 >>> ((2 : Int32) &&& 31)) &&& (3 : Int32)) - (1 : Int32)).toInt64)))]) (st := []) B8.1 (hw _ (List.mem_of_getElem? (i := 16) rfl)) (hw _ (List.mem_of_getElem? (i := 17) rfl)) (notFace_of_selects (args := #[]) (mvT K.hZ (hw _ (List.mem_of_getElem? (i := 19) rfl)))) (hw _ (List.mem_of_getElem? (i := 19) rfl)) (hw _ (List.mem_of_getElem? (i := 18) rfl)) (hw _ (List.mem_of_getElem? (i := 2) rfl)) (hw _ (List.mem_of_getElem? (i := 20) rfl)) (by decide) (own_rm3 l Z a0 hw a x1 y1 z1 (base + ((((v5 >>> ((2 : Int32) &&& 31)) &&& (3 : Int32)) - (1 : Int32)).toInt64)) [t0, t1] h8 n0 Z8 B8 (Nat.le_of_ble_eq_true rfl)) at_190 rfl rfl (lenOf own_pd2 rfl) (by show 2 * 0 + _ ≤ _; exact Nat.le_of_eq rfl) (by decide) (by decide) rfl rfl (by decide) (by decide) ?_
      rintro _ h11 ⟨rfl, e11⟩
      rw [e11]
      show OGo p l e _ s m _ below meth c n0 _ h8 4 196 193 #[.val (.int v0), .val (.long t0), .second, .val (.long t1), .second, .val (.long t2), .second, .val (.long v4), .second, .val (.int v5), .val (.int (2 : Int32)), .val (.ref a), .val (.int (v5 &&& (3 : Int32))), .val (.long base), .second, .val (.long ((((v5 >>> ((2 : Int32) &&& 31)) &&& (3 : Int32)) - (1 : Int32)).toInt64)), .second, .val (.long (base + ((((v5 >>> ((2 : Int32) &&& 31)) &&& (3 : Int32)) - (1 : Int32)).toInt64))), .second, .val (.int (-1 : Int32))] [(.int (own_first [t0, t1] (base + ((((v5 >>> ((2 : Int32) &&& 31)) &&& (3 : Int32)) - (1 : Int32)).toInt64)) 0))]
      refine OGo.iload K (pc' := 195) at_193 rfl rfl ?_
      refine OGo.icmpNe K (pc' := 198) (pcY := 202) at_195 rfl (by decide) rfl (fun hc195 => absurd (by simp [own_first, hl0, hl1] : (own_first [t0, t1] (base + ((((v5 >>> ((2 : Int32) &&& 31)) &&& (3 : Int32)) - (1 : Int32)).toInt64)) 0) = (-1 : Int32)) hc195) (fun hc195 => ?_)
      refine OGo.iconst K (pc' := 199) (z := 1) at_198 rfl rfl ?_
      refine OGo.goto K (pc' := 203) at_199 (by decide) rfl ?_
      exact OGo.ret K at_203 rfl (Or.inl ⟨rfl, by simp, _, rfl⟩) (by decide) (by decide) ⟨_, rfl, rfl⟩
    refine OGo.iload K (pc' := 70) at_68 rfl rfl ?_
    refine OGo.ifNe K (pc' := 73) (pcY := 80) at_70 rfl (by decide) rfl (fun hc70 => ?_) (fun hc70 => ?_)
    rotate_left
    · skip
      refine OGo.lload K (pc' := 75) at_73 rfl rfl ?_
      refine OGo.lstore K (pc' := 77) (Ls' := #[.val (.int v0), .val (.long t0), .second, .val (.long t1), .second, .val (.long t2), .second, .val (.long v4), .second, .val (.int v5), .val (.int (2 : Int32)), .val (.ref a), .val (.int (v5 &&& (3 : Int32))), .val (.long v4), .second, .unset, .unset, .unset, .unset, .unset]) at_75 rfl rfl ?_
      refine OGo.goto K (pc' := 108) at_77 (by decide) rfl ?_
      exact J _
    refine OGo.iload K (pc' := 82) at_80 rfl rfl ?_
    refine OGo.iconst K (pc' := 83) (z := 1) at_82 rfl rfl ?_
    refine OGo.icmpNe K (pc' := 86) (pcY := 92) at_83 rfl (by decide) rfl (fun hc83 => ?_) (fun hc83 => ?_)
    rotate_left
    · skip
      refine OGo.lloadN K (pc' := 87) at_86 rfl rfl ?_
      refine OGo.lstore K (pc' := 89) (Ls' := #[.val (.int v0), .val (.long t0), .second, .val (.long t1), .second, .val (.long t2), .second, .val (.long v4), .second, .val (.int v5), .val (.int (2 : Int32)), .val (.ref a), .val (.int (v5 &&& (3 : Int32))), .val (.long t0), .second, .unset, .unset, .unset, .unset, .unset]) at_87 rfl rfl ?_
      refine OGo.goto K (pc' := 108) at_89 (by decide) rfl ?_
      exact J _
    refine OGo.iload K (pc' := 94) at_92 rfl rfl ?_
    refine OGo.iconst K (pc' := 95) (z := 2) at_94 rfl rfl ?_
    refine OGo.icmpNe K (pc' := 98) (pcY := 104) at_95 rfl (by decide) rfl (fun hc95 => ?_) (fun hc95 => ?_)
    rotate_left
    · skip
      refine OGo.lloadN K (pc' := 99) at_98 rfl rfl ?_
      refine OGo.lstore K (pc' := 101) (Ls' := #[.val (.int v0), .val (.long t0), .second, .val (.long t1), .second, .val (.long t2), .second, .val (.long v4), .second, .val (.int v5), .val (.int (2 : Int32)), .val (.ref a), .val (.int (v5 &&& (3 : Int32))), .val (.long t1), .second, .unset, .unset, .unset, .unset, .unset]) at_99 rfl rfl ?_
      refine OGo.goto K (pc' := 108) at_101 (by decide) rfl ?_
      exact J _
    refine OGo.lload K (pc' := 106) at_104 rfl rfl ?_
    refine OGo.lstore K (pc' := 108) (Ls' := #[.val (.int v0), .val (.long t0), .second, .val (.long t1), .second, .val (.long t2), .second, .val (.long v4), .second, .val (.int v5), .val (.int (2 : Int32)), .val (.ref a), .val (.int (v5 &&& (3 : Int32))), .val (.long t2), .second, .unset, .unset, .unset, .unset, .unset]) at_106 rfl rfl ?_
    exact J _
  · skip
    refine OGo.iload K (pc' := 16) at_14 rfl rfl ?_
    refine OGo.ifLe K (pc' := 19) (pcY := 27) at_16 rfl (by decide) rfl (fun hc16 => absurd (by decide : (0 : Int32) < (3 : Int32)) hc16) (fun hc16 => ?_)
    refine OGo.aload K (pc' := 21) at_19 rfl rfl rfl ?_
    refine OGo.lconst K (pc' := 22) (z := 0) at_21 rfl rfl ?_
    refine OGo.lconst K (pc' := 23) (z := 0) at_22 rfl rfl ?_
    refine OGo.lloadN K (pc' := 24) at_23 rfl rfl ?_
    refine OGo.callVN K (pc' := 27) (y := (⟨"com/example/exact_courier/exactcourier/storage/BatchIndex", "add", "(JJJ)V"⟩ : MethodName)) (z := (⟨"com/example/exact_courier/exactcourier/storage/BatchIndex", "add", "(JJJ)V"⟩ : MethodName)) (a := a) (W := 0) (cells' := 4) (slots' := 196) (argsL := [(.long (0 : Int64)), (.long (0 : Int64)), (.long t0)]) (st := []) B2.1 (hw _ (List.mem_of_getElem? (i := 23) rfl)) (hw _ (List.mem_of_getElem? (i := 24) rfl)) (notFace_of_selects (args := #[]) (mvT K.hZ (hw _ (List.mem_of_getElem? (i := 26) rfl)))) (hw _ (List.mem_of_getElem? (i := 26) rfl)) (hw _ (List.mem_of_getElem? (i := 25) rfl)) (hw _ (List.mem_of_getElem? (i := 2) rfl)) (hw _ (List.mem_of_getElem? (i := 27) rfl)) (by decide) (own_rm4 l Z a0 hw a x1 y1 z1 (0 : Int64) (0 : Int64) t0 [] h2 n0 Z2 B2 (Nat.le_of_ble_eq_true rfl)) at_24 rfl rfl (lenOf own_pd3 rfl) (by show 2 * 0 + _ ≤ _; exact Nat.le_of_eq rfl) (by decide) (by decide) rfl rfl (by decide) (by decide) ?_
    rintro h12 ⟨B12, K12⟩
    have Z12 : n0 ≤ h12.size := Nat.le_trans Z2 K12.1
    refine OGo.iload K (pc' := 29) at_27 rfl rfl ?_
    refine OGo.iconst K (pc' := 30) (z := 1) at_29 rfl rfl ?_
    refine OGo.icmpLe K (pc' := 33) (pcY := 43) at_30 rfl (by decide) rfl (fun hc30 => absurd (by decide : (1 : Int32) < (3 : Int32)) hc30) (fun hc30 => ?_)
    refine OGo.aload K (pc' := 35) at_33 rfl rfl rfl ?_
    refine OGo.lconst K (pc' := 36) (z := 1) at_35 rfl rfl ?_
    refine OGo.ldcJ K (pc' := 39) (v := 10) (hw _ (List.mem_of_getElem? (i := 28) rfl)) at_36 rfl ?_
    refine OGo.lloadN K (pc' := 40) at_39 rfl rfl ?_
    refine OGo.callVN K (pc' := 43) (y := (⟨"com/example/exact_courier/exactcourier/storage/BatchIndex", "add", "(JJJ)V"⟩ : MethodName)) (z := (⟨"com/example/exact_courier/exactcourier/storage/BatchIndex", "add", "(JJJ)V"⟩ : MethodName)) (a := a) (W := 0) (cells' := 4) (slots' := 196) (argsL := [(.long (1 : Int64)), (.long (10 : Int64)), (.long t1)]) (st := []) B12.1 (hw _ (List.mem_of_getElem? (i := 23) rfl)) (hw _ (List.mem_of_getElem? (i := 24) rfl)) (notFace_of_selects (args := #[]) (mvT K.hZ (hw _ (List.mem_of_getElem? (i := 26) rfl)))) (hw _ (List.mem_of_getElem? (i := 26) rfl)) (hw _ (List.mem_of_getElem? (i := 25) rfl)) (hw _ (List.mem_of_getElem? (i := 2) rfl)) (hw _ (List.mem_of_getElem? (i := 27) rfl)) (by decide) (own_rm4 l Z a0 hw a x1 y1 z1 (1 : Int64) (10 : Int64) t1 [t0] h12 n0 Z12 B12 (Nat.le_of_ble_eq_true rfl)) at_40 rfl rfl (lenOf own_pd3 rfl) (by show 2 * 0 + _ ≤ _; exact Nat.le_of_eq rfl) (by decide) (by decide) rfl rfl (by decide) (by decide) ?_
    rintro h13 ⟨B13, K13⟩
    have Z13 : n0 ≤ h13.size := Nat.le_trans Z12 K13.1
    refine OGo.iload K (pc' := 45) at_43 rfl rfl ?_
    refine OGo.iconst K (pc' := 46) (z := 2) at_45 rfl rfl ?_
    refine OGo.icmpLe K (pc' := 49) (pcY := 62) at_46 rfl (by decide) rfl (fun hc46 => absurd (by decide : (2 : Int32) < (3 : Int32)) hc46) (fun hc46 => ?_)
    refine OGo.aload K (pc' := 51) at_49 rfl rfl rfl ?_
    refine OGo.ldcJ K (pc' := 54) (v := 2) (hw _ (List.mem_of_getElem? (i := 29) rfl)) at_51 rfl ?_
    refine OGo.ldcJ K (pc' := 57) (v := 20) (hw _ (List.mem_of_getElem? (i := 30) rfl)) at_54 rfl ?_
    refine OGo.lload K (pc' := 59) at_57 rfl rfl ?_
    refine OGo.callVN K (pc' := 62) (y := (⟨"com/example/exact_courier/exactcourier/storage/BatchIndex", "add", "(JJJ)V"⟩ : MethodName)) (z := (⟨"com/example/exact_courier/exactcourier/storage/BatchIndex", "add", "(JJJ)V"⟩ : MethodName)) (a := a) (W := 0) (cells' := 4) (slots' := 196) (argsL := [(.long (2 : Int64)), (.long (20 : Int64)), (.long t2)]) (st := []) B13.1 (hw _ (List.mem_of_getElem? (i := 23) rfl)) (hw _ (List.mem_of_getElem? (i := 24) rfl)) (notFace_of_selects (args := #[]) (mvT K.hZ (hw _ (List.mem_of_getElem? (i := 26) rfl)))) (hw _ (List.mem_of_getElem? (i := 26) rfl)) (hw _ (List.mem_of_getElem? (i := 25) rfl)) (hw _ (List.mem_of_getElem? (i := 2) rfl)) (hw _ (List.mem_of_getElem? (i := 27) rfl)) (by decide) (own_rm4 l Z a0 hw a x1 y1 z1 (2 : Int64) (20 : Int64) t2 [t0, t1] h13 n0 Z13 B13 (Nat.le_of_ble_eq_true rfl)) at_59 rfl rfl (lenOf own_pd3 rfl) (by show 2 * 0 + _ ≤ _; exact Nat.le_of_eq rfl) (by decide) (by decide) rfl rfl (by decide) (by decide) ?_
    rintro h14 ⟨B14, K14⟩
    have Z14 : n0 ≤ h14.size := Nat.le_trans Z13 K14.1
    refine OGo.iload K (pc' := 64) at_62 rfl rfl ?_
    refine OGo.iconst K (pc' := 65) (z := 3) at_64 rfl rfl ?_
    refine OGo.iand K (pc' := 66) at_65 rfl ?_
    refine OGo.istore K (pc' := 68) (Ls' := #[.val (.int v0), .val (.long t0), .second, .val (.long t1), .second, .val (.long t2), .second, .val (.long v4), .second, .val (.int v5), .val (.int (3 : Int32)), .val (.ref a), .val (.int (v5 &&& (3 : Int32))), .unset, .unset, .unset, .unset, .unset, .unset, .unset]) at_66 rfl rfl ?_
    have J : ∀ base : Int64, OGo p l e room_1 s m #[(.int v0), (.long t0), (.long t1), (.long t2), (.long v4), (.int v5)] below meth c n0 (OV fun w h => w = .int 1) h14 4 196 108 #[.val (.int v0), .val (.long t0), .second, .val (.long t1), .second, .val (.long t2), .second, .val (.long v4), .second, .val (.int v5), .val (.int (3 : Int32)), .val (.ref a), .val (.int (v5 &&& (3 : Int32))), .val (.long base), .second, .unset, .unset, .unset, .unset, .unset] [] := by
      intro base
      refine OGo.iload K (pc' := 110) at_108 rfl rfl ?_
      refine OGo.iconst K (pc' := 111) (z := 2) at_110 rfl rfl ?_
      refine OGo.ishr K (pc' := 112) at_111 rfl ?_
      refine OGo.iconst K (pc' := 113) (z := 3) at_112 rfl rfl ?_
      refine OGo.iand K (pc' := 114) at_113 rfl ?_
      refine OGo.iconst K (pc' := 115) (z := 1) at_114 rfl rfl ?_
      refine OGo.isub K (pc' := 116) at_115 rfl ?_
      refine OGo.i2l K (pc' := 117) at_116 rfl ?_
      refine OGo.lstore K (pc' := 119) (Ls' := #[.val (.int v0), .val (.long t0), .second, .val (.long t1), .second, .val (.long t2), .second, .val (.long v4), .second, .val (.int v5), .val (.int (3 : Int32)), .val (.ref a), .val (.int (v5 &&& (3 : Int32))), .val (.long base), .second, .val (.long ((((v5 >>> ((2 : Int32) &&& 31)) &&& (3 : Int32)) - (1 : Int32)).toInt64)), .second, .unset, .unset, .unset]) at_117 rfl rfl ?_
      refine OGo.lload K (pc' := 121) at_119 rfl rfl ?_
      refine OGo.lload K (pc' := 123) at_121 rfl rfl ?_
      refine OGo.ladd K (pc' := 124) at_123 rfl ?_
      refine OGo.lstore K (pc' := 126) (Ls' := #[.val (.int v0), .val (.long t0), .second, .val (.long t1), .second, .val (.long t2), .second, .val (.long v4), .second, .val (.int v5), .val (.int (3 : Int32)), .val (.ref a), .val (.int (v5 &&& (3 : Int32))), .val (.long base), .second, .val (.long ((((v5 >>> ((2 : Int32) &&& 31)) &&& (3 : Int32)) - (1 : Int32)).toInt64)), .second, .val (.long (base + ((((v5 >>> ((2 : Int32) &&& 31)) &&& (3 : Int32)) - (1 : Int32)).toInt64))), .second, .unset]) at_124 rfl rfl ?_
      refine OGo.iload K (pc' := 128) at_126 rfl rfl ?_
      refine OGo.ifLe K (pc' := 131) (pcY := 144) at_128 rfl (by decide) rfl (fun hc128 => absurd (by decide : (0 : Int32) < (3 : Int32)) hc128) (fun hc128 => ?_)
      refine OGo.lloadN K (pc' := 132) at_131 rfl rfl ?_
      refine OGo.lload K (pc' := 134) at_132 rfl rfl ?_
      refine OGo.lcmpLt K (pc' := 138) (pcY := 144) at_134 rfl at_135 rfl (by decide) rfl (fun hl0 => ?_) (fun hl0 => ?_)
      rotate_left
      · skip
        refine OGo.iconst K (pc' := 139) (z := 0) at_138 rfl rfl ?_
        refine OGo.istore K (pc' := 141) (Ls' := #[.val (.int v0), .val (.long t0), .second, .val (.long t1), .second, .val (.long t2), .second, .val (.long v4), .second, .val (.int v5), .val (.int (3 : Int32)), .val (.ref a), .val (.int (v5 &&& (3 : Int32))), .val (.long base), .second, .val (.long ((((v5 >>> ((2 : Int32) &&& 31)) &&& (3 : Int32)) - (1 : Int32)).toInt64)), .second, .val (.long (base + ((((v5 >>> ((2 : Int32) &&& 31)) &&& (3 : Int32)) - (1 : Int32)).toInt64))), .second, .val (.int (0 : Int32))]) at_139 rfl rfl ?_
        refine OGo.goto K (pc' := 186) at_141 (by decide) rfl ?_
        refine OGo.aload K (pc' := 188) at_186 rfl rfl rfl ?_
        refine OGo.lload K (pc' := 190) at_188 rfl rfl ?_
        refine OGo.callVV K (pc' := 193) (y := (⟨"com/example/exact_courier/exactcourier/storage/BatchIndex", "firstWithMaxTimestampAtLeast", "(J)I"⟩ : MethodName)) (z := (⟨"com/example/exact_courier/exactcourier/storage/BatchIndex", "firstWithMaxTimestampAtLeast", "(J)I"⟩ : MethodName)) (a := a) (W := 0) (cells' := 4) (slots' := 196) (argsL := [(.long (base + ((((v5 >>> ((2 : Int32) &&& 31)) &&& (3 : Int32)) - (1 : Int32)).toInt64)))]) (st := []) B14.1 (hw _ (List.mem_of_getElem? (i := 16) rfl)) (hw _ (List.mem_of_getElem? (i := 17) rfl)) (notFace_of_selects (args := #[]) (mvT K.hZ (hw _ (List.mem_of_getElem? (i := 19) rfl)))) (hw _ (List.mem_of_getElem? (i := 19) rfl)) (hw _ (List.mem_of_getElem? (i := 18) rfl)) (hw _ (List.mem_of_getElem? (i := 2) rfl)) (hw _ (List.mem_of_getElem? (i := 20) rfl)) (by decide) (own_rm3 l Z a0 hw a x1 y1 z1 (base + ((((v5 >>> ((2 : Int32) &&& 31)) &&& (3 : Int32)) - (1 : Int32)).toInt64)) [t0, t1, t2] h14 n0 Z14 B14 (Nat.le_of_ble_eq_true rfl)) at_190 rfl rfl (lenOf own_pd2 rfl) (by show 2 * 0 + _ ≤ _; exact Nat.le_of_eq rfl) (by decide) (by decide) rfl rfl (by decide) (by decide) ?_
        rintro _ h15 ⟨rfl, e15⟩
        rw [e15]
        show OGo p l e _ s m _ below meth c n0 _ h14 4 196 193 #[.val (.int v0), .val (.long t0), .second, .val (.long t1), .second, .val (.long t2), .second, .val (.long v4), .second, .val (.int v5), .val (.int (3 : Int32)), .val (.ref a), .val (.int (v5 &&& (3 : Int32))), .val (.long base), .second, .val (.long ((((v5 >>> ((2 : Int32) &&& 31)) &&& (3 : Int32)) - (1 : Int32)).toInt64)), .second, .val (.long (base + ((((v5 >>> ((2 : Int32) &&& 31)) &&& (3 : Int32)) - (1 : Int32)).toInt64))), .second, .val (.int (0 : Int32))] [(.int (own_first [t0, t1, t2] (base + ((((v5 >>> ((2 : Int32) &&& 31)) &&& (3 : Int32)) - (1 : Int32)).toInt64)) 0))]
        refine OGo.iload K (pc' := 195) at_193 rfl rfl ?_
        refine OGo.icmpNe K (pc' := 198) (pcY := 202) at_195 rfl (by decide) rfl (fun hc195 => absurd (by simp [own_first, hl0] : (own_first [t0, t1, t2] (base + ((((v5 >>> ((2 : Int32) &&& 31)) &&& (3 : Int32)) - (1 : Int32)).toInt64)) 0) = (0 : Int32)) hc195) (fun hc195 => ?_)
        refine OGo.iconst K (pc' := 199) (z := 1) at_198 rfl rfl ?_
        refine OGo.goto K (pc' := 203) at_199 (by decide) rfl ?_
        exact OGo.ret K at_203 rfl (Or.inl ⟨rfl, by simp, _, rfl⟩) (by decide) (by decide) ⟨_, rfl, rfl⟩
      refine OGo.iload K (pc' := 146) at_144 rfl rfl ?_
      refine OGo.iconst K (pc' := 147) (z := 1) at_146 rfl rfl ?_
      refine OGo.icmpLe K (pc' := 150) (pcY := 163) at_147 rfl (by decide) rfl (fun hc147 => absurd (by decide : (1 : Int32) < (3 : Int32)) hc147) (fun hc147 => ?_)
      refine OGo.lloadN K (pc' := 151) at_150 rfl rfl ?_
      refine OGo.lload K (pc' := 153) at_151 rfl rfl ?_
      refine OGo.lcmpLt K (pc' := 157) (pcY := 163) at_153 rfl at_154 rfl (by decide) rfl (fun hl1 => ?_) (fun hl1 => ?_)
      rotate_left
      · skip
        refine OGo.iconst K (pc' := 158) (z := 1) at_157 rfl rfl ?_
        refine OGo.istore K (pc' := 160) (Ls' := #[.val (.int v0), .val (.long t0), .second, .val (.long t1), .second, .val (.long t2), .second, .val (.long v4), .second, .val (.int v5), .val (.int (3 : Int32)), .val (.ref a), .val (.int (v5 &&& (3 : Int32))), .val (.long base), .second, .val (.long ((((v5 >>> ((2 : Int32) &&& 31)) &&& (3 : Int32)) - (1 : Int32)).toInt64)), .second, .val (.long (base + ((((v5 >>> ((2 : Int32) &&& 31)) &&& (3 : Int32)) - (1 : Int32)).toInt64))), .second, .val (.int (1 : Int32))]) at_158 rfl rfl ?_
        refine OGo.goto K (pc' := 186) at_160 (by decide) rfl ?_
        refine OGo.aload K (pc' := 188) at_186 rfl rfl rfl ?_
        refine OGo.lload K (pc' := 190) at_188 rfl rfl ?_
        refine OGo.callVV K (pc' := 193) (y := (⟨"com/example/exact_courier/exactcourier/storage/BatchIndex", "firstWithMaxTimestampAtLeast", "(J)I"⟩ : MethodName)) (z := (⟨"com/example/exact_courier/exactcourier/storage/BatchIndex", "firstWithMaxTimestampAtLeast", "(J)I"⟩ : MethodName)) (a := a) (W := 0) (cells' := 4) (slots' := 196) (argsL := [(.long (base + ((((v5 >>> ((2 : Int32) &&& 31)) &&& (3 : Int32)) - (1 : Int32)).toInt64)))]) (st := []) B14.1 (hw _ (List.mem_of_getElem? (i := 16) rfl)) (hw _ (List.mem_of_getElem? (i := 17) rfl)) (notFace_of_selects (args := #[]) (mvT K.hZ (hw _ (List.mem_of_getElem? (i := 19) rfl)))) (hw _ (List.mem_of_getElem? (i := 19) rfl)) (hw _ (List.mem_of_getElem? (i := 18) rfl)) (hw _ (List.mem_of_getElem? (i := 2) rfl)) (hw _ (List.mem_of_getElem? (i := 20) rfl)) (by decide) (own_rm3 l Z a0 hw a x1 y1 z1 (base + ((((v5 >>> ((2 : Int32) &&& 31)) &&& (3 : Int32)) - (1 : Int32)).toInt64)) [t0, t1, t2] h14 n0 Z14 B14 (Nat.le_of_ble_eq_true rfl)) at_190 rfl rfl (lenOf own_pd2 rfl) (by show 2 * 0 + _ ≤ _; exact Nat.le_of_eq rfl) (by decide) (by decide) rfl rfl (by decide) (by decide) ?_
        rintro _ h16 ⟨rfl, e16⟩
        rw [e16]
        show OGo p l e _ s m _ below meth c n0 _ h14 4 196 193 #[.val (.int v0), .val (.long t0), .second, .val (.long t1), .second, .val (.long t2), .second, .val (.long v4), .second, .val (.int v5), .val (.int (3 : Int32)), .val (.ref a), .val (.int (v5 &&& (3 : Int32))), .val (.long base), .second, .val (.long ((((v5 >>> ((2 : Int32) &&& 31)) &&& (3 : Int32)) - (1 : Int32)).toInt64)), .second, .val (.long (base + ((((v5 >>> ((2 : Int32) &&& 31)) &&& (3 : Int32)) - (1 : Int32)).toInt64))), .second, .val (.int (1 : Int32))] [(.int (own_first [t0, t1, t2] (base + ((((v5 >>> ((2 : Int32) &&& 31)) &&& (3 : Int32)) - (1 : Int32)).toInt64)) 0))]
        refine OGo.iload K (pc' := 195) at_193 rfl rfl ?_
        refine OGo.icmpNe K (pc' := 198) (pcY := 202) at_195 rfl (by decide) rfl (fun hc195 => absurd (by simp [own_first, hl0, hl1] : (own_first [t0, t1, t2] (base + ((((v5 >>> ((2 : Int32) &&& 31)) &&& (3 : Int32)) - (1 : Int32)).toInt64)) 0) = (1 : Int32)) hc195) (fun hc195 => ?_)
        refine OGo.iconst K (pc' := 199) (z := 1) at_198 rfl rfl ?_
        refine OGo.goto K (pc' := 203) at_199 (by decide) rfl ?_
        exact OGo.ret K at_203 rfl (Or.inl ⟨rfl, by simp, _, rfl⟩) (by decide) (by decide) ⟨_, rfl, rfl⟩
      refine OGo.iload K (pc' := 165) at_163 rfl rfl ?_
      refine OGo.iconst K (pc' := 166) (z := 2) at_165 rfl rfl ?_
      refine OGo.icmpLe K (pc' := 169) (pcY := 183) at_166 rfl (by decide) rfl (fun hc166 => absurd (by decide : (2 : Int32) < (3 : Int32)) hc166) (fun hc166 => ?_)
      refine OGo.lload K (pc' := 171) at_169 rfl rfl ?_
      refine OGo.lload K (pc' := 173) at_171 rfl rfl ?_
      refine OGo.lcmpLt K (pc' := 177) (pcY := 183) at_173 rfl at_174 rfl (by decide) rfl (fun hl2 => ?_) (fun hl2 => ?_)
      rotate_left
      · skip
        refine OGo.iconst K (pc' := 178) (z := 2) at_177 rfl rfl ?_
        refine OGo.istore K (pc' := 180) (Ls' := #[.val (.int v0), .val (.long t0), .second, .val (.long t1), .second, .val (.long t2), .second, .val (.long v4), .second, .val (.int v5), .val (.int (3 : Int32)), .val (.ref a), .val (.int (v5 &&& (3 : Int32))), .val (.long base), .second, .val (.long ((((v5 >>> ((2 : Int32) &&& 31)) &&& (3 : Int32)) - (1 : Int32)).toInt64)), .second, .val (.long (base + ((((v5 >>> ((2 : Int32) &&& 31)) &&& (3 : Int32)) - (1 : Int32)).toInt64))), .second, .val (.int (2 : Int32))]) at_178 rfl rfl ?_
        refine OGo.goto K (pc' := 186) at_180 (by decide) rfl ?_
        refine OGo.aload K (pc' := 188) at_186 rfl rfl rfl ?_
        refine OGo.lload K (pc' := 190) at_188 rfl rfl ?_
        refine OGo.callVV K (pc' := 193) (y := (⟨"com/example/exact_courier/exactcourier/storage/BatchIndex", "firstWithMaxTimestampAtLeast", "(J)I"⟩ : MethodName)) (z := (⟨"com/example/exact_courier/exactcourier/storage/BatchIndex", "firstWithMaxTimestampAtLeast", "(J)I"⟩ : MethodName)) (a := a) (W := 0) (cells' := 4) (slots' := 196) (argsL := [(.long (base + ((((v5 >>> ((2 : Int32) &&& 31)) &&& (3 : Int32)) - (1 : Int32)).toInt64)))]) (st := []) B14.1 (hw _ (List.mem_of_getElem? (i := 16) rfl)) (hw _ (List.mem_of_getElem? (i := 17) rfl)) (notFace_of_selects (args := #[]) (mvT K.hZ (hw _ (List.mem_of_getElem? (i := 19) rfl)))) (hw _ (List.mem_of_getElem? (i := 19) rfl)) (hw _ (List.mem_of_getElem? (i := 18) rfl)) (hw _ (List.mem_of_getElem? (i := 2) rfl)) (hw _ (List.mem_of_getElem? (i := 20) rfl)) (by decide) (own_rm3 l Z a0 hw a x1 y1 z1 (base + ((((v5 >>> ((2 : Int32) &&& 31)) &&& (3 : Int32)) - (1 : Int32)).toInt64)) [t0, t1, t2] h14 n0 Z14 B14 (Nat.le_of_ble_eq_true rfl)) at_190 rfl rfl (lenOf own_pd2 rfl) (by show 2 * 0 + _ ≤ _; exact Nat.le_of_eq rfl) (by decide) (by decide) rfl rfl (by decide) (by decide) ?_
        rintro _ h17 ⟨rfl, e17⟩
        rw [e17]
        show OGo p l e _ s m _ below meth c n0 _ h14 4 196 193 #[.val (.int v0), .val (.long t0), .second, .val (.long t1), .second, .val (.long t2), .second, .val (.long v4), .second, .val (.int v5), .val (.int (3 : Int32)), .val (.ref a), .val (.int (v5 &&& (3 : Int32))), .val (.long base), .second, .val (.long ((((v5 >>> ((2 : Int32) &&& 31)) &&& (3 : Int32)) - (1 : Int32)).toInt64)), .second, .val (.long (base + ((((v5 >>> ((2 : Int32) &&& 31)) &&& (3 : Int32)) - (1 : Int32)).toInt64))), .second, .val (.int (2 : Int32))] [(.int (own_first [t0, t1, t2] (base + ((((v5 >>> ((2 : Int32) &&& 31)) &&& (3 : Int32)) - (1 : Int32)).toInt64)) 0))]
        refine OGo.iload K (pc' := 195) at_193 rfl rfl ?_
        refine OGo.icmpNe K (pc' := 198) (pcY := 202) at_195 rfl (by decide) rfl (fun hc195 => absurd (by simp [own_first, hl0, hl1, hl2] : (own_first [t0, t1, t2] (base + ((((v5 >>> ((2 : Int32) &&& 31)) &&& (3 : Int32)) - (1 : Int32)).toInt64)) 0) = (2 : Int32)) hc195) (fun hc195 => ?_)
        refine OGo.iconst K (pc' := 199) (z := 1) at_198 rfl rfl ?_
        refine OGo.goto K (pc' := 203) at_199 (by decide) rfl ?_
        exact OGo.ret K at_203 rfl (Or.inl ⟨rfl, by simp, _, rfl⟩) (by decide) (by decide) ⟨_, rfl, rfl⟩
      refine OGo.iconst K (pc' := 184) (z := (-1)) at_183 rfl rfl ?_
      refine OGo.istore K (pc' := 186) (Ls' := #[.val (.int v0), .val (.long t0), .second, .val (.long t1), .second, .val (.long t2), .second, .val (.long v4), .second, .val (.int v5), .val (.int (3 : Int32)), .val (.ref a), .val (.int (v5 &&& (3 : Int32))), .val (.long base), .second, .val (.long ((((v5 >>> ((2 : Int32) &&& 31)) &&& (3 : Int32)) - (1 : Int32)).toInt64)), .second, .val (.long (base + ((((v5 >>> ((2 : Int32) &&& 31)) &&& (3 : Int32)) - (1 : Int32)).toInt64))), .second, .val (.int (-1 : Int32))]) at_184 rfl rfl ?_
      refine OGo.aload K (pc' := 188) at_186 rfl rfl rfl ?_
      refine OGo.lload K (pc' := 190) at_188 rfl rfl ?_
      refine OGo.callVV K (pc' := 193) (y := (⟨"com/example/exact_courier/exactcourier/storage/BatchIndex", "firstWithMaxTimestampAtLeast", "(J)I"⟩ : MethodName)) (z := (⟨"com/example/exact_courier/exactcourier/storage/BatchIndex", "firstWithMaxTimestampAtLeast", "(J)I"⟩ : MethodName)) (a := a) (W := 0) (cells' := 4) (slots' := 196) (argsL := [(.long (base + ((((v5 >>> ((2 : Int32) &&& 31)) &&& (3 : Int32)) - (1 : Int32)).toInt64)))]) (st := []) B14.1 (hw _ (List.mem_of_getElem? (i := 16) rfl)) (hw _ (List.mem_of_getElem? (i := 17) rfl)) (notFace_of_selects (args := #[]) (mvT K.hZ (hw _ (List.mem_of_getElem? (i := 19) rfl)))) (hw _ (List.mem_of_getElem? (i := 19) rfl)) (hw _ (List.mem_of_getElem? (i := 18) rfl)) (hw _ (List.mem_of_getElem? (i := 2) rfl)) (hw _ (List.mem_of_getElem? (i := 20) rfl)) (by decide) (own_rm3 l Z a0 hw a x1 y1 z1 (base + ((((v5 >>> ((2 : Int32) &&& 31)) &&& (3 : Int32)) - (1 : Int32)).toInt64)) [t0, t1, t2] h14 n0 Z14 B14 (Nat.le_of_ble_eq_true rfl)) at_190 rfl rfl (lenOf own_pd2 rfl) (by show 2 * 0 + _ ≤ _; exact Nat.le_of_eq rfl) (by decide) (by decide) rfl rfl (by decide) (by decide) ?_
      rintro _ h18 ⟨rfl, e18⟩
      rw [e18]
      show OGo p l e _ s m _ below meth c n0 _ h14 4 196 193 #[.val (.int v0), .val (.long t0), .second, .val (.long t1), .second, .val (.long t2), .second, .val (.long v4), .second, .val (.int v5), .val (.int (3 : Int32)), .val (.ref a), .val (.int (v5 &&& (3 : Int32))), .val (.long base), .second, .val (.long ((((v5 >>> ((2 : Int32) &&& 31)) &&& (3 : Int32)) - (1 : Int32)).toInt64)), .second, .val (.long (base + ((((v5 >>> ((2 : Int32) &&& 31)) &&& (3 : Int32)) - (1 : Int32)).toInt64))), .second, .val (.int (-1 : Int32))] [(.int (own_first [t0, t1, t2] (base + ((((v5 >>> ((2 : Int32) &&& 31)) &&& (3 : Int32)) - (1 : Int32)).toInt64)) 0))]
      refine OGo.iload K (pc' := 195) at_193 rfl rfl ?_
      refine OGo.icmpNe K (pc' := 198) (pcY := 202) at_195 rfl (by decide) rfl (fun hc195 => absurd (by simp [own_first, hl0, hl1, hl2] : (own_first [t0, t1, t2] (base + ((((v5 >>> ((2 : Int32) &&& 31)) &&& (3 : Int32)) - (1 : Int32)).toInt64)) 0) = (-1 : Int32)) hc195) (fun hc195 => ?_)
      refine OGo.iconst K (pc' := 199) (z := 1) at_198 rfl rfl ?_
      refine OGo.goto K (pc' := 203) at_199 (by decide) rfl ?_
      exact OGo.ret K at_203 rfl (Or.inl ⟨rfl, by simp, _, rfl⟩) (by decide) (by decide) ⟨_, rfl, rfl⟩
    refine OGo.iload K (pc' := 70) at_68 rfl rfl ?_
    refine OGo.ifNe K (pc' := 73) (pcY := 80) at_70 rfl (by decide) rfl (fun hc70 => ?_) (fun hc70 => ?_)
    rotate_left
    · skip
      refine OGo.lload K (pc' := 75) at_73 rfl rfl ?_
      refine OGo.lstore K (pc' := 77) (Ls' := #[.val (.int v0), .val (.long t0), .second, .val (.long t1), .second, .val (.long t2), .second, .val (.long v4), .second, .val (.int v5), .val (.int (3 : Int32)), .val (.ref a), .val (.int (v5 &&& (3 : Int32))), .val (.long v4), .second, .unset, .unset, .unset, .unset, .unset]) at_75 rfl rfl ?_
      refine OGo.goto K (pc' := 108) at_77 (by decide) rfl ?_
      exact J _
    refine OGo.iload K (pc' := 82) at_80 rfl rfl ?_
    refine OGo.iconst K (pc' := 83) (z := 1) at_82 rfl rfl ?_
    refine OGo.icmpNe K (pc' := 86) (pcY := 92) at_83 rfl (by decide) rfl (fun hc83 => ?_) (fun hc83 => ?_)
    rotate_left
    · skip
      refine OGo.lloadN K (pc' := 87) at_86 rfl rfl ?_
      refine OGo.lstore K (pc' := 89) (Ls' := #[.val (.int v0), .val (.long t0), .second, .val (.long t1), .second, .val (.long t2), .second, .val (.long v4), .second, .val (.int v5), .val (.int (3 : Int32)), .val (.ref a), .val (.int (v5 &&& (3 : Int32))), .val (.long t0), .second, .unset, .unset, .unset, .unset, .unset]) at_87 rfl rfl ?_
      refine OGo.goto K (pc' := 108) at_89 (by decide) rfl ?_
      exact J _
    refine OGo.iload K (pc' := 94) at_92 rfl rfl ?_
    refine OGo.iconst K (pc' := 95) (z := 2) at_94 rfl rfl ?_
    refine OGo.icmpNe K (pc' := 98) (pcY := 104) at_95 rfl (by decide) rfl (fun hc95 => ?_) (fun hc95 => ?_)
    rotate_left
    · skip
      refine OGo.lloadN K (pc' := 99) at_98 rfl rfl ?_
      refine OGo.lstore K (pc' := 101) (Ls' := #[.val (.int v0), .val (.long t0), .second, .val (.long t1), .second, .val (.long t2), .second, .val (.long v4), .second, .val (.int v5), .val (.int (3 : Int32)), .val (.ref a), .val (.int (v5 &&& (3 : Int32))), .val (.long t1), .second, .unset, .unset, .unset, .unset, .unset]) at_99 rfl rfl ?_
      refine OGo.goto K (pc' := 108) at_101 (by decide) rfl ?_
      exact J _
    refine OGo.lload K (pc' := 106) at_104 rfl rfl ?_
    refine OGo.lstore K (pc' := 108) (Ls' := #[.val (.int v0), .val (.long t0), .second, .val (.long t1), .second, .val (.long t2), .second, .val (.long v4), .second, .val (.int v5), .val (.int (3 : Int32)), .val (.ref a), .val (.int (v5 &&& (3 : Int32))), .val (.long t2), .second, .unset, .unset, .unset, .unset, .unset]) at_106 rfl rfl ?_
    exact J _
set_option maxRecDepth 65536 in
set_option maxHeartbeats 40000000 in
theorem own_comes {Post : Tables → Env → Array Value → State → Outcome → State → Prop} (hpost : ∀ tb e args s v u, (limb_1_1.after args s (.returned v) u = true ∧ limb_1_2.after args s (.returned v) u = true ∧ True) → FrameEnd s (.returned v) u (Jvm.fieldLocs frame_1_writes args s ++ Jvm.arrayLocs frame_1_arrays args s ++ Jvm.staticLocs frame_1_statics s) 16 512 → Post tb e args s (.returned v) u) :
    ArmFor flags0 classFile x code maxLocals ret World_1 tables_1 room_1 Calls_1 rest_1 Pre_1 Post := by
  intro l hfl _ _ p e ha hc hk s m args below hf hA hF happ hP
  obtain ⟨hcalls, hrest, hpre⟩ := hP
  obtain ⟨-, -, -, hnamed, -, -, -, hat⟩ := (Spec.applies_iff hf).mp happ
  obtain ⟨hg, hn⟩ := and_e (Cond.before_iff.mp (show (Jvm.Cond.and given_1 narrow_1).before args s = true from hpre))
  obtain ⟨gg1, gg2⟩ := and_e hg
  obtain ⟨gg3, gg4⟩ := and_e gg2
  obtain ⟨gg5, gg6⟩ := and_e gg4
  obtain ⟨gg7, gg8⟩ := and_e gg6
  obtain ⟨gg9, gg10⟩ := and_e gg8
  obtain ⟨gg11, gg12⟩ := and_e gg10
  obtain ⟨w0, w1, w2, w3, w4, w5, rfl⟩ : ∃ w0 w1 w2 w3 w4 w5 : Value, args = #[w0, w1, w2, w3, w4, w5] := by
    have hs : args.size = 6 := by simpa [Cond.value, given_1] using gg1
    obtain ⟨L⟩ := args
    match L, hs with
    | [w0, w1, w2, w3, w4, w5], _ => exact ⟨w0, w1, w2, w3, w4, w5, rfl⟩
  have hw := fun d (hd : d ∈ tables_1) => atoms_spec (ws := Jvm.Cond.code x code maxLocals ret :: tables_1) hat d (List.mem_cons_of_mem _ hd)
  have hfit : Fit s := fun {y c} hc i hi => by
    obtain ⟨ha, rfl⟩ := Array.getElem?_eq_some_iff.mp hc
    have q := List.all_eq_true.mp ((Array.all_eq_true_iff_forall_mem.mp hF) _ (Array.getElem_mem ha)) i (List.mem_range.mpr hi)
    simpa [Array.getElem?_eq_getElem hi] using q
  obtain ⟨i0, ei0⟩ := is_v gg3
  obtain rfl : w0 = (.int i0) := Option.some.inj ei0
  obtain ⟨i1, ei1⟩ := isL_v gg5
  obtain rfl : w1 = (.long i1) := Option.some.inj ei1
  obtain ⟨i2, ei2⟩ := isL_v gg7
  obtain rfl : w2 = (.long i2) := Option.some.inj ei2
  obtain ⟨i3, ei3⟩ := isL_v gg9
  obtain rfl : w3 = (.long i3) := Option.some.inj ei3
  obtain ⟨i4, ei4⟩ := isL_v gg11
  obtain rfl : w4 = (.long i4) := Option.some.inj ei4
  obtain ⟨i5, ei5⟩ := is_v gg12
  obtain rfl : w5 = (.int i5) := Option.some.inj ei5
  obtain ⟨n, o, h1, h2, h3, _, L, rfl, ⟨⟨_, rfl, rfl⟩, N⟩, hq⟩ := own_rm0 l s _ hw tables_1 i0 i1 i2 i3 i4 i5  s.heap s.heap.size (Nat.le_refl _)  p e ha hc hk s m _ below hf ((Spec.applies_iff_loose hf).mp happ).1 ⟨rfl, State.Warmed39.refl s, rfl⟩ trivial
  refine ⟨n, _, h1, h2, h3, hpost _ _ _ _ _ _ ⟨Cond.after_iff.mpr rfl, Cond.after_iff.mpr (eq_i res_at (Term.int_eval (1)) rfl), trivial⟩ ⟨hq.1, hq.2.1, (hq.2.2.sift fun y hy => Or.inr (N y hy)).mono (by decide) (by decide)⟩⟩
theorem main_1_1 : Claimed_1_1 := own_comes fun _ _ _ _ _ _ h hF => ⟨h.1, hF⟩
theorem main_1_2 : Claimed_1_2 := own_comes fun _ _ _ _ _ _ h hF => ⟨h.2.1, hF⟩
end Jvm.Pilot.@@N@@
namespace Jvm.Pilot.@@N@@
open Jvm Jvm.ClassFile Sem Op Lib Jvm.Free Jvm.Stand Jvm.Pilot.@@N@@.Jvm.D
/-! MADE BY PROGRAM (witnessworld.py) out of the Statement's table words and the real class files: 11 classes; the members and pool entries that the words name. The judged class is class 1, her method 1. -/
namespace start1
open Jvm.ClassFile
def u (s : String) : CpInfo := .utf8 (stringToUtf16 s)
/-- a pool by its gaps: so many unusable entries, then the entry; so many at the end -/
def gap : Nat → List CpInfo → List CpInfo
  | 0, r => r
  | n + 1, r => .unusable :: gap n r
def poolList (es : List (Nat × CpInfo)) (last : Nat) : List CpInfo := es.foldr (fun e r => gap e.1 (e.2 :: r)) (gap last [])
def pool (es : List (Nat × CpInfo)) (last : Nat) : Array CpInfo := ⟨poolList es last⟩
def fileOf (pool : Array CpInfo) (this : Nat) (attrs : Array Attribute := #[]) (ms : Array MethodInfo := #[]) (fl : Nat := 33) (sup : Nat := 0) (ifs : Array Nat := #[]) (fds : Array FieldInfo := #[]) : ClassFile where
  minorVersion := 0
  majorVersion := 65
  constantPool := pool
  accessFlags := fl
  thisClass := this
  superClass := sup
  interfaces := ifs
  fields := fds
  methods := ms
  attributes := attrs
def plain (name : String) (sup : Option ClassId) : Class where
  name := name
  kind := .ordinary
  loader := none
  accessFlags := 33
  super := sup
  interfaces := #[]
  cf := none
  fields := #[]
  methods := #[]
  instanceTypes := #[]
  staticTypes := #[]
  resolved := #[]
  callSites := []
  init := .initialized
  statics := none
  mirror := none

def pool0 : Array CpInfo := pool [(5, u "<init>"), (0, u "()V"), (1, .class_ 10), (1, u "java/lang/Object")] 113

def k0c0 : Code := { maxStack := 0, maxLocals := 1, code := object_method_1_code, exceptionTable := #[], attributes := #[] }
def k0m0 : Method := { name := "<init>", desc := "()V", sig := { parameters := [], returnType := none }, accessFlags := 1, code := some k0c0 }
/-- java/lang/Object -/
def k0 : Class := { plain "java/lang/Object" none with
  accessFlags := 33
  interfaces := #[]
  cf := some (fileOf pool0 8 #[] #[{ accessFlags := 1, nameIndex := 5, descriptorIndex := 6, attributes := #[] }] 33 0 #[] #[])
  fields := #[]
  methods := #[k0m0]
  instanceTypes := #[]
  staticTypes := #[]
  resolved := Array.replicate 124 none
  statics := none }

def pool1 : Array CpInfo := pool [(2, .class_ 4), (0, .nameAndType 5 6), (0, u "java/lang/Object"), (0, u "<init>"), (0, u "()V"), (0, .class_ 8), (0, u "com/example/exact_courier/exactcourier/storage/BatchIndex"), (0, .methodref 7 3), (0, .methodref 7 11), (0, .nameAndType 12 13), (0, u "add"), (0, u "(JJJ)V"), (0, .long 10), (1, .long 2), (1, .long 20), (1, .methodref 7 21), (0, .nameAndType 22 23), (0, u "firstWithMaxTimestampAtLeast"), (0, u "(J)I"), (0, .class_ 25), (0, u "com/example/exact_courier/exactcourier/storage/BatchIndexFirstWithMaxTimestampAtLeastPinLaw"), (2, u "law"), (0, u "(IJJJJI)Z")] 3

def k1m0 : Method := { name := "<init>", desc := "()V", sig := { parameters := [], returnType := none }, accessFlags := 1, code := none }
def k1c1 : Code := { maxStack := 7, maxLocals := 20, code := code, exceptionTable := #[], attributes := #[] }
def k1m1 : Method := { name := "law", desc := "(IJJJJI)Z", sig := { parameters := [.int, .long, .long, .long, .long, .int], returnType := some .boolean }, accessFlags := 9, code := some k1c1 }
/-- com/example/exact_courier/exactcourier/storage/BatchIndexFirstWithMaxTimestampAtLeastPinLaw -/
def k1 : Class := { plain "com/example/exact_courier/exactcourier/storage/BatchIndexFirstWithMaxTimestampAtLeastPinLaw" (some 0) with
  accessFlags := 49
  interfaces := #[]
  cf := some (fileOf pool1 24 #[] #[{ accessFlags := 1, nameIndex := 5, descriptorIndex := 6, attributes := #[] }, { accessFlags := 9, nameIndex := 28, descriptorIndex := 29, attributes := #[] }] 49 2 #[] #[])
  fields := #[]
  methods := #[k1m0, k1m1]
  instanceTypes := #[]
  staticTypes := #[]
  resolved := Array.replicate 33 none
  statics := none }

def pool2 : Array CpInfo := pool [(1, .methodref 2 3), (0, .class_ 4), (0, .nameAndType 5 6), (0, u "java/lang/Object"), (0, u "<init>"), (0, u "()V"), (0, .fieldref 8 9), (0, .class_ 10), (0, .nameAndType 11 12), (0, u "com/example/exact_courier/exactcourier/storage/BatchIndex"), (0, u "baseOffsets"), (0, u "[J"), (0, .fieldref 8 14), (0, .nameAndType 15 12), (0, u "positions"), (0, .fieldref 8 17), (0, .nameAndType 18 12), (0, u "maxTimestamps"), (0, .fieldref 8 20), (0, .nameAndType 21 22), (0, u "count"), (0, u "I"), (17, u "add"), (0, u "(JJJ)V"), (2, u "(J)I"), (0, u "firstWithMaxTimestampAtLeast")] 2

def k2c0 : Code := { maxStack := 2, maxLocals := 1, code := prog_94_method_1_code, exceptionTable := #[], attributes := #[] }
def k2m0 : Method := { name := "<init>", desc := "()V", sig := { parameters := [], returnType := none }, accessFlags := 0, code := some k2c0 }
def k2c1 : Code := { maxStack := 4, maxLocals := 7, code := prog_94_method_6_code, exceptionTable := #[], attributes := #[] }
def k2m1 : Method := { name := "add", desc := "(JJJ)V", sig := { parameters := [.long, .long, .long], returnType := none }, accessFlags := 0, code := some k2c1 }
def k2c2 : Code := { maxStack := 4, maxLocals := 5, code := prog_94_method_8_code, exceptionTable := #[], attributes := #[] }
def k2m2 : Method := { name := "firstWithMaxTimestampAtLeast", desc := "(J)I", sig := { parameters := [.long], returnType := some .int }, accessFlags := 0, code := some k2c2 }
/-- com/example/exact_courier/exactcourier/storage/BatchIndex -/
def k2 : Class := { plain "com/example/exact_courier/exactcourier/storage/BatchIndex" (some 0) with
  accessFlags := 48
  interfaces := #[]
  cf := some (fileOf pool2 8 #[] #[{ accessFlags := 0, nameIndex := 5, descriptorIndex := 6, attributes := #[] }, { accessFlags := 0, nameIndex := 40, descriptorIndex := 41, attributes := #[] }, { accessFlags := 0, nameIndex := 45, descriptorIndex := 44, attributes := #[] }] 48 2 #[] #[{ accessFlags := 2, nameIndex := 11, descriptorIndex := 12, attributes := #[] }, { accessFlags := 2, nameIndex := 15, descriptorIndex := 12, attributes := #[] }, { accessFlags := 2, nameIndex := 18, descriptorIndex := 12, attributes := #[] }, { accessFlags := 2, nameIndex := 21, descriptorIndex := 22, attributes := #[] }])
  fields := #[{ name := "baseOffsets", type := (.array .long), accessFlags := 2, slot := 0, constantValue := 0 }, { name := "positions", type := (.array .long), accessFlags := 2, slot := 1, constantValue := 0 }, { name := "maxTimestamps", type := (.array .long), accessFlags := 2, slot := 2, constantValue := 0 }, { name := "count", type := .int, accessFlags := 2, slot := 3, constantValue := 0 }]
  methods := #[k2m0, k2m1, k2m2]
  instanceTypes := #[(.array .long), (.array .long), (.array .long), .int]
  staticTypes := #[]
  resolved := Array.replicate 48 none
  statics := none }

def pool3 : Array CpInfo := pool [(1, u "java/lang/Cloneable"), (0, .class_ 1), (0, u "java/lang/Object"), (0, .class_ 3)] 3

/-- java/lang/Cloneable -/
def k3 : Class := { plain "java/lang/Cloneable" (some 0) with
  accessFlags := 1537
  interfaces := #[]
  cf := some (fileOf pool3 2 #[] #[] 1537 4 #[] #[])
  fields := #[]
  methods := #[]
  instanceTypes := #[]
  staticTypes := #[]
  resolved := Array.replicate 8 none
  statics := none }

def pool4 : Array CpInfo := pool [(1, u "java/io/Serializable"), (0, .class_ 1), (0, u "java/lang/Object"), (0, .class_ 3)] 3

/-- java/io/Serializable -/
def k4 : Class := { plain "java/io/Serializable" (some 0) with
  accessFlags := 1537
  interfaces := #[]
  cf := some (fileOf pool4 2 #[] #[] 1537 4 #[] #[])
  fields := #[]
  methods := #[]
  instanceTypes := #[]
  staticTypes := #[]
  resolved := Array.replicate 8 none
  statics := none }

/-- the primitive byte -/
def k5 : Class := { plain "byte" none with kind := .primitive 'B', accessFlags := 0x411 }
/-- [B -/
def k6 : Class := { plain "[B" (some 0) with kind := .array 5 .byte, interfaces := #[3, 4], accessFlags := 1041 }

/-- the primitive int -/
def k7 : Class := { plain "int" none with kind := .primitive 'I', accessFlags := 0x411 }
/-- [I -/
def k8 : Class := { plain "[I" (some 0) with kind := .array 7 .int, interfaces := #[3, 4], accessFlags := 1041 }

/-- the primitive long -/
def k9 : Class := { plain "long" none with kind := .primitive 'J', accessFlags := 0x411 }
/-- [J -/
def k10 : Class := { plain "[J" (some 0) with kind := .array 9 .long, interfaces := #[3, 4], accessFlags := 1041 }

def heap : Heap := #[]
def classes : Array Class := #[k0, k1, k2, k3, k4, k5, k6, k7, k8, k9, k10]
def interned : List (Array UInt16 × Addr) := []
def slotsUsed : Nat := 0
def theMethod : MethodId := ⟨1, 1⟩
def args0 : Array Value := #[.int 5, .long 3, .long 2, .long 7, .long 9, .int 1]
def aboutOver (below : List Frame) : State where
  vm := { classes := classes, interned := interned.toArray }
  heap := heap
  slotsUsed := slotsUsed
  threads := #[{ frames := .invoking theMethod args0 :: below }]
def below0 : List Frame := [.native { method := ⟨0, 0⟩, args := #[] }]
def about1 : State := aboutOver below0
def p0 : Program := .bare "" "" ""
def e0 : Env := launch0.env 0 0 0
theorem w_frames : about1.frames = Frame.invoking theMethod args0 :: below0 := rfl
set_option maxRecDepth 65536 in
theorem w_args : argsFit about1.vm theMethod args0 = true := by decide +kernel
set_option maxRecDepth 65536 in
theorem w_heap : heapFits about1 = true := by decide +kernel
set_option maxRecDepth 65536 in
theorem w_runnable : about1.curStatus? = some .runnable := by decide +kernel
set_option maxRecDepth 65536 in
theorem w_alone : about1.alone = true := by decide +kernel
set_option maxRecDepth 65536 in
theorem w_named : about1.methodNamed? x = some theMethod := by decide +kernel
set_option maxRecDepth 65536 in
theorem w_hears : about1.hears theMethod below0 = true := by decide +kernel
set_option maxRecDepth 65536 in
theorem w_ripe : about1.ripe theMethod args0 below0 = true := by decide +kernel
theorem w_running : about1.status = .running := rfl
set_option maxRecDepth 65536 in
theorem w_room : about1.hasRoom e0.platform room_1 = true :=
  launch0.hasRoom_least _ room_1 (by decide +kernel) (by decide +kernel) (by decide +kernel) (by decide +kernel) (by decide +kernel) (by decide +kernel)
theorem allAtoms_all (ts : List Jvm.Cond) (a : Array Jvm.Value) (st : Jvm.State) : (allAtoms ts).before a st = ts.all (fun c => c.before a st) := by
  induction ts with
  | nil => rfl
  | cons c t ih =>
    show (Jvm.Cond.and c (allAtoms t)).before a st = _
    rw [Jvm.Cond.before_and, ih, List.all_cons]
def words1 : List Jvm.Cond := Jvm.Cond.code x code maxLocals ret :: tables_1
/-- a 'code' word, met by the world's own term for the bytes: nothing is compared byte by byte -/
theorem code_word {y : MethodName} {bytes : ByteArray} {mx : Nat} {rt : Option FieldType} {a : Array Value} {s : State} {m : MethodId} {meth : Method} {c : Code} (h1 : s.methodNamed? y = some m) (h2 : s.vm.method? m = some meth) (h3 : meth.code = some c) (h4 : c.code = bytes)
    (h5 : (c.maxLocals == mx && c.exceptionTable.isEmpty && decide (c.maxStack ≤ mostOperands) && decide (meth.sig.returnType = rt) && !meth.locks && decide (parseMethodDescriptor y.desc = some meth.sig)) = true) : (Jvm.Cond.code y bytes mx rt).before a s = true := by
  simp only [Bool.and_eq_true, beq_iff_eq, Bool.not_eq_true', decide_eq_true_eq] at h5
  obtain ⟨⟨⟨⟨⟨g1, g2⟩, g3⟩, g4⟩, g5⟩, g6⟩ := h5
  simp [Cond.before, Cond.holds, Cond.value, h1, h2, h3, h4, g1, g2, g3, g4, g5, g6]
def isCode : Jvm.Cond → Bool
  | .code _ _ _ _ => true
  | _ => false
theorem all_split {L : List Jvm.Cond} {P : Jvm.Cond → Bool} (h1 : L.all (fun c => isCode c || P c) = true) (h2 : ∀ c ∈ L.filter isCode, P c = true) : L.all P = true := by
  refine List.all_eq_true.mpr fun c hc => ?_
  have h := List.all_eq_true.mp h1 c hc
  rcases Bool.eq_false_or_eq_true (isCode c) with hi | hi
  · exact h2 c (List.mem_filter.mpr ⟨hc, hi⟩)
  · simpa [hi] using h
set_option maxRecDepth 65536 in
theorem w_c0 : (Jvm.Cond.code x code maxLocals ret).before args0 about1 = true := code_word (m := ⟨1, 1⟩) (meth := k1m1) (c := k1c1) (by decide +kernel) rfl rfl rfl (by decide +kernel)
set_option maxRecDepth 65536 in
theorem w_c1 : (Jvm.Cond.code ({ cls := "com/example/exact_courier/exactcourier/storage/BatchIndex", name := "<init>", desc := "()V" } : Jvm.MethodName) prog_94_method_1_code (1 : Nat) (Option.none : Option Jvm.ClassFile.FieldType)).before args0 about1 = true := code_word (m := ⟨2, 0⟩) (meth := k2m0) (c := k2c0) (by decide +kernel) rfl rfl rfl (by decide +kernel)
set_option maxRecDepth 65536 in
theorem w_c2 : (Jvm.Cond.code ({ cls := "java/lang/Object", name := "<init>", desc := "()V" } : Jvm.MethodName) object_method_1_code (1 : Nat) (Option.none : Option Jvm.ClassFile.FieldType)).before args0 about1 = true := code_word (m := ⟨0, 0⟩) (meth := k0m0) (c := k0c0) (by decide +kernel) rfl rfl rfl (by decide +kernel)
set_option maxRecDepth 65536 in
theorem w_c3 : (Jvm.Cond.code ({ cls := "com/example/exact_courier/exactcourier/storage/BatchIndex", name := "firstWithMaxTimestampAtLeast", desc := "(J)I" } : Jvm.MethodName) prog_94_method_8_code (5 : Nat) (Option.some Jvm.ClassFile.FieldType.int)).before args0 about1 = true := code_word (m := ⟨2, 2⟩) (meth := k2m2) (c := k2c2) (by decide +kernel) rfl rfl rfl (by decide +kernel)
set_option maxRecDepth 65536 in
theorem w_c4 : (Jvm.Cond.code ({ cls := "com/example/exact_courier/exactcourier/storage/BatchIndex", name := "add", desc := "(JJJ)V" } : Jvm.MethodName) prog_94_method_6_code (7 : Nat) (Option.none : Option Jvm.ClassFile.FieldType)).before args0 about1 = true := code_word (m := ⟨2, 1⟩) (meth := k2m1) (c := k2c1) (by decide +kernel) rfl rfl rfl (by decide +kernel)
def codes1 : List Jvm.Cond := [Jvm.Cond.code x code maxLocals ret, Jvm.Cond.code ({ cls := "com/example/exact_courier/exactcourier/storage/BatchIndex", name := "<init>", desc := "()V" } : Jvm.MethodName) prog_94_method_1_code (1 : Nat) (Option.none : Option Jvm.ClassFile.FieldType), Jvm.Cond.code ({ cls := "java/lang/Object", name := "<init>", desc := "()V" } : Jvm.MethodName) object_method_1_code (1 : Nat) (Option.none : Option Jvm.ClassFile.FieldType), Jvm.Cond.code ({ cls := "com/example/exact_courier/exactcourier/storage/BatchIndex", name := "firstWithMaxTimestampAtLeast", desc := "(J)I" } : Jvm.MethodName) prog_94_method_8_code (5 : Nat) (Option.some Jvm.ClassFile.FieldType.int), Jvm.Cond.code ({ cls := "com/example/exact_courier/exactcourier/storage/BatchIndex", name := "add", desc := "(JJJ)V" } : Jvm.MethodName) prog_94_method_6_code (7 : Nat) (Option.none : Option Jvm.ClassFile.FieldType)]
set_option maxRecDepth 65536 in
theorem codes_eq : words1.filter isCode = codes1 := rfl
theorem w_codes : ∀ c ∈ words1.filter isCode, c.before args0 about1 = true := by
  rw [codes_eq]
  intro c hc
  simp only [codes1, List.mem_cons, List.not_mem_nil, or_false] at hc
  rcases hc with rfl | rfl | rfl | rfl | rfl
  · exact w_c0
  · exact w_c1
  · exact w_c2
  · exact w_c3
  · exact w_c4
set_option maxRecDepth 65536 in
theorem w_t1 : (words1.take 24).all (fun c => isCode c || c.before args0 about1) = true := by decide +kernel
set_option maxRecDepth 65536 in
theorem w_t2 : (words1.drop 24).all (fun c => isCode c || c.before args0 about1) = true := by decide +kernel
theorem w_tables : (allAtoms (Jvm.Cond.code x code maxLocals ret :: tables_1)).before args0 about1 = true := by
  rw [allAtoms_all]
  show words1.all (fun c => c.before args0 about1) = true
  refine all_split ?_ w_codes
  rw [← List.take_append_drop 24 words1, List.all_append, w_t1, w_t2]
  rfl
set_option maxRecDepth 65536 in
theorem w_case : (Jvm.Cond.and given_1 narrow_1).before args0 about1 = true := by decide +kernel
theorem w_applies : (headSpec (Jvm.Cond.code x code maxLocals ret :: tables_1) room_1).applies x e0.platform about1 = true :=
  (Spec.applies_iff w_frames).mpr ⟨w_running, w_runnable, w_alone, w_named, w_hears, w_ripe, w_room, w_tables⟩
theorem atStart : AtStart classFile x code maxLocals ret World_1 tables_1 room_1 Calls_1 rest_1 Pre_1 launch0 p0 e0 about1 theMethod args0 below0 :=
  ⟨lists_1, trivial, launch0.admits_env _ _ _, launch0.least_env, fairChoices_fair.cas, fairChoices_fair.clock, w_frames, w_args, w_heap, w_applies, trivial, trivial, w_case⟩
end start1
theorem witness_1 : WitnessClaimed_1 := ⟨start1.p0, start1.e0, start1.about1, start1.theMethod, start1.args0, start1.below0, start1.atStart⟩
end Jvm.Pilot.@@N@@
