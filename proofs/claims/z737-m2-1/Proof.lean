import JvmDerived
import JvmDerived.Pilot.@@N@@Statement
import JvmDerived.Pilot.@@N@@Code
set_option linter.unusedVariables false
set_option linter.unusedSimpArgs false
namespace Jvm.Pilot.@@N@@
open Jvm Jvm.ClassFile Sem Op Lib Jvm.Free Jvm.Stand Jvm.LawKit Jvm.RoadKit Bundle Jvm.Pilot.@@N@@.Jvm.D
section OwnLayer
variable {p : Program} {l : Launch} {e : Env} {R : Room} {s : State} {m : MethodId} {args : Array Value} {below : List Frame} {meth : Method} {c : Code} {Z : State} {a0 : Array Value} {n0 : Nat} {own nm : String} {bytes : ByteArray} {ml : Nat} {rt : Option FieldType} {Q : Option Value → Heap → Prop} {h : Heap} {cells slots pc pc' pcY : Nat} {Ls Ls' : Array Slot} {st st' : List Value}
def ushr (x y : Int32) : Int32 := (x.toUInt32 >>> (y &&& 31).toUInt32).toInt32
def ushrL (x : Int64) (y : Int32) : Int64 := (x.toUInt64 >>> (y &&& 0x3f).toInt64.toUInt64).toInt64
/-- what stays the same while a body is walked -/
def OCx (p : Program) (l : Launch) (e : Env) (R : Room) (s : State) (m : MethodId) (args : Array Value) (below : List Frame) (meth : Method) (c : Code) (Z : State) (own nm : String) (bytes : ByteArray) (ml : Nat) (rt : Option FieldType) : Prop :=
  p.tables.exec = Jvm.exec ∧ c.code = bytes ∧ c.maxLocals = ml ∧ meth.sig.returnType = rt ∧ meth.name = nm ∧ meth.locks = false ∧ s.vm.findClass own = some m.cls ∧ Z.Warmed39 s.vm
theorem OCx.ex (K : OCx p l e R s m args below meth c Z own nm bytes ml rt) : p.tables.exec = Jvm.exec := K.1
theorem OCx.by (K : OCx p l e R s m args below meth c Z own nm bytes ml rt) : c.code = bytes := K.2.1
theorem OCx.hml (K : OCx p l e R s m args below meth c Z own nm bytes ml rt) : c.maxLocals = ml := K.2.2.1
theorem OCx.hrt (K : OCx p l e R s m args below meth c Z own nm bytes ml rt) : meth.sig.returnType = rt := K.2.2.2.1
theorem OCx.hnm (K : OCx p l e R s m args below meth c Z own nm bytes ml rt) : meth.name = nm := K.2.2.2.2.1
theorem OCx.lk (K : OCx p l e R s m args below meth c Z own nm bytes ml rt) : meth.locks = false := K.2.2.2.2.2.1
theorem OCx.hown (K : OCx p l e R s m args below meth c Z own nm bytes ml rt) : s.vm.findClass own = some m.cls := K.2.2.2.2.2.2.1
theorem OCx.hZ (K : OCx p l e R s m args below meth c Z own nm bytes ml rt) : Z.Warmed39 s.vm := K.2.2.2.2.2.2.2
/-- from here the body ends as Q says -/
def OGo (p : Program) (l : Launch) (e : Env) (R : Room) (s : State) (m : MethodId) (args : Array Value) (below : List Frame) (meth : Method) (c : Code) (n0 : Nat) (Q : Option Value → Heap → Prop) (h : Heap) (cells slots pc : Nat) (Ls : Array Slot) (st : List Value) : Prop :=
  ∀ (T : State) (locs : List Loc) (k n : Nat), Stand p l e R s m args below meth c T locs k n → T.heap = h → Fr n0 locs → k ≤ cells → n ≤ slots →
    ∃ (s₂ : State) (v : Option Value) (L : List Loc), Steps p.tables e below (T.setTop (mkF m pc Ls st)) s₂ ∧ s₂.status = .running ∧ Ended s₂ below (.returned v) ∧ Q v s₂.heap ∧ Fr n0 L ∧ FrameEnd s (.returned v) s₂ L R.cells R.slots
abbrev OCon (l : Launch) (Z : State) (n0 : Nat) (y : MethodName) (bytes : ByteArray) (maxL : Nat) (ret : Option FieldType) (ws : List Jvm.Cond) (rm : Room) (as' : Array Value) (h0 : Heap) (Q : Option Value → Heap → Prop) : Prop :=
  MetFree l y (head1 (Jvm.Cond.code y bytes maxL ret :: ws) rm) (fun a U => a = as' ∧ Z.Warmed39 U.vm ∧ U.heap = h0) (fun _ _ _ _ _ => True) (fun _ U o U' => ∃ v L, o = .returned v ∧ (Q v U'.heap ∧ Fr n0 L) ∧ FrameEnd U o U' L rm.cells rm.slots)
def OV (P : Value → Heap → Prop) (v : Option Value) (h : Heap) : Prop := ∃ w, v = some w ∧ P w h
def ON (P : Heap → Prop) (v : Option Value) (h : Heap) : Prop := v = none ∧ P h
def own_lay : List Value → List Slot
  | [] => []
  | v :: vs => if v.category = 2 then .val v :: .second :: own_lay vs else .val v :: own_lay vs
theorem own_lay_fold (vs : List Value) (acc : Array Slot) : vs.foldl (fun acc v => if v.category = 2 then (acc.push (.val v)).push .second else acc.push (.val v)) acc = acc ++ (own_lay vs).toArray := by
  induction vs generalizing acc with
  | nil => simp [own_lay]
  | cons v vs ih =>
    rw [List.foldl_cons, ih]
    simp only [own_lay]
    split <;> simp
theorem own_entry (m : MethodId) {vs : List Value} {n : Nat} {L : List Slot} (h : own_lay vs ++ List.replicate (n - (own_lay vs).length) .unset = L) : entryFrame m vs.toArray n = mkF m 0 L.toArray [] := by
  unfold entryFrame mkF argsToLocals
  subst h
  simp [own_lay_fold]
theorem OCon.of {y : MethodName} {maxL : Nat} {ret : Option FieldType} {ws : List Jvm.Cond} {rm : Room} {as' : Array Value} {h0 : Heap} (hpl : plainFor y = true) (hf : ∀ m, entryFrame m as' maxL = mkF m 0 Ls [])
    (body : ∀ p e s m below meth c, OCx p l e rm s m as' below meth c Z y.cls y.name bytes maxL ret → OGo p l e rm s m as' below meth c n0 Q h0 0 0 0 Ls []) : OCon l Z n0 y bytes maxL ret ws rm as' h0 Q := by
  refine MetFree.of_bodySF hpl hisR ?_
  intro p e s m args below meth c s₁ Bd hml0 hP hK
  obtain ⟨rfl, hZ, hh⟩ := hP
  have X0 : Stand p l e rm s m _ below meth c s₁ [] 0 0 := Stand.of_body Bd
  have e0 : s₁.heap = h0 := by rw [← hh, Bd.state]; rfl
  obtain ⟨s₂, v, L, h1, h2, h3, h4, h5, h6⟩ := body p e s m below meth c ⟨Bd.exec, Bd.bytes, hml0, Bd.returns, (name_of_methodNamed Bd.named Bd.method).1, BodyLoose.notSynchronized Bd, findClass_of_methodNamed Bd.named, hZ⟩ s₁ [] 0 0 X0 e0 (Fr.nil n0) (Nat.le_refl _) (Nat.le_refl _)
  exact ⟨s₂, _, castTop (hf m) h1, h2, h3, v, L, rfl, ⟨h4, h5⟩, h6⟩
theorem OCon.mono {y : MethodName} {maxL : Nat} {ret : Option FieldType} {ws : List Jvm.Cond} {rm : Room} {as' : Array Value} {h0 : Heap} {Q' : Option Value → Heap → Prop} (H : OCon l Z n0 y bytes maxL ret ws rm as' h0 Q) (k : ∀ v h, Q v h → Q' v h) : OCon l Z n0 y bytes maxL ret ws rm as' h0 Q' := by
  intro p e ha hc hk s m args below hf happ hP hK
  obtain ⟨n, o, h1, h2, h3, v, L, h4, ⟨h5, h6⟩, h7⟩ := H p e ha hc hk s m args below hf happ hP hK
  exact ⟨n, o, h1, h2, h3, v, L, h4, ⟨k _ _ h5, h6⟩, h7⟩
theorem OGo.more {cells' slots' : Nat} (r : OGo p l e R s m args below meth c n0 Q h cells' slots' pc Ls st) (hc : cells ≤ cells') (hs : slots ≤ slots') : OGo p l e R s m args below meth c n0 Q h cells slots pc Ls st :=
  fun T locs k n X e0 N h1 h2 => r T locs k n X e0 N (Nat.le_trans h1 hc) (Nat.le_trans h2 hs)
theorem OGo.plain (hs : ∀ (T t : State), At T m c below → Steps p.tables e below (T.setTop (mkF m pc' Ls' st')) t → Steps p.tables e below (T.setTop (mkF m pc Ls st)) t) (r : OGo p l e R s m args below meth c n0 Q h cells slots pc' Ls' st') : OGo p l e R s m args below meth c n0 Q h cells slots pc Ls st := by
  intro T locs k n X e0 N h1 h2
  obtain ⟨s₂, v, L, g, r'⟩ := r T locs k n X e0 N h1 h2
  exact ⟨s₂, v, L, hs T s₂ X.here g, r'⟩
theorem OGo.same (hs : ∀ (T : State) (locs : List Loc) (k n : Nat), Stand p l e R s m args below meth c T locs k n → T.heap = h → ∃ T', Stand p l e R s m args below meth c T' locs k n ∧ T'.heap = h ∧ ∀ t, Steps p.tables e below (T'.setTop (mkF m pc' Ls' st')) t → Steps p.tables e below (T.setTop (mkF m pc Ls st)) t) (r : OGo p l e R s m args below meth c n0 Q h cells slots pc' Ls' st') : OGo p l e R s m args below meth c n0 Q h cells slots pc Ls st := by
  intro T locs k n X e0 N h1 h2
  obtain ⟨T', X', e', st'⟩ := hs T locs k n X e0
  obtain ⟨s₂, v, L, g, r'⟩ := r T' locs k n X' e' N h1 h2
  exact ⟨s₂, v, L, st' _ g, r'⟩
/-- a step that writes one place a -/
theorem OGo.write {a : Addr} {sl : Nat} {v : Value} (ga : n0 ≤ a) (hs : ∀ (T : State) (locs : List Loc) (k n : Nat), Stand p l e R s m args below meth c T locs k n → T.heap = h → ∃ T' h', Stand p l e R s m args below meth c T' (locs ++ [⟨a, sl⟩]) k n ∧ T'.heap = h' ∧ Wr h h' a sl v ∧ ∀ t, Steps p.tables e below (T'.setTop (mkF m pc' Ls' st')) t → Steps p.tables e below (T.setTop (mkF m pc Ls st)) t)
    (r : ∀ h', Wr h h' a sl v → OGo p l e R s m args below meth c n0 Q h' cells slots pc' Ls' st') : OGo p l e R s m args below meth c n0 Q h cells slots pc Ls st := by
  intro T locs k n X e0 N h1 h2
  obtain ⟨T', h', X', e', W, st'⟩ := hs T locs k n X e0
  obtain ⟨s₂, v, L, g, r'⟩ := r h' W T' _ k n X' e' (Fr.snoc X' N ga) h1 h2
  exact ⟨s₂, v, L, st' _ g, r'⟩
theorem OGo.leave {w : Option Value} (K : OCx p l e R s m args below meth c Z own nm bytes ml rt) (hv : rt = none → w = none) (hs : ∀ (T : State) (locs : List Loc) (k n : Nat) (fs : List Frame), Stand p l e R s m args below meth c T locs k n → (∀ (f : JFrame) (acts : List Action), f.method = m → f.locked = none → f.entered = [] → (doReturn e (T.setTop f) acts w).1 = T.setFrames fs) → Steps p.tables e below (T.setTop (mkF m pc Ls st)) (T.setFrames fs))
    (hc : cells ≤ R.cells) (hl : slots ≤ R.slots) (q : Q w h) : OGo p l e R s m args below meth c n0 Q h cells slots pc Ls st := by
  intro T locs k n X e0 N h1 h2
  obtain ⟨fs, hr, hrun, hended, hW, hsame⟩ := X.leave (v := w) (fun x => hv (K.hrt.symm.trans x)) K.lk
  refine ⟨_, w, locs, hs T locs k n fs X hr, hrun, hended, ?_, N, ⟨_, rfl⟩, hW, hsame.mono (Nat.le_trans h1 hc) (Nat.le_trans h2 hl)⟩
  show Q w T.heap
  rw [e0]; exact q
theorem OGo.ret {w : Value} {t : FieldType} {i : Instr} {rest : List Value} (K : OCx p l e R s m args below meth c Z own nm bytes ml (some t)) (hd : decode bytes pc = .ok (i, 1)) (hn : narrow t w = w)
    (hi : (i = .ireturn ∧ (t = .int ∨ t = .boolean ∨ t = .byte ∨ t = .char ∨ t = .short) ∧ ∃ z, w = .int z) ∨ (i = .lreturn ∧ t = .long ∧ ∃ z, w = .long z) ∨ (i = .dreturn ∧ t = .double ∧ ∃ z, w = .double z) ∨ (i = .freturn ∧ t = .float ∧ ∃ z, w = .float z) ∨ (i = .areturn ∧ t.isReference = true ∧ w.isRef = true))
    (hc : cells ≤ R.cells) (hl : slots ≤ R.slots) (q : Q (some w) h) : OGo p l e R s m args below meth c n0 Q h cells slots pc Ls (w :: rest) :=
  OGo.leave K (fun x => nomatch x) (fun T locs k n fs X hr => retOut X K.ex K.hrt hn hi (hb K.by hd) hr) hc hl q
theorem OGo.iret {z : Int32} {rest : List Value} (K : OCx p l e R s m args below meth c Z own nm bytes ml (some .int)) (hd : decode bytes pc = .ok (.ireturn, 1)) (hc : cells ≤ R.cells) (hl : slots ≤ R.slots) (q : Q (some (.int z)) h) : OGo p l e R s m args below meth c n0 Q h cells slots pc Ls (.int z :: rest) :=
  OGo.ret K hd rfl (Or.inl ⟨rfl, Or.inl rfl, z, rfl⟩) hc hl q
theorem OGo.nret {z : Int32} {t : FieldType} {rest : List Value} (K : OCx p l e R s m args below meth c Z own nm bytes ml (some t)) (ht : t = .boolean ∨ t = .byte ∨ t = .char ∨ t = .short) (hd : decode bytes pc = .ok (.ireturn, 1)) (hc : cells ≤ R.cells) (hl : slots ≤ R.slots) (q : Q (some (.int (nar t z))) h) : OGo p l e R s m args below meth c n0 Q h cells slots pc Ls (.int z :: rest) :=
  OGo.leave K (fun x => nomatch x) (fun T locs k n fs X hr => retN X K.ex K.hrt ht (hb K.by hd) hr) hc hl q
theorem OGo.lret {z : Int64} {rest : List Value} (K : OCx p l e R s m args below meth c Z own nm bytes ml (some .long)) (hd : decode bytes pc = .ok (.lreturn, 1)) (hc : cells ≤ R.cells) (hl : slots ≤ R.slots) (q : Q (some (.long z)) h) : OGo p l e R s m args below meth c n0 Q h cells slots pc Ls (.long z :: rest) :=
  OGo.ret K hd rfl (Or.inr (Or.inl ⟨rfl, rfl, z, rfl⟩)) hc hl q
theorem OGo.dret {z : UInt64} {rest : List Value} (K : OCx p l e R s m args below meth c Z own nm bytes ml (some .double)) (hd : decode bytes pc = .ok (.dreturn, 1)) (hc : cells ≤ R.cells) (hl : slots ≤ R.slots) (q : Q (some (.double z)) h) : OGo p l e R s m args below meth c n0 Q h cells slots pc Ls (.double z :: rest) :=
  OGo.ret K hd rfl (Or.inr (Or.inr (Or.inl ⟨rfl, rfl, z, rfl⟩))) hc hl q
theorem OGo.aret {w : Value} {t : FieldType} {rest : List Value} (K : OCx p l e R s m args below meth c Z own nm bytes ml (some t)) (hd : decode bytes pc = .ok (.areturn, 1)) (ht : t.isReference = true) (hw : w.isRef = true) (hc : cells ≤ R.cells) (hl : slots ≤ R.slots) (q : Q (some w) h) : OGo p l e R s m args below meth c n0 Q h cells slots pc Ls (w :: rest) :=
  OGo.ret K hd (by cases t <;> first | (cases ht; done) | (cases w <;> first | (cases hw; done) | rfl)) (Or.inr (Or.inr (Or.inr (Or.inr ⟨rfl, ht, hw⟩)))) hc hl q
theorem OGo.vret (K : OCx p l e R s m args below meth c Z own nm bytes ml none) (hd : decode bytes pc = .ok (.return_, 1)) (hc : cells ≤ R.cells) (hl : slots ≤ R.slots) (q : Q none h) : OGo p l e R s m args below meth c n0 Q h cells slots pc Ls [] :=
  OGo.leave K (fun _ => rfl) (fun T locs k n fs X hr => X.returnOut K.ex K.hrt (hb K.by hd) hr) hc hl q

theorem OGo.iload (K : OCx p l e R s m args below meth c Z own nm bytes ml rt) {k : Nat} {v : Int32} (hd : decode bytes pc = .ok (.iload k, 2)) (hp : pc + 2 = pc') (hl : Ls[k]? = some (.val (.int v))) (r : OGo p l e R s m args below meth c n0 Q h cells slots pc' Ls (.int v :: st)) : OGo p l e R s m args below meth c n0 Q h cells slots pc Ls st := by
  subst hp
  exact OGo.plain (fun T t hA q => XS.iload hA K.ex rfl (hb K.by hd) hl q) r
theorem OGo.iloadN (K : OCx p l e R s m args below meth c Z own nm bytes ml rt) {k : Fin 4} {v : Int32} (hd : decode bytes pc = .ok (.iload_n k, 1)) (hp : pc + 1 = pc') (hl : Ls[k.val]? = some (.val (.int v))) (r : OGo p l e R s m args below meth c n0 Q h cells slots pc' Ls (.int v :: st)) : OGo p l e R s m args below meth c n0 Q h cells slots pc Ls st := by
  subst hp
  exact OGo.plain (fun T t hA q => XS.iloadN hA K.ex rfl (hb K.by hd) hl q) r
theorem OGo.lload (K : OCx p l e R s m args below meth c Z own nm bytes ml rt) {k : Nat} {v : Int64} (hd : decode bytes pc = .ok (.lload k, 2)) (hp : pc + 2 = pc') (hl : Ls[k]? = some (.val (.long v))) (r : OGo p l e R s m args below meth c n0 Q h cells slots pc' Ls (.long v :: st)) : OGo p l e R s m args below meth c n0 Q h cells slots pc Ls st := by
  subst hp
  exact OGo.plain (fun T t hA q => XS.lload hA K.ex rfl (hb K.by hd) hl q) r
theorem OGo.lloadN (K : OCx p l e R s m args below meth c Z own nm bytes ml rt) {k : Fin 4} {v : Int64} (hd : decode bytes pc = .ok (.lload_n k, 1)) (hp : pc + 1 = pc') (hl : Ls[k.val]? = some (.val (.long v))) (r : OGo p l e R s m args below meth c n0 Q h cells slots pc' Ls (.long v :: st)) : OGo p l e R s m args below meth c n0 Q h cells slots pc Ls st := by
  subst hp
  exact OGo.plain (fun T t hA q => XS.lloadN hA K.ex rfl (hb K.by hd) hl q) r
theorem OGo.aload (K : OCx p l e R s m args below meth c Z own nm bytes ml rt) {k : Nat} {v : Value} (hd : decode bytes pc = .ok (.aload k, 2)) (hp : pc + 2 = pc') (hl : Ls[k]? = some (.val v)) (hv : v.isRef = true) (r : OGo p l e R s m args below meth c n0 Q h cells slots pc' Ls (v :: st)) : OGo p l e R s m args below meth c n0 Q h cells slots pc Ls st := by
  subst hp
  exact OGo.plain (fun T t hA q => XS.aload hA K.ex rfl (hb K.by hd) hl hv q) r
theorem OGo.aloadN (K : OCx p l e R s m args below meth c Z own nm bytes ml rt) {k : Fin 4} {v : Value} (hd : decode bytes pc = .ok (.aload_n k, 1)) (hp : pc + 1 = pc') (hl : Ls[k.val]? = some (.val v)) (hv : v.isRef = true) (r : OGo p l e R s m args below meth c n0 Q h cells slots pc' Ls (v :: st)) : OGo p l e R s m args below meth c n0 Q h cells slots pc Ls st := by
  subst hp
  exact OGo.plain (fun T t hA q => XS.aloadN hA K.ex rfl (hb K.by hd) hl hv q) r
theorem OGo.istore (K : OCx p l e R s m args below meth c Z own nm bytes ml rt) {k : Nat} {v : Int32} (hd : decode bytes pc = .ok (.istore k, 2)) (hp : pc + 2 = pc') (hl : storeLocals Ls k (.int v) = some Ls') (r : OGo p l e R s m args below meth c n0 Q h cells slots pc' Ls' st) : OGo p l e R s m args below meth c n0 Q h cells slots pc Ls (.int v :: st) := by
  subst hp
  exact OGo.plain (fun T t hA q => XS.istore hA K.ex rfl (hb K.by hd) rfl hl q) r
theorem OGo.istoreN (K : OCx p l e R s m args below meth c Z own nm bytes ml rt) {k : Fin 4} {v : Int32} (hd : decode bytes pc = .ok (.istore_n k, 1)) (hp : pc + 1 = pc') (hl : storeLocals Ls k.val (.int v) = some Ls') (r : OGo p l e R s m args below meth c n0 Q h cells slots pc' Ls' st) : OGo p l e R s m args below meth c n0 Q h cells slots pc Ls (.int v :: st) := by
  subst hp
  exact OGo.plain (fun T t hA q => XS.istoreN hA K.ex rfl (hb K.by hd) rfl hl q) r
theorem OGo.lstore (K : OCx p l e R s m args below meth c Z own nm bytes ml rt) {k : Nat} {v : Int64} (hd : decode bytes pc = .ok (.lstore k, 2)) (hp : pc + 2 = pc') (hl : storeLocals Ls k (.long v) = some Ls') (r : OGo p l e R s m args below meth c n0 Q h cells slots pc' Ls' st) : OGo p l e R s m args below meth c n0 Q h cells slots pc Ls (.long v :: st) := by
  subst hp
  exact OGo.plain (fun T t hA q => XS.lstore hA K.ex rfl (hb K.by hd) rfl hl q) r
theorem OGo.lstoreN (K : OCx p l e R s m args below meth c Z own nm bytes ml rt) {k : Fin 4} {v : Int64} (hd : decode bytes pc = .ok (.lstore_n k, 1)) (hp : pc + 1 = pc') (hl : storeLocals Ls k.val (.long v) = some Ls') (r : OGo p l e R s m args below meth c n0 Q h cells slots pc' Ls' st) : OGo p l e R s m args below meth c n0 Q h cells slots pc Ls (.long v :: st) := by
  subst hp
  exact OGo.plain (fun T t hA q => XS.lstoreN hA K.ex rfl (hb K.by hd) rfl hl q) r
theorem OGo.astore (K : OCx p l e R s m args below meth c Z own nm bytes ml rt) {k : Nat} {v : Value} (hd : decode bytes pc = .ok (.astore k, 2)) (hp : pc + 2 = pc') (hv : v.isRef = true) (hl : storeLocals Ls k v = some Ls') (r : OGo p l e R s m args below meth c n0 Q h cells slots pc' Ls' st) : OGo p l e R s m args below meth c n0 Q h cells slots pc Ls (v :: st) := by
  subst hp
  exact OGo.plain (fun T t hA q => XS.astore hA K.ex rfl (hb K.by hd) rfl hv hl q) r
theorem OGo.astoreN (K : OCx p l e R s m args below meth c Z own nm bytes ml rt) {k : Fin 4} {v : Value} (hd : decode bytes pc = .ok (.astore_n k, 1)) (hp : pc + 1 = pc') (hv : v.isRef = true) (hl : storeLocals Ls k.val v = some Ls') (r : OGo p l e R s m args below meth c n0 Q h cells slots pc' Ls' st) : OGo p l e R s m args below meth c n0 Q h cells slots pc Ls (v :: st) := by
  subst hp
  exact OGo.plain (fun T t hA q => XS.astoreN hA K.ex rfl (hb K.by hd) rfl hv hl q) r
theorem OGo.iconst (K : OCx p l e R s m args below meth c Z own nm bytes ml rt) {i : Int} {z : Int32} (hd : decode bytes pc = .ok (.iconst i, 1)) (hp : pc + 1 = pc') (hz : Int32.ofInt i = z) (r : OGo p l e R s m args below meth c n0 Q h cells slots pc' Ls (.int z :: st)) : OGo p l e R s m args below meth c n0 Q h cells slots pc Ls st := by
  subst hp
  exact OGo.plain (fun T t hA q => XS.iconst hA K.ex rfl (hb K.by hd) (by rw [hz]; exact q)) r
theorem OGo.bipush (K : OCx p l e R s m args below meth c Z own nm bytes ml rt) {i : Int} {z : Int32} (hd : decode bytes pc = .ok (.bipush i, 2)) (hp : pc + 2 = pc') (hz : (Int8.ofInt i).toInt32 = z) (r : OGo p l e R s m args below meth c n0 Q h cells slots pc' Ls (.int z :: st)) : OGo p l e R s m args below meth c n0 Q h cells slots pc Ls st := by
  subst hp
  exact OGo.plain (fun T t hA q => XS.bipush hA K.ex rfl (hb K.by hd) (by rw [hz]; exact q)) r
theorem OGo.sipush (K : OCx p l e R s m args below meth c Z own nm bytes ml rt) {i : Int} {z : Int32} (hd : decode bytes pc = .ok (.sipush i, 3)) (hp : pc + 3 = pc') (hz : (Int16.ofInt i).toInt32 = z) (r : OGo p l e R s m args below meth c n0 Q h cells slots pc' Ls (.int z :: st)) : OGo p l e R s m args below meth c n0 Q h cells slots pc Ls st := by
  subst hp
  exact OGo.plain (fun T t hA q => XS.sipush hA K.ex rfl (hb K.by hd) (by rw [hz]; exact q)) r
theorem OGo.lconst (K : OCx p l e R s m args below meth c Z own nm bytes ml rt) {i : Fin 2} {z : Int64} (hd : decode bytes pc = .ok (.lconst i, 1)) (hp : pc + 1 = pc') (hz : Int64.ofNat i = z) (r : OGo p l e R s m args below meth c n0 Q h cells slots pc' Ls (.long z :: st)) : OGo p l e R s m args below meth c n0 Q h cells slots pc Ls st := by
  subst hp
  exact OGo.plain (fun T t hA q => XS.lconst hA K.ex rfl (hb K.by hd) (by rw [hz]; exact q)) r
theorem OGo.aconstNull (K : OCx p l e R s m args below meth c Z own nm bytes ml rt) (hd : decode bytes pc = .ok (.aconst_null, 1)) (hp : pc + 1 = pc') (r : OGo p l e R s m args below meth c n0 Q h cells slots pc' Ls (.null :: st)) : OGo p l e R s m args below meth c n0 Q h cells slots pc Ls st := by
  subst hp
  exact OGo.plain (fun T t hA q => XS.aconstNull hA K.ex rfl (hb K.by hd) q) r
theorem OGo.iadd (K : OCx p l e R s m args below meth c Z own nm bytes ml rt) {x y : Int32} (hd : decode bytes pc = .ok (.iadd, 1)) (hp : pc + 1 = pc') (r : OGo p l e R s m args below meth c n0 Q h cells slots pc' Ls (.int (x + y) :: st)) : OGo p l e R s m args below meth c n0 Q h cells slots pc Ls (.int y :: .int x :: st) := by
  subst hp
  exact OGo.plain (fun T t hA q => XS.iadd hA K.ex rfl (hb K.by hd) rfl q) r
theorem OGo.isub (K : OCx p l e R s m args below meth c Z own nm bytes ml rt) {x y : Int32} (hd : decode bytes pc = .ok (.isub, 1)) (hp : pc + 1 = pc') (r : OGo p l e R s m args below meth c n0 Q h cells slots pc' Ls (.int (x - y) :: st)) : OGo p l e R s m args below meth c n0 Q h cells slots pc Ls (.int y :: .int x :: st) := by
  subst hp
  exact OGo.plain (fun T t hA q => XS.isub hA K.ex rfl (hb K.by hd) rfl q) r
theorem OGo.imul (K : OCx p l e R s m args below meth c Z own nm bytes ml rt) {x y : Int32} (hd : decode bytes pc = .ok (.imul, 1)) (hp : pc + 1 = pc') (r : OGo p l e R s m args below meth c n0 Q h cells slots pc' Ls (.int (x * y) :: st)) : OGo p l e R s m args below meth c n0 Q h cells slots pc Ls (.int y :: .int x :: st) := by
  subst hp
  exact OGo.plain (fun T t hA q => XS.imul hA K.ex rfl (hb K.by hd) rfl q) r
theorem OGo.iand (K : OCx p l e R s m args below meth c Z own nm bytes ml rt) {x y : Int32} (hd : decode bytes pc = .ok (.iand, 1)) (hp : pc + 1 = pc') (r : OGo p l e R s m args below meth c n0 Q h cells slots pc' Ls (.int (x &&& y) :: st)) : OGo p l e R s m args below meth c n0 Q h cells slots pc Ls (.int y :: .int x :: st) := by
  subst hp
  exact OGo.plain (fun T t hA q => XS.iand hA K.ex rfl (hb K.by hd) rfl q) r
theorem OGo.ior (K : OCx p l e R s m args below meth c Z own nm bytes ml rt) {x y : Int32} (hd : decode bytes pc = .ok (.ior, 1)) (hp : pc + 1 = pc') (r : OGo p l e R s m args below meth c n0 Q h cells slots pc' Ls (.int (x ||| y) :: st)) : OGo p l e R s m args below meth c n0 Q h cells slots pc Ls (.int y :: .int x :: st) := by
  subst hp
  exact OGo.plain (fun T t hA q => XS.ior hA K.ex rfl (hb K.by hd) rfl q) r
theorem OGo.ixor (K : OCx p l e R s m args below meth c Z own nm bytes ml rt) {x y : Int32} (hd : decode bytes pc = .ok (.ixor, 1)) (hp : pc + 1 = pc') (r : OGo p l e R s m args below meth c n0 Q h cells slots pc' Ls (.int (x ^^^ y) :: st)) : OGo p l e R s m args below meth c n0 Q h cells slots pc Ls (.int y :: .int x :: st) := by
  subst hp
  exact OGo.plain (fun T t hA q => XS.ixor hA K.ex rfl (hb K.by hd) rfl q) r
theorem OGo.ladd (K : OCx p l e R s m args below meth c Z own nm bytes ml rt) {x y : Int64} (hd : decode bytes pc = .ok (.ladd, 1)) (hp : pc + 1 = pc') (r : OGo p l e R s m args below meth c n0 Q h cells slots pc' Ls (.long (x + y) :: st)) : OGo p l e R s m args below meth c n0 Q h cells slots pc Ls (.long y :: .long x :: st) := by
  subst hp
  exact OGo.plain (fun T t hA q => XS.ladd hA K.ex rfl (hb K.by hd) rfl q) r
theorem OGo.lsub (K : OCx p l e R s m args below meth c Z own nm bytes ml rt) {x y : Int64} (hd : decode bytes pc = .ok (.lsub, 1)) (hp : pc + 1 = pc') (r : OGo p l e R s m args below meth c n0 Q h cells slots pc' Ls (.long (x - y) :: st)) : OGo p l e R s m args below meth c n0 Q h cells slots pc Ls (.long y :: .long x :: st) := by
  subst hp
  exact OGo.plain (fun T t hA q => XS.lsub hA K.ex rfl (hb K.by hd) rfl q) r
theorem OGo.lmul (K : OCx p l e R s m args below meth c Z own nm bytes ml rt) {x y : Int64} (hd : decode bytes pc = .ok (.lmul, 1)) (hp : pc + 1 = pc') (r : OGo p l e R s m args below meth c n0 Q h cells slots pc' Ls (.long (x * y) :: st)) : OGo p l e R s m args below meth c n0 Q h cells slots pc Ls (.long y :: .long x :: st) := by
  subst hp
  exact OGo.plain (fun T t hA q => XS.lmul hA K.ex rfl (hb K.by hd) rfl q) r
theorem OGo.land (K : OCx p l e R s m args below meth c Z own nm bytes ml rt) {x y : Int64} (hd : decode bytes pc = .ok (.land, 1)) (hp : pc + 1 = pc') (r : OGo p l e R s m args below meth c n0 Q h cells slots pc' Ls (.long (x &&& y) :: st)) : OGo p l e R s m args below meth c n0 Q h cells slots pc Ls (.long y :: .long x :: st) := by
  subst hp
  exact OGo.plain (fun T t hA q => XS.land hA K.ex rfl (hb K.by hd) rfl q) r
theorem OGo.lor (K : OCx p l e R s m args below meth c Z own nm bytes ml rt) {x y : Int64} (hd : decode bytes pc = .ok (.lor, 1)) (hp : pc + 1 = pc') (r : OGo p l e R s m args below meth c n0 Q h cells slots pc' Ls (.long (x ||| y) :: st)) : OGo p l e R s m args below meth c n0 Q h cells slots pc Ls (.long y :: .long x :: st) := by
  subst hp
  exact OGo.plain (fun T t hA q => XS.lor hA K.ex rfl (hb K.by hd) rfl q) r
theorem OGo.lxor (K : OCx p l e R s m args below meth c Z own nm bytes ml rt) {x y : Int64} (hd : decode bytes pc = .ok (.lxor, 1)) (hp : pc + 1 = pc') (r : OGo p l e R s m args below meth c n0 Q h cells slots pc' Ls (.long (x ^^^ y) :: st)) : OGo p l e R s m args below meth c n0 Q h cells slots pc Ls (.long y :: .long x :: st) := by
  subst hp
  exact OGo.plain (fun T t hA q => XS.lxor hA K.ex rfl (hb K.by hd) rfl q) r
theorem OGo.ishl (K : OCx p l e R s m args below meth c Z own nm bytes ml rt) {x y : Int32} (hd : decode bytes pc = .ok (.ishl, 1)) (hp : pc + 1 = pc') (r : OGo p l e R s m args below meth c n0 Q h cells slots pc' Ls (.int (x <<< (y &&& 31)) :: st)) : OGo p l e R s m args below meth c n0 Q h cells slots pc Ls (.int y :: .int x :: st) := by
  subst hp
  exact OGo.plain (fun T t hA q => XS.ishl hA K.ex rfl (hb K.by hd) rfl q) r
theorem OGo.ishr (K : OCx p l e R s m args below meth c Z own nm bytes ml rt) {x y : Int32} (hd : decode bytes pc = .ok (.ishr, 1)) (hp : pc + 1 = pc') (r : OGo p l e R s m args below meth c n0 Q h cells slots pc' Ls (.int (x >>> (y &&& 31)) :: st)) : OGo p l e R s m args below meth c n0 Q h cells slots pc Ls (.int y :: .int x :: st) := by
  subst hp
  exact OGo.plain (fun T t hA q => XS.ishr hA K.ex rfl (hb K.by hd) rfl q) r
theorem OGo.iushr (K : OCx p l e R s m args below meth c Z own nm bytes ml rt) {x y : Int32} (hd : decode bytes pc = .ok (.iushr, 1)) (hp : pc + 1 = pc') (r : OGo p l e R s m args below meth c n0 Q h cells slots pc' Ls (.int (ushr x y) :: st)) : OGo p l e R s m args below meth c n0 Q h cells slots pc Ls (.int y :: .int x :: st) := by
  subst hp
  exact OGo.plain (fun T t hA q => XS.iushr hA K.ex rfl (hb K.by hd) rfl q) r
theorem OGo.lshl (K : OCx p l e R s m args below meth c Z own nm bytes ml rt) {x : Int64} {y : Int32} (hd : decode bytes pc = .ok (.lshl, 1)) (hp : pc + 1 = pc') (r : OGo p l e R s m args below meth c n0 Q h cells slots pc' Ls (.long (x <<< (y &&& 63).toInt64) :: st)) : OGo p l e R s m args below meth c n0 Q h cells slots pc Ls (.int y :: .long x :: st) := by
  subst hp
  exact OGo.plain (fun T t hA q => XS.lshl hA K.ex rfl (hb K.by hd) rfl q) r
theorem OGo.lshr (K : OCx p l e R s m args below meth c Z own nm bytes ml rt) {x : Int64} {y : Int32} (hd : decode bytes pc = .ok (.lshr, 1)) (hp : pc + 1 = pc') (r : OGo p l e R s m args below meth c n0 Q h cells slots pc' Ls (.long (x >>> (y &&& 63).toInt64) :: st)) : OGo p l e R s m args below meth c n0 Q h cells slots pc Ls (.int y :: .long x :: st) := by
  subst hp
  exact OGo.plain (fun T t hA q => XS.lshr hA K.ex rfl (hb K.by hd) rfl q) r
theorem OGo.lushr (K : OCx p l e R s m args below meth c Z own nm bytes ml rt) {x : Int64} {y : Int32} (hd : decode bytes pc = .ok (.lushr, 1)) (hp : pc + 1 = pc') (r : OGo p l e R s m args below meth c n0 Q h cells slots pc' Ls (.long (ushrL x y) :: st)) : OGo p l e R s m args below meth c n0 Q h cells slots pc Ls (.int y :: .long x :: st) := by
  subst hp
  exact OGo.plain (fun T t hA q => XS.lushr hA K.ex rfl (hb K.by hd) rfl q) r
theorem OGo.idiv (K : OCx p l e R s m args below meth c Z own nm bytes ml rt) {x y : Int32} (hd : decode bytes pc = .ok (.idiv, 1)) (hp : pc + 1 = pc') (hy : y ≠ 0) (r : OGo p l e R s m args below meth c n0 Q h cells slots pc' Ls (.int (x / y) :: st)) : OGo p l e R s m args below meth c n0 Q h cells slots pc Ls (.int y :: .int x :: st) := by
  subst hp
  exact OGo.plain (fun T t hA q => XS.idiv hA K.ex rfl (hb K.by hd) rfl hy q) r
theorem OGo.irem (K : OCx p l e R s m args below meth c Z own nm bytes ml rt) {x y : Int32} (hd : decode bytes pc = .ok (.irem, 1)) (hp : pc + 1 = pc') (hy : y ≠ 0) (r : OGo p l e R s m args below meth c n0 Q h cells slots pc' Ls (.int (x % y) :: st)) : OGo p l e R s m args below meth c n0 Q h cells slots pc Ls (.int y :: .int x :: st) := by
  subst hp
  exact OGo.plain (fun T t hA q => XS.irem hA K.ex rfl (hb K.by hd) rfl hy (by rw [show x - x / y * y = x % y from irem_eq_mod x y]; exact q)) r
theorem OGo.ldiv (K : OCx p l e R s m args below meth c Z own nm bytes ml rt) {x y : Int64} (hd : decode bytes pc = .ok (.ldiv, 1)) (hp : pc + 1 = pc') (hy : y ≠ 0) (r : OGo p l e R s m args below meth c n0 Q h cells slots pc' Ls (.long (x / y) :: st)) : OGo p l e R s m args below meth c n0 Q h cells slots pc Ls (.long y :: .long x :: st) := by
  subst hp
  exact OGo.plain (fun T t hA q => XS.ldiv hA K.ex rfl (hb K.by hd) rfl hy q) r
theorem OGo.lrem (K : OCx p l e R s m args below meth c Z own nm bytes ml rt) {x y : Int64} (hd : decode bytes pc = .ok (.lrem, 1)) (hp : pc + 1 = pc') (hy : y ≠ 0) (r : OGo p l e R s m args below meth c n0 Q h cells slots pc' Ls (.long (x - (x / y) * y) :: st)) : OGo p l e R s m args below meth c n0 Q h cells slots pc Ls (.long y :: .long x :: st) := by
  subst hp
  exact OGo.plain (fun T t hA q => XS.lrem hA K.ex rfl (hb K.by hd) rfl hy q) r
theorem OGo.ineg (K : OCx p l e R s m args below meth c Z own nm bytes ml rt) {x : Int32} (hd : decode bytes pc = .ok (.ineg, 1)) (hp : pc + 1 = pc') (r : OGo p l e R s m args below meth c n0 Q h cells slots pc' Ls (.int (-x) :: st)) : OGo p l e R s m args below meth c n0 Q h cells slots pc Ls (.int x :: st) := by
  subst hp
  exact OGo.plain (fun T t hA q => XS.ineg hA K.ex rfl (hb K.by hd) rfl q) r
theorem OGo.lneg (K : OCx p l e R s m args below meth c Z own nm bytes ml rt) {x : Int64} (hd : decode bytes pc = .ok (.lneg, 1)) (hp : pc + 1 = pc') (r : OGo p l e R s m args below meth c n0 Q h cells slots pc' Ls (.long (-x) :: st)) : OGo p l e R s m args below meth c n0 Q h cells slots pc Ls (.long x :: st) := by
  subst hp
  exact OGo.plain (fun T t hA q => XS.lneg hA K.ex rfl (hb K.by hd) rfl q) r
theorem OGo.i2l (K : OCx p l e R s m args below meth c Z own nm bytes ml rt) {x : Int32} (hd : decode bytes pc = .ok (.i2l, 1)) (hp : pc + 1 = pc') (r : OGo p l e R s m args below meth c n0 Q h cells slots pc' Ls (.long x.toInt64 :: st)) : OGo p l e R s m args below meth c n0 Q h cells slots pc Ls (.int x :: st) := by
  subst hp
  exact OGo.plain (fun T t hA q => XS.i2l hA K.ex rfl (hb K.by hd) rfl q) r
theorem OGo.l2i (K : OCx p l e R s m args below meth c Z own nm bytes ml rt) {x : Int64} (hd : decode bytes pc = .ok (.l2i, 1)) (hp : pc + 1 = pc') (r : OGo p l e R s m args below meth c n0 Q h cells slots pc' Ls (.int x.toInt32 :: st)) : OGo p l e R s m args below meth c n0 Q h cells slots pc Ls (.long x :: st) := by
  subst hp
  exact OGo.plain (fun T t hA q => XS.l2i hA K.ex rfl (hb K.by hd) rfl q) r
theorem OGo.i2b (K : OCx p l e R s m args below meth c Z own nm bytes ml rt) {x : Int32} (hd : decode bytes pc = .ok (.i2b, 1)) (hp : pc + 1 = pc') (r : OGo p l e R s m args below meth c n0 Q h cells slots pc' Ls (.int x.toInt8.toInt32 :: st)) : OGo p l e R s m args below meth c n0 Q h cells slots pc Ls (.int x :: st) := by
  subst hp
  exact OGo.plain (fun T t hA q => XS.i2b hA K.ex rfl (hb K.by hd) rfl q) r
theorem OGo.i2s (K : OCx p l e R s m args below meth c Z own nm bytes ml rt) {x : Int32} (hd : decode bytes pc = .ok (.i2s, 1)) (hp : pc + 1 = pc') (r : OGo p l e R s m args below meth c n0 Q h cells slots pc' Ls (.int x.toInt16.toInt32 :: st)) : OGo p l e R s m args below meth c n0 Q h cells slots pc Ls (.int x :: st) := by
  subst hp
  exact OGo.plain (fun T t hA q => XS.i2s hA K.ex rfl (hb K.by hd) rfl q) r
theorem OGo.i2c (K : OCx p l e R s m args below meth c Z own nm bytes ml rt) {x : Int32} (hd : decode bytes pc = .ok (.i2c, 1)) (hp : pc + 1 = pc') (r : OGo p l e R s m args below meth c n0 Q h cells slots pc' Ls (.int x.toUInt32.toUInt16.toUInt32.toInt32 :: st)) : OGo p l e R s m args below meth c n0 Q h cells slots pc Ls (.int x :: st) := by
  subst hp
  exact OGo.plain (fun T t hA q => XS.i2c hA K.ex rfl (hb K.by hd) rfl q) r
theorem OGo.iinc (K : OCx p l e R s m args below meth c Z own nm bytes ml rt) {k : Nat} {i : Int} {x z : Int32} (hd : decode bytes pc = .ok (.iinc k i, 3)) (hp : pc + 3 = pc') (hl : Ls[k]? = some (.val (.int x))) (hz : Int32.ofInt i = z) (hl' : storeLocals Ls k (.int (x + z)) = some Ls') (r : OGo p l e R s m args below meth c n0 Q h cells slots pc' Ls' st) : OGo p l e R s m args below meth c n0 Q h cells slots pc Ls st := by
  subst hp
  exact OGo.plain (fun T t hA q => XS.iinc hA K.ex rfl (hb K.by hd) hl (by rw [hz]; exact hl') q) r
theorem OGo.dup (K : OCx p l e R s m args below meth c Z own nm bytes ml rt) {v : Value} (hd : decode bytes pc = .ok (.dup, 1)) (hp : pc + 1 = pc') (hc : v.category = 1) (r : OGo p l e R s m args below meth c n0 Q h cells slots pc' Ls (v :: v :: st)) : OGo p l e R s m args below meth c n0 Q h cells slots pc Ls (v :: st) := by
  subst hp
  exact OGo.plain (fun T t hA q => XS.dup hA K.ex rfl (hb K.by hd) rfl hc q) r
theorem OGo.pop (K : OCx p l e R s m args below meth c Z own nm bytes ml rt) {v : Value} (hd : decode bytes pc = .ok (.pop, 1)) (hp : pc + 1 = pc') (hc : v.category = 1) (r : OGo p l e R s m args below meth c n0 Q h cells slots pc' Ls st) : OGo p l e R s m args below meth c n0 Q h cells slots pc Ls (v :: st) := by
  subst hp
  exact OGo.plain (fun T t hA q => XS.pop hA K.ex rfl (hb K.by hd) rfl hc q) r
theorem OGo.dupX1 (K : OCx p l e R s m args below meth c Z own nm bytes ml rt) {v w : Value} (hd : decode bytes pc = .ok (.dup_x1, 1)) (hp : pc + 1 = pc') (hc : v.category = 1) (hc' : w.category = 1) (r : OGo p l e R s m args below meth c n0 Q h cells slots pc' Ls (v :: w :: v :: st)) : OGo p l e R s m args below meth c n0 Q h cells slots pc Ls (v :: w :: st) := by
  subst hp
  exact OGo.plain (fun T t hA q => XS.dupX1 hA K.ex rfl (hb K.by hd) rfl hc hc' q) r
theorem OGo.dup2 (K : OCx p l e R s m args below meth c Z own nm bytes ml rt) {v w : Value} (hd : decode bytes pc = .ok (.dup2, 1)) (hp : pc + 1 = pc') (hc : v.category = 1) (hc' : w.category = 1) (r : OGo p l e R s m args below meth c n0 Q h cells slots pc' Ls (v :: w :: v :: w :: st)) : OGo p l e R s m args below meth c n0 Q h cells slots pc Ls (v :: w :: st) := by
  subst hp
  exact OGo.plain (fun T t hA q => XT.dup2 hA K.ex rfl (hb K.by hd) rfl hc hc' q) r
theorem OGo.dup2L (K : OCx p l e R s m args below meth c Z own nm bytes ml rt) {x : Int64} (hd : decode bytes pc = .ok (.dup2, 1)) (hp : pc + 1 = pc') (r : OGo p l e R s m args below meth c n0 Q h cells slots pc' Ls (.long x :: .long x :: st)) : OGo p l e R s m args below meth c n0 Q h cells slots pc Ls (.long x :: st) := by
  subst hp
  exact OGo.plain (fun T t hA q => XT.dup2L hA K.ex rfl (hb K.by hd) rfl q) r
theorem OGo.lcmp (K : OCx p l e R s m args below meth c Z own nm bytes ml rt) {x y : Int64} (hd : decode bytes pc = .ok (.lcmp, 1)) (hp : pc + 1 = pc') (r : OGo p l e R s m args below meth c n0 Q h cells slots pc' Ls (.int (lcmpW x y) :: st)) : OGo p l e R s m args below meth c n0 Q h cells slots pc Ls (.long y :: .long x :: st) := by
  subst hp
  exact OGo.plain (fun T t hA q => XS.lcmp hA K.ex rfl (hb K.by hd) rfl q) r
theorem OGo.dload (K : OCx p l e R s m args below meth c Z own nm bytes ml rt) {k : Nat} {v : UInt64} (hd : decode bytes pc = .ok (.dload k, 2)) (hp : pc + 2 = pc') (hl : Ls[k]? = some (.val (.double v))) (r : OGo p l e R s m args below meth c n0 Q h cells slots pc' Ls (.double v :: st)) : OGo p l e R s m args below meth c n0 Q h cells slots pc Ls st := by
  subst hp
  exact OGo.plain (fun T t hA q => XS.dload hA K.ex rfl (hb K.by hd) hl q) r
theorem OGo.dloadN (K : OCx p l e R s m args below meth c Z own nm bytes ml rt) {k : Fin 4} {v : UInt64} (hd : decode bytes pc = .ok (.dload_n k, 1)) (hp : pc + 1 = pc') (hl : Ls[k.val]? = some (.val (.double v))) (r : OGo p l e R s m args below meth c n0 Q h cells slots pc' Ls (.double v :: st)) : OGo p l e R s m args below meth c n0 Q h cells slots pc Ls st := by
  subst hp
  exact OGo.plain (fun T t hA q => XS.dloadN hA K.ex rfl (hb K.by hd) hl q) r
theorem OGo.dstore (K : OCx p l e R s m args below meth c Z own nm bytes ml rt) {k : Nat} {v : UInt64} (hd : decode bytes pc = .ok (.dstore k, 2)) (hp : pc + 2 = pc') (hl : storeLocals Ls k (.double v) = some Ls') (r : OGo p l e R s m args below meth c n0 Q h cells slots pc' Ls' st) : OGo p l e R s m args below meth c n0 Q h cells slots pc Ls (.double v :: st) := by
  subst hp
  exact OGo.plain (fun T t hA q => XS.dstore hA K.ex rfl (hb K.by hd) rfl hl q) r
theorem OGo.dstoreN (K : OCx p l e R s m args below meth c Z own nm bytes ml rt) {k : Fin 4} {v : UInt64} (hd : decode bytes pc = .ok (.dstore_n k, 1)) (hp : pc + 1 = pc') (hl : storeLocals Ls k.val (.double v) = some Ls') (r : OGo p l e R s m args below meth c n0 Q h cells slots pc' Ls' st) : OGo p l e R s m args below meth c n0 Q h cells slots pc Ls (.double v :: st) := by
  subst hp
  exact OGo.plain (fun T t hA q => XS.dstoreN hA K.ex rfl (hb K.by hd) rfl hl q) r
theorem OGo.dconst0 (K : OCx p l e R s m args below meth c Z own nm bytes ml rt) {z : UInt64} (hd : decode bytes pc = .ok (.dconst 0, 1)) (hp : pc + 1 = pc') (hz : FP.dconst0 = z) (r : OGo p l e R s m args below meth c n0 Q h cells slots pc' Ls (.double z :: st)) : OGo p l e R s m args below meth c n0 Q h cells slots pc Ls st := by
  subst hp
  exact OGo.plain (fun T t hA q => XS.dconst0 hA K.ex rfl (hb K.by hd) hz q) r
theorem OGo.dconst1 (K : OCx p l e R s m args below meth c Z own nm bytes ml rt) {z : UInt64} (hd : decode bytes pc = .ok (.dconst 1, 1)) (hp : pc + 1 = pc') (hz : FP.dconst1 = z) (r : OGo p l e R s m args below meth c n0 Q h cells slots pc' Ls (.double z :: st)) : OGo p l e R s m args below meth c n0 Q h cells slots pc Ls st := by
  subst hp
  exact OGo.plain (fun T t hA q => XS.dconst1 hA K.ex rfl (hb K.by hd) hz q) r
theorem OGo.i2d (K : OCx p l e R s m args below meth c Z own nm bytes ml rt) {x : Int32} (hd : decode bytes pc = .ok (.i2d, 1)) (hp : pc + 1 = pc') (r : OGo p l e R s m args below meth c n0 Q h cells slots pc' Ls (.double (FP.i2d x) :: st)) : OGo p l e R s m args below meth c n0 Q h cells slots pc Ls (.int x :: st) := by
  subst hp
  exact OGo.plain (fun T t hA q => XS.i2dS hA K.ex rfl (hb K.by hd) rfl rfl q) r
theorem OGo.dadd (K : OCx p l e R s m args below meth c Z own nm bytes ml rt) {x y z : UInt64} (hd : decode bytes pc = .ok (.dadd, 1)) (hp : pc + 1 = pc') (hn : Jvm.Free.Fl.NoNaN64 (FP.dadd x y)) (hz : FP.dadd x y = z) (r : OGo p l e R s m args below meth c n0 Q h cells slots pc' Ls (.double z :: st)) : OGo p l e R s m args below meth c n0 Q h cells slots pc Ls (.double y :: .double x :: st) := by
  subst hp
  exact OGo.plain (fun T t hA q => XS.daddS hA K.ex rfl (hb K.by hd) rfl hn hz q) r
theorem OGo.dsub (K : OCx p l e R s m args below meth c Z own nm bytes ml rt) {x y z : UInt64} (hd : decode bytes pc = .ok (.dsub, 1)) (hp : pc + 1 = pc') (hn : Jvm.Free.Fl.NoNaN64 (FP.dsub x y)) (hz : FP.dsub x y = z) (r : OGo p l e R s m args below meth c n0 Q h cells slots pc' Ls (.double z :: st)) : OGo p l e R s m args below meth c n0 Q h cells slots pc Ls (.double y :: .double x :: st) := by
  subst hp
  exact OGo.plain (fun T t hA q => XS.dsubS hA K.ex rfl (hb K.by hd) rfl hn hz q) r
theorem OGo.dmul (K : OCx p l e R s m args below meth c Z own nm bytes ml rt) {x y z : UInt64} (hd : decode bytes pc = .ok (.dmul, 1)) (hp : pc + 1 = pc') (hn : Jvm.Free.Fl.NoNaN64 (FP.dmul x y)) (hz : FP.dmul x y = z) (r : OGo p l e R s m args below meth c n0 Q h cells slots pc' Ls (.double z :: st)) : OGo p l e R s m args below meth c n0 Q h cells slots pc Ls (.double y :: .double x :: st) := by
  subst hp
  exact OGo.plain (fun T t hA q => XS.dmulS hA K.ex rfl (hb K.by hd) rfl hn hz q) r
theorem OGo.ddiv (K : OCx p l e R s m args below meth c Z own nm bytes ml rt) {x y z : UInt64} (hd : decode bytes pc = .ok (.ddiv, 1)) (hp : pc + 1 = pc') (hn : Jvm.Free.Fl.NoNaN64 (FP.ddiv x y)) (hz : FP.ddiv x y = z) (r : OGo p l e R s m args below meth c n0 Q h cells slots pc' Ls (.double z :: st)) : OGo p l e R s m args below meth c n0 Q h cells slots pc Ls (.double y :: .double x :: st) := by
  subst hp
  exact OGo.plain (fun T t hA q => XS.ddivS hA K.ex rfl (hb K.by hd) rfl hn hz q) r
theorem OGo.dcmp (K : OCx p l e R s m args below meth c Z own nm bytes ml rt) {o : CmpOp} {x y : UInt64} {z : Int32} (hd : decode bytes pc = .ok (.dcmp o, 1)) (hp : pc + 1 = pc') (hz : cmpValue (FP.dcmp x y) o = z) (r : OGo p l e R s m args below meth c n0 Q h cells slots pc' Ls (.int z :: st)) : OGo p l e R s m args below meth c n0 Q h cells slots pc Ls (.double y :: .double x :: st) := by
  subst hp
  exact OGo.plain (fun T t hA q => XS.dcmpS hA K.ex rfl (hb K.by hd) rfl hz q) r
theorem OGo.goto (K : OCx p l e R s m args below meth c Z own nm bytes ml rt) {o : Int} (hd : decode bytes pc = .ok (.goto o, 3)) (ho : 0 ≤ (pc : Int) + o) (hp : ((pc : Int) + o).toNat = pc') (r : OGo p l e R s m args below meth c n0 Q h cells slots pc' Ls st) : OGo p l e R s m args below meth c n0 Q h cells slots pc Ls st :=
  OGo.plain (fun T t hA q => XS.goto hA K.ex rfl rfl (hb K.by hd) ho hp q) r
theorem OGo.icmp (K : OCx p l e R s m args below meth c Z own nm bytes ml rt) {cd : ClassFile.Cond} {o : Int} {x y : Int32} (hd : decode bytes pc = .ok (.if_icmp cd o, 3)) (hp : pc + 3 = pc') (ho : 0 ≤ (pc : Int) + o) (hq : ((pc : Int) + o).toNat = pcY) (ry : if_icmp.holds cd x y = true → OGo p l e R s m args below meth c n0 Q h cells slots pcY Ls st) (rn : if_icmp.holds cd x y = false → OGo p l e R s m args below meth c n0 Q h cells slots pc' Ls st) : OGo p l e R s m args below meth c n0 Q h cells slots pc Ls (.int y :: .int x :: st) := by
  subst hp
  cases hc : if_icmp.holds cd x y
  · exact OGo.plain (fun T t hA q => XS.icmpNo hA K.ex rfl (hb K.by hd) rfl hc q) (rn hc)
  · exact OGo.plain (fun T t hA q => XS.icmpYes hA K.ex rfl rfl (hb K.by hd) rfl hc ho hq q) (ry hc)
theorem OGo.ifc (K : OCx p l e R s m args below meth c Z own nm bytes ml rt) {cd : ClassFile.Cond} {o : Int} {x : Int32} (hd : decode bytes pc = .ok (.ifCond cd o, 3)) (hp : pc + 3 = pc') (ho : 0 ≤ (pc : Int) + o) (hq : ((pc : Int) + o).toNat = pcY) (ry : if_icmp.holds cd x 0 = true → OGo p l e R s m args below meth c n0 Q h cells slots pcY Ls st) (rn : if_icmp.holds cd x 0 = false → OGo p l e R s m args below meth c n0 Q h cells slots pc' Ls st) : OGo p l e R s m args below meth c n0 Q h cells slots pc Ls (.int x :: st) := by
  subst hp
  cases hc : if_icmp.holds cd x 0
  · exact OGo.plain (fun T t hA q => XS.ifNo hA K.ex rfl (hb K.by hd) rfl ((if0 _ _).trans hc) q) (rn hc)
  · exact OGo.plain (fun T t hA q => XS.ifYes hA K.ex rfl rfl (hb K.by hd) rfl ((if0 _ _).trans hc) ho hq q) (ry hc)
theorem own_holds {cd : ClassFile.Cond} {x y : Int32} {b : Bool} (q : if_icmp.holds cd x y = b) : match cd with | .eq => (x = y) = (b = true) | .ne => (¬ x = y) = (b = true) | .lt => (x < y) = (b = true) | .ge => (¬ x < y) = (b = true) | .gt => (y < x) = (b = true) | .le => (¬ y < x) = (b = true) := by
  subst q
  cases cd
  all_goals simp only [eq_iff_iff]
  · constructor
    · intro h; exact (teq h).1
    · intro h; by_cases q : x = y
      · exact q
      · rw [(feq q).1] at h; cases h
  · constructor
    · intro h; exact (feq h).2
    · intro h q; rw [(teq q).2] at h; cases h
  · constructor
    · intro h; exact (tlt h).1
    · intro h; by_cases q : x < y
      · exact q
      · rw [(flt q).1] at h; cases h
  · constructor
    · intro h; exact (flt h).2.1
    · intro h q; rw [(tlt q).2.1] at h; cases h
  · constructor
    · intro h; exact (tlt h).2.2.1
    · intro h; by_cases q : y < x
      · exact q
      · rw [(flt q).2.2.1] at h; cases h
  · constructor
    · intro h; exact (flt h).2.2.2
    · intro h q; rw [(tlt q).2.2.2] at h; cases h
theorem OGo.icmpEq (K : OCx p l e R s m args below meth c Z own nm bytes ml rt) {o : Int} {x y : Int32} (hd : decode bytes pc = .ok (.if_icmp .eq o, 3)) (hp : pc + 3 = pc') (ho : 0 ≤ (pc : Int) + o) (hq : ((pc : Int) + o).toNat = pcY) (ry : x = y → OGo p l e R s m args below meth c n0 Q h cells slots pcY Ls st) (rn : ¬ x = y → OGo p l e R s m args below meth c n0 Q h cells slots pc' Ls st) : OGo p l e R s m args below meth c n0 Q h cells slots pc Ls (.int y :: .int x :: st) :=
  OGo.icmp K hd hp ho hq (fun q => ry ((own_holds q : _ = _).mpr rfl)) (fun q => rn (fun z => Bool.false_ne_true ((own_holds q : _ = _).mp z)))
theorem OGo.ifEq (K : OCx p l e R s m args below meth c Z own nm bytes ml rt) {o : Int} {x : Int32} (hd : decode bytes pc = .ok (.ifCond .eq o, 3)) (hp : pc + 3 = pc') (ho : 0 ≤ (pc : Int) + o) (hq : ((pc : Int) + o).toNat = pcY) (ry : x = 0 → OGo p l e R s m args below meth c n0 Q h cells slots pcY Ls st) (rn : ¬ x = 0 → OGo p l e R s m args below meth c n0 Q h cells slots pc' Ls st) : OGo p l e R s m args below meth c n0 Q h cells slots pc Ls (.int x :: st) :=
  OGo.ifc K hd hp ho hq (fun q => ry ((own_holds q : _ = _).mpr rfl)) (fun q => rn (fun z => Bool.false_ne_true ((own_holds q : _ = _).mp z)))
theorem OGo.lcmpEq (K : OCx p l e R s m args below meth c Z own nm bytes ml rt) {o : Int} {x y : Int64} {pc1 : Nat} (hd0 : decode bytes pc = .ok (.lcmp, 1)) (hp0 : pc + 1 = pc1) (hd : decode bytes pc1 = .ok (.ifCond .eq o, 3)) (hp : pc1 + 3 = pc') (ho : 0 ≤ (pc1 : Int) + o) (hq : ((pc1 : Int) + o).toNat = pcY) (ry : x = y → OGo p l e R s m args below meth c n0 Q h cells slots pcY Ls st) (rn : ¬ x = y → OGo p l e R s m args below meth c n0 Q h cells slots pc' Ls st) : OGo p l e R s m args below meth c n0 Q h cells slots pc Ls (.long y :: .long x :: st) :=
  OGo.lcmp K hd0 hp0 (OGo.ifEq K hd hp ho hq (fun q => ry ((lw_eq x y).mp q)) (fun q => rn (fun z => q ((lw_eq x y).mpr z))))
theorem OGo.icmpNe (K : OCx p l e R s m args below meth c Z own nm bytes ml rt) {o : Int} {x y : Int32} (hd : decode bytes pc = .ok (.if_icmp .ne o, 3)) (hp : pc + 3 = pc') (ho : 0 ≤ (pc : Int) + o) (hq : ((pc : Int) + o).toNat = pcY) (ry : ¬ x = y → OGo p l e R s m args below meth c n0 Q h cells slots pcY Ls st) (rn : x = y → OGo p l e R s m args below meth c n0 Q h cells slots pc' Ls st) : OGo p l e R s m args below meth c n0 Q h cells slots pc Ls (.int y :: .int x :: st) :=
  OGo.icmp K hd hp ho hq (fun q => ry ((own_holds q : _ = _).mpr rfl)) (fun q => rn (Classical.byContradiction fun z => Bool.false_ne_true ((own_holds q : _ = _).mp z)))
theorem OGo.ifNe (K : OCx p l e R s m args below meth c Z own nm bytes ml rt) {o : Int} {x : Int32} (hd : decode bytes pc = .ok (.ifCond .ne o, 3)) (hp : pc + 3 = pc') (ho : 0 ≤ (pc : Int) + o) (hq : ((pc : Int) + o).toNat = pcY) (ry : ¬ x = 0 → OGo p l e R s m args below meth c n0 Q h cells slots pcY Ls st) (rn : x = 0 → OGo p l e R s m args below meth c n0 Q h cells slots pc' Ls st) : OGo p l e R s m args below meth c n0 Q h cells slots pc Ls (.int x :: st) :=
  OGo.ifc K hd hp ho hq (fun q => ry ((own_holds q : _ = _).mpr rfl)) (fun q => rn (Classical.byContradiction fun z => Bool.false_ne_true ((own_holds q : _ = _).mp z)))
theorem OGo.lcmpNe (K : OCx p l e R s m args below meth c Z own nm bytes ml rt) {o : Int} {x y : Int64} {pc1 : Nat} (hd0 : decode bytes pc = .ok (.lcmp, 1)) (hp0 : pc + 1 = pc1) (hd : decode bytes pc1 = .ok (.ifCond .ne o, 3)) (hp : pc1 + 3 = pc') (ho : 0 ≤ (pc1 : Int) + o) (hq : ((pc1 : Int) + o).toNat = pcY) (ry : ¬ x = y → OGo p l e R s m args below meth c n0 Q h cells slots pcY Ls st) (rn : x = y → OGo p l e R s m args below meth c n0 Q h cells slots pc' Ls st) : OGo p l e R s m args below meth c n0 Q h cells slots pc Ls (.long y :: .long x :: st) :=
  OGo.lcmp K hd0 hp0 (OGo.ifNe K hd hp ho hq (fun q => ry (fun z => q ((lw_eq x y).mpr z))) (fun q => rn ((lw_eq x y).mp q)))
theorem OGo.icmpLt (K : OCx p l e R s m args below meth c Z own nm bytes ml rt) {o : Int} {x y : Int32} (hd : decode bytes pc = .ok (.if_icmp .lt o, 3)) (hp : pc + 3 = pc') (ho : 0 ≤ (pc : Int) + o) (hq : ((pc : Int) + o).toNat = pcY) (ry : x < y → OGo p l e R s m args below meth c n0 Q h cells slots pcY Ls st) (rn : ¬ x < y → OGo p l e R s m args below meth c n0 Q h cells slots pc' Ls st) : OGo p l e R s m args below meth c n0 Q h cells slots pc Ls (.int y :: .int x :: st) :=
  OGo.icmp K hd hp ho hq (fun q => ry ((own_holds q : _ = _).mpr rfl)) (fun q => rn (fun z => Bool.false_ne_true ((own_holds q : _ = _).mp z)))
theorem OGo.ifLt (K : OCx p l e R s m args below meth c Z own nm bytes ml rt) {o : Int} {x : Int32} (hd : decode bytes pc = .ok (.ifCond .lt o, 3)) (hp : pc + 3 = pc') (ho : 0 ≤ (pc : Int) + o) (hq : ((pc : Int) + o).toNat = pcY) (ry : x < 0 → OGo p l e R s m args below meth c n0 Q h cells slots pcY Ls st) (rn : ¬ x < 0 → OGo p l e R s m args below meth c n0 Q h cells slots pc' Ls st) : OGo p l e R s m args below meth c n0 Q h cells slots pc Ls (.int x :: st) :=
  OGo.ifc K hd hp ho hq (fun q => ry ((own_holds q : _ = _).mpr rfl)) (fun q => rn (fun z => Bool.false_ne_true ((own_holds q : _ = _).mp z)))
theorem OGo.lcmpLt (K : OCx p l e R s m args below meth c Z own nm bytes ml rt) {o : Int} {x y : Int64} {pc1 : Nat} (hd0 : decode bytes pc = .ok (.lcmp, 1)) (hp0 : pc + 1 = pc1) (hd : decode bytes pc1 = .ok (.ifCond .lt o, 3)) (hp : pc1 + 3 = pc') (ho : 0 ≤ (pc1 : Int) + o) (hq : ((pc1 : Int) + o).toNat = pcY) (ry : x < y → OGo p l e R s m args below meth c n0 Q h cells slots pcY Ls st) (rn : ¬ x < y → OGo p l e R s m args below meth c n0 Q h cells slots pc' Ls st) : OGo p l e R s m args below meth c n0 Q h cells slots pc Ls (.long y :: .long x :: st) :=
  OGo.lcmp K hd0 hp0 (OGo.ifLt K hd hp ho hq (fun q => ry ((lw_lt x y).mp q)) (fun q => rn (fun z => q ((lw_lt x y).mpr z))))
theorem OGo.icmpGe (K : OCx p l e R s m args below meth c Z own nm bytes ml rt) {o : Int} {x y : Int32} (hd : decode bytes pc = .ok (.if_icmp .ge o, 3)) (hp : pc + 3 = pc') (ho : 0 ≤ (pc : Int) + o) (hq : ((pc : Int) + o).toNat = pcY) (ry : ¬ x < y → OGo p l e R s m args below meth c n0 Q h cells slots pcY Ls st) (rn : x < y → OGo p l e R s m args below meth c n0 Q h cells slots pc' Ls st) : OGo p l e R s m args below meth c n0 Q h cells slots pc Ls (.int y :: .int x :: st) :=
  OGo.icmp K hd hp ho hq (fun q => ry ((own_holds q : _ = _).mpr rfl)) (fun q => rn (Classical.byContradiction fun z => Bool.false_ne_true ((own_holds q : _ = _).mp z)))
theorem OGo.ifGe (K : OCx p l e R s m args below meth c Z own nm bytes ml rt) {o : Int} {x : Int32} (hd : decode bytes pc = .ok (.ifCond .ge o, 3)) (hp : pc + 3 = pc') (ho : 0 ≤ (pc : Int) + o) (hq : ((pc : Int) + o).toNat = pcY) (ry : ¬ x < 0 → OGo p l e R s m args below meth c n0 Q h cells slots pcY Ls st) (rn : x < 0 → OGo p l e R s m args below meth c n0 Q h cells slots pc' Ls st) : OGo p l e R s m args below meth c n0 Q h cells slots pc Ls (.int x :: st) :=
  OGo.ifc K hd hp ho hq (fun q => ry ((own_holds q : _ = _).mpr rfl)) (fun q => rn (Classical.byContradiction fun z => Bool.false_ne_true ((own_holds q : _ = _).mp z)))
theorem OGo.lcmpGe (K : OCx p l e R s m args below meth c Z own nm bytes ml rt) {o : Int} {x y : Int64} {pc1 : Nat} (hd0 : decode bytes pc = .ok (.lcmp, 1)) (hp0 : pc + 1 = pc1) (hd : decode bytes pc1 = .ok (.ifCond .ge o, 3)) (hp : pc1 + 3 = pc') (ho : 0 ≤ (pc1 : Int) + o) (hq : ((pc1 : Int) + o).toNat = pcY) (ry : ¬ x < y → OGo p l e R s m args below meth c n0 Q h cells slots pcY Ls st) (rn : x < y → OGo p l e R s m args below meth c n0 Q h cells slots pc' Ls st) : OGo p l e R s m args below meth c n0 Q h cells slots pc Ls (.long y :: .long x :: st) :=
  OGo.lcmp K hd0 hp0 (OGo.ifGe K hd hp ho hq (fun q => ry (fun z => q ((lw_lt x y).mpr z))) (fun q => rn ((lw_lt x y).mp q)))
theorem OGo.icmpGt (K : OCx p l e R s m args below meth c Z own nm bytes ml rt) {o : Int} {x y : Int32} (hd : decode bytes pc = .ok (.if_icmp .gt o, 3)) (hp : pc + 3 = pc') (ho : 0 ≤ (pc : Int) + o) (hq : ((pc : Int) + o).toNat = pcY) (ry : y < x → OGo p l e R s m args below meth c n0 Q h cells slots pcY Ls st) (rn : ¬ y < x → OGo p l e R s m args below meth c n0 Q h cells slots pc' Ls st) : OGo p l e R s m args below meth c n0 Q h cells slots pc Ls (.int y :: .int x :: st) :=
  OGo.icmp K hd hp ho hq (fun q => ry ((own_holds q : _ = _).mpr rfl)) (fun q => rn (fun z => Bool.false_ne_true ((own_holds q : _ = _).mp z)))
theorem OGo.ifGt (K : OCx p l e R s m args below meth c Z own nm bytes ml rt) {o : Int} {x : Int32} (hd : decode bytes pc = .ok (.ifCond .gt o, 3)) (hp : pc + 3 = pc') (ho : 0 ≤ (pc : Int) + o) (hq : ((pc : Int) + o).toNat = pcY) (ry : 0 < x → OGo p l e R s m args below meth c n0 Q h cells slots pcY Ls st) (rn : ¬ 0 < x → OGo p l e R s m args below meth c n0 Q h cells slots pc' Ls st) : OGo p l e R s m args below meth c n0 Q h cells slots pc Ls (.int x :: st) :=
  OGo.ifc K hd hp ho hq (fun q => ry ((own_holds q : _ = _).mpr rfl)) (fun q => rn (fun z => Bool.false_ne_true ((own_holds q : _ = _).mp z)))
theorem OGo.lcmpGt (K : OCx p l e R s m args below meth c Z own nm bytes ml rt) {o : Int} {x y : Int64} {pc1 : Nat} (hd0 : decode bytes pc = .ok (.lcmp, 1)) (hp0 : pc + 1 = pc1) (hd : decode bytes pc1 = .ok (.ifCond .gt o, 3)) (hp : pc1 + 3 = pc') (ho : 0 ≤ (pc1 : Int) + o) (hq : ((pc1 : Int) + o).toNat = pcY) (ry : y < x → OGo p l e R s m args below meth c n0 Q h cells slots pcY Ls st) (rn : ¬ y < x → OGo p l e R s m args below meth c n0 Q h cells slots pc' Ls st) : OGo p l e R s m args below meth c n0 Q h cells slots pc Ls (.long y :: .long x :: st) :=
  OGo.lcmp K hd0 hp0 (OGo.ifGt K hd hp ho hq (fun q => ry ((lw_gt x y).mp q)) (fun q => rn (fun z => q ((lw_gt x y).mpr z))))
theorem OGo.icmpLe (K : OCx p l e R s m args below meth c Z own nm bytes ml rt) {o : Int} {x y : Int32} (hd : decode bytes pc = .ok (.if_icmp .le o, 3)) (hp : pc + 3 = pc') (ho : 0 ≤ (pc : Int) + o) (hq : ((pc : Int) + o).toNat = pcY) (ry : ¬ y < x → OGo p l e R s m args below meth c n0 Q h cells slots pcY Ls st) (rn : y < x → OGo p l e R s m args below meth c n0 Q h cells slots pc' Ls st) : OGo p l e R s m args below meth c n0 Q h cells slots pc Ls (.int y :: .int x :: st) :=
  OGo.icmp K hd hp ho hq (fun q => ry ((own_holds q : _ = _).mpr rfl)) (fun q => rn (Classical.byContradiction fun z => Bool.false_ne_true ((own_holds q : _ = _).mp z)))
theorem OGo.ifLe (K : OCx p l e R s m args below meth c Z own nm bytes ml rt) {o : Int} {x : Int32} (hd : decode bytes pc = .ok (.ifCond .le o, 3)) (hp : pc + 3 = pc') (ho : 0 ≤ (pc : Int) + o) (hq : ((pc : Int) + o).toNat = pcY) (ry : ¬ 0 < x → OGo p l e R s m args below meth c n0 Q h cells slots pcY Ls st) (rn : 0 < x → OGo p l e R s m args below meth c n0 Q h cells slots pc' Ls st) : OGo p l e R s m args below meth c n0 Q h cells slots pc Ls (.int x :: st) :=
  OGo.ifc K hd hp ho hq (fun q => ry ((own_holds q : _ = _).mpr rfl)) (fun q => rn (Classical.byContradiction fun z => Bool.false_ne_true ((own_holds q : _ = _).mp z)))
theorem OGo.lcmpLe (K : OCx p l e R s m args below meth c Z own nm bytes ml rt) {o : Int} {x y : Int64} {pc1 : Nat} (hd0 : decode bytes pc = .ok (.lcmp, 1)) (hp0 : pc + 1 = pc1) (hd : decode bytes pc1 = .ok (.ifCond .le o, 3)) (hp : pc1 + 3 = pc') (ho : 0 ≤ (pc1 : Int) + o) (hq : ((pc1 : Int) + o).toNat = pcY) (ry : ¬ y < x → OGo p l e R s m args below meth c n0 Q h cells slots pcY Ls st) (rn : y < x → OGo p l e R s m args below meth c n0 Q h cells slots pc' Ls st) : OGo p l e R s m args below meth c n0 Q h cells slots pc Ls (.long y :: .long x :: st) :=
  OGo.lcmp K hd0 hp0 (OGo.ifLe K hd hp ho hq (fun q => ry (fun z => q ((lw_gt x y).mpr z))) (fun q => rn ((lw_gt x y).mp q)))
theorem OGo.ifnullY (K : OCx p l e R s m args below meth c Z own nm bytes ml rt) {o : Int} (hd : decode bytes pc = .ok (.ifnull o, 3)) (ho : 0 ≤ (pc : Int) + o) (hq : ((pc : Int) + o).toNat = pc') (r : OGo p l e R s m args below meth c n0 Q h cells slots pc' Ls st) : OGo p l e R s m args below meth c n0 Q h cells slots pc Ls (.null :: st) :=
  OGo.plain (fun T t hA q => XS.ifnullYes hA K.ex rfl rfl (hb K.by hd) rfl ho hq q) r
theorem OGo.ifnullN (K : OCx p l e R s m args below meth c Z own nm bytes ml rt) {b : Addr} {o : Int} (hd : decode bytes pc = .ok (.ifnull o, 3)) (hp : pc + 3 = pc') (r : OGo p l e R s m args below meth c n0 Q h cells slots pc' Ls st) : OGo p l e R s m args below meth c n0 Q h cells slots pc Ls (.ref b :: st) := by
  subst hp
  exact OGo.plain (fun T t hA q => XS.ifnullNo hA K.ex rfl (hb K.by hd) rfl q) r
theorem OGo.ifnonnullY (K : OCx p l e R s m args below meth c Z own nm bytes ml rt) {b : Addr} {o : Int} (hd : decode bytes pc = .ok (.ifnonnull o, 3)) (ho : 0 ≤ (pc : Int) + o) (hq : ((pc : Int) + o).toNat = pc') (r : OGo p l e R s m args below meth c n0 Q h cells slots pc' Ls st) : OGo p l e R s m args below meth c n0 Q h cells slots pc Ls (.ref b :: st) :=
  OGo.plain (fun T t hA q => XS.ifnonnullYes hA K.ex rfl rfl (hb K.by hd) rfl ho hq q) r
theorem OGo.ifnonnullN (K : OCx p l e R s m args below meth c Z own nm bytes ml rt) {o : Int} (hd : decode bytes pc = .ok (.ifnonnull o, 3)) (hp : pc + 3 = pc') (r : OGo p l e R s m args below meth c n0 Q h cells slots pc' Ls st) : OGo p l e R s m args below meth c n0 Q h cells slots pc Ls (.null :: st) := by
  subst hp
  exact OGo.plain (fun T t hA q => XS.ifnonnullNo hA K.ex rfl (hb K.by hd) rfl q) r
theorem OGo.getF (K : OCx p l e R s m args below meth c Z own nm bytes ml rt) {R0 O n d host : String} {index : Nat} {a : Addr} {v : Value} (w : (Jvm.Cond.fieldLink own index R0 n d).before a0 Z = true ∨ (Jvm.Cond.fieldLinkNest own index R0 n d host).before a0 Z = true) (via : Via Z R0 O n d) (F : Fld Z h a O n d v) (hd : decode bytes pc = .ok (.getfield index, 3)) (hp : pc + 3 = pc') (r : OGo p l e R s m args below meth c n0 Q h cells slots pc' Ls (v :: st)) : OGo p l e R s m args below meth c n0 Q h cells slots pc Ls (.ref a :: st) := by
  subst hp
  exact OGo.same (fun T locs k n X e0 => RoadKit.getF X K.ex K.hZ K.hown w via e0 F (g := mkF m pc Ls (.ref a :: st)) rfl rfl (hb K.by hd)) r
theorem OGo.getS (K : OCx p l e R s m args below meth c Z own nm bytes ml rt) {R0 O n d host : String} {index : Nat} {v : Value} (w : (Jvm.Cond.fieldLink own index R0 n d).before a0 Z = true ∨ (Jvm.Cond.fieldLinkNest own index R0 n d host).before a0 Z = true) (via : Via Z R0 O n d) (F : Sta Z h O n d v) (hd : decode bytes pc = .ok (.getstatic index, 3)) (hp : pc + 3 = pc') (r : OGo p l e R s m args below meth c n0 Q h cells slots pc' Ls (v :: st)) : OGo p l e R s m args below meth c n0 Q h cells slots pc Ls st := by
  subst hp
  exact OGo.same (fun T locs k n X e0 => RoadKit.getS2 X K.ex K.hZ K.hown w via e0 F (g := mkF m pc Ls st) rfl (hb K.by hd)) r
theorem OGo.putF (K : OCx p l e R s m args below meth c Z own nm bytes ml rt) {R0 O n d host C : String} {index kk : Nat} {ty : FieldType} {a : Addr} {v old : Value} (w : (Jvm.Cond.fieldLink own index R0 n d).before a0 Z = true ∨ (Jvm.Cond.fieldLinkNest own index R0 n d host).before a0 Z = true) (via : Via Z R0 O n d) (F : Fld Z h a O n d old) (E : Exa Z h a C) (L : (Jvm.Cond.lays C O n d).before a0 Z = true ∨ ((Jvm.Cond.laysFinal C O n d).before a0 Z = true ∧ own = O ∧ nm = "<init>")) (wi : (Jvm.Cond.instantiable C kk).before a0 Z = true) (hty : parseFieldDescriptor d = some ty) (hn : narrow ty v = v) (hf : fits ty v = true) (ga : n0 ≤ a) (hd : decode bytes pc = .ok (.putfield index, 3)) (hp : pc + 3 = pc')
    (r : ∀ h', Wr h h' a (RoadKit.slotOf Z O n d) v → OGo p l e R s m args below meth c n0 Q h' cells slots pc' Ls st) : OGo p l e R s m args below meth c n0 Q h cells slots pc Ls (v :: .ref a :: st) := by
  subst hp
  exact OGo.write ga (fun T locs k n X e0 => RoadKit.putF X K.ex K.hZ K.hown w via e0 F E (L.imp id fun q => ⟨q.1, q.2.1, K.hnm.trans q.2.2⟩) wi hty hn hf (g := mkF m pc Ls (v :: .ref a :: st)) rfl rfl (hb K.by hd)) r
theorem OGo.putFN (K : OCx p l e R s m args below meth c Z own nm bytes ml rt) {R0 O n d C : String} {index kk : Nat} {ty : FieldType} {a : Addr} {v v' old : Value} (w : (Jvm.Cond.fieldLink own index R0 n d).before a0 Z = true) (via : Via Z R0 O n d) (F : Fld Z h a O n d old) (E : Exa Z h a C) (L : (Jvm.Cond.lays C O n d).before a0 Z = true ∨ ((Jvm.Cond.laysFinal C O n d).before a0 Z = true ∧ own = O ∧ nm = "<init>")) (wi : (Jvm.Cond.instantiable C kk).before a0 Z = true) (hty : parseFieldDescriptor d = some ty) (hn : narrow ty v = v') (hf : fits ty v' = true) (ga : n0 ≤ a) (hd : decode bytes pc = .ok (.putfield index, 3)) (hp : pc + 3 = pc')
    (r : ∀ h', Wr h h' a (RoadKit.slotOf Z O n d) v' → OGo p l e R s m args below meth c n0 Q h' cells slots pc' Ls st) : OGo p l e R s m args below meth c n0 Q h cells slots pc Ls (v :: .ref a :: st) := by
  subst hp
  exact OGo.write ga (fun T locs k n X e0 => RoadKit.putFN X K.ex K.hZ K.hown w via e0 F E (L.imp id fun q => ⟨q.1, q.2.1, K.hnm.trans q.2.2⟩) wi hty hn hf (g := mkF m pc Ls (v :: .ref a :: st)) rfl rfl (hb K.by hd)) r
theorem OGo.newO (K : OCx p l e R s m args below meth c Z own nm bytes ml rt) {C : String} {index n cells' slots' : Nat} (w : (Jvm.Cond.classLink own index C).before a0 Z = true) (wi : (Jvm.Cond.instantiable C n).before a0 Z = true) (wz : (Jvm.Cond.initialized C).before a0 Z = true) (hd : decode bytes pc = .ok (.new index, 3)) (hp : pc + 3 = pc') (hc : cells + 1 = cells') (hl : slots + n = slots') (hc' : cells' ≤ R.cells) (hl' : slots' ≤ R.slots)
    (r : ∀ (h' : Heap) (a : Addr), a = h.size → Ext h h' → Exa Z h' a C → (∀ {O nm d : String} {ty : FieldType}, Laid Z a0 C O nm d → parseFieldDescriptor d = some ty → Fld Z h' a O nm d (defaultValue ty)) → OGo p l e R s m args below meth c n0 Q h' cells' slots' pc' Ls (.ref a :: st)) : OGo p l e R s m args below meth c n0 Q h cells slots pc Ls st := by
  subst hp hc hl
  intro T locs k j X e0 N h1 h2
  obtain ⟨T', h', X', e', E, A, D, -, st'⟩ := RoadKit.newO X K.ex K.hZ K.hown w wi wz e0 (g := mkF m pc Ls st) rfl (hb K.by hd) (by omega) (by omega)
  obtain ⟨s₂, v, L, g, r'⟩ := r h' h.size rfl E A D T' locs _ _ X' e' N (by omega) (by omega)
  exact ⟨s₂, v, L, st' _ g, r'⟩
theorem OGo.newP (K : OCx p l e R s m args below meth c Z own nm bytes ml rt) {aty : ArrayType} {z : Int32} {cap cells' slots' : Nat} (w : (Jvm.Cond.arrayClass (newarray.typeOf aty)).before a0 Z = true) (hd : decode bytes pc = .ok (.newarray aty, 2)) (hp : pc + 2 = pc') (hz : ¬ z < 0) (hcap : z.toNatClampNeg ≤ cap) (hb' : cap * 8 ≤ 536870912) (hc : cells + 1 = cells') (hl : slots + cap = slots') (hc' : cells' ≤ R.cells) (hl' : slots' ≤ R.slots)
    (r : ∀ (h' : Heap) (a : Addr) (ca : ClassId), a = h.size → Ext h h' → Arv Z h' a ca (newarray.typeOf aty) z [] (defaultValue (newarray.typeOf aty)) → OGo p l e R s m args below meth c n0 Q h' cells' slots' pc' Ls (.ref a :: st)) : OGo p l e R s m args below meth c n0 Q h cells slots pc Ls (.int z :: st) := by
  subst hp hc hl
  intro T locs k j X e0 N h1 h2
  obtain ⟨T', h', ca, X', e', E, A, st'⟩ := RoadKit.newP X K.ex K.hZ w e0 (g := mkF m pc Ls (.int z :: st)) rfl (hb K.by hd) rfl hz (cap := cap) hcap hb' (by omega) (by omega)
  obtain ⟨s₂, v, L, g, r'⟩ := r h' h.size ca rfl E (Arv.new A hz) T' locs _ _ X' e' N (by omega) (by omega)
  exact ⟨s₂, v, L, st' _ g, r'⟩
theorem OGo.newR (K : OCx p l e R s m args below meth c Z own nm bytes ml rt) {C : String} {index : Nat} {z : Int32} {cap cells' slots' : Nat} (w1 : (Jvm.Cond.classLink own index C).before a0 Z = true) (w2 : (Jvm.Cond.arrayOver (.object C)).before a0 Z = true) (hd : decode bytes pc = .ok (.anewarray index, 3)) (hp : pc + 3 = pc') (hz : ¬ z < 0) (hcap : z.toNatClampNeg ≤ cap) (hb' : cap * 8 ≤ 536870912) (hc : cells + 1 = cells') (hl : slots + cap = slots') (hc' : cells' ≤ R.cells) (hl' : slots' ≤ R.slots)
    (r : ∀ (h' : Heap) (a : Addr) (ca : ClassId), a = h.size → Ext h h' → Arv Z h' a ca (.object C) z [] .null → Ovr Z ca C → OGo p l e R s m args below meth c n0 Q h' cells' slots' pc' Ls (.ref a :: st)) : OGo p l e R s m args below meth c n0 Q h cells slots pc Ls (.int z :: st) := by
  subst hp hc hl
  intro T locs k j X e0 N h1 h2
  obtain ⟨T', h', ca, X', e', E, A, O, st'⟩ := RoadKit.newR X K.ex K.hZ K.hown w1 w2 e0 (g := mkF m pc Ls (.int z :: st)) rfl (hb K.by hd) rfl hz (cap := cap) hcap hb' (by omega) (by omega)
  obtain ⟨s₂, v, L, g, r'⟩ := r h' h.size ca rfl E (Arv.new A hz) O T' locs _ _ X' e' N (by omega) (by omega)
  exact ⟨s₂, v, L, st' _ g, r'⟩
theorem OGo.iaload (K : OCx p l e R s m args below meth c Z own nm bytes ml rt) {a : Addr} {ca : ClassId} {z j : Int32} {vs : List Value} {dv v : Value} (A : Arv Z h a ca .int z vs dv) (hj : ¬ j < 0 ∧ j < z) (hv : vs.getD j.toNatClampNeg dv = v) (hd : decode bytes pc = .ok (.iaload, 1)) (hp : pc + 1 = pc') (r : OGo p l e R s m args below meth c n0 Q h cells slots pc' Ls (v :: st)) : OGo p l e R s m args below meth c n0 Q h cells slots pc Ls (.int j :: .ref a :: st) := by
  subst hp
  obtain ⟨cl, A, -, S, -, H, -⟩ := A
  have hin := inb_of S hj
  exact OGo.same (fun T locs k n X e0 => ⟨T, X, e0, fun t q => X.iaload K.ex (j := j) (by rw [e0]; exact A.1) (State.isArrayOf_alike K.hZ.alike A.2.1) A.2.2 hin (H.at hin hv) (g := mkF m pc Ls (.int j :: .ref a :: st)) rfl rfl (hb K.by hd) t q⟩) r
theorem OGo.laload (K : OCx p l e R s m args below meth c Z own nm bytes ml rt) {a : Addr} {ca : ClassId} {z j : Int32} {vs : List Value} {dv v : Value} (A : Arv Z h a ca .long z vs dv) (hj : ¬ j < 0 ∧ j < z) (hv : vs.getD j.toNatClampNeg dv = v) (hd : decode bytes pc = .ok (.laload, 1)) (hp : pc + 1 = pc') (r : OGo p l e R s m args below meth c n0 Q h cells slots pc' Ls (v :: st)) : OGo p l e R s m args below meth c n0 Q h cells slots pc Ls (.int j :: .ref a :: st) := by
  subst hp
  obtain ⟨cl, A, -, S, -, H, -⟩ := A
  have hin := inb_of S hj
  exact OGo.same (fun T locs k n X e0 => ⟨T, X, e0, fun t q => X.laload K.ex (j := j) (by rw [e0]; exact A.1) (State.isArrayOf_alike K.hZ.alike A.2.1) A.2.2 hin (H.at hin hv) (g := mkF m pc Ls (.int j :: .ref a :: st)) rfl rfl (hb K.by hd) t q⟩) r
theorem OGo.caload (K : OCx p l e R s m args below meth c Z own nm bytes ml rt) {a : Addr} {ca : ClassId} {z j : Int32} {vs : List Value} {dv v : Value} (A : Arv Z h a ca .char z vs dv) (hj : ¬ j < 0 ∧ j < z) (hv : vs.getD j.toNatClampNeg dv = v) (hd : decode bytes pc = .ok (.caload, 1)) (hp : pc + 1 = pc') (r : OGo p l e R s m args below meth c n0 Q h cells slots pc' Ls (v :: st)) : OGo p l e R s m args below meth c n0 Q h cells slots pc Ls (.int j :: .ref a :: st) := by
  subst hp
  obtain ⟨cl, A, -, S, -, H, -⟩ := A
  have hin := inb_of S hj
  exact OGo.same (fun T locs k n X e0 => ⟨T, X, e0, fun t q => X.caload K.ex (j := j) (by rw [e0]; exact A.1) (State.isArrayOf_alike K.hZ.alike A.2.1) A.2.2 hin (H.at hin hv) (g := mkF m pc Ls (.int j :: .ref a :: st)) rfl rfl (hb K.by hd) t q⟩) r
theorem OGo.saload (K : OCx p l e R s m args below meth c Z own nm bytes ml rt) {a : Addr} {ca : ClassId} {z j : Int32} {vs : List Value} {dv v : Value} (A : Arv Z h a ca .short z vs dv) (hj : ¬ j < 0 ∧ j < z) (hv : vs.getD j.toNatClampNeg dv = v) (hd : decode bytes pc = .ok (.saload, 1)) (hp : pc + 1 = pc') (r : OGo p l e R s m args below meth c n0 Q h cells slots pc' Ls (v :: st)) : OGo p l e R s m args below meth c n0 Q h cells slots pc Ls (.int j :: .ref a :: st) := by
  subst hp
  obtain ⟨cl, A, -, S, -, H, -⟩ := A
  have hin := inb_of S hj
  exact OGo.same (fun T locs k n X e0 => ⟨T, X, e0, fun t q => X.saload K.ex (j := j) (by rw [e0]; exact A.1) (State.isArrayOf_alike K.hZ.alike A.2.1) A.2.2 hin (H.at hin hv) (g := mkF m pc Ls (.int j :: .ref a :: st)) rfl rfl (hb K.by hd) t q⟩) r
theorem OGo.baload (K : OCx p l e R s m args below meth c Z own nm bytes ml rt) {a : Addr} {ca : ClassId} {z j : Int32} {vs : List Value} {dv v : Value} (A : Arv Z h a ca .byte z vs dv) (hj : ¬ j < 0 ∧ j < z) (hv : vs.getD j.toNatClampNeg dv = v) (hd : decode bytes pc = .ok (.baload, 1)) (hp : pc + 1 = pc') (r : OGo p l e R s m args below meth c n0 Q h cells slots pc' Ls (v :: st)) : OGo p l e R s m args below meth c n0 Q h cells slots pc Ls (.int j :: .ref a :: st) := by
  subst hp
  obtain ⟨cl, A, -, S, -, H, -⟩ := A
  have hin := inb_of S hj
  exact OGo.same (fun T locs k n X e0 => ⟨T, X, e0, fun t q => X.baloadBytes K.ex (j := j) (by rw [e0]; exact A.1) (State.isArrayOf_alike K.hZ.alike A.2.1) A.2.2 hin (H.at hin hv) (g := mkF m pc Ls (.int j :: .ref a :: st)) rfl rfl (hb K.by hd) t q⟩) r
theorem OGo.zaload (K : OCx p l e R s m args below meth c Z own nm bytes ml rt) {a : Addr} {ca : ClassId} {z j : Int32} {vs : List Value} {dv v : Value} (A : Arv Z h a ca .boolean z vs dv) (hj : ¬ j < 0 ∧ j < z) (hv : vs.getD j.toNatClampNeg dv = v) (hd : decode bytes pc = .ok (.baload, 1)) (hp : pc + 1 = pc') (r : OGo p l e R s m args below meth c n0 Q h cells slots pc' Ls (v :: st)) : OGo p l e R s m args below meth c n0 Q h cells slots pc Ls (.int j :: .ref a :: st) := by
  subst hp
  obtain ⟨cl, A, -, S, -, H, -⟩ := A
  have hin := inb_of S hj
  exact OGo.same (fun T locs k n X e0 => ⟨T, X, e0, fun t q => X.baloadBooleans K.ex (j := j) (by rw [e0]; exact A.1) (State.isArrayOf_alike K.hZ.alike A.2.1) A.2.2 hin (H.at hin hv) (g := mkF m pc Ls (.int j :: .ref a :: st)) rfl rfl (hb K.by hd) t q⟩) r
theorem OGo.aaload (K : OCx p l e R s m args below meth c Z own nm bytes ml rt) {a : Addr} {ca : ClassId} {ty : FieldType} {z j : Int32} {vs : List Value} {dv v : Value} (A : Arv Z h a ca ty z vs dv) (hty : ty.isReference = true) (hj : ¬ j < 0 ∧ j < z) (hv : vs.getD j.toNatClampNeg dv = v) (hd : decode bytes pc = .ok (.aaload, 1)) (hp : pc + 1 = pc') (r : OGo p l e R s m args below meth c n0 Q h cells slots pc' Ls (v :: st)) : OGo p l e R s m args below meth c n0 Q h cells slots pc Ls (.int j :: .ref a :: st) := by
  subst hp
  obtain ⟨cl, A, -, S, -, H, -⟩ := A
  have hin := inb_of S hj
  exact OGo.same (fun T locs k n X e0 => ⟨T, X, e0, fun t q => X.aaload K.ex (j := j) (by rw [e0]; exact A.1) (State.isArrayOf_alike K.hZ.alike A.2.1) hty A.2.2 hin (H.at hin hv) (g := mkF m pc Ls (.int j :: .ref a :: st)) rfl rfl (hb K.by hd) t q⟩) r
theorem OGo.alen (K : OCx p l e R s m args below meth c Z own nm bytes ml rt) {a : Addr} {ca : ClassId} {ty : FieldType} {z : Int32} {vs : List Value} {dv : Value} (A : Arv Z h a ca ty z vs dv) (hd : decode bytes pc = .ok (.arraylength, 1)) (hp : pc + 1 = pc') (r : OGo p l e R s m args below meth c n0 Q h cells slots pc' Ls (.int z :: st)) : OGo p l e R s m args below meth c n0 Q h cells slots pc Ls (.ref a :: st) := by
  subst hp
  obtain ⟨cl, A, -, S, hz, -, -⟩ := A
  exact OGo.same (fun T locs k n X e0 => ⟨T, X, e0, fun t q => X.arraylength K.ex (by rw [e0]; exact A.1) (State.isArrayOf_alike K.hZ.alike A.2.1) (g := mkF m pc Ls (.ref a :: st)) rfl rfl (hb K.by hd) t (by rw [len_of S hz]; exact q)⟩) r
theorem OGo.iastore (K : OCx p l e R s m args below meth c Z own nm bytes ml rt) {a : Addr} {ca : ClassId} {z j : Int32} {vs : List Value} {dv : Value} {x : Int32} (A : Arv Z h a ca .int z vs dv) (hj : ¬ j < 0 ∧ j < z) {i : Nat} (hij : j.toNatClampNeg = i) (hi : i < vs.length) (ga : n0 ≤ a) (hd : decode bytes pc = .ok (.iastore, 1)) (hp : pc + 1 = pc')
    (r : ∀ h', Wr h h' a j.toNatClampNeg (.int x) → Arv Z h' a ca .int z (vs.set i (.int x)) dv → OGo p l e R s m args below meth c n0 Q h' cells slots pc' Ls st) : OGo p l e R s m args below meth c n0 Q h cells slots pc Ls (.int x :: .int j :: .ref a :: st) := by
  subst hp
  obtain ⟨cl, A, q1, S, hz, H, G⟩ := A
  have hin := inb_of S hj
  exact OGo.write ga (fun T locs k n X e0 => RoadKit.stI X K.ex K.hZ e0 A (j := j) hin (g := mkF m pc Ls (.int x :: .int j :: .ref a :: st)) rfl rfl (hb K.by hd)) (fun h' W => r h' W (Arv.set A q1 S hz H G rfl W _ hij hi))
theorem OGo.lastore (K : OCx p l e R s m args below meth c Z own nm bytes ml rt) {a : Addr} {ca : ClassId} {z j : Int32} {vs : List Value} {dv : Value} {x : Int64} (A : Arv Z h a ca .long z vs dv) (hj : ¬ j < 0 ∧ j < z) {i : Nat} (hij : j.toNatClampNeg = i) (hi : i < vs.length) (ga : n0 ≤ a) (hd : decode bytes pc = .ok (.lastore, 1)) (hp : pc + 1 = pc')
    (r : ∀ h', Wr h h' a j.toNatClampNeg (.long x) → Arv Z h' a ca .long z (vs.set i (.long x)) dv → OGo p l e R s m args below meth c n0 Q h' cells slots pc' Ls st) : OGo p l e R s m args below meth c n0 Q h cells slots pc Ls (.long x :: .int j :: .ref a :: st) := by
  subst hp
  obtain ⟨cl, A, q1, S, hz, H, G⟩ := A
  have hin := inb_of S hj
  exact OGo.write ga (fun T locs k n X e0 => RoadKit.stJ X K.ex K.hZ e0 A (j := j) hin (g := mkF m pc Ls (.long x :: .int j :: .ref a :: st)) rfl rfl (hb K.by hd)) (fun h' W => r h' W (Arv.set A q1 S hz H G rfl W _ hij hi))
theorem OGo.castore (K : OCx p l e R s m args below meth c Z own nm bytes ml rt) {a : Addr} {ca : ClassId} {z j : Int32} {vs : List Value} {dv : Value} {x : Int32} (A : Arv Z h a ca .char z vs dv) (hj : ¬ j < 0 ∧ j < z) {i : Nat} (hij : j.toNatClampNeg = i) (hi : i < vs.length) (ga : n0 ≤ a) (hd : decode bytes pc = .ok (.castore, 1)) (hp : pc + 1 = pc')
    (r : ∀ h', Wr h h' a j.toNatClampNeg (.int (nar .char x)) → Arv Z h' a ca .char z (vs.set i (.int (nar .char x))) dv → OGo p l e R s m args below meth c n0 Q h' cells slots pc' Ls st) : OGo p l e R s m args below meth c n0 Q h cells slots pc Ls (.int x :: .int j :: .ref a :: st) := by
  subst hp
  obtain ⟨cl, A, q1, S, hz, H, G⟩ := A
  have hin := inb_of S hj
  exact OGo.write ga (fun T locs k n X e0 => RoadKit.stC X K.ex K.hZ e0 A (j := j) hin (g := mkF m pc Ls (.int x :: .int j :: .ref a :: st)) rfl rfl (hb K.by hd)) (fun h' W => r h' W (Arv.set A q1 S hz H G (fits_nar_char x) W _ hij hi))
theorem OGo.sastore (K : OCx p l e R s m args below meth c Z own nm bytes ml rt) {a : Addr} {ca : ClassId} {z j : Int32} {vs : List Value} {dv : Value} {x : Int32} (A : Arv Z h a ca .short z vs dv) (hj : ¬ j < 0 ∧ j < z) {i : Nat} (hij : j.toNatClampNeg = i) (hi : i < vs.length) (ga : n0 ≤ a) (hd : decode bytes pc = .ok (.sastore, 1)) (hp : pc + 1 = pc')
    (r : ∀ h', Wr h h' a j.toNatClampNeg (.int (nar .short x)) → Arv Z h' a ca .short z (vs.set i (.int (nar .short x))) dv → OGo p l e R s m args below meth c n0 Q h' cells slots pc' Ls st) : OGo p l e R s m args below meth c n0 Q h cells slots pc Ls (.int x :: .int j :: .ref a :: st) := by
  subst hp
  obtain ⟨cl, A, q1, S, hz, H, G⟩ := A
  have hin := inb_of S hj
  exact OGo.write ga (fun T locs k n X e0 => RoadKit.stS X K.ex K.hZ e0 A (j := j) hin (g := mkF m pc Ls (.int x :: .int j :: .ref a :: st)) rfl rfl (hb K.by hd)) (fun h' W => r h' W (Arv.set A q1 S hz H G (fits_nar_short x) W _ hij hi))
theorem OGo.bastore (K : OCx p l e R s m args below meth c Z own nm bytes ml rt) {a : Addr} {ca : ClassId} {z j : Int32} {vs : List Value} {dv : Value} {x : Int32} (A : Arv Z h a ca .byte z vs dv) (hj : ¬ j < 0 ∧ j < z) {i : Nat} (hij : j.toNatClampNeg = i) (hi : i < vs.length) (ga : n0 ≤ a) (hd : decode bytes pc = .ok (.bastore, 1)) (hp : pc + 1 = pc')
    (r : ∀ h', Wr h h' a j.toNatClampNeg (.int (nar .byte x)) → Arv Z h' a ca .byte z (vs.set i (.int (nar .byte x))) dv → OGo p l e R s m args below meth c n0 Q h' cells slots pc' Ls st) : OGo p l e R s m args below meth c n0 Q h cells slots pc Ls (.int x :: .int j :: .ref a :: st) := by
  subst hp
  obtain ⟨cl, A, q1, S, hz, H, G⟩ := A
  have hin := inb_of S hj
  exact OGo.write ga (fun T locs k n X e0 => RoadKit.stB X K.ex K.hZ e0 A (j := j) hin (g := mkF m pc Ls (.int x :: .int j :: .ref a :: st)) rfl rfl (hb K.by hd)) (fun h' W => r h' W (Arv.set A q1 S hz H G (fits_nar_byte x) W _ hij hi))
theorem OGo.zastore (K : OCx p l e R s m args below meth c Z own nm bytes ml rt) {a : Addr} {ca : ClassId} {z j : Int32} {vs : List Value} {dv : Value} {x : Int32} (A : Arv Z h a ca .boolean z vs dv) (hj : ¬ j < 0 ∧ j < z) {i : Nat} (hij : j.toNatClampNeg = i) (hi : i < vs.length) (ga : n0 ≤ a) (hd : decode bytes pc = .ok (.bastore, 1)) (hp : pc + 1 = pc')
    (r : ∀ h', Wr h h' a j.toNatClampNeg (.int (nar .boolean x)) → Arv Z h' a ca .boolean z (vs.set i (.int (nar .boolean x))) dv → OGo p l e R s m args below meth c n0 Q h' cells slots pc' Ls st) : OGo p l e R s m args below meth c n0 Q h cells slots pc Ls (.int x :: .int j :: .ref a :: st) := by
  subst hp
  obtain ⟨cl, A, q1, S, hz, H, G⟩ := A
  have hin := inb_of S hj
  exact OGo.write ga (fun T locs k n X e0 => RoadKit.stZ X K.ex K.hZ e0 A (j := j) hin (g := mkF m pc Ls (.int x :: .int j :: .ref a :: st)) rfl rfl (hb K.by hd)) (fun h' W => r h' W (Arv.set A q1 S hz H G (fits_nar_bool x) W _ hij hi))
theorem OGo.aastore (K : OCx p l e R s m args below meth c Z own nm bytes ml rt) {a : Addr} {ca : ClassId} {ty : FieldType} {z j : Int32} {vs : List Value} {dv v : Value} (A : Arv Z h a ca ty z vs dv) (hty : ty.isReference = true) (hv : v.isRef = true) (F : Sto Z h a v) (hj : ¬ j < 0 ∧ j < z) {i : Nat} (hij : j.toNatClampNeg = i) (hi : i < vs.length) (ga : n0 ≤ a) (hd : decode bytes pc = .ok (.aastore, 1)) (hp : pc + 1 = pc')
    (r : ∀ h', Wr h h' a j.toNatClampNeg v → Arv Z h' a ca ty z (vs.set i v) dv → OGo p l e R s m args below meth c n0 Q h' cells slots pc' Ls st) : OGo p l e R s m args below meth c n0 Q h cells slots pc Ls (v :: .int j :: .ref a :: st) := by
  subst hp
  obtain ⟨cl, A, q1, S, hz, H, G⟩ := A
  have hin := inb_of S hj
  exact OGo.write ga (fun T locs k n X e0 => RoadKit.stR X K.ex K.hZ e0 A (j := j) hin hty F (g := mkF m pc Ls (v :: .int j :: .ref a :: st)) rfl rfl (hb K.by hd)) (fun h' W => r h' W (Arv.set A q1 S hz H G (by cases ty <;> first | (cases hty; done) | (cases v <;> first | (cases hv; done) | rfl)) W _ hij hi))
theorem OGo.initO (K : OCx p l e R s m args below meth c Z own nm bytes ml rt) {idx W : Nat} {a : Addr} (w1 : (Jvm.Cond.methodLink own idx Lib.objectInit).before a0 Z = true) (w2 : (Jvm.Cond.instanceMethod Lib.objectInit).before a0 Z = true) (w3 : (Jvm.Cond.code Lib.objectInit ⟨#[0xb1]⟩ 1 none).before a0 Z = true) (hd : decode bytes pc = .ok (.invokespecial idx, 3)) (hp : pc + 3 = pc') (hsz : Ls.size = ml) (hW : 2 * 0 + (st.map fun v => v.category).sum ≤ W) (hf : 1 ≤ R.frames) (hl : W + 12 ≤ R.locals) (r : OGo p l e R s m args below meth c n0 Q h cells slots pc' Ls st) : OGo p l e R s m args below meth c n0 Q h cells slots pc Ls (.ref a :: st) := by
  subst hp
  exact OGo.same (fun T locs k n X e0 => RoadKit.initO X K.ex K.hZ K.hown w1 w2 w3 e0 (g := mkF m pc Ls (.ref a :: st)) rfl (hsz.trans K.hml.symm) rfl (hb K.by hd) hf hW hl) r
theorem own_private {T : State} {locs : List Loc} {cells slots : Nat} (X : Stand p l e R s m args below meth c T locs cells slots) (hexec : p.tables.exec = Jvm.exec) {own : String} {index ni : Nat} {y : MethodName} {bytes : ByteArray} {maxL : Nat} {ret : Option FieldType}
    (hown : s.vm.findClass own = some m.cls) (hlink : (Jvm.Cond.methodLink own index y).before args s = true) (hinst : (Jvm.Cond.instanceMethod y).before args s = true) (hi : (Jvm.Cond.instantiable y.cls ni).before args s = true) (hpriv : s.PrivateAt y) (hcode : (Jvm.Cond.code y bytes maxL ret).before args s = true) (hy : y.cls ≠ "java/lang/invoke/MethodHandle" ∧ y.cls ≠ "java/lang/invoke/VarHandle")
    {W : Nat} {Pre : Pt → Array Value → Prop} {Post : Pt → Array Value → Option Value → Pt → Prop} (hK : Back l R p e below s args y 3 W Pre Post) {g : JFrame} (hg : g.method = m) (hsize : g.locals.size = c.maxLocals) {a : Addr} {cell : Cell} (hcell : T.heap[a]? = some cell) (hobj : ∀ q, cell.vm ≠ .statics q)
    {argsL rest : List Value} (hlen : ∀ sig, parseMethodDescriptor y.desc = some sig → argsL.length = sig.parameters.length) (hstack : g.stack = argsL.reverse ++ .ref a :: rest) (hW : 2 * g.monitorRoom + (rest.map fun v => v.category).sum ≤ W) (hdg : decode c.code g.pc = .ok (.invokevirtual index, 3))
    (hpre : ∀ vm₁, s.WarmedH vm₁ → Pre ⟨T.setVm vm₁, locs, cells, slots⟩ (.ref a :: argsL).toArray) :
    ∃ (v : Option Value) (vm₁ : Vm) (B : Pt), s.WarmedH vm₁ ∧ Stand p l e R s m args below meth c B.U B.locs B.cells B.slots ∧ Post ⟨T.setVm vm₁, locs, cells, slots⟩ (.ref a :: argsL).toArray v B ∧ Steps p.tables e below (T.setTop g) (B.U.setTop { g with pc := g.pc + 3, stack := v.toList ++ rest }) := by
  obtain ⟨mk, mt, n1, n2, n3, n4⟩ := Cond.instanceMethod_spec hinst
  obtain ⟨mt', ct, c1, -, -, -, -, -, -, c2⟩ := Cond.code_spec n1 hcode
  obtain rfl : mt' = mt := Option.some.inj (c1.symm.trans n2)
  obtain ⟨ci, ki, i1, i2, -, i3, -⟩ := Cond.instantiable_spec hi
  have i4 : s.vm.classes[mk.cls]? = some ki := by rw [Option.some.inj ((findClass_of_methodNamed n1).symm.trans i1)]; exact i2
  have i5 : ki.isInterface = false := (Bool.or_eq_false_iff.mp i3).1
  obtain ⟨vm₁, Y, sp⟩ := X.invokevirtual hexec hown hlink n1 n2 n3 i4 i5 hy hcell hobj (selectMethod_private n2 (hpriv mk mt' n1 n2)) n2 n4 i4 i5 hg (hlen _ c2) hstack hdg
  obtain ⟨v, B, Y', P', go⟩ := hK m meth c ⟨T.setVm vm₁, locs, cells, slots⟩ { g with stack := rest } (.invokevirtual index) mk (.ref a :: argsL).toArray Y hg hsize hdg hW (Y.named n1) (hpre vm₁ Y.warmed)
  exact ⟨v, vm₁, B, Y.warmed, Y', P', (sp _ fun acts => by rw [doInvoke_state]; exact Steps.refl _).trans go⟩
theorem OGo.callSV (K : OCx p l e R s m args below meth c Z own nm bytes ml rt) {y : MethodName} {index : Nat} {bytes' : ByteArray} {maxL : Nat} {ret : Option FieldType} {rm : Room} {W cells' slots' : Nat} {argsL : List Value} {P : Value → Heap → Prop} (w1 : (Jvm.Cond.methodLink own index y).before a0 Z = true) (w2 : (Jvm.Cond.static y).before a0 Z = true) (w3 : (Jvm.Cond.initialized y.cls).before a0 Z = true) (w4 : (Jvm.Cond.code y bytes' maxL ret).before a0 Z = true) (hy : y.cls ≠ "java/lang/invoke/MethodHandle" ∧ y.cls ≠ "java/lang/invoke/VarHandle") (C : OCon l Z n0 y bytes' maxL ret [] rm (argsL.toArray) h (OV P)) (hd : decode bytes pc = .ok (.invokestatic index, 3)) (hp : pc + 3 = pc') (hsz : Ls.size = ml) (hlen : ∀ sig, parseMethodDescriptor y.desc = some sig → argsL.length = sig.parameters.length) (hW : 2 * 0 + (st.map fun v => v.category).sum ≤ W) (hf : rm.frames + 1 ≤ R.frames) (hlo : W + (maxL + 11) + rm.locals ≤ R.locals) (hc : cells + rm.cells = cells') (hl : slots + rm.slots = slots') (hc' : cells' ≤ R.cells) (hl' : slots' ≤ R.slots) (r : ∀ (w : Value) (h' : Heap), P w h' → OGo p l e R s m args below meth c n0 Q h' cells' slots' pc' Ls (w :: st))
    : OGo p l e R s m args below meth c n0 Q h cells slots pc Ls (argsL.reverse ++ st) := by
  subst hp hc hl
  intro T locs k n X e0 N h1 h2
  obtain ⟨_, _, ⟨T', L', k', n'⟩, -, X', ⟨Lc, ⟨hQ, hN⟩, l', y', z'⟩, stp⟩ := Jvm.LawKit.callS X K.ex (y := y) K.hown (mvT K.hZ w1) (mvT K.hZ w2) (mvT K.hZ w3) (mvT K.hZ w4) hy (backOf (W := W) (Q := fun v h L => (OV P) v h ∧ Fr n0 L) C K.hZ w4 w3 hf hlo) (g := mkF m pc Ls (argsL.reverse ++ st)) rfl (hsz.trans K.hml.symm) (argsL := argsL) (rest := st) hlen rfl hW (hb K.by hd) (fun _ _ => ⟨rfl, e0, (by show k + rm.cells ≤ R.cells; omega), (by show n + rm.slots ≤ R.slots; omega)⟩)
  dsimp only [Pt.U, Pt.locs, Pt.cells, Pt.slots] at X' l' y' z' stp hQ
  subst l' y' z'
  obtain ⟨w, rfl, hQ⟩ := hQ
  obtain ⟨s₂, v, L, g, r'⟩ := r w _ hQ T' _ _ _ X' rfl (Fr.app N hN) (by omega) (by omega)
  exact ⟨s₂, v, L, stp _ g, r'⟩
theorem OGo.callSN (K : OCx p l e R s m args below meth c Z own nm bytes ml rt) {y : MethodName} {index : Nat} {bytes' : ByteArray} {maxL : Nat} {ret : Option FieldType} {rm : Room} {W cells' slots' : Nat} {argsL : List Value} {P : Heap → Prop} (w1 : (Jvm.Cond.methodLink own index y).before a0 Z = true) (w2 : (Jvm.Cond.static y).before a0 Z = true) (w3 : (Jvm.Cond.initialized y.cls).before a0 Z = true) (w4 : (Jvm.Cond.code y bytes' maxL ret).before a0 Z = true) (hy : y.cls ≠ "java/lang/invoke/MethodHandle" ∧ y.cls ≠ "java/lang/invoke/VarHandle") (C : OCon l Z n0 y bytes' maxL ret [] rm (argsL.toArray) h (ON P)) (hd : decode bytes pc = .ok (.invokestatic index, 3)) (hp : pc + 3 = pc') (hsz : Ls.size = ml) (hlen : ∀ sig, parseMethodDescriptor y.desc = some sig → argsL.length = sig.parameters.length) (hW : 2 * 0 + (st.map fun v => v.category).sum ≤ W) (hf : rm.frames + 1 ≤ R.frames) (hlo : W + (maxL + 11) + rm.locals ≤ R.locals) (hc : cells + rm.cells = cells') (hl : slots + rm.slots = slots') (hc' : cells' ≤ R.cells) (hl' : slots' ≤ R.slots) (r : ∀ (h' : Heap), P h' → OGo p l e R s m args below meth c n0 Q h' cells' slots' pc' Ls st)
    : OGo p l e R s m args below meth c n0 Q h cells slots pc Ls (argsL.reverse ++ st) := by
  subst hp hc hl
  intro T locs k n X e0 N h1 h2
  obtain ⟨_, _, ⟨T', L', k', n'⟩, -, X', ⟨Lc, ⟨hQ, hN⟩, l', y', z'⟩, stp⟩ := Jvm.LawKit.callS X K.ex (y := y) K.hown (mvT K.hZ w1) (mvT K.hZ w2) (mvT K.hZ w3) (mvT K.hZ w4) hy (backOf (W := W) (Q := fun v h L => (ON P) v h ∧ Fr n0 L) C K.hZ w4 w3 hf hlo) (g := mkF m pc Ls (argsL.reverse ++ st)) rfl (hsz.trans K.hml.symm) (argsL := argsL) (rest := st) hlen rfl hW (hb K.by hd) (fun _ _ => ⟨rfl, e0, (by show k + rm.cells ≤ R.cells; omega), (by show n + rm.slots ≤ R.slots; omega)⟩)
  dsimp only [Pt.U, Pt.locs, Pt.cells, Pt.slots] at X' l' y' z' stp hQ
  subst l' y' z'
  obtain ⟨rfl, hQ⟩ := hQ
  obtain ⟨s₂, v, L, g, r'⟩ := r  _ hQ T' _ _ _ X' rfl (Fr.app N hN) (by omega) (by omega)
  exact ⟨s₂, v, L, stp _ g, r'⟩
theorem OGo.callIV (K : OCx p l e R s m args below meth c Z own nm bytes ml rt) {y : MethodName} {a : Addr} {index : Nat} {bytes' : ByteArray} {maxL : Nat} {rm : Room} {W cells' slots' : Nat} {argsL : List Value} {P : Value → Heap → Prop} (hy1 : y.name = "<init>") (w1 : (Jvm.Cond.methodLink own index y).before a0 Z = true) (w2 : (Jvm.Cond.instanceMethod y).before a0 Z = true) (w3 : (Jvm.Cond.initialized y.cls).before a0 Z = true) (w4 : (Jvm.Cond.code y bytes' maxL none).before a0 Z = true) (hy : y.cls ≠ "java/lang/invoke/MethodHandle" ∧ y.cls ≠ "java/lang/invoke/VarHandle") (C : OCon l Z n0 y bytes' maxL none [] rm ((.ref a :: argsL).toArray) h (OV P)) (hd : decode bytes pc = .ok (.invokespecial index, 3)) (hp : pc + 3 = pc') (hsz : Ls.size = ml) (hlen : ∀ sig, parseMethodDescriptor y.desc = some sig → argsL.length = sig.parameters.length) (hW : 2 * 0 + (st.map fun v => v.category).sum ≤ W) (hf : rm.frames + 1 ≤ R.frames) (hlo : W + (maxL + 11) + rm.locals ≤ R.locals) (hc : cells + rm.cells = cells') (hl : slots + rm.slots = slots') (hc' : cells' ≤ R.cells) (hl' : slots' ≤ R.slots) (r : ∀ (w : Value) (h' : Heap), P w h' → OGo p l e R s m args below meth c n0 Q h' cells' slots' pc' Ls (w :: st))
    : OGo p l e R s m args below meth c n0 Q h cells slots pc Ls (argsL.reverse ++ .ref a :: st) := by
  subst hp hc hl
  intro T locs k n X e0 N h1 h2
  obtain ⟨_, _, ⟨T', L', k', n'⟩, -, X', ⟨Lc, ⟨hQ, hN⟩, l', y', z'⟩, stp⟩ := X.specialBack K.ex (y := y) hy1 K.hown (mvT K.hZ w1) (mvT K.hZ w2) (mvT K.hZ w4) hy (backOf (W := W) (Q := fun v h L => (OV P) v h ∧ Fr n0 L) C K.hZ w4 w3 hf hlo) (g := mkF m pc Ls (argsL.reverse ++ .ref a :: st)) rfl (hsz.trans K.hml.symm) (Steps.refl _) (a := a) (argsL := argsL) (rest := st) hlen rfl hW (hb K.by hd) (fun _ _ => ⟨rfl, e0, (by show k + rm.cells ≤ R.cells; omega), (by show n + rm.slots ≤ R.slots; omega)⟩)
  dsimp only [Pt.U, Pt.locs, Pt.cells, Pt.slots] at X' l' y' z' stp hQ
  subst l' y' z'
  obtain ⟨w, rfl, hQ⟩ := hQ
  obtain ⟨s₂, v, L, g, r'⟩ := r w _ hQ T' _ _ _ X' rfl (Fr.app N hN) (by omega) (by omega)
  exact ⟨s₂, v, L, stp.trans g, r'⟩
theorem OGo.callIN (K : OCx p l e R s m args below meth c Z own nm bytes ml rt) {y : MethodName} {a : Addr} {index : Nat} {bytes' : ByteArray} {maxL : Nat} {rm : Room} {W cells' slots' : Nat} {argsL : List Value} {P : Heap → Prop} (hy1 : y.name = "<init>") (w1 : (Jvm.Cond.methodLink own index y).before a0 Z = true) (w2 : (Jvm.Cond.instanceMethod y).before a0 Z = true) (w3 : (Jvm.Cond.initialized y.cls).before a0 Z = true) (w4 : (Jvm.Cond.code y bytes' maxL none).before a0 Z = true) (hy : y.cls ≠ "java/lang/invoke/MethodHandle" ∧ y.cls ≠ "java/lang/invoke/VarHandle") (C : OCon l Z n0 y bytes' maxL none [] rm ((.ref a :: argsL).toArray) h (ON P)) (hd : decode bytes pc = .ok (.invokespecial index, 3)) (hp : pc + 3 = pc') (hsz : Ls.size = ml) (hlen : ∀ sig, parseMethodDescriptor y.desc = some sig → argsL.length = sig.parameters.length) (hW : 2 * 0 + (st.map fun v => v.category).sum ≤ W) (hf : rm.frames + 1 ≤ R.frames) (hlo : W + (maxL + 11) + rm.locals ≤ R.locals) (hc : cells + rm.cells = cells') (hl : slots + rm.slots = slots') (hc' : cells' ≤ R.cells) (hl' : slots' ≤ R.slots) (r : ∀ (h' : Heap), P h' → OGo p l e R s m args below meth c n0 Q h' cells' slots' pc' Ls st)
    : OGo p l e R s m args below meth c n0 Q h cells slots pc Ls (argsL.reverse ++ .ref a :: st) := by
  subst hp hc hl
  intro T locs k n X e0 N h1 h2
  obtain ⟨_, _, ⟨T', L', k', n'⟩, -, X', ⟨Lc, ⟨hQ, hN⟩, l', y', z'⟩, stp⟩ := X.specialBack K.ex (y := y) hy1 K.hown (mvT K.hZ w1) (mvT K.hZ w2) (mvT K.hZ w4) hy (backOf (W := W) (Q := fun v h L => (ON P) v h ∧ Fr n0 L) C K.hZ w4 w3 hf hlo) (g := mkF m pc Ls (argsL.reverse ++ .ref a :: st)) rfl (hsz.trans K.hml.symm) (Steps.refl _) (a := a) (argsL := argsL) (rest := st) hlen rfl hW (hb K.by hd) (fun _ _ => ⟨rfl, e0, (by show k + rm.cells ≤ R.cells; omega), (by show n + rm.slots ≤ R.slots; omega)⟩)
  dsimp only [Pt.U, Pt.locs, Pt.cells, Pt.slots] at X' l' y' z' stp hQ
  subst l' y' z'
  obtain ⟨rfl, hQ⟩ := hQ
  obtain ⟨s₂, v, L, g, r'⟩ := r  _ hQ T' _ _ _ X' rfl (Fr.app N hN) (by omega) (by omega)
  exact ⟨s₂, v, L, stp.trans g, r'⟩
theorem OGo.callPV (K : OCx p l e R s m args below meth c Z own nm bytes ml rt) {y : MethodName} {a : Addr} {C0 : String} {index : Nat} {bytes' : ByteArray} {maxL : Nat} {ret : Option FieldType} {rm : Room} {W cells' slots' : Nat} {argsL : List Value} {P : Value → Heap → Prop} (E : Exa Z h a C0) (w1 : (Jvm.Cond.methodLink own index y).before a0 Z = true) (w2 : (Jvm.Cond.instanceMethod y).before a0 Z = true) (w5 : (Jvm.Cond.selects y.cls y y).before a0 Z = true) (w6 : (Jvm.Cond.privateMethod y).before a0 Z = true) (w3 : (Jvm.Cond.initialized y.cls).before a0 Z = true) (w4 : (Jvm.Cond.code y bytes' maxL ret).before a0 Z = true) (hy : y.cls ≠ "java/lang/invoke/MethodHandle" ∧ y.cls ≠ "java/lang/invoke/VarHandle") (C : OCon l Z n0 y bytes' maxL ret [] rm ((.ref a :: argsL).toArray) h (OV P)) (hd : decode bytes pc = .ok (.invokevirtual index, 3)) (hp : pc + 3 = pc') (hsz : Ls.size = ml) (hlen : ∀ sig, parseMethodDescriptor y.desc = some sig → argsL.length = sig.parameters.length) (hW : 2 * 0 + (st.map fun v => v.category).sum ≤ W) (hf : rm.frames + 1 ≤ R.frames) (hlo : W + (maxL + 11) + rm.locals ≤ R.locals) (hc : cells + rm.cells = cells') (hl : slots + rm.slots = slots') (hc' : cells' ≤ R.cells) (hl' : slots' ≤ R.slots) (r : ∀ (w : Value) (h' : Heap), P w h' → OGo p l e R s m args below meth c n0 Q h' cells' slots' pc' Ls (w :: st))
    : OGo p l e R s m args below meth c n0 Q h cells slots pc Ls (argsL.reverse ++ .ref a :: st) := by
  subst hp hc hl
  intro T locs k n X e0 N h1 h2
  obtain ⟨cq, q, q'⟩ := E.cell
  obtain ⟨_, _, ⟨T', L', k', n'⟩, -, X', ⟨Lc, ⟨hQ, hN⟩, l', y', z'⟩, stp⟩ := X.privateBack K.ex (y := y) K.hown (mvT K.hZ w1) (mvT K.hZ w2) (mvT K.hZ w5) (Cond.privateMethod_at (mvP K.hZ w6 (args := #[]))) (mvT K.hZ w4) hy (backOf (W := W) (Q := fun v h L => (OV P) v h ∧ Fr n0 L) C K.hZ w4 w3 hf hlo) (g := mkF m pc Ls (argsL.reverse ++ .ref a :: st)) rfl (hsz.trans K.hml.symm) (Steps.refl _) (a := a) (by rw [e0]; exact q) q' (argsL := argsL) (rest := st) hlen rfl hW (hb K.by hd) (fun _ _ => ⟨rfl, e0, (by show k + rm.cells ≤ R.cells; omega), (by show n + rm.slots ≤ R.slots; omega)⟩)
  dsimp only [Pt.U, Pt.locs, Pt.cells, Pt.slots] at X' l' y' z' stp hQ
  subst l' y' z'
  obtain ⟨w, rfl, hQ⟩ := hQ
  obtain ⟨s₂, v, L, g, r'⟩ := r w _ hQ T' _ _ _ X' rfl (Fr.app N hN) (by omega) (by omega)
  exact ⟨s₂, v, L, stp.trans g, r'⟩
theorem OGo.callPN (K : OCx p l e R s m args below meth c Z own nm bytes ml rt) {y : MethodName} {a : Addr} {C0 : String} {index : Nat} {bytes' : ByteArray} {maxL : Nat} {ret : Option FieldType} {rm : Room} {W cells' slots' : Nat} {argsL : List Value} {P : Heap → Prop} (E : Exa Z h a C0) (w1 : (Jvm.Cond.methodLink own index y).before a0 Z = true) (w2 : (Jvm.Cond.instanceMethod y).before a0 Z = true) (w5 : (Jvm.Cond.selects y.cls y y).before a0 Z = true) (w6 : (Jvm.Cond.privateMethod y).before a0 Z = true) (w3 : (Jvm.Cond.initialized y.cls).before a0 Z = true) (w4 : (Jvm.Cond.code y bytes' maxL ret).before a0 Z = true) (hy : y.cls ≠ "java/lang/invoke/MethodHandle" ∧ y.cls ≠ "java/lang/invoke/VarHandle") (C : OCon l Z n0 y bytes' maxL ret [] rm ((.ref a :: argsL).toArray) h (ON P)) (hd : decode bytes pc = .ok (.invokevirtual index, 3)) (hp : pc + 3 = pc') (hsz : Ls.size = ml) (hlen : ∀ sig, parseMethodDescriptor y.desc = some sig → argsL.length = sig.parameters.length) (hW : 2 * 0 + (st.map fun v => v.category).sum ≤ W) (hf : rm.frames + 1 ≤ R.frames) (hlo : W + (maxL + 11) + rm.locals ≤ R.locals) (hc : cells + rm.cells = cells') (hl : slots + rm.slots = slots') (hc' : cells' ≤ R.cells) (hl' : slots' ≤ R.slots) (r : ∀ (h' : Heap), P h' → OGo p l e R s m args below meth c n0 Q h' cells' slots' pc' Ls st)
    : OGo p l e R s m args below meth c n0 Q h cells slots pc Ls (argsL.reverse ++ .ref a :: st) := by
  subst hp hc hl
  intro T locs k n X e0 N h1 h2
  obtain ⟨cq, q, q'⟩ := E.cell
  obtain ⟨_, _, ⟨T', L', k', n'⟩, -, X', ⟨Lc, ⟨hQ, hN⟩, l', y', z'⟩, stp⟩ := X.privateBack K.ex (y := y) K.hown (mvT K.hZ w1) (mvT K.hZ w2) (mvT K.hZ w5) (Cond.privateMethod_at (mvP K.hZ w6 (args := #[]))) (mvT K.hZ w4) hy (backOf (W := W) (Q := fun v h L => (ON P) v h ∧ Fr n0 L) C K.hZ w4 w3 hf hlo) (g := mkF m pc Ls (argsL.reverse ++ .ref a :: st)) rfl (hsz.trans K.hml.symm) (Steps.refl _) (a := a) (by rw [e0]; exact q) q' (argsL := argsL) (rest := st) hlen rfl hW (hb K.by hd) (fun _ _ => ⟨rfl, e0, (by show k + rm.cells ≤ R.cells; omega), (by show n + rm.slots ≤ R.slots; omega)⟩)
  dsimp only [Pt.U, Pt.locs, Pt.cells, Pt.slots] at X' l' y' z' stp hQ
  subst l' y' z'
  obtain ⟨rfl, hQ⟩ := hQ
  obtain ⟨s₂, v, L, g, r'⟩ := r  _ hQ T' _ _ _ X' rfl (Fr.app N hN) (by omega) (by omega)
  exact ⟨s₂, v, L, stp.trans g, r'⟩
theorem OGo.callVV (K : OCx p l e R s m args below meth c Z own nm bytes ml rt) {y z : MethodName} {a : Addr} {C0 : String} {index : Nat} {bytes' : ByteArray} {maxL : Nat} {ret : Option FieldType} {rm : Room} {W cells' slots' : Nat} {argsL : List Value} {P : Value → Heap → Prop} (E : Exa Z h a C0) (w1 : (Jvm.Cond.methodLink own index y).before a0 Z = true) (w2 : (Jvm.Cond.declares y).before a0 Z = true) (hnf : NotFace s y) (w5 : (Jvm.Cond.selects C0 y z).before a0 Z = true) (w6 : (Jvm.Cond.instanceMethod z).before a0 Z = true) (w3 : (Jvm.Cond.initialized z.cls).before a0 Z = true) (w4 : (Jvm.Cond.code z bytes' maxL ret).before a0 Z = true) (hy : y.cls ≠ "java/lang/invoke/MethodHandle" ∧ y.cls ≠ "java/lang/invoke/VarHandle") (C : OCon l Z n0 z bytes' maxL ret [] rm ((.ref a :: argsL).toArray) h (OV P)) (hd : decode bytes pc = .ok (.invokevirtual index, 3)) (hp : pc + 3 = pc') (hsz : Ls.size = ml) (hlen : ∀ sig, parseMethodDescriptor y.desc = some sig → argsL.length = sig.parameters.length) (hW : 2 * 0 + (st.map fun v => v.category).sum ≤ W) (hf : rm.frames + 1 ≤ R.frames) (hlo : W + (maxL + 11) + rm.locals ≤ R.locals) (hc : cells + rm.cells = cells') (hl : slots + rm.slots = slots') (hc' : cells' ≤ R.cells) (hl' : slots' ≤ R.slots) (r : ∀ (w : Value) (h' : Heap), P w h' → OGo p l e R s m args below meth c n0 Q h' cells' slots' pc' Ls (w :: st))
    : OGo p l e R s m args below meth c n0 Q h cells slots pc Ls (argsL.reverse ++ .ref a :: st) := by
  subst hp hc hl
  intro T locs k n X e0 N h1 h2
  obtain ⟨cq, kq, qa, qb, qc⟩ := isOf K.hZ e0 E
  obtain ⟨_, _, ⟨T', L', k', n'⟩, -, X', ⟨Lc, ⟨hQ, hN⟩, l', y', z'⟩, stp⟩ := X.virtualBack K.ex (y := y) (z := z) K.hown (mvT K.hZ w1) (mvT K.hZ w2) hnf (mvT K.hZ w5) (mvT K.hZ w6) hy (backOf (W := W) (Q := fun v h L => (OV P) v h ∧ Fr n0 L) C K.hZ w4 w3 hf hlo) qa qc (g := mkF m pc Ls (argsL.reverse ++ .ref a :: st)) rfl (hsz.trans K.hml.symm) (Steps.refl _) (argsL := argsL) (rest := st) hlen rfl hW (hb K.by hd) (fun _ _ => ⟨rfl, e0, (by show k + rm.cells ≤ R.cells; omega), (by show n + rm.slots ≤ R.slots; omega)⟩)
  dsimp only [Pt.U, Pt.locs, Pt.cells, Pt.slots] at X' l' y' z' stp hQ
  subst l' y' z'
  obtain ⟨w, rfl, hQ⟩ := hQ
  obtain ⟨s₂, v, L, g, r'⟩ := r w _ hQ T' _ _ _ X' rfl (Fr.app N hN) (by omega) (by omega)
  exact ⟨s₂, v, L, stp.trans g, r'⟩
theorem OGo.callVN (K : OCx p l e R s m args below meth c Z own nm bytes ml rt) {y z : MethodName} {a : Addr} {C0 : String} {index : Nat} {bytes' : ByteArray} {maxL : Nat} {ret : Option FieldType} {rm : Room} {W cells' slots' : Nat} {argsL : List Value} {P : Heap → Prop} (E : Exa Z h a C0) (w1 : (Jvm.Cond.methodLink own index y).before a0 Z = true) (w2 : (Jvm.Cond.declares y).before a0 Z = true) (hnf : NotFace s y) (w5 : (Jvm.Cond.selects C0 y z).before a0 Z = true) (w6 : (Jvm.Cond.instanceMethod z).before a0 Z = true) (w3 : (Jvm.Cond.initialized z.cls).before a0 Z = true) (w4 : (Jvm.Cond.code z bytes' maxL ret).before a0 Z = true) (hy : y.cls ≠ "java/lang/invoke/MethodHandle" ∧ y.cls ≠ "java/lang/invoke/VarHandle") (C : OCon l Z n0 z bytes' maxL ret [] rm ((.ref a :: argsL).toArray) h (ON P)) (hd : decode bytes pc = .ok (.invokevirtual index, 3)) (hp : pc + 3 = pc') (hsz : Ls.size = ml) (hlen : ∀ sig, parseMethodDescriptor y.desc = some sig → argsL.length = sig.parameters.length) (hW : 2 * 0 + (st.map fun v => v.category).sum ≤ W) (hf : rm.frames + 1 ≤ R.frames) (hlo : W + (maxL + 11) + rm.locals ≤ R.locals) (hc : cells + rm.cells = cells') (hl : slots + rm.slots = slots') (hc' : cells' ≤ R.cells) (hl' : slots' ≤ R.slots) (r : ∀ (h' : Heap), P h' → OGo p l e R s m args below meth c n0 Q h' cells' slots' pc' Ls st)
    : OGo p l e R s m args below meth c n0 Q h cells slots pc Ls (argsL.reverse ++ .ref a :: st) := by
  subst hp hc hl
  intro T locs k n X e0 N h1 h2
  obtain ⟨cq, kq, qa, qb, qc⟩ := isOf K.hZ e0 E
  obtain ⟨_, _, ⟨T', L', k', n'⟩, -, X', ⟨Lc, ⟨hQ, hN⟩, l', y', z'⟩, stp⟩ := X.virtualBack K.ex (y := y) (z := z) K.hown (mvT K.hZ w1) (mvT K.hZ w2) hnf (mvT K.hZ w5) (mvT K.hZ w6) hy (backOf (W := W) (Q := fun v h L => (ON P) v h ∧ Fr n0 L) C K.hZ w4 w3 hf hlo) qa qc (g := mkF m pc Ls (argsL.reverse ++ .ref a :: st)) rfl (hsz.trans K.hml.symm) (Steps.refl _) (argsL := argsL) (rest := st) hlen rfl hW (hb K.by hd) (fun _ _ => ⟨rfl, e0, (by show k + rm.cells ≤ R.cells; omega), (by show n + rm.slots ≤ R.slots; omega)⟩)
  dsimp only [Pt.U, Pt.locs, Pt.cells, Pt.slots] at X' l' y' z' stp hQ
  subst l' y' z'
  obtain ⟨rfl, hQ⟩ := hQ
  obtain ⟨s₂, v, L, g, r'⟩ := r  _ hQ T' _ _ _ X' rfl (Fr.app N hN) (by omega) (by omega)
  exact ⟨s₂, v, L, stp.trans g, r'⟩
theorem OGo.callFV (K : OCx p l e R s m args below meth c Z own nm bytes ml rt) {y z : MethodName} {a : Addr} {C0 : String} {cnt : Nat} {index : Nat} {bytes' : ByteArray} {maxL : Nat} {ret : Option FieldType} {rm : Room} {W cells' slots' : Nat} {argsL : List Value} {P : Value → Heap → Prop} (E : Exa Z h a C0) (w1 : (Jvm.Cond.methodLink own index y).before a0 Z = true) (w2 : (Jvm.Cond.declares y).before a0 Z = true) (w7 : (Jvm.Cond.interfaceMethod y.cls y.cls y.name y.desc).before a0 Z = true) (w5 : (Jvm.Cond.selects C0 y z).before a0 Z = true) (w6 : (Jvm.Cond.instanceMethod z).before a0 Z = true) (w8 : (Jvm.Cond.publicMethod z).before a0 Z = true) (w9 : (Jvm.Cond.unhidden C0 y.name y.desc).before a0 Z = true) (w10 : (Jvm.Cond.castable C0 y.cls).before a0 Z = true) (w3 : (Jvm.Cond.initialized z.cls).before a0 Z = true) (w4 : (Jvm.Cond.code z bytes' maxL ret).before a0 Z = true) (hy : y.cls ≠ "java/lang/invoke/MethodHandle" ∧ y.cls ≠ "java/lang/invoke/VarHandle") (C : OCon l Z n0 z bytes' maxL ret [] rm ((.ref a :: argsL).toArray) h (OV P)) (hd : decode bytes pc = .ok (.invokeinterface index cnt, 5)) (hp : pc + 5 = pc') (hsz : Ls.size = ml) (hlen : ∀ sig, parseMethodDescriptor y.desc = some sig → argsL.length = sig.parameters.length) (hW : 2 * 0 + (st.map fun v => v.category).sum ≤ W) (hf : rm.frames + 1 ≤ R.frames) (hlo : W + (maxL + 11) + rm.locals ≤ R.locals) (hc : cells + rm.cells = cells') (hl : slots + rm.slots = slots') (hc' : cells' ≤ R.cells) (hl' : slots' ≤ R.slots) (r : ∀ (w : Value) (h' : Heap), P w h' → OGo p l e R s m args below meth c n0 Q h' cells' slots' pc' Ls (w :: st))
    : OGo p l e R s m args below meth c n0 Q h cells slots pc Ls (argsL.reverse ++ .ref a :: st) := by
  subst hp hc hl
  intro T locs k n X e0 N h1 h2
  obtain ⟨cq, kq, qa, qb, qc⟩ := isOf K.hZ e0 E
  obtain ⟨_, _, ⟨T', L', k', n'⟩, -, X', ⟨Lc, ⟨hQ, hN⟩, l', y', z'⟩, stp⟩ := X.interfaceBack K.ex (xi := y) (y := z) K.hown (mvT K.hZ w1) (mvT K.hZ w2) (mvT K.hZ w7 (by simp [Cond.onTables, Cond.keepsFace, Cond.keeps, Cond.steady, Cond.faceAtom, hy.1, hy.2])) (mvT K.hZ w5) (mvT K.hZ w6) (mvT K.hZ w8) (mvT K.hZ w9) (mvT K.hZ w10) hy (backOf (W := W) (Q := fun v h L => (OV P) v h ∧ Fr n0 L) C K.hZ w4 w3 hf hlo) qa qb qc (g := mkF m pc Ls (argsL.reverse ++ .ref a :: st)) rfl (hsz.trans K.hml.symm) (Steps.refl _) (argsL := argsL) (rest := st) hlen rfl hW (hb K.by hd) (fun _ _ => ⟨rfl, e0, (by show k + rm.cells ≤ R.cells; omega), (by show n + rm.slots ≤ R.slots; omega)⟩)
  dsimp only [Pt.U, Pt.locs, Pt.cells, Pt.slots] at X' l' y' z' stp hQ
  subst l' y' z'
  obtain ⟨w, rfl, hQ⟩ := hQ
  obtain ⟨s₂, v, L, g, r'⟩ := r w _ hQ T' _ _ _ X' rfl (Fr.app N hN) (by omega) (by omega)
  exact ⟨s₂, v, L, stp.trans g, r'⟩
theorem OGo.callFN (K : OCx p l e R s m args below meth c Z own nm bytes ml rt) {y z : MethodName} {a : Addr} {C0 : String} {cnt : Nat} {index : Nat} {bytes' : ByteArray} {maxL : Nat} {ret : Option FieldType} {rm : Room} {W cells' slots' : Nat} {argsL : List Value} {P : Heap → Prop} (E : Exa Z h a C0) (w1 : (Jvm.Cond.methodLink own index y).before a0 Z = true) (w2 : (Jvm.Cond.declares y).before a0 Z = true) (w7 : (Jvm.Cond.interfaceMethod y.cls y.cls y.name y.desc).before a0 Z = true) (w5 : (Jvm.Cond.selects C0 y z).before a0 Z = true) (w6 : (Jvm.Cond.instanceMethod z).before a0 Z = true) (w8 : (Jvm.Cond.publicMethod z).before a0 Z = true) (w9 : (Jvm.Cond.unhidden C0 y.name y.desc).before a0 Z = true) (w10 : (Jvm.Cond.castable C0 y.cls).before a0 Z = true) (w3 : (Jvm.Cond.initialized z.cls).before a0 Z = true) (w4 : (Jvm.Cond.code z bytes' maxL ret).before a0 Z = true) (hy : y.cls ≠ "java/lang/invoke/MethodHandle" ∧ y.cls ≠ "java/lang/invoke/VarHandle") (C : OCon l Z n0 z bytes' maxL ret [] rm ((.ref a :: argsL).toArray) h (ON P)) (hd : decode bytes pc = .ok (.invokeinterface index cnt, 5)) (hp : pc + 5 = pc') (hsz : Ls.size = ml) (hlen : ∀ sig, parseMethodDescriptor y.desc = some sig → argsL.length = sig.parameters.length) (hW : 2 * 0 + (st.map fun v => v.category).sum ≤ W) (hf : rm.frames + 1 ≤ R.frames) (hlo : W + (maxL + 11) + rm.locals ≤ R.locals) (hc : cells + rm.cells = cells') (hl : slots + rm.slots = slots') (hc' : cells' ≤ R.cells) (hl' : slots' ≤ R.slots) (r : ∀ (h' : Heap), P h' → OGo p l e R s m args below meth c n0 Q h' cells' slots' pc' Ls st)
    : OGo p l e R s m args below meth c n0 Q h cells slots pc Ls (argsL.reverse ++ .ref a :: st) := by
  subst hp hc hl
  intro T locs k n X e0 N h1 h2
  obtain ⟨cq, kq, qa, qb, qc⟩ := isOf K.hZ e0 E
  obtain ⟨_, _, ⟨T', L', k', n'⟩, -, X', ⟨Lc, ⟨hQ, hN⟩, l', y', z'⟩, stp⟩ := X.interfaceBack K.ex (xi := y) (y := z) K.hown (mvT K.hZ w1) (mvT K.hZ w2) (mvT K.hZ w7 (by simp [Cond.onTables, Cond.keepsFace, Cond.keeps, Cond.steady, Cond.faceAtom, hy.1, hy.2])) (mvT K.hZ w5) (mvT K.hZ w6) (mvT K.hZ w8) (mvT K.hZ w9) (mvT K.hZ w10) hy (backOf (W := W) (Q := fun v h L => (ON P) v h ∧ Fr n0 L) C K.hZ w4 w3 hf hlo) qa qb qc (g := mkF m pc Ls (argsL.reverse ++ .ref a :: st)) rfl (hsz.trans K.hml.symm) (Steps.refl _) (argsL := argsL) (rest := st) hlen rfl hW (hb K.by hd) (fun _ _ => ⟨rfl, e0, (by show k + rm.cells ≤ R.cells; omega), (by show n + rm.slots ≤ R.slots; omega)⟩)
  dsimp only [Pt.U, Pt.locs, Pt.cells, Pt.slots] at X' l' y' z' stp hQ
  subst l' y' z'
  obtain ⟨rfl, hQ⟩ := hQ
  obtain ⟨s₂, v, L, g, r'⟩ := r  _ hQ T' _ _ _ X' rfl (Fr.app N hN) (by omega) (by omega)
  exact ⟨s₂, v, L, stp.trans g, r'⟩
theorem OGo.copy (K : OCx p l e R s m args below meth c Z own nm bytes ml rt) {index W : Nat} {a b : Addr} {k k' : ClassId} {ty : FieldType} {z z' sp dp nn : Int32} {vs vd us : List Value} {dv dd : Value} (w1 : (Jvm.Cond.methodLink own index Jvm.Stand.acN).before a0 Z = true) (w2 : (Jvm.Cond.native Jvm.Stand.acN).before a0 Z = true) (w3 : (Jvm.Cond.static Jvm.Stand.acN).before a0 Z = true) (w4 : (Jvm.Cond.initialized "java/lang/System").before a0 Z = true)
    (A : Arv Z h a k ty z vs dv) (B : Arv Z h b k' ty z' vd dd) (hty : refKind ty = false) (h1 : ¬ sp < 0) (h2 : ¬ dp < 0) (h3 : ¬ nn < 0) (h4 : sp.toNatClampNeg + nn.toNatClampNeg ≤ z.toNatClampNeg) (h5 : dp.toNatClampNeg + nn.toNatClampNeg ≤ z'.toNatClampNeg) (hus : us = (List.range nn.toNatClampNeg).map fun i => vs.getD (sp.toNatClampNeg + i) dv) (hl : dp.toNatClampNeg + nn.toNatClampNeg ≤ vd.length) (ge : n0 ≤ b)
    (hd : decode bytes pc = .ok (.invokestatic index, 3)) (hp : pc + 3 = pc') (hsz : Ls.size = ml) (hf : 1 ≤ R.frames) (hW : 2 * 0 + (st.map fun v => v.category).sum ≤ W) (hlo : W + (nativeFrameWords "java/lang/System" "arraycopy" 5 + 11) ≤ R.locals)
    (r : ∀ h', Keep h h' [b] → Arv Z h' b k' ty z' (vd.take dp.toNatClampNeg ++ us ++ vd.drop (dp.toNatClampNeg + nn.toNatClampNeg)) dd → OGo p l e R s m args below meth c n0 Q h' cells slots pc' Ls st) : OGo p l e R s m args below meth c n0 Q h cells slots pc Ls (.int nn :: .int dp :: .ref b :: .int sp :: .ref a :: st) := by
  subst hp
  intro T locs k n X e0 N h1' h2'
  obtain ⟨T', h', L, X', e', N', K', V', st'⟩ := RoadKit.cpA X K.ex K.hZ K.hown w1 w2 w3 w4 e0 A B (Or.inl ⟨rfl, hty⟩) h1 h2 h3 h4 h5 hus hl N ge (g := mkF m pc Ls (.int nn :: .int dp :: .ref b :: .int sp :: .ref a :: st)) rfl (hsz.trans K.hml.symm) rfl (hb K.by hd) hf hW hlo
  obtain ⟨s₂, v, L2, g, r'⟩ := r h' K' V' T' L k n X' e' N' h1' h2'
  exact ⟨s₂, v, L2, st' _ g, r'⟩
theorem OGo.callQV (K : OCx p l e R s m args below meth c Z own nm bytes ml rt) {y : MethodName} {a : Addr} {C0 : String} {ni : Nat} {index : Nat} {bytes' : ByteArray} {maxL : Nat} {ret : Option FieldType} {rm : Room} {W cells' slots' : Nat} {argsL : List Value} {P : Value → Heap → Prop} (E : Exa Z h a C0) (w1 : (Jvm.Cond.methodLink own index y).before a0 Z = true) (w2 : (Jvm.Cond.instanceMethod y).before a0 Z = true) (w5 : (Jvm.Cond.instantiable y.cls ni).before a0 Z = true) (w6 : (Jvm.Cond.privateMethod y).before a0 Z = true) (w3 : (Jvm.Cond.initialized y.cls).before a0 Z = true) (w4 : (Jvm.Cond.code y bytes' maxL ret).before a0 Z = true) (hy : y.cls ≠ "java/lang/invoke/MethodHandle" ∧ y.cls ≠ "java/lang/invoke/VarHandle") (C : OCon l Z n0 y bytes' maxL ret [] rm ((.ref a :: argsL).toArray) h (OV P)) (hd : decode bytes pc = .ok (.invokevirtual index, 3)) (hp : pc + 3 = pc') (hsz : Ls.size = ml) (hlen : ∀ sig, parseMethodDescriptor y.desc = some sig → argsL.length = sig.parameters.length) (hW : 2 * 0 + (st.map fun v => v.category).sum ≤ W) (hf : rm.frames + 1 ≤ R.frames) (hlo : W + (maxL + 11) + rm.locals ≤ R.locals) (hc : cells + rm.cells = cells') (hl : slots + rm.slots = slots') (hc' : cells' ≤ R.cells) (hl' : slots' ≤ R.slots) (r : ∀ (w : Value) (h' : Heap), P w h' → OGo p l e R s m args below meth c n0 Q h' cells' slots' pc' Ls (w :: st))
    : OGo p l e R s m args below meth c n0 Q h cells slots pc Ls (argsL.reverse ++ .ref a :: st) := by
  subst hp hc hl
  intro T locs k n X e0 N h1 h2
  obtain ⟨cq, q, q'⟩ := E.cell
  obtain ⟨_, _, ⟨T', L', k', n'⟩, -, X', ⟨Lc, ⟨hQ, hN⟩, l', y', z'⟩, stp⟩ := own_private X K.ex (y := y) K.hown (mvT K.hZ w1) (mvT K.hZ w2) (mvT K.hZ w5) (Cond.privateMethod_at (mvP K.hZ w6 (args := #[]))) (mvT K.hZ w4) hy (backOf (W := W) (Q := fun v h L => (OV P) v h ∧ Fr n0 L) C K.hZ w4 w3 hf hlo) (g := mkF m pc Ls (argsL.reverse ++ .ref a :: st)) rfl (hsz.trans K.hml.symm) (a := a) (by rw [e0]; exact q) q' (argsL := argsL) (rest := st) hlen rfl hW (hb K.by hd) (fun _ _ => ⟨rfl, e0, (by show k + rm.cells ≤ R.cells; omega), (by show n + rm.slots ≤ R.slots; omega)⟩)
  dsimp only [Pt.U, Pt.locs, Pt.cells, Pt.slots] at X' l' y' z' stp hQ
  subst l' y' z'
  obtain ⟨w, rfl, hQ⟩ := hQ
  obtain ⟨s₂, v, L, g, r'⟩ := r w _ hQ T' _ _ _ X' rfl (Fr.app N hN) (by omega) (by omega)
  exact ⟨s₂, v, L, stp.trans g, r'⟩
theorem OGo.callQN (K : OCx p l e R s m args below meth c Z own nm bytes ml rt) {y : MethodName} {a : Addr} {C0 : String} {ni : Nat} {index : Nat} {bytes' : ByteArray} {maxL : Nat} {ret : Option FieldType} {rm : Room} {W cells' slots' : Nat} {argsL : List Value} {P : Heap → Prop} (E : Exa Z h a C0) (w1 : (Jvm.Cond.methodLink own index y).before a0 Z = true) (w2 : (Jvm.Cond.instanceMethod y).before a0 Z = true) (w5 : (Jvm.Cond.instantiable y.cls ni).before a0 Z = true) (w6 : (Jvm.Cond.privateMethod y).before a0 Z = true) (w3 : (Jvm.Cond.initialized y.cls).before a0 Z = true) (w4 : (Jvm.Cond.code y bytes' maxL ret).before a0 Z = true) (hy : y.cls ≠ "java/lang/invoke/MethodHandle" ∧ y.cls ≠ "java/lang/invoke/VarHandle") (C : OCon l Z n0 y bytes' maxL ret [] rm ((.ref a :: argsL).toArray) h (ON P)) (hd : decode bytes pc = .ok (.invokevirtual index, 3)) (hp : pc + 3 = pc') (hsz : Ls.size = ml) (hlen : ∀ sig, parseMethodDescriptor y.desc = some sig → argsL.length = sig.parameters.length) (hW : 2 * 0 + (st.map fun v => v.category).sum ≤ W) (hf : rm.frames + 1 ≤ R.frames) (hlo : W + (maxL + 11) + rm.locals ≤ R.locals) (hc : cells + rm.cells = cells') (hl : slots + rm.slots = slots') (hc' : cells' ≤ R.cells) (hl' : slots' ≤ R.slots) (r : ∀ (h' : Heap), P h' → OGo p l e R s m args below meth c n0 Q h' cells' slots' pc' Ls st)
    : OGo p l e R s m args below meth c n0 Q h cells slots pc Ls (argsL.reverse ++ .ref a :: st) := by
  subst hp hc hl
  intro T locs k n X e0 N h1 h2
  obtain ⟨cq, q, q'⟩ := E.cell
  obtain ⟨_, _, ⟨T', L', k', n'⟩, -, X', ⟨Lc, ⟨hQ, hN⟩, l', y', z'⟩, stp⟩ := own_private X K.ex (y := y) K.hown (mvT K.hZ w1) (mvT K.hZ w2) (mvT K.hZ w5) (Cond.privateMethod_at (mvP K.hZ w6 (args := #[]))) (mvT K.hZ w4) hy (backOf (W := W) (Q := fun v h L => (ON P) v h ∧ Fr n0 L) C K.hZ w4 w3 hf hlo) (g := mkF m pc Ls (argsL.reverse ++ .ref a :: st)) rfl (hsz.trans K.hml.symm) (a := a) (by rw [e0]; exact q) q' (argsL := argsL) (rest := st) hlen rfl hW (hb K.by hd) (fun _ _ => ⟨rfl, e0, (by show k + rm.cells ≤ R.cells; omega), (by show n + rm.slots ≤ R.slots; omega)⟩)
  dsimp only [Pt.U, Pt.locs, Pt.cells, Pt.slots] at X' l' y' z' stp hQ
  subst l' y' z'
  obtain ⟨rfl, hQ⟩ := hQ
  obtain ⟨s₂, v, L, g, r'⟩ := r  _ hQ T' _ _ _ X' rfl (Fr.app N hN) (by omega) (by omega)
  exact ⟨s₂, v, L, stp.trans g, r'⟩
theorem OGo.acmp (K : OCx p l e R s m args below meth c Z own nm bytes ml rt) {cd : ACond} {o : Int} {x y : Value} {same : Bool} (hd : decode bytes pc = .ok (.if_acmp cd o, 3)) (h1 : x.isRef = true) (h2 : y.isRef = true) (hq : decide (x = y) = same) (ho : 0 ≤ (pc : Int) + o) (hp : pc' = if acV cd same = true then ((pc : Int) + o).toNat else pc + 3) (r : OGo p l e R s m args below meth c n0 Q h cells slots pc' Ls st) : OGo p l e R s m args below meth c n0 Q h cells slots pc Ls (y :: x :: st) :=
  OGo.same (fun T locs k n X e0 => ⟨T, X, e0, fun t q => RoadKit.acmp X K.ex (g := mkF m pc Ls (y :: x :: st)) rfl h1 h2 rfl (hb K.by hd) rfl hq ho hp q⟩) r
theorem OGo.castY (K : OCx p l e R s m args below meth c Z own nm bytes ml rt) {C : String} {index : Nat} {a : Addr} (w : (Jvm.Cond.classLink own index C).before a0 Z = true) (I : Ins Z h a C true) (hd : decode bytes pc = .ok (.checkcast index, 3)) (hp : pc + 3 = pc') (r : OGo p l e R s m args below meth c n0 Q h cells slots pc' Ls (.ref a :: st)) : OGo p l e R s m args below meth c n0 Q h cells slots pc Ls (.ref a :: st) := by
  subst hp
  exact OGo.same (fun T locs k n X e0 => RoadKit.castY X K.ex K.hZ K.hown w e0 I (g := mkF m pc Ls (.ref a :: st)) rfl rfl (hb K.by hd)) r
theorem OGo.instY (K : OCx p l e R s m args below meth c Z own nm bytes ml rt) {C : String} {index : Nat} {a : Addr} (w : (Jvm.Cond.classLink own index C).before a0 Z = true) (I : Ins Z h a C true) (hd : decode bytes pc = .ok (.instanceof index, 3)) (hp : pc + 3 = pc') (r : OGo p l e R s m args below meth c n0 Q h cells slots pc' Ls (.int 1 :: st)) : OGo p l e R s m args below meth c n0 Q h cells slots pc Ls (.ref a :: st) := by
  subst hp
  exact OGo.same (fun T locs k n X e0 => RoadKit.instY X K.ex K.hZ K.hown w e0 I (g := mkF m pc Ls (.ref a :: st)) rfl rfl (hb K.by hd)) r
theorem OGo.ldcI (K : OCx p l e R s m args below meth c Z own nm bytes ml rt) {index : Nat} {v : Int32} (w : (Jvm.Cond.constant own index v).before a0 Z = true) (hd : decode bytes pc = .ok (.ldc index, 2)) (hp : pc + 2 = pc') (r : OGo p l e R s m args below meth c n0 Q h cells slots pc' Ls (.int v :: st)) : OGo p l e R s m args below meth c n0 Q h cells slots pc Ls st := by
  subst hp
  exact OGo.same (fun T locs k n X e0 => ⟨T, X, e0, fun t q => X.ldcInt K.ex K.hown (mvT K.hZ w) (g := mkF m pc Ls st) rfl (hb K.by hd) t q⟩) r
theorem OGo.ldcwI (K : OCx p l e R s m args below meth c Z own nm bytes ml rt) {index : Nat} {v : Int32} (w : (Jvm.Cond.constant own index v).before a0 Z = true) (hd : decode bytes pc = .ok (.ldc_w index, 3)) (hp : pc + 3 = pc') (r : OGo p l e R s m args below meth c n0 Q h cells slots pc' Ls (.int v :: st)) : OGo p l e R s m args below meth c n0 Q h cells slots pc Ls st := by
  subst hp
  exact OGo.same (fun T locs k n X e0 => ⟨T, X, e0, fun t q => X.ldcwInt K.ex K.hown (mvT K.hZ w) (g := mkF m pc Ls st) rfl (hb K.by hd) t q⟩) r
theorem OGo.ldcJ (K : OCx p l e R s m args below meth c Z own nm bytes ml rt) {index : Nat} {v : Int64} (w : (Jvm.Cond.constantLong own index v).before a0 Z = true) (hd : decode bytes pc = .ok (.ldc2_w index, 3)) (hp : pc + 3 = pc') (r : OGo p l e R s m args below meth c n0 Q h cells slots pc' Ls (.long v :: st)) : OGo p l e R s m args below meth c n0 Q h cells slots pc Ls st := by
  subst hp
  exact OGo.same (fun T locs k n X e0 => ⟨T, X, e0, fun t q => X.ldc2Long K.ex K.hown (mvT K.hZ w) (g := mkF m pc Ls st) rfl (hb K.by hd) t q⟩) r
theorem OGo.ldcD (K : OCx p l e R s m args below meth c Z own nm bytes ml rt) {index : Nat} {v : UInt64} (w : (Jvm.Cond.constantDouble own index v).before a0 Z = true) (hd : decode bytes pc = .ok (.ldc2_w index, 3)) (hp : pc + 3 = pc') (r : OGo p l e R s m args below meth c n0 Q h cells slots pc' Ls (.double v :: st)) : OGo p l e R s m args below meth c n0 Q h cells slots pc Ls st := by
  subst hp
  exact OGo.same (fun T locs k n X e0 => ⟨T, X, e0, fun t q => X.ldc2DoubleC K.ex K.hown (mvT K.hZ w) (g := mkF m pc Ls st) rfl (hb K.by hd) t q⟩) r
end OwnLayer
theorem own_eqi {args : Array Value} {first s : State} {o : Option Outcome} {idx : List Nat} {a : Term} {k : Int32} (h : (Jvm.Cond.eq a (Jvm.Term.int k)).value args first o s idx = some true) : a.eval args first o idx s = some (.int k) := by
  obtain ⟨x, y, h1, h2, h3, h4⟩ := cmp_v (Or.inl h)
  have h5 : y = .int k := Option.some.inj (h2.symm.trans (Term.int_eval k))
  subst h5
  obtain ⟨z, rfl⟩ := h4
  have h6 : (Jvm.Cond.eq a (Jvm.Term.int k)).value args first o s idx = some (decide (z = k)) := by simp [Cond.value, h1, h2]
  have h7 := gotT h6 h
  rw [h1, h7]
theorem own_sta_keep {Z : State} {h h' : Heap} {C n d : String} {v : Value} (F : Sta Z h C n d v) (K : Keep h h' []) : Sta Z h' C n d v := by
  obtain ⟨cf, i, k, f, st, cell, h1, h2, h3, h4, h5, r⟩ := F
  exact ⟨cf, i, k, f, st, cell, h1, h2, h3, h4, K.2.1 _ _ h5 nin0, r⟩
theorem own_sto {Z : State} {h : Heap} {a y : Addr} {k : ClassId} {ty : FieldType} {z : Int32} {vs : List Value} {dv : Value} {C : String} (A : Arv Z h a k ty z vs dv) (O : Ovr Z k C) (I : Ins Z h y C true) : Sto Z h a (.ref y) := by
  obtain ⟨c, A, q, -⟩ := A
  exact Sto.ofV A q O I
theorem own_mod18 (x : Int32) : (¬ (x &&& 2147483647) % 18 < 0 ∧ (x &&& 2147483647) % 18 < 18) ∧ ((x &&& 2147483647) % 18).toNatClampNeg < 18 := by
  have h0 : 0 ≤ (x &&& 2147483647).toInt := (c_andS x 2147483647).2.2 (by decide)
  have h1 := (c_irem (x &&& 2147483647) 18 18 rfl).1 h0
  have e0 : (0 : Int32).toInt = 0 := rfl
  have e18 : (18 : Int32).toInt = 18 := rfl
  refine ⟨⟨?_, ?_⟩, ?_⟩
  · rw [Int32.lt_iff_toInt_lt, h1, e0]; omega
  · rw [Int32.lt_iff_toInt_lt, h1, e18]; omega
  · rw [Int32.toNatClampNeg, h1]; omega
theorem own_i2s {x : Int32} (h1 : -32768 ≤ x.toInt) (h2 : x.toInt ≤ 32767) : x.toInt16.toInt32 = x := by
  have q := c_i2s x
  apply Int32.toInt_inj.mp
  omega
theorem own_sub0 {x y : Int32} (h1 : -1073741824 ≤ x.toInt ∧ x.toInt ≤ 1073741823) (h2 : -1073741824 ≤ y.toInt ∧ y.toInt ≤ 1073741823) : x - y < 0 ↔ x < y := by
  have q := c_isub x y
  have r := rng32 (x - y)
  have e0 : (0 : Int32).toInt = 0 := rfl
  rw [Int32.lt_iff_toInt_lt, Int32.lt_iff_toInt_lt, e0]
  omega
theorem own_lt18 {n : Nat} (h : n < 18) : n = 0 ∨ n = 1 ∨ n = 2 ∨ n = 3 ∨ n = 4 ∨ n = 5 ∨ n = 6 ∨ n = 7 ∨ n = 8 ∨ n = 9 ∨ n = 10 ∨ n = 11 ∨ n = 12 ∨ n = 13 ∨ n = 14 ∨ n = 15 ∨ n = 16 ∨ n = 17 := by omega
theorem own_rgv {ver : Int32} (g1 : -32768 ≤ ver.toInt) (g2 : ver.toInt ≤ 32767) : -1073741824 ≤ ver.toInt ∧ ver.toInt ≤ 1073741823 := by omega
theorem own_rgm {mn mx : Int32} (r1 : 0 ≤ mn.toInt) (r2 : mn.toInt ≤ mx.toInt) (r3 : mx.toInt ≤ 11) : -1073741824 ≤ mn.toInt ∧ mn.toInt ≤ 1073741823 := by omega
theorem own_rgx {mn mx : Int32} (r1 : 0 ≤ mn.toInt) (r2 : mn.toInt ≤ mx.toInt) (r3 : mx.toInt ≤ 11) : -1073741824 ≤ mx.toInt ∧ mx.toInt ≤ 1073741823 := by omega
theorem own_bd1 {mn mx : Int32} (r1 : 0 ≤ mn.toInt) (r2 : mn.toInt ≤ mx.toInt) (r3 : mx.toInt ≤ 11) : -32768 ≤ (mn - 1).toInt ∧ (mn - 1).toInt ≤ 32767 := by
  have h1 := c_isub mn 1
  have h2 := rng32 (mn - 1)
  rw [show (1 : Int32).toInt = 1 from rfl] at h1
  omega
theorem own_bd2 {mn mx : Int32} (r1 : 0 ≤ mn.toInt) (r2 : mn.toInt ≤ mx.toInt) (r3 : mx.toInt ≤ 11) : -32768 ≤ (mx + 1).toInt ∧ (mx + 1).toInt ≤ 32767 := by
  have h1 := c_iadd mx 1
  have h2 := rng32 (mx + 1)
  rw [show (1 : Int32).toInt = 1 from rfl] at h1
  omega
theorem own_bd3 {mn mx : Int32} (r1 : 0 ≤ mn.toInt) (r2 : mn.toInt ≤ mx.toInt) (r3 : mx.toInt ≤ 11) : (-32768 ≤ mn.toInt ∧ mn.toInt ≤ 32767) ∧ (-32768 ≤ mx.toInt ∧ mx.toInt ≤ 32767) := by omega
theorem own_bdv (v : Int32) : -32768 ≤ v.toInt16.toInt32.toInt ∧ v.toInt16.toInt32.toInt ≤ 32767 := ⟨(c_i2s v).2.1, by have := (c_i2s v).2.2; omega⟩
theorem own_wid {mn mx : Int32} (r1 : 0 ≤ mn.toInt) (r2 : mn.toInt ≤ mx.toInt) (r3 : mx.toInt ≤ 11) : (mx - mn + 1).toInt = mx.toInt - mn.toInt + 1 := by
  have q1 := c_isub mx mn
  have q2 := rng32 (mx - mn)
  have q3 := c_iadd (mx - mn) 1
  have q4 := rng32 (mx - mn + 1)
  have e1 : (1 : Int32).toInt = 1 := rfl
  rw [e1] at q3
  omega
theorem own_nz {mn mx : Int32} (r1 : 0 ≤ mn.toInt) (r2 : mn.toInt ≤ mx.toInt) (r3 : mx.toInt ≤ 11) : mx - mn + 1 ≠ 0 := fun q => by
  have := own_wid r1 r2 r3
  rw [q] at this
  have e0 : (0 : Int32).toInt = 0 := rfl
  omega
theorem own_m4 {mn mx : Int32} (r1 : 0 ≤ mn.toInt) (r2 : mn.toInt ≤ mx.toInt) (r3 : mx.toInt ≤ 11) (v : Int32) : -32768 ≤ (mn + (v &&& 2147483647) % (mx - mn + 1)).toInt ∧ (mn + (v &&& 2147483647) % (mx - mn + 1)).toInt ≤ 32767 := by
  have w := own_wid r1 r2 r3
  have h0 : 0 ≤ (v &&& 2147483647).toInt := (c_andS v 2147483647).2.2 (by decide)
  have h1 := (c_irem (v &&& 2147483647) (mx - mn + 1) _ rfl).1 h0
  have h2 := Int.emod_lt_of_pos (v &&& 2147483647).toInt (show 0 < (mx - mn + 1).toInt by omega)
  have h3 := Int.emod_nonneg (v &&& 2147483647).toInt (show (mx - mn + 1).toInt ≠ 0 by omega)
  have q3 := c_iadd mn ((v &&& 2147483647) % (mx - mn + 1))
  have q4 := rng32 (mn + (v &&& 2147483647) % (mx - mn + 1))
  omega
theorem own_d1_0 : decode prog_18_method_8_code 0 = .ok (.iload_n 1, 1) := by decide +kernel
theorem own_d1_1 : decode prog_18_method_8_code 1 = .ok (.aload_n 0, 1) := by decide +kernel
theorem own_d1_2 : decode prog_18_method_8_code 2 = .ok (.getfield 87, 3) := by decide +kernel
theorem own_d1_5 : decode prog_18_method_8_code 5 = .ok (.if_icmp .lt 15, 3) := by decide +kernel
theorem own_d1_20 : decode prog_18_method_8_code 20 = .ok (.iconst 0, 1) := by decide +kernel
theorem own_d1_21 : decode prog_18_method_8_code 21 = .ok (.ireturn, 1) := by decide +kernel
theorem own_d1_8 : decode prog_18_method_8_code 8 = .ok (.iload_n 1, 1) := by decide +kernel
theorem own_d1_9 : decode prog_18_method_8_code 9 = .ok (.aload_n 0, 1) := by decide +kernel
theorem own_d1_10 : decode prog_18_method_8_code 10 = .ok (.getfield 90, 3) := by decide +kernel
theorem own_d1_13 : decode prog_18_method_8_code 13 = .ok (.if_icmp .gt 7, 3) := by decide +kernel
theorem own_d1_16 : decode prog_18_method_8_code 16 = .ok (.iconst 1, 1) := by decide +kernel
theorem own_d1_17 : decode prog_18_method_8_code 17 = .ok (.goto 4, 3) := by decide +kernel
theorem own_pn_1 : plainName "com/example/exact_courier/exactcourier/protocol/ApiKey" = true := by first | (simp [plainName, overriddenIn]; done) | decide +kernel
theorem own_pd1 : parseMethodDescriptor "(S)Z" = some ⟨[.short], some .boolean⟩ := by decide +kernel
theorem own_pn_0 : plainName "com/example/exact_courier/exactcourier/protocol/ApiKeySupportsPinLaw" = true := by first | (simp [plainName, overriddenIn]; done) | decide +kernel
set_option maxRecDepth 65536 in
set_option maxHeartbeats 40000000 in
theorem own_rm1 (l : Launch) (Z : State) (a0 : Array Value) (hw : ∀ d ∈ tables_1, d.before a0 Z = true) (a : Addr) (v mn mx : Int32) (h0 : Heap) (n0 : Nat) (Z0 : n0 ≤ h0.size) (F1 : Fld Z h0 a "com/example/exact_courier/exactcourier/protocol/ApiKey" "minVersion" "S" (.int mn)) (F2 : Fld Z h0 a "com/example/exact_courier/exactcourier/protocol/ApiKey" "maxVersion" "S" (.int mx)) :
    OCon l Z n0 (⟨"com/example/exact_courier/exactcourier/protocol/ApiKey", "supports", "(S)Z"⟩ : MethodName) prog_18_method_8_code 2 (some .boolean) [] ({ frames := 0, cells := 0, slots := 0, locals := 0 } : Room) #[(.ref a), (.int v)] h0 (OV fun w h => w = .int (if v < mn then 0 else if mx < v then 0 else 1) ∧ h = h0) := by
  refine OCon.of (Ls := #[.val (.ref a), .val (.int v)]) (plainFor_of_name own_pn_1) (fun m => own_entry m rfl) ?_
  intro p e s m below meth c K
  refine OGo.iloadN K (pc' := 1) own_d1_0 rfl rfl ?_
  refine OGo.aloadN K (pc' := 2) own_d1_1 rfl rfl rfl ?_
  refine OGo.getF K (pc' := 5) (host := "") (Or.inl (hw _ (List.mem_of_getElem? (i := 47) rfl))) Via.refl F1 own_d1_2 rfl ?_
  refine OGo.icmpLt K (pc' := 8) (pcY := 20) own_d1_5 rfl (by decide) rfl (fun h1 => ?_) (fun h1 => ?_)
  · skip
    refine OGo.iconst K (pc' := 21) (z := 0) own_d1_20 rfl rfl ?_
    exact OGo.ret K own_d1_21 rfl (Or.inl ⟨rfl, by simp, _, rfl⟩) (by decide) (by decide) ⟨_, rfl, by rw [if_pos h1], rfl⟩
  · skip
    refine OGo.iloadN K (pc' := 9) own_d1_8 rfl rfl ?_
    refine OGo.aloadN K (pc' := 10) own_d1_9 rfl rfl rfl ?_
    refine OGo.getF K (pc' := 13) (host := "") (Or.inl (hw _ (List.mem_of_getElem? (i := 49) rfl))) Via.refl F2 own_d1_10 rfl ?_
    refine OGo.icmpGt K (pc' := 16) (pcY := 20) own_d1_13 rfl (by decide) rfl (fun h2 => ?_) (fun h2 => ?_)
    · skip
      refine OGo.iconst K (pc' := 21) (z := 0) own_d1_20 rfl rfl ?_
      exact OGo.ret K own_d1_21 rfl (Or.inl ⟨rfl, by simp, _, rfl⟩) (by decide) (by decide) ⟨_, rfl, by rw [if_neg h1, if_pos h2], rfl⟩
    · skip
      refine OGo.iconst K (pc' := 17) (z := 1) own_d1_16 rfl rfl ?_
      refine OGo.goto K (pc' := 21) own_d1_17 (by decide) rfl ?_
      exact OGo.ret K own_d1_21 rfl (Or.inl ⟨rfl, by simp, _, rfl⟩) (by decide) (by decide) ⟨_, rfl, by rw [if_neg h1, if_neg h2], rfl⟩
set_option maxRecDepth 65536 in
set_option maxHeartbeats 40000000 in
theorem own_rm0 (l : Launch) (Z : State) (a0 : Array Value) (hw : ∀ d ∈ tables_1, d.before a0 Z = true) (ws : List Jvm.Cond) (v0 v1 v2 : Int32) (x_PRODUCE x_FETCH x_LIST_OFFSETS x_METADATA x_OFFSET_COMMIT x_OFFSET_FETCH x_FIND_COORDINATOR x_JOIN_GROUP x_HEARTBEAT x_LEAVE_GROUP x_SYNC_GROUP x_API_VERSIONS x_CREATE_TOPICS x_INIT_PRODUCER_ID x_ADD_PARTITIONS_TO_TXN x_ADD_OFFSETS_TO_TXN x_END_TXN x_TXN_OFFSET_COMMIT : Addr) (h0 : Heap) (n0 : Nat) (Z0 : n0 ≤ h0.size) (S_PRODUCE : Sta Z h0 "com/example/exact_courier/exactcourier/protocol/ApiKey" "PRODUCE" "Lcom/example/exact_courier/exactcourier/protocol/ApiKey;" (.ref x_PRODUCE)) (E_PRODUCE : Exa Z h0 x_PRODUCE "com/example/exact_courier/exactcourier/protocol/ApiKey") (F_PRODUCE_minVersion : Fld Z h0 x_PRODUCE "com/example/exact_courier/exactcourier/protocol/ApiKey" "minVersion" "S" (.int 3)) (F_PRODUCE_maxVersion : Fld Z h0 x_PRODUCE "com/example/exact_courier/exactcourier/protocol/ApiKey" "maxVersion" "S" (.int 7)) (S_FETCH : Sta Z h0 "com/example/exact_courier/exactcourier/protocol/ApiKey" "FETCH" "Lcom/example/exact_courier/exactcourier/protocol/ApiKey;" (.ref x_FETCH)) (E_FETCH : Exa Z h0 x_FETCH "com/example/exact_courier/exactcourier/protocol/ApiKey") (F_FETCH_minVersion : Fld Z h0 x_FETCH "com/example/exact_courier/exactcourier/protocol/ApiKey" "minVersion" "S" (.int 4)) (F_FETCH_maxVersion : Fld Z h0 x_FETCH "com/example/exact_courier/exactcourier/protocol/ApiKey" "maxVersion" "S" (.int 11)) (S_LIST_OFFSETS : Sta Z h0 "com/example/exact_courier/exactcourier/protocol/ApiKey" "LIST_OFFSETS" "Lcom/example/exact_courier/exactcourier/protocol/ApiKey;" (.ref x_LIST_OFFSETS)) (E_LIST_OFFSETS : Exa Z h0 x_LIST_OFFSETS "com/example/exact_courier/exactcourier/protocol/ApiKey") (F_LIST_OFFSETS_minVersion : Fld Z h0 x_LIST_OFFSETS "com/example/exact_courier/exactcourier/protocol/ApiKey" "minVersion" "S" (.int 1)) (F_LIST_OFFSETS_maxVersion : Fld Z h0 x_LIST_OFFSETS "com/example/exact_courier/exactcourier/protocol/ApiKey" "maxVersion" "S" (.int 2)) (S_METADATA : Sta Z h0 "com/example/exact_courier/exactcourier/protocol/ApiKey" "METADATA" "Lcom/example/exact_courier/exactcourier/protocol/ApiKey;" (.ref x_METADATA)) (E_METADATA : Exa Z h0 x_METADATA "com/example/exact_courier/exactcourier/protocol/ApiKey") (F_METADATA_minVersion : Fld Z h0 x_METADATA "com/example/exact_courier/exactcourier/protocol/ApiKey" "minVersion" "S" (.int 0)) (F_METADATA_maxVersion : Fld Z h0 x_METADATA "com/example/exact_courier/exactcourier/protocol/ApiKey" "maxVersion" "S" (.int 4)) (S_OFFSET_COMMIT : Sta Z h0 "com/example/exact_courier/exactcourier/protocol/ApiKey" "OFFSET_COMMIT" "Lcom/example/exact_courier/exactcourier/protocol/ApiKey;" (.ref x_OFFSET_COMMIT)) (E_OFFSET_COMMIT : Exa Z h0 x_OFFSET_COMMIT "com/example/exact_courier/exactcourier/protocol/ApiKey") (F_OFFSET_COMMIT_minVersion : Fld Z h0 x_OFFSET_COMMIT "com/example/exact_courier/exactcourier/protocol/ApiKey" "minVersion" "S" (.int 2)) (F_OFFSET_COMMIT_maxVersion : Fld Z h0 x_OFFSET_COMMIT "com/example/exact_courier/exactcourier/protocol/ApiKey" "maxVersion" "S" (.int 7)) (S_OFFSET_FETCH : Sta Z h0 "com/example/exact_courier/exactcourier/protocol/ApiKey" "OFFSET_FETCH" "Lcom/example/exact_courier/exactcourier/protocol/ApiKey;" (.ref x_OFFSET_FETCH)) (E_OFFSET_FETCH : Exa Z h0 x_OFFSET_FETCH "com/example/exact_courier/exactcourier/protocol/ApiKey") (F_OFFSET_FETCH_minVersion : Fld Z h0 x_OFFSET_FETCH "com/example/exact_courier/exactcourier/protocol/ApiKey" "minVersion" "S" (.int 1)) (F_OFFSET_FETCH_maxVersion : Fld Z h0 x_OFFSET_FETCH "com/example/exact_courier/exactcourier/protocol/ApiKey" "maxVersion" "S" (.int 5)) (S_FIND_COORDINATOR : Sta Z h0 "com/example/exact_courier/exactcourier/protocol/ApiKey" "FIND_COORDINATOR" "Lcom/example/exact_courier/exactcourier/protocol/ApiKey;" (.ref x_FIND_COORDINATOR)) (E_FIND_COORDINATOR : Exa Z h0 x_FIND_COORDINATOR "com/example/exact_courier/exactcourier/protocol/ApiKey") (F_FIND_COORDINATOR_minVersion : Fld Z h0 x_FIND_COORDINATOR "com/example/exact_courier/exactcourier/protocol/ApiKey" "minVersion" "S" (.int 0)) (F_FIND_COORDINATOR_maxVersion : Fld Z h0 x_FIND_COORDINATOR "com/example/exact_courier/exactcourier/protocol/ApiKey" "maxVersion" "S" (.int 2)) (S_JOIN_GROUP : Sta Z h0 "com/example/exact_courier/exactcourier/protocol/ApiKey" "JOIN_GROUP" "Lcom/example/exact_courier/exactcourier/protocol/ApiKey;" (.ref x_JOIN_GROUP)) (E_JOIN_GROUP : Exa Z h0 x_JOIN_GROUP "com/example/exact_courier/exactcourier/protocol/ApiKey") (F_JOIN_GROUP_minVersion : Fld Z h0 x_JOIN_GROUP "com/example/exact_courier/exactcourier/protocol/ApiKey" "minVersion" "S" (.int 0)) (F_JOIN_GROUP_maxVersion : Fld Z h0 x_JOIN_GROUP "com/example/exact_courier/exactcourier/protocol/ApiKey" "maxVersion" "S" (.int 5)) (S_HEARTBEAT : Sta Z h0 "com/example/exact_courier/exactcourier/protocol/ApiKey" "HEARTBEAT" "Lcom/example/exact_courier/exactcourier/protocol/ApiKey;" (.ref x_HEARTBEAT)) (E_HEARTBEAT : Exa Z h0 x_HEARTBEAT "com/example/exact_courier/exactcourier/protocol/ApiKey") (F_HEARTBEAT_minVersion : Fld Z h0 x_HEARTBEAT "com/example/exact_courier/exactcourier/protocol/ApiKey" "minVersion" "S" (.int 0)) (F_HEARTBEAT_maxVersion : Fld Z h0 x_HEARTBEAT "com/example/exact_courier/exactcourier/protocol/ApiKey" "maxVersion" "S" (.int 3)) (S_LEAVE_GROUP : Sta Z h0 "com/example/exact_courier/exactcourier/protocol/ApiKey" "LEAVE_GROUP" "Lcom/example/exact_courier/exactcourier/protocol/ApiKey;" (.ref x_LEAVE_GROUP)) (E_LEAVE_GROUP : Exa Z h0 x_LEAVE_GROUP "com/example/exact_courier/exactcourier/protocol/ApiKey") (F_LEAVE_GROUP_minVersion : Fld Z h0 x_LEAVE_GROUP "com/example/exact_courier/exactcourier/protocol/ApiKey" "minVersion" "S" (.int 0)) (F_LEAVE_GROUP_maxVersion : Fld Z h0 x_LEAVE_GROUP "com/example/exact_courier/exactcourier/protocol/ApiKey" "maxVersion" "S" (.int 1)) (S_SYNC_GROUP : Sta Z h0 "com/example/exact_courier/exactcourier/protocol/ApiKey" "SYNC_GROUP" "Lcom/example/exact_courier/exactcourier/protocol/ApiKey;" (.ref x_SYNC_GROUP)) (E_SYNC_GROUP : Exa Z h0 x_SYNC_GROUP "com/example/exact_courier/exactcourier/protocol/ApiKey") (F_SYNC_GROUP_minVersion : Fld Z h0 x_SYNC_GROUP "com/example/exact_courier/exactcourier/protocol/ApiKey" "minVersion" "S" (.int 0)) (F_SYNC_GROUP_maxVersion : Fld Z h0 x_SYNC_GROUP "com/example/exact_courier/exactcourier/protocol/ApiKey" "maxVersion" "S" (.int 3)) (S_API_VERSIONS : Sta Z h0 "com/example/exact_courier/exactcourier/protocol/ApiKey" "API_VERSIONS" "Lcom/example/exact_courier/exactcourier/protocol/ApiKey;" (.ref x_API_VERSIONS)) (E_API_VERSIONS : Exa Z h0 x_API_VERSIONS "com/example/exact_courier/exactcourier/protocol/ApiKey") (F_API_VERSIONS_minVersion : Fld Z h0 x_API_VERSIONS "com/example/exact_courier/exactcourier/protocol/ApiKey" "minVersion" "S" (.int 0)) (F_API_VERSIONS_maxVersion : Fld Z h0 x_API_VERSIONS "com/example/exact_courier/exactcourier/protocol/ApiKey" "maxVersion" "S" (.int 3)) (S_CREATE_TOPICS : Sta Z h0 "com/example/exact_courier/exactcourier/protocol/ApiKey" "CREATE_TOPICS" "Lcom/example/exact_courier/exactcourier/protocol/ApiKey;" (.ref x_CREATE_TOPICS)) (E_CREATE_TOPICS : Exa Z h0 x_CREATE_TOPICS "com/example/exact_courier/exactcourier/protocol/ApiKey") (F_CREATE_TOPICS_minVersion : Fld Z h0 x_CREATE_TOPICS "com/example/exact_courier/exactcourier/protocol/ApiKey" "minVersion" "S" (.int 0)) (F_CREATE_TOPICS_maxVersion : Fld Z h0 x_CREATE_TOPICS "com/example/exact_courier/exactcourier/protocol/ApiKey" "maxVersion" "S" (.int 4)) (S_INIT_PRODUCER_ID : Sta Z h0 "com/example/exact_courier/exactcourier/protocol/ApiKey" "INIT_PRODUCER_ID" "Lcom/example/exact_courier/exactcourier/protocol/ApiKey;" (.ref x_INIT_PRODUCER_ID)) (E_INIT_PRODUCER_ID : Exa Z h0 x_INIT_PRODUCER_ID "com/example/exact_courier/exactcourier/protocol/ApiKey") (F_INIT_PRODUCER_ID_minVersion : Fld Z h0 x_INIT_PRODUCER_ID "com/example/exact_courier/exactcourier/protocol/ApiKey" "minVersion" "S" (.int 0)) (F_INIT_PRODUCER_ID_maxVersion : Fld Z h0 x_INIT_PRODUCER_ID "com/example/exact_courier/exactcourier/protocol/ApiKey" "maxVersion" "S" (.int 3)) (S_ADD_PARTITIONS_TO_TXN : Sta Z h0 "com/example/exact_courier/exactcourier/protocol/ApiKey" "ADD_PARTITIONS_TO_TXN" "Lcom/example/exact_courier/exactcourier/protocol/ApiKey;" (.ref x_ADD_PARTITIONS_TO_TXN)) (E_ADD_PARTITIONS_TO_TXN : Exa Z h0 x_ADD_PARTITIONS_TO_TXN "com/example/exact_courier/exactcourier/protocol/ApiKey") (F_ADD_PARTITIONS_TO_TXN_minVersion : Fld Z h0 x_ADD_PARTITIONS_TO_TXN "com/example/exact_courier/exactcourier/protocol/ApiKey" "minVersion" "S" (.int 0)) (F_ADD_PARTITIONS_TO_TXN_maxVersion : Fld Z h0 x_ADD_PARTITIONS_TO_TXN "com/example/exact_courier/exactcourier/protocol/ApiKey" "maxVersion" "S" (.int 2)) (S_ADD_OFFSETS_TO_TXN : Sta Z h0 "com/example/exact_courier/exactcourier/protocol/ApiKey" "ADD_OFFSETS_TO_TXN" "Lcom/example/exact_courier/exactcourier/protocol/ApiKey;" (.ref x_ADD_OFFSETS_TO_TXN)) (E_ADD_OFFSETS_TO_TXN : Exa Z h0 x_ADD_OFFSETS_TO_TXN "com/example/exact_courier/exactcourier/protocol/ApiKey") (F_ADD_OFFSETS_TO_TXN_minVersion : Fld Z h0 x_ADD_OFFSETS_TO_TXN "com/example/exact_courier/exactcourier/protocol/ApiKey" "minVersion" "S" (.int 0)) (F_ADD_OFFSETS_TO_TXN_maxVersion : Fld Z h0 x_ADD_OFFSETS_TO_TXN "com/example/exact_courier/exactcourier/protocol/ApiKey" "maxVersion" "S" (.int 2)) (S_END_TXN : Sta Z h0 "com/example/exact_courier/exactcourier/protocol/ApiKey" "END_TXN" "Lcom/example/exact_courier/exactcourier/protocol/ApiKey;" (.ref x_END_TXN)) (E_END_TXN : Exa Z h0 x_END_TXN "com/example/exact_courier/exactcourier/protocol/ApiKey") (F_END_TXN_minVersion : Fld Z h0 x_END_TXN "com/example/exact_courier/exactcourier/protocol/ApiKey" "minVersion" "S" (.int 0)) (F_END_TXN_maxVersion : Fld Z h0 x_END_TXN "com/example/exact_courier/exactcourier/protocol/ApiKey" "maxVersion" "S" (.int 2)) (S_TXN_OFFSET_COMMIT : Sta Z h0 "com/example/exact_courier/exactcourier/protocol/ApiKey" "TXN_OFFSET_COMMIT" "Lcom/example/exact_courier/exactcourier/protocol/ApiKey;" (.ref x_TXN_OFFSET_COMMIT)) (E_TXN_OFFSET_COMMIT : Exa Z h0 x_TXN_OFFSET_COMMIT "com/example/exact_courier/exactcourier/protocol/ApiKey") (F_TXN_OFFSET_COMMIT_minVersion : Fld Z h0 x_TXN_OFFSET_COMMIT "com/example/exact_courier/exactcourier/protocol/ApiKey" "minVersion" "S" (.int 0)) (F_TXN_OFFSET_COMMIT_maxVersion : Fld Z h0 x_TXN_OFFSET_COMMIT "com/example/exact_courier/exactcourier/protocol/ApiKey" "maxVersion" "S" (.int 2)) :
    OCon l Z n0 x code maxLocals ret ws room_1 #[(.int v0), (.int v1), (.int v2)] h0 (OV fun w h => w = .int 1) := by
  refine OCon.of (Ls := #[.val (.int v0), .val (.int v1), .val (.int v2), .unset, .unset, .unset, .unset, .unset, .unset, .unset, .unset, .unset, .unset]) (plainFor_of_name own_pn_0) (fun m => own_entry m rfl) ?_
  intro p e s m below meth c K
  refine OGo.bipush K (pc' := 2) (z := 18) at_0 rfl rfl ?_
  refine OGo.newR K (pc' := 5) (cap := 18) (cells' := 1) (slots' := 18) (hw _ (List.mem_of_getElem? (i := 0) rfl)) (hw _ (List.mem_of_getElem? (i := 1) rfl)) at_2 rfl (by decide) (by decide) (by decide) rfl rfl (by decide) (by decide) ?_
  intro h1 b1 k_b1 gq1 E1 V_b1 O_b1
  have g_b1 : n0 ≤ b1 := Nat.le_trans Z0 (Nat.le_of_eq gq1.symm)
  have sz_b1 : h0.size ≤ b1 := Nat.le_trans (Keep.refl h0 []).1 (Nat.le_of_eq gq1.symm)
  have Z1 : n0 ≤ h1.size := Nat.le_trans Z0 E1.1
  have Kp1 : Keep h0 h1 [] := (Keep.refl h0 []).ext E1
  replace V_b1 : Arv Z h1 b1 _ (.object "com/example/exact_courier/exactcourier/protocol/ApiKey") (18 : Int32) [.null, .null, .null, .null, .null, .null, .null, .null, .null, .null, .null, .null, .null, .null, .null, .null, .null, .null] .null := V_b1.pad (pad_rep [] _ 18)
  refine OGo.dup K (pc' := 6) at_5 rfl rfl ?_
  refine OGo.iconst K (pc' := 7) (z := 0) at_6 rfl rfl ?_
  refine OGo.getS K (pc' := 10) (host := "") (Or.inl (hw _ (List.mem_of_getElem? (i := 2) rfl))) Via.refl (own_sta_keep S_PRODUCE Kp1) at_7 rfl ?_
  refine OGo.aastore K (pc' := 11) (i := 0) V_b1 rfl rfl (own_sto V_b1 O_b1 (Ins.self (E_PRODUCE.keep Kp1))) (by decide) rfl (Nat.le_of_ble_eq_true rfl) g_b1 at_10 rfl ?_
  intro h2 W2 V_b1_2
  have Z2 : n0 ≤ h2.size := by rw [W2.size]; exact Z1
  replace V_b1_2 : Arv Z h2 b1 _ (.object "com/example/exact_courier/exactcourier/protocol/ApiKey") (18 : Int32) [(.ref x_PRODUCE), .null, .null, .null, .null, .null, .null, .null, .null, .null, .null, .null, .null, .null, .null, .null, .null, .null] .null := V_b1_2
  have Kp2 : Keep h0 h2 [] := Kp1.wr W2 (Or.inr sz_b1)
  refine OGo.dup K (pc' := 12) at_11 rfl rfl ?_
  refine OGo.iconst K (pc' := 13) (z := 1) at_12 rfl rfl ?_
  refine OGo.getS K (pc' := 16) (host := "") (Or.inl (hw _ (List.mem_of_getElem? (i := 6) rfl))) Via.refl (own_sta_keep S_FETCH Kp2) at_13 rfl ?_
  refine OGo.aastore K (pc' := 17) (i := 1) V_b1_2 rfl rfl (own_sto V_b1_2 O_b1 (Ins.self (E_FETCH.keep Kp2))) (by decide) rfl (Nat.le_of_ble_eq_true rfl) g_b1 at_16 rfl ?_
  intro h3 W3 V_b1_3
  have Z3 : n0 ≤ h3.size := by rw [W3.size]; exact Z2
  replace V_b1_3 : Arv Z h3 b1 _ (.object "com/example/exact_courier/exactcourier/protocol/ApiKey") (18 : Int32) [(.ref x_PRODUCE), (.ref x_FETCH), .null, .null, .null, .null, .null, .null, .null, .null, .null, .null, .null, .null, .null, .null, .null, .null] .null := V_b1_3
  have Kp3 : Keep h0 h3 [] := Kp2.wr W3 (Or.inr sz_b1)
  refine OGo.dup K (pc' := 18) at_17 rfl rfl ?_
  refine OGo.iconst K (pc' := 19) (z := 2) at_18 rfl rfl ?_
  refine OGo.getS K (pc' := 22) (host := "") (Or.inl (hw _ (List.mem_of_getElem? (i := 8) rfl))) Via.refl (own_sta_keep S_LIST_OFFSETS Kp3) at_19 rfl ?_
  refine OGo.aastore K (pc' := 23) (i := 2) V_b1_3 rfl rfl (own_sto V_b1_3 O_b1 (Ins.self (E_LIST_OFFSETS.keep Kp3))) (by decide) rfl (Nat.le_of_ble_eq_true rfl) g_b1 at_22 rfl ?_
  intro h4 W4 V_b1_4
  have Z4 : n0 ≤ h4.size := by rw [W4.size]; exact Z3
  replace V_b1_4 : Arv Z h4 b1 _ (.object "com/example/exact_courier/exactcourier/protocol/ApiKey") (18 : Int32) [(.ref x_PRODUCE), (.ref x_FETCH), (.ref x_LIST_OFFSETS), .null, .null, .null, .null, .null, .null, .null, .null, .null, .null, .null, .null, .null, .null, .null] .null := V_b1_4
  have Kp4 : Keep h0 h4 [] := Kp3.wr W4 (Or.inr sz_b1)
  refine OGo.dup K (pc' := 24) at_23 rfl rfl ?_
  refine OGo.iconst K (pc' := 25) (z := 3) at_24 rfl rfl ?_
  refine OGo.getS K (pc' := 28) (host := "") (Or.inl (hw _ (List.mem_of_getElem? (i := 10) rfl))) Via.refl (own_sta_keep S_METADATA Kp4) at_25 rfl ?_
  refine OGo.aastore K (pc' := 29) (i := 3) V_b1_4 rfl rfl (own_sto V_b1_4 O_b1 (Ins.self (E_METADATA.keep Kp4))) (by decide) rfl (Nat.le_of_ble_eq_true rfl) g_b1 at_28 rfl ?_
  intro h5 W5 V_b1_5
  have Z5 : n0 ≤ h5.size := by rw [W5.size]; exact Z4
  replace V_b1_5 : Arv Z h5 b1 _ (.object "com/example/exact_courier/exactcourier/protocol/ApiKey") (18 : Int32) [(.ref x_PRODUCE), (.ref x_FETCH), (.ref x_LIST_OFFSETS), (.ref x_METADATA), .null, .null, .null, .null, .null, .null, .null, .null, .null, .null, .null, .null, .null, .null] .null := V_b1_5
  have Kp5 : Keep h0 h5 [] := Kp4.wr W5 (Or.inr sz_b1)
  refine OGo.dup K (pc' := 30) at_29 rfl rfl ?_
  refine OGo.iconst K (pc' := 31) (z := 4) at_30 rfl rfl ?_
  refine OGo.getS K (pc' := 34) (host := "") (Or.inl (hw _ (List.mem_of_getElem? (i := 12) rfl))) Via.refl (own_sta_keep S_OFFSET_COMMIT Kp5) at_31 rfl ?_
  refine OGo.aastore K (pc' := 35) (i := 4) V_b1_5 rfl rfl (own_sto V_b1_5 O_b1 (Ins.self (E_OFFSET_COMMIT.keep Kp5))) (by decide) rfl (Nat.le_of_ble_eq_true rfl) g_b1 at_34 rfl ?_
  intro h6 W6 V_b1_6
  have Z6 : n0 ≤ h6.size := by rw [W6.size]; exact Z5
  replace V_b1_6 : Arv Z h6 b1 _ (.object "com/example/exact_courier/exactcourier/protocol/ApiKey") (18 : Int32) [(.ref x_PRODUCE), (.ref x_FETCH), (.ref x_LIST_OFFSETS), (.ref x_METADATA), (.ref x_OFFSET_COMMIT), .null, .null, .null, .null, .null, .null, .null, .null, .null, .null, .null, .null, .null] .null := V_b1_6
  have Kp6 : Keep h0 h6 [] := Kp5.wr W6 (Or.inr sz_b1)
  refine OGo.dup K (pc' := 36) at_35 rfl rfl ?_
  refine OGo.iconst K (pc' := 37) (z := 5) at_36 rfl rfl ?_
  refine OGo.getS K (pc' := 40) (host := "") (Or.inl (hw _ (List.mem_of_getElem? (i := 14) rfl))) Via.refl (own_sta_keep S_OFFSET_FETCH Kp6) at_37 rfl ?_
  refine OGo.aastore K (pc' := 41) (i := 5) V_b1_6 rfl rfl (own_sto V_b1_6 O_b1 (Ins.self (E_OFFSET_FETCH.keep Kp6))) (by decide) rfl (Nat.le_of_ble_eq_true rfl) g_b1 at_40 rfl ?_
  intro h7 W7 V_b1_7
  have Z7 : n0 ≤ h7.size := by rw [W7.size]; exact Z6
  replace V_b1_7 : Arv Z h7 b1 _ (.object "com/example/exact_courier/exactcourier/protocol/ApiKey") (18 : Int32) [(.ref x_PRODUCE), (.ref x_FETCH), (.ref x_LIST_OFFSETS), (.ref x_METADATA), (.ref x_OFFSET_COMMIT), (.ref x_OFFSET_FETCH), .null, .null, .null, .null, .null, .null, .null, .null, .null, .null, .null, .null] .null := V_b1_7
  have Kp7 : Keep h0 h7 [] := Kp6.wr W7 (Or.inr sz_b1)
  refine OGo.dup K (pc' := 42) at_41 rfl rfl ?_
  refine OGo.bipush K (pc' := 44) (z := 6) at_42 rfl rfl ?_
  refine OGo.getS K (pc' := 47) (host := "") (Or.inl (hw _ (List.mem_of_getElem? (i := 16) rfl))) Via.refl (own_sta_keep S_FIND_COORDINATOR Kp7) at_44 rfl ?_
  refine OGo.aastore K (pc' := 48) (i := 6) V_b1_7 rfl rfl (own_sto V_b1_7 O_b1 (Ins.self (E_FIND_COORDINATOR.keep Kp7))) (by decide) rfl (Nat.le_of_ble_eq_true rfl) g_b1 at_47 rfl ?_
  intro h8 W8 V_b1_8
  have Z8 : n0 ≤ h8.size := by rw [W8.size]; exact Z7
  replace V_b1_8 : Arv Z h8 b1 _ (.object "com/example/exact_courier/exactcourier/protocol/ApiKey") (18 : Int32) [(.ref x_PRODUCE), (.ref x_FETCH), (.ref x_LIST_OFFSETS), (.ref x_METADATA), (.ref x_OFFSET_COMMIT), (.ref x_OFFSET_FETCH), (.ref x_FIND_COORDINATOR), .null, .null, .null, .null, .null, .null, .null, .null, .null, .null, .null] .null := V_b1_8
  have Kp8 : Keep h0 h8 [] := Kp7.wr W8 (Or.inr sz_b1)
  refine OGo.dup K (pc' := 49) at_48 rfl rfl ?_
  refine OGo.bipush K (pc' := 51) (z := 7) at_49 rfl rfl ?_
  refine OGo.getS K (pc' := 54) (host := "") (Or.inl (hw _ (List.mem_of_getElem? (i := 18) rfl))) Via.refl (own_sta_keep S_JOIN_GROUP Kp8) at_51 rfl ?_
  refine OGo.aastore K (pc' := 55) (i := 7) V_b1_8 rfl rfl (own_sto V_b1_8 O_b1 (Ins.self (E_JOIN_GROUP.keep Kp8))) (by decide) rfl (Nat.le_of_ble_eq_true rfl) g_b1 at_54 rfl ?_
  intro h9 W9 V_b1_9
  have Z9 : n0 ≤ h9.size := by rw [W9.size]; exact Z8
  replace V_b1_9 : Arv Z h9 b1 _ (.object "com/example/exact_courier/exactcourier/protocol/ApiKey") (18 : Int32) [(.ref x_PRODUCE), (.ref x_FETCH), (.ref x_LIST_OFFSETS), (.ref x_METADATA), (.ref x_OFFSET_COMMIT), (.ref x_OFFSET_FETCH), (.ref x_FIND_COORDINATOR), (.ref x_JOIN_GROUP), .null, .null, .null, .null, .null, .null, .null, .null, .null, .null] .null := V_b1_9
  have Kp9 : Keep h0 h9 [] := Kp8.wr W9 (Or.inr sz_b1)
  refine OGo.dup K (pc' := 56) at_55 rfl rfl ?_
  refine OGo.bipush K (pc' := 58) (z := 8) at_56 rfl rfl ?_
  refine OGo.getS K (pc' := 61) (host := "") (Or.inl (hw _ (List.mem_of_getElem? (i := 20) rfl))) Via.refl (own_sta_keep S_HEARTBEAT Kp9) at_58 rfl ?_
  refine OGo.aastore K (pc' := 62) (i := 8) V_b1_9 rfl rfl (own_sto V_b1_9 O_b1 (Ins.self (E_HEARTBEAT.keep Kp9))) (by decide) rfl (Nat.le_of_ble_eq_true rfl) g_b1 at_61 rfl ?_
  intro h10 W10 V_b1_10
  have Z10 : n0 ≤ h10.size := by rw [W10.size]; exact Z9
  replace V_b1_10 : Arv Z h10 b1 _ (.object "com/example/exact_courier/exactcourier/protocol/ApiKey") (18 : Int32) [(.ref x_PRODUCE), (.ref x_FETCH), (.ref x_LIST_OFFSETS), (.ref x_METADATA), (.ref x_OFFSET_COMMIT), (.ref x_OFFSET_FETCH), (.ref x_FIND_COORDINATOR), (.ref x_JOIN_GROUP), (.ref x_HEARTBEAT), .null, .null, .null, .null, .null, .null, .null, .null, .null] .null := V_b1_10
  have Kp10 : Keep h0 h10 [] := Kp9.wr W10 (Or.inr sz_b1)
  refine OGo.dup K (pc' := 63) at_62 rfl rfl ?_
  refine OGo.bipush K (pc' := 65) (z := 9) at_63 rfl rfl ?_
  refine OGo.getS K (pc' := 68) (host := "") (Or.inl (hw _ (List.mem_of_getElem? (i := 22) rfl))) Via.refl (own_sta_keep S_LEAVE_GROUP Kp10) at_65 rfl ?_
  refine OGo.aastore K (pc' := 69) (i := 9) V_b1_10 rfl rfl (own_sto V_b1_10 O_b1 (Ins.self (E_LEAVE_GROUP.keep Kp10))) (by decide) rfl (Nat.le_of_ble_eq_true rfl) g_b1 at_68 rfl ?_
  intro h11 W11 V_b1_11
  have Z11 : n0 ≤ h11.size := by rw [W11.size]; exact Z10
  replace V_b1_11 : Arv Z h11 b1 _ (.object "com/example/exact_courier/exactcourier/protocol/ApiKey") (18 : Int32) [(.ref x_PRODUCE), (.ref x_FETCH), (.ref x_LIST_OFFSETS), (.ref x_METADATA), (.ref x_OFFSET_COMMIT), (.ref x_OFFSET_FETCH), (.ref x_FIND_COORDINATOR), (.ref x_JOIN_GROUP), (.ref x_HEARTBEAT), (.ref x_LEAVE_GROUP), .null, .null, .null, .null, .null, .null, .null, .null] .null := V_b1_11
  have Kp11 : Keep h0 h11 [] := Kp10.wr W11 (Or.inr sz_b1)
  refine OGo.dup K (pc' := 70) at_69 rfl rfl ?_
  refine OGo.bipush K (pc' := 72) (z := 10) at_70 rfl rfl ?_
  refine OGo.getS K (pc' := 75) (host := "") (Or.inl (hw _ (List.mem_of_getElem? (i := 24) rfl))) Via.refl (own_sta_keep S_SYNC_GROUP Kp11) at_72 rfl ?_
  refine OGo.aastore K (pc' := 76) (i := 10) V_b1_11 rfl rfl (own_sto V_b1_11 O_b1 (Ins.self (E_SYNC_GROUP.keep Kp11))) (by decide) rfl (Nat.le_of_ble_eq_true rfl) g_b1 at_75 rfl ?_
  intro h12 W12 V_b1_12
  have Z12 : n0 ≤ h12.size := by rw [W12.size]; exact Z11
  replace V_b1_12 : Arv Z h12 b1 _ (.object "com/example/exact_courier/exactcourier/protocol/ApiKey") (18 : Int32) [(.ref x_PRODUCE), (.ref x_FETCH), (.ref x_LIST_OFFSETS), (.ref x_METADATA), (.ref x_OFFSET_COMMIT), (.ref x_OFFSET_FETCH), (.ref x_FIND_COORDINATOR), (.ref x_JOIN_GROUP), (.ref x_HEARTBEAT), (.ref x_LEAVE_GROUP), (.ref x_SYNC_GROUP), .null, .null, .null, .null, .null, .null, .null] .null := V_b1_12
  have Kp12 : Keep h0 h12 [] := Kp11.wr W12 (Or.inr sz_b1)
  refine OGo.dup K (pc' := 77) at_76 rfl rfl ?_
  refine OGo.bipush K (pc' := 79) (z := 11) at_77 rfl rfl ?_
  refine OGo.getS K (pc' := 82) (host := "") (Or.inl (hw _ (List.mem_of_getElem? (i := 26) rfl))) Via.refl (own_sta_keep S_API_VERSIONS Kp12) at_79 rfl ?_
  refine OGo.aastore K (pc' := 83) (i := 11) V_b1_12 rfl rfl (own_sto V_b1_12 O_b1 (Ins.self (E_API_VERSIONS.keep Kp12))) (by decide) rfl (Nat.le_of_ble_eq_true rfl) g_b1 at_82 rfl ?_
  intro h13 W13 V_b1_13
  have Z13 : n0 ≤ h13.size := by rw [W13.size]; exact Z12
  replace V_b1_13 : Arv Z h13 b1 _ (.object "com/example/exact_courier/exactcourier/protocol/ApiKey") (18 : Int32) [(.ref x_PRODUCE), (.ref x_FETCH), (.ref x_LIST_OFFSETS), (.ref x_METADATA), (.ref x_OFFSET_COMMIT), (.ref x_OFFSET_FETCH), (.ref x_FIND_COORDINATOR), (.ref x_JOIN_GROUP), (.ref x_HEARTBEAT), (.ref x_LEAVE_GROUP), (.ref x_SYNC_GROUP), (.ref x_API_VERSIONS), .null, .null, .null, .null, .null, .null] .null := V_b1_13
  have Kp13 : Keep h0 h13 [] := Kp12.wr W13 (Or.inr sz_b1)
  refine OGo.dup K (pc' := 84) at_83 rfl rfl ?_
  refine OGo.bipush K (pc' := 86) (z := 12) at_84 rfl rfl ?_
  refine OGo.getS K (pc' := 89) (host := "") (Or.inl (hw _ (List.mem_of_getElem? (i := 28) rfl))) Via.refl (own_sta_keep S_CREATE_TOPICS Kp13) at_86 rfl ?_
  refine OGo.aastore K (pc' := 90) (i := 12) V_b1_13 rfl rfl (own_sto V_b1_13 O_b1 (Ins.self (E_CREATE_TOPICS.keep Kp13))) (by decide) rfl (Nat.le_of_ble_eq_true rfl) g_b1 at_89 rfl ?_
  intro h14 W14 V_b1_14
  have Z14 : n0 ≤ h14.size := by rw [W14.size]; exact Z13
  replace V_b1_14 : Arv Z h14 b1 _ (.object "com/example/exact_courier/exactcourier/protocol/ApiKey") (18 : Int32) [(.ref x_PRODUCE), (.ref x_FETCH), (.ref x_LIST_OFFSETS), (.ref x_METADATA), (.ref x_OFFSET_COMMIT), (.ref x_OFFSET_FETCH), (.ref x_FIND_COORDINATOR), (.ref x_JOIN_GROUP), (.ref x_HEARTBEAT), (.ref x_LEAVE_GROUP), (.ref x_SYNC_GROUP), (.ref x_API_VERSIONS), (.ref x_CREATE_TOPICS), .null, .null, .null, .null, .null] .null := V_b1_14
  have Kp14 : Keep h0 h14 [] := Kp13.wr W14 (Or.inr sz_b1)
  refine OGo.dup K (pc' := 91) at_90 rfl rfl ?_
  refine OGo.bipush K (pc' := 93) (z := 13) at_91 rfl rfl ?_
  refine OGo.getS K (pc' := 96) (host := "") (Or.inl (hw _ (List.mem_of_getElem? (i := 30) rfl))) Via.refl (own_sta_keep S_INIT_PRODUCER_ID Kp14) at_93 rfl ?_
  refine OGo.aastore K (pc' := 97) (i := 13) V_b1_14 rfl rfl (own_sto V_b1_14 O_b1 (Ins.self (E_INIT_PRODUCER_ID.keep Kp14))) (by decide) rfl (Nat.le_of_ble_eq_true rfl) g_b1 at_96 rfl ?_
  intro h15 W15 V_b1_15
  have Z15 : n0 ≤ h15.size := by rw [W15.size]; exact Z14
  replace V_b1_15 : Arv Z h15 b1 _ (.object "com/example/exact_courier/exactcourier/protocol/ApiKey") (18 : Int32) [(.ref x_PRODUCE), (.ref x_FETCH), (.ref x_LIST_OFFSETS), (.ref x_METADATA), (.ref x_OFFSET_COMMIT), (.ref x_OFFSET_FETCH), (.ref x_FIND_COORDINATOR), (.ref x_JOIN_GROUP), (.ref x_HEARTBEAT), (.ref x_LEAVE_GROUP), (.ref x_SYNC_GROUP), (.ref x_API_VERSIONS), (.ref x_CREATE_TOPICS), (.ref x_INIT_PRODUCER_ID), .null, .null, .null, .null] .null := V_b1_15
  have Kp15 : Keep h0 h15 [] := Kp14.wr W15 (Or.inr sz_b1)
  refine OGo.dup K (pc' := 98) at_97 rfl rfl ?_
  refine OGo.bipush K (pc' := 100) (z := 14) at_98 rfl rfl ?_
  refine OGo.getS K (pc' := 103) (host := "") (Or.inl (hw _ (List.mem_of_getElem? (i := 32) rfl))) Via.refl (own_sta_keep S_ADD_PARTITIONS_TO_TXN Kp15) at_100 rfl ?_
  refine OGo.aastore K (pc' := 104) (i := 14) V_b1_15 rfl rfl (own_sto V_b1_15 O_b1 (Ins.self (E_ADD_PARTITIONS_TO_TXN.keep Kp15))) (by decide) rfl (Nat.le_of_ble_eq_true rfl) g_b1 at_103 rfl ?_
  intro h16 W16 V_b1_16
  have Z16 : n0 ≤ h16.size := by rw [W16.size]; exact Z15
  replace V_b1_16 : Arv Z h16 b1 _ (.object "com/example/exact_courier/exactcourier/protocol/ApiKey") (18 : Int32) [(.ref x_PRODUCE), (.ref x_FETCH), (.ref x_LIST_OFFSETS), (.ref x_METADATA), (.ref x_OFFSET_COMMIT), (.ref x_OFFSET_FETCH), (.ref x_FIND_COORDINATOR), (.ref x_JOIN_GROUP), (.ref x_HEARTBEAT), (.ref x_LEAVE_GROUP), (.ref x_SYNC_GROUP), (.ref x_API_VERSIONS), (.ref x_CREATE_TOPICS), (.ref x_INIT_PRODUCER_ID), (.ref x_ADD_PARTITIONS_TO_TXN), .null, .null, .null] .null := V_b1_16
  have Kp16 : Keep h0 h16 [] := Kp15.wr W16 (Or.inr sz_b1)
  refine OGo.dup K (pc' := 105) at_104 rfl rfl ?_
  refine OGo.bipush K (pc' := 107) (z := 15) at_105 rfl rfl ?_
  refine OGo.getS K (pc' := 110) (host := "") (Or.inl (hw _ (List.mem_of_getElem? (i := 34) rfl))) Via.refl (own_sta_keep S_ADD_OFFSETS_TO_TXN Kp16) at_107 rfl ?_
  refine OGo.aastore K (pc' := 111) (i := 15) V_b1_16 rfl rfl (own_sto V_b1_16 O_b1 (Ins.self (E_ADD_OFFSETS_TO_TXN.keep Kp16))) (by decide) rfl (Nat.le_of_ble_eq_true rfl) g_b1 at_110 rfl ?_
  intro h17 W17 V_b1_17
  have Z17 : n0 ≤ h17.size := by rw [W17.size]; exact Z16
  replace V_b1_17 : Arv Z h17 b1 _ (.object "com/example/exact_courier/exactcourier/protocol/ApiKey") (18 : Int32) [(.ref x_PRODUCE), (.ref x_FETCH), (.ref x_LIST_OFFSETS), (.ref x_METADATA), (.ref x_OFFSET_COMMIT), (.ref x_OFFSET_FETCH), (.ref x_FIND_COORDINATOR), (.ref x_JOIN_GROUP), (.ref x_HEARTBEAT), (.ref x_LEAVE_GROUP), (.ref x_SYNC_GROUP), (.ref x_API_VERSIONS), (.ref x_CREATE_TOPICS), (.ref x_INIT_PRODUCER_ID), (.ref x_ADD_PARTITIONS_TO_TXN), (.ref x_ADD_OFFSETS_TO_TXN), .null, .null] .null := V_b1_17
  have Kp17 : Keep h0 h17 [] := Kp16.wr W17 (Or.inr sz_b1)
  refine OGo.dup K (pc' := 112) at_111 rfl rfl ?_
  refine OGo.bipush K (pc' := 114) (z := 16) at_112 rfl rfl ?_
  refine OGo.getS K (pc' := 117) (host := "") (Or.inl (hw _ (List.mem_of_getElem? (i := 36) rfl))) Via.refl (own_sta_keep S_END_TXN Kp17) at_114 rfl ?_
  refine OGo.aastore K (pc' := 118) (i := 16) V_b1_17 rfl rfl (own_sto V_b1_17 O_b1 (Ins.self (E_END_TXN.keep Kp17))) (by decide) rfl (Nat.le_of_ble_eq_true rfl) g_b1 at_117 rfl ?_
  intro h18 W18 V_b1_18
  have Z18 : n0 ≤ h18.size := by rw [W18.size]; exact Z17
  replace V_b1_18 : Arv Z h18 b1 _ (.object "com/example/exact_courier/exactcourier/protocol/ApiKey") (18 : Int32) [(.ref x_PRODUCE), (.ref x_FETCH), (.ref x_LIST_OFFSETS), (.ref x_METADATA), (.ref x_OFFSET_COMMIT), (.ref x_OFFSET_FETCH), (.ref x_FIND_COORDINATOR), (.ref x_JOIN_GROUP), (.ref x_HEARTBEAT), (.ref x_LEAVE_GROUP), (.ref x_SYNC_GROUP), (.ref x_API_VERSIONS), (.ref x_CREATE_TOPICS), (.ref x_INIT_PRODUCER_ID), (.ref x_ADD_PARTITIONS_TO_TXN), (.ref x_ADD_OFFSETS_TO_TXN), (.ref x_END_TXN), .null] .null := V_b1_18
  have Kp18 : Keep h0 h18 [] := Kp17.wr W18 (Or.inr sz_b1)
  refine OGo.dup K (pc' := 119) at_118 rfl rfl ?_
  refine OGo.bipush K (pc' := 121) (z := 17) at_119 rfl rfl ?_
  refine OGo.getS K (pc' := 124) (host := "") (Or.inl (hw _ (List.mem_of_getElem? (i := 38) rfl))) Via.refl (own_sta_keep S_TXN_OFFSET_COMMIT Kp18) at_121 rfl ?_
  refine OGo.aastore K (pc' := 125) (i := 17) V_b1_18 rfl rfl (own_sto V_b1_18 O_b1 (Ins.self (E_TXN_OFFSET_COMMIT.keep Kp18))) (by decide) rfl (Nat.le_of_ble_eq_true rfl) g_b1 at_124 rfl ?_
  intro h19 W19 V_b1_19
  have Z19 : n0 ≤ h19.size := by rw [W19.size]; exact Z18
  replace V_b1_19 : Arv Z h19 b1 _ (.object "com/example/exact_courier/exactcourier/protocol/ApiKey") (18 : Int32) [(.ref x_PRODUCE), (.ref x_FETCH), (.ref x_LIST_OFFSETS), (.ref x_METADATA), (.ref x_OFFSET_COMMIT), (.ref x_OFFSET_FETCH), (.ref x_FIND_COORDINATOR), (.ref x_JOIN_GROUP), (.ref x_HEARTBEAT), (.ref x_LEAVE_GROUP), (.ref x_SYNC_GROUP), (.ref x_API_VERSIONS), (.ref x_CREATE_TOPICS), (.ref x_INIT_PRODUCER_ID), (.ref x_ADD_PARTITIONS_TO_TXN), (.ref x_ADD_OFFSETS_TO_TXN), (.ref x_END_TXN), (.ref x_TXN_OFFSET_COMMIT)] .null := V_b1_19
  have Kp19 : Keep h0 h19 [] := Kp18.wr W19 (Or.inr sz_b1)
  refine OGo.astoreN K (pc' := 126) (Ls' := #[.val (.int v0), .val (.int v1), .val (.int v2), .val (.ref b1), .unset, .unset, .unset, .unset, .unset, .unset, .unset, .unset, .unset]) at_125 rfl rfl rfl ?_
  refine OGo.bipush K (pc' := 128) (z := 18) at_126 rfl rfl ?_
  refine OGo.newP K (pc' := 130) (cap := 18) (cells' := 2) (slots' := 36) (hw _ (List.mem_of_getElem? (i := 40) rfl)) at_128 rfl (by decide) (by decide) (by decide) rfl rfl (by decide) (by decide) ?_
  intro h20 b2 k_b2 gq20 E20 V_b2
  have ne_b1_b2 : b1 ≠ b2 := Nat.ne_of_lt (Nat.lt_of_lt_of_le V_b1_19.lt (Nat.le_of_eq gq20.symm))
  have g_b2 : n0 ≤ b2 := Nat.le_trans Z19 (Nat.le_of_eq gq20.symm)
  have sz_b2 : h0.size ≤ b2 := Nat.le_trans Kp19.1 (Nat.le_of_eq gq20.symm)
  have Z20 : n0 ≤ h20.size := Nat.le_trans Z19 E20.1
  have Kp20 : Keep h0 h20 [] := Kp19.ext E20
  have V_b1_20 := V_b1_19.ext E20
  replace V_b2 : Arv Z h20 b2 _ .int (18 : Int32) [(.int 0), (.int 0), (.int 0), (.int 0), (.int 0), (.int 0), (.int 0), (.int 0), (.int 0), (.int 0), (.int 0), (.int 0), (.int 0), (.int 0), (.int 0), (.int 0), (.int 0), (.int 0)] (.int 0) := V_b2.pad (pad_rep [] _ 18)
  refine OGo.dup K (pc' := 131) at_130 rfl rfl ?_
  refine OGo.iconst K (pc' := 132) (z := 0) at_131 rfl rfl ?_
  refine OGo.iconst K (pc' := 133) (z := 3) at_132 rfl rfl ?_
  refine OGo.iastore K (pc' := 134) (i := 0) V_b2 (by decide) rfl (Nat.le_of_ble_eq_true rfl) g_b2 at_133 rfl ?_
  intro h21 W21 V_b2_21
  have Z21 : n0 ≤ h21.size := by rw [W21.size]; exact Z20
  replace V_b2_21 : Arv Z h21 b2 _ .int (18 : Int32) [(.int (3 : Int32)), (.int 0), (.int 0), (.int 0), (.int 0), (.int 0), (.int 0), (.int 0), (.int 0), (.int 0), (.int 0), (.int 0), (.int 0), (.int 0), (.int 0), (.int 0), (.int 0), (.int 0)] (.int 0) := V_b2_21
  have V_b1_21 := V_b1_20.other W21 ne_b1_b2
  have Kp21 : Keep h0 h21 [] := Kp20.wr W21 (Or.inr sz_b2)
  refine OGo.dup K (pc' := 135) at_134 rfl rfl ?_
  refine OGo.iconst K (pc' := 136) (z := 1) at_135 rfl rfl ?_
  refine OGo.iconst K (pc' := 137) (z := 4) at_136 rfl rfl ?_
  refine OGo.iastore K (pc' := 138) (i := 1) V_b2_21 (by decide) rfl (Nat.le_of_ble_eq_true rfl) g_b2 at_137 rfl ?_
  intro h22 W22 V_b2_22
  have Z22 : n0 ≤ h22.size := by rw [W22.size]; exact Z21
  replace V_b2_22 : Arv Z h22 b2 _ .int (18 : Int32) [(.int (3 : Int32)), (.int (4 : Int32)), (.int 0), (.int 0), (.int 0), (.int 0), (.int 0), (.int 0), (.int 0), (.int 0), (.int 0), (.int 0), (.int 0), (.int 0), (.int 0), (.int 0), (.int 0), (.int 0)] (.int 0) := V_b2_22
  have V_b1_22 := V_b1_21.other W22 ne_b1_b2
  have Kp22 : Keep h0 h22 [] := Kp21.wr W22 (Or.inr sz_b2)
  refine OGo.dup K (pc' := 139) at_138 rfl rfl ?_
  refine OGo.iconst K (pc' := 140) (z := 2) at_139 rfl rfl ?_
  refine OGo.iconst K (pc' := 141) (z := 1) at_140 rfl rfl ?_
  refine OGo.iastore K (pc' := 142) (i := 2) V_b2_22 (by decide) rfl (Nat.le_of_ble_eq_true rfl) g_b2 at_141 rfl ?_
  intro h23 W23 V_b2_23
  have Z23 : n0 ≤ h23.size := by rw [W23.size]; exact Z22
  replace V_b2_23 : Arv Z h23 b2 _ .int (18 : Int32) [(.int (3 : Int32)), (.int (4 : Int32)), (.int (1 : Int32)), (.int 0), (.int 0), (.int 0), (.int 0), (.int 0), (.int 0), (.int 0), (.int 0), (.int 0), (.int 0), (.int 0), (.int 0), (.int 0), (.int 0), (.int 0)] (.int 0) := V_b2_23
  have V_b1_23 := V_b1_22.other W23 ne_b1_b2
  have Kp23 : Keep h0 h23 [] := Kp22.wr W23 (Or.inr sz_b2)
  refine OGo.dup K (pc' := 143) at_142 rfl rfl ?_
  refine OGo.iconst K (pc' := 144) (z := 3) at_143 rfl rfl ?_
  refine OGo.iconst K (pc' := 145) (z := 0) at_144 rfl rfl ?_
  refine OGo.iastore K (pc' := 146) (i := 3) V_b2_23 (by decide) rfl (Nat.le_of_ble_eq_true rfl) g_b2 at_145 rfl ?_
  intro h24 W24 V_b2_24
  have Z24 : n0 ≤ h24.size := by rw [W24.size]; exact Z23
  replace V_b2_24 : Arv Z h24 b2 _ .int (18 : Int32) [(.int (3 : Int32)), (.int (4 : Int32)), (.int (1 : Int32)), (.int (0 : Int32)), (.int 0), (.int 0), (.int 0), (.int 0), (.int 0), (.int 0), (.int 0), (.int 0), (.int 0), (.int 0), (.int 0), (.int 0), (.int 0), (.int 0)] (.int 0) := V_b2_24
  have V_b1_24 := V_b1_23.other W24 ne_b1_b2
  have Kp24 : Keep h0 h24 [] := Kp23.wr W24 (Or.inr sz_b2)
  refine OGo.dup K (pc' := 147) at_146 rfl rfl ?_
  refine OGo.iconst K (pc' := 148) (z := 4) at_147 rfl rfl ?_
  refine OGo.iconst K (pc' := 149) (z := 2) at_148 rfl rfl ?_
  refine OGo.iastore K (pc' := 150) (i := 4) V_b2_24 (by decide) rfl (Nat.le_of_ble_eq_true rfl) g_b2 at_149 rfl ?_
  intro h25 W25 V_b2_25
  have Z25 : n0 ≤ h25.size := by rw [W25.size]; exact Z24
  replace V_b2_25 : Arv Z h25 b2 _ .int (18 : Int32) [(.int (3 : Int32)), (.int (4 : Int32)), (.int (1 : Int32)), (.int (0 : Int32)), (.int (2 : Int32)), (.int 0), (.int 0), (.int 0), (.int 0), (.int 0), (.int 0), (.int 0), (.int 0), (.int 0), (.int 0), (.int 0), (.int 0), (.int 0)] (.int 0) := V_b2_25
  have V_b1_25 := V_b1_24.other W25 ne_b1_b2
  have Kp25 : Keep h0 h25 [] := Kp24.wr W25 (Or.inr sz_b2)
  refine OGo.dup K (pc' := 151) at_150 rfl rfl ?_
  refine OGo.iconst K (pc' := 152) (z := 5) at_151 rfl rfl ?_
  refine OGo.iconst K (pc' := 153) (z := 1) at_152 rfl rfl ?_
  refine OGo.iastore K (pc' := 154) (i := 5) V_b2_25 (by decide) rfl (Nat.le_of_ble_eq_true rfl) g_b2 at_153 rfl ?_
  intro h26 W26 V_b2_26
  have Z26 : n0 ≤ h26.size := by rw [W26.size]; exact Z25
  replace V_b2_26 : Arv Z h26 b2 _ .int (18 : Int32) [(.int (3 : Int32)), (.int (4 : Int32)), (.int (1 : Int32)), (.int (0 : Int32)), (.int (2 : Int32)), (.int (1 : Int32)), (.int 0), (.int 0), (.int 0), (.int 0), (.int 0), (.int 0), (.int 0), (.int 0), (.int 0), (.int 0), (.int 0), (.int 0)] (.int 0) := V_b2_26
  have V_b1_26 := V_b1_25.other W26 ne_b1_b2
  have Kp26 : Keep h0 h26 [] := Kp25.wr W26 (Or.inr sz_b2)
  refine OGo.dup K (pc' := 155) at_154 rfl rfl ?_
  refine OGo.bipush K (pc' := 157) (z := 6) at_155 rfl rfl ?_
  refine OGo.iconst K (pc' := 158) (z := 0) at_157 rfl rfl ?_
  refine OGo.iastore K (pc' := 159) (i := 6) V_b2_26 (by decide) rfl (Nat.le_of_ble_eq_true rfl) g_b2 at_158 rfl ?_
  intro h27 W27 V_b2_27
  have Z27 : n0 ≤ h27.size := by rw [W27.size]; exact Z26
  replace V_b2_27 : Arv Z h27 b2 _ .int (18 : Int32) [(.int (3 : Int32)), (.int (4 : Int32)), (.int (1 : Int32)), (.int (0 : Int32)), (.int (2 : Int32)), (.int (1 : Int32)), (.int (0 : Int32)), (.int 0), (.int 0), (.int 0), (.int 0), (.int 0), (.int 0), (.int 0), (.int 0), (.int 0), (.int 0), (.int 0)] (.int 0) := V_b2_27
  have V_b1_27 := V_b1_26.other W27 ne_b1_b2
  have Kp27 : Keep h0 h27 [] := Kp26.wr W27 (Or.inr sz_b2)
  refine OGo.dup K (pc' := 160) at_159 rfl rfl ?_
  refine OGo.bipush K (pc' := 162) (z := 7) at_160 rfl rfl ?_
  refine OGo.iconst K (pc' := 163) (z := 0) at_162 rfl rfl ?_
  refine OGo.iastore K (pc' := 164) (i := 7) V_b2_27 (by decide) rfl (Nat.le_of_ble_eq_true rfl) g_b2 at_163 rfl ?_
  intro h28 W28 V_b2_28
  have Z28 : n0 ≤ h28.size := by rw [W28.size]; exact Z27
  replace V_b2_28 : Arv Z h28 b2 _ .int (18 : Int32) [(.int (3 : Int32)), (.int (4 : Int32)), (.int (1 : Int32)), (.int (0 : Int32)), (.int (2 : Int32)), (.int (1 : Int32)), (.int (0 : Int32)), (.int (0 : Int32)), (.int 0), (.int 0), (.int 0), (.int 0), (.int 0), (.int 0), (.int 0), (.int 0), (.int 0), (.int 0)] (.int 0) := V_b2_28
  have V_b1_28 := V_b1_27.other W28 ne_b1_b2
  have Kp28 : Keep h0 h28 [] := Kp27.wr W28 (Or.inr sz_b2)
  refine OGo.dup K (pc' := 165) at_164 rfl rfl ?_
  refine OGo.bipush K (pc' := 167) (z := 8) at_165 rfl rfl ?_
  refine OGo.iconst K (pc' := 168) (z := 0) at_167 rfl rfl ?_
  refine OGo.iastore K (pc' := 169) (i := 8) V_b2_28 (by decide) rfl (Nat.le_of_ble_eq_true rfl) g_b2 at_168 rfl ?_
  intro h29 W29 V_b2_29
  have Z29 : n0 ≤ h29.size := by rw [W29.size]; exact Z28
  replace V_b2_29 : Arv Z h29 b2 _ .int (18 : Int32) [(.int (3 : Int32)), (.int (4 : Int32)), (.int (1 : Int32)), (.int (0 : Int32)), (.int (2 : Int32)), (.int (1 : Int32)), (.int (0 : Int32)), (.int (0 : Int32)), (.int (0 : Int32)), (.int 0), (.int 0), (.int 0), (.int 0), (.int 0), (.int 0), (.int 0), (.int 0), (.int 0)] (.int 0) := V_b2_29
  have V_b1_29 := V_b1_28.other W29 ne_b1_b2
  have Kp29 : Keep h0 h29 [] := Kp28.wr W29 (Or.inr sz_b2)
  refine OGo.dup K (pc' := 170) at_169 rfl rfl ?_
  refine OGo.bipush K (pc' := 172) (z := 9) at_170 rfl rfl ?_
  refine OGo.iconst K (pc' := 173) (z := 0) at_172 rfl rfl ?_
  refine OGo.iastore K (pc' := 174) (i := 9) V_b2_29 (by decide) rfl (Nat.le_of_ble_eq_true rfl) g_b2 at_173 rfl ?_
  intro h30 W30 V_b2_30
  have Z30 : n0 ≤ h30.size := by rw [W30.size]; exact Z29
  replace V_b2_30 : Arv Z h30 b2 _ .int (18 : Int32) [(.int (3 : Int32)), (.int (4 : Int32)), (.int (1 : Int32)), (.int (0 : Int32)), (.int (2 : Int32)), (.int (1 : Int32)), (.int (0 : Int32)), (.int (0 : Int32)), (.int (0 : Int32)), (.int (0 : Int32)), (.int 0), (.int 0), (.int 0), (.int 0), (.int 0), (.int 0), (.int 0), (.int 0)] (.int 0) := V_b2_30
  have V_b1_30 := V_b1_29.other W30 ne_b1_b2
  have Kp30 : Keep h0 h30 [] := Kp29.wr W30 (Or.inr sz_b2)
  refine OGo.dup K (pc' := 175) at_174 rfl rfl ?_
  refine OGo.bipush K (pc' := 177) (z := 10) at_175 rfl rfl ?_
  refine OGo.iconst K (pc' := 178) (z := 0) at_177 rfl rfl ?_
  refine OGo.iastore K (pc' := 179) (i := 10) V_b2_30 (by decide) rfl (Nat.le_of_ble_eq_true rfl) g_b2 at_178 rfl ?_
  intro h31 W31 V_b2_31
  have Z31 : n0 ≤ h31.size := by rw [W31.size]; exact Z30
  replace V_b2_31 : Arv Z h31 b2 _ .int (18 : Int32) [(.int (3 : Int32)), (.int (4 : Int32)), (.int (1 : Int32)), (.int (0 : Int32)), (.int (2 : Int32)), (.int (1 : Int32)), (.int (0 : Int32)), (.int (0 : Int32)), (.int (0 : Int32)), (.int (0 : Int32)), (.int (0 : Int32)), (.int 0), (.int 0), (.int 0), (.int 0), (.int 0), (.int 0), (.int 0)] (.int 0) := V_b2_31
  have V_b1_31 := V_b1_30.other W31 ne_b1_b2
  have Kp31 : Keep h0 h31 [] := Kp30.wr W31 (Or.inr sz_b2)
  refine OGo.dup K (pc' := 180) at_179 rfl rfl ?_
  refine OGo.bipush K (pc' := 182) (z := 11) at_180 rfl rfl ?_
  refine OGo.iconst K (pc' := 183) (z := 0) at_182 rfl rfl ?_
  refine OGo.iastore K (pc' := 184) (i := 11) V_b2_31 (by decide) rfl (Nat.le_of_ble_eq_true rfl) g_b2 at_183 rfl ?_
  intro h32 W32 V_b2_32
  have Z32 : n0 ≤ h32.size := by rw [W32.size]; exact Z31
  replace V_b2_32 : Arv Z h32 b2 _ .int (18 : Int32) [(.int (3 : Int32)), (.int (4 : Int32)), (.int (1 : Int32)), (.int (0 : Int32)), (.int (2 : Int32)), (.int (1 : Int32)), (.int (0 : Int32)), (.int (0 : Int32)), (.int (0 : Int32)), (.int (0 : Int32)), (.int (0 : Int32)), (.int (0 : Int32)), (.int 0), (.int 0), (.int 0), (.int 0), (.int 0), (.int 0)] (.int 0) := V_b2_32
  have V_b1_32 := V_b1_31.other W32 ne_b1_b2
  have Kp32 : Keep h0 h32 [] := Kp31.wr W32 (Or.inr sz_b2)
  refine OGo.dup K (pc' := 185) at_184 rfl rfl ?_
  refine OGo.bipush K (pc' := 187) (z := 12) at_185 rfl rfl ?_
  refine OGo.iconst K (pc' := 188) (z := 0) at_187 rfl rfl ?_
  refine OGo.iastore K (pc' := 189) (i := 12) V_b2_32 (by decide) rfl (Nat.le_of_ble_eq_true rfl) g_b2 at_188 rfl ?_
  intro h33 W33 V_b2_33
  have Z33 : n0 ≤ h33.size := by rw [W33.size]; exact Z32
  replace V_b2_33 : Arv Z h33 b2 _ .int (18 : Int32) [(.int (3 : Int32)), (.int (4 : Int32)), (.int (1 : Int32)), (.int (0 : Int32)), (.int (2 : Int32)), (.int (1 : Int32)), (.int (0 : Int32)), (.int (0 : Int32)), (.int (0 : Int32)), (.int (0 : Int32)), (.int (0 : Int32)), (.int (0 : Int32)), (.int (0 : Int32)), (.int 0), (.int 0), (.int 0), (.int 0), (.int 0)] (.int 0) := V_b2_33
  have V_b1_33 := V_b1_32.other W33 ne_b1_b2
  have Kp33 : Keep h0 h33 [] := Kp32.wr W33 (Or.inr sz_b2)
  refine OGo.dup K (pc' := 190) at_189 rfl rfl ?_
  refine OGo.bipush K (pc' := 192) (z := 13) at_190 rfl rfl ?_
  refine OGo.iconst K (pc' := 193) (z := 0) at_192 rfl rfl ?_
  refine OGo.iastore K (pc' := 194) (i := 13) V_b2_33 (by decide) rfl (Nat.le_of_ble_eq_true rfl) g_b2 at_193 rfl ?_
  intro h34 W34 V_b2_34
  have Z34 : n0 ≤ h34.size := by rw [W34.size]; exact Z33
  replace V_b2_34 : Arv Z h34 b2 _ .int (18 : Int32) [(.int (3 : Int32)), (.int (4 : Int32)), (.int (1 : Int32)), (.int (0 : Int32)), (.int (2 : Int32)), (.int (1 : Int32)), (.int (0 : Int32)), (.int (0 : Int32)), (.int (0 : Int32)), (.int (0 : Int32)), (.int (0 : Int32)), (.int (0 : Int32)), (.int (0 : Int32)), (.int (0 : Int32)), (.int 0), (.int 0), (.int 0), (.int 0)] (.int 0) := V_b2_34
  have V_b1_34 := V_b1_33.other W34 ne_b1_b2
  have Kp34 : Keep h0 h34 [] := Kp33.wr W34 (Or.inr sz_b2)
  refine OGo.dup K (pc' := 195) at_194 rfl rfl ?_
  refine OGo.bipush K (pc' := 197) (z := 14) at_195 rfl rfl ?_
  refine OGo.iconst K (pc' := 198) (z := 0) at_197 rfl rfl ?_
  refine OGo.iastore K (pc' := 199) (i := 14) V_b2_34 (by decide) rfl (Nat.le_of_ble_eq_true rfl) g_b2 at_198 rfl ?_
  intro h35 W35 V_b2_35
  have Z35 : n0 ≤ h35.size := by rw [W35.size]; exact Z34
  replace V_b2_35 : Arv Z h35 b2 _ .int (18 : Int32) [(.int (3 : Int32)), (.int (4 : Int32)), (.int (1 : Int32)), (.int (0 : Int32)), (.int (2 : Int32)), (.int (1 : Int32)), (.int (0 : Int32)), (.int (0 : Int32)), (.int (0 : Int32)), (.int (0 : Int32)), (.int (0 : Int32)), (.int (0 : Int32)), (.int (0 : Int32)), (.int (0 : Int32)), (.int (0 : Int32)), (.int 0), (.int 0), (.int 0)] (.int 0) := V_b2_35
  have V_b1_35 := V_b1_34.other W35 ne_b1_b2
  have Kp35 : Keep h0 h35 [] := Kp34.wr W35 (Or.inr sz_b2)
  refine OGo.dup K (pc' := 200) at_199 rfl rfl ?_
  refine OGo.bipush K (pc' := 202) (z := 15) at_200 rfl rfl ?_
  refine OGo.iconst K (pc' := 203) (z := 0) at_202 rfl rfl ?_
  refine OGo.iastore K (pc' := 204) (i := 15) V_b2_35 (by decide) rfl (Nat.le_of_ble_eq_true rfl) g_b2 at_203 rfl ?_
  intro h36 W36 V_b2_36
  have Z36 : n0 ≤ h36.size := by rw [W36.size]; exact Z35
  replace V_b2_36 : Arv Z h36 b2 _ .int (18 : Int32) [(.int (3 : Int32)), (.int (4 : Int32)), (.int (1 : Int32)), (.int (0 : Int32)), (.int (2 : Int32)), (.int (1 : Int32)), (.int (0 : Int32)), (.int (0 : Int32)), (.int (0 : Int32)), (.int (0 : Int32)), (.int (0 : Int32)), (.int (0 : Int32)), (.int (0 : Int32)), (.int (0 : Int32)), (.int (0 : Int32)), (.int (0 : Int32)), (.int 0), (.int 0)] (.int 0) := V_b2_36
  have V_b1_36 := V_b1_35.other W36 ne_b1_b2
  have Kp36 : Keep h0 h36 [] := Kp35.wr W36 (Or.inr sz_b2)
  refine OGo.dup K (pc' := 205) at_204 rfl rfl ?_
  refine OGo.bipush K (pc' := 207) (z := 16) at_205 rfl rfl ?_
  refine OGo.iconst K (pc' := 208) (z := 0) at_207 rfl rfl ?_
  refine OGo.iastore K (pc' := 209) (i := 16) V_b2_36 (by decide) rfl (Nat.le_of_ble_eq_true rfl) g_b2 at_208 rfl ?_
  intro h37 W37 V_b2_37
  have Z37 : n0 ≤ h37.size := by rw [W37.size]; exact Z36
  replace V_b2_37 : Arv Z h37 b2 _ .int (18 : Int32) [(.int (3 : Int32)), (.int (4 : Int32)), (.int (1 : Int32)), (.int (0 : Int32)), (.int (2 : Int32)), (.int (1 : Int32)), (.int (0 : Int32)), (.int (0 : Int32)), (.int (0 : Int32)), (.int (0 : Int32)), (.int (0 : Int32)), (.int (0 : Int32)), (.int (0 : Int32)), (.int (0 : Int32)), (.int (0 : Int32)), (.int (0 : Int32)), (.int (0 : Int32)), (.int 0)] (.int 0) := V_b2_37
  have V_b1_37 := V_b1_36.other W37 ne_b1_b2
  have Kp37 : Keep h0 h37 [] := Kp36.wr W37 (Or.inr sz_b2)
  refine OGo.dup K (pc' := 210) at_209 rfl rfl ?_
  refine OGo.bipush K (pc' := 212) (z := 17) at_210 rfl rfl ?_
  refine OGo.iconst K (pc' := 213) (z := 0) at_212 rfl rfl ?_
  refine OGo.iastore K (pc' := 214) (i := 17) V_b2_37 (by decide) rfl (Nat.le_of_ble_eq_true rfl) g_b2 at_213 rfl ?_
  intro h38 W38 V_b2_38
  have Z38 : n0 ≤ h38.size := by rw [W38.size]; exact Z37
  replace V_b2_38 : Arv Z h38 b2 _ .int (18 : Int32) [(.int (3 : Int32)), (.int (4 : Int32)), (.int (1 : Int32)), (.int (0 : Int32)), (.int (2 : Int32)), (.int (1 : Int32)), (.int (0 : Int32)), (.int (0 : Int32)), (.int (0 : Int32)), (.int (0 : Int32)), (.int (0 : Int32)), (.int (0 : Int32)), (.int (0 : Int32)), (.int (0 : Int32)), (.int (0 : Int32)), (.int (0 : Int32)), (.int (0 : Int32)), (.int (0 : Int32))] (.int 0) := V_b2_38
  have V_b1_38 := V_b1_37.other W38 ne_b1_b2
  have Kp38 : Keep h0 h38 [] := Kp37.wr W38 (Or.inr sz_b2)
  refine OGo.astore K (pc' := 216) (Ls' := #[.val (.int v0), .val (.int v1), .val (.int v2), .val (.ref b1), .val (.ref b2), .unset, .unset, .unset, .unset, .unset, .unset, .unset, .unset]) at_214 rfl rfl rfl ?_
  refine OGo.bipush K (pc' := 218) (z := 18) at_216 rfl rfl ?_
  refine OGo.newP K (pc' := 220) (cap := 18) (cells' := 3) (slots' := 54) (hw _ (List.mem_of_getElem? (i := 40) rfl)) at_218 rfl (by decide) (by decide) (by decide) rfl rfl (by decide) (by decide) ?_
  intro h39 b3 k_b3 gq39 E39 V_b3
  have ne_b1_b3 : b1 ≠ b3 := Nat.ne_of_lt (Nat.lt_of_lt_of_le V_b1_38.lt (Nat.le_of_eq gq39.symm))
  have ne_b2_b3 : b2 ≠ b3 := Nat.ne_of_lt (Nat.lt_of_lt_of_le V_b2_38.lt (Nat.le_of_eq gq39.symm))
  have g_b3 : n0 ≤ b3 := Nat.le_trans Z38 (Nat.le_of_eq gq39.symm)
  have sz_b3 : h0.size ≤ b3 := Nat.le_trans Kp38.1 (Nat.le_of_eq gq39.symm)
  have Z39 : n0 ≤ h39.size := Nat.le_trans Z38 E39.1
  have Kp39 : Keep h0 h39 [] := Kp38.ext E39
  have V_b1_39 := V_b1_38.ext E39
  have V_b2_39 := V_b2_38.ext E39
  replace V_b3 : Arv Z h39 b3 _ .int (18 : Int32) [(.int 0), (.int 0), (.int 0), (.int 0), (.int 0), (.int 0), (.int 0), (.int 0), (.int 0), (.int 0), (.int 0), (.int 0), (.int 0), (.int 0), (.int 0), (.int 0), (.int 0), (.int 0)] (.int 0) := V_b3.pad (pad_rep [] _ 18)
  refine OGo.dup K (pc' := 221) at_220 rfl rfl ?_
  refine OGo.iconst K (pc' := 222) (z := 0) at_221 rfl rfl ?_
  refine OGo.bipush K (pc' := 224) (z := 7) at_222 rfl rfl ?_
  refine OGo.iastore K (pc' := 225) (i := 0) V_b3 (by decide) rfl (Nat.le_of_ble_eq_true rfl) g_b3 at_224 rfl ?_
  intro h40 W40 V_b3_40
  have Z40 : n0 ≤ h40.size := by rw [W40.size]; exact Z39
  replace V_b3_40 : Arv Z h40 b3 _ .int (18 : Int32) [(.int (7 : Int32)), (.int 0), (.int 0), (.int 0), (.int 0), (.int 0), (.int 0), (.int 0), (.int 0), (.int 0), (.int 0), (.int 0), (.int 0), (.int 0), (.int 0), (.int 0), (.int 0), (.int 0)] (.int 0) := V_b3_40
  have V_b1_40 := V_b1_39.other W40 ne_b1_b3
  have V_b2_40 := V_b2_39.other W40 ne_b2_b3
  have Kp40 : Keep h0 h40 [] := Kp39.wr W40 (Or.inr sz_b3)
  refine OGo.dup K (pc' := 226) at_225 rfl rfl ?_
  refine OGo.iconst K (pc' := 227) (z := 1) at_226 rfl rfl ?_
  refine OGo.bipush K (pc' := 229) (z := 11) at_227 rfl rfl ?_
  refine OGo.iastore K (pc' := 230) (i := 1) V_b3_40 (by decide) rfl (Nat.le_of_ble_eq_true rfl) g_b3 at_229 rfl ?_
  intro h41 W41 V_b3_41
  have Z41 : n0 ≤ h41.size := by rw [W41.size]; exact Z40
  replace V_b3_41 : Arv Z h41 b3 _ .int (18 : Int32) [(.int (7 : Int32)), (.int (11 : Int32)), (.int 0), (.int 0), (.int 0), (.int 0), (.int 0), (.int 0), (.int 0), (.int 0), (.int 0), (.int 0), (.int 0), (.int 0), (.int 0), (.int 0), (.int 0), (.int 0)] (.int 0) := V_b3_41
  have V_b1_41 := V_b1_40.other W41 ne_b1_b3
  have V_b2_41 := V_b2_40.other W41 ne_b2_b3
  have Kp41 : Keep h0 h41 [] := Kp40.wr W41 (Or.inr sz_b3)
  refine OGo.dup K (pc' := 231) at_230 rfl rfl ?_
  refine OGo.iconst K (pc' := 232) (z := 2) at_231 rfl rfl ?_
  refine OGo.iconst K (pc' := 233) (z := 2) at_232 rfl rfl ?_
  refine OGo.iastore K (pc' := 234) (i := 2) V_b3_41 (by decide) rfl (Nat.le_of_ble_eq_true rfl) g_b3 at_233 rfl ?_
  intro h42 W42 V_b3_42
  have Z42 : n0 ≤ h42.size := by rw [W42.size]; exact Z41
  replace V_b3_42 : Arv Z h42 b3 _ .int (18 : Int32) [(.int (7 : Int32)), (.int (11 : Int32)), (.int (2 : Int32)), (.int 0), (.int 0), (.int 0), (.int 0), (.int 0), (.int 0), (.int 0), (.int 0), (.int 0), (.int 0), (.int 0), (.int 0), (.int 0), (.int 0), (.int 0)] (.int 0) := V_b3_42
  have V_b1_42 := V_b1_41.other W42 ne_b1_b3
  have V_b2_42 := V_b2_41.other W42 ne_b2_b3
  have Kp42 : Keep h0 h42 [] := Kp41.wr W42 (Or.inr sz_b3)
  refine OGo.dup K (pc' := 235) at_234 rfl rfl ?_
  refine OGo.iconst K (pc' := 236) (z := 3) at_235 rfl rfl ?_
  refine OGo.iconst K (pc' := 237) (z := 4) at_236 rfl rfl ?_
  refine OGo.iastore K (pc' := 238) (i := 3) V_b3_42 (by decide) rfl (Nat.le_of_ble_eq_true rfl) g_b3 at_237 rfl ?_
  intro h43 W43 V_b3_43
  have Z43 : n0 ≤ h43.size := by rw [W43.size]; exact Z42
  replace V_b3_43 : Arv Z h43 b3 _ .int (18 : Int32) [(.int (7 : Int32)), (.int (11 : Int32)), (.int (2 : Int32)), (.int (4 : Int32)), (.int 0), (.int 0), (.int 0), (.int 0), (.int 0), (.int 0), (.int 0), (.int 0), (.int 0), (.int 0), (.int 0), (.int 0), (.int 0), (.int 0)] (.int 0) := V_b3_43
  have V_b1_43 := V_b1_42.other W43 ne_b1_b3
  have V_b2_43 := V_b2_42.other W43 ne_b2_b3
  have Kp43 : Keep h0 h43 [] := Kp42.wr W43 (Or.inr sz_b3)
  refine OGo.dup K (pc' := 239) at_238 rfl rfl ?_
  refine OGo.iconst K (pc' := 240) (z := 4) at_239 rfl rfl ?_
  refine OGo.bipush K (pc' := 242) (z := 7) at_240 rfl rfl ?_
  refine OGo.iastore K (pc' := 243) (i := 4) V_b3_43 (by decide) rfl (Nat.le_of_ble_eq_true rfl) g_b3 at_242 rfl ?_
  intro h44 W44 V_b3_44
  have Z44 : n0 ≤ h44.size := by rw [W44.size]; exact Z43
  replace V_b3_44 : Arv Z h44 b3 _ .int (18 : Int32) [(.int (7 : Int32)), (.int (11 : Int32)), (.int (2 : Int32)), (.int (4 : Int32)), (.int (7 : Int32)), (.int 0), (.int 0), (.int 0), (.int 0), (.int 0), (.int 0), (.int 0), (.int 0), (.int 0), (.int 0), (.int 0), (.int 0), (.int 0)] (.int 0) := V_b3_44
  have V_b1_44 := V_b1_43.other W44 ne_b1_b3
  have V_b2_44 := V_b2_43.other W44 ne_b2_b3
  have Kp44 : Keep h0 h44 [] := Kp43.wr W44 (Or.inr sz_b3)
  refine OGo.dup K (pc' := 244) at_243 rfl rfl ?_
  refine OGo.iconst K (pc' := 245) (z := 5) at_244 rfl rfl ?_
  refine OGo.iconst K (pc' := 246) (z := 5) at_245 rfl rfl ?_
  refine OGo.iastore K (pc' := 247) (i := 5) V_b3_44 (by decide) rfl (Nat.le_of_ble_eq_true rfl) g_b3 at_246 rfl ?_
  intro h45 W45 V_b3_45
  have Z45 : n0 ≤ h45.size := by rw [W45.size]; exact Z44
  replace V_b3_45 : Arv Z h45 b3 _ .int (18 : Int32) [(.int (7 : Int32)), (.int (11 : Int32)), (.int (2 : Int32)), (.int (4 : Int32)), (.int (7 : Int32)), (.int (5 : Int32)), (.int 0), (.int 0), (.int 0), (.int 0), (.int 0), (.int 0), (.int 0), (.int 0), (.int 0), (.int 0), (.int 0), (.int 0)] (.int 0) := V_b3_45
  have V_b1_45 := V_b1_44.other W45 ne_b1_b3
  have V_b2_45 := V_b2_44.other W45 ne_b2_b3
  have Kp45 : Keep h0 h45 [] := Kp44.wr W45 (Or.inr sz_b3)
  refine OGo.dup K (pc' := 248) at_247 rfl rfl ?_
  refine OGo.bipush K (pc' := 250) (z := 6) at_248 rfl rfl ?_
  refine OGo.iconst K (pc' := 251) (z := 2) at_250 rfl rfl ?_
  refine OGo.iastore K (pc' := 252) (i := 6) V_b3_45 (by decide) rfl (Nat.le_of_ble_eq_true rfl) g_b3 at_251 rfl ?_
  intro h46 W46 V_b3_46
  have Z46 : n0 ≤ h46.size := by rw [W46.size]; exact Z45
  replace V_b3_46 : Arv Z h46 b3 _ .int (18 : Int32) [(.int (7 : Int32)), (.int (11 : Int32)), (.int (2 : Int32)), (.int (4 : Int32)), (.int (7 : Int32)), (.int (5 : Int32)), (.int (2 : Int32)), (.int 0), (.int 0), (.int 0), (.int 0), (.int 0), (.int 0), (.int 0), (.int 0), (.int 0), (.int 0), (.int 0)] (.int 0) := V_b3_46
  have V_b1_46 := V_b1_45.other W46 ne_b1_b3
  have V_b2_46 := V_b2_45.other W46 ne_b2_b3
  have Kp46 : Keep h0 h46 [] := Kp45.wr W46 (Or.inr sz_b3)
  refine OGo.dup K (pc' := 253) at_252 rfl rfl ?_
  refine OGo.bipush K (pc' := 255) (z := 7) at_253 rfl rfl ?_
  refine OGo.iconst K (pc' := 256) (z := 5) at_255 rfl rfl ?_
  refine OGo.iastore K (pc' := 257) (i := 7) V_b3_46 (by decide) rfl (Nat.le_of_ble_eq_true rfl) g_b3 at_256 rfl ?_
  intro h47 W47 V_b3_47
  have Z47 : n0 ≤ h47.size := by rw [W47.size]; exact Z46
  replace V_b3_47 : Arv Z h47 b3 _ .int (18 : Int32) [(.int (7 : Int32)), (.int (11 : Int32)), (.int (2 : Int32)), (.int (4 : Int32)), (.int (7 : Int32)), (.int (5 : Int32)), (.int (2 : Int32)), (.int (5 : Int32)), (.int 0), (.int 0), (.int 0), (.int 0), (.int 0), (.int 0), (.int 0), (.int 0), (.int 0), (.int 0)] (.int 0) := V_b3_47
  have V_b1_47 := V_b1_46.other W47 ne_b1_b3
  have V_b2_47 := V_b2_46.other W47 ne_b2_b3
  have Kp47 : Keep h0 h47 [] := Kp46.wr W47 (Or.inr sz_b3)
  refine OGo.dup K (pc' := 258) at_257 rfl rfl ?_
  refine OGo.bipush K (pc' := 260) (z := 8) at_258 rfl rfl ?_
  refine OGo.iconst K (pc' := 261) (z := 3) at_260 rfl rfl ?_
  refine OGo.iastore K (pc' := 262) (i := 8) V_b3_47 (by decide) rfl (Nat.le_of_ble_eq_true rfl) g_b3 at_261 rfl ?_
  intro h48 W48 V_b3_48
  have Z48 : n0 ≤ h48.size := by rw [W48.size]; exact Z47
  replace V_b3_48 : Arv Z h48 b3 _ .int (18 : Int32) [(.int (7 : Int32)), (.int (11 : Int32)), (.int (2 : Int32)), (.int (4 : Int32)), (.int (7 : Int32)), (.int (5 : Int32)), (.int (2 : Int32)), (.int (5 : Int32)), (.int (3 : Int32)), (.int 0), (.int 0), (.int 0), (.int 0), (.int 0), (.int 0), (.int 0), (.int 0), (.int 0)] (.int 0) := V_b3_48
  have V_b1_48 := V_b1_47.other W48 ne_b1_b3
  have V_b2_48 := V_b2_47.other W48 ne_b2_b3
  have Kp48 : Keep h0 h48 [] := Kp47.wr W48 (Or.inr sz_b3)
  refine OGo.dup K (pc' := 263) at_262 rfl rfl ?_
  refine OGo.bipush K (pc' := 265) (z := 9) at_263 rfl rfl ?_
  refine OGo.iconst K (pc' := 266) (z := 1) at_265 rfl rfl ?_
  refine OGo.iastore K (pc' := 267) (i := 9) V_b3_48 (by decide) rfl (Nat.le_of_ble_eq_true rfl) g_b3 at_266 rfl ?_
  intro h49 W49 V_b3_49
  have Z49 : n0 ≤ h49.size := by rw [W49.size]; exact Z48
  replace V_b3_49 : Arv Z h49 b3 _ .int (18 : Int32) [(.int (7 : Int32)), (.int (11 : Int32)), (.int (2 : Int32)), (.int (4 : Int32)), (.int (7 : Int32)), (.int (5 : Int32)), (.int (2 : Int32)), (.int (5 : Int32)), (.int (3 : Int32)), (.int (1 : Int32)), (.int 0), (.int 0), (.int 0), (.int 0), (.int 0), (.int 0), (.int 0), (.int 0)] (.int 0) := V_b3_49
  have V_b1_49 := V_b1_48.other W49 ne_b1_b3
  have V_b2_49 := V_b2_48.other W49 ne_b2_b3
  have Kp49 : Keep h0 h49 [] := Kp48.wr W49 (Or.inr sz_b3)
  refine OGo.dup K (pc' := 268) at_267 rfl rfl ?_
  refine OGo.bipush K (pc' := 270) (z := 10) at_268 rfl rfl ?_
  refine OGo.iconst K (pc' := 271) (z := 3) at_270 rfl rfl ?_
  refine OGo.iastore K (pc' := 272) (i := 10) V_b3_49 (by decide) rfl (Nat.le_of_ble_eq_true rfl) g_b3 at_271 rfl ?_
  intro h50 W50 V_b3_50
  have Z50 : n0 ≤ h50.size := by rw [W50.size]; exact Z49
  replace V_b3_50 : Arv Z h50 b3 _ .int (18 : Int32) [(.int (7 : Int32)), (.int (11 : Int32)), (.int (2 : Int32)), (.int (4 : Int32)), (.int (7 : Int32)), (.int (5 : Int32)), (.int (2 : Int32)), (.int (5 : Int32)), (.int (3 : Int32)), (.int (1 : Int32)), (.int (3 : Int32)), (.int 0), (.int 0), (.int 0), (.int 0), (.int 0), (.int 0), (.int 0)] (.int 0) := V_b3_50
  have V_b1_50 := V_b1_49.other W50 ne_b1_b3
  have V_b2_50 := V_b2_49.other W50 ne_b2_b3
  have Kp50 : Keep h0 h50 [] := Kp49.wr W50 (Or.inr sz_b3)
  refine OGo.dup K (pc' := 273) at_272 rfl rfl ?_
  refine OGo.bipush K (pc' := 275) (z := 11) at_273 rfl rfl ?_
  refine OGo.iconst K (pc' := 276) (z := 3) at_275 rfl rfl ?_
  refine OGo.iastore K (pc' := 277) (i := 11) V_b3_50 (by decide) rfl (Nat.le_of_ble_eq_true rfl) g_b3 at_276 rfl ?_
  intro h51 W51 V_b3_51
  have Z51 : n0 ≤ h51.size := by rw [W51.size]; exact Z50
  replace V_b3_51 : Arv Z h51 b3 _ .int (18 : Int32) [(.int (7 : Int32)), (.int (11 : Int32)), (.int (2 : Int32)), (.int (4 : Int32)), (.int (7 : Int32)), (.int (5 : Int32)), (.int (2 : Int32)), (.int (5 : Int32)), (.int (3 : Int32)), (.int (1 : Int32)), (.int (3 : Int32)), (.int (3 : Int32)), (.int 0), (.int 0), (.int 0), (.int 0), (.int 0), (.int 0)] (.int 0) := V_b3_51
  have V_b1_51 := V_b1_50.other W51 ne_b1_b3
  have V_b2_51 := V_b2_50.other W51 ne_b2_b3
  have Kp51 : Keep h0 h51 [] := Kp50.wr W51 (Or.inr sz_b3)
  refine OGo.dup K (pc' := 278) at_277 rfl rfl ?_
  refine OGo.bipush K (pc' := 280) (z := 12) at_278 rfl rfl ?_
  refine OGo.iconst K (pc' := 281) (z := 4) at_280 rfl rfl ?_
  refine OGo.iastore K (pc' := 282) (i := 12) V_b3_51 (by decide) rfl (Nat.le_of_ble_eq_true rfl) g_b3 at_281 rfl ?_
  intro h52 W52 V_b3_52
  have Z52 : n0 ≤ h52.size := by rw [W52.size]; exact Z51
  replace V_b3_52 : Arv Z h52 b3 _ .int (18 : Int32) [(.int (7 : Int32)), (.int (11 : Int32)), (.int (2 : Int32)), (.int (4 : Int32)), (.int (7 : Int32)), (.int (5 : Int32)), (.int (2 : Int32)), (.int (5 : Int32)), (.int (3 : Int32)), (.int (1 : Int32)), (.int (3 : Int32)), (.int (3 : Int32)), (.int (4 : Int32)), (.int 0), (.int 0), (.int 0), (.int 0), (.int 0)] (.int 0) := V_b3_52
  have V_b1_52 := V_b1_51.other W52 ne_b1_b3
  have V_b2_52 := V_b2_51.other W52 ne_b2_b3
  have Kp52 : Keep h0 h52 [] := Kp51.wr W52 (Or.inr sz_b3)
  refine OGo.dup K (pc' := 283) at_282 rfl rfl ?_
  refine OGo.bipush K (pc' := 285) (z := 13) at_283 rfl rfl ?_
  refine OGo.iconst K (pc' := 286) (z := 3) at_285 rfl rfl ?_
  refine OGo.iastore K (pc' := 287) (i := 13) V_b3_52 (by decide) rfl (Nat.le_of_ble_eq_true rfl) g_b3 at_286 rfl ?_
  intro h53 W53 V_b3_53
  have Z53 : n0 ≤ h53.size := by rw [W53.size]; exact Z52
  replace V_b3_53 : Arv Z h53 b3 _ .int (18 : Int32) [(.int (7 : Int32)), (.int (11 : Int32)), (.int (2 : Int32)), (.int (4 : Int32)), (.int (7 : Int32)), (.int (5 : Int32)), (.int (2 : Int32)), (.int (5 : Int32)), (.int (3 : Int32)), (.int (1 : Int32)), (.int (3 : Int32)), (.int (3 : Int32)), (.int (4 : Int32)), (.int (3 : Int32)), (.int 0), (.int 0), (.int 0), (.int 0)] (.int 0) := V_b3_53
  have V_b1_53 := V_b1_52.other W53 ne_b1_b3
  have V_b2_53 := V_b2_52.other W53 ne_b2_b3
  have Kp53 : Keep h0 h53 [] := Kp52.wr W53 (Or.inr sz_b3)
  refine OGo.dup K (pc' := 288) at_287 rfl rfl ?_
  refine OGo.bipush K (pc' := 290) (z := 14) at_288 rfl rfl ?_
  refine OGo.iconst K (pc' := 291) (z := 2) at_290 rfl rfl ?_
  refine OGo.iastore K (pc' := 292) (i := 14) V_b3_53 (by decide) rfl (Nat.le_of_ble_eq_true rfl) g_b3 at_291 rfl ?_
  intro h54 W54 V_b3_54
  have Z54 : n0 ≤ h54.size := by rw [W54.size]; exact Z53
  replace V_b3_54 : Arv Z h54 b3 _ .int (18 : Int32) [(.int (7 : Int32)), (.int (11 : Int32)), (.int (2 : Int32)), (.int (4 : Int32)), (.int (7 : Int32)), (.int (5 : Int32)), (.int (2 : Int32)), (.int (5 : Int32)), (.int (3 : Int32)), (.int (1 : Int32)), (.int (3 : Int32)), (.int (3 : Int32)), (.int (4 : Int32)), (.int (3 : Int32)), (.int (2 : Int32)), (.int 0), (.int 0), (.int 0)] (.int 0) := V_b3_54
  have V_b1_54 := V_b1_53.other W54 ne_b1_b3
  have V_b2_54 := V_b2_53.other W54 ne_b2_b3
  have Kp54 : Keep h0 h54 [] := Kp53.wr W54 (Or.inr sz_b3)
  refine OGo.dup K (pc' := 293) at_292 rfl rfl ?_
  refine OGo.bipush K (pc' := 295) (z := 15) at_293 rfl rfl ?_
  refine OGo.iconst K (pc' := 296) (z := 2) at_295 rfl rfl ?_
  refine OGo.iastore K (pc' := 297) (i := 15) V_b3_54 (by decide) rfl (Nat.le_of_ble_eq_true rfl) g_b3 at_296 rfl ?_
  intro h55 W55 V_b3_55
  have Z55 : n0 ≤ h55.size := by rw [W55.size]; exact Z54
  replace V_b3_55 : Arv Z h55 b3 _ .int (18 : Int32) [(.int (7 : Int32)), (.int (11 : Int32)), (.int (2 : Int32)), (.int (4 : Int32)), (.int (7 : Int32)), (.int (5 : Int32)), (.int (2 : Int32)), (.int (5 : Int32)), (.int (3 : Int32)), (.int (1 : Int32)), (.int (3 : Int32)), (.int (3 : Int32)), (.int (4 : Int32)), (.int (3 : Int32)), (.int (2 : Int32)), (.int (2 : Int32)), (.int 0), (.int 0)] (.int 0) := V_b3_55
  have V_b1_55 := V_b1_54.other W55 ne_b1_b3
  have V_b2_55 := V_b2_54.other W55 ne_b2_b3
  have Kp55 : Keep h0 h55 [] := Kp54.wr W55 (Or.inr sz_b3)
  refine OGo.dup K (pc' := 298) at_297 rfl rfl ?_
  refine OGo.bipush K (pc' := 300) (z := 16) at_298 rfl rfl ?_
  refine OGo.iconst K (pc' := 301) (z := 2) at_300 rfl rfl ?_
  refine OGo.iastore K (pc' := 302) (i := 16) V_b3_55 (by decide) rfl (Nat.le_of_ble_eq_true rfl) g_b3 at_301 rfl ?_
  intro h56 W56 V_b3_56
  have Z56 : n0 ≤ h56.size := by rw [W56.size]; exact Z55
  replace V_b3_56 : Arv Z h56 b3 _ .int (18 : Int32) [(.int (7 : Int32)), (.int (11 : Int32)), (.int (2 : Int32)), (.int (4 : Int32)), (.int (7 : Int32)), (.int (5 : Int32)), (.int (2 : Int32)), (.int (5 : Int32)), (.int (3 : Int32)), (.int (1 : Int32)), (.int (3 : Int32)), (.int (3 : Int32)), (.int (4 : Int32)), (.int (3 : Int32)), (.int (2 : Int32)), (.int (2 : Int32)), (.int (2 : Int32)), (.int 0)] (.int 0) := V_b3_56
  have V_b1_56 := V_b1_55.other W56 ne_b1_b3
  have V_b2_56 := V_b2_55.other W56 ne_b2_b3
  have Kp56 : Keep h0 h56 [] := Kp55.wr W56 (Or.inr sz_b3)
  refine OGo.dup K (pc' := 303) at_302 rfl rfl ?_
  refine OGo.bipush K (pc' := 305) (z := 17) at_303 rfl rfl ?_
  refine OGo.iconst K (pc' := 306) (z := 2) at_305 rfl rfl ?_
  refine OGo.iastore K (pc' := 307) (i := 17) V_b3_56 (by decide) rfl (Nat.le_of_ble_eq_true rfl) g_b3 at_306 rfl ?_
  intro h57 W57 V_b3_57
  have Z57 : n0 ≤ h57.size := by rw [W57.size]; exact Z56
  replace V_b3_57 : Arv Z h57 b3 _ .int (18 : Int32) [(.int (7 : Int32)), (.int (11 : Int32)), (.int (2 : Int32)), (.int (4 : Int32)), (.int (7 : Int32)), (.int (5 : Int32)), (.int (2 : Int32)), (.int (5 : Int32)), (.int (3 : Int32)), (.int (1 : Int32)), (.int (3 : Int32)), (.int (3 : Int32)), (.int (4 : Int32)), (.int (3 : Int32)), (.int (2 : Int32)), (.int (2 : Int32)), (.int (2 : Int32)), (.int (2 : Int32))] (.int 0) := V_b3_57
  have V_b1_57 := V_b1_56.other W57 ne_b1_b3
  have V_b2_57 := V_b2_56.other W57 ne_b2_b3
  have Kp57 : Keep h0 h57 [] := Kp56.wr W57 (Or.inr sz_b3)
  refine OGo.astore K (pc' := 309) (Ls' := #[.val (.int v0), .val (.int v1), .val (.int v2), .val (.ref b1), .val (.ref b2), .val (.ref b3), .unset, .unset, .unset, .unset, .unset, .unset, .unset]) at_307 rfl rfl rfl ?_
  refine OGo.iloadN K (pc' := 310) at_309 rfl rfl ?_
  refine OGo.ldcI K (pc' := 312) (v := 2147483647) (hw _ (List.mem_of_getElem? (i := 41) rfl)) at_310 rfl ?_
  refine OGo.iand K (pc' := 313) at_312 rfl ?_
  refine OGo.bipush K (pc' := 315) (z := 18) at_313 rfl rfl ?_
  refine OGo.irem K (pc' := 316) at_315 rfl (by decide) ?_
  refine OGo.istore K (pc' := 318) (Ls' := #[.val (.int v0), .val (.int v1), .val (.int v2), .val (.ref b1), .val (.ref b2), .val (.ref b3), .val (.int ((v0 &&& (2147483647 : Int32)) % (18 : Int32))), .unset, .unset, .unset, .unset, .unset, .unset]) at_316 rfl rfl ?_
  refine OGo.aload K (pc' := 320) at_318 rfl rfl rfl ?_
  refine OGo.iload K (pc' := 322) at_320 rfl rfl ?_
  obtain ⟨hj, hjn⟩ := own_mod18 v0
  have pick : ∀ n : Nat, n < 18 → ∃ (a : Addr) (mn mx : Int32), ([(.ref x_PRODUCE), (.ref x_FETCH), (.ref x_LIST_OFFSETS), (.ref x_METADATA), (.ref x_OFFSET_COMMIT), (.ref x_OFFSET_FETCH), (.ref x_FIND_COORDINATOR), (.ref x_JOIN_GROUP), (.ref x_HEARTBEAT), (.ref x_LEAVE_GROUP), (.ref x_SYNC_GROUP), (.ref x_API_VERSIONS), (.ref x_CREATE_TOPICS), (.ref x_INIT_PRODUCER_ID), (.ref x_ADD_PARTITIONS_TO_TXN), (.ref x_ADD_OFFSETS_TO_TXN), (.ref x_END_TXN), (.ref x_TXN_OFFSET_COMMIT)] : List Value).getD n .null = .ref a ∧ ([(.int (3 : Int32)), (.int (4 : Int32)), (.int (1 : Int32)), (.int (0 : Int32)), (.int (2 : Int32)), (.int (1 : Int32)), (.int (0 : Int32)), (.int (0 : Int32)), (.int (0 : Int32)), (.int (0 : Int32)), (.int (0 : Int32)), (.int (0 : Int32)), (.int (0 : Int32)), (.int (0 : Int32)), (.int (0 : Int32)), (.int (0 : Int32)), (.int (0 : Int32)), (.int (0 : Int32))] : List Value).getD n (.int 0) = .int mn ∧ ([(.int (7 : Int32)), (.int (11 : Int32)), (.int (2 : Int32)), (.int (4 : Int32)), (.int (7 : Int32)), (.int (5 : Int32)), (.int (2 : Int32)), (.int (5 : Int32)), (.int (3 : Int32)), (.int (1 : Int32)), (.int (3 : Int32)), (.int (3 : Int32)), (.int (4 : Int32)), (.int (3 : Int32)), (.int (2 : Int32)), (.int (2 : Int32)), (.int (2 : Int32)), (.int (2 : Int32))] : List Value).getD n (.int 0) = .int mx ∧ Exa Z h0 a "com/example/exact_courier/exactcourier/protocol/ApiKey" ∧ Fld Z h0 a "com/example/exact_courier/exactcourier/protocol/ApiKey" "minVersion" "S" (.int mn) ∧ Fld Z h0 a "com/example/exact_courier/exactcourier/protocol/ApiKey" "maxVersion" "S" (.int mx) ∧ 0 ≤ mn.toInt ∧ mn.toInt ≤ mx.toInt ∧ mx.toInt ≤ 11 := by
    intro n hn0
    have hn := own_lt18 hn0
    rcases hn with rfl | rfl | rfl | rfl | rfl | rfl | rfl | rfl | rfl | rfl | rfl | rfl | rfl | rfl | rfl | rfl | rfl | rfl
    · exact ⟨_, _, _, rfl, rfl, rfl, E_PRODUCE, F_PRODUCE_minVersion, F_PRODUCE_maxVersion, by decide, by decide, by decide⟩
    · exact ⟨_, _, _, rfl, rfl, rfl, E_FETCH, F_FETCH_minVersion, F_FETCH_maxVersion, by decide, by decide, by decide⟩
    · exact ⟨_, _, _, rfl, rfl, rfl, E_LIST_OFFSETS, F_LIST_OFFSETS_minVersion, F_LIST_OFFSETS_maxVersion, by decide, by decide, by decide⟩
    · exact ⟨_, _, _, rfl, rfl, rfl, E_METADATA, F_METADATA_minVersion, F_METADATA_maxVersion, by decide, by decide, by decide⟩
    · exact ⟨_, _, _, rfl, rfl, rfl, E_OFFSET_COMMIT, F_OFFSET_COMMIT_minVersion, F_OFFSET_COMMIT_maxVersion, by decide, by decide, by decide⟩
    · exact ⟨_, _, _, rfl, rfl, rfl, E_OFFSET_FETCH, F_OFFSET_FETCH_minVersion, F_OFFSET_FETCH_maxVersion, by decide, by decide, by decide⟩
    · exact ⟨_, _, _, rfl, rfl, rfl, E_FIND_COORDINATOR, F_FIND_COORDINATOR_minVersion, F_FIND_COORDINATOR_maxVersion, by decide, by decide, by decide⟩
    · exact ⟨_, _, _, rfl, rfl, rfl, E_JOIN_GROUP, F_JOIN_GROUP_minVersion, F_JOIN_GROUP_maxVersion, by decide, by decide, by decide⟩
    · exact ⟨_, _, _, rfl, rfl, rfl, E_HEARTBEAT, F_HEARTBEAT_minVersion, F_HEARTBEAT_maxVersion, by decide, by decide, by decide⟩
    · exact ⟨_, _, _, rfl, rfl, rfl, E_LEAVE_GROUP, F_LEAVE_GROUP_minVersion, F_LEAVE_GROUP_maxVersion, by decide, by decide, by decide⟩
    · exact ⟨_, _, _, rfl, rfl, rfl, E_SYNC_GROUP, F_SYNC_GROUP_minVersion, F_SYNC_GROUP_maxVersion, by decide, by decide, by decide⟩
    · exact ⟨_, _, _, rfl, rfl, rfl, E_API_VERSIONS, F_API_VERSIONS_minVersion, F_API_VERSIONS_maxVersion, by decide, by decide, by decide⟩
    · exact ⟨_, _, _, rfl, rfl, rfl, E_CREATE_TOPICS, F_CREATE_TOPICS_minVersion, F_CREATE_TOPICS_maxVersion, by decide, by decide, by decide⟩
    · exact ⟨_, _, _, rfl, rfl, rfl, E_INIT_PRODUCER_ID, F_INIT_PRODUCER_ID_minVersion, F_INIT_PRODUCER_ID_maxVersion, by decide, by decide, by decide⟩
    · exact ⟨_, _, _, rfl, rfl, rfl, E_ADD_PARTITIONS_TO_TXN, F_ADD_PARTITIONS_TO_TXN_minVersion, F_ADD_PARTITIONS_TO_TXN_maxVersion, by decide, by decide, by decide⟩
    · exact ⟨_, _, _, rfl, rfl, rfl, E_ADD_OFFSETS_TO_TXN, F_ADD_OFFSETS_TO_TXN_minVersion, F_ADD_OFFSETS_TO_TXN_maxVersion, by decide, by decide, by decide⟩
    · exact ⟨_, _, _, rfl, rfl, rfl, E_END_TXN, F_END_TXN_minVersion, F_END_TXN_maxVersion, by decide, by decide, by decide⟩
    · exact ⟨_, _, _, rfl, rfl, rfl, E_TXN_OFFSET_COMMIT, F_TXN_OFFSET_COMMIT_minVersion, F_TXN_OFFSET_COMMIT_maxVersion, by decide, by decide, by decide⟩
  obtain ⟨a, mn, mx, q1, q2, q3, Ea, Fa1, Fa2, r1, r2, r3⟩ := pick _ hjn
  clear pick
  refine OGo.iaload K (pc' := 323) (v := (.int mn)) V_b2_57 hj q2 at_322 rfl ?_
  refine OGo.istore K (pc' := 325) (Ls' := #[.val (.int v0), .val (.int v1), .val (.int v2), .val (.ref b1), .val (.ref b2), .val (.ref b3), .val (.int ((v0 &&& (2147483647 : Int32)) % (18 : Int32))), .val (.int mn), .unset, .unset, .unset, .unset, .unset]) at_323 rfl rfl ?_
  refine OGo.aload K (pc' := 327) at_325 rfl rfl rfl ?_
  refine OGo.iload K (pc' := 329) at_327 rfl rfl ?_
  refine OGo.iaload K (pc' := 330) (v := (.int mx)) V_b3_57 hj q3 at_329 rfl ?_
  refine OGo.istore K (pc' := 332) (Ls' := #[.val (.int v0), .val (.int v1), .val (.int v2), .val (.ref b1), .val (.ref b2), .val (.ref b3), .val (.int ((v0 &&& (2147483647 : Int32)) % (18 : Int32))), .val (.int mn), .val (.int mx), .unset, .unset, .unset, .unset]) at_330 rfl rfl ?_
  refine OGo.iloadN K (pc' := 333) at_332 rfl rfl ?_
  refine OGo.bipush K (pc' := 335) (z := 7) at_333 rfl rfl ?_
  refine OGo.iand K (pc' := 336) at_335 rfl ?_
  refine OGo.istore K (pc' := 338) (Ls' := #[.val (.int v0), .val (.int v1), .val (.int v2), .val (.ref b1), .val (.ref b2), .val (.ref b3), .val (.int ((v0 &&& (2147483647 : Int32)) % (18 : Int32))), .val (.int mn), .val (.int mx), .val (.int (v1 &&& (7 : Int32))), .unset, .unset, .unset]) at_336 rfl rfl ?_
  have J : ∀ ver : Int32, -32768 ≤ ver.toInt → ver.toInt ≤ 32767 → OGo p l e room_1 s m #[(.int v0), (.int v1), (.int v2)] below meth c n0 (OV fun w h => w = .int 1) h57 3 54 423 #[.val (.int v0), .val (.int v1), .val (.int v2), .val (.ref b1), .val (.ref b2), .val (.ref b3), .val (.int ((v0 &&& (2147483647 : Int32)) % (18 : Int32))), .val (.int mn), .val (.int mx), .val (.int (v1 &&& (7 : Int32))), .val (.int ver), .unset, .unset] [] := by
    intro ver g1 g2
    have hv := own_rgv g1 g2
    have hm := own_rgm r1 r2 r3
    have hx := own_rgx r1 r2 r3
    have es : ver.toInt16.toInt32 = ver := own_i2s g1 g2
    refine OGo.iload K (pc' := 425) at_423 rfl rfl ?_
    refine OGo.i2s K (pc' := 426) at_425 rfl ?_
    refine OGo.istore K (pc' := 428) (Ls' := #[.val (.int v0), .val (.int v1), .val (.int v2), .val (.ref b1), .val (.ref b2), .val (.ref b3), .val (.int ((v0 &&& (2147483647 : Int32)) % (18 : Int32))), .val (.int mn), .val (.int mx), .val (.int (v1 &&& (7 : Int32))), .val (.int ver), .val (.int (ver.toInt16.toInt32)), .unset]) at_426 rfl rfl ?_
    refine OGo.iload K (pc' := 430) at_428 rfl rfl ?_
    refine OGo.iload K (pc' := 432) at_430 rfl rfl ?_
    refine OGo.isub K (pc' := 433) at_432 rfl ?_
    refine OGo.ifLt K (pc' := 436) (pcY := 448) at_433 rfl (by decide) rfl (fun c1 => ?_) (fun c1 => ?_)
    · skip
      refine OGo.iconst K (pc' := 449) (z := 0) at_448 rfl rfl ?_
      refine OGo.istore K (pc' := 451) (Ls' := #[.val (.int v0), .val (.int v1), .val (.int v2), .val (.ref b1), .val (.ref b2), .val (.ref b3), .val (.int ((v0 &&& (2147483647 : Int32)) % (18 : Int32))), .val (.int mn), .val (.int mx), .val (.int (v1 &&& (7 : Int32))), .val (.int ver), .val (.int (ver.toInt16.toInt32)), .val (.int (0 : Int32))]) at_449 rfl rfl ?_
      refine OGo.aloadN K (pc' := 452) at_451 rfl rfl rfl ?_
      refine OGo.iload K (pc' := 454) at_452 rfl rfl ?_
      refine OGo.aaload K (pc' := 455) (v := (.ref a)) V_b1_57 rfl hj q1 at_454 rfl ?_
      refine OGo.iload K (pc' := 457) at_455 rfl rfl ?_
      refine OGo.callVV K (pc' := 460) (y := (⟨"com/example/exact_courier/exactcourier/protocol/ApiKey", "supports", "(S)Z"⟩ : MethodName)) (z := (⟨"com/example/exact_courier/exactcourier/protocol/ApiKey", "supports", "(S)Z"⟩ : MethodName)) (a := a) (W := 0) (cells' := 3) (slots' := 54) (argsL := [(.int (ver.toInt16.toInt32))]) (st := []) (Ea.keep Kp57) (hw _ (List.mem_of_getElem? (i := 42) rfl)) (hw _ (List.mem_of_getElem? (i := 43) rfl)) (notFace_of_selects (args := #[]) (mvT K.hZ (hw _ (List.mem_of_getElem? (i := 45) rfl)))) (hw _ (List.mem_of_getElem? (i := 45) rfl)) (hw _ (List.mem_of_getElem? (i := 44) rfl)) (hw _ (List.mem_of_getElem? (i := 3) rfl)) (hw _ (List.mem_of_getElem? (i := 46) rfl)) (by decide) (own_rm1 l Z a0 hw a _ mn mx h57 n0 Z57 (Fa1.keep Kp57 nin0) (Fa2.keep Kp57 nin0)) at_457 rfl rfl (lenOf own_pd1 rfl) (by show 2 * 0 + _ ≤ _; exact Nat.le_of_eq rfl) (by decide) (by decide) rfl rfl (by decide) (by decide) ?_
      rintro _ h58 ⟨rfl, e58⟩
      rw [e58]
      show OGo p l e _ s m _ below meth c n0 _ h57 3 54 460 #[.val (.int v0), .val (.int v1), .val (.int v2), .val (.ref b1), .val (.ref b2), .val (.ref b3), .val (.int ((v0 &&& (2147483647 : Int32)) % (18 : Int32))), .val (.int mn), .val (.int mx), .val (.int (v1 &&& (7 : Int32))), .val (.int ver), .val (.int (ver.toInt16.toInt32)), .val (.int (0 : Int32))] [(.int (if ver.toInt16.toInt32 < mn then 0 else if mx < ver.toInt16.toInt32 then 0 else 1))]
      refine OGo.iload K (pc' := 462) at_460 rfl rfl ?_
      refine OGo.icmpNe K (pc' := 465) (pcY := 469) at_462 rfl (by decide) rfl (fun hc462 => absurd (by rw [es, if_pos ((own_sub0 hv hm).mp c1)] : (if ver.toInt16.toInt32 < mn then 0 else if mx < ver.toInt16.toInt32 then 0 else 1) = (0 : Int32)) hc462) (fun hc462 => ?_)
      refine OGo.iconst K (pc' := 466) (z := 1) at_465 rfl rfl ?_
      refine OGo.goto K (pc' := 470) at_466 (by decide) rfl ?_
      exact OGo.ret K at_470 rfl (Or.inl ⟨rfl, by simp, _, rfl⟩) (by decide) (by decide) ⟨_, rfl, rfl⟩
    · skip
      refine OGo.iload K (pc' := 438) at_436 rfl rfl ?_
      refine OGo.iload K (pc' := 440) at_438 rfl rfl ?_
      refine OGo.isub K (pc' := 441) at_440 rfl ?_
      refine OGo.ifLt K (pc' := 444) (pcY := 448) at_441 rfl (by decide) rfl (fun c2 => ?_) (fun c2 => ?_)
      · skip
        refine OGo.iconst K (pc' := 449) (z := 0) at_448 rfl rfl ?_
        refine OGo.istore K (pc' := 451) (Ls' := #[.val (.int v0), .val (.int v1), .val (.int v2), .val (.ref b1), .val (.ref b2), .val (.ref b3), .val (.int ((v0 &&& (2147483647 : Int32)) % (18 : Int32))), .val (.int mn), .val (.int mx), .val (.int (v1 &&& (7 : Int32))), .val (.int ver), .val (.int (ver.toInt16.toInt32)), .val (.int (0 : Int32))]) at_449 rfl rfl ?_
        refine OGo.aloadN K (pc' := 452) at_451 rfl rfl rfl ?_
        refine OGo.iload K (pc' := 454) at_452 rfl rfl ?_
        refine OGo.aaload K (pc' := 455) (v := (.ref a)) V_b1_57 rfl hj q1 at_454 rfl ?_
        refine OGo.iload K (pc' := 457) at_455 rfl rfl ?_
        refine OGo.callVV K (pc' := 460) (y := (⟨"com/example/exact_courier/exactcourier/protocol/ApiKey", "supports", "(S)Z"⟩ : MethodName)) (z := (⟨"com/example/exact_courier/exactcourier/protocol/ApiKey", "supports", "(S)Z"⟩ : MethodName)) (a := a) (W := 0) (cells' := 3) (slots' := 54) (argsL := [(.int (ver.toInt16.toInt32))]) (st := []) (Ea.keep Kp57) (hw _ (List.mem_of_getElem? (i := 42) rfl)) (hw _ (List.mem_of_getElem? (i := 43) rfl)) (notFace_of_selects (args := #[]) (mvT K.hZ (hw _ (List.mem_of_getElem? (i := 45) rfl)))) (hw _ (List.mem_of_getElem? (i := 45) rfl)) (hw _ (List.mem_of_getElem? (i := 44) rfl)) (hw _ (List.mem_of_getElem? (i := 3) rfl)) (hw _ (List.mem_of_getElem? (i := 46) rfl)) (by decide) (own_rm1 l Z a0 hw a _ mn mx h57 n0 Z57 (Fa1.keep Kp57 nin0) (Fa2.keep Kp57 nin0)) at_457 rfl rfl (lenOf own_pd1 rfl) (by show 2 * 0 + _ ≤ _; exact Nat.le_of_eq rfl) (by decide) (by decide) rfl rfl (by decide) (by decide) ?_
        rintro _ h59 ⟨rfl, e59⟩
        rw [e59]
        show OGo p l e _ s m _ below meth c n0 _ h57 3 54 460 #[.val (.int v0), .val (.int v1), .val (.int v2), .val (.ref b1), .val (.ref b2), .val (.ref b3), .val (.int ((v0 &&& (2147483647 : Int32)) % (18 : Int32))), .val (.int mn), .val (.int mx), .val (.int (v1 &&& (7 : Int32))), .val (.int ver), .val (.int (ver.toInt16.toInt32)), .val (.int (0 : Int32))] [(.int (if ver.toInt16.toInt32 < mn then 0 else if mx < ver.toInt16.toInt32 then 0 else 1))]
        refine OGo.iload K (pc' := 462) at_460 rfl rfl ?_
        refine OGo.icmpNe K (pc' := 465) (pcY := 469) at_462 rfl (by decide) rfl (fun hc462 => absurd (by rw [es, if_neg (fun q => c1 ((own_sub0 hv hm).mpr q)), if_pos ((own_sub0 hx hv).mp c2)] : (if ver.toInt16.toInt32 < mn then 0 else if mx < ver.toInt16.toInt32 then 0 else 1) = (0 : Int32)) hc462) (fun hc462 => ?_)
        refine OGo.iconst K (pc' := 466) (z := 1) at_465 rfl rfl ?_
        refine OGo.goto K (pc' := 470) at_466 (by decide) rfl ?_
        exact OGo.ret K at_470 rfl (Or.inl ⟨rfl, by simp, _, rfl⟩) (by decide) (by decide) ⟨_, rfl, rfl⟩
      · skip
        refine OGo.iconst K (pc' := 445) (z := 1) at_444 rfl rfl ?_
        refine OGo.goto K (pc' := 449) at_445 (by decide) rfl ?_
        refine OGo.istore K (pc' := 451) (Ls' := #[.val (.int v0), .val (.int v1), .val (.int v2), .val (.ref b1), .val (.ref b2), .val (.ref b3), .val (.int ((v0 &&& (2147483647 : Int32)) % (18 : Int32))), .val (.int mn), .val (.int mx), .val (.int (v1 &&& (7 : Int32))), .val (.int ver), .val (.int (ver.toInt16.toInt32)), .val (.int (1 : Int32))]) at_449 rfl rfl ?_
        refine OGo.aloadN K (pc' := 452) at_451 rfl rfl rfl ?_
        refine OGo.iload K (pc' := 454) at_452 rfl rfl ?_
        refine OGo.aaload K (pc' := 455) (v := (.ref a)) V_b1_57 rfl hj q1 at_454 rfl ?_
        refine OGo.iload K (pc' := 457) at_455 rfl rfl ?_
        refine OGo.callVV K (pc' := 460) (y := (⟨"com/example/exact_courier/exactcourier/protocol/ApiKey", "supports", "(S)Z"⟩ : MethodName)) (z := (⟨"com/example/exact_courier/exactcourier/protocol/ApiKey", "supports", "(S)Z"⟩ : MethodName)) (a := a) (W := 0) (cells' := 3) (slots' := 54) (argsL := [(.int (ver.toInt16.toInt32))]) (st := []) (Ea.keep Kp57) (hw _ (List.mem_of_getElem? (i := 42) rfl)) (hw _ (List.mem_of_getElem? (i := 43) rfl)) (notFace_of_selects (args := #[]) (mvT K.hZ (hw _ (List.mem_of_getElem? (i := 45) rfl)))) (hw _ (List.mem_of_getElem? (i := 45) rfl)) (hw _ (List.mem_of_getElem? (i := 44) rfl)) (hw _ (List.mem_of_getElem? (i := 3) rfl)) (hw _ (List.mem_of_getElem? (i := 46) rfl)) (by decide) (own_rm1 l Z a0 hw a _ mn mx h57 n0 Z57 (Fa1.keep Kp57 nin0) (Fa2.keep Kp57 nin0)) at_457 rfl rfl (lenOf own_pd1 rfl) (by show 2 * 0 + _ ≤ _; exact Nat.le_of_eq rfl) (by decide) (by decide) rfl rfl (by decide) (by decide) ?_
        rintro _ h60 ⟨rfl, e60⟩
        rw [e60]
        show OGo p l e _ s m _ below meth c n0 _ h57 3 54 460 #[.val (.int v0), .val (.int v1), .val (.int v2), .val (.ref b1), .val (.ref b2), .val (.ref b3), .val (.int ((v0 &&& (2147483647 : Int32)) % (18 : Int32))), .val (.int mn), .val (.int mx), .val (.int (v1 &&& (7 : Int32))), .val (.int ver), .val (.int (ver.toInt16.toInt32)), .val (.int (1 : Int32))] [(.int (if ver.toInt16.toInt32 < mn then 0 else if mx < ver.toInt16.toInt32 then 0 else 1))]
        refine OGo.iload K (pc' := 462) at_460 rfl rfl ?_
        refine OGo.icmpNe K (pc' := 465) (pcY := 469) at_462 rfl (by decide) rfl (fun hc462 => absurd (by rw [es, if_neg (fun q => c1 ((own_sub0 hv hm).mpr q)), if_neg (fun q => c2 ((own_sub0 hx hv).mpr q))] : (if ver.toInt16.toInt32 < mn then 0 else if mx < ver.toInt16.toInt32 then 0 else 1) = (1 : Int32)) hc462) (fun hc462 => ?_)
        refine OGo.iconst K (pc' := 466) (z := 1) at_465 rfl rfl ?_
        refine OGo.goto K (pc' := 470) at_466 (by decide) rfl ?_
        exact OGo.ret K at_470 rfl (Or.inl ⟨rfl, by simp, _, rfl⟩) (by decide) (by decide) ⟨_, rfl, rfl⟩
  refine OGo.iload K (pc' := 340) at_338 rfl rfl ?_
  refine OGo.ifNe K (pc' := 343) (pcY := 352) at_340 rfl (by decide) rfl (fun hc340 => ?_) (fun hc340 => ?_)
  rotate_left
  · skip
    refine OGo.iload K (pc' := 345) at_343 rfl rfl ?_
    refine OGo.iconst K (pc' := 346) (z := 1) at_345 rfl rfl ?_
    refine OGo.isub K (pc' := 347) at_346 rfl ?_
    refine OGo.istore K (pc' := 349) (Ls' := #[.val (.int v0), .val (.int v1), .val (.int v2), .val (.ref b1), .val (.ref b2), .val (.ref b3), .val (.int ((v0 &&& (2147483647 : Int32)) % (18 : Int32))), .val (.int mn), .val (.int mx), .val (.int (v1 &&& (7 : Int32))), .val (.int (mn - (1 : Int32))), .unset, .unset]) at_347 rfl rfl ?_
    refine OGo.goto K (pc' := 423) at_349 (by decide) rfl ?_
    exact J _ (own_bd1 r1 r2 r3).1 (own_bd1 r1 r2 r3).2
  refine OGo.iload K (pc' := 354) at_352 rfl rfl ?_
  refine OGo.iconst K (pc' := 355) (z := 1) at_354 rfl rfl ?_
  refine OGo.icmpNe K (pc' := 358) (pcY := 365) at_355 rfl (by decide) rfl (fun hc355 => ?_) (fun hc355 => ?_)
  rotate_left
  · skip
    refine OGo.iload K (pc' := 360) at_358 rfl rfl ?_
    refine OGo.istore K (pc' := 362) (Ls' := #[.val (.int v0), .val (.int v1), .val (.int v2), .val (.ref b1), .val (.ref b2), .val (.ref b3), .val (.int ((v0 &&& (2147483647 : Int32)) % (18 : Int32))), .val (.int mn), .val (.int mx), .val (.int (v1 &&& (7 : Int32))), .val (.int mn), .unset, .unset]) at_360 rfl rfl ?_
    refine OGo.goto K (pc' := 423) at_362 (by decide) rfl ?_
    exact J _ (own_bd3 r1 r2 r3).1.1 (own_bd3 r1 r2 r3).1.2
  refine OGo.iload K (pc' := 367) at_365 rfl rfl ?_
  refine OGo.iconst K (pc' := 368) (z := 2) at_367 rfl rfl ?_
  refine OGo.icmpNe K (pc' := 371) (pcY := 378) at_368 rfl (by decide) rfl (fun hc368 => ?_) (fun hc368 => ?_)
  rotate_left
  · skip
    refine OGo.iload K (pc' := 373) at_371 rfl rfl ?_
    refine OGo.istore K (pc' := 375) (Ls' := #[.val (.int v0), .val (.int v1), .val (.int v2), .val (.ref b1), .val (.ref b2), .val (.ref b3), .val (.int ((v0 &&& (2147483647 : Int32)) % (18 : Int32))), .val (.int mn), .val (.int mx), .val (.int (v1 &&& (7 : Int32))), .val (.int mx), .unset, .unset]) at_373 rfl rfl ?_
    refine OGo.goto K (pc' := 423) at_375 (by decide) rfl ?_
    exact J _ (own_bd3 r1 r2 r3).2.1 (own_bd3 r1 r2 r3).2.2
  refine OGo.iload K (pc' := 380) at_378 rfl rfl ?_
  refine OGo.iconst K (pc' := 381) (z := 3) at_380 rfl rfl ?_
  refine OGo.icmpNe K (pc' := 384) (pcY := 393) at_381 rfl (by decide) rfl (fun hc381 => ?_) (fun hc381 => ?_)
  rotate_left
  · skip
    refine OGo.iload K (pc' := 386) at_384 rfl rfl ?_
    refine OGo.iconst K (pc' := 387) (z := 1) at_386 rfl rfl ?_
    refine OGo.iadd K (pc' := 388) at_387 rfl ?_
    refine OGo.istore K (pc' := 390) (Ls' := #[.val (.int v0), .val (.int v1), .val (.int v2), .val (.ref b1), .val (.ref b2), .val (.ref b3), .val (.int ((v0 &&& (2147483647 : Int32)) % (18 : Int32))), .val (.int mn), .val (.int mx), .val (.int (v1 &&& (7 : Int32))), .val (.int (mx + (1 : Int32))), .unset, .unset]) at_388 rfl rfl ?_
    refine OGo.goto K (pc' := 423) at_390 (by decide) rfl ?_
    exact J _ (own_bd2 r1 r2 r3).1 (own_bd2 r1 r2 r3).2
  refine OGo.iload K (pc' := 395) at_393 rfl rfl ?_
  refine OGo.iconst K (pc' := 396) (z := 4) at_395 rfl rfl ?_
  refine OGo.icmpNe K (pc' := 399) (pcY := 419) at_396 rfl (by decide) rfl (fun hc396 => ?_) (fun hc396 => ?_)
  rotate_left
  · skip
    refine OGo.iload K (pc' := 401) at_399 rfl rfl ?_
    refine OGo.iloadN K (pc' := 402) at_401 rfl rfl ?_
    refine OGo.ldcI K (pc' := 404) (v := 2147483647) (hw _ (List.mem_of_getElem? (i := 41) rfl)) at_402 rfl ?_
    refine OGo.iand K (pc' := 405) at_404 rfl ?_
    refine OGo.iload K (pc' := 407) at_405 rfl rfl ?_
    refine OGo.iload K (pc' := 409) at_407 rfl rfl ?_
    refine OGo.isub K (pc' := 410) at_409 rfl ?_
    refine OGo.iconst K (pc' := 411) (z := 1) at_410 rfl rfl ?_
    refine OGo.iadd K (pc' := 412) at_411 rfl ?_
    refine OGo.irem K (pc' := 413) at_412 rfl (own_nz r1 r2 r3) ?_
    refine OGo.iadd K (pc' := 414) at_413 rfl ?_
    refine OGo.istore K (pc' := 416) (Ls' := #[.val (.int v0), .val (.int v1), .val (.int v2), .val (.ref b1), .val (.ref b2), .val (.ref b3), .val (.int ((v0 &&& (2147483647 : Int32)) % (18 : Int32))), .val (.int mn), .val (.int mx), .val (.int (v1 &&& (7 : Int32))), .val (.int (mn + ((v2 &&& (2147483647 : Int32)) % ((mx - mn) + (1 : Int32))))), .unset, .unset]) at_414 rfl rfl ?_
    refine OGo.goto K (pc' := 423) at_416 (by decide) rfl ?_
    exact J _ (own_m4 r1 r2 r3 v2).1 (own_m4 r1 r2 r3 v2).2
  refine OGo.iloadN K (pc' := 420) at_419 rfl rfl ?_
  refine OGo.i2s K (pc' := 421) at_420 rfl ?_
  refine OGo.istore K (pc' := 423) (Ls' := #[.val (.int v0), .val (.int v1), .val (.int v2), .val (.ref b1), .val (.ref b2), .val (.ref b3), .val (.int ((v0 &&& (2147483647 : Int32)) % (18 : Int32))), .val (.int mn), .val (.int mx), .val (.int (v1 &&& (7 : Int32))), .val (.int (v2.toInt16.toInt32)), .unset, .unset]) at_421 rfl rfl ?_
  exact J _ (own_bdv v2).1 (own_bdv v2).2
set_option maxRecDepth 65536 in
set_option maxHeartbeats 40000000 in
theorem own_comes {Post : Tables → Env → Array Value → State → Outcome → State → Prop} (hpost : ∀ tb e args s v u, (limb_1_1.after args s (.returned v) u = true ∧ limb_1_2.after args s (.returned v) u = true ∧ True) → FrameEnd s (.returned v) u (Jvm.fieldLocs frame_1_writes args s ++ Jvm.arrayLocs frame_1_arrays args s ++ Jvm.staticLocs frame_1_statics s) 16 192 → Post tb e args s (.returned v) u) :
    ArmFor flags0 classFile x code maxLocals ret World_1 tables_1 room_1 Calls_1 rest_1 Pre_1 Post := by
  intro l hfl _ _ p e ha hc hk s m args below hf hA hF happ hP
  obtain ⟨hcalls, hrest, hpre⟩ := hP
  obtain ⟨-, -, -, hnamed, -, -, -, hat⟩ := (Spec.applies_iff hf).mp happ
  obtain ⟨hg, hn⟩ := and_e (Cond.before_iff.mp (show (Jvm.Cond.and given_1 narrow_1).before args s = true from hpre))
  obtain ⟨gg1, gg2⟩ := and_e hg
  obtain ⟨gg3, gg4⟩ := and_e gg2
  obtain ⟨gg5, gg6⟩ := and_e gg4
  obtain ⟨w0, w1, w2, rfl⟩ : ∃ w0 w1 w2 : Value, args = #[w0, w1, w2] := by
    have hs : args.size = 3 := by simpa [Cond.value, given_1] using gg1
    obtain ⟨L⟩ := args
    match L, hs with
    | [w0, w1, w2], _ => exact ⟨w0, w1, w2, rfl⟩
  have hw := fun d (hd : d ∈ tables_1) => atoms_spec (ws := Jvm.Cond.code x code maxLocals ret :: tables_1) hat d (List.mem_cons_of_mem _ hd)
  have hfit : Fit s := fun {y c} hc i hi => by
    obtain ⟨ha, rfl⟩ := Array.getElem?_eq_some_iff.mp hc
    have q := List.all_eq_true.mp ((Array.all_eq_true_iff_forall_mem.mp hF) _ (Array.getElem_mem ha)) i (List.mem_range.mpr hi)
    simpa [Array.getElem?_eq_getElem hi] using q
  obtain ⟨i0, ei0⟩ := is_v gg3
  obtain rfl : w0 = (.int i0) := Option.some.inj ei0
  obtain ⟨i1, ei1⟩ := is_v gg5
  obtain rfl : w1 = (.int i1) := Option.some.inj ei1
  obtain ⟨i2, ei2⟩ := is_v gg6
  obtain rfl : w2 = (.int i2) := Option.some.inj ei2
  obtain ⟨nn0, nr0⟩ := and_e hn
  obtain ⟨nn1, nr1⟩ := and_e nr0
  obtain ⟨nn2, nr2⟩ := and_e nr1
  obtain ⟨nn3, nr3⟩ := and_e nr2
  obtain ⟨nn4, nr4⟩ := and_e nr3
  obtain ⟨nn5, nr5⟩ := and_e nr4
  obtain ⟨nn6, nr6⟩ := and_e nr5
  obtain ⟨nn7, nr7⟩ := and_e nr6
  obtain ⟨nn8, nr8⟩ := and_e nr7
  obtain ⟨nn9, nr9⟩ := and_e nr8
  obtain ⟨nn10, nr10⟩ := and_e nr9
  obtain ⟨nn11, nr11⟩ := and_e nr10
  obtain ⟨nn12, nr12⟩ := and_e nr11
  obtain ⟨nn13, nr13⟩ := and_e nr12
  obtain ⟨nn14, nr14⟩ := and_e nr13
  obtain ⟨nn15, nr15⟩ := and_e nr14
  obtain ⟨nn16, nr16⟩ := and_e nr15
  obtain ⟨nn17, nr17⟩ := and_e nr16
  obtain ⟨nn18, nr18⟩ := and_e nr17
  obtain ⟨nn19, nr19⟩ := and_e nr18
  obtain ⟨nn20, nr20⟩ := and_e nr19
  obtain ⟨nn21, nr21⟩ := and_e nr20
  obtain ⟨nn22, nr22⟩ := and_e nr21
  obtain ⟨nn23, nr23⟩ := and_e nr22
  obtain ⟨nn24, nr24⟩ := and_e nr23
  obtain ⟨nn25, nr25⟩ := and_e nr24
  obtain ⟨nn26, nr26⟩ := and_e nr25
  obtain ⟨nn27, nr27⟩ := and_e nr26
  obtain ⟨nn28, nr28⟩ := and_e nr27
  obtain ⟨nn29, nr29⟩ := and_e nr28
  obtain ⟨nn30, nr30⟩ := and_e nr29
  obtain ⟨nn31, nr31⟩ := and_e nr30
  obtain ⟨nn32, nr32⟩ := and_e nr31
  obtain ⟨nn33, nr33⟩ := and_e nr32
  obtain ⟨nn34, nr34⟩ := and_e nr33
  obtain ⟨nn35, nr35⟩ := and_e nr34
  obtain ⟨nn36, nr36⟩ := and_e nr35
  obtain ⟨nn37, nr37⟩ := and_e nr36
  obtain ⟨nn38, nr38⟩ := and_e nr37
  obtain ⟨nn39, nr39⟩ := and_e nr38
  obtain ⟨nn40, nr40⟩ := and_e nr39
  obtain ⟨nn41, nr41⟩ := and_e nr40
  obtain ⟨nn42, nr42⟩ := and_e nr41
  obtain ⟨nn43, nr43⟩ := and_e nr42
  obtain ⟨nn44, nr44⟩ := and_e nr43
  obtain ⟨nn45, nr45⟩ := and_e nr44
  obtain ⟨nn46, nr46⟩ := and_e nr45
  obtain ⟨nn47, nr47⟩ := and_e nr46
  obtain ⟨nn48, nr48⟩ := and_e nr47
  obtain ⟨nn49, nr49⟩ := and_e nr48
  obtain ⟨nn50, nr50⟩ := and_e nr49
  obtain ⟨nn51, nr51⟩ := and_e nr50
  obtain ⟨nn52, nr52⟩ := and_e nr51
  obtain ⟨x_PRODUCE, ev_PRODUCE⟩ := exa_v nn0
  have S_PRODUCE := Sta.start ev_PRODUCE (Or.inr ⟨(hw _ (List.mem_of_getElem? (i := 3) rfl)), (hw _ (List.mem_of_getElem? (i := 4) rfl))⟩)
  have E_PRODUCE := Exa.start ev_PRODUCE nn0
  obtain ⟨x_FETCH, ev_FETCH⟩ := exa_v nn1
  have S_FETCH := Sta.start ev_FETCH (Or.inr ⟨(hw _ (List.mem_of_getElem? (i := 3) rfl)), (hw _ (List.mem_of_getElem? (i := 7) rfl))⟩)
  have E_FETCH := Exa.start ev_FETCH nn1
  obtain ⟨x_LIST_OFFSETS, ev_LIST_OFFSETS⟩ := exa_v nn2
  have S_LIST_OFFSETS := Sta.start ev_LIST_OFFSETS (Or.inr ⟨(hw _ (List.mem_of_getElem? (i := 3) rfl)), (hw _ (List.mem_of_getElem? (i := 9) rfl))⟩)
  have E_LIST_OFFSETS := Exa.start ev_LIST_OFFSETS nn2
  obtain ⟨x_METADATA, ev_METADATA⟩ := exa_v nn3
  have S_METADATA := Sta.start ev_METADATA (Or.inr ⟨(hw _ (List.mem_of_getElem? (i := 3) rfl)), (hw _ (List.mem_of_getElem? (i := 11) rfl))⟩)
  have E_METADATA := Exa.start ev_METADATA nn3
  obtain ⟨x_OFFSET_COMMIT, ev_OFFSET_COMMIT⟩ := exa_v nn4
  have S_OFFSET_COMMIT := Sta.start ev_OFFSET_COMMIT (Or.inr ⟨(hw _ (List.mem_of_getElem? (i := 3) rfl)), (hw _ (List.mem_of_getElem? (i := 13) rfl))⟩)
  have E_OFFSET_COMMIT := Exa.start ev_OFFSET_COMMIT nn4
  obtain ⟨x_OFFSET_FETCH, ev_OFFSET_FETCH⟩ := exa_v nn5
  have S_OFFSET_FETCH := Sta.start ev_OFFSET_FETCH (Or.inr ⟨(hw _ (List.mem_of_getElem? (i := 3) rfl)), (hw _ (List.mem_of_getElem? (i := 15) rfl))⟩)
  have E_OFFSET_FETCH := Exa.start ev_OFFSET_FETCH nn5
  obtain ⟨x_FIND_COORDINATOR, ev_FIND_COORDINATOR⟩ := exa_v nn6
  have S_FIND_COORDINATOR := Sta.start ev_FIND_COORDINATOR (Or.inr ⟨(hw _ (List.mem_of_getElem? (i := 3) rfl)), (hw _ (List.mem_of_getElem? (i := 17) rfl))⟩)
  have E_FIND_COORDINATOR := Exa.start ev_FIND_COORDINATOR nn6
  obtain ⟨x_JOIN_GROUP, ev_JOIN_GROUP⟩ := exa_v nn7
  have S_JOIN_GROUP := Sta.start ev_JOIN_GROUP (Or.inr ⟨(hw _ (List.mem_of_getElem? (i := 3) rfl)), (hw _ (List.mem_of_getElem? (i := 19) rfl))⟩)
  have E_JOIN_GROUP := Exa.start ev_JOIN_GROUP nn7
  obtain ⟨x_HEARTBEAT, ev_HEARTBEAT⟩ := exa_v nn8
  have S_HEARTBEAT := Sta.start ev_HEARTBEAT (Or.inr ⟨(hw _ (List.mem_of_getElem? (i := 3) rfl)), (hw _ (List.mem_of_getElem? (i := 21) rfl))⟩)
  have E_HEARTBEAT := Exa.start ev_HEARTBEAT nn8
  obtain ⟨x_LEAVE_GROUP, ev_LEAVE_GROUP⟩ := exa_v nn9
  have S_LEAVE_GROUP := Sta.start ev_LEAVE_GROUP (Or.inr ⟨(hw _ (List.mem_of_getElem? (i := 3) rfl)), (hw _ (List.mem_of_getElem? (i := 23) rfl))⟩)
  have E_LEAVE_GROUP := Exa.start ev_LEAVE_GROUP nn9
  obtain ⟨x_SYNC_GROUP, ev_SYNC_GROUP⟩ := exa_v nn10
  have S_SYNC_GROUP := Sta.start ev_SYNC_GROUP (Or.inr ⟨(hw _ (List.mem_of_getElem? (i := 3) rfl)), (hw _ (List.mem_of_getElem? (i := 25) rfl))⟩)
  have E_SYNC_GROUP := Exa.start ev_SYNC_GROUP nn10
  obtain ⟨x_API_VERSIONS, ev_API_VERSIONS⟩ := exa_v nn11
  have S_API_VERSIONS := Sta.start ev_API_VERSIONS (Or.inr ⟨(hw _ (List.mem_of_getElem? (i := 3) rfl)), (hw _ (List.mem_of_getElem? (i := 27) rfl))⟩)
  have E_API_VERSIONS := Exa.start ev_API_VERSIONS nn11
  obtain ⟨x_CREATE_TOPICS, ev_CREATE_TOPICS⟩ := exa_v nn12
  have S_CREATE_TOPICS := Sta.start ev_CREATE_TOPICS (Or.inr ⟨(hw _ (List.mem_of_getElem? (i := 3) rfl)), (hw _ (List.mem_of_getElem? (i := 29) rfl))⟩)
  have E_CREATE_TOPICS := Exa.start ev_CREATE_TOPICS nn12
  obtain ⟨x_INIT_PRODUCER_ID, ev_INIT_PRODUCER_ID⟩ := exa_v nn13
  have S_INIT_PRODUCER_ID := Sta.start ev_INIT_PRODUCER_ID (Or.inr ⟨(hw _ (List.mem_of_getElem? (i := 3) rfl)), (hw _ (List.mem_of_getElem? (i := 31) rfl))⟩)
  have E_INIT_PRODUCER_ID := Exa.start ev_INIT_PRODUCER_ID nn13
  obtain ⟨x_ADD_PARTITIONS_TO_TXN, ev_ADD_PARTITIONS_TO_TXN⟩ := exa_v nn14
  have S_ADD_PARTITIONS_TO_TXN := Sta.start ev_ADD_PARTITIONS_TO_TXN (Or.inr ⟨(hw _ (List.mem_of_getElem? (i := 3) rfl)), (hw _ (List.mem_of_getElem? (i := 33) rfl))⟩)
  have E_ADD_PARTITIONS_TO_TXN := Exa.start ev_ADD_PARTITIONS_TO_TXN nn14
  obtain ⟨x_ADD_OFFSETS_TO_TXN, ev_ADD_OFFSETS_TO_TXN⟩ := exa_v nn15
  have S_ADD_OFFSETS_TO_TXN := Sta.start ev_ADD_OFFSETS_TO_TXN (Or.inr ⟨(hw _ (List.mem_of_getElem? (i := 3) rfl)), (hw _ (List.mem_of_getElem? (i := 35) rfl))⟩)
  have E_ADD_OFFSETS_TO_TXN := Exa.start ev_ADD_OFFSETS_TO_TXN nn15
  obtain ⟨x_END_TXN, ev_END_TXN⟩ := exa_v nn16
  have S_END_TXN := Sta.start ev_END_TXN (Or.inr ⟨(hw _ (List.mem_of_getElem? (i := 3) rfl)), (hw _ (List.mem_of_getElem? (i := 37) rfl))⟩)
  have E_END_TXN := Exa.start ev_END_TXN nn16
  obtain ⟨x_TXN_OFFSET_COMMIT, ev_TXN_OFFSET_COMMIT⟩ := exa_v nn17
  have S_TXN_OFFSET_COMMIT := Sta.start ev_TXN_OFFSET_COMMIT (Or.inr ⟨(hw _ (List.mem_of_getElem? (i := 3) rfl)), (hw _ (List.mem_of_getElem? (i := 39) rfl))⟩)
  have E_TXN_OFFSET_COMMIT := Exa.start ev_TXN_OFFSET_COMMIT nn17
  have F_PRODUCE_minVersion := Fld.start ((fld_at ev_PRODUCE).symm.trans (own_eqi nn18))
  have F_PRODUCE_maxVersion := Fld.start ((fld_at ev_PRODUCE).symm.trans (own_eqi nn19))
  have F_FETCH_minVersion := Fld.start ((fld_at ev_FETCH).symm.trans (own_eqi nn20))
  have F_FETCH_maxVersion := Fld.start ((fld_at ev_FETCH).symm.trans (own_eqi nn21))
  have F_LIST_OFFSETS_minVersion := Fld.start ((fld_at ev_LIST_OFFSETS).symm.trans (own_eqi nn22))
  have F_LIST_OFFSETS_maxVersion := Fld.start ((fld_at ev_LIST_OFFSETS).symm.trans (own_eqi nn23))
  have F_TXN_OFFSET_COMMIT_minVersion := Fld.start ((fld_at ev_TXN_OFFSET_COMMIT).symm.trans (own_eqi nn24))
  have F_HEARTBEAT_minVersion := Fld.start ((fld_at ev_HEARTBEAT).symm.trans (own_eqi nn25))
  have F_FIND_COORDINATOR_minVersion := Fld.start ((fld_at ev_FIND_COORDINATOR).symm.trans (own_eqi nn26))
  have F_HEARTBEAT_maxVersion := Fld.start ((fld_at ev_HEARTBEAT).symm.trans (own_eqi nn27))
  have F_JOIN_GROUP_minVersion := Fld.start ((fld_at ev_JOIN_GROUP).symm.trans (own_eqi nn28))
  have F_JOIN_GROUP_maxVersion := Fld.start ((fld_at ev_JOIN_GROUP).symm.trans (own_eqi nn29))
  have F_METADATA_minVersion := Fld.start ((fld_at ev_METADATA).symm.trans (own_eqi nn30))
  have F_SYNC_GROUP_minVersion := Fld.start ((fld_at ev_SYNC_GROUP).symm.trans (own_eqi nn31))
  have F_SYNC_GROUP_maxVersion := Fld.start ((fld_at ev_SYNC_GROUP).symm.trans (own_eqi nn32))
  have F_END_TXN_minVersion := Fld.start ((fld_at ev_END_TXN).symm.trans (own_eqi nn33))
  have F_END_TXN_maxVersion := Fld.start ((fld_at ev_END_TXN).symm.trans (own_eqi nn34))
  have F_TXN_OFFSET_COMMIT_maxVersion := Fld.start ((fld_at ev_TXN_OFFSET_COMMIT).symm.trans (own_eqi nn35))
  have F_CREATE_TOPICS_minVersion := Fld.start ((fld_at ev_CREATE_TOPICS).symm.trans (own_eqi nn36))
  have F_CREATE_TOPICS_maxVersion := Fld.start ((fld_at ev_CREATE_TOPICS).symm.trans (own_eqi nn37))
  have F_API_VERSIONS_minVersion := Fld.start ((fld_at ev_API_VERSIONS).symm.trans (own_eqi nn38))
  have F_INIT_PRODUCER_ID_minVersion := Fld.start ((fld_at ev_INIT_PRODUCER_ID).symm.trans (own_eqi nn39))
  have F_LEAVE_GROUP_minVersion := Fld.start ((fld_at ev_LEAVE_GROUP).symm.trans (own_eqi nn40))
  have F_ADD_OFFSETS_TO_TXN_minVersion := Fld.start ((fld_at ev_ADD_OFFSETS_TO_TXN).symm.trans (own_eqi nn41))
  have F_ADD_OFFSETS_TO_TXN_maxVersion := Fld.start ((fld_at ev_ADD_OFFSETS_TO_TXN).symm.trans (own_eqi nn42))
  have F_FIND_COORDINATOR_maxVersion := Fld.start ((fld_at ev_FIND_COORDINATOR).symm.trans (own_eqi nn43))
  have F_OFFSET_FETCH_minVersion := Fld.start ((fld_at ev_OFFSET_FETCH).symm.trans (own_eqi nn44))
  have F_OFFSET_FETCH_maxVersion := Fld.start ((fld_at ev_OFFSET_FETCH).symm.trans (own_eqi nn45))
  have F_ADD_PARTITIONS_TO_TXN_minVersion := Fld.start ((fld_at ev_ADD_PARTITIONS_TO_TXN).symm.trans (own_eqi nn46))
  have F_ADD_PARTITIONS_TO_TXN_maxVersion := Fld.start ((fld_at ev_ADD_PARTITIONS_TO_TXN).symm.trans (own_eqi nn47))
  have F_OFFSET_COMMIT_minVersion := Fld.start ((fld_at ev_OFFSET_COMMIT).symm.trans (own_eqi nn48))
  have F_LEAVE_GROUP_maxVersion := Fld.start ((fld_at ev_LEAVE_GROUP).symm.trans (own_eqi nn49))
  have F_INIT_PRODUCER_ID_maxVersion := Fld.start ((fld_at ev_INIT_PRODUCER_ID).symm.trans (own_eqi nn50))
  have F_METADATA_maxVersion := Fld.start ((fld_at ev_METADATA).symm.trans (own_eqi nn51))
  have F_OFFSET_COMMIT_maxVersion := Fld.start ((fld_at ev_OFFSET_COMMIT).symm.trans (own_eqi nn52))
  have F_API_VERSIONS_maxVersion := Fld.start ((fld_at ev_API_VERSIONS).symm.trans (own_eqi nr52))
  obtain ⟨n, o, h1, h2, h3, _, L, rfl, ⟨⟨_, rfl, rfl⟩, N⟩, hq⟩ := own_rm0 l s _ hw tables_1 i0 i1 i2 x_PRODUCE x_FETCH x_LIST_OFFSETS x_METADATA x_OFFSET_COMMIT x_OFFSET_FETCH x_FIND_COORDINATOR x_JOIN_GROUP x_HEARTBEAT x_LEAVE_GROUP x_SYNC_GROUP x_API_VERSIONS x_CREATE_TOPICS x_INIT_PRODUCER_ID x_ADD_PARTITIONS_TO_TXN x_ADD_OFFSETS_TO_TXN x_END_TXN x_TXN_OFFSET_COMMIT s.heap s.heap.size (Nat.le_refl _) S_PRODUCE E_PRODUCE F_PRODUCE_minVersion F_PRODUCE_maxVersion S_FETCH E_FETCH F_FETCH_minVersion F_FETCH_maxVersion S_LIST_OFFSETS E_LIST_OFFSETS F_LIST_OFFSETS_minVersion F_LIST_OFFSETS_maxVersion S_METADATA E_METADATA F_METADATA_minVersion F_METADATA_maxVersion S_OFFSET_COMMIT E_OFFSET_COMMIT F_OFFSET_COMMIT_minVersion F_OFFSET_COMMIT_maxVersion S_OFFSET_FETCH E_OFFSET_FETCH F_OFFSET_FETCH_minVersion F_OFFSET_FETCH_maxVersion S_FIND_COORDINATOR E_FIND_COORDINATOR F_FIND_COORDINATOR_minVersion F_FIND_COORDINATOR_maxVersion S_JOIN_GROUP E_JOIN_GROUP F_JOIN_GROUP_minVersion F_JOIN_GROUP_maxVersion S_HEARTBEAT E_HEARTBEAT F_HEARTBEAT_minVersion F_HEARTBEAT_maxVersion S_LEAVE_GROUP E_LEAVE_GROUP F_LEAVE_GROUP_minVersion F_LEAVE_GROUP_maxVersion S_SYNC_GROUP E_SYNC_GROUP F_SYNC_GROUP_minVersion F_SYNC_GROUP_maxVersion S_API_VERSIONS E_API_VERSIONS F_API_VERSIONS_minVersion F_API_VERSIONS_maxVersion S_CREATE_TOPICS E_CREATE_TOPICS F_CREATE_TOPICS_minVersion F_CREATE_TOPICS_maxVersion S_INIT_PRODUCER_ID E_INIT_PRODUCER_ID F_INIT_PRODUCER_ID_minVersion F_INIT_PRODUCER_ID_maxVersion S_ADD_PARTITIONS_TO_TXN E_ADD_PARTITIONS_TO_TXN F_ADD_PARTITIONS_TO_TXN_minVersion F_ADD_PARTITIONS_TO_TXN_maxVersion S_ADD_OFFSETS_TO_TXN E_ADD_OFFSETS_TO_TXN F_ADD_OFFSETS_TO_TXN_minVersion F_ADD_OFFSETS_TO_TXN_maxVersion S_END_TXN E_END_TXN F_END_TXN_minVersion F_END_TXN_maxVersion S_TXN_OFFSET_COMMIT E_TXN_OFFSET_COMMIT F_TXN_OFFSET_COMMIT_minVersion F_TXN_OFFSET_COMMIT_maxVersion p e ha hc hk s m _ below hf ((Spec.applies_iff_loose hf).mp happ).1 ⟨rfl, State.Warmed39.refl s, rfl⟩ trivial
  refine ⟨n, _, h1, h2, h3, hpost _ _ _ _ _ _ ⟨Cond.after_iff.mpr rfl, Cond.after_iff.mpr (eq_i res_at (Term.int_eval (1)) rfl), trivial⟩ ⟨hq.1, hq.2.1, (hq.2.2.sift fun y hy => Or.inr (N y hy)).mono (by decide) (by decide)⟩⟩
theorem main_1_1 : Claimed_1_1 := own_comes fun _ _ _ _ _ _ h hF => ⟨h.1, hF⟩
theorem main_1_2 : Claimed_1_2 := own_comes fun _ _ _ _ _ _ h hF => ⟨h.2.1, hF⟩
end Jvm.Pilot.@@N@@
namespace Jvm.Pilot.@@N@@
open Jvm Jvm.ClassFile Sem Op Lib Jvm.Free Jvm.Stand Jvm.Pilot.@@N@@.Jvm.D
/-! MADE BY PROGRAM (witnessworld.py) out of the Statement's table words and the real class files: 13 classes; the members and pool entries that the words name. The judged class is class 1, her method 1. -/
namespace start1
open Jvm.ClassFile
def u (s : String) : CpInfo := .utf8 (stringToUtf16 s)
/-- a pool by its gaps: so many unusable entries, then the entry; so many at the end -/
def gap : Nat → List CpInfo → List CpInfo
  | 0, r => r
  | n + 1, r => .unusable :: gap n r
def poolList (es : List (Nat × CpInfo)) (last : Nat) : List CpInfo := es.foldr (fun e r => gap e.1 (e.2 :: r)) (gap last [])
def pool (es : List (Nat × CpInfo)) (last : Nat) : Array CpInfo := ⟨poolList es last⟩
def fileOf (pool : Array CpInfo) (this : Nat) (attrs : Array Attribute := #[]) (ms : Array MethodInfo := #[]) (fl : Nat := 33) (sup : Nat := 0) (ifs : Array Nat := #[]) (fds : Array FieldInfo := #[]) : ClassFile where
  minorVersion := 0
  majorVersion := 65
  constantPool := pool
  accessFlags := fl
  thisClass := this
  superClass := sup
  interfaces := ifs
  fields := fds
  methods := ms
  attributes := attrs
def plain (name : String) (sup : Option ClassId) : Class where
  name := name
  kind := .ordinary
  loader := none
  accessFlags := 33
  super := sup
  interfaces := #[]
  cf := none
  fields := #[]
  methods := #[]
  instanceTypes := #[]
  staticTypes := #[]
  resolved := #[]
  callSites := []
  init := .initialized
  statics := none
  mirror := none

def pool0 : Array CpInfo := pool [(5, u "<init>"), (0, u "()V"), (1, .class_ 10), (1, u "java/lang/Object")] 113

def k0m0 : Method := { name := "<init>", desc := "()V", sig := { parameters := [], returnType := none }, accessFlags := 1, code := none }
/-- java/lang/Object -/
def k0 : Class := { plain "java/lang/Object" none with
  accessFlags := 33
  interfaces := #[]
  cf := some (fileOf pool0 8 #[] #[{ accessFlags := 1, nameIndex := 5, descriptorIndex := 6, attributes := #[] }] 33 0 #[] #[])
  fields := #[]
  methods := #[k0m0]
  instanceTypes := #[]
  staticTypes := #[]
  resolved := Array.replicate 124 none
  statics := none }

def pool1 : Array CpInfo := pool [(2, .class_ 4), (1, u "java/lang/Object"), (0, u "<init>"), (0, u "()V"), (0, .class_ 8), (0, u "com/example/exact_courier/exactcourier/protocol/ApiKey"), (0, .fieldref 7 10), (0, .nameAndType 11 12), (0, u "PRODUCE"), (0, u "Lcom/example/exact_courier/exactcourier/protocol/ApiKey;"), (0, .fieldref 7 14), (0, .nameAndType 15 12), (0, u "FETCH"), (0, .fieldref 7 17), (0, .nameAndType 18 12), (0, u "LIST_OFFSETS"), (0, .fieldref 7 20), (0, .nameAndType 21 12), (0, u "METADATA"), (0, .fieldref 7 23), (0, .nameAndType 24 12), (0, u "OFFSET_COMMIT"), (0, .fieldref 7 26), (0, .nameAndType 27 12), (0, u "OFFSET_FETCH"), (0, .fieldref 7 29), (0, .nameAndType 30 12), (0, u "FIND_COORDINATOR"), (0, .fieldref 7 32), (0, .nameAndType 33 12), (0, u "JOIN_GROUP"), (0, .fieldref 7 35), (0, .nameAndType 36 12), (0, u "HEARTBEAT"), (0, .fieldref 7 38), (0, .nameAndType 39 12), (0, u "LEAVE_GROUP"), (0, .fieldref 7 41), (0, .nameAndType 42 12), (0, u "SYNC_GROUP"), (0, .fieldref 7 44), (0, .nameAndType 45 12), (0, u "API_VERSIONS"), (0, .fieldref 7 47), (0, .nameAndType 48 12), (0, u "CREATE_TOPICS"), (0, .fieldref 7 50), (0, .nameAndType 51 12), (0, u "INIT_PRODUCER_ID"), (0, .fieldref 7 53), (0, .nameAndType 54 12), (0, u "ADD_PARTITIONS_TO_TXN"), (0, .fieldref 7 56), (0, .nameAndType 57 12), (0, u "ADD_OFFSETS_TO_TXN"), (0, .fieldref 7 59), (0, .nameAndType 60 12), (0, u "END_TXN"), (0, .fieldref 7 62), (0, .nameAndType 63 12), (0, u "TXN_OFFSET_COMMIT"), (0, .integer 2147483647), (0, .methodref 7 66), (0, .nameAndType 67 68), (0, u "supports"), (0, u "(S)Z"), (0, .class_ 70), (0, u "com/example/exact_courier/exactcourier/protocol/ApiKeySupportsPinLaw"), (2, u "law"), (0, u "(III)Z")] 7

def k1m0 : Method := { name := "<init>", desc := "()V", sig := { parameters := [], returnType := none }, accessFlags := 1, code := none }
def k1c1 : Code := { maxStack := 4, maxLocals := 13, code := code, exceptionTable := #[], attributes := #[] }
def k1m1 : Method := { name := "law", desc := "(III)Z", sig := { parameters := [.int, .int, .int], returnType := some .boolean }, accessFlags := 9, code := some k1c1 }
/-- com/example/exact_courier/exactcourier/protocol/ApiKeySupportsPinLaw -/
def k1 : Class := { plain "com/example/exact_courier/exactcourier/protocol/ApiKeySupportsPinLaw" (some 0) with
  accessFlags := 49
  interfaces := #[]
  cf := some (fileOf pool1 69 #[] #[{ accessFlags := 1, nameIndex := 5, descriptorIndex := 6, attributes := #[] }, { accessFlags := 9, nameIndex := 73, descriptorIndex := 74, attributes := #[] }] 49 2 #[] #[])
  fields := #[]
  methods := #[k1m0, k1m1]
  instanceTypes := #[]
  staticTypes := #[]
  resolved := Array.replicate 82 none
  statics := none }

def pool2 : Array CpInfo := pool [(1, .class_ 2), (0, u "java/lang/constant/Constable"), (0, .class_ 4), (0, u "java/lang/Object")] 6

/-- java/lang/constant/Constable -/
def k2 : Class := { plain "java/lang/constant/Constable" (some 0) with
  accessFlags := 1537
  interfaces := #[]
  cf := some (fileOf pool2 1 #[] #[] 1537 3 #[] #[])
  fields := #[]
  methods := #[]
  instanceTypes := #[]
  staticTypes := #[]
  resolved := Array.replicate 11 none
  statics := none }

def pool3 : Array CpInfo := pool [(1, .class_ 2), (0, u "java/lang/Comparable"), (0, .class_ 4), (0, u "java/lang/Object")] 7

/-- java/lang/Comparable -/
def k3 : Class := { plain "java/lang/Comparable" (some 0) with
  accessFlags := 1537
  interfaces := #[]
  cf := some (fileOf pool3 1 #[] #[] 1537 3 #[] #[])
  fields := #[]
  methods := #[]
  instanceTypes := #[]
  staticTypes := #[]
  resolved := Array.replicate 12 none
  statics := none }

def pool4 : Array CpInfo := pool [(1, .class_ 2), (0, u "java/io/Serializable"), (0, .class_ 4), (0, u "java/lang/Object")] 2

/-- java/io/Serializable -/
def k4 : Class := { plain "java/io/Serializable" (some 0) with
  accessFlags := 1537
  interfaces := #[]
  cf := some (fileOf pool4 1 #[] #[] 1537 3 #[] #[])
  fields := #[]
  methods := #[]
  instanceTypes := #[]
  staticTypes := #[]
  resolved := Array.replicate 7 none
  statics := none }

def pool5 : Array CpInfo := pool [(2, .class_ 4), (1, u "java/lang/Enum"), (0, u "name"), (0, u "Ljava/lang/String;"), (2, u "ordinal"), (0, u "I"), (1, .class_ 14), (1, u "java/lang/Object"), (4, u "hash"), (86, .class_ 108), (1, u "java/lang/Enum$EnumDesc"), (2, .class_ 112), (0, u "java/lang/constant/Constable"), (0, .class_ 114), (0, u "java/lang/Comparable"), (0, .class_ 116), (0, u "java/io/Serializable")] 87

/-- java/lang/Enum -/
def k5 : Class := { plain "java/lang/Enum" (some 0) with
  accessFlags := 1057
  interfaces := #[2, 3, 4]
  cf := some (fileOf pool5 2 #[.nestMembers #[106]] #[] 1057 12 #[111, 113, 115] #[{ accessFlags := 18, nameIndex := 5, descriptorIndex := 6, attributes := #[] }, { accessFlags := 18, nameIndex := 9, descriptorIndex := 10, attributes := #[] }, { accessFlags := 2, nameIndex := 19, descriptorIndex := 10, attributes := #[] }])
  fields := #[{ name := "name", type := (.object "java/lang/String"), accessFlags := 18, slot := 0, constantValue := 0 }, { name := "ordinal", type := .int, accessFlags := 18, slot := 1, constantValue := 0 }, { name := "hash", type := .int, accessFlags := 2, slot := 2, constantValue := 0 }]
  methods := #[]
  instanceTypes := #[(.object "java/lang/String"), .int, .int]
  staticTypes := #[]
  resolved := Array.replicate 204 none
  statics := none }

def pool6 : Array CpInfo := pool [(3, .class_ 4), (0, u "com/example/exact_courier/exactcourier/protocol/ApiKey"), (2, u "PRODUCE"), (0, u "Lcom/example/exact_courier/exactcourier/protocol/ApiKey;"), (2, u "FETCH"), (2, u "LIST_OFFSETS"), (2, u "METADATA"), (2, u "OFFSET_COMMIT"), (2, u "OFFSET_FETCH"), (2, u "FIND_COORDINATOR"), (2, u "JOIN_GROUP"), (2, u "HEARTBEAT"), (2, u "LEAVE_GROUP"), (2, u "SYNC_GROUP"), (2, u "API_VERSIONS"), (2, u "CREATE_TOPICS"), (2, u "INIT_PRODUCER_ID"), (2, u "ADD_PARTITIONS_TO_TXN"), (2, u "ADD_OFFSETS_TO_TXN"), (2, u "END_TXN"), (2, u "TXN_OFFSET_COMMIT"), (2, u "$VALUES"), (0, u "[Lcom/example/exact_courier/exactcourier/protocol/ApiKey;"), (6, .class_ 72), (1, u "java/lang/Enum"), (12, u "id"), (0, u "S"), (0, .fieldref 3 88), (0, .nameAndType 89 86), (0, u "minVersion"), (0, .fieldref 3 91), (0, .nameAndType 92 86), (0, u "maxVersion"), (2, u "firstFlexibleVersion"), (0, u "I"), (3, u "(S)Z"), (34, u "NEVER_FLEXIBLE"), (9, u "supports")] 10

def k6c0 : Code := { maxStack := 2, maxLocals := 2, code := prog_18_method_8_code, exceptionTable := #[], attributes := #[] }
def k6m0 : Method := { name := "supports", desc := "(S)Z", sig := { parameters := [.short], returnType := some .boolean }, accessFlags := 1, code := some k6c0 }
/-- com/example/exact_courier/exactcourier/protocol/ApiKey -/
def k6 : Class := { plain "com/example/exact_courier/exactcourier/protocol/ApiKey" (some 5) with
  accessFlags := 16433
  interfaces := #[]
  cf := some (fileOf pool6 3 #[] #[{ accessFlags := 1, nameIndex := 145, descriptorIndex := 100, attributes := #[] }] 16433 70 #[] #[{ accessFlags := 16409, nameIndex := 7, descriptorIndex := 8, attributes := #[] }, { accessFlags := 16409, nameIndex := 11, descriptorIndex := 8, attributes := #[] }, { accessFlags := 16409, nameIndex := 14, descriptorIndex := 8, attributes := #[] }, { accessFlags := 16409, nameIndex := 17, descriptorIndex := 8, attributes := #[] }, { accessFlags := 16409, nameIndex := 20, descriptorIndex := 8, attributes := #[] }, { accessFlags := 16409, nameIndex := 23, descriptorIndex := 8, attributes := #[] }, { accessFlags := 16409, nameIndex := 26, descriptorIndex := 8, attributes := #[] }, { accessFlags := 16409, nameIndex := 29, descriptorIndex := 8, attributes := #[] }, { accessFlags := 16409, nameIndex := 32, descriptorIndex := 8, attributes := #[] }, { accessFlags := 16409, nameIndex := 35, descriptorIndex := 8, attributes := #[] }, { accessFlags := 16409, nameIndex := 38, descriptorIndex := 8, attributes := #[] }, { accessFlags := 16409, nameIndex := 41, descriptorIndex := 8, attributes := #[] }, { accessFlags := 16409, nameIndex := 44, descriptorIndex := 8, attributes := #[] }, { accessFlags := 16409, nameIndex := 47, descriptorIndex := 8, attributes := #[] }, { accessFlags := 16409, nameIndex := 50, descriptorIndex := 8, attributes := #[] }, { accessFlags := 16409, nameIndex := 53, descriptorIndex := 8, attributes := #[] }, { accessFlags := 16409, nameIndex := 56, descriptorIndex := 8, attributes := #[] }, { accessFlags := 16409, nameIndex := 59, descriptorIndex := 8, attributes := #[] }, { accessFlags := 26, nameIndex := 135, descriptorIndex := 96, attributes := #[] }, { accessFlags := 18, nameIndex := 85, descriptorIndex := 86, attributes := #[] }, { accessFlags := 18, nameIndex := 89, descriptorIndex := 86, attributes := #[] }, { accessFlags := 18, nameIndex := 92, descriptorIndex := 86, attributes := #[] }, { accessFlags := 18, nameIndex := 95, descriptorIndex := 96, attributes := #[] }, { accessFlags := 4122, nameIndex := 62, descriptorIndex := 63, attributes := #[] }])
  fields := #[{ name := "PRODUCE", type := (.object "com/example/exact_courier/exactcourier/protocol/ApiKey"), accessFlags := 16409, slot := 0, constantValue := 0 }, { name := "FETCH", type := (.object "com/example/exact_courier/exactcourier/protocol/ApiKey"), accessFlags := 16409, slot := 1, constantValue := 0 }, { name := "LIST_OFFSETS", type := (.object "com/example/exact_courier/exactcourier/protocol/ApiKey"), accessFlags := 16409, slot := 2, constantValue := 0 }, { name := "METADATA", type := (.object "com/example/exact_courier/exactcourier/protocol/ApiKey"), accessFlags := 16409, slot := 3, constantValue := 0 }, { name := "OFFSET_COMMIT", type := (.object "com/example/exact_courier/exactcourier/protocol/ApiKey"), accessFlags := 16409, slot := 4, constantValue := 0 }, { name := "OFFSET_FETCH", type := (.object "com/example/exact_courier/exactcourier/protocol/ApiKey"), accessFlags := 16409, slot := 5, constantValue := 0 }, { name := "FIND_COORDINATOR", type := (.object "com/example/exact_courier/exactcourier/protocol/ApiKey"), accessFlags := 16409, slot := 6, constantValue := 0 }, { name := "JOIN_GROUP", type := (.object "com/example/exact_courier/exactcourier/protocol/ApiKey"), accessFlags := 16409, slot := 7, constantValue := 0 }, { name := "HEARTBEAT", type := (.object "com/example/exact_courier/exactcourier/protocol/ApiKey"), accessFlags := 16409, slot := 8, constantValue := 0 }, { name := "LEAVE_GROUP", type := (.object "com/example/exact_courier/exactcourier/protocol/ApiKey"), accessFlags := 16409, slot := 9, constantValue := 0 }, { name := "SYNC_GROUP", type := (.object "com/example/exact_courier/exactcourier/protocol/ApiKey"), accessFlags := 16409, slot := 10, constantValue := 0 }, { name := "API_VERSIONS", type := (.object "com/example/exact_courier/exactcourier/protocol/ApiKey"), accessFlags := 16409, slot := 11, constantValue := 0 }, { name := "CREATE_TOPICS", type := (.object "com/example/exact_courier/exactcourier/protocol/ApiKey"), accessFlags := 16409, slot := 12, constantValue := 0 }, { name := "INIT_PRODUCER_ID", type := (.object "com/example/exact_courier/exactcourier/protocol/ApiKey"), accessFlags := 16409, slot := 13, constantValue := 0 }, { name := "ADD_PARTITIONS_TO_TXN", type := (.object "com/example/exact_courier/exactcourier/protocol/ApiKey"), accessFlags := 16409, slot := 14, constantValue := 0 }, { name := "ADD_OFFSETS_TO_TXN", type := (.object "com/example/exact_courier/exactcourier/protocol/ApiKey"), accessFlags := 16409, slot := 15, constantValue := 0 }, { name := "END_TXN", type := (.object "com/example/exact_courier/exactcourier/protocol/ApiKey"), accessFlags := 16409, slot := 16, constantValue := 0 }, { name := "TXN_OFFSET_COMMIT", type := (.object "com/example/exact_courier/exactcourier/protocol/ApiKey"), accessFlags := 16409, slot := 17, constantValue := 0 }, { name := "NEVER_FLEXIBLE", type := .int, accessFlags := 26, slot := 18, constantValue := 0 }, { name := "id", type := .short, accessFlags := 18, slot := 3, constantValue := 0 }, { name := "minVersion", type := .short, accessFlags := 18, slot := 4, constantValue := 0 }, { name := "maxVersion", type := .short, accessFlags := 18, slot := 5, constantValue := 0 }, { name := "firstFlexibleVersion", type := .int, accessFlags := 18, slot := 6, constantValue := 0 }, { name := "$VALUES", type := (.array (.object "com/example/exact_courier/exactcourier/protocol/ApiKey")), accessFlags := 4122, slot := 19, constantValue := 0 }]
  methods := #[k6m0]
  instanceTypes := #[(.object "java/lang/String"), .int, .int, .short, .short, .short, .int]
  staticTypes := #[(.object "com/example/exact_courier/exactcourier/protocol/ApiKey"), (.object "com/example/exact_courier/exactcourier/protocol/ApiKey"), (.object "com/example/exact_courier/exactcourier/protocol/ApiKey"), (.object "com/example/exact_courier/exactcourier/protocol/ApiKey"), (.object "com/example/exact_courier/exactcourier/protocol/ApiKey"), (.object "com/example/exact_courier/exactcourier/protocol/ApiKey"), (.object "com/example/exact_courier/exactcourier/protocol/ApiKey"), (.object "com/example/exact_courier/exactcourier/protocol/ApiKey"), (.object "com/example/exact_courier/exactcourier/protocol/ApiKey"), (.object "com/example/exact_courier/exactcourier/protocol/ApiKey"), (.object "com/example/exact_courier/exactcourier/protocol/ApiKey"), (.object "com/example/exact_courier/exactcourier/protocol/ApiKey"), (.object "com/example/exact_courier/exactcourier/protocol/ApiKey"), (.object "com/example/exact_courier/exactcourier/protocol/ApiKey"), (.object "com/example/exact_courier/exactcourier/protocol/ApiKey"), (.object "com/example/exact_courier/exactcourier/protocol/ApiKey"), (.object "com/example/exact_courier/exactcourier/protocol/ApiKey"), (.object "com/example/exact_courier/exactcourier/protocol/ApiKey"), .int, (.array (.object "com/example/exact_courier/exactcourier/protocol/ApiKey"))]
  resolved := Array.replicate 156 none
  statics := some 0 }

def pool7 : Array CpInfo := pool [(1, u "java/lang/Cloneable"), (0, .class_ 1), (0, u "java/lang/Object"), (0, .class_ 3)] 3

/-- java/lang/Cloneable -/
def k7 : Class := { plain "java/lang/Cloneable" (some 0) with
  accessFlags := 1537
  interfaces := #[]
  cf := some (fileOf pool7 2 #[] #[] 1537 4 #[] #[])
  fields := #[]
  methods := #[]
  instanceTypes := #[]
  staticTypes := #[]
  resolved := Array.replicate 8 none
  statics := none }

/-- the primitive byte -/
def k8 : Class := { plain "byte" none with kind := .primitive 'B', accessFlags := 0x411 }
/-- [B -/
def k9 : Class := { plain "[B" (some 0) with kind := .array 8 .byte, interfaces := #[7, 4], accessFlags := 1041 }

/-- the primitive int -/
def k10 : Class := { plain "int" none with kind := .primitive 'I', accessFlags := 0x411 }
/-- [I -/
def k11 : Class := { plain "[I" (some 0) with kind := .array 10 .int, interfaces := #[7, 4], accessFlags := 1041 }

/-- [Lcom/example/exact_courier/exactcourier/protocol/ApiKey; -/
def k12 : Class := { plain "[Lcom/example/exact_courier/exactcourier/protocol/ApiKey;" (some 0) with kind := .array 6 (.object "com/example/exact_courier/exactcourier/protocol/ApiKey"), interfaces := #[7, 4], accessFlags := 1041 }

def heap : Heap := #[{ cls := 6, slots := #[.ref 1, .ref 2, .ref 3, .ref 4, .ref 5, .ref 6, .ref 7, .ref 8, .ref 9, .ref 10, .ref 11, .ref 12, .ref 13, .ref 14, .ref 15, .ref 16, .ref 17, .ref 18, .int 0, .null], vm := .statics 6 },
  { cls := 6, slots := #[.null, .int 0, .int 0, .int 0, .int 3, .int 7, .int 0], vm := .none },
  { cls := 6, slots := #[.null, .int 0, .int 0, .int 0, .int 4, .int 11, .int 0], vm := .none },
  { cls := 6, slots := #[.null, .int 0, .int 0, .int 0, .int 1, .int 2, .int 0], vm := .none },
  { cls := 6, slots := #[.null, .int 0, .int 0, .int 0, .int 0, .int 4, .int 0], vm := .none },
  { cls := 6, slots := #[.null, .int 0, .int 0, .int 0, .int 2, .int 7, .int 0], vm := .none },
  { cls := 6, slots := #[.null, .int 0, .int 0, .int 0, .int 1, .int 5, .int 0], vm := .none },
  { cls := 6, slots := #[.null, .int 0, .int 0, .int 0, .int 0, .int 2, .int 0], vm := .none },
  { cls := 6, slots := #[.null, .int 0, .int 0, .int 0, .int 0, .int 5, .int 0], vm := .none },
  { cls := 6, slots := #[.null, .int 0, .int 0, .int 0, .int 0, .int 3, .int 0], vm := .none },
  { cls := 6, slots := #[.null, .int 0, .int 0, .int 0, .int 0, .int 1, .int 0], vm := .none },
  { cls := 6, slots := #[.null, .int 0, .int 0, .int 0, .int 0, .int 3, .int 0], vm := .none },
  { cls := 6, slots := #[.null, .int 0, .int 0, .int 0, .int 0, .int 3, .int 0], vm := .none },
  { cls := 6, slots := #[.null, .int 0, .int 0, .int 0, .int 0, .int 4, .int 0], vm := .none },
  { cls := 6, slots := #[.null, .int 0, .int 0, .int 0, .int 0, .int 3, .int 0], vm := .none },
  { cls := 6, slots := #[.null, .int 0, .int 0, .int 0, .int 0, .int 2, .int 0], vm := .none },
  { cls := 6, slots := #[.null, .int 0, .int 0, .int 0, .int 0, .int 2, .int 0], vm := .none },
  { cls := 6, slots := #[.null, .int 0, .int 0, .int 0, .int 0, .int 2, .int 0], vm := .none },
  { cls := 6, slots := #[.null, .int 0, .int 0, .int 0, .int 0, .int 2, .int 0], vm := .none }]
def classes : Array Class := #[k0, k1, k2, k3, k4, k5, k6, k7, k8, k9, k10, k11, k12]
def interned : List (Array UInt16 × Addr) := []
def slotsUsed : Nat := 146
def theMethod : MethodId := ⟨1, 1⟩
def args0 : Array Value := #[.int 5, .int 3, .int 2]
def aboutOver (below : List Frame) : State where
  vm := { classes := classes, interned := interned.toArray }
  heap := heap
  slotsUsed := slotsUsed
  threads := #[{ frames := .invoking theMethod args0 :: below }]
def below0 : List Frame := [.native { method := ⟨0, 0⟩, args := #[] }]
def about1 : State := aboutOver below0
def p0 : Program := .bare "" "" ""
def e0 : Env := launch0.env 0 0 0
theorem w_frames : about1.frames = Frame.invoking theMethod args0 :: below0 := rfl
set_option maxRecDepth 65536 in
theorem w_args : argsFit about1.vm theMethod args0 = true := by decide +kernel
set_option maxRecDepth 65536 in
theorem w_heap : heapFits about1 = true := by decide +kernel
set_option maxRecDepth 65536 in
theorem w_runnable : about1.curStatus? = some .runnable := by decide +kernel
set_option maxRecDepth 65536 in
theorem w_alone : about1.alone = true := by decide +kernel
set_option maxRecDepth 65536 in
theorem w_named : about1.methodNamed? x = some theMethod := by decide +kernel
set_option maxRecDepth 65536 in
theorem w_hears : about1.hears theMethod below0 = true := by decide +kernel
set_option maxRecDepth 65536 in
theorem w_ripe : about1.ripe theMethod args0 below0 = true := by decide +kernel
theorem w_running : about1.status = .running := rfl
set_option maxRecDepth 65536 in
theorem w_room : about1.hasRoom e0.platform room_1 = true :=
  launch0.hasRoom_least _ room_1 (by decide +kernel) (by decide +kernel) (by decide +kernel) (by decide +kernel) (by decide +kernel) (by decide +kernel)
theorem allAtoms_all (ts : List Jvm.Cond) (a : Array Jvm.Value) (st : Jvm.State) : (allAtoms ts).before a st = ts.all (fun c => c.before a st) := by
  induction ts with
  | nil => rfl
  | cons c t ih =>
    show (Jvm.Cond.and c (allAtoms t)).before a st = _
    rw [Jvm.Cond.before_and, ih, List.all_cons]
def words1 : List Jvm.Cond := Jvm.Cond.code x code maxLocals ret :: tables_1
/-- a 'code' word, met by the world's own term for the bytes: nothing is compared byte by byte -/
theorem code_word {y : MethodName} {bytes : ByteArray} {mx : Nat} {rt : Option FieldType} {a : Array Value} {s : State} {m : MethodId} {meth : Method} {c : Code} (h1 : s.methodNamed? y = some m) (h2 : s.vm.method? m = some meth) (h3 : meth.code = some c) (h4 : c.code = bytes)
    (h5 : (c.maxLocals == mx && c.exceptionTable.isEmpty && decide (c.maxStack ≤ mostOperands) && decide (meth.sig.returnType = rt) && !meth.locks && decide (parseMethodDescriptor y.desc = some meth.sig)) = true) : (Jvm.Cond.code y bytes mx rt).before a s = true := by
  simp only [Bool.and_eq_true, beq_iff_eq, Bool.not_eq_true', decide_eq_true_eq] at h5
  obtain ⟨⟨⟨⟨⟨g1, g2⟩, g3⟩, g4⟩, g5⟩, g6⟩ := h5
  simp [Cond.before, Cond.holds, Cond.value, h1, h2, h3, h4, g1, g2, g3, g4, g5, g6]
def isCode : Jvm.Cond → Bool
  | .code _ _ _ _ => true
  | _ => false
theorem all_split {L : List Jvm.Cond} {P : Jvm.Cond → Bool} (h1 : L.all (fun c => isCode c || P c) = true) (h2 : ∀ c ∈ L.filter isCode, P c = true) : L.all P = true := by
  refine List.all_eq_true.mpr fun c hc => ?_
  have h := List.all_eq_true.mp h1 c hc
  rcases Bool.eq_false_or_eq_true (isCode c) with hi | hi
  · exact h2 c (List.mem_filter.mpr ⟨hc, hi⟩)
  · simpa [hi] using h
set_option maxRecDepth 65536 in
theorem w_c0 : (Jvm.Cond.code x code maxLocals ret).before args0 about1 = true := code_word (m := ⟨1, 1⟩) (meth := k1m1) (c := k1c1) (by decide +kernel) rfl rfl rfl (by decide +kernel)
set_option maxRecDepth 65536 in
theorem w_c1 : (Jvm.Cond.code ({ cls := "com/example/exact_courier/exactcourier/protocol/ApiKey", name := "supports", desc := "(S)Z" } : Jvm.MethodName) prog_18_method_8_code (2 : Nat) (Option.some Jvm.ClassFile.FieldType.boolean)).before args0 about1 = true := code_word (m := ⟨6, 0⟩) (meth := k6m0) (c := k6c0) (by decide +kernel) rfl rfl rfl (by decide +kernel)
def codes1 : List Jvm.Cond := [Jvm.Cond.code x code maxLocals ret, Jvm.Cond.code ({ cls := "com/example/exact_courier/exactcourier/protocol/ApiKey", name := "supports", desc := "(S)Z" } : Jvm.MethodName) prog_18_method_8_code (2 : Nat) (Option.some Jvm.ClassFile.FieldType.boolean)]
set_option maxRecDepth 65536 in
theorem codes_eq : words1.filter isCode = codes1 := rfl
theorem w_codes : ∀ c ∈ words1.filter isCode, c.before args0 about1 = true := by
  rw [codes_eq]
  intro c hc
  simp only [codes1, List.mem_cons, List.not_mem_nil, or_false] at hc
  rcases hc with rfl | rfl
  · exact w_c0
  · exact w_c1
set_option maxRecDepth 65536 in
theorem w_t1 : (words1.take 24).all (fun c => isCode c || c.before args0 about1) = true := by decide +kernel
set_option maxRecDepth 65536 in
theorem w_t2 : ((words1.drop 24).take 24).all (fun c => isCode c || c.before args0 about1) = true := by decide +kernel
set_option maxRecDepth 65536 in
theorem w_t3 : ((words1.drop 24).drop 24).all (fun c => isCode c || c.before args0 about1) = true := by decide +kernel
theorem w_tables : (allAtoms (Jvm.Cond.code x code maxLocals ret :: tables_1)).before args0 about1 = true := by
  rw [allAtoms_all]
  show words1.all (fun c => c.before args0 about1) = true
  refine all_split ?_ w_codes
  rw [← List.take_append_drop 24 words1, List.all_append, w_t1, ← List.take_append_drop 24 (words1.drop 24), List.all_append, w_t2, w_t3]
  rfl
set_option maxRecDepth 65536 in
theorem w_case : (Jvm.Cond.and given_1 narrow_1).before args0 about1 = true := by decide +kernel
theorem w_applies : (headSpec (Jvm.Cond.code x code maxLocals ret :: tables_1) room_1).applies x e0.platform about1 = true :=
  (Spec.applies_iff w_frames).mpr ⟨w_running, w_runnable, w_alone, w_named, w_hears, w_ripe, w_room, w_tables⟩
theorem atStart : AtStart classFile x code maxLocals ret World_1 tables_1 room_1 Calls_1 rest_1 Pre_1 launch0 p0 e0 about1 theMethod args0 below0 :=
  ⟨lists_1, trivial, launch0.admits_env _ _ _, launch0.least_env, fairChoices_fair.cas, fairChoices_fair.clock, w_frames, w_args, w_heap, w_applies, trivial, trivial, w_case⟩
end start1
theorem witness_1 : WitnessClaimed_1 := ⟨start1.p0, start1.e0, start1.about1, start1.theMethod, start1.args0, start1.below0, start1.atStart⟩
end Jvm.Pilot.@@N@@
