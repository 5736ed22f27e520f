import JvmDerived
import JvmDerived.Pilot.@@N@@Statement
import JvmDerived.Pilot.@@N@@Code
set_option linter.unusedVariables false
set_option linter.unusedSimpArgs false
namespace Jvm.Pilot.@@N@@
open Jvm Jvm.ClassFile Sem Op Lib Jvm.Free Jvm.Stand Jvm.LawKit Jvm.RoadKit Bundle Jvm.Pilot.@@N@@.Jvm.D
section OwnLayer
variable {p : Program} {l : Launch} {e : Env} {R : Room} {s : State} {m : MethodId} {args : Array Value} {below : List Frame} {meth : Method} {c : Code} {Z : State} {a0 : Array Value} {n0 : Nat} {own nm : String} {bytes : ByteArray} {ml : Nat} {rt : Option FieldType} {Q : Option Value → Heap → Prop} {h : Heap} {cells slots pc pc' pcY : Nat} {Ls Ls' : Array Slot} {st st' : List Value}
def ushr (x y : Int32) : Int32 := (x.toUInt32 >>> (y &&& 31).toUInt32).toInt32
def ushrL (x : Int64) (y : Int32) : Int64 := (x.toUInt64 >>> (y &&& 0x3f).toInt64.toUInt64).toInt64
/-- what stays the same while a body is walked -/
def OCx (p : Program) (l : Launch) (e : Env) (R : Room) (s : State) (m : MethodId) (args : Array Value) (below : List Frame) (meth : Method) (c : Code) (Z : State) (own nm : String) (bytes : ByteArray) (ml : Nat) (rt : Option FieldType) : Prop :=
  p.tables.exec = Jvm.exec ∧ c.code = bytes ∧ c.maxLocals = ml ∧ meth.sig.returnType = rt ∧ meth.name = nm ∧ meth.locks = false ∧ s.vm.findClass own = some m.cls ∧ Z.Warmed39 s.vm
theorem OCx.ex (K : OCx p l e R s m args below meth c Z own nm bytes ml rt) : p.tables.exec = Jvm.exec := K.1
theorem OCx.by (K : OCx p l e R s m args below meth c Z own nm bytes ml rt) : c.code = bytes := K.2.1
theorem OCx.hml (K : OCx p l e R s m args below meth c Z own nm bytes ml rt) : c.maxLocals = ml := K.2.2.1
theorem OCx.hrt (K : OCx p l e R s m args below meth c Z own nm bytes ml rt) : meth.sig.returnType = rt := K.2.2.2.1
theorem OCx.hnm (K : OCx p l e R s m args below meth c Z own nm bytes ml rt) : meth.name = nm := K.2.2.2.2.1
theorem OCx.lk (K : OCx p l e R s m args below meth c Z own nm bytes ml rt) : meth.locks = false := K.2.2.2.2.2.1
theorem OCx.hown (K : OCx p l e R s m args below meth c Z own nm bytes ml rt) : s.vm.findClass own = some m.cls := K.2.2.2.2.2.2.1
theorem OCx.hZ (K : OCx p l e R s m args below meth c Z own nm bytes ml rt) : Z.Warmed39 s.vm := K.2.2.2.2.2.2.2
/-- from here the body ends as Q says -/
def OGo (p : Program) (l : Launch) (e : Env) (R : Room) (s : State) (m : MethodId) (args : Array Value) (below : List Frame) (meth : Method) (c : Code) (n0 : Nat) (Q : Option Value → Heap → Prop) (h : Heap) (cells slots pc : Nat) (Ls : Array Slot) (st : List Value) : Prop :=
  ∀ (T : State) (locs : List Loc) (k n : Nat), Stand p l e R s m args below meth c T locs k n → T.heap = h → Fr n0 locs → k ≤ cells → n ≤ slots →
    ∃ (s₂ : State) (v : Option Value) (L : List Loc), Steps p.tables e below (T.setTop (mkF m pc Ls st)) s₂ ∧ s₂.status = .running ∧ Ended s₂ below (.returned v) ∧ Q v s₂.heap ∧ Fr n0 L ∧ FrameEnd s (.returned v) s₂ L R.cells R.slots
abbrev OCon (l : Launch) (Z : State) (n0 : Nat) (y : MethodName) (bytes : ByteArray) (maxL : Nat) (ret : Option FieldType) (ws : List Jvm.Cond) (rm : Room) (as' : Array Value) (h0 : Heap) (Q : Option Value → Heap → Prop) : Prop :=
  MetFree l y (head1 (Jvm.Cond.code y bytes maxL ret :: ws) rm) (fun a U => a = as' ∧ Z.Warmed39 U.vm ∧ U.heap = h0) (fun _ _ _ _ _ => True) (fun _ U o U' => ∃ v L, o = .returned v ∧ (Q v U'.heap ∧ Fr n0 L) ∧ FrameEnd U o U' L rm.cells rm.slots)
def OV (P : Value → Heap → Prop) (v : Option Value) (h : Heap) : Prop := ∃ w, v = some w ∧ P w h
def ON (P : Heap → Prop) (v : Option Value) (h : Heap) : Prop := v = none ∧ P h
def own_lay : List Value → List Slot
  | [] => []
  | v :: vs => if v.category = 2 then .val v :: .second :: own_lay vs else .val v :: own_lay vs
theorem own_lay_fold (vs : List Value) (acc : Array Slot) : vs.foldl (fun acc v => if v.category = 2 then (acc.push (.val v)).push .second else acc.push (.val v)) acc = acc ++ (own_lay vs).toArray := by
  induction vs generalizing acc with
  | nil => simp [own_lay]
  | cons v vs ih =>
    rw [List.foldl_cons, ih]
    simp only [own_lay]
    split <;> simp
theorem own_entry (m : MethodId) {vs : List Value} {n : Nat} {L : List Slot} (h : own_lay vs ++ List.replicate (n - (own_lay vs).length) .unset = L) : entryFrame m vs.toArray n = mkF m 0 L.toArray [] := by
  unfold entryFrame mkF argsToLocals
  subst h
  simp [own_lay_fold]
theorem OCon.of {y : MethodName} {maxL : Nat} {ret : Option FieldType} {ws : List Jvm.Cond} {rm : Room} {as' : Array Value} {h0 : Heap} (hpl : plainFor y = true) (hf : ∀ m, entryFrame m as' maxL = mkF m 0 Ls [])
    (body : ∀ p e s m below meth c, OCx p l e rm s m as' below meth c Z y.cls y.name bytes maxL ret → OGo p l e rm s m as' below meth c n0 Q h0 0 0 0 Ls []) : OCon l Z n0 y bytes maxL ret ws rm as' h0 Q := by
  refine MetFree.of_bodySF hpl hisR ?_
  intro p e s m args below meth c s₁ Bd hml0 hP hK
  obtain ⟨rfl, hZ, hh⟩ := hP
  have X0 : Stand p l e rm s m _ below meth c s₁ [] 0 0 := Stand.of_body Bd
  have e0 : s₁.heap = h0 := by rw [← hh, Bd.state]; rfl
  obtain ⟨s₂, v, L, h1, h2, h3, h4, h5, h6⟩ := body p e s m below meth c ⟨Bd.exec, Bd.bytes, hml0, Bd.returns, (name_of_methodNamed Bd.named Bd.method).1, BodyLoose.notSynchronized Bd, findClass_of_methodNamed Bd.named, hZ⟩ s₁ [] 0 0 X0 e0 (Fr.nil n0) (Nat.le_refl _) (Nat.le_refl _)
  exact ⟨s₂, _, castTop (hf m) h1, h2, h3, v, L, rfl, ⟨h4, h5⟩, h6⟩
theorem OCon.mono {y : MethodName} {maxL : Nat} {ret : Option FieldType} {ws : List Jvm.Cond} {rm : Room} {as' : Array Value} {h0 : Heap} {Q' : Option Value → Heap → Prop} (H : OCon l Z n0 y bytes maxL ret ws rm as' h0 Q) (k : ∀ v h, Q v h → Q' v h) : OCon l Z n0 y bytes maxL ret ws rm as' h0 Q' := by
  intro p e ha hc hk s m args below hf happ hP hK
  obtain ⟨n, o, h1, h2, h3, v, L, h4, ⟨h5, h6⟩, h7⟩ := H p e ha hc hk s m args below hf happ hP hK
  exact ⟨n, o, h1, h2, h3, v, L, h4, ⟨k _ _ h5, h6⟩, h7⟩
theorem OGo.more {cells' slots' : Nat} (r : OGo p l e R s m args below meth c n0 Q h cells' slots' pc Ls st) (hc : cells ≤ cells') (hs : slots ≤ slots') : OGo p l e R s m args below meth c n0 Q h cells slots pc Ls st :=
  fun T locs k n X e0 N h1 h2 => r T locs k n X e0 N (Nat.le_trans h1 hc) (Nat.le_trans h2 hs)
theorem OGo.plain (hs : ∀ (T t : State), At T m c below → Steps p.tables e below (T.setTop (mkF m pc' Ls' st')) t → Steps p.tables e below (T.setTop (mkF m pc Ls st)) t) (r : OGo p l e R s m args below meth c n0 Q h cells slots pc' Ls' st') : OGo p l e R s m args below meth c n0 Q h cells slots pc Ls st := by
  intro T locs k n X e0 N h1 h2
  obtain ⟨s₂, v, L, g, r'⟩ := r T locs k n X e0 N h1 h2
  exact ⟨s₂, v, L, hs T s₂ X.here g, r'⟩
theorem OGo.same (hs : ∀ (T : State) (locs : List Loc) (k n : Nat), Stand p l e R s m args below meth c T locs k n → T.heap = h → ∃ T', Stand p l e R s m args below meth c T' locs k n ∧ T'.heap = h ∧ ∀ t, Steps p.tables e below (T'.setTop (mkF m pc' Ls' st')) t → Steps p.tables e below (T.setTop (mkF m pc Ls st)) t) (r : OGo p l e R s m args below meth c n0 Q h cells slots pc' Ls' st') : OGo p l e R s m args below meth c n0 Q h cells slots pc Ls st := by
  intro T locs k n X e0 N h1 h2
  obtain ⟨T', X', e', st'⟩ := hs T locs k n X e0
  obtain ⟨s₂, v, L, g, r'⟩ := r T' locs k n X' e' N h1 h2
  exact ⟨s₂, v, L, st' _ g, r'⟩
/-- a step that writes one place a -/
theorem OGo.write {a : Addr} {sl : Nat} {v : Value} (ga : n0 ≤ a) (hs : ∀ (T : State) (locs : List Loc) (k n : Nat), Stand p l e R s m args below meth c T locs k n → T.heap = h → ∃ T' h', Stand p l e R s m args below meth c T' (locs ++ [⟨a, sl⟩]) k n ∧ T'.heap = h' ∧ Wr h h' a sl v ∧ ∀ t, Steps p.tables e below (T'.setTop (mkF m pc' Ls' st')) t → Steps p.tables e below (T.setTop (mkF m pc Ls st)) t)
    (r : ∀ h', Wr h h' a sl v → OGo p l e R s m args below meth c n0 Q h' cells slots pc' Ls' st') : OGo p l e R s m args below meth c n0 Q h cells slots pc Ls st := by
  intro T locs k n X e0 N h1 h2
  obtain ⟨T', h', X', e', W, st'⟩ := hs T locs k n X e0
  obtain ⟨s₂, v, L, g, r'⟩ := r h' W T' _ k n X' e' (Fr.snoc X' N ga) h1 h2
  exact ⟨s₂, v, L, st' _ g, r'⟩
theorem OGo.leave {w : Option Value} (K : OCx p l e R s m args below meth c Z own nm bytes ml rt) (hv : rt = none → w = none) (hs : ∀ (T : State) (locs : List Loc) (k n : Nat) (fs : List Frame), Stand p l e R s m args below meth c T locs k n → (∀ (f : JFrame) (acts : List Action), f.method = m → f.locked = none → f.entered = [] → (doReturn e (T.setTop f) acts w).1 = T.setFrames fs) → Steps p.tables e below (T.setTop (mkF m pc Ls st)) (T.setFrames fs))
    (hc : cells ≤ R.cells) (hl : slots ≤ R.slots) (q : Q w h) : OGo p l e R s m args below meth c n0 Q h cells slots pc Ls st := by
  intro T locs k n X e0 N h1 h2
  obtain ⟨fs, hr, hrun, hended, hW, hsame⟩ := X.leave (v := w) (fun x => hv (K.hrt.symm.trans x)) K.lk
  refine ⟨_, w, locs, hs T locs k n fs X hr, hrun, hended, ?_, N, ⟨_, rfl⟩, hW, hsame.mono (Nat.le_trans h1 hc) (Nat.le_trans h2 hl)⟩
  show Q w T.heap
  rw [e0]; exact q
theorem OGo.ret {w : Value} {t : FieldType} {i : Instr} {rest : List Value} (K : OCx p l e R s m args below meth c Z own nm bytes ml (some t)) (hd : decode bytes pc = .ok (i, 1)) (hn : narrow t w = w)
    (hi : (i = .ireturn ∧ (t = .int ∨ t = .boolean ∨ t = .byte ∨ t = .char ∨ t = .short) ∧ ∃ z, w = .int z) ∨ (i = .lreturn ∧ t = .long ∧ ∃ z, w = .long z) ∨ (i = .dreturn ∧ t = .double ∧ ∃ z, w = .double z) ∨ (i = .freturn ∧ t = .float ∧ ∃ z, w = .float z) ∨ (i = .areturn ∧ t.isReference = true ∧ w.isRef = true))
    (hc : cells ≤ R.cells) (hl : slots ≤ R.slots) (q : Q (some w) h) : OGo p l e R s m args below meth c n0 Q h cells slots pc Ls (w :: rest) :=
  OGo.leave K (fun x => nomatch x) (fun T locs k n fs X hr => retOut X K.ex K.hrt hn hi (hb K.by hd) hr) hc hl q
theorem OGo.iret {z : Int32} {rest : List Value} (K : OCx p l e R s m args below meth c Z own nm bytes ml (some .int)) (hd : decode bytes pc = .ok (.ireturn, 1)) (hc : cells ≤ R.cells) (hl : slots ≤ R.slots) (q : Q (some (.int z)) h) : OGo p l e R s m args below meth c n0 Q h cells slots pc Ls (.int z :: rest) :=
  OGo.ret K hd rfl (Or.inl ⟨rfl, Or.inl rfl, z, rfl⟩) hc hl q
theorem OGo.nret {z : Int32} {t : FieldType} {rest : List Value} (K : OCx p l e R s m args below meth c Z own nm bytes ml (some t)) (ht : t = .boolean ∨ t = .byte ∨ t = .char ∨ t = .short) (hd : decode bytes pc = .ok (.ireturn, 1)) (hc : cells ≤ R.cells) (hl : slots ≤ R.slots) (q : Q (some (.int (nar t z))) h) : OGo p l e R s m args below meth c n0 Q h cells slots pc Ls (.int z :: rest) :=
  OGo.leave K (fun x => nomatch x) (fun T locs k n fs X hr => retN X K.ex K.hrt ht (hb K.by hd) hr) hc hl q
theorem OGo.lret {z : Int64} {rest : List Value} (K : OCx p l e R s m args below meth c Z own nm bytes ml (some .long)) (hd : decode bytes pc = .ok (.lreturn, 1)) (hc : cells ≤ R.cells) (hl : slots ≤ R.slots) (q : Q (some (.long z)) h) : OGo p l e R s m args below meth c n0 Q h cells slots pc Ls (.long z :: rest) :=
  OGo.ret K hd rfl (Or.inr (Or.inl ⟨rfl, rfl, z, rfl⟩)) hc hl q
theorem OGo.dret {z : UInt64} {rest : List Value} (K : OCx p l e R s m args below meth c Z own nm bytes ml (some .double)) (hd : decode bytes pc = .ok (.dreturn, 1)) (hc : cells ≤ R.cells) (hl : slots ≤ R.slots) (q : Q (some (.double z)) h) : OGo p l e R s m args below meth c n0 Q h cells slots pc Ls (.double z :: rest) :=
  OGo.ret K hd rfl (Or.inr (Or.inr (Or.inl ⟨rfl, rfl, z, rfl⟩))) hc hl q
theorem OGo.aret {w : Value} {t : FieldType} {rest : List Value} (K : OCx p l e R s m args below meth c Z own nm bytes ml (some t)) (hd : decode bytes pc = .ok (.areturn, 1)) (ht : t.isReference = true) (hw : w.isRef = true) (hc : cells ≤ R.cells) (hl : slots ≤ R.slots) (q : Q (some w) h) : OGo p l e R s m args below meth c n0 Q h cells slots pc Ls (w :: rest) :=
  OGo.ret K hd (by cases t <;> first | (cases ht; done) | (cases w <;> first | (cases hw; done) | rfl)) (Or.inr (Or.inr (Or.inr (Or.inr ⟨rfl, ht, hw⟩)))) hc hl q
theorem OGo.vret (K : OCx p l e R s m args below meth c Z own nm bytes ml none) (hd : decode bytes pc = .ok (.return_, 1)) (hc : cells ≤ R.cells) (hl : slots ≤ R.slots) (q : Q none h) : OGo p l e R s m args below meth c n0 Q h cells slots pc Ls [] :=
  OGo.leave K (fun _ => rfl) (fun T locs k n fs X hr => X.returnOut K.ex K.hrt (hb K.by hd) hr) hc hl q

theorem OGo.iload (K : OCx p l e R s m args below meth c Z own nm bytes ml rt) {k : Nat} {v : Int32} (hd : decode bytes pc = .ok (.iload k, 2)) (hp : pc + 2 = pc') (hl : Ls[k]? = some (.val (.int v))) (r : OGo p l e R s m args below meth c n0 Q h cells slots pc' Ls (.int v :: st)) : OGo p l e R s m args below meth c n0 Q h cells slots pc Ls st := by
  subst hp
  exact OGo.plain (fun T t hA q => XS.iload hA K.ex rfl (hb K.by hd) hl q) r
theorem OGo.iloadN (K : OCx p l e R s m args below meth c Z own nm bytes ml rt) {k : Fin 4} {v : Int32} (hd : decode bytes pc = .ok (.iload_n k, 1)) (hp : pc + 1 = pc') (hl : Ls[k.val]? = some (.val (.int v))) (r : OGo p l e R s m args below meth c n0 Q h cells slots pc' Ls (.int v :: st)) : OGo p l e R s m args below meth c n0 Q h cells slots pc Ls st := by
  subst hp
  exact OGo.plain (fun T t hA q => XS.iloadN hA K.ex rfl (hb K.by hd) hl q) r
theorem OGo.lload (K : OCx p l e R s m args below meth c Z own nm bytes ml rt) {k : Nat} {v : Int64} (hd : decode bytes pc = .ok (.lload k, 2)) (hp : pc + 2 = pc') (hl : Ls[k]? = some (.val (.long v))) (r : OGo p l e R s m args below meth c n0 Q h cells slots pc' Ls (.long v :: st)) : OGo p l e R s m args below meth c n0 Q h cells slots pc Ls st := by
  subst hp
  exact OGo.plain (fun T t hA q => XS.lload hA K.ex rfl (hb K.by hd) hl q) r
theorem OGo.lloadN (K : OCx p l e R s m args below meth c Z own nm bytes ml rt) {k : Fin 4} {v : Int64} (hd : decode bytes pc = .ok (.lload_n k, 1)) (hp : pc + 1 = pc') (hl : Ls[k.val]? = some (.val (.long v))) (r : OGo p l e R s m args below meth c n0 Q h cells slots pc' Ls (.long v :: st)) : OGo p l e R s m args below meth c n0 Q h cells slots pc Ls st := by
  subst hp
  exact OGo.plain (fun T t hA q => XS.lloadN hA K.ex rfl (hb K.by hd) hl q) r
theorem OGo.aload (K : OCx p l e R s m args below meth c Z own nm bytes ml rt) {k : Nat} {v : Value} (hd : decode bytes pc = .ok (.aload k, 2)) (hp : pc + 2 = pc') (hl : Ls[k]? = some (.val v)) (hv : v.isRef = true) (r : OGo p l e R s m args below meth c n0 Q h cells slots pc' Ls (v :: st)) : OGo p l e R s m args below meth c n0 Q h cells slots pc Ls st := by
  subst hp
  exact OGo.plain (fun T t hA q => XS.aload hA K.ex rfl (hb K.by hd) hl hv q) r
theorem OGo.aloadN (K : OCx p l e R s m args below meth c Z own nm bytes ml rt) {k : Fin 4} {v : Value} (hd : decode bytes pc = .ok (.aload_n k, 1)) (hp : pc + 1 = pc') (hl : Ls[k.val]? = some (.val v)) (hv : v.isRef = true) (r : OGo p l e R s m args below meth c n0 Q h cells slots pc' Ls (v :: st)) : OGo p l e R s m args below meth c n0 Q h cells slots pc Ls st := by
  subst hp
  exact OGo.plain (fun T t hA q => XS.aloadN hA K.ex rfl (hb K.by hd) hl hv q) r
theorem OGo.istore (K : OCx p l e R s m args below meth c Z own nm bytes ml rt) {k : Nat} {v : Int32} (hd : decode bytes pc = .ok (.istore k, 2)) (hp : pc + 2 = pc') (hl : storeLocals Ls k (.int v) = some Ls') (r : OGo p l e R s m args below meth c n0 Q h cells slots pc' Ls' st) : OGo p l e R s m args below meth c n0 Q h cells slots pc Ls (.int v :: st) := by
  subst hp
  exact OGo.plain (fun T t hA q => XS.istore hA K.ex rfl (hb K.by hd) rfl hl q) r
theorem OGo.istoreN (K : OCx p l e R s m args below meth c Z own nm bytes ml rt) {k : Fin 4} {v : Int32} (hd : decode bytes pc = .ok (.istore_n k, 1)) (hp : pc + 1 = pc') (hl : storeLocals Ls k.val (.int v) = some Ls') (r : OGo p l e R s m args below meth c n0 Q h cells slots pc' Ls' st) : OGo p l e R s m args below meth c n0 Q h cells slots pc Ls (.int v :: st) := by
  subst hp
  exact OGo.plain (fun T t hA q => XS.istoreN hA K.ex rfl (hb K.by hd) rfl hl q) r
theorem OGo.lstore (K : OCx p l e R s m args below meth c Z own nm bytes ml rt) {k : Nat} {v : Int64} (hd : decode bytes pc = .ok (.lstore k, 2)) (hp : pc + 2 = pc') (hl : storeLocals Ls k (.long v) = some Ls') (r : OGo p l e R s m args below meth c n0 Q h cells slots pc' Ls' st) : OGo p l e R s m args below meth c n0 Q h cells slots pc Ls (.long v :: st) := by
  subst hp
  exact OGo.plain (fun T t hA q => XS.lstore hA K.ex rfl (hb K.by hd) rfl hl q) r
theorem OGo.lstoreN (K : OCx p l e R s m args below meth c Z own nm bytes ml rt) {k : Fin 4} {v : Int64} (hd : decode bytes pc = .ok (.lstore_n k, 1)) (hp : pc + 1 = pc') (hl : storeLocals Ls k.val (.long v) = some Ls') (r : OGo p l e R s m args below meth c n0 Q h cells slots pc' Ls' st) : OGo p l e R s m args below meth c n0 Q h cells slots pc Ls (.long v :: st) := by
  subst hp
  exact OGo.plain (fun T t hA q => XS.lstoreN hA K.ex rfl (hb K.by hd) rfl hl q) r
theorem OGo.astore (K : OCx p l e R s m args below meth c Z own nm bytes ml rt) {k : Nat} {v : Value} (hd : decode bytes pc = .ok (.astore k, 2)) (hp : pc + 2 = pc') (hv : v.isRef = true) (hl : storeLocals Ls k v = some Ls') (r : OGo p l e R s m args below meth c n0 Q h cells slots pc' Ls' st) : OGo p l e R s m args below meth c n0 Q h cells slots pc Ls (v :: st) := by
  subst hp
  exact OGo.plain (fun T t hA q => XS.astore hA K.ex rfl (hb K.by hd) rfl hv hl q) r
theorem OGo.astoreN (K : OCx p l e R s m args below meth c Z own nm bytes ml rt) {k : Fin 4} {v : Value} (hd : decode bytes pc = .ok (.astore_n k, 1)) (hp : pc + 1 = pc') (hv : v.isRef = true) (hl : storeLocals Ls k.val v = some Ls') (r : OGo p l e R s m args below meth c n0 Q h cells slots pc' Ls' st) : OGo p l e R s m args below meth c n0 Q h cells slots pc Ls (v :: st) := by
  subst hp
  exact OGo.plain (fun T t hA q => XS.astoreN hA K.ex rfl (hb K.by hd) rfl hv hl q) r
theorem OGo.iconst (K : OCx p l e R s m args below meth c Z own nm bytes ml rt) {i : Int} {z : Int32} (hd : decode bytes pc = .ok (.iconst i, 1)) (hp : pc + 1 = pc') (hz : Int32.ofInt i = z) (r : OGo p l e R s m args below meth c n0 Q h cells slots pc' Ls (.int z :: st)) : OGo p l e R s m args below meth c n0 Q h cells slots pc Ls st := by
  subst hp
  exact OGo.plain (fun T t hA q => XS.iconst hA K.ex rfl (hb K.by hd) (by rw [hz]; exact q)) r
theorem OGo.bipush (K : OCx p l e R s m args below meth c Z own nm bytes ml rt) {i : Int} {z : Int32} (hd : decode bytes pc = .ok (.bipush i, 2)) (hp : pc + 2 = pc') (hz : (Int8.ofInt i).toInt32 = z) (r : OGo p l e R s m args below meth c n0 Q h cells slots pc' Ls (.int z :: st)) : OGo p l e R s m args below meth c n0 Q h cells slots pc Ls st := by
  subst hp
  exact OGo.plain (fun T t hA q => XS.bipush hA K.ex rfl (hb K.by hd) (by rw [hz]; exact q)) r
theorem OGo.sipush (K : OCx p l e R s m args below meth c Z own nm bytes ml rt) {i : Int} {z : Int32} (hd : decode bytes pc = .ok (.sipush i, 3)) (hp : pc + 3 = pc') (hz : (Int16.ofInt i).toInt32 = z) (r : OGo p l e R s m args below meth c n0 Q h cells slots pc' Ls (.int z :: st)) : OGo p l e R s m args below meth c n0 Q h cells slots pc Ls st := by
  subst hp
  exact OGo.plain (fun T t hA q => XS.sipush hA K.ex rfl (hb K.by hd) (by rw [hz]; exact q)) r
theorem OGo.lconst (K : OCx p l e R s m args below meth c Z own nm bytes ml rt) {i : Fin 2} {z : Int64} (hd : decode bytes pc = .ok (.lconst i, 1)) (hp : pc + 1 = pc') (hz : Int64.ofNat i = z) (r : OGo p l e R s m args below meth c n0 Q h cells slots pc' Ls (.long z :: st)) : OGo p l e R s m args below meth c n0 Q h cells slots pc Ls st := by
  subst hp
  exact OGo.plain (fun T t hA q => XS.lconst hA K.ex rfl (hb K.by hd) (by rw [hz]; exact q)) r
theorem OGo.aconstNull (K : OCx p l e R s m args below meth c Z own nm bytes ml rt) (hd : decode bytes pc = .ok (.aconst_null, 1)) (hp : pc + 1 = pc') (r : OGo p l e R s m args below meth c n0 Q h cells slots pc' Ls (.null :: st)) : OGo p l e R s m args below meth c n0 Q h cells slots pc Ls st := by
  subst hp
  exact OGo.plain (fun T t hA q => XS.aconstNull hA K.ex rfl (hb K.by hd) q) r
theorem OGo.iadd (K : OCx p l e R s m args below meth c Z own nm bytes ml rt) {x y : Int32} (hd : decode bytes pc = .ok (.iadd, 1)) (hp : pc + 1 = pc') (r : OGo p l e R s m args below meth c n0 Q h cells slots pc' Ls (.int (x + y) :: st)) : OGo p l e R s m args below meth c n0 Q h cells slots pc Ls (.int y :: .int x :: st) := by
  subst hp
  exact OGo.plain (fun T t hA q => XS.iadd hA K.ex rfl (hb K.by hd) rfl q) r
theorem OGo.isub (K : OCx p l e R s m args below meth c Z own nm bytes ml rt) {x y : Int32} (hd : decode bytes pc = .ok (.isub, 1)) (hp : pc + 1 = pc') (r : OGo p l e R s m args below meth c n0 Q h cells slots pc' Ls (.int (x - y) :: st)) : OGo p l e R s m args below meth c n0 Q h cells slots pc Ls (.int y :: .int x :: st) := by
  subst hp
  exact OGo.plain (fun T t hA q => XS.isub hA K.ex rfl (hb K.by hd) rfl q) r
theorem OGo.imul (K : OCx p l e R s m args below meth c Z own nm bytes ml rt) {x y : Int32} (hd : decode bytes pc = .ok (.imul, 1)) (hp : pc + 1 = pc') (r : OGo p l e R s m args below meth c n0 Q h cells slots pc' Ls (.int (x * y) :: st)) : OGo p l e R s m args below meth c n0 Q h cells slots pc Ls (.int y :: .int x :: st) := by
  subst hp
  exact OGo.plain (fun T t hA q => XS.imul hA K.ex rfl (hb K.by hd) rfl q) r
theorem OGo.iand (K : OCx p l e R s m args below meth c Z own nm bytes ml rt) {x y : Int32} (hd : decode bytes pc = .ok (.iand, 1)) (hp : pc + 1 = pc') (r : OGo p l e R s m args below meth c n0 Q h cells slots pc' Ls (.int (x &&& y) :: st)) : OGo p l e R s m args below meth c n0 Q h cells slots pc Ls (.int y :: .int x :: st) := by
  subst hp
  exact OGo.plain (fun T t hA q => XS.iand hA K.ex rfl (hb K.by hd) rfl q) r
theorem OGo.ior (K : OCx p l e R s m args below meth c Z own nm bytes ml rt) {x y : Int32} (hd : decode bytes pc = .ok (.ior, 1)) (hp : pc + 1 = pc') (r : OGo p l e R s m args below meth c n0 Q h cells slots pc' Ls (.int (x ||| y) :: st)) : OGo p l e R s m args below meth c n0 Q h cells slots pc Ls (.int y :: .int x :: st) := by
  subst hp
  exact OGo.plain (fun T t hA q => XS.ior hA K.ex rfl (hb K.by hd) rfl q) r
theorem OGo.ixor (K : OCx p l e R s m args below meth c Z own nm bytes ml rt) {x y : Int32} (hd : decode bytes pc = .ok (.ixor, 1)) (hp : pc + 1 = pc') (r : OGo p l e R s m args below meth c n0 Q h cells slots pc' Ls (.int (x ^^^ y) :: st)) : OGo p l e R s m args below meth c n0 Q h cells slots pc Ls (.int y :: .int x :: st) := by
  subst hp
  exact OGo.plain (fun T t hA q => XS.ixor hA K.ex rfl (hb K.by hd) rfl q) r
theorem OGo.ladd (K : OCx p l e R s m args below meth c Z own nm bytes ml rt) {x y : Int64} (hd : decode bytes pc = .ok (.ladd, 1)) (hp : pc + 1 = pc') (r : OGo p l e R s m args below meth c n0 Q h cells slots pc' Ls (.long (x + y) :: st)) : OGo p l e R s m args below meth c n0 Q h cells slots pc Ls (.long y :: .long x :: st) := by
  subst hp
  exact OGo.plain (fun T t hA q => XS.ladd hA K.ex rfl (hb K.by hd) rfl q) r
theorem OGo.lsub (K : OCx p l e R s m args below meth c Z own nm bytes ml rt) {x y : Int64} (hd : decode bytes pc = .ok (.lsub, 1)) (hp : pc + 1 = pc') (r : OGo p l e R s m args below meth c n0 Q h cells slots pc' Ls (.long (x - y) :: st)) : OGo p l e R s m args below meth c n0 Q h cells slots pc Ls (.long y :: .long x :: st) := by
  subst hp
  exact OGo.plain (fun T t hA q => XS.lsub hA K.ex rfl (hb K.by hd) rfl q) r
theorem OGo.lmul (K : OCx p l e R s m args below meth c Z own nm bytes ml rt) {x y : Int64} (hd : decode bytes pc = .ok (.lmul, 1)) (hp : pc + 1 = pc') (r : OGo p l e R s m args below meth c n0 Q h cells slots pc' Ls (.long (x * y) :: st)) : OGo p l e R s m args below meth c n0 Q h cells slots pc Ls (.long y :: .long x :: st) := by
  subst hp
  exact OGo.plain (fun T t hA q => XS.lmul hA K.ex rfl (hb K.by hd) rfl q) r
theorem OGo.land (K : OCx p l e R s m args below meth c Z own nm bytes ml rt) {x y : Int64} (hd : decode bytes pc = .ok (.land, 1)) (hp : pc + 1 = pc') (r : OGo p l e R s m args below meth c n0 Q h cells slots pc' Ls (.long (x &&& y) :: st)) : OGo p l e R s m args below meth c n0 Q h cells slots pc Ls (.long y :: .long x :: st) := by
  subst hp
  exact OGo.plain (fun T t hA q => XS.land hA K.ex rfl (hb K.by hd) rfl q) r
theorem OGo.lor (K : OCx p l e R s m args below meth c Z own nm bytes ml rt) {x y : Int64} (hd : decode bytes pc = .ok (.lor, 1)) (hp : pc + 1 = pc') (r : OGo p l e R s m args below meth c n0 Q h cells slots pc' Ls (.long (x ||| y) :: st)) : OGo p l e R s m args below meth c n0 Q h cells slots pc Ls (.long y :: .long x :: st) := by
  subst hp
  exact OGo.plain (fun T t hA q => XS.lor hA K.ex rfl (hb K.by hd) rfl q) r
theorem OGo.lxor (K : OCx p l e R s m args below meth c Z own nm bytes ml rt) {x y : Int64} (hd : decode bytes pc = .ok (.lxor, 1)) (hp : pc + 1 = pc') (r : OGo p l e R s m args below meth c n0 Q h cells slots pc' Ls (.long (x ^^^ y) :: st)) : OGo p l e R s m args below meth c n0 Q h cells slots pc Ls (.long y :: .long x :: st) := by
  subst hp
  exact OGo.plain (fun T t hA q => XS.lxor hA K.ex rfl (hb K.by hd) rfl q) r
theorem OGo.ishl (K : OCx p l e R s m args below meth c Z own nm bytes ml rt) {x y : Int32} (hd : decode bytes pc = .ok (.ishl, 1)) (hp : pc + 1 = pc') (r : OGo p l e R s m args below meth c n0 Q h cells slots pc' Ls (.int (x <<< (y &&& 31)) :: st)) : OGo p l e R s m args below meth c n0 Q h cells slots pc Ls (.int y :: .int x :: st) := by
  subst hp
  exact OGo.plain (fun T t hA q => XS.ishl hA K.ex rfl (hb K.by hd) rfl q) r
theorem OGo.ishr (K : OCx p l e R s m args below meth c Z own nm bytes ml rt) {x y : Int32} (hd : decode bytes pc = .ok (.ishr, 1)) (hp : pc + 1 = pc') (r : OGo p l e R s m args below meth c n0 Q h cells slots pc' Ls (.int (x >>> (y &&& 31)) :: st)) : OGo p l e R s m args below meth c n0 Q h cells slots pc Ls (.int y :: .int x :: st) := by
  subst hp
  exact OGo.plain (fun T t hA q => XS.ishr hA K.ex rfl (hb K.by hd) rfl q) r
theorem OGo.iushr (K : OCx p l e R s m args below meth c Z own nm bytes ml rt) {x y : Int32} (hd : decode bytes pc = .ok (.iushr, 1)) (hp : pc + 1 = pc') (r : OGo p l e R s m args below meth c n0 Q h cells slots pc' Ls (.int (ushr x y) :: st)) : OGo p l e R s m args below meth c n0 Q h cells slots pc Ls (.int y :: .int x :: st) := by
  subst hp
  exact OGo.plain (fun T t hA q => XS.iushr hA K.ex rfl (hb K.by hd) rfl q) r
theorem OGo.lshl (K : OCx p l e R s m args below meth c Z own nm bytes ml rt) {x : Int64} {y : Int32} (hd : decode bytes pc = .ok (.lshl, 1)) (hp : pc + 1 = pc') (r : OGo p l e R s m args below meth c n0 Q h cells slots pc' Ls (.long (x <<< (y &&& 63).toInt64) :: st)) : OGo p l e R s m args below meth c n0 Q h cells slots pc Ls (.int y :: .long x :: st) := by
  subst hp
  exact OGo.plain (fun T t hA q => XS.lshl hA K.ex rfl (hb K.by hd) rfl q) r
theorem OGo.lshr (K : OCx p l e R s m args below meth c Z own nm bytes ml rt) {x : Int64} {y : Int32} (hd : decode bytes pc = .ok (.lshr, 1)) (hp : pc + 1 = pc') (r : OGo p l e R s m args below meth c n0 Q h cells slots pc' Ls (.long (x >>> (y &&& 63).toInt64) :: st)) : OGo p l e R s m args below meth c n0 Q h cells slots pc Ls (.int y :: .long x :: st) := by
  subst hp
  exact OGo.plain (fun T t hA q => XS.lshr hA K.ex rfl (hb K.by hd) rfl q) r
theorem OGo.lushr (K : OCx p l e R s m args below meth c Z own nm bytes ml rt) {x : Int64} {y : Int32} (hd : decode bytes pc = .ok (.lushr, 1)) (hp : pc + 1 = pc') (r : OGo p l e R s m args below meth c n0 Q h cells slots pc' Ls (.long (ushrL x y) :: st)) : OGo p l e R s m args below meth c n0 Q h cells slots pc Ls (.int y :: .long x :: st) := by
  subst hp
  exact OGo.plain (fun T t hA q => XS.lushr hA K.ex rfl (hb K.by hd) rfl q) r
theorem OGo.idiv (K : OCx p l e R s m args below meth c Z own nm bytes ml rt) {x y : Int32} (hd : decode bytes pc = .ok (.idiv, 1)) (hp : pc + 1 = pc') (hy : y ≠ 0) (r : OGo p l e R s m args below meth c n0 Q h cells slots pc' Ls (.int (x / y) :: st)) : OGo p l e R s m args below meth c n0 Q h cells slots pc Ls (.int y :: .int x :: st) := by
  subst hp
  exact OGo.plain (fun T t hA q => XS.idiv hA K.ex rfl (hb K.by hd) rfl hy q) r
theorem OGo.irem (K : OCx p l e R s m args below meth c Z own nm bytes ml rt) {x y : Int32} (hd : decode bytes pc = .ok (.irem, 1)) (hp : pc + 1 = pc') (hy : y ≠ 0) (r : OGo p l e R s m args below meth c n0 Q h cells slots pc' Ls (.int (x % y) :: st)) : OGo p l e R s m args below meth c n0 Q h cells slots pc Ls (.int y :: .int x :: st) := by
  subst hp
  exact OGo.plain (fun T t hA q => XS.irem hA K.ex rfl (hb K.by hd) rfl hy (by rw [show x - x / y * y = x % y from irem_eq_mod x y]; exact q)) r
theorem OGo.ldiv (K : OCx p l e R s m args below meth c Z own nm bytes ml rt) {x y : Int64} (hd : decode bytes pc = .ok (.ldiv, 1)) (hp : pc + 1 = pc') (hy : y ≠ 0) (r : OGo p l e R s m args below meth c n0 Q h cells slots pc' Ls (.long (x / y) :: st)) : OGo p l e R s m args below meth c n0 Q h cells slots pc Ls (.long y :: .long x :: st) := by
  subst hp
  exact OGo.plain (fun T t hA q => XS.ldiv hA K.ex rfl (hb K.by hd) rfl hy q) r
theorem OGo.lrem (K : OCx p l e R s m args below meth c Z own nm bytes ml rt) {x y : Int64} (hd : decode bytes pc = .ok (.lrem, 1)) (hp : pc + 1 = pc') (hy : y ≠ 0) (r : OGo p l e R s m args below meth c n0 Q h cells slots pc' Ls (.long (x - (x / y) * y) :: st)) : OGo p l e R s m args below meth c n0 Q h cells slots pc Ls (.long y :: .long x :: st) := by
  subst hp
  exact OGo.plain (fun T t hA q => XS.lrem hA K.ex rfl (hb K.by hd) rfl hy q) r
theorem OGo.ineg (K : OCx p l e R s m args below meth c Z own nm bytes ml rt) {x : Int32} (hd : decode bytes pc = .ok (.ineg, 1)) (hp : pc + 1 = pc') (r : OGo p l e R s m args below meth c n0 Q h cells slots pc' Ls (.int (-x) :: st)) : OGo p l e R s m args below meth c n0 Q h cells slots pc Ls (.int x :: st) := by
  subst hp
  exact OGo.plain (fun T t hA q => XS.ineg hA K.ex rfl (hb K.by hd) rfl q) r
theorem OGo.lneg (K : OCx p l e R s m args below meth c Z own nm bytes ml rt) {x : Int64} (hd : decode bytes pc = .ok (.lneg, 1)) (hp : pc + 1 = pc') (r : OGo p l e R s m args below meth c n0 Q h cells slots pc' Ls (.long (-x) :: st)) : OGo p l e R s m args below meth c n0 Q h cells slots pc Ls (.long x :: st) := by
  subst hp
  exact OGo.plain (fun T t hA q => XS.lneg hA K.ex rfl (hb K.by hd) rfl q) r
theorem OGo.i2l (K : OCx p l e R s m args below meth c Z own nm bytes ml rt) {x : Int32} (hd : decode bytes pc = .ok (.i2l, 1)) (hp : pc + 1 = pc') (r : OGo p l e R s m args below meth c n0 Q h cells slots pc' Ls (.long x.toInt64 :: st)) : OGo p l e R s m args below meth c n0 Q h cells slots pc Ls (.int x :: st) := by
  subst hp
  exact OGo.plain (fun T t hA q => XS.i2l hA K.ex rfl (hb K.by hd) rfl q) r
theorem OGo.l2i (K : OCx p l e R s m args below meth c Z own nm bytes ml rt) {x : Int64} (hd : decode bytes pc = .ok (.l2i, 1)) (hp : pc + 1 = pc') (r : OGo p l e R s m args below meth c n0 Q h cells slots pc' Ls (.int x.toInt32 :: st)) : OGo p l e R s m args below meth c n0 Q h cells slots pc Ls (.long x :: st) := by
  subst hp
  exact OGo.plain (fun T t hA q => XS.l2i hA K.ex rfl (hb K.by hd) rfl q) r
theorem OGo.i2b (K : OCx p l e R s m args below meth c Z own nm bytes ml rt) {x : Int32} (hd : decode bytes pc = .ok (.i2b, 1)) (hp : pc + 1 = pc') (r : OGo p l e R s m args below meth c n0 Q h cells slots pc' Ls (.int x.toInt8.toInt32 :: st)) : OGo p l e R s m args below meth c n0 Q h cells slots pc Ls (.int x :: st) := by
  subst hp
  exact OGo.plain (fun T t hA q => XS.i2b hA K.ex rfl (hb K.by hd) rfl q) r
theorem OGo.i2s (K : OCx p l e R s m args below meth c Z own nm bytes ml rt) {x : Int32} (hd : decode bytes pc = .ok (.i2s, 1)) (hp : pc + 1 = pc') (r : OGo p l e R s m args below meth c n0 Q h cells slots pc' Ls (.int x.toInt16.toInt32 :: st)) : OGo p l e R s m args below meth c n0 Q h cells slots pc Ls (.int x :: st) := by
  subst hp
  exact OGo.plain (fun T t hA q => XS.i2s hA K.ex rfl (hb K.by hd) rfl q) r
theorem OGo.i2c (K : OCx p l e R s m args below meth c Z own nm bytes ml rt) {x : Int32} (hd : decode bytes pc = .ok (.i2c, 1)) (hp : pc + 1 = pc') (r : OGo p l e R s m args below meth c n0 Q h cells slots pc' Ls (.int x.toUInt32.toUInt16.toUInt32.toInt32 :: st)) : OGo p l e R s m args below meth c n0 Q h cells slots pc Ls (.int x :: st) := by
  subst hp
  exact OGo.plain (fun T t hA q => XS.i2c hA K.ex rfl (hb K.by hd) rfl q) r
theorem OGo.iinc (K : OCx p l e R s m args below meth c Z own nm bytes ml rt) {k : Nat} {i : Int} {x z : Int32} (hd : decode bytes pc = .ok (.iinc k i, 3)) (hp : pc + 3 = pc') (hl : Ls[k]? = some (.val (.int x))) (hz : Int32.ofInt i = z) (hl' : storeLocals Ls k (.int (x + z)) = some Ls') (r : OGo p l e R s m args below meth c n0 Q h cells slots pc' Ls' st) : OGo p l e R s m args below meth c n0 Q h cells slots pc Ls st := by
  subst hp
  exact OGo.plain (fun T t hA q => XS.iinc hA K.ex rfl (hb K.by hd) hl (by rw [hz]; exact hl') q) r
theorem OGo.dup (K : OCx p l e R s m args below meth c Z own nm bytes ml rt) {v : Value} (hd : decode bytes pc = .ok (.dup, 1)) (hp : pc + 1 = pc') (hc : v.category = 1) (r : OGo p l e R s m args below meth c n0 Q h cells slots pc' Ls (v :: v :: st)) : OGo p l e R s m args below meth c n0 Q h cells slots pc Ls (v :: st) := by
  subst hp
  exact OGo.plain (fun T t hA q => XS.dup hA K.ex rfl (hb K.by hd) rfl hc q) r
theorem OGo.pop (K : OCx p l e R s m args below meth c Z own nm bytes ml rt) {v : Value} (hd : decode bytes pc = .ok (.pop, 1)) (hp : pc + 1 = pc') (hc : v.category = 1) (r : OGo p l e R s m args below meth c n0 Q h cells slots pc' Ls st) : OGo p l e R s m args below meth c n0 Q h cells slots pc Ls (v :: st) := by
  subst hp
  exact OGo.plain (fun T t hA q => XS.pop hA K.ex rfl (hb K.by hd) rfl hc q) r
theorem OGo.dupX1 (K : OCx p l e R s m args below meth c Z own nm bytes ml rt) {v w : Value} (hd : decode bytes pc = .ok (.dup_x1, 1)) (hp : pc + 1 = pc') (hc : v.category = 1) (hc' : w.category = 1) (r : OGo p l e R s m args below meth c n0 Q h cells slots pc' Ls (v :: w :: v :: st)) : OGo p l e R s m args below meth c n0 Q h cells slots pc Ls (v :: w :: st) := by
  subst hp
  exact OGo.plain (fun T t hA q => XS.dupX1 hA K.ex rfl (hb K.by hd) rfl hc hc' q) r
theorem OGo.dup2 (K : OCx p l e R s m args below meth c Z own nm bytes ml rt) {v w : Value} (hd : decode bytes pc = .ok (.dup2, 1)) (hp : pc + 1 = pc') (hc : v.category = 1) (hc' : w.category = 1) (r : OGo p l e R s m args below meth c n0 Q h cells slots pc' Ls (v :: w :: v :: w :: st)) : OGo p l e R s m args below meth c n0 Q h cells slots pc Ls (v :: w :: st) := by
  subst hp
  exact OGo.plain (fun T t hA q => XT.dup2 hA K.ex rfl (hb K.by hd) rfl hc hc' q) r
theorem OGo.dup2L (K : OCx p l e R s m args below meth c Z own nm bytes ml rt) {x : Int64} (hd : decode bytes pc = .ok (.dup2, 1)) (hp : pc + 1 = pc') (r : OGo p l e R s m args below meth c n0 Q h cells slots pc' Ls (.long x :: .long x :: st)) : OGo p l e R s m args below meth c n0 Q h cells slots pc Ls (.long x :: st) := by
  subst hp
  exact OGo.plain (fun T t hA q => XT.dup2L hA K.ex rfl (hb K.by hd) rfl q) r
theorem OGo.lcmp (K : OCx p l e R s m args below meth c Z own nm bytes ml rt) {x y : Int64} (hd : decode bytes pc = .ok (.lcmp, 1)) (hp : pc + 1 = pc') (r : OGo p l e R s m args below meth c n0 Q h cells slots pc' Ls (.int (lcmpW x y) :: st)) : OGo p l e R s m args below meth c n0 Q h cells slots pc Ls (.long y :: .long x :: st) := by
  subst hp
  exact OGo.plain (fun T t hA q => XS.lcmp hA K.ex rfl (hb K.by hd) rfl q) r
theorem OGo.dload (K : OCx p l e R s m args below meth c Z own nm bytes ml rt) {k : Nat} {v : UInt64} (hd : decode bytes pc = .ok (.dload k, 2)) (hp : pc + 2 = pc') (hl : Ls[k]? = some (.val (.double v))) (r : OGo p l e R s m args below meth c n0 Q h cells slots pc' Ls (.double v :: st)) : OGo p l e R s m args below meth c n0 Q h cells slots pc Ls st := by
  subst hp
  exact OGo.plain (fun T t hA q => XS.dload hA K.ex rfl (hb K.by hd) hl q) r
theorem OGo.dloadN (K : OCx p l e R s m args below meth c Z own nm bytes ml rt) {k : Fin 4} {v : UInt64} (hd : decode bytes pc = .ok (.dload_n k, 1)) (hp : pc + 1 = pc') (hl : Ls[k.val]? = some (.val (.double v))) (r : OGo p l e R s m args below meth c n0 Q h cells slots pc' Ls (.double v :: st)) : OGo p l e R s m args below meth c n0 Q h cells slots pc Ls st := by
  subst hp
  exact OGo.plain (fun T t hA q => XS.dloadN hA K.ex rfl (hb K.by hd) hl q) r
theorem OGo.dstore (K : OCx p l e R s m args below meth c Z own nm bytes ml rt) {k : Nat} {v : UInt64} (hd : decode bytes pc = .ok (.dstore k, 2)) (hp : pc + 2 = pc') (hl : storeLocals Ls k (.double v) = some Ls') (r : OGo p l e R s m args below meth c n0 Q h cells slots pc' Ls' st) : OGo p l e R s m args below meth c n0 Q h cells slots pc Ls (.double v :: st) := by
  subst hp
  exact OGo.plain (fun T t hA q => XS.dstore hA K.ex rfl (hb K.by hd) rfl hl q) r
theorem OGo.dstoreN (K : OCx p l e R s m args below meth c Z own nm bytes ml rt) {k : Fin 4} {v : UInt64} (hd : decode bytes pc = .ok (.dstore_n k, 1)) (hp : pc + 1 = pc') (hl : storeLocals Ls k.val (.double v) = some Ls') (r : OGo p l e R s m args below meth c n0 Q h cells slots pc' Ls' st) : OGo p l e R s m args below meth c n0 Q h cells slots pc Ls (.double v :: st) := by
  subst hp
  exact OGo.plain (fun T t hA q => XS.dstoreN hA K.ex rfl (hb K.by hd) rfl hl q) r
theorem OGo.dconst0 (K : OCx p l e R s m args below meth c Z own nm bytes ml rt) {z : UInt64} (hd : decode bytes pc = .ok (.dconst 0, 1)) (hp : pc + 1 = pc') (hz : FP.dconst0 = z) (r : OGo p l e R s m args below meth c n0 Q h cells slots pc' Ls (.double z :: st)) : OGo p l e R s m args below meth c n0 Q h cells slots pc Ls st := by
  subst hp
  exact OGo.plain (fun T t hA q => XS.dconst0 hA K.ex rfl (hb K.by hd) hz q) r
theorem OGo.dconst1 (K : OCx p l e R s m args below meth c Z own nm bytes ml rt) {z : UInt64} (hd : decode bytes pc = .ok (.dconst 1, 1)) (hp : pc + 1 = pc') (hz : FP.dconst1 = z) (r : OGo p l e R s m args below meth c n0 Q h cells slots pc' Ls (.double z :: st)) : OGo p l e R s m args below meth c n0 Q h cells slots pc Ls st := by
  subst hp
  exact OGo.plain (fun T t hA q => XS.dconst1 hA K.ex rfl (hb K.by hd) hz q) r
theorem OGo.i2d (K : OCx p l e R s m args below meth c Z own nm bytes ml rt) {x : Int32} (hd : decode bytes pc = .ok (.i2d, 1)) (hp : pc + 1 = pc') (r : OGo p l e R s m args below meth c n0 Q h cells slots pc' Ls (.double (FP.i2d x) :: st)) : OGo p l e R s m args below meth c n0 Q h cells slots pc Ls (.int x :: st) := by
  subst hp
  exact OGo.plain (fun T t hA q => XS.i2dS hA K.ex rfl (hb K.by hd) rfl rfl q) r
theorem OGo.dadd (K : OCx p l e R s m args below meth c Z own nm bytes ml rt) {x y z : UInt64} (hd : decode bytes pc = .ok (.dadd, 1)) (hp : pc + 1 = pc') (hn : Jvm.Free.Fl.NoNaN64 (FP.dadd x y)) (hz : FP.dadd x y = z) (r : OGo p l e R s m args below meth c n0 Q h cells slots pc' Ls (.double z :: st)) : OGo p l e R s m args below meth c n0 Q h cells slots pc Ls (.double y :: .double x :: st) := by
  subst hp
  exact OGo.plain (fun T t hA q => XS.daddS hA K.ex rfl (hb K.by hd) rfl hn hz q) r
theorem OGo.dsub (K : OCx p l e R s m args below meth c Z own nm bytes ml rt) {x y z : UInt64} (hd : decode bytes pc = .ok (.dsub, 1)) (hp : pc + 1 = pc') (hn : Jvm.Free.Fl.NoNaN64 (FP.dsub x y)) (hz : FP.dsub x y = z) (r : OGo p l e R s m args below meth c n0 Q h cells slots pc' Ls (.double z :: st)) : OGo p l e R s m args below meth c n0 Q h cells slots pc Ls (.double y :: .double x :: st) := by
  subst hp
  exact OGo.plain (fun T t hA q => XS.dsubS hA K.ex rfl (hb K.by hd) rfl hn hz q) r
theorem OGo.dmul (K : OCx p l e R s m args below meth c Z own nm bytes ml rt) {x y z : UInt64} (hd : decode bytes pc = .ok (.dmul, 1)) (hp : pc + 1 = pc') (hn : Jvm.Free.Fl.NoNaN64 (FP.dmul x y)) (hz : FP.dmul x y = z) (r : OGo p l e R s m args below meth c n0 Q h cells slots pc' Ls (.double z :: st)) : OGo p l e R s m args below meth c n0 Q h cells slots pc Ls (.double y :: .double x :: st) := by
  subst hp
  exact OGo.plain (fun T t hA q => XS.dmulS hA K.ex rfl (hb K.by hd) rfl hn hz q) r
theorem OGo.ddiv (K : OCx p l e R s m args below meth c Z own nm bytes ml rt) {x y z : UInt64} (hd : decode bytes pc = .ok (.ddiv, 1)) (hp : pc + 1 = pc') (hn : Jvm.Free.Fl.NoNaN64 (FP.ddiv x y)) (hz : FP.ddiv x y = z) (r : OGo p l e R s m args below meth c n0 Q h cells slots pc' Ls (.double z :: st)) : OGo p l e R s m args below meth c n0 Q h cells slots pc Ls (.double y :: .double x :: st) := by
  subst hp
  exact OGo.plain (fun T t hA q => XS.ddivS hA K.ex rfl (hb K.by hd) rfl hn hz q) r
theorem OGo.dcmp (K : OCx p l e R s m args below meth c Z own nm bytes ml rt) {o : CmpOp} {x y : UInt64} {z : Int32} (hd : decode bytes pc = .ok (.dcmp o, 1)) (hp : pc + 1 = pc') (hz : cmpValue (FP.dcmp x y) o = z) (r : OGo p l e R s m args below meth c n0 Q h cells slots pc' Ls (.int z :: st)) : OGo p l e R s m args below meth c n0 Q h cells slots pc Ls (.double y :: .double x :: st) := by
  subst hp
  exact OGo.plain (fun T t hA q => XS.dcmpS hA K.ex rfl (hb K.by hd) rfl hz q) r
theorem OGo.goto (K : OCx p l e R s m args below meth c Z own nm bytes ml rt) {o : Int} (hd : decode bytes pc = .ok (.goto o, 3)) (ho : 0 ≤ (pc : Int) + o) (hp : ((pc : Int) + o).toNat = pc') (r : OGo p l e R s m args below meth c n0 Q h cells slots pc' Ls st) : OGo p l e R s m args below meth c n0 Q h cells slots pc Ls st :=
  OGo.plain (fun T t hA q => XS.goto hA K.ex rfl rfl (hb K.by hd) ho hp q) r
theorem OGo.icmp (K : OCx p l e R s m args below meth c Z own nm bytes ml rt) {cd : ClassFile.Cond} {o : Int} {x y : Int32} (hd : decode bytes pc = .ok (.if_icmp cd o, 3)) (hp : pc + 3 = pc') (ho : 0 ≤ (pc : Int) + o) (hq : ((pc : Int) + o).toNat = pcY) (ry : if_icmp.holds cd x y = true → OGo p l e R s m args below meth c n0 Q h cells slots pcY Ls st) (rn : if_icmp.holds cd x y = false → OGo p l e R s m args below meth c n0 Q h cells slots pc' Ls st) : OGo p l e R s m args below meth c n0 Q h cells slots pc Ls (.int y :: .int x :: st) := by
  subst hp
  cases hc : if_icmp.holds cd x y
  · exact OGo.plain (fun T t hA q => XS.icmpNo hA K.ex rfl (hb K.by hd) rfl hc q) (rn hc)
  · exact OGo.plain (fun T t hA q => XS.icmpYes hA K.ex rfl rfl (hb K.by hd) rfl hc ho hq q) (ry hc)
theorem OGo.ifc (K : OCx p l e R s m args below meth c Z own nm bytes ml rt) {cd : ClassFile.Cond} {o : Int} {x : Int32} (hd : decode bytes pc = .ok (.ifCond cd o, 3)) (hp : pc + 3 = pc') (ho : 0 ≤ (pc : Int) + o) (hq : ((pc : Int) + o).toNat = pcY) (ry : if_icmp.holds cd x 0 = true → OGo p l e R s m args below meth c n0 Q h cells slots pcY Ls st) (rn : if_icmp.holds cd x 0 = false → OGo p l e R s m args below meth c n0 Q h cells slots pc' Ls st) : OGo p l e R s m args below meth c n0 Q h cells slots pc Ls (.int x :: st) := by
  subst hp
  cases hc : if_icmp.holds cd x 0
  · exact OGo.plain (fun T t hA q => XS.ifNo hA K.ex rfl (hb K.by hd) rfl ((if0 _ _).trans hc) q) (rn hc)
  · exact OGo.plain (fun T t hA q => XS.ifYes hA K.ex rfl rfl (hb K.by hd) rfl ((if0 _ _).trans hc) ho hq q) (ry hc)
theorem own_holds {cd : ClassFile.Cond} {x y : Int32} {b : Bool} (q : if_icmp.holds cd x y = b) : match cd with | .eq => (x = y) = (b = true) | .ne => (¬ x = y) = (b = true) | .lt => (x < y) = (b = true) | .ge => (¬ x < y) = (b = true) | .gt => (y < x) = (b = true) | .le => (¬ y < x) = (b = true) := by
  subst q
  cases cd
  all_goals simp only [eq_iff_iff]
  · constructor
    · intro h; exact (teq h).1
    · intro h; by_cases q : x = y
      · exact q
      · rw [(feq q).1] at h; cases h
  · constructor
    · intro h; exact (feq h).2
    · intro h q; rw [(teq q).2] at h; cases h
  · constructor
    · intro h; exact (tlt h).1
    · intro h; by_cases q : x < y
      · exact q
      · rw [(flt q).1] at h; cases h
  · constructor
    · intro h; exact (flt h).2.1
    · intro h q; rw [(tlt q).2.1] at h; cases h
  · constructor
    · intro h; exact (tlt h).2.2.1
    · intro h; by_cases q : y < x
      · exact q
      · rw [(flt q).2.2.1] at h; cases h
  · constructor
    · intro h; exact (flt h).2.2.2
    · intro h q; rw [(tlt q).2.2.2] at h; cases h
theorem OGo.icmpEq (K : OCx p l e R s m args below meth c Z own nm bytes ml rt) {o : Int} {x y : Int32} (hd : decode bytes pc = .ok (.if_icmp .eq o, 3)) (hp : pc + 3 = pc') (ho : 0 ≤ (pc : Int) + o) (hq : ((pc : Int) + o).toNat = pcY) (ry : x = y → OGo p l e R s m args below meth c n0 Q h cells slots pcY Ls st) (rn : ¬ x = y → OGo p l e R s m args below meth c n0 Q h cells slots pc' Ls st) : OGo p l e R s m args below meth c n0 Q h cells slots pc Ls (.int y :: .int x :: st) :=
  OGo.icmp K hd hp ho hq (fun q => ry ((own_holds q : _ = _).mpr rfl)) (fun q => rn (fun z => Bool.false_ne_true ((own_holds q : _ = _).mp z)))
theorem OGo.ifEq (K : OCx p l e R s m args below meth c Z own nm bytes ml rt) {o : Int} {x : Int32} (hd : decode bytes pc = .ok (.ifCond .eq o, 3)) (hp : pc + 3 = pc') (ho : 0 ≤ (pc : Int) + o) (hq : ((pc : Int) + o).toNat = pcY) (ry : x = 0 → OGo p l e R s m args below meth c n0 Q h cells slots pcY Ls st) (rn : ¬ x = 0 → OGo p l e R s m args below meth c n0 Q h cells slots pc' Ls st) : OGo p l e R s m args below meth c n0 Q h cells slots pc Ls (.int x :: st) :=
  OGo.ifc K hd hp ho hq (fun q => ry ((own_holds q : _ = _).mpr rfl)) (fun q => rn (fun z => Bool.false_ne_true ((own_holds q : _ = _).mp z)))
theorem OGo.lcmpEq (K : OCx p l e R s m args below meth c Z own nm bytes ml rt) {o : Int} {x y : Int64} {pc1 : Nat} (hd0 : decode bytes pc = .ok (.lcmp, 1)) (hp0 : pc + 1 = pc1) (hd : decode bytes pc1 = .ok (.ifCond .eq o, 3)) (hp : pc1 + 3 = pc') (ho : 0 ≤ (pc1 : Int) + o) (hq : ((pc1 : Int) + o).toNat = pcY) (ry : x = y → OGo p l e R s m args below meth c n0 Q h cells slots pcY Ls st) (rn : ¬ x = y → OGo p l e R s m args below meth c n0 Q h cells slots pc' Ls st) : OGo p l e R s m args below meth c n0 Q h cells slots pc Ls (.long y :: .long x :: st) :=
  OGo.lcmp K hd0 hp0 (OGo.ifEq K hd hp ho hq (fun q => ry ((lw_eq x y).mp q)) (fun q => rn (fun z => q ((lw_eq x y).mpr z))))
theorem OGo.icmpNe (K : OCx p l e R s m args below meth c Z own nm bytes ml rt) {o : Int} {x y : Int32} (hd : decode bytes pc = .ok (.if_icmp .ne o, 3)) (hp : pc + 3 = pc') (ho : 0 ≤ (pc : Int) + o) (hq : ((pc : Int) + o).toNat = pcY) (ry : ¬ x = y → OGo p l e R s m args below meth c n0 Q h cells slots pcY Ls st) (rn : x = y → OGo p l e R s m args below meth c n0 Q h cells slots pc' Ls st) : OGo p l e R s m args below meth c n0 Q h cells slots pc Ls (.int y :: .int x :: st) :=
  OGo.icmp K hd hp ho hq (fun q => ry ((own_holds q : _ = _).mpr rfl)) (fun q => rn (Classical.byContradiction fun z => Bool.false_ne_true ((own_holds q : _ = _).mp z)))
theorem OGo.ifNe (K : OCx p l e R s m args below meth c Z own nm bytes ml rt) {o : Int} {x : Int32} (hd : decode bytes pc = .ok (.ifCond .ne o, 3)) (hp : pc + 3 = pc') (ho : 0 ≤ (pc : Int) + o) (hq : ((pc : Int) + o).toNat = pcY) (ry : ¬ x = 0 → OGo p l e R s m args below meth c n0 Q h cells slots pcY Ls st) (rn : x = 0 → OGo p l e R s m args below meth c n0 Q h cells slots pc' Ls st) : OGo p l e R s m args below meth c n0 Q h cells slots pc Ls (.int x :: st) :=
  OGo.ifc K hd hp ho hq (fun q => ry ((own_holds q : _ = _).mpr rfl)) (fun q => rn (Classical.byContradiction fun z => Bool.false_ne_true ((own_holds q : _ = _).mp z)))
theorem OGo.lcmpNe (K : OCx p l e R s m args below meth c Z own nm bytes ml rt) {o : Int} {x y : Int64} {pc1 : Nat} (hd0 : decode bytes pc = .ok (.lcmp, 1)) (hp0 : pc + 1 = pc1) (hd : decode bytes pc1 = .ok (.ifCond .ne o, 3)) (hp : pc1 + 3 = pc') (ho : 0 ≤ (pc1 : Int) + o) (hq : ((pc1 : Int) + o).toNat = pcY) (ry : ¬ x = y → OGo p l e R s m args below meth c n0 Q h cells slots pcY Ls st) (rn : x = y → OGo p l e R s m args below meth c n0 Q h cells slots pc' Ls st) : OGo p l e R s m args below meth c n0 Q h cells slots pc Ls (.long y :: .long x :: st) :=
  OGo.lcmp K hd0 hp0 (OGo.ifNe K hd hp ho hq (fun q => ry (fun z => q ((lw_eq x y).mpr z))) (fun q => rn ((lw_eq x y).mp q)))
theorem OGo.icmpLt (K : OCx p l e R s m args below meth c Z own nm bytes ml rt) {o : Int} {x y : Int32} (hd : decode bytes pc = .ok (.if_icmp .lt o, 3)) (hp : pc + 3 = pc') (ho : 0 ≤ (pc : Int) + o) (hq : ((pc : Int) + o).toNat = pcY) (ry : x < y → OGo p l e R s m args below meth c n0 Q h cells slots pcY Ls st) (rn : ¬ x < y → OGo p l e R s m args below meth c n0 Q h cells slots pc' Ls st) : OGo p l e R s m args below meth c n0 Q h cells slots pc Ls (.int y :: .int x :: st) :=
  OGo.icmp K hd hp ho hq (fun q => ry ((own_holds q : _ = _).mpr rfl)) (fun q => rn (fun z => Bool.false_ne_true ((own_holds q : _ = _).mp z)))
theorem OGo.ifLt (K : OCx p l e R s m args below meth c Z own nm bytes ml rt) {o : Int} {x : Int32} (hd : decode bytes pc = .ok (.ifCond .lt o, 3)) (hp : pc + 3 = pc') (ho : 0 ≤ (pc : Int) + o) (hq : ((pc : Int) + o).toNat = pcY) (ry : x < 0 → OGo p l e R s m args below meth c n0 Q h cells slots pcY Ls st) (rn : ¬ x < 0 → OGo p l e R s m args below meth c n0 Q h cells slots pc' Ls st) : OGo p l e R s m args below meth c n0 Q h cells slots pc Ls (.int x :: st) :=
  OGo.ifc K hd hp ho hq (fun q => ry ((own_holds q : _ = _).mpr rfl)) (fun q => rn (fun z => Bool.false_ne_true ((own_holds q : _ = _).mp z)))
theorem OGo.lcmpLt (K : OCx p l e R s m args below meth c Z own nm bytes ml rt) {o : Int} {x y : Int64} {pc1 : Nat} (hd0 : decode bytes pc = .ok (.lcmp, 1)) (hp0 : pc + 1 = pc1) (hd : decode bytes pc1 = .ok (.ifCond .lt o, 3)) (hp : pc1 + 3 = pc') (ho : 0 ≤ (pc1 : Int) + o) (hq : ((pc1 : Int) + o).toNat = pcY) (ry : x < y → OGo p l e R s m args below meth c n0 Q h cells slots pcY Ls st) (rn : ¬ x < y → OGo p l e R s m args below meth c n0 Q h cells slots pc' Ls st) : OGo p l e R s m args below meth c n0 Q h cells slots pc Ls (.long y :: .long x :: st) :=
  OGo.lcmp K hd0 hp0 (OGo.ifLt K hd hp ho hq (fun q => ry ((lw_lt x y).mp q)) (fun q => rn (fun z => q ((lw_lt x y).mpr z))))
theorem OGo.icmpGe (K : OCx p l e R s m args below meth c Z own nm bytes ml rt) {o : Int} {x y : Int32} (hd : decode bytes pc = .ok (.if_icmp .ge o, 3)) (hp : pc + 3 = pc') (ho : 0 ≤ (pc : Int) + o) (hq : ((pc : Int) + o).toNat = pcY) (ry : ¬ x < y → OGo p l e R s m args below meth c n0 Q h cells slots pcY Ls st) (rn : x < y → OGo p l e R s m args below meth c n0 Q h cells slots pc' Ls st) : OGo p l e R s m args below meth c n0 Q h cells slots pc Ls (.int y :: .int x :: st) :=
  OGo.icmp K hd hp ho hq (fun q => ry ((own_holds q : _ = _).mpr rfl)) (fun q => rn (Classical.byContradiction fun z => Bool.false_ne_true ((own_holds q : _ = _).mp z)))
theorem OGo.ifGe (K : OCx p l e R s m args below meth c Z own nm bytes ml rt) {o : Int} {x : Int32} (hd : decode bytes pc = .ok (.ifCond .ge o, 3)) (hp : pc + 3 = pc') (ho : 0 ≤ (pc : Int) + o) (hq : ((pc : Int) + o).toNat = pcY) (ry : ¬ x < 0 → OGo p l e R s m args below meth c n0 Q h cells slots pcY Ls st) (rn : x < 0 → OGo p l e R s m args below meth c n0 Q h cells slots pc' Ls st) : OGo p l e R s m args below meth c n0 Q h cells slots pc Ls (.int x :: st) :=
  OGo.ifc K hd hp ho hq (fun q => ry ((own_holds q : _ = _).mpr rfl)) (fun q => rn (Classical.byContradiction fun z => Bool.false_ne_true ((own_holds q : _ = _).mp z)))
theorem OGo.lcmpGe (K : OCx p l e R s m args below meth c Z own nm bytes ml rt) {o : Int} {x y : Int64} {pc1 : Nat} (hd0 : decode bytes pc = .ok (.lcmp, 1)) (hp0 : pc + 1 = pc1) (hd : decode bytes pc1 = .ok (.ifCond .ge o, 3)) (hp : pc1 + 3 = pc') (ho : 0 ≤ (pc1 : Int) + o) (hq : ((pc1 : Int) + o).toNat = pcY) (ry : ¬ x < y → OGo p l e R s m args below meth c n0 Q h cells slots pcY Ls st) (rn : x < y → OGo p l e R s m args below meth c n0 Q h cells slots pc' Ls st) : OGo p l e R s m args below meth c n0 Q h cells slots pc Ls (.long y :: .long x :: st) :=
  OGo.lcmp K hd0 hp0 (OGo.ifGe K hd hp ho hq (fun q => ry (fun z => q ((lw_lt x y).mpr z))) (fun q => rn ((lw_lt x y).mp q)))
theorem OGo.icmpGt (K : OCx p l e R s m args below meth c Z own nm bytes ml rt) {o : Int} {x y : Int32} (hd : decode bytes pc = .ok (.if_icmp .gt o, 3)) (hp : pc + 3 = pc') (ho : 0 ≤ (pc : Int) + o) (hq : ((pc : Int) + o).toNat = pcY) (ry : y < x → OGo p l e R s m args below meth c n0 Q h cells slots pcY Ls st) (rn : ¬ y < x → OGo p l e R s m args below meth c n0 Q h cells slots pc' Ls st) : OGo p l e R s m args below meth c n0 Q h cells slots pc Ls (.int y :: .int x :: st) :=
  OGo.icmp K hd hp ho hq (fun q => ry ((own_holds q : _ = _).mpr rfl)) (fun q => rn (fun z => Bool.false_ne_true ((own_holds q : _ = _).mp z)))
theorem OGo.ifGt (K : OCx p l e R s m args below meth c Z own nm bytes ml rt) {o : Int} {x : Int32} (hd : decode bytes pc = .ok (.ifCond .gt o, 3)) (hp : pc + 3 = pc') (ho : 0 ≤ (pc : Int) + o) (hq : ((pc : Int) + o).toNat = pcY) (ry : 0 < x → OGo p l e R s m args below meth c n0 Q h cells slots pcY Ls st) (rn : ¬ 0 < x → OGo p l e R s m args below meth c n0 Q h cells slots pc' Ls st) : OGo p l e R s m args below meth c n0 Q h cells slots pc Ls (.int x :: st) :=
  OGo.ifc K hd hp ho hq (fun q => ry ((own_holds q : _ = _).mpr rfl)) (fun q => rn (fun z => Bool.false_ne_true ((own_holds q : _ = _).mp z)))
theorem OGo.lcmpGt (K : OCx p l e R s m args below meth c Z own nm bytes ml rt) {o : Int} {x y : Int64} {pc1 : Nat} (hd0 : decode bytes pc = .ok (.lcmp, 1)) (hp0 : pc + 1 = pc1) (hd : decode bytes pc1 = .ok (.ifCond .gt o, 3)) (hp : pc1 + 3 = pc') (ho : 0 ≤ (pc1 : Int) + o) (hq : ((pc1 : Int) + o).toNat = pcY) (ry : y < x → OGo p l e R s m args below meth c n0 Q h cells slots pcY Ls st) (rn : ¬ y < x → OGo p l e R s m args below meth c n0 Q h cells slots pc' Ls st) : OGo p l e R s m args below meth c n0 Q h cells slots pc Ls (.long y :: .long x :: st) :=
  OGo.lcmp K hd0 hp0 (OGo.ifGt K hd hp ho hq (fun q => ry ((lw_gt x y).mp q)) (fun q => rn (fun z => q ((lw_gt x y).mpr z))))
theorem OGo.icmpLe (K : OCx p l e R s m args below meth c Z own nm bytes ml rt) {o : Int} {x y : Int32} (hd : decode bytes pc = .ok (.if_icmp .le o, 3)) (hp : pc + 3 = pc') (ho : 0 ≤ (pc : Int) + o) (hq : ((pc : Int) + o).toNat = pcY) (ry : ¬ y < x → OGo p l e R s m args below meth c n0 Q h cells slots pcY Ls st) (rn : y < x → OGo p l e R s m args below meth c n0 Q h cells slots pc' Ls st) : OGo p l e R s m args below meth c n0 Q h cells slots pc Ls (.int y :: .int x :: st) :=
  OGo.icmp K hd hp ho hq (fun q => ry ((own_holds q : _ = _).mpr rfl)) (fun q => rn (Classical.byContradiction fun z => Bool.false_ne_true ((own_holds q : _ = _).mp z)))
theorem OGo.ifLe (K : OCx p l e R s m args below meth c Z own nm bytes ml rt) {o : Int} {x : Int32} (hd : decode bytes pc = .ok (.ifCond .le o, 3)) (hp : pc + 3 = pc') (ho : 0 ≤ (pc : Int) + o) (hq : ((pc : Int) + o).toNat = pcY) (ry : ¬ 0 < x → OGo p l e R s m args below meth c n0 Q h cells slots pcY Ls st) (rn : 0 < x → OGo p l e R s m args below meth c n0 Q h cells slots pc' Ls st) : OGo p l e R s m args below meth c n0 Q h cells slots pc Ls (.int x :: st) :=
  OGo.ifc K hd hp ho hq (fun q => ry ((own_holds q : _ = _).mpr rfl)) (fun q => rn (Classical.byContradiction fun z => Bool.false_ne_true ((own_holds q : _ = _).mp z)))
theorem OGo.lcmpLe (K : OCx p l e R s m args below meth c Z own nm bytes ml rt) {o : Int} {x y : Int64} {pc1 : Nat} (hd0 : decode bytes pc = .ok (.lcmp, 1)) (hp0 : pc + 1 = pc1) (hd : decode bytes pc1 = .ok (.ifCond .le o, 3)) (hp : pc1 + 3 = pc') (ho : 0 ≤ (pc1 : Int) + o) (hq : ((pc1 : Int) + o).toNat = pcY) (ry : ¬ y < x → OGo p l e R s m args below meth c n0 Q h cells slots pcY Ls st) (rn : y < x → OGo p l e R s m args below meth c n0 Q h cells slots pc' Ls st) : OGo p l e R s m args below meth c n0 Q h cells slots pc Ls (.long y :: .long x :: st) :=
  OGo.lcmp K hd0 hp0 (OGo.ifLe K hd hp ho hq (fun q => ry (fun z => q ((lw_gt x y).mpr z))) (fun q => rn ((lw_gt x y).mp q)))
theorem OGo.ifnullY (K : OCx p l e R s m args below meth c Z own nm bytes ml rt) {o : Int} (hd : decode bytes pc = .ok (.ifnull o, 3)) (ho : 0 ≤ (pc : Int) + o) (hq : ((pc : Int) + o).toNat = pc') (r : OGo p l e R s m args below meth c n0 Q h cells slots pc' Ls st) : OGo p l e R s m args below meth c n0 Q h cells slots pc Ls (.null :: st) :=
  OGo.plain (fun T t hA q => XS.ifnullYes hA K.ex rfl rfl (hb K.by hd) rfl ho hq q) r
theorem OGo.ifnullN (K : OCx p l e R s m args below meth c Z own nm bytes ml rt) {b : Addr} {o : Int} (hd : decode bytes pc = .ok (.ifnull o, 3)) (hp : pc + 3 = pc') (r : OGo p l e R s m args below meth c n0 Q h cells slots pc' Ls st) : OGo p l e R s m args below meth c n0 Q h cells slots pc Ls (.ref b :: st) := by
  subst hp
  exact OGo.plain (fun T t hA q => XS.ifnullNo hA K.ex rfl (hb K.by hd) rfl q) r
theorem OGo.ifnonnullY (K : OCx p l e R s m args below meth c Z own nm bytes ml rt) {b : Addr} {o : Int} (hd : decode bytes pc = .ok (.ifnonnull o, 3)) (ho : 0 ≤ (pc : Int) + o) (hq : ((pc : Int) + o).toNat = pc') (r : OGo p l e R s m args below meth c n0 Q h cells slots pc' Ls st) : OGo p l e R s m args below meth c n0 Q h cells slots pc Ls (.ref b :: st) :=
  OGo.plain (fun T t hA q => XS.ifnonnullYes hA K.ex rfl rfl (hb K.by hd) rfl ho hq q) r
theorem OGo.ifnonnullN (K : OCx p l e R s m args below meth c Z own nm bytes ml rt) {o : Int} (hd : decode bytes pc = .ok (.ifnonnull o, 3)) (hp : pc + 3 = pc') (r : OGo p l e R s m args below meth c n0 Q h cells slots pc' Ls st) : OGo p l e R s m args below meth c n0 Q h cells slots pc Ls (.null :: st) := by
  subst hp
  exact OGo.plain (fun T t hA q => XS.ifnonnullNo hA K.ex rfl (hb K.by hd) rfl q) r
theorem OGo.getF (K : OCx p l e R s m args below meth c Z own nm bytes ml rt) {R0 O n d host : String} {index : Nat} {a : Addr} {v : Value} (w : (Jvm.Cond.fieldLink own index R0 n d).before a0 Z = true ∨ (Jvm.Cond.fieldLinkNest own index R0 n d host).before a0 Z = true) (via : Via Z R0 O n d) (F : Fld Z h a O n d v) (hd : decode bytes pc = .ok (.getfield index, 3)) (hp : pc + 3 = pc') (r : OGo p l e R s m args below meth c n0 Q h cells slots pc' Ls (v :: st)) : OGo p l e R s m args below meth c n0 Q h cells slots pc Ls (.ref a :: st) := by
  subst hp
  exact OGo.same (fun T locs k n X e0 => RoadKit.getF X K.ex K.hZ K.hown w via e0 F (g := mkF m pc Ls (.ref a :: st)) rfl rfl (hb K.by hd)) r
theorem OGo.getS (K : OCx p l e R s m args below meth c Z own nm bytes ml rt) {R0 O n d host : String} {index : Nat} {v : Value} (w : (Jvm.Cond.fieldLink own index R0 n d).before a0 Z = true ∨ (Jvm.Cond.fieldLinkNest own index R0 n d host).before a0 Z = true) (via : Via Z R0 O n d) (F : Sta Z h O n d v) (hd : decode bytes pc = .ok (.getstatic index, 3)) (hp : pc + 3 = pc') (r : OGo p l e R s m args below meth c n0 Q h cells slots pc' Ls (v :: st)) : OGo p l e R s m args below meth c n0 Q h cells slots pc Ls st := by
  subst hp
  exact OGo.same (fun T locs k n X e0 => RoadKit.getS2 X K.ex K.hZ K.hown w via e0 F (g := mkF m pc Ls st) rfl (hb K.by hd)) r
theorem OGo.putF (K : OCx p l e R s m args below meth c Z own nm bytes ml rt) {R0 O n d host C : String} {index kk : Nat} {ty : FieldType} {a : Addr} {v old : Value} (w : (Jvm.Cond.fieldLink own index R0 n d).before a0 Z = true ∨ (Jvm.Cond.fieldLinkNest own index R0 n d host).before a0 Z = true) (via : Via Z R0 O n d) (F : Fld Z h a O n d old) (E : Exa Z h a C) (L : (Jvm.Cond.lays C O n d).before a0 Z = true ∨ ((Jvm.Cond.laysFinal C O n d).before a0 Z = true ∧ own = O ∧ nm = "<init>")) (wi : (Jvm.Cond.instantiable C kk).before a0 Z = true) (hty : parseFieldDescriptor d = some ty) (hn : narrow ty v = v) (hf : fits ty v = true) (ga : n0 ≤ a) (hd : decode bytes pc = .ok (.putfield index, 3)) (hp : pc + 3 = pc')
    (r : ∀ h', Wr h h' a (RoadKit.slotOf Z O n d) v → OGo p l e R s m args below meth c n0 Q h' cells slots pc' Ls st) : OGo p l e R s m args below meth c n0 Q h cells slots pc Ls (v :: .ref a :: st) := by
  subst hp
  exact OGo.write ga (fun T locs k n X e0 => RoadKit.putF X K.ex K.hZ K.hown w via e0 F E (L.imp id fun q => ⟨q.1, q.2.1, K.hnm.trans q.2.2⟩) wi hty hn hf (g := mkF m pc Ls (v :: .ref a :: st)) rfl rfl (hb K.by hd)) r
theorem OGo.putFN (K : OCx p l e R s m args below meth c Z own nm bytes ml rt) {R0 O n d C : String} {index kk : Nat} {ty : FieldType} {a : Addr} {v v' old : Value} (w : (Jvm.Cond.fieldLink own index R0 n d).before a0 Z = true) (via : Via Z R0 O n d) (F : Fld Z h a O n d old) (E : Exa Z h a C) (L : (Jvm.Cond.lays C O n d).before a0 Z = true ∨ ((Jvm.Cond.laysFinal C O n d).before a0 Z = true ∧ own = O ∧ nm = "<init>")) (wi : (Jvm.Cond.instantiable C kk).before a0 Z = true) (hty : parseFieldDescriptor d = some ty) (hn : narrow ty v = v') (hf : fits ty v' = true) (ga : n0 ≤ a) (hd : decode bytes pc = .ok (.putfield index, 3)) (hp : pc + 3 = pc')
    (r : ∀ h', Wr h h' a (RoadKit.slotOf Z O n d) v' → OGo p l e R s m args below meth c n0 Q h' cells slots pc' Ls st) : OGo p l e R s m args below meth c n0 Q h cells slots pc Ls (v :: .ref a :: st) := by
  subst hp
  exact OGo.write ga (fun T locs k n X e0 => RoadKit.putFN X K.ex K.hZ K.hown w via e0 F E (L.imp id fun q => ⟨q.1, q.2.1, K.hnm.trans q.2.2⟩) wi hty hn hf (g := mkF m pc Ls (v :: .ref a :: st)) rfl rfl (hb K.by hd)) r
theorem OGo.newO (K : OCx p l e R s m args below meth c Z own nm bytes ml rt) {C : String} {index n cells' slots' : Nat} (w : (Jvm.Cond.classLink own index C).before a0 Z = true) (wi : (Jvm.Cond.instantiable C n).before a0 Z = true) (wz : (Jvm.Cond.initialized C).before a0 Z = true) (hd : decode bytes pc = .ok (.new index, 3)) (hp : pc + 3 = pc') (hc : cells + 1 = cells') (hl : slots + n = slots') (hc' : cells' ≤ R.cells) (hl' : slots' ≤ R.slots)
    (r : ∀ (h' : Heap) (a : Addr), a = h.size → Ext h h' → Exa Z h' a C → (∀ {O nm d : String} {ty : FieldType}, Laid Z a0 C O nm d → parseFieldDescriptor d = some ty → Fld Z h' a O nm d (defaultValue ty)) → OGo p l e R s m args below meth c n0 Q h' cells' slots' pc' Ls (.ref a :: st)) : OGo p l e R s m args below meth c n0 Q h cells slots pc Ls st := by
  subst hp hc hl
  intro T locs k j X e0 N h1 h2
  obtain ⟨T', h', X', e', E, A, D, -, st'⟩ := RoadKit.newO X K.ex K.hZ K.hown w wi wz e0 (g := mkF m pc Ls st) rfl (hb K.by hd) (by omega) (by omega)
  obtain ⟨s₂, v, L, g, r'⟩ := r h' h.size rfl E A D T' locs _ _ X' e' N (by omega) (by omega)
  exact ⟨s₂, v, L, st' _ g, r'⟩
theorem OGo.newP (K : OCx p l e R s m args below meth c Z own nm bytes ml rt) {aty : ArrayType} {z : Int32} {cap cells' slots' : Nat} (w : (Jvm.Cond.arrayClass (newarray.typeOf aty)).before a0 Z = true) (hd : decode bytes pc = .ok (.newarray aty, 2)) (hp : pc + 2 = pc') (hz : ¬ z < 0) (hcap : z.toNatClampNeg ≤ cap) (hb' : cap * 8 ≤ 536870912) (hc : cells + 1 = cells') (hl : slots + cap = slots') (hc' : cells' ≤ R.cells) (hl' : slots' ≤ R.slots)
    (r : ∀ (h' : Heap) (a : Addr) (ca : ClassId), a = h.size → Ext h h' → Arv Z h' a ca (newarray.typeOf aty) z [] (defaultValue (newarray.typeOf aty)) → OGo p l e R s m args below meth c n0 Q h' cells' slots' pc' Ls (.ref a :: st)) : OGo p l e R s m args below meth c n0 Q h cells slots pc Ls (.int z :: st) := by
  subst hp hc hl
  intro T locs k j X e0 N h1 h2
  obtain ⟨T', h', ca, X', e', E, A, st'⟩ := RoadKit.newP X K.ex K.hZ w e0 (g := mkF m pc Ls (.int z :: st)) rfl (hb K.by hd) rfl hz (cap := cap) hcap hb' (by omega) (by omega)
  obtain ⟨s₂, v, L, g, r'⟩ := r h' h.size ca rfl E (Arv.new A hz) T' locs _ _ X' e' N (by omega) (by omega)
  exact ⟨s₂, v, L, st' _ g, r'⟩
theorem OGo.newR (K : OCx p l e R s m args below meth c Z own nm bytes ml rt) {C : String} {index : Nat} {z : Int32} {cap cells' slots' : Nat} (w1 : (Jvm.Cond.classLink own index C).before a0 Z = true) (w2 : (Jvm.Cond.arrayOver (.object C)).before a0 Z = true) (hd : decode bytes pc = .ok (.anewarray index, 3)) (hp : pc + 3 = pc') (hz : ¬ z < 0) (hcap : z.toNatClampNeg ≤ cap) (hb' : cap * 8 ≤ 536870912) (hc : cells + 1 = cells') (hl : slots + cap = slots') (hc' : cells' ≤ R.cells) (hl' : slots' ≤ R.slots)
    (r : ∀ (h' : Heap) (a : Addr) (ca : ClassId), a = h.size → Ext h h' → Arv Z h' a ca (.object C) z [] .null → Ovr Z ca C → OGo p l e R s m args below meth c n0 Q h' cells' slots' pc' Ls (.ref a :: st)) : OGo p l e R s m args below meth c n0 Q h cells slots pc Ls (.int z :: st) := by
  subst hp hc hl
  intro T locs k j X e0 N h1 h2
  obtain ⟨T', h', ca, X', e', E, A, O, st'⟩ := RoadKit.newR X K.ex K.hZ K.hown w1 w2 e0 (g := mkF m pc Ls (.int z :: st)) rfl (hb K.by hd) rfl hz (cap := cap) hcap hb' (by omega) (by omega)
  obtain ⟨s₂, v, L, g, r'⟩ := r h' h.size ca rfl E (Arv.new A hz) O T' locs _ _ X' e' N (by omega) (by omega)
  exact ⟨s₂, v, L, st' _ g, r'⟩
theorem OGo.iaload (K : OCx p l e R s m args below meth c Z own nm bytes ml rt) {a : Addr} {ca : ClassId} {z j : Int32} {vs : List Value} {dv v : Value} (A : Arv Z h a ca .int z vs dv) (hj : ¬ j < 0 ∧ j < z) (hv : vs.getD j.toNatClampNeg dv = v) (hd : decode bytes pc = .ok (.iaload, 1)) (hp : pc + 1 = pc') (r : OGo p l e R s m args below meth c n0 Q h cells slots pc' Ls (v :: st)) : OGo p l e R s m args below meth c n0 Q h cells slots pc Ls (.int j :: .ref a :: st) := by
  subst hp
  obtain ⟨cl, A, -, S, -, H, -⟩ := A
  have hin := inb_of S hj
  exact OGo.same (fun T locs k n X e0 => ⟨T, X, e0, fun t q => X.iaload K.ex (j := j) (by rw [e0]; exact A.1) (State.isArrayOf_alike K.hZ.alike A.2.1) A.2.2 hin (H.at hin hv) (g := mkF m pc Ls (.int j :: .ref a :: st)) rfl rfl (hb K.by hd) t q⟩) r
theorem OGo.laload (K : OCx p l e R s m args below meth c Z own nm bytes ml rt) {a : Addr} {ca : ClassId} {z j : Int32} {vs : List Value} {dv v : Value} (A : Arv Z h a ca .long z vs dv) (hj : ¬ j < 0 ∧ j < z) (hv : vs.getD j.toNatClampNeg dv = v) (hd : decode bytes pc = .ok (.laload, 1)) (hp : pc + 1 = pc') (r : OGo p l e R s m args below meth c n0 Q h cells slots pc' Ls (v :: st)) : OGo p l e R s m args below meth c n0 Q h cells slots pc Ls (.int j :: .ref a :: st) := by
  subst hp
  obtain ⟨cl, A, -, S, -, H, -⟩ := A
  have hin := inb_of S hj
  exact OGo.same (fun T locs k n X e0 => ⟨T, X, e0, fun t q => X.laload K.ex (j := j) (by rw [e0]; exact A.1) (State.isArrayOf_alike K.hZ.alike A.2.1) A.2.2 hin (H.at hin hv) (g := mkF m pc Ls (.int j :: .ref a :: st)) rfl rfl (hb K.by hd) t q⟩) r
theorem OGo.caload (K : OCx p l e R s m args below meth c Z own nm bytes ml rt) {a : Addr} {ca : ClassId} {z j : Int32} {vs : List Value} {dv v : Value} (A : Arv Z h a ca .char z vs dv) (hj : ¬ j < 0 ∧ j < z) (hv : vs.getD j.toNatClampNeg dv = v) (hd : decode bytes pc = .ok (.caload, 1)) (hp : pc + 1 = pc') (r : OGo p l e R s m args below meth c n0 Q h cells slots pc' Ls (v :: st)) : OGo p l e R s m args below meth c n0 Q h cells slots pc Ls (.int j :: .ref a :: st) := by
  subst hp
  obtain ⟨cl, A, -, S, -, H, -⟩ := A
  have hin := inb_of S hj
  exact OGo.same (fun T locs k n X e0 => ⟨T, X, e0, fun t q => X.caload K.ex (j := j) (by rw [e0]; exact A.1) (State.isArrayOf_alike K.hZ.alike A.2.1) A.2.2 hin (H.at hin hv) (g := mkF m pc Ls (.int j :: .ref a :: st)) rfl rfl (hb K.by hd) t q⟩) r
theorem OGo.saload (K : OCx p l e R s m args below meth c Z own nm bytes ml rt) {a : Addr} {ca : ClassId} {z j : Int32} {vs : List Value} {dv v : Value} (A : Arv Z h a ca .short z vs dv) (hj : ¬ j < 0 ∧ j < z) (hv : vs.getD j.toNatClampNeg dv = v) (hd : decode bytes pc = .ok (.saload, 1)) (hp : pc + 1 = pc') (r : OGo p l e R s m args below meth c n0 Q h cells slots pc' Ls (v :: st)) : OGo p l e R s m args below meth c n0 Q h cells slots pc Ls (.int j :: .ref a :: st) := by
  subst hp
  obtain ⟨cl, A, -, S, -, H, -⟩ := A
  have hin := inb_of S hj
  exact OGo.same (fun T locs k n X e0 => ⟨T, X, e0, fun t q => X.saload K.ex (j := j) (by rw [e0]; exact A.1) (State.isArrayOf_alike K.hZ.alike A.2.1) A.2.2 hin (H.at hin hv) (g := mkF m pc Ls (.int j :: .ref a :: st)) rfl rfl (hb K.by hd) t q⟩) r
theorem OGo.baload (K : OCx p l e R s m args below meth c Z own nm bytes ml rt) {a : Addr} {ca : ClassId} {z j : Int32} {vs : List Value} {dv v : Value} (A : Arv Z h a ca .byte z vs dv) (hj : ¬ j < 0 ∧ j < z) (hv : vs.getD j.toNatClampNeg dv = v) (hd : decode bytes pc = .ok (.baload, 1)) (hp : pc + 1 = pc') (r : OGo p l e R s m args below meth c n0 Q h cells slots pc' Ls (v :: st)) : OGo p l e R s m args below meth c n0 Q h cells slots pc Ls (.int j :: .ref a :: st) := by
  subst hp
  obtain ⟨cl, A, -, S, -, H, -⟩ := A
  have hin := inb_of S hj
  exact OGo.same (fun T locs k n X e0 => ⟨T, X, e0, fun t q => X.baloadBytes K.ex (j := j) (by rw [e0]; exact A.1) (State.isArrayOf_alike K.hZ.alike A.2.1) A.2.2 hin (H.at hin hv) (g := mkF m pc Ls (.int j :: .ref a :: st)) rfl rfl (hb K.by hd) t q⟩) r
theorem OGo.zaload (K : OCx p l e R s m args below meth c Z own nm bytes ml rt) {a : Addr} {ca : ClassId} {z j : Int32} {vs : List Value} {dv v : Value} (A : Arv Z h a ca .boolean z vs dv) (hj : ¬ j < 0 ∧ j < z) (hv : vs.getD j.toNatClampNeg dv = v) (hd : decode bytes pc = .ok (.baload, 1)) (hp : pc + 1 = pc') (r : OGo p l e R s m args below meth c n0 Q h cells slots pc' Ls (v :: st)) : OGo p l e R s m args below meth c n0 Q h cells slots pc Ls (.int j :: .ref a :: st) := by
  subst hp
  obtain ⟨cl, A, -, S, -, H, -⟩ := A
  have hin := inb_of S hj
  exact OGo.same (fun T locs k n X e0 => ⟨T, X, e0, fun t q => X.baloadBooleans K.ex (j := j) (by rw [e0]; exact A.1) (State.isArrayOf_alike K.hZ.alike A.2.1) A.2.2 hin (H.at hin hv) (g := mkF m pc Ls (.int j :: .ref a :: st)) rfl rfl (hb K.by hd) t q⟩) r
theorem OGo.aaload (K : OCx p l e R s m args below meth c Z own nm bytes ml rt) {a : Addr} {ca : ClassId} {ty : FieldType} {z j : Int32} {vs : List Value} {dv v : Value} (A : Arv Z h a ca ty z vs dv) (hty : ty.isReference = true) (hj : ¬ j < 0 ∧ j < z) (hv : vs.getD j.toNatClampNeg dv = v) (hd : decode bytes pc = .ok (.aaload, 1)) (hp : pc + 1 = pc') (r : OGo p l e R s m args below meth c n0 Q h cells slots pc' Ls (v :: st)) : OGo p l e R s m args below meth c n0 Q h cells slots pc Ls (.int j :: .ref a :: st) := by
  subst hp
  obtain ⟨cl, A, -, S, -, H, -⟩ := A
  have hin := inb_of S hj
  exact OGo.same (fun T locs k n X e0 => ⟨T, X, e0, fun t q => X.aaload K.ex (j := j) (by rw [e0]; exact A.1) (State.isArrayOf_alike K.hZ.alike A.2.1) hty A.2.2 hin (H.at hin hv) (g := mkF m pc Ls (.int j :: .ref a :: st)) rfl rfl (hb K.by hd) t q⟩) r
theorem OGo.alen (K : OCx p l e R s m args below meth c Z own nm bytes ml rt) {a : Addr} {ca : ClassId} {ty : FieldType} {z : Int32} {vs : List Value} {dv : Value} (A : Arv Z h a ca ty z vs dv) (hd : decode bytes pc = .ok (.arraylength, 1)) (hp : pc + 1 = pc') (r : OGo p l e R s m args below meth c n0 Q h cells slots pc' Ls (.int z :: st)) : OGo p l e R s m args below meth c n0 Q h cells slots pc Ls (.ref a :: st) := by
  subst hp
  obtain ⟨cl, A, -, S, hz, -, -⟩ := A
  exact OGo.same (fun T locs k n X e0 => ⟨T, X, e0, fun t q => X.arraylength K.ex (by rw [e0]; exact A.1) (State.isArrayOf_alike K.hZ.alike A.2.1) (g := mkF m pc Ls (.ref a :: st)) rfl rfl (hb K.by hd) t (by rw [len_of S hz]; exact q)⟩) r
theorem OGo.iastore (K : OCx p l e R s m args below meth c Z own nm bytes ml rt) {a : Addr} {ca : ClassId} {z j : Int32} {vs : List Value} {dv : Value} {x : Int32} (A : Arv Z h a ca .int z vs dv) (hj : ¬ j < 0 ∧ j < z) {i : Nat} (hij : j.toNatClampNeg = i) (hi : i < vs.length) (ga : n0 ≤ a) (hd : decode bytes pc = .ok (.iastore, 1)) (hp : pc + 1 = pc')
    (r : ∀ h', Wr h h' a j.toNatClampNeg (.int x) → Arv Z h' a ca .int z (vs.set i (.int x)) dv → OGo p l e R s m args below meth c n0 Q h' cells slots pc' Ls st) : OGo p l e R s m args below meth c n0 Q h cells slots pc Ls (.int x :: .int j :: .ref a :: st) := by
  subst hp
  obtain ⟨cl, A, q1, S, hz, H, G⟩ := A
  have hin := inb_of S hj
  exact OGo.write ga (fun T locs k n X e0 => RoadKit.stI X K.ex K.hZ e0 A (j := j) hin (g := mkF m pc Ls (.int x :: .int j :: .ref a :: st)) rfl rfl (hb K.by hd)) (fun h' W => r h' W (Arv.set A q1 S hz H G rfl W _ hij hi))
theorem OGo.lastore (K : OCx p l e R s m args below meth c Z own nm bytes ml rt) {a : Addr} {ca : ClassId} {z j : Int32} {vs : List Value} {dv : Value} {x : Int64} (A : Arv Z h a ca .long z vs dv) (hj : ¬ j < 0 ∧ j < z) {i : Nat} (hij : j.toNatClampNeg = i) (hi : i < vs.length) (ga : n0 ≤ a) (hd : decode bytes pc = .ok (.lastore, 1)) (hp : pc + 1 = pc')
    (r : ∀ h', Wr h h' a j.toNatClampNeg (.long x) → Arv Z h' a ca .long z (vs.set i (.long x)) dv → OGo p l e R s m args below meth c n0 Q h' cells slots pc' Ls st) : OGo p l e R s m args below meth c n0 Q h cells slots pc Ls (.long x :: .int j :: .ref a :: st) := by
  subst hp
  obtain ⟨cl, A, q1, S, hz, H, G⟩ := A
  have hin := inb_of S hj
  exact OGo.write ga (fun T locs k n X e0 => RoadKit.stJ X K.ex K.hZ e0 A (j := j) hin (g := mkF m pc Ls (.long x :: .int j :: .ref a :: st)) rfl rfl (hb K.by hd)) (fun h' W => r h' W (Arv.set A q1 S hz H G rfl W _ hij hi))
theorem OGo.castore (K : OCx p l e R s m args below meth c Z own nm bytes ml rt) {a : Addr} {ca : ClassId} {z j : Int32} {vs : List Value} {dv : Value} {x : Int32} (A : Arv Z h a ca .char z vs dv) (hj : ¬ j < 0 ∧ j < z) {i : Nat} (hij : j.toNatClampNeg = i) (hi : i < vs.length) (ga : n0 ≤ a) (hd : decode bytes pc = .ok (.castore, 1)) (hp : pc + 1 = pc')
    (r : ∀ h', Wr h h' a j.toNatClampNeg (.int (nar .char x)) → Arv Z h' a ca .char z (vs.set i (.int (nar .char x))) dv → OGo p l e R s m args below meth c n0 Q h' cells slots pc' Ls st) : OGo p l e R s m args below meth c n0 Q h cells slots pc Ls (.int x :: .int j :: .ref a :: st) := by
  subst hp
  obtain ⟨cl, A, q1, S, hz, H, G⟩ := A
  have hin := inb_of S hj
  exact OGo.write ga (fun T locs k n X e0 => RoadKit.stC X K.ex K.hZ e0 A (j := j) hin (g := mkF m pc Ls (.int x :: .int j :: .ref a :: st)) rfl rfl (hb K.by hd)) (fun h' W => r h' W (Arv.set A q1 S hz H G (fits_nar_char x) W _ hij hi))
theorem OGo.sastore (K : OCx p l e R s m args below meth c Z own nm bytes ml rt) {a : Addr} {ca : ClassId} {z j : Int32} {vs : List Value} {dv : Value} {x : Int32} (A : Arv Z h a ca .short z vs dv) (hj : ¬ j < 0 ∧ j < z) {i : Nat} (hij : j.toNatClampNeg = i) (hi : i < vs.length) (ga : n0 ≤ a) (hd : decode bytes pc = .ok (.sastore, 1)) (hp : pc + 1 = pc')
    (r : ∀ h', Wr h h' a j.toNatClampNeg (.int (nar .short x)) → Arv Z h' a ca .short z (vs.set i (.int (nar .short x))) dv → OGo p l e R s m args below meth c n0 Q h' cells slots pc' Ls st) : OGo p l e R s m args below meth c n0 Q h cells slots pc Ls (.int x :: .int j :: .ref a :: st) := by
  subst hp
  obtain ⟨cl, A, q1, S, hz, H, G⟩ := A
  have hin := inb_of S hj
  exact OGo.write ga (fun T locs k n X e0 => RoadKit.stS X K.ex K.hZ e0 A (j := j) hin (g := mkF m pc Ls (.int x :: .int j :: .ref a :: st)) rfl rfl (hb K.by hd)) (fun h' W => r h' W (Arv.set A q1 S hz H G (fits_nar_short x) W _ hij hi))
theorem OGo.bastore (K : OCx p l e R s m args below meth c Z own nm bytes ml rt) {a : Addr} {ca : ClassId} {z j : Int32} {vs : List Value} {dv : Value} {x : Int32} (A : Arv Z h a ca .byte z vs dv) (hj : ¬ j < 0 ∧ j < z) {i : Nat} (hij : j.toNatClampNeg = i) (hi : i < vs.length) (ga : n0 ≤ a) (hd : decode bytes pc = .ok (.bastore, 1)) (hp : pc + 1 = pc')
    (r : ∀ h', Wr h h' a j.toNatClampNeg (.int (nar .byte x)) → Arv Z h' a ca .byte z (vs.set i (.int (nar .byte x))) dv → OGo p l e R s m args below meth c n0 Q h' cells slots pc' Ls st) : OGo p l e R s m args below meth c n0 Q h cells slots pc Ls (.int x :: .int j :: .ref a :: st) := by
  subst hp
  obtain ⟨cl, A, q1, S, hz, H, G⟩ := A
  have hin := inb_of S hj
  exact OGo.write ga (fun T locs k n X e0 => RoadKit.stB X K.ex K.hZ e0 A (j := j) hin (g := mkF m pc Ls (.int x :: .int j :: .ref a :: st)) rfl rfl (hb K.by hd)) (fun h' W => r h' W (Arv.set A q1 S hz H G (fits_nar_byte x) W _ hij hi))
theorem OGo.zastore (K : OCx p l e R s m args below meth c Z own nm bytes ml rt) {a : Addr} {ca : ClassId} {z j : Int32} {vs : List Value} {dv : Value} {x : Int32} (A : Arv Z h a ca .boolean z vs dv) (hj : ¬ j < 0 ∧ j < z) {i : Nat} (hij : j.toNatClampNeg = i) (hi : i < vs.length) (ga : n0 ≤ a) (hd : decode bytes pc = .ok (.bastore, 1)) (hp : pc + 1 = pc')
    (r : ∀ h', Wr h h' a j.toNatClampNeg (.int (nar .boolean x)) → Arv Z h' a ca .boolean z (vs.set i (.int (nar .boolean x))) dv → OGo p l e R s m args below meth c n0 Q h' cells slots pc' Ls st) : OGo p l e R s m args below meth c n0 Q h cells slots pc Ls (.int x :: .int j :: .ref a :: st) := by
  subst hp
  obtain ⟨cl, A, q1, S, hz, H, G⟩ := A
  have hin := inb_of S hj
  exact OGo.write ga (fun T locs k n X e0 => RoadKit.stZ X K.ex K.hZ e0 A (j := j) hin (g := mkF m pc Ls (.int x :: .int j :: .ref a :: st)) rfl rfl (hb K.by hd)) (fun h' W => r h' W (Arv.set A q1 S hz H G (fits_nar_bool x) W _ hij hi))
theorem OGo.aastore (K : OCx p l e R s m args below meth c Z own nm bytes ml rt) {a : Addr} {ca : ClassId} {ty : FieldType} {z j : Int32} {vs : List Value} {dv v : Value} (A : Arv Z h a ca ty z vs dv) (hty : ty.isReference = true) (hv : v.isRef = true) (F : Sto Z h a v) (hj : ¬ j < 0 ∧ j < z) {i : Nat} (hij : j.toNatClampNeg = i) (hi : i < vs.length) (ga : n0 ≤ a) (hd : decode bytes pc = .ok (.aastore, 1)) (hp : pc + 1 = pc')
    (r : ∀ h', Wr h h' a j.toNatClampNeg v → Arv Z h' a ca ty z (vs.set i v) dv → OGo p l e R s m args below meth c n0 Q h' cells slots pc' Ls st) : OGo p l e R s m args below meth c n0 Q h cells slots pc Ls (v :: .int j :: .ref a :: st) := by
  subst hp
  obtain ⟨cl, A, q1, S, hz, H, G⟩ := A
  have hin := inb_of S hj
  exact OGo.write ga (fun T locs k n X e0 => RoadKit.stR X K.ex K.hZ e0 A (j := j) hin hty F (g := mkF m pc Ls (v :: .int j :: .ref a :: st)) rfl rfl (hb K.by hd)) (fun h' W => r h' W (Arv.set A q1 S hz H G (by cases ty <;> first | (cases hty; done) | (cases v <;> first | (cases hv; done) | rfl)) W _ hij hi))
theorem OGo.initO (K : OCx p l e R s m args below meth c Z own nm bytes ml rt) {idx W : Nat} {a : Addr} (w1 : (Jvm.Cond.methodLink own idx Lib.objectInit).before a0 Z = true) (w2 : (Jvm.Cond.instanceMethod Lib.objectInit).before a0 Z = true) (w3 : (Jvm.Cond.code Lib.objectInit ⟨#[0xb1]⟩ 1 none).before a0 Z = true) (hd : decode bytes pc = .ok (.invokespecial idx, 3)) (hp : pc + 3 = pc') (hsz : Ls.size = ml) (hW : 2 * 0 + (st.map fun v => v.category).sum ≤ W) (hf : 1 ≤ R.frames) (hl : W + 12 ≤ R.locals) (r : OGo p l e R s m args below meth c n0 Q h cells slots pc' Ls st) : OGo p l e R s m args below meth c n0 Q h cells slots pc Ls (.ref a :: st) := by
  subst hp
  exact OGo.same (fun T locs k n X e0 => RoadKit.initO X K.ex K.hZ K.hown w1 w2 w3 e0 (g := mkF m pc Ls (.ref a :: st)) rfl (hsz.trans K.hml.symm) rfl (hb K.by hd) hf hW hl) r
theorem own_private {T : State} {locs : List Loc} {cells slots : Nat} (X : Stand p l e R s m args below meth c T locs cells slots) (hexec : p.tables.exec = Jvm.exec) {own : String} {index ni : Nat} {y : MethodName} {bytes : ByteArray} {maxL : Nat} {ret : Option FieldType}
    (hown : s.vm.findClass own = some m.cls) (hlink : (Jvm.Cond.methodLink own index y).before args s = true) (hinst : (Jvm.Cond.instanceMethod y).before args s = true) (hi : (Jvm.Cond.instantiable y.cls ni).before args s = true) (hpriv : s.PrivateAt y) (hcode : (Jvm.Cond.code y bytes maxL ret).before args s = true) (hy : y.cls ≠ "java/lang/invoke/MethodHandle" ∧ y.cls ≠ "java/lang/invoke/VarHandle")
    {W : Nat} {Pre : Pt → Array Value → Prop} {Post : Pt → Array Value → Option Value → Pt → Prop} (hK : Back l R p e below s args y 3 W Pre Post) {g : JFrame} (hg : g.method = m) (hsize : g.locals.size = c.maxLocals) {a : Addr} {cell : Cell} (hcell : T.heap[a]? = some cell) (hobj : ∀ q, cell.vm ≠ .statics q)
    {argsL rest : List Value} (hlen : ∀ sig, parseMethodDescriptor y.desc = some sig → argsL.length = sig.parameters.length) (hstack : g.stack = argsL.reverse ++ .ref a :: rest) (hW : 2 * g.monitorRoom + (rest.map fun v => v.category).sum ≤ W) (hdg : decode c.code g.pc = .ok (.invokevirtual index, 3))
    (hpre : ∀ vm₁, s.WarmedH vm₁ → Pre ⟨T.setVm vm₁, locs, cells, slots⟩ (.ref a :: argsL).toArray) :
    ∃ (v : Option Value) (vm₁ : Vm) (B : Pt), s.WarmedH vm₁ ∧ Stand p l e R s m args below meth c B.U B.locs B.cells B.slots ∧ Post ⟨T.setVm vm₁, locs, cells, slots⟩ (.ref a :: argsL).toArray v B ∧ Steps p.tables e below (T.setTop g) (B.U.setTop { g with pc := g.pc + 3, stack := v.toList ++ rest }) := by
  obtain ⟨mk, mt, n1, n2, n3, n4⟩ := Cond.instanceMethod_spec hinst
  obtain ⟨mt', ct, c1, -, -, -, -, -, -, c2⟩ := Cond.code_spec n1 hcode
  obtain rfl : mt' = mt := Option.some.inj (c1.symm.trans n2)
  obtain ⟨ci, ki, i1, i2, -, i3, -⟩ := Cond.instantiable_spec hi
  have i4 : s.vm.classes[mk.cls]? = some ki := by rw [Option.some.inj ((findClass_of_methodNamed n1).symm.trans i1)]; exact i2
  have i5 : ki.isInterface = false := (Bool.or_eq_false_iff.mp i3).1
  obtain ⟨vm₁, Y, sp⟩ := X.invokevirtual hexec hown hlink n1 n2 n3 i4 i5 hy hcell hobj (selectMethod_private n2 (hpriv mk mt' n1 n2)) n2 n4 i4 i5 hg (hlen _ c2) hstack hdg
  obtain ⟨v, B, Y', P', go⟩ := hK m meth c ⟨T.setVm vm₁, locs, cells, slots⟩ { g with stack := rest } (.invokevirtual index) mk (.ref a :: argsL).toArray Y hg hsize hdg hW (Y.named n1) (hpre vm₁ Y.warmed)
  exact ⟨v, vm₁, B, Y.warmed, Y', P', (sp _ fun acts => by rw [doInvoke_state]; exact Steps.refl _).trans go⟩
theorem OGo.callSV (K : OCx p l e R s m args below meth c Z own nm bytes ml rt) {y : MethodName} {index : Nat} {bytes' : ByteArray} {maxL : Nat} {ret : Option FieldType} {rm : Room} {W cells' slots' : Nat} {argsL : List Value} {P : Value → Heap → Prop} (w1 : (Jvm.Cond.methodLink own index y).before a0 Z = true) (w2 : (Jvm.Cond.static y).before a0 Z = true) (w3 : (Jvm.Cond.initialized y.cls).before a0 Z = true) (w4 : (Jvm.Cond.code y bytes' maxL ret).before a0 Z = true) (hy : y.cls ≠ "java/lang/invoke/MethodHandle" ∧ y.cls ≠ "java/lang/invoke/VarHandle") (C : OCon l Z n0 y bytes' maxL ret [] rm (argsL.toArray) h (OV P)) (hd : decode bytes pc = .ok (.invokestatic index, 3)) (hp : pc + 3 = pc') (hsz : Ls.size = ml) (hlen : ∀ sig, parseMethodDescriptor y.desc = some sig → argsL.length = sig.parameters.length) (hW : 2 * 0 + (st.map fun v => v.category).sum ≤ W) (hf : rm.frames + 1 ≤ R.frames) (hlo : W + (maxL + 11) + rm.locals ≤ R.locals) (hc : cells + rm.cells = cells') (hl : slots + rm.slots = slots') (hc' : cells' ≤ R.cells) (hl' : slots' ≤ R.slots) (r : ∀ (w : Value) (h' : Heap), P w h' → OGo p l e R s m args below meth c n0 Q h' cells' slots' pc' Ls (w :: st))
    : OGo p l e R s m args below meth c n0 Q h cells slots pc Ls (argsL.reverse ++ st) := by
  subst hp hc hl
  intro T locs k n X e0 N h1 h2
  obtain ⟨_, _, ⟨T', L', k', n'⟩, -, X', ⟨Lc, ⟨hQ, hN⟩, l', y', z'⟩, stp⟩ := Jvm.LawKit.callS X K.ex (y := y) K.hown (mvT K.hZ w1) (mvT K.hZ w2) (mvT K.hZ w3) (mvT K.hZ w4) hy (backOf (W := W) (Q := fun v h L => (OV P) v h ∧ Fr n0 L) C K.hZ w4 w3 hf hlo) (g := mkF m pc Ls (argsL.reverse ++ st)) rfl (hsz.trans K.hml.symm) (argsL := argsL) (rest := st) hlen rfl hW (hb K.by hd) (fun _ _ => ⟨rfl, e0, (by show k + rm.cells ≤ R.cells; omega), (by show n + rm.slots ≤ R.slots; omega)⟩)
  dsimp only [Pt.U, Pt.locs, Pt.cells, Pt.slots] at X' l' y' z' stp hQ
  subst l' y' z'
  obtain ⟨w, rfl, hQ⟩ := hQ
  obtain ⟨s₂, v, L, g, r'⟩ := r w _ hQ T' _ _ _ X' rfl (Fr.app N hN) (by omega) (by omega)
  exact ⟨s₂, v, L, stp _ g, r'⟩
theorem OGo.callSN (K : OCx p l e R s m args below meth c Z own nm bytes ml rt) {y : MethodName} {index : Nat} {bytes' : ByteArray} {maxL : Nat} {ret : Option FieldType} {rm : Room} {W cells' slots' : Nat} {argsL : List Value} {P : Heap → Prop} (w1 : (Jvm.Cond.methodLink own index y).before a0 Z = true) (w2 : (Jvm.Cond.static y).before a0 Z = true) (w3 : (Jvm.Cond.initialized y.cls).before a0 Z = true) (w4 : (Jvm.Cond.code y bytes' maxL ret).before a0 Z = true) (hy : y.cls ≠ "java/lang/invoke/MethodHandle" ∧ y.cls ≠ "java/lang/invoke/VarHandle") (C : OCon l Z n0 y bytes' maxL ret [] rm (argsL.toArray) h (ON P)) (hd : decode bytes pc = .ok (.invokestatic index, 3)) (hp : pc + 3 = pc') (hsz : Ls.size = ml) (hlen : ∀ sig, parseMethodDescriptor y.desc = some sig → argsL.length = sig.parameters.length) (hW : 2 * 0 + (st.map fun v => v.category).sum ≤ W) (hf : rm.frames + 1 ≤ R.frames) (hlo : W + (maxL + 11) + rm.locals ≤ R.locals) (hc : cells + rm.cells = cells') (hl : slots + rm.slots = slots') (hc' : cells' ≤ R.cells) (hl' : slots' ≤ R.slots) (r : ∀ (h' : Heap), P h' → OGo p l e R s m args below meth c n0 Q h' cells' slots' pc' Ls st)
    : OGo p l e R s m args below meth c n0 Q h cells slots pc Ls (argsL.reverse ++ st) := by
  subst hp hc hl
  intro T locs k n X e0 N h1 h2
  obtain ⟨_, _, ⟨T', L', k', n'⟩, -, X', ⟨Lc, ⟨hQ, hN⟩, l', y', z'⟩, stp⟩ := Jvm.LawKit.callS X K.ex (y := y) K.hown (mvT K.hZ w1) (mvT K.hZ w2) (mvT K.hZ w3) (mvT K.hZ w4) hy (backOf (W := W) (Q := fun v h L => (ON P) v h ∧ Fr n0 L) C K.hZ w4 w3 hf hlo) (g := mkF m pc Ls (argsL.reverse ++ st)) rfl (hsz.trans K.hml.symm) (argsL := argsL) (rest := st) hlen rfl hW (hb K.by hd) (fun _ _ => ⟨rfl, e0, (by show k + rm.cells ≤ R.cells; omega), (by show n + rm.slots ≤ R.slots; omega)⟩)
  dsimp only [Pt.U, Pt.locs, Pt.cells, Pt.slots] at X' l' y' z' stp hQ
  subst l' y' z'
  obtain ⟨rfl, hQ⟩ := hQ
  obtain ⟨s₂, v, L, g, r'⟩ := r  _ hQ T' _ _ _ X' rfl (Fr.app N hN) (by omega) (by omega)
  exact ⟨s₂, v, L, stp _ g, r'⟩
theorem OGo.callIV (K : OCx p l e R s m args below meth c Z own nm bytes ml rt) {y : MethodName} {a : Addr} {index : Nat} {bytes' : ByteArray} {maxL : Nat} {rm : Room} {W cells' slots' : Nat} {argsL : List Value} {P : Value → Heap → Prop} (hy1 : y.name = "<init>") (w1 : (Jvm.Cond.methodLink own index y).before a0 Z = true) (w2 : (Jvm.Cond.instanceMethod y).before a0 Z = true) (w3 : (Jvm.Cond.initialized y.cls).before a0 Z = true) (w4 : (Jvm.Cond.code y bytes' maxL none).before a0 Z = true) (hy : y.cls ≠ "java/lang/invoke/MethodHandle" ∧ y.cls ≠ "java/lang/invoke/VarHandle") (C : OCon l Z n0 y bytes' maxL none [] rm ((.ref a :: argsL).toArray) h (OV P)) (hd : decode bytes pc = .ok (.invokespecial index, 3)) (hp : pc + 3 = pc') (hsz : Ls.size = ml) (hlen : ∀ sig, parseMethodDescriptor y.desc = some sig → argsL.length = sig.parameters.length) (hW : 2 * 0 + (st.map fun v => v.category).sum ≤ W) (hf : rm.frames + 1 ≤ R.frames) (hlo : W + (maxL + 11) + rm.locals ≤ R.locals) (hc : cells + rm.cells = cells') (hl : slots + rm.slots = slots') (hc' : cells' ≤ R.cells) (hl' : slots' ≤ R.slots) (r : ∀ (w : Value) (h' : Heap), P w h' → OGo p l e R s m args below meth c n0 Q h' cells' slots' pc' Ls (w :: st))
    : OGo p l e R s m args below meth c n0 Q h cells slots pc Ls (argsL.reverse ++ .ref a :: st) := by
  subst hp hc hl
  intro T locs k n X e0 N h1 h2
  obtain ⟨_, _, ⟨T', L', k', n'⟩, -, X', ⟨Lc, ⟨hQ, hN⟩, l', y', z'⟩, stp⟩ := X.specialBack K.ex (y := y) hy1 K.hown (mvT K.hZ w1) (mvT K.hZ w2) (mvT K.hZ w4) hy (backOf (W := W) (Q := fun v h L => (OV P) v h ∧ Fr n0 L) C K.hZ w4 w3 hf hlo) (g := mkF m pc Ls (argsL.reverse ++ .ref a :: st)) rfl (hsz.trans K.hml.symm) (Steps.refl _) (a := a) (argsL := argsL) (rest := st) hlen rfl hW (hb K.by hd) (fun _ _ => ⟨rfl, e0, (by show k + rm.cells ≤ R.cells; omega), (by show n + rm.slots ≤ R.slots; omega)⟩)
  dsimp only [Pt.U, Pt.locs, Pt.cells, Pt.slots] at X' l' y' z' stp hQ
  subst l' y' z'
  obtain ⟨w, rfl, hQ⟩ := hQ
  obtain ⟨s₂, v, L, g, r'⟩ := r w _ hQ T' _ _ _ X' rfl (Fr.app N hN) (by omega) (by omega)
  exact ⟨s₂, v, L, stp.trans g, r'⟩
theorem OGo.callIN (K : OCx p l e R s m args below meth c Z own nm bytes ml rt) {y : MethodName} {a : Addr} {index : Nat} {bytes' : ByteArray} {maxL : Nat} {rm : Room} {W cells' slots' : Nat} {argsL : List Value} {P : Heap → Prop} (hy1 : y.name = "<init>") (w1 : (Jvm.Cond.methodLink own index y).before a0 Z = true) (w2 : (Jvm.Cond.instanceMethod y).before a0 Z = true) (w3 : (Jvm.Cond.initialized y.cls).before a0 Z = true) (w4 : (Jvm.Cond.code y bytes' maxL none).before a0 Z = true) (hy : y.cls ≠ "java/lang/invoke/MethodHandle" ∧ y.cls ≠ "java/lang/invoke/VarHandle") (C : OCon l Z n0 y bytes' maxL none [] rm ((.ref a :: argsL).toArray) h (ON P)) (hd : decode bytes pc = .ok (.invokespecial index, 3)) (hp : pc + 3 = pc') (hsz : Ls.size = ml) (hlen : ∀ sig, parseMethodDescriptor y.desc = some sig → argsL.length = sig.parameters.length) (hW : 2 * 0 + (st.map fun v => v.category).sum ≤ W) (hf : rm.frames + 1 ≤ R.frames) (hlo : W + (maxL + 11) + rm.locals ≤ R.locals) (hc : cells + rm.cells = cells') (hl : slots + rm.slots = slots') (hc' : cells' ≤ R.cells) (hl' : slots' ≤ R.slots) (r : ∀ (h' : Heap), P h' → OGo p l e R s m args below meth c n0 Q h' cells' slots' pc' Ls st)
    : OGo p l e R s m args below meth c n0 Q h cells slots pc Ls (argsL.reverse ++ .ref a :: st) := by
  subst hp hc hl
  intro T locs k n X e0 N h1 h2
  obtain ⟨_, _, ⟨T', L', k', n'⟩, -, X', ⟨Lc, ⟨hQ, hN⟩, l', y', z'⟩, stp⟩ := X.specialBack K.ex (y := y) hy1 K.hown (mvT K.hZ w1) (mvT K.hZ w2) (mvT K.hZ w4) hy (backOf (W := W) (Q := fun v h L => (ON P) v h ∧ Fr n0 L) C K.hZ w4 w3 hf hlo) (g := mkF m pc Ls (argsL.reverse ++ .ref a :: st)) rfl (hsz.trans K.hml.symm) (Steps.refl _) (a := a) (argsL := argsL) (rest := st) hlen rfl hW (hb K.by hd) (fun _ _ => ⟨rfl, e0, (by show k + rm.cells ≤ R.cells; omega), (by show n + rm.slots ≤ R.slots; omega)⟩)
  dsimp only [Pt.U, Pt.locs, Pt.cells, Pt.slots] at X' l' y' z' stp hQ
  subst l' y' z'
  obtain ⟨rfl, hQ⟩ := hQ
  obtain ⟨s₂, v, L, g, r'⟩ := r  _ hQ T' _ _ _ X' rfl (Fr.app N hN) (by omega) (by omega)
  exact ⟨s₂, v, L, stp.trans g, r'⟩
theorem OGo.callPV (K : OCx p l e R s m args below meth c Z own nm bytes ml rt) {y : MethodName} {a : Addr} {C0 : String} {index : Nat} {bytes' : ByteArray} {maxL : Nat} {ret : Option FieldType} {rm : Room} {W cells' slots' : Nat} {argsL : List Value} {P : Value → Heap → Prop} (E : Exa Z h a C0) (w1 : (Jvm.Cond.methodLink own index y).before a0 Z = true) (w2 : (Jvm.Cond.instanceMethod y).before a0 Z = true) (w5 : (Jvm.Cond.selects y.cls y y).before a0 Z = true) (w6 : (Jvm.Cond.privateMethod y).before a0 Z = true) (w3 : (Jvm.Cond.initialized y.cls).before a0 Z = true) (w4 : (Jvm.Cond.code y bytes' maxL ret).before a0 Z = true) (hy : y.cls ≠ "java/lang/invoke/MethodHandle" ∧ y.cls ≠ "java/lang/invoke/VarHandle") (C : OCon l Z n0 y bytes' maxL ret [] rm ((.ref a :: argsL).toArray) h (OV P)) (hd : decode bytes pc = .ok (.invokevirtual index, 3)) (hp : pc + 3 = pc') (hsz : Ls.size = ml) (hlen : ∀ sig, parseMethodDescriptor y.desc = some sig → argsL.length = sig.parameters.length) (hW : 2 * 0 + (st.map fun v => v.category).sum ≤ W) (hf : rm.frames + 1 ≤ R.frames) (hlo : W + (maxL + 11) + rm.locals ≤ R.locals) (hc : cells + rm.cells = cells') (hl : slots + rm.slots = slots') (hc' : cells' ≤ R.cells) (hl' : slots' ≤ R.slots) (r : ∀ (w : Value) (h' : Heap), P w h' → OGo p l e R s m args below meth c n0 Q h' cells' slots' pc' Ls (w :: st))
    : OGo p l e R s m args below meth c n0 Q h cells slots pc Ls (argsL.reverse ++ .ref a :: st) := by
  subst hp hc hl
  intro T locs k n X e0 N h1 h2
  obtain ⟨cq, q, q'⟩ := E.cell
  obtain ⟨_, _, ⟨T', L', k', n'⟩, -, X', ⟨Lc, ⟨hQ, hN⟩, l', y', z'⟩, stp⟩ := X.privateBack K.ex (y := y) K.hown (mvT K.hZ w1) (mvT K.hZ w2) (mvT K.hZ w5) (Cond.privateMethod_at (mvP K.hZ w6 (args := #[]))) (mvT K.hZ w4) hy (backOf (W := W) (Q := fun v h L => (OV P) v h ∧ Fr n0 L) C K.hZ w4 w3 hf hlo) (g := mkF m pc Ls (argsL.reverse ++ .ref a :: st)) rfl (hsz.trans K.hml.symm) (Steps.refl _) (a := a) (by rw [e0]; exact q) q' (argsL := argsL) (rest := st) hlen rfl hW (hb K.by hd) (fun _ _ => ⟨rfl, e0, (by show k + rm.cells ≤ R.cells; omega), (by show n + rm.slots ≤ R.slots; omega)⟩)
  dsimp only [Pt.U, Pt.locs, Pt.cells, Pt.slots] at X' l' y' z' stp hQ
  subst l' y' z'
  obtain ⟨w, rfl, hQ⟩ := hQ
  obtain ⟨s₂, v, L, g, r'⟩ := r w _ hQ T' _ _ _ X' rfl (Fr.app N hN) (by omega) (by omega)
  exact ⟨s₂, v, L, stp.trans g, r'⟩
theorem OGo.callPN (K : OCx p l e R s m args below meth c Z own nm bytes ml rt) {y : MethodName} {a : Addr} {C0 : String} {index : Nat} {bytes' : ByteArray} {maxL : Nat} {ret : Option FieldType} {rm : Room} {W cells' slots' : Nat} {argsL : List Value} {P : Heap → Prop} (E : Exa Z h a C0) (w1 : (Jvm.Cond.methodLink own index y).before a0 Z = true) (w2 : (Jvm.Cond.instanceMethod y).before a0 Z = true) (w5 : (Jvm.Cond.selects y.cls y y).before a0 Z = true) (w6 : (Jvm.Cond.privateMethod y).before a0 Z = true) (w3 : (Jvm.Cond.initialized y.cls).before a0 Z = true) (w4 : (Jvm.Cond.code y bytes' maxL ret).before a0 Z = true) (hy : y.cls ≠ "java/lang/invoke/MethodHandle" ∧ y.cls ≠ "java/lang/invoke/VarHandle") (C : OCon l Z n0 y bytes' maxL ret [] rm ((.ref a :: argsL).toArray) h (ON P)) (hd : decode bytes pc = .ok (.invokevirtual index, 3)) (hp : pc + 3 = pc') (hsz : Ls.size = ml) (hlen : ∀ sig, parseMethodDescriptor y.desc = some sig → argsL.length = sig.parameters.length) (hW : 2 * 0 + (st.map fun v => v.category).sum ≤ W) (hf : rm.frames + 1 ≤ R.frames) (hlo : W + (maxL + 11) + rm.locals ≤ R.locals) (hc : cells + rm.cells = cells') (hl : slots + rm.slots = slots') (hc' : cells' ≤ R.cells) (hl' : slots' ≤ R.slots) (r : ∀ (h' : Heap), P h' → OGo p l e R s m args below meth c n0 Q h' cells' slots' pc' Ls st)
    : OGo p l e R s m args below meth c n0 Q h cells slots pc Ls (argsL.reverse ++ .ref a :: st) := by
  subst hp hc hl
  intro T locs k n X e0 N h1 h2
  obtain ⟨cq, q, q'⟩ := E.cell
  obtain ⟨_, _, ⟨T', L', k', n'⟩, -, X', ⟨Lc, ⟨hQ, hN⟩, l', y', z'⟩, stp⟩ := X.privateBack K.ex (y := y) K.hown (mvT K.hZ w1) (mvT K.hZ w2) (mvT K.hZ w5) (Cond.privateMethod_at (mvP K.hZ w6 (args := #[]))) (mvT K.hZ w4) hy (backOf (W := W) (Q := fun v h L => (ON P) v h ∧ Fr n0 L) C K.hZ w4 w3 hf hlo) (g := mkF m pc Ls (argsL.reverse ++ .ref a :: st)) rfl (hsz.trans K.hml.symm) (Steps.refl _) (a := a) (by rw [e0]; exact q) q' (argsL := argsL) (rest := st) hlen rfl hW (hb K.by hd) (fun _ _ => ⟨rfl, e0, (by show k + rm.cells ≤ R.cells; omega), (by show n + rm.slots ≤ R.slots; omega)⟩)
  dsimp only [Pt.U, Pt.locs, Pt.cells, Pt.slots] at X' l' y' z' stp hQ
  subst l' y' z'
  obtain ⟨rfl, hQ⟩ := hQ
  obtain ⟨s₂, v, L, g, r'⟩ := r  _ hQ T' _ _ _ X' rfl (Fr.app N hN) (by omega) (by omega)
  exact ⟨s₂, v, L, stp.trans g, r'⟩
theorem OGo.callVV (K : OCx p l e R s m args below meth c Z own nm bytes ml rt) {y z : MethodName} {a : Addr} {C0 : String} {index : Nat} {bytes' : ByteArray} {maxL : Nat} {ret : Option FieldType} {rm : Room} {W cells' slots' : Nat} {argsL : List Value} {P : Value → Heap → Prop} (E : Exa Z h a C0) (w1 : (Jvm.Cond.methodLink own index y).before a0 Z = true) (w2 : (Jvm.Cond.declares y).before a0 Z = true) (hnf : NotFace s y) (w5 : (Jvm.Cond.selects C0 y z).before a0 Z = true) (w6 : (Jvm.Cond.instanceMethod z).before a0 Z = true) (w3 : (Jvm.Cond.initialized z.cls).before a0 Z = true) (w4 : (Jvm.Cond.code z bytes' maxL ret).before a0 Z = true) (hy : y.cls ≠ "java/lang/invoke/MethodHandle" ∧ y.cls ≠ "java/lang/invoke/VarHandle") (C : OCon l Z n0 z bytes' maxL ret [] rm ((.ref a :: argsL).toArray) h (OV P)) (hd : decode bytes pc = .ok (.invokevirtual index, 3)) (hp : pc + 3 = pc') (hsz : Ls.size = ml) (hlen : ∀ sig, parseMethodDescriptor y.desc = some sig → argsL.length = sig.parameters.length) (hW : 2 * 0 + (st.map fun v => v.category).sum ≤ W) (hf : rm.frames + 1 ≤ R.frames) (hlo : W + (maxL + 11) + rm.locals ≤ R.locals) (hc : cells + rm.cells = cells') (hl : slots + rm.slots = slots') (hc' : cells' ≤ R.cells) (hl' : slots' ≤ R.slots) (r : ∀ (w : Value) (h' : Heap), P w h' → OGo p l e R s m args below meth c n0 Q h' cells' slots' pc' Ls (w :: st))
    : OGo p l e R s m args below meth c n0 Q h cells slots pc Ls (argsL.reverse ++ .ref a :: st) := by
  subst hp hc hl
  intro T locs k n X e0 N h1 h2
  obtain ⟨cq, kq, qa, qb, qc⟩ := isOf K.hZ e0 E
  obtain ⟨_, _, ⟨T', L', k', n'⟩, -, X', ⟨Lc, ⟨hQ, hN⟩, l', y', z'⟩, stp⟩ := X.virtualBack K.ex (y := y) (z := z) K.hown (mvT K.hZ w1) (mvT K.hZ w2) hnf (mvT K.hZ w5) (mvT K.hZ w6) hy (backOf (W := W) (Q := fun v h L => (OV P) v h ∧ Fr n0 L) C K.hZ w4 w3 hf hlo) qa qc (g := mkF m pc Ls (argsL.reverse ++ .ref a :: st)) rfl (hsz.trans K.hml.symm) (Steps.refl _) (argsL := argsL) (rest := st) hlen rfl hW (hb K.by hd) (fun _ _ => ⟨rfl, e0, (by show k + rm.cells ≤ R.cells; omega), (by show n + rm.slots ≤ R.slots; omega)⟩)
  dsimp only [Pt.U, Pt.locs, Pt.cells, Pt.slots] at X' l' y' z' stp hQ
  subst l' y' z'
  obtain ⟨w, rfl, hQ⟩ := hQ
  obtain ⟨s₂, v, L, g, r'⟩ := r w _ hQ T' _ _ _ X' rfl (Fr.app N hN) (by omega) (by omega)
  exact ⟨s₂, v, L, stp.trans g, r'⟩
theorem OGo.callVN (K : OCx p l e R s m args below meth c Z own nm bytes ml rt) {y z : MethodName} {a : Addr} {C0 : String} {index : Nat} {bytes' : ByteArray} {maxL : Nat} {ret : Option FieldType} {rm : Room} {W cells' slots' : Nat} {argsL : List Value} {P : Heap → Prop} (E : Exa Z h a C0) (w1 : (Jvm.Cond.methodLink own index y).before a0 Z = true) (w2 : (Jvm.Cond.declares y).before a0 Z = true) (hnf : NotFace s y) (w5 : (Jvm.Cond.selects C0 y z).before a0 Z = true) (w6 : (Jvm.Cond.instanceMethod z).before a0 Z = true) (w3 : (Jvm.Cond.initialized z.cls).before a0 Z = true) (w4 : (Jvm.Cond.code z bytes' maxL ret).before a0 Z = true) (hy : y.cls ≠ "java/lang/invoke/MethodHandle" ∧ y.cls ≠ "java/lang/invoke/VarHandle") (C : OCon l Z n0 z bytes' maxL ret [] rm ((.ref a :: argsL).toArray) h (ON P)) (hd : decode bytes pc = .ok (.invokevirtual index, 3)) (hp : pc + 3 = pc') (hsz : Ls.size = ml) (hlen : ∀ sig, parseMethodDescriptor y.desc = some sig → argsL.length = sig.parameters.length) (hW : 2 * 0 + (st.map fun v => v.category).sum ≤ W) (hf : rm.frames + 1 ≤ R.frames) (hlo : W + (maxL + 11) + rm.locals ≤ R.locals) (hc : cells + rm.cells = cells') (hl : slots + rm.slots = slots') (hc' : cells' ≤ R.cells) (hl' : slots' ≤ R.slots) (r : ∀ (h' : Heap), P h' → OGo p l e R s m args below meth c n0 Q h' cells' slots' pc' Ls st)
    : OGo p l e R s m args below meth c n0 Q h cells slots pc Ls (argsL.reverse ++ .ref a :: st) := by
  subst hp hc hl
  intro T locs k n X e0 N h1 h2
  obtain ⟨cq, kq, qa, qb, qc⟩ := isOf K.hZ e0 E
  obtain ⟨_, _, ⟨T', L', k', n'⟩, -, X', ⟨Lc, ⟨hQ, hN⟩, l', y', z'⟩, stp⟩ := X.virtualBack K.ex (y := y) (z := z) K.hown (mvT K.hZ w1) (mvT K.hZ w2) hnf (mvT K.hZ w5) (mvT K.hZ w6) hy (backOf (W := W) (Q := fun v h L => (ON P) v h ∧ Fr n0 L) C K.hZ w4 w3 hf hlo) qa qc (g := mkF m pc Ls (argsL.reverse ++ .ref a :: st)) rfl (hsz.trans K.hml.symm) (Steps.refl _) (argsL := argsL) (rest := st) hlen rfl hW (hb K.by hd) (fun _ _ => ⟨rfl, e0, (by show k + rm.cells ≤ R.cells; omega), (by show n + rm.slots ≤ R.slots; omega)⟩)
  dsimp only [Pt.U, Pt.locs, Pt.cells, Pt.slots] at X' l' y' z' stp hQ
  subst l' y' z'
  obtain ⟨rfl, hQ⟩ := hQ
  obtain ⟨s₂, v, L, g, r'⟩ := r  _ hQ T' _ _ _ X' rfl (Fr.app N hN) (by omega) (by omega)
  exact ⟨s₂, v, L, stp.trans g, r'⟩
theorem OGo.callFV (K : OCx p l e R s m args below meth c Z own nm bytes ml rt) {y z : MethodName} {a : Addr} {C0 : String} {cnt : Nat} {index : Nat} {bytes' : ByteArray} {maxL : Nat} {ret : Option FieldType} {rm : Room} {W cells' slots' : Nat} {argsL : List Value} {P : Value → Heap → Prop} (E : Exa Z h a C0) (w1 : (Jvm.Cond.methodLink own index y).before a0 Z = true) (w2 : (Jvm.Cond.declares y).before a0 Z = true) (w7 : (Jvm.Cond.interfaceMethod y.cls y.cls y.name y.desc).before a0 Z = true) (w5 : (Jvm.Cond.selects C0 y z).before a0 Z = true) (w6 : (Jvm.Cond.instanceMethod z).before a0 Z = true) (w8 : (Jvm.Cond.publicMethod z).before a0 Z = true) (w9 : (Jvm.Cond.unhidden C0 y.name y.desc).before a0 Z = true) (w10 : (Jvm.Cond.castable C0 y.cls).before a0 Z = true) (w3 : (Jvm.Cond.initialized z.cls).before a0 Z = true) (w4 : (Jvm.Cond.code z bytes' maxL ret).before a0 Z = true) (hy : y.cls ≠ "java/lang/invoke/MethodHandle" ∧ y.cls ≠ "java/lang/invoke/VarHandle") (C : OCon l Z n0 z bytes' maxL ret [] rm ((.ref a :: argsL).toArray) h (OV P)) (hd : decode bytes pc = .ok (.invokeinterface index cnt, 5)) (hp : pc + 5 = pc') (hsz : Ls.size = ml) (hlen : ∀ sig, parseMethodDescriptor y.desc = some sig → argsL.length = sig.parameters.length) (hW : 2 * 0 + (st.map fun v => v.category).sum ≤ W) (hf : rm.frames + 1 ≤ R.frames) (hlo : W + (maxL + 11) + rm.locals ≤ R.locals) (hc : cells + rm.cells = cells') (hl : slots + rm.slots = slots') (hc' : cells' ≤ R.cells) (hl' : slots' ≤ R.slots) (r : ∀ (w : Value) (h' : Heap), P w h' → OGo p l e R s m args below meth c n0 Q h' cells' slots' pc' Ls (w :: st))
    : OGo p l e R s m args below meth c n0 Q h cells slots pc Ls (argsL.reverse ++ .ref a :: st) := by
  subst hp hc hl
  intro T locs k n X e0 N h1 h2
  obtain ⟨cq, kq, qa, qb, qc⟩ := isOf K.hZ e0 E
  obtain ⟨_, _, ⟨T', L', k', n'⟩, -, X', ⟨Lc, ⟨hQ, hN⟩, l', y', z'⟩, stp⟩ := X.interfaceBack K.ex (xi := y) (y := z) K.hown (mvT K.hZ w1) (mvT K.hZ w2) (mvT K.hZ w7 (by simp [Cond.onTables, Cond.keepsFace, Cond.keeps, Cond.steady, Cond.faceAtom, hy.1, hy.2])) (mvT K.hZ w5) (mvT K.hZ w6) (mvT K.hZ w8) (mvT K.hZ w9) (mvT K.hZ w10) hy (backOf (W := W) (Q := fun v h L => (OV P) v h ∧ Fr n0 L) C K.hZ w4 w3 hf hlo) qa qb qc (g := mkF m pc Ls (argsL.reverse ++ .ref a :: st)) rfl (hsz.trans K.hml.symm) (Steps.refl _) (argsL := argsL) (rest := st) hlen rfl hW (hb K.by hd) (fun _ _ => ⟨rfl, e0, (by show k + rm.cells ≤ R.cells; omega), (by show n + rm.slots ≤ R.slots; omega)⟩)
  dsimp only [Pt.U, Pt.locs, Pt.cells, Pt.slots] at X' l' y' z' stp hQ
  subst l' y' z'
  obtain ⟨w, rfl, hQ⟩ := hQ
  obtain ⟨s₂, v, L, g, r'⟩ := r w _ hQ T' _ _ _ X' rfl (Fr.app N hN) (by omega) (by omega)
  exact ⟨s₂, v, L, stp.trans g, r'⟩
theorem OGo.callFN (K : OCx p l e R s m args below meth c Z own nm bytes ml rt) {y z : MethodName} {a : Addr} {C0 : String} {cnt : Nat} {index : Nat} {bytes' : ByteArray} {maxL : Nat} {ret : Option FieldType} {rm : Room} {W cells' slots' : Nat} {argsL : List Value} {P : Heap → Prop} (E : Exa Z h a C0) (w1 : (Jvm.Cond.methodLink own index y).before a0 Z = true) (w2 : (Jvm.Cond.declares y).before a0 Z = true) (w7 : (Jvm.Cond.interfaceMethod y.cls y.cls y.name y.desc).before a0 Z = true) (w5 : (Jvm.Cond.selects C0 y z).before a0 Z = true) (w6 : (Jvm.Cond.instanceMethod z).before a0 Z = true) (w8 : (Jvm.Cond.publicMethod z).before a0 Z = true) (w9 : (Jvm.Cond.unhidden C0 y.name y.desc).before a0 Z = true) (w10 : (Jvm.Cond.castable C0 y.cls).before a0 Z = true) (w3 : (Jvm.Cond.initialized z.cls).before a0 Z = true) (w4 : (Jvm.Cond.code z bytes' maxL ret).before a0 Z = true) (hy : y.cls ≠ "java/lang/invoke/MethodHandle" ∧ y.cls ≠ "java/lang/invoke/VarHandle") (C : OCon l Z n0 z bytes' maxL ret [] rm ((.ref a :: argsL).toArray) h (ON P)) (hd : decode bytes pc = .ok (.invokeinterface index cnt, 5)) (hp : pc + 5 = pc') (hsz : Ls.size = ml) (hlen : ∀ sig, parseMethodDescriptor y.desc = some sig → argsL.length = sig.parameters.length) (hW : 2 * 0 + (st.map fun v => v.category).sum ≤ W) (hf : rm.frames + 1 ≤ R.frames) (hlo : W + (maxL + 11) + rm.locals ≤ R.locals) (hc : cells + rm.cells = cells') (hl : slots + rm.slots = slots') (hc' : cells' ≤ R.cells) (hl' : slots' ≤ R.slots) (r : ∀ (h' : Heap), P h' → OGo p l e R s m args below meth c n0 Q h' cells' slots' pc' Ls st)
    : OGo p l e R s m args below meth c n0 Q h cells slots pc Ls (argsL.reverse ++ .ref a :: st) := by
  subst hp hc hl
  intro T locs k n X e0 N h1 h2
  obtain ⟨cq, kq, qa, qb, qc⟩ := isOf K.hZ e0 E
  obtain ⟨_, _, ⟨T', L', k', n'⟩, -, X', ⟨Lc, ⟨hQ, hN⟩, l', y', z'⟩, stp⟩ := X.interfaceBack K.ex (xi := y) (y := z) K.hown (mvT K.hZ w1) (mvT K.hZ w2) (mvT K.hZ w7 (by simp [Cond.onTables, Cond.keepsFace, Cond.keeps, Cond.steady, Cond.faceAtom, hy.1, hy.2])) (mvT K.hZ w5) (mvT K.hZ w6) (mvT K.hZ w8) (mvT K.hZ w9) (mvT K.hZ w10) hy (backOf (W := W) (Q := fun v h L => (ON P) v h ∧ Fr n0 L) C K.hZ w4 w3 hf hlo) qa qb qc (g := mkF m pc Ls (argsL.reverse ++ .ref a :: st)) rfl (hsz.trans K.hml.symm) (Steps.refl _) (argsL := argsL) (rest := st) hlen rfl hW (hb K.by hd) (fun _ _ => ⟨rfl, e0, (by show k + rm.cells ≤ R.cells; omega), (by show n + rm.slots ≤ R.slots; omega)⟩)
  dsimp only [Pt.U, Pt.locs, Pt.cells, Pt.slots] at X' l' y' z' stp hQ
  subst l' y' z'
  obtain ⟨rfl, hQ⟩ := hQ
  obtain ⟨s₂, v, L, g, r'⟩ := r  _ hQ T' _ _ _ X' rfl (Fr.app N hN) (by omega) (by omega)
  exact ⟨s₂, v, L, stp.trans g, r'⟩
theorem OGo.copy (K : OCx p l e R s m args below meth c Z own nm bytes ml rt) {index W : Nat} {a b : Addr} {k k' : ClassId} {ty : FieldType} {z z' sp dp nn : Int32} {vs vd us : List Value} {dv dd : Value} (w1 : (Jvm.Cond.methodLink own index Jvm.Stand.acN).before a0 Z = true) (w2 : (Jvm.Cond.native Jvm.Stand.acN).before a0 Z = true) (w3 : (Jvm.Cond.static Jvm.Stand.acN).before a0 Z = true) (w4 : (Jvm.Cond.initialized "java/lang/System").before a0 Z = true)
    (A : Arv Z h a k ty z vs dv) (B : Arv Z h b k' ty z' vd dd) (hty : refKind ty = false) (h1 : ¬ sp < 0) (h2 : ¬ dp < 0) (h3 : ¬ nn < 0) (h4 : sp.toNatClampNeg + nn.toNatClampNeg ≤ z.toNatClampNeg) (h5 : dp.toNatClampNeg + nn.toNatClampNeg ≤ z'.toNatClampNeg) (hus : us = (List.range nn.toNatClampNeg).map fun i => vs.getD (sp.toNatClampNeg + i) dv) (hl : dp.toNatClampNeg + nn.toNatClampNeg ≤ vd.length) (ge : n0 ≤ b)
    (hd : decode bytes pc = .ok (.invokestatic index, 3)) (hp : pc + 3 = pc') (hsz : Ls.size = ml) (hf : 1 ≤ R.frames) (hW : 2 * 0 + (st.map fun v => v.category).sum ≤ W) (hlo : W + (nativeFrameWords "java/lang/System" "arraycopy" 5 + 11) ≤ R.locals)
    (r : ∀ h', Keep h h' [b] → Arv Z h' b k' ty z' (vd.take dp.toNatClampNeg ++ us ++ vd.drop (dp.toNatClampNeg + nn.toNatClampNeg)) dd → OGo p l e R s m args below meth c n0 Q h' cells slots pc' Ls st) : OGo p l e R s m args below meth c n0 Q h cells slots pc Ls (.int nn :: .int dp :: .ref b :: .int sp :: .ref a :: st) := by
  subst hp
  intro T locs k n X e0 N h1' h2'
  obtain ⟨T', h', L, X', e', N', K', V', st'⟩ := RoadKit.cpA X K.ex K.hZ K.hown w1 w2 w3 w4 e0 A B (Or.inl ⟨rfl, hty⟩) h1 h2 h3 h4 h5 hus hl N ge (g := mkF m pc Ls (.int nn :: .int dp :: .ref b :: .int sp :: .ref a :: st)) rfl (hsz.trans K.hml.symm) rfl (hb K.by hd) hf hW hlo
  obtain ⟨s₂, v, L2, g, r'⟩ := r h' K' V' T' L k n X' e' N' h1' h2'
  exact ⟨s₂, v, L2, st' _ g, r'⟩
theorem OGo.callQV (K : OCx p l e R s m args below meth c Z own nm bytes ml rt) {y : MethodName} {a : Addr} {C0 : String} {ni : Nat} {index : Nat} {bytes' : ByteArray} {maxL : Nat} {ret : Option FieldType} {rm : Room} {W cells' slots' : Nat} {argsL : List Value} {P : Value → Heap → Prop} (E : Exa Z h a C0) (w1 : (Jvm.Cond.methodLink own index y).before a0 Z = true) (w2 : (Jvm.Cond.instanceMethod y).before a0 Z = true) (w5 : (Jvm.Cond.instantiable y.cls ni).before a0 Z = true) (w6 : (Jvm.Cond.privateMethod y).before a0 Z = true) (w3 : (Jvm.Cond.initialized y.cls).before a0 Z = true) (w4 : (Jvm.Cond.code y bytes' maxL ret).before a0 Z = true) (hy : y.cls ≠ "java/lang/invoke/MethodHandle" ∧ y.cls ≠ "java/lang/invoke/VarHandle") (C : OCon l Z n0 y bytes' maxL ret [] rm ((.ref a :: argsL).toArray) h (OV P)) (hd : decode bytes pc = .ok (.invokevirtual index, 3)) (hp : pc + 3 = pc') (hsz : Ls.size = ml) (hlen : ∀ sig, parseMethodDescriptor y.desc = some sig → argsL.length = sig.parameters.length) (hW : 2 * 0 + (st.map fun v => v.category).sum ≤ W) (hf : rm.frames + 1 ≤ R.frames) (hlo : W + (maxL + 11) + rm.locals ≤ R.locals) (hc : cells + rm.cells = cells') (hl : slots + rm.slots = slots') (hc' : cells' ≤ R.cells) (hl' : slots' ≤ R.slots) (r : ∀ (w : Value) (h' : Heap), P w h' → OGo p l e R s m args below meth c n0 Q h' cells' slots' pc' Ls (w :: st))
    : OGo p l e R s m args below meth c n0 Q h cells slots pc Ls (argsL.reverse ++ .ref a :: st) := by
  subst hp hc hl
  intro T locs k n X e0 N h1 h2
  obtain ⟨cq, q, q'⟩ := E.cell
  obtain ⟨_, _, ⟨T', L', k', n'⟩, -, X', ⟨Lc, ⟨hQ, hN⟩, l', y', z'⟩, stp⟩ := own_private X K.ex (y := y) K.hown (mvT K.hZ w1) (mvT K.hZ w2) (mvT K.hZ w5) (Cond.privateMethod_at (mvP K.hZ w6 (args := #[]))) (mvT K.hZ w4) hy (backOf (W := W) (Q := fun v h L => (OV P) v h ∧ Fr n0 L) C K.hZ w4 w3 hf hlo) (g := mkF m pc Ls (argsL.reverse ++ .ref a :: st)) rfl (hsz.trans K.hml.symm) (a := a) (by rw [e0]; exact q) q' (argsL := argsL) (rest := st) hlen rfl hW (hb K.by hd) (fun _ _ => ⟨rfl, e0, (by show k + rm.cells ≤ R.cells; omega), (by show n + rm.slots ≤ R.slots; omega)⟩)
  dsimp only [Pt.U, Pt.locs, Pt.cells, Pt.slots] at X' l' y' z' stp hQ
  subst l' y' z'
  obtain ⟨w, rfl, hQ⟩ := hQ
  obtain ⟨s₂, v, L, g, r'⟩ := r w _ hQ T' _ _ _ X' rfl (Fr.app N hN) (by omega) (by omega)
  exact ⟨s₂, v, L, stp.trans g, r'⟩
theorem OGo.callQN (K : OCx p l e R s m args below meth c Z own nm bytes ml rt) {y : MethodName} {a : Addr} {C0 : String} {ni : Nat} {index : Nat} {bytes' : ByteArray} {maxL : Nat} {ret : Option FieldType} {rm : Room} {W cells' slots' : Nat} {argsL : List Value} {P : Heap → Prop} (E : Exa Z h a C0) (w1 : (Jvm.Cond.methodLink own index y).before a0 Z = true) (w2 : (Jvm.Cond.instanceMethod y).before a0 Z = true) (w5 : (Jvm.Cond.instantiable y.cls ni).before a0 Z = true) (w6 : (Jvm.Cond.privateMethod y).before a0 Z = true) (w3 : (Jvm.Cond.initialized y.cls).before a0 Z = true) (w4 : (Jvm.Cond.code y bytes' maxL ret).before a0 Z = true) (hy : y.cls ≠ "java/lang/invoke/MethodHandle" ∧ y.cls ≠ "java/lang/invoke/VarHandle") (C : OCon l Z n0 y bytes' maxL ret [] rm ((.ref a :: argsL).toArray) h (ON P)) (hd : decode bytes pc = .ok (.invokevirtual index, 3)) (hp : pc + 3 = pc') (hsz : Ls.size = ml) (hlen : ∀ sig, parseMethodDescriptor y.desc = some sig → argsL.length = sig.parameters.length) (hW : 2 * 0 + (st.map fun v => v.category).sum ≤ W) (hf : rm.frames + 1 ≤ R.frames) (hlo : W + (maxL + 11) + rm.locals ≤ R.locals) (hc : cells + rm.cells = cells') (hl : slots + rm.slots = slots') (hc' : cells' ≤ R.cells) (hl' : slots' ≤ R.slots) (r : ∀ (h' : Heap), P h' → OGo p l e R s m args below meth c n0 Q h' cells' slots' pc' Ls st)
    : OGo p l e R s m args below meth c n0 Q h cells slots pc Ls (argsL.reverse ++ .ref a :: st) := by
  subst hp hc hl
  intro T locs k n X e0 N h1 h2
  obtain ⟨cq, q, q'⟩ := E.cell
  obtain ⟨_, _, ⟨T', L', k', n'⟩, -, X', ⟨Lc, ⟨hQ, hN⟩, l', y', z'⟩, stp⟩ := own_private X K.ex (y := y) K.hown (mvT K.hZ w1) (mvT K.hZ w2) (mvT K.hZ w5) (Cond.privateMethod_at (mvP K.hZ w6 (args := #[]))) (mvT K.hZ w4) hy (backOf (W := W) (Q := fun v h L => (ON P) v h ∧ Fr n0 L) C K.hZ w4 w3 hf hlo) (g := mkF m pc Ls (argsL.reverse ++ .ref a :: st)) rfl (hsz.trans K.hml.symm) (a := a) (by rw [e0]; exact q) q' (argsL := argsL) (rest := st) hlen rfl hW (hb K.by hd) (fun _ _ => ⟨rfl, e0, (by show k + rm.cells ≤ R.cells; omega), (by show n + rm.slots ≤ R.slots; omega)⟩)
  dsimp only [Pt.U, Pt.locs, Pt.cells, Pt.slots] at X' l' y' z' stp hQ
  subst l' y' z'
  obtain ⟨rfl, hQ⟩ := hQ
  obtain ⟨s₂, v, L, g, r'⟩ := r  _ hQ T' _ _ _ X' rfl (Fr.app N hN) (by omega) (by omega)
  exact ⟨s₂, v, L, stp.trans g, r'⟩
theorem OGo.acmp (K : OCx p l e R s m args below meth c Z own nm bytes ml rt) {cd : ACond} {o : Int} {x y : Value} {same : Bool} (hd : decode bytes pc = .ok (.if_acmp cd o, 3)) (h1 : x.isRef = true) (h2 : y.isRef = true) (hq : decide (x = y) = same) (ho : 0 ≤ (pc : Int) + o) (hp : pc' = if acV cd same = true then ((pc : Int) + o).toNat else pc + 3) (r : OGo p l e R s m args below meth c n0 Q h cells slots pc' Ls st) : OGo p l e R s m args below meth c n0 Q h cells slots pc Ls (y :: x :: st) :=
  OGo.same (fun T locs k n X e0 => ⟨T, X, e0, fun t q => RoadKit.acmp X K.ex (g := mkF m pc Ls (y :: x :: st)) rfl h1 h2 rfl (hb K.by hd) rfl hq ho hp q⟩) r
theorem OGo.castY (K : OCx p l e R s m args below meth c Z own nm bytes ml rt) {C : String} {index : Nat} {a : Addr} (w : (Jvm.Cond.classLink own index C).before a0 Z = true) (I : Ins Z h a C true) (hd : decode bytes pc = .ok (.checkcast index, 3)) (hp : pc + 3 = pc') (r : OGo p l e R s m args below meth c n0 Q h cells slots pc' Ls (.ref a :: st)) : OGo p l e R s m args below meth c n0 Q h cells slots pc Ls (.ref a :: st) := by
  subst hp
  exact OGo.same (fun T locs k n X e0 => RoadKit.castY X K.ex K.hZ K.hown w e0 I (g := mkF m pc Ls (.ref a :: st)) rfl rfl (hb K.by hd)) r
theorem OGo.instY (K : OCx p l e R s m args below meth c Z own nm bytes ml rt) {C : String} {index : Nat} {a : Addr} (w : (Jvm.Cond.classLink own index C).before a0 Z = true) (I : Ins Z h a C true) (hd : decode bytes pc = .ok (.instanceof index, 3)) (hp : pc + 3 = pc') (r : OGo p l e R s m args below meth c n0 Q h cells slots pc' Ls (.int 1 :: st)) : OGo p l e R s m args below meth c n0 Q h cells slots pc Ls (.ref a :: st) := by
  subst hp
  exact OGo.same (fun T locs k n X e0 => RoadKit.instY X K.ex K.hZ K.hown w e0 I (g := mkF m pc Ls (.ref a :: st)) rfl rfl (hb K.by hd)) r
theorem OGo.ldcI (K : OCx p l e R s m args below meth c Z own nm bytes ml rt) {index : Nat} {v : Int32} (w : (Jvm.Cond.constant own index v).before a0 Z = true) (hd : decode bytes pc = .ok (.ldc index, 2)) (hp : pc + 2 = pc') (r : OGo p l e R s m args below meth c n0 Q h cells slots pc' Ls (.int v :: st)) : OGo p l e R s m args below meth c n0 Q h cells slots pc Ls st := by
  subst hp
  exact OGo.same (fun T locs k n X e0 => ⟨T, X, e0, fun t q => X.ldcInt K.ex K.hown (mvT K.hZ w) (g := mkF m pc Ls st) rfl (hb K.by hd) t q⟩) r
theorem OGo.ldcwI (K : OCx p l e R s m args below meth c Z own nm bytes ml rt) {index : Nat} {v : Int32} (w : (Jvm.Cond.constant own index v).before a0 Z = true) (hd : decode bytes pc = .ok (.ldc_w index, 3)) (hp : pc + 3 = pc') (r : OGo p l e R s m args below meth c n0 Q h cells slots pc' Ls (.int v :: st)) : OGo p l e R s m args below meth c n0 Q h cells slots pc Ls st := by
  subst hp
  exact OGo.same (fun T locs k n X e0 => ⟨T, X, e0, fun t q => X.ldcwInt K.ex K.hown (mvT K.hZ w) (g := mkF m pc Ls st) rfl (hb K.by hd) t q⟩) r
theorem OGo.ldcJ (K : OCx p l e R s m args below meth c Z own nm bytes ml rt) {index : Nat} {v : Int64} (w : (Jvm.Cond.constantLong own index v).before a0 Z = true) (hd : decode bytes pc = .ok (.ldc2_w index, 3)) (hp : pc + 3 = pc') (r : OGo p l e R s m args below meth c n0 Q h cells slots pc' Ls (.long v :: st)) : OGo p l e R s m args below meth c n0 Q h cells slots pc Ls st := by
  subst hp
  exact OGo.same (fun T locs k n X e0 => ⟨T, X, e0, fun t q => X.ldc2Long K.ex K.hown (mvT K.hZ w) (g := mkF m pc Ls st) rfl (hb K.by hd) t q⟩) r
theorem OGo.ldcD (K : OCx p l e R s m args below meth c Z own nm bytes ml rt) {index : Nat} {v : UInt64} (w : (Jvm.Cond.constantDouble own index v).before a0 Z = true) (hd : decode bytes pc = .ok (.ldc2_w index, 3)) (hp : pc + 3 = pc') (r : OGo p l e R s m args below meth c n0 Q h cells slots pc' Ls (.double v :: st)) : OGo p l e R s m args below meth c n0 Q h cells slots pc Ls st := by
  subst hp
  exact OGo.same (fun T locs k n X e0 => ⟨T, X, e0, fun t q => X.ldc2DoubleC K.ex K.hown (mvT K.hZ w) (g := mkF m pc Ls st) rfl (hb K.by hd) t q⟩) r
end OwnLayer
theorem own_eqi {args : Array Value} {first s : State} {o : Option Outcome} {idx : List Nat} {a : Term} {k : Int32} (h : (Jvm.Cond.eq a (Jvm.Term.int k)).value args first o s idx = some true) : a.eval args first o idx s = some (.int k) := by
  obtain ⟨x, y, h1, h2, h3, h4⟩ := cmp_v (Or.inl h)
  have h5 : y = .int k := Option.some.inj (h2.symm.trans (Term.int_eval k))
  subst h5
  obtain ⟨z, rfl⟩ := h4
  have h6 : (Jvm.Cond.eq a (Jvm.Term.int k)).value args first o s idx = some (decide (z = k)) := by simp [Cond.value, h1, h2]
  have h7 := gotT h6 h
  rw [h1, h7]
def OS (Z : State) (n0 : Nat) (h : Heap) (C n d : String) (v : Value) : Prop := ∃ (cf i : Nat) (k : Class) (f : Field) (st : Addr) (cell : Cell), Z.fieldFound? C n d = some (cf, k, i, f) ∧ f.isStatic = true ∧ k.init = .initialized ∧ k.statics = some st ∧ h[st]? = some cell ∧ cell.vm.isStatics = true ∧ cell.slots[f.slot]? = some v ∧ st < n0
theorem OS.sta {Z : State} {n0 : Nat} {h : Heap} {C n d : String} {v : Value} (F : OS Z n0 h C n d v) : Sta Z h C n d v := by
  obtain ⟨cf, i, k, f, st, cell, h1, h2, h3, h4, h5, h6, h7, -⟩ := F
  exact ⟨cf, i, k, f, st, cell, h1, h2, h3, h4, h5, h6, h7⟩
theorem OS.of {Z : State} {n0 : Nat} {h : Heap} {C n d : String} {v : Value} (F : Sta Z h C n d v) (q : h.size ≤ n0) : OS Z n0 h C n d v := by
  obtain ⟨cf, i, k, f, st, cell, h1, h2, h3, h4, h5, h6, h7⟩ := F
  exact ⟨cf, i, k, f, st, cell, h1, h2, h3, h4, h5, h6, h7, Nat.lt_of_lt_of_le (Array.getElem?_eq_some_iff.mp h5).1 q⟩
theorem own_lt_nin {n0 : Nat} {x : Addr} {ws : List Addr} (q : x < n0) (r : ∀ y ∈ ws, n0 ≤ y) : x ∉ ws := fun z => absurd q (Nat.not_lt.mpr (r x z))
theorem OS.keep {Z : State} {n0 : Nat} {h h' : Heap} {ws : List Addr} {C n d : String} {v : Value} (F : OS Z n0 h C n d v) (K : Keep h h' ws) (r : ∀ y ∈ ws, n0 ≤ y) : OS Z n0 h' C n d v := by
  obtain ⟨cf, i, k, f, st, cell, h1, h2, h3, h4, h5, h6, h7, h8⟩ := F
  exact ⟨cf, i, k, f, st, cell, h1, h2, h3, h4, K.2.1 _ _ h5 (own_lt_nin h8 r), h6, h7, h8⟩
theorem own_keep_ext {h h' : Heap} (E : Ext h h') : Keep h h' [] := (Keep.refl h []).ext E
def OWd (Z : State) (n0 : Nat) (h : Heap) (d : Addr) : Prop := OS Z n0 h "java/util/ArrayList" "DEFAULTCAPACITY_EMPTY_ELEMENTDATA" "[Ljava/lang/Object;" (.ref d) ∧ (∃ k, Arv Z h d k (.object "java/lang/Object") 0 [] .null) ∧ d < n0
theorem OWd.keep {Z : State} {n0 : Nat} {h h' : Heap} {ws : List Addr} {d : Addr} (F : OWd Z n0 h d) (K : Keep h h' ws) (r : ∀ y ∈ ws, n0 ≤ y) : OWd Z n0 h' d := by
  obtain ⟨S, ⟨k, A⟩, q⟩ := F
  exact ⟨S.keep K r, ⟨k, A.keep K (own_lt_nin q r)⟩, q⟩
theorem OWd.ext {Z : State} {n0 : Nat} {h h' : Heap} {d : Addr} (F : OWd Z n0 h d) (E : Ext h h') : OWd Z n0 h' d := F.keep (own_keep_ext E) all0
theorem OWd.wr {Z : State} {n0 : Nat} {h h' : Heap} {d a : Addr} {sl : Nat} {v : Value} (F : OWd Z n0 h d) (W : Wr h h' a sl v) (g : n0 ≤ a) : OWd Z n0 h' d := F.keep (Keep.of_wr W) (allS g all0)
def OAL0 (Z : State) (n0 : Nat) (h : Heap) (a d : Addr) : Prop := Exa Z h a "java/util/ArrayList" ∧ Fld Z h a "java/util/ArrayList" "size" "I" (.int 0) ∧ (∃ mc, Fld Z h a "java/util/AbstractList" "modCount" "I" (.int mc)) ∧ Fld Z h a "java/util/ArrayList" "elementData" "[Ljava/lang/Object;" (.ref d) ∧ n0 ≤ a
def OAL1 (Z : State) (n0 : Nat) (h : Heap) (a x : Addr) (vs : List Addr) : Prop := Exa Z h a "java/util/ArrayList" ∧ Fld Z h a "java/util/ArrayList" "size" "I" (.int (Int32.ofNat vs.length)) ∧ (∃ mc, Fld Z h a "java/util/AbstractList" "modCount" "I" (.int mc)) ∧ Fld Z h a "java/util/ArrayList" "elementData" "[Ljava/lang/Object;" (.ref x) ∧
  (∃ k us, Arv Z h x k (.object "java/lang/Object") 10 us .null ∧ us.length = 10 ∧ Ovr Z k "java/lang/Object" ∧ ∀ i (hi : i < vs.length), us.getD i .null = .ref vs[i]) ∧ a ≠ x ∧ n0 ≤ a ∧ n0 ≤ x
theorem OAL0.keep {Z : State} {n0 : Nat} {h h' : Heap} {ws : List Addr} {a d : Addr} (F : OAL0 Z n0 h a d) (K : Keep h h' ws) (r : a ∉ ws) : OAL0 Z n0 h' a d := by
  obtain ⟨E, F1, ⟨mc, F2⟩, F3, g⟩ := F
  exact ⟨E.keep K, F1.keep K r, ⟨mc, F2.keep K r⟩, F3.keep K r, g⟩
theorem OAL1.keep {Z : State} {n0 : Nat} {h h' : Heap} {ws : List Addr} {a x : Addr} {vs : List Addr} (F : OAL1 Z n0 h a x vs) (K : Keep h h' ws) (r : a ∉ ws) (r2 : x ∉ ws) : OAL1 Z n0 h' a x vs := by
  obtain ⟨E, F1, ⟨mc, F2⟩, F3, ⟨k, us, A, q⟩, g⟩ := F
  exact ⟨E.keep K, F1.keep K r, ⟨mc, F2.keep K r⟩, F3.keep K r, ⟨k, us, A.keep K r2, q⟩, g⟩
theorem OAL0.lta {Z : State} {n0 : Nat} {h : Heap} {a d : Addr} (F : OAL0 Z n0 h a d) : a < h.size := F.1.lt
theorem OAL1.lta {Z : State} {n0 : Nat} {h : Heap} {a x : Addr} {vs : List Addr} (F : OAL1 Z n0 h a x vs) : a < h.size := F.1.lt
theorem OAL1.ltx {Z : State} {n0 : Nat} {h : Heap} {a x : Addr} {vs : List Addr} (F : OAL1 Z n0 h a x vs) : x < h.size := by
  obtain ⟨-, -, -, -, ⟨k, us, A, -⟩, -⟩ := F
  exact A.lt
theorem own_i10 {n : Nat} (h : n < 10) : ¬ (Int32.ofNat n) < 0 ∧ Int32.ofNat n < 10 ∧ (Int32.ofNat n).toNatClampNeg = n ∧ ¬ Int32.ofNat n = 10 := by
  have e1 := toInt_of (n := Int32.ofNat n) rfl (by omega)
  have e2 := clamp_of (n := Int32.ofNat n) rfl (by omega)
  have e3 : (10 : Int32).toInt = 10 := rfl
  have e4 : (0 : Int32).toInt = 0 := rfl
  refine ⟨by rw [Int32.lt_iff_toInt_lt, e1, e4]; omega, by rw [Int32.lt_iff_toInt_lt, e1, e3]; omega, e2, fun q => ?_⟩
  have := congrArg Int32.toInt q
  rw [e1, e3] at this; omega
theorem own_al_push {us : List Value} {vs : List Addr} {y : Addr} (hl : us.length = 10) (hn : vs.length < 10) (H : ∀ i (hi : i < vs.length), us.getD i .null = .ref vs[i]) : ∀ i (hi : i < (vs ++ [y]).length), (us.set vs.length (.ref y)).getD i .null = .ref (vs ++ [y])[i] := by
  intro i hi
  simp only [List.length_append, List.length_cons, List.length_nil] at hi
  rw [List.getD_eq_getElem?_getD]
  by_cases q : i = vs.length
  · subst q
    rw [List.getElem?_set_self (by omega)]
    simp
  · have q' : i < vs.length := by omega
    rw [List.getElem?_set_ne (Ne.symm q), ← List.getD_eq_getElem?_getD, H i q', List.getElem_append_left q']
theorem own_i32lt {i n : Nat} (h : i < n) (hn : n < 2 ^ 31) : Int32.ofNat i < Int32.ofNat n := by
  rw [Int32.lt_iff_toInt_lt, toInt_of (n := Int32.ofNat i) rfl (by omega), toInt_of (n := Int32.ofNat n) rfl hn]; omega
theorem own_sta_keep {Z : State} {h h' : Heap} {C n d : String} {v : Value} (F : Sta Z h C n d v) (K : Keep h h' []) : Sta Z h' C n d v := by
  obtain ⟨cf, i, k, f, st, cell, h1, h2, h3, h4, h5, r⟩ := F
  exact ⟨cf, i, k, f, st, cell, h1, h2, h3, h4, K.2.1 _ _ h5 nin0, r⟩
theorem own_sto {Z : State} {h : Heap} {a y : Addr} {k : ClassId} {ty : FieldType} {z : Int32} {vs : List Value} {dv : Value} {C : String} (A : Arv Z h a k ty z vs dv) (O : Ovr Z k C) (I : Ins Z h y C true) : Sto Z h a (.ref y) := by
  obtain ⟨c, A, q, -⟩ := A
  exact Sto.ofV A q O I
theorem own_ins_keep {Z : State} {h h' : Heap} {ws : List Addr} {a : Addr} {C : String} (F : Ins Z h a C true) (K : Keep h h' ws) : Ins Z h' a C true := by
  obtain ⟨cell, cT, h1, h2, h3⟩ := F
  obtain ⟨c', q, r1, r2, -⟩ := K.2.2 a cell h1
  exact ⟨c', cT, q, h2, by rw [r1, r2]; exact h3⟩
theorem own_lenspec {s : State} {args : Array Value} {t : Term} {a : Addr} {cl : Cell} {z : Int32} (ht : t.eval args s none [] s = some (.ref a)) (hc : s.heap[a]? = some cl) (h : (Term.length t).eval args s none [] s = some (.int z)) : cl.slots.size < 2 ^ 31 ∧ cl.slots.size.toInt32 = z := by
  simp only [Term.eval, Option.bind_eq_bind] at h
  simp [ht] at h
  obtain ⟨cell, hcell, h⟩ := Option.bind_eq_some_iff.mp h
  cases hc.symm.trans (State.arrayAt?_spec hcell).1
  by_cases hn : cl.slots.size < 2147483648
  · rw [if_pos hn] at h; cases h; exact ⟨hn, rfl⟩
  · rw [if_neg hn] at h; cases h
theorem own_wd {s : State} {args : Array Value} (hfit : Fit s) (w0 : (Jvm.Cond.initialized "java/util/ArrayList").before args s = true) (w1 : (Jvm.Cond.laysStatic "java/util/ArrayList" "DEFAULTCAPACITY_EMPTY_ELEMENTDATA" "[Ljava/lang/Object;").before args s = true) (w2 : (Jvm.Cond.arrayOf (Jvm.Term.static "java/util/ArrayList" "DEFAULTCAPACITY_EMPTY_ELEMENTDATA" "[Ljava/lang/Object;") (Jvm.ClassFile.FieldType.object "java/lang/Object")).before args s = true) (w3 : (Jvm.Cond.eq (Jvm.Term.length (Jvm.Term.static "java/util/ArrayList" "DEFAULTCAPACITY_EMPTY_ELEMENTDATA" "[Ljava/lang/Object;")) (Jvm.Term.int (0 : Int32))).before args s = true) : ∃ d, OWd s s.heap.size s.heap d := by
  obtain ⟨d, ev⟩ := arr_v (Cond.before_iff.mp w2)
  have S := Sta.start ev (Or.inr ⟨w0, w1⟩)
  obtain ⟨c, A⟩ := Arr.start ev (Cond.before_iff.mp w2)
  obtain ⟨q1, q2⟩ := own_lenspec ev A.1 (own_eqi (Cond.before_iff.mp w3))
  exact ⟨d, OS.of S (Nat.le_refl _), ⟨_, Arv.start hfit A q1 q2 (by decide) rfl trivial⟩, A.lt⟩
def own_by (c : Int32) : Value := .int c.toInt8.toInt32
def OStr (Z : State) (n0 : Nat) (h : Heap) (s t : Addr) (cs : List Int32) : Prop := Exa Z h s "java/lang/String" ∧ Fld Z h s "java/lang/String" "value" "[B" (.ref t) ∧ Fld Z h s "java/lang/String" "coder" "B" (.int 0) ∧ (∃ k, Arv Z h t k .byte (Int32.ofNat cs.length) (cs.map own_by) (.int 0)) ∧ s ≠ t ∧ n0 ≤ s ∧ n0 ≤ t
theorem OStr.keep {Z : State} {n0 : Nat} {h h' : Heap} {s t : Addr} {cs : List Int32} {ws : List Addr} (F : OStr Z n0 h s t cs) (K : Keep h h' ws) (q1 : s ∉ ws) (q2 : t ∉ ws) : OStr Z n0 h' s t cs := by
  obtain ⟨E, F1, F2, ⟨k, V⟩, r⟩ := F
  exact ⟨E.keep K, F1.keep K q1, F2.keep K q1, ⟨k, V.keep K q2⟩, r⟩
theorem OStr.lts {Z : State} {n0 : Nat} {h : Heap} {s t : Addr} {cs : List Int32} (F : OStr Z n0 h s t cs) : s < h.size := F.1.lt
theorem OStr.ltt {Z : State} {n0 : Nat} {h : Heap} {s t : Addr} {cs : List Int32} (F : OStr Z n0 h s t cs) : t < h.size := by
  obtain ⟨E, F1, F2, ⟨k, V⟩, r⟩ := F
  exact V.lt
theorem own_s32 {n : Nat} (h : n < 1000) : (Int32.ofNat n).toInt = n ∧ ¬ (Int32.ofNat n) < 0 ∧ (Int32.ofNat n).toNatClampNeg = n := by
  have e1 := toInt_of (n := Int32.ofNat n) rfl (by omega)
  have e2 := clamp_of (n := Int32.ofNat n) rfl (by omega)
  have e4 : (0 : Int32).toInt = 0 := rfl
  exact ⟨e1, by rw [Int32.lt_iff_toInt_lt, e1, e4]; omega, e2⟩
theorem own_slt {n N : Nat} (h : n < 1000) (hN : N < 1000) : Int32.ofNat n < Int32.ofNat N ↔ n < N := by
  rw [Int32.lt_iff_toInt_lt, (own_s32 h).1, (own_s32 hN).1]; omega
theorem own_narb (c : Int32) : Value.int (nar .byte c.toInt8.toInt32) = own_by c := by
  unfold own_by
  show Value.int (c.toInt8.toInt32.toInt8.toInt32) = _
  rw [Int8.toInt8_toInt32]
theorem own_map_of {us : List Value} {cs : List Int32} (hl : us.length = cs.length) (H : ∀ j (hj : j < cs.length), us.getD j (.int 0) = own_by cs[j]) : us = cs.map own_by := by
  apply List.ext_getElem (by simpa using hl)
  intro i h1 h2
  have := H i (by simpa using h2)
  rw [List.getD_eq_getElem?_getD, List.getElem?_eq_getElem h1] at this
  simpa using this
theorem own_getD_map {cs : List Int32} {d : Value} {j : Nat} (hj : j < cs.length) : (cs.map Value.int).getD j d = .int cs[j] := by
  rw [List.getD_eq_getElem?_getD, List.getElem?_map, List.getElem?_eq_getElem hj]; rfl
theorem own_sset_ne {us : List Value} {i j : Nat} {v d : Value} (h : i ≠ j) : (us.set i v).getD j d = us.getD j d := by
  rw [List.getD_eq_getElem?_getD, List.getD_eq_getElem?_getD, List.getElem?_set_ne h]
theorem own_sset_eq {us : List Value} {i : Nat} {v d : Value} (h : i < us.length) : (us.set i v).getD i d = v := by
  rw [List.getD_eq_getElem?_getD, List.getElem?_set_self h]; rfl
theorem own_cs {s : State} {args : Array Value} (w0 : (Jvm.Cond.initializedFor "java/lang/String" "COMPACT_STRINGS" "Z").before args s = true) (w1 : (Jvm.Cond.isInt (Jvm.Term.static "java/lang/String" "COMPACT_STRINGS" "Z")).before args s = true) (w2 : (Jvm.Cond.not (Jvm.Cond.eq (Jvm.Term.static "java/lang/String" "COMPACT_STRINGS" "Z") (Jvm.Term.int (0 : Int32)))).before args s = true) : ∃ cz, OS s s.heap.size s.heap "java/lang/String" "COMPACT_STRINGS" "Z" (.int cz) ∧ ¬ cz = 0 := by
  obtain ⟨z, ev⟩ := is_v (Cond.before_iff.mp w1)
  have h2 := not_v (Cond.before_iff.mp w2)
  have h3 : (Jvm.Cond.eq (Jvm.Term.static "java/lang/String" "COMPACT_STRINGS" "Z") (Jvm.Term.int (0 : Int32))).value args s none s [] = some (decide (z = 0)) := by simp [Cond.value, ev, Term.int_eval]
  exact ⟨z, OS.of (Sta.start ev (Or.inl w0)) (Nat.le_refl _), gotF h3 h2⟩
def own_iv : Value → Int32
  | .int x => x
  | _ => 0
theorem own_dg {Z : State} {h : Heap} {d : Addr} {k : ClassId} {vs : List Value} {j : Int32} (V : Arv Z h d k .byte 100 vs (.int 0)) (hj : ¬ j < 0 ∧ j < 100) : vs.getD j.toNatClampNeg (.int 0) = .int (own_iv (vs.getD j.toNatClampNeg (.int 0))) := by
  obtain ⟨c, A, q, sz, nn, H, ft⟩ := V
  have e0 : (0 : Int32).toInt = 0 := rfl
  have e1 : (100 : Int32).toInt = 100 := rfl
  have h1 := hj.1
  have h2 := hj.2
  rw [Int32.lt_iff_toInt_lt, e0] at h1
  rw [Int32.lt_iff_toInt_lt, e1] at h2
  have hb : j.toNatClampNeg < c.slots.size := by
    rw [sz, show (100 : Int32).toNatClampNeg = 100 from rfl, Int32.toNatClampNeg]; omega
  have f := ft _ hb
  generalize vs.getD j.toNatClampNeg (.int 0) = u at *
  cases u <;> first | rfl | (simp [fits] at f; done)
theorem own_i100 {j : Int32} {m : Nat} (h : j.toInt = ((m % 100 : Nat) : Int)) : ¬ j < 0 ∧ j < 100 := by
  have e0 : (0 : Int32).toInt = 0 := rfl
  have e1 : (100 : Int32).toInt = 100 := rfl
  rw [Int32.lt_iff_toInt_lt, Int32.lt_iff_toInt_lt, e0, e1]; omega
theorem own_decn (n : Nat) : Int32.ofNat (n + 1) + (-1) = Int32.ofNat n := by
  have h := dec_ofNat n
  rw [← h]
  exact (Int32.sub_eq_add_neg _ _).symm
theorem own_r1 {x : Int64} {m : Nat} (hx : x.toInt = -(m : Int)) (h1 : 1 ≤ m) : (((x / 100) * 100 - x).toInt32).toInt = ((m % 100 : Nat) : Int) ∧ (x / 100).toInt = -((m / 100 : Nat) : Int) := by
  have r := rng64 x
  have d := (c_ldiv x 100 100 rfl (by decide)).2 (by omega)
  have p := c_lmul (x / 100) 100
  have e1 : (100 : Int64).toInt = 100 := rfl
  rw [e1] at p
  have rp := rng64 ((x / 100) * 100)
  have s := c_lsub ((x / 100) * 100) x
  have rs := rng64 ((x / 100) * 100 - x)
  have t := c_l2i ((x / 100) * 100 - x)
  have rt := rng32 (((x / 100) * 100 - x).toInt32)
  rw [hx] at *
  omega
theorem own_r2 {x : Int32} {m : Nat} (hx : x.toInt = -(m : Int)) (h1 : 1 ≤ m) : ((x / 100) * 100 - x).toInt = ((m % 100 : Nat) : Int) ∧ (x / 100).toInt = -((m / 100 : Nat) : Int) := by
  have r := rng32 x
  have d := (c_idiv x 100 100 rfl (by decide)).2 (by omega)
  have p := c_imul (x / 100) 100
  have e1 : (100 : Int32).toInt = 100 := rfl
  rw [e1] at p
  have rp := rng32 ((x / 100) * 100)
  have s := c_isub ((x / 100) * 100) x
  have rs := rng32 ((x / 100) * 100 - x)
  rw [hx] at *
  omega
theorem own_neg32 {x : Int32} {m : Nat} (hx : x.toInt = -(m : Int)) (h : m < 100) : (-x).toInt = ((m % 100 : Nat) : Int) := by
  have a := c_ineg x
  have b := rng32 (-x)
  rw [hx] at a
  omega
theorem own_neg64 {x : Int64} {m : Nat} (hx : x.toInt = (m : Int)) : (-x).toInt = -(m : Int) := by
  have a := c_lneg x
  have b := rng64 (-x)
  have c := rng64 x
  rw [hx] at a c
  omega
theorem own_pw2 {m c : Nat} (h1 : m < 10 ^ c) (h2 : 10 ≤ m) : 2 ≤ c := by
  rcases c with _ | _ | c
  · simp at h1; omega
  · simp at h1; omega
  · omega
theorem own_pw1 {m c : Nat} (h1 : m < 10 ^ c) (h2 : 1 ≤ m) : 1 ≤ c := by
  rcases c with _ | c
  · simp at h1; omega
  · omega
theorem own_pwd {m c : Nat} (h1 : m < 10 ^ (c + 1 + 1)) : m / 100 < 10 ^ c := by
  apply Nat.div_lt_of_lt_mul
  rw [Nat.pow_succ, Nat.pow_succ] at h1; omega
theorem own_ss_lt {x p : Int64} {r K : Nat} (hx : x.toInt = -(r : Int)) (hp : p.toInt = -(K : Int)) (h : p < x) : r < K := by
  rw [Int64.lt_iff_toInt_lt] at h; omega
theorem own_ss_ge {x p : Int64} {r K : Nat} (hx : x.toInt = -(r : Int)) (hp : p.toInt = -(K : Int)) (h : ¬ p < x) : K ≤ r := by
  rw [Int64.lt_iff_toInt_lt] at h; omega
theorem own_dv {x : Int64} {m : Nat} (hx : x.toInt = (m : Int)) : (((48 : Int64) + (x - (x / 10) * 10)).toInt32).toInt8.toInt32 = Int32.ofNat (48 + m % 10) := by
  have r := rng64 x
  have d := (c_lrem x 10 10 rfl).1 (by omega)
  have s := c_ladd 48 (x - (x / 10) * 10)
  have e1 : (48 : Int64).toInt = 48 := rfl
  rw [e1] at s
  have rs := rng64 (48 + (x - (x / 10) * 10))
  have t := c_l2i (48 + (x - (x / 10) * 10))
  have rt := rng32 ((48 + (x - (x / 10) * 10)).toInt32)
  have u := c_i2b ((48 + (x - (x / 10) * 10)).toInt32)
  apply Int32.toInt_inj.mp
  rw [(own_s32 (by omega)).1]
  rw [hx] at *
  omega
theorem own_dv2 {x : Int64} {m : Nat} (hx : x.toInt = (m : Int)) : Value.int (nar .byte ((((48 : Int64) + (x - (x / 10) * 10)).toInt32).toInt8.toInt32)) = .int (Int32.ofNat (48 + m % 10)) := by
  rw [own_dv hx]
  have h : ∀ d, d < 10 → nar .byte (Int32.ofNat (48 + d)) = Int32.ofNat (48 + d) := by decide +kernel
  rw [h _ (Nat.mod_lt _ (by decide))]
theorem own_dten {x : Int64} {m : Nat} (hx : x.toInt = (m : Int)) : (x / 10).toInt = ((m / 10 : Nat) : Int) := by
  have d := (c_ldiv x 10 10 rfl (by decide)).1 (by omega)
  rw [d, hx]; exact (Int.natCast_ediv _ _).symm
theorem own_dpow (r e : Nat) : r / 10 ^ e / 10 = r / 10 ^ (e + 1) := by
  rw [Nat.div_div_eq_div_mul, ← Nat.pow_succ]
theorem own_o64 {m : Nat} (h : m < 9223372036854775808) : (Int64.ofNat m).toInt = (m : Int) := Int64.toInt_ofNat_of_lt h
theorem own_p19 {e : Nat} (h : e < 19) : 10 ^ e < 9223372036854775808 := Nat.lt_of_le_of_lt (Nat.pow_le_pow_right (by decide) (show e ≤ 18 by omega)) (by decide)
theorem own_divp {v : Int64} {r e : Nat} (hv : v.toInt = (r : Int)) (h : e < 19) : (v / Int64.ofNat (10 ^ e)).toInt = ((r / 10 ^ e : Nat) : Int) := by
  have q := own_o64 (own_p19 h)
  have d := (c_ldiv v (Int64.ofNat (10 ^ e)) _ q (fun z => by rw [z] at q; have e1 : (-1 : Int64).toInt = -1 := rfl; have e2 := Int.natCast_nonneg (10 ^ e); rw [← q, e1] at e2; exact absurd e2 (by decide))).1 (by omega)
  rw [d, hv]; exact (Int.natCast_ediv _ _).symm
theorem own_pne {e : Nat} (h : e < 19) : Int64.ofNat (10 ^ e) ≠ 0 := fun z => by
  have q := own_o64 (own_p19 h)
  rw [z] at q
  have e1 : (0 : Int64).toInt = 0 := rfl
  have e2 := Nat.pow_pos (n := e) (show 0 < 10 by decide)
  rw [e1] at q; omega
theorem own_subn {a b : Nat} (h : b ≤ a) (ha : a < 1000) : Int32.ofNat a - Int32.ofNat b = Int32.ofNat (a - b) := by
  apply Int32.toInt_inj.mp
  have q := c_isub (Int32.ofNat a) (Int32.ofNat b)
  have r := rng32 (Int32.ofNat a - Int32.ofNat b)
  rw [(own_s32 ha).1, (own_s32 (show b < 1000 by omega)).1] at q
  rw [(own_s32 (show a - b < 1000 by omega)).1]
  omega
theorem own_keysize (v : Int32) : ∃ D : Nat, 1 ≤ D ∧ D ≤ 19 ∧ (2 : Int32) + (v &&& 2147483647) % 19 = Int32.ofNat (D + 1) := by
  have h0 : 0 ≤ (v &&& 2147483647).toInt := (c_andS v 2147483647).2.2 (by decide)
  have h1 := (c_irem (v &&& 2147483647) 19 19 rfl).1 h0
  have s := c_iadd 2 ((v &&& 2147483647) % 19)
  have e1 : (2 : Int32).toInt = 2 := rfl
  rw [e1] at s
  have rs := rng32 ((2 : Int32) + (v &&& 2147483647) % 19)
  refine ⟨((v &&& 2147483647).toInt % 19 + 1).toNat, by omega, by omega, ?_⟩
  apply Int32.toInt_inj.mp
  rw [(own_s32 (by omega)).1]
  omega
theorem own_rank {v lim : Int64} {M : Nat} (hl : lim.toInt = (M : Int)) (h1 : 1 ≤ M) : ∃ r : Nat, ((1 : Int64) + ((v &&& 9223372036854775807) - ((v &&& 9223372036854775807) / lim) * lim)).toInt = (r : Int) ∧ 1 ≤ r ∧ r ≤ M := by
  have h0 : 0 ≤ (v &&& 9223372036854775807).toInt := (c_andSL v 9223372036854775807).2.2 (by decide)
  have d := (c_lrem (v &&& 9223372036854775807) lim M hl).1 h0
  have b1 := Int.emod_nonneg (v &&& 9223372036854775807).toInt (show (M : Int) ≠ 0 by omega)
  have b2 := Int.emod_lt_of_pos (v &&& 9223372036854775807).toInt (show 0 < (M : Int) by omega)
  have s := c_ladd 1 ((v &&& 9223372036854775807) - ((v &&& 9223372036854775807) / lim) * lim)
  have e1 : (1 : Int64).toInt = 1 := rfl
  rw [e1, d] at s
  have rs := rng64 ((1 : Int64) + ((v &&& 9223372036854775807) - ((v &&& 9223372036854775807) / lim) * lim))
  have rl := rng64 lim
  rw [hl] at rl
  generalize (v &&& 9223372036854775807).toInt % (M : Int) = E at *
  exact ⟨(E + 1).toNat, by omega, by omega, by omega⟩
theorem own_lim {D : Nat} (h1 : 1 ≤ D) (h2 : D < 19) : (Int64.ofNat (10 ^ D) - 1).toInt = ((10 ^ D - 1 : Nat) : Int) ∧ 1 ≤ 10 ^ D - 1 ∧ 10 ^ D - 1 < 10 ^ D := by
  have q := own_o64 (own_p19 h2)
  have e := own_p19 h2
  have e2 : 10 ^ 1 ≤ 10 ^ D := Nat.pow_le_pow_right (by decide) h1
  have s := c_lsub (Int64.ofNat (10 ^ D)) 1
  have rs := rng64 (Int64.ofNat (10 ^ D) - 1)
  have e1 : (1 : Int64).toInt = 1 := rfl
  rw [e1, q] at s
  refine ⟨?_, ?_, ?_⟩ <;> omega
theorem own_kD {k D r : Nat} (h1 : 10 ^ (k - 1) ≤ r) (h2 : r < 10 ^ D) (h3 : 1 ≤ k) : k ≤ D := by
  have : k - 1 < D := (Nat.pow_lt_pow_iff_right (show 1 < 10 by decide)).mp (Nat.lt_of_le_of_lt h1 h2)
  omega
theorem own_1k (k : Nat) : (1 : Int32) + Int32.ofNat k = Int32.ofNat (k + 1) := by
  rw [Int32.add_comm]; exact (inc_ofNat k).symm
theorem own_sh0 {k : Nat} (h : k ≤ 19) : Int32.ofNat k >>> ((0 : Int32) &&& 31) = Int32.ofNat k := by
  have q : ∀ j, j < 20 → Int32.ofNat j >>> ((0 : Int32) &&& 31) = Int32.ofNat j := by decide +kernel
  exact q k (by omega)
theorem own_pows : ∀ j, j < 19 → ([(.long (1 : Int64)), (.long (10 : Int64)), (.long (100 : Int64)), (.long (1000 : Int64)), (.long (10000 : Int64)), (.long (100000 : Int64)), (.long (1000000 : Int64)), (.long (10000000 : Int64)), (.long (100000000 : Int64)), (.long (1000000000 : Int64)), (.long (10000000000 : Int64)), (.long (100000000000 : Int64)), (.long (1000000000000 : Int64)), (.long (10000000000000 : Int64)), (.long (100000000000000 : Int64)), (.long (1000000000000000 : Int64)), (.long (10000000000000000 : Int64)), (.long (100000000000000000 : Int64)), (.long (1000000000000000000 : Int64))] : List Value).getD j (.long 0) = .long (Int64.ofNat (10 ^ j)) := by
  intro j hj
  have h : j = 0 ∨ j = 1 ∨ j = 2 ∨ j = 3 ∨ j = 4 ∨ j = 5 ∨ j = 6 ∨ j = 7 ∨ j = 8 ∨ j = 9 ∨ j = 10 ∨ j = 11 ∨ j = 12 ∨ j = 13 ∨ j = 14 ∨ j = 15 ∨ j = 16 ∨ j = 17 ∨ j = 18 := by omega
  rcases h with rfl | rfl | rfl | rfl | rfl | rfl | rfl | rfl | rfl | rfl | rfl | rfl | rfl | rfl | rfl | rfl | rfl | rfl | rfl <;> rfl
def ODg (Z : State) (n0 : Nat) (h : Heap) (f : String) (d : Addr) (k : ClassId) (vs : List Value) : Prop := OS Z n0 h "java/lang/Integer" f "[B" (.ref d) ∧ Arv Z h d k .byte 100 vs (.int 0) ∧ d < n0
theorem ODg.keep {Z : State} {n0 : Nat} {h h' : Heap} {f : String} {d : Addr} {k : ClassId} {vs : List Value} {ws : List Addr} (F : ODg Z n0 h f d k vs) (K : Keep h h' ws) (r : ∀ y ∈ ws, n0 ≤ y) : ODg Z n0 h' f d k vs :=
  ⟨F.1.keep K r, F.2.1.keep K (fun q => absurd (r _ q) (Nat.not_le.mpr F.2.2)), F.2.2⟩
theorem own_hasL {c : Cell} : ∀ (l : List Value) (i : Nat), (∀ j, j < l.length → c.slots[i + j]? = l[j]?) → HasL c i l
  | [], _, _ => trivial
  | v :: r, i, H => ⟨by have := H 0 (by simp); simpa using this, own_hasL r (i + 1) (fun j hj => by have := H (j + 1) (by simpa using hj); rw [show i + 1 + j = i + (j + 1) by omega, this]; simp)⟩
theorem own_odg {s : State} {args : Array Value} {f : String} (hfit : Fit s) (w0 : (Jvm.Cond.initializedFor "java/lang/Integer" f "[B").before args s = true) (w1 : (Jvm.Cond.exactly (Jvm.Term.static "java/lang/Integer" f "[B") "[B").before args s = true) (w2 : (Jvm.Cond.eq (Jvm.Term.length (Jvm.Term.static "java/lang/Integer" f "[B")) (Jvm.Term.int (100 : Int32))).before args s = true) (wa : (Jvm.Cond.arrayClass Jvm.ClassFile.FieldType.byte).before args s = true) : ∃ d k vs, ODg s s.heap.size s.heap f d k vs := by
  obtain ⟨d, cB, D, kB, hev, hfcB, hcellD, hkB, hstatD, hclsD, -⟩ := Cond.exactly_spec w1
  have hl := own_eqi (Cond.before_iff.mp w2)
  obtain ⟨q1, q2⟩ := own_lenspec hev hcellD hl
  obtain ⟨d', D', hev', harrAt, -⟩ := Term.length_spec hl
  cases hev.symm.trans hev'
  obtain ⟨hcellD', hknD, -, -⟩ := State.arrayAt?_spec harrAt
  cases hcellD.symm.trans hcellD'
  obtain ⟨cB', kB', comp, hnameB, hkB', hkindB⟩ := Cond.arrayClass_spec wa
  have eBA : ("[" ++ FieldType.toString .byte) = "[B" := by decide
  rw [eBA] at hnameB
  cases hfcB.symm.trans hnameB
  cases hkB.symm.trans hkB'
  have A : Arr s s.heap d D .byte := ⟨hcellD, ⟨(fun q h => by rw [h] at hstatD; cases hstatD), kB, (by rw [hclsD]; exact hkB), comp, hkindB⟩, hknD⟩
  have hsz : D.slots.size = 100 := by
    have := congrArg Int32.toInt q2
    rw [len_toInt q1, show (100 : Int32).toInt = 100 from rfl] at this; omega
  exact ⟨d, _, D.slots.toList, OS.of (Sta.start hev (Or.inl w0)) (Nat.le_refl _), Arv.start hfit A q1 q2 (by decide) (by rw [Array.length_toList, hsz]; rfl) (own_hasL _ 0 (fun j hj => by rw [Nat.zero_add]; simp)), A.lt⟩
theorem own_d5_0 : decode jdk_35_method_15_code 0 = .ok (.iconst 1, 1) := by decide +kernel
theorem own_d5_1 : decode jdk_35_method_15_code 1 = .ok (.istore_n 2, 1) := by decide +kernel
theorem own_d5_2 : decode jdk_35_method_15_code 2 = .ok (.lload_n 0, 1) := by decide +kernel
theorem own_d5_3 : decode jdk_35_method_15_code 3 = .ok (.lconst 0, 1) := by decide +kernel
theorem own_d5_4 : decode jdk_35_method_15_code 4 = .ok (.lcmp, 1) := by decide +kernel
theorem own_d5_5 : decode jdk_35_method_15_code 5 = .ok (.ifCond .lt 8, 3) := by decide +kernel
theorem own_d5_8 : decode jdk_35_method_15_code 8 = .ok (.iconst 0, 1) := by decide +kernel
theorem own_d5_9 : decode jdk_35_method_15_code 9 = .ok (.istore_n 2, 1) := by decide +kernel
theorem own_d5_10 : decode jdk_35_method_15_code 10 = .ok (.lload_n 0, 1) := by decide +kernel
theorem own_d5_11 : decode jdk_35_method_15_code 11 = .ok (.lneg, 1) := by decide +kernel
theorem own_d5_12 : decode jdk_35_method_15_code 12 = .ok (.lstore_n 0, 1) := by decide +kernel
theorem own_d5_13 : decode jdk_35_method_15_code 13 = .ok (.ldc2_w 140, 3) := by decide +kernel
theorem own_d5_16 : decode jdk_35_method_15_code 16 = .ok (.lstore_n 3, 1) := by decide +kernel
theorem own_d5_17 : decode jdk_35_method_15_code 17 = .ok (.iconst 1, 1) := by decide +kernel
theorem own_d5_18 : decode jdk_35_method_15_code 18 = .ok (.istore 5, 2) := by decide +kernel
theorem own_d5_20 : decode jdk_35_method_15_code 20 = .ok (.iload 5, 2) := by decide +kernel
theorem own_d5_22 : decode jdk_35_method_15_code 22 = .ok (.bipush 19, 2) := by decide +kernel
theorem own_d5_24 : decode jdk_35_method_15_code 24 = .ok (.if_icmp .ge 26, 3) := by decide +kernel
theorem own_d5_27 : decode jdk_35_method_15_code 27 = .ok (.lload_n 0, 1) := by decide +kernel
theorem own_d5_28 : decode jdk_35_method_15_code 28 = .ok (.lload_n 3, 1) := by decide +kernel
theorem own_d5_29 : decode jdk_35_method_15_code 29 = .ok (.lcmp, 1) := by decide +kernel
theorem own_d5_30 : decode jdk_35_method_15_code 30 = .ok (.ifCond .le 8, 3) := by decide +kernel
theorem own_d5_33 : decode jdk_35_method_15_code 33 = .ok (.iload 5, 2) := by decide +kernel
theorem own_d5_35 : decode jdk_35_method_15_code 35 = .ok (.iload_n 2, 1) := by decide +kernel
theorem own_d5_36 : decode jdk_35_method_15_code 36 = .ok (.iadd, 1) := by decide +kernel
theorem own_d5_37 : decode jdk_35_method_15_code 37 = .ok (.ireturn, 1) := by decide +kernel
theorem own_d5_38 : decode jdk_35_method_15_code 38 = .ok (.ldc2_w 53, 3) := by decide +kernel
theorem own_d5_41 : decode jdk_35_method_15_code 41 = .ok (.lload_n 3, 1) := by decide +kernel
theorem own_d5_42 : decode jdk_35_method_15_code 42 = .ok (.lmul, 1) := by decide +kernel
theorem own_d5_43 : decode jdk_35_method_15_code 43 = .ok (.lstore_n 3, 1) := by decide +kernel
theorem own_d5_44 : decode jdk_35_method_15_code 44 = .ok (.iinc 5 1, 3) := by decide +kernel
theorem own_d5_47 : decode jdk_35_method_15_code 47 = .ok (.goto (-27), 3) := by decide +kernel
theorem own_d5_50 : decode jdk_35_method_15_code 50 = .ok (.bipush 19, 2) := by decide +kernel
theorem own_d5_52 : decode jdk_35_method_15_code 52 = .ok (.iload_n 2, 1) := by decide +kernel
theorem own_d5_53 : decode jdk_35_method_15_code 53 = .ok (.iadd, 1) := by decide +kernel
theorem own_d5_54 : decode jdk_35_method_15_code 54 = .ok (.ireturn, 1) := by decide +kernel
theorem own_pn_5 : plainName "java/lang/Long" = true := by first | (simp [plainName, overriddenIn]; done) | decide +kernel
theorem own_d6_86 : decode jdk_35_method_14_code 86 = .ok (.iload 10, 2) := by decide +kernel
theorem own_d6_88 : decode jdk_35_method_14_code 88 = .ok (.bipush (-100), 2) := by decide +kernel
theorem own_d6_90 : decode jdk_35_method_14_code 90 = .ok (.if_icmp .gt 53, 3) := by decide +kernel
theorem own_d6_143 : decode jdk_35_method_14_code 143 = .ok (.aload_n 3, 1) := by decide +kernel
theorem own_d6_144 : decode jdk_35_method_14_code 144 = .ok (.iinc 7 (-1), 3) := by decide +kernel
theorem own_d6_147 : decode jdk_35_method_14_code 147 = .ok (.iload 7, 2) := by decide +kernel
theorem own_d6_149 : decode jdk_35_method_14_code 149 = .ok (.getstatic 133, 3) := by decide +kernel
theorem own_d6_152 : decode jdk_35_method_14_code 152 = .ok (.iload 10, 2) := by decide +kernel
theorem own_d6_154 : decode jdk_35_method_14_code 154 = .ok (.ineg, 1) := by decide +kernel
theorem own_d6_155 : decode jdk_35_method_14_code 155 = .ok (.baload, 1) := by decide +kernel
theorem own_d6_156 : decode jdk_35_method_14_code 156 = .ok (.bastore, 1) := by decide +kernel
theorem own_d6_157 : decode jdk_35_method_14_code 157 = .ok (.iload 10, 2) := by decide +kernel
theorem own_d6_159 : decode jdk_35_method_14_code 159 = .ok (.bipush (-9), 2) := by decide +kernel
theorem own_d6_161 : decode jdk_35_method_14_code 161 = .ok (.if_icmp .ge 17, 3) := by decide +kernel
theorem own_d6_178 : decode jdk_35_method_14_code 178 = .ok (.iload 8, 2) := by decide +kernel
theorem own_d6_180 : decode jdk_35_method_14_code 180 = .ok (.ifCond .eq 12, 3) := by decide +kernel
theorem own_d6_192 : decode jdk_35_method_14_code 192 = .ok (.iload 7, 2) := by decide +kernel
theorem own_d6_194 : decode jdk_35_method_14_code 194 = .ok (.ireturn, 1) := by decide +kernel
theorem own_d6_164 : decode jdk_35_method_14_code 164 = .ok (.aload_n 3, 1) := by decide +kernel
theorem own_d6_165 : decode jdk_35_method_14_code 165 = .ok (.iinc 7 (-1), 3) := by decide +kernel
theorem own_d6_168 : decode jdk_35_method_14_code 168 = .ok (.iload 7, 2) := by decide +kernel
theorem own_d6_170 : decode jdk_35_method_14_code 170 = .ok (.getstatic 137, 3) := by decide +kernel
theorem own_d6_173 : decode jdk_35_method_14_code 173 = .ok (.iload 10, 2) := by decide +kernel
theorem own_d6_175 : decode jdk_35_method_14_code 175 = .ok (.ineg, 1) := by decide +kernel
theorem own_d6_176 : decode jdk_35_method_14_code 176 = .ok (.baload, 1) := by decide +kernel
theorem own_d6_177 : decode jdk_35_method_14_code 177 = .ok (.bastore, 1) := by decide +kernel
theorem own_d6_93 : decode jdk_35_method_14_code 93 = .ok (.iload 10, 2) := by decide +kernel
theorem own_d6_95 : decode jdk_35_method_14_code 95 = .ok (.bipush 100, 2) := by decide +kernel
theorem own_d6_97 : decode jdk_35_method_14_code 97 = .ok (.idiv, 1) := by decide +kernel
theorem own_d6_98 : decode jdk_35_method_14_code 98 = .ok (.istore 9, 2) := by decide +kernel
theorem own_d6_100 : decode jdk_35_method_14_code 100 = .ok (.iload 9, 2) := by decide +kernel
theorem own_d6_102 : decode jdk_35_method_14_code 102 = .ok (.bipush 100, 2) := by decide +kernel
theorem own_d6_104 : decode jdk_35_method_14_code 104 = .ok (.imul, 1) := by decide +kernel
theorem own_d6_105 : decode jdk_35_method_14_code 105 = .ok (.iload 10, 2) := by decide +kernel
theorem own_d6_107 : decode jdk_35_method_14_code 107 = .ok (.isub, 1) := by decide +kernel
theorem own_d6_108 : decode jdk_35_method_14_code 108 = .ok (.istore 6, 2) := by decide +kernel
theorem own_d6_110 : decode jdk_35_method_14_code 110 = .ok (.iload 9, 2) := by decide +kernel
theorem own_d6_112 : decode jdk_35_method_14_code 112 = .ok (.istore 10, 2) := by decide +kernel
theorem own_d6_114 : decode jdk_35_method_14_code 114 = .ok (.aload_n 3, 1) := by decide +kernel
theorem own_d6_115 : decode jdk_35_method_14_code 115 = .ok (.iinc 7 (-1), 3) := by decide +kernel
theorem own_d6_118 : decode jdk_35_method_14_code 118 = .ok (.iload 7, 2) := by decide +kernel
theorem own_d6_120 : decode jdk_35_method_14_code 120 = .ok (.getstatic 133, 3) := by decide +kernel
theorem own_d6_123 : decode jdk_35_method_14_code 123 = .ok (.iload 6, 2) := by decide +kernel
theorem own_d6_125 : decode jdk_35_method_14_code 125 = .ok (.baload, 1) := by decide +kernel
theorem own_d6_126 : decode jdk_35_method_14_code 126 = .ok (.bastore, 1) := by decide +kernel
theorem own_d6_127 : decode jdk_35_method_14_code 127 = .ok (.aload_n 3, 1) := by decide +kernel
theorem own_d6_128 : decode jdk_35_method_14_code 128 = .ok (.iinc 7 (-1), 3) := by decide +kernel
theorem own_d6_131 : decode jdk_35_method_14_code 131 = .ok (.iload 7, 2) := by decide +kernel
theorem own_d6_133 : decode jdk_35_method_14_code 133 = .ok (.getstatic 137, 3) := by decide +kernel
theorem own_d6_136 : decode jdk_35_method_14_code 136 = .ok (.iload 6, 2) := by decide +kernel
theorem own_d6_138 : decode jdk_35_method_14_code 138 = .ok (.baload, 1) := by decide +kernel
theorem own_d6_139 : decode jdk_35_method_14_code 139 = .ok (.bastore, 1) := by decide +kernel
theorem own_d6_140 : decode jdk_35_method_14_code 140 = .ok (.goto (-54), 3) := by decide +kernel
theorem own_d6_24 : decode jdk_35_method_14_code 24 = .ok (.lload_n 0, 1) := by decide +kernel
theorem own_d6_25 : decode jdk_35_method_14_code 25 = .ok (.ldc2_w 129, 3) := by decide +kernel
theorem own_d6_28 : decode jdk_35_method_14_code 28 = .ok (.lcmp, 1) := by decide +kernel
theorem own_d6_29 : decode jdk_35_method_14_code 29 = .ok (.ifCond .gt 53, 3) := by decide +kernel
theorem own_d6_82 : decode jdk_35_method_14_code 82 = .ok (.lload_n 0, 1) := by decide +kernel
theorem own_d6_83 : decode jdk_35_method_14_code 83 = .ok (.l2i, 1) := by decide +kernel
theorem own_d6_84 : decode jdk_35_method_14_code 84 = .ok (.istore 10, 2) := by decide +kernel
theorem own_d6_32 : decode jdk_35_method_14_code 32 = .ok (.lload_n 0, 1) := by decide +kernel
theorem own_d6_33 : decode jdk_35_method_14_code 33 = .ok (.ldc2_w 131, 3) := by decide +kernel
theorem own_d6_36 : decode jdk_35_method_14_code 36 = .ok (.ldiv, 1) := by decide +kernel
theorem own_d6_37 : decode jdk_35_method_14_code 37 = .ok (.lstore 4, 2) := by decide +kernel
theorem own_d6_39 : decode jdk_35_method_14_code 39 = .ok (.lload 4, 2) := by decide +kernel
theorem own_d6_41 : decode jdk_35_method_14_code 41 = .ok (.ldc2_w 131, 3) := by decide +kernel
theorem own_d6_44 : decode jdk_35_method_14_code 44 = .ok (.lmul, 1) := by decide +kernel
theorem own_d6_45 : decode jdk_35_method_14_code 45 = .ok (.lload_n 0, 1) := by decide +kernel
theorem own_d6_46 : decode jdk_35_method_14_code 46 = .ok (.lsub, 1) := by decide +kernel
theorem own_d6_47 : decode jdk_35_method_14_code 47 = .ok (.l2i, 1) := by decide +kernel
theorem own_d6_48 : decode jdk_35_method_14_code 48 = .ok (.istore 6, 2) := by decide +kernel
theorem own_d6_50 : decode jdk_35_method_14_code 50 = .ok (.lload 4, 2) := by decide +kernel
theorem own_d6_52 : decode jdk_35_method_14_code 52 = .ok (.lstore_n 0, 1) := by decide +kernel
theorem own_d6_53 : decode jdk_35_method_14_code 53 = .ok (.aload_n 3, 1) := by decide +kernel
theorem own_d6_54 : decode jdk_35_method_14_code 54 = .ok (.iinc 7 (-1), 3) := by decide +kernel
theorem own_d6_57 : decode jdk_35_method_14_code 57 = .ok (.iload 7, 2) := by decide +kernel
theorem own_d6_59 : decode jdk_35_method_14_code 59 = .ok (.getstatic 133, 3) := by decide +kernel
theorem own_d6_62 : decode jdk_35_method_14_code 62 = .ok (.iload 6, 2) := by decide +kernel
theorem own_d6_64 : decode jdk_35_method_14_code 64 = .ok (.baload, 1) := by decide +kernel
theorem own_d6_65 : decode jdk_35_method_14_code 65 = .ok (.bastore, 1) := by decide +kernel
theorem own_d6_66 : decode jdk_35_method_14_code 66 = .ok (.aload_n 3, 1) := by decide +kernel
theorem own_d6_67 : decode jdk_35_method_14_code 67 = .ok (.iinc 7 (-1), 3) := by decide +kernel
theorem own_d6_70 : decode jdk_35_method_14_code 70 = .ok (.iload 7, 2) := by decide +kernel
theorem own_d6_72 : decode jdk_35_method_14_code 72 = .ok (.getstatic 137, 3) := by decide +kernel
theorem own_d6_75 : decode jdk_35_method_14_code 75 = .ok (.iload 6, 2) := by decide +kernel
theorem own_d6_77 : decode jdk_35_method_14_code 77 = .ok (.baload, 1) := by decide +kernel
theorem own_d6_78 : decode jdk_35_method_14_code 78 = .ok (.bastore, 1) := by decide +kernel
theorem own_d6_79 : decode jdk_35_method_14_code 79 = .ok (.goto (-55), 3) := by decide +kernel
theorem own_d6_0 : decode jdk_35_method_14_code 0 = .ok (.iload_n 2, 1) := by decide +kernel
theorem own_d6_1 : decode jdk_35_method_14_code 1 = .ok (.istore 7, 2) := by decide +kernel
theorem own_d6_3 : decode jdk_35_method_14_code 3 = .ok (.lload_n 0, 1) := by decide +kernel
theorem own_d6_4 : decode jdk_35_method_14_code 4 = .ok (.lconst 0, 1) := by decide +kernel
theorem own_d6_5 : decode jdk_35_method_14_code 5 = .ok (.lcmp, 1) := by decide +kernel
theorem own_d6_6 : decode jdk_35_method_14_code 6 = .ok (.ifCond .ge 7, 3) := by decide +kernel
theorem own_d6_13 : decode jdk_35_method_14_code 13 = .ok (.iconst 0, 1) := by decide +kernel
theorem own_d6_14 : decode jdk_35_method_14_code 14 = .ok (.istore 8, 2) := by decide +kernel
theorem own_d6_16 : decode jdk_35_method_14_code 16 = .ok (.iload 8, 2) := by decide +kernel
theorem own_d6_18 : decode jdk_35_method_14_code 18 = .ok (.ifCond .ne 6, 3) := by decide +kernel
theorem own_d6_21 : decode jdk_35_method_14_code 21 = .ok (.lload_n 0, 1) := by decide +kernel
theorem own_d6_22 : decode jdk_35_method_14_code 22 = .ok (.lneg, 1) := by decide +kernel
theorem own_d6_23 : decode jdk_35_method_14_code 23 = .ok (.lstore_n 0, 1) := by decide +kernel
theorem own_d7_0 : decode jdk_42_method_151_code 0 = .ok (.aload_n 0, 1) := by decide +kernel
theorem own_d7_1 : decode jdk_42_method_151_code 1 = .ok (.invokespecial 1, 3) := by decide +kernel
theorem own_d7_4 : decode jdk_42_method_151_code 4 = .ok (.aload_n 0, 1) := by decide +kernel
theorem own_d7_5 : decode jdk_42_method_151_code 5 = .ok (.aload_n 1, 1) := by decide +kernel
theorem own_d7_6 : decode jdk_42_method_151_code 6 = .ok (.putfield 9, 3) := by decide +kernel
theorem own_d7_9 : decode jdk_42_method_151_code 9 = .ok (.aload_n 0, 1) := by decide +kernel
theorem own_d7_10 : decode jdk_42_method_151_code 10 = .ok (.iload_n 2, 1) := by decide +kernel
theorem own_d7_11 : decode jdk_42_method_151_code 11 = .ok (.putfield 15, 3) := by decide +kernel
theorem own_d7_14 : decode jdk_42_method_151_code 14 = .ok (.return_, 1) := by decide +kernel
theorem own_pn_7 : plainName "java/lang/String" = true := by first | (simp [plainName, overriddenIn]; done) | decide +kernel
theorem own_d9_0 : decode jdk_42_method_152_code 0 = .ok (.getstatic 38, 3) := by decide +kernel
theorem own_d9_3 : decode jdk_42_method_152_code 3 = .ok (.ifCond .eq 10, 3) := by decide +kernel
theorem own_d9_6 : decode jdk_42_method_152_code 6 = .ok (.aload_n 0, 1) := by decide +kernel
theorem own_d9_7 : decode jdk_42_method_152_code 7 = .ok (.getfield 15, 3) := by decide +kernel
theorem own_d9_10 : decode jdk_42_method_152_code 10 = .ok (.goto 4, 3) := by decide +kernel
theorem own_d9_14 : decode jdk_42_method_152_code 14 = .ok (.ireturn, 1) := by decide +kernel
theorem own_d8_0 : decode jdk_42_method_54_code 0 = .ok (.aload_n 0, 1) := by decide +kernel
theorem own_d8_1 : decode jdk_42_method_54_code 1 = .ok (.getfield 9, 3) := by decide +kernel
theorem own_d8_4 : decode jdk_42_method_54_code 4 = .ok (.arraylength, 1) := by decide +kernel
theorem own_d8_5 : decode jdk_42_method_54_code 5 = .ok (.aload_n 0, 1) := by decide +kernel
theorem own_d8_6 : decode jdk_42_method_54_code 6 = .ok (.invokevirtual 335, 3) := by decide +kernel
theorem own_pd2 : parseMethodDescriptor "()B" = some ⟨[], some .byte⟩ := by decide +kernel
theorem own_d8_9 : decode jdk_42_method_54_code 9 = .ok (.ishr, 1) := by decide +kernel
theorem own_d8_10 : decode jdk_42_method_54_code 10 = .ok (.ireturn, 1) := by decide +kernel
theorem own_d4_0 : decode jdk_35_method_12_code 0 = .ok (.lload_n 0, 1) := by decide +kernel
theorem own_d4_1 : decode jdk_35_method_12_code 1 = .ok (.invokestatic 118, 3) := by decide +kernel
theorem own_pd3 : parseMethodDescriptor "(J)I" = some ⟨[.long], some .int⟩ := by decide +kernel
theorem own_d4_4 : decode jdk_35_method_12_code 4 = .ok (.istore_n 2, 1) := by decide +kernel
theorem own_d4_5 : decode jdk_35_method_12_code 5 = .ok (.getstatic 13, 3) := by decide +kernel
theorem own_d4_8 : decode jdk_35_method_12_code 8 = .ok (.ifCond .eq 24, 3) := by decide +kernel
theorem own_d4_11 : decode jdk_35_method_12_code 11 = .ok (.iload_n 2, 1) := by decide +kernel
theorem own_d4_12 : decode jdk_35_method_12_code 12 = .ok (.newarray .byte, 2) := by decide +kernel
theorem own_d4_14 : decode jdk_35_method_12_code 14 = .ok (.astore_n 3, 1) := by decide +kernel
theorem own_d4_15 : decode jdk_35_method_12_code 15 = .ok (.lload_n 0, 1) := by decide +kernel
theorem own_d4_16 : decode jdk_35_method_12_code 16 = .ok (.iload_n 2, 1) := by decide +kernel
theorem own_d4_17 : decode jdk_35_method_12_code 17 = .ok (.aload_n 3, 1) := by decide +kernel
theorem own_d4_18 : decode jdk_35_method_12_code 18 = .ok (.invokestatic 121, 3) := by decide +kernel
theorem own_pd4 : parseMethodDescriptor "(JI[B)I" = some ⟨[.long, .int, (.array .byte)], some .int⟩ := by decide +kernel
theorem own_d4_21 : decode jdk_35_method_12_code 21 = .ok (.pop, 1) := by decide +kernel
theorem own_d4_22 : decode jdk_35_method_12_code 22 = .ok (.new 5, 3) := by decide +kernel
theorem own_d4_25 : decode jdk_35_method_12_code 25 = .ok (.dup, 1) := by decide +kernel
theorem own_d4_26 : decode jdk_35_method_12_code 26 = .ok (.aload_n 3, 1) := by decide +kernel
theorem own_d4_27 : decode jdk_35_method_12_code 27 = .ok (.iconst 0, 1) := by decide +kernel
theorem own_d4_28 : decode jdk_35_method_12_code 28 = .ok (.invokespecial 112, 3) := by decide +kernel
theorem own_pd5 : parseMethodDescriptor "([BB)V" = some ⟨[(.array .byte), .byte], none⟩ := by decide +kernel
theorem own_d4_31 : decode jdk_35_method_12_code 31 = .ok (.areturn, 1) := by decide +kernel
theorem own_d2_0 : decode jdk_30_method_1_code 0 = .ok (.aload_n 0, 1) := by decide +kernel
theorem own_d2_1 : decode jdk_30_method_1_code 1 = .ok (.invokespecial 1, 3) := by decide +kernel
theorem own_d2_4 : decode jdk_30_method_1_code 4 = .ok (.return_, 1) := by decide +kernel
theorem own_pn_2 : plainName "java/lang/Record" = true := by first | (simp [plainName, overriddenIn]; done) | decide +kernel
theorem own_d1_0 : decode prog_6_method_1_code 0 = .ok (.aload_n 0, 1) := by decide +kernel
theorem own_d1_1 : decode prog_6_method_1_code 1 = .ok (.invokespecial 1, 3) := by decide +kernel
theorem own_pd7 : parseMethodDescriptor "()V" = some ⟨[], none⟩ := by decide +kernel
theorem own_d1_4 : decode prog_6_method_1_code 4 = .ok (.lload_n 1, 1) := by decide +kernel
theorem own_d1_5 : decode prog_6_method_1_code 5 = .ok (.lconst 1, 1) := by decide +kernel
theorem own_d1_6 : decode prog_6_method_1_code 6 = .ok (.lcmp, 1) := by decide +kernel
theorem own_d1_7 : decode prog_6_method_1_code 7 = .ok (.ifCond .ge 17, 3) := by decide +kernel
theorem own_d1_24 : decode prog_6_method_1_code 24 = .ok (.iconst 1, 1) := by decide +kernel
theorem own_d1_25 : decode prog_6_method_1_code 25 = .ok (.lload_n 1, 1) := by decide +kernel
theorem own_d1_26 : decode prog_6_method_1_code 26 = .ok (.invokestatic 16, 3) := by decide +kernel
theorem own_pd8 : parseMethodDescriptor "(J)Ljava/lang/String;" = some ⟨[.long], some (.object "java/lang/String")⟩ := by decide +kernel
theorem own_d1_29 : decode prog_6_method_1_code 29 = .ok (.invokevirtual 21, 3) := by decide +kernel
theorem own_pd9 : parseMethodDescriptor "()I" = some ⟨[], some .int⟩ := by decide +kernel
theorem own_d1_32 : decode prog_6_method_1_code 32 = .ok (.iadd, 1) := by decide +kernel
theorem own_d1_33 : decode prog_6_method_1_code 33 = .ok (.istore 5, 2) := by decide +kernel
theorem own_d1_35 : decode prog_6_method_1_code 35 = .ok (.iload_n 3, 1) := by decide +kernel
theorem own_d1_36 : decode prog_6_method_1_code 36 = .ok (.iload 5, 2) := by decide +kernel
theorem own_d1_38 : decode prog_6_method_1_code 38 = .ok (.if_icmp .lt 10, 3) := by decide +kernel
theorem own_d1_41 : decode prog_6_method_1_code 41 = .ok (.iload_n 3, 1) := by decide +kernel
theorem own_d1_42 : decode prog_6_method_1_code 42 = .ok (.sipush 250, 3) := by decide +kernel
theorem own_d1_45 : decode prog_6_method_1_code 45 = .ok (.if_icmp .le 20, 3) := by decide +kernel
theorem own_d1_65 : decode prog_6_method_1_code 65 = .ok (.iload 4, 2) := by decide +kernel
theorem own_d1_67 : decode prog_6_method_1_code 67 = .ok (.iconst 1, 1) := by decide +kernel
theorem own_d1_68 : decode prog_6_method_1_code 68 = .ok (.if_icmp .lt 10, 3) := by decide +kernel
theorem own_d1_71 : decode prog_6_method_1_code 71 = .ok (.iload 4, 2) := by decide +kernel
theorem own_d1_73 : decode prog_6_method_1_code 73 = .ok (.ldc 34, 2) := by decide +kernel
theorem own_d1_75 : decode prog_6_method_1_code 75 = .ok (.if_icmp .le 18, 3) := by decide +kernel
theorem own_d1_93 : decode prog_6_method_1_code 93 = .ok (.aload_n 0, 1) := by decide +kernel
theorem own_d1_94 : decode prog_6_method_1_code 94 = .ok (.lload_n 1, 1) := by decide +kernel
theorem own_d1_95 : decode prog_6_method_1_code 95 = .ok (.putfield 38, 3) := by decide +kernel
theorem own_d1_98 : decode prog_6_method_1_code 98 = .ok (.aload_n 0, 1) := by decide +kernel
theorem own_d1_99 : decode prog_6_method_1_code 99 = .ok (.iload_n 3, 1) := by decide +kernel
theorem own_d1_100 : decode prog_6_method_1_code 100 = .ok (.putfield 44, 3) := by decide +kernel
theorem own_d1_103 : decode prog_6_method_1_code 103 = .ok (.aload_n 0, 1) := by decide +kernel
theorem own_d1_104 : decode prog_6_method_1_code 104 = .ok (.iload 4, 2) := by decide +kernel
theorem own_d1_106 : decode prog_6_method_1_code 106 = .ok (.putfield 48, 3) := by decide +kernel
theorem own_d1_109 : decode prog_6_method_1_code 109 = .ok (.return_, 1) := by decide +kernel
theorem own_pn_1 : plainName "com/example/intervale/intervale/bench/FillKeys" = true := by first | (simp [plainName, overriddenIn]; done) | decide +kernel
theorem own_d10_14 : decode prog_6_method_2_code 14 = .ok (.iload 6, 2) := by decide +kernel
theorem own_d10_16 : decode prog_6_method_2_code 16 = .ok (.iconst 1, 1) := by decide +kernel
theorem own_d10_17 : decode prog_6_method_2_code 17 = .ok (.if_icmp .lt 33, 3) := by decide +kernel
theorem own_d10_50 : decode prog_6_method_2_code 50 = .ok (.return_, 1) := by decide +kernel
theorem own_d10_20 : decode prog_6_method_2_code 20 = .ok (.aload_n 3, 1) := by decide +kernel
theorem own_d10_21 : decode prog_6_method_2_code 21 = .ok (.iload 6, 2) := by decide +kernel
theorem own_d10_23 : decode prog_6_method_2_code 23 = .ok (.ldc2_w 51, 3) := by decide +kernel
theorem own_d10_26 : decode prog_6_method_2_code 26 = .ok (.lload 4, 2) := by decide +kernel
theorem own_d10_28 : decode prog_6_method_2_code 28 = .ok (.ldc2_w 53, 3) := by decide +kernel
theorem own_d10_31 : decode prog_6_method_2_code 31 = .ok (.lrem, 1) := by decide +kernel
theorem own_d10_32 : decode prog_6_method_2_code 32 = .ok (.ladd, 1) := by decide +kernel
theorem own_d10_33 : decode prog_6_method_2_code 33 = .ok (.l2i, 1) := by decide +kernel
theorem own_d10_34 : decode prog_6_method_2_code 34 = .ok (.i2b, 1) := by decide +kernel
theorem own_d10_35 : decode prog_6_method_2_code 35 = .ok (.bastore, 1) := by decide +kernel
theorem own_d10_36 : decode prog_6_method_2_code 36 = .ok (.lload 4, 2) := by decide +kernel
theorem own_d10_38 : decode prog_6_method_2_code 38 = .ok (.ldc2_w 53, 3) := by decide +kernel
theorem own_d10_41 : decode prog_6_method_2_code 41 = .ok (.ldiv, 1) := by decide +kernel
theorem own_d10_42 : decode prog_6_method_2_code 42 = .ok (.lstore 4, 2) := by decide +kernel
theorem own_d10_44 : decode prog_6_method_2_code 44 = .ok (.iinc 6 (-1), 3) := by decide +kernel
theorem own_d10_47 : decode prog_6_method_2_code 47 = .ok (.goto (-33), 3) := by decide +kernel
theorem own_d10_0 : decode prog_6_method_2_code 0 = .ok (.aload_n 3, 1) := by decide +kernel
theorem own_d10_1 : decode prog_6_method_2_code 1 = .ok (.iconst 0, 1) := by decide +kernel
theorem own_d10_2 : decode prog_6_method_2_code 2 = .ok (.bipush 107, 2) := by decide +kernel
theorem own_d10_4 : decode prog_6_method_2_code 4 = .ok (.bastore, 1) := by decide +kernel
theorem own_d10_5 : decode prog_6_method_2_code 5 = .ok (.lload_n 1, 1) := by decide +kernel
theorem own_d10_6 : decode prog_6_method_2_code 6 = .ok (.lstore 4, 2) := by decide +kernel
theorem own_d10_8 : decode prog_6_method_2_code 8 = .ok (.aload_n 3, 1) := by decide +kernel
theorem own_d10_9 : decode prog_6_method_2_code 9 = .ok (.arraylength, 1) := by decide +kernel
theorem own_d10_10 : decode prog_6_method_2_code 10 = .ok (.iconst 1, 1) := by decide +kernel
theorem own_d10_11 : decode prog_6_method_2_code 11 = .ok (.isub, 1) := by decide +kernel
theorem own_d10_12 : decode prog_6_method_2_code 12 = .ok (.istore 6, 2) := by decide +kernel
theorem own_d11_0 : decode method_3_code 0 = .ok (.iload 5, 2) := by decide +kernel
theorem own_d11_2 : decode method_3_code 2 = .ok (.iload_n 1, 1) := by decide +kernel
theorem own_d11_3 : decode method_3_code 3 = .ok (.if_icmp .lt 5, 3) := by decide +kernel
theorem own_d11_8 : decode method_3_code 8 = .ok (.lload_n 2, 1) := by decide +kernel
theorem own_d11_9 : decode method_3_code 9 = .ok (.aload 4, 2) := by decide +kernel
theorem own_d11_11 : decode method_3_code 11 = .ok (.iload_n 1, 1) := by decide +kernel
theorem own_d11_12 : decode method_3_code 12 = .ok (.iconst 1, 1) := by decide +kernel
theorem own_d11_13 : decode method_3_code 13 = .ok (.isub, 1) := by decide +kernel
theorem own_d11_14 : decode method_3_code 14 = .ok (.iload 5, 2) := by decide +kernel
theorem own_d11_16 : decode method_3_code 16 = .ok (.isub, 1) := by decide +kernel
theorem own_d11_17 : decode method_3_code 17 = .ok (.laload, 1) := by decide +kernel
theorem own_d11_18 : decode method_3_code 18 = .ok (.ldiv, 1) := by decide +kernel
theorem own_d11_19 : decode method_3_code 19 = .ok (.ldc2_w 7, 3) := by decide +kernel
theorem own_d11_22 : decode method_3_code 22 = .ok (.lrem, 1) := by decide +kernel
theorem own_d11_23 : decode method_3_code 23 = .ok (.lstore 6, 2) := by decide +kernel
theorem own_d11_25 : decode method_3_code 25 = .ok (.aload_n 0, 1) := by decide +kernel
theorem own_d11_26 : decode method_3_code 26 = .ok (.iload 5, 2) := by decide +kernel
theorem own_d11_28 : decode method_3_code 28 = .ok (.baload, 1) := by decide +kernel
theorem own_d11_29 : decode method_3_code 29 = .ok (.ldc2_w 63, 3) := by decide +kernel
theorem own_d11_32 : decode method_3_code 32 = .ok (.lload 6, 2) := by decide +kernel
theorem own_d11_34 : decode method_3_code 34 = .ok (.ladd, 1) := by decide +kernel
theorem own_d11_35 : decode method_3_code 35 = .ok (.l2i, 1) := by decide +kernel
theorem own_d11_36 : decode method_3_code 36 = .ok (.i2b, 1) := by decide +kernel
theorem own_d11_37 : decode method_3_code 37 = .ok (.if_icmp .ne 7, 3) := by decide +kernel
theorem own_d11_40 : decode method_3_code 40 = .ok (.iconst 1, 1) := by decide +kernel
theorem own_d11_41 : decode method_3_code 41 = .ok (.goto 4, 3) := by decide +kernel
theorem own_d11_45 : decode method_3_code 45 = .ok (.ireturn, 1) := by decide +kernel
theorem own_d11_6 : decode method_3_code 6 = .ok (.iconst 1, 1) := by decide +kernel
theorem own_d11_7 : decode method_3_code 7 = .ok (.ireturn, 1) := by decide +kernel
theorem own_pn_11 : plainName "com/example/intervale/intervale/bench/FillKeysKeyPinLaw" = true := by first | (simp [plainName, overriddenIn]; done) | decide +kernel
theorem own_pd12 : parseMethodDescriptor "(JII)V" = some ⟨[.long, .int, .int], none⟩ := by decide +kernel
theorem own_pd13 : parseMethodDescriptor "(J[B)V" = some ⟨[.long, (.array .byte)], none⟩ := by decide +kernel
theorem own_pd14 : parseMethodDescriptor "([BIJ[JI)Z" = some ⟨[(.array .byte), .int, .long, (.array .long), .int], some .boolean⟩ := by decide +kernel
set_option maxRecDepth 65536 in
set_option maxHeartbeats 40000000 in
theorem own_rm5 (l : Launch) (Z : State) (a0 : Array Value) (hw : ∀ d ∈ tables_1, d.before a0 Z = true) (v : Int64) (r : Nat) (h0 : Heap) (n0 : Nat) (Z0 : n0 ≤ h0.size) (hv : v.toInt = (r : Int)) (hr1 : 1 ≤ r) :
    OCon l Z n0 (⟨"java/lang/Long", "stringSize", "(J)I"⟩ : MethodName) jdk_35_method_15_code 6 (some .int) [] ({ frames := 0, cells := 0, slots := 0, locals := 0 } : Room) #[(.long v)] h0 (OV fun w h => (∃ k : Nat, w = .int (Int32.ofNat k) ∧ 1 ≤ k ∧ k ≤ 19 ∧ r < 10 ^ k ∧ 10 ^ (k - 1) ≤ r) ∧ h = h0) := by
  refine OCon.of (Ls := #[.val (.long v), .second, .unset, .unset, .unset, .unset]) (plainFor_of_name own_pn_5) (fun m => own_entry m rfl) ?_
  intro p e s m below meth c K
  have hx := own_neg64 hv
  have rv := rng64 v
  refine OGo.iconst K (pc' := 1) (z := 1) own_d5_0 rfl rfl ?_
  refine OGo.istoreN K (pc' := 2) (Ls' := #[.val (.long v), .second, .val (.int (1 : Int32)), .unset, .unset, .unset]) own_d5_1 rfl rfl ?_
  refine OGo.lloadN K (pc' := 3) own_d5_2 rfl rfl ?_
  refine OGo.lconst K (pc' := 4) (z := 0) own_d5_3 rfl rfl ?_
  refine OGo.lcmpLt K (pc' := 8) (pcY := 13) own_d5_4 rfl own_d5_5 rfl (by decide) rfl (fun hc4 => absurd hc4 ((by rw [Int64.lt_iff_toInt_lt, hv, show (0 : Int64).toInt = 0 from rfl]; omega) : ¬ v < (0 : Int64))) (fun hc4 => ?_)
  refine OGo.iconst K (pc' := 9) (z := 0) own_d5_8 rfl rfl ?_
  refine OGo.istoreN K (pc' := 10) (Ls' := #[.val (.long v), .second, .val (.int (0 : Int32)), .unset, .unset, .unset]) own_d5_9 rfl rfl ?_
  refine OGo.lloadN K (pc' := 11) own_d5_10 rfl rfl ?_
  refine OGo.lneg K (pc' := 12) own_d5_11 rfl ?_
  refine OGo.lstoreN K (pc' := 13) (Ls' := #[.val (.long (-v)), .second, .val (.int (0 : Int32)), .unset, .unset, .unset]) own_d5_12 rfl rfl ?_
  refine OGo.ldcJ K (pc' := 16) (v := (-10)) (hw _ (List.mem_of_getElem? (i := 42) rfl)) own_d5_13 rfl ?_
  refine OGo.lstoreN K (pc' := 17) (Ls' := #[.val (.long (-v)), .second, .val (.int (0 : Int32)), .val (.long (-10 : Int64)), .second, .unset]) own_d5_16 rfl rfl ?_
  refine OGo.iconst K (pc' := 18) (z := 1) own_d5_17 rfl rfl ?_
  refine OGo.istore K (pc' := 20) (Ls' := #[.val (.long (-v)), .second, .val (.int (0 : Int32)), .val (.long (-10 : Int64)), .second, .val (.int (1 : Int32))]) own_d5_18 rfl rfl ?_
  refine OGo.iload K (pc' := 22) own_d5_20 rfl rfl ?_
  refine OGo.bipush K (pc' := 24) (z := 19) own_d5_22 rfl rfl ?_
  refine OGo.icmpGe K (pc' := 27) (pcY := 50) own_d5_24 rfl (by decide) rfl (fun hc24 => absurd (by decide : (1 : Int32) < (19 : Int32)) hc24) (fun hc24 => ?_)
  refine OGo.lloadN K (pc' := 28) own_d5_27 rfl rfl ?_
  refine OGo.lloadN K (pc' := 29) own_d5_28 rfl rfl ?_
  refine OGo.lcmpLe K (pc' := 33) (pcY := 38) own_d5_29 rfl own_d5_30 rfl (by decide) rfl (fun hc1_ => ?_) (fun hc1_ => ?_)
  rotate_left
  · skip
    refine OGo.iload K (pc' := 35) own_d5_33 rfl rfl ?_
    refine OGo.iloadN K (pc' := 36) own_d5_35 rfl rfl ?_
    refine OGo.iadd K (pc' := 37) own_d5_36 rfl ?_
    exact OGo.iret K own_d5_37 (by decide) (by decide) ⟨_, rfl, ⟨1, rfl, by decide, by decide, own_ss_lt hx (by decide) hc1_, (show 10 ^ 0 ≤ r from hr1)⟩, rfl⟩
  refine OGo.ldcJ K (pc' := 41) (v := 10) (hw _ (List.mem_of_getElem? (i := 93) rfl)) own_d5_38 rfl ?_
  refine OGo.lloadN K (pc' := 42) own_d5_41 rfl rfl ?_
  refine OGo.lmul K (pc' := 43) own_d5_42 rfl ?_
  rw [show ((10 : Int64) * (-10 : Int64)) = (-100 : Int64) from by decide]
  refine OGo.lstoreN K (pc' := 44) (Ls' := #[.val (.long (-v)), .second, .val (.int (0 : Int32)), .val (.long (-100 : Int64)), .second, .val (.int (1 : Int32))]) own_d5_43 rfl rfl ?_
  refine OGo.iinc K (pc' := 47) (z := 1) (Ls' := #[.val (.long (-v)), .second, .val (.int (0 : Int32)), .val (.long (-100 : Int64)), .second, .val (.int ((1 : Int32) + (1 : Int32)))]) own_d5_44 rfl rfl rfl rfl ?_
  rw [show ((1 : Int32) + (1 : Int32)) = (2 : Int32) from by decide]
  refine OGo.goto K (pc' := 20) own_d5_47 (by decide) rfl ?_
  refine OGo.iload K (pc' := 22) own_d5_20 rfl rfl ?_
  refine OGo.bipush K (pc' := 24) (z := 19) own_d5_22 rfl rfl ?_
  refine OGo.icmpGe K (pc' := 27) (pcY := 50) own_d5_24 rfl (by decide) rfl (fun hc24 => absurd (by decide : (2 : Int32) < (19 : Int32)) hc24) (fun hc24 => ?_)
  refine OGo.lloadN K (pc' := 28) own_d5_27 rfl rfl ?_
  refine OGo.lloadN K (pc' := 29) own_d5_28 rfl rfl ?_
  refine OGo.lcmpLe K (pc' := 33) (pcY := 38) own_d5_29 rfl own_d5_30 rfl (by decide) rfl (fun hc2_ => ?_) (fun hc2_ => ?_)
  rotate_left
  · skip
    refine OGo.iload K (pc' := 35) own_d5_33 rfl rfl ?_
    refine OGo.iloadN K (pc' := 36) own_d5_35 rfl rfl ?_
    refine OGo.iadd K (pc' := 37) own_d5_36 rfl ?_
    exact OGo.iret K own_d5_37 (by decide) (by decide) ⟨_, rfl, ⟨2, rfl, by decide, by decide, own_ss_lt hx (by decide) hc2_, (own_ss_ge hx (by decide) hc1_)⟩, rfl⟩
  refine OGo.ldcJ K (pc' := 41) (v := 10) (hw _ (List.mem_of_getElem? (i := 93) rfl)) own_d5_38 rfl ?_
  refine OGo.lloadN K (pc' := 42) own_d5_41 rfl rfl ?_
  refine OGo.lmul K (pc' := 43) own_d5_42 rfl ?_
  rw [show ((10 : Int64) * (-100 : Int64)) = (-1000 : Int64) from by decide]
  refine OGo.lstoreN K (pc' := 44) (Ls' := #[.val (.long (-v)), .second, .val (.int (0 : Int32)), .val (.long (-1000 : Int64)), .second, .val (.int (2 : Int32))]) own_d5_43 rfl rfl ?_
  refine OGo.iinc K (pc' := 47) (z := 1) (Ls' := #[.val (.long (-v)), .second, .val (.int (0 : Int32)), .val (.long (-1000 : Int64)), .second, .val (.int ((2 : Int32) + (1 : Int32)))]) own_d5_44 rfl rfl rfl rfl ?_
  rw [show ((2 : Int32) + (1 : Int32)) = (3 : Int32) from by decide]
  refine OGo.goto K (pc' := 20) own_d5_47 (by decide) rfl ?_
  refine OGo.iload K (pc' := 22) own_d5_20 rfl rfl ?_
  refine OGo.bipush K (pc' := 24) (z := 19) own_d5_22 rfl rfl ?_
  refine OGo.icmpGe K (pc' := 27) (pcY := 50) own_d5_24 rfl (by decide) rfl (fun hc24 => absurd (by decide : (3 : Int32) < (19 : Int32)) hc24) (fun hc24 => ?_)
  refine OGo.lloadN K (pc' := 28) own_d5_27 rfl rfl ?_
  refine OGo.lloadN K (pc' := 29) own_d5_28 rfl rfl ?_
  refine OGo.lcmpLe K (pc' := 33) (pcY := 38) own_d5_29 rfl own_d5_30 rfl (by decide) rfl (fun hc3_ => ?_) (fun hc3_ => ?_)
  rotate_left
  · skip
    refine OGo.iload K (pc' := 35) own_d5_33 rfl rfl ?_
    refine OGo.iloadN K (pc' := 36) own_d5_35 rfl rfl ?_
    refine OGo.iadd K (pc' := 37) own_d5_36 rfl ?_
    exact OGo.iret K own_d5_37 (by decide) (by decide) ⟨_, rfl, ⟨3, rfl, by decide, by decide, own_ss_lt hx (by decide) hc3_, (own_ss_ge hx (by decide) hc2_)⟩, rfl⟩
  refine OGo.ldcJ K (pc' := 41) (v := 10) (hw _ (List.mem_of_getElem? (i := 93) rfl)) own_d5_38 rfl ?_
  refine OGo.lloadN K (pc' := 42) own_d5_41 rfl rfl ?_
  refine OGo.lmul K (pc' := 43) own_d5_42 rfl ?_
  rw [show ((10 : Int64) * (-1000 : Int64)) = (-10000 : Int64) from by decide]
  refine OGo.lstoreN K (pc' := 44) (Ls' := #[.val (.long (-v)), .second, .val (.int (0 : Int32)), .val (.long (-10000 : Int64)), .second, .val (.int (3 : Int32))]) own_d5_43 rfl rfl ?_
  refine OGo.iinc K (pc' := 47) (z := 1) (Ls' := #[.val (.long (-v)), .second, .val (.int (0 : Int32)), .val (.long (-10000 : Int64)), .second, .val (.int ((3 : Int32) + (1 : Int32)))]) own_d5_44 rfl rfl rfl rfl ?_
  rw [show ((3 : Int32) + (1 : Int32)) = (4 : Int32) from by decide]
  refine OGo.goto K (pc' := 20) own_d5_47 (by decide) rfl ?_
  refine OGo.iload K (pc' := 22) own_d5_20 rfl rfl ?_
  refine OGo.bipush K (pc' := 24) (z := 19) own_d5_22 rfl rfl ?_
  refine OGo.icmpGe K (pc' := 27) (pcY := 50) own_d5_24 rfl (by decide) rfl (fun hc24 => absurd (by decide : (4 : Int32) < (19 : Int32)) hc24) (fun hc24 => ?_)
  refine OGo.lloadN K (pc' := 28) own_d5_27 rfl rfl ?_
  refine OGo.lloadN K (pc' := 29) own_d5_28 rfl rfl ?_
  refine OGo.lcmpLe K (pc' := 33) (pcY := 38) own_d5_29 rfl own_d5_30 rfl (by decide) rfl (fun hc4_ => ?_) (fun hc4_ => ?_)
  rotate_left
  · skip
    refine OGo.iload K (pc' := 35) own_d5_33 rfl rfl ?_
    refine OGo.iloadN K (pc' := 36) own_d5_35 rfl rfl ?_
    refine OGo.iadd K (pc' := 37) own_d5_36 rfl ?_
    exact OGo.iret K own_d5_37 (by decide) (by decide) ⟨_, rfl, ⟨4, rfl, by decide, by decide, own_ss_lt hx (by decide) hc4_, (own_ss_ge hx (by decide) hc3_)⟩, rfl⟩
  refine OGo.ldcJ K (pc' := 41) (v := 10) (hw _ (List.mem_of_getElem? (i := 93) rfl)) own_d5_38 rfl ?_
  refine OGo.lloadN K (pc' := 42) own_d5_41 rfl rfl ?_
  refine OGo.lmul K (pc' := 43) own_d5_42 rfl ?_
  rw [show ((10 : Int64) * (-10000 : Int64)) = (-100000 : Int64) from by decide]
  refine OGo.lstoreN K (pc' := 44) (Ls' := #[.val (.long (-v)), .second, .val (.int (0 : Int32)), .val (.long (-100000 : Int64)), .second, .val (.int (4 : Int32))]) own_d5_43 rfl rfl ?_
  refine OGo.iinc K (pc' := 47) (z := 1) (Ls' := #[.val (.long (-v)), .second, .val (.int (0 : Int32)), .val (.long (-100000 : Int64)), .second, .val (.int ((4 : Int32) + (1 : Int32)))]) own_d5_44 rfl rfl rfl rfl ?_
  rw [show ((4 : Int32) + (1 : Int32)) = (5 : Int32) from by decide]
  refine OGo.goto K (pc' := 20) own_d5_47 (by decide) rfl ?_
  refine OGo.iload K (pc' := 22) own_d5_20 rfl rfl ?_
  refine OGo.bipush K (pc' := 24) (z := 19) own_d5_22 rfl rfl ?_
  refine OGo.icmpGe K (pc' := 27) (pcY := 50) own_d5_24 rfl (by decide) rfl (fun hc24 => absurd (by decide : (5 : Int32) < (19 : Int32)) hc24) (fun hc24 => ?_)
  refine OGo.lloadN K (pc' := 28) own_d5_27 rfl rfl ?_
  refine OGo.lloadN K (pc' := 29) own_d5_28 rfl rfl ?_
  refine OGo.lcmpLe K (pc' := 33) (pcY := 38) own_d5_29 rfl own_d5_30 rfl (by decide) rfl (fun hc5_ => ?_) (fun hc5_ => ?_)
  rotate_left
  · skip
    refine OGo.iload K (pc' := 35) own_d5_33 rfl rfl ?_
    refine OGo.iloadN K (pc' := 36) own_d5_35 rfl rfl ?_
    refine OGo.iadd K (pc' := 37) own_d5_36 rfl ?_
    exact OGo.iret K own_d5_37 (by decide) (by decide) ⟨_, rfl, ⟨5, rfl, by decide, by decide, own_ss_lt hx (by decide) hc5_, (own_ss_ge hx (by decide) hc4_)⟩, rfl⟩
  refine OGo.ldcJ K (pc' := 41) (v := 10) (hw _ (List.mem_of_getElem? (i := 93) rfl)) own_d5_38 rfl ?_
  refine OGo.lloadN K (pc' := 42) own_d5_41 rfl rfl ?_
  refine OGo.lmul K (pc' := 43) own_d5_42 rfl ?_
  rw [show ((10 : Int64) * (-100000 : Int64)) = (-1000000 : Int64) from by decide]
  refine OGo.lstoreN K (pc' := 44) (Ls' := #[.val (.long (-v)), .second, .val (.int (0 : Int32)), .val (.long (-1000000 : Int64)), .second, .val (.int (5 : Int32))]) own_d5_43 rfl rfl ?_
  refine OGo.iinc K (pc' := 47) (z := 1) (Ls' := #[.val (.long (-v)), .second, .val (.int (0 : Int32)), .val (.long (-1000000 : Int64)), .second, .val (.int ((5 : Int32) + (1 : Int32)))]) own_d5_44 rfl rfl rfl rfl ?_
  rw [show ((5 : Int32) + (1 : Int32)) = (6 : Int32) from by decide]
  refine OGo.goto K (pc' := 20) own_d5_47 (by decide) rfl ?_
  refine OGo.iload K (pc' := 22) own_d5_20 rfl rfl ?_
  refine OGo.bipush K (pc' := 24) (z := 19) own_d5_22 rfl rfl ?_
  refine OGo.icmpGe K (pc' := 27) (pcY := 50) own_d5_24 rfl (by decide) rfl (fun hc24 => absurd (by decide : (6 : Int32) < (19 : Int32)) hc24) (fun hc24 => ?_)
  refine OGo.lloadN K (pc' := 28) own_d5_27 rfl rfl ?_
  refine OGo.lloadN K (pc' := 29) own_d5_28 rfl rfl ?_
  refine OGo.lcmpLe K (pc' := 33) (pcY := 38) own_d5_29 rfl own_d5_30 rfl (by decide) rfl (fun hc6_ => ?_) (fun hc6_ => ?_)
  rotate_left
  · skip
    refine OGo.iload K (pc' := 35) own_d5_33 rfl rfl ?_
    refine OGo.iloadN K (pc' := 36) own_d5_35 rfl rfl ?_
    refine OGo.iadd K (pc' := 37) own_d5_36 rfl ?_
    exact OGo.iret K own_d5_37 (by decide) (by decide) ⟨_, rfl, ⟨6, rfl, by decide, by decide, own_ss_lt hx (by decide) hc6_, (own_ss_ge hx (by decide) hc5_)⟩, rfl⟩
  refine OGo.ldcJ K (pc' := 41) (v := 10) (hw _ (List.mem_of_getElem? (i := 93) rfl)) own_d5_38 rfl ?_
  refine OGo.lloadN K (pc' := 42) own_d5_41 rfl rfl ?_
  refine OGo.lmul K (pc' := 43) own_d5_42 rfl ?_
  rw [show ((10 : Int64) * (-1000000 : Int64)) = (-10000000 : Int64) from by decide]
  refine OGo.lstoreN K (pc' := 44) (Ls' := #[.val (.long (-v)), .second, .val (.int (0 : Int32)), .val (.long (-10000000 : Int64)), .second, .val (.int (6 : Int32))]) own_d5_43 rfl rfl ?_
  refine OGo.iinc K (pc' := 47) (z := 1) (Ls' := #[.val (.long (-v)), .second, .val (.int (0 : Int32)), .val (.long (-10000000 : Int64)), .second, .val (.int ((6 : Int32) + (1 : Int32)))]) own_d5_44 rfl rfl rfl rfl ?_
  rw [show ((6 : Int32) + (1 : Int32)) = (7 : Int32) from by decide]
  refine OGo.goto K (pc' := 20) own_d5_47 (by decide) rfl ?_
  refine OGo.iload K (pc' := 22) own_d5_20 rfl rfl ?_
  refine OGo.bipush K (pc' := 24) (z := 19) own_d5_22 rfl rfl ?_
  refine OGo.icmpGe K (pc' := 27) (pcY := 50) own_d5_24 rfl (by decide) rfl (fun hc24 => absurd (by decide : (7 : Int32) < (19 : Int32)) hc24) (fun hc24 => ?_)
  refine OGo.lloadN K (pc' := 28) own_d5_27 rfl rfl ?_
  refine OGo.lloadN K (pc' := 29) own_d5_28 rfl rfl ?_
  refine OGo.lcmpLe K (pc' := 33) (pcY := 38) own_d5_29 rfl own_d5_30 rfl (by decide) rfl (fun hc7_ => ?_) (fun hc7_ => ?_)
  rotate_left
  · skip
    refine OGo.iload K (pc' := 35) own_d5_33 rfl rfl ?_
    refine OGo.iloadN K (pc' := 36) own_d5_35 rfl rfl ?_
    refine OGo.iadd K (pc' := 37) own_d5_36 rfl ?_
    exact OGo.iret K own_d5_37 (by decide) (by decide) ⟨_, rfl, ⟨7, rfl, by decide, by decide, own_ss_lt hx (by decide) hc7_, (own_ss_ge hx (by decide) hc6_)⟩, rfl⟩
  refine OGo.ldcJ K (pc' := 41) (v := 10) (hw _ (List.mem_of_getElem? (i := 93) rfl)) own_d5_38 rfl ?_
  refine OGo.lloadN K (pc' := 42) own_d5_41 rfl rfl ?_
  refine OGo.lmul K (pc' := 43) own_d5_42 rfl ?_
  rw [show ((10 : Int64) * (-10000000 : Int64)) = (-100000000 : Int64) from by decide]
  refine OGo.lstoreN K (pc' := 44) (Ls' := #[.val (.long (-v)), .second, .val (.int (0 : Int32)), .val (.long (-100000000 : Int64)), .second, .val (.int (7 : Int32))]) own_d5_43 rfl rfl ?_
  refine OGo.iinc K (pc' := 47) (z := 1) (Ls' := #[.val (.long (-v)), .second, .val (.int (0 : Int32)), .val (.long (-100000000 : Int64)), .second, .val (.int ((7 : Int32) + (1 : Int32)))]) own_d5_44 rfl rfl rfl rfl ?_
  rw [show ((7 : Int32) + (1 : Int32)) = (8 : Int32) from by decide]
  refine OGo.goto K (pc' := 20) own_d5_47 (by decide) rfl ?_
  refine OGo.iload K (pc' := 22) own_d5_20 rfl rfl ?_
  refine OGo.bipush K (pc' := 24) (z := 19) own_d5_22 rfl rfl ?_
  refine OGo.icmpGe K (pc' := 27) (pcY := 50) own_d5_24 rfl (by decide) rfl (fun hc24 => absurd (by decide : (8 : Int32) < (19 : Int32)) hc24) (fun hc24 => ?_)
  refine OGo.lloadN K (pc' := 28) own_d5_27 rfl rfl ?_
  refine OGo.lloadN K (pc' := 29) own_d5_28 rfl rfl ?_
  refine OGo.lcmpLe K (pc' := 33) (pcY := 38) own_d5_29 rfl own_d5_30 rfl (by decide) rfl (fun hc8_ => ?_) (fun hc8_ => ?_)
  rotate_left
  · skip
    refine OGo.iload K (pc' := 35) own_d5_33 rfl rfl ?_
    refine OGo.iloadN K (pc' := 36) own_d5_35 rfl rfl ?_
    refine OGo.iadd K (pc' := 37) own_d5_36 rfl ?_
    exact OGo.iret K own_d5_37 (by decide) (by decide) ⟨_, rfl, ⟨8, rfl, by decide, by decide, own_ss_lt hx (by decide) hc8_, (own_ss_ge hx (by decide) hc7_)⟩, rfl⟩
  refine OGo.ldcJ K (pc' := 41) (v := 10) (hw _ (List.mem_of_getElem? (i := 93) rfl)) own_d5_38 rfl ?_
  refine OGo.lloadN K (pc' := 42) own_d5_41 rfl rfl ?_
  refine OGo.lmul K (pc' := 43) own_d5_42 rfl ?_
  rw [show ((10 : Int64) * (-100000000 : Int64)) = (-1000000000 : Int64) from by decide]
  refine OGo.lstoreN K (pc' := 44) (Ls' := #[.val (.long (-v)), .second, .val (.int (0 : Int32)), .val (.long (-1000000000 : Int64)), .second, .val (.int (8 : Int32))]) own_d5_43 rfl rfl ?_
  refine OGo.iinc K (pc' := 47) (z := 1) (Ls' := #[.val (.long (-v)), .second, .val (.int (0 : Int32)), .val (.long (-1000000000 : Int64)), .second, .val (.int ((8 : Int32) + (1 : Int32)))]) own_d5_44 rfl rfl rfl rfl ?_
  rw [show ((8 : Int32) + (1 : Int32)) = (9 : Int32) from by decide]
  refine OGo.goto K (pc' := 20) own_d5_47 (by decide) rfl ?_
  refine OGo.iload K (pc' := 22) own_d5_20 rfl rfl ?_
  refine OGo.bipush K (pc' := 24) (z := 19) own_d5_22 rfl rfl ?_
  refine OGo.icmpGe K (pc' := 27) (pcY := 50) own_d5_24 rfl (by decide) rfl (fun hc24 => absurd (by decide : (9 : Int32) < (19 : Int32)) hc24) (fun hc24 => ?_)
  refine OGo.lloadN K (pc' := 28) own_d5_27 rfl rfl ?_
  refine OGo.lloadN K (pc' := 29) own_d5_28 rfl rfl ?_
  refine OGo.lcmpLe K (pc' := 33) (pcY := 38) own_d5_29 rfl own_d5_30 rfl (by decide) rfl (fun hc9_ => ?_) (fun hc9_ => ?_)
  rotate_left
  · skip
    refine OGo.iload K (pc' := 35) own_d5_33 rfl rfl ?_
    refine OGo.iloadN K (pc' := 36) own_d5_35 rfl rfl ?_
    refine OGo.iadd K (pc' := 37) own_d5_36 rfl ?_
    exact OGo.iret K own_d5_37 (by decide) (by decide) ⟨_, rfl, ⟨9, rfl, by decide, by decide, own_ss_lt hx (by decide) hc9_, (own_ss_ge hx (by decide) hc8_)⟩, rfl⟩
  refine OGo.ldcJ K (pc' := 41) (v := 10) (hw _ (List.mem_of_getElem? (i := 93) rfl)) own_d5_38 rfl ?_
  refine OGo.lloadN K (pc' := 42) own_d5_41 rfl rfl ?_
  refine OGo.lmul K (pc' := 43) own_d5_42 rfl ?_
  rw [show ((10 : Int64) * (-1000000000 : Int64)) = (-10000000000 : Int64) from by decide]
  refine OGo.lstoreN K (pc' := 44) (Ls' := #[.val (.long (-v)), .second, .val (.int (0 : Int32)), .val (.long (-10000000000 : Int64)), .second, .val (.int (9 : Int32))]) own_d5_43 rfl rfl ?_
  refine OGo.iinc K (pc' := 47) (z := 1) (Ls' := #[.val (.long (-v)), .second, .val (.int (0 : Int32)), .val (.long (-10000000000 : Int64)), .second, .val (.int ((9 : Int32) + (1 : Int32)))]) own_d5_44 rfl rfl rfl rfl ?_
  rw [show ((9 : Int32) + (1 : Int32)) = (10 : Int32) from by decide]
  refine OGo.goto K (pc' := 20) own_d5_47 (by decide) rfl ?_
  refine OGo.iload K (pc' := 22) own_d5_20 rfl rfl ?_
  refine OGo.bipush K (pc' := 24) (z := 19) own_d5_22 rfl rfl ?_
  refine OGo.icmpGe K (pc' := 27) (pcY := 50) own_d5_24 rfl (by decide) rfl (fun hc24 => absurd (by decide : (10 : Int32) < (19 : Int32)) hc24) (fun hc24 => ?_)
  refine OGo.lloadN K (pc' := 28) own_d5_27 rfl rfl ?_
  refine OGo.lloadN K (pc' := 29) own_d5_28 rfl rfl ?_
  refine OGo.lcmpLe K (pc' := 33) (pcY := 38) own_d5_29 rfl own_d5_30 rfl (by decide) rfl (fun hc10_ => ?_) (fun hc10_ => ?_)
  rotate_left
  · skip
    refine OGo.iload K (pc' := 35) own_d5_33 rfl rfl ?_
    refine OGo.iloadN K (pc' := 36) own_d5_35 rfl rfl ?_
    refine OGo.iadd K (pc' := 37) own_d5_36 rfl ?_
    exact OGo.iret K own_d5_37 (by decide) (by decide) ⟨_, rfl, ⟨10, rfl, by decide, by decide, own_ss_lt hx (by decide) hc10_, (own_ss_ge hx (by decide) hc9_)⟩, rfl⟩
  refine OGo.ldcJ K (pc' := 41) (v := 10) (hw _ (List.mem_of_getElem? (i := 93) rfl)) own_d5_38 rfl ?_
  refine OGo.lloadN K (pc' := 42) own_d5_41 rfl rfl ?_
  refine OGo.lmul K (pc' := 43) own_d5_42 rfl ?_
  rw [show ((10 : Int64) * (-10000000000 : Int64)) = (-100000000000 : Int64) from by decide]
  refine OGo.lstoreN K (pc' := 44) (Ls' := #[.val (.long (-v)), .second, .val (.int (0 : Int32)), .val (.long (-100000000000 : Int64)), .second, .val (.int (10 : Int32))]) own_d5_43 rfl rfl ?_
  refine OGo.iinc K (pc' := 47) (z := 1) (Ls' := #[.val (.long (-v)), .second, .val (.int (0 : Int32)), .val (.long (-100000000000 : Int64)), .second, .val (.int ((10 : Int32) + (1 : Int32)))]) own_d5_44 rfl rfl rfl rfl ?_
  rw [show ((10 : Int32) + (1 : Int32)) = (11 : Int32) from by decide]
  refine OGo.goto K (pc' := 20) own_d5_47 (by decide) rfl ?_
  refine OGo.iload K (pc' := 22) own_d5_20 rfl rfl ?_
  refine OGo.bipush K (pc' := 24) (z := 19) own_d5_22 rfl rfl ?_
  refine OGo.icmpGe K (pc' := 27) (pcY := 50) own_d5_24 rfl (by decide) rfl (fun hc24 => absurd (by decide : (11 : Int32) < (19 : Int32)) hc24) (fun hc24 => ?_)
  refine OGo.lloadN K (pc' := 28) own_d5_27 rfl rfl ?_
  refine OGo.lloadN K (pc' := 29) own_d5_28 rfl rfl ?_
  refine OGo.lcmpLe K (pc' := 33) (pcY := 38) own_d5_29 rfl own_d5_30 rfl (by decide) rfl (fun hc11_ => ?_) (fun hc11_ => ?_)
  rotate_left
  · skip
    refine OGo.iload K (pc' := 35) own_d5_33 rfl rfl ?_
    refine OGo.iloadN K (pc' := 36) own_d5_35 rfl rfl ?_
    refine OGo.iadd K (pc' := 37) own_d5_36 rfl ?_
    exact OGo.iret K own_d5_37 (by decide) (by decide) ⟨_, rfl, ⟨11, rfl, by decide, by decide, own_ss_lt hx (by decide) hc11_, (own_ss_ge hx (by decide) hc10_)⟩, rfl⟩
  refine OGo.ldcJ K (pc' := 41) (v := 10) (hw _ (List.mem_of_getElem? (i := 93) rfl)) own_d5_38 rfl ?_
  refine OGo.lloadN K (pc' := 42) own_d5_41 rfl rfl ?_
  refine OGo.lmul K (pc' := 43) own_d5_42 rfl ?_
  rw [show ((10 : Int64) * (-100000000000 : Int64)) = (-1000000000000 : Int64) from by decide]
  refine OGo.lstoreN K (pc' := 44) (Ls' := #[.val (.long (-v)), .second, .val (.int (0 : Int32)), .val (.long (-1000000000000 : Int64)), .second, .val (.int (11 : Int32))]) own_d5_43 rfl rfl ?_
  refine OGo.iinc K (pc' := 47) (z := 1) (Ls' := #[.val (.long (-v)), .second, .val (.int (0 : Int32)), .val (.long (-1000000000000 : Int64)), .second, .val (.int ((11 : Int32) + (1 : Int32)))]) own_d5_44 rfl rfl rfl rfl ?_
  rw [show ((11 : Int32) + (1 : Int32)) = (12 : Int32) from by decide]
  refine OGo.goto K (pc' := 20) own_d5_47 (by decide) rfl ?_
  refine OGo.iload K (pc' := 22) own_d5_20 rfl rfl ?_
  refine OGo.bipush K (pc' := 24) (z := 19) own_d5_22 rfl rfl ?_
  refine OGo.icmpGe K (pc' := 27) (pcY := 50) own_d5_24 rfl (by decide) rfl (fun hc24 => absurd (by decide : (12 : Int32) < (19 : Int32)) hc24) (fun hc24 => ?_)
  refine OGo.lloadN K (pc' := 28) own_d5_27 rfl rfl ?_
  refine OGo.lloadN K (pc' := 29) own_d5_28 rfl rfl ?_
  refine OGo.lcmpLe K (pc' := 33) (pcY := 38) own_d5_29 rfl own_d5_30 rfl (by decide) rfl (fun hc12_ => ?_) (fun hc12_ => ?_)
  rotate_left
  · skip
    refine OGo.iload K (pc' := 35) own_d5_33 rfl rfl ?_
    refine OGo.iloadN K (pc' := 36) own_d5_35 rfl rfl ?_
    refine OGo.iadd K (pc' := 37) own_d5_36 rfl ?_
    exact OGo.iret K own_d5_37 (by decide) (by decide) ⟨_, rfl, ⟨12, rfl, by decide, by decide, own_ss_lt hx (by decide) hc12_, (own_ss_ge hx (by decide) hc11_)⟩, rfl⟩
  refine OGo.ldcJ K (pc' := 41) (v := 10) (hw _ (List.mem_of_getElem? (i := 93) rfl)) own_d5_38 rfl ?_
  refine OGo.lloadN K (pc' := 42) own_d5_41 rfl rfl ?_
  refine OGo.lmul K (pc' := 43) own_d5_42 rfl ?_
  rw [show ((10 : Int64) * (-1000000000000 : Int64)) = (-10000000000000 : Int64) from by decide]
  refine OGo.lstoreN K (pc' := 44) (Ls' := #[.val (.long (-v)), .second, .val (.int (0 : Int32)), .val (.long (-10000000000000 : Int64)), .second, .val (.int (12 : Int32))]) own_d5_43 rfl rfl ?_
  refine OGo.iinc K (pc' := 47) (z := 1) (Ls' := #[.val (.long (-v)), .second, .val (.int (0 : Int32)), .val (.long (-10000000000000 : Int64)), .second, .val (.int ((12 : Int32) + (1 : Int32)))]) own_d5_44 rfl rfl rfl rfl ?_
  rw [show ((12 : Int32) + (1 : Int32)) = (13 : Int32) from by decide]
  refine OGo.goto K (pc' := 20) own_d5_47 (by decide) rfl ?_
  refine OGo.iload K (pc' := 22) own_d5_20 rfl rfl ?_
  refine OGo.bipush K (pc' := 24) (z := 19) own_d5_22 rfl rfl ?_
  refine OGo.icmpGe K (pc' := 27) (pcY := 50) own_d5_24 rfl (by decide) rfl (fun hc24 => absurd (by decide : (13 : Int32) < (19 : Int32)) hc24) (fun hc24 => ?_)
  refine OGo.lloadN K (pc' := 28) own_d5_27 rfl rfl ?_
  refine OGo.lloadN K (pc' := 29) own_d5_28 rfl rfl ?_
  refine OGo.lcmpLe K (pc' := 33) (pcY := 38) own_d5_29 rfl own_d5_30 rfl (by decide) rfl (fun hc13_ => ?_) (fun hc13_ => ?_)
  rotate_left
  · skip
    refine OGo.iload K (pc' := 35) own_d5_33 rfl rfl ?_
    refine OGo.iloadN K (pc' := 36) own_d5_35 rfl rfl ?_
    refine OGo.iadd K (pc' := 37) own_d5_36 rfl ?_
    exact OGo.iret K own_d5_37 (by decide) (by decide) ⟨_, rfl, ⟨13, rfl, by decide, by decide, own_ss_lt hx (by decide) hc13_, (own_ss_ge hx (by decide) hc12_)⟩, rfl⟩
  refine OGo.ldcJ K (pc' := 41) (v := 10) (hw _ (List.mem_of_getElem? (i := 93) rfl)) own_d5_38 rfl ?_
  refine OGo.lloadN K (pc' := 42) own_d5_41 rfl rfl ?_
  refine OGo.lmul K (pc' := 43) own_d5_42 rfl ?_
  rw [show ((10 : Int64) * (-10000000000000 : Int64)) = (-100000000000000 : Int64) from by decide]
  refine OGo.lstoreN K (pc' := 44) (Ls' := #[.val (.long (-v)), .second, .val (.int (0 : Int32)), .val (.long (-100000000000000 : Int64)), .second, .val (.int (13 : Int32))]) own_d5_43 rfl rfl ?_
  refine OGo.iinc K (pc' := 47) (z := 1) (Ls' := #[.val (.long (-v)), .second, .val (.int (0 : Int32)), .val (.long (-100000000000000 : Int64)), .second, .val (.int ((13 : Int32) + (1 : Int32)))]) own_d5_44 rfl rfl rfl rfl ?_
  rw [show ((13 : Int32) + (1 : Int32)) = (14 : Int32) from by decide]
  refine OGo.goto K (pc' := 20) own_d5_47 (by decide) rfl ?_
  refine OGo.iload K (pc' := 22) own_d5_20 rfl rfl ?_
  refine OGo.bipush K (pc' := 24) (z := 19) own_d5_22 rfl rfl ?_
  refine OGo.icmpGe K (pc' := 27) (pcY := 50) own_d5_24 rfl (by decide) rfl (fun hc24 => absurd (by decide : (14 : Int32) < (19 : Int32)) hc24) (fun hc24 => ?_)
  refine OGo.lloadN K (pc' := 28) own_d5_27 rfl rfl ?_
  refine OGo.lloadN K (pc' := 29) own_d5_28 rfl rfl ?_
  refine OGo.lcmpLe K (pc' := 33) (pcY := 38) own_d5_29 rfl own_d5_30 rfl (by decide) rfl (fun hc14_ => ?_) (fun hc14_ => ?_)
  rotate_left
  · skip
    refine OGo.iload K (pc' := 35) own_d5_33 rfl rfl ?_
    refine OGo.iloadN K (pc' := 36) own_d5_35 rfl rfl ?_
    refine OGo.iadd K (pc' := 37) own_d5_36 rfl ?_
    exact OGo.iret K own_d5_37 (by decide) (by decide) ⟨_, rfl, ⟨14, rfl, by decide, by decide, own_ss_lt hx (by decide) hc14_, (own_ss_ge hx (by decide) hc13_)⟩, rfl⟩
  refine OGo.ldcJ K (pc' := 41) (v := 10) (hw _ (List.mem_of_getElem? (i := 93) rfl)) own_d5_38 rfl ?_
  refine OGo.lloadN K (pc' := 42) own_d5_41 rfl rfl ?_
  refine OGo.lmul K (pc' := 43) own_d5_42 rfl ?_
  rw [show ((10 : Int64) * (-100000000000000 : Int64)) = (-1000000000000000 : Int64) from by decide]
  refine OGo.lstoreN K (pc' := 44) (Ls' := #[.val (.long (-v)), .second, .val (.int (0 : Int32)), .val (.long (-1000000000000000 : Int64)), .second, .val (.int (14 : Int32))]) own_d5_43 rfl rfl ?_
  refine OGo.iinc K (pc' := 47) (z := 1) (Ls' := #[.val (.long (-v)), .second, .val (.int (0 : Int32)), .val (.long (-1000000000000000 : Int64)), .second, .val (.int ((14 : Int32) + (1 : Int32)))]) own_d5_44 rfl rfl rfl rfl ?_
  rw [show ((14 : Int32) + (1 : Int32)) = (15 : Int32) from by decide]
  refine OGo.goto K (pc' := 20) own_d5_47 (by decide) rfl ?_
  refine OGo.iload K (pc' := 22) own_d5_20 rfl rfl ?_
  refine OGo.bipush K (pc' := 24) (z := 19) own_d5_22 rfl rfl ?_
  refine OGo.icmpGe K (pc' := 27) (pcY := 50) own_d5_24 rfl (by decide) rfl (fun hc24 => absurd (by decide : (15 : Int32) < (19 : Int32)) hc24) (fun hc24 => ?_)
  refine OGo.lloadN K (pc' := 28) own_d5_27 rfl rfl ?_
  refine OGo.lloadN K (pc' := 29) own_d5_28 rfl rfl ?_
  refine OGo.lcmpLe K (pc' := 33) (pcY := 38) own_d5_29 rfl own_d5_30 rfl (by decide) rfl (fun hc15_ => ?_) (fun hc15_ => ?_)
  rotate_left
  · skip
    refine OGo.iload K (pc' := 35) own_d5_33 rfl rfl ?_
    refine OGo.iloadN K (pc' := 36) own_d5_35 rfl rfl ?_
    refine OGo.iadd K (pc' := 37) own_d5_36 rfl ?_
    exact OGo.iret K own_d5_37 (by decide) (by decide) ⟨_, rfl, ⟨15, rfl, by decide, by decide, own_ss_lt hx (by decide) hc15_, (own_ss_ge hx (by decide) hc14_)⟩, rfl⟩
  refine OGo.ldcJ K (pc' := 41) (v := 10) (hw _ (List.mem_of_getElem? (i := 93) rfl)) own_d5_38 rfl ?_
  refine OGo.lloadN K (pc' := 42) own_d5_41 rfl rfl ?_
  refine OGo.lmul K (pc' := 43) own_d5_42 rfl ?_
  rw [show ((10 : Int64) * (-1000000000000000 : Int64)) = (-10000000000000000 : Int64) from by decide]
  refine OGo.lstoreN K (pc' := 44) (Ls' := #[.val (.long (-v)), .second, .val (.int (0 : Int32)), .val (.long (-10000000000000000 : Int64)), .second, .val (.int (15 : Int32))]) own_d5_43 rfl rfl ?_
  refine OGo.iinc K (pc' := 47) (z := 1) (Ls' := #[.val (.long (-v)), .second, .val (.int (0 : Int32)), .val (.long (-10000000000000000 : Int64)), .second, .val (.int ((15 : Int32) + (1 : Int32)))]) own_d5_44 rfl rfl rfl rfl ?_
  rw [show ((15 : Int32) + (1 : Int32)) = (16 : Int32) from by decide]
  refine OGo.goto K (pc' := 20) own_d5_47 (by decide) rfl ?_
  refine OGo.iload K (pc' := 22) own_d5_20 rfl rfl ?_
  refine OGo.bipush K (pc' := 24) (z := 19) own_d5_22 rfl rfl ?_
  refine OGo.icmpGe K (pc' := 27) (pcY := 50) own_d5_24 rfl (by decide) rfl (fun hc24 => absurd (by decide : (16 : Int32) < (19 : Int32)) hc24) (fun hc24 => ?_)
  refine OGo.lloadN K (pc' := 28) own_d5_27 rfl rfl ?_
  refine OGo.lloadN K (pc' := 29) own_d5_28 rfl rfl ?_
  refine OGo.lcmpLe K (pc' := 33) (pcY := 38) own_d5_29 rfl own_d5_30 rfl (by decide) rfl (fun hc16_ => ?_) (fun hc16_ => ?_)
  rotate_left
  · skip
    refine OGo.iload K (pc' := 35) own_d5_33 rfl rfl ?_
    refine OGo.iloadN K (pc' := 36) own_d5_35 rfl rfl ?_
    refine OGo.iadd K (pc' := 37) own_d5_36 rfl ?_
    exact OGo.iret K own_d5_37 (by decide) (by decide) ⟨_, rfl, ⟨16, rfl, by decide, by decide, own_ss_lt hx (by decide) hc16_, (own_ss_ge hx (by decide) hc15_)⟩, rfl⟩
  refine OGo.ldcJ K (pc' := 41) (v := 10) (hw _ (List.mem_of_getElem? (i := 93) rfl)) own_d5_38 rfl ?_
  refine OGo.lloadN K (pc' := 42) own_d5_41 rfl rfl ?_
  refine OGo.lmul K (pc' := 43) own_d5_42 rfl ?_
  rw [show ((10 : Int64) * (-10000000000000000 : Int64)) = (-100000000000000000 : Int64) from by decide]
  refine OGo.lstoreN K (pc' := 44) (Ls' := #[.val (.long (-v)), .second, .val (.int (0 : Int32)), .val (.long (-100000000000000000 : Int64)), .second, .val (.int (16 : Int32))]) own_d5_43 rfl rfl ?_
  refine OGo.iinc K (pc' := 47) (z := 1) (Ls' := #[.val (.long (-v)), .second, .val (.int (0 : Int32)), .val (.long (-100000000000000000 : Int64)), .second, .val (.int ((16 : Int32) + (1 : Int32)))]) own_d5_44 rfl rfl rfl rfl ?_
  rw [show ((16 : Int32) + (1 : Int32)) = (17 : Int32) from by decide]
  refine OGo.goto K (pc' := 20) own_d5_47 (by decide) rfl ?_
  refine OGo.iload K (pc' := 22) own_d5_20 rfl rfl ?_
  refine OGo.bipush K (pc' := 24) (z := 19) own_d5_22 rfl rfl ?_
  refine OGo.icmpGe K (pc' := 27) (pcY := 50) own_d5_24 rfl (by decide) rfl (fun hc24 => absurd (by decide : (17 : Int32) < (19 : Int32)) hc24) (fun hc24 => ?_)
  refine OGo.lloadN K (pc' := 28) own_d5_27 rfl rfl ?_
  refine OGo.lloadN K (pc' := 29) own_d5_28 rfl rfl ?_
  refine OGo.lcmpLe K (pc' := 33) (pcY := 38) own_d5_29 rfl own_d5_30 rfl (by decide) rfl (fun hc17_ => ?_) (fun hc17_ => ?_)
  rotate_left
  · skip
    refine OGo.iload K (pc' := 35) own_d5_33 rfl rfl ?_
    refine OGo.iloadN K (pc' := 36) own_d5_35 rfl rfl ?_
    refine OGo.iadd K (pc' := 37) own_d5_36 rfl ?_
    exact OGo.iret K own_d5_37 (by decide) (by decide) ⟨_, rfl, ⟨17, rfl, by decide, by decide, own_ss_lt hx (by decide) hc17_, (own_ss_ge hx (by decide) hc16_)⟩, rfl⟩
  refine OGo.ldcJ K (pc' := 41) (v := 10) (hw _ (List.mem_of_getElem? (i := 93) rfl)) own_d5_38 rfl ?_
  refine OGo.lloadN K (pc' := 42) own_d5_41 rfl rfl ?_
  refine OGo.lmul K (pc' := 43) own_d5_42 rfl ?_
  rw [show ((10 : Int64) * (-100000000000000000 : Int64)) = (-1000000000000000000 : Int64) from by decide]
  refine OGo.lstoreN K (pc' := 44) (Ls' := #[.val (.long (-v)), .second, .val (.int (0 : Int32)), .val (.long (-1000000000000000000 : Int64)), .second, .val (.int (17 : Int32))]) own_d5_43 rfl rfl ?_
  refine OGo.iinc K (pc' := 47) (z := 1) (Ls' := #[.val (.long (-v)), .second, .val (.int (0 : Int32)), .val (.long (-1000000000000000000 : Int64)), .second, .val (.int ((17 : Int32) + (1 : Int32)))]) own_d5_44 rfl rfl rfl rfl ?_
  rw [show ((17 : Int32) + (1 : Int32)) = (18 : Int32) from by decide]
  refine OGo.goto K (pc' := 20) own_d5_47 (by decide) rfl ?_
  refine OGo.iload K (pc' := 22) own_d5_20 rfl rfl ?_
  refine OGo.bipush K (pc' := 24) (z := 19) own_d5_22 rfl rfl ?_
  refine OGo.icmpGe K (pc' := 27) (pcY := 50) own_d5_24 rfl (by decide) rfl (fun hc24 => absurd (by decide : (18 : Int32) < (19 : Int32)) hc24) (fun hc24 => ?_)
  refine OGo.lloadN K (pc' := 28) own_d5_27 rfl rfl ?_
  refine OGo.lloadN K (pc' := 29) own_d5_28 rfl rfl ?_
  refine OGo.lcmpLe K (pc' := 33) (pcY := 38) own_d5_29 rfl own_d5_30 rfl (by decide) rfl (fun hc18_ => ?_) (fun hc18_ => ?_)
  rotate_left
  · skip
    refine OGo.iload K (pc' := 35) own_d5_33 rfl rfl ?_
    refine OGo.iloadN K (pc' := 36) own_d5_35 rfl rfl ?_
    refine OGo.iadd K (pc' := 37) own_d5_36 rfl ?_
    exact OGo.iret K own_d5_37 (by decide) (by decide) ⟨_, rfl, ⟨18, rfl, by decide, by decide, own_ss_lt hx (by decide) hc18_, (own_ss_ge hx (by decide) hc17_)⟩, rfl⟩
  refine OGo.ldcJ K (pc' := 41) (v := 10) (hw _ (List.mem_of_getElem? (i := 93) rfl)) own_d5_38 rfl ?_
  refine OGo.lloadN K (pc' := 42) own_d5_41 rfl rfl ?_
  refine OGo.lmul K (pc' := 43) own_d5_42 rfl ?_
  rw [show ((10 : Int64) * (-1000000000000000000 : Int64)) = (8446744073709551616 : Int64) from by decide]
  refine OGo.lstoreN K (pc' := 44) (Ls' := #[.val (.long (-v)), .second, .val (.int (0 : Int32)), .val (.long (8446744073709551616 : Int64)), .second, .val (.int (18 : Int32))]) own_d5_43 rfl rfl ?_
  refine OGo.iinc K (pc' := 47) (z := 1) (Ls' := #[.val (.long (-v)), .second, .val (.int (0 : Int32)), .val (.long (8446744073709551616 : Int64)), .second, .val (.int ((18 : Int32) + (1 : Int32)))]) own_d5_44 rfl rfl rfl rfl ?_
  rw [show ((18 : Int32) + (1 : Int32)) = (19 : Int32) from by decide]
  refine OGo.goto K (pc' := 20) own_d5_47 (by decide) rfl ?_
  refine OGo.iload K (pc' := 22) own_d5_20 rfl rfl ?_
  refine OGo.bipush K (pc' := 24) (z := 19) own_d5_22 rfl rfl ?_
  refine OGo.icmpGe K (pc' := 27) (pcY := 50) own_d5_24 rfl (by decide) rfl (fun hc24 => ?_) (fun hc24 => absurd hc24 (by decide : ¬ (19 : Int32) < (19 : Int32)))
  refine OGo.bipush K (pc' := 52) (z := 19) own_d5_50 rfl rfl ?_
  refine OGo.iloadN K (pc' := 53) own_d5_52 rfl rfl ?_
  refine OGo.iadd K (pc' := 54) own_d5_53 rfl ?_
  exact OGo.iret K own_d5_54 (by decide) (by decide) ⟨_, rfl, ⟨19, rfl, by decide, by decide, (by show r < 10000000000000000000; omega), (own_ss_ge hx (by decide) hc18_)⟩, rfl⟩
set_option maxRecDepth 65536 in
set_option maxHeartbeats 40000000 in
theorem own_rm6 (l : Launch) (Z : State) (a0 : Array Value) (hw : ∀ d ∈ tables_1, d.before a0 Z = true) (v : Int64) (r k : Nat) (b : Addr) (kb : ClassId) (us0 : List Value) (d1 d2 : Addr) (k1 k2 : ClassId) (u1 u2 : List Value) (h0 : Heap) (n0 : Nat) (Z0 : n0 ≤ h0.size) (hv : v.toInt = (r : Int)) (hr1 : 1 ≤ r) (hk : r < 10 ^ k) (hk' : k ≤ 19) (Vb : Arv Z h0 b kb .byte (Int32.ofNat k) us0 (.int 0)) (l0 : us0.length = k) (g_b : n0 ≤ b) (D1 : ODg Z n0 h0 "DigitOnes" d1 k1 u1) (D2 : ODg Z n0 h0 "DigitTens" d2 k2 u2) :
    OCon l Z n0 (⟨"java/lang/Long", "getChars", "(JI[B)I"⟩ : MethodName) jdk_35_method_14_code 11 (some .int) [] ({ frames := 0, cells := 0, slots := 0, locals := 0 } : Room) #[(.long v), (.int (Int32.ofNat k)), (.ref b)] h0 (OV fun w h => (∃ z, w = .int z) ∧ Keep h0 h [b] ∧ ∃ us, Arv Z h b kb .byte (Int32.ofNat k) us (.int 0)) := by
  refine OCon.of (Ls := #[.val (.long v), .second, .val (.int (Int32.ofNat k)), .val (.ref b), .unset, .unset, .unset, .unset, .unset, .unset, .unset]) (plainFor_of_name own_pn_5) (fun m => own_entry m rfl) ?_
  intro p e s m below meth c K
  have hx := own_neg64 hv
  have loop2 : ∀ (d c' mm : Nat) (x : Int64) (y : Int32) (s4 s5 s6 s9 : Slot) (h6_ : One s6) (h9_ : One s9) (h : Heap) (us : List Value) (Zh : n0 ≤ h.size) (Vu : Arv Z h b kb .byte (Int32.ofNat k) us (.int 0)) (lu : us.length = k) (Kp : Keep h0 h [b]) (hc : c' ≤ d) (hck : c' ≤ k) (hy : y.toInt = -(mm : Int)) (m1 : 1 ≤ mm) (m2 : mm < 10 ^ c'), OGo p l e ({ frames := 0, cells := 0, slots := 0, locals := 0 } : Room) s m #[(.long v), (.int (Int32.ofNat k)), (.ref b)] below meth c n0 (OV fun w h => (∃ z, w = .int z) ∧ Keep h0 h [b] ∧ ∃ us, Arv Z h b kb .byte (Int32.ofNat k) us (.int 0)) h 0 0 86 #[.val (.long x), .second, .val (.int (Int32.ofNat k)), .val (.ref b), s4, s5, s6, .val (.int (Int32.ofNat c')), .val (.int (0 : Int32)), s9, .val (.int y)] [] := by
    intro d
    induction d with
    | zero =>
      intro c' mm x y s4 s5 s6 s9 h6_ h9_ h us Zh Vu lu Kp hc hck hy m1 m2
      exact absurd (own_pw1 m2 m1) (by omega)
    | succ d ih =>
      intro c mm x y s4 s5 s6 s9 h6_ h9_ h us Zh Vu lu Kp hc hck hy m1 m2
      refine OGo.iload K (pc' := 88) own_d6_86 rfl rfl ?_
      refine OGo.bipush K (pc' := 90) (z := (-100)) own_d6_88 rfl rfl ?_
      refine OGo.icmpGt K (pc' := 93) (pcY := 143) own_d6_90 rfl (by decide) rfl (fun hq => ?_) (fun hq => ?_)
      · skip
        have hq' : mm < 100 := by rw [Int32.lt_iff_toInt_lt, hy, show (-100 : Int32).toInt = -100 from rfl] at hq; omega
        have hn := own_i100 (own_neg32 hy hq')
        obtain ⟨c', rfl⟩ : ∃ c', c = c' + 1 := ⟨c - 1, by have := own_pw1 m2 m1; omega⟩
        refine OGo.aloadN K (pc' := 144) own_d6_143 rfl rfl rfl ?_
        refine OGo.iinc K (pc' := 147) (z := (-1)) (Ls' := #[.val (.long x), .second, .val (.int (Int32.ofNat k)), .val (.ref b), s4, s5, s6, .val (.int ((Int32.ofNat (c' + 1)) + (-1 : Int32))), .val (.int (0 : Int32)), s9, .val (.int y)]) own_d6_144 rfl rfl rfl rfl ?_
        rw [show ((Int32.ofNat (c' + 1)) + (-1 : Int32)) = (Int32.ofNat c') from own_decn _]
        refine OGo.iload K (pc' := 149) own_d6_147 rfl rfl ?_
        refine OGo.getS K (pc' := 152) (host := "") (Or.inl (hw _ (List.mem_of_getElem? (i := 50) rfl))) Via.refl (D1.keep Kp (allS g_b all0)).1.sta own_d6_149 rfl ?_
        refine OGo.iload K (pc' := 154) own_d6_152 rfl rfl ?_
        refine OGo.ineg K (pc' := 155) own_d6_154 rfl ?_
        refine OGo.baload K (pc' := 156) (v := (.int (own_iv (u1.getD ((-y)).toNatClampNeg (.int 0))))) (D1.keep Kp (allS g_b all0)).2.1 hn (own_dg (D1.keep Kp (allS g_b all0)).2.1 hn) own_d6_155 rfl ?_
        refine OGo.bastore K (pc' := 157) (i := c') Vu ⟨(own_s32 (n := c') (by omega)).2.1, (own_slt (n := c') (N := k) (by omega) (by omega)).mpr (by omega)⟩ (own_s32 (n := c') (by omega)).2.2 (by omega) g_b own_d6_156 rfl ?_
        intro h1 W1 Vu_1
        have Z1 : n0 ≤ h1.size := by rw [W1.size]; exact Zh
        have Kp1 : Keep h0 h1 [b] := Kp.wr W1 (Or.inl (List.mem_of_getElem? (i := 0) rfl))
        refine OGo.iload K (pc' := 159) own_d6_157 rfl rfl ?_
        refine OGo.bipush K (pc' := 161) (z := (-9)) own_d6_159 rfl rfl ?_
        refine OGo.icmpGe K (pc' := 164) (pcY := 178) own_d6_161 rfl (by decide) rfl (fun ht => ?_) (fun ht => ?_)
        · skip
          refine OGo.iload K (pc' := 180) own_d6_178 rfl rfl ?_
          refine OGo.ifEq K (pc' := 183) (pcY := 192) own_d6_180 rfl (by decide) rfl (fun hc180 => ?_) (fun hc180 => absurd (rfl : (0 : Int32) = (0 : Int32)) hc180)
          refine OGo.iload K (pc' := 194) own_d6_192 rfl rfl ?_
          exact OGo.iret K own_d6_194 (by decide) (by decide) ⟨_, rfl, ⟨_, rfl⟩, Kp1, _, Vu_1⟩
        · skip
          have ht' : 10 ≤ mm := by rw [Int32.lt_iff_toInt_lt, hy, show (-9 : Int32).toInt = -9 from rfl] at ht; omega
          obtain ⟨c'', rfl⟩ : ∃ c'', c' = c'' + 1 := ⟨c' - 1, by have := own_pw2 m2 ht'; omega⟩
          refine OGo.aloadN K (pc' := 165) own_d6_164 rfl rfl rfl ?_
          refine OGo.iinc K (pc' := 168) (z := (-1)) (Ls' := #[.val (.long x), .second, .val (.int (Int32.ofNat k)), .val (.ref b), s4, s5, s6, .val (.int ((Int32.ofNat (c'' + 1)) + (-1 : Int32))), .val (.int (0 : Int32)), s9, .val (.int y)]) own_d6_165 rfl rfl rfl rfl ?_
          rw [show ((Int32.ofNat (c'' + 1)) + (-1 : Int32)) = (Int32.ofNat c'') from own_decn _]
          refine OGo.iload K (pc' := 170) own_d6_168 rfl rfl ?_
          refine OGo.getS K (pc' := 173) (host := "") (Or.inl (hw _ (List.mem_of_getElem? (i := 94) rfl))) Via.refl (D2.keep Kp1 (allS g_b all0)).1.sta own_d6_170 rfl ?_
          refine OGo.iload K (pc' := 175) own_d6_173 rfl rfl ?_
          refine OGo.ineg K (pc' := 176) own_d6_175 rfl ?_
          refine OGo.baload K (pc' := 177) (v := (.int (own_iv (u2.getD ((-y)).toNatClampNeg (.int 0))))) (D2.keep Kp1 (allS g_b all0)).2.1 hn (own_dg (D2.keep Kp1 (allS g_b all0)).2.1 hn) own_d6_176 rfl ?_
          refine OGo.bastore K (pc' := 178) (i := c'') Vu_1 ⟨(own_s32 (n := c'') (by omega)).2.1, (own_slt (n := c'') (N := k) (by omega) (by omega)).mpr (by omega)⟩ (own_s32 (n := c'') (by omega)).2.2 (by rw [List.length_set]; omega) g_b own_d6_177 rfl ?_
          intro h2 W2 Vu_2
          have Z2 : n0 ≤ h2.size := by rw [W2.size]; exact Z1
          have Kp2 : Keep h0 h2 [b] := Kp1.wr W2 (Or.inl (List.mem_of_getElem? (i := 0) rfl))
          refine OGo.iload K (pc' := 180) own_d6_178 rfl rfl ?_
          refine OGo.ifEq K (pc' := 183) (pcY := 192) own_d6_180 rfl (by decide) rfl (fun hc180 => ?_) (fun hc180 => absurd (rfl : (0 : Int32) = (0 : Int32)) hc180)
          refine OGo.iload K (pc' := 194) own_d6_192 rfl rfl ?_
          exact OGo.iret K own_d6_194 (by decide) (by decide) ⟨_, rfl, ⟨_, rfl⟩, Kp2, _, Vu_2⟩
      · skip
        have hq' : 100 ≤ mm := by rw [Int32.lt_iff_toInt_lt, hy, show (-100 : Int32).toInt = -100 from rfl] at hq; omega
        obtain ⟨c', rfl⟩ : ∃ c', c = c' + 1 + 1 := ⟨c - 2, by have := own_pw2 m2 (by omega); omega⟩
        obtain ⟨r1, r2⟩ := own_r2 hy m1
        have hn := own_i100 r1
        refine OGo.iload K (pc' := 95) own_d6_93 rfl rfl ?_
        refine OGo.bipush K (pc' := 97) (z := 100) own_d6_95 rfl rfl ?_
        refine OGo.idiv K (pc' := 98) own_d6_97 rfl (by decide) ?_
        refine OGo.istore K (pc' := 100) (Ls' := #[.val (.long x), .second, .val (.int (Int32.ofNat k)), .val (.ref b), s4, s5, s6, .val (.int (Int32.ofNat (c' + 1 + 1))), .val (.int (0 : Int32)), .val (.int (y / (100 : Int32))), .val (.int y)]) own_d6_98 rfl ((XS.store1 rfl h9_ rfl).trans rfl) ?_
        refine OGo.iload K (pc' := 102) own_d6_100 rfl rfl ?_
        refine OGo.bipush K (pc' := 104) (z := 100) own_d6_102 rfl rfl ?_
        refine OGo.imul K (pc' := 105) own_d6_104 rfl ?_
        refine OGo.iload K (pc' := 107) own_d6_105 rfl rfl ?_
        refine OGo.isub K (pc' := 108) own_d6_107 rfl ?_
        refine OGo.istore K (pc' := 110) (Ls' := #[.val (.long x), .second, .val (.int (Int32.ofNat k)), .val (.ref b), s4, s5, .val (.int (((y / (100 : Int32)) * (100 : Int32)) - y)), .val (.int (Int32.ofNat (c' + 1 + 1))), .val (.int (0 : Int32)), .val (.int (y / (100 : Int32))), .val (.int y)]) own_d6_108 rfl ((XS.store1 rfl h6_ rfl).trans rfl) ?_
        refine OGo.iload K (pc' := 112) own_d6_110 rfl rfl ?_
        refine OGo.istore K (pc' := 114) (Ls' := #[.val (.long x), .second, .val (.int (Int32.ofNat k)), .val (.ref b), s4, s5, .val (.int (((y / (100 : Int32)) * (100 : Int32)) - y)), .val (.int (Int32.ofNat (c' + 1 + 1))), .val (.int (0 : Int32)), .val (.int (y / (100 : Int32))), .val (.int (y / (100 : Int32)))]) own_d6_112 rfl rfl ?_
        refine OGo.aloadN K (pc' := 115) own_d6_114 rfl rfl rfl ?_
        refine OGo.iinc K (pc' := 118) (z := (-1)) (Ls' := #[.val (.long x), .second, .val (.int (Int32.ofNat k)), .val (.ref b), s4, s5, .val (.int (((y / (100 : Int32)) * (100 : Int32)) - y)), .val (.int ((Int32.ofNat (c' + 1 + 1)) + (-1 : Int32))), .val (.int (0 : Int32)), .val (.int (y / (100 : Int32))), .val (.int (y / (100 : Int32)))]) own_d6_115 rfl rfl rfl rfl ?_
        rw [show ((Int32.ofNat (c' + 1 + 1)) + (-1 : Int32)) = (Int32.ofNat (c' + 1)) from own_decn _]
        refine OGo.iload K (pc' := 120) own_d6_118 rfl rfl ?_
        refine OGo.getS K (pc' := 123) (host := "") (Or.inl (hw _ (List.mem_of_getElem? (i := 50) rfl))) Via.refl (D1.keep Kp (allS g_b all0)).1.sta own_d6_120 rfl ?_
        refine OGo.iload K (pc' := 125) own_d6_123 rfl rfl ?_
        refine OGo.baload K (pc' := 126) (v := (.int (own_iv (u1.getD ((((y / (100 : Int32)) * (100 : Int32)) - y)).toNatClampNeg (.int 0))))) (D1.keep Kp (allS g_b all0)).2.1 hn (own_dg (D1.keep Kp (allS g_b all0)).2.1 hn) own_d6_125 rfl ?_
        refine OGo.bastore K (pc' := 127) (i := (c' + 1)) Vu ⟨(own_s32 (n := (c' + 1)) (by omega)).2.1, (own_slt (n := (c' + 1)) (N := k) (by omega) (by omega)).mpr (by omega)⟩ (own_s32 (n := (c' + 1)) (by omega)).2.2 (by omega) g_b own_d6_126 rfl ?_
        intro h3 W3 Vu_3
        have Z3 : n0 ≤ h3.size := by rw [W3.size]; exact Zh
        have Kp3 : Keep h0 h3 [b] := Kp.wr W3 (Or.inl (List.mem_of_getElem? (i := 0) rfl))
        refine OGo.aloadN K (pc' := 128) own_d6_127 rfl rfl rfl ?_
        refine OGo.iinc K (pc' := 131) (z := (-1)) (Ls' := #[.val (.long x), .second, .val (.int (Int32.ofNat k)), .val (.ref b), s4, s5, .val (.int (((y / (100 : Int32)) * (100 : Int32)) - y)), .val (.int ((Int32.ofNat (c' + 1)) + (-1 : Int32))), .val (.int (0 : Int32)), .val (.int (y / (100 : Int32))), .val (.int (y / (100 : Int32)))]) own_d6_128 rfl rfl rfl rfl ?_
        rw [show ((Int32.ofNat (c' + 1)) + (-1 : Int32)) = (Int32.ofNat c') from own_decn _]
        refine OGo.iload K (pc' := 133) own_d6_131 rfl rfl ?_
        refine OGo.getS K (pc' := 136) (host := "") (Or.inl (hw _ (List.mem_of_getElem? (i := 94) rfl))) Via.refl (D2.keep Kp3 (allS g_b all0)).1.sta own_d6_133 rfl ?_
        refine OGo.iload K (pc' := 138) own_d6_136 rfl rfl ?_
        refine OGo.baload K (pc' := 139) (v := (.int (own_iv (u2.getD ((((y / (100 : Int32)) * (100 : Int32)) - y)).toNatClampNeg (.int 0))))) (D2.keep Kp3 (allS g_b all0)).2.1 hn (own_dg (D2.keep Kp3 (allS g_b all0)).2.1 hn) own_d6_138 rfl ?_
        refine OGo.bastore K (pc' := 140) (i := c') Vu_3 ⟨(own_s32 (n := c') (by omega)).2.1, (own_slt (n := c') (N := k) (by omega) (by omega)).mpr (by omega)⟩ (own_s32 (n := c') (by omega)).2.2 (by rw [List.length_set]; omega) g_b own_d6_139 rfl ?_
        intro h4 W4 Vu_4
        have Z4 : n0 ≤ h4.size := by rw [W4.size]; exact Z3
        have Kp4 : Keep h0 h4 [b] := Kp3.wr W4 (Or.inl (List.mem_of_getElem? (i := 0) rfl))
        refine OGo.goto K (pc' := 86) own_d6_140 (by decide) rfl ?_
        exact ih c' (mm / 100) x _ s4 s5 _ _ (One.val rfl) (One.val rfl) _ _ Z4 Vu_4 (by rw [List.length_set, List.length_set]; exact lu) Kp4 (by omega) (by omega) r2 (by omega) (own_pwd m2)
  have loop1 : ∀ (d c' mm : Nat) (x q : Int64) (t : Int32) (h : Heap) (us : List Value) (Zh : n0 ≤ h.size) (Vu : Arv Z h b kb .byte (Int32.ofNat k) us (.int 0)) (lu : us.length = k) (Kp : Keep h0 h [b]) (hc : c' ≤ d) (hck : c' ≤ k) (hx : x.toInt = -(mm : Int)) (m1 : 1 ≤ mm) (m2 : mm < 10 ^ c'), OGo p l e ({ frames := 0, cells := 0, slots := 0, locals := 0 } : Room) s m #[(.long v), (.int (Int32.ofNat k)), (.ref b)] below meth c n0 (OV fun w h => (∃ z, w = .int z) ∧ Keep h0 h [b] ∧ ∃ us, Arv Z h b kb .byte (Int32.ofNat k) us (.int 0)) h 0 0 24 #[.val (.long x), .second, .val (.int (Int32.ofNat k)), .val (.ref b), .val (.long q), .second, .val (.int t), .val (.int (Int32.ofNat c')), .val (.int (0 : Int32)), .unset, .unset] [] := by
    clear hx
    intro d
    induction d with
    | zero =>
      intro c' mm x q t h us Zh Vu lu Kp hc hck hx m1 m2
      exact absurd (own_pw1 m2 m1) (by omega)
    | succ d ih =>
      intro c mm x q t h us Zh Vu lu Kp hc hck hx m1 m2
      refine OGo.lloadN K (pc' := 25) own_d6_24 rfl rfl ?_
      refine OGo.ldcJ K (pc' := 28) (v := (-2147483648)) (hw _ (List.mem_of_getElem? (i := 49) rfl)) own_d6_25 rfl ?_
      refine OGo.lcmpGt K (pc' := 32) (pcY := 82) own_d6_28 rfl own_d6_29 rfl (by decide) rfl (fun hq => ?_) (fun hq => ?_)
      · skip
        have hq' : mm < 2147483648 := by rw [Int64.lt_iff_toInt_lt, hx, show (-2147483648 : Int64).toInt = -2147483648 from rfl] at hq; omega
        refine OGo.lloadN K (pc' := 83) own_d6_82 rfl rfl ?_
        refine OGo.l2i K (pc' := 84) own_d6_83 rfl ?_
        refine OGo.istore K (pc' := 86) (Ls' := #[.val (.long x), .second, .val (.int (Int32.ofNat k)), .val (.ref b), .val (.long q), .second, .val (.int t), .val (.int (Int32.ofNat c)), .val (.int (0 : Int32)), .unset, .val (.int (x.toInt32))]) own_d6_84 rfl rfl ?_
        exact loop2 c c mm x (x).toInt32 _ _ _ _ (One.val rfl) One.u _ _ Zh Vu lu Kp (Nat.le_refl _) hck (by have q1 := c_l2i x; have q2 := rng32 (x).toInt32; rw [hx] at q1; omega) m1 m2
      · skip
        have hq' : 2147483648 ≤ mm := by rw [Int64.lt_iff_toInt_lt, hx, show (-2147483648 : Int64).toInt = -2147483648 from rfl] at hq; omega
        obtain ⟨c', rfl⟩ : ∃ c', c = c' + 1 + 1 := ⟨c - 2, by have := own_pw2 m2 (by omega); omega⟩
        obtain ⟨r1, r2⟩ := own_r1 hx m1
        have hn := own_i100 r1
        refine OGo.lloadN K (pc' := 33) own_d6_32 rfl rfl ?_
        refine OGo.ldcJ K (pc' := 36) (v := 100) (hw _ (List.mem_of_getElem? (i := 95) rfl)) own_d6_33 rfl ?_
        refine OGo.ldiv K (pc' := 37) own_d6_36 rfl (by decide) ?_
        refine OGo.lstore K (pc' := 39) (Ls' := #[.val (.long x), .second, .val (.int (Int32.ofNat k)), .val (.ref b), .val (.long (x / (100 : Int64))), .second, .val (.int t), .val (.int (Int32.ofNat (c' + 1 + 1))), .val (.int (0 : Int32)), .unset, .unset]) own_d6_37 rfl rfl ?_
        refine OGo.lload K (pc' := 41) own_d6_39 rfl rfl ?_
        refine OGo.ldcJ K (pc' := 44) (v := 100) (hw _ (List.mem_of_getElem? (i := 95) rfl)) own_d6_41 rfl ?_
        refine OGo.lmul K (pc' := 45) own_d6_44 rfl ?_
        refine OGo.lloadN K (pc' := 46) own_d6_45 rfl rfl ?_
        refine OGo.lsub K (pc' := 47) own_d6_46 rfl ?_
        refine OGo.l2i K (pc' := 48) own_d6_47 rfl ?_
        refine OGo.istore K (pc' := 50) (Ls' := #[.val (.long x), .second, .val (.int (Int32.ofNat k)), .val (.ref b), .val (.long (x / (100 : Int64))), .second, .val (.int ((((x / (100 : Int64)) * (100 : Int64)) - x).toInt32)), .val (.int (Int32.ofNat (c' + 1 + 1))), .val (.int (0 : Int32)), .unset, .unset]) own_d6_48 rfl rfl ?_
        refine OGo.lload K (pc' := 52) own_d6_50 rfl rfl ?_
        refine OGo.lstoreN K (pc' := 53) (Ls' := #[.val (.long (x / (100 : Int64))), .second, .val (.int (Int32.ofNat k)), .val (.ref b), .val (.long (x / (100 : Int64))), .second, .val (.int ((((x / (100 : Int64)) * (100 : Int64)) - x).toInt32)), .val (.int (Int32.ofNat (c' + 1 + 1))), .val (.int (0 : Int32)), .unset, .unset]) own_d6_52 rfl rfl ?_
        refine OGo.aloadN K (pc' := 54) own_d6_53 rfl rfl rfl ?_
        refine OGo.iinc K (pc' := 57) (z := (-1)) (Ls' := #[.val (.long (x / (100 : Int64))), .second, .val (.int (Int32.ofNat k)), .val (.ref b), .val (.long (x / (100 : Int64))), .second, .val (.int ((((x / (100 : Int64)) * (100 : Int64)) - x).toInt32)), .val (.int ((Int32.ofNat (c' + 1 + 1)) + (-1 : Int32))), .val (.int (0 : Int32)), .unset, .unset]) own_d6_54 rfl rfl rfl rfl ?_
        rw [show ((Int32.ofNat (c' + 1 + 1)) + (-1 : Int32)) = (Int32.ofNat (c' + 1)) from own_decn _]
        refine OGo.iload K (pc' := 59) own_d6_57 rfl rfl ?_
        refine OGo.getS K (pc' := 62) (host := "") (Or.inl (hw _ (List.mem_of_getElem? (i := 50) rfl))) Via.refl (D1.keep Kp (allS g_b all0)).1.sta own_d6_59 rfl ?_
        refine OGo.iload K (pc' := 64) own_d6_62 rfl rfl ?_
        refine OGo.baload K (pc' := 65) (v := (.int (own_iv (u1.getD (((((x / (100 : Int64)) * (100 : Int64)) - x).toInt32)).toNatClampNeg (.int 0))))) (D1.keep Kp (allS g_b all0)).2.1 hn (own_dg (D1.keep Kp (allS g_b all0)).2.1 hn) own_d6_64 rfl ?_
        refine OGo.bastore K (pc' := 66) (i := (c' + 1)) Vu ⟨(own_s32 (n := (c' + 1)) (by omega)).2.1, (own_slt (n := (c' + 1)) (N := k) (by omega) (by omega)).mpr (by omega)⟩ (own_s32 (n := (c' + 1)) (by omega)).2.2 (by omega) g_b own_d6_65 rfl ?_
        intro h5 W5 Vu_5
        have Z5 : n0 ≤ h5.size := by rw [W5.size]; exact Zh
        have Kp5 : Keep h0 h5 [b] := Kp.wr W5 (Or.inl (List.mem_of_getElem? (i := 0) rfl))
        refine OGo.aloadN K (pc' := 67) own_d6_66 rfl rfl rfl ?_
        refine OGo.iinc K (pc' := 70) (z := (-1)) (Ls' := #[.val (.long (x / (100 : Int64))), .second, .val (.int (Int32.ofNat k)), .val (.ref b), .val (.long (x / (100 : Int64))), .second, .val (.int ((((x / (100 : Int64)) * (100 : Int64)) - x).toInt32)), .val (.int ((Int32.ofNat (c' + 1)) + (-1 : Int32))), .val (.int (0 : Int32)), .unset, .unset]) own_d6_67 rfl rfl rfl rfl ?_
        rw [show ((Int32.ofNat (c' + 1)) + (-1 : Int32)) = (Int32.ofNat c') from own_decn _]
        refine OGo.iload K (pc' := 72) own_d6_70 rfl rfl ?_
        refine OGo.getS K (pc' := 75) (host := "") (Or.inl (hw _ (List.mem_of_getElem? (i := 94) rfl))) Via.refl (D2.keep Kp5 (allS g_b all0)).1.sta own_d6_72 rfl ?_
        refine OGo.iload K (pc' := 77) own_d6_75 rfl rfl ?_
        refine OGo.baload K (pc' := 78) (v := (.int (own_iv (u2.getD (((((x / (100 : Int64)) * (100 : Int64)) - x).toInt32)).toNatClampNeg (.int 0))))) (D2.keep Kp5 (allS g_b all0)).2.1 hn (own_dg (D2.keep Kp5 (allS g_b all0)).2.1 hn) own_d6_77 rfl ?_
        refine OGo.bastore K (pc' := 79) (i := c') Vu_5 ⟨(own_s32 (n := c') (by omega)).2.1, (own_slt (n := c') (N := k) (by omega) (by omega)).mpr (by omega)⟩ (own_s32 (n := c') (by omega)).2.2 (by rw [List.length_set]; omega) g_b own_d6_78 rfl ?_
        intro h6 W6 Vu_6
        have Z6 : n0 ≤ h6.size := by rw [W6.size]; exact Z5
        have Kp6 : Keep h0 h6 [b] := Kp5.wr W6 (Or.inl (List.mem_of_getElem? (i := 0) rfl))
        refine OGo.goto K (pc' := 24) own_d6_79 (by decide) rfl ?_
        exact ih c' (mm / 100) _ _ _ _ _ Z6 Vu_6 (by rw [List.length_set, List.length_set]; exact lu) Kp6 (by omega) (by omega) r2 (by omega) (own_pwd m2)
  refine OGo.iloadN K (pc' := 1) own_d6_0 rfl rfl ?_
  refine OGo.istore K (pc' := 3) (Ls' := #[.val (.long v), .second, .val (.int (Int32.ofNat k)), .val (.ref b), .unset, .unset, .unset, .val (.int (Int32.ofNat k)), .unset, .unset, .unset]) own_d6_1 rfl rfl ?_
  refine OGo.lloadN K (pc' := 4) own_d6_3 rfl rfl ?_
  refine OGo.lconst K (pc' := 5) (z := 0) own_d6_4 rfl rfl ?_
  refine OGo.lcmpGe K (pc' := 9) (pcY := 13) own_d6_5 rfl own_d6_6 rfl (by decide) rfl (fun hc5 => ?_) (fun hc5 => absurd hc5 ((by rw [Int64.lt_iff_toInt_lt, hv, show (0 : Int64).toInt = 0 from rfl]; omega) : ¬ v < (0 : Int64)))
  refine OGo.iconst K (pc' := 14) (z := 0) own_d6_13 rfl rfl ?_
  refine OGo.istore K (pc' := 16) (Ls' := #[.val (.long v), .second, .val (.int (Int32.ofNat k)), .val (.ref b), .unset, .unset, .unset, .val (.int (Int32.ofNat k)), .val (.int (0 : Int32)), .unset, .unset]) own_d6_14 rfl rfl ?_
  refine OGo.iload K (pc' := 18) own_d6_16 rfl rfl ?_
  refine OGo.ifNe K (pc' := 21) (pcY := 24) own_d6_18 rfl (by decide) rfl (fun hc18 => absurd (rfl : (0 : Int32) = (0 : Int32)) hc18) (fun hc18 => ?_)
  refine OGo.lloadN K (pc' := 22) own_d6_21 rfl rfl ?_
  refine OGo.lneg K (pc' := 23) own_d6_22 rfl ?_
  refine OGo.lstoreN K (pc' := 24) (Ls' := #[.val (.long (-v)), .second, .val (.int (Int32.ofNat k)), .val (.ref b), .unset, .unset, .unset, .val (.int (Int32.ofNat k)), .val (.int (0 : Int32)), .unset, .unset]) own_d6_23 rfl rfl ?_
  have Vu := Vb
  have lu := l0
  refine OGo.lloadN K (pc' := 25) own_d6_24 rfl rfl ?_
  refine OGo.ldcJ K (pc' := 28) (v := (-2147483648)) (hw _ (List.mem_of_getElem? (i := 49) rfl)) own_d6_25 rfl ?_
  refine OGo.lcmpGt K (pc' := 32) (pcY := 82) own_d6_28 rfl own_d6_29 rfl (by decide) rfl (fun hq => ?_) (fun hq => ?_)
  · skip
    have hq' : r < 2147483648 := by rw [Int64.lt_iff_toInt_lt, hx, show (-2147483648 : Int64).toInt = -2147483648 from rfl] at hq; omega
    refine OGo.lloadN K (pc' := 83) own_d6_82 rfl rfl ?_
    refine OGo.l2i K (pc' := 84) own_d6_83 rfl ?_
    refine OGo.istore K (pc' := 86) (Ls' := #[.val (.long (-v)), .second, .val (.int (Int32.ofNat k)), .val (.ref b), .unset, .unset, .unset, .val (.int (Int32.ofNat k)), .val (.int (0 : Int32)), .unset, .val (.int ((-v).toInt32))]) own_d6_84 rfl rfl ?_
    exact loop2 k k r (-v) ((-v)).toInt32 _ _ _ _ One.u One.u _ _ Z0 Vb l0 (Keep.refl h0 [b]) (Nat.le_refl _) (Nat.le_refl _) (by have q1 := c_l2i (-v); have q2 := rng32 ((-v)).toInt32; rw [hx] at q1; omega) hr1 hk
  · skip
    have hq' : 2147483648 ≤ r := by rw [Int64.lt_iff_toInt_lt, hx, show (-2147483648 : Int64).toInt = -2147483648 from rfl] at hq; omega
    obtain ⟨c', ec⟩ : ∃ c', k = c' + 1 + 1 := ⟨k - 2, by have := own_pw2 hk (by omega); omega⟩
    have m2 := hk
    rw [ec] at m2
    obtain ⟨r1, r2⟩ := own_r1 hx hr1
    have hn := own_i100 r1
    refine OGo.lloadN K (pc' := 33) own_d6_32 rfl rfl ?_
    refine OGo.ldcJ K (pc' := 36) (v := 100) (hw _ (List.mem_of_getElem? (i := 95) rfl)) own_d6_33 rfl ?_
    refine OGo.ldiv K (pc' := 37) own_d6_36 rfl (by decide) ?_
    refine OGo.lstore K (pc' := 39) (Ls' := #[.val (.long (-v)), .second, .val (.int (Int32.ofNat k)), .val (.ref b), .val (.long ((-v) / (100 : Int64))), .second, .unset, .val (.int (Int32.ofNat k)), .val (.int (0 : Int32)), .unset, .unset]) own_d6_37 rfl rfl ?_
    refine OGo.lload K (pc' := 41) own_d6_39 rfl rfl ?_
    refine OGo.ldcJ K (pc' := 44) (v := 100) (hw _ (List.mem_of_getElem? (i := 95) rfl)) own_d6_41 rfl ?_
    refine OGo.lmul K (pc' := 45) own_d6_44 rfl ?_
    refine OGo.lloadN K (pc' := 46) own_d6_45 rfl rfl ?_
    refine OGo.lsub K (pc' := 47) own_d6_46 rfl ?_
    refine OGo.l2i K (pc' := 48) own_d6_47 rfl ?_
    refine OGo.istore K (pc' := 50) (Ls' := #[.val (.long (-v)), .second, .val (.int (Int32.ofNat k)), .val (.ref b), .val (.long ((-v) / (100 : Int64))), .second, .val (.int (((((-v) / (100 : Int64)) * (100 : Int64)) - (-v)).toInt32)), .val (.int (Int32.ofNat k)), .val (.int (0 : Int32)), .unset, .unset]) own_d6_48 rfl rfl ?_
    refine OGo.lload K (pc' := 52) own_d6_50 rfl rfl ?_
    refine OGo.lstoreN K (pc' := 53) (Ls' := #[.val (.long ((-v) / (100 : Int64))), .second, .val (.int (Int32.ofNat k)), .val (.ref b), .val (.long ((-v) / (100 : Int64))), .second, .val (.int (((((-v) / (100 : Int64)) * (100 : Int64)) - (-v)).toInt32)), .val (.int (Int32.ofNat k)), .val (.int (0 : Int32)), .unset, .unset]) own_d6_52 rfl rfl ?_
    refine OGo.aloadN K (pc' := 54) own_d6_53 rfl rfl rfl ?_
    refine OGo.iinc K (pc' := 57) (z := (-1)) (Ls' := #[.val (.long ((-v) / (100 : Int64))), .second, .val (.int (Int32.ofNat k)), .val (.ref b), .val (.long ((-v) / (100 : Int64))), .second, .val (.int (((((-v) / (100 : Int64)) * (100 : Int64)) - (-v)).toInt32)), .val (.int ((Int32.ofNat k) + (-1 : Int32))), .val (.int (0 : Int32)), .unset, .unset]) own_d6_54 rfl rfl rfl rfl ?_
    rw [show ((Int32.ofNat k) + (-1 : Int32)) = (Int32.ofNat (c' + 1)) from (by rw [ec]; exact own_decn _)]
    refine OGo.iload K (pc' := 59) own_d6_57 rfl rfl ?_
    refine OGo.getS K (pc' := 62) (host := "") (Or.inl (hw _ (List.mem_of_getElem? (i := 50) rfl))) Via.refl (D1.keep (Keep.refl h0 [b]) (allS g_b all0)).1.sta own_d6_59 rfl ?_
    refine OGo.iload K (pc' := 64) own_d6_62 rfl rfl ?_
    refine OGo.baload K (pc' := 65) (v := (.int (own_iv (u1.getD ((((((-v) / (100 : Int64)) * (100 : Int64)) - (-v)).toInt32)).toNatClampNeg (.int 0))))) (D1.keep (Keep.refl h0 [b]) (allS g_b all0)).2.1 hn (own_dg (D1.keep (Keep.refl h0 [b]) (allS g_b all0)).2.1 hn) own_d6_64 rfl ?_
    refine OGo.bastore K (pc' := 66) (i := (c' + 1)) Vu ⟨(own_s32 (n := (c' + 1)) (by omega)).2.1, (own_slt (n := (c' + 1)) (N := k) (by omega) (by omega)).mpr (by omega)⟩ (own_s32 (n := (c' + 1)) (by omega)).2.2 (by omega) g_b own_d6_65 rfl ?_
    intro h7 W7 Vu_7
    have Z7 : n0 ≤ h7.size := by rw [W7.size]; exact Z0
    have Kp7 : Keep h0 h7 [b] := (Keep.refl h0 [b]).wr W7 (Or.inl (List.mem_of_getElem? (i := 0) rfl))
    refine OGo.aloadN K (pc' := 67) own_d6_66 rfl rfl rfl ?_
    refine OGo.iinc K (pc' := 70) (z := (-1)) (Ls' := #[.val (.long ((-v) / (100 : Int64))), .second, .val (.int (Int32.ofNat k)), .val (.ref b), .val (.long ((-v) / (100 : Int64))), .second, .val (.int (((((-v) / (100 : Int64)) * (100 : Int64)) - (-v)).toInt32)), .val (.int ((Int32.ofNat (c' + 1)) + (-1 : Int32))), .val (.int (0 : Int32)), .unset, .unset]) own_d6_67 rfl rfl rfl rfl ?_
    rw [show ((Int32.ofNat (c' + 1)) + (-1 : Int32)) = (Int32.ofNat c') from own_decn _]
    refine OGo.iload K (pc' := 72) own_d6_70 rfl rfl ?_
    refine OGo.getS K (pc' := 75) (host := "") (Or.inl (hw _ (List.mem_of_getElem? (i := 94) rfl))) Via.refl (D2.keep Kp7 (allS g_b all0)).1.sta own_d6_72 rfl ?_
    refine OGo.iload K (pc' := 77) own_d6_75 rfl rfl ?_
    refine OGo.baload K (pc' := 78) (v := (.int (own_iv (u2.getD ((((((-v) / (100 : Int64)) * (100 : Int64)) - (-v)).toInt32)).toNatClampNeg (.int 0))))) (D2.keep Kp7 (allS g_b all0)).2.1 hn (own_dg (D2.keep Kp7 (allS g_b all0)).2.1 hn) own_d6_77 rfl ?_
    refine OGo.bastore K (pc' := 79) (i := c') Vu_7 ⟨(own_s32 (n := c') (by omega)).2.1, (own_slt (n := c') (N := k) (by omega) (by omega)).mpr (by omega)⟩ (own_s32 (n := c') (by omega)).2.2 (by rw [List.length_set]; omega) g_b own_d6_78 rfl ?_
    intro h8 W8 Vu_8
    have Z8 : n0 ≤ h8.size := by rw [W8.size]; exact Z7
    have Kp8 : Keep h0 h8 [b] := Kp7.wr W8 (Or.inl (List.mem_of_getElem? (i := 0) rfl))
    refine OGo.goto K (pc' := 24) own_d6_79 (by decide) rfl ?_
    exact loop1 c' c' (r / 100) _ _ _ _ _ Z8 Vu_8 (by rw [List.length_set, List.length_set]; exact lu) Kp8 (by omega) (by omega) r2 (by omega) (own_pwd m2)
set_option maxRecDepth 65536 in
set_option maxHeartbeats 40000000 in
theorem own_rm7 (l : Launch) (Z : State) (a0 : Array Value) (hw : ∀ d ∈ tables_1, d.before a0 Z = true) (s' b : Addr) (u1 u2 : Value) (h0 : Heap) (n0 : Nat) (Z0 : n0 ≤ h0.size) (E : Exa Z h0 s' "java/lang/String") (F1 : Fld Z h0 s' "java/lang/String" "value" "[B" u1) (F2 : Fld Z h0 s' "java/lang/String" "coder" "B" u2) (g_s' : n0 ≤ s') :
    OCon l Z n0 (⟨"java/lang/String", "<init>", "([BB)V"⟩ : MethodName) jdk_42_method_151_code 3 none [] ({ frames := 1, cells := 0, slots := 0, locals := 12 } : Room) #[(.ref s'), (.ref b), (.int 0)] h0 (ON fun h => Keep h0 h [s'] ∧ Exa Z h s' "java/lang/String" ∧ Fld Z h s' "java/lang/String" "value" "[B" (.ref b) ∧ Fld Z h s' "java/lang/String" "coder" "B" (.int 0)) := by
  refine OCon.of (Ls := #[.val (.ref s'), .val (.ref b), .val (.int 0)]) (plainFor_of_name own_pn_7) (fun m => own_entry m rfl) ?_
  intro p e s m below meth c K
  refine OGo.aloadN K (pc' := 1) own_d7_0 rfl rfl rfl ?_
  refine OGo.initO K (pc' := 4) (W := 0) (hw _ (List.mem_of_getElem? (i := 58) rfl)) (hw _ (List.mem_of_getElem? (i := 33) rfl)) (hw _ (List.mem_of_getElem? (i := 34) rfl)) own_d7_1 rfl rfl (by show 2 * 0 + _ ≤ _; exact Nat.le_of_eq rfl) (by decide) (by decide) ?_
  refine OGo.aloadN K (pc' := 5) own_d7_4 rfl rfl rfl ?_
  refine OGo.aloadN K (pc' := 6) own_d7_5 rfl rfl rfl ?_
  refine OGo.putF K (pc' := 9) (host := "") (Or.inl (hw _ (List.mem_of_getElem? (i := 59) rfl))) Via.refl F1 E (Or.inr ⟨(hw _ (List.mem_of_getElem? (i := 60) rfl)), rfl, rfl⟩) (hw _ (List.mem_of_getElem? (i := 53) rfl)) (ty := (.array .byte)) (by decide) rfl rfl g_s' own_d7_6 rfl ?_
  intro h1 W1
  have Z1 : n0 ≤ h1.size := by rw [W1.size]; exact Z0
  have Fw_value_s'_1 := F1.same W1
  have E_1 := E.wr W1
  have F2_1 := F2.other W1 (Or.inr (slot_ne (Or.inr (hw _ (List.mem_of_getElem? (i := 62) rfl))) (Or.inr (hw _ (List.mem_of_getElem? (i := 60) rfl))) (by decide) (t := .byte) (t' := (.array .byte)) (by decide) (by decide)))
  have Kp1 : Keep h0 h1 [s'] := (Keep.refl h0 [s']).wr W1 (Or.inl (List.mem_of_getElem? (i := 0) rfl))
  refine OGo.aloadN K (pc' := 10) own_d7_9 rfl rfl rfl ?_
  refine OGo.iloadN K (pc' := 11) own_d7_10 rfl rfl ?_
  refine OGo.putFN K (pc' := 14) (hw _ (List.mem_of_getElem? (i := 61) rfl)) Via.refl F2_1 E_1 (Or.inr ⟨(hw _ (List.mem_of_getElem? (i := 62) rfl)), rfl, rfl⟩) (hw _ (List.mem_of_getElem? (i := 53) rfl)) (ty := .byte) (v' := (.int (0 : Int32))) (by decide) rfl rfl g_s' own_d7_11 rfl ?_
  intro h2 W2
  have Z2 : n0 ≤ h2.size := by rw [W2.size]; exact Z1
  have Fw_coder_s'_2 := F2_1.same W2
  have E_2 := E_1.wr W2
  have Fw_value_s'_2 := Fw_value_s'_1.other W2 (Or.inr (slot_ne (Or.inr (hw _ (List.mem_of_getElem? (i := 60) rfl))) (Or.inr (hw _ (List.mem_of_getElem? (i := 62) rfl))) (by decide) (t := (.array .byte)) (t' := .byte) (by decide) (by decide)))
  have Kp2 : Keep h0 h2 [s'] := Kp1.wr W2 (Or.inl (List.mem_of_getElem? (i := 0) rfl))
  exact OGo.vret K own_d7_14 (by decide) (by decide) ⟨rfl, Kp2, E_2, Fw_value_s'_2, Fw_coder_s'_2⟩
set_option maxRecDepth 65536 in
set_option maxHeartbeats 40000000 in
theorem own_rm9 (l : Launch) (Z : State) (a0 : Array Value) (hw : ∀ d ∈ tables_1, d.before a0 Z = true) (s' : Addr) (cz : Int32) (h0 : Heap) (n0 : Nat) (Z0 : n0 ≤ h0.size) (F2 : Fld Z h0 s' "java/lang/String" "coder" "B" (.int 0)) (Sc : OS Z n0 h0 "java/lang/String" "COMPACT_STRINGS" "Z" (.int cz)) (hcz : ¬ cz = 0) :
    OCon l Z n0 (⟨"java/lang/String", "coder", "()B"⟩ : MethodName) jdk_42_method_152_code 1 (some .byte) [] ({ frames := 0, cells := 0, slots := 0, locals := 0 } : Room) #[(.ref s')] h0 (OV fun w h => w = .int 0 ∧ h = h0) := by
  refine OCon.of (Ls := #[.val (.ref s')]) (plainFor_of_name own_pn_7) (fun m => own_entry m rfl) ?_
  intro p e s m below meth c K
  refine OGo.getS K (pc' := 3) (host := "") (Or.inl (hw _ (List.mem_of_getElem? (i := 73) rfl))) Via.refl Sc.sta own_d9_0 rfl ?_
  refine OGo.ifEq K (pc' := 6) (pcY := 13) own_d9_3 rfl (by decide) rfl (fun hc3 => absurd hc3 (hcz : ¬ cz = (0 : Int32))) (fun hc3 => ?_)
  refine OGo.aloadN K (pc' := 7) own_d9_6 rfl rfl rfl ?_
  refine OGo.getF K (pc' := 10) (host := "") (Or.inl (hw _ (List.mem_of_getElem? (i := 61) rfl))) Via.refl F2 own_d9_7 rfl ?_
  refine OGo.goto K (pc' := 14) own_d9_10 (by decide) rfl ?_
  exact OGo.nret K (by simp) own_d9_14 (by decide) (by decide) ⟨_, rfl, by decide, rfl⟩
set_option maxRecDepth 65536 in
set_option maxHeartbeats 40000000 in
theorem own_rm8 (l : Launch) (Z : State) (a0 : Array Value) (hw : ∀ d ∈ tables_1, d.before a0 Z = true) (s' b : Addr) (k : Nat) (kb : ClassId) (us : List Value) (cz : Int32) (h0 : Heap) (n0 : Nat) (Z0 : n0 ≤ h0.size) (E : Exa Z h0 s' "java/lang/String") (F1 : Fld Z h0 s' "java/lang/String" "value" "[B" (.ref b)) (F2 : Fld Z h0 s' "java/lang/String" "coder" "B" (.int 0)) (Vb : Arv Z h0 b kb .byte (Int32.ofNat k) us (.int 0)) (hk : k ≤ 19) (Sc : OS Z n0 h0 "java/lang/String" "COMPACT_STRINGS" "Z" (.int cz)) (hcz : ¬ cz = 0) :
    OCon l Z n0 (⟨"java/lang/String", "length", "()I"⟩ : MethodName) jdk_42_method_54_code 1 (some .int) [] ({ frames := 1, cells := 0, slots := 0, locals := 13 } : Room) #[(.ref s')] h0 (OV fun w h => w = .int (Int32.ofNat k) ∧ h = h0) := by
  refine OCon.of (Ls := #[.val (.ref s')]) (plainFor_of_name own_pn_7) (fun m => own_entry m rfl) ?_
  intro p e s m below meth c K
  refine OGo.aloadN K (pc' := 1) own_d8_0 rfl rfl rfl ?_
  refine OGo.getF K (pc' := 4) (host := "") (Or.inl (hw _ (List.mem_of_getElem? (i := 59) rfl))) Via.refl F1 own_d8_1 rfl ?_
  refine OGo.alen K (pc' := 5) Vb own_d8_4 rfl ?_
  refine OGo.aloadN K (pc' := 6) own_d8_5 rfl rfl rfl ?_
  refine OGo.callVV K (pc' := 9) (y := (⟨"java/lang/String", "coder", "()B"⟩ : MethodName)) (z := (⟨"java/lang/String", "coder", "()B"⟩ : MethodName)) (a := s') (W := 1) (cells' := 0) (slots' := 0) (argsL := []) (st := [(.int (Int32.ofNat k))]) E (hw _ (List.mem_of_getElem? (i := 68) rfl)) (hw _ (List.mem_of_getElem? (i := 69) rfl)) (notFace_of_selects (args := #[]) (mvT K.hZ (hw _ (List.mem_of_getElem? (i := 71) rfl)))) (hw _ (List.mem_of_getElem? (i := 71) rfl)) (hw _ (List.mem_of_getElem? (i := 70) rfl)) (hw _ (List.mem_of_getElem? (i := 44) rfl)) (hw _ (List.mem_of_getElem? (i := 72) rfl)) (by decide) (own_rm9 l Z a0 hw s' cz h0 n0 Z0 F2 Sc hcz) own_d8_6 rfl rfl (lenOf own_pd2 rfl) (by show 2 * 0 + _ ≤ _; exact Nat.le_of_eq rfl) (by decide) (by decide) rfl rfl (by decide) (by decide) ?_
  rintro _ h1 ⟨rfl, e1⟩
  rw [e1]
  show OGo p l e _ s m _ below meth c n0 _ h0 0 0 9 #[.val (.ref s')] [(.int (0 : Int32)), (.int (Int32.ofNat k))]
  refine OGo.ishr K (pc' := 10) own_d8_9 rfl ?_
  exact OGo.iret K own_d8_10 (by decide) (by decide) ⟨_, rfl, congrArg Value.int (own_sh0 hk), rfl⟩
set_option maxRecDepth 65536 in
set_option maxHeartbeats 40000000 in
theorem own_rm4 (l : Launch) (Z : State) (a0 : Array Value) (hw : ∀ d ∈ tables_1, d.before a0 Z = true) (v : Int64) (r : Nat) (cz : Int32) (d1 d2 : Addr) (k1 k2 : ClassId) (u1 u2 : List Value) (h0 : Heap) (n0 : Nat) (Z0 : n0 ≤ h0.size) (hv : v.toInt = (r : Int)) (hr1 : 1 ≤ r) (Sc : OS Z n0 h0 "java/lang/String" "COMPACT_STRINGS" "Z" (.int cz)) (hcz : ¬ cz = 0) (D1 : ODg Z n0 h0 "DigitOnes" d1 k1 u1) (D2 : ODg Z n0 h0 "DigitTens" d2 k2 u2) :
    OCon l Z n0 (⟨"java/lang/Long", "toString", "(J)Ljava/lang/String;"⟩ : MethodName) jdk_35_method_12_code 4 (some (.object "java/lang/String")) [] ({ frames := 2, cells := 2, slots := 23, locals := 27 } : Room) #[(.long v)] h0 (OV fun w h => ∃ (s' b : Addr) (k : Nat) (kb : ClassId) (us : List Value), w = .ref s' ∧ Keep h0 h [] ∧ Exa Z h s' "java/lang/String" ∧ Fld Z h s' "java/lang/String" "value" "[B" (.ref b) ∧ Fld Z h s' "java/lang/String" "coder" "B" (.int 0) ∧ Arv Z h b kb .byte (Int32.ofNat k) us (.int 0) ∧ 1 ≤ k ∧ k ≤ 19 ∧ r < 10 ^ k ∧ 10 ^ (k - 1) ≤ r) := by
  refine OCon.of (Ls := #[.val (.long v), .second, .unset, .unset]) (plainFor_of_name own_pn_5) (fun m => own_entry m rfl) ?_
  intro p e s m below meth c K
  refine OGo.lloadN K (pc' := 1) own_d4_0 rfl rfl ?_
  refine OGo.callSV K (pc' := 4) (y := (⟨"java/lang/Long", "stringSize", "(J)I"⟩ : MethodName)) (W := 0) (cells' := 0) (slots' := 0) (argsL := [(.long v)]) (st := []) (hw _ (List.mem_of_getElem? (i := 39) rfl)) (hw _ (List.mem_of_getElem? (i := 40) rfl)) (hw _ (List.mem_of_getElem? (i := 37) rfl)) (hw _ (List.mem_of_getElem? (i := 41) rfl)) (by decide) (own_rm5 l Z a0 hw v r h0 n0 Z0 hv hr1) own_d4_1 rfl rfl (lenOf own_pd3 rfl) (by show 2 * 0 + _ ≤ _; exact Nat.le_of_eq rfl) (by decide) (by decide) rfl rfl (by decide) (by decide) ?_
  rintro _ h1 ⟨⟨k, rfl, kk1, kk2, kk3, kk4⟩, e1⟩
  rw [e1]
  show OGo p l e _ s m _ below meth c n0 _ h0 0 0 4 #[.val (.long v), .second, .unset, .unset] [(.int (Int32.ofNat k))]
  refine OGo.istoreN K (pc' := 5) (Ls' := #[.val (.long v), .second, .val (.int (Int32.ofNat k)), .unset]) own_d4_4 rfl rfl ?_
  refine OGo.getS K (pc' := 8) (host := "") (Or.inl (hw _ (List.mem_of_getElem? (i := 43) rfl))) Via.refl Sc.sta own_d4_5 rfl ?_
  refine OGo.ifEq K (pc' := 11) (pcY := 32) own_d4_8 rfl (by decide) rfl (fun hc8 => absurd hc8 (hcz : ¬ cz = (0 : Int32))) (fun hc8 => ?_)
  refine OGo.iloadN K (pc' := 12) own_d4_11 rfl rfl ?_
  refine OGo.newP K (pc' := 14) (cap := 19) (cells' := 1) (slots' := 19) (hw _ (List.mem_of_getElem? (i := 45) rfl)) own_d4_12 rfl (own_s32 (n := k) (by omega)).2.1 (by rw [(own_s32 (n := k) (by omega)).2.2]; exact kk2) (by decide) rfl rfl (by decide) (by decide) ?_
  intro h2 b k_b gq2 E2 V_b
  have g_b : n0 ≤ b := Nat.le_trans Z0 (Nat.le_of_eq gq2.symm)
  have sz_b : h0.size ≤ b := Nat.le_trans (Keep.refl h0 []).1 (Nat.le_of_eq gq2.symm)
  have Z2 : n0 ≤ h2.size := Nat.le_trans Z0 E2.1
  have Kp2 : Keep h0 h2 [] := (Keep.refl h0 []).ext E2
  replace V_b := V_b.pad (pad_rep [] _ k)
  refine OGo.astoreN K (pc' := 15) (Ls' := #[.val (.long v), .second, .val (.int (Int32.ofNat k)), .val (.ref b)]) own_d4_14 rfl rfl rfl ?_
  refine OGo.lloadN K (pc' := 16) own_d4_15 rfl rfl ?_
  refine OGo.iloadN K (pc' := 17) own_d4_16 rfl rfl ?_
  refine OGo.aloadN K (pc' := 18) own_d4_17 rfl rfl rfl ?_
  refine OGo.callSV K (pc' := 21) (y := (⟨"java/lang/Long", "getChars", "(JI[B)I"⟩ : MethodName)) (W := 0) (cells' := 1) (slots' := 19) (argsL := [(.long v), (.int (Int32.ofNat k)), (.ref b)]) (st := []) (hw _ (List.mem_of_getElem? (i := 46) rfl)) (hw _ (List.mem_of_getElem? (i := 47) rfl)) (hw _ (List.mem_of_getElem? (i := 37) rfl)) (hw _ (List.mem_of_getElem? (i := 48) rfl)) (by decide) (own_rm6 l Z a0 hw v r k b _ _ d1 d2 k1 k2 u1 u2 h2 n0 Z2 hv hr1 kk3 kk2 V_b (by simp) g_b (D1.keep Kp2 all0) (D2.keep Kp2 all0)) own_d4_18 rfl rfl (lenOf own_pd4 rfl) (by show 2 * 0 + _ ≤ _; exact Nat.le_of_eq rfl) (by decide) (by decide) rfl rfl (by decide) (by decide) ?_
  rintro _ h3 ⟨⟨z, rfl⟩, K3, us, V3⟩
  have Z3 : n0 ≤ h3.size := Nat.le_trans Z2 K3.1
  have Kp3 : Keep h0 h3 [] := Kp2.trans K3 (allS (Or.inr sz_b) all0)
  show OGo p l e _ s m _ below meth c n0 _ h3 1 19 21 #[.val (.long v), .second, .val (.int (Int32.ofNat k)), .val (.ref b)] [(.int z)]
  refine OGo.pop K (pc' := 22) own_d4_21 rfl rfl ?_
  refine OGo.newO K (pc' := 25) (cells' := 2) (slots' := 23) (hw _ (List.mem_of_getElem? (i := 52) rfl)) (hw _ (List.mem_of_getElem? (i := 53) rfl)) (hw _ (List.mem_of_getElem? (i := 44) rfl)) own_d4_22 rfl rfl rfl (by decide) (by decide) ?_
  intro h4 s' gq4 E4 A4 D4
  have ne_b_s' : b ≠ s' := Nat.ne_of_lt (Nat.lt_of_lt_of_le V3.lt (Nat.le_of_eq gq4.symm))
  have g_s' : n0 ≤ s' := Nat.le_trans Z3 (Nat.le_of_eq gq4.symm)
  have sz_s' : h0.size ≤ s' := Nat.le_trans Kp3.1 (Nat.le_of_eq gq4.symm)
  have Z4 : n0 ≤ h4.size := Nat.le_trans Z3 E4.1
  have Kp4 : Keep h0 h4 [] := Kp3.ext E4
  have V3_4 := V3.ext E4
  have F_value_s' : Fld Z h4 s' "java/lang/String" "value" "[B" .null := D4 (Or.inr (hw _ (List.mem_of_getElem? (i := 60) rfl))) (ty := (.array .byte)) (by decide)
  have F_coder_s' : Fld Z h4 s' "java/lang/String" "coder" "B" (.int (0 : Int32)) := D4 (Or.inr (hw _ (List.mem_of_getElem? (i := 62) rfl))) (ty := .byte) (by decide)
  refine OGo.dup K (pc' := 26) own_d4_25 rfl rfl ?_
  refine OGo.aloadN K (pc' := 27) own_d4_26 rfl rfl rfl ?_
  refine OGo.iconst K (pc' := 28) (z := 0) own_d4_27 rfl rfl ?_
  refine OGo.callIN K (pc' := 31) (y := (⟨"java/lang/String", "<init>", "([BB)V"⟩ : MethodName)) (a := s') (W := 1) (cells' := 2) (slots' := 23) (argsL := [(.ref b), (.int (0 : Int32))]) (st := [(.ref s')]) rfl (hw _ (List.mem_of_getElem? (i := 54) rfl)) (hw _ (List.mem_of_getElem? (i := 55) rfl)) (hw _ (List.mem_of_getElem? (i := 44) rfl)) (hw _ (List.mem_of_getElem? (i := 57) rfl)) (by decide) (own_rm7 l Z a0 hw s' b _ _ h4 n0 Z4 A4 F_value_s' F_coder_s' g_s') own_d4_28 rfl rfl (lenOf own_pd5 rfl) (by show 2 * 0 + _ ≤ _; exact Nat.le_of_eq rfl) (by decide) (by decide) rfl rfl (by decide) (by decide) ?_
  rintro h5 ⟨K5, Ea5, Fa5, Fb5⟩
  have Z5 : n0 ≤ h5.size := Nat.le_trans Z4 K5.1
  have V3_5 := V3_4.keep K5 (ninS ne_b_s' nin0)
  have Kp5 : Keep h0 h5 [] := Kp4.trans K5 (allS (Or.inr sz_s') all0)
  exact OGo.aret K own_d4_31 rfl rfl (by decide) (by decide) ⟨_, rfl, s', b, k, _, _, rfl, Kp5, Ea5, Fa5, Fb5, V3_5, kk1, kk2, kk3, kk4⟩
set_option maxRecDepth 65536 in
set_option maxHeartbeats 40000000 in
theorem own_rm2 (l : Launch) (Z : State) (a0 : Array Value) (hw : ∀ d ∈ tables_1, d.before a0 Z = true) (a : Addr) (h0 : Heap) (n0 : Nat) (Z0 : n0 ≤ h0.size)  :
    OCon l Z n0 (⟨"java/lang/Record", "<init>", "()V"⟩ : MethodName) jdk_30_method_1_code 1 none [] ({ frames := 1, cells := 0, slots := 0, locals := 12 } : Room) #[(.ref a)] h0 (ON fun h => h = h0) := by
  refine OCon.of (Ls := #[.val (.ref a)]) (plainFor_of_name own_pn_2) (fun m => own_entry m rfl) ?_
  intro p e s m below meth c K
  refine OGo.aloadN K (pc' := 1) own_d2_0 rfl rfl rfl ?_
  refine OGo.initO K (pc' := 4) (W := 0) (hw _ (List.mem_of_getElem? (i := 32) rfl)) (hw _ (List.mem_of_getElem? (i := 33) rfl)) (hw _ (List.mem_of_getElem? (i := 34) rfl)) own_d2_1 rfl rfl (by show 2 * 0 + _ ≤ _; exact Nat.le_of_eq rfl) (by decide) (by decide) ?_
  exact OGo.vret K own_d2_4 (by decide) (by decide) ⟨rfl, rfl⟩
set_option maxRecDepth 65536 in
set_option maxHeartbeats 40000000 in
theorem own_rm1 (l : Launch) (Z : State) (a0 : Array Value) (hw : ∀ d ∈ tables_1, d.before a0 Z = true) (a : Addr) (v : Int64) (r D : Nat) (cz : Int32) (d1 d2 : Addr) (k1 k2 : ClassId) (u1 u2 : List Value) (w1 w2 w3 : Value) (h0 : Heap) (n0 : Nat) (Z0 : n0 ≤ h0.size) (E : Exa Z h0 a "com/example/intervale/intervale/bench/FillKeys") (F_keys : Fld Z h0 a "com/example/intervale/intervale/bench/FillKeys" "keys" "J" w1) (F_keySize : Fld Z h0 a "com/example/intervale/intervale/bench/FillKeys" "keySize" "I" w2) (F_valueSize : Fld Z h0 a "com/example/intervale/intervale/bench/FillKeys" "valueSize" "I" w3) (g_a : n0 ≤ a) (hv : v.toInt = (r : Int)) (hr1 : 1 ≤ r) (hD : D ≤ 19) (hr : r < 10 ^ D) (Sc : OS Z n0 h0 "java/lang/String" "COMPACT_STRINGS" "Z" (.int cz)) (hcz : ¬ cz = 0) (D1 : ODg Z n0 h0 "DigitOnes" d1 k1 u1) (D2 : ODg Z n0 h0 "DigitTens" d2 k2 u2) :
    OCon l Z n0 (⟨"com/example/intervale/intervale/bench/FillKeys", "<init>", "(JII)V"⟩ : MethodName) prog_6_method_1_code 6 none [] ({ frames := 3, cells := 2, slots := 23, locals := 43 } : Room) #[(.ref a), (.long v), (.int (Int32.ofNat (D + 1))), (.int 1)] h0 (ON fun h => Keep h0 h [a]) := by
  refine OCon.of (Ls := #[.val (.ref a), .val (.long v), .second, .val (.int (Int32.ofNat (D + 1))), .val (.int 1), .unset]) (plainFor_of_name own_pn_1) (fun m => own_entry m rfl) ?_
  intro p e s m below meth c K
  refine OGo.aloadN K (pc' := 1) own_d1_0 rfl rfl rfl ?_
  refine OGo.callIN K (pc' := 4) (y := (⟨"java/lang/Record", "<init>", "()V"⟩ : MethodName)) (a := a) (W := 0) (cells' := 0) (slots' := 0) (argsL := []) (st := []) rfl (hw _ (List.mem_of_getElem? (i := 27) rfl)) (hw _ (List.mem_of_getElem? (i := 28) rfl)) (hw _ (List.mem_of_getElem? (i := 30) rfl)) (hw _ (List.mem_of_getElem? (i := 31) rfl)) (by decide) (own_rm2 l Z a0 hw a h0 n0 Z0) own_d1_1 rfl rfl (lenOf own_pd7 rfl) (by show 2 * 0 + _ ≤ _; exact Nat.le_of_eq rfl) (by decide) (by decide) rfl rfl (by decide) (by decide) ?_
  rintro h1 e1
  rw [e1]
  refine OGo.lloadN K (pc' := 5) own_d1_4 rfl rfl ?_
  refine OGo.lconst K (pc' := 6) (z := 1) own_d1_5 rfl rfl ?_
  refine OGo.lcmpGe K (pc' := 10) (pcY := 24) own_d1_6 rfl own_d1_7 rfl (by decide) rfl (fun hc6 => ?_) (fun hc6 => absurd hc6 ((by rw [Int64.lt_iff_toInt_lt, hv, show (1 : Int64).toInt = 1 from rfl]; omega) : ¬ v < (1 : Int64)))
  refine OGo.iconst K (pc' := 25) (z := 1) own_d1_24 rfl rfl ?_
  refine OGo.lloadN K (pc' := 26) own_d1_25 rfl rfl ?_
  refine OGo.callSV K (pc' := 29) (y := (⟨"java/lang/Long", "toString", "(J)Ljava/lang/String;"⟩ : MethodName)) (W := 1) (cells' := 2) (slots' := 23) (argsL := [(.long v)]) (st := [(.int (1 : Int32))]) (hw _ (List.mem_of_getElem? (i := 35) rfl)) (hw _ (List.mem_of_getElem? (i := 36) rfl)) (hw _ (List.mem_of_getElem? (i := 37) rfl)) (hw _ (List.mem_of_getElem? (i := 38) rfl)) (by decide) (own_rm4 l Z a0 hw v r cz d1 d2 k1 k2 u1 u2 h0 n0 Z0 hv hr1 Sc hcz D1 D2) own_d1_26 rfl rfl (lenOf own_pd8 rfl) (by show 2 * 0 + _ ≤ _; exact Nat.le_of_eq rfl) (by decide) (by decide) rfl rfl (by decide) (by decide) ?_
  rintro _ h2 ⟨s', b, k, kb, us, rfl, K2, Es, Fv, Fc, Vb, kk1, kk2, kk3, kk4⟩
  have Z2 : n0 ≤ h2.size := Nat.le_trans Z0 K2.1
  have E_2 := E.keep K2
  have F_keys_2 := F_keys.keep K2 nin0
  have F_keySize_2 := F_keySize.keep K2 nin0
  have F_valueSize_2 := F_valueSize.keep K2 nin0
  have Kp2 : Keep h0 h2 [a] := (Keep.refl h0 [a]).trans K2 all0
  show OGo p l e _ s m _ below meth c n0 _ h2 2 23 29 #[.val (.ref a), .val (.long v), .second, .val (.int (Int32.ofNat (D + 1))), .val (.int (1 : Int32)), .unset] [(.ref s'), (.int (1 : Int32))]
  refine OGo.callVV K (pc' := 32) (y := (⟨"java/lang/String", "length", "()I"⟩ : MethodName)) (z := (⟨"java/lang/String", "length", "()I"⟩ : MethodName)) (a := s') (W := 1) (cells' := 2) (slots' := 23) (argsL := []) (st := [(.int (1 : Int32))]) Es (hw _ (List.mem_of_getElem? (i := 63) rfl)) (hw _ (List.mem_of_getElem? (i := 64) rfl)) (notFace_of_selects (args := #[]) (mvT K.hZ (hw _ (List.mem_of_getElem? (i := 66) rfl)))) (hw _ (List.mem_of_getElem? (i := 66) rfl)) (hw _ (List.mem_of_getElem? (i := 65) rfl)) (hw _ (List.mem_of_getElem? (i := 44) rfl)) (hw _ (List.mem_of_getElem? (i := 67) rfl)) (by decide) (own_rm8 l Z a0 hw s' b k kb us cz h2 n0 Z2 Es Fv Fc Vb kk2 (Sc.keep K2 all0) hcz) own_d1_29 rfl rfl (lenOf own_pd9 rfl) (by show 2 * 0 + _ ≤ _; exact Nat.le_of_eq rfl) (by decide) (by decide) rfl rfl (by decide) (by decide) ?_
  rintro _ h3 ⟨rfl, e3⟩
  rw [e3]
  show OGo p l e _ s m _ below meth c n0 _ h2 2 23 32 #[.val (.ref a), .val (.long v), .second, .val (.int (Int32.ofNat (D + 1))), .val (.int (1 : Int32)), .unset] [(.int (Int32.ofNat k)), (.int (1 : Int32))]
  have kD := own_kD kk4 hr kk1
  refine OGo.iadd K (pc' := 33) own_d1_32 rfl ?_
  rw [show ((1 : Int32) + (Int32.ofNat k)) = (Int32.ofNat (k + 1)) from own_1k k]
  refine OGo.istore K (pc' := 35) (Ls' := #[.val (.ref a), .val (.long v), .second, .val (.int (Int32.ofNat (D + 1))), .val (.int (1 : Int32)), .val (.int (Int32.ofNat (k + 1)))]) own_d1_33 rfl rfl ?_
  refine OGo.iloadN K (pc' := 36) own_d1_35 rfl rfl ?_
  refine OGo.iload K (pc' := 38) own_d1_36 rfl rfl ?_
  refine OGo.icmpLt K (pc' := 41) (pcY := 48) own_d1_38 rfl (by decide) rfl (fun hc38 => absurd hc38 ((fun q => absurd ((own_slt (n := D + 1) (N := k + 1) (by omega) (by omega)).mp q) (by omega)) : ¬ (Int32.ofNat (D + 1)) < (Int32.ofNat (k + 1)))) (fun hc38 => ?_)
  refine OGo.iloadN K (pc' := 42) own_d1_41 rfl rfl ?_
  refine OGo.sipush K (pc' := 45) (z := 250) own_d1_42 rfl rfl ?_
  refine OGo.icmpLe K (pc' := 48) (pcY := 65) own_d1_45 rfl (by decide) rfl (fun hc45 => ?_) (fun hc45 => absurd hc45 ((by rw [Int32.lt_iff_toInt_lt, (own_s32 (n := D + 1) (by omega)).1, show (250 : Int32).toInt = 250 from rfl]; omega) : ¬ (250 : Int32) < (Int32.ofNat (D + 1))))
  refine OGo.iload K (pc' := 67) own_d1_65 rfl rfl ?_
  refine OGo.iconst K (pc' := 68) (z := 1) own_d1_67 rfl rfl ?_
  refine OGo.icmpLt K (pc' := 71) (pcY := 78) own_d1_68 rfl (by decide) rfl (fun hc68 => absurd hc68 (by decide : ¬ (1 : Int32) < (1 : Int32))) (fun hc68 => ?_)
  refine OGo.iload K (pc' := 73) own_d1_71 rfl rfl ?_
  refine OGo.ldcI K (pc' := 75) (v := 1048576) (hw _ (List.mem_of_getElem? (i := 74) rfl)) own_d1_73 rfl ?_
  refine OGo.icmpLe K (pc' := 78) (pcY := 93) own_d1_75 rfl (by decide) rfl (fun hc75 => ?_) (fun hc75 => absurd hc75 (by decide : ¬ (1048576 : Int32) < (1 : Int32)))
  refine OGo.aloadN K (pc' := 94) own_d1_93 rfl rfl rfl ?_
  refine OGo.lloadN K (pc' := 95) own_d1_94 rfl rfl ?_
  refine OGo.putF K (pc' := 98) (host := "") (Or.inl (hw _ (List.mem_of_getElem? (i := 75) rfl))) Via.refl F_keys_2 E_2 (Or.inr ⟨(hw _ (List.mem_of_getElem? (i := 76) rfl)), rfl, rfl⟩) (hw _ (List.mem_of_getElem? (i := 22) rfl)) (ty := .long) (by decide) rfl rfl g_a own_d1_95 rfl ?_
  intro h4 W4
  have Z4 : n0 ≤ h4.size := by rw [W4.size]; exact Z2
  have Fw_keys_a_4 := F_keys_2.same W4
  have E_4 := E_2.wr W4
  have F_keySize_4 := F_keySize_2.other W4 (Or.inr (slot_ne (Or.inr (hw _ (List.mem_of_getElem? (i := 78) rfl))) (Or.inr (hw _ (List.mem_of_getElem? (i := 76) rfl))) (by decide) (t := .int) (t' := .long) (by decide) (by decide)))
  have F_valueSize_4 := F_valueSize_2.other W4 (Or.inr (slot_ne (Or.inr (hw _ (List.mem_of_getElem? (i := 80) rfl))) (Or.inr (hw _ (List.mem_of_getElem? (i := 76) rfl))) (by decide) (t := .int) (t' := .long) (by decide) (by decide)))
  have Kp4 : Keep h0 h4 [a] := Kp2.wr W4 (Or.inl (List.mem_of_getElem? (i := 0) rfl))
  refine OGo.aloadN K (pc' := 99) own_d1_98 rfl rfl rfl ?_
  refine OGo.iloadN K (pc' := 100) own_d1_99 rfl rfl ?_
  refine OGo.putF K (pc' := 103) (host := "") (Or.inl (hw _ (List.mem_of_getElem? (i := 77) rfl))) Via.refl F_keySize_4 E_4 (Or.inr ⟨(hw _ (List.mem_of_getElem? (i := 78) rfl)), rfl, rfl⟩) (hw _ (List.mem_of_getElem? (i := 22) rfl)) (ty := .int) (by decide) rfl rfl g_a own_d1_100 rfl ?_
  intro h5 W5
  have Z5 : n0 ≤ h5.size := by rw [W5.size]; exact Z4
  have Fw_keySize_a_5 := F_keySize_4.same W5
  have E_5 := E_4.wr W5
  have Fw_keys_a_5 := Fw_keys_a_4.other W5 (Or.inr (slot_ne (Or.inr (hw _ (List.mem_of_getElem? (i := 76) rfl))) (Or.inr (hw _ (List.mem_of_getElem? (i := 78) rfl))) (by decide) (t := .long) (t' := .int) (by decide) (by decide)))
  have F_valueSize_5 := F_valueSize_4.other W5 (Or.inr (slot_ne (Or.inr (hw _ (List.mem_of_getElem? (i := 80) rfl))) (Or.inr (hw _ (List.mem_of_getElem? (i := 78) rfl))) (by decide) (t := .int) (t' := .int) (by decide) (by decide)))
  have Kp5 : Keep h0 h5 [a] := Kp4.wr W5 (Or.inl (List.mem_of_getElem? (i := 0) rfl))
  refine OGo.aloadN K (pc' := 104) own_d1_103 rfl rfl rfl ?_
  refine OGo.iload K (pc' := 106) own_d1_104 rfl rfl ?_
  refine OGo.putF K (pc' := 109) (host := "") (Or.inl (hw _ (List.mem_of_getElem? (i := 79) rfl))) Via.refl F_valueSize_5 E_5 (Or.inr ⟨(hw _ (List.mem_of_getElem? (i := 80) rfl)), rfl, rfl⟩) (hw _ (List.mem_of_getElem? (i := 22) rfl)) (ty := .int) (by decide) rfl rfl g_a own_d1_106 rfl ?_
  intro h6 W6
  have Z6 : n0 ≤ h6.size := by rw [W6.size]; exact Z5
  have Fw_valueSize_a_6 := F_valueSize_5.same W6
  have E_6 := E_5.wr W6
  have Fw_keys_a_6 := Fw_keys_a_5.other W6 (Or.inr (slot_ne (Or.inr (hw _ (List.mem_of_getElem? (i := 76) rfl))) (Or.inr (hw _ (List.mem_of_getElem? (i := 80) rfl))) (by decide) (t := .long) (t' := .int) (by decide) (by decide)))
  have Fw_keySize_a_6 := Fw_keySize_a_5.other W6 (Or.inr (slot_ne (Or.inr (hw _ (List.mem_of_getElem? (i := 78) rfl))) (Or.inr (hw _ (List.mem_of_getElem? (i := 80) rfl))) (by decide) (t := .int) (t' := .int) (by decide) (by decide)))
  have Kp6 : Keep h0 h6 [a] := Kp5.wr W6 (Or.inl (List.mem_of_getElem? (i := 0) rfl))
  exact OGo.vret K own_d1_109 (by decide) (by decide) ⟨rfl, Kp6⟩
set_option maxRecDepth 65536 in
set_option maxHeartbeats 40000000 in
theorem own_rm10 (l : Launch) (Z : State) (a0 : Array Value) (hw : ∀ d ∈ tables_1, d.before a0 Z = true) (a y : Addr) (v : Int64) (r D : Nat) (ky : ClassId) (us0 : List Value) (h0 : Heap) (n0 : Nat) (Z0 : n0 ≤ h0.size) (hv : v.toInt = (r : Int)) (hD : 1 ≤ D ∧ D ≤ 19) (Vy : Arv Z h0 y ky .byte (Int32.ofNat (D + 1)) us0 (.int 0)) (l0 : us0.length = D + 1) (g_y : n0 ≤ y) :
    OCon l Z n0 (⟨"com/example/intervale/intervale/bench/FillKeys", "key", "(J[B)V"⟩ : MethodName) prog_6_method_2_code 7 none [] ({ frames := 0, cells := 0, slots := 0, locals := 0 } : Room) #[(.ref a), (.long v), (.ref y)] h0 (ON fun h => Keep h0 h [y] ∧ ∃ us, Arv Z h y ky .byte (Int32.ofNat (D + 1)) us (.int 0) ∧ us.getD 0 (.int 0) = .int 107 ∧ ∀ j, 1 ≤ j → j ≤ D → us.getD j (.int 0) = .int (Int32.ofNat (48 + r / 10 ^ (D - j) % 10))) := by
  refine OCon.of (Ls := #[.val (.ref a), .val (.long v), .second, .val (.ref y), .unset, .unset, .unset]) (plainFor_of_name own_pn_1) (fun m => own_entry m rfl) ?_
  intro p e s m below meth c K
  have loop : ∀ (i : Nat) (x : Int64) (h : Heap) (us : List Value) (hi : i ≤ D) (hx : x.toInt = ((r / 10 ^ (D - i) : Nat) : Int)) (Zh : n0 ≤ h.size) (Vu : Arv Z h y ky .byte (Int32.ofNat (D + 1)) us (.int 0)) (lu : us.length = D + 1) (Kp : Keep h0 h [y]) (p0 : us.getD 0 (.int 0) = .int 107) (p1 : ∀ j, i < j → j ≤ D → us.getD j (.int 0) = .int (Int32.ofNat (48 + r / 10 ^ (D - j) % 10))), OGo p l e ({ frames := 0, cells := 0, slots := 0, locals := 0 } : Room) s m #[(.ref a), (.long v), (.ref y)] below meth c n0 (ON fun h => Keep h0 h [y] ∧ ∃ us, Arv Z h y ky .byte (Int32.ofNat (D + 1)) us (.int 0) ∧ us.getD 0 (.int 0) = .int 107 ∧ ∀ j, 1 ≤ j → j ≤ D → us.getD j (.int 0) = .int (Int32.ofNat (48 + r / 10 ^ (D - j) % 10))) h 0 0 14 #[.val (.ref a), .val (.long v), .second, .val (.ref y), .val (.long x), .second, .val (.int (Int32.ofNat i))] [] := by
    intro i
    induction i with
    | zero =>
      intro x h us hi hx Zh Vu lu Kp p0 p1
      refine OGo.iload K (pc' := 16) own_d10_14 rfl rfl ?_
      refine OGo.iconst K (pc' := 17) (z := 1) own_d10_16 rfl rfl ?_
      refine OGo.icmpLt K (pc' := 20) (pcY := 50) own_d10_17 rfl (by decide) rfl (fun hc17 => ?_) (fun hc17 => absurd (by decide : (Int32.ofNat 0) < (1 : Int32)) hc17)
      exact OGo.vret K own_d10_50 (by decide) (by decide) ⟨rfl, Kp, us, Vu, p0, fun j q1 q2 => p1 j (by omega) q2⟩
    | succ i ih =>
      intro x h us hi hx Zh Vu lu Kp p0 p1
      have xn : 0 ≤ x.toInt := by rw [hx]; exact Int.natCast_nonneg _
      refine OGo.iload K (pc' := 16) own_d10_14 rfl rfl ?_
      refine OGo.iconst K (pc' := 17) (z := 1) own_d10_16 rfl rfl ?_
      refine OGo.icmpLt K (pc' := 20) (pcY := 50) own_d10_17 rfl (by decide) rfl (fun hc17 => absurd hc17 ((by rw [Int32.lt_iff_toInt_lt, (own_s32 (n := i + 1) (by omega)).1, show (1 : Int32).toInt = 1 from rfl]; omega) : ¬ (Int32.ofNat (i + 1)) < (1 : Int32))) (fun hc17 => ?_)
      refine OGo.aloadN K (pc' := 21) own_d10_20 rfl rfl rfl ?_
      refine OGo.iload K (pc' := 23) own_d10_21 rfl rfl ?_
      refine OGo.ldcJ K (pc' := 26) (v := 48) (hw _ (List.mem_of_getElem? (i := 86) rfl)) own_d10_23 rfl ?_
      refine OGo.lload K (pc' := 28) own_d10_26 rfl rfl ?_
      refine OGo.ldcJ K (pc' := 31) (v := 10) (hw _ (List.mem_of_getElem? (i := 87) rfl)) own_d10_28 rfl ?_
      refine OGo.lrem K (pc' := 32) own_d10_31 rfl (by decide) ?_
      refine OGo.ladd K (pc' := 33) own_d10_32 rfl ?_
      refine OGo.l2i K (pc' := 34) own_d10_33 rfl ?_
      refine OGo.i2b K (pc' := 35) own_d10_34 rfl ?_
      refine OGo.bastore K (pc' := 36) (i := (i + 1)) Vu ⟨(own_s32 (n := i + 1) (by omega)).2.1, (own_slt (n := i + 1) (N := D + 1) (by omega) (by omega)).mpr (by omega)⟩ (own_s32 (n := i + 1) (by omega)).2.2 (by omega) g_y own_d10_35 rfl ?_
      intro h1 W1 Vu_1
      have Z1 : n0 ≤ h1.size := by rw [W1.size]; exact Zh
      have Kp1 : Keep h0 h1 [y] := Kp.wr W1 (Or.inl (List.mem_of_getElem? (i := 0) rfl))
      refine OGo.lload K (pc' := 38) own_d10_36 rfl rfl ?_
      refine OGo.ldcJ K (pc' := 41) (v := 10) (hw _ (List.mem_of_getElem? (i := 87) rfl)) own_d10_38 rfl ?_
      refine OGo.ldiv K (pc' := 42) own_d10_41 rfl (by decide) ?_
      refine OGo.lstore K (pc' := 44) (Ls' := #[.val (.ref a), .val (.long v), .second, .val (.ref y), .val (.long (x / (10 : Int64))), .second, .val (.int (Int32.ofNat (i + 1)))]) own_d10_42 rfl rfl ?_
      refine OGo.iinc K (pc' := 47) (z := (-1)) (Ls' := #[.val (.ref a), .val (.long v), .second, .val (.ref y), .val (.long (x / (10 : Int64))), .second, .val (.int ((Int32.ofNat (i + 1)) + (-1 : Int32)))]) own_d10_44 rfl rfl rfl rfl ?_
      rw [show ((Int32.ofNat (i + 1)) + (-1 : Int32)) = (Int32.ofNat i) from own_decn _]
      refine OGo.goto K (pc' := 14) own_d10_47 (by decide) rfl ?_
      exact ih _ h1 _ (by omega) (by rw [own_dten hx, own_dpow, show D - (i + 1) + 1 = D - i by omega]) Z1 Vu_1 (by rw [List.length_set]; exact lu) Kp1 (by rw [own_sset_ne (by omega)]; exact p0) (fun j q1 q2 => if q : j = i + 1 then (by subst q; rw [own_sset_eq (by omega), own_dv2 hx]) else (by rw [own_sset_ne (Ne.symm q)]; exact p1 j (by omega) q2))
  refine OGo.aloadN K (pc' := 1) own_d10_0 rfl rfl rfl ?_
  refine OGo.iconst K (pc' := 2) (z := 0) own_d10_1 rfl rfl ?_
  refine OGo.bipush K (pc' := 4) (z := 107) own_d10_2 rfl rfl ?_
  refine OGo.bastore K (pc' := 5) (i := 0) Vy ⟨by decide, (own_slt (n := 0) (N := D + 1) (by omega) (by omega)).mpr (by omega)⟩ rfl (by omega) g_y own_d10_4 rfl ?_
  intro h2 W2 Vy_2
  have Z2 : n0 ≤ h2.size := by rw [W2.size]; exact Z0
  have Kp2 : Keep h0 h2 [y] := (Keep.refl h0 [y]).wr W2 (Or.inl (List.mem_of_getElem? (i := 0) rfl))
  refine OGo.lloadN K (pc' := 6) own_d10_5 rfl rfl ?_
  refine OGo.lstore K (pc' := 8) (Ls' := #[.val (.ref a), .val (.long v), .second, .val (.ref y), .val (.long v), .second, .unset]) own_d10_6 rfl rfl ?_
  refine OGo.aloadN K (pc' := 9) own_d10_8 rfl rfl rfl ?_
  refine OGo.alen K (pc' := 10) Vy_2 own_d10_9 rfl ?_
  refine OGo.iconst K (pc' := 11) (z := 1) own_d10_10 rfl rfl ?_
  refine OGo.isub K (pc' := 12) own_d10_11 rfl ?_
  rw [show ((Int32.ofNat (D + 1)) - (1 : Int32)) = (Int32.ofNat D) from dec_ofNat D]
  refine OGo.istore K (pc' := 14) (Ls' := #[.val (.ref a), .val (.long v), .second, .val (.ref y), .val (.long v), .second, .val (.int (Int32.ofNat D))]) own_d10_12 rfl rfl ?_
  exact loop D v h2 _ (Nat.le_refl _) (by rw [Nat.sub_self, Nat.pow_zero, Nat.div_one]; exact hv) Z2 Vy_2 (by rw [List.length_set]; exact l0) Kp2 (by rw [own_sset_eq (by omega)]; rfl) (fun j q1 q2 => absurd q1 (by omega))
set_option maxRecDepth 65536 in
set_option maxHeartbeats 40000000 in
theorem own_rm11 (l : Launch) (Z : State) (a0 : Array Value) (hw : ∀ d ∈ tables_1, d.before a0 Z = true) (y pw : Addr) (v : Int64) (r D i : Nat) (ii : Int32) (ky kp : ClassId) (us ps : List Value) (h0 : Heap) (n0 : Nat) (Z0 : n0 ≤ h0.size) (hv : v.toInt = (r : Int)) (hD : 1 ≤ D ∧ D ≤ 19) (hi : 1 ≤ i ∧ i ≤ 19) (ei : ii = Int32.ofNat i) (Vy : Arv Z h0 y ky .byte (Int32.ofNat (D + 1)) us (.int 0)) (Vp : Arv Z h0 pw kp .long 19 ps (.long 0)) (H1 : ∀ j, 1 ≤ j → j ≤ D → us.getD j (.int 0) = .int (Int32.ofNat (48 + r / 10 ^ (D - j) % 10))) (H2 : ∀ j, j < 19 → ps.getD j (.long 0) = .long (Int64.ofNat (10 ^ j))) :
    OCon l Z n0 (⟨"com/example/intervale/intervale/bench/FillKeysKeyPinLaw", "at", "([BIJ[JI)Z"⟩ : MethodName) method_3_code 8 (some .boolean) [] ({ frames := 0, cells := 0, slots := 0, locals := 0 } : Room) #[(.ref y), (.int (Int32.ofNat (D + 1))), (.long v), (.ref pw), (.int ii)] h0 (OV fun w h => w = .int 1 ∧ h = h0) := by
  refine OCon.of (Ls := #[.val (.ref y), .val (.int (Int32.ofNat (D + 1))), .val (.long v), .second, .val (.ref pw), .val (.int ii), .unset, .unset]) (plainFor_of_name own_pn_11) (fun m => own_entry m rfl) ?_
  intro p e s m below meth c K
  subst ei
  refine OGo.iload K (pc' := 2) own_d11_0 rfl rfl ?_
  refine OGo.iloadN K (pc' := 3) own_d11_2 rfl rfl ?_
  refine OGo.icmpLt K (pc' := 6) (pcY := 8) own_d11_3 rfl (by decide) rfl (fun hc => ?_) (fun hc => ?_)
  · skip
    rw [own_slt (by omega) (by omega)] at hc
    refine OGo.lloadN K (pc' := 9) own_d11_8 rfl rfl ?_
    refine OGo.aload K (pc' := 11) own_d11_9 rfl rfl rfl ?_
    refine OGo.iloadN K (pc' := 12) own_d11_11 rfl rfl ?_
    refine OGo.iconst K (pc' := 13) (z := 1) own_d11_12 rfl rfl ?_
    refine OGo.isub K (pc' := 14) own_d11_13 rfl ?_
    rw [show ((Int32.ofNat (D + 1)) - (1 : Int32)) = (Int32.ofNat D) from dec_ofNat D]
    refine OGo.iload K (pc' := 16) own_d11_14 rfl rfl ?_
    refine OGo.isub K (pc' := 17) own_d11_16 rfl ?_
    rw [show ((Int32.ofNat D) - (Int32.ofNat i)) = (Int32.ofNat (D - i)) from own_subn (by omega) (by omega)]
    refine OGo.laload K (pc' := 18) (v := (.long (Int64.ofNat (10 ^ (D - i))))) Vp ⟨(own_s32 (n := D - i) (by omega)).2.1, (own_slt (n := D - i) (N := 19) (by omega) (by omega)).mpr (by omega)⟩ (by rw [(own_s32 (n := D - i) (by omega)).2.2]; exact H2 _ (by omega)) own_d11_17 rfl ?_
    refine OGo.ldiv K (pc' := 19) own_d11_18 rfl (own_pne (by omega)) ?_
    refine OGo.ldcJ K (pc' := 22) (v := 10) (hw _ (List.mem_of_getElem? (i := 1) rfl)) own_d11_19 rfl ?_
    refine OGo.lrem K (pc' := 23) own_d11_22 rfl (by decide) ?_
    refine OGo.lstore K (pc' := 25) (Ls' := #[.val (.ref y), .val (.int (Int32.ofNat (D + 1))), .val (.long v), .second, .val (.ref pw), .val (.int (Int32.ofNat i)), .val (.long ((v / (Int64.ofNat (10 ^ (D - i)))) - ((v / (Int64.ofNat (10 ^ (D - i)))) / (10 : Int64)) * (10 : Int64))), .second]) own_d11_23 rfl rfl ?_
    refine OGo.aloadN K (pc' := 26) own_d11_25 rfl rfl rfl ?_
    refine OGo.iload K (pc' := 28) own_d11_26 rfl rfl ?_
    refine OGo.baload K (pc' := 29) (v := (.int (Int32.ofNat (48 + r / 10 ^ (D - i) % 10)))) Vy ⟨(own_s32 (n := i) (by omega)).2.1, (own_slt (n := i) (N := D + 1) (by omega) (by omega)).mpr hc⟩ (by rw [(own_s32 (n := i) (by omega)).2.2]; exact H1 _ (by omega) (by omega)) own_d11_28 rfl ?_
    refine OGo.ldcJ K (pc' := 32) (v := 48) (hw _ (List.mem_of_getElem? (i := 92) rfl)) own_d11_29 rfl ?_
    refine OGo.lload K (pc' := 34) own_d11_32 rfl rfl ?_
    refine OGo.ladd K (pc' := 35) own_d11_34 rfl ?_
    refine OGo.l2i K (pc' := 36) own_d11_35 rfl ?_
    refine OGo.i2b K (pc' := 37) own_d11_36 rfl ?_
    refine OGo.icmpNe K (pc' := 40) (pcY := 44) own_d11_37 rfl (by decide) rfl (fun hc37 => absurd ((own_dv (own_divp hv (by omega))).symm : (Int32.ofNat (48 + r / 10 ^ (D - i) % 10)) = ((((48 : Int64) + ((v / (Int64.ofNat (10 ^ (D - i)))) - ((v / (Int64.ofNat (10 ^ (D - i)))) / (10 : Int64)) * (10 : Int64))).toInt32).toInt8.toInt32)) hc37) (fun hc37 => ?_)
    refine OGo.iconst K (pc' := 41) (z := 1) own_d11_40 rfl rfl ?_
    refine OGo.goto K (pc' := 45) own_d11_41 (by decide) rfl ?_
    exact OGo.ret K own_d11_45 rfl (Or.inl ⟨rfl, by simp, _, rfl⟩) (by decide) (by decide) ⟨_, rfl, rfl, rfl⟩
  · skip
    refine OGo.iconst K (pc' := 7) (z := 1) own_d11_6 rfl rfl ?_
    exact OGo.ret K own_d11_7 rfl (Or.inl ⟨rfl, by simp, _, rfl⟩) (by decide) (by decide) ⟨_, rfl, rfl, rfl⟩
set_option maxRecDepth 65536 in
set_option maxHeartbeats 40000000 in
theorem own_rm0 (l : Launch) (Z : State) (a0 : Array Value) (hw : ∀ d ∈ tables_1, d.before a0 Z = true) (ws : List Jvm.Cond) (v0 : Int64) (v1 : Int32) (cz : Int32) (d1 d2 : Addr) (k1 k2 : ClassId) (u1 u2 : List Value) (h0 : Heap) (n0 : Nat) (Z0 : n0 ≤ h0.size) (Sc : OS Z n0 h0 "java/lang/String" "COMPACT_STRINGS" "Z" (.int cz)) (hcz : ¬ cz = 0) (D1 : ODg Z n0 h0 "DigitOnes" d1 k1 u1) (D2 : ODg Z n0 h0 "DigitTens" d2 k2 u2) :
    OCon l Z n0 x code maxLocals ret ws room_1 #[(.long v0), (.int v1)] h0 (OV fun w h => w = .int 1) := by
  refine OCon.of (Ls := #[.val (.long v0), .second, .val (.int v1), .unset, .unset, .unset, .unset, .unset, .unset, .unset, .unset, .unset]) (plainFor_of_name own_pn_11) (fun m => own_entry m rfl) ?_
  intro p e s m below meth c K
  refine OGo.bipush K (pc' := 2) (z := 19) at_0 rfl rfl ?_
  refine OGo.newP K (pc' := 4) (cap := 19) (cells' := 1) (slots' := 19) (hw _ (List.mem_of_getElem? (i := 0) rfl)) at_2 rfl (by decide) (by decide) (by decide) rfl rfl (by decide) (by decide) ?_
  intro h1 pw k_pw gq1 E1 V_pw
  have g_pw : n0 ≤ pw := Nat.le_trans Z0 (Nat.le_of_eq gq1.symm)
  have sz_pw : h0.size ≤ pw := Nat.le_trans (Keep.refl h0 []).1 (Nat.le_of_eq gq1.symm)
  have Z1 : n0 ≤ h1.size := Nat.le_trans Z0 E1.1
  have Kp1 : Keep h0 h1 [] := (Keep.refl h0 []).ext E1
  replace V_pw : Arv Z h1 pw _ .long (19 : Int32) [(.long 0), (.long 0), (.long 0), (.long 0), (.long 0), (.long 0), (.long 0), (.long 0), (.long 0), (.long 0), (.long 0), (.long 0), (.long 0), (.long 0), (.long 0), (.long 0), (.long 0), (.long 0), (.long 0)] (.long 0) := V_pw.pad (pad_rep [] _ 19)
  refine OGo.dup K (pc' := 5) at_4 rfl rfl ?_
  refine OGo.iconst K (pc' := 6) (z := 0) at_5 rfl rfl ?_
  refine OGo.lconst K (pc' := 7) (z := 1) at_6 rfl rfl ?_
  refine OGo.lastore K (pc' := 8) (i := 0) V_pw (by decide) rfl (Nat.le_of_ble_eq_true rfl) g_pw at_7 rfl ?_
  intro h2 W2 V_pw_2
  have Z2 : n0 ≤ h2.size := by rw [W2.size]; exact Z1
  replace V_pw_2 : Arv Z h2 pw _ .long (19 : Int32) [(.long (1 : Int64)), (.long 0), (.long 0), (.long 0), (.long 0), (.long 0), (.long 0), (.long 0), (.long 0), (.long 0), (.long 0), (.long 0), (.long 0), (.long 0), (.long 0), (.long 0), (.long 0), (.long 0), (.long 0)] (.long 0) := V_pw_2
  have Kp2 : Keep h0 h2 [] := Kp1.wr W2 (Or.inr sz_pw)
  refine OGo.dup K (pc' := 9) at_8 rfl rfl ?_
  refine OGo.iconst K (pc' := 10) (z := 1) at_9 rfl rfl ?_
  refine OGo.ldcJ K (pc' := 13) (v := 10) (hw _ (List.mem_of_getElem? (i := 1) rfl)) at_10 rfl ?_
  refine OGo.lastore K (pc' := 14) (i := 1) V_pw_2 (by decide) rfl (Nat.le_of_ble_eq_true rfl) g_pw at_13 rfl ?_
  intro h3 W3 V_pw_3
  have Z3 : n0 ≤ h3.size := by rw [W3.size]; exact Z2
  replace V_pw_3 : Arv Z h3 pw _ .long (19 : Int32) [(.long (1 : Int64)), (.long (10 : Int64)), (.long 0), (.long 0), (.long 0), (.long 0), (.long 0), (.long 0), (.long 0), (.long 0), (.long 0), (.long 0), (.long 0), (.long 0), (.long 0), (.long 0), (.long 0), (.long 0), (.long 0)] (.long 0) := V_pw_3
  have Kp3 : Keep h0 h3 [] := Kp2.wr W3 (Or.inr sz_pw)
  refine OGo.dup K (pc' := 15) at_14 rfl rfl ?_
  refine OGo.iconst K (pc' := 16) (z := 2) at_15 rfl rfl ?_
  refine OGo.ldcJ K (pc' := 19) (v := 100) (hw _ (List.mem_of_getElem? (i := 2) rfl)) at_16 rfl ?_
  refine OGo.lastore K (pc' := 20) (i := 2) V_pw_3 (by decide) rfl (Nat.le_of_ble_eq_true rfl) g_pw at_19 rfl ?_
  intro h4 W4 V_pw_4
  have Z4 : n0 ≤ h4.size := by rw [W4.size]; exact Z3
  replace V_pw_4 : Arv Z h4 pw _ .long (19 : Int32) [(.long (1 : Int64)), (.long (10 : Int64)), (.long (100 : Int64)), (.long 0), (.long 0), (.long 0), (.long 0), (.long 0), (.long 0), (.long 0), (.long 0), (.long 0), (.long 0), (.long 0), (.long 0), (.long 0), (.long 0), (.long 0), (.long 0)] (.long 0) := V_pw_4
  have Kp4 : Keep h0 h4 [] := Kp3.wr W4 (Or.inr sz_pw)
  refine OGo.dup K (pc' := 21) at_20 rfl rfl ?_
  refine OGo.iconst K (pc' := 22) (z := 3) at_21 rfl rfl ?_
  refine OGo.ldcJ K (pc' := 25) (v := 1000) (hw _ (List.mem_of_getElem? (i := 3) rfl)) at_22 rfl ?_
  refine OGo.lastore K (pc' := 26) (i := 3) V_pw_4 (by decide) rfl (Nat.le_of_ble_eq_true rfl) g_pw at_25 rfl ?_
  intro h5 W5 V_pw_5
  have Z5 : n0 ≤ h5.size := by rw [W5.size]; exact Z4
  replace V_pw_5 : Arv Z h5 pw _ .long (19 : Int32) [(.long (1 : Int64)), (.long (10 : Int64)), (.long (100 : Int64)), (.long (1000 : Int64)), (.long 0), (.long 0), (.long 0), (.long 0), (.long 0), (.long 0), (.long 0), (.long 0), (.long 0), (.long 0), (.long 0), (.long 0), (.long 0), (.long 0), (.long 0)] (.long 0) := V_pw_5
  have Kp5 : Keep h0 h5 [] := Kp4.wr W5 (Or.inr sz_pw)
  refine OGo.dup K (pc' := 27) at_26 rfl rfl ?_
  refine OGo.iconst K (pc' := 28) (z := 4) at_27 rfl rfl ?_
  refine OGo.ldcJ K (pc' := 31) (v := 10000) (hw _ (List.mem_of_getElem? (i := 4) rfl)) at_28 rfl ?_
  refine OGo.lastore K (pc' := 32) (i := 4) V_pw_5 (by decide) rfl (Nat.le_of_ble_eq_true rfl) g_pw at_31 rfl ?_
  intro h6 W6 V_pw_6
  have Z6 : n0 ≤ h6.size := by rw [W6.size]; exact Z5
  replace V_pw_6 : Arv Z h6 pw _ .long (19 : Int32) [(.long (1 : Int64)), (.long (10 : Int64)), (.long (100 : Int64)), (.long (1000 : Int64)), (.long (10000 : Int64)), (.long 0), (.long 0), (.long 0), (.long 0), (.long 0), (.long 0), (.long 0), (.long 0), (.long 0), (.long 0), (.long 0), (.long 0), (.long 0), (.long 0)] (.long 0) := V_pw_6
  have Kp6 : Keep h0 h6 [] := Kp5.wr W6 (Or.inr sz_pw)
  refine OGo.dup K (pc' := 33) at_32 rfl rfl ?_
  refine OGo.iconst K (pc' := 34) (z := 5) at_33 rfl rfl ?_
  refine OGo.ldcJ K (pc' := 37) (v := 100000) (hw _ (List.mem_of_getElem? (i := 5) rfl)) at_34 rfl ?_
  refine OGo.lastore K (pc' := 38) (i := 5) V_pw_6 (by decide) rfl (Nat.le_of_ble_eq_true rfl) g_pw at_37 rfl ?_
  intro h7 W7 V_pw_7
  have Z7 : n0 ≤ h7.size := by rw [W7.size]; exact Z6
  replace V_pw_7 : Arv Z h7 pw _ .long (19 : Int32) [(.long (1 : Int64)), (.long (10 : Int64)), (.long (100 : Int64)), (.long (1000 : Int64)), (.long (10000 : Int64)), (.long (100000 : Int64)), (.long 0), (.long 0), (.long 0), (.long 0), (.long 0), (.long 0), (.long 0), (.long 0), (.long 0), (.long 0), (.long 0), (.long 0), (.long 0)] (.long 0) := V_pw_7
  have Kp7 : Keep h0 h7 [] := Kp6.wr W7 (Or.inr sz_pw)
  refine OGo.dup K (pc' := 39) at_38 rfl rfl ?_
  refine OGo.bipush K (pc' := 41) (z := 6) at_39 rfl rfl ?_
  refine OGo.ldcJ K (pc' := 44) (v := 1000000) (hw _ (List.mem_of_getElem? (i := 6) rfl)) at_41 rfl ?_
  refine OGo.lastore K (pc' := 45) (i := 6) V_pw_7 (by decide) rfl (Nat.le_of_ble_eq_true rfl) g_pw at_44 rfl ?_
  intro h8 W8 V_pw_8
  have Z8 : n0 ≤ h8.size := by rw [W8.size]; exact Z7
  replace V_pw_8 : Arv Z h8 pw _ .long (19 : Int32) [(.long (1 : Int64)), (.long (10 : Int64)), (.long (100 : Int64)), (.long (1000 : Int64)), (.long (10000 : Int64)), (.long (100000 : Int64)), (.long (1000000 : Int64)), (.long 0), (.long 0), (.long 0), (.long 0), (.long 0), (.long 0), (.long 0), (.long 0), (.long 0), (.long 0), (.long 0), (.long 0)] (.long 0) := V_pw_8
  have Kp8 : Keep h0 h8 [] := Kp7.wr W8 (Or.inr sz_pw)
  refine OGo.dup K (pc' := 46) at_45 rfl rfl ?_
  refine OGo.bipush K (pc' := 48) (z := 7) at_46 rfl rfl ?_
  refine OGo.ldcJ K (pc' := 51) (v := 10000000) (hw _ (List.mem_of_getElem? (i := 7) rfl)) at_48 rfl ?_
  refine OGo.lastore K (pc' := 52) (i := 7) V_pw_8 (by decide) rfl (Nat.le_of_ble_eq_true rfl) g_pw at_51 rfl ?_
  intro h9 W9 V_pw_9
  have Z9 : n0 ≤ h9.size := by rw [W9.size]; exact Z8
  replace V_pw_9 : Arv Z h9 pw _ .long (19 : Int32) [(.long (1 : Int64)), (.long (10 : Int64)), (.long (100 : Int64)), (.long (1000 : Int64)), (.long (10000 : Int64)), (.long (100000 : Int64)), (.long (1000000 : Int64)), (.long (10000000 : Int64)), (.long 0), (.long 0), (.long 0), (.long 0), (.long 0), (.long 0), (.long 0), (.long 0), (.long 0), (.long 0), (.long 0)] (.long 0) := V_pw_9
  have Kp9 : Keep h0 h9 [] := Kp8.wr W9 (Or.inr sz_pw)
  refine OGo.dup K (pc' := 53) at_52 rfl rfl ?_
  refine OGo.bipush K (pc' := 55) (z := 8) at_53 rfl rfl ?_
  refine OGo.ldcJ K (pc' := 58) (v := 100000000) (hw _ (List.mem_of_getElem? (i := 8) rfl)) at_55 rfl ?_
  refine OGo.lastore K (pc' := 59) (i := 8) V_pw_9 (by decide) rfl (Nat.le_of_ble_eq_true rfl) g_pw at_58 rfl ?_
  intro h10 W10 V_pw_10
  have Z10 : n0 ≤ h10.size := by rw [W10.size]; exact Z9
  replace V_pw_10 : Arv Z h10 pw _ .long (19 : Int32) [(.long (1 : Int64)), (.long (10 : Int64)), (.long (100 : Int64)), (.long (1000 : Int64)), (.long (10000 : Int64)), (.long (100000 : Int64)), (.long (1000000 : Int64)), (.long (10000000 : Int64)), (.long (100000000 : Int64)), (.long 0), (.long 0), (.long 0), (.long 0), (.long 0), (.long 0), (.long 0), (.long 0), (.long 0), (.long 0)] (.long 0) := V_pw_10
  have Kp10 : Keep h0 h10 [] := Kp9.wr W10 (Or.inr sz_pw)
  refine OGo.dup K (pc' := 60) at_59 rfl rfl ?_
  refine OGo.bipush K (pc' := 62) (z := 9) at_60 rfl rfl ?_
  refine OGo.ldcJ K (pc' := 65) (v := 1000000000) (hw _ (List.mem_of_getElem? (i := 9) rfl)) at_62 rfl ?_
  refine OGo.lastore K (pc' := 66) (i := 9) V_pw_10 (by decide) rfl (Nat.le_of_ble_eq_true rfl) g_pw at_65 rfl ?_
  intro h11 W11 V_pw_11
  have Z11 : n0 ≤ h11.size := by rw [W11.size]; exact Z10
  replace V_pw_11 : Arv Z h11 pw _ .long (19 : Int32) [(.long (1 : Int64)), (.long (10 : Int64)), (.long (100 : Int64)), (.long (1000 : Int64)), (.long (10000 : Int64)), (.long (100000 : Int64)), (.long (1000000 : Int64)), (.long (10000000 : Int64)), (.long (100000000 : Int64)), (.long (1000000000 : Int64)), (.long 0), (.long 0), (.long 0), (.long 0), (.long 0), (.long 0), (.long 0), (.long 0), (.long 0)] (.long 0) := V_pw_11
  have Kp11 : Keep h0 h11 [] := Kp10.wr W11 (Or.inr sz_pw)
  refine OGo.dup K (pc' := 67) at_66 rfl rfl ?_
  refine OGo.bipush K (pc' := 69) (z := 10) at_67 rfl rfl ?_
  refine OGo.ldcJ K (pc' := 72) (v := 10000000000) (hw _ (List.mem_of_getElem? (i := 10) rfl)) at_69 rfl ?_
  refine OGo.lastore K (pc' := 73) (i := 10) V_pw_11 (by decide) rfl (Nat.le_of_ble_eq_true rfl) g_pw at_72 rfl ?_
  intro h12 W12 V_pw_12
  have Z12 : n0 ≤ h12.size := by rw [W12.size]; exact Z11
  replace V_pw_12 : Arv Z h12 pw _ .long (19 : Int32) [(.long (1 : Int64)), (.long (10 : Int64)), (.long (100 : Int64)), (.long (1000 : Int64)), (.long (10000 : Int64)), (.long (100000 : Int64)), (.long (1000000 : Int64)), (.long (10000000 : Int64)), (.long (100000000 : Int64)), (.long (1000000000 : Int64)), (.long (10000000000 : Int64)), (.long 0), (.long 0), (.long 0), (.long 0), (.long 0), (.long 0), (.long 0), (.long 0)] (.long 0) := V_pw_12
  have Kp12 : Keep h0 h12 [] := Kp11.wr W12 (Or.inr sz_pw)
  refine OGo.dup K (pc' := 74) at_73 rfl rfl ?_
  refine OGo.bipush K (pc' := 76) (z := 11) at_74 rfl rfl ?_
  refine OGo.ldcJ K (pc' := 79) (v := 100000000000) (hw _ (List.mem_of_getElem? (i := 11) rfl)) at_76 rfl ?_
  refine OGo.lastore K (pc' := 80) (i := 11) V_pw_12 (by decide) rfl (Nat.le_of_ble_eq_true rfl) g_pw at_79 rfl ?_
  intro h13 W13 V_pw_13
  have Z13 : n0 ≤ h13.size := by rw [W13.size]; exact Z12
  replace V_pw_13 : Arv Z h13 pw _ .long (19 : Int32) [(.long (1 : Int64)), (.long (10 : Int64)), (.long (100 : Int64)), (.long (1000 : Int64)), (.long (10000 : Int64)), (.long (100000 : Int64)), (.long (1000000 : Int64)), (.long (10000000 : Int64)), (.long (100000000 : Int64)), (.long (1000000000 : Int64)), (.long (10000000000 : Int64)), (.long (100000000000 : Int64)), (.long 0), (.long 0), (.long 0), (.long 0), (.long 0), (.long 0), (.long 0)] (.long 0) := V_pw_13
  have Kp13 : Keep h0 h13 [] := Kp12.wr W13 (Or.inr sz_pw)
  refine OGo.dup K (pc' := 81) at_80 rfl rfl ?_
  refine OGo.bipush K (pc' := 83) (z := 12) at_81 rfl rfl ?_
  refine OGo.ldcJ K (pc' := 86) (v := 1000000000000) (hw _ (List.mem_of_getElem? (i := 12) rfl)) at_83 rfl ?_
  refine OGo.lastore K (pc' := 87) (i := 12) V_pw_13 (by decide) rfl (Nat.le_of_ble_eq_true rfl) g_pw at_86 rfl ?_
  intro h14 W14 V_pw_14
  have Z14 : n0 ≤ h14.size := by rw [W14.size]; exact Z13
  replace V_pw_14 : Arv Z h14 pw _ .long (19 : Int32) [(.long (1 : Int64)), (.long (10 : Int64)), (.long (100 : Int64)), (.long (1000 : Int64)), (.long (10000 : Int64)), (.long (100000 : Int64)), (.long (1000000 : Int64)), (.long (10000000 : Int64)), (.long (100000000 : Int64)), (.long (1000000000 : Int64)), (.long (10000000000 : Int64)), (.long (100000000000 : Int64)), (.long (1000000000000 : Int64)), (.long 0), (.long 0), (.long 0), (.long 0), (.long 0), (.long 0)] (.long 0) := V_pw_14
  have Kp14 : Keep h0 h14 [] := Kp13.wr W14 (Or.inr sz_pw)
  refine OGo.dup K (pc' := 88) at_87 rfl rfl ?_
  refine OGo.bipush K (pc' := 90) (z := 13) at_88 rfl rfl ?_
  refine OGo.ldcJ K (pc' := 93) (v := 10000000000000) (hw _ (List.mem_of_getElem? (i := 13) rfl)) at_90 rfl ?_
  refine OGo.lastore K (pc' := 94) (i := 13) V_pw_14 (by decide) rfl (Nat.le_of_ble_eq_true rfl) g_pw at_93 rfl ?_
  intro h15 W15 V_pw_15
  have Z15 : n0 ≤ h15.size := by rw [W15.size]; exact Z14
  replace V_pw_15 : Arv Z h15 pw _ .long (19 : Int32) [(.long (1 : Int64)), (.long (10 : Int64)), (.long (100 : Int64)), (.long (1000 : Int64)), (.long (10000 : Int64)), (.long (100000 : Int64)), (.long (1000000 : Int64)), (.long (10000000 : Int64)), (.long (100000000 : Int64)), (.long (1000000000 : Int64)), (.long (10000000000 : Int64)), (.long (100000000000 : Int64)), (.long (1000000000000 : Int64)), (.long (10000000000000 : Int64)), (.long 0), (.long 0), (.long 0), (.long 0), (.long 0)] (.long 0) := V_pw_15
  have Kp15 : Keep h0 h15 [] := Kp14.wr W15 (Or.inr sz_pw)
  refine OGo.dup K (pc' := 95) at_94 rfl rfl ?_
  refine OGo.bipush K (pc' := 97) (z := 14) at_95 rfl rfl ?_
  refine OGo.ldcJ K (pc' := 100) (v := 100000000000000) (hw _ (List.mem_of_getElem? (i := 14) rfl)) at_97 rfl ?_
  refine OGo.lastore K (pc' := 101) (i := 14) V_pw_15 (by decide) rfl (Nat.le_of_ble_eq_true rfl) g_pw at_100 rfl ?_
  intro h16 W16 V_pw_16
  have Z16 : n0 ≤ h16.size := by rw [W16.size]; exact Z15
  replace V_pw_16 : Arv Z h16 pw _ .long (19 : Int32) [(.long (1 : Int64)), (.long (10 : Int64)), (.long (100 : Int64)), (.long (1000 : Int64)), (.long (10000 : Int64)), (.long (100000 : Int64)), (.long (1000000 : Int64)), (.long (10000000 : Int64)), (.long (100000000 : Int64)), (.long (1000000000 : Int64)), (.long (10000000000 : Int64)), (.long (100000000000 : Int64)), (.long (1000000000000 : Int64)), (.long (10000000000000 : Int64)), (.long (100000000000000 : Int64)), (.long 0), (.long 0), (.long 0), (.long 0)] (.long 0) := V_pw_16
  have Kp16 : Keep h0 h16 [] := Kp15.wr W16 (Or.inr sz_pw)
  refine OGo.dup K (pc' := 102) at_101 rfl rfl ?_
  refine OGo.bipush K (pc' := 104) (z := 15) at_102 rfl rfl ?_
  refine OGo.ldcJ K (pc' := 107) (v := 1000000000000000) (hw _ (List.mem_of_getElem? (i := 15) rfl)) at_104 rfl ?_
  refine OGo.lastore K (pc' := 108) (i := 15) V_pw_16 (by decide) rfl (Nat.le_of_ble_eq_true rfl) g_pw at_107 rfl ?_
  intro h17 W17 V_pw_17
  have Z17 : n0 ≤ h17.size := by rw [W17.size]; exact Z16
  replace V_pw_17 : Arv Z h17 pw _ .long (19 : Int32) [(.long (1 : Int64)), (.long (10 : Int64)), (.long (100 : Int64)), (.long (1000 : Int64)), (.long (10000 : Int64)), (.long (100000 : Int64)), (.long (1000000 : Int64)), (.long (10000000 : Int64)), (.long (100000000 : Int64)), (.long (1000000000 : Int64)), (.long (10000000000 : Int64)), (.long (100000000000 : Int64)), (.long (1000000000000 : Int64)), (.long (10000000000000 : Int64)), (.long (100000000000000 : Int64)), (.long (1000000000000000 : Int64)), (.long 0), (.long 0), (.long 0)] (.long 0) := V_pw_17
  have Kp17 : Keep h0 h17 [] := Kp16.wr W17 (Or.inr sz_pw)
  refine OGo.dup K (pc' := 109) at_108 rfl rfl ?_
  refine OGo.bipush K (pc' := 111) (z := 16) at_109 rfl rfl ?_
  refine OGo.ldcJ K (pc' := 114) (v := 10000000000000000) (hw _ (List.mem_of_getElem? (i := 16) rfl)) at_111 rfl ?_
  refine OGo.lastore K (pc' := 115) (i := 16) V_pw_17 (by decide) rfl (Nat.le_of_ble_eq_true rfl) g_pw at_114 rfl ?_
  intro h18 W18 V_pw_18
  have Z18 : n0 ≤ h18.size := by rw [W18.size]; exact Z17
  replace V_pw_18 : Arv Z h18 pw _ .long (19 : Int32) [(.long (1 : Int64)), (.long (10 : Int64)), (.long (100 : Int64)), (.long (1000 : Int64)), (.long (10000 : Int64)), (.long (100000 : Int64)), (.long (1000000 : Int64)), (.long (10000000 : Int64)), (.long (100000000 : Int64)), (.long (1000000000 : Int64)), (.long (10000000000 : Int64)), (.long (100000000000 : Int64)), (.long (1000000000000 : Int64)), (.long (10000000000000 : Int64)), (.long (100000000000000 : Int64)), (.long (1000000000000000 : Int64)), (.long (10000000000000000 : Int64)), (.long 0), (.long 0)] (.long 0) := V_pw_18
  have Kp18 : Keep h0 h18 [] := Kp17.wr W18 (Or.inr sz_pw)
  refine OGo.dup K (pc' := 116) at_115 rfl rfl ?_
  refine OGo.bipush K (pc' := 118) (z := 17) at_116 rfl rfl ?_
  refine OGo.ldcJ K (pc' := 121) (v := 100000000000000000) (hw _ (List.mem_of_getElem? (i := 17) rfl)) at_118 rfl ?_
  refine OGo.lastore K (pc' := 122) (i := 17) V_pw_18 (by decide) rfl (Nat.le_of_ble_eq_true rfl) g_pw at_121 rfl ?_
  intro h19 W19 V_pw_19
  have Z19 : n0 ≤ h19.size := by rw [W19.size]; exact Z18
  replace V_pw_19 : Arv Z h19 pw _ .long (19 : Int32) [(.long (1 : Int64)), (.long (10 : Int64)), (.long (100 : Int64)), (.long (1000 : Int64)), (.long (10000 : Int64)), (.long (100000 : Int64)), (.long (1000000 : Int64)), (.long (10000000 : Int64)), (.long (100000000 : Int64)), (.long (1000000000 : Int64)), (.long (10000000000 : Int64)), (.long (100000000000 : Int64)), (.long (1000000000000 : Int64)), (.long (10000000000000 : Int64)), (.long (100000000000000 : Int64)), (.long (1000000000000000 : Int64)), (.long (10000000000000000 : Int64)), (.long (100000000000000000 : Int64)), (.long 0)] (.long 0) := V_pw_19
  have Kp19 : Keep h0 h19 [] := Kp18.wr W19 (Or.inr sz_pw)
  refine OGo.dup K (pc' := 123) at_122 rfl rfl ?_
  refine OGo.bipush K (pc' := 125) (z := 18) at_123 rfl rfl ?_
  refine OGo.ldcJ K (pc' := 128) (v := 1000000000000000000) (hw _ (List.mem_of_getElem? (i := 18) rfl)) at_125 rfl ?_
  refine OGo.lastore K (pc' := 129) (i := 18) V_pw_19 (by decide) rfl (Nat.le_of_ble_eq_true rfl) g_pw at_128 rfl ?_
  intro h20 W20 V_pw_20
  have Z20 : n0 ≤ h20.size := by rw [W20.size]; exact Z19
  replace V_pw_20 : Arv Z h20 pw _ .long (19 : Int32) [(.long (1 : Int64)), (.long (10 : Int64)), (.long (100 : Int64)), (.long (1000 : Int64)), (.long (10000 : Int64)), (.long (100000 : Int64)), (.long (1000000 : Int64)), (.long (10000000 : Int64)), (.long (100000000 : Int64)), (.long (1000000000 : Int64)), (.long (10000000000 : Int64)), (.long (100000000000 : Int64)), (.long (1000000000000 : Int64)), (.long (10000000000000 : Int64)), (.long (100000000000000 : Int64)), (.long (1000000000000000 : Int64)), (.long (10000000000000000 : Int64)), (.long (100000000000000000 : Int64)), (.long (1000000000000000000 : Int64))] (.long 0) := V_pw_20
  have Kp20 : Keep h0 h20 [] := Kp19.wr W20 (Or.inr sz_pw)
  refine OGo.astoreN K (pc' := 130) (Ls' := #[.val (.long v0), .second, .val (.int v1), .val (.ref pw), .unset, .unset, .unset, .unset, .unset, .unset, .unset, .unset]) at_129 rfl rfl rfl ?_
  refine OGo.iconst K (pc' := 131) (z := 2) at_130 rfl rfl ?_
  refine OGo.iloadN K (pc' := 132) at_131 rfl rfl ?_
  refine OGo.ldcI K (pc' := 134) (v := 2147483647) (hw _ (List.mem_of_getElem? (i := 19) rfl)) at_132 rfl ?_
  refine OGo.iand K (pc' := 135) at_134 rfl ?_
  refine OGo.bipush K (pc' := 137) (z := 19) at_135 rfl rfl ?_
  refine OGo.irem K (pc' := 138) at_137 rfl (by decide) ?_
  refine OGo.iadd K (pc' := 139) at_138 rfl ?_
  obtain ⟨D, hD1, hD2, eD⟩ := own_keysize v1
  rw [show ((2 : Int32) + ((v1 &&& (2147483647 : Int32)) % (19 : Int32))) = (Int32.ofNat (D + 1)) from eD]
  refine OGo.istore K (pc' := 141) (Ls' := #[.val (.long v0), .second, .val (.int v1), .val (.ref pw), .val (.int (Int32.ofNat (D + 1))), .unset, .unset, .unset, .unset, .unset, .unset, .unset]) at_139 rfl rfl ?_
  refine OGo.iload K (pc' := 143) at_141 rfl rfl ?_
  refine OGo.iconst K (pc' := 144) (z := 1) at_143 rfl rfl ?_
  refine OGo.isub K (pc' := 145) at_144 rfl ?_
  rw [show ((Int32.ofNat (D + 1)) - (1 : Int32)) = (Int32.ofNat D) from dec_ofNat D]
  have H2 := own_pows
  refine OGo.istore K (pc' := 147) (Ls' := #[.val (.long v0), .second, .val (.int v1), .val (.ref pw), .val (.int (Int32.ofNat (D + 1))), .val (.int (Int32.ofNat D)), .unset, .unset, .unset, .unset, .unset, .unset]) at_145 rfl rfl ?_
  refine OGo.iload K (pc' := 149) at_147 rfl rfl ?_
  refine OGo.bipush K (pc' := 151) (z := 19) at_149 rfl rfl ?_
  suffices J : ∀ (lim : Int64) (M : Nat) (hl : lim.toInt = (M : Int)) (M1 : 1 ≤ M) (M2 : M < 10 ^ D), OGo p l e room_1 s m #[(.long v0), (.int v1)] below meth c n0 (OV fun w h => w = .int 1) h20 1 19 166 #[.val (.long v0), .second, .val (.int v1), .val (.ref pw), .val (.int (Int32.ofNat (D + 1))), .val (.int (Int32.ofNat D)), .unset, .unset, .unset, .unset, .unset, .unset] [(.long lim)] by
    refine OGo.icmpNe K (pc' := 154) (pcY := 160) at_151 rfl (by decide) rfl (fun hq => ?_) (fun hq => ?_)
    · skip
      have hD : D < 19 := by
        apply Nat.lt_of_le_of_ne hD2; intro q; rw [q] at hq; exact hq rfl
      refine OGo.aloadN K (pc' := 161) at_160 rfl rfl rfl ?_
      refine OGo.iload K (pc' := 163) at_161 rfl rfl ?_
      refine OGo.laload K (pc' := 164) (v := (.long (Int64.ofNat (10 ^ D)))) V_pw_20 ⟨(own_s32 (n := D) (by omega)).2.1, (own_slt (n := D) (N := 19) (by omega) (by omega)).mpr hD⟩ (by rw [(own_s32 (n := D) (by omega)).2.2]; exact H2 _ hD) at_163 rfl ?_
      refine OGo.lconst K (pc' := 165) (z := 1) at_164 rfl rfl ?_
      refine OGo.lsub K (pc' := 166) at_165 rfl ?_
      obtain ⟨l1, l2, l3⟩ := own_lim hD1 hD
      exact J _ _ l1 l2 l3
    · skip
      have hD : D = 19 := by
        have := congrArg Int32.toInt hq; rw [(own_s32 (n := D) (by omega)).1, show (19 : Int32).toInt = 19 from rfl] at this; omega
      refine OGo.ldcJ K (pc' := 157) (v := 9223372036854775807) (hw _ (List.mem_of_getElem? (i := 20) rfl)) at_154 rfl ?_
      refine OGo.goto K (pc' := 166) at_157 (by decide) rfl ?_
      exact J _ 9223372036854775807 rfl (by decide) (by rw [hD]; decide)
  intro lim M hl M1 M2
  refine OGo.lstore K (pc' := 168) (Ls' := #[.val (.long v0), .second, .val (.int v1), .val (.ref pw), .val (.int (Int32.ofNat (D + 1))), .val (.int (Int32.ofNat D)), .val (.long lim), .second, .unset, .unset, .unset, .unset]) at_166 rfl rfl ?_
  refine OGo.lconst K (pc' := 169) (z := 1) at_168 rfl rfl ?_
  refine OGo.lloadN K (pc' := 170) at_169 rfl rfl ?_
  refine OGo.ldcJ K (pc' := 173) (v := 9223372036854775807) (hw _ (List.mem_of_getElem? (i := 20) rfl)) at_170 rfl ?_
  refine OGo.land K (pc' := 174) at_173 rfl ?_
  refine OGo.lload K (pc' := 176) at_174 rfl rfl ?_
  refine OGo.lrem K (pc' := 177) at_176 rfl (fun q => by rw [q, show (0 : Int64).toInt = 0 from rfl] at hl; omega) ?_
  refine OGo.ladd K (pc' := 178) at_177 rfl ?_
  obtain ⟨r, hv, r1, r2⟩ := own_rank (v := v0) hl M1
  have hr : r < 10 ^ D := Nat.lt_of_le_of_lt r2 M2
  generalize ((1 : Int64) + ((v0 &&& (9223372036854775807 : Int64)) - ((v0 &&& (9223372036854775807 : Int64)) / lim) * lim)) = v at hv ⊢
  refine OGo.lstore K (pc' := 180) (Ls' := #[.val (.long v0), .second, .val (.int v1), .val (.ref pw), .val (.int (Int32.ofNat (D + 1))), .val (.int (Int32.ofNat D)), .val (.long lim), .second, .val (.long v), .second, .unset, .unset]) at_178 rfl rfl ?_
  refine OGo.newO K (pc' := 183) (cells' := 2) (slots' := 22) (hw _ (List.mem_of_getElem? (i := 21) rfl)) (hw _ (List.mem_of_getElem? (i := 22) rfl)) (hw _ (List.mem_of_getElem? (i := 23) rfl)) at_180 rfl rfl rfl (by decide) (by decide) ?_
  intro h21 a gq21 E21 A21 D21
  have ne_pw_a : pw ≠ a := Nat.ne_of_lt (Nat.lt_of_lt_of_le V_pw_20.lt (Nat.le_of_eq gq21.symm))
  have g_a : n0 ≤ a := Nat.le_trans Z20 (Nat.le_of_eq gq21.symm)
  have sz_a : h0.size ≤ a := Nat.le_trans Kp20.1 (Nat.le_of_eq gq21.symm)
  have Z21 : n0 ≤ h21.size := Nat.le_trans Z20 E21.1
  have Kp21 : Keep h0 h21 [] := Kp20.ext E21
  have V_pw_21 := V_pw_20.ext E21
  have F_keys_a : Fld Z h21 a "com/example/intervale/intervale/bench/FillKeys" "keys" "J" (.long (0 : Int64)) := D21 (Or.inr (hw _ (List.mem_of_getElem? (i := 76) rfl))) (ty := .long) (by decide)
  have F_keySize_a : Fld Z h21 a "com/example/intervale/intervale/bench/FillKeys" "keySize" "I" (.int (0 : Int32)) := D21 (Or.inr (hw _ (List.mem_of_getElem? (i := 78) rfl))) (ty := .int) (by decide)
  have F_valueSize_a : Fld Z h21 a "com/example/intervale/intervale/bench/FillKeys" "valueSize" "I" (.int (0 : Int32)) := D21 (Or.inr (hw _ (List.mem_of_getElem? (i := 80) rfl))) (ty := .int) (by decide)
  refine OGo.dup K (pc' := 184) at_183 rfl rfl ?_
  refine OGo.lload K (pc' := 186) at_184 rfl rfl ?_
  refine OGo.iload K (pc' := 188) at_186 rfl rfl ?_
  refine OGo.iconst K (pc' := 189) (z := 1) at_188 rfl rfl ?_
  refine OGo.callIN K (pc' := 192) (y := (⟨"com/example/intervale/intervale/bench/FillKeys", "<init>", "(JII)V"⟩ : MethodName)) (a := a) (W := 1) (cells' := 4) (slots' := 45) (argsL := [(.long v), (.int (Int32.ofNat (D + 1))), (.int (1 : Int32))]) (st := [(.ref a)]) rfl (hw _ (List.mem_of_getElem? (i := 24) rfl)) (hw _ (List.mem_of_getElem? (i := 25) rfl)) (hw _ (List.mem_of_getElem? (i := 23) rfl)) (hw _ (List.mem_of_getElem? (i := 26) rfl)) (by decide) (own_rm1 l Z a0 hw a v r D cz d1 d2 k1 k2 u1 u2 _ _ _ h21 n0 Z21 A21 F_keys_a F_keySize_a F_valueSize_a g_a hv r1 hD2 hr (Sc.keep Kp21 all0) hcz (D1.keep Kp21 all0) (D2.keep Kp21 all0)) at_189 rfl rfl (lenOf own_pd12 rfl) (by show 2 * 0 + _ ≤ _; exact Nat.le_of_eq rfl) (by decide) (by decide) rfl rfl (by decide) (by decide) ?_
  rintro h22 K22
  have Z22 : n0 ≤ h22.size := Nat.le_trans Z21 K22.1
  have V_pw_22 := V_pw_21.keep K22 (ninS ne_pw_a nin0)
  have A21_22 := A21.keep K22
  have Kp22 : Keep h0 h22 [] := Kp21.trans K22 (allS (Or.inr sz_a) all0)
  refine OGo.astore K (pc' := 194) (Ls' := #[.val (.long v0), .second, .val (.int v1), .val (.ref pw), .val (.int (Int32.ofNat (D + 1))), .val (.int (Int32.ofNat D)), .val (.long lim), .second, .val (.long v), .second, .val (.ref a), .unset]) at_192 rfl rfl rfl ?_
  refine OGo.iload K (pc' := 196) at_194 rfl rfl ?_
  refine OGo.newP K (pc' := 198) (cap := 20) (cells' := 5) (slots' := 65) (hw _ (List.mem_of_getElem? (i := 45) rfl)) at_196 rfl (own_s32 (n := D + 1) (by omega)).2.1 (by rw [(own_s32 (n := D + 1) (by omega)).2.2]; omega) (by decide) rfl rfl (by decide) (by decide) ?_
  intro h23 y k_y gq23 E23 V_y
  have ne_pw_y : pw ≠ y := Nat.ne_of_lt (Nat.lt_of_lt_of_le V_pw_22.lt (Nat.le_of_eq gq23.symm))
  have ne_a_y : a ≠ y := Nat.ne_of_lt (Nat.lt_of_lt_of_le A21_22.lt (Nat.le_of_eq gq23.symm))
  have g_y : n0 ≤ y := Nat.le_trans Z22 (Nat.le_of_eq gq23.symm)
  have sz_y : h0.size ≤ y := Nat.le_trans Kp22.1 (Nat.le_of_eq gq23.symm)
  have Z23 : n0 ≤ h23.size := Nat.le_trans Z22 E23.1
  have Kp23 : Keep h0 h23 [] := Kp22.ext E23
  have V_pw_23 := V_pw_22.ext E23
  have A21_23 := A21_22.ext E23
  replace V_y := V_y.pad (pad_rep [] _ (D + 1))
  refine OGo.astore K (pc' := 200) (Ls' := #[.val (.long v0), .second, .val (.int v1), .val (.ref pw), .val (.int (Int32.ofNat (D + 1))), .val (.int (Int32.ofNat D)), .val (.long lim), .second, .val (.long v), .second, .val (.ref a), .val (.ref y)]) at_198 rfl rfl rfl ?_
  refine OGo.aload K (pc' := 202) at_200 rfl rfl rfl ?_
  refine OGo.lload K (pc' := 204) at_202 rfl rfl ?_
  refine OGo.aload K (pc' := 206) at_204 rfl rfl rfl ?_
  refine OGo.callVN K (pc' := 209) (y := (⟨"com/example/intervale/intervale/bench/FillKeys", "key", "(J[B)V"⟩ : MethodName)) (z := (⟨"com/example/intervale/intervale/bench/FillKeys", "key", "(J[B)V"⟩ : MethodName)) (a := a) (W := 0) (cells' := 5) (slots' := 65) (argsL := [(.long v), (.ref y)]) (st := []) A21_23 (hw _ (List.mem_of_getElem? (i := 81) rfl)) (hw _ (List.mem_of_getElem? (i := 82) rfl)) (notFace_of_selects (args := #[]) (mvT K.hZ (hw _ (List.mem_of_getElem? (i := 84) rfl)))) (hw _ (List.mem_of_getElem? (i := 84) rfl)) (hw _ (List.mem_of_getElem? (i := 83) rfl)) (hw _ (List.mem_of_getElem? (i := 23) rfl)) (hw _ (List.mem_of_getElem? (i := 85) rfl)) (by decide) (own_rm10 l Z a0 hw a y v r D _ _ h23 n0 Z23 hv ⟨hD1, hD2⟩ V_y (by simp) g_y) at_206 rfl rfl (lenOf own_pd13 rfl) (by show 2 * 0 + _ ≤ _; exact Nat.le_of_eq rfl) (by decide) (by decide) rfl rfl (by decide) (by decide) ?_
  rintro h24 ⟨K24, us, V24, p0, p1⟩
  have Z24 : n0 ≤ h24.size := Nat.le_trans Z23 K24.1
  have V_pw_24 := V_pw_23.keep K24 (ninS ne_pw_y nin0)
  have A21_24 := A21_23.keep K24
  have Kp24 : Keep h0 h24 [] := Kp23.trans K24 (allS (Or.inr sz_y) all0)
  refine OGo.aload K (pc' := 211) at_209 rfl rfl rfl ?_
  refine OGo.iconst K (pc' := 212) (z := 0) at_211 rfl rfl ?_
  refine OGo.baload K (pc' := 213) (v := (.int (107 : Int32))) V24 ⟨by decide, (own_slt (n := 0) (N := D + 1) (by omega) (by omega)).mpr (by omega)⟩ p0 at_212 rfl ?_
  refine OGo.bipush K (pc' := 215) (z := 107) at_213 rfl rfl ?_
  refine OGo.icmpNe K (pc' := 218) (pcY := 502) at_215 rfl (by decide) rfl (fun hc215 => absurd (rfl : (107 : Int32) = (107 : Int32)) hc215) (fun hc215 => ?_)
  refine OGo.aload K (pc' := 220) at_218 rfl rfl rfl ?_
  refine OGo.iload K (pc' := 222) at_220 rfl rfl ?_
  refine OGo.lload K (pc' := 224) at_222 rfl rfl ?_
  refine OGo.aloadN K (pc' := 225) at_224 rfl rfl rfl ?_
  refine OGo.iconst K (pc' := 226) (z := 1) at_225 rfl rfl ?_
  refine OGo.callSV K (pc' := 229) (y := (⟨"com/example/intervale/intervale/bench/FillKeysKeyPinLaw", "at", "([BIJ[JI)Z"⟩ : MethodName)) (W := 0) (cells' := 5) (slots' := 65) (argsL := [(.ref y), (.int (Int32.ofNat (D + 1))), (.long v), (.ref pw), (.int (1 : Int32))]) (st := []) (hw _ (List.mem_of_getElem? (i := 88) rfl)) (hw _ (List.mem_of_getElem? (i := 89) rfl)) (hw _ (List.mem_of_getElem? (i := 90) rfl)) (hw _ (List.mem_of_getElem? (i := 91) rfl)) (by decide) (own_rm11 l Z a0 hw y pw v r D 1 _ _ _ _ _ h24 n0 Z24 hv ⟨hD1, hD2⟩ ⟨by decide, by decide⟩ rfl V24 V_pw_24 p1 H2) at_226 rfl rfl (lenOf own_pd14 rfl) (by show 2 * 0 + _ ≤ _; exact Nat.le_of_eq rfl) (by decide) (by decide) rfl rfl (by decide) (by decide) ?_
  rintro _ h25 ⟨rfl, e25⟩
  rw [e25]
  show OGo p l e _ s m _ below meth c n0 _ h24 5 65 229 #[.val (.long v0), .second, .val (.int v1), .val (.ref pw), .val (.int (Int32.ofNat (D + 1))), .val (.int (Int32.ofNat D)), .val (.long lim), .second, .val (.long v), .second, .val (.ref a), .val (.ref y)] [(.int (1 : Int32))]
  refine OGo.ifEq K (pc' := 232) (pcY := 502) at_229 rfl (by decide) rfl (fun hc229 => absurd hc229 (by decide : ¬ (1 : Int32) = (0 : Int32))) (fun hc229 => ?_)
  refine OGo.aload K (pc' := 234) at_232 rfl rfl rfl ?_
  refine OGo.iload K (pc' := 236) at_234 rfl rfl ?_
  refine OGo.lload K (pc' := 238) at_236 rfl rfl ?_
  refine OGo.aloadN K (pc' := 239) at_238 rfl rfl rfl ?_
  refine OGo.iconst K (pc' := 240) (z := 2) at_239 rfl rfl ?_
  refine OGo.callSV K (pc' := 243) (y := (⟨"com/example/intervale/intervale/bench/FillKeysKeyPinLaw", "at", "([BIJ[JI)Z"⟩ : MethodName)) (W := 0) (cells' := 5) (slots' := 65) (argsL := [(.ref y), (.int (Int32.ofNat (D + 1))), (.long v), (.ref pw), (.int (2 : Int32))]) (st := []) (hw _ (List.mem_of_getElem? (i := 88) rfl)) (hw _ (List.mem_of_getElem? (i := 89) rfl)) (hw _ (List.mem_of_getElem? (i := 90) rfl)) (hw _ (List.mem_of_getElem? (i := 91) rfl)) (by decide) (own_rm11 l Z a0 hw y pw v r D 2 _ _ _ _ _ h24 n0 Z24 hv ⟨hD1, hD2⟩ ⟨by decide, by decide⟩ rfl V24 V_pw_24 p1 H2) at_240 rfl rfl (lenOf own_pd14 rfl) (by show 2 * 0 + _ ≤ _; exact Nat.le_of_eq rfl) (by decide) (by decide) rfl rfl (by decide) (by decide) ?_
  rintro _ h26 ⟨rfl, e26⟩
  rw [e26]
  show OGo p l e _ s m _ below meth c n0 _ h24 5 65 243 #[.val (.long v0), .second, .val (.int v1), .val (.ref pw), .val (.int (Int32.ofNat (D + 1))), .val (.int (Int32.ofNat D)), .val (.long lim), .second, .val (.long v), .second, .val (.ref a), .val (.ref y)] [(.int (1 : Int32))]
  refine OGo.ifEq K (pc' := 246) (pcY := 502) at_243 rfl (by decide) rfl (fun hc243 => absurd hc243 (by decide : ¬ (1 : Int32) = (0 : Int32))) (fun hc243 => ?_)
  refine OGo.aload K (pc' := 248) at_246 rfl rfl rfl ?_
  refine OGo.iload K (pc' := 250) at_248 rfl rfl ?_
  refine OGo.lload K (pc' := 252) at_250 rfl rfl ?_
  refine OGo.aloadN K (pc' := 253) at_252 rfl rfl rfl ?_
  refine OGo.iconst K (pc' := 254) (z := 3) at_253 rfl rfl ?_
  refine OGo.callSV K (pc' := 257) (y := (⟨"com/example/intervale/intervale/bench/FillKeysKeyPinLaw", "at", "([BIJ[JI)Z"⟩ : MethodName)) (W := 0) (cells' := 5) (slots' := 65) (argsL := [(.ref y), (.int (Int32.ofNat (D + 1))), (.long v), (.ref pw), (.int (3 : Int32))]) (st := []) (hw _ (List.mem_of_getElem? (i := 88) rfl)) (hw _ (List.mem_of_getElem? (i := 89) rfl)) (hw _ (List.mem_of_getElem? (i := 90) rfl)) (hw _ (List.mem_of_getElem? (i := 91) rfl)) (by decide) (own_rm11 l Z a0 hw y pw v r D 3 _ _ _ _ _ h24 n0 Z24 hv ⟨hD1, hD2⟩ ⟨by decide, by decide⟩ rfl V24 V_pw_24 p1 H2) at_254 rfl rfl (lenOf own_pd14 rfl) (by show 2 * 0 + _ ≤ _; exact Nat.le_of_eq rfl) (by decide) (by decide) rfl rfl (by decide) (by decide) ?_
  rintro _ h27 ⟨rfl, e27⟩
  rw [e27]
  show OGo p l e _ s m _ below meth c n0 _ h24 5 65 257 #[.val (.long v0), .second, .val (.int v1), .val (.ref pw), .val (.int (Int32.ofNat (D + 1))), .val (.int (Int32.ofNat D)), .val (.long lim), .second, .val (.long v), .second, .val (.ref a), .val (.ref y)] [(.int (1 : Int32))]
  refine OGo.ifEq K (pc' := 260) (pcY := 502) at_257 rfl (by decide) rfl (fun hc257 => absurd hc257 (by decide : ¬ (1 : Int32) = (0 : Int32))) (fun hc257 => ?_)
  refine OGo.aload K (pc' := 262) at_260 rfl rfl rfl ?_
  refine OGo.iload K (pc' := 264) at_262 rfl rfl ?_
  refine OGo.lload K (pc' := 266) at_264 rfl rfl ?_
  refine OGo.aloadN K (pc' := 267) at_266 rfl rfl rfl ?_
  refine OGo.iconst K (pc' := 268) (z := 4) at_267 rfl rfl ?_
  refine OGo.callSV K (pc' := 271) (y := (⟨"com/example/intervale/intervale/bench/FillKeysKeyPinLaw", "at", "([BIJ[JI)Z"⟩ : MethodName)) (W := 0) (cells' := 5) (slots' := 65) (argsL := [(.ref y), (.int (Int32.ofNat (D + 1))), (.long v), (.ref pw), (.int (4 : Int32))]) (st := []) (hw _ (List.mem_of_getElem? (i := 88) rfl)) (hw _ (List.mem_of_getElem? (i := 89) rfl)) (hw _ (List.mem_of_getElem? (i := 90) rfl)) (hw _ (List.mem_of_getElem? (i := 91) rfl)) (by decide) (own_rm11 l Z a0 hw y pw v r D 4 _ _ _ _ _ h24 n0 Z24 hv ⟨hD1, hD2⟩ ⟨by decide, by decide⟩ rfl V24 V_pw_24 p1 H2) at_268 rfl rfl (lenOf own_pd14 rfl) (by show 2 * 0 + _ ≤ _; exact Nat.le_of_eq rfl) (by decide) (by decide) rfl rfl (by decide) (by decide) ?_
  rintro _ h28 ⟨rfl, e28⟩
  rw [e28]
  show OGo p l e _ s m _ below meth c n0 _ h24 5 65 271 #[.val (.long v0), .second, .val (.int v1), .val (.ref pw), .val (.int (Int32.ofNat (D + 1))), .val (.int (Int32.ofNat D)), .val (.long lim), .second, .val (.long v), .second, .val (.ref a), .val (.ref y)] [(.int (1 : Int32))]
  refine OGo.ifEq K (pc' := 274) (pcY := 502) at_271 rfl (by decide) rfl (fun hc271 => absurd hc271 (by decide : ¬ (1 : Int32) = (0 : Int32))) (fun hc271 => ?_)
  refine OGo.aload K (pc' := 276) at_274 rfl rfl rfl ?_
  refine OGo.iload K (pc' := 278) at_276 rfl rfl ?_
  refine OGo.lload K (pc' := 280) at_278 rfl rfl ?_
  refine OGo.aloadN K (pc' := 281) at_280 rfl rfl rfl ?_
  refine OGo.iconst K (pc' := 282) (z := 5) at_281 rfl rfl ?_
  refine OGo.callSV K (pc' := 285) (y := (⟨"com/example/intervale/intervale/bench/FillKeysKeyPinLaw", "at", "([BIJ[JI)Z"⟩ : MethodName)) (W := 0) (cells' := 5) (slots' := 65) (argsL := [(.ref y), (.int (Int32.ofNat (D + 1))), (.long v), (.ref pw), (.int (5 : Int32))]) (st := []) (hw _ (List.mem_of_getElem? (i := 88) rfl)) (hw _ (List.mem_of_getElem? (i := 89) rfl)) (hw _ (List.mem_of_getElem? (i := 90) rfl)) (hw _ (List.mem_of_getElem? (i := 91) rfl)) (by decide) (own_rm11 l Z a0 hw y pw v r D 5 _ _ _ _ _ h24 n0 Z24 hv ⟨hD1, hD2⟩ ⟨by decide, by decide⟩ rfl V24 V_pw_24 p1 H2) at_282 rfl rfl (lenOf own_pd14 rfl) (by show 2 * 0 + _ ≤ _; exact Nat.le_of_eq rfl) (by decide) (by decide) rfl rfl (by decide) (by decide) ?_
  rintro _ h29 ⟨rfl, e29⟩
  rw [e29]
  show OGo p l e _ s m _ below meth c n0 _ h24 5 65 285 #[.val (.long v0), .second, .val (.int v1), .val (.ref pw), .val (.int (Int32.ofNat (D + 1))), .val (.int (Int32.ofNat D)), .val (.long lim), .second, .val (.long v), .second, .val (.ref a), .val (.ref y)] [(.int (1 : Int32))]
  refine OGo.ifEq K (pc' := 288) (pcY := 502) at_285 rfl (by decide) rfl (fun hc285 => absurd hc285 (by decide : ¬ (1 : Int32) = (0 : Int32))) (fun hc285 => ?_)
  refine OGo.aload K (pc' := 290) at_288 rfl rfl rfl ?_
  refine OGo.iload K (pc' := 292) at_290 rfl rfl ?_
  refine OGo.lload K (pc' := 294) at_292 rfl rfl ?_
  refine OGo.aloadN K (pc' := 295) at_294 rfl rfl rfl ?_
  refine OGo.bipush K (pc' := 297) (z := 6) at_295 rfl rfl ?_
  refine OGo.callSV K (pc' := 300) (y := (⟨"com/example/intervale/intervale/bench/FillKeysKeyPinLaw", "at", "([BIJ[JI)Z"⟩ : MethodName)) (W := 0) (cells' := 5) (slots' := 65) (argsL := [(.ref y), (.int (Int32.ofNat (D + 1))), (.long v), (.ref pw), (.int (6 : Int32))]) (st := []) (hw _ (List.mem_of_getElem? (i := 88) rfl)) (hw _ (List.mem_of_getElem? (i := 89) rfl)) (hw _ (List.mem_of_getElem? (i := 90) rfl)) (hw _ (List.mem_of_getElem? (i := 91) rfl)) (by decide) (own_rm11 l Z a0 hw y pw v r D 6 _ _ _ _ _ h24 n0 Z24 hv ⟨hD1, hD2⟩ ⟨by decide, by decide⟩ rfl V24 V_pw_24 p1 H2) at_297 rfl rfl (lenOf own_pd14 rfl) (by show 2 * 0 + _ ≤ _; exact Nat.le_of_eq rfl) (by decide) (by decide) rfl rfl (by decide) (by decide) ?_
  rintro _ h30 ⟨rfl, e30⟩
  rw [e30]
  show OGo p l e _ s m _ below meth c n0 _ h24 5 65 300 #[.val (.long v0), .second, .val (.int v1), .val (.ref pw), .val (.int (Int32.ofNat (D + 1))), .val (.int (Int32.ofNat D)), .val (.long lim), .second, .val (.long v), .second, .val (.ref a), .val (.ref y)] [(.int (1 : Int32))]
  refine OGo.ifEq K (pc' := 303) (pcY := 502) at_300 rfl (by decide) rfl (fun hc300 => absurd hc300 (by decide : ¬ (1 : Int32) = (0 : Int32))) (fun hc300 => ?_)
  refine OGo.aload K (pc' := 305) at_303 rfl rfl rfl ?_
  refine OGo.iload K (pc' := 307) at_305 rfl rfl ?_
  refine OGo.lload K (pc' := 309) at_307 rfl rfl ?_
  refine OGo.aloadN K (pc' := 310) at_309 rfl rfl rfl ?_
  refine OGo.bipush K (pc' := 312) (z := 7) at_310 rfl rfl ?_
  refine OGo.callSV K (pc' := 315) (y := (⟨"com/example/intervale/intervale/bench/FillKeysKeyPinLaw", "at", "([BIJ[JI)Z"⟩ : MethodName)) (W := 0) (cells' := 5) (slots' := 65) (argsL := [(.ref y), (.int (Int32.ofNat (D + 1))), (.long v), (.ref pw), (.int (7 : Int32))]) (st := []) (hw _ (List.mem_of_getElem? (i := 88) rfl)) (hw _ (List.mem_of_getElem? (i := 89) rfl)) (hw _ (List.mem_of_getElem? (i := 90) rfl)) (hw _ (List.mem_of_getElem? (i := 91) rfl)) (by decide) (own_rm11 l Z a0 hw y pw v r D 7 _ _ _ _ _ h24 n0 Z24 hv ⟨hD1, hD2⟩ ⟨by decide, by decide⟩ rfl V24 V_pw_24 p1 H2) at_312 rfl rfl (lenOf own_pd14 rfl) (by show 2 * 0 + _ ≤ _; exact Nat.le_of_eq rfl) (by decide) (by decide) rfl rfl (by decide) (by decide) ?_
  rintro _ h31 ⟨rfl, e31⟩
  rw [e31]
  show OGo p l e _ s m _ below meth c n0 _ h24 5 65 315 #[.val (.long v0), .second, .val (.int v1), .val (.ref pw), .val (.int (Int32.ofNat (D + 1))), .val (.int (Int32.ofNat D)), .val (.long lim), .second, .val (.long v), .second, .val (.ref a), .val (.ref y)] [(.int (1 : Int32))]
  refine OGo.ifEq K (pc' := 318) (pcY := 502) at_315 rfl (by decide) rfl (fun hc315 => absurd hc315 (by decide : ¬ (1 : Int32) = (0 : Int32))) (fun hc315 => ?_)
  refine OGo.aload K (pc' := 320) at_318 rfl rfl rfl ?_
  refine OGo.iload K (pc' := 322) at_320 rfl rfl ?_
  refine OGo.lload K (pc' := 324) at_322 rfl rfl ?_
  refine OGo.aloadN K (pc' := 325) at_324 rfl rfl rfl ?_
  refine OGo.bipush K (pc' := 327) (z := 8) at_325 rfl rfl ?_
  refine OGo.callSV K (pc' := 330) (y := (⟨"com/example/intervale/intervale/bench/FillKeysKeyPinLaw", "at", "([BIJ[JI)Z"⟩ : MethodName)) (W := 0) (cells' := 5) (slots' := 65) (argsL := [(.ref y), (.int (Int32.ofNat (D + 1))), (.long v), (.ref pw), (.int (8 : Int32))]) (st := []) (hw _ (List.mem_of_getElem? (i := 88) rfl)) (hw _ (List.mem_of_getElem? (i := 89) rfl)) (hw _ (List.mem_of_getElem? (i := 90) rfl)) (hw _ (List.mem_of_getElem? (i := 91) rfl)) (by decide) (own_rm11 l Z a0 hw y pw v r D 8 _ _ _ _ _ h24 n0 Z24 hv ⟨hD1, hD2⟩ ⟨by decide, by decide⟩ rfl V24 V_pw_24 p1 H2) at_327 rfl rfl (lenOf own_pd14 rfl) (by show 2 * 0 + _ ≤ _; exact Nat.le_of_eq rfl) (by decide) (by decide) rfl rfl (by decide) (by decide) ?_
  rintro _ h32 ⟨rfl, e32⟩
  rw [e32]
  show OGo p l e _ s m _ below meth c n0 _ h24 5 65 330 #[.val (.long v0), .second, .val (.int v1), .val (.ref pw), .val (.int (Int32.ofNat (D + 1))), .val (.int (Int32.ofNat D)), .val (.long lim), .second, .val (.long v), .second, .val (.ref a), .val (.ref y)] [(.int (1 : Int32))]
  refine OGo.ifEq K (pc' := 333) (pcY := 502) at_330 rfl (by decide) rfl (fun hc330 => absurd hc330 (by decide : ¬ (1 : Int32) = (0 : Int32))) (fun hc330 => ?_)
  refine OGo.aload K (pc' := 335) at_333 rfl rfl rfl ?_
  refine OGo.iload K (pc' := 337) at_335 rfl rfl ?_
  refine OGo.lload K (pc' := 339) at_337 rfl rfl ?_
  refine OGo.aloadN K (pc' := 340) at_339 rfl rfl rfl ?_
  refine OGo.bipush K (pc' := 342) (z := 9) at_340 rfl rfl ?_
  refine OGo.callSV K (pc' := 345) (y := (⟨"com/example/intervale/intervale/bench/FillKeysKeyPinLaw", "at", "([BIJ[JI)Z"⟩ : MethodName)) (W := 0) (cells' := 5) (slots' := 65) (argsL := [(.ref y), (.int (Int32.ofNat (D + 1))), (.long v), (.ref pw), (.int (9 : Int32))]) (st := []) (hw _ (List.mem_of_getElem? (i := 88) rfl)) (hw _ (List.mem_of_getElem? (i := 89) rfl)) (hw _ (List.mem_of_getElem? (i := 90) rfl)) (hw _ (List.mem_of_getElem? (i := 91) rfl)) (by decide) (own_rm11 l Z a0 hw y pw v r D 9 _ _ _ _ _ h24 n0 Z24 hv ⟨hD1, hD2⟩ ⟨by decide, by decide⟩ rfl V24 V_pw_24 p1 H2) at_342 rfl rfl (lenOf own_pd14 rfl) (by show 2 * 0 + _ ≤ _; exact Nat.le_of_eq rfl) (by decide) (by decide) rfl rfl (by decide) (by decide) ?_
  rintro _ h33 ⟨rfl, e33⟩
  rw [e33]
  show OGo p l e _ s m _ below meth c n0 _ h24 5 65 345 #[.val (.long v0), .second, .val (.int v1), .val (.ref pw), .val (.int (Int32.ofNat (D + 1))), .val (.int (Int32.ofNat D)), .val (.long lim), .second, .val (.long v), .second, .val (.ref a), .val (.ref y)] [(.int (1 : Int32))]
  refine OGo.ifEq K (pc' := 348) (pcY := 502) at_345 rfl (by decide) rfl (fun hc345 => absurd hc345 (by decide : ¬ (1 : Int32) = (0 : Int32))) (fun hc345 => ?_)
  refine OGo.aload K (pc' := 350) at_348 rfl rfl rfl ?_
  refine OGo.iload K (pc' := 352) at_350 rfl rfl ?_
  refine OGo.lload K (pc' := 354) at_352 rfl rfl ?_
  refine OGo.aloadN K (pc' := 355) at_354 rfl rfl rfl ?_
  refine OGo.bipush K (pc' := 357) (z := 10) at_355 rfl rfl ?_
  refine OGo.callSV K (pc' := 360) (y := (⟨"com/example/intervale/intervale/bench/FillKeysKeyPinLaw", "at", "([BIJ[JI)Z"⟩ : MethodName)) (W := 0) (cells' := 5) (slots' := 65) (argsL := [(.ref y), (.int (Int32.ofNat (D + 1))), (.long v), (.ref pw), (.int (10 : Int32))]) (st := []) (hw _ (List.mem_of_getElem? (i := 88) rfl)) (hw _ (List.mem_of_getElem? (i := 89) rfl)) (hw _ (List.mem_of_getElem? (i := 90) rfl)) (hw _ (List.mem_of_getElem? (i := 91) rfl)) (by decide) (own_rm11 l Z a0 hw y pw v r D 10 _ _ _ _ _ h24 n0 Z24 hv ⟨hD1, hD2⟩ ⟨by decide, by decide⟩ rfl V24 V_pw_24 p1 H2) at_357 rfl rfl (lenOf own_pd14 rfl) (by show 2 * 0 + _ ≤ _; exact Nat.le_of_eq rfl) (by decide) (by decide) rfl rfl (by decide) (by decide) ?_
  rintro _ h34 ⟨rfl, e34⟩
  rw [e34]
  show OGo p l e _ s m _ below meth c n0 _ h24 5 65 360 #[.val (.long v0), .second, .val (.int v1), .val (.ref pw), .val (.int (Int32.ofNat (D + 1))), .val (.int (Int32.ofNat D)), .val (.long lim), .second, .val (.long v), .second, .val (.ref a), .val (.ref y)] [(.int (1 : Int32))]
  refine OGo.ifEq K (pc' := 363) (pcY := 502) at_360 rfl (by decide) rfl (fun hc360 => absurd hc360 (by decide : ¬ (1 : Int32) = (0 : Int32))) (fun hc360 => ?_)
  refine OGo.aload K (pc' := 365) at_363 rfl rfl rfl ?_
  refine OGo.iload K (pc' := 367) at_365 rfl rfl ?_
  refine OGo.lload K (pc' := 369) at_367 rfl rfl ?_
  refine OGo.aloadN K (pc' := 370) at_369 rfl rfl rfl ?_
  refine OGo.bipush K (pc' := 372) (z := 11) at_370 rfl rfl ?_
  refine OGo.callSV K (pc' := 375) (y := (⟨"com/example/intervale/intervale/bench/FillKeysKeyPinLaw", "at", "([BIJ[JI)Z"⟩ : MethodName)) (W := 0) (cells' := 5) (slots' := 65) (argsL := [(.ref y), (.int (Int32.ofNat (D + 1))), (.long v), (.ref pw), (.int (11 : Int32))]) (st := []) (hw _ (List.mem_of_getElem? (i := 88) rfl)) (hw _ (List.mem_of_getElem? (i := 89) rfl)) (hw _ (List.mem_of_getElem? (i := 90) rfl)) (hw _ (List.mem_of_getElem? (i := 91) rfl)) (by decide) (own_rm11 l Z a0 hw y pw v r D 11 _ _ _ _ _ h24 n0 Z24 hv ⟨hD1, hD2⟩ ⟨by decide, by decide⟩ rfl V24 V_pw_24 p1 H2) at_372 rfl rfl (lenOf own_pd14 rfl) (by show 2 * 0 + _ ≤ _; exact Nat.le_of_eq rfl) (by decide) (by decide) rfl rfl (by decide) (by decide) ?_
  rintro _ h35 ⟨rfl, e35⟩
  rw [e35]
  show OGo p l e _ s m _ below meth c n0 _ h24 5 65 375 #[.val (.long v0), .second, .val (.int v1), .val (.ref pw), .val (.int (Int32.ofNat (D + 1))), .val (.int (Int32.ofNat D)), .val (.long lim), .second, .val (.long v), .second, .val (.ref a), .val (.ref y)] [(.int (1 : Int32))]
  refine OGo.ifEq K (pc' := 378) (pcY := 502) at_375 rfl (by decide) rfl (fun hc375 => absurd hc375 (by decide : ¬ (1 : Int32) = (0 : Int32))) (fun hc375 => ?_)
  refine OGo.aload K (pc' := 380) at_378 rfl rfl rfl ?_
  refine OGo.iload K (pc' := 382) at_380 rfl rfl ?_
  refine OGo.lload K (pc' := 384) at_382 rfl rfl ?_
  refine OGo.aloadN K (pc' := 385) at_384 rfl rfl rfl ?_
  refine OGo.bipush K (pc' := 387) (z := 12) at_385 rfl rfl ?_
  refine OGo.callSV K (pc' := 390) (y := (⟨"com/example/intervale/intervale/bench/FillKeysKeyPinLaw", "at", "([BIJ[JI)Z"⟩ : MethodName)) (W := 0) (cells' := 5) (slots' := 65) (argsL := [(.ref y), (.int (Int32.ofNat (D + 1))), (.long v), (.ref pw), (.int (12 : Int32))]) (st := []) (hw _ (List.mem_of_getElem? (i := 88) rfl)) (hw _ (List.mem_of_getElem? (i := 89) rfl)) (hw _ (List.mem_of_getElem? (i := 90) rfl)) (hw _ (List.mem_of_getElem? (i := 91) rfl)) (by decide) (own_rm11 l Z a0 hw y pw v r D 12 _ _ _ _ _ h24 n0 Z24 hv ⟨hD1, hD2⟩ ⟨by decide, by decide⟩ rfl V24 V_pw_24 p1 H2) at_387 rfl rfl (lenOf own_pd14 rfl) (by show 2 * 0 + _ ≤ _; exact Nat.le_of_eq rfl) (by decide) (by decide) rfl rfl (by decide) (by decide) ?_
  rintro _ h36 ⟨rfl, e36⟩
  rw [e36]
  show OGo p l e _ s m _ below meth c n0 _ h24 5 65 390 #[.val (.long v0), .second, .val (.int v1), .val (.ref pw), .val (.int (Int32.ofNat (D + 1))), .val (.int (Int32.ofNat D)), .val (.long lim), .second, .val (.long v), .second, .val (.ref a), .val (.ref y)] [(.int (1 : Int32))]
  refine OGo.ifEq K (pc' := 393) (pcY := 502) at_390 rfl (by decide) rfl (fun hc390 => absurd hc390 (by decide : ¬ (1 : Int32) = (0 : Int32))) (fun hc390 => ?_)
  refine OGo.aload K (pc' := 395) at_393 rfl rfl rfl ?_
  refine OGo.iload K (pc' := 397) at_395 rfl rfl ?_
  refine OGo.lload K (pc' := 399) at_397 rfl rfl ?_
  refine OGo.aloadN K (pc' := 400) at_399 rfl rfl rfl ?_
  refine OGo.bipush K (pc' := 402) (z := 13) at_400 rfl rfl ?_
  refine OGo.callSV K (pc' := 405) (y := (⟨"com/example/intervale/intervale/bench/FillKeysKeyPinLaw", "at", "([BIJ[JI)Z"⟩ : MethodName)) (W := 0) (cells' := 5) (slots' := 65) (argsL := [(.ref y), (.int (Int32.ofNat (D + 1))), (.long v), (.ref pw), (.int (13 : Int32))]) (st := []) (hw _ (List.mem_of_getElem? (i := 88) rfl)) (hw _ (List.mem_of_getElem? (i := 89) rfl)) (hw _ (List.mem_of_getElem? (i := 90) rfl)) (hw _ (List.mem_of_getElem? (i := 91) rfl)) (by decide) (own_rm11 l Z a0 hw y pw v r D 13 _ _ _ _ _ h24 n0 Z24 hv ⟨hD1, hD2⟩ ⟨by decide, by decide⟩ rfl V24 V_pw_24 p1 H2) at_402 rfl rfl (lenOf own_pd14 rfl) (by show 2 * 0 + _ ≤ _; exact Nat.le_of_eq rfl) (by decide) (by decide) rfl rfl (by decide) (by decide) ?_
  rintro _ h37 ⟨rfl, e37⟩
  rw [e37]
  show OGo p l e _ s m _ below meth c n0 _ h24 5 65 405 #[.val (.long v0), .second, .val (.int v1), .val (.ref pw), .val (.int (Int32.ofNat (D + 1))), .val (.int (Int32.ofNat D)), .val (.long lim), .second, .val (.long v), .second, .val (.ref a), .val (.ref y)] [(.int (1 : Int32))]
  refine OGo.ifEq K (pc' := 408) (pcY := 502) at_405 rfl (by decide) rfl (fun hc405 => absurd hc405 (by decide : ¬ (1 : Int32) = (0 : Int32))) (fun hc405 => ?_)
  refine OGo.aload K (pc' := 410) at_408 rfl rfl rfl ?_
  refine OGo.iload K (pc' := 412) at_410 rfl rfl ?_
  refine OGo.lload K (pc' := 414) at_412 rfl rfl ?_
  refine OGo.aloadN K (pc' := 415) at_414 rfl rfl rfl ?_
  refine OGo.bipush K (pc' := 417) (z := 14) at_415 rfl rfl ?_
  refine OGo.callSV K (pc' := 420) (y := (⟨"com/example/intervale/intervale/bench/FillKeysKeyPinLaw", "at", "([BIJ[JI)Z"⟩ : MethodName)) (W := 0) (cells' := 5) (slots' := 65) (argsL := [(.ref y), (.int (Int32.ofNat (D + 1))), (.long v), (.ref pw), (.int (14 : Int32))]) (st := []) (hw _ (List.mem_of_getElem? (i := 88) rfl)) (hw _ (List.mem_of_getElem? (i := 89) rfl)) (hw _ (List.mem_of_getElem? (i := 90) rfl)) (hw _ (List.mem_of_getElem? (i := 91) rfl)) (by decide) (own_rm11 l Z a0 hw y pw v r D 14 _ _ _ _ _ h24 n0 Z24 hv ⟨hD1, hD2⟩ ⟨by decide, by decide⟩ rfl V24 V_pw_24 p1 H2) at_417 rfl rfl (lenOf own_pd14 rfl) (by show 2 * 0 + _ ≤ _; exact Nat.le_of_eq rfl) (by decide) (by decide) rfl rfl (by decide) (by decide) ?_
  rintro _ h38 ⟨rfl, e38⟩
  rw [e38]
  show OGo p l e _ s m _ below meth c n0 _ h24 5 65 420 #[.val (.long v0), .second, .val (.int v1), .val (.ref pw), .val (.int (Int32.ofNat (D + 1))), .val (.int (Int32.ofNat D)), .val (.long lim), .second, .val (.long v), .second, .val (.ref a), .val (.ref y)] [(.int (1 : Int32))]
  refine OGo.ifEq K (pc' := 423) (pcY := 502) at_420 rfl (by decide) rfl (fun hc420 => absurd hc420 (by decide : ¬ (1 : Int32) = (0 : Int32))) (fun hc420 => ?_)
  refine OGo.aload K (pc' := 425) at_423 rfl rfl rfl ?_
  refine OGo.iload K (pc' := 427) at_425 rfl rfl ?_
  refine OGo.lload K (pc' := 429) at_427 rfl rfl ?_
  refine OGo.aloadN K (pc' := 430) at_429 rfl rfl rfl ?_
  refine OGo.bipush K (pc' := 432) (z := 15) at_430 rfl rfl ?_
  refine OGo.callSV K (pc' := 435) (y := (⟨"com/example/intervale/intervale/bench/FillKeysKeyPinLaw", "at", "([BIJ[JI)Z"⟩ : MethodName)) (W := 0) (cells' := 5) (slots' := 65) (argsL := [(.ref y), (.int (Int32.ofNat (D + 1))), (.long v), (.ref pw), (.int (15 : Int32))]) (st := []) (hw _ (List.mem_of_getElem? (i := 88) rfl)) (hw _ (List.mem_of_getElem? (i := 89) rfl)) (hw _ (List.mem_of_getElem? (i := 90) rfl)) (hw _ (List.mem_of_getElem? (i := 91) rfl)) (by decide) (own_rm11 l Z a0 hw y pw v r D 15 _ _ _ _ _ h24 n0 Z24 hv ⟨hD1, hD2⟩ ⟨by decide, by decide⟩ rfl V24 V_pw_24 p1 H2) at_432 rfl rfl (lenOf own_pd14 rfl) (by show 2 * 0 + _ ≤ _; exact Nat.le_of_eq rfl) (by decide) (by decide) rfl rfl (by decide) (by decide) ?_
  rintro _ h39 ⟨rfl, e39⟩
  rw [e39]
  show OGo p l e _ s m _ below meth c n0 _ h24 5 65 435 #[.val (.long v0), .second, .val (.int v1), .val (.ref pw), .val (.int (Int32.ofNat (D + 1))), .val (.int (Int32.ofNat D)), .val (.long lim), .second, .val (.long v), .second, .val (.ref a), .val (.ref y)] [(.int (1 : Int32))]
  refine OGo.ifEq K (pc' := 438) (pcY := 502) at_435 rfl (by decide) rfl (fun hc435 => absurd hc435 (by decide : ¬ (1 : Int32) = (0 : Int32))) (fun hc435 => ?_)
  refine OGo.aload K (pc' := 440) at_438 rfl rfl rfl ?_
  refine OGo.iload K (pc' := 442) at_440 rfl rfl ?_
  refine OGo.lload K (pc' := 444) at_442 rfl rfl ?_
  refine OGo.aloadN K (pc' := 445) at_444 rfl rfl rfl ?_
  refine OGo.bipush K (pc' := 447) (z := 16) at_445 rfl rfl ?_
  refine OGo.callSV K (pc' := 450) (y := (⟨"com/example/intervale/intervale/bench/FillKeysKeyPinLaw", "at", "([BIJ[JI)Z"⟩ : MethodName)) (W := 0) (cells' := 5) (slots' := 65) (argsL := [(.ref y), (.int (Int32.ofNat (D + 1))), (.long v), (.ref pw), (.int (16 : Int32))]) (st := []) (hw _ (List.mem_of_getElem? (i := 88) rfl)) (hw _ (List.mem_of_getElem? (i := 89) rfl)) (hw _ (List.mem_of_getElem? (i := 90) rfl)) (hw _ (List.mem_of_getElem? (i := 91) rfl)) (by decide) (own_rm11 l Z a0 hw y pw v r D 16 _ _ _ _ _ h24 n0 Z24 hv ⟨hD1, hD2⟩ ⟨by decide, by decide⟩ rfl V24 V_pw_24 p1 H2) at_447 rfl rfl (lenOf own_pd14 rfl) (by show 2 * 0 + _ ≤ _; exact Nat.le_of_eq rfl) (by decide) (by decide) rfl rfl (by decide) (by decide) ?_
  rintro _ h40 ⟨rfl, e40⟩
  rw [e40]
  show OGo p l e _ s m _ below meth c n0 _ h24 5 65 450 #[.val (.long v0), .second, .val (.int v1), .val (.ref pw), .val (.int (Int32.ofNat (D + 1))), .val (.int (Int32.ofNat D)), .val (.long lim), .second, .val (.long v), .second, .val (.ref a), .val (.ref y)] [(.int (1 : Int32))]
  refine OGo.ifEq K (pc' := 453) (pcY := 502) at_450 rfl (by decide) rfl (fun hc450 => absurd hc450 (by decide : ¬ (1 : Int32) = (0 : Int32))) (fun hc450 => ?_)
  refine OGo.aload K (pc' := 455) at_453 rfl rfl rfl ?_
  refine OGo.iload K (pc' := 457) at_455 rfl rfl ?_
  refine OGo.lload K (pc' := 459) at_457 rfl rfl ?_
  refine OGo.aloadN K (pc' := 460) at_459 rfl rfl rfl ?_
  refine OGo.bipush K (pc' := 462) (z := 17) at_460 rfl rfl ?_
  refine OGo.callSV K (pc' := 465) (y := (⟨"com/example/intervale/intervale/bench/FillKeysKeyPinLaw", "at", "([BIJ[JI)Z"⟩ : MethodName)) (W := 0) (cells' := 5) (slots' := 65) (argsL := [(.ref y), (.int (Int32.ofNat (D + 1))), (.long v), (.ref pw), (.int (17 : Int32))]) (st := []) (hw _ (List.mem_of_getElem? (i := 88) rfl)) (hw _ (List.mem_of_getElem? (i := 89) rfl)) (hw _ (List.mem_of_getElem? (i := 90) rfl)) (hw _ (List.mem_of_getElem? (i := 91) rfl)) (by decide) (own_rm11 l Z a0 hw y pw v r D 17 _ _ _ _ _ h24 n0 Z24 hv ⟨hD1, hD2⟩ ⟨by decide, by decide⟩ rfl V24 V_pw_24 p1 H2) at_462 rfl rfl (lenOf own_pd14 rfl) (by show 2 * 0 + _ ≤ _; exact Nat.le_of_eq rfl) (by decide) (by decide) rfl rfl (by decide) (by decide) ?_
  rintro _ h41 ⟨rfl, e41⟩
  rw [e41]
  show OGo p l e _ s m _ below meth c n0 _ h24 5 65 465 #[.val (.long v0), .second, .val (.int v1), .val (.ref pw), .val (.int (Int32.ofNat (D + 1))), .val (.int (Int32.ofNat D)), .val (.long lim), .second, .val (.long v), .second, .val (.ref a), .val (.ref y)] [(.int (1 : Int32))]
  refine OGo.ifEq K (pc' := 468) (pcY := 502) at_465 rfl (by decide) rfl (fun hc465 => absurd hc465 (by decide : ¬ (1 : Int32) = (0 : Int32))) (fun hc465 => ?_)
  refine OGo.aload K (pc' := 470) at_468 rfl rfl rfl ?_
  refine OGo.iload K (pc' := 472) at_470 rfl rfl ?_
  refine OGo.lload K (pc' := 474) at_472 rfl rfl ?_
  refine OGo.aloadN K (pc' := 475) at_474 rfl rfl rfl ?_
  refine OGo.bipush K (pc' := 477) (z := 18) at_475 rfl rfl ?_
  refine OGo.callSV K (pc' := 480) (y := (⟨"com/example/intervale/intervale/bench/FillKeysKeyPinLaw", "at", "([BIJ[JI)Z"⟩ : MethodName)) (W := 0) (cells' := 5) (slots' := 65) (argsL := [(.ref y), (.int (Int32.ofNat (D + 1))), (.long v), (.ref pw), (.int (18 : Int32))]) (st := []) (hw _ (List.mem_of_getElem? (i := 88) rfl)) (hw _ (List.mem_of_getElem? (i := 89) rfl)) (hw _ (List.mem_of_getElem? (i := 90) rfl)) (hw _ (List.mem_of_getElem? (i := 91) rfl)) (by decide) (own_rm11 l Z a0 hw y pw v r D 18 _ _ _ _ _ h24 n0 Z24 hv ⟨hD1, hD2⟩ ⟨by decide, by decide⟩ rfl V24 V_pw_24 p1 H2) at_477 rfl rfl (lenOf own_pd14 rfl) (by show 2 * 0 + _ ≤ _; exact Nat.le_of_eq rfl) (by decide) (by decide) rfl rfl (by decide) (by decide) ?_
  rintro _ h42 ⟨rfl, e42⟩
  rw [e42]
  show OGo p l e _ s m _ below meth c n0 _ h24 5 65 480 #[.val (.long v0), .second, .val (.int v1), .val (.ref pw), .val (.int (Int32.ofNat (D + 1))), .val (.int (Int32.ofNat D)), .val (.long lim), .second, .val (.long v), .second, .val (.ref a), .val (.ref y)] [(.int (1 : Int32))]
  refine OGo.ifEq K (pc' := 483) (pcY := 502) at_480 rfl (by decide) rfl (fun hc480 => absurd hc480 (by decide : ¬ (1 : Int32) = (0 : Int32))) (fun hc480 => ?_)
  refine OGo.aload K (pc' := 485) at_483 rfl rfl rfl ?_
  refine OGo.iload K (pc' := 487) at_485 rfl rfl ?_
  refine OGo.lload K (pc' := 489) at_487 rfl rfl ?_
  refine OGo.aloadN K (pc' := 490) at_489 rfl rfl rfl ?_
  refine OGo.bipush K (pc' := 492) (z := 19) at_490 rfl rfl ?_
  refine OGo.callSV K (pc' := 495) (y := (⟨"com/example/intervale/intervale/bench/FillKeysKeyPinLaw", "at", "([BIJ[JI)Z"⟩ : MethodName)) (W := 0) (cells' := 5) (slots' := 65) (argsL := [(.ref y), (.int (Int32.ofNat (D + 1))), (.long v), (.ref pw), (.int (19 : Int32))]) (st := []) (hw _ (List.mem_of_getElem? (i := 88) rfl)) (hw _ (List.mem_of_getElem? (i := 89) rfl)) (hw _ (List.mem_of_getElem? (i := 90) rfl)) (hw _ (List.mem_of_getElem? (i := 91) rfl)) (by decide) (own_rm11 l Z a0 hw y pw v r D 19 _ _ _ _ _ h24 n0 Z24 hv ⟨hD1, hD2⟩ ⟨by decide, by decide⟩ rfl V24 V_pw_24 p1 H2) at_492 rfl rfl (lenOf own_pd14 rfl) (by show 2 * 0 + _ ≤ _; exact Nat.le_of_eq rfl) (by decide) (by decide) rfl rfl (by decide) (by decide) ?_
  rintro _ h43 ⟨rfl, e43⟩
  rw [e43]
  show OGo p l e _ s m _ below meth c n0 _ h24 5 65 495 #[.val (.long v0), .second, .val (.int v1), .val (.ref pw), .val (.int (Int32.ofNat (D + 1))), .val (.int (Int32.ofNat D)), .val (.long lim), .second, .val (.long v), .second, .val (.ref a), .val (.ref y)] [(.int (1 : Int32))]
  refine OGo.ifEq K (pc' := 498) (pcY := 502) at_495 rfl (by decide) rfl (fun hc495 => absurd hc495 (by decide : ¬ (1 : Int32) = (0 : Int32))) (fun hc495 => ?_)
  refine OGo.iconst K (pc' := 499) (z := 1) at_498 rfl rfl ?_
  refine OGo.goto K (pc' := 503) at_499 (by decide) rfl ?_
  exact OGo.ret K at_503 rfl (Or.inl ⟨rfl, by simp, _, rfl⟩) (by decide) (by decide) ⟨_, rfl, rfl⟩
set_option maxRecDepth 65536 in
set_option maxHeartbeats 40000000 in
theorem own_comes {Post : Tables → Env → Array Value → State → Outcome → State → Prop} (hpost : ∀ tb e args s v u, (limb_1_1.after args s (.returned v) u = true ∧ limb_1_2.after args s (.returned v) u = true ∧ True) → FrameEnd s (.returned v) u (Jvm.fieldLocs frame_1_writes args s ++ Jvm.arrayLocs frame_1_arrays args s ++ Jvm.staticLocs frame_1_statics s) 24 256 → Post tb e args s (.returned v) u) :
    ArmFor flags0 classFile x code maxLocals ret World_1 tables_1 room_1 Calls_1 rest_1 Pre_1 Post := by
  intro l hfl _ _ p e ha hc hk s m args below hf hA hF happ hP
  obtain ⟨hcalls, hrest, hpre⟩ := hP
  obtain ⟨-, -, -, hnamed, -, -, -, hat⟩ := (Spec.applies_iff hf).mp happ
  obtain ⟨hg, hn⟩ := and_e (Cond.before_iff.mp (show (Jvm.Cond.and given_1 narrow_1).before args s = true from hpre))
  obtain ⟨gg1, gg2⟩ := and_e hg
  obtain ⟨gg3, gg4⟩ := and_e gg2
  obtain ⟨w0, w1, rfl⟩ : ∃ w0 w1 : Value, args = #[w0, w1] := by
    have hs : args.size = 2 := by simpa [Cond.value, given_1] using gg1
    obtain ⟨L⟩ := args
    match L, hs with
    | [w0, w1], _ => exact ⟨w0, w1, rfl⟩
  have hw := fun d (hd : d ∈ tables_1) => atoms_spec (ws := Jvm.Cond.code x code maxLocals ret :: tables_1) hat d (List.mem_cons_of_mem _ hd)
  have hfit : Fit s := fun {y c} hc i hi => by
    obtain ⟨ha, rfl⟩ := Array.getElem?_eq_some_iff.mp hc
    have q := List.all_eq_true.mp ((Array.all_eq_true_iff_forall_mem.mp hF) _ (Array.getElem_mem ha)) i (List.mem_range.mpr hi)
    simpa [Array.getElem?_eq_getElem hi] using q
  obtain ⟨hsets, hown0⟩ := atoms_of _ (rest_1_c_eq ▸ (show rest_1_c.before _ s = true from hrest))
  have hr0 := Cond.before_iff.mp hown0
  obtain ⟨i0, ei0⟩ := isL_v gg3
  obtain rfl : w0 = (.long i0) := Option.some.inj ei0
  obtain ⟨i1, ei1⟩ := is_v gg4
  obtain rfl : w1 = (.int i1) := Option.some.inj ei1
  obtain ⟨cz, Sc, hcz⟩ := own_cs (hsets _ (List.mem_of_getElem? (i := 0) rfl)) (hsets _ (List.mem_of_getElem? (i := 1) rfl)) (hsets _ (List.mem_of_getElem? (i := 2) rfl))
  obtain ⟨d1, k1, u1, D1⟩ := own_odg hfit (hsets _ (List.mem_of_getElem? (i := 11) rfl)) (hsets _ (List.mem_of_getElem? (i := 12) rfl)) (hsets _ (List.mem_of_getElem? (i := 13) rfl)) (hw _ (List.mem_of_getElem? (i := 45) rfl))
  obtain ⟨d2, k2, u2, D2⟩ := own_odg hfit (hsets _ (List.mem_of_getElem? (i := 16) rfl)) (hsets _ (List.mem_of_getElem? (i := 17) rfl)) (hsets _ (List.mem_of_getElem? (i := 18) rfl)) (hw _ (List.mem_of_getElem? (i := 45) rfl))
  obtain ⟨n, o, h1, h2, h3, _, L, rfl, ⟨⟨_, rfl, rfl⟩, N⟩, hq⟩ := own_rm0 l s _ hw tables_1 i0 i1 cz d1 d2 k1 k2 u1 u2 s.heap s.heap.size (Nat.le_refl _) Sc hcz D1 D2 p e ha hc hk s m _ below hf ((Spec.applies_iff_loose hf).mp happ).1 ⟨rfl, State.Warmed39.refl s, rfl⟩ trivial
  refine ⟨n, _, h1, h2, h3, hpost _ _ _ _ _ _ ⟨Cond.after_iff.mpr rfl, Cond.after_iff.mpr (eq_i res_at (Term.int_eval (1)) rfl), trivial⟩ ⟨hq.1, hq.2.1, (hq.2.2.sift fun y hy => Or.inr (N y hy)).mono (by decide) (by decide)⟩⟩
theorem main_1_1 : Claimed_1_1 := own_comes fun _ _ _ _ _ _ h hF => ⟨h.1, hF⟩
theorem main_1_2 : Claimed_1_2 := own_comes fun _ _ _ _ _ _ h hF => ⟨h.2.1, hF⟩
end Jvm.Pilot.@@N@@
namespace Jvm.Pilot.@@N@@
open Jvm Jvm.ClassFile Sem Op Lib Jvm.Free Jvm.Stand Jvm.Pilot.@@N@@.Jvm.D
/-! MADE BY PROGRAM (witnessworld.py) out of the Statement's table words and the real class files: 24 classes; the members and pool entries that the words name. The judged class is class 1, her method 1. -/
namespace start1
open Jvm.ClassFile
def u (s : String) : CpInfo := .utf8 (stringToUtf16 s)
/-- a pool by its gaps: so many unusable entries, then the entry; so many at the end -/
def gap : Nat → List CpInfo → List CpInfo
  | 0, r => r
  | n + 1, r => .unusable :: gap n r
def poolList (es : List (Nat × CpInfo)) (last : Nat) : List CpInfo := es.foldr (fun e r => gap e.1 (e.2 :: r)) (gap last [])
def pool (es : List (Nat × CpInfo)) (last : Nat) : Array CpInfo := ⟨poolList es last⟩
def fileOf (pool : Array CpInfo) (this : Nat) (attrs : Array Attribute := #[]) (ms : Array MethodInfo := #[]) (fl : Nat := 33) (sup : Nat := 0) (ifs : Array Nat := #[]) (fds : Array FieldInfo := #[]) : ClassFile where
  minorVersion := 0
  majorVersion := 65
  constantPool := pool
  accessFlags := fl
  thisClass := this
  superClass := sup
  interfaces := ifs
  fields := fds
  methods := ms
  attributes := attrs
def plain (name : String) (sup : Option ClassId) : Class where
  name := name
  kind := .ordinary
  loader := none
  accessFlags := 33
  super := sup
  interfaces := #[]
  cf := none
  fields := #[]
  methods := #[]
  instanceTypes := #[]
  staticTypes := #[]
  resolved := #[]
  callSites := []
  init := .initialized
  statics := none
  mirror := none

def pool0 : Array CpInfo := pool [(5, u "<init>"), (0, u "()V"), (1, .class_ 10), (1, u "java/lang/Object")] 113

def k0c0 : Code := { maxStack := 0, maxLocals := 1, code := object_method_1_code, exceptionTable := #[], attributes := #[] }
def k0m0 : Method := { name := "<init>", desc := "()V", sig := { parameters := [], returnType := none }, accessFlags := 1, code := some k0c0 }
/-- java/lang/Object -/
def k0 : Class := { plain "java/lang/Object" none with
  accessFlags := 33
  interfaces := #[]
  cf := some (fileOf pool0 8 #[] #[{ accessFlags := 1, nameIndex := 5, descriptorIndex := 6, attributes := #[] }] 33 0 #[] #[])
  fields := #[]
  methods := #[k0m0]
  instanceTypes := #[]
  staticTypes := #[]
  resolved := Array.replicate 124 none
  statics := none }

def pool1 : Array CpInfo := pool [(2, .class_ 4), (1, u "java/lang/Object"), (0, u "<init>"), (0, u "()V"), (0, .long 10), (1, .long 100), (1, .long 1000), (1, .long 10000), (1, .long 100000), (1, .long 1000000), (1, .long 10000000), (1, .long 100000000), (1, .long 1000000000), (1, .long 10000000000), (1, .long 100000000000), (1, .long 1000000000000), (1, .long 10000000000000), (1, .long 100000000000000), (1, .long 1000000000000000), (1, .long 10000000000000000), (1, .long 100000000000000000), (1, .long 1000000000000000000), (1, .integer 2147483647), (2, .long 9223372036854775807), (1, .class_ 49), (0, u "com/example/intervale/intervale/bench/FillKeys"), (0, .methodref 48 51), (0, .nameAndType 5 52), (0, u "(JII)V"), (0, .methodref 48 54), (0, .nameAndType 55 56), (0, u "key"), (0, u "(J[B)V"), (0, .methodref 58 59), (0, .class_ 60), (0, .nameAndType 61 62), (0, u "com/example/intervale/intervale/bench/FillKeysKeyPinLaw"), (0, u "at"), (0, u "([BIJ[JI)Z"), (0, .long 48), (3, u "law"), (0, u "(JI)Z")] 7

def k1m0 : Method := { name := "<init>", desc := "()V", sig := { parameters := [], returnType := none }, accessFlags := 2, code := none }
def k1c1 : Code := { maxStack := 6, maxLocals := 12, code := code, exceptionTable := #[], attributes := #[] }
def k1m1 : Method := { name := "law", desc := "(JI)Z", sig := { parameters := [.long, .int], returnType := some .boolean }, accessFlags := 9, code := some k1c1 }
def k1c2 : Code := { maxStack := 5, maxLocals := 8, code := method_3_code, exceptionTable := #[], attributes := #[] }
def k1m2 : Method := { name := "at", desc := "([BIJ[JI)Z", sig := { parameters := [(.array .byte), .int, .long, (.array .long), .int], returnType := some .boolean }, accessFlags := 10, code := some k1c2 }
/-- com/example/intervale/intervale/bench/FillKeysKeyPinLaw -/
def k1 : Class := { plain "com/example/intervale/intervale/bench/FillKeysKeyPinLaw" (some 0) with
  accessFlags := 49
  interfaces := #[]
  cf := some (fileOf pool1 58 #[] #[{ accessFlags := 2, nameIndex := 5, descriptorIndex := 6, attributes := #[] }, { accessFlags := 9, nameIndex := 67, descriptorIndex := 68, attributes := #[] }, { accessFlags := 10, nameIndex := 61, descriptorIndex := 62, attributes := #[] }] 49 2 #[] #[])
  fields := #[]
  methods := #[k1m0, k1m1, k1m2]
  instanceTypes := #[]
  staticTypes := #[]
  resolved := Array.replicate 76 none
  statics := none }

def pool2 : Array CpInfo := pool [(1, .methodref 2 3), (0, .class_ 4), (0, .nameAndType 5 6), (0, u "java/lang/Object"), (0, u "<init>"), (0, u "()V"), (0, .class_ 8), (0, u "java/lang/Record")] 13

def k2c0 : Code := { maxStack := 1, maxLocals := 1, code := jdk_30_method_1_code, exceptionTable := #[], attributes := #[] }
def k2m0 : Method := { name := "<init>", desc := "()V", sig := { parameters := [], returnType := none }, accessFlags := 4, code := some k2c0 }
/-- java/lang/Record -/
def k2 : Class := { plain "java/lang/Record" (some 0) with
  accessFlags := 1057
  interfaces := #[]
  cf := some (fileOf pool2 7 #[] #[{ accessFlags := 4, nameIndex := 5, descriptorIndex := 6, attributes := #[] }] 1057 2 #[] #[])
  fields := #[]
  methods := #[k2m0]
  instanceTypes := #[]
  staticTypes := #[]
  resolved := Array.replicate 22 none
  statics := none }

def pool3 : Array CpInfo := pool [(1, .class_ 2), (0, u "com/example/intervale/intervale/bench/StoredKeys"), (0, .class_ 4), (0, u "java/lang/Object")] 12

/-- com/example/intervale/intervale/bench/StoredKeys -/
def k3 : Class := { plain "com/example/intervale/intervale/bench/StoredKeys" (some 0) with
  accessFlags := 1537
  interfaces := #[]
  cf := some (fileOf pool3 1 #[] #[] 1537 3 #[] #[])
  fields := #[]
  methods := #[]
  instanceTypes := #[]
  staticTypes := #[]
  resolved := Array.replicate 17 none
  statics := none }

def pool4 : Array CpInfo := pool [(1, .methodref 2 3), (0, .class_ 4), (0, .nameAndType 5 6), (0, u "java/lang/Record"), (0, u "<init>"), (0, u "()V"), (5, u "(J)Ljava/lang/String;"), (3, .methodref 17 18), (0, .class_ 19), (0, .nameAndType 20 12), (0, u "java/lang/Long"), (0, u "toString"), (0, .methodref 22 23), (0, .class_ 24), (0, .nameAndType 25 26), (0, u "java/lang/String"), (0, u "length"), (0, u "()I"), (7, .integer 1048576), (3, .fieldref 39 40), (0, .class_ 41), (0, .nameAndType 42 43), (0, u "com/example/intervale/intervale/bench/FillKeys"), (0, u "keys"), (0, u "J"), (0, .fieldref 39 45), (0, .nameAndType 46 47), (0, u "keySize"), (0, u "I"), (0, .fieldref 39 49), (0, .nameAndType 50 47), (0, u "valueSize"), (0, .long 48), (1, .long 10), (27, .class_ 82), (0, u "com/example/intervale/intervale/bench/StoredKeys"), (0, u "(JII)V"), (4, u "key"), (0, u "(J[B)V")] 41

def k4c0 : Code := { maxStack := 6, maxLocals := 6, code := prog_6_method_1_code, exceptionTable := #[], attributes := #[] }
def k4m0 : Method := { name := "<init>", desc := "(JII)V", sig := { parameters := [.long, .int, .int], returnType := none }, accessFlags := 1, code := some k4c0 }
def k4c1 : Code := { maxStack := 8, maxLocals := 7, code := prog_6_method_2_code, exceptionTable := #[], attributes := #[] }
def k4m1 : Method := { name := "key", desc := "(J[B)V", sig := { parameters := [.long, (.array .byte)], returnType := none }, accessFlags := 1, code := some k4c1 }
/-- com/example/intervale/intervale/bench/FillKeys -/
def k4 : Class := { plain "com/example/intervale/intervale/bench/FillKeys" (some 2) with
  accessFlags := 49
  interfaces := #[3]
  cf := some (fileOf pool4 39 #[] #[{ accessFlags := 1, nameIndex := 5, descriptorIndex := 83, attributes := #[] }, { accessFlags := 1, nameIndex := 88, descriptorIndex := 89, attributes := #[] }] 49 2 #[81] #[{ accessFlags := 18, nameIndex := 42, descriptorIndex := 43, attributes := #[] }, { accessFlags := 18, nameIndex := 46, descriptorIndex := 47, attributes := #[] }, { accessFlags := 18, nameIndex := 50, descriptorIndex := 47, attributes := #[] }])
  fields := #[{ name := "keys", type := .long, accessFlags := 18, slot := 0, constantValue := 0 }, { name := "keySize", type := .int, accessFlags := 18, slot := 1, constantValue := 0 }, { name := "valueSize", type := .int, accessFlags := 18, slot := 2, constantValue := 0 }]
  methods := #[k4m0, k4m1]
  instanceTypes := #[.long, .int, .int]
  staticTypes := #[]
  resolved := Array.replicate 131 none
  statics := none }

def pool5 : Array CpInfo := pool [(1, .class_ 2), (0, u "java/io/Serializable"), (0, .class_ 4), (0, u "java/lang/Object")] 2

/-- java/io/Serializable -/
def k5 : Class := { plain "java/io/Serializable" (some 0) with
  accessFlags := 1537
  interfaces := #[]
  cf := some (fileOf pool5 1 #[] #[] 1537 3 #[] #[])
  fields := #[]
  methods := #[]
  instanceTypes := #[]
  staticTypes := #[]
  resolved := Array.replicate 7 none
  statics := none }

def pool6 : Array CpInfo := pool [(2, .class_ 4), (1, u "java/lang/Object"), (0, u "<init>"), (0, u "()V"), (1, .class_ 10), (1, u "java/lang/Number"), (2, .class_ 14), (0, u "java/io/Serializable"), (0, u "serialVersionUID"), (0, u "J")] 20

def k6m0 : Method := { name := "<init>", desc := "()V", sig := { parameters := [], returnType := none }, accessFlags := 1, code := none }
/-- java/lang/Number -/
def k6 : Class := { plain "java/lang/Number" (some 0) with
  accessFlags := 1057
  interfaces := #[5]
  cf := some (fileOf pool6 8 #[] #[{ accessFlags := 1, nameIndex := 5, descriptorIndex := 6, attributes := #[] }] 1057 2 #[13] #[{ accessFlags := 26, nameIndex := 15, descriptorIndex := 16, attributes := #[] }])
  fields := #[{ name := "serialVersionUID", type := .long, accessFlags := 26, slot := 0, constantValue := 0 }]
  methods := #[k6m0]
  instanceTypes := #[]
  staticTypes := #[.long]
  resolved := Array.replicate 37 none
  statics := none }

def pool7 : Array CpInfo := pool [(1, .class_ 2), (0, u "java/lang/Comparable"), (0, .class_ 4), (0, u "java/lang/Object")] 7

/-- java/lang/Comparable -/
def k7 : Class := { plain "java/lang/Comparable" (some 0) with
  accessFlags := 1537
  interfaces := #[]
  cf := some (fileOf pool7 1 #[] #[] 1537 3 #[] #[])
  fields := #[]
  methods := #[]
  instanceTypes := #[]
  staticTypes := #[]
  resolved := Array.replicate 12 none
  statics := none }

def pool8 : Array CpInfo := pool [(1, .class_ 2), (0, u "java/lang/constant/Constable"), (0, .class_ 4), (0, u "java/lang/Object")] 6

/-- java/lang/constant/Constable -/
def k8 : Class := { plain "java/lang/constant/Constable" (some 0) with
  accessFlags := 1537
  interfaces := #[]
  cf := some (fileOf pool8 1 #[] #[] 1537 3 #[] #[])
  fields := #[]
  methods := #[]
  instanceTypes := #[]
  staticTypes := #[]
  resolved := Array.replicate 11 none
  statics := none }

def pool9 : Array CpInfo := pool [(1, .class_ 2), (0, u "java/lang/constant/ConstantDesc"), (0, .class_ 4), (0, u "java/lang/Object")] 32

/-- java/lang/constant/ConstantDesc -/
def k9 : Class := { plain "java/lang/constant/ConstantDesc" (some 0) with
  accessFlags := 1537
  interfaces := #[]
  cf := some (fileOf pool9 1 #[] #[] 1537 3 #[] #[])
  fields := #[]
  methods := #[]
  instanceTypes := #[]
  staticTypes := #[]
  resolved := Array.replicate 37 none
  statics := none }

def pool10 : Array CpInfo := pool [(1, .class_ 2), (0, u "java/lang/Long"), (2, .class_ 6), (0, u "java/lang/String"), (4, u "toString"), (0, u "(J)Ljava/lang/String;"), (0, .fieldref 5 14), (0, .nameAndType 15 16), (0, u "COMPACT_STRINGS"), (0, u "Z"), (1, .class_ 20), (1, u "java/lang/Integer"), (32, .long 10), (5, u "<init>"), (41, u "(J)I"), (10, .methodref 5 113), (0, .nameAndType 59 114), (0, u "([BB)V"), (3, .methodref 1 119), (0, .nameAndType 120 101), (0, u "stringSize"), (0, .methodref 1 122), (0, .nameAndType 123 124), (0, u "getChars"), (0, u "(JI[B)I"), (4, .long 18446744071562067968), (1, .long 100), (1, .fieldref 18 134), (0, .nameAndType 135 136), (0, u "DigitOnes"), (0, u "[B"), (0, .fieldref 18 138), (0, .nameAndType 139 136), (0, u "DigitTens"), (0, .long 18446744073709551606), (94, .class_ 237), (1, u "java/lang/Long$LongCache"), (33, .class_ 272), (0, u "java/lang/Number"), (2, u "value"), (0, u "J"), (84, u "TYPE"), (0, u "Ljava/lang/Class;"), (0, .class_ 364), (0, u "java/lang/Comparable"), (0, .class_ 366), (0, u "java/lang/constant/Constable"), (0, .class_ 368), (0, u "java/lang/constant/ConstantDesc"), (0, u "MIN_VALUE"), (1, u "MAX_VALUE"), (4, u "SIZE"), (0, u "I"), (1, u "BYTES"), (1, u "serialVersionUID")] 142

def k10c0 : Code := { maxStack := 4, maxLocals := 4, code := jdk_35_method_12_code, exceptionTable := #[], attributes := #[] }
def k10m0 : Method := { name := "toString", desc := "(J)Ljava/lang/String;", sig := { parameters := [.long], returnType := some (.object "java/lang/String") }, accessFlags := 9, code := some k10c0 }
def k10c1 : Code := { maxStack := 4, maxLocals := 11, code := jdk_35_method_14_code, exceptionTable := #[], attributes := #[] }
def k10m1 : Method := { name := "getChars", desc := "(JI[B)I", sig := { parameters := [.long, .int, (.array .byte)], returnType := some .int }, accessFlags := 8, code := some k10c1 }
def k10c2 : Code := { maxStack := 4, maxLocals := 6, code := jdk_35_method_15_code, exceptionTable := #[], attributes := #[] }
def k10m2 : Method := { name := "stringSize", desc := "(J)I", sig := { parameters := [.long], returnType := some .int }, accessFlags := 8, code := some k10c2 }
/-- java/lang/Long -/
def k10 : Class := { plain "java/lang/Long" (some 6) with
  accessFlags := 49
  interfaces := #[7, 8, 9]
  cf := some (fileOf pool10 1 #[.nestMembers #[235]] #[{ accessFlags := 9, nameIndex := 11, descriptorIndex := 12, attributes := #[] }, { accessFlags := 8, nameIndex := 123, descriptorIndex := 124, attributes := #[] }, { accessFlags := 8, nameIndex := 120, descriptorIndex := 101, attributes := #[] }] 49 271 #[363, 365, 367] #[{ accessFlags := 25, nameIndex := 369, descriptorIndex := 276, attributes := #[] }, { accessFlags := 25, nameIndex := 371, descriptorIndex := 276, attributes := #[] }, { accessFlags := 25, nameIndex := 361, descriptorIndex := 362, attributes := #[] }, { accessFlags := 18, nameIndex := 275, descriptorIndex := 276, attributes := #[] }, { accessFlags := 25, nameIndex := 376, descriptorIndex := 377, attributes := #[] }, { accessFlags := 25, nameIndex := 379, descriptorIndex := 377, attributes := #[] }, { accessFlags := 26, nameIndex := 381, descriptorIndex := 276, attributes := #[] }])
  fields := #[{ name := "MIN_VALUE", type := .long, accessFlags := 25, slot := 0, constantValue := 0 }, { name := "MAX_VALUE", type := .long, accessFlags := 25, slot := 1, constantValue := 0 }, { name := "TYPE", type := (.object "java/lang/Class"), accessFlags := 25, slot := 2, constantValue := 0 }, { name := "value", type := .long, accessFlags := 18, slot := 0, constantValue := 0 }, { name := "SIZE", type := .int, accessFlags := 25, slot := 3, constantValue := 0 }, { name := "BYTES", type := .int, accessFlags := 25, slot := 4, constantValue := 0 }, { name := "serialVersionUID", type := .long, accessFlags := 26, slot := 5, constantValue := 0 }]
  methods := #[k10m0, k10m1, k10m2]
  instanceTypes := #[.long]
  staticTypes := #[.long, .long, (.object "java/lang/Class"), .int, .int, .long]
  resolved := Array.replicate 524 none
  statics := none }

def pool11 : Array CpInfo := pool [(2, .class_ 4), (1, u "java/lang/CharSequence"), (42, .class_ 48), (0, u "java/lang/CharSequence$1CodePointIterator"), (10, .class_ 60), (0, u "java/lang/CharSequence$1CharIterator"), (5, .class_ 67), (0, u "java/lang/Object")] 63

/-- java/lang/CharSequence -/
def k11 : Class := { plain "java/lang/CharSequence" (some 0) with
  accessFlags := 1537
  interfaces := #[]
  cf := some (fileOf pool11 2 #[.nestMembers #[47, 59]] #[] 1537 66 #[] #[])
  fields := #[]
  methods := #[]
  instanceTypes := #[]
  staticTypes := #[]
  resolved := Array.replicate 131 none
  statics := none }

def pool12 : Array CpInfo := pool [(1, .methodref 2 3), (0, .class_ 4), (0, .nameAndType 5 6), (0, u "java/lang/Object"), (0, u "<init>"), (0, u "()V"), (2, .fieldref 10 11), (0, .class_ 12), (0, .nameAndType 13 14), (0, u "java/lang/String"), (0, u "value"), (0, u "[B"), (0, .fieldref 10 16), (0, .nameAndType 17 18), (0, u "coder"), (0, u "B"), (2, u "hash"), (0, u "I"), (2, u "hashIsZero"), (0, u "Z"), (11, .fieldref 10 39), (0, .nameAndType 40 26), (0, u "COMPACT_STRINGS"), (170, u "([BB)V"), (122, u "()I"), (0, .methodref 10 336), (0, .nameAndType 17 337), (0, u "()B"), (169, u "length"), (67, .class_ 576), (0, u "java/lang/CharSequence"), (22, u "CASE_INSENSITIVE_ORDER"), (0, u "Ljava/util/Comparator;"), (500, u "serialPersistentFields"), (0, u "[Ljava/io/ObjectStreamField;"), (0, .class_ 1104), (0, u "java/lang/String$CaseInsensitiveComparator"), (1, .class_ 1107), (0, u "java/io/Serializable"), (0, .class_ 1109), (0, u "java/lang/Comparable"), (0, .class_ 1111), (0, u "java/lang/constant/Constable"), (0, .class_ 1113), (0, u "java/lang/constant/ConstantDesc"), (2, u "serialVersionUID"), (0, u "J"), (3, u "REPL"), (0, u "C"), (2, u "LATIN1"), (1, u "UTF16")] 323

def k12m0 : Method := { name := "<init>", desc := "()V", sig := { parameters := [], returnType := none }, accessFlags := 1, code := none }
def k12c1 : Code := { maxStack := 2, maxLocals := 1, code := jdk_42_method_54_code, exceptionTable := #[], attributes := #[] }
def k12m1 : Method := { name := "length", desc := "()I", sig := { parameters := [], returnType := some .int }, accessFlags := 1, code := some k12c1 }
def k12c2 : Code := { maxStack := 2, maxLocals := 3, code := jdk_42_method_151_code, exceptionTable := #[], attributes := #[] }
def k12m2 : Method := { name := "<init>", desc := "([BB)V", sig := { parameters := [(.array .byte), .byte], returnType := none }, accessFlags := 0, code := some k12c2 }
def k12c3 : Code := { maxStack := 1, maxLocals := 1, code := jdk_42_method_152_code, exceptionTable := #[], attributes := #[] }
def k12m3 : Method := { name := "coder", desc := "()B", sig := { parameters := [], returnType := some .byte }, accessFlags := 0, code := some k12c3 }
/-- java/lang/String -/
def k12 : Class := { plain "java/lang/String" (some 0) with
  accessFlags := 49
  interfaces := #[5, 7, 11, 8, 9]
  cf := some (fileOf pool12 10 #[.nestMembers #[1103]] #[{ accessFlags := 1, nameIndex := 5, descriptorIndex := 6, attributes := #[] }, { accessFlags := 1, nameIndex := 507, descriptorIndex := 334, attributes := #[] }, { accessFlags := 0, nameIndex := 5, descriptorIndex := 211, attributes := #[] }, { accessFlags := 0, nameIndex := 17, descriptorIndex := 337, attributes := #[] }] 49 2 #[1106, 1108, 575, 1110, 1112] #[{ accessFlags := 18, nameIndex := 13, descriptorIndex := 14, attributes := #[] }, { accessFlags := 18, nameIndex := 17, descriptorIndex := 18, attributes := #[] }, { accessFlags := 2, nameIndex := 21, descriptorIndex := 22, attributes := #[] }, { accessFlags := 2, nameIndex := 25, descriptorIndex := 26, attributes := #[] }, { accessFlags := 26, nameIndex := 1116, descriptorIndex := 1117, attributes := #[] }, { accessFlags := 24, nameIndex := 40, descriptorIndex := 26, attributes := #[] }, { accessFlags := 26, nameIndex := 1101, descriptorIndex := 1102, attributes := #[] }, { accessFlags := 26, nameIndex := 1121, descriptorIndex := 1122, attributes := #[] }, { accessFlags := 25, nameIndex := 599, descriptorIndex := 600, attributes := #[] }, { accessFlags := 24, nameIndex := 1125, descriptorIndex := 18, attributes := #[] }, { accessFlags := 24, nameIndex := 1127, descriptorIndex := 18, attributes := #[] }])
  fields := #[{ name := "value", type := (.array .byte), accessFlags := 18, slot := 0, constantValue := 0 }, { name := "coder", type := .byte, accessFlags := 18, slot := 1, constantValue := 0 }, { name := "hash", type := .int, accessFlags := 2, slot := 2, constantValue := 0 }, { name := "hashIsZero", type := .boolean, accessFlags := 2, slot := 3, constantValue := 0 }, { name := "serialVersionUID", type := .long, accessFlags := 26, slot := 0, constantValue := 0 }, { name := "COMPACT_STRINGS", type := .boolean, accessFlags := 24, slot := 1, constantValue := 0 }, { name := "serialPersistentFields", type := (.array (.object "java/io/ObjectStreamField")), accessFlags := 26, slot := 2, constantValue := 0 }, { name := "REPL", type := .char, accessFlags := 26, slot := 3, constantValue := 0 }, { name := "CASE_INSENSITIVE_ORDER", type := (.object "java/util/Comparator"), accessFlags := 25, slot := 4, constantValue := 0 }, { name := "LATIN1", type := .byte, accessFlags := 24, slot := 5, constantValue := 0 }, { name := "UTF16", type := .byte, accessFlags := 24, slot := 6, constantValue := 0 }]
  methods := #[k12m0, k12m1, k12m2, k12m3]
  instanceTypes := #[(.array .byte), .byte, .int, .boolean]
  staticTypes := #[.long, .boolean, (.array (.object "java/io/ObjectStreamField")), .char, (.object "java/util/Comparator"), .byte, .byte]
  resolved := Array.replicate 1451 none
  statics := some 0 }

def pool13 : Array CpInfo := pool [(1, .class_ 2), (0, u "java/lang/Integer"), (16, u "digits"), (0, u "[C"), (64, u "DigitOnes"), (0, u "[B"), (2, u "DigitTens"), (99, .class_ 190), (0, u "java/lang/Integer$IntegerCache"), (3, u "I"), (8, .class_ 204), (0, u "java/lang/Number"), (2, u "value"), (94, u "TYPE"), (0, u "Ljava/lang/Class;"), (0, .class_ 305), (0, u "java/lang/Comparable"), (0, .class_ 307), (0, u "java/lang/constant/Constable"), (0, .class_ 309), (0, u "java/lang/constant/ConstantDesc"), (0, u "MIN_VALUE"), (1, u "MAX_VALUE"), (3, u "SIZE"), (1, u "BYTES"), (1, u "serialVersionUID"), (0, u "J")] 131

/-- java/lang/Integer -/
def k13 : Class := { plain "java/lang/Integer" (some 6) with
  accessFlags := 49
  interfaces := #[7, 8, 9]
  cf := some (fileOf pool13 1 #[.nestMembers #[189]] #[] 49 203 #[304, 306, 308] #[{ accessFlags := 25, nameIndex := 310, descriptorIndex := 194, attributes := #[] }, { accessFlags := 25, nameIndex := 312, descriptorIndex := 194, attributes := #[] }, { accessFlags := 25, nameIndex := 302, descriptorIndex := 303, attributes := #[] }, { accessFlags := 24, nameIndex := 19, descriptorIndex := 20, attributes := #[] }, { accessFlags := 24, nameIndex := 89, descriptorIndex := 86, attributes := #[] }, { accessFlags := 24, nameIndex := 85, descriptorIndex := 86, attributes := #[] }, { accessFlags := 18, nameIndex := 207, descriptorIndex := 194, attributes := #[] }, { accessFlags := 25, nameIndex := 316, descriptorIndex := 194, attributes := #[] }, { accessFlags := 25, nameIndex := 318, descriptorIndex := 194, attributes := #[] }, { accessFlags := 26, nameIndex := 320, descriptorIndex := 321, attributes := #[] }])
  fields := #[{ name := "MIN_VALUE", type := .int, accessFlags := 25, slot := 0, constantValue := 0 }, { name := "MAX_VALUE", type := .int, accessFlags := 25, slot := 1, constantValue := 0 }, { name := "TYPE", type := (.object "java/lang/Class"), accessFlags := 25, slot := 2, constantValue := 0 }, { name := "digits", type := (.array .char), accessFlags := 24, slot := 3, constantValue := 0 }, { name := "DigitTens", type := (.array .byte), accessFlags := 24, slot := 4, constantValue := 0 }, { name := "DigitOnes", type := (.array .byte), accessFlags := 24, slot := 5, constantValue := 0 }, { name := "value", type := .int, accessFlags := 18, slot := 0, constantValue := 0 }, { name := "SIZE", type := .int, accessFlags := 25, slot := 6, constantValue := 0 }, { name := "BYTES", type := .int, accessFlags := 25, slot := 7, constantValue := 0 }, { name := "serialVersionUID", type := .long, accessFlags := 26, slot := 8, constantValue := 0 }]
  methods := #[]
  instanceTypes := #[.int]
  staticTypes := #[.int, .int, (.object "java/lang/Class"), (.array .char), (.array .byte), (.array .byte), .int, .int, .long]
  resolved := Array.replicate 453 none
  statics := some 1 }

def pool14 : Array CpInfo := pool [(4, .class_ 6), (1, u "java/lang/Object"), (0, u "<init>"), (0, u "()V"), (5, .class_ 16), (1, u "java/lang/StringLatin1"), (104, u "$assertionsDisabled"), (0, u "Z"), (98, .class_ 223), (1, u "java/lang/StringLatin1$LinesSpliterator"), (166, .class_ 391), (0, u "java/lang/StringLatin1$CharsSpliterator")] 3

def k14m0 : Method := { name := "<init>", desc := "()V", sig := { parameters := [], returnType := none }, accessFlags := 0, code := none }
/-- java/lang/StringLatin1 -/
def k14 : Class := { plain "java/lang/StringLatin1" (some 0) with
  accessFlags := 48
  interfaces := #[]
  cf := some (fileOf pool14 14 #[.nestMembers #[390, 221]] #[{ accessFlags := 0, nameIndex := 7, descriptorIndex := 8, attributes := #[] }] 48 4 #[] #[{ accessFlags := 4120, nameIndex := 121, descriptorIndex := 122, attributes := #[] }])
  fields := #[{ name := "$assertionsDisabled", type := .boolean, accessFlags := 4120, slot := 0, constantValue := 0 }]
  methods := #[k14m0]
  instanceTypes := #[]
  staticTypes := #[.boolean]
  resolved := Array.replicate 395 none
  statics := none }

def pool15 : Array CpInfo := pool [(2, .class_ 4), (1, u "java/lang/Object"), (0, u "<init>"), (0, u "()V"), (17, .class_ 26), (1, u "jdk/internal/util/Preconditions"), (28, .class_ 56), (0, u "jdk/internal/util/Preconditions$4"), (57, .class_ 115), (0, u "jdk/internal/util/Preconditions$1"), (7, u "SIOOBE_FORMATTER"), (0, u "Ljava/util/function/BiFunction;"), (0, .class_ 126), (0, u "jdk/internal/util/Preconditions$2"), (3, u "AIOOBE_FORMATTER"), (0, .class_ 132), (0, u "jdk/internal/util/Preconditions$3"), (3, u "IOOBE_FORMATTER")] 57

def k15m0 : Method := { name := "<init>", desc := "()V", sig := { parameters := [], returnType := none }, accessFlags := 1, code := none }
/-- jdk/internal/util/Preconditions -/
def k15 : Class := { plain "jdk/internal/util/Preconditions" (some 0) with
  accessFlags := 33
  interfaces := #[]
  cf := some (fileOf pool15 24 #[.nestMembers #[55, 131, 125, 114]] #[{ accessFlags := 1, nameIndex := 5, descriptorIndex := 6, attributes := #[] }] 33 2 #[] #[{ accessFlags := 25, nameIndex := 123, descriptorIndex := 124, attributes := #[] }, { accessFlags := 25, nameIndex := 130, descriptorIndex := 124, attributes := #[] }, { accessFlags := 25, nameIndex := 136, descriptorIndex := 124, attributes := #[] }])
  fields := #[{ name := "SIOOBE_FORMATTER", type := (.object "java/util/function/BiFunction"), accessFlags := 25, slot := 0, constantValue := 0 }, { name := "AIOOBE_FORMATTER", type := (.object "java/util/function/BiFunction"), accessFlags := 25, slot := 1, constantValue := 0 }, { name := "IOOBE_FORMATTER", type := (.object "java/util/function/BiFunction"), accessFlags := 25, slot := 2, constantValue := 0 }]
  methods := #[k15m0]
  instanceTypes := #[]
  staticTypes := #[(.object "java/util/function/BiFunction"), (.object "java/util/function/BiFunction"), (.object "java/util/function/BiFunction")]
  resolved := Array.replicate 194 none
  statics := some 2 }

def pool16 : Array CpInfo := pool [(9, u "<init>"), (6, .class_ 18), (1, u "java/lang/Object"), (0, u "()V"), (1, .class_ 23), (1, u "jdk/internal/util/ArraysSupport"), (0, u "LOG2_ARRAY_LONG_INDEX_SCALE"), (0, u "I"), (2, u "U"), (0, u "Ljdk/internal/misc/Unsafe;"), (8, u "BIG_ENDIAN"), (0, u "Z"), (8, u "LOG2_BYTE_BIT_SIZE"), (4, u "LOG2_ARRAY_INT_INDEX_SCALE"), (54, u "JLA"), (0, u "Ljdk/internal/access/JavaLangAccess;"), (11, u "LOG2_ARRAY_BOOLEAN_INDEX_SCALE"), (9, u "LOG2_ARRAY_BYTE_INDEX_SCALE"), (5, u "LOG2_ARRAY_CHAR_INDEX_SCALE"), (5, u "LOG2_ARRAY_SHORT_INDEX_SCALE"), (18, u "LOG2_ARRAY_FLOAT_INDEX_SCALE"), (24, u "LOG2_ARRAY_DOUBLE_INDEX_SCALE"), (89, u "T_BOOLEAN"), (2, u "T_CHAR"), (1, u "T_FLOAT"), (1, u "T_DOUBLE"), (1, u "T_BYTE"), (1, u "T_SHORT"), (1, u "T_INT"), (1, u "T_LONG"), (1, u "SOFT_MAX_ARRAY_LENGTH")] 83

def k16m0 : Method := { name := "<init>", desc := "()V", sig := { parameters := [], returnType := none }, accessFlags := 2, code := none }
/-- jdk/internal/util/ArraysSupport -/
def k16 : Class := { plain "jdk/internal/util/ArraysSupport" (some 0) with
  accessFlags := 33
  interfaces := #[]
  cf := some (fileOf pool16 21 #[] #[{ accessFlags := 2, nameIndex := 9, descriptorIndex := 19, attributes := #[] }] 33 16 #[] #[{ accessFlags := 24, nameIndex := 28, descriptorIndex := 29, attributes := #[] }, { accessFlags := 26, nameIndex := 38, descriptorIndex := 39, attributes := #[] }, { accessFlags := 25, nameIndex := 121, descriptorIndex := 25, attributes := #[] }, { accessFlags := 25, nameIndex := 131, descriptorIndex := 25, attributes := #[] }, { accessFlags := 25, nameIndex := 137, descriptorIndex := 25, attributes := #[] }, { accessFlags := 25, nameIndex := 143, descriptorIndex := 25, attributes := #[] }, { accessFlags := 25, nameIndex := 53, descriptorIndex := 25, attributes := #[] }, { accessFlags := 25, nameIndex := 24, descriptorIndex := 25, attributes := #[] }, { accessFlags := 25, nameIndex := 162, descriptorIndex := 25, attributes := #[] }, { accessFlags := 25, nameIndex := 187, descriptorIndex := 25, attributes := #[] }, { accessFlags := 26, nameIndex := 48, descriptorIndex := 25, attributes := #[] }, { accessFlags := 25, nameIndex := 277, descriptorIndex := 25, attributes := #[] }, { accessFlags := 25, nameIndex := 280, descriptorIndex := 25, attributes := #[] }, { accessFlags := 25, nameIndex := 282, descriptorIndex := 25, attributes := #[] }, { accessFlags := 25, nameIndex := 284, descriptorIndex := 25, attributes := #[] }, { accessFlags := 25, nameIndex := 286, descriptorIndex := 25, attributes := #[] }, { accessFlags := 25, nameIndex := 288, descriptorIndex := 25, attributes := #[] }, { accessFlags := 25, nameIndex := 290, descriptorIndex := 25, attributes := #[] }, { accessFlags := 25, nameIndex := 292, descriptorIndex := 25, attributes := #[] }, { accessFlags := 26, nameIndex := 108, descriptorIndex := 109, attributes := #[] }, { accessFlags := 25, nameIndex := 294, descriptorIndex := 25, attributes := #[] }])
  fields := #[{ name := "U", type := (.object "jdk/internal/misc/Unsafe"), accessFlags := 24, slot := 0, constantValue := 0 }, { name := "BIG_ENDIAN", type := .boolean, accessFlags := 26, slot := 1, constantValue := 0 }, { name := "LOG2_ARRAY_BOOLEAN_INDEX_SCALE", type := .int, accessFlags := 25, slot := 2, constantValue := 0 }, { name := "LOG2_ARRAY_BYTE_INDEX_SCALE", type := .int, accessFlags := 25, slot := 3, constantValue := 0 }, { name := "LOG2_ARRAY_CHAR_INDEX_SCALE", type := .int, accessFlags := 25, slot := 4, constantValue := 0 }, { name := "LOG2_ARRAY_SHORT_INDEX_SCALE", type := .int, accessFlags := 25, slot := 5, constantValue := 0 }, { name := "LOG2_ARRAY_INT_INDEX_SCALE", type := .int, accessFlags := 25, slot := 6, constantValue := 0 }, { name := "LOG2_ARRAY_LONG_INDEX_SCALE", type := .int, accessFlags := 25, slot := 7, constantValue := 0 }, { name := "LOG2_ARRAY_FLOAT_INDEX_SCALE", type := .int, accessFlags := 25, slot := 8, constantValue := 0 }, { name := "LOG2_ARRAY_DOUBLE_INDEX_SCALE", type := .int, accessFlags := 25, slot := 9, constantValue := 0 }, { name := "LOG2_BYTE_BIT_SIZE", type := .int, accessFlags := 26, slot := 10, constantValue := 0 }, { name := "T_BOOLEAN", type := .int, accessFlags := 25, slot := 11, constantValue := 0 }, { name := "T_CHAR", type := .int, accessFlags := 25, slot := 12, constantValue := 0 }, { name := "T_FLOAT", type := .int, accessFlags := 25, slot := 13, constantValue := 0 }, { name := "T_DOUBLE", type := .int, accessFlags := 25, slot := 14, constantValue := 0 }, { name := "T_BYTE", type := .int, accessFlags := 25, slot := 15, constantValue := 0 }, { name := "T_SHORT", type := .int, accessFlags := 25, slot := 16, constantValue := 0 }, { name := "T_INT", type := .int, accessFlags := 25, slot := 17, constantValue := 0 }, { name := "T_LONG", type := .int, accessFlags := 25, slot := 18, constantValue := 0 }, { name := "JLA", type := (.object "jdk/internal/access/JavaLangAccess"), accessFlags := 26, slot := 19, constantValue := 0 }, { name := "SOFT_MAX_ARRAY_LENGTH", type := .int, accessFlags := 25, slot := 20, constantValue := 0 }]
  methods := #[k16m0]
  instanceTypes := #[]
  staticTypes := #[(.object "jdk/internal/misc/Unsafe"), .boolean, .int, .int, .int, .int, .int, .int, .int, .int, .int, .int, .int, .int, .int, .int, .int, .int, .int, (.object "jdk/internal/access/JavaLangAccess"), .int]
  resolved := Array.replicate 378 none
  statics := none }

def pool17 : Array CpInfo := pool [(1, u "java/lang/Cloneable"), (0, .class_ 1), (0, u "java/lang/Object"), (0, .class_ 3)] 3

/-- java/lang/Cloneable -/
def k17 : Class := { plain "java/lang/Cloneable" (some 0) with
  accessFlags := 1537
  interfaces := #[]
  cf := some (fileOf pool17 2 #[] #[] 1537 4 #[] #[])
  fields := #[]
  methods := #[]
  instanceTypes := #[]
  staticTypes := #[]
  resolved := Array.replicate 8 none
  statics := none }

/-- the primitive byte -/
def k18 : Class := { plain "byte" none with kind := .primitive 'B', accessFlags := 0x411 }
/-- [B -/
def k19 : Class := { plain "[B" (some 0) with kind := .array 18 .byte, interfaces := #[17, 5], accessFlags := 1041 }

/-- the primitive int -/
def k20 : Class := { plain "int" none with kind := .primitive 'I', accessFlags := 0x411 }
/-- [I -/
def k21 : Class := { plain "[I" (some 0) with kind := .array 20 .int, interfaces := #[17, 5], accessFlags := 1041 }

/-- the primitive long -/
def k22 : Class := { plain "long" none with kind := .primitive 'J', accessFlags := 0x411 }
/-- [J -/
def k23 : Class := { plain "[J" (some 0) with kind := .array 22 .long, interfaces := #[17, 5], accessFlags := 1041 }

def heap : Heap := #[{ cls := 12, slots := #[.long 0, .int 1, .null, .int 0, .null, .int 0, .int 0], vm := .statics 12 },
  { cls := 13, slots := #[.int 0, .int 0, .null, .null, .ref 4, .ref 3, .int 0, .int 0, .long 0], vm := .statics 13 },
  { cls := 15, slots := #[.null, .null, .null], vm := .statics 15 },
  { cls := 19, slots := #[.int 48, .int 49, .int 50, .int 51, .int 52, .int 53, .int 54, .int 55, .int 56, .int 57, .int 48, .int 49, .int 50, .int 51, .int 52, .int 53, .int 54, .int 55, .int 56, .int 57, .int 48, .int 49, .int 50, .int 51, .int 52, .int 53, .int 54, .int 55, .int 56, .int 57, .int 48, .int 49, .int 50, .int 51, .int 52, .int 53, .int 54, .int 55, .int 56, .int 57, .int 48, .int 49, .int 50, .int 51, .int 52, .int 53, .int 54, .int 55, .int 56, .int 57, .int 48, .int 49, .int 50, .int 51, .int 52, .int 53, .int 54, .int 55, .int 56, .int 57, .int 48, .int 49, .int 50, .int 51, .int 52, .int 53, .int 54, .int 55, .int 56, .int 57, .int 48, .int 49, .int 50, .int 51, .int 52, .int 53, .int 54, .int 55, .int 56, .int 57, .int 48, .int 49, .int 50, .int 51, .int 52, .int 53, .int 54, .int 55, .int 56, .int 57, .int 48, .int 49, .int 50, .int 51, .int 52, .int 53, .int 54, .int 55, .int 56, .int 57], vm := .none },
  { cls := 19, slots := #[.int 48, .int 48, .int 48, .int 48, .int 48, .int 48, .int 48, .int 48, .int 48, .int 48, .int 49, .int 49, .int 49, .int 49, .int 49, .int 49, .int 49, .int 49, .int 49, .int 49, .int 50, .int 50, .int 50, .int 50, .int 50, .int 50, .int 50, .int 50, .int 50, .int 50, .int 51, .int 51, .int 51, .int 51, .int 51, .int 51, .int 51, .int 51, .int 51, .int 51, .int 52, .int 52, .int 52, .int 52, .int 52, .int 52, .int 52, .int 52, .int 52, .int 52, .int 53, .int 53, .int 53, .int 53, .int 53, .int 53, .int 53, .int 53, .int 53, .int 53, .int 54, .int 54, .int 54, .int 54, .int 54, .int 54, .int 54, .int 54, .int 54, .int 54, .int 55, .int 55, .int 55, .int 55, .int 55, .int 55, .int 55, .int 55, .int 55, .int 55, .int 56, .int 56, .int 56, .int 56, .int 56, .int 56, .int 56, .int 56, .int 56, .int 56, .int 57, .int 57, .int 57, .int 57, .int 57, .int 57, .int 57, .int 57, .int 57, .int 57], vm := .none }]
def classes : Array Class := #[k0, k1, k2, k3, k4, k5, k6, k7, k8, k9, k10, k11, k12, k13, k14, k15, k16, k17, k18, k19, k20, k21, k22, k23]
def interned : List (Array UInt16 × Addr) := []
def slotsUsed : Nat := 219
def theMethod : MethodId := ⟨1, 1⟩
def args0 : Array Value := #[.long 5, .int 3]
def aboutOver (below : List Frame) : State where
  vm := { classes := classes, interned := interned.toArray }
  heap := heap
  slotsUsed := slotsUsed
  threads := #[{ frames := .invoking theMethod args0 :: below }]
def below0 : List Frame := [.native { method := ⟨0, 0⟩, args := #[] }]
def about1 : State := aboutOver below0
def p0 : Program := .bare "" "" ""
def e0 : Env := launch0.env 0 0 0
theorem w_frames : about1.frames = Frame.invoking theMethod args0 :: below0 := rfl
set_option maxRecDepth 65536 in
theorem w_args : argsFit about1.vm theMethod args0 = true := by decide +kernel
set_option maxRecDepth 65536 in
theorem w_heap : heapFits about1 = true := by decide +kernel
set_option maxRecDepth 65536 in
theorem w_runnable : about1.curStatus? = some .runnable := by decide +kernel
set_option maxRecDepth 65536 in
theorem w_alone : about1.alone = true := by decide +kernel
set_option maxRecDepth 65536 in
theorem w_named : about1.methodNamed? x = some theMethod := by decide +kernel
set_option maxRecDepth 65536 in
theorem w_hears : about1.hears theMethod below0 = true := by decide +kernel
set_option maxRecDepth 65536 in
theorem w_ripe : about1.ripe theMethod args0 below0 = true := by decide +kernel
theorem w_running : about1.status = .running := rfl
set_option maxRecDepth 65536 in
theorem w_room : about1.hasRoom e0.platform room_1 = true :=
  launch0.hasRoom_least _ room_1 (by decide +kernel) (by decide +kernel) (by decide +kernel) (by decide +kernel) (by decide +kernel) (by decide +kernel)
theorem allAtoms_all (ts : List Jvm.Cond) (a : Array Jvm.Value) (st : Jvm.State) : (allAtoms ts).before a st = ts.all (fun c => c.before a st) := by
  induction ts with
  | nil => rfl
  | cons c t ih =>
    show (Jvm.Cond.and c (allAtoms t)).before a st = _
    rw [Jvm.Cond.before_and, ih, List.all_cons]
def words1 : List Jvm.Cond := Jvm.Cond.code x code maxLocals ret :: tables_1
/-- a 'code' word, met by the world's own term for the bytes: nothing is compared byte by byte -/
theorem code_word {y : MethodName} {bytes : ByteArray} {mx : Nat} {rt : Option FieldType} {a : Array Value} {s : State} {m : MethodId} {meth : Method} {c : Code} (h1 : s.methodNamed? y = some m) (h2 : s.vm.method? m = some meth) (h3 : meth.code = some c) (h4 : c.code = bytes)
    (h5 : (c.maxLocals == mx && c.exceptionTable.isEmpty && decide (c.maxStack ≤ mostOperands) && decide (meth.sig.returnType = rt) && !meth.locks && decide (parseMethodDescriptor y.desc = some meth.sig)) = true) : (Jvm.Cond.code y bytes mx rt).before a s = true := by
  simp only [Bool.and_eq_true, beq_iff_eq, Bool.not_eq_true', decide_eq_true_eq] at h5
  obtain ⟨⟨⟨⟨⟨g1, g2⟩, g3⟩, g4⟩, g5⟩, g6⟩ := h5
  simp [Cond.before, Cond.holds, Cond.value, h1, h2, h3, h4, g1, g2, g3, g4, g5, g6]
def isCode : Jvm.Cond → Bool
  | .code _ _ _ _ => true
  | _ => false
theorem all_split {L : List Jvm.Cond} {P : Jvm.Cond → Bool} (h1 : L.all (fun c => isCode c || P c) = true) (h2 : ∀ c ∈ L.filter isCode, P c = true) : L.all P = true := by
  refine List.all_eq_true.mpr fun c hc => ?_
  have h := List.all_eq_true.mp h1 c hc
  rcases Bool.eq_false_or_eq_true (isCode c) with hi | hi
  · exact h2 c (List.mem_filter.mpr ⟨hc, hi⟩)
  · simpa [hi] using h
set_option maxRecDepth 65536 in
theorem w_c0 : (Jvm.Cond.code x code maxLocals ret).before args0 about1 = true := code_word (m := ⟨1, 1⟩) (meth := k1m1) (c := k1c1) (by decide +kernel) rfl rfl rfl (by decide +kernel)
set_option maxRecDepth 65536 in
theorem w_c1 : (Jvm.Cond.code ({ cls := "com/example/intervale/intervale/bench/FillKeys", name := "<init>", desc := "(JII)V" } : Jvm.MethodName) prog_6_method_1_code (6 : Nat) (Option.none : Option Jvm.ClassFile.FieldType)).before args0 about1 = true := code_word (m := ⟨4, 0⟩) (meth := k4m0) (c := k4c0) (by decide +kernel) rfl rfl rfl (by decide +kernel)
set_option maxRecDepth 65536 in
theorem w_c2 : (Jvm.Cond.code ({ cls := "java/lang/Record", name := "<init>", desc := "()V" } : Jvm.MethodName) jdk_30_method_1_code (1 : Nat) (Option.none : Option Jvm.ClassFile.FieldType)).before args0 about1 = true := code_word (m := ⟨2, 0⟩) (meth := k2m0) (c := k2c0) (by decide +kernel) rfl rfl rfl (by decide +kernel)
set_option maxRecDepth 65536 in
theorem w_c3 : (Jvm.Cond.code ({ cls := "java/lang/Object", name := "<init>", desc := "()V" } : Jvm.MethodName) object_method_1_code (1 : Nat) (Option.none : Option Jvm.ClassFile.FieldType)).before args0 about1 = true := code_word (m := ⟨0, 0⟩) (meth := k0m0) (c := k0c0) (by decide +kernel) rfl rfl rfl (by decide +kernel)
set_option maxRecDepth 65536 in
theorem w_c4 : (Jvm.Cond.code ({ cls := "java/lang/Long", name := "toString", desc := "(J)Ljava/lang/String;" } : Jvm.MethodName) jdk_35_method_12_code (4 : Nat) (Option.some (Jvm.ClassFile.FieldType.object "java/lang/String"))).before args0 about1 = true := code_word (m := ⟨10, 0⟩) (meth := k10m0) (c := k10c0) (by decide +kernel) rfl rfl rfl (by decide +kernel)
set_option maxRecDepth 65536 in
theorem w_c5 : (Jvm.Cond.code ({ cls := "java/lang/Long", name := "stringSize", desc := "(J)I" } : Jvm.MethodName) jdk_35_method_15_code (6 : Nat) (Option.some Jvm.ClassFile.FieldType.int)).before args0 about1 = true := code_word (m := ⟨10, 2⟩) (meth := k10m2) (c := k10c2) (by decide +kernel) rfl rfl rfl (by decide +kernel)
set_option maxRecDepth 65536 in
theorem w_c6 : (Jvm.Cond.code ({ cls := "java/lang/Long", name := "getChars", desc := "(JI[B)I" } : Jvm.MethodName) jdk_35_method_14_code (11 : Nat) (Option.some Jvm.ClassFile.FieldType.int)).before args0 about1 = true := code_word (m := ⟨10, 1⟩) (meth := k10m1) (c := k10c1) (by decide +kernel) rfl rfl rfl (by decide +kernel)
set_option maxRecDepth 65536 in
theorem w_c7 : (Jvm.Cond.code ({ cls := "java/lang/String", name := "<init>", desc := "([BB)V" } : Jvm.MethodName) jdk_42_method_151_code (3 : Nat) (Option.none : Option Jvm.ClassFile.FieldType)).before args0 about1 = true := code_word (m := ⟨12, 2⟩) (meth := k12m2) (c := k12c2) (by decide +kernel) rfl rfl rfl (by decide +kernel)
set_option maxRecDepth 65536 in
theorem w_c8 : (Jvm.Cond.code ({ cls := "java/lang/String", name := "length", desc := "()I" } : Jvm.MethodName) jdk_42_method_54_code (1 : Nat) (Option.some Jvm.ClassFile.FieldType.int)).before args0 about1 = true := code_word (m := ⟨12, 1⟩) (meth := k12m1) (c := k12c1) (by decide +kernel) rfl rfl rfl (by decide +kernel)
set_option maxRecDepth 65536 in
theorem w_c9 : (Jvm.Cond.code ({ cls := "java/lang/String", name := "coder", desc := "()B" } : Jvm.MethodName) jdk_42_method_152_code (1 : Nat) (Option.some Jvm.ClassFile.FieldType.byte)).before args0 about1 = true := code_word (m := ⟨12, 3⟩) (meth := k12m3) (c := k12c3) (by decide +kernel) rfl rfl rfl (by decide +kernel)
set_option maxRecDepth 65536 in
theorem w_c10 : (Jvm.Cond.code ({ cls := "com/example/intervale/intervale/bench/FillKeys", name := "key", desc := "(J[B)V" } : Jvm.MethodName) prog_6_method_2_code (7 : Nat) (Option.none : Option Jvm.ClassFile.FieldType)).before args0 about1 = true := code_word (m := ⟨4, 1⟩) (meth := k4m1) (c := k4c1) (by decide +kernel) rfl rfl rfl (by decide +kernel)
set_option maxRecDepth 65536 in
theorem w_c11 : (Jvm.Cond.code ({ cls := "com/example/intervale/intervale/bench/FillKeysKeyPinLaw", name := "at", desc := "([BIJ[JI)Z" } : Jvm.MethodName) method_3_code (8 : Nat) (Option.some Jvm.ClassFile.FieldType.boolean)).before args0 about1 = true := code_word (m := ⟨1, 2⟩) (meth := k1m2) (c := k1c2) (by decide +kernel) rfl rfl rfl (by decide +kernel)
def codes1 : List Jvm.Cond := [Jvm.Cond.code x code maxLocals ret, Jvm.Cond.code ({ cls := "com/example/intervale/intervale/bench/FillKeys", name := "<init>", desc := "(JII)V" } : Jvm.MethodName) prog_6_method_1_code (6 : Nat) (Option.none : Option Jvm.ClassFile.FieldType), Jvm.Cond.code ({ cls := "java/lang/Record", name := "<init>", desc := "()V" } : Jvm.MethodName) jdk_30_method_1_code (1 : Nat) (Option.none : Option Jvm.ClassFile.FieldType), Jvm.Cond.code ({ cls := "java/lang/Object", name := "<init>", desc := "()V" } : Jvm.MethodName) object_method_1_code (1 : Nat) (Option.none : Option Jvm.ClassFile.FieldType), Jvm.Cond.code ({ cls := "java/lang/Long", name := "toString", desc := "(J)Ljava/lang/String;" } : Jvm.MethodName) jdk_35_method_12_code (4 : Nat) (Option.some (Jvm.ClassFile.FieldType.object "java/lang/String")), Jvm.Cond.code ({ cls := "java/lang/Long", name := "stringSize", desc := "(J)I" } : Jvm.MethodName) jdk_35_method_15_code (6 : Nat) (Option.some Jvm.ClassFile.FieldType.int), Jvm.Cond.code ({ cls := "java/lang/Long", name := "getChars", desc := "(JI[B)I" } : Jvm.MethodName) jdk_35_method_14_code (11 : Nat) (Option.some Jvm.ClassFile.FieldType.int), Jvm.Cond.code ({ cls := "java/lang/String", name := "<init>", desc := "([BB)V" } : Jvm.MethodName) jdk_42_method_151_code (3 : Nat) (Option.none : Option Jvm.ClassFile.FieldType), Jvm.Cond.code ({ cls := "java/lang/String", name := "length", desc := "()I" } : Jvm.MethodName) jdk_42_method_54_code (1 : Nat) (Option.some Jvm.ClassFile.FieldType.int), Jvm.Cond.code ({ cls := "java/lang/String", name := "coder", desc := "()B" } : Jvm.MethodName) jdk_42_method_152_code (1 : Nat) (Option.some Jvm.ClassFile.FieldType.byte), Jvm.Cond.code ({ cls := "com/example/intervale/intervale/bench/FillKeys", name := "key", desc := "(J[B)V" } : Jvm.MethodName) prog_6_method_2_code (7 : Nat) (Option.none : Option Jvm.ClassFile.FieldType), Jvm.Cond.code ({ cls := "com/example/intervale/intervale/bench/FillKeysKeyPinLaw", name := "at", desc := "([BIJ[JI)Z" } : Jvm.MethodName) method_3_code (8 : Nat) (Option.some Jvm.ClassFile.FieldType.boolean)]
set_option maxRecDepth 65536 in
theorem codes_eq : words1.filter isCode = codes1 := rfl
theorem w_codes : ∀ c ∈ words1.filter isCode, c.before args0 about1 = true := by
  rw [codes_eq]
  intro c hc
  simp only [codes1, List.mem_cons, List.not_mem_nil, or_false] at hc
  rcases hc with rfl | rfl | rfl | rfl | rfl | rfl | rfl | rfl | rfl | rfl | rfl | rfl
  · exact w_c0
  · exact w_c1
  · exact w_c2
  · exact w_c3
  · exact w_c4
  · exact w_c5
  · exact w_c6
  · exact w_c7
  · exact w_c8
  · exact w_c9
  · exact w_c10
  · exact w_c11
set_option maxRecDepth 65536 in
theorem w_t1 : (words1.take 24).all (fun c => isCode c || c.before args0 about1) = true := by decide +kernel
set_option maxRecDepth 65536 in
theorem w_t2 : ((words1.drop 24).take 24).all (fun c => isCode c || c.before args0 about1) = true := by decide +kernel
set_option maxRecDepth 65536 in
theorem w_t3 : (((words1.drop 24).drop 24).take 24).all (fun c => isCode c || c.before args0 about1) = true := by decide +kernel
set_option maxRecDepth 65536 in
theorem w_t4 : ((((words1.drop 24).drop 24).drop 24).take 24).all (fun c => isCode c || c.before args0 about1) = true := by decide +kernel
set_option maxRecDepth 65536 in
theorem w_t5 : ((((words1.drop 24).drop 24).drop 24).drop 24).all (fun c => isCode c || c.before args0 about1) = true := by decide +kernel
theorem w_tables : (allAtoms (Jvm.Cond.code x code maxLocals ret :: tables_1)).before args0 about1 = true := by
  rw [allAtoms_all]
  show words1.all (fun c => c.before args0 about1) = true
  refine all_split ?_ w_codes
  rw [← List.take_append_drop 24 words1, List.all_append, w_t1, ← List.take_append_drop 24 (words1.drop 24), List.all_append, w_t2, ← List.take_append_drop 24 ((words1.drop 24).drop 24), List.all_append, w_t3, ← List.take_append_drop 24 (((words1.drop 24).drop 24).drop 24), List.all_append, w_t4, w_t5]
  rfl
set_option maxRecDepth 65536 in
theorem w_rest : rest_1_c.before args0 about1 = true := by decide +kernel
set_option maxRecDepth 65536 in
theorem w_case : (Jvm.Cond.and given_1 narrow_1).before args0 about1 = true := by decide +kernel
theorem w_applies : (headSpec (Jvm.Cond.code x code maxLocals ret :: tables_1) room_1).applies x e0.platform about1 = true :=
  (Spec.applies_iff w_frames).mpr ⟨w_running, w_runnable, w_alone, w_named, w_hears, w_ripe, w_room, w_tables⟩
theorem atStart : AtStart classFile x code maxLocals ret World_1 tables_1 room_1 Calls_1 rest_1 Pre_1 launch0 p0 e0 about1 theMethod args0 below0 :=
  ⟨lists_1, trivial, launch0.admits_env _ _ _, launch0.least_env, fairChoices_fair.cas, fairChoices_fair.clock, w_frames, w_args, w_heap, w_applies, trivial, w_rest, w_case⟩
end start1
theorem witness_1 : WitnessClaimed_1 := ⟨start1.p0, start1.e0, start1.about1, start1.theMethod, start1.args0, start1.below0, start1.atStart⟩
end Jvm.Pilot.@@N@@
