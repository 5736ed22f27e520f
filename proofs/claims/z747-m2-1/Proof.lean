import JvmDerived
import JvmDerived.Pilot.@@N@@Statement
import JvmDerived.Pilot.@@N@@Code
set_option linter.unusedVariables false
set_option linter.unusedSimpArgs false
namespace Jvm.Pilot.@@N@@
open Jvm Jvm.ClassFile Sem Op Lib Jvm.Free Jvm.Stand Jvm.LawKit Jvm.RoadKit Bundle Jvm.Pilot.@@N@@.Jvm.D
section OwnLayer
variable {p : Program} {l : Launch} {e : Env} {R : Room} {s : State} {m : MethodId} {args : Array Value} {below : List Frame} {meth : Method} {c : Code} {Z : State} {a0 : Array Value} {n0 : Nat} {own nm : String} {bytes : ByteArray} {ml : Nat} {rt : Option FieldType} {Q : Option Value → Heap → Prop} {h : Heap} {cells slots pc pc' pcY : Nat} {Ls Ls' : Array Slot} {st st' : List Value}
def ushr (x y : Int32) : Int32 := (x.toUInt32 >>> (y &&& 31).toUInt32).toInt32
def ushrL (x : Int64) (y : Int32) : Int64 := (x.toUInt64 >>> (y &&& 0x3f).toInt64.toUInt64).toInt64
/-- what stays the same while a body is walked -/
def OCx (p : Program) (l : Launch) (e : Env) (R : Room) (s : State) (m : MethodId) (args : Array Value) (below : List Frame) (meth : Method) (c : Code) (Z : State) (own nm : String) (bytes : ByteArray) (ml : Nat) (rt : Option FieldType) : Prop :=
  p.tables.exec = Jvm.exec ∧ c.code = bytes ∧ c.maxLocals = ml ∧ meth.sig.returnType = rt ∧ meth.name = nm ∧ meth.locks = false ∧ s.vm.findClass own = some m.cls ∧ Z.Warmed39 s.vm
theorem OCx.ex (K : OCx p l e R s m args below meth c Z own nm bytes ml rt) : p.tables.exec = Jvm.exec := K.1
theorem OCx.by (K : OCx p l e R s m args below meth c Z own nm bytes ml rt) : c.code = bytes := K.2.1
theorem OCx.hml (K : OCx p l e R s m args below meth c Z own nm bytes ml rt) : c.maxLocals = ml := K.2.2.1
theorem OCx.hrt (K : OCx p l e R s m args below meth c Z own nm bytes ml rt) : meth.sig.returnType = rt := K.2.2.2.1
theorem OCx.hnm (K : OCx p l e R s m args below meth c Z own nm bytes ml rt) : meth.name = nm := K.2.2.2.2.1
theorem OCx.lk (K : OCx p l e R s m args below meth c Z own nm bytes ml rt) : meth.locks = false := K.2.2.2.2.2.1
theorem OCx.hown (K : OCx p l e R s m args below meth c Z own nm bytes ml rt) : s.vm.findClass own = some m.cls := K.2.2.2.2.2.2.1
theorem OCx.hZ (K : OCx p l e R s m args below meth c Z own nm bytes ml rt) : Z.Warmed39 s.vm := K.2.2.2.2.2.2.2
/-- from here the body ends as Q says -/
def OGo (p : Program) (l : Launch) (e : Env) (R : Room) (s : State) (m : MethodId) (args : Array Value) (below : List Frame) (meth : Method) (c : Code) (n0 : Nat) (Q : Option Value → Heap → Prop) (h : Heap) (cells slots pc : Nat) (Ls : Array Slot) (st : List Value) : Prop :=
  ∀ (T : State) (locs : List Loc) (k n : Nat), Stand p l e R s m args below meth c T locs k n → T.heap = h → Fr n0 locs → k ≤ cells → n ≤ slots →
    ∃ (s₂ : State) (v : Option Value) (L : List Loc), Steps p.tables e below (T.setTop (mkF m pc Ls st)) s₂ ∧ s₂.status = .running ∧ Ended s₂ below (.returned v) ∧ Q v s₂.heap ∧ Fr n0 L ∧ FrameEnd s (.returned v) s₂ L R.cells R.slots
abbrev OCon (l : Launch) (Z : State) (n0 : Nat) (y : MethodName) (bytes : ByteArray) (maxL : Nat) (ret : Option FieldType) (ws : List Jvm.Cond) (rm : Room) (as' : Array Value) (h0 : Heap) (Q : Option Value → Heap → Prop) : Prop :=
  MetFree l y (head1 (Jvm.Cond.code y bytes maxL ret :: ws) rm) (fun a U => a = as' ∧ Z.Warmed39 U.vm ∧ U.heap = h0) (fun _ _ _ _ _ => True) (fun _ U o U' => ∃ v L, o = .returned v ∧ (Q v U'.heap ∧ Fr n0 L) ∧ FrameEnd U o U' L rm.cells rm.slots)
def OV (P : Value → Heap → Prop) (v : Option Value) (h : Heap) : Prop := ∃ w, v = some w ∧ P w h
def ON (P : Heap → Prop) (v : Option Value) (h : Heap) : Prop := v = none ∧ P h
def own_lay : List Value → List Slot
  | [] => []
  | v :: vs => if v.category = 2 then .val v :: .second :: own_lay vs else .val v :: own_lay vs
theorem own_lay_fold (vs : List Value) (acc : Array Slot) : vs.foldl (fun acc v => if v.category = 2 then (acc.push (.val v)).push .second else acc.push (.val v)) acc = acc ++ (own_lay vs).toArray := by
  induction vs generalizing acc with
  | nil => simp [own_lay]
  | cons v vs ih =>
    rw [List.foldl_cons, ih]
    simp only [own_lay]
    split <;> simp
theorem own_entry (m : MethodId) {vs : List Value} {n : Nat} {L : List Slot} (h : own_lay vs ++ List.replicate (n - (own_lay vs).length) .unset = L) : entryFrame m vs.toArray n = mkF m 0 L.toArray [] := by
  unfold entryFrame mkF argsToLocals
  subst h
  simp [own_lay_fold]
theorem OCon.of {y : MethodName} {maxL : Nat} {ret : Option FieldType} {ws : List Jvm.Cond} {rm : Room} {as' : Array Value} {h0 : Heap} (hpl : plainFor y = true) (hf : ∀ m, entryFrame m as' maxL = mkF m 0 Ls [])
    (body : ∀ p e s m below meth c, OCx p l e rm s m as' below meth c Z y.cls y.name bytes maxL ret → OGo p l e rm s m as' below meth c n0 Q h0 0 0 0 Ls []) : OCon l Z n0 y bytes maxL ret ws rm as' h0 Q := by
  refine MetFree.of_bodySF hpl hisR ?_
  intro p e s m args below meth c s₁ Bd hml0 hP hK
  obtain ⟨rfl, hZ, hh⟩ := hP
  have X0 : Stand p l e rm s m _ below meth c s₁ [] 0 0 := Stand.of_body Bd
  have e0 : s₁.heap = h0 := by rw [← hh, Bd.state]; rfl
  obtain ⟨s₂, v, L, h1, h2, h3, h4, h5, h6⟩ := body p e s m below meth c ⟨Bd.exec, Bd.bytes, hml0, Bd.returns, (name_of_methodNamed Bd.named Bd.method).1, BodyLoose.notSynchronized Bd, findClass_of_methodNamed Bd.named, hZ⟩ s₁ [] 0 0 X0 e0 (Fr.nil n0) (Nat.le_refl _) (Nat.le_refl _)
  exact ⟨s₂, _, castTop (hf m) h1, h2, h3, v, L, rfl, ⟨h4, h5⟩, h6⟩
theorem OCon.mono {y : MethodName} {maxL : Nat} {ret : Option FieldType} {ws : List Jvm.Cond} {rm : Room} {as' : Array Value} {h0 : Heap} {Q' : Option Value → Heap → Prop} (H : OCon l Z n0 y bytes maxL ret ws rm as' h0 Q) (k : ∀ v h, Q v h → Q' v h) : OCon l Z n0 y bytes maxL ret ws rm as' h0 Q' := by
  intro p e ha hc hk s m args below hf happ hP hK
  obtain ⟨n, o, h1, h2, h3, v, L, h4, ⟨h5, h6⟩, h7⟩ := H p e ha hc hk s m args below hf happ hP hK
  exact ⟨n, o, h1, h2, h3, v, L, h4, ⟨k _ _ h5, h6⟩, h7⟩
theorem OGo.more {cells' slots' : Nat} (r : OGo p l e R s m args below meth c n0 Q h cells' slots' pc Ls st) (hc : cells ≤ cells') (hs : slots ≤ slots') : OGo p l e R s m args below meth c n0 Q h cells slots pc Ls st :=
  fun T locs k n X e0 N h1 h2 => r T locs k n X e0 N (Nat.le_trans h1 hc) (Nat.le_trans h2 hs)
theorem OGo.plain (hs : ∀ (T t : State), At T m c below → Steps p.tables e below (T.setTop (mkF m pc' Ls' st')) t → Steps p.tables e below (T.setTop (mkF m pc Ls st)) t) (r : OGo p l e R s m args below meth c n0 Q h cells slots pc' Ls' st') : OGo p l e R s m args below meth c n0 Q h cells slots pc Ls st := by
  intro T locs k n X e0 N h1 h2
  obtain ⟨s₂, v, L, g, r'⟩ := r T locs k n X e0 N h1 h2
  exact ⟨s₂, v, L, hs T s₂ X.here g, r'⟩
theorem OGo.same (hs : ∀ (T : State) (locs : List Loc) (k n : Nat), Stand p l e R s m args below meth c T locs k n → T.heap = h → ∃ T', Stand p l e R s m args below meth c T' locs k n ∧ T'.heap = h ∧ ∀ t, Steps p.tables e below (T'.setTop (mkF m pc' Ls' st')) t → Steps p.tables e below (T.setTop (mkF m pc Ls st)) t) (r : OGo p l e R s m args below meth c n0 Q h cells slots pc' Ls' st') : OGo p l e R s m args below meth c n0 Q h cells slots pc Ls st := by
  intro T locs k n X e0 N h1 h2
  obtain ⟨T', X', e', st'⟩ := hs T locs k n X e0
  obtain ⟨s₂, v, L, g, r'⟩ := r T' locs k n X' e' N h1 h2
  exact ⟨s₂, v, L, st' _ g, r'⟩
/-- a step that writes one place a -/
theorem OGo.write {a : Addr} {sl : Nat} {v : Value} (ga : n0 ≤ a) (hs : ∀ (T : State) (locs : List Loc) (k n : Nat), Stand p l e R s m args below meth c T locs k n → T.heap = h → ∃ T' h', Stand p l e R s m args below meth c T' (locs ++ [⟨a, sl⟩]) k n ∧ T'.heap = h' ∧ Wr h h' a sl v ∧ ∀ t, Steps p.tables e below (T'.setTop (mkF m pc' Ls' st')) t → Steps p.tables e below (T.setTop (mkF m pc Ls st)) t)
    (r : ∀ h', Wr h h' a sl v → OGo p l e R s m args below meth c n0 Q h' cells slots pc' Ls' st') : OGo p l e R s m args below meth c n0 Q h cells slots pc Ls st := by
  intro T locs k n X e0 N h1 h2
  obtain ⟨T', h', X', e', W, st'⟩ := hs T locs k n X e0
  obtain ⟨s₂, v, L, g, r'⟩ := r h' W T' _ k n X' e' (Fr.snoc X' N ga) h1 h2
  exact ⟨s₂, v, L, st' _ g, r'⟩
theorem OGo.leave {w : Option Value} (K : OCx p l e R s m args below meth c Z own nm bytes ml rt) (hv : rt = none → w = none) (hs : ∀ (T : State) (locs : List Loc) (k n : Nat) (fs : List Frame), Stand p l e R s m args below meth c T locs k n → (∀ (f : JFrame) (acts : List Action), f.method = m → f.locked = none → f.entered = [] → (doReturn e (T.setTop f) acts w).1 = T.setFrames fs) → Steps p.tables e below (T.setTop (mkF m pc Ls st)) (T.setFrames fs))
    (hc : cells ≤ R.cells) (hl : slots ≤ R.slots) (q : Q w h) : OGo p l e R s m args below meth c n0 Q h cells slots pc Ls st := by
  intro T locs k n X e0 N h1 h2
  obtain ⟨fs, hr, hrun, hended, hW, hsame⟩ := X.leave (v := w) (fun x => hv (K.hrt.symm.trans x)) K.lk
  refine ⟨_, w, locs, hs T locs k n fs X hr, hrun, hended, ?_, N, ⟨_, rfl⟩, hW, hsame.mono (Nat.le_trans h1 hc) (Nat.le_trans h2 hl)⟩
  show Q w T.heap
  rw [e0]; exact q
theorem OGo.ret {w : Value} {t : FieldType} {i : Instr} {rest : List Value} (K : OCx p l e R s m args below meth c Z own nm bytes ml (some t)) (hd : decode bytes pc = .ok (i, 1)) (hn : narrow t w = w)
    (hi : (i = .ireturn ∧ (t = .int ∨ t = .boolean ∨ t = .byte ∨ t = .char ∨ t = .short) ∧ ∃ z, w = .int z) ∨ (i = .lreturn ∧ t = .long ∧ ∃ z, w = .long z) ∨ (i = .dreturn ∧ t = .double ∧ ∃ z, w = .double z) ∨ (i = .freturn ∧ t = .float ∧ ∃ z, w = .float z) ∨ (i = .areturn ∧ t.isReference = true ∧ w.isRef = true))
    (hc : cells ≤ R.cells) (hl : slots ≤ R.slots) (q : Q (some w) h) : OGo p l e R s m args below meth c n0 Q h cells slots pc Ls (w :: rest) :=
  OGo.leave K (fun x => nomatch x) (fun T locs k n fs X hr => retOut X K.ex K.hrt hn hi (hb K.by hd) hr) hc hl q
theorem OGo.iret {z : Int32} {rest : List Value} (K : OCx p l e R s m args below meth c Z own nm bytes ml (some .int)) (hd : decode bytes pc = .ok (.ireturn, 1)) (hc : cells ≤ R.cells) (hl : slots ≤ R.slots) (q : Q (some (.int z)) h) : OGo p l e R s m args below meth c n0 Q h cells slots pc Ls (.int z :: rest) :=
  OGo.ret K hd rfl (Or.inl ⟨rfl, Or.inl rfl, z, rfl⟩) hc hl q
theorem OGo.nret {z : Int32} {t : FieldType} {rest : List Value} (K : OCx p l e R s m args below meth c Z own nm bytes ml (some t)) (ht : t = .boolean ∨ t = .byte ∨ t = .char ∨ t = .short) (hd : decode bytes pc = .ok (.ireturn, 1)) (hc : cells ≤ R.cells) (hl : slots ≤ R.slots) (q : Q (some (.int (nar t z))) h) : OGo p l e R s m args below meth c n0 Q h cells slots pc Ls (.int z :: rest) :=
  OGo.leave K (fun x => nomatch x) (fun T locs k n fs X hr => retN X K.ex K.hrt ht (hb K.by hd) hr) hc hl q
theorem OGo.lret {z : Int64} {rest : List Value} (K : OCx p l e R s m args below meth c Z own nm bytes ml (some .long)) (hd : decode bytes pc = .ok (.lreturn, 1)) (hc : cells ≤ R.cells) (hl : slots ≤ R.slots) (q : Q (some (.long z)) h) : OGo p l e R s m args below meth c n0 Q h cells slots pc Ls (.long z :: rest) :=
  OGo.ret K hd rfl (Or.inr (Or.inl ⟨rfl, rfl, z, rfl⟩)) hc hl q
theorem OGo.dret {z : UInt64} {rest : List Value} (K : OCx p l e R s m args below meth c Z own nm bytes ml (some .double)) (hd : decode bytes pc = .ok (.dreturn, 1)) (hc : cells ≤ R.cells) (hl : slots ≤ R.slots) (q : Q (some (.double z)) h) : OGo p l e R s m args below meth c n0 Q h cells slots pc Ls (.double z :: rest) :=
  OGo.ret K hd rfl (Or.inr (Or.inr (Or.inl ⟨rfl, rfl, z, rfl⟩))) hc hl q
theorem OGo.aret {w : Value} {t : FieldType} {rest : List Value} (K : OCx p l e R s m args below meth c Z own nm bytes ml (some t)) (hd : decode bytes pc = .ok (.areturn, 1)) (ht : t.isReference = true) (hw : w.isRef = true) (hc : cells ≤ R.cells) (hl : slots ≤ R.slots) (q : Q (some w) h) : OGo p l e R s m args below meth c n0 Q h cells slots pc Ls (w :: rest) :=
  OGo.ret K hd (by cases t <;> first | (cases ht; done) | (cases w <;> first | (cases hw; done) | rfl)) (Or.inr (Or.inr (Or.inr (Or.inr ⟨rfl, ht, hw⟩)))) hc hl q
theorem OGo.vret (K : OCx p l e R s m args below meth c Z own nm bytes ml none) (hd : decode bytes pc = .ok (.return_, 1)) (hc : cells ≤ R.cells) (hl : slots ≤ R.slots) (q : Q none h) : OGo p l e R s m args below meth c n0 Q h cells slots pc Ls [] :=
  OGo.leave K (fun _ => rfl) (fun T locs k n fs X hr => X.returnOut K.ex K.hrt (hb K.by hd) hr) hc hl q

theorem OGo.iload (K : OCx p l e R s m args below meth c Z own nm bytes ml rt) {k : Nat} {v : Int32} (hd : decode bytes pc = .ok (.iload k, 2)) (hp : pc + 2 = pc') (hl : Ls[k]? = some (.val (.int v))) (r : OGo p l e R s m args below meth c n0 Q h cells slots pc' Ls (.int v :: st)) : OGo p l e R s m args below meth c n0 Q h cells slots pc Ls st := by
  subst hp
  exact OGo.plain (fun T t hA q => XS.iload hA K.ex rfl (hb K.by hd) hl q) r
theorem OGo.iloadN (K : OCx p l e R s m args below meth c Z own nm bytes ml rt) {k : Fin 4} {v : Int32} (hd : decode bytes pc = .ok (.iload_n k, 1)) (hp : pc + 1 = pc') (hl : Ls[k.val]? = some (.val (.int v))) (r : OGo p l e R s m args below meth c n0 Q h cells slots pc' Ls (.int v :: st)) : OGo p l e R s m args below meth c n0 Q h cells slots pc Ls st := by
  subst hp
  exact OGo.plain (fun T t hA q => XS.iloadN hA K.ex rfl (hb K.by hd) hl q) r
theorem OGo.lload (K : OCx p l e R s m args below meth c Z own nm bytes ml rt) {k : Nat} {v : Int64} (hd : decode bytes pc = .ok (.lload k, 2)) (hp : pc + 2 = pc') (hl : Ls[k]? = some (.val (.long v))) (r : OGo p l e R s m args below meth c n0 Q h cells slots pc' Ls (.long v :: st)) : OGo p l e R s m args below meth c n0 Q h cells slots pc Ls st := by
  subst hp
  exact OGo.plain (fun T t hA q => XS.lload hA K.ex rfl (hb K.by hd) hl q) r
theorem OGo.lloadN (K : OCx p l e R s m args below meth c Z own nm bytes ml rt) {k : Fin 4} {v : Int64} (hd : decode bytes pc = .ok (.lload_n k, 1)) (hp : pc + 1 = pc') (hl : Ls[k.val]? = some (.val (.long v))) (r : OGo p l e R s m args below meth c n0 Q h cells slots pc' Ls (.long v :: st)) : OGo p l e R s m args below meth c n0 Q h cells slots pc Ls st := by
  subst hp
  exact OGo.plain (fun T t hA q => XS.lloadN hA K.ex rfl (hb K.by hd) hl q) r
theorem OGo.aload (K : OCx p l e R s m args below meth c Z own nm bytes ml rt) {k : Nat} {v : Value} (hd : decode bytes pc = .ok (.aload k, 2)) (hp : pc + 2 = pc') (hl : Ls[k]? = some (.val v)) (hv : v.isRef = true) (r : OGo p l e R s m args below meth c n0 Q h cells slots pc' Ls (v :: st)) : OGo p l e R s m args below meth c n0 Q h cells slots pc Ls st := by
  subst hp
  exact OGo.plain (fun T t hA q => XS.aload hA K.ex rfl (hb K.by hd) hl hv q) r
theorem OGo.aloadN (K : OCx p l e R s m args below meth c Z own nm bytes ml rt) {k : Fin 4} {v : Value} (hd : decode bytes pc = .ok (.aload_n k, 1)) (hp : pc + 1 = pc') (hl : Ls[k.val]? = some (.val v)) (hv : v.isRef = true) (r : OGo p l e R s m args below meth c n0 Q h cells slots pc' Ls (v :: st)) : OGo p l e R s m args below meth c n0 Q h cells slots pc Ls st := by
  subst hp
  exact OGo.plain (fun T t hA q => XS.aloadN hA K.ex rfl (hb K.by hd) hl hv q) r
theorem OGo.istore (K : OCx p l e R s m args below meth c Z own nm bytes ml rt) {k : Nat} {v : Int32} (hd : decode bytes pc = .ok (.istore k, 2)) (hp : pc + 2 = pc') (hl : storeLocals Ls k (.int v) = some Ls') (r : OGo p l e R s m args below meth c n0 Q h cells slots pc' Ls' st) : OGo p l e R s m args below meth c n0 Q h cells slots pc Ls (.int v :: st) := by
  subst hp
  exact OGo.plain (fun T t hA q => XS.istore hA K.ex rfl (hb K.by hd) rfl hl q) r
theorem OGo.istoreN (K : OCx p l e R s m args below meth c Z own nm bytes ml rt) {k : Fin 4} {v : Int32} (hd : decode bytes pc = .ok (.istore_n k, 1)) (hp : pc + 1 = pc') (hl : storeLocals Ls k.val (.int v) = some Ls') (r : OGo p l e R s m args below meth c n0 Q h cells slots pc' Ls' st) : OGo p l e R s m args below meth c n0 Q h cells slots pc Ls (.int v :: st) := by
  subst hp
  exact OGo.plain (fun T t hA q => XS.istoreN hA K.ex rfl (hb K.by hd) rfl hl q) r
theorem OGo.lstore (K : OCx p l e R s m args below meth c Z own nm bytes ml rt) {k : Nat} {v : Int64} (hd : decode bytes pc = .ok (.lstore k, 2)) (hp : pc + 2 = pc') (hl : storeLocals Ls k (.long v) = some Ls') (r : OGo p l e R s m args below meth c n0 Q h cells slots pc' Ls' st) : OGo p l e R s m args below meth c n0 Q h cells slots pc Ls (.long v :: st) := by
  subst hp
  exact OGo.plain (fun T t hA q => XS.lstore hA K.ex rfl (hb K.by hd) rfl hl q) r
theorem OGo.lstoreN (K : OCx p l e R s m args below meth c Z own nm bytes ml rt) {k : Fin 4} {v : Int64} (hd : decode bytes pc = .ok (.lstore_n k, 1)) (hp : pc + 1 = pc') (hl : storeLocals Ls k.val (.long v) = some Ls') (r : OGo p l e R s m args below meth c n0 Q h cells slots pc' Ls' st) : OGo p l e R s m args below meth c n0 Q h cells slots pc Ls (.long v :: st) := by
  subst hp
  exact OGo.plain (fun T t hA q => XS.lstoreN hA K.ex rfl (hb K.by hd) rfl hl q) r
theorem OGo.astore (K : OCx p l e R s m args below meth c Z own nm bytes ml rt) {k : Nat} {v : Value} (hd : decode bytes pc = .ok (.astore k, 2)) (hp : pc + 2 = pc') (hv : v.isRef = true) (hl : storeLocals Ls k v = some Ls') (r : OGo p l e R s m args below meth c n0 Q h cells slots pc' Ls' st) : OGo p l e R s m args below meth c n0 Q h cells slots pc Ls (v :: st) := by
  subst hp
  exact OGo.plain (fun T t hA q => XS.astore hA K.ex rfl (hb K.by hd) rfl hv hl q) r
theorem OGo.astoreN (K : OCx p l e R s m args below meth c Z own nm bytes ml rt) {k : Fin 4} {v : Value} (hd : decode bytes pc = .ok (.astore_n k, 1)) (hp : pc + 1 = pc') (hv : v.isRef = true) (hl : storeLocals Ls k.val v = some Ls') (r : OGo p l e R s m args below meth c n0 Q h cells slots pc' Ls' st) : OGo p l e R s m args below meth c n0 Q h cells slots pc Ls (v :: st) := by
  subst hp
  exact OGo.plain (fun T t hA q => XS.astoreN hA K.ex rfl (hb K.by hd) rfl hv hl q) r
theorem OGo.iconst (K : OCx p l e R s m args below meth c Z own nm bytes ml rt) {i : Int} {z : Int32} (hd : decode bytes pc = .ok (.iconst i, 1)) (hp : pc + 1 = pc') (hz : Int32.ofInt i = z) (r : OGo p l e R s m args below meth c n0 Q h cells slots pc' Ls (.int z :: st)) : OGo p l e R s m args below meth c n0 Q h cells slots pc Ls st := by
  subst hp
  exact OGo.plain (fun T t hA q => XS.iconst hA K.ex rfl (hb K.by hd) (by rw [hz]; exact q)) r
theorem OGo.bipush (K : OCx p l e R s m args below meth c Z own nm bytes ml rt) {i : Int} {z : Int32} (hd : decode bytes pc = .ok (.bipush i, 2)) (hp : pc + 2 = pc') (hz : (Int8.ofInt i).toInt32 = z) (r : OGo p l e R s m args below meth c n0 Q h cells slots pc' Ls (.int z :: st)) : OGo p l e R s m args below meth c n0 Q h cells slots pc Ls st := by
  subst hp
  exact OGo.plain (fun T t hA q => XS.bipush hA K.ex rfl (hb K.by hd) (by rw [hz]; exact q)) r
theorem OGo.sipush (K : OCx p l e R s m args below meth c Z own nm bytes ml rt) {i : Int} {z : Int32} (hd : decode bytes pc = .ok (.sipush i, 3)) (hp : pc + 3 = pc') (hz : (Int16.ofInt i).toInt32 = z) (r : OGo p l e R s m args below meth c n0 Q h cells slots pc' Ls (.int z :: st)) : OGo p l e R s m args below meth c n0 Q h cells slots pc Ls st := by
  subst hp
  exact OGo.plain (fun T t hA q => XS.sipush hA K.ex rfl (hb K.by hd) (by rw [hz]; exact q)) r
theorem OGo.lconst (K : OCx p l e R s m args below meth c Z own nm bytes ml rt) {i : Fin 2} {z : Int64} (hd : decode bytes pc = .ok (.lconst i, 1)) (hp : pc + 1 = pc') (hz : Int64.ofNat i = z) (r : OGo p l e R s m args below meth c n0 Q h cells slots pc' Ls (.long z :: st)) : OGo p l e R s m args below meth c n0 Q h cells slots pc Ls st := by
  subst hp
  exact OGo.plain (fun T t hA q => XS.lconst hA K.ex rfl (hb K.by hd) (by rw [hz]; exact q)) r
theorem OGo.aconstNull (K : OCx p l e R s m args below meth c Z own nm bytes ml rt) (hd : decode bytes pc = .ok (.aconst_null, 1)) (hp : pc + 1 = pc') (r : OGo p l e R s m args below meth c n0 Q h cells slots pc' Ls (.null :: st)) : OGo p l e R s m args below meth c n0 Q h cells slots pc Ls st := by
  subst hp
  exact OGo.plain (fun T t hA q => XS.aconstNull hA K.ex rfl (hb K.by hd) q) r
theorem OGo.iadd (K : OCx p l e R s m args below meth c Z own nm bytes ml rt) {x y : Int32} (hd : decode bytes pc = .ok (.iadd, 1)) (hp : pc + 1 = pc') (r : OGo p l e R s m args below meth c n0 Q h cells slots pc' Ls (.int (x + y) :: st)) : OGo p l e R s m args below meth c n0 Q h cells slots pc Ls (.int y :: .int x :: st) := by
  subst hp
  exact OGo.plain (fun T t hA q => XS.iadd hA K.ex rfl (hb K.by hd) rfl q) r
theorem OGo.isub (K : OCx p l e R s m args below meth c Z own nm bytes ml rt) {x y : Int32} (hd : decode bytes pc = .ok (.isub, 1)) (hp : pc + 1 = pc') (r : OGo p l e R s m args below meth c n0 Q h cells slots pc' Ls (.int (x - y) :: st)) : OGo p l e R s m args below meth c n0 Q h cells slots pc Ls (.int y :: .int x :: st) := by
  subst hp
  exact OGo.plain (fun T t hA q => XS.isub hA K.ex rfl (hb K.by hd) rfl q) r
theorem OGo.imul (K : OCx p l e R s m args below meth c Z own nm bytes ml rt) {x y : Int32} (hd : decode bytes pc = .ok (.imul, 1)) (hp : pc + 1 = pc') (r : OGo p l e R s m args below meth c n0 Q h cells slots pc' Ls (.int (x * y) :: st)) : OGo p l e R s m args below meth c n0 Q h cells slots pc Ls (.int y :: .int x :: st) := by
  subst hp
  exact OGo.plain (fun T t hA q => XS.imul hA K.ex rfl (hb K.by hd) rfl q) r
theorem OGo.iand (K : OCx p l e R s m args below meth c Z own nm bytes ml rt) {x y : Int32} (hd : decode bytes pc = .ok (.iand, 1)) (hp : pc + 1 = pc') (r : OGo p l e R s m args below meth c n0 Q h cells slots pc' Ls (.int (x &&& y) :: st)) : OGo p l e R s m args below meth c n0 Q h cells slots pc Ls (.int y :: .int x :: st) := by
  subst hp
  exact OGo.plain (fun T t hA q => XS.iand hA K.ex rfl (hb K.by hd) rfl q) r
theorem OGo.ior (K : OCx p l e R s m args below meth c Z own nm bytes ml rt) {x y : Int32} (hd : decode bytes pc = .ok (.ior, 1)) (hp : pc + 1 = pc') (r : OGo p l e R s m args below meth c n0 Q h cells slots pc' Ls (.int (x ||| y) :: st)) : OGo p l e R s m args below meth c n0 Q h cells slots pc Ls (.int y :: .int x :: st) := by
  subst hp
  exact OGo.plain (fun T t hA q => XS.ior hA K.ex rfl (hb K.by hd) rfl q) r
theorem OGo.ixor (K : OCx p l e R s m args below meth c Z own nm bytes ml rt) {x y : Int32} (hd : decode bytes pc = .ok (.ixor, 1)) (hp : pc + 1 = pc') (r : OGo p l e R s m args below meth c n0 Q h cells slots pc' Ls (.int (x ^^^ y) :: st)) : OGo p l e R s m args below meth c n0 Q h cells slots pc Ls (.int y :: .int x :: st) := by
  subst hp
  exact OGo.plain (fun T t hA q => XS.ixor hA K.ex rfl (hb K.by hd) rfl q) r
theorem OGo.ladd (K : OCx p l e R s m args below meth c Z own nm bytes ml rt) {x y : Int64} (hd : decode bytes pc = .ok (.ladd, 1)) (hp : pc + 1 = pc') (r : OGo p l e R s m args below meth c n0 Q h cells slots pc' Ls (.long (x + y) :: st)) : OGo p l e R s m args below meth c n0 Q h cells slots pc Ls (.long y :: .long x :: st) := by
  subst hp
  exact OGo.plain (fun T t hA q => XS.ladd hA K.ex rfl (hb K.by hd) rfl q) r
theorem OGo.lsub (K : OCx p l e R s m args below meth c Z own nm bytes ml rt) {x y : Int64} (hd : decode bytes pc = .ok (.lsub, 1)) (hp : pc + 1 = pc') (r : OGo p l e R s m args below meth c n0 Q h cells slots pc' Ls (.long (x - y) :: st)) : OGo p l e R s m args below meth c n0 Q h cells slots pc Ls (.long y :: .long x :: st) := by
  subst hp
  exact OGo.plain (fun T t hA q => XS.lsub hA K.ex rfl (hb K.by hd) rfl q) r
theorem OGo.lmul (K : OCx p l e R s m args below meth c Z own nm bytes ml rt) {x y : Int64} (hd : decode bytes pc = .ok (.lmul, 1)) (hp : pc + 1 = pc') (r : OGo p l e R s m args below meth c n0 Q h cells slots pc' Ls (.long (x * y) :: st)) : OGo p l e R s m args below meth c n0 Q h cells slots pc Ls (.long y :: .long x :: st) := by
  subst hp
  exact OGo.plain (fun T t hA q => XS.lmul hA K.ex rfl (hb K.by hd) rfl q) r
theorem OGo.land (K : OCx p l e R s m args below meth c Z own nm bytes ml rt) {x y : Int64} (hd : decode bytes pc = .ok (.land, 1)) (hp : pc + 1 = pc') (r : OGo p l e R s m args below meth c n0 Q h cells slots pc' Ls (.long (x &&& y) :: st)) : OGo p l e R s m args below meth c n0 Q h cells slots pc Ls (.long y :: .long x :: st) := by
  subst hp
  exact OGo.plain (fun T t hA q => XS.land hA K.ex rfl (hb K.by hd) rfl q) r
theorem OGo.lor (K : OCx p l e R s m args below meth c Z own nm bytes ml rt) {x y : Int64} (hd : decode bytes pc = .ok (.lor, 1)) (hp : pc + 1 = pc') (r : OGo p l e R s m args below meth c n0 Q h cells slots pc' Ls (.long (x ||| y) :: st)) : OGo p l e R s m args below meth c n0 Q h cells slots pc Ls (.long y :: .long x :: st) := by
  subst hp
  exact OGo.plain (fun T t hA q => XS.lor hA K.ex rfl (hb K.by hd) rfl q) r
theorem OGo.lxor (K : OCx p l e R s m args below meth c Z own nm bytes ml rt) {x y : Int64} (hd : decode bytes pc = .ok (.lxor, 1)) (hp : pc + 1 = pc') (r : OGo p l e R s m args below meth c n0 Q h cells slots pc' Ls (.long (x ^^^ y) :: st)) : OGo p l e R s m args below meth c n0 Q h cells slots pc Ls (.long y :: .long x :: st) := by
  subst hp
  exact OGo.plain (fun T t hA q => XS.lxor hA K.ex rfl (hb K.by hd) rfl q) r
theorem OGo.ishl (K : OCx p l e R s m args below meth c Z own nm bytes ml rt) {x y : Int32} (hd : decode bytes pc = .ok (.ishl, 1)) (hp : pc + 1 = pc') (r : OGo p l e R s m args below meth c n0 Q h cells slots pc' Ls (.int (x <<< (y &&& 31)) :: st)) : OGo p l e R s m args below meth c n0 Q h cells slots pc Ls (.int y :: .int x :: st) := by
  subst hp
  exact OGo.plain (fun T t hA q => XS.ishl hA K.ex rfl (hb K.by hd) rfl q) r
theorem OGo.ishr (K : OCx p l e R s m args below meth c Z own nm bytes ml rt) {x y : Int32} (hd : decode bytes pc = .ok (.ishr, 1)) (hp : pc + 1 = pc') (r : OGo p l e R s m args below meth c n0 Q h cells slots pc' Ls (.int (x >>> (y &&& 31)) :: st)) : OGo p l e R s m args below meth c n0 Q h cells slots pc Ls (.int y :: .int x :: st) := by
  subst hp
  exact OGo.plain (fun T t hA q => XS.ishr hA K.ex rfl (hb K.by hd) rfl q) r
theorem OGo.iushr (K : OCx p l e R s m args below meth c Z own nm bytes ml rt) {x y : Int32} (hd : decode bytes pc = .ok (.iushr, 1)) (hp : pc + 1 = pc') (r : OGo p l e R s m args below meth c n0 Q h cells slots pc' Ls (.int (ushr x y) :: st)) : OGo p l e R s m args below meth c n0 Q h cells slots pc Ls (.int y :: .int x :: st) := by
  subst hp
  exact OGo.plain (fun T t hA q => XS.iushr hA K.ex rfl (hb K.by hd) rfl q) r
theorem OGo.lshl (K : OCx p l e R s m args below meth c Z own nm bytes ml rt) {x : Int64} {y : Int32} (hd : decode bytes pc = .ok (.lshl, 1)) (hp : pc + 1 = pc') (r : OGo p l e R s m args below meth c n0 Q h cells slots pc' Ls (.long (x <<< (y &&& 63).toInt64) :: st)) : OGo p l e R s m args below meth c n0 Q h cells slots pc Ls (.int y :: .long x :: st) := by
  subst hp
  exact OGo.plain (fun T t hA q => XS.lshl hA K.ex rfl (hb K.by hd) rfl q) r
theorem OGo.lshr (K : OCx p l e R s m args below meth c Z own nm bytes ml rt) {x : Int64} {y : Int32} (hd : decode bytes pc = .ok (.lshr, 1)) (hp : pc + 1 = pc') (r : OGo p l e R s m args below meth c n0 Q h cells slots pc' Ls (.long (x >>> (y &&& 63).toInt64) :: st)) : OGo p l e R s m args below meth c n0 Q h cells slots pc Ls (.int y :: .long x :: st) := by
  subst hp
  exact OGo.plain (fun T t hA q => XS.lshr hA K.ex rfl (hb K.by hd) rfl q) r
theorem OGo.lushr (K : OCx p l e R s m args below meth c Z own nm bytes ml rt) {x : Int64} {y : Int32} (hd : decode bytes pc = .ok (.lushr, 1)) (hp : pc + 1 = pc') (r : OGo p l e R s m args below meth c n0 Q h cells slots pc' Ls (.long (ushrL x y) :: st)) : OGo p l e R s m args below meth c n0 Q h cells slots pc Ls (.int y :: .long x :: st) := by
  subst hp
  exact OGo.plain (fun T t hA q => XS.lushr hA K.ex rfl (hb K.by hd) rfl q) r
theorem OGo.idiv (K : OCx p l e R s m args below meth c Z own nm bytes ml rt) {x y : Int32} (hd : decode bytes pc = .ok (.idiv, 1)) (hp : pc + 1 = pc') (hy : y ≠ 0) (r : OGo p l e R s m args below meth c n0 Q h cells slots pc' Ls (.int (x / y) :: st)) : OGo p l e R s m args below meth c n0 Q h cells slots pc Ls (.int y :: .int x :: st) := by
  subst hp
  exact OGo.plain (fun T t hA q => XS.idiv hA K.ex rfl (hb K.by hd) rfl hy q) r
theorem OGo.irem (K : OCx p l e R s m args below meth c Z own nm bytes ml rt) {x y : Int32} (hd : decode bytes pc = .ok (.irem, 1)) (hp : pc + 1 = pc') (hy : y ≠ 0) (r : OGo p l e R s m args below meth c n0 Q h cells slots pc' Ls (.int (x % y) :: st)) : OGo p l e R s m args below meth c n0 Q h cells slots pc Ls (.int y :: .int x :: st) := by
  subst hp
  exact OGo.plain (fun T t hA q => XS.irem hA K.ex rfl (hb K.by hd) rfl hy (by rw [show x - x / y * y = x % y from irem_eq_mod x y]; exact q)) r
theorem OGo.ldiv (K : OCx p l e R s m args below meth c Z own nm bytes ml rt) {x y : Int64} (hd : decode bytes pc = .ok (.ldiv, 1)) (hp : pc + 1 = pc') (hy : y ≠ 0) (r : OGo p l e R s m args below meth c n0 Q h cells slots pc' Ls (.long (x / y) :: st)) : OGo p l e R s m args below meth c n0 Q h cells slots pc Ls (.long y :: .long x :: st) := by
  subst hp
  exact OGo.plain (fun T t hA q => XS.ldiv hA K.ex rfl (hb K.by hd) rfl hy q) r
theorem OGo.lrem (K : OCx p l e R s m args below meth c Z own nm bytes ml rt) {x y : Int64} (hd : decode bytes pc = .ok (.lrem, 1)) (hp : pc + 1 = pc') (hy : y ≠ 0) (r : OGo p l e R s m args below meth c n0 Q h cells slots pc' Ls (.long (x - (x / y) * y) :: st)) : OGo p l e R s m args below meth c n0 Q h cells slots pc Ls (.long y :: .long x :: st) := by
  subst hp
  exact OGo.plain (fun T t hA q => XS.lrem hA K.ex rfl (hb K.by hd) rfl hy q) r
theorem OGo.ineg (K : OCx p l e R s m args below meth c Z own nm bytes ml rt) {x : Int32} (hd : decode bytes pc = .ok (.ineg, 1)) (hp : pc + 1 = pc') (r : OGo p l e R s m args below meth c n0 Q h cells slots pc' Ls (.int (-x) :: st)) : OGo p l e R s m args below meth c n0 Q h cells slots pc Ls (.int x :: st) := by
  subst hp
  exact OGo.plain (fun T t hA q => XS.ineg hA K.ex rfl (hb K.by hd) rfl q) r
theorem OGo.lneg (K : OCx p l e R s m args below meth c Z own nm bytes ml rt) {x : Int64} (hd : decode bytes pc = .ok (.lneg, 1)) (hp : pc + 1 = pc') (r : OGo p l e R s m args below meth c n0 Q h cells slots pc' Ls (.long (-x) :: st)) : OGo p l e R s m args below meth c n0 Q h cells slots pc Ls (.long x :: st) := by
  subst hp
  exact OGo.plain (fun T t hA q => XS.lneg hA K.ex rfl (hb K.by hd) rfl q) r
theorem OGo.i2l (K : OCx p l e R s m args below meth c Z own nm bytes ml rt) {x : Int32} (hd : decode bytes pc = .ok (.i2l, 1)) (hp : pc + 1 = pc') (r : OGo p l e R s m args below meth c n0 Q h cells slots pc' Ls (.long x.toInt64 :: st)) : OGo p l e R s m args below meth c n0 Q h cells slots pc Ls (.int x :: st) := by
  subst hp
  exact OGo.plain (fun T t hA q => XS.i2l hA K.ex rfl (hb K.by hd) rfl q) r
theorem OGo.l2i (K : OCx p l e R s m args below meth c Z own nm bytes ml rt) {x : Int64} (hd : decode bytes pc = .ok (.l2i, 1)) (hp : pc + 1 = pc') (r : OGo p l e R s m args below meth c n0 Q h cells slots pc' Ls (.int x.toInt32 :: st)) : OGo p l e R s m args below meth c n0 Q h cells slots pc Ls (.long x :: st) := by
  subst hp
  exact OGo.plain (fun T t hA q => XS.l2i hA K.ex rfl (hb K.by hd) rfl q) r
theorem OGo.i2b (K : OCx p l e R s m args below meth c Z own nm bytes ml rt) {x : Int32} (hd : decode bytes pc = .ok (.i2b, 1)) (hp : pc + 1 = pc') (r : OGo p l e R s m args below meth c n0 Q h cells slots pc' Ls (.int x.toInt8.toInt32 :: st)) : OGo p l e R s m args below meth c n0 Q h cells slots pc Ls (.int x :: st) := by
  subst hp
  exact OGo.plain (fun T t hA q => XS.i2b hA K.ex rfl (hb K.by hd) rfl q) r
theorem OGo.i2s (K : OCx p l e R s m args below meth c Z own nm bytes ml rt) {x : Int32} (hd : decode bytes pc = .ok (.i2s, 1)) (hp : pc + 1 = pc') (r : OGo p l e R s m args below meth c n0 Q h cells slots pc' Ls (.int x.toInt16.toInt32 :: st)) : OGo p l e R s m args below meth c n0 Q h cells slots pc Ls (.int x :: st) := by
  subst hp
  exact OGo.plain (fun T t hA q => XS.i2s hA K.ex rfl (hb K.by hd) rfl q) r
theorem OGo.i2c (K : OCx p l e R s m args below meth c Z own nm bytes ml rt) {x : Int32} (hd : decode bytes pc = .ok (.i2c, 1)) (hp : pc + 1 = pc') (r : OGo p l e R s m args below meth c n0 Q h cells slots pc' Ls (.int x.toUInt32.toUInt16.toUInt32.toInt32 :: st)) : OGo p l e R s m args below meth c n0 Q h cells slots pc Ls (.int x :: st) := by
  subst hp
  exact OGo.plain (fun T t hA q => XS.i2c hA K.ex rfl (hb K.by hd) rfl q) r
theorem OGo.iinc (K : OCx p l e R s m args below meth c Z own nm bytes ml rt) {k : Nat} {i : Int} {x z : Int32} (hd : decode bytes pc = .ok (.iinc k i, 3)) (hp : pc + 3 = pc') (hl : Ls[k]? = some (.val (.int x))) (hz : Int32.ofInt i = z) (hl' : storeLocals Ls k (.int (x + z)) = some Ls') (r : OGo p l e R s m args below meth c n0 Q h cells slots pc' Ls' st) : OGo p l e R s m args below meth c n0 Q h cells slots pc Ls st := by
  subst hp
  exact OGo.plain (fun T t hA q => XS.iinc hA K.ex rfl (hb K.by hd) hl (by rw [hz]; exact hl') q) r
theorem OGo.dup (K : OCx p l e R s m args below meth c Z own nm bytes ml rt) {v : Value} (hd : decode bytes pc = .ok (.dup, 1)) (hp : pc + 1 = pc') (hc : v.category = 1) (r : OGo p l e R s m args below meth c n0 Q h cells slots pc' Ls (v :: v :: st)) : OGo p l e R s m args below meth c n0 Q h cells slots pc Ls (v :: st) := by
  subst hp
  exact OGo.plain (fun T t hA q => XS.dup hA K.ex rfl (hb K.by hd) rfl hc q) r
theorem OGo.pop (K : OCx p l e R s m args below meth c Z own nm bytes ml rt) {v : Value} (hd : decode bytes pc = .ok (.pop, 1)) (hp : pc + 1 = pc') (hc : v.category = 1) (r : OGo p l e R s m args below meth c n0 Q h cells slots pc' Ls st) : OGo p l e R s m args below meth c n0 Q h cells slots pc Ls (v :: st) := by
  subst hp
  exact OGo.plain (fun T t hA q => XS.pop hA K.ex rfl (hb K.by hd) rfl hc q) r
theorem OGo.dupX1 (K : OCx p l e R s m args below meth c Z own nm bytes ml rt) {v w : Value} (hd : decode bytes pc = .ok (.dup_x1, 1)) (hp : pc + 1 = pc') (hc : v.category = 1) (hc' : w.category = 1) (r : OGo p l e R s m args below meth c n0 Q h cells slots pc' Ls (v :: w :: v :: st)) : OGo p l e R s m args below meth c n0 Q h cells slots pc Ls (v :: w :: st) := by
  subst hp
  exact OGo.plain (fun T t hA q => XS.dupX1 hA K.ex rfl (hb K.by hd) rfl hc hc' q) r
theorem OGo.dup2 (K : OCx p l e R s m args below meth c Z own nm bytes ml rt) {v w : Value} (hd : decode bytes pc = .ok (.dup2, 1)) (hp : pc + 1 = pc') (hc : v.category = 1) (hc' : w.category = 1) (r : OGo p l e R s m args below meth c n0 Q h cells slots pc' Ls (v :: w :: v :: w :: st)) : OGo p l e R s m args below meth c n0 Q h cells slots pc Ls (v :: w :: st) := by
  subst hp
  exact OGo.plain (fun T t hA q => XT.dup2 hA K.ex rfl (hb K.by hd) rfl hc hc' q) r
theorem OGo.dup2L (K : OCx p l e R s m args below meth c Z own nm bytes ml rt) {x : Int64} (hd : decode bytes pc = .ok (.dup2, 1)) (hp : pc + 1 = pc') (r : OGo p l e R s m args below meth c n0 Q h cells slots pc' Ls (.long x :: .long x :: st)) : OGo p l e R s m args below meth c n0 Q h cells slots pc Ls (.long x :: st) := by
  subst hp
  exact OGo.plain (fun T t hA q => XT.dup2L hA K.ex rfl (hb K.by hd) rfl q) r
theorem OGo.lcmp (K : OCx p l e R s m args below meth c Z own nm bytes ml rt) {x y : Int64} (hd : decode bytes pc = .ok (.lcmp, 1)) (hp : pc + 1 = pc') (r : OGo p l e R s m args below meth c n0 Q h cells slots pc' Ls (.int (lcmpW x y) :: st)) : OGo p l e R s m args below meth c n0 Q h cells slots pc Ls (.long y :: .long x :: st) := by
  subst hp
  exact OGo.plain (fun T t hA q => XS.lcmp hA K.ex rfl (hb K.by hd) rfl q) r
theorem OGo.dload (K : OCx p l e R s m args below meth c Z own nm bytes ml rt) {k : Nat} {v : UInt64} (hd : decode bytes pc = .ok (.dload k, 2)) (hp : pc + 2 = pc') (hl : Ls[k]? = some (.val (.double v))) (r : OGo p l e R s m args below meth c n0 Q h cells slots pc' Ls (.double v :: st)) : OGo p l e R s m args below meth c n0 Q h cells slots pc Ls st := by
  subst hp
  exact OGo.plain (fun T t hA q => XS.dload hA K.ex rfl (hb K.by hd) hl q) r
theorem OGo.dloadN (K : OCx p l e R s m args below meth c Z own nm bytes ml rt) {k : Fin 4} {v : UInt64} (hd : decode bytes pc = .ok (.dload_n k, 1)) (hp : pc + 1 = pc') (hl : Ls[k.val]? = some (.val (.double v))) (r : OGo p l e R s m args below meth c n0 Q h cells slots pc' Ls (.double v :: st)) : OGo p l e R s m args below meth c n0 Q h cells slots pc Ls st := by
  subst hp
  exact OGo.plain (fun T t hA q => XS.dloadN hA K.ex rfl (hb K.by hd) hl q) r
theorem OGo.dstore (K : OCx p l e R s m args below meth c Z own nm bytes ml rt) {k : Nat} {v : UInt64} (hd : decode bytes pc = .ok (.dstore k, 2)) (hp : pc + 2 = pc') (hl : storeLocals Ls k (.double v) = some Ls') (r : OGo p l e R s m args below meth c n0 Q h cells slots pc' Ls' st) : OGo p l e R s m args below meth c n0 Q h cells slots pc Ls (.double v :: st) := by
  subst hp
  exact OGo.plain (fun T t hA q => XS.dstore hA K.ex rfl (hb K.by hd) rfl hl q) r
theorem OGo.dstoreN (K : OCx p l e R s m args below meth c Z own nm bytes ml rt) {k : Fin 4} {v : UInt64} (hd : decode bytes pc = .ok (.dstore_n k, 1)) (hp : pc + 1 = pc') (hl : storeLocals Ls k.val (.double v) = some Ls') (r : OGo p l e R s m args below meth c n0 Q h cells slots pc' Ls' st) : OGo p l e R s m args below meth c n0 Q h cells slots pc Ls (.double v :: st) := by
  subst hp
  exact OGo.plain (fun T t hA q => XS.dstoreN hA K.ex rfl (hb K.by hd) rfl hl q) r
theorem OGo.dconst0 (K : OCx p l e R s m args below meth c Z own nm bytes ml rt) {z : UInt64} (hd : decode bytes pc = .ok (.dconst 0, 1)) (hp : pc + 1 = pc') (hz : FP.dconst0 = z) (r : OGo p l e R s m args below meth c n0 Q h cells slots pc' Ls (.double z :: st)) : OGo p l e R s m args below meth c n0 Q h cells slots pc Ls st := by
  subst hp
  exact OGo.plain (fun T t hA q => XS.dconst0 hA K.ex rfl (hb K.by hd) hz q) r
theorem OGo.dconst1 (K : OCx p l e R s m args below meth c Z own nm bytes ml rt) {z : UInt64} (hd : decode bytes pc = .ok (.dconst 1, 1)) (hp : pc + 1 = pc') (hz : FP.dconst1 = z) (r : OGo p l e R s m args below meth c n0 Q h cells slots pc' Ls (.double z :: st)) : OGo p l e R s m args below meth c n0 Q h cells slots pc Ls st := by
  subst hp
  exact OGo.plain (fun T t hA q => XS.dconst1 hA K.ex rfl (hb K.by hd) hz q) r
theorem OGo.i2d (K : OCx p l e R s m args below meth c Z own nm bytes ml rt) {x : Int32} (hd : decode bytes pc = .ok (.i2d, 1)) (hp : pc + 1 = pc') (r : OGo p l e R s m args below meth c n0 Q h cells slots pc' Ls (.double (FP.i2d x) :: st)) : OGo p l e R s m args below meth c n0 Q h cells slots pc Ls (.int x :: st) := by
  subst hp
  exact OGo.plain (fun T t hA q => XS.i2dS hA K.ex rfl (hb K.by hd) rfl rfl q) r
theorem OGo.dadd (K : OCx p l e R s m args below meth c Z own nm bytes ml rt) {x y z : UInt64} (hd : decode bytes pc = .ok (.dadd, 1)) (hp : pc + 1 = pc') (hn : Jvm.Free.Fl.NoNaN64 (FP.dadd x y)) (hz : FP.dadd x y = z) (r : OGo p l e R s m args below meth c n0 Q h cells slots pc' Ls (.double z :: st)) : OGo p l e R s m args below meth c n0 Q h cells slots pc Ls (.double y :: .double x :: st) := by
  subst hp
  exact OGo.plain (fun T t hA q => XS.daddS hA K.ex rfl (hb K.by hd) rfl hn hz q) r
theorem OGo.dsub (K : OCx p l e R s m args below meth c Z own nm bytes ml rt) {x y z : UInt64} (hd : decode bytes pc = .ok (.dsub, 1)) (hp : pc + 1 = pc') (hn : Jvm.Free.Fl.NoNaN64 (FP.dsub x y)) (hz : FP.dsub x y = z) (r : OGo p l e R s m args below meth c n0 Q h cells slots pc' Ls (.double z :: st)) : OGo p l e R s m args below meth c n0 Q h cells slots pc Ls (.double y :: .double x :: st) := by
  subst hp
  exact OGo.plain (fun T t hA q => XS.dsubS hA K.ex rfl (hb K.by hd) rfl hn hz q) r
theorem OGo.dmul (K : OCx p l e R s m args below meth c Z own nm bytes ml rt) {x y z : UInt64} (hd : decode bytes pc = .ok (.dmul, 1)) (hp : pc + 1 = pc') (hn : Jvm.Free.Fl.NoNaN64 (FP.dmul x y)) (hz : FP.dmul x y = z) (r : OGo p l e R s m args below meth c n0 Q h cells slots pc' Ls (.double z :: st)) : OGo p l e R s m args below meth c n0 Q h cells slots pc Ls (.double y :: .double x :: st) := by
  subst hp
  exact OGo.plain (fun T t hA q => XS.dmulS hA K.ex rfl (hb K.by hd) rfl hn hz q) r
theorem OGo.ddiv (K : OCx p l e R s m args below meth c Z own nm bytes ml rt) {x y z : UInt64} (hd : decode bytes pc = .ok (.ddiv, 1)) (hp : pc + 1 = pc') (hn : Jvm.Free.Fl.NoNaN64 (FP.ddiv x y)) (hz : FP.ddiv x y = z) (r : OGo p l e R s m args below meth c n0 Q h cells slots pc' Ls (.double z :: st)) : OGo p l e R s m args below meth c n0 Q h cells slots pc Ls (.double y :: .double x :: st) := by
  subst hp
  exact OGo.plain (fun T t hA q => XS.ddivS hA K.ex rfl (hb K.by hd) rfl hn hz q) r
theorem OGo.dcmp (K : OCx p l e R s m args below meth c Z own nm bytes ml rt) {o : CmpOp} {x y : UInt64} {z : Int32} (hd : decode bytes pc = .ok (.dcmp o, 1)) (hp : pc + 1 = pc') (hz : cmpValue (FP.dcmp x y) o = z) (r : OGo p l e R s m args below meth c n0 Q h cells slots pc' Ls (.int z :: st)) : OGo p l e R s m args below meth c n0 Q h cells slots pc Ls (.double y :: .double x :: st) := by
  subst hp
  exact OGo.plain (fun T t hA q => XS.dcmpS hA K.ex rfl (hb K.by hd) rfl hz q) r
theorem OGo.goto (K : OCx p l e R s m args below meth c Z own nm bytes ml rt) {o : Int} (hd : decode bytes pc = .ok (.goto o, 3)) (ho : 0 ≤ (pc : Int) + o) (hp : ((pc : Int) + o).toNat = pc') (r : OGo p l e R s m args below meth c n0 Q h cells slots pc' Ls st) : OGo p l e R s m args below meth c n0 Q h cells slots pc Ls st :=
  OGo.plain (fun T t hA q => XS.goto hA K.ex rfl rfl (hb K.by hd) ho hp q) r
theorem OGo.icmp (K : OCx p l e R s m args below meth c Z own nm bytes ml rt) {cd : ClassFile.Cond} {o : Int} {x y : Int32} (hd : decode bytes pc = .ok (.if_icmp cd o, 3)) (hp : pc + 3 = pc') (ho : 0 ≤ (pc : Int) + o) (hq : ((pc : Int) + o).toNat = pcY) (ry : if_icmp.holds cd x y = true → OGo p l e R s m args below meth c n0 Q h cells slots pcY Ls st) (rn : if_icmp.holds cd x y = false → OGo p l e R s m args below meth c n0 Q h cells slots pc' Ls st) : OGo p l e R s m args below meth c n0 Q h cells slots pc Ls (.int y :: .int x :: st) := by
  subst hp
  cases hc : if_icmp.holds cd x y
  · exact OGo.plain (fun T t hA q => XS.icmpNo hA K.ex rfl (hb K.by hd) rfl hc q) (rn hc)
  · exact OGo.plain (fun T t hA q => XS.icmpYes hA K.ex rfl rfl (hb K.by hd) rfl hc ho hq q) (ry hc)
theorem OGo.ifc (K : OCx p l e R s m args below meth c Z own nm bytes ml rt) {cd : ClassFile.Cond} {o : Int} {x : Int32} (hd : decode bytes pc = .ok (.ifCond cd o, 3)) (hp : pc + 3 = pc') (ho : 0 ≤ (pc : Int) + o) (hq : ((pc : Int) + o).toNat = pcY) (ry : if_icmp.holds cd x 0 = true → OGo p l e R s m args below meth c n0 Q h cells slots pcY Ls st) (rn : if_icmp.holds cd x 0 = false → OGo p l e R s m args below meth c n0 Q h cells slots pc' Ls st) : OGo p l e R s m args below meth c n0 Q h cells slots pc Ls (.int x :: st) := by
  subst hp
  cases hc : if_icmp.holds cd x 0
  · exact OGo.plain (fun T t hA q => XS.ifNo hA K.ex rfl (hb K.by hd) rfl ((if0 _ _).trans hc) q) (rn hc)
  · exact OGo.plain (fun T t hA q => XS.ifYes hA K.ex rfl rfl (hb K.by hd) rfl ((if0 _ _).trans hc) ho hq q) (ry hc)
theorem own_holds {cd : ClassFile.Cond} {x y : Int32} {b : Bool} (q : if_icmp.holds cd x y = b) : match cd with | .eq => (x = y) = (b = true) | .ne => (¬ x = y) = (b = true) | .lt => (x < y) = (b = true) | .ge => (¬ x < y) = (b = true) | .gt => (y < x) = (b = true) | .le => (¬ y < x) = (b = true) := by
  subst q
  cases cd
  all_goals simp only [eq_iff_iff]
  · constructor
    · intro h; exact (teq h).1
    · intro h; by_cases q : x = y
      · exact q
      · rw [(feq q).1] at h; cases h
  · constructor
    · intro h; exact (feq h).2
    · intro h q; rw [(teq q).2] at h; cases h
  · constructor
    · intro h; exact (tlt h).1
    · intro h; by_cases q : x < y
      · exact q
      · rw [(flt q).1] at h; cases h
  · constructor
    · intro h; exact (flt h).2.1
    · intro h q; rw [(tlt q).2.1] at h; cases h
  · constructor
    · intro h; exact (tlt h).2.2.1
    · intro h; by_cases q : y < x
      · exact q
      · rw [(flt q).2.2.1] at h; cases h
  · constructor
    · intro h; exact (flt h).2.2.2
    · intro h q; rw [(tlt q).2.2.2] at h; cases h
theorem OGo.icmpEq (K : OCx p l e R s m args below meth c Z own nm bytes ml rt) {o : Int} {x y : Int32} (hd : decode bytes pc = .ok (.if_icmp .eq o, 3)) (hp : pc + 3 = pc') (ho : 0 ≤ (pc : Int) + o) (hq : ((pc : Int) + o).toNat = pcY) (ry : x = y → OGo p l e R s m args below meth c n0 Q h cells slots pcY Ls st) (rn : ¬ x = y → OGo p l e R s m args below meth c n0 Q h cells slots pc' Ls st) : OGo p l e R s m args below meth c n0 Q h cells slots pc Ls (.int y :: .int x :: st) :=
  OGo.icmp K hd hp ho hq (fun q => ry ((own_holds q : _ = _).mpr rfl)) (fun q => rn (fun z => Bool.false_ne_true ((own_holds q : _ = _).mp z)))
theorem OGo.ifEq (K : OCx p l e R s m args below meth c Z own nm bytes ml rt) {o : Int} {x : Int32} (hd : decode bytes pc = .ok (.ifCond .eq o, 3)) (hp : pc + 3 = pc') (ho : 0 ≤ (pc : Int) + o) (hq : ((pc : Int) + o).toNat = pcY) (ry : x = 0 → OGo p l e R s m args below meth c n0 Q h cells slots pcY Ls st) (rn : ¬ x = 0 → OGo p l e R s m args below meth c n0 Q h cells slots pc' Ls st) : OGo p l e R s m args below meth c n0 Q h cells slots pc Ls (.int x :: st) :=
  OGo.ifc K hd hp ho hq (fun q => ry ((own_holds q : _ = _).mpr rfl)) (fun q => rn (fun z => Bool.false_ne_true ((own_holds q : _ = _).mp z)))
theorem OGo.lcmpEq (K : OCx p l e R s m args below meth c Z own nm bytes ml rt) {o : Int} {x y : Int64} {pc1 : Nat} (hd0 : decode bytes pc = .ok (.lcmp, 1)) (hp0 : pc + 1 = pc1) (hd : decode bytes pc1 = .ok (.ifCond .eq o, 3)) (hp : pc1 + 3 = pc') (ho : 0 ≤ (pc1 : Int) + o) (hq : ((pc1 : Int) + o).toNat = pcY) (ry : x = y → OGo p l e R s m args below meth c n0 Q h cells slots pcY Ls st) (rn : ¬ x = y → OGo p l e R s m args below meth c n0 Q h cells slots pc' Ls st) : OGo p l e R s m args below meth c n0 Q h cells slots pc Ls (.long y :: .long x :: st) :=
  OGo.lcmp K hd0 hp0 (OGo.ifEq K hd hp ho hq (fun q => ry ((lw_eq x y).mp q)) (fun q => rn (fun z => q ((lw_eq x y).mpr z))))
theorem OGo.icmpNe (K : OCx p l e R s m args below meth c Z own nm bytes ml rt) {o : Int} {x y : Int32} (hd : decode bytes pc = .ok (.if_icmp .ne o, 3)) (hp : pc + 3 = pc') (ho : 0 ≤ (pc : Int) + o) (hq : ((pc : Int) + o).toNat = pcY) (ry : ¬ x = y → OGo p l e R s m args below meth c n0 Q h cells slots pcY Ls st) (rn : x = y → OGo p l e R s m args below meth c n0 Q h cells slots pc' Ls st) : OGo p l e R s m args below meth c n0 Q h cells slots pc Ls (.int y :: .int x :: st) :=
  OGo.icmp K hd hp ho hq (fun q => ry ((own_holds q : _ = _).mpr rfl)) (fun q => rn (Classical.byContradiction fun z => Bool.false_ne_true ((own_holds q : _ = _).mp z)))
theorem OGo.ifNe (K : OCx p l e R s m args below meth c Z own nm bytes ml rt) {o : Int} {x : Int32} (hd : decode bytes pc = .ok (.ifCond .ne o, 3)) (hp : pc + 3 = pc') (ho : 0 ≤ (pc : Int) + o) (hq : ((pc : Int) + o).toNat = pcY) (ry : ¬ x = 0 → OGo p l e R s m args below meth c n0 Q h cells slots pcY Ls st) (rn : x = 0 → OGo p l e R s m args below meth c n0 Q h cells slots pc' Ls st) : OGo p l e R s m args below meth c n0 Q h cells slots pc Ls (.int x :: st) :=
  OGo.ifc K hd hp ho hq (fun q => ry ((own_holds q : _ = _).mpr rfl)) (fun q => rn (Classical.byContradiction fun z => Bool.false_ne_true ((own_holds q : _ = _).mp z)))
theorem OGo.lcmpNe (K : OCx p l e R s m args below meth c Z own nm bytes ml rt) {o : Int} {x y : Int64} {pc1 : Nat} (hd0 : decode bytes pc = .ok (.lcmp, 1)) (hp0 : pc + 1 = pc1) (hd : decode bytes pc1 = .ok (.ifCond .ne o, 3)) (hp : pc1 + 3 = pc') (ho : 0 ≤ (pc1 : Int) + o) (hq : ((pc1 : Int) + o).toNat = pcY) (ry : ¬ x = y → OGo p l e R s m args below meth c n0 Q h cells slots pcY Ls st) (rn : x = y → OGo p l e R s m args below meth c n0 Q h cells slots pc' Ls st) : OGo p l e R s m args below meth c n0 Q h cells slots pc Ls (.long y :: .long x :: st) :=
  OGo.lcmp K hd0 hp0 (OGo.ifNe K hd hp ho hq (fun q => ry (fun z => q ((lw_eq x y).mpr z))) (fun q => rn ((lw_eq x y).mp q)))
theorem OGo.icmpLt (K : OCx p l e R s m args below meth c Z own nm bytes ml rt) {o : Int} {x y : Int32} (hd : decode bytes pc = .ok (.if_icmp .lt o, 3)) (hp : pc + 3 = pc') (ho : 0 ≤ (pc : Int) + o) (hq : ((pc : Int) + o).toNat = pcY) (ry : x < y → OGo p l e R s m args below meth c n0 Q h cells slots pcY Ls st) (rn : ¬ x < y → OGo p l e R s m args below meth c n0 Q h cells slots pc' Ls st) : OGo p l e R s m args below meth c n0 Q h cells slots pc Ls (.int y :: .int x :: st) :=
  OGo.icmp K hd hp ho hq (fun q => ry ((own_holds q : _ = _).mpr rfl)) (fun q => rn (fun z => Bool.false_ne_true ((own_holds q : _ = _).mp z)))
theorem OGo.ifLt (K : OCx p l e R s m args below meth c Z own nm bytes ml rt) {o : Int} {x : Int32} (hd : decode bytes pc = .ok (.ifCond .lt o, 3)) (hp : pc + 3 = pc') (ho : 0 ≤ (pc : Int) + o) (hq : ((pc : Int) + o).toNat = pcY) (ry : x < 0 → OGo p l e R s m args below meth c n0 Q h cells slots pcY Ls st) (rn : ¬ x < 0 → OGo p l e R s m args below meth c n0 Q h cells slots pc' Ls st) : OGo p l e R s m args below meth c n0 Q h cells slots pc Ls (.int x :: st) :=
  OGo.ifc K hd hp ho hq (fun q => ry ((own_holds q : _ = _).mpr rfl)) (fun q => rn (fun z => Bool.false_ne_true ((own_holds q : _ = _).mp z)))
theorem OGo.lcmpLt (K : OCx p l e R s m args below meth c Z own nm bytes ml rt) {o : Int} {x y : Int64} {pc1 : Nat} (hd0 : decode bytes pc = .ok (.lcmp, 1)) (hp0 : pc + 1 = pc1) (hd : decode bytes pc1 = .ok (.ifCond .lt o, 3)) (hp : pc1 + 3 = pc') (ho : 0 ≤ (pc1 : Int) + o) (hq : ((pc1 : Int) + o).toNat = pcY) (ry : x < y → OGo p l e R s m args below meth c n0 Q h cells slots pcY Ls st) (rn : ¬ x < y → OGo p l e R s m args below meth c n0 Q h cells slots pc' Ls st) : OGo p l e R s m args below meth c n0 Q h cells slots pc Ls (.long y :: .long x :: st) :=
  OGo.lcmp K hd0 hp0 (OGo.ifLt K hd hp ho hq (fun q => ry ((lw_lt x y).mp q)) (fun q => rn (fun z => q ((lw_lt x y).mpr z))))
theorem OGo.icmpGe (K : OCx p l e R s m args below meth c Z own nm bytes ml rt) {o : Int} {x y : Int32} (hd : decode bytes pc = .ok (.if_icmp .ge o, 3)) (hp : pc + 3 = pc') (ho : 0 ≤ (pc : Int) + o) (hq : ((pc : Int) + o).toNat = pcY) (ry : ¬ x < y → OGo p l e R s m args below meth c n0 Q h cells slots pcY Ls st) (rn : x < y → OGo p l e R s m args below meth c n0 Q h cells slots pc' Ls st) : OGo p l e R s m args below meth c n0 Q h cells slots pc Ls (.int y :: .int x :: st) :=
  OGo.icmp K hd hp ho hq (fun q => ry ((own_holds q : _ = _).mpr rfl)) (fun q => rn (Classical.byContradiction fun z => Bool.false_ne_true ((own_holds q : _ = _).mp z)))
theorem OGo.ifGe (K : OCx p l e R s m args below meth c Z own nm bytes ml rt) {o : Int} {x : Int32} (hd : decode bytes pc = .ok (.ifCond .ge o, 3)) (hp : pc + 3 = pc') (ho : 0 ≤ (pc : Int) + o) (hq : ((pc : Int) + o).toNat = pcY) (ry : ¬ x < 0 → OGo p l e R s m args below meth c n0 Q h cells slots pcY Ls st) (rn : x < 0 → OGo p l e R s m args below meth c n0 Q h cells slots pc' Ls st) : OGo p l e R s m args below meth c n0 Q h cells slots pc Ls (.int x :: st) :=
  OGo.ifc K hd hp ho hq (fun q => ry ((own_holds q : _ = _).mpr rfl)) (fun q => rn (Classical.byContradiction fun z => Bool.false_ne_true ((own_holds q : _ = _).mp z)))
theorem OGo.lcmpGe (K : OCx p l e R s m args below meth c Z own nm bytes ml rt) {o : Int} {x y : Int64} {pc1 : Nat} (hd0 : decode bytes pc = .ok (.lcmp, 1)) (hp0 : pc + 1 = pc1) (hd : decode bytes pc1 = .ok (.ifCond .ge o, 3)) (hp : pc1 + 3 = pc') (ho : 0 ≤ (pc1 : Int) + o) (hq : ((pc1 : Int) + o).toNat = pcY) (ry : ¬ x < y → OGo p l e R s m args below meth c n0 Q h cells slots pcY Ls st) (rn : x < y → OGo p l e R s m args below meth c n0 Q h cells slots pc' Ls st) : OGo p l e R s m args below meth c n0 Q h cells slots pc Ls (.long y :: .long x :: st) :=
  OGo.lcmp K hd0 hp0 (OGo.ifGe K hd hp ho hq (fun q => ry (fun z => q ((lw_lt x y).mpr z))) (fun q => rn ((lw_lt x y).mp q)))
theorem OGo.icmpGt (K : OCx p l e R s m args below meth c Z own nm bytes ml rt) {o : Int} {x y : Int32} (hd : decode bytes pc = .ok (.if_icmp .gt o, 3)) (hp : pc + 3 = pc') (ho : 0 ≤ (pc : Int) + o) (hq : ((pc : Int) + o).toNat = pcY) (ry : y < x → OGo p l e R s m args below meth c n0 Q h cells slots pcY Ls st) (rn : ¬ y < x → OGo p l e R s m args below meth c n0 Q h cells slots pc' Ls st) : OGo p l e R s m args below meth c n0 Q h cells slots pc Ls (.int y :: .int x :: st) :=
  OGo.icmp K hd hp ho hq (fun q => ry ((own_holds q : _ = _).mpr rfl)) (fun q => rn (fun z => Bool.false_ne_true ((own_holds q : _ = _).mp z)))
theorem OGo.ifGt (K : OCx p l e R s m args below meth c Z own nm bytes ml rt) {o : Int} {x : Int32} (hd : decode bytes pc = .ok (.ifCond .gt o, 3)) (hp : pc + 3 = pc') (ho : 0 ≤ (pc : Int) + o) (hq : ((pc : Int) + o).toNat = pcY) (ry : 0 < x → OGo p l e R s m args below meth c n0 Q h cells slots pcY Ls st) (rn : ¬ 0 < x → OGo p l e R s m args below meth c n0 Q h cells slots pc' Ls st) : OGo p l e R s m args below meth c n0 Q h cells slots pc Ls (.int x :: st) :=
  OGo.ifc K hd hp ho hq (fun q => ry ((own_holds q : _ = _).mpr rfl)) (fun q => rn (fun z => Bool.false_ne_true ((own_holds q : _ = _).mp z)))
theorem OGo.lcmpGt (K : OCx p l e R s m args below meth c Z own nm bytes ml rt) {o : Int} {x y : Int64} {pc1 : Nat} (hd0 : decode bytes pc = .ok (.lcmp, 1)) (hp0 : pc + 1 = pc1) (hd : decode bytes pc1 = .ok (.ifCond .gt o, 3)) (hp : pc1 + 3 = pc') (ho : 0 ≤ (pc1 : Int) + o) (hq : ((pc1 : Int) + o).toNat = pcY) (ry : y < x → OGo p l e R s m args below meth c n0 Q h cells slots pcY Ls st) (rn : ¬ y < x → OGo p l e R s m args below meth c n0 Q h cells slots pc' Ls st) : OGo p l e R s m args below meth c n0 Q h cells slots pc Ls (.long y :: .long x :: st) :=
  OGo.lcmp K hd0 hp0 (OGo.ifGt K hd hp ho hq (fun q => ry ((lw_gt x y).mp q)) (fun q => rn (fun z => q ((lw_gt x y).mpr z))))
theorem OGo.icmpLe (K : OCx p l e R s m args below meth c Z own nm bytes ml rt) {o : Int} {x y : Int32} (hd : decode bytes pc = .ok (.if_icmp .le o, 3)) (hp : pc + 3 = pc') (ho : 0 ≤ (pc : Int) + o) (hq : ((pc : Int) + o).toNat = pcY) (ry : ¬ y < x → OGo p l e R s m args below meth c n0 Q h cells slots pcY Ls st) (rn : y < x → OGo p l e R s m args below meth c n0 Q h cells slots pc' Ls st) : OGo p l e R s m args below meth c n0 Q h cells slots pc Ls (.int y :: .int x :: st) :=
  OGo.icmp K hd hp ho hq (fun q => ry ((own_holds q : _ = _).mpr rfl)) (fun q => rn (Classical.byContradiction fun z => Bool.false_ne_true ((own_holds q : _ = _).mp z)))
theorem OGo.ifLe (K : OCx p l e R s m args below meth c Z own nm bytes ml rt) {o : Int} {x : Int32} (hd : decode bytes pc = .ok (.ifCond .le o, 3)) (hp : pc + 3 = pc') (ho : 0 ≤ (pc : Int) + o) (hq : ((pc : Int) + o).toNat = pcY) (ry : ¬ 0 < x → OGo p l e R s m args below meth c n0 Q h cells slots pcY Ls st) (rn : 0 < x → OGo p l e R s m args below meth c n0 Q h cells slots pc' Ls st) : OGo p l e R s m args below meth c n0 Q h cells slots pc Ls (.int x :: st) :=
  OGo.ifc K hd hp ho hq (fun q => ry ((own_holds q : _ = _).mpr rfl)) (fun q => rn (Classical.byContradiction fun z => Bool.false_ne_true ((own_holds q : _ = _).mp z)))
theorem OGo.lcmpLe (K : OCx p l e R s m args below meth c Z own nm bytes ml rt) {o : Int} {x y : Int64} {pc1 : Nat} (hd0 : decode bytes pc = .ok (.lcmp, 1)) (hp0 : pc + 1 = pc1) (hd : decode bytes pc1 = .ok (.ifCond .le o, 3)) (hp : pc1 + 3 = pc') (ho : 0 ≤ (pc1 : Int) + o) (hq : ((pc1 : Int) + o).toNat = pcY) (ry : ¬ y < x → OGo p l e R s m args below meth c n0 Q h cells slots pcY Ls st) (rn : y < x → OGo p l e R s m args below meth c n0 Q h cells slots pc' Ls st) : OGo p l e R s m args below meth c n0 Q h cells slots pc Ls (.long y :: .long x :: st) :=
  OGo.lcmp K hd0 hp0 (OGo.ifLe K hd hp ho hq (fun q => ry (fun z => q ((lw_gt x y).mpr z))) (fun q => rn ((lw_gt x y).mp q)))
theorem OGo.ifnullY (K : OCx p l e R s m args below meth c Z own nm bytes ml rt) {o : Int} (hd : decode bytes pc = .ok (.ifnull o, 3)) (ho : 0 ≤ (pc : Int) + o) (hq : ((pc : Int) + o).toNat = pc') (r : OGo p l e R s m args below meth c n0 Q h cells slots pc' Ls st) : OGo p l e R s m args below meth c n0 Q h cells slots pc Ls (.null :: st) :=
  OGo.plain (fun T t hA q => XS.ifnullYes hA K.ex rfl rfl (hb K.by hd) rfl ho hq q) r
theorem OGo.ifnullN (K : OCx p l e R s m args below meth c Z own nm bytes ml rt) {b : Addr} {o : Int} (hd : decode bytes pc = .ok (.ifnull o, 3)) (hp : pc + 3 = pc') (r : OGo p l e R s m args below meth c n0 Q h cells slots pc' Ls st) : OGo p l e R s m args below meth c n0 Q h cells slots pc Ls (.ref b :: st) := by
  subst hp
  exact OGo.plain (fun T t hA q => XS.ifnullNo hA K.ex rfl (hb K.by hd) rfl q) r
theorem OGo.ifnonnullY (K : OCx p l e R s m args below meth c Z own nm bytes ml rt) {b : Addr} {o : Int} (hd : decode bytes pc = .ok (.ifnonnull o, 3)) (ho : 0 ≤ (pc : Int) + o) (hq : ((pc : Int) + o).toNat = pc') (r : OGo p l e R s m args below meth c n0 Q h cells slots pc' Ls st) : OGo p l e R s m args below meth c n0 Q h cells slots pc Ls (.ref b :: st) :=
  OGo.plain (fun T t hA q => XS.ifnonnullYes hA K.ex rfl rfl (hb K.by hd) rfl ho hq q) r
theorem OGo.ifnonnullN (K : OCx p l e R s m args below meth c Z own nm bytes ml rt) {o : Int} (hd : decode bytes pc = .ok (.ifnonnull o, 3)) (hp : pc + 3 = pc') (r : OGo p l e R s m args below meth c n0 Q h cells slots pc' Ls st) : OGo p l e R s m args below meth c n0 Q h cells slots pc Ls (.null :: st) := by
  subst hp
  exact OGo.plain (fun T t hA q => XS.ifnonnullNo hA K.ex rfl (hb K.by hd) rfl q) r
theorem OGo.getF (K : OCx p l e R s m args below meth c Z own nm bytes ml rt) {R0 O n d host : String} {index : Nat} {a : Addr} {v : Value} (w : (Jvm.Cond.fieldLink own index R0 n d).before a0 Z = true ∨ (Jvm.Cond.fieldLinkNest own index R0 n d host).before a0 Z = true) (via : Via Z R0 O n d) (F : Fld Z h a O n d v) (hd : decode bytes pc = .ok (.getfield index, 3)) (hp : pc + 3 = pc') (r : OGo p l e R s m args below meth c n0 Q h cells slots pc' Ls (v :: st)) : OGo p l e R s m args below meth c n0 Q h cells slots pc Ls (.ref a :: st) := by
  subst hp
  exact OGo.same (fun T locs k n X e0 => RoadKit.getF X K.ex K.hZ K.hown w via e0 F (g := mkF m pc Ls (.ref a :: st)) rfl rfl (hb K.by hd)) r
theorem OGo.getS (K : OCx p l e R s m args below meth c Z own nm bytes ml rt) {R0 O n d host : String} {index : Nat} {v : Value} (w : (Jvm.Cond.fieldLink own index R0 n d).before a0 Z = true ∨ (Jvm.Cond.fieldLinkNest own index R0 n d host).before a0 Z = true) (via : Via Z R0 O n d) (F : Sta Z h O n d v) (hd : decode bytes pc = .ok (.getstatic index, 3)) (hp : pc + 3 = pc') (r : OGo p l e R s m args below meth c n0 Q h cells slots pc' Ls (v :: st)) : OGo p l e R s m args below meth c n0 Q h cells slots pc Ls st := by
  subst hp
  exact OGo.same (fun T locs k n X e0 => RoadKit.getS2 X K.ex K.hZ K.hown w via e0 F (g := mkF m pc Ls st) rfl (hb K.by hd)) r
theorem OGo.putF (K : OCx p l e R s m args below meth c Z own nm bytes ml rt) {R0 O n d host C : String} {index kk : Nat} {ty : FieldType} {a : Addr} {v old : Value} (w : (Jvm.Cond.fieldLink own index R0 n d).before a0 Z = true ∨ (Jvm.Cond.fieldLinkNest own index R0 n d host).before a0 Z = true) (via : Via Z R0 O n d) (F : Fld Z h a O n d old) (E : Exa Z h a C) (L : (Jvm.Cond.lays C O n d).before a0 Z = true ∨ ((Jvm.Cond.laysFinal C O n d).before a0 Z = true ∧ own = O ∧ nm = "<init>")) (wi : (Jvm.Cond.instantiable C kk).before a0 Z = true) (hty : parseFieldDescriptor d = some ty) (hn : narrow ty v = v) (hf : fits ty v = true) (ga : n0 ≤ a) (hd : decode bytes pc = .ok (.putfield index, 3)) (hp : pc + 3 = pc')
    (r : ∀ h', Wr h h' a (RoadKit.slotOf Z O n d) v → OGo p l e R s m args below meth c n0 Q h' cells slots pc' Ls st) : OGo p l e R s m args below meth c n0 Q h cells slots pc Ls (v :: .ref a :: st) := by
  subst hp
  exact OGo.write ga (fun T locs k n X e0 => RoadKit.putF X K.ex K.hZ K.hown w via e0 F E (L.imp id fun q => ⟨q.1, q.2.1, K.hnm.trans q.2.2⟩) wi hty hn hf (g := mkF m pc Ls (v :: .ref a :: st)) rfl rfl (hb K.by hd)) r
theorem OGo.putFN (K : OCx p l e R s m args below meth c Z own nm bytes ml rt) {R0 O n d C : String} {index kk : Nat} {ty : FieldType} {a : Addr} {v v' old : Value} (w : (Jvm.Cond.fieldLink own index R0 n d).before a0 Z = true) (via : Via Z R0 O n d) (F : Fld Z h a O n d old) (E : Exa Z h a C) (L : (Jvm.Cond.lays C O n d).before a0 Z = true ∨ ((Jvm.Cond.laysFinal C O n d).before a0 Z = true ∧ own = O ∧ nm = "<init>")) (wi : (Jvm.Cond.instantiable C kk).before a0 Z = true) (hty : parseFieldDescriptor d = some ty) (hn : narrow ty v = v') (hf : fits ty v' = true) (ga : n0 ≤ a) (hd : decode bytes pc = .ok (.putfield index, 3)) (hp : pc + 3 = pc')
    (r : ∀ h', Wr h h' a (RoadKit.slotOf Z O n d) v' → OGo p l e R s m args below meth c n0 Q h' cells slots pc' Ls st) : OGo p l e R s m args below meth c n0 Q h cells slots pc Ls (v :: .ref a :: st) := by
  subst hp
  exact OGo.write ga (fun T locs k n X e0 => RoadKit.putFN X K.ex K.hZ K.hown w via e0 F E (L.imp id fun q => ⟨q.1, q.2.1, K.hnm.trans q.2.2⟩) wi hty hn hf (g := mkF m pc Ls (v :: .ref a :: st)) rfl rfl (hb K.by hd)) r
theorem OGo.newO (K : OCx p l e R s m args below meth c Z own nm bytes ml rt) {C : String} {index n cells' slots' : Nat} (w : (Jvm.Cond.classLink own index C).before a0 Z = true) (wi : (Jvm.Cond.instantiable C n).before a0 Z = true) (wz : (Jvm.Cond.initialized C).before a0 Z = true) (hd : decode bytes pc = .ok (.new index, 3)) (hp : pc + 3 = pc') (hc : cells + 1 = cells') (hl : slots + n = slots') (hc' : cells' ≤ R.cells) (hl' : slots' ≤ R.slots)
    (r : ∀ (h' : Heap) (a : Addr), a = h.size → Ext h h' → Exa Z h' a C → (∀ {O nm d : String} {ty : FieldType}, Laid Z a0 C O nm d → parseFieldDescriptor d = some ty → Fld Z h' a O nm d (defaultValue ty)) → OGo p l e R s m args below meth c n0 Q h' cells' slots' pc' Ls (.ref a :: st)) : OGo p l e R s m args below meth c n0 Q h cells slots pc Ls st := by
  subst hp hc hl
  intro T locs k j X e0 N h1 h2
  obtain ⟨T', h', X', e', E, A, D, -, st'⟩ := RoadKit.newO X K.ex K.hZ K.hown w wi wz e0 (g := mkF m pc Ls st) rfl (hb K.by hd) (by omega) (by omega)
  obtain ⟨s₂, v, L, g, r'⟩ := r h' h.size rfl E A D T' locs _ _ X' e' N (by omega) (by omega)
  exact ⟨s₂, v, L, st' _ g, r'⟩
theorem OGo.newP (K : OCx p l e R s m args below meth c Z own nm bytes ml rt) {aty : ArrayType} {z : Int32} {cap cells' slots' : Nat} (w : (Jvm.Cond.arrayClass (newarray.typeOf aty)).before a0 Z = true) (hd : decode bytes pc = .ok (.newarray aty, 2)) (hp : pc + 2 = pc') (hz : ¬ z < 0) (hcap : z.toNatClampNeg ≤ cap) (hb' : cap * 8 ≤ 536870912) (hc : cells + 1 = cells') (hl : slots + cap = slots') (hc' : cells' ≤ R.cells) (hl' : slots' ≤ R.slots)
    (r : ∀ (h' : Heap) (a : Addr) (ca : ClassId), a = h.size → Ext h h' → Arv Z h' a ca (newarray.typeOf aty) z [] (defaultValue (newarray.typeOf aty)) → OGo p l e R s m args below meth c n0 Q h' cells' slots' pc' Ls (.ref a :: st)) : OGo p l e R s m args below meth c n0 Q h cells slots pc Ls (.int z :: st) := by
  subst hp hc hl
  intro T locs k j X e0 N h1 h2
  obtain ⟨T', h', ca, X', e', E, A, st'⟩ := RoadKit.newP X K.ex K.hZ w e0 (g := mkF m pc Ls (.int z :: st)) rfl (hb K.by hd) rfl hz (cap := cap) hcap hb' (by omega) (by omega)
  obtain ⟨s₂, v, L, g, r'⟩ := r h' h.size ca rfl E (Arv.new A hz) T' locs _ _ X' e' N (by omega) (by omega)
  exact ⟨s₂, v, L, st' _ g, r'⟩
theorem OGo.newR (K : OCx p l e R s m args below meth c Z own nm bytes ml rt) {C : String} {index : Nat} {z : Int32} {cap cells' slots' : Nat} (w1 : (Jvm.Cond.classLink own index C).before a0 Z = true) (w2 : (Jvm.Cond.arrayOver (.object C)).before a0 Z = true) (hd : decode bytes pc = .ok (.anewarray index, 3)) (hp : pc + 3 = pc') (hz : ¬ z < 0) (hcap : z.toNatClampNeg ≤ cap) (hb' : cap * 8 ≤ 536870912) (hc : cells + 1 = cells') (hl : slots + cap = slots') (hc' : cells' ≤ R.cells) (hl' : slots' ≤ R.slots)
    (r : ∀ (h' : Heap) (a : Addr) (ca : ClassId), a = h.size → Ext h h' → Arv Z h' a ca (.object C) z [] .null → Ovr Z ca C → OGo p l e R s m args below meth c n0 Q h' cells' slots' pc' Ls (.ref a :: st)) : OGo p l e R s m args below meth c n0 Q h cells slots pc Ls (.int z :: st) := by
  subst hp hc hl
  intro T locs k j X e0 N h1 h2
  obtain ⟨T', h', ca, X', e', E, A, O, st'⟩ := RoadKit.newR X K.ex K.hZ K.hown w1 w2 e0 (g := mkF m pc Ls (.int z :: st)) rfl (hb K.by hd) rfl hz (cap := cap) hcap hb' (by omega) (by omega)
  obtain ⟨s₂, v, L, g, r'⟩ := r h' h.size ca rfl E (Arv.new A hz) O T' locs _ _ X' e' N (by omega) (by omega)
  exact ⟨s₂, v, L, st' _ g, r'⟩
theorem OGo.iaload (K : OCx p l e R s m args below meth c Z own nm bytes ml rt) {a : Addr} {ca : ClassId} {z j : Int32} {vs : List Value} {dv v : Value} (A : Arv Z h a ca .int z vs dv) (hj : ¬ j < 0 ∧ j < z) (hv : vs.getD j.toNatClampNeg dv = v) (hd : decode bytes pc = .ok (.iaload, 1)) (hp : pc + 1 = pc') (r : OGo p l e R s m args below meth c n0 Q h cells slots pc' Ls (v :: st)) : OGo p l e R s m args below meth c n0 Q h cells slots pc Ls (.int j :: .ref a :: st) := by
  subst hp
  obtain ⟨cl, A, -, S, -, H, -⟩ := A
  have hin := inb_of S hj
  exact OGo.same (fun T locs k n X e0 => ⟨T, X, e0, fun t q => X.iaload K.ex (j := j) (by rw [e0]; exact A.1) (State.isArrayOf_alike K.hZ.alike A.2.1) A.2.2 hin (H.at hin hv) (g := mkF m pc Ls (.int j :: .ref a :: st)) rfl rfl (hb K.by hd) t q⟩) r
theorem OGo.laload (K : OCx p l e R s m args below meth c Z own nm bytes ml rt) {a : Addr} {ca : ClassId} {z j : Int32} {vs : List Value} {dv v : Value} (A : Arv Z h a ca .long z vs dv) (hj : ¬ j < 0 ∧ j < z) (hv : vs.getD j.toNatClampNeg dv = v) (hd : decode bytes pc = .ok (.laload, 1)) (hp : pc + 1 = pc') (r : OGo p l e R s m args below meth c n0 Q h cells slots pc' Ls (v :: st)) : OGo p l e R s m args below meth c n0 Q h cells slots pc Ls (.int j :: .ref a :: st) := by
  subst hp
  obtain ⟨cl, A, -, S, -, H, -⟩ := A
  have hin := inb_of S hj
  exact OGo.same (fun T locs k n X e0 => ⟨T, X, e0, fun t q => X.laload K.ex (j := j) (by rw [e0]; exact A.1) (State.isArrayOf_alike K.hZ.alike A.2.1) A.2.2 hin (H.at hin hv) (g := mkF m pc Ls (.int j :: .ref a :: st)) rfl rfl (hb K.by hd) t q⟩) r
theorem OGo.caload (K : OCx p l e R s m args below meth c Z own nm bytes ml rt) {a : Addr} {ca : ClassId} {z j : Int32} {vs : List Value} {dv v : Value} (A : Arv Z h a ca .char z vs dv) (hj : ¬ j < 0 ∧ j < z) (hv : vs.getD j.toNatClampNeg dv = v) (hd : decode bytes pc = .ok (.caload, 1)) (hp : pc + 1 = pc') (r : OGo p l e R s m args below meth c n0 Q h cells slots pc' Ls (v :: st)) : OGo p l e R s m args below meth c n0 Q h cells slots pc Ls (.int j :: .ref a :: st) := by
  subst hp
  obtain ⟨cl, A, -, S, -, H, -⟩ := A
  have hin := inb_of S hj
  exact OGo.same (fun T locs k n X e0 => ⟨T, X, e0, fun t q => X.caload K.ex (j := j) (by rw [e0]; exact A.1) (State.isArrayOf_alike K.hZ.alike A.2.1) A.2.2 hin (H.at hin hv) (g := mkF m pc Ls (.int j :: .ref a :: st)) rfl rfl (hb K.by hd) t q⟩) r
theorem OGo.saload (K : OCx p l e R s m args below meth c Z own nm bytes ml rt) {a : Addr} {ca : ClassId} {z j : Int32} {vs : List Value} {dv v : Value} (A : Arv Z h a ca .short z vs dv) (hj : ¬ j < 0 ∧ j < z) (hv : vs.getD j.toNatClampNeg dv = v) (hd : decode bytes pc = .ok (.saload, 1)) (hp : pc + 1 = pc') (r : OGo p l e R s m args below meth c n0 Q h cells slots pc' Ls (v :: st)) : OGo p l e R s m args below meth c n0 Q h cells slots pc Ls (.int j :: .ref a :: st) := by
  subst hp
  obtain ⟨cl, A, -, S, -, H, -⟩ := A
  have hin := inb_of S hj
  exact OGo.same (fun T locs k n X e0 => ⟨T, X, e0, fun t q => X.saload K.ex (j := j) (by rw [e0]; exact A.1) (State.isArrayOf_alike K.hZ.alike A.2.1) A.2.2 hin (H.at hin hv) (g := mkF m pc Ls (.int j :: .ref a :: st)) rfl rfl (hb K.by hd) t q⟩) r
theorem OGo.baload (K : OCx p l e R s m args below meth c Z own nm bytes ml rt) {a : Addr} {ca : ClassId} {z j : Int32} {vs : List Value} {dv v : Value} (A : Arv Z h a ca .byte z vs dv) (hj : ¬ j < 0 ∧ j < z) (hv : vs.getD j.toNatClampNeg dv = v) (hd : decode bytes pc = .ok (.baload, 1)) (hp : pc + 1 = pc') (r : OGo p l e R s m args below meth c n0 Q h cells slots pc' Ls (v :: st)) : OGo p l e R s m args below meth c n0 Q h cells slots pc Ls (.int j :: .ref a :: st) := by
  subst hp
  obtain ⟨cl, A, -, S, -, H, -⟩ := A
  have hin := inb_of S hj
  exact OGo.same (fun T locs k n X e0 => ⟨T, X, e0, fun t q => X.baloadBytes K.ex (j := j) (by rw [e0]; exact A.1) (State.isArrayOf_alike K.hZ.alike A.2.1) A.2.2 hin (H.at hin hv) (g := mkF m pc Ls (.int j :: .ref a :: st)) rfl rfl (hb K.by hd) t q⟩) r
theorem OGo.zaload (K : OCx p l e R s m args below meth c Z own nm bytes ml rt) {a : Addr} {ca : ClassId} {z j : Int32} {vs : List Value} {dv v : Value} (A : Arv Z h a ca .boolean z vs dv) (hj : ¬ j < 0 ∧ j < z) (hv : vs.getD j.toNatClampNeg dv = v) (hd : decode bytes pc = .ok (.baload, 1)) (hp : pc + 1 = pc') (r : OGo p l e R s m args below meth c n0 Q h cells slots pc' Ls (v :: st)) : OGo p l e R s m args below meth c n0 Q h cells slots pc Ls (.int j :: .ref a :: st) := by
  subst hp
  obtain ⟨cl, A, -, S, -, H, -⟩ := A
  have hin := inb_of S hj
  exact OGo.same (fun T locs k n X e0 => ⟨T, X, e0, fun t q => X.baloadBooleans K.ex (j := j) (by rw [e0]; exact A.1) (State.isArrayOf_alike K.hZ.alike A.2.1) A.2.2 hin (H.at hin hv) (g := mkF m pc Ls (.int j :: .ref a :: st)) rfl rfl (hb K.by hd) t q⟩) r
theorem OGo.aaload (K : OCx p l e R s m args below meth c Z own nm bytes ml rt) {a : Addr} {ca : ClassId} {ty : FieldType} {z j : Int32} {vs : List Value} {dv v : Value} (A : Arv Z h a ca ty z vs dv) (hty : ty.isReference = true) (hj : ¬ j < 0 ∧ j < z) (hv : vs.getD j.toNatClampNeg dv = v) (hd : decode bytes pc = .ok (.aaload, 1)) (hp : pc + 1 = pc') (r : OGo p l e R s m args below meth c n0 Q h cells slots pc' Ls (v :: st)) : OGo p l e R s m args below meth c n0 Q h cells slots pc Ls (.int j :: .ref a :: st) := by
  subst hp
  obtain ⟨cl, A, -, S, -, H, -⟩ := A
  have hin := inb_of S hj
  exact OGo.same (fun T locs k n X e0 => ⟨T, X, e0, fun t q => X.aaload K.ex (j := j) (by rw [e0]; exact A.1) (State.isArrayOf_alike K.hZ.alike A.2.1) hty A.2.2 hin (H.at hin hv) (g := mkF m pc Ls (.int j :: .ref a :: st)) rfl rfl (hb K.by hd) t q⟩) r
theorem OGo.alen (K : OCx p l e R s m args below meth c Z own nm bytes ml rt) {a : Addr} {ca : ClassId} {ty : FieldType} {z : Int32} {vs : List Value} {dv : Value} (A : Arv Z h a ca ty z vs dv) (hd : decode bytes pc = .ok (.arraylength, 1)) (hp : pc + 1 = pc') (r : OGo p l e R s m args below meth c n0 Q h cells slots pc' Ls (.int z :: st)) : OGo p l e R s m args below meth c n0 Q h cells slots pc Ls (.ref a :: st) := by
  subst hp
  obtain ⟨cl, A, -, S, hz, -, -⟩ := A
  exact OGo.same (fun T locs k n X e0 => ⟨T, X, e0, fun t q => X.arraylength K.ex (by rw [e0]; exact A.1) (State.isArrayOf_alike K.hZ.alike A.2.1) (g := mkF m pc Ls (.ref a :: st)) rfl rfl (hb K.by hd) t (by rw [len_of S hz]; exact q)⟩) r
theorem OGo.iastore (K : OCx p l e R s m args below meth c Z own nm bytes ml rt) {a : Addr} {ca : ClassId} {z j : Int32} {vs : List Value} {dv : Value} {x : Int32} (A : Arv Z h a ca .int z vs dv) (hj : ¬ j < 0 ∧ j < z) {i : Nat} (hij : j.toNatClampNeg = i) (hi : i < vs.length) (ga : n0 ≤ a) (hd : decode bytes pc = .ok (.iastore, 1)) (hp : pc + 1 = pc')
    (r : ∀ h', Wr h h' a j.toNatClampNeg (.int x) → Arv Z h' a ca .int z (vs.set i (.int x)) dv → OGo p l e R s m args below meth c n0 Q h' cells slots pc' Ls st) : OGo p l e R s m args below meth c n0 Q h cells slots pc Ls (.int x :: .int j :: .ref a :: st) := by
  subst hp
  obtain ⟨cl, A, q1, S, hz, H, G⟩ := A
  have hin := inb_of S hj
  exact OGo.write ga (fun T locs k n X e0 => RoadKit.stI X K.ex K.hZ e0 A (j := j) hin (g := mkF m pc Ls (.int x :: .int j :: .ref a :: st)) rfl rfl (hb K.by hd)) (fun h' W => r h' W (Arv.set A q1 S hz H G rfl W _ hij hi))
theorem OGo.lastore (K : OCx p l e R s m args below meth c Z own nm bytes ml rt) {a : Addr} {ca : ClassId} {z j : Int32} {vs : List Value} {dv : Value} {x : Int64} (A : Arv Z h a ca .long z vs dv) (hj : ¬ j < 0 ∧ j < z) {i : Nat} (hij : j.toNatClampNeg = i) (hi : i < vs.length) (ga : n0 ≤ a) (hd : decode bytes pc = .ok (.lastore, 1)) (hp : pc + 1 = pc')
    (r : ∀ h', Wr h h' a j.toNatClampNeg (.long x) → Arv Z h' a ca .long z (vs.set i (.long x)) dv → OGo p l e R s m args below meth c n0 Q h' cells slots pc' Ls st) : OGo p l e R s m args below meth c n0 Q h cells slots pc Ls (.long x :: .int j :: .ref a :: st) := by
  subst hp
  obtain ⟨cl, A, q1, S, hz, H, G⟩ := A
  have hin := inb_of S hj
  exact OGo.write ga (fun T locs k n X e0 => RoadKit.stJ X K.ex K.hZ e0 A (j := j) hin (g := mkF m pc Ls (.long x :: .int j :: .ref a :: st)) rfl rfl (hb K.by hd)) (fun h' W => r h' W (Arv.set A q1 S hz H G rfl W _ hij hi))
theorem OGo.castore (K : OCx p l e R s m args below meth c Z own nm bytes ml rt) {a : Addr} {ca : ClassId} {z j : Int32} {vs : List Value} {dv : Value} {x : Int32} (A : Arv Z h a ca .char z vs dv) (hj : ¬ j < 0 ∧ j < z) {i : Nat} (hij : j.toNatClampNeg = i) (hi : i < vs.length) (ga : n0 ≤ a) (hd : decode bytes pc = .ok (.castore, 1)) (hp : pc + 1 = pc')
    (r : ∀ h', Wr h h' a j.toNatClampNeg (.int (nar .char x)) → Arv Z h' a ca .char z (vs.set i (.int (nar .char x))) dv → OGo p l e R s m args below meth c n0 Q h' cells slots pc' Ls st) : OGo p l e R s m args below meth c n0 Q h cells slots pc Ls (.int x :: .int j :: .ref a :: st) := by
  subst hp
  obtain ⟨cl, A, q1, S, hz, H, G⟩ := A
  have hin := inb_of S hj
  exact OGo.write ga (fun T locs k n X e0 => RoadKit.stC X K.ex K.hZ e0 A (j := j) hin (g := mkF m pc Ls (.int x :: .int j :: .ref a :: st)) rfl rfl (hb K.by hd)) (fun h' W => r h' W (Arv.set A q1 S hz H G (fits_nar_char x) W _ hij hi))
theorem OGo.sastore (K : OCx p l e R s m args below meth c Z own nm bytes ml rt) {a : Addr} {ca : ClassId} {z j : Int32} {vs : List Value} {dv : Value} {x : Int32} (A : Arv Z h a ca .short z vs dv) (hj : ¬ j < 0 ∧ j < z) {i : Nat} (hij : j.toNatClampNeg = i) (hi : i < vs.length) (ga : n0 ≤ a) (hd : decode bytes pc = .ok (.sastore, 1)) (hp : pc + 1 = pc')
    (r : ∀ h', Wr h h' a j.toNatClampNeg (.int (nar .short x)) → Arv Z h' a ca .short z (vs.set i (.int (nar .short x))) dv → OGo p l e R s m args below meth c n0 Q h' cells slots pc' Ls st) : OGo p l e R s m args below meth c n0 Q h cells slots pc Ls (.int x :: .int j :: .ref a :: st) := by
  subst hp
  obtain ⟨cl, A, q1, S, hz, H, G⟩ := A
  have hin := inb_of S hj
  exact OGo.write ga (fun T locs k n X e0 => RoadKit.stS X K.ex K.hZ e0 A (j := j) hin (g := mkF m pc Ls (.int x :: .int j :: .ref a :: st)) rfl rfl (hb K.by hd)) (fun h' W => r h' W (Arv.set A q1 S hz H G (fits_nar_short x) W _ hij hi))
theorem OGo.bastore (K : OCx p l e R s m args below meth c Z own nm bytes ml rt) {a : Addr} {ca : ClassId} {z j : Int32} {vs : List Value} {dv : Value} {x : Int32} (A : Arv Z h a ca .byte z vs dv) (hj : ¬ j < 0 ∧ j < z) {i : Nat} (hij : j.toNatClampNeg = i) (hi : i < vs.length) (ga : n0 ≤ a) (hd : decode bytes pc = .ok (.bastore, 1)) (hp : pc + 1 = pc')
    (r : ∀ h', Wr h h' a j.toNatClampNeg (.int (nar .byte x)) → Arv Z h' a ca .byte z (vs.set i (.int (nar .byte x))) dv → OGo p l e R s m args below meth c n0 Q h' cells slots pc' Ls st) : OGo p l e R s m args below meth c n0 Q h cells slots pc Ls (.int x :: .int j :: .ref a :: st) := by
  subst hp
  obtain ⟨cl, A, q1, S, hz, H, G⟩ := A
  have hin := inb_of S hj
  exact OGo.write ga (fun T locs k n X e0 => RoadKit.stB X K.ex K.hZ e0 A (j := j) hin (g := mkF m pc Ls (.int x :: .int j :: .ref a :: st)) rfl rfl (hb K.by hd)) (fun h' W => r h' W (Arv.set A q1 S hz H G (fits_nar_byte x) W _ hij hi))
theorem OGo.zastore (K : OCx p l e R s m args below meth c Z own nm bytes ml rt) {a : Addr} {ca : ClassId} {z j : Int32} {vs : List Value} {dv : Value} {x : Int32} (A : Arv Z h a ca .boolean z vs dv) (hj : ¬ j < 0 ∧ j < z) {i : Nat} (hij : j.toNatClampNeg = i) (hi : i < vs.length) (ga : n0 ≤ a) (hd : decode bytes pc = .ok (.bastore, 1)) (hp : pc + 1 = pc')
    (r : ∀ h', Wr h h' a j.toNatClampNeg (.int (nar .boolean x)) → Arv Z h' a ca .boolean z (vs.set i (.int (nar .boolean x))) dv → OGo p l e R s m args below meth c n0 Q h' cells slots pc' Ls st) : OGo p l e R s m args below meth c n0 Q h cells slots pc Ls (.int x :: .int j :: .ref a :: st) := by
  subst hp
  obtain ⟨cl, A, q1, S, hz, H, G⟩ := A
  have hin := inb_of S hj
  exact OGo.write ga (fun T locs k n X e0 => RoadKit.stZ X K.ex K.hZ e0 A (j := j) hin (g := mkF m pc Ls (.int x :: .int j :: .ref a :: st)) rfl rfl (hb K.by hd)) (fun h' W => r h' W (Arv.set A q1 S hz H G (fits_nar_bool x) W _ hij hi))
theorem OGo.aastore (K : OCx p l e R s m args below meth c Z own nm bytes ml rt) {a : Addr} {ca : ClassId} {ty : FieldType} {z j : Int32} {vs : List Value} {dv v : Value} (A : Arv Z h a ca ty z vs dv) (hty : ty.isReference = true) (hv : v.isRef = true) (F : Sto Z h a v) (hj : ¬ j < 0 ∧ j < z) {i : Nat} (hij : j.toNatClampNeg = i) (hi : i < vs.length) (ga : n0 ≤ a) (hd : decode bytes pc = .ok (.aastore, 1)) (hp : pc + 1 = pc')
    (r : ∀ h', Wr h h' a j.toNatClampNeg v → Arv Z h' a ca ty z (vs.set i v) dv → OGo p l e R s m args below meth c n0 Q h' cells slots pc' Ls st) : OGo p l e R s m args below meth c n0 Q h cells slots pc Ls (v :: .int j :: .ref a :: st) := by
  subst hp
  obtain ⟨cl, A, q1, S, hz, H, G⟩ := A
  have hin := inb_of S hj
  exact OGo.write ga (fun T locs k n X e0 => RoadKit.stR X K.ex K.hZ e0 A (j := j) hin hty F (g := mkF m pc Ls (v :: .int j :: .ref a :: st)) rfl rfl (hb K.by hd)) (fun h' W => r h' W (Arv.set A q1 S hz H G (by cases ty <;> first | (cases hty; done) | (cases v <;> first | (cases hv; done) | rfl)) W _ hij hi))
theorem OGo.initO (K : OCx p l e R s m args below meth c Z own nm bytes ml rt) {idx W : Nat} {a : Addr} (w1 : (Jvm.Cond.methodLink own idx Lib.objectInit).before a0 Z = true) (w2 : (Jvm.Cond.instanceMethod Lib.objectInit).before a0 Z = true) (w3 : (Jvm.Cond.code Lib.objectInit ⟨#[0xb1]⟩ 1 none).before a0 Z = true) (hd : decode bytes pc = .ok (.invokespecial idx, 3)) (hp : pc + 3 = pc') (hsz : Ls.size = ml) (hW : 2 * 0 + (st.map fun v => v.category).sum ≤ W) (hf : 1 ≤ R.frames) (hl : W + 12 ≤ R.locals) (r : OGo p l e R s m args below meth c n0 Q h cells slots pc' Ls st) : OGo p l e R s m args below meth c n0 Q h cells slots pc Ls (.ref a :: st) := by
  subst hp
  exact OGo.same (fun T locs k n X e0 => RoadKit.initO X K.ex K.hZ K.hown w1 w2 w3 e0 (g := mkF m pc Ls (.ref a :: st)) rfl (hsz.trans K.hml.symm) rfl (hb K.by hd) hf hW hl) r
theorem own_private {T : State} {locs : List Loc} {cells slots : Nat} (X : Stand p l e R s m args below meth c T locs cells slots) (hexec : p.tables.exec = Jvm.exec) {own : String} {index ni : Nat} {y : MethodName} {bytes : ByteArray} {maxL : Nat} {ret : Option FieldType}
    (hown : s.vm.findClass own = some m.cls) (hlink : (Jvm.Cond.methodLink own index y).before args s = true) (hinst : (Jvm.Cond.instanceMethod y).before args s = true) (hi : (Jvm.Cond.instantiable y.cls ni).before args s = true) (hpriv : s.PrivateAt y) (hcode : (Jvm.Cond.code y bytes maxL ret).before args s = true) (hy : y.cls ≠ "java/lang/invoke/MethodHandle" ∧ y.cls ≠ "java/lang/invoke/VarHandle")
    {W : Nat} {Pre : Pt → Array Value → Prop} {Post : Pt → Array Value → Option Value → Pt → Prop} (hK : Back l R p e below s args y 3 W Pre Post) {g : JFrame} (hg : g.method = m) (hsize : g.locals.size = c.maxLocals) {a : Addr} {cell : Cell} (hcell : T.heap[a]? = some cell) (hobj : ∀ q, cell.vm ≠ .statics q)
    {argsL rest : List Value} (hlen : ∀ sig, parseMethodDescriptor y.desc = some sig → argsL.length = sig.parameters.length) (hstack : g.stack = argsL.reverse ++ .ref a :: rest) (hW : 2 * g.monitorRoom + (rest.map fun v => v.category).sum ≤ W) (hdg : decode c.code g.pc = .ok (.invokevirtual index, 3))
    (hpre : ∀ vm₁, s.WarmedH vm₁ → Pre ⟨T.setVm vm₁, locs, cells, slots⟩ (.ref a :: argsL).toArray) :
    ∃ (v : Option Value) (vm₁ : Vm) (B : Pt), s.WarmedH vm₁ ∧ Stand p l e R s m args below meth c B.U B.locs B.cells B.slots ∧ Post ⟨T.setVm vm₁, locs, cells, slots⟩ (.ref a :: argsL).toArray v B ∧ Steps p.tables e below (T.setTop g) (B.U.setTop { g with pc := g.pc + 3, stack := v.toList ++ rest }) := by
  obtain ⟨mk, mt, n1, n2, n3, n4⟩ := Cond.instanceMethod_spec hinst
  obtain ⟨mt', ct, c1, -, -, -, -, -, -, c2⟩ := Cond.code_spec n1 hcode
  obtain rfl : mt' = mt := Option.some.inj (c1.symm.trans n2)
  obtain ⟨ci, ki, i1, i2, -, i3, -⟩ := Cond.instantiable_spec hi
  have i4 : s.vm.classes[mk.cls]? = some ki := by rw [Option.some.inj ((findClass_of_methodNamed n1).symm.trans i1)]; exact i2
  have i5 : ki.isInterface = false := (Bool.or_eq_false_iff.mp i3).1
  obtain ⟨vm₁, Y, sp⟩ := X.invokevirtual hexec hown hlink n1 n2 n3 i4 i5 hy hcell hobj (selectMethod_private n2 (hpriv mk mt' n1 n2)) n2 n4 i4 i5 hg (hlen _ c2) hstack hdg
  obtain ⟨v, B, Y', P', go⟩ := hK m meth c ⟨T.setVm vm₁, locs, cells, slots⟩ { g with stack := rest } (.invokevirtual index) mk (.ref a :: argsL).toArray Y hg hsize hdg hW (Y.named n1) (hpre vm₁ Y.warmed)
  exact ⟨v, vm₁, B, Y.warmed, Y', P', (sp _ fun acts => by rw [doInvoke_state]; exact Steps.refl _).trans go⟩
theorem OGo.callSV (K : OCx p l e R s m args below meth c Z own nm bytes ml rt) {y : MethodName} {index : Nat} {bytes' : ByteArray} {maxL : Nat} {ret : Option FieldType} {rm : Room} {W cells' slots' : Nat} {argsL : List Value} {P : Value → Heap → Prop} (w1 : (Jvm.Cond.methodLink own index y).before a0 Z = true) (w2 : (Jvm.Cond.static y).before a0 Z = true) (w3 : (Jvm.Cond.initialized y.cls).before a0 Z = true) (w4 : (Jvm.Cond.code y bytes' maxL ret).before a0 Z = true) (hy : y.cls ≠ "java/lang/invoke/MethodHandle" ∧ y.cls ≠ "java/lang/invoke/VarHandle") (C : OCon l Z n0 y bytes' maxL ret [] rm (argsL.toArray) h (OV P)) (hd : decode bytes pc = .ok (.invokestatic index, 3)) (hp : pc + 3 = pc') (hsz : Ls.size = ml) (hlen : ∀ sig, parseMethodDescriptor y.desc = some sig → argsL.length = sig.parameters.length) (hW : 2 * 0 + (st.map fun v => v.category).sum ≤ W) (hf : rm.frames + 1 ≤ R.frames) (hlo : W + (maxL + 11) + rm.locals ≤ R.locals) (hc : cells + rm.cells = cells') (hl : slots + rm.slots = slots') (hc' : cells' ≤ R.cells) (hl' : slots' ≤ R.slots) (r : ∀ (w : Value) (h' : Heap), P w h' → OGo p l e R s m args below meth c n0 Q h' cells' slots' pc' Ls (w :: st))
    : OGo p l e R s m args below meth c n0 Q h cells slots pc Ls (argsL.reverse ++ st) := by
  subst hp hc hl
  intro T locs k n X e0 N h1 h2
  obtain ⟨_, _, ⟨T', L', k', n'⟩, -, X', ⟨Lc, ⟨hQ, hN⟩, l', y', z'⟩, stp⟩ := Jvm.LawKit.callS X K.ex (y := y) K.hown (mvT K.hZ w1) (mvT K.hZ w2) (mvT K.hZ w3) (mvT K.hZ w4) hy (backOf (W := W) (Q := fun v h L => (OV P) v h ∧ Fr n0 L) C K.hZ w4 w3 hf hlo) (g := mkF m pc Ls (argsL.reverse ++ st)) rfl (hsz.trans K.hml.symm) (argsL := argsL) (rest := st) hlen rfl hW (hb K.by hd) (fun _ _ => ⟨rfl, e0, (by show k + rm.cells ≤ R.cells; omega), (by show n + rm.slots ≤ R.slots; omega)⟩)
  dsimp only [Pt.U, Pt.locs, Pt.cells, Pt.slots] at X' l' y' z' stp hQ
  subst l' y' z'
  obtain ⟨w, rfl, hQ⟩ := hQ
  obtain ⟨s₂, v, L, g, r'⟩ := r w _ hQ T' _ _ _ X' rfl (Fr.app N hN) (by omega) (by omega)
  exact ⟨s₂, v, L, stp _ g, r'⟩
theorem OGo.callSN (K : OCx p l e R s m args below meth c Z own nm bytes ml rt) {y : MethodName} {index : Nat} {bytes' : ByteArray} {maxL : Nat} {ret : Option FieldType} {rm : Room} {W cells' slots' : Nat} {argsL : List Value} {P : Heap → Prop} (w1 : (Jvm.Cond.methodLink own index y).before a0 Z = true) (w2 : (Jvm.Cond.static y).before a0 Z = true) (w3 : (Jvm.Cond.initialized y.cls).before a0 Z = true) (w4 : (Jvm.Cond.code y bytes' maxL ret).before a0 Z = true) (hy : y.cls ≠ "java/lang/invoke/MethodHandle" ∧ y.cls ≠ "java/lang/invoke/VarHandle") (C : OCon l Z n0 y bytes' maxL ret [] rm (argsL.toArray) h (ON P)) (hd : decode bytes pc = .ok (.invokestatic index, 3)) (hp : pc + 3 = pc') (hsz : Ls.size = ml) (hlen : ∀ sig, parseMethodDescriptor y.desc = some sig → argsL.length = sig.parameters.length) (hW : 2 * 0 + (st.map fun v => v.category).sum ≤ W) (hf : rm.frames + 1 ≤ R.frames) (hlo : W + (maxL + 11) + rm.locals ≤ R.locals) (hc : cells + rm.cells = cells') (hl : slots + rm.slots = slots') (hc' : cells' ≤ R.cells) (hl' : slots' ≤ R.slots) (r : ∀ (h' : Heap), P h' → OGo p l e R s m args below meth c n0 Q h' cells' slots' pc' Ls st)
    : OGo p l e R s m args below meth c n0 Q h cells slots pc Ls (argsL.reverse ++ st) := by
  subst hp hc hl
  intro T locs k n X e0 N h1 h2
  obtain ⟨_, _, ⟨T', L', k', n'⟩, -, X', ⟨Lc, ⟨hQ, hN⟩, l', y', z'⟩, stp⟩ := Jvm.LawKit.callS X K.ex (y := y) K.hown (mvT K.hZ w1) (mvT K.hZ w2) (mvT K.hZ w3) (mvT K.hZ w4) hy (backOf (W := W) (Q := fun v h L => (ON P) v h ∧ Fr n0 L) C K.hZ w4 w3 hf hlo) (g := mkF m pc Ls (argsL.reverse ++ st)) rfl (hsz.trans K.hml.symm) (argsL := argsL) (rest := st) hlen rfl hW (hb K.by hd) (fun _ _ => ⟨rfl, e0, (by show k + rm.cells ≤ R.cells; omega), (by show n + rm.slots ≤ R.slots; omega)⟩)
  dsimp only [Pt.U, Pt.locs, Pt.cells, Pt.slots] at X' l' y' z' stp hQ
  subst l' y' z'
  obtain ⟨rfl, hQ⟩ := hQ
  obtain ⟨s₂, v, L, g, r'⟩ := r  _ hQ T' _ _ _ X' rfl (Fr.app N hN) (by omega) (by omega)
  exact ⟨s₂, v, L, stp _ g, r'⟩
theorem OGo.callIV (K : OCx p l e R s m args below meth c Z own nm bytes ml rt) {y : MethodName} {a : Addr} {index : Nat} {bytes' : ByteArray} {maxL : Nat} {rm : Room} {W cells' slots' : Nat} {argsL : List Value} {P : Value → Heap → Prop} (hy1 : y.name = "<init>") (w1 : (Jvm.Cond.methodLink own index y).before a0 Z = true) (w2 : (Jvm.Cond.instanceMethod y).before a0 Z = true) (w3 : (Jvm.Cond.initialized y.cls).before a0 Z = true) (w4 : (Jvm.Cond.code y bytes' maxL none).before a0 Z = true) (hy : y.cls ≠ "java/lang/invoke/MethodHandle" ∧ y.cls ≠ "java/lang/invoke/VarHandle") (C : OCon l Z n0 y bytes' maxL none [] rm ((.ref a :: argsL).toArray) h (OV P)) (hd : decode bytes pc = .ok (.invokespecial index, 3)) (hp : pc + 3 = pc') (hsz : Ls.size = ml) (hlen : ∀ sig, parseMethodDescriptor y.desc = some sig → argsL.length = sig.parameters.length) (hW : 2 * 0 + (st.map fun v => v.category).sum ≤ W) (hf : rm.frames + 1 ≤ R.frames) (hlo : W + (maxL + 11) + rm.locals ≤ R.locals) (hc : cells + rm.cells = cells') (hl : slots + rm.slots = slots') (hc' : cells' ≤ R.cells) (hl' : slots' ≤ R.slots) (r : ∀ (w : Value) (h' : Heap), P w h' → OGo p l e R s m args below meth c n0 Q h' cells' slots' pc' Ls (w :: st))
    : OGo p l e R s m args below meth c n0 Q h cells slots pc Ls (argsL.reverse ++ .ref a :: st) := by
  subst hp hc hl
  intro T locs k n X e0 N h1 h2
  obtain ⟨_, _, ⟨T', L', k', n'⟩, -, X', ⟨Lc, ⟨hQ, hN⟩, l', y', z'⟩, stp⟩ := X.specialBack K.ex (y := y) hy1 K.hown (mvT K.hZ w1) (mvT K.hZ w2) (mvT K.hZ w4) hy (backOf (W := W) (Q := fun v h L => (OV P) v h ∧ Fr n0 L) C K.hZ w4 w3 hf hlo) (g := mkF m pc Ls (argsL.reverse ++ .ref a :: st)) rfl (hsz.trans K.hml.symm) (Steps.refl _) (a := a) (argsL := argsL) (rest := st) hlen rfl hW (hb K.by hd) (fun _ _ => ⟨rfl, e0, (by show k + rm.cells ≤ R.cells; omega), (by show n + rm.slots ≤ R.slots; omega)⟩)
  dsimp only [Pt.U, Pt.locs, Pt.cells, Pt.slots] at X' l' y' z' stp hQ
  subst l' y' z'
  obtain ⟨w, rfl, hQ⟩ := hQ
  obtain ⟨s₂, v, L, g, r'⟩ := r w _ hQ T' _ _ _ X' rfl (Fr.app N hN) (by omega) (by omega)
  exact ⟨s₂, v, L, stp.trans g, r'⟩
theorem OGo.callIN (K : OCx p l e R s m args below meth c Z own nm bytes ml rt) {y : MethodName} {a : Addr} {index : Nat} {bytes' : ByteArray} {maxL : Nat} {rm : Room} {W cells' slots' : Nat} {argsL : List Value} {P : Heap → Prop} (hy1 : y.name = "<init>") (w1 : (Jvm.Cond.methodLink own index y).before a0 Z = true) (w2 : (Jvm.Cond.instanceMethod y).before a0 Z = true) (w3 : (Jvm.Cond.initialized y.cls).before a0 Z = true) (w4 : (Jvm.Cond.code y bytes' maxL none).before a0 Z = true) (hy : y.cls ≠ "java/lang/invoke/MethodHandle" ∧ y.cls ≠ "java/lang/invoke/VarHandle") (C : OCon l Z n0 y bytes' maxL none [] rm ((.ref a :: argsL).toArray) h (ON P)) (hd : decode bytes pc = .ok (.invokespecial index, 3)) (hp : pc + 3 = pc') (hsz : Ls.size = ml) (hlen : ∀ sig, parseMethodDescriptor y.desc = some sig → argsL.length = sig.parameters.length) (hW : 2 * 0 + (st.map fun v => v.category).sum ≤ W) (hf : rm.frames + 1 ≤ R.frames) (hlo : W + (maxL + 11) + rm.locals ≤ R.locals) (hc : cells + rm.cells = cells') (hl : slots + rm.slots = slots') (hc' : cells' ≤ R.cells) (hl' : slots' ≤ R.slots) (r : ∀ (h' : Heap), P h' → OGo p l e R s m args below meth c n0 Q h' cells' slots' pc' Ls st)
    : OGo p l e R s m args below meth c n0 Q h cells slots pc Ls (argsL.reverse ++ .ref a :: st) := by
  subst hp hc hl
  intro T locs k n X e0 N h1 h2
  obtain ⟨_, _, ⟨T', L', k', n'⟩, -, X', ⟨Lc, ⟨hQ, hN⟩, l', y', z'⟩, stp⟩ := X.specialBack K.ex (y := y) hy1 K.hown (mvT K.hZ w1) (mvT K.hZ w2) (mvT K.hZ w4) hy (backOf (W := W) (Q := fun v h L => (ON P) v h ∧ Fr n0 L) C K.hZ w4 w3 hf hlo) (g := mkF m pc Ls (argsL.reverse ++ .ref a :: st)) rfl (hsz.trans K.hml.symm) (Steps.refl _) (a := a) (argsL := argsL) (rest := st) hlen rfl hW (hb K.by hd) (fun _ _ => ⟨rfl, e0, (by show k + rm.cells ≤ R.cells; omega), (by show n + rm.slots ≤ R.slots; omega)⟩)
  dsimp only [Pt.U, Pt.locs, Pt.cells, Pt.slots] at X' l' y' z' stp hQ
  subst l' y' z'
  obtain ⟨rfl, hQ⟩ := hQ
  obtain ⟨s₂, v, L, g, r'⟩ := r  _ hQ T' _ _ _ X' rfl (Fr.app N hN) (by omega) (by omega)
  exact ⟨s₂, v, L, stp.trans g, r'⟩
theorem OGo.callPV (K : OCx p l e R s m args below meth c Z own nm bytes ml rt) {y : MethodName} {a : Addr} {C0 : String} {index : Nat} {bytes' : ByteArray} {maxL : Nat} {ret : Option FieldType} {rm : Room} {W cells' slots' : Nat} {argsL : List Value} {P : Value → Heap → Prop} (E : Exa Z h a C0) (w1 : (Jvm.Cond.methodLink own index y).before a0 Z = true) (w2 : (Jvm.Cond.instanceMethod y).before a0 Z = true) (w5 : (Jvm.Cond.selects y.cls y y).before a0 Z = true) (w6 : (Jvm.Cond.privateMethod y).before a0 Z = true) (w3 : (Jvm.Cond.initialized y.cls).before a0 Z = true) (w4 : (Jvm.Cond.code y bytes' maxL ret).before a0 Z = true) (hy : y.cls ≠ "java/lang/invoke/MethodHandle" ∧ y.cls ≠ "java/lang/invoke/VarHandle") (C : OCon l Z n0 y bytes' maxL ret [] rm ((.ref a :: argsL).toArray) h (OV P)) (hd : decode bytes pc = .ok (.invokevirtual index, 3)) (hp : pc + 3 = pc') (hsz : Ls.size = ml) (hlen : ∀ sig, parseMethodDescriptor y.desc = some sig → argsL.length = sig.parameters.length) (hW : 2 * 0 + (st.map fun v => v.category).sum ≤ W) (hf : rm.frames + 1 ≤ R.frames) (hlo : W + (maxL + 11) + rm.locals ≤ R.locals) (hc : cells + rm.cells = cells') (hl : slots + rm.slots = slots') (hc' : cells' ≤ R.cells) (hl' : slots' ≤ R.slots) (r : ∀ (w : Value) (h' : Heap), P w h' → OGo p l e R s m args below meth c n0 Q h' cells' slots' pc' Ls (w :: st))
    : OGo p l e R s m args below meth c n0 Q h cells slots pc Ls (argsL.reverse ++ .ref a :: st) := by
  subst hp hc hl
  intro T locs k n X e0 N h1 h2
  obtain ⟨cq, q, q'⟩ := E.cell
  obtain ⟨_, _, ⟨T', L', k', n'⟩, -, X', ⟨Lc, ⟨hQ, hN⟩, l', y', z'⟩, stp⟩ := X.privateBack K.ex (y := y) K.hown (mvT K.hZ w1) (mvT K.hZ w2) (mvT K.hZ w5) (Cond.privateMethod_at (mvP K.hZ w6 (args := #[]))) (mvT K.hZ w4) hy (backOf (W := W) (Q := fun v h L => (OV P) v h ∧ Fr n0 L) C K.hZ w4 w3 hf hlo) (g := mkF m pc Ls (argsL.reverse ++ .ref a :: st)) rfl (hsz.trans K.hml.symm) (Steps.refl _) (a := a) (by rw [e0]; exact q) q' (argsL := argsL) (rest := st) hlen rfl hW (hb K.by hd) (fun _ _ => ⟨rfl, e0, (by show k + rm.cells ≤ R.cells; omega), (by show n + rm.slots ≤ R.slots; omega)⟩)
  dsimp only [Pt.U, Pt.locs, Pt.cells, Pt.slots] at X' l' y' z' stp hQ
  subst l' y' z'
  obtain ⟨w, rfl, hQ⟩ := hQ
  obtain ⟨s₂, v, L, g, r'⟩ := r w _ hQ T' _ _ _ X' rfl (Fr.app N hN) (by omega) (by omega)
  exact ⟨s₂, v, L, stp.trans g, r'⟩
theorem OGo.callPN (K : OCx p l e R s m args below meth c Z own nm bytes ml rt) {y : MethodName} {a : Addr} {C0 : String} {index : Nat} {bytes' : ByteArray} {maxL : Nat} {ret : Option FieldType} {rm : Room} {W cells' slots' : Nat} {argsL : List Value} {P : Heap → Prop} (E : Exa Z h a C0) (w1 : (Jvm.Cond.methodLink own index y).before a0 Z = true) (w2 : (Jvm.Cond.instanceMethod y).before a0 Z = true) (w5 : (Jvm.Cond.selects y.cls y y).before a0 Z = true) (w6 : (Jvm.Cond.privateMethod y).before a0 Z = true) (w3 : (Jvm.Cond.initialized y.cls).before a0 Z = true) (w4 : (Jvm.Cond.code y bytes' maxL ret).before a0 Z = true) (hy : y.cls ≠ "java/lang/invoke/MethodHandle" ∧ y.cls ≠ "java/lang/invoke/VarHandle") (C : OCon l Z n0 y bytes' maxL ret [] rm ((.ref a :: argsL).toArray) h (ON P)) (hd : decode bytes pc = .ok (.invokevirtual index, 3)) (hp : pc + 3 = pc') (hsz : Ls.size = ml) (hlen : ∀ sig, parseMethodDescriptor y.desc = some sig → argsL.length = sig.parameters.length) (hW : 2 * 0 + (st.map fun v => v.category).sum ≤ W) (hf : rm.frames + 1 ≤ R.frames) (hlo : W + (maxL + 11) + rm.locals ≤ R.locals) (hc : cells + rm.cells = cells') (hl : slots + rm.slots = slots') (hc' : cells' ≤ R.cells) (hl' : slots' ≤ R.slots) (r : ∀ (h' : Heap), P h' → OGo p l e R s m args below meth c n0 Q h' cells' slots' pc' Ls st)
    : OGo p l e R s m args below meth c n0 Q h cells slots pc Ls (argsL.reverse ++ .ref a :: st) := by
  subst hp hc hl
  intro T locs k n X e0 N h1 h2
  obtain ⟨cq, q, q'⟩ := E.cell
  obtain ⟨_, _, ⟨T', L', k', n'⟩, -, X', ⟨Lc, ⟨hQ, hN⟩, l', y', z'⟩, stp⟩ := X.privateBack K.ex (y := y) K.hown (mvT K.hZ w1) (mvT K.hZ w2) (mvT K.hZ w5) (Cond.privateMethod_at (mvP K.hZ w6 (args := #[]))) (mvT K.hZ w4) hy (backOf (W := W) (Q := fun v h L => (ON P) v h ∧ Fr n0 L) C K.hZ w4 w3 hf hlo) (g := mkF m pc Ls (argsL.reverse ++ .ref a :: st)) rfl (hsz.trans K.hml.symm) (Steps.refl _) (a := a) (by rw [e0]; exact q) q' (argsL := argsL) (rest := st) hlen rfl hW (hb K.by hd) (fun _ _ => ⟨rfl, e0, (by show k + rm.cells ≤ R.cells; omega), (by show n + rm.slots ≤ R.slots; omega)⟩)
  dsimp only [Pt.U, Pt.locs, Pt.cells, Pt.slots] at X' l' y' z' stp hQ
  subst l' y' z'
  obtain ⟨rfl, hQ⟩ := hQ
  obtain ⟨s₂, v, L, g, r'⟩ := r  _ hQ T' _ _ _ X' rfl (Fr.app N hN) (by omega) (by omega)
  exact ⟨s₂, v, L, stp.trans g, r'⟩
theorem OGo.callVV (K : OCx p l e R s m args below meth c Z own nm bytes ml rt) {y z : MethodName} {a : Addr} {C0 : String} {index : Nat} {bytes' : ByteArray} {maxL : Nat} {ret : Option FieldType} {rm : Room} {W cells' slots' : Nat} {argsL : List Value} {P : Value → Heap → Prop} (E : Exa Z h a C0) (w1 : (Jvm.Cond.methodLink own index y).before a0 Z = true) (w2 : (Jvm.Cond.declares y).before a0 Z = true) (hnf : NotFace s y) (w5 : (Jvm.Cond.selects C0 y z).before a0 Z = true) (w6 : (Jvm.Cond.instanceMethod z).before a0 Z = true) (w3 : (Jvm.Cond.initialized z.cls).before a0 Z = true) (w4 : (Jvm.Cond.code z bytes' maxL ret).before a0 Z = true) (hy : y.cls ≠ "java/lang/invoke/MethodHandle" ∧ y.cls ≠ "java/lang/invoke/VarHandle") (C : OCon l Z n0 z bytes' maxL ret [] rm ((.ref a :: argsL).toArray) h (OV P)) (hd : decode bytes pc = .ok (.invokevirtual index, 3)) (hp : pc + 3 = pc') (hsz : Ls.size = ml) (hlen : ∀ sig, parseMethodDescriptor y.desc = some sig → argsL.length = sig.parameters.length) (hW : 2 * 0 + (st.map fun v => v.category).sum ≤ W) (hf : rm.frames + 1 ≤ R.frames) (hlo : W + (maxL + 11) + rm.locals ≤ R.locals) (hc : cells + rm.cells = cells') (hl : slots + rm.slots = slots') (hc' : cells' ≤ R.cells) (hl' : slots' ≤ R.slots) (r : ∀ (w : Value) (h' : Heap), P w h' → OGo p l e R s m args below meth c n0 Q h' cells' slots' pc' Ls (w :: st))
    : OGo p l e R s m args below meth c n0 Q h cells slots pc Ls (argsL.reverse ++ .ref a :: st) := by
  subst hp hc hl
  intro T locs k n X e0 N h1 h2
  obtain ⟨cq, kq, qa, qb, qc⟩ := isOf K.hZ e0 E
  obtain ⟨_, _, ⟨T', L', k', n'⟩, -, X', ⟨Lc, ⟨hQ, hN⟩, l', y', z'⟩, stp⟩ := X.virtualBack K.ex (y := y) (z := z) K.hown (mvT K.hZ w1) (mvT K.hZ w2) hnf (mvT K.hZ w5) (mvT K.hZ w6) hy (backOf (W := W) (Q := fun v h L => (OV P) v h ∧ Fr n0 L) C K.hZ w4 w3 hf hlo) qa qc (g := mkF m pc Ls (argsL.reverse ++ .ref a :: st)) rfl (hsz.trans K.hml.symm) (Steps.refl _) (argsL := argsL) (rest := st) hlen rfl hW (hb K.by hd) (fun _ _ => ⟨rfl, e0, (by show k + rm.cells ≤ R.cells; omega), (by show n + rm.slots ≤ R.slots; omega)⟩)
  dsimp only [Pt.U, Pt.locs, Pt.cells, Pt.slots] at X' l' y' z' stp hQ
  subst l' y' z'
  obtain ⟨w, rfl, hQ⟩ := hQ
  obtain ⟨s₂, v, L, g, r'⟩ := r w _ hQ T' _ _ _ X' rfl (Fr.app N hN) (by omega) (by omega)
  exact ⟨s₂, v, L, stp.trans g, r'⟩
theorem OGo.callVN (K : OCx p l e R s m args below meth c Z own nm bytes ml rt) {y z : MethodName} {a : Addr} {C0 : String} {index : Nat} {bytes' : ByteArray} {maxL : Nat} {ret : Option FieldType} {rm : Room} {W cells' slots' : Nat} {argsL : List Value} {P : Heap → Prop} (E : Exa Z h a C0) (w1 : (Jvm.Cond.methodLink own index y).before a0 Z = true) (w2 : (Jvm.Cond.declares y).before a0 Z = true) (hnf : NotFace s y) (w5 : (Jvm.Cond.selects C0 y z).before a0 Z = true) (w6 : (Jvm.Cond.instanceMethod z).before a0 Z = true) (w3 : (Jvm.Cond.initialized z.cls).before a0 Z = true) (w4 : (Jvm.Cond.code z bytes' maxL ret).before a0 Z = true) (hy : y.cls ≠ "java/lang/invoke/MethodHandle" ∧ y.cls ≠ "java/lang/invoke/VarHandle") (C : OCon l Z n0 z bytes' maxL ret [] rm ((.ref a :: argsL).toArray) h (ON P)) (hd : decode bytes pc = .ok (.invokevirtual index, 3)) (hp : pc + 3 = pc') (hsz : Ls.size = ml) (hlen : ∀ sig, parseMethodDescriptor y.desc = some sig → argsL.length = sig.parameters.length) (hW : 2 * 0 + (st.map fun v => v.category).sum ≤ W) (hf : rm.frames + 1 ≤ R.frames) (hlo : W + (maxL + 11) + rm.locals ≤ R.locals) (hc : cells + rm.cells = cells') (hl : slots + rm.slots = slots') (hc' : cells' ≤ R.cells) (hl' : slots' ≤ R.slots) (r : ∀ (h' : Heap), P h' → OGo p l e R s m args below meth c n0 Q h' cells' slots' pc' Ls st)
    : OGo p l e R s m args below meth c n0 Q h cells slots pc Ls (argsL.reverse ++ .ref a :: st) := by
  subst hp hc hl
  intro T locs k n X e0 N h1 h2
  obtain ⟨cq, kq, qa, qb, qc⟩ := isOf K.hZ e0 E
  obtain ⟨_, _, ⟨T', L', k', n'⟩, -, X', ⟨Lc, ⟨hQ, hN⟩, l', y', z'⟩, stp⟩ := X.virtualBack K.ex (y := y) (z := z) K.hown (mvT K.hZ w1) (mvT K.hZ w2) hnf (mvT K.hZ w5) (mvT K.hZ w6) hy (backOf (W := W) (Q := fun v h L => (ON P) v h ∧ Fr n0 L) C K.hZ w4 w3 hf hlo) qa qc (g := mkF m pc Ls (argsL.reverse ++ .ref a :: st)) rfl (hsz.trans K.hml.symm) (Steps.refl _) (argsL := argsL) (rest := st) hlen rfl hW (hb K.by hd) (fun _ _ => ⟨rfl, e0, (by show k + rm.cells ≤ R.cells; omega), (by show n + rm.slots ≤ R.slots; omega)⟩)
  dsimp only [Pt.U, Pt.locs, Pt.cells, Pt.slots] at X' l' y' z' stp hQ
  subst l' y' z'
  obtain ⟨rfl, hQ⟩ := hQ
  obtain ⟨s₂, v, L, g, r'⟩ := r  _ hQ T' _ _ _ X' rfl (Fr.app N hN) (by omega) (by omega)
  exact ⟨s₂, v, L, stp.trans g, r'⟩
theorem OGo.callFV (K : OCx p l e R s m args below meth c Z own nm bytes ml rt) {y z : MethodName} {a : Addr} {C0 : String} {cnt : Nat} {index : Nat} {bytes' : ByteArray} {maxL : Nat} {ret : Option FieldType} {rm : Room} {W cells' slots' : Nat} {argsL : List Value} {P : Value → Heap → Prop} (E : Exa Z h a C0) (w1 : (Jvm.Cond.methodLink own index y).before a0 Z = true) (w2 : (Jvm.Cond.declares y).before a0 Z = true) (w7 : (Jvm.Cond.interfaceMethod y.cls y.cls y.name y.desc).before a0 Z = true) (w5 : (Jvm.Cond.selects C0 y z).before a0 Z = true) (w6 : (Jvm.Cond.instanceMethod z).before a0 Z = true) (w8 : (Jvm.Cond.publicMethod z).before a0 Z = true) (w9 : (Jvm.Cond.unhidden C0 y.name y.desc).before a0 Z = true) (w10 : (Jvm.Cond.castable C0 y.cls).before a0 Z = true) (w3 : (Jvm.Cond.initialized z.cls).before a0 Z = true) (w4 : (Jvm.Cond.code z bytes' maxL ret).before a0 Z = true) (hy : y.cls ≠ "java/lang/invoke/MethodHandle" ∧ y.cls ≠ "java/lang/invoke/VarHandle") (C : OCon l Z n0 z bytes' maxL ret [] rm ((.ref a :: argsL).toArray) h (OV P)) (hd : decode bytes pc = .ok (.invokeinterface index cnt, 5)) (hp : pc + 5 = pc') (hsz : Ls.size = ml) (hlen : ∀ sig, parseMethodDescriptor y.desc = some sig → argsL.length = sig.parameters.length) (hW : 2 * 0 + (st.map fun v => v.category).sum ≤ W) (hf : rm.frames + 1 ≤ R.frames) (hlo : W + (maxL + 11) + rm.locals ≤ R.locals) (hc : cells + rm.cells = cells') (hl : slots + rm.slots = slots') (hc' : cells' ≤ R.cells) (hl' : slots' ≤ R.slots) (r : ∀ (w : Value) (h' : Heap), P w h' → OGo p l e R s m args below meth c n0 Q h' cells' slots' pc' Ls (w :: st))
    : OGo p l e R s m args below meth c n0 Q h cells slots pc Ls (argsL.reverse ++ .ref a :: st) := by
  subst hp hc hl
  intro T locs k n X e0 N h1 h2
  obtain ⟨cq, kq, qa, qb, qc⟩ := isOf K.hZ e0 E
  obtain ⟨_, _, ⟨T', L', k', n'⟩, -, X', ⟨Lc, ⟨hQ, hN⟩, l', y', z'⟩, stp⟩ := X.interfaceBack K.ex (xi := y) (y := z) K.hown (mvT K.hZ w1) (mvT K.hZ w2) (mvT K.hZ w7 (by simp [Cond.onTables, Cond.keepsFace, Cond.keeps, Cond.steady, Cond.faceAtom, hy.1, hy.2])) (mvT K.hZ w5) (mvT K.hZ w6) (mvT K.hZ w8) (mvT K.hZ w9) (mvT K.hZ w10) hy (backOf (W := W) (Q := fun v h L => (OV P) v h ∧ Fr n0 L) C K.hZ w4 w3 hf hlo) qa qb qc (g := mkF m pc Ls (argsL.reverse ++ .ref a :: st)) rfl (hsz.trans K.hml.symm) (Steps.refl _) (argsL := argsL) (rest := st) hlen rfl hW (hb K.by hd) (fun _ _ => ⟨rfl, e0, (by show k + rm.cells ≤ R.cells; omega), (by show n + rm.slots ≤ R.slots; omega)⟩)
  dsimp only [Pt.U, Pt.locs, Pt.cells, Pt.slots] at X' l' y' z' stp hQ
  subst l' y' z'
  obtain ⟨w, rfl, hQ⟩ := hQ
  obtain ⟨s₂, v, L, g, r'⟩ := r w _ hQ T' _ _ _ X' rfl (Fr.app N hN) (by omega) (by omega)
  exact ⟨s₂, v, L, stp.trans g, r'⟩
theorem OGo.callFN (K : OCx p l e R s m args below meth c Z own nm bytes ml rt) {y z : MethodName} {a : Addr} {C0 : String} {cnt : Nat} {index : Nat} {bytes' : ByteArray} {maxL : Nat} {ret : Option FieldType} {rm : Room} {W cells' slots' : Nat} {argsL : List Value} {P : Heap → Prop} (E : Exa Z h a C0) (w1 : (Jvm.Cond.methodLink own index y).before a0 Z = true) (w2 : (Jvm.Cond.declares y).before a0 Z = true) (w7 : (Jvm.Cond.interfaceMethod y.cls y.cls y.name y.desc).before a0 Z = true) (w5 : (Jvm.Cond.selects C0 y z).before a0 Z = true) (w6 : (Jvm.Cond.instanceMethod z).before a0 Z = true) (w8 : (Jvm.Cond.publicMethod z).before a0 Z = true) (w9 : (Jvm.Cond.unhidden C0 y.name y.desc).before a0 Z = true) (w10 : (Jvm.Cond.castable C0 y.cls).before a0 Z = true) (w3 : (Jvm.Cond.initialized z.cls).before a0 Z = true) (w4 : (Jvm.Cond.code z bytes' maxL ret).before a0 Z = true) (hy : y.cls ≠ "java/lang/invoke/MethodHandle" ∧ y.cls ≠ "java/lang/invoke/VarHandle") (C : OCon l Z n0 z bytes' maxL ret [] rm ((.ref a :: argsL).toArray) h (ON P)) (hd : decode bytes pc = .ok (.invokeinterface index cnt, 5)) (hp : pc + 5 = pc') (hsz : Ls.size = ml) (hlen : ∀ sig, parseMethodDescriptor y.desc = some sig → argsL.length = sig.parameters.length) (hW : 2 * 0 + (st.map fun v => v.category).sum ≤ W) (hf : rm.frames + 1 ≤ R.frames) (hlo : W + (maxL + 11) + rm.locals ≤ R.locals) (hc : cells + rm.cells = cells') (hl : slots + rm.slots = slots') (hc' : cells' ≤ R.cells) (hl' : slots' ≤ R.slots) (r : ∀ (h' : Heap), P h' → OGo p l e R s m args below meth c n0 Q h' cells' slots' pc' Ls st)
    : OGo p l e R s m args below meth c n0 Q h cells slots pc Ls (argsL.reverse ++ .ref a :: st) := by
  subst hp hc hl
  intro T locs k n X e0 N h1 h2
  obtain ⟨cq, kq, qa, qb, qc⟩ := isOf K.hZ e0 E
  obtain ⟨_, _, ⟨T', L', k', n'⟩, -, X', ⟨Lc, ⟨hQ, hN⟩, l', y', z'⟩, stp⟩ := X.interfaceBack K.ex (xi := y) (y := z) K.hown (mvT K.hZ w1) (mvT K.hZ w2) (mvT K.hZ w7 (by simp [Cond.onTables, Cond.keepsFace, Cond.keeps, Cond.steady, Cond.faceAtom, hy.1, hy.2])) (mvT K.hZ w5) (mvT K.hZ w6) (mvT K.hZ w8) (mvT K.hZ w9) (mvT K.hZ w10) hy (backOf (W := W) (Q := fun v h L => (ON P) v h ∧ Fr n0 L) C K.hZ w4 w3 hf hlo) qa qb qc (g := mkF m pc Ls (argsL.reverse ++ .ref a :: st)) rfl (hsz.trans K.hml.symm) (Steps.refl _) (argsL := argsL) (rest := st) hlen rfl hW (hb K.by hd) (fun _ _ => ⟨rfl, e0, (by show k + rm.cells ≤ R.cells; omega), (by show n + rm.slots ≤ R.slots; omega)⟩)
  dsimp only [Pt.U, Pt.locs, Pt.cells, Pt.slots] at X' l' y' z' stp hQ
  subst l' y' z'
  obtain ⟨rfl, hQ⟩ := hQ
  obtain ⟨s₂, v, L, g, r'⟩ := r  _ hQ T' _ _ _ X' rfl (Fr.app N hN) (by omega) (by omega)
  exact ⟨s₂, v, L, stp.trans g, r'⟩
theorem OGo.copy (K : OCx p l e R s m args below meth c Z own nm bytes ml rt) {index W : Nat} {a b : Addr} {k k' : ClassId} {ty : FieldType} {z z' sp dp nn : Int32} {vs vd us : List Value} {dv dd : Value} (w1 : (Jvm.Cond.methodLink own index Jvm.Stand.acN).before a0 Z = true) (w2 : (Jvm.Cond.native Jvm.Stand.acN).before a0 Z = true) (w3 : (Jvm.Cond.static Jvm.Stand.acN).before a0 Z = true) (w4 : (Jvm.Cond.initialized "java/lang/System").before a0 Z = true)
    (A : Arv Z h a k ty z vs dv) (B : Arv Z h b k' ty z' vd dd) (hty : refKind ty = false) (h1 : ¬ sp < 0) (h2 : ¬ dp < 0) (h3 : ¬ nn < 0) (h4 : sp.toNatClampNeg + nn.toNatClampNeg ≤ z.toNatClampNeg) (h5 : dp.toNatClampNeg + nn.toNatClampNeg ≤ z'.toNatClampNeg) (hus : us = (List.range nn.toNatClampNeg).map fun i => vs.getD (sp.toNatClampNeg + i) dv) (hl : dp.toNatClampNeg + nn.toNatClampNeg ≤ vd.length) (ge : n0 ≤ b)
    (hd : decode bytes pc = .ok (.invokestatic index, 3)) (hp : pc + 3 = pc') (hsz : Ls.size = ml) (hf : 1 ≤ R.frames) (hW : 2 * 0 + (st.map fun v => v.category).sum ≤ W) (hlo : W + (nativeFrameWords "java/lang/System" "arraycopy" 5 + 11) ≤ R.locals)
    (r : ∀ h', Keep h h' [b] → Arv Z h' b k' ty z' (vd.take dp.toNatClampNeg ++ us ++ vd.drop (dp.toNatClampNeg + nn.toNatClampNeg)) dd → OGo p l e R s m args below meth c n0 Q h' cells slots pc' Ls st) : OGo p l e R s m args below meth c n0 Q h cells slots pc Ls (.int nn :: .int dp :: .ref b :: .int sp :: .ref a :: st) := by
  subst hp
  intro T locs k n X e0 N h1' h2'
  obtain ⟨T', h', L, X', e', N', K', V', st'⟩ := RoadKit.cpA X K.ex K.hZ K.hown w1 w2 w3 w4 e0 A B (Or.inl ⟨rfl, hty⟩) h1 h2 h3 h4 h5 hus hl N ge (g := mkF m pc Ls (.int nn :: .int dp :: .ref b :: .int sp :: .ref a :: st)) rfl (hsz.trans K.hml.symm) rfl (hb K.by hd) hf hW hlo
  obtain ⟨s₂, v, L2, g, r'⟩ := r h' K' V' T' L k n X' e' N' h1' h2'
  exact ⟨s₂, v, L2, st' _ g, r'⟩
theorem OGo.callQV (K : OCx p l e R s m args below meth c Z own nm bytes ml rt) {y : MethodName} {a : Addr} {C0 : String} {ni : Nat} {index : Nat} {bytes' : ByteArray} {maxL : Nat} {ret : Option FieldType} {rm : Room} {W cells' slots' : Nat} {argsL : List Value} {P : Value → Heap → Prop} (E : Exa Z h a C0) (w1 : (Jvm.Cond.methodLink own index y).before a0 Z = true) (w2 : (Jvm.Cond.instanceMethod y).before a0 Z = true) (w5 : (Jvm.Cond.instantiable y.cls ni).before a0 Z = true) (w6 : (Jvm.Cond.privateMethod y).before a0 Z = true) (w3 : (Jvm.Cond.initialized y.cls).before a0 Z = true) (w4 : (Jvm.Cond.code y bytes' maxL ret).before a0 Z = true) (hy : y.cls ≠ "java/lang/invoke/MethodHandle" ∧ y.cls ≠ "java/lang/invoke/VarHandle") (C : OCon l Z n0 y bytes' maxL ret [] rm ((.ref a :: argsL).toArray) h (OV P)) (hd : decode bytes pc = .ok (.invokevirtual index, 3)) (hp : pc + 3 = pc') (hsz : Ls.size = ml) (hlen : ∀ sig, parseMethodDescriptor y.desc = some sig → argsL.length = sig.parameters.length) (hW : 2 * 0 + (st.map fun v => v.category).sum ≤ W) (hf : rm.frames + 1 ≤ R.frames) (hlo : W + (maxL + 11) + rm.locals ≤ R.locals) (hc : cells + rm.cells = cells') (hl : slots + rm.slots = slots') (hc' : cells' ≤ R.cells) (hl' : slots' ≤ R.slots) (r : ∀ (w : Value) (h' : Heap), P w h' → OGo p l e R s m args below meth c n0 Q h' cells' slots' pc' Ls (w :: st))
    : OGo p l e R s m args below meth c n0 Q h cells slots pc Ls (argsL.reverse ++ .ref a :: st) := by
  subst hp hc hl
  intro T locs k n X e0 N h1 h2
  obtain ⟨cq, q, q'⟩ := E.cell
  obtain ⟨_, _, ⟨T', L', k', n'⟩, -, X', ⟨Lc, ⟨hQ, hN⟩, l', y', z'⟩, stp⟩ := own_private X K.ex (y := y) K.hown (mvT K.hZ w1) (mvT K.hZ w2) (mvT K.hZ w5) (Cond.privateMethod_at (mvP K.hZ w6 (args := #[]))) (mvT K.hZ w4) hy (backOf (W := W) (Q := fun v h L => (OV P) v h ∧ Fr n0 L) C K.hZ w4 w3 hf hlo) (g := mkF m pc Ls (argsL.reverse ++ .ref a :: st)) rfl (hsz.trans K.hml.symm) (a := a) (by rw [e0]; exact q) q' (argsL := argsL) (rest := st) hlen rfl hW (hb K.by hd) (fun _ _ => ⟨rfl, e0, (by show k + rm.cells ≤ R.cells; omega), (by show n + rm.slots ≤ R.slots; omega)⟩)
  dsimp only [Pt.U, Pt.locs, Pt.cells, Pt.slots] at X' l' y' z' stp hQ
  subst l' y' z'
  obtain ⟨w, rfl, hQ⟩ := hQ
  obtain ⟨s₂, v, L, g, r'⟩ := r w _ hQ T' _ _ _ X' rfl (Fr.app N hN) (by omega) (by omega)
  exact ⟨s₂, v, L, stp.trans g, r'⟩
theorem OGo.callQN (K : OCx p l e R s m args below meth c Z own nm bytes ml rt) {y : MethodName} {a : Addr} {C0 : String} {ni : Nat} {index : Nat} {bytes' : ByteArray} {maxL : Nat} {ret : Option FieldType} {rm : Room} {W cells' slots' : Nat} {argsL : List Value} {P : Heap → Prop} (E : Exa Z h a C0) (w1 : (Jvm.Cond.methodLink own index y).before a0 Z = true) (w2 : (Jvm.Cond.instanceMethod y).before a0 Z = true) (w5 : (Jvm.Cond.instantiable y.cls ni).before a0 Z = true) (w6 : (Jvm.Cond.privateMethod y).before a0 Z = true) (w3 : (Jvm.Cond.initialized y.cls).before a0 Z = true) (w4 : (Jvm.Cond.code y bytes' maxL ret).before a0 Z = true) (hy : y.cls ≠ "java/lang/invoke/MethodHandle" ∧ y.cls ≠ "java/lang/invoke/VarHandle") (C : OCon l Z n0 y bytes' maxL ret [] rm ((.ref a :: argsL).toArray) h (ON P)) (hd : decode bytes pc = .ok (.invokevirtual index, 3)) (hp : pc + 3 = pc') (hsz : Ls.size = ml) (hlen : ∀ sig, parseMethodDescriptor y.desc = some sig → argsL.length = sig.parameters.length) (hW : 2 * 0 + (st.map fun v => v.category).sum ≤ W) (hf : rm.frames + 1 ≤ R.frames) (hlo : W + (maxL + 11) + rm.locals ≤ R.locals) (hc : cells + rm.cells = cells') (hl : slots + rm.slots = slots') (hc' : cells' ≤ R.cells) (hl' : slots' ≤ R.slots) (r : ∀ (h' : Heap), P h' → OGo p l e R s m args below meth c n0 Q h' cells' slots' pc' Ls st)
    : OGo p l e R s m args below meth c n0 Q h cells slots pc Ls (argsL.reverse ++ .ref a :: st) := by
  subst hp hc hl
  intro T locs k n X e0 N h1 h2
  obtain ⟨cq, q, q'⟩ := E.cell
  obtain ⟨_, _, ⟨T', L', k', n'⟩, -, X', ⟨Lc, ⟨hQ, hN⟩, l', y', z'⟩, stp⟩ := own_private X K.ex (y := y) K.hown (mvT K.hZ w1) (mvT K.hZ w2) (mvT K.hZ w5) (Cond.privateMethod_at (mvP K.hZ w6 (args := #[]))) (mvT K.hZ w4) hy (backOf (W := W) (Q := fun v h L => (ON P) v h ∧ Fr n0 L) C K.hZ w4 w3 hf hlo) (g := mkF m pc Ls (argsL.reverse ++ .ref a :: st)) rfl (hsz.trans K.hml.symm) (a := a) (by rw [e0]; exact q) q' (argsL := argsL) (rest := st) hlen rfl hW (hb K.by hd) (fun _ _ => ⟨rfl, e0, (by show k + rm.cells ≤ R.cells; omega), (by show n + rm.slots ≤ R.slots; omega)⟩)
  dsimp only [Pt.U, Pt.locs, Pt.cells, Pt.slots] at X' l' y' z' stp hQ
  subst l' y' z'
  obtain ⟨rfl, hQ⟩ := hQ
  obtain ⟨s₂, v, L, g, r'⟩ := r  _ hQ T' _ _ _ X' rfl (Fr.app N hN) (by omega) (by omega)
  exact ⟨s₂, v, L, stp.trans g, r'⟩
theorem OGo.acmp (K : OCx p l e R s m args below meth c Z own nm bytes ml rt) {cd : ACond} {o : Int} {x y : Value} {same : Bool} (hd : decode bytes pc = .ok (.if_acmp cd o, 3)) (h1 : x.isRef = true) (h2 : y.isRef = true) (hq : decide (x = y) = same) (ho : 0 ≤ (pc : Int) + o) (hp : pc' = if acV cd same = true then ((pc : Int) + o).toNat else pc + 3) (r : OGo p l e R s m args below meth c n0 Q h cells slots pc' Ls st) : OGo p l e R s m args below meth c n0 Q h cells slots pc Ls (y :: x :: st) :=
  OGo.same (fun T locs k n X e0 => ⟨T, X, e0, fun t q => RoadKit.acmp X K.ex (g := mkF m pc Ls (y :: x :: st)) rfl h1 h2 rfl (hb K.by hd) rfl hq ho hp q⟩) r
theorem OGo.castY (K : OCx p l e R s m args below meth c Z own nm bytes ml rt) {C : String} {index : Nat} {a : Addr} (w : (Jvm.Cond.classLink own index C).before a0 Z = true) (I : Ins Z h a C true) (hd : decode bytes pc = .ok (.checkcast index, 3)) (hp : pc + 3 = pc') (r : OGo p l e R s m args below meth c n0 Q h cells slots pc' Ls (.ref a :: st)) : OGo p l e R s m args below meth c n0 Q h cells slots pc Ls (.ref a :: st) := by
  subst hp
  exact OGo.same (fun T locs k n X e0 => RoadKit.castY X K.ex K.hZ K.hown w e0 I (g := mkF m pc Ls (.ref a :: st)) rfl rfl (hb K.by hd)) r
theorem OGo.instY (K : OCx p l e R s m args below meth c Z own nm bytes ml rt) {C : String} {index : Nat} {a : Addr} (w : (Jvm.Cond.classLink own index C).before a0 Z = true) (I : Ins Z h a C true) (hd : decode bytes pc = .ok (.instanceof index, 3)) (hp : pc + 3 = pc') (r : OGo p l e R s m args below meth c n0 Q h cells slots pc' Ls (.int 1 :: st)) : OGo p l e R s m args below meth c n0 Q h cells slots pc Ls (.ref a :: st) := by
  subst hp
  exact OGo.same (fun T locs k n X e0 => RoadKit.instY X K.ex K.hZ K.hown w e0 I (g := mkF m pc Ls (.ref a :: st)) rfl rfl (hb K.by hd)) r
theorem OGo.ldcI (K : OCx p l e R s m args below meth c Z own nm bytes ml rt) {index : Nat} {v : Int32} (w : (Jvm.Cond.constant own index v).before a0 Z = true) (hd : decode bytes pc = .ok (.ldc index, 2)) (hp : pc + 2 = pc') (r : OGo p l e R s m args below meth c n0 Q h cells slots pc' Ls (.int v :: st)) : OGo p l e R s m args below meth c n0 Q h cells slots pc Ls st := by
  subst hp
  exact OGo.same (fun T locs k n X e0 => ⟨T, X, e0, fun t q => X.ldcInt K.ex K.hown (mvT K.hZ w) (g := mkF m pc Ls st) rfl (hb K.by hd) t q⟩) r
theorem OGo.ldcwI (K : OCx p l e R s m args below meth c Z own nm bytes ml rt) {index : Nat} {v : Int32} (w : (Jvm.Cond.constant own index v).before a0 Z = true) (hd : decode bytes pc = .ok (.ldc_w index, 3)) (hp : pc + 3 = pc') (r : OGo p l e R s m args below meth c n0 Q h cells slots pc' Ls (.int v :: st)) : OGo p l e R s m args below meth c n0 Q h cells slots pc Ls st := by
  subst hp
  exact OGo.same (fun T locs k n X e0 => ⟨T, X, e0, fun t q => X.ldcwInt K.ex K.hown (mvT K.hZ w) (g := mkF m pc Ls st) rfl (hb K.by hd) t q⟩) r
theorem OGo.ldcJ (K : OCx p l e R s m args below meth c Z own nm bytes ml rt) {index : Nat} {v : Int64} (w : (Jvm.Cond.constantLong own index v).before a0 Z = true) (hd : decode bytes pc = .ok (.ldc2_w index, 3)) (hp : pc + 3 = pc') (r : OGo p l e R s m args below meth c n0 Q h cells slots pc' Ls (.long v :: st)) : OGo p l e R s m args below meth c n0 Q h cells slots pc Ls st := by
  subst hp
  exact OGo.same (fun T locs k n X e0 => ⟨T, X, e0, fun t q => X.ldc2Long K.ex K.hown (mvT K.hZ w) (g := mkF m pc Ls st) rfl (hb K.by hd) t q⟩) r
theorem OGo.ldcD (K : OCx p l e R s m args below meth c Z own nm bytes ml rt) {index : Nat} {v : UInt64} (w : (Jvm.Cond.constantDouble own index v).before a0 Z = true) (hd : decode bytes pc = .ok (.ldc2_w index, 3)) (hp : pc + 3 = pc') (r : OGo p l e R s m args below meth c n0 Q h cells slots pc' Ls (.double v :: st)) : OGo p l e R s m args below meth c n0 Q h cells slots pc Ls st := by
  subst hp
  exact OGo.same (fun T locs k n X e0 => ⟨T, X, e0, fun t q => X.ldc2DoubleC K.ex K.hown (mvT K.hZ w) (g := mkF m pc Ls st) rfl (hb K.by hd) t q⟩) r
end OwnLayer
theorem own_ushr {x q : Int32} {k : Nat} (hk : q.toBitVec.toNat % 32 = k) (h0 : 0 < k) (hx : 0 ≤ x.toInt) : (ushr x q).toInt = x.toInt / (2 ^ k : Nat) := by
  have h := c_iushr x q k hk h0
  have r := rng32 x
  rw [Int.emod_eq_of_lt hx (by omega)] at h
  exact h
theorem own_ushrL {v : Int64} {q : Int32} {k : Nat} (hq : q.toInt = k) (hk : 0 < k ∧ k < 64) (hv : 0 ≤ v.toInt) : (ushrL v q).toInt = v.toInt / (2 ^ k : Nat) := by
  have h2 : q.toBitVec.toNat = k := by
    have h3 : q.toBitVec.toInt = k := hq
    rw [BitVec.toInt_eq_toNat_cond] at h3
    have h4 := q.toBitVec.isLt
    split at h3 <;> omega
  have h := c_lushr v q k (by omega) hk.1
  have r := rng64 v
  rw [Int.emod_eq_of_lt hv (by omega)] at h
  exact h
theorem own_nlz_step {n i ns q : Int32} {X k : Nat} (s : Nat) (hns : ns.toInt = -(s : Int)) (hq : q.toBitVec.toNat % 32 = s) (hs : 0 < s ∧ s ≤ 16) (h1 : n.toInt = 31 - (k : Int)) (h2 : i.toInt = ((X / 2 ^ k : Nat) : Int)) (hk : k ≤ 31) : (n + ns).toInt = 31 - ((k + s : Nat) : Int) ∧ (ushr i q).toInt = ((X / 2 ^ (k + s) : Nat) : Int) ∧ (ushr i q).toInt = i.toInt / (2 ^ s : Nat) := by
  have a1 := c_iadd n ns
  have a2 := rng32 (n + ns)
  have nn : (0 : Int) ≤ ((X / 2 ^ k : Nat) : Int) := Int.natCast_nonneg _
  have u := own_ushr (x := i) hq hs.1 (by omega)
  refine ⟨by omega, ?_, u⟩
  rw [u, h2, Nat.pow_add, ← Nat.div_div_eq_div_mul]
  exact (Int.natCast_ediv _ _).symm
theorem own_nlz_fin {n i : Int32} {X k : Nat} (h1 : n.toInt = 31 - (k : Int)) (h2 : i.toInt = ((X / 2 ^ k : Nat) : Int)) (h3 : 0 < i.toInt) (h4 : i.toInt < 4) (hk : k ≤ 30) : ∃ L : Nat, Value.int (n - ushr i 1) = .int (Int32.ofNat (31 - L)) ∧ L ≤ 31 ∧ 2 ^ L ≤ X ∧ X < 2 ^ (L + 1) := by
  have u := own_ushr (x := i) (q := 1) (k := 1) rfl (by decide) (by omega)
  have s1 := c_isub n (ushr i 1)
  have s2 := rng32 (n - ushr i 1)
  have d := Nat.div_add_mod X (2 ^ k)
  have m := Nat.mod_lt X (Nat.two_pow_pos k)
  have hi : X / 2 ^ k = 1 ∨ X / 2 ^ k = 2 ∨ X / 2 ^ k = 3 := by omega
  have fin : ∀ L : Nat, L ≤ 31 → (n - ushr i 1).toInt = 31 - (L : Int) → Value.int (n - ushr i 1) = .int (Int32.ofNat (31 - L)) := fun L hL e => by
    have : n - ushr i 1 = Int32.ofNat (31 - L) := by
      apply Int32.toInt_inj.mp
      rw [toInt_of (n := Int32.ofNat (31 - L)) rfl (by omega), e]; omega
    rw [this]
  have p1 : 2 ^ (k + 1) = 2 * 2 ^ k := by rw [Nat.pow_succ, Nat.mul_comm]
  have p2 : 2 ^ (k + 1 + 1) = 4 * 2 ^ k := by rw [Nat.pow_succ, Nat.pow_succ]; omega
  generalize hP : 2 ^ k = P at *
  rcases hi with e | e | e
  · rw [e] at d h2
    exact ⟨k, fin k (by omega) (by omega), by omega, by omega, by omega⟩
  · rw [e] at d h2
    exact ⟨k + 1, fin (k + 1) (by omega) (by omega), by omega, by omega, by omega⟩
  · rw [e] at d h2
    exact ⟨k + 1, fin (k + 1) (by omega) (by omega), by omega, by omega, by omega⟩
theorem own_hi {v : Int64} {V : Nat} (hV : v.toInt = V) : ((ushrL v 32).toInt32).toInt = ((V / 4294967296 : Nat) : Int) := by
  have u := own_ushrL (v := v) (q := 32) (k := 32) rfl (by decide) (by omega)
  have r := rng64 v
  have c := c_l2i (ushrL v 32)
  have r2 := rng32 (ushrL v 32).toInt32
  rw [show ((2 ^ 32 : Nat) : Int) = 4294967296 from rfl] at u
  omega
theorem own_lo {v : Int64} {V : Nat} (hV : v.toInt = V) (h : V < 4294967296) : v.toInt32.toInt % 4294967296 = V := by
  have c := c_l2i v
  omega
theorem own_ofn {a b : Nat} (h : a + b < 2 ^ 31) : Int32.ofNat a + Int32.ofNat b = Int32.ofNat (a + b) := by
  apply Int32.toInt_inj.mp
  have h1 := c_iadd (Int32.ofNat a) (Int32.ofNat b)
  have h2 := rng32 (Int32.ofNat a + Int32.ofNat b)
  have e1 := toInt_of (n := Int32.ofNat a) rfl (by omega)
  have e2 := toInt_of (n := Int32.ofNat b) rfl (by omega)
  have e3 := toInt_of (n := Int32.ofNat (a + b)) rfl h
  omega
def OLA (Z : State) (n0 : Nat) (h : Heap) (a x : Addr) (bs : List Nat) : Prop :=
  Exa Z h a "com/example/intervale/intervale/bench/Latencies" ∧ Fld Z h a "com/example/intervale/intervale/bench/Latencies" "counts" "[J" (.ref x) ∧ Fld Z h a "com/example/intervale/intervale/bench/Latencies" "count" "J" (.long (Int64.ofNat bs.length)) ∧
  (∃ k vs, Arv Z h x k .long 28160 vs (.long 0) ∧ vs.length = 28160 ∧ ∀ i, i < 28160 → vs.getD i (.long 0) = .long (Int64.ofNat (bs.count i))) ∧ a ≠ x ∧ n0 ≤ a ∧ n0 ≤ x ∧ ∀ b ∈ bs, b < 28160
theorem OLA.keep {Z : State} {n0 : Nat} {h h' : Heap} {a x : Addr} {bs : List Nat} {ws : List Addr} (L : OLA Z n0 h a x bs) (K : Keep h h' ws) (q1 : a ∉ ws) (q2 : x ∉ ws) : OLA Z n0 h' a x bs := by
  obtain ⟨E, F1, F2, ⟨k, vs, A, r⟩, s⟩ := L
  exact ⟨E.keep K, F1.keep K q1, F2.keep K q1, ⟨k, vs, A.keep K q2, r⟩, s⟩
theorem OLA.ext {Z : State} {n0 : Nat} {h h' : Heap} {a x : Addr} {bs : List Nat} (L : OLA Z n0 h a x bs) (E' : Ext h h') : OLA Z n0 h' a x bs := by
  obtain ⟨E, F1, F2, ⟨k, vs, A, r⟩, s⟩ := L
  exact ⟨E.ext E', F1.ext E', F2.ext E', ⟨k, vs, A.ext E', r⟩, s⟩
theorem OLA.lta {Z : State} {n0 : Nat} {h : Heap} {a x : Addr} {bs : List Nat} (L : OLA Z n0 h a x bs) : a < h.size := L.1.lt
theorem OLA.ltx {Z : State} {n0 : Nat} {h : Heap} {a x : Addr} {bs : List Nat} (L : OLA Z n0 h a x bs) : x < h.size := by
  obtain ⟨-, -, -, ⟨k, vs, A, -⟩, -⟩ := L
  exact A.lt
theorem own_zero (i : Nat) : ([] ++ List.replicate 28160 (Value.long 0)).getD i (.long 0) = .long 0 := by
  rw [List.nil_append, List.getD_eq_getElem?_getD, List.getElem?_replicate]
  split <;> rfl
theorem own_len (d : Value) : ([] ++ List.replicate 28160 d).length = 28160 := by rw [List.nil_append, List.length_replicate]
theorem own_o64 (a b : Nat) (h : a + b < 2 ^ 63) : Int64.ofNat a + Int64.ofNat b = Int64.ofNat (a + b) := by
  apply Int64.toInt_inj.mp
  have h1 := c_ladd (Int64.ofNat a) (Int64.ofNat b)
  have h2 := rng64 (Int64.ofNat a + Int64.ofNat b)
  have e1 : (Int64.ofNat a).toInt = a := Int64.toInt_ofNat_of_lt (by omega)
  have e2 : (Int64.ofNat b).toInt = b := Int64.toInt_ofNat_of_lt (by omega)
  have e3 : (Int64.ofNat (a + b)).toInt = ((a + b : Nat) : Int) := Int64.toInt_ofNat_of_lt h
  omega
theorem own_o64i {a : Nat} (h : a < 2 ^ 63) : (Int64.ofNat a).toInt = a := Int64.toInt_ofNat_of_lt h
theorem own_i28 {n : Nat} (h : n < 28160) : ¬ (Int32.ofNat n) < 0 ∧ Int32.ofNat n < 28160 ∧ (Int32.ofNat n).toNatClampNeg = n := by
  have e1 := toInt_of (n := Int32.ofNat n) rfl (by omega)
  have e2 := clamp_of (n := Int32.ofNat n) rfl (by omega)
  have e3 : (28160 : Int32).toInt = 28160 := rfl
  have e4 : (0 : Int32).toInt = 0 := rfl
  exact ⟨by rw [Int32.lt_iff_toInt_lt, e1, e4]; omega, by rw [Int32.lt_iff_toInt_lt, e1, e3]; omega, e2⟩
def own_bkt (n : Nat) (L : Nat) : Nat := if n < 1024 then n else 1024 + (L - 10) * 512 + n / 2 ^ (L - 9) - 512
theorem own_pow_le {a b : Nat} (h : 2 ^ a < 2 ^ b) : a < b := (Nat.pow_lt_pow_iff_right (by decide)).mp h
theorem own_log {V L M : Nat} (h1 : 2 ^ L ≤ V) (h2 : V < 2 ^ (L + 1)) (g1 : 2 ^ M ≤ V) (g2 : V < 2 ^ (M + 1)) : L = M := by
  have a := own_pow_le (Nat.lt_of_le_of_lt h1 g2)
  have b := own_pow_le (Nat.lt_of_le_of_lt g1 h2)
  omega
def own_lg (n : Nat) : Nat := Nat.log2 n
theorem own_lg_of {V L : Nat} (h1 : 2 ^ L ≤ V) (h2 : V < 2 ^ (L + 1)) : own_lg V = L := by
  have hV : V ≠ 0 := by have := Nat.two_pow_pos L; omega
  refine own_log (V := V) (Nat.log2_self_le hV) Nat.lt_log2_self h1 h2
theorem own_bkt_lt {V L : Nat} (h : 1024 ≤ V) (hL : L ≤ 62) (h1 : 2 ^ L ≤ V) (h2 : V < 2 ^ (L + 1)) : 10 ≤ L ∧ 512 ≤ V / 2 ^ (L - 9) ∧ V / 2 ^ (L - 9) < 1024 := by
  have h10 : 10 ≤ L := by
    apply Nat.le_of_not_lt; intro q
    have := Nat.pow_le_pow_right (show 0 < 2 by decide) (show L + 1 ≤ 10 by omega)
    rw [show 2 ^ 10 = 1024 from rfl] at this; omega
  have e1 : 2 ^ L = 512 * 2 ^ (L - 9) := by rw [show (512 : Nat) = 2 ^ 9 from rfl, ← Nat.pow_add]; congr 1; omega
  have e2 : 2 ^ (L + 1) = 1024 * 2 ^ (L - 9) := by rw [show (1024 : Nat) = 2 ^ 10 from rfl, ← Nat.pow_add]; congr 1; omega
  refine ⟨h10, ?_, ?_⟩
  · rw [Nat.le_div_iff_mul_le (Nat.two_pow_pos _)]; omega
  · rw [Nat.div_lt_iff_lt_mul (Nat.two_pow_pos _)]; omega
theorem own_sh {L : Nat} (h10 : 10 ≤ L) (hL : L ≤ 62) : (63 - Int32.ofNat (63 - L) - 9 : Int32).toInt = ((L - 9 : Nat) : Int) := by
  have e1 := toInt_of (n := Int32.ofNat (63 - L)) rfl (by omega)
  have s1 := c_isub 63 (Int32.ofNat (63 - L))
  have r1 := rng32 (63 - Int32.ofNat (63 - L))
  have s2 := c_isub (63 - Int32.ofNat (63 - L)) 9
  have r2 := rng32 (63 - Int32.ofNat (63 - L) - 9)
  rw [show (63 : Int32).toInt = 63 from rfl] at s1
  rw [show (9 : Int32).toInt = 9 from rfl] at s2
  omega
theorem own_bval {v : Int64} {V L : Nat} (hV : v.toInt = V) (h : 1024 ≤ V) (hL : L ≤ 62) (h1 : 2 ^ L ≤ V) (h2 : V < 2 ^ (L + 1)) :
    (((1024 : Int32) + (63 - Int32.ofNat (63 - L) - 9 - 1) * 512) + (ushrL v (63 - Int32.ofNat (63 - L) - 9)).toInt32) - 512 = Int32.ofNat (own_bkt V L) ∧ own_bkt V L < 28160 := by
  obtain ⟨h10, b1, b2⟩ := own_bkt_lt h hL h1 h2
  have es := own_sh h10 hL
  have eu := own_ushrL (v := v) (k := L - 9) es (by omega) (by omega)
  have e2 : (ushrL v (63 - Int32.ofNat (63 - L) - 9)).toInt = ((V / 2 ^ (L - 9) : Nat) : Int) := by rw [eu, hV]; exact (Int.natCast_ediv _ _).symm
  generalize hS : (63 - Int32.ofNat (63 - L) - 9 : Int32) = S at *
  generalize hU : ushrL v S = U at *
  generalize hD : V / 2 ^ (L - 9) = D at *
  have hb : own_bkt V L = 1024 + (L - 10) * 512 + D - 512 := by rw [own_bkt, if_neg (by omega), hD]
  refine ⟨?_, by rw [hb]; omega⟩
  apply Int32.toInt_inj.mp
  rw [toInt_of (n := Int32.ofNat (own_bkt V L)) rfl (by rw [hb]; omega), hb]
  have a1 := c_isub S 1
  have a2 := rng32 (S - 1)
  have a3 := c_imul (S - 1) 512
  have a4 := rng32 ((S - 1) * 512)
  have a5 := c_iadd 1024 ((S - 1) * 512)
  have a6 := rng32 (1024 + (S - 1) * 512)
  have a7 := c_l2i U
  have a8 := rng32 U.toInt32
  have a9 := c_iadd (1024 + (S - 1) * 512) U.toInt32
  have b3 := rng32 (1024 + (S - 1) * 512 + U.toInt32)
  have b4 := c_isub (1024 + (S - 1) * 512 + U.toInt32) 512
  have b5 := rng32 (1024 + (S - 1) * 512 + U.toInt32 - 512)
  rw [show (1 : Int32).toInt = 1 from rfl] at a1
  rw [show (512 : Int32).toInt = 512 from rfl] at a3 b4
  rw [show (1024 : Int32).toInt = 1024 from rfl] at a5
  omega
theorem own_count_cons (b : Nat) (bs : List Nat) (i : Nat) : (b :: bs).count i = bs.count i + if b = i then 1 else 0 := by
  rw [List.count_cons]; congr 1; by_cases q : b = i <;> simp [q]
theorem own_rec {vs : List Value} {bs : List Nat} {b : Nat} (hl : vs.length = 28160) (hb : b < 28160) (hn : bs.length < 1000) (H : ∀ i, i < 28160 → vs.getD i (.long 0) = .long (Int64.ofNat (bs.count i))) : ∀ i, i < 28160 → (vs.set b (.long (Int64.ofNat (bs.count b) + 1))).getD i (.long 0) = .long (Int64.ofNat ((b :: bs).count i)) := by
  intro i hi
  have hc : bs.count b ≤ bs.length := List.count_le_length
  rw [List.getD_eq_getElem?_getD, own_count_cons]
  by_cases q : b = i
  · subst q
    rw [List.getElem?_set_self (by omega), if_pos rfl, ← own_o64 _ _ (by omega)]
    rfl
  · rw [List.getElem?_set_ne q, ← List.getD_eq_getElem?_getD, H i hi, if_neg q, Nat.add_zero]
theorem own_addset {vs us : List Value} {as bs : List Nat} {i : Nat} (hl : vs.length = 28160) (hi : i < 28160) (hn : as.length + bs.length < 1000) (H : ∀ j, j < 28160 → vs.getD j (.long 0) = .long (Int64.ofNat (if j < i then as.count j + bs.count j else as.count j))) : ∀ j, j < 28160 → (vs.set i (.long (Int64.ofNat (as.count i) + Int64.ofNat (bs.count i)))).getD j (.long 0) = .long (Int64.ofNat (if j < i + 1 then as.count j + bs.count j else as.count j)) := by
  intro j hj
  have c1 : as.count i ≤ as.length := List.count_le_length
  have c2 : bs.count i ≤ bs.length := List.count_le_length
  rw [List.getD_eq_getElem?_getD]
  by_cases q : i = j
  · subst q
    rw [List.getElem?_set_self (by omega), if_pos (by omega), own_o64 _ _ (by omega)]
    rfl
  · rw [List.getElem?_set_ne q, ← List.getD_eq_getElem?_getD, H j hj]
    by_cases r : j < i
    · rw [if_pos r, if_pos (by omega)]
    · rw [if_neg r, if_neg (by omega)]
def own_find (bs : List Nat) (r : Nat) : Nat → Nat → Nat → Nat
  | 0, i, _ => i
  | k + 1, i, s => if s + bs.count i < r then own_find bs r k (i + 1) (s + bs.count i) else i
theorem own_find_congr {as bs : List Nat} (h : ∀ i, as.count i = bs.count i) (r : Nat) : ∀ k i s, own_find as r k i s = own_find bs r k i s
  | 0, _, _ => rfl
  | k + 1, i, s => by rw [own_find, own_find, h i, own_find_congr h r k]
def own_mid (x : Int32) : Int64 := if x < 1024 then x.toInt64 else ((((x - 1024) % 512 + 512).toInt64 <<< (((x - 1024) / 512 + 1 &&& 63).toInt64)) + ((((1 : Int64) <<< (((x - 1024) / 512 + 1 &&& 63).toInt64)) - 1) / 2))
def own_pre (bs : List Nat) (i : Nat) : Nat := bs.countP (fun b => decide (b < i))
theorem own_pre_succ (bs : List Nat) (i : Nat) : own_pre bs (i + 1) = own_pre bs i + bs.count i := by
  induction bs with
  | nil => rfl
  | cons b bs ih =>
    unfold own_pre at *
    rw [List.countP_cons, List.countP_cons, own_count_cons, ih]
    by_cases h1 : b < i
    · simp [h1, show b < i + 1 by omega, show ¬ b = i by omega]; omega
    · by_cases h2 : b = i
      · simp [h2]; omega
      · simp [h1, h2, show ¬ b < i + 1 by omega]
theorem own_pre_all {bs : List Nat} (h : ∀ b ∈ bs, b < 28160) : own_pre bs 28160 = bs.length := by
  rw [own_pre, List.countP_eq_length]
  intro b hb; simpa using h b hb
theorem own_pre_le (bs : List Nat) (i : Nat) : own_pre bs i ≤ bs.length := List.countP_le_length
theorem own_rank {pc : Int32} {c : Nat} (h1 : 1 ≤ pc.toInt) (h2 : pc.toInt ≤ 100) (hc : c ≤ 1000) : ((pc.toInt64 * Int64.ofNat c + 99) / 100 : Int64) = Int64.ofNat ((pc.toInt.toNat * c + 99) / 100) ∧ (pc.toInt.toNat * c + 99) / 100 ≤ c := by
  obtain ⟨p, hp⟩ : ∃ p : Nat, pc.toInt = p := ⟨pc.toInt.toNat, by omega⟩
  have e1 := c_i2l pc
  have e2 := own_o64i (a := c) (by omega)
  have hpc : p * c ≤ 100 * 1000 := Nat.mul_le_mul (by omega) hc
  have hpc2 : p * c ≤ 100 * c := Nat.mul_le_mul_right c (by omega)
  have m1 := c_lmul pc.toInt64 (Int64.ofNat c)
  rw [e1, e2, hp, ← Int.natCast_mul] at m1
  have m2 := rng64 (pc.toInt64 * Int64.ofNat c)
  have a1 := c_ladd (pc.toInt64 * Int64.ofNat c) 99
  have a2 := rng64 (pc.toInt64 * Int64.ofNat c + 99)
  rw [show (99 : Int64).toInt = 99 from rfl] at a1
  have d1 := (c_ldiv (pc.toInt64 * Int64.ofNat c + 99) 100 100 rfl (by decide)).1
  have hpt : pc.toInt.toNat = p := by omega
  rw [hpt]
  refine ⟨?_, by omega⟩
  apply Int64.toInt_inj.mp
  rw [own_o64i (by omega), d1 (by omega)]
  omega
theorem own_lt64 {a b : Nat} (ha : a < 2 ^ 63) (hb : b < 2 ^ 63) : Int64.ofNat a < Int64.ofNat b ↔ a < b := by
  rw [Int64.lt_iff_toInt_lt, own_o64i ha, own_o64i hb]; omega
theorem own_msk (x : Int64) : ∃ V : Nat, (x &&& 9223372036854775807).toInt = V := ⟨_, (Int.toNat_of_nonneg ((c_andSL x 9223372036854775807).2.2 (by decide))).symm⟩
theorem own_inc64 (a : Nat) (h : a + 1 < 2 ^ 63) : Int64.ofNat a + 1 = Int64.ofNat (a + 1) := own_o64 a 1 h
theorem own_pct (x : Int32) : 1 ≤ ((x &&& 2147483647) % 100 + 1).toInt ∧ ((x &&& 2147483647) % 100 + 1).toInt ≤ 100 := by
  have h0 : 0 ≤ (x &&& 2147483647).toInt := (c_andS x 2147483647).2.2 (by decide)
  have h1 := (c_irem (x &&& 2147483647) 100 100 rfl).1 h0
  have a := c_iadd ((x &&& 2147483647) % 100) 1
  have r := rng32 ((x &&& 2147483647) % 100 + 1)
  rw [show (1 : Int32).toInt = 1 from rfl] at a
  omega
theorem own_d1_0 : decode prog_8_method_1_code 0 = .ok (.aload_n 0, 1) := by decide +kernel
theorem own_d1_1 : decode prog_8_method_1_code 1 = .ok (.invokespecial 3, 3) := by decide +kernel
theorem own_d1_4 : decode prog_8_method_1_code 4 = .ok (.aload_n 0, 1) := by decide +kernel
theorem own_d1_5 : decode prog_8_method_1_code 5 = .ok (.sipush 28160, 3) := by decide +kernel
theorem own_d1_8 : decode prog_8_method_1_code 8 = .ok (.newarray .long, 2) := by decide +kernel
theorem own_d1_10 : decode prog_8_method_1_code 10 = .ok (.putfield 9, 3) := by decide +kernel
theorem own_d1_13 : decode prog_8_method_1_code 13 = .ok (.return_, 1) := by decide +kernel
theorem own_pn_1 : plainName "com/example/intervale/intervale/bench/Latencies" = true := by first | (simp [plainName, overriddenIn]; done) | decide +kernel
theorem own_d10_73 : decode jdk_33_method_47_code 73 = .ok (.iload_n 1, 1) := by decide +kernel
theorem own_d10_74 : decode jdk_33_method_47_code 74 = .ok (.iload_n 0, 1) := by decide +kernel
theorem own_d10_75 : decode jdk_33_method_47_code 75 = .ok (.iconst 1, 1) := by decide +kernel
theorem own_d10_76 : decode jdk_33_method_47_code 76 = .ok (.iushr, 1) := by decide +kernel
theorem own_d10_77 : decode jdk_33_method_47_code 77 = .ok (.isub, 1) := by decide +kernel
theorem own_d10_78 : decode jdk_33_method_47_code 78 = .ok (.ireturn, 1) := by decide +kernel
theorem own_d10_61 : decode jdk_33_method_47_code 61 = .ok (.iload_n 0, 1) := by decide +kernel
theorem own_d10_62 : decode jdk_33_method_47_code 62 = .ok (.iconst 4, 1) := by decide +kernel
theorem own_d10_63 : decode jdk_33_method_47_code 63 = .ok (.if_icmp .lt 10, 3) := by decide +kernel
theorem own_d10_66 : decode jdk_33_method_47_code 66 = .ok (.iinc 1 (-2), 3) := by decide +kernel
theorem own_d10_69 : decode jdk_33_method_47_code 69 = .ok (.iload_n 0, 1) := by decide +kernel
theorem own_d10_70 : decode jdk_33_method_47_code 70 = .ok (.iconst 2, 1) := by decide +kernel
theorem own_d10_71 : decode jdk_33_method_47_code 71 = .ok (.iushr, 1) := by decide +kernel
theorem own_d10_72 : decode jdk_33_method_47_code 72 = .ok (.istore_n 0, 1) := by decide +kernel
theorem own_d10_48 : decode jdk_33_method_47_code 48 = .ok (.iload_n 0, 1) := by decide +kernel
theorem own_d10_49 : decode jdk_33_method_47_code 49 = .ok (.bipush 16, 2) := by decide +kernel
theorem own_d10_51 : decode jdk_33_method_47_code 51 = .ok (.if_icmp .lt 10, 3) := by decide +kernel
theorem own_d10_54 : decode jdk_33_method_47_code 54 = .ok (.iinc 1 (-4), 3) := by decide +kernel
theorem own_d10_57 : decode jdk_33_method_47_code 57 = .ok (.iload_n 0, 1) := by decide +kernel
theorem own_d10_58 : decode jdk_33_method_47_code 58 = .ok (.iconst 4, 1) := by decide +kernel
theorem own_d10_59 : decode jdk_33_method_47_code 59 = .ok (.iushr, 1) := by decide +kernel
theorem own_d10_60 : decode jdk_33_method_47_code 60 = .ok (.istore_n 0, 1) := by decide +kernel
theorem own_d10_33 : decode jdk_33_method_47_code 33 = .ok (.iload_n 0, 1) := by decide +kernel
theorem own_d10_34 : decode jdk_33_method_47_code 34 = .ok (.sipush 256, 3) := by decide +kernel
theorem own_d10_37 : decode jdk_33_method_47_code 37 = .ok (.if_icmp .lt 11, 3) := by decide +kernel
theorem own_d10_40 : decode jdk_33_method_47_code 40 = .ok (.iinc 1 (-8), 3) := by decide +kernel
theorem own_d10_43 : decode jdk_33_method_47_code 43 = .ok (.iload_n 0, 1) := by decide +kernel
theorem own_d10_44 : decode jdk_33_method_47_code 44 = .ok (.bipush 8, 2) := by decide +kernel
theorem own_d10_46 : decode jdk_33_method_47_code 46 = .ok (.iushr, 1) := by decide +kernel
theorem own_d10_47 : decode jdk_33_method_47_code 47 = .ok (.istore_n 0, 1) := by decide +kernel
theorem own_d10_0 : decode jdk_33_method_47_code 0 = .ok (.iload_n 0, 1) := by decide +kernel
theorem own_d10_1 : decode jdk_33_method_47_code 1 = .ok (.ifCond .gt 14, 3) := by decide +kernel
theorem own_d10_15 : decode jdk_33_method_47_code 15 = .ok (.bipush 31, 2) := by decide +kernel
theorem own_d10_17 : decode jdk_33_method_47_code 17 = .ok (.istore_n 1, 1) := by decide +kernel
theorem own_d10_18 : decode jdk_33_method_47_code 18 = .ok (.iload_n 0, 1) := by decide +kernel
theorem own_d10_19 : decode jdk_33_method_47_code 19 = .ok (.ldc_w 264, 3) := by decide +kernel
theorem own_d10_22 : decode jdk_33_method_47_code 22 = .ok (.if_icmp .lt 11, 3) := by decide +kernel
theorem own_d10_25 : decode jdk_33_method_47_code 25 = .ok (.iinc 1 (-16), 3) := by decide +kernel
theorem own_d10_28 : decode jdk_33_method_47_code 28 = .ok (.iload_n 0, 1) := by decide +kernel
theorem own_d10_29 : decode jdk_33_method_47_code 29 = .ok (.bipush 16, 2) := by decide +kernel
theorem own_d10_31 : decode jdk_33_method_47_code 31 = .ok (.iushr, 1) := by decide +kernel
theorem own_d10_32 : decode jdk_33_method_47_code 32 = .ok (.istore_n 0, 1) := by decide +kernel
theorem own_d10_4 : decode jdk_33_method_47_code 4 = .ok (.iload_n 0, 1) := by decide +kernel
theorem own_d10_5 : decode jdk_33_method_47_code 5 = .ok (.ifCond .ne 8, 3) := by decide +kernel
theorem own_d10_13 : decode jdk_33_method_47_code 13 = .ok (.iconst 0, 1) := by decide +kernel
theorem own_d10_14 : decode jdk_33_method_47_code 14 = .ok (.ireturn, 1) := by decide +kernel
theorem own_pn_10 : plainName "java/lang/Integer" = true := by first | (simp [plainName, overriddenIn]; done) | decide +kernel
theorem own_d9_0 : decode jdk_35_method_48_code 0 = .ok (.lload_n 0, 1) := by decide +kernel
theorem own_d9_1 : decode jdk_35_method_48_code 1 = .ok (.bipush 32, 2) := by decide +kernel
theorem own_d9_3 : decode jdk_35_method_48_code 3 = .ok (.lushr, 1) := by decide +kernel
theorem own_d9_4 : decode jdk_35_method_48_code 4 = .ok (.l2i, 1) := by decide +kernel
theorem own_d9_5 : decode jdk_35_method_48_code 5 = .ok (.istore_n 2, 1) := by decide +kernel
theorem own_d9_6 : decode jdk_35_method_48_code 6 = .ok (.iload_n 2, 1) := by decide +kernel
theorem own_d9_7 : decode jdk_35_method_48_code 7 = .ok (.ifCond .ne 14, 3) := by decide +kernel
theorem own_d9_21 : decode jdk_35_method_48_code 21 = .ok (.iload_n 2, 1) := by decide +kernel
theorem own_d9_22 : decode jdk_35_method_48_code 22 = .ok (.invokestatic 308, 3) := by decide +kernel
theorem own_pd2 : parseMethodDescriptor "(I)I" = some ⟨[.int], some .int⟩ := by decide +kernel
theorem own_d9_25 : decode jdk_35_method_48_code 25 = .ok (.ireturn, 1) := by decide +kernel
theorem own_d9_10 : decode jdk_35_method_48_code 10 = .ok (.bipush 32, 2) := by decide +kernel
theorem own_d9_12 : decode jdk_35_method_48_code 12 = .ok (.lload_n 0, 1) := by decide +kernel
theorem own_d9_13 : decode jdk_35_method_48_code 13 = .ok (.l2i, 1) := by decide +kernel
theorem own_d9_14 : decode jdk_35_method_48_code 14 = .ok (.invokestatic 308, 3) := by decide +kernel
theorem own_d9_17 : decode jdk_35_method_48_code 17 = .ok (.iadd, 1) := by decide +kernel
theorem own_d9_18 : decode jdk_35_method_48_code 18 = .ok (.goto 7, 3) := by decide +kernel
theorem own_pn_9 : plainName "java/lang/Long" = true := by first | (simp [plainName, overriddenIn]; done) | decide +kernel
theorem own_d4_0 : decode prog_8_method_6_code 0 = .ok (.lload_n 0, 1) := by decide +kernel
theorem own_d4_1 : decode prog_8_method_6_code 1 = .ok (.ldc2_w 41, 3) := by decide +kernel
theorem own_d4_4 : decode prog_8_method_6_code 4 = .ok (.lcmp, 1) := by decide +kernel
theorem own_d4_5 : decode prog_8_method_6_code 5 = .ok (.ifCond .ge 6, 3) := by decide +kernel
theorem own_d4_11 : decode prog_8_method_6_code 11 = .ok (.bipush 63, 2) := by decide +kernel
theorem own_d4_13 : decode prog_8_method_6_code 13 = .ok (.lload_n 0, 1) := by decide +kernel
theorem own_d4_14 : decode prog_8_method_6_code 14 = .ok (.invokestatic 43, 3) := by decide +kernel
theorem own_pd4 : parseMethodDescriptor "(J)I" = some ⟨[.long], some .int⟩ := by decide +kernel
theorem own_d4_17 : decode prog_8_method_6_code 17 = .ok (.isub, 1) := by decide +kernel
theorem own_d4_18 : decode prog_8_method_6_code 18 = .ok (.bipush 9, 2) := by decide +kernel
theorem own_d4_20 : decode prog_8_method_6_code 20 = .ok (.isub, 1) := by decide +kernel
theorem own_d4_21 : decode prog_8_method_6_code 21 = .ok (.istore_n 2, 1) := by decide +kernel
theorem own_d4_22 : decode prog_8_method_6_code 22 = .ok (.sipush 1024, 3) := by decide +kernel
theorem own_d4_25 : decode prog_8_method_6_code 25 = .ok (.iload_n 2, 1) := by decide +kernel
theorem own_d4_26 : decode prog_8_method_6_code 26 = .ok (.iconst 1, 1) := by decide +kernel
theorem own_d4_27 : decode prog_8_method_6_code 27 = .ok (.isub, 1) := by decide +kernel
theorem own_d4_28 : decode prog_8_method_6_code 28 = .ok (.sipush 512, 3) := by decide +kernel
theorem own_d4_31 : decode prog_8_method_6_code 31 = .ok (.imul, 1) := by decide +kernel
theorem own_d4_32 : decode prog_8_method_6_code 32 = .ok (.iadd, 1) := by decide +kernel
theorem own_d4_33 : decode prog_8_method_6_code 33 = .ok (.lload_n 0, 1) := by decide +kernel
theorem own_d4_34 : decode prog_8_method_6_code 34 = .ok (.iload_n 2, 1) := by decide +kernel
theorem own_d4_35 : decode prog_8_method_6_code 35 = .ok (.lushr, 1) := by decide +kernel
theorem own_d4_36 : decode prog_8_method_6_code 36 = .ok (.l2i, 1) := by decide +kernel
theorem own_d4_37 : decode prog_8_method_6_code 37 = .ok (.iadd, 1) := by decide +kernel
theorem own_d4_38 : decode prog_8_method_6_code 38 = .ok (.sipush 512, 3) := by decide +kernel
theorem own_d4_41 : decode prog_8_method_6_code 41 = .ok (.isub, 1) := by decide +kernel
theorem own_d4_42 : decode prog_8_method_6_code 42 = .ok (.ireturn, 1) := by decide +kernel
theorem own_d4_8 : decode prog_8_method_6_code 8 = .ok (.lload_n 0, 1) := by decide +kernel
theorem own_d4_9 : decode prog_8_method_6_code 9 = .ok (.l2i, 1) := by decide +kernel
theorem own_d4_10 : decode prog_8_method_6_code 10 = .ok (.ireturn, 1) := by decide +kernel
theorem own_d3_0 : decode prog_8_method_2_code 0 = .ok (.lload_n 1, 1) := by decide +kernel
theorem own_d3_1 : decode prog_8_method_2_code 1 = .ok (.lconst 0, 1) := by decide +kernel
theorem own_d3_2 : decode prog_8_method_2_code 2 = .ok (.lcmp, 1) := by decide +kernel
theorem own_d3_3 : decode prog_8_method_2_code 3 = .ok (.ifCond .ge 17, 3) := by decide +kernel
theorem own_d3_20 : decode prog_8_method_2_code 20 = .ok (.aload_n 0, 1) := by decide +kernel
theorem own_d3_21 : decode prog_8_method_2_code 21 = .ok (.getfield 9, 3) := by decide +kernel
theorem own_d3_24 : decode prog_8_method_2_code 24 = .ok (.lload_n 1, 1) := by decide +kernel
theorem own_d3_25 : decode prog_8_method_2_code 25 = .ok (.invokestatic 22, 3) := by decide +kernel
theorem own_d3_28 : decode prog_8_method_2_code 28 = .ok (.dup2, 1) := by decide +kernel
theorem own_d3_29 : decode prog_8_method_2_code 29 = .ok (.laload, 1) := by decide +kernel
theorem own_d3_30 : decode prog_8_method_2_code 30 = .ok (.lconst 1, 1) := by decide +kernel
theorem own_d3_31 : decode prog_8_method_2_code 31 = .ok (.ladd, 1) := by decide +kernel
theorem own_d3_32 : decode prog_8_method_2_code 32 = .ok (.lastore, 1) := by decide +kernel
theorem own_d3_33 : decode prog_8_method_2_code 33 = .ok (.aload_n 0, 1) := by decide +kernel
theorem own_d3_34 : decode prog_8_method_2_code 34 = .ok (.dup, 1) := by decide +kernel
theorem own_d3_35 : decode prog_8_method_2_code 35 = .ok (.getfield 26, 3) := by decide +kernel
theorem own_d3_38 : decode prog_8_method_2_code 38 = .ok (.lconst 1, 1) := by decide +kernel
theorem own_d3_39 : decode prog_8_method_2_code 39 = .ok (.ladd, 1) := by decide +kernel
theorem own_d3_40 : decode prog_8_method_2_code 40 = .ok (.putfield 26, 3) := by decide +kernel
theorem own_d3_43 : decode prog_8_method_2_code 43 = .ok (.return_, 1) := by decide +kernel
theorem own_d5_2 : decode prog_8_method_3_code 2 = .ok (.iload_n 2, 1) := by decide +kernel
theorem own_d5_3 : decode prog_8_method_3_code 3 = .ok (.sipush 28160, 3) := by decide +kernel
theorem own_d5_6 : decode prog_8_method_3_code 6 = .ok (.if_icmp .ge 24, 3) := by decide +kernel
theorem own_d5_30 : decode prog_8_method_3_code 30 = .ok (.aload_n 0, 1) := by decide +kernel
theorem own_d5_31 : decode prog_8_method_3_code 31 = .ok (.dup, 1) := by decide +kernel
theorem own_d5_32 : decode prog_8_method_3_code 32 = .ok (.getfield 26, 3) := by decide +kernel
theorem own_d5_35 : decode prog_8_method_3_code 35 = .ok (.aload_n 1, 1) := by decide +kernel
theorem own_d5_36 : decode prog_8_method_3_code 36 = .ok (.getfield 26, 3) := by decide +kernel
theorem own_d5_39 : decode prog_8_method_3_code 39 = .ok (.ladd, 1) := by decide +kernel
theorem own_d5_40 : decode prog_8_method_3_code 40 = .ok (.putfield 26, 3) := by decide +kernel
theorem own_d5_43 : decode prog_8_method_3_code 43 = .ok (.return_, 1) := by decide +kernel
theorem own_d5_9 : decode prog_8_method_3_code 9 = .ok (.aload_n 0, 1) := by decide +kernel
theorem own_d5_10 : decode prog_8_method_3_code 10 = .ok (.getfield 9, 3) := by decide +kernel
theorem own_d5_13 : decode prog_8_method_3_code 13 = .ok (.iload_n 2, 1) := by decide +kernel
theorem own_d5_14 : decode prog_8_method_3_code 14 = .ok (.dup2, 1) := by decide +kernel
theorem own_d5_15 : decode prog_8_method_3_code 15 = .ok (.laload, 1) := by decide +kernel
theorem own_d5_16 : decode prog_8_method_3_code 16 = .ok (.aload_n 1, 1) := by decide +kernel
theorem own_d5_17 : decode prog_8_method_3_code 17 = .ok (.getfield 9, 3) := by decide +kernel
theorem own_d5_20 : decode prog_8_method_3_code 20 = .ok (.iload_n 2, 1) := by decide +kernel
theorem own_d5_21 : decode prog_8_method_3_code 21 = .ok (.laload, 1) := by decide +kernel
theorem own_d5_22 : decode prog_8_method_3_code 22 = .ok (.ladd, 1) := by decide +kernel
theorem own_d5_23 : decode prog_8_method_3_code 23 = .ok (.lastore, 1) := by decide +kernel
theorem own_d5_24 : decode prog_8_method_3_code 24 = .ok (.iinc 2 1, 3) := by decide +kernel
theorem own_d5_27 : decode prog_8_method_3_code 27 = .ok (.goto (-25), 3) := by decide +kernel
theorem own_d5_0 : decode prog_8_method_3_code 0 = .ok (.iconst 0, 1) := by decide +kernel
theorem own_d5_1 : decode prog_8_method_3_code 1 = .ok (.istore_n 2, 1) := by decide +kernel
theorem own_d6_0 : decode prog_8_method_4_code 0 = .ok (.aload_n 0, 1) := by decide +kernel
theorem own_d6_1 : decode prog_8_method_4_code 1 = .ok (.getfield 26, 3) := by decide +kernel
theorem own_d6_4 : decode prog_8_method_4_code 4 = .ok (.lreturn, 1) := by decide +kernel
theorem own_d8_0 : decode prog_8_method_7_code 0 = .ok (.iload_n 0, 1) := by decide +kernel
theorem own_d8_1 : decode prog_8_method_7_code 1 = .ok (.sipush 1024, 3) := by decide +kernel
theorem own_d8_4 : decode prog_8_method_7_code 4 = .ok (.if_icmp .ge 6, 3) := by decide +kernel
theorem own_d8_10 : decode prog_8_method_7_code 10 = .ok (.iload_n 0, 1) := by decide +kernel
theorem own_d8_11 : decode prog_8_method_7_code 11 = .ok (.sipush 1024, 3) := by decide +kernel
theorem own_d8_14 : decode prog_8_method_7_code 14 = .ok (.isub, 1) := by decide +kernel
theorem own_d8_15 : decode prog_8_method_7_code 15 = .ok (.istore_n 1, 1) := by decide +kernel
theorem own_d8_16 : decode prog_8_method_7_code 16 = .ok (.iload_n 1, 1) := by decide +kernel
theorem own_d8_17 : decode prog_8_method_7_code 17 = .ok (.sipush 512, 3) := by decide +kernel
theorem own_d8_20 : decode prog_8_method_7_code 20 = .ok (.idiv, 1) := by decide +kernel
theorem own_d8_21 : decode prog_8_method_7_code 21 = .ok (.iconst 1, 1) := by decide +kernel
theorem own_d8_22 : decode prog_8_method_7_code 22 = .ok (.iadd, 1) := by decide +kernel
theorem own_d8_23 : decode prog_8_method_7_code 23 = .ok (.istore_n 2, 1) := by decide +kernel
theorem own_d8_24 : decode prog_8_method_7_code 24 = .ok (.iload_n 1, 1) := by decide +kernel
theorem own_d8_25 : decode prog_8_method_7_code 25 = .ok (.sipush 512, 3) := by decide +kernel
theorem own_d8_28 : decode prog_8_method_7_code 28 = .ok (.irem, 1) := by decide +kernel
theorem own_d8_29 : decode prog_8_method_7_code 29 = .ok (.sipush 512, 3) := by decide +kernel
theorem own_d8_32 : decode prog_8_method_7_code 32 = .ok (.iadd, 1) := by decide +kernel
theorem own_d8_33 : decode prog_8_method_7_code 33 = .ok (.i2l, 1) := by decide +kernel
theorem own_d8_34 : decode prog_8_method_7_code 34 = .ok (.iload_n 2, 1) := by decide +kernel
theorem own_d8_35 : decode prog_8_method_7_code 35 = .ok (.lshl, 1) := by decide +kernel
theorem own_d8_36 : decode prog_8_method_7_code 36 = .ok (.lstore_n 3, 1) := by decide +kernel
theorem own_d8_37 : decode prog_8_method_7_code 37 = .ok (.lload_n 3, 1) := by decide +kernel
theorem own_d8_38 : decode prog_8_method_7_code 38 = .ok (.lconst 1, 1) := by decide +kernel
theorem own_d8_39 : decode prog_8_method_7_code 39 = .ok (.iload_n 2, 1) := by decide +kernel
theorem own_d8_40 : decode prog_8_method_7_code 40 = .ok (.lshl, 1) := by decide +kernel
theorem own_d8_41 : decode prog_8_method_7_code 41 = .ok (.lconst 1, 1) := by decide +kernel
theorem own_d8_42 : decode prog_8_method_7_code 42 = .ok (.lsub, 1) := by decide +kernel
theorem own_d8_43 : decode prog_8_method_7_code 43 = .ok (.ldc2_w 48, 3) := by decide +kernel
theorem own_d8_46 : decode prog_8_method_7_code 46 = .ok (.ldiv, 1) := by decide +kernel
theorem own_d8_47 : decode prog_8_method_7_code 47 = .ok (.ladd, 1) := by decide +kernel
theorem own_d8_48 : decode prog_8_method_7_code 48 = .ok (.lreturn, 1) := by decide +kernel
theorem own_d8_7 : decode prog_8_method_7_code 7 = .ok (.iload_n 0, 1) := by decide +kernel
theorem own_d8_8 : decode prog_8_method_7_code 8 = .ok (.i2l, 1) := by decide +kernel
theorem own_d8_9 : decode prog_8_method_7_code 9 = .ok (.lreturn, 1) := by decide +kernel
theorem own_d7_47 : decode prog_8_method_5_code 47 = .ok (.lload 4, 2) := by decide +kernel
theorem own_d7_49 : decode prog_8_method_5_code 49 = .ok (.aload_n 0, 1) := by decide +kernel
theorem own_d7_50 : decode prog_8_method_5_code 50 = .ok (.getfield 9, 3) := by decide +kernel
theorem own_d7_53 : decode prog_8_method_5_code 53 = .ok (.iload 6, 2) := by decide +kernel
theorem own_d7_55 : decode prog_8_method_5_code 55 = .ok (.laload, 1) := by decide +kernel
theorem own_d7_56 : decode prog_8_method_5_code 56 = .ok (.ladd, 1) := by decide +kernel
theorem own_d7_57 : decode prog_8_method_5_code 57 = .ok (.lload_n 2, 1) := by decide +kernel
theorem own_d7_58 : decode prog_8_method_5_code 58 = .ok (.lcmp, 1) := by decide +kernel
theorem own_d7_59 : decode prog_8_method_5_code 59 = .ok (.ifCond .ge 21, 3) := by decide +kernel
theorem own_d7_80 : decode prog_8_method_5_code 80 = .ok (.iload 6, 2) := by decide +kernel
theorem own_d7_82 : decode prog_8_method_5_code 82 = .ok (.invokestatic 37, 3) := by decide +kernel
theorem own_pd5 : parseMethodDescriptor "(I)J" = some ⟨[.int], some .long⟩ := by decide +kernel
theorem own_d7_85 : decode prog_8_method_5_code 85 = .ok (.lreturn, 1) := by decide +kernel
theorem own_d7_62 : decode prog_8_method_5_code 62 = .ok (.lload 4, 2) := by decide +kernel
theorem own_d7_64 : decode prog_8_method_5_code 64 = .ok (.aload_n 0, 1) := by decide +kernel
theorem own_d7_65 : decode prog_8_method_5_code 65 = .ok (.getfield 9, 3) := by decide +kernel
theorem own_d7_68 : decode prog_8_method_5_code 68 = .ok (.iload 6, 2) := by decide +kernel
theorem own_d7_70 : decode prog_8_method_5_code 70 = .ok (.laload, 1) := by decide +kernel
theorem own_d7_71 : decode prog_8_method_5_code 71 = .ok (.ladd, 1) := by decide +kernel
theorem own_d7_72 : decode prog_8_method_5_code 72 = .ok (.lstore 4, 2) := by decide +kernel
theorem own_d7_74 : decode prog_8_method_5_code 74 = .ok (.iinc 6 1, 3) := by decide +kernel
theorem own_d7_77 : decode prog_8_method_5_code 77 = .ok (.goto (-30), 3) := by decide +kernel
theorem own_d7_0 : decode prog_8_method_5_code 0 = .ok (.iload_n 1, 1) := by decide +kernel
theorem own_d7_1 : decode prog_8_method_5_code 1 = .ok (.iconst 1, 1) := by decide +kernel
theorem own_d7_2 : decode prog_8_method_5_code 2 = .ok (.if_icmp .lt 9, 3) := by decide +kernel
theorem own_d7_5 : decode prog_8_method_5_code 5 = .ok (.iload_n 1, 1) := by decide +kernel
theorem own_d7_6 : decode prog_8_method_5_code 6 = .ok (.bipush 100, 2) := by decide +kernel
theorem own_d7_8 : decode prog_8_method_5_code 8 = .ok (.if_icmp .le 17, 3) := by decide +kernel
theorem own_d7_25 : decode prog_8_method_5_code 25 = .ok (.iload_n 1, 1) := by decide +kernel
theorem own_d7_26 : decode prog_8_method_5_code 26 = .ok (.i2l, 1) := by decide +kernel
theorem own_d7_27 : decode prog_8_method_5_code 27 = .ok (.aload_n 0, 1) := by decide +kernel
theorem own_d7_28 : decode prog_8_method_5_code 28 = .ok (.getfield 26, 3) := by decide +kernel
theorem own_d7_31 : decode prog_8_method_5_code 31 = .ok (.lmul, 1) := by decide +kernel
theorem own_d7_32 : decode prog_8_method_5_code 32 = .ok (.ldc2_w 33, 3) := by decide +kernel
theorem own_d7_35 : decode prog_8_method_5_code 35 = .ok (.ladd, 1) := by decide +kernel
theorem own_d7_36 : decode prog_8_method_5_code 36 = .ok (.ldc2_w 35, 3) := by decide +kernel
theorem own_d7_39 : decode prog_8_method_5_code 39 = .ok (.ldiv, 1) := by decide +kernel
theorem own_d7_40 : decode prog_8_method_5_code 40 = .ok (.lstore_n 2, 1) := by decide +kernel
theorem own_d7_41 : decode prog_8_method_5_code 41 = .ok (.lconst 0, 1) := by decide +kernel
theorem own_d7_42 : decode prog_8_method_5_code 42 = .ok (.lstore 4, 2) := by decide +kernel
theorem own_d7_44 : decode prog_8_method_5_code 44 = .ok (.iconst 0, 1) := by decide +kernel
theorem own_d7_45 : decode prog_8_method_5_code 45 = .ok (.istore 6, 2) := by decide +kernel
theorem own_pd6 : parseMethodDescriptor "()V" = some ⟨[], none⟩ := by decide +kernel
theorem own_pd7 : parseMethodDescriptor "(J)V" = some ⟨[.long], none⟩ := by decide +kernel
theorem own_pd8 : parseMethodDescriptor "(Lcom/example/intervale/intervale/bench/Latencies;)V" = some ⟨[(.object "com/example/intervale/intervale/bench/Latencies")], none⟩ := by decide +kernel
theorem own_pd9 : parseMethodDescriptor "()J" = some ⟨[], some .long⟩ := by decide +kernel
theorem own_pn_0 : plainName "com/example/intervale/intervale/bench/LatenciesAddPinLaw" = true := by first | (simp [plainName, overriddenIn]; done) | decide +kernel
set_option maxRecDepth 65536 in
set_option maxHeartbeats 40000000 in
theorem own_rm1 (l : Launch) (Z : State) (a0 : Array Value) (hw : ∀ d ∈ tables_1, d.before a0 Z = true) (a : Addr) (h0 : Heap) (n0 : Nat) (Z0 : n0 ≤ h0.size) (E : Exa Z h0 a "com/example/intervale/intervale/bench/Latencies") (F1 : Fld Z h0 a "com/example/intervale/intervale/bench/Latencies" "counts" "[J" .null) (F2 : Fld Z h0 a "com/example/intervale/intervale/bench/Latencies" "count" "J" (.long 0)) (g_a : n0 ≤ a) :
    OCon l Z n0 (⟨"com/example/intervale/intervale/bench/Latencies", "<init>", "()V"⟩ : MethodName) prog_8_method_1_code 1 none [] ({ frames := 1, cells := 1, slots := 28160, locals := 12 } : Room) #[(.ref a)] h0 (ON fun h => ∃ x, OLA Z n0 h a x [] ∧ Keep h0 h [a] ∧ h0.size ≤ x) := by
  refine OCon.of (Ls := #[.val (.ref a)]) (plainFor_of_name own_pn_1) (fun m => own_entry m rfl) ?_
  intro p e s m below meth c K
  refine OGo.aloadN K (pc' := 1) own_d1_0 rfl rfl rfl ?_
  refine OGo.initO K (pc' := 4) (W := 0) (hw _ (List.mem_of_getElem? (i := 8) rfl)) (hw _ (List.mem_of_getElem? (i := 9) rfl)) (hw _ (List.mem_of_getElem? (i := 10) rfl)) own_d1_1 rfl rfl (by show 2 * 0 + _ ≤ _; exact Nat.le_of_eq rfl) (by decide) (by decide) ?_
  refine OGo.aloadN K (pc' := 5) own_d1_4 rfl rfl rfl ?_
  refine OGo.sipush K (pc' := 8) (z := 28160) own_d1_5 rfl rfl ?_
  refine OGo.newP K (pc' := 10) (cap := 28160) (cells' := 1) (slots' := 28160) (hw _ (List.mem_of_getElem? (i := 11) rfl)) own_d1_8 rfl (by decide) (by decide) (by decide) rfl rfl (by decide) (by decide) ?_
  intro h1 x k_x g1 E1 V_x
  have ne_a_x : a ≠ x := Nat.ne_of_lt (Nat.lt_of_lt_of_le E.lt (Nat.le_of_eq g1.symm))
  have g_x : n0 ≤ x := Nat.le_trans Z0 (Nat.le_of_eq g1.symm)
  have sz_x : h0.size ≤ x := Nat.le_trans (Keep.refl h0 [a]).1 (Nat.le_of_eq g1.symm)
  have Z1 : n0 ≤ h1.size := Nat.le_trans Z0 E1.1
  have Kp1 : Keep h0 h1 [a] := (Keep.refl h0 [a]).ext E1
  have E_1 := E.ext E1
  have F1_1 := F1.ext E1
  have F2_1 := F2.ext E1
  refine OGo.putF K (pc' := 13) (host := "") (Or.inl (hw _ (List.mem_of_getElem? (i := 12) rfl))) Via.refl F1_1 E_1 (Or.inr ⟨(hw _ (List.mem_of_getElem? (i := 13) rfl)), rfl, rfl⟩) (hw _ (List.mem_of_getElem? (i := 3) rfl)) (ty := (.array .long)) (by decide) rfl rfl g_a own_d1_10 rfl ?_
  intro h2 W2
  have Z2 : n0 ≤ h2.size := by rw [W2.size]; exact Z1
  have Fw_counts_a_2 := F1_1.same W2
  have E_2 := E_1.wr W2
  have F2_2 := F2_1.other W2 (Or.inr (slot_ne (Or.inl (hw _ (List.mem_of_getElem? (i := 24) rfl))) (Or.inr (hw _ (List.mem_of_getElem? (i := 13) rfl))) (by decide) (t := .long) (t' := (.array .long)) (by decide) (by decide)))
  have V_x_2 := V_x.other W2 (Ne.symm ne_a_x)
  have Kp2 : Keep h0 h2 [a] := Kp1.wr W2 (Or.inl (List.mem_of_getElem? (i := 0) rfl))
  exact OGo.vret K own_d1_13 (by decide) (by decide) ⟨rfl, x, ⟨E_2, Fw_counts_a_2, F2_2, ⟨_, _, V_x_2.pad (pad_rep [] _ 28160), own_len _, fun i _ => own_zero i⟩, ne_a_x, g_a, g_x, fun b hb => absurd hb List.not_mem_nil⟩, Kp2, sz_x⟩
set_option maxRecDepth 65536 in
set_option maxHeartbeats 40000000 in
theorem own_nlz32 (l : Launch) (Z : State) (a0 : Array Value) (hw : ∀ d ∈ tables_1, d.before a0 Z = true) (i : Int32) (X : Nat) (h0 : Heap) (n0 : Nat) (Z0 : n0 ≤ h0.size) (hi : ¬ i = 0) (hX : i.toInt % 4294967296 = X) :
    OCon l Z n0 (⟨"java/lang/Integer", "numberOfLeadingZeros", "(I)I"⟩ : MethodName) jdk_33_method_47_code 2 (some .int) [] ({ frames := 0, cells := 0, slots := 0, locals := 0 } : Room) #[(.int i)] h0 (OV fun w h => h = h0 ∧ ∃ L : Nat, w = .int (Int32.ofNat (31 - L)) ∧ L ≤ 31 ∧ 2 ^ L ≤ X ∧ X < 2 ^ (L + 1)) := by
  refine OCon.of (Ls := #[.val (.int i), .unset]) (plainFor_of_name own_pn_10) (fun m => own_entry m rfl) ?_
  intro p e s m below meth c K
  have J73 : ∀ (n i' : Int32) (k : Nat), n.toInt = 31 - (k : Int) → i'.toInt = ((X / 2 ^ k : Nat) : Int) → 0 < i'.toInt → i'.toInt < 4 → k ≤ 30 → OGo p l e ({ frames := 0, cells := 0, slots := 0, locals := 0 } : Room) s m #[(.int i)] below meth c n0 (OV fun w h => h = h0 ∧ ∃ L : Nat, w = .int (Int32.ofNat (31 - L)) ∧ L ≤ 31 ∧ 2 ^ L ≤ X ∧ X < 2 ^ (L + 1)) h0 0 0 73 #[.val (.int i'), .val (.int n)] [] := by
    intro n i' k g1 g2 g3 g4 g5
    refine OGo.iloadN K (pc' := 74) own_d10_73 rfl rfl ?_
    refine OGo.iloadN K (pc' := 75) own_d10_74 rfl rfl ?_
    refine OGo.iconst K (pc' := 76) (z := 1) own_d10_75 rfl rfl ?_
    refine OGo.iushr K (pc' := 77) own_d10_76 rfl ?_
    refine OGo.isub K (pc' := 78) own_d10_77 rfl ?_
    exact OGo.iret K own_d10_78 (by decide) (by decide) ⟨_, rfl, rfl, own_nlz_fin g1 g2 g3 g4 g5⟩
  have J61 : ∀ (n i' : Int32) (k : Nat), n.toInt = 31 - (k : Int) → i'.toInt = ((X / 2 ^ k : Nat) : Int) → 0 < i'.toInt → i'.toInt < 16 → k ≤ 28 → OGo p l e ({ frames := 0, cells := 0, slots := 0, locals := 0 } : Room) s m #[(.int i)] below meth c n0 (OV fun w h => h = h0 ∧ ∃ L : Nat, w = .int (Int32.ofNat (31 - L)) ∧ L ≤ 31 ∧ 2 ^ L ≤ X ∧ X < 2 ^ (L + 1)) h0 0 0 61 #[.val (.int i'), .val (.int n)] [] := by
    intro n i' k g1 g2 g3 g4 g5
    refine OGo.iloadN K (pc' := 62) own_d10_61 rfl rfl ?_
    refine OGo.iconst K (pc' := 63) (z := 4) own_d10_62 rfl rfl ?_
    refine OGo.icmpLt K (pc' := 66) (pcY := 73) own_d10_63 rfl (by decide) rfl (fun hc => ?_) (fun hc => ?_)
    · skip
      exact J73 n i' k g1 g2 g3 (by rw [Int32.lt_iff_toInt_lt, show (4 : Int32).toInt = 4 from rfl] at hc; exact hc) (by omega)
    · skip
      rw [Int32.lt_iff_toInt_lt, show (4 : Int32).toInt = 4 from rfl] at hc
      obtain ⟨f1, f2, f3⟩ := own_nlz_step (ns := (-2 : Int32)) (q := 2) 2 rfl rfl (by decide) g1 g2 (by omega)
      rw [show ((2 ^ 2 : Nat) : Int) = 4 from rfl] at f3
      refine OGo.iinc K (pc' := 69) (z := (-2)) (Ls' := #[.val (.int i'), .val (.int (n + (-2 : Int32)))]) own_d10_66 rfl rfl rfl rfl ?_
      refine OGo.iloadN K (pc' := 70) own_d10_69 rfl rfl ?_
      refine OGo.iconst K (pc' := 71) (z := 2) own_d10_70 rfl rfl ?_
      refine OGo.iushr K (pc' := 72) own_d10_71 rfl ?_
      refine OGo.istoreN K (pc' := 73) (Ls' := #[.val (.int (ushr i' (2 : Int32))), .val (.int (n + (-2 : Int32)))]) own_d10_72 rfl rfl ?_
      exact J73 _ _ (k + 2) f1 f2 (by omega) (by omega) (by omega)
  have J48 : ∀ (n i' : Int32) (k : Nat), n.toInt = 31 - (k : Int) → i'.toInt = ((X / 2 ^ k : Nat) : Int) → 0 < i'.toInt → i'.toInt < 256 → k ≤ 24 → OGo p l e ({ frames := 0, cells := 0, slots := 0, locals := 0 } : Room) s m #[(.int i)] below meth c n0 (OV fun w h => h = h0 ∧ ∃ L : Nat, w = .int (Int32.ofNat (31 - L)) ∧ L ≤ 31 ∧ 2 ^ L ≤ X ∧ X < 2 ^ (L + 1)) h0 0 0 48 #[.val (.int i'), .val (.int n)] [] := by
    intro n i' k g1 g2 g3 g4 g5
    refine OGo.iloadN K (pc' := 49) own_d10_48 rfl rfl ?_
    refine OGo.bipush K (pc' := 51) (z := 16) own_d10_49 rfl rfl ?_
    refine OGo.icmpLt K (pc' := 54) (pcY := 61) own_d10_51 rfl (by decide) rfl (fun hc => ?_) (fun hc => ?_)
    · skip
      exact J61 n i' k g1 g2 g3 (by rw [Int32.lt_iff_toInt_lt, show (16 : Int32).toInt = 16 from rfl] at hc; exact hc) (by omega)
    · skip
      rw [Int32.lt_iff_toInt_lt, show (16 : Int32).toInt = 16 from rfl] at hc
      obtain ⟨f1, f2, f3⟩ := own_nlz_step (ns := (-4 : Int32)) (q := 4) 4 rfl rfl (by decide) g1 g2 (by omega)
      rw [show ((2 ^ 4 : Nat) : Int) = 16 from rfl] at f3
      refine OGo.iinc K (pc' := 57) (z := (-4)) (Ls' := #[.val (.int i'), .val (.int (n + (-4 : Int32)))]) own_d10_54 rfl rfl rfl rfl ?_
      refine OGo.iloadN K (pc' := 58) own_d10_57 rfl rfl ?_
      refine OGo.iconst K (pc' := 59) (z := 4) own_d10_58 rfl rfl ?_
      refine OGo.iushr K (pc' := 60) own_d10_59 rfl ?_
      refine OGo.istoreN K (pc' := 61) (Ls' := #[.val (.int (ushr i' (4 : Int32))), .val (.int (n + (-4 : Int32)))]) own_d10_60 rfl rfl ?_
      exact J61 _ _ (k + 4) f1 f2 (by omega) (by omega) (by omega)
  have J33 : ∀ (n i' : Int32) (k : Nat), n.toInt = 31 - (k : Int) → i'.toInt = ((X / 2 ^ k : Nat) : Int) → 0 < i'.toInt → i'.toInt < 65536 → k ≤ 16 → OGo p l e ({ frames := 0, cells := 0, slots := 0, locals := 0 } : Room) s m #[(.int i)] below meth c n0 (OV fun w h => h = h0 ∧ ∃ L : Nat, w = .int (Int32.ofNat (31 - L)) ∧ L ≤ 31 ∧ 2 ^ L ≤ X ∧ X < 2 ^ (L + 1)) h0 0 0 33 #[.val (.int i'), .val (.int n)] [] := by
    intro n i' k g1 g2 g3 g4 g5
    refine OGo.iloadN K (pc' := 34) own_d10_33 rfl rfl ?_
    refine OGo.sipush K (pc' := 37) (z := 256) own_d10_34 rfl rfl ?_
    refine OGo.icmpLt K (pc' := 40) (pcY := 48) own_d10_37 rfl (by decide) rfl (fun hc => ?_) (fun hc => ?_)
    · skip
      exact J48 n i' k g1 g2 g3 (by rw [Int32.lt_iff_toInt_lt, show (256 : Int32).toInt = 256 from rfl] at hc; exact hc) (by omega)
    · skip
      rw [Int32.lt_iff_toInt_lt, show (256 : Int32).toInt = 256 from rfl] at hc
      obtain ⟨f1, f2, f3⟩ := own_nlz_step (ns := (-8 : Int32)) (q := 8) 8 rfl rfl (by decide) g1 g2 (by omega)
      rw [show ((2 ^ 8 : Nat) : Int) = 256 from rfl] at f3
      refine OGo.iinc K (pc' := 43) (z := (-8)) (Ls' := #[.val (.int i'), .val (.int (n + (-8 : Int32)))]) own_d10_40 rfl rfl rfl rfl ?_
      refine OGo.iloadN K (pc' := 44) own_d10_43 rfl rfl ?_
      refine OGo.bipush K (pc' := 46) (z := 8) own_d10_44 rfl rfl ?_
      refine OGo.iushr K (pc' := 47) own_d10_46 rfl ?_
      refine OGo.istoreN K (pc' := 48) (Ls' := #[.val (.int (ushr i' (8 : Int32))), .val (.int (n + (-8 : Int32)))]) own_d10_47 rfl rfl ?_
      exact J48 _ _ (k + 8) f1 f2 (by omega) (by omega) (by omega)
  refine OGo.iloadN K (pc' := 1) own_d10_0 rfl rfl ?_
  refine OGo.ifGt K (pc' := 4) (pcY := 15) own_d10_1 rfl (by decide) rfl (fun hp => ?_) (fun hp => ?_)
  · skip
    rw [Int32.lt_iff_toInt_lt, show (0 : Int32).toInt = 0 from rfl] at hp
    have r := rng32 i
    have eX : i.toInt = ((X / 2 ^ 0 : Nat) : Int) := by rw [Nat.pow_zero, Nat.div_one]; omega
    refine OGo.bipush K (pc' := 17) (z := 31) own_d10_15 rfl rfl ?_
    refine OGo.istoreN K (pc' := 18) (Ls' := #[.val (.int i), .val (.int (31 : Int32))]) own_d10_17 rfl rfl ?_
    refine OGo.iloadN K (pc' := 19) own_d10_18 rfl rfl ?_
    refine OGo.ldcwI K (pc' := 22) (v := 65536) (hw _ (List.mem_of_getElem? (i := 53) rfl)) own_d10_19 rfl ?_
    refine OGo.icmpLt K (pc' := 25) (pcY := 33) own_d10_22 rfl (by decide) rfl (fun hc => ?_) (fun hc => ?_)
    · skip
      exact J33 _ i 0 rfl eX hp (by rw [Int32.lt_iff_toInt_lt, show (65536 : Int32).toInt = 65536 from rfl] at hc; exact hc) (by decide)
    · skip
      rw [Int32.lt_iff_toInt_lt, show (65536 : Int32).toInt = 65536 from rfl] at hc
      obtain ⟨f1, f2, f3⟩ := own_nlz_step (n := 31) (ns := (-16 : Int32)) (q := 16) 16 rfl rfl (by decide) rfl eX (by decide)
      rw [show ((2 ^ 16 : Nat) : Int) = 65536 from rfl] at f3
      refine OGo.iinc K (pc' := 28) (z := (-16)) (Ls' := #[.val (.int i), .val (.int ((31 : Int32) + (-16 : Int32)))]) own_d10_25 rfl rfl rfl rfl ?_
      refine OGo.iloadN K (pc' := 29) own_d10_28 rfl rfl ?_
      refine OGo.bipush K (pc' := 31) (z := 16) own_d10_29 rfl rfl ?_
      refine OGo.iushr K (pc' := 32) own_d10_31 rfl ?_
      refine OGo.istoreN K (pc' := 33) (Ls' := #[.val (.int (ushr i (16 : Int32))), .val (.int ((31 : Int32) + (-16 : Int32)))]) own_d10_32 rfl rfl ?_
      exact J33 _ _ (0 + 16) f1 f2 (by omega) (by omega) (by decide)
  · skip
    rw [Int32.lt_iff_toInt_lt, show (0 : Int32).toInt = 0 from rfl] at hp
    refine OGo.iloadN K (pc' := 5) own_d10_4 rfl rfl ?_
    refine OGo.ifNe K (pc' := 8) (pcY := 13) own_d10_5 rfl (by decide) rfl (fun hc5 => ?_) (fun hc5 => absurd hc5 (hi : ¬ i = (0 : Int32)))
    refine OGo.iconst K (pc' := 14) (z := 0) own_d10_13 rfl rfl ?_
    have hne : i.toInt ≠ 0 := fun q => hi (Int32.toInt_inj.mp q)
    have r := rng32 i
    exact OGo.iret K own_d10_14 (by decide) (by decide) ⟨_, rfl, rfl, 31, rfl, by decide, by omega, by omega⟩
set_option maxRecDepth 65536 in
set_option maxHeartbeats 40000000 in
theorem own_nlz64 (l : Launch) (Z : State) (a0 : Array Value) (hw : ∀ d ∈ tables_1, d.before a0 Z = true) (v : Int64) (V : Nat) (h0 : Heap) (n0 : Nat) (Z0 : n0 ≤ h0.size) (hV : v.toInt = V) (hp : 0 < V) :
    OCon l Z n0 (⟨"java/lang/Long", "numberOfLeadingZeros", "(J)I"⟩ : MethodName) jdk_35_method_48_code 3 (some .int) [] ({ frames := 1, cells := 0, slots := 0, locals := 14 } : Room) #[(.long v)] h0 (OV fun w h => h = h0 ∧ ∃ L : Nat, w = .int (Int32.ofNat (63 - L)) ∧ L ≤ 62 ∧ 2 ^ L ≤ V ∧ V < 2 ^ (L + 1)) := by
  refine OCon.of (Ls := #[.val (.long v), .second, .unset]) (plainFor_of_name own_pn_9) (fun m => own_entry m rfl) ?_
  intro p e s m below meth c K
  have eh := own_hi hV
  have rv := rng64 v
  refine OGo.lloadN K (pc' := 1) own_d9_0 rfl rfl ?_
  refine OGo.bipush K (pc' := 3) (z := 32) own_d9_1 rfl rfl ?_
  refine OGo.lushr K (pc' := 4) own_d9_3 rfl ?_
  refine OGo.l2i K (pc' := 5) own_d9_4 rfl ?_
  refine OGo.istoreN K (pc' := 6) (Ls' := #[.val (.long v), .second, .val (.int ((ushrL v (32 : Int32)).toInt32))]) own_d9_5 rfl rfl ?_
  refine OGo.iloadN K (pc' := 7) own_d9_6 rfl rfl ?_
  refine OGo.ifNe K (pc' := 10) (pcY := 21) own_d9_7 rfl (by decide) rfl (fun hc => ?_) (fun hc => ?_)
  · skip
    refine OGo.iloadN K (pc' := 22) own_d9_21 rfl rfl ?_
    refine OGo.callSV K (pc' := 25) (y := (⟨"java/lang/Integer", "numberOfLeadingZeros", "(I)I"⟩ : MethodName)) (W := 0) (cells' := 0) (slots' := 0) (argsL := [(.int ((ushrL v (32 : Int32)).toInt32))]) (st := []) (hw _ (List.mem_of_getElem? (i := 49) rfl)) (hw _ (List.mem_of_getElem? (i := 50) rfl)) (hw _ (List.mem_of_getElem? (i := 51) rfl)) (hw _ (List.mem_of_getElem? (i := 52) rfl)) (by decide) (own_nlz32 l Z a0 hw ((ushrL v (32 : Int32)).toInt32) (V / 4294967296) h0 n0 Z0 hc (by omega)) own_d9_22 rfl rfl (lenOf own_pd2 rfl) (by show 2 * 0 + _ ≤ _; exact Nat.le_of_eq rfl) (by decide) (by decide) rfl rfl (by decide) (by decide) ?_
    rintro _ h1 ⟨e1, L, rfl, q1, q2, q3⟩
    rw [e1]
    show OGo p l e _ s m _ below meth c n0 _ h0 0 0 25 #[.val (.long v), .second, .val (.int ((ushrL v (32 : Int32)).toInt32))] [(.int (Int32.ofNat (31 - L)))]
    have d := Nat.div_add_mod V 4294967296
    have m := Nat.mod_lt V (show 0 < 4294967296 by decide)
    have p1 : 2 ^ (L + 32) = 4294967296 * 2 ^ L := by rw [Nat.pow_add, Nat.mul_comm]
    have p2 : 2 ^ (L + 1) = 2 * 2 ^ L := by rw [Nat.pow_succ, Nat.mul_comm]
    have p3 : 2 ^ (L + 32 + 1) = 8589934592 * 2 ^ L := by rw [Nat.pow_succ, p1]; omega
    have hL : L ≤ 30 := by
      apply Nat.le_of_not_lt; intro q
      have := Nat.pow_le_pow_right (show 0 < 2 by decide) (show 31 ≤ L from q)
      rw [show 2 ^ 31 = 2147483648 from rfl] at this; omega
    exact OGo.iret K own_d9_25 (by decide) (by decide) ⟨_, rfl, rfl, L + 32, by rw [show 63 - (L + 32) = 31 - L by omega], by omega, by rw [p1]; omega, by rw [p3]; omega⟩
  · skip
    have hlt : V < 4294967296 := by rw [hc, show (0 : Int32).toInt = 0 from rfl] at eh; omega
    refine OGo.bipush K (pc' := 12) (z := 32) own_d9_10 rfl rfl ?_
    refine OGo.lloadN K (pc' := 13) own_d9_12 rfl rfl ?_
    refine OGo.l2i K (pc' := 14) own_d9_13 rfl ?_
    refine OGo.callSV K (pc' := 17) (y := (⟨"java/lang/Integer", "numberOfLeadingZeros", "(I)I"⟩ : MethodName)) (W := 1) (cells' := 0) (slots' := 0) (argsL := [(.int (v.toInt32))]) (st := [(.int (32 : Int32))]) (hw _ (List.mem_of_getElem? (i := 49) rfl)) (hw _ (List.mem_of_getElem? (i := 50) rfl)) (hw _ (List.mem_of_getElem? (i := 51) rfl)) (hw _ (List.mem_of_getElem? (i := 52) rfl)) (by decide) (own_nlz32 l Z a0 hw v.toInt32 V h0 n0 Z0 (fun q => by have := own_lo hV hlt; rw [q, show (0 : Int32).toInt = 0 from rfl] at this; omega) (own_lo hV hlt)) own_d9_14 rfl rfl (lenOf own_pd2 rfl) (by show 2 * 0 + _ ≤ _; exact Nat.le_of_eq rfl) (by decide) (by decide) rfl rfl (by decide) (by decide) ?_
    rintro _ h2 ⟨e2, L, rfl, q1, q2, q3⟩
    rw [e2]
    show OGo p l e _ s m _ below meth c n0 _ h0 0 0 17 #[.val (.long v), .second, .val (.int ((ushrL v (32 : Int32)).toInt32))] [(.int (Int32.ofNat (31 - L))), (.int (32 : Int32))]
    refine OGo.iadd K (pc' := 18) own_d9_17 rfl ?_
    refine OGo.goto K (pc' := 25) own_d9_18 (by decide) rfl ?_
    exact OGo.iret K own_d9_25 (by decide) (by decide) ⟨_, rfl, rfl, L, by rw [show (32 : Int32) = Int32.ofNat 32 from rfl, own_ofn (by omega), show 32 + (31 - L) = 63 - L by omega], by omega, q2, q3⟩
set_option maxRecDepth 65536 in
set_option maxHeartbeats 40000000 in
theorem own_rm4 (l : Launch) (Z : State) (a0 : Array Value) (hw : ∀ d ∈ tables_1, d.before a0 Z = true) (v : Int64) (V : Nat) (h0 : Heap) (n0 : Nat) (Z0 : n0 ≤ h0.size) (hV : v.toInt = V) :
    OCon l Z n0 (⟨"com/example/intervale/intervale/bench/Latencies", "bucket", "(J)I"⟩ : MethodName) prog_8_method_6_code 3 (some .int) [] ({ frames := 2, cells := 0, slots := 0, locals := 29 } : Room) #[(.long v)] h0 (OV fun w h => w = .int (Int32.ofNat (own_bkt V (own_lg V))) ∧ own_bkt V (own_lg V) < 28160 ∧ h = h0) := by
  refine OCon.of (Ls := #[.val (.long v), .second, .unset]) (plainFor_of_name own_pn_1) (fun m => own_entry m rfl) ?_
  intro p e s m below meth c K
  refine OGo.lloadN K (pc' := 1) own_d4_0 rfl rfl ?_
  refine OGo.ldcJ K (pc' := 4) (v := 1024) (hw _ (List.mem_of_getElem? (i := 22) rfl)) own_d4_1 rfl ?_
  refine OGo.lcmpGe K (pc' := 8) (pcY := 11) own_d4_4 rfl own_d4_5 rfl (by decide) rfl (fun hc => ?_) (fun hc => ?_)
  · skip
    rw [Int64.lt_iff_toInt_lt, show (1024 : Int64).toInt = 1024 from rfl] at hc
    refine OGo.bipush K (pc' := 13) (z := 63) own_d4_11 rfl rfl ?_
    refine OGo.lloadN K (pc' := 14) own_d4_13 rfl rfl ?_
    refine OGo.callSV K (pc' := 17) (y := (⟨"java/lang/Long", "numberOfLeadingZeros", "(J)I"⟩ : MethodName)) (W := 1) (cells' := 0) (slots' := 0) (argsL := [(.long v)]) (st := [(.int (63 : Int32))]) (hw _ (List.mem_of_getElem? (i := 45) rfl)) (hw _ (List.mem_of_getElem? (i := 46) rfl)) (hw _ (List.mem_of_getElem? (i := 47) rfl)) (hw _ (List.mem_of_getElem? (i := 48) rfl)) (by decide) (own_nlz64 l Z a0 hw v V h0 n0 Z0 hV (by omega)) own_d4_14 rfl rfl (lenOf own_pd4 rfl) (by show 2 * 0 + _ ≤ _; exact Nat.le_of_eq rfl) (by decide) (by decide) rfl rfl (by decide) (by decide) ?_
    rintro _ h1 ⟨e1, L, rfl, q1, q2, q3⟩
    rw [e1]
    show OGo p l e _ s m _ below meth c n0 _ h0 0 0 17 #[.val (.long v), .second, .unset] [(.int (Int32.ofNat (63 - L))), (.int (63 : Int32))]
    refine OGo.isub K (pc' := 18) own_d4_17 rfl ?_
    refine OGo.bipush K (pc' := 20) (z := 9) own_d4_18 rfl rfl ?_
    refine OGo.isub K (pc' := 21) own_d4_20 rfl ?_
    refine OGo.istoreN K (pc' := 22) (Ls' := #[.val (.long v), .second, .val (.int (((63 : Int32) - (Int32.ofNat (63 - L))) - (9 : Int32)))]) own_d4_21 rfl rfl ?_
    refine OGo.sipush K (pc' := 25) (z := 1024) own_d4_22 rfl rfl ?_
    refine OGo.iloadN K (pc' := 26) own_d4_25 rfl rfl ?_
    refine OGo.iconst K (pc' := 27) (z := 1) own_d4_26 rfl rfl ?_
    refine OGo.isub K (pc' := 28) own_d4_27 rfl ?_
    refine OGo.sipush K (pc' := 31) (z := 512) own_d4_28 rfl rfl ?_
    refine OGo.imul K (pc' := 32) own_d4_31 rfl ?_
    refine OGo.iadd K (pc' := 33) own_d4_32 rfl ?_
    refine OGo.lloadN K (pc' := 34) own_d4_33 rfl rfl ?_
    refine OGo.iloadN K (pc' := 35) own_d4_34 rfl rfl ?_
    refine OGo.lushr K (pc' := 36) own_d4_35 rfl ?_
    refine OGo.l2i K (pc' := 37) own_d4_36 rfl ?_
    refine OGo.iadd K (pc' := 38) own_d4_37 rfl ?_
    refine OGo.sipush K (pc' := 41) (z := 512) own_d4_38 rfl rfl ?_
    refine OGo.isub K (pc' := 42) own_d4_41 rfl ?_
    rw [own_lg_of q2 q3]
    obtain ⟨e1, e2⟩ := own_bval hV (by omega) q1 q2 q3
    exact OGo.iret K own_d4_42 (by decide) (by decide) ⟨_, rfl, congrArg Value.int e1, e2, rfl⟩
  · skip
    rw [Int64.lt_iff_toInt_lt, show (1024 : Int64).toInt = 1024 from rfl] at hc
    have hb : own_bkt V (own_lg V) = V := by rw [own_bkt, if_pos (by omega)]
    have r := rng64 v
    refine OGo.lloadN K (pc' := 9) own_d4_8 rfl rfl ?_
    refine OGo.l2i K (pc' := 10) own_d4_9 rfl ?_
    rw [hb]
    have e1 : v.toInt32 = Int32.ofNat V := by
      apply Int32.toInt_inj.mp
      have c := c_l2i v
      have r := rng32 v.toInt32
      rw [toInt_of (n := Int32.ofNat V) rfl (by omega)]; omega
    exact OGo.iret K own_d4_10 (by decide) (by decide) ⟨_, rfl, congrArg Value.int e1, by omega, rfl⟩
set_option maxRecDepth 65536 in
set_option maxHeartbeats 40000000 in
theorem own_rm3 (l : Launch) (Z : State) (a0 : Array Value) (hw : ∀ d ∈ tables_1, d.before a0 Z = true) (a x : Addr) (v : Int64) (V : Nat) (bs : List Nat) (h0 : Heap) (n0 : Nat) (Z0 : n0 ≤ h0.size) (hV : v.toInt = V) (A : OLA Z n0 h0 a x bs) (hn : bs.length < 1000) :
    OCon l Z n0 (⟨"com/example/intervale/intervale/bench/Latencies", "record", "(J)V"⟩ : MethodName) prog_8_method_2_code 3 none [] ({ frames := 3, cells := 0, slots := 0, locals := 44 } : Room) #[(.ref a), (.long v)] h0 (ON fun h => OLA Z n0 h a x (own_bkt V (own_lg V) :: bs) ∧ Keep h0 h [a, x]) := by
  refine OCon.of (Ls := #[.val (.ref a), .val (.long v), .second]) (plainFor_of_name own_pn_1) (fun m => own_entry m rfl) ?_
  intro p e s m below meth c K
  obtain ⟨E, F1, F2, ⟨k, vs, Vx, lx, Hx⟩, ne1, g_a, g_x, hb⟩ := A
  refine OGo.lloadN K (pc' := 1) own_d3_0 rfl rfl ?_
  refine OGo.lconst K (pc' := 2) (z := 0) own_d3_1 rfl rfl ?_
  refine OGo.lcmpGe K (pc' := 6) (pcY := 20) own_d3_2 rfl own_d3_3 rfl (by decide) rfl (fun hc2 => ?_) (fun hc2 => absurd hc2 (by rw [Int64.lt_iff_toInt_lt, show (0 : Int64).toInt = 0 from rfl]; omega : ¬ v < (0 : Int64)))
  refine OGo.aloadN K (pc' := 21) own_d3_20 rfl rfl rfl ?_
  refine OGo.getF K (pc' := 24) (host := "") (Or.inl (hw _ (List.mem_of_getElem? (i := 12) rfl))) Via.refl F1 own_d3_21 rfl ?_
  refine OGo.lloadN K (pc' := 25) own_d3_24 rfl rfl ?_
  refine OGo.callSV K (pc' := 28) (y := (⟨"com/example/intervale/intervale/bench/Latencies", "bucket", "(J)I"⟩ : MethodName)) (W := 1) (cells' := 0) (slots' := 0) (argsL := [(.long v)]) (st := [(.ref x)]) (hw _ (List.mem_of_getElem? (i := 19) rfl)) (hw _ (List.mem_of_getElem? (i := 20) rfl)) (hw _ (List.mem_of_getElem? (i := 4) rfl)) (hw _ (List.mem_of_getElem? (i := 21) rfl)) (by decide) (own_rm4 l Z a0 hw v V h0 n0 Z0 hV) own_d3_25 rfl rfl (lenOf own_pd4 rfl) (by show 2 * 0 + _ ≤ _; exact Nat.le_of_eq rfl) (by decide) (by decide) rfl rfl (by decide) (by decide) ?_
  rintro _ h1 ⟨rfl, q, e1⟩
  rw [e1]
  show OGo p l e _ s m _ below meth c n0 _ h0 0 0 28 #[.val (.ref a), .val (.long v), .second] [(.int (Int32.ofNat (own_bkt V (own_lg V)))), (.ref x)]
  generalize own_bkt V (own_lg V) = B at q ⊢
  obtain ⟨i1, i2, i3⟩ := own_i28 q
  refine OGo.dup2 K (pc' := 29) own_d3_28 rfl rfl rfl ?_
  refine OGo.laload K (pc' := 30) (v := (.long (Int64.ofNat (bs.count B)))) Vx ⟨i1, i2⟩ (by rw [i3]; exact Hx B q) own_d3_29 rfl ?_
  refine OGo.lconst K (pc' := 31) (z := 1) own_d3_30 rfl rfl ?_
  refine OGo.ladd K (pc' := 32) own_d3_31 rfl ?_
  refine OGo.lastore K (pc' := 33) (i := B) Vx ⟨i1, i2⟩ i3 (by rw [lx]; exact q) g_x own_d3_32 rfl ?_
  intro h2 W2 Vx_2
  have Z2 : n0 ≤ h2.size := by rw [W2.size]; exact Z0
  have E_2 := E.wr W2
  have F1_2 := F1.other W2 (Or.inl ne1)
  have F2_2 := F2.other W2 (Or.inl ne1)
  have Kp2 : Keep h0 h2 [a, x] := (Keep.refl h0 [a, x]).wr W2 (Or.inl (List.mem_of_getElem? (i := 1) rfl))
  refine OGo.aloadN K (pc' := 34) own_d3_33 rfl rfl rfl ?_
  refine OGo.dup K (pc' := 35) own_d3_34 rfl rfl ?_
  refine OGo.getF K (pc' := 38) (host := "") (Or.inl (hw _ (List.mem_of_getElem? (i := 23) rfl))) Via.refl F2_2 own_d3_35 rfl ?_
  refine OGo.lconst K (pc' := 39) (z := 1) own_d3_38 rfl rfl ?_
  refine OGo.ladd K (pc' := 40) own_d3_39 rfl ?_
  refine OGo.putF K (pc' := 43) (host := "") (Or.inl (hw _ (List.mem_of_getElem? (i := 23) rfl))) Via.refl F2_2 E_2 (Or.inl (hw _ (List.mem_of_getElem? (i := 24) rfl))) (hw _ (List.mem_of_getElem? (i := 3) rfl)) (ty := .long) (by decide) rfl rfl g_a own_d3_40 rfl ?_
  intro h3 W3
  have Z3 : n0 ≤ h3.size := by rw [W3.size]; exact Z2
  have Fw_count_a_3 := F2_2.same W3
  have E_3 := E_2.wr W3
  have F1_3 := F1_2.other W3 (Or.inr (slot_ne (Or.inr (hw _ (List.mem_of_getElem? (i := 13) rfl))) (Or.inl (hw _ (List.mem_of_getElem? (i := 24) rfl))) (by decide) (t := (.array .long)) (t' := .long) (by decide) (by decide)))
  have Vx_3 := Vx_2.other W3 (Ne.symm ne1)
  have Kp3 : Keep h0 h3 [a, x] := Kp2.wr W3 (Or.inl (List.mem_of_getElem? (i := 0) rfl))
  exact OGo.vret K own_d3_43 (by decide) (by decide) ⟨rfl, ⟨E_3, F1_3, (by rw [List.length_cons, ← own_o64 _ _ (by omega)]; exact Fw_count_a_3), ⟨_, _, Vx_3, by rw [List.length_set]; exact lx, own_rec lx q hn Hx⟩, ne1, g_a, g_x, fun b hb' => (List.mem_cons.mp hb').elim (fun e => e ▸ q) (hb b)⟩, Kp3⟩
set_option maxRecDepth 65536 in
set_option maxHeartbeats 40000000 in
theorem own_rm5 (l : Launch) (Z : State) (a0 : Array Value) (hw : ∀ d ∈ tables_1, d.before a0 Z = true) (a x b y : Addr) (as bs : List Nat) (h0 : Heap) (n0 : Nat) (Z0 : n0 ≤ h0.size) (A : OLA Z n0 h0 a x as) (B : OLA Z n0 h0 b y bs) (hn : as.length + bs.length < 1000) (nab : a ≠ b) (nay : a ≠ y) (nxb : x ≠ b) (nxy : x ≠ y) :
    OCon l Z n0 (⟨"com/example/intervale/intervale/bench/Latencies", "add", "(Lcom/example/intervale/intervale/bench/Latencies;)V"⟩ : MethodName) prog_8_method_3_code 3 none [] ({ frames := 0, cells := 0, slots := 0, locals := 0 } : Room) #[(.ref a), (.ref b)] h0 (ON fun h => OLA Z n0 h a x (as ++ bs) ∧ Keep h0 h [a, x]) := by
  refine OCon.of (Ls := #[.val (.ref a), .val (.ref b), .unset]) (plainFor_of_name own_pn_1) (fun m => own_entry m rfl) ?_
  intro p e s m below meth c K
  obtain ⟨E, F1, F2, ⟨k, vs, Vx, lx, Hx⟩, ne1, g_a, g_x, hb⟩ := A
  obtain ⟨E', G1, G2, ⟨k', us, Vy, ly, Hy⟩, ne2, g_b, g_y, hb'⟩ := B
  have loop : ∀ (d i : Nat) (h : Heap) (vs : List Value) (Zh : n0 ≤ h.size) (hi : i + d = 28160) (P : Exa Z h a "com/example/intervale/intervale/bench/Latencies" ∧ Fld Z h a "com/example/intervale/intervale/bench/Latencies" "counts" "[J" (.ref x) ∧ Fld Z h a "com/example/intervale/intervale/bench/Latencies" "count" "J" (.long (Int64.ofNat as.length)) ∧ Fld Z h b "com/example/intervale/intervale/bench/Latencies" "counts" "[J" (.ref y) ∧ Fld Z h b "com/example/intervale/intervale/bench/Latencies" "count" "J" (.long (Int64.ofNat bs.length)) ∧ Arv Z h y k' .long 28160 us (.long 0)) (Vx : Arv Z h x k .long 28160 vs (.long 0)) (lx : vs.length = 28160) (Hx : ∀ j, j < 28160 → vs.getD j (.long 0) = .long (Int64.ofNat (if j < i then as.count j + bs.count j else as.count j))) (Kp : Keep h0 h [a, x]), OGo p l e ({ frames := 0, cells := 0, slots := 0, locals := 0 } : Room) s m #[(.ref a), (.ref b)] below meth c n0 (ON fun h => OLA Z n0 h a x (as ++ bs) ∧ Keep h0 h [a, x]) h 0 0 2 #[.val (.ref a), .val (.ref b), .val (.int (Int32.ofNat i))] [] := by
    intro d
    induction d with
    | zero =>
      intro i h vs Zh hi P Vx lx Hx Kp
      obtain ⟨P1, P2, P3, P4, P5, P6⟩ := P
      have hi' : i = 28160 := by omega
      refine OGo.iloadN K (pc' := 3) own_d5_2 rfl rfl ?_
      refine OGo.sipush K (pc' := 6) (z := 28160) own_d5_3 rfl rfl ?_
      refine OGo.icmpGe K (pc' := 9) (pcY := 30) own_d5_6 rfl (by decide) rfl (fun hc6 => ?_) (fun hc6 => absurd hc6 (by rw [hi']; decide : ¬ (Int32.ofNat i) < (28160 : Int32)))
      refine OGo.aloadN K (pc' := 31) own_d5_30 rfl rfl rfl ?_
      refine OGo.dup K (pc' := 32) own_d5_31 rfl rfl ?_
      refine OGo.getF K (pc' := 35) (host := "") (Or.inl (hw _ (List.mem_of_getElem? (i := 23) rfl))) Via.refl P3 own_d5_32 rfl ?_
      refine OGo.aloadN K (pc' := 36) own_d5_35 rfl rfl rfl ?_
      refine OGo.getF K (pc' := 39) (host := "") (Or.inl (hw _ (List.mem_of_getElem? (i := 23) rfl))) Via.refl P5 own_d5_36 rfl ?_
      refine OGo.ladd K (pc' := 40) own_d5_39 rfl ?_
      refine OGo.putF K (pc' := 43) (host := "") (Or.inl (hw _ (List.mem_of_getElem? (i := 23) rfl))) Via.refl P3 P1 (Or.inl (hw _ (List.mem_of_getElem? (i := 24) rfl))) (hw _ (List.mem_of_getElem? (i := 3) rfl)) (ty := .long) (by decide) rfl rfl g_a own_d5_40 rfl ?_
      intro h1 W1
      have Z1 : n0 ≤ h1.size := by rw [W1.size]; exact Zh
      have Fw_count_a_1 := P3.same W1
      have P2_1 := P2.other W1 (Or.inr (slot_ne (Or.inr (hw _ (List.mem_of_getElem? (i := 13) rfl))) (Or.inl (hw _ (List.mem_of_getElem? (i := 24) rfl))) (by decide) (t := (.array .long)) (t' := .long) (by decide) (by decide)))
      have P4_1 := P4.other W1 (Or.inl (Ne.symm nab))
      have P5_1 := P5.other W1 (Or.inl (Ne.symm nab))
      have P1_1 := P1.wr W1
      have P6_1 := P6.other W1 (Ne.symm nay)
      have Vx_1 := Vx.other W1 (Ne.symm ne1)
      have Kp1 : Keep h0 h1 [a, x] := Kp.wr W1 (Or.inl (List.mem_of_getElem? (i := 0) rfl))
      exact OGo.vret K own_d5_43 (by decide) (by decide) ⟨rfl, ⟨P1_1, P2_1, (by rw [List.length_append, ← own_o64 _ _ (by omega)]; exact Fw_count_a_1), ⟨_, _, Vx_1, lx, fun j hj => by rw [Hx j hj, if_pos (hi'.symm ▸ hj), List.count_append]⟩, ne1, g_a, g_x, fun z hz => (List.mem_append.mp hz).elim (hb z) (hb' z)⟩, Kp1⟩
    | succ d ih =>
      intro i h vs Zh hi P Vx lx Hx Kp
      obtain ⟨P1, P2, P3, P4, P5, P6⟩ := P
      have hi' : i < 28160 := by omega
      obtain ⟨i1, i2, i3⟩ := own_i28 hi'
      refine OGo.iloadN K (pc' := 3) own_d5_2 rfl rfl ?_
      refine OGo.sipush K (pc' := 6) (z := 28160) own_d5_3 rfl rfl ?_
      refine OGo.icmpGe K (pc' := 9) (pcY := 30) own_d5_6 rfl (by decide) rfl (fun hc6 => absurd (i2 : (Int32.ofNat i) < (28160 : Int32)) hc6) (fun hc6 => ?_)
      refine OGo.aloadN K (pc' := 10) own_d5_9 rfl rfl rfl ?_
      refine OGo.getF K (pc' := 13) (host := "") (Or.inl (hw _ (List.mem_of_getElem? (i := 12) rfl))) Via.refl P2 own_d5_10 rfl ?_
      refine OGo.iloadN K (pc' := 14) own_d5_13 rfl rfl ?_
      refine OGo.dup2 K (pc' := 15) own_d5_14 rfl rfl rfl ?_
      refine OGo.laload K (pc' := 16) (v := (.long (Int64.ofNat (as.count i)))) Vx ⟨i1, i2⟩ (by rw [i3, Hx i hi', if_neg (Nat.lt_irrefl i)]) own_d5_15 rfl ?_
      refine OGo.aloadN K (pc' := 17) own_d5_16 rfl rfl rfl ?_
      refine OGo.getF K (pc' := 20) (host := "") (Or.inl (hw _ (List.mem_of_getElem? (i := 12) rfl))) Via.refl P4 own_d5_17 rfl ?_
      refine OGo.iloadN K (pc' := 21) own_d5_20 rfl rfl ?_
      refine OGo.laload K (pc' := 22) (v := (.long (Int64.ofNat (bs.count i)))) P6 ⟨i1, i2⟩ (by rw [i3]; exact Hy i hi') own_d5_21 rfl ?_
      refine OGo.ladd K (pc' := 23) own_d5_22 rfl ?_
      refine OGo.lastore K (pc' := 24) (i := i) Vx ⟨i1, i2⟩ i3 (by rw [lx]; exact hi') g_x own_d5_23 rfl ?_
      intro h2 W2 Vx_2
      have Z2 : n0 ≤ h2.size := by rw [W2.size]; exact Zh
      have P2_2 := P2.other W2 (Or.inl ne1)
      have P3_2 := P3.other W2 (Or.inl ne1)
      have P4_2 := P4.other W2 (Or.inl (Ne.symm nxb))
      have P5_2 := P5.other W2 (Or.inl (Ne.symm nxb))
      have P1_2 := P1.wr W2
      have P6_2 := P6.other W2 (Ne.symm nxy)
      have Kp2 : Keep h0 h2 [a, x] := Kp.wr W2 (Or.inl (List.mem_of_getElem? (i := 1) rfl))
      refine OGo.iinc K (pc' := 27) (z := 1) (Ls' := #[.val (.ref a), .val (.ref b), .val (.int ((Int32.ofNat i) + (1 : Int32)))]) own_d5_24 rfl rfl rfl rfl ?_
      refine OGo.goto K (pc' := 2) own_d5_27 (by decide) rfl ?_
      rw [← inc_ofNat]
      exact ih (i + 1) h2 _ Z2 (by omega) ⟨P1_2, P2_2, P3_2, P4_2, P5_2, P6_2⟩ Vx_2 (by rw [List.length_set]; exact lx) (own_addset (us := us) lx hi' hn Hx) Kp2
  refine OGo.iconst K (pc' := 1) (z := 0) own_d5_0 rfl rfl ?_
  refine OGo.istoreN K (pc' := 2) (Ls' := #[.val (.ref a), .val (.ref b), .val (.int (0 : Int32))]) own_d5_1 rfl rfl ?_
  exact loop 28160 0 h0 vs Z0 (by omega) ⟨E, F1, F2, G1, G2, Vy⟩ Vx lx (fun j hj => by rw [if_neg (Nat.not_lt_zero j)]; exact Hx j hj) (Keep.refl _ _)
set_option maxRecDepth 65536 in
set_option maxHeartbeats 40000000 in
theorem own_rm6 (l : Launch) (Z : State) (a0 : Array Value) (hw : ∀ d ∈ tables_1, d.before a0 Z = true) (a : Addr) (v : Int64) (h0 : Heap) (n0 : Nat) (Z0 : n0 ≤ h0.size) (F : Fld Z h0 a "com/example/intervale/intervale/bench/Latencies" "count" "J" (.long v)) :
    OCon l Z n0 (⟨"com/example/intervale/intervale/bench/Latencies", "count", "()J"⟩ : MethodName) prog_8_method_4_code 1 (some .long) [] ({ frames := 0, cells := 0, slots := 0, locals := 0 } : Room) #[(.ref a)] h0 (OV fun w h => w = .long v ∧ h = h0) := by
  refine OCon.of (Ls := #[.val (.ref a)]) (plainFor_of_name own_pn_1) (fun m => own_entry m rfl) ?_
  intro p e s m below meth c K
  refine OGo.aloadN K (pc' := 1) own_d6_0 rfl rfl rfl ?_
  refine OGo.getF K (pc' := 4) (host := "") (Or.inl (hw _ (List.mem_of_getElem? (i := 23) rfl))) Via.refl F own_d6_1 rfl ?_
  exact OGo.lret K own_d6_4 (by decide) (by decide) ⟨_, rfl, rfl, rfl⟩
set_option maxRecDepth 65536 in
set_option maxHeartbeats 40000000 in
theorem own_rm8 (l : Launch) (Z : State) (a0 : Array Value) (hw : ∀ d ∈ tables_1, d.before a0 Z = true) (i : Int32) (h0 : Heap) (n0 : Nat) (Z0 : n0 ≤ h0.size)  :
    OCon l Z n0 (⟨"com/example/intervale/intervale/bench/Latencies", "middle", "(I)J"⟩ : MethodName) prog_8_method_7_code 5 (some .long) [] ({ frames := 0, cells := 0, slots := 0, locals := 0 } : Room) #[(.int i)] h0 (OV fun w h => w = .long (own_mid i) ∧ h = h0) := by
  refine OCon.of (Ls := #[.val (.int i), .unset, .unset, .unset, .unset]) (plainFor_of_name own_pn_1) (fun m => own_entry m rfl) ?_
  intro p e s m below meth c K
  refine OGo.iloadN K (pc' := 1) own_d8_0 rfl rfl ?_
  refine OGo.sipush K (pc' := 4) (z := 1024) own_d8_1 rfl rfl ?_
  refine OGo.icmpGe K (pc' := 7) (pcY := 10) own_d8_4 rfl (by decide) rfl (fun hc => ?_) (fun hc => ?_)
  · skip
    refine OGo.iloadN K (pc' := 11) own_d8_10 rfl rfl ?_
    refine OGo.sipush K (pc' := 14) (z := 1024) own_d8_11 rfl rfl ?_
    refine OGo.isub K (pc' := 15) own_d8_14 rfl ?_
    refine OGo.istoreN K (pc' := 16) (Ls' := #[.val (.int i), .val (.int (i - (1024 : Int32))), .unset, .unset, .unset]) own_d8_15 rfl rfl ?_
    refine OGo.iloadN K (pc' := 17) own_d8_16 rfl rfl ?_
    refine OGo.sipush K (pc' := 20) (z := 512) own_d8_17 rfl rfl ?_
    refine OGo.idiv K (pc' := 21) own_d8_20 rfl (by decide) ?_
    refine OGo.iconst K (pc' := 22) (z := 1) own_d8_21 rfl rfl ?_
    refine OGo.iadd K (pc' := 23) own_d8_22 rfl ?_
    refine OGo.istoreN K (pc' := 24) (Ls' := #[.val (.int i), .val (.int (i - (1024 : Int32))), .val (.int (((i - (1024 : Int32)) / (512 : Int32)) + (1 : Int32))), .unset, .unset]) own_d8_23 rfl rfl ?_
    refine OGo.iloadN K (pc' := 25) own_d8_24 rfl rfl ?_
    refine OGo.sipush K (pc' := 28) (z := 512) own_d8_25 rfl rfl ?_
    refine OGo.irem K (pc' := 29) own_d8_28 rfl (by decide) ?_
    refine OGo.sipush K (pc' := 32) (z := 512) own_d8_29 rfl rfl ?_
    refine OGo.iadd K (pc' := 33) own_d8_32 rfl ?_
    refine OGo.i2l K (pc' := 34) own_d8_33 rfl ?_
    refine OGo.iloadN K (pc' := 35) own_d8_34 rfl rfl ?_
    refine OGo.lshl K (pc' := 36) own_d8_35 rfl ?_
    refine OGo.lstoreN K (pc' := 37) (Ls' := #[.val (.int i), .val (.int (i - (1024 : Int32))), .val (.int (((i - (1024 : Int32)) / (512 : Int32)) + (1 : Int32))), .val (.long (((((i - (1024 : Int32)) % (512 : Int32)) + (512 : Int32)).toInt64) <<< ((((i - (1024 : Int32)) / (512 : Int32)) + (1 : Int32)) &&& 63).toInt64)), .second]) own_d8_36 rfl rfl ?_
    refine OGo.lloadN K (pc' := 38) own_d8_37 rfl rfl ?_
    refine OGo.lconst K (pc' := 39) (z := 1) own_d8_38 rfl rfl ?_
    refine OGo.iloadN K (pc' := 40) own_d8_39 rfl rfl ?_
    refine OGo.lshl K (pc' := 41) own_d8_40 rfl ?_
    refine OGo.lconst K (pc' := 42) (z := 1) own_d8_41 rfl rfl ?_
    refine OGo.lsub K (pc' := 43) own_d8_42 rfl ?_
    refine OGo.ldcJ K (pc' := 46) (v := 2) (hw _ (List.mem_of_getElem? (i := 54) rfl)) own_d8_43 rfl ?_
    refine OGo.ldiv K (pc' := 47) own_d8_46 rfl (by decide) ?_
    refine OGo.ladd K (pc' := 48) own_d8_47 rfl ?_
    exact OGo.lret K own_d8_48 (by decide) (by decide) ⟨_, rfl, by rw [own_mid, if_neg hc], rfl⟩
  · skip
    refine OGo.iloadN K (pc' := 8) own_d8_7 rfl rfl ?_
    refine OGo.i2l K (pc' := 9) own_d8_8 rfl ?_
    exact OGo.lret K own_d8_9 (by decide) (by decide) ⟨_, rfl, by rw [own_mid, if_pos hc], rfl⟩
set_option maxRecDepth 65536 in
set_option maxHeartbeats 40000000 in
theorem own_rm7 (l : Launch) (Z : State) (a0 : Array Value) (hw : ∀ d ∈ tables_1, d.before a0 Z = true) (a x : Addr) (q : Int32) (bs : List Nat) (h0 : Heap) (n0 : Nat) (Z0 : n0 ≤ h0.size) (A : OLA Z n0 h0 a x bs) (hn : bs.length < 1000) (h1 : 1 ≤ q.toInt) (h2 : q.toInt ≤ 100) :
    OCon l Z n0 (⟨"com/example/intervale/intervale/bench/Latencies", "percentile", "(I)J"⟩ : MethodName) prog_8_method_5_code 7 (some .long) [] ({ frames := 1, cells := 0, slots := 0, locals := 16 } : Room) #[(.ref a), (.int q)] h0 (OV fun w h => w = .long (own_mid (Int32.ofNat (own_find bs ((q.toInt.toNat * bs.length + 99) / 100) 28160 0 0))) ∧ h = h0) := by
  refine OCon.of (Ls := #[.val (.ref a), .val (.int q), .unset, .unset, .unset, .unset, .unset]) (plainFor_of_name own_pn_1) (fun m => own_entry m rfl) ?_
  intro p e s m below meth c K
  obtain ⟨E, F1, F2, ⟨k, vs, Vx, lx, Hx⟩, ne1, g_a, g_x, hb⟩ := A
  obtain ⟨er, hr⟩ := own_rank h1 h2 (c := bs.length) (by omega)
  generalize hrr : (q.toInt.toNat * bs.length + 99) / 100 = r at er hr ⊢
  have loop : ∀ (d i : Nat) (hi : i + d = 28160) (hd : 0 < d) (he : own_find bs r 28160 0 0 = own_find bs r d i (own_pre bs i)), OGo p l e ({ frames := 1, cells := 0, slots := 0, locals := 16 } : Room) s m #[(.ref a), (.int q)] below meth c n0 (OV fun w h => w = .long (own_mid (Int32.ofNat (own_find bs r 28160 0 0))) ∧ h = h0) h0 0 0 47 #[.val (.ref a), .val (.int q), .val (.long (Int64.ofNat r)), .second, .val (.long (Int64.ofNat (own_pre bs i))), .second, .val (.int (Int32.ofNat i))] [] := by
    intro d
    induction d with
    | zero => intro i hi hd he; exact absurd hd (Nat.lt_irrefl 0)
    | succ d ih =>
      intro i hi hd he
      have hi' : i < 28160 := by omega
      obtain ⟨i1, i2, i3⟩ := own_i28 hi'
      have hp := own_pre_le bs (i + 1)
      have hs := own_pre_succ bs i
      have ea : Int64.ofNat (own_pre bs i) + Int64.ofNat (bs.count i) = Int64.ofNat (own_pre bs (i + 1)) := by rw [hs, own_o64 _ _ (by omega)]
      refine OGo.lload K (pc' := 49) own_d7_47 rfl rfl ?_
      refine OGo.aloadN K (pc' := 50) own_d7_49 rfl rfl rfl ?_
      refine OGo.getF K (pc' := 53) (host := "") (Or.inl (hw _ (List.mem_of_getElem? (i := 12) rfl))) Via.refl F1 own_d7_50 rfl ?_
      refine OGo.iload K (pc' := 55) own_d7_53 rfl rfl ?_
      refine OGo.laload K (pc' := 56) (v := (.long (Int64.ofNat (bs.count i)))) Vx ⟨i1, i2⟩ (by rw [i3]; exact Hx i hi') own_d7_55 rfl ?_
      refine OGo.ladd K (pc' := 57) own_d7_56 rfl ?_
      refine OGo.lloadN K (pc' := 58) own_d7_57 rfl rfl ?_
      refine OGo.lcmpGe K (pc' := 62) (pcY := 80) own_d7_58 rfl own_d7_59 rfl (by decide) rfl (fun hc => ?_) (fun hc => ?_)
      · skip
        rw [ea, own_lt64 (by omega) (by omega)] at hc
        refine OGo.iload K (pc' := 82) own_d7_80 rfl rfl ?_
        refine OGo.callSV K (pc' := 85) (y := (⟨"com/example/intervale/intervale/bench/Latencies", "middle", "(I)J"⟩ : MethodName)) (W := 0) (cells' := 0) (slots' := 0) (argsL := [(.int (Int32.ofNat i))]) (st := []) (hw _ (List.mem_of_getElem? (i := 42) rfl)) (hw _ (List.mem_of_getElem? (i := 43) rfl)) (hw _ (List.mem_of_getElem? (i := 4) rfl)) (hw _ (List.mem_of_getElem? (i := 44) rfl)) (by decide) (own_rm8 l Z a0 hw (Int32.ofNat i) h0 n0 Z0) own_d7_82 rfl rfl (lenOf own_pd5 rfl) (by show 2 * 0 + _ ≤ _; exact Nat.le_of_eq rfl) (by decide) (by decide) rfl rfl (by decide) (by decide) ?_
        rintro _ h1 ⟨rfl, e1⟩
        rw [e1]
        show OGo p l e _ s m _ below meth c n0 _ h0 0 0 85 #[.val (.ref a), .val (.int q), .val (.long (Int64.ofNat r)), .second, .val (.long (Int64.ofNat (own_pre bs i))), .second, .val (.int (Int32.ofNat i))] [(.long (own_mid (Int32.ofNat i)))]
        exact OGo.lret K own_d7_85 (by decide) (by decide) ⟨_, rfl, by rw [he, own_find, if_neg (by omega)], rfl⟩
      · skip
        rw [ea, own_lt64 (by omega) (by omega)] at hc
        refine OGo.lload K (pc' := 64) own_d7_62 rfl rfl ?_
        refine OGo.aloadN K (pc' := 65) own_d7_64 rfl rfl rfl ?_
        refine OGo.getF K (pc' := 68) (host := "") (Or.inl (hw _ (List.mem_of_getElem? (i := 12) rfl))) Via.refl F1 own_d7_65 rfl ?_
        refine OGo.iload K (pc' := 70) own_d7_68 rfl rfl ?_
        refine OGo.laload K (pc' := 71) (v := (.long (Int64.ofNat (bs.count i)))) Vx ⟨i1, i2⟩ (by rw [i3]; exact Hx i hi') own_d7_70 rfl ?_
        refine OGo.ladd K (pc' := 72) own_d7_71 rfl ?_
        refine OGo.lstore K (pc' := 74) (Ls' := #[.val (.ref a), .val (.int q), .val (.long (Int64.ofNat r)), .second, .val (.long ((Int64.ofNat (own_pre bs i)) + (Int64.ofNat (bs.count i)))), .second, .val (.int (Int32.ofNat i))]) own_d7_72 rfl rfl ?_
        refine OGo.iinc K (pc' := 77) (z := 1) (Ls' := #[.val (.ref a), .val (.int q), .val (.long (Int64.ofNat r)), .second, .val (.long ((Int64.ofNat (own_pre bs i)) + (Int64.ofNat (bs.count i)))), .second, .val (.int ((Int32.ofNat i) + (1 : Int32)))]) own_d7_74 rfl rfl rfl rfl ?_
        refine OGo.goto K (pc' := 47) own_d7_77 (by decide) rfl ?_
        rw [← inc_ofNat, ea]
        have hd' : 0 < d := by
          apply Nat.pos_of_ne_zero; intro z
          have : i + 1 = 28160 := by omega
          rw [this, own_pre_all hb] at hc; omega
        exact ih (i + 1) (by omega) hd' (by rw [he, own_find, if_pos (by omega), hs])
  refine OGo.iloadN K (pc' := 1) own_d7_0 rfl rfl ?_
  refine OGo.iconst K (pc' := 2) (z := 1) own_d7_1 rfl rfl ?_
  refine OGo.icmpLt K (pc' := 5) (pcY := 11) own_d7_2 rfl (by decide) rfl (fun hc2 => absurd hc2 (by rw [Int32.lt_iff_toInt_lt, show (1 : Int32).toInt = 1 from rfl]; omega : ¬ q < (1 : Int32))) (fun hc2 => ?_)
  refine OGo.iloadN K (pc' := 6) own_d7_5 rfl rfl ?_
  refine OGo.bipush K (pc' := 8) (z := 100) own_d7_6 rfl rfl ?_
  refine OGo.icmpLe K (pc' := 11) (pcY := 25) own_d7_8 rfl (by decide) rfl (fun hc8 => ?_) (fun hc8 => absurd hc8 (by rw [Int32.lt_iff_toInt_lt, show (100 : Int32).toInt = 100 from rfl]; omega : ¬ (100 : Int32) < q))
  refine OGo.iloadN K (pc' := 26) own_d7_25 rfl rfl ?_
  refine OGo.i2l K (pc' := 27) own_d7_26 rfl ?_
  refine OGo.aloadN K (pc' := 28) own_d7_27 rfl rfl rfl ?_
  refine OGo.getF K (pc' := 31) (host := "") (Or.inl (hw _ (List.mem_of_getElem? (i := 23) rfl))) Via.refl F2 own_d7_28 rfl ?_
  refine OGo.lmul K (pc' := 32) own_d7_31 rfl ?_
  refine OGo.ldcJ K (pc' := 35) (v := 99) (hw _ (List.mem_of_getElem? (i := 40) rfl)) own_d7_32 rfl ?_
  refine OGo.ladd K (pc' := 36) own_d7_35 rfl ?_
  refine OGo.ldcJ K (pc' := 39) (v := 100) (hw _ (List.mem_of_getElem? (i := 41) rfl)) own_d7_36 rfl ?_
  refine OGo.ldiv K (pc' := 40) own_d7_39 rfl (by decide) ?_
  rw [er]
  refine OGo.lstoreN K (pc' := 41) (Ls' := #[.val (.ref a), .val (.int q), .val (.long (Int64.ofNat r)), .second, .unset, .unset, .unset]) own_d7_40 rfl rfl ?_
  refine OGo.lconst K (pc' := 42) (z := 0) own_d7_41 rfl rfl ?_
  refine OGo.lstore K (pc' := 44) (Ls' := #[.val (.ref a), .val (.int q), .val (.long (Int64.ofNat r)), .second, .val (.long (0 : Int64)), .second, .unset]) own_d7_42 rfl rfl ?_
  refine OGo.iconst K (pc' := 45) (z := 0) own_d7_44 rfl rfl ?_
  refine OGo.istore K (pc' := 47) (Ls' := #[.val (.ref a), .val (.int q), .val (.long (Int64.ofNat r)), .second, .val (.long (0 : Int64)), .second, .val (.int (0 : Int32))]) own_d7_45 rfl rfl ?_
  have p0 : own_pre bs 0 = 0 := by unfold own_pre; simp
  have fin := loop 28160 0 (by omega) (by decide) (by rw [p0])
  rw [p0] at fin
  exact fin
set_option maxRecDepth 65536 in
set_option maxHeartbeats 40000000 in
theorem own_rm0 (l : Launch) (Z : State) (a0 : Array Value) (hw : ∀ d ∈ tables_1, d.before a0 Z = true) (ws : List Jvm.Cond) (v0 v1 v2 : Int64) (v3 v4 : Int32) (h0 : Heap) (n0 : Nat) (Z0 : n0 ≤ h0.size)  :
    OCon l Z n0 x code maxLocals ret ws room_1 #[(.long v0), (.long v1), (.long v2), (.int v3), (.int v4)] h0 (OV fun w h => w = .int 1) := by
  refine OCon.of (Ls := #[.val (.long v0), .second, .val (.long v1), .second, .val (.long v2), .second, .val (.int v3), .val (.int v4), .unset, .unset, .unset, .unset, .unset, .unset, .unset, .unset, .unset, .unset, .unset, .unset, .unset, .unset, .unset, .unset, .unset, .unset]) (plainFor_of_name own_pn_0) (fun m => own_entry m rfl) ?_
  intro p e s m below meth c K
  obtain ⟨V0, hV0⟩ := own_msk v0
  obtain ⟨V1, hV1⟩ := own_msk v1
  obtain ⟨V2, hV2⟩ := own_msk v2
  refine OGo.lloadN K (pc' := 1) at_0 rfl rfl ?_
  refine OGo.ldcJ K (pc' := 4) (v := 9223372036854775807) (hw _ (List.mem_of_getElem? (i := 0) rfl)) at_1 rfl ?_
  refine OGo.land K (pc' := 5) at_4 rfl ?_
  refine OGo.lstore K (pc' := 7) (Ls' := #[.val (.long v0), .second, .val (.long v1), .second, .val (.long v2), .second, .val (.int v3), .val (.int v4), .val (.long (v0 &&& (9223372036854775807 : Int64))), .second, .unset, .unset, .unset, .unset, .unset, .unset, .unset, .unset, .unset, .unset, .unset, .unset, .unset, .unset, .unset, .unset]) at_5 rfl rfl ?_
  refine OGo.lloadN K (pc' := 8) at_7 rfl rfl ?_
  refine OGo.ldcJ K (pc' := 11) (v := 9223372036854775807) (hw _ (List.mem_of_getElem? (i := 0) rfl)) at_8 rfl ?_
  refine OGo.land K (pc' := 12) at_11 rfl ?_
  refine OGo.lstore K (pc' := 14) (Ls' := #[.val (.long v0), .second, .val (.long v1), .second, .val (.long v2), .second, .val (.int v3), .val (.int v4), .val (.long (v0 &&& (9223372036854775807 : Int64))), .second, .val (.long (v1 &&& (9223372036854775807 : Int64))), .second, .unset, .unset, .unset, .unset, .unset, .unset, .unset, .unset, .unset, .unset, .unset, .unset, .unset, .unset]) at_12 rfl rfl ?_
  refine OGo.lload K (pc' := 16) at_14 rfl rfl ?_
  refine OGo.ldcJ K (pc' := 19) (v := 9223372036854775807) (hw _ (List.mem_of_getElem? (i := 0) rfl)) at_16 rfl ?_
  refine OGo.land K (pc' := 20) at_19 rfl ?_
  refine OGo.lstore K (pc' := 22) (Ls' := #[.val (.long v0), .second, .val (.long v1), .second, .val (.long v2), .second, .val (.int v3), .val (.int v4), .val (.long (v0 &&& (9223372036854775807 : Int64))), .second, .val (.long (v1 &&& (9223372036854775807 : Int64))), .second, .val (.long (v2 &&& (9223372036854775807 : Int64))), .second, .unset, .unset, .unset, .unset, .unset, .unset, .unset, .unset, .unset, .unset, .unset, .unset]) at_20 rfl rfl ?_
  refine OGo.iload K (pc' := 24) at_22 rfl rfl ?_
  refine OGo.iconst K (pc' := 25) (z := 1) at_24 rfl rfl ?_
  refine OGo.iand K (pc' := 26) at_25 rfl ?_
  suffices J34 : ∀ f0 : Int32, OGo p l e room_1 s m #[(.long v0), (.long v1), (.long v2), (.int v3), (.int v4)] below meth c n0 (OV fun w h => w = .int 1) h0 0 0 34 #[.val (.long v0), .second, .val (.long v1), .second, .val (.long v2), .second, .val (.int v3), .val (.int v4), .val (.long (v0 &&& (9223372036854775807 : Int64))), .second, .val (.long (v1 &&& (9223372036854775807 : Int64))), .second, .val (.long (v2 &&& (9223372036854775807 : Int64))), .second, .unset, .unset, .unset, .unset, .unset, .unset, .unset, .unset, .unset, .unset, .unset, .unset] [(.int f0)] by
    refine OGo.ifEq K (pc' := 29) (pcY := 33) at_26 rfl (by decide) rfl (fun hc26 => ?_) (fun hc26 => ?_)
    · skip
      refine OGo.iconst K (pc' := 34) (z := 0) at_33 rfl rfl ?_
      exact J34 _
    · skip
      refine OGo.iconst K (pc' := 30) (z := 1) at_29 rfl rfl ?_
      refine OGo.goto K (pc' := 34) at_30 (by decide) rfl ?_
      exact J34 _
  intro f0
  refine OGo.istore K (pc' := 36) (Ls' := #[.val (.long v0), .second, .val (.long v1), .second, .val (.long v2), .second, .val (.int v3), .val (.int v4), .val (.long (v0 &&& (9223372036854775807 : Int64))), .second, .val (.long (v1 &&& (9223372036854775807 : Int64))), .second, .val (.long (v2 &&& (9223372036854775807 : Int64))), .second, .val (.int f0), .unset, .unset, .unset, .unset, .unset, .unset, .unset, .unset, .unset, .unset, .unset]) at_34 rfl rfl ?_
  refine OGo.iload K (pc' := 38) at_36 rfl rfl ?_
  refine OGo.iconst K (pc' := 39) (z := 2) at_38 rfl rfl ?_
  refine OGo.iand K (pc' := 40) at_39 rfl ?_
  suffices J48 : ∀ f1 : Int32, OGo p l e room_1 s m #[(.long v0), (.long v1), (.long v2), (.int v3), (.int v4)] below meth c n0 (OV fun w h => w = .int 1) h0 0 0 48 #[.val (.long v0), .second, .val (.long v1), .second, .val (.long v2), .second, .val (.int v3), .val (.int v4), .val (.long (v0 &&& (9223372036854775807 : Int64))), .second, .val (.long (v1 &&& (9223372036854775807 : Int64))), .second, .val (.long (v2 &&& (9223372036854775807 : Int64))), .second, .val (.int f0), .unset, .unset, .unset, .unset, .unset, .unset, .unset, .unset, .unset, .unset, .unset] [(.int f1)] by
    refine OGo.ifEq K (pc' := 43) (pcY := 47) at_40 rfl (by decide) rfl (fun hc40 => ?_) (fun hc40 => ?_)
    · skip
      refine OGo.iconst K (pc' := 48) (z := 0) at_47 rfl rfl ?_
      exact J48 _
    · skip
      refine OGo.iconst K (pc' := 44) (z := 1) at_43 rfl rfl ?_
      refine OGo.goto K (pc' := 48) at_44 (by decide) rfl ?_
      exact J48 _
  intro f1
  refine OGo.istore K (pc' := 50) (Ls' := #[.val (.long v0), .second, .val (.long v1), .second, .val (.long v2), .second, .val (.int v3), .val (.int v4), .val (.long (v0 &&& (9223372036854775807 : Int64))), .second, .val (.long (v1 &&& (9223372036854775807 : Int64))), .second, .val (.long (v2 &&& (9223372036854775807 : Int64))), .second, .val (.int f0), .val (.int f1), .unset, .unset, .unset, .unset, .unset, .unset, .unset, .unset, .unset, .unset]) at_48 rfl rfl ?_
  refine OGo.iload K (pc' := 52) at_50 rfl rfl ?_
  refine OGo.iconst K (pc' := 53) (z := 4) at_52 rfl rfl ?_
  refine OGo.iand K (pc' := 54) at_53 rfl ?_
  suffices J62 : ∀ f2 : Int32, OGo p l e room_1 s m #[(.long v0), (.long v1), (.long v2), (.int v3), (.int v4)] below meth c n0 (OV fun w h => w = .int 1) h0 0 0 62 #[.val (.long v0), .second, .val (.long v1), .second, .val (.long v2), .second, .val (.int v3), .val (.int v4), .val (.long (v0 &&& (9223372036854775807 : Int64))), .second, .val (.long (v1 &&& (9223372036854775807 : Int64))), .second, .val (.long (v2 &&& (9223372036854775807 : Int64))), .second, .val (.int f0), .val (.int f1), .unset, .unset, .unset, .unset, .unset, .unset, .unset, .unset, .unset, .unset] [(.int f2)] by
    refine OGo.ifEq K (pc' := 57) (pcY := 61) at_54 rfl (by decide) rfl (fun hc54 => ?_) (fun hc54 => ?_)
    · skip
      refine OGo.iconst K (pc' := 62) (z := 0) at_61 rfl rfl ?_
      exact J62 _
    · skip
      refine OGo.iconst K (pc' := 58) (z := 1) at_57 rfl rfl ?_
      refine OGo.goto K (pc' := 62) at_58 (by decide) rfl ?_
      exact J62 _
  intro f2
  refine OGo.istore K (pc' := 64) (Ls' := #[.val (.long v0), .second, .val (.long v1), .second, .val (.long v2), .second, .val (.int v3), .val (.int v4), .val (.long (v0 &&& (9223372036854775807 : Int64))), .second, .val (.long (v1 &&& (9223372036854775807 : Int64))), .second, .val (.long (v2 &&& (9223372036854775807 : Int64))), .second, .val (.int f0), .val (.int f1), .val (.int f2), .unset, .unset, .unset, .unset, .unset, .unset, .unset, .unset, .unset]) at_62 rfl rfl ?_
  refine OGo.iload K (pc' := 66) at_64 rfl rfl ?_
  refine OGo.bipush K (pc' := 68) (z := 8) at_66 rfl rfl ?_
  refine OGo.iand K (pc' := 69) at_68 rfl ?_
  suffices J77 : ∀ f3 : Int32, OGo p l e room_1 s m #[(.long v0), (.long v1), (.long v2), (.int v3), (.int v4)] below meth c n0 (OV fun w h => w = .int 1) h0 0 0 77 #[.val (.long v0), .second, .val (.long v1), .second, .val (.long v2), .second, .val (.int v3), .val (.int v4), .val (.long (v0 &&& (9223372036854775807 : Int64))), .second, .val (.long (v1 &&& (9223372036854775807 : Int64))), .second, .val (.long (v2 &&& (9223372036854775807 : Int64))), .second, .val (.int f0), .val (.int f1), .val (.int f2), .unset, .unset, .unset, .unset, .unset, .unset, .unset, .unset, .unset] [(.int f3)] by
    refine OGo.ifEq K (pc' := 72) (pcY := 76) at_69 rfl (by decide) rfl (fun hc69 => ?_) (fun hc69 => ?_)
    · skip
      refine OGo.iconst K (pc' := 77) (z := 0) at_76 rfl rfl ?_
      exact J77 _
    · skip
      refine OGo.iconst K (pc' := 73) (z := 1) at_72 rfl rfl ?_
      refine OGo.goto K (pc' := 77) at_73 (by decide) rfl ?_
      exact J77 _
  intro f3
  refine OGo.istore K (pc' := 79) (Ls' := #[.val (.long v0), .second, .val (.long v1), .second, .val (.long v2), .second, .val (.int v3), .val (.int v4), .val (.long (v0 &&& (9223372036854775807 : Int64))), .second, .val (.long (v1 &&& (9223372036854775807 : Int64))), .second, .val (.long (v2 &&& (9223372036854775807 : Int64))), .second, .val (.int f0), .val (.int f1), .val (.int f2), .val (.int f3), .unset, .unset, .unset, .unset, .unset, .unset, .unset, .unset]) at_77 rfl rfl ?_
  refine OGo.iload K (pc' := 81) at_79 rfl rfl ?_
  refine OGo.ldcI K (pc' := 83) (v := 2147483647) (hw _ (List.mem_of_getElem? (i := 1) rfl)) at_81 rfl ?_
  refine OGo.iand K (pc' := 84) at_83 rfl ?_
  refine OGo.bipush K (pc' := 86) (z := 100) at_84 rfl rfl ?_
  refine OGo.irem K (pc' := 87) at_86 rfl (by decide) ?_
  refine OGo.iconst K (pc' := 88) (z := 1) at_87 rfl rfl ?_
  refine OGo.iadd K (pc' := 89) at_88 rfl ?_
  refine OGo.istore K (pc' := 91) (Ls' := #[.val (.long v0), .second, .val (.long v1), .second, .val (.long v2), .second, .val (.int v3), .val (.int v4), .val (.long (v0 &&& (9223372036854775807 : Int64))), .second, .val (.long (v1 &&& (9223372036854775807 : Int64))), .second, .val (.long (v2 &&& (9223372036854775807 : Int64))), .second, .val (.int f0), .val (.int f1), .val (.int f2), .val (.int f3), .val (.int (((v3 &&& (2147483647 : Int32)) % (100 : Int32)) + (1 : Int32))), .unset, .unset, .unset, .unset, .unset, .unset, .unset]) at_89 rfl rfl ?_
  obtain ⟨hp1, hp2⟩ := own_pct v3
  refine OGo.newO K (pc' := 94) (cells' := 1) (slots' := 2) (hw _ (List.mem_of_getElem? (i := 2) rfl)) (hw _ (List.mem_of_getElem? (i := 3) rfl)) (hw _ (List.mem_of_getElem? (i := 4) rfl)) at_91 rfl rfl rfl (by decide) (by decide) ?_
  intro h1 oa g1 E1 A1 D1
  have g_oa : n0 ≤ oa := Nat.le_trans Z0 (Nat.le_of_eq g1.symm)
  have Z1 : n0 ≤ h1.size := Nat.le_trans Z0 E1.1
  have F_counts_oa : Fld Z h1 oa "com/example/intervale/intervale/bench/Latencies" "counts" "[J" .null := D1 (Or.inr (hw _ (List.mem_of_getElem? (i := 13) rfl))) (ty := (.array .long)) (by decide)
  have F_count_oa : Fld Z h1 oa "com/example/intervale/intervale/bench/Latencies" "count" "J" (.long (0 : Int64)) := D1 (Or.inl (hw _ (List.mem_of_getElem? (i := 24) rfl))) (ty := .long) (by decide)
  refine OGo.dup K (pc' := 95) at_94 rfl rfl ?_
  refine OGo.callIN K (pc' := 98) (y := (⟨"com/example/intervale/intervale/bench/Latencies", "<init>", "()V"⟩ : MethodName)) (a := oa) (W := 1) (cells' := 2) (slots' := 28162) (argsL := []) (st := [(.ref oa)]) rfl (hw _ (List.mem_of_getElem? (i := 5) rfl)) (hw _ (List.mem_of_getElem? (i := 6) rfl)) (hw _ (List.mem_of_getElem? (i := 4) rfl)) (hw _ (List.mem_of_getElem? (i := 7) rfl)) (by decide) (own_rm1 l Z a0 hw oa h1 n0 Z1 A1 F_counts_oa F_count_oa g_oa) at_95 rfl rfl (lenOf own_pd6 rfl) (by show 2 * 0 + _ ≤ _; exact Nat.le_of_eq rfl) (by decide) (by decide) rfl rfl (by decide) (by decide) ?_
  rintro h2 ⟨xa, Loa, K2, s2⟩
  have Z2 : n0 ≤ h2.size := Nat.le_trans Z1 K2.1
  have ne_oa_xa : oa ≠ xa := Nat.ne_of_lt (Nat.lt_of_lt_of_le A1.lt s2)
  have ne_oa_xa := Loa.2.2.2.2.1
  refine OGo.astore K (pc' := 100) (Ls' := #[.val (.long v0), .second, .val (.long v1), .second, .val (.long v2), .second, .val (.int v3), .val (.int v4), .val (.long (v0 &&& (9223372036854775807 : Int64))), .second, .val (.long (v1 &&& (9223372036854775807 : Int64))), .second, .val (.long (v2 &&& (9223372036854775807 : Int64))), .second, .val (.int f0), .val (.int f1), .val (.int f2), .val (.int f3), .val (.int (((v3 &&& (2147483647 : Int32)) % (100 : Int32)) + (1 : Int32))), .val (.ref oa), .unset, .unset, .unset, .unset, .unset, .unset]) at_98 rfl rfl rfl ?_
  refine OGo.newO K (pc' := 103) (cells' := 3) (slots' := 28164) (hw _ (List.mem_of_getElem? (i := 2) rfl)) (hw _ (List.mem_of_getElem? (i := 3) rfl)) (hw _ (List.mem_of_getElem? (i := 4) rfl)) at_100 rfl rfl rfl (by decide) (by decide) ?_
  intro h3 ob g3 E3 A3 D3
  have ne_oa_ob : oa ≠ ob := Nat.ne_of_lt (Nat.lt_of_lt_of_le (OLA.lta Loa) (Nat.le_of_eq g3.symm))
  have ne_xa_ob : xa ≠ ob := Nat.ne_of_lt (Nat.lt_of_lt_of_le (OLA.ltx Loa) (Nat.le_of_eq g3.symm))
  have g_ob : n0 ≤ ob := Nat.le_trans Z2 (Nat.le_of_eq g3.symm)
  have Z3 : n0 ≤ h3.size := Nat.le_trans Z2 E3.1
  have Loa_3 := OLA.ext Loa E3
  have F_counts_ob : Fld Z h3 ob "com/example/intervale/intervale/bench/Latencies" "counts" "[J" .null := D3 (Or.inr (hw _ (List.mem_of_getElem? (i := 13) rfl))) (ty := (.array .long)) (by decide)
  have F_count_ob : Fld Z h3 ob "com/example/intervale/intervale/bench/Latencies" "count" "J" (.long (0 : Int64)) := D3 (Or.inl (hw _ (List.mem_of_getElem? (i := 24) rfl))) (ty := .long) (by decide)
  refine OGo.dup K (pc' := 104) at_103 rfl rfl ?_
  refine OGo.callIN K (pc' := 107) (y := (⟨"com/example/intervale/intervale/bench/Latencies", "<init>", "()V"⟩ : MethodName)) (a := ob) (W := 1) (cells' := 4) (slots' := 56324) (argsL := []) (st := [(.ref ob)]) rfl (hw _ (List.mem_of_getElem? (i := 5) rfl)) (hw _ (List.mem_of_getElem? (i := 6) rfl)) (hw _ (List.mem_of_getElem? (i := 4) rfl)) (hw _ (List.mem_of_getElem? (i := 7) rfl)) (by decide) (own_rm1 l Z a0 hw ob h3 n0 Z3 A3 F_counts_ob F_count_ob g_ob) at_104 rfl rfl (lenOf own_pd6 rfl) (by show 2 * 0 + _ ≤ _; exact Nat.le_of_eq rfl) (by decide) (by decide) rfl rfl (by decide) (by decide) ?_
  rintro h4 ⟨xb, Lob, K4, s4⟩
  have Z4 : n0 ≤ h4.size := Nat.le_trans Z3 K4.1
  have ne_oa_xb : oa ≠ xb := Nat.ne_of_lt (Nat.lt_of_lt_of_le (OLA.lta Loa_3) s4)
  have ne_xa_xb : xa ≠ xb := Nat.ne_of_lt (Nat.lt_of_lt_of_le (OLA.ltx Loa_3) s4)
  have ne_ob_xb : ob ≠ xb := Nat.ne_of_lt (Nat.lt_of_lt_of_le A3.lt s4)
  have Loa_4 := OLA.keep Loa_3 K4 (ninS ne_oa_ob nin0) (ninS ne_xa_ob nin0)
  have ne_ob_xb := Lob.2.2.2.2.1
  refine OGo.astore K (pc' := 109) (Ls' := #[.val (.long v0), .second, .val (.long v1), .second, .val (.long v2), .second, .val (.int v3), .val (.int v4), .val (.long (v0 &&& (9223372036854775807 : Int64))), .second, .val (.long (v1 &&& (9223372036854775807 : Int64))), .second, .val (.long (v2 &&& (9223372036854775807 : Int64))), .second, .val (.int f0), .val (.int f1), .val (.int f2), .val (.int f3), .val (.int (((v3 &&& (2147483647 : Int32)) % (100 : Int32)) + (1 : Int32))), .val (.ref oa), .val (.ref ob), .unset, .unset, .unset, .unset, .unset]) at_107 rfl rfl rfl ?_
  refine OGo.newO K (pc' := 112) (cells' := 5) (slots' := 56326) (hw _ (List.mem_of_getElem? (i := 2) rfl)) (hw _ (List.mem_of_getElem? (i := 3) rfl)) (hw _ (List.mem_of_getElem? (i := 4) rfl)) at_109 rfl rfl rfl (by decide) (by decide) ?_
  intro h5 oc g5 E5 A5 D5
  have ne_oa_oc : oa ≠ oc := Nat.ne_of_lt (Nat.lt_of_lt_of_le (OLA.lta Loa_4) (Nat.le_of_eq g5.symm))
  have ne_xa_oc : xa ≠ oc := Nat.ne_of_lt (Nat.lt_of_lt_of_le (OLA.ltx Loa_4) (Nat.le_of_eq g5.symm))
  have ne_ob_oc : ob ≠ oc := Nat.ne_of_lt (Nat.lt_of_lt_of_le (OLA.lta Lob) (Nat.le_of_eq g5.symm))
  have ne_xb_oc : xb ≠ oc := Nat.ne_of_lt (Nat.lt_of_lt_of_le (OLA.ltx Lob) (Nat.le_of_eq g5.symm))
  have g_oc : n0 ≤ oc := Nat.le_trans Z4 (Nat.le_of_eq g5.symm)
  have Z5 : n0 ≤ h5.size := Nat.le_trans Z4 E5.1
  have Loa_5 := OLA.ext Loa_4 E5
  have Lob_5 := OLA.ext Lob E5
  have F_counts_oc : Fld Z h5 oc "com/example/intervale/intervale/bench/Latencies" "counts" "[J" .null := D5 (Or.inr (hw _ (List.mem_of_getElem? (i := 13) rfl))) (ty := (.array .long)) (by decide)
  have F_count_oc : Fld Z h5 oc "com/example/intervale/intervale/bench/Latencies" "count" "J" (.long (0 : Int64)) := D5 (Or.inl (hw _ (List.mem_of_getElem? (i := 24) rfl))) (ty := .long) (by decide)
  refine OGo.dup K (pc' := 113) at_112 rfl rfl ?_
  refine OGo.callIN K (pc' := 116) (y := (⟨"com/example/intervale/intervale/bench/Latencies", "<init>", "()V"⟩ : MethodName)) (a := oc) (W := 1) (cells' := 6) (slots' := 84486) (argsL := []) (st := [(.ref oc)]) rfl (hw _ (List.mem_of_getElem? (i := 5) rfl)) (hw _ (List.mem_of_getElem? (i := 6) rfl)) (hw _ (List.mem_of_getElem? (i := 4) rfl)) (hw _ (List.mem_of_getElem? (i := 7) rfl)) (by decide) (own_rm1 l Z a0 hw oc h5 n0 Z5 A5 F_counts_oc F_count_oc g_oc) at_113 rfl rfl (lenOf own_pd6 rfl) (by show 2 * 0 + _ ≤ _; exact Nat.le_of_eq rfl) (by decide) (by decide) rfl rfl (by decide) (by decide) ?_
  rintro h6 ⟨xc, Loc, K6, s6⟩
  have Z6 : n0 ≤ h6.size := Nat.le_trans Z5 K6.1
  have ne_oa_xc : oa ≠ xc := Nat.ne_of_lt (Nat.lt_of_lt_of_le (OLA.lta Loa_5) s6)
  have ne_xa_xc : xa ≠ xc := Nat.ne_of_lt (Nat.lt_of_lt_of_le (OLA.ltx Loa_5) s6)
  have ne_ob_xc : ob ≠ xc := Nat.ne_of_lt (Nat.lt_of_lt_of_le (OLA.lta Lob_5) s6)
  have ne_xb_xc : xb ≠ xc := Nat.ne_of_lt (Nat.lt_of_lt_of_le (OLA.ltx Lob_5) s6)
  have ne_oc_xc : oc ≠ xc := Nat.ne_of_lt (Nat.lt_of_lt_of_le A5.lt s6)
  have Loa_6 := OLA.keep Loa_5 K6 (ninS ne_oa_oc nin0) (ninS ne_xa_oc nin0)
  have Lob_6 := OLA.keep Lob_5 K6 (ninS ne_ob_oc nin0) (ninS ne_xb_oc nin0)
  have ne_oc_xc := Loc.2.2.2.2.1
  refine OGo.astore K (pc' := 118) (Ls' := #[.val (.long v0), .second, .val (.long v1), .second, .val (.long v2), .second, .val (.int v3), .val (.int v4), .val (.long (v0 &&& (9223372036854775807 : Int64))), .second, .val (.long (v1 &&& (9223372036854775807 : Int64))), .second, .val (.long (v2 &&& (9223372036854775807 : Int64))), .second, .val (.int f0), .val (.int f1), .val (.int f2), .val (.int f3), .val (.int (((v3 &&& (2147483647 : Int32)) % (100 : Int32)) + (1 : Int32))), .val (.ref oa), .val (.ref ob), .val (.ref oc), .unset, .unset, .unset, .unset]) at_116 rfl rfl rfl ?_
  refine OGo.lconst K (pc' := 119) (z := 0) at_118 rfl rfl ?_
  refine OGo.lstore K (pc' := 121) (Ls' := #[.val (.long v0), .second, .val (.long v1), .second, .val (.long v2), .second, .val (.int v3), .val (.int v4), .val (.long (v0 &&& (9223372036854775807 : Int64))), .second, .val (.long (v1 &&& (9223372036854775807 : Int64))), .second, .val (.long (v2 &&& (9223372036854775807 : Int64))), .second, .val (.int f0), .val (.int f1), .val (.int f2), .val (.int f3), .val (.int (((v3 &&& (2147483647 : Int32)) % (100 : Int32)) + (1 : Int32))), .val (.ref oa), .val (.ref ob), .val (.ref oc), .val (.long (0 : Int64)), .second, .unset, .unset]) at_119 rfl rfl ?_
  refine OGo.lconst K (pc' := 122) (z := 0) at_121 rfl rfl ?_
  refine OGo.lstore K (pc' := 124) (Ls' := #[.val (.long v0), .second, .val (.long v1), .second, .val (.long v2), .second, .val (.int v3), .val (.int v4), .val (.long (v0 &&& (9223372036854775807 : Int64))), .second, .val (.long (v1 &&& (9223372036854775807 : Int64))), .second, .val (.long (v2 &&& (9223372036854775807 : Int64))), .second, .val (.int f0), .val (.int f1), .val (.int f2), .val (.int f3), .val (.int (((v3 &&& (2147483647 : Int32)) % (100 : Int32)) + (1 : Int32))), .val (.ref oa), .val (.ref ob), .val (.ref oc), .val (.long (0 : Int64)), .second, .val (.long (0 : Int64)), .second]) at_122 rfl rfl ?_
  suffices J124 : ∀ (h : Heap) (As Bs Cs : List Nat) (Zh : n0 ≤ h.size) (Loa : OLA Z n0 h oa xa As) (Lob : OLA Z n0 h ob xb Bs) (Loc : OLA Z n0 h oc xc Cs) (he : ∀ i, As.count i + Bs.count i = Cs.count i) (hl : As.length + Bs.length = Cs.length) (hm : Cs.length ≤ 0), OGo p l e room_1 s m #[(.long v0), (.long v1), (.long v2), (.int v3), (.int v4)] below meth c n0 (OV fun w h => w = .int 1) h 6 84486 124 #[.val (.long v0), .second, .val (.long v1), .second, .val (.long v2), .second, .val (.int v3), .val (.int v4), .val (.long (v0 &&& (9223372036854775807 : Int64))), .second, .val (.long (v1 &&& (9223372036854775807 : Int64))), .second, .val (.long (v2 &&& (9223372036854775807 : Int64))), .second, .val (.int f0), .val (.int f1), .val (.int f2), .val (.int f3), .val (.int (((v3 &&& (2147483647 : Int32)) % (100 : Int32)) + (1 : Int32))), .val (.ref oa), .val (.ref ob), .val (.ref oc), .val (.long (Int64.ofNat As.length)), .second, .val (.long (Int64.ofNat Bs.length)), .second] [] by
    exact J124 h6 [] [] [] Z6 Loa_6 Lob_6 Loc (fun _ => rfl) rfl (Nat.le_refl 0)
  intro h As Bs Cs Zh Loa Lob Loc he hl hm
  suffices J149 : ∀ (h : Heap) (As Bs Cs : List Nat) (Zh : n0 ≤ h.size) (Loa : OLA Z n0 h oa xa As) (Lob : OLA Z n0 h ob xb Bs) (Loc : OLA Z n0 h oc xc Cs) (he : ∀ i, As.count i + Bs.count i = Cs.count i) (hl : As.length + Bs.length = Cs.length) (hm : Cs.length ≤ 1), OGo p l e room_1 s m #[(.long v0), (.long v1), (.long v2), (.int v3), (.int v4)] below meth c n0 (OV fun w h => w = .int 1) h 6 84486 149 #[.val (.long v0), .second, .val (.long v1), .second, .val (.long v2), .second, .val (.int v3), .val (.int v4), .val (.long (v0 &&& (9223372036854775807 : Int64))), .second, .val (.long (v1 &&& (9223372036854775807 : Int64))), .second, .val (.long (v2 &&& (9223372036854775807 : Int64))), .second, .val (.int f0), .val (.int f1), .val (.int f2), .val (.int f3), .val (.int (((v3 &&& (2147483647 : Int32)) % (100 : Int32)) + (1 : Int32))), .val (.ref oa), .val (.ref ob), .val (.ref oc), .val (.long (Int64.ofNat As.length)), .second, .val (.long (Int64.ofNat Bs.length)), .second] [] by
    refine OGo.iload K (pc' := 126) at_124 rfl rfl ?_
    refine OGo.ifEq K (pc' := 129) (pcY := 149) at_126 rfl (by decide) rfl (fun hc126 => ?_) (fun hc126 => ?_)
    · skip
      exact J149 h As Bs Cs Zh Loa Lob Loc he hl (by omega)
    · skip
      refine OGo.aload K (pc' := 131) at_129 rfl rfl rfl ?_
      refine OGo.lload K (pc' := 133) at_131 rfl rfl ?_
      refine OGo.callVN K (pc' := 136) (y := (⟨"com/example/intervale/intervale/bench/Latencies", "record", "(J)V"⟩ : MethodName)) (z := (⟨"com/example/intervale/intervale/bench/Latencies", "record", "(J)V"⟩ : MethodName)) (a := oa) (W := 0) (cells' := 6) (slots' := 84486) (argsL := [(.long (v0 &&& (9223372036854775807 : Int64)))]) (st := []) Loa.1 (hw _ (List.mem_of_getElem? (i := 14) rfl)) (hw _ (List.mem_of_getElem? (i := 15) rfl)) (notFace_of_selects (args := #[]) (mvT K.hZ (hw _ (List.mem_of_getElem? (i := 17) rfl)))) (hw _ (List.mem_of_getElem? (i := 17) rfl)) (hw _ (List.mem_of_getElem? (i := 16) rfl)) (hw _ (List.mem_of_getElem? (i := 4) rfl)) (hw _ (List.mem_of_getElem? (i := 18) rfl)) (by decide) (own_rm3 l Z a0 hw oa xa (v0 &&& (9223372036854775807 : Int64)) V0 As h n0 Zh hV0 Loa (by omega)) at_133 rfl rfl (lenOf own_pd7 rfl) (by show 2 * 0 + _ ≤ _; exact Nat.le_of_eq rfl) (by decide) (by decide) rfl rfl (by decide) (by decide) ?_
      rintro h7 ⟨Loa7, K7⟩
      have Z7 : n0 ≤ h7.size := Nat.le_trans Zh K7.1
      have Lob_7 := OLA.keep Lob K7 (ninS (Ne.symm ne_oa_ob) (ninS (Ne.symm ne_xa_ob) nin0)) (ninS (Ne.symm ne_oa_xb) (ninS (Ne.symm ne_xa_xb) nin0))
      have Loc_7 := OLA.keep Loc K7 (ninS (Ne.symm ne_oa_oc) (ninS (Ne.symm ne_xa_oc) nin0)) (ninS (Ne.symm ne_oa_xc) (ninS (Ne.symm ne_xa_xc) nin0))
      refine OGo.aload K (pc' := 138) at_136 rfl rfl rfl ?_
      refine OGo.lload K (pc' := 140) at_138 rfl rfl ?_
      refine OGo.callVN K (pc' := 143) (y := (⟨"com/example/intervale/intervale/bench/Latencies", "record", "(J)V"⟩ : MethodName)) (z := (⟨"com/example/intervale/intervale/bench/Latencies", "record", "(J)V"⟩ : MethodName)) (a := oc) (W := 0) (cells' := 6) (slots' := 84486) (argsL := [(.long (v0 &&& (9223372036854775807 : Int64)))]) (st := []) Loc_7.1 (hw _ (List.mem_of_getElem? (i := 14) rfl)) (hw _ (List.mem_of_getElem? (i := 15) rfl)) (notFace_of_selects (args := #[]) (mvT K.hZ (hw _ (List.mem_of_getElem? (i := 17) rfl)))) (hw _ (List.mem_of_getElem? (i := 17) rfl)) (hw _ (List.mem_of_getElem? (i := 16) rfl)) (hw _ (List.mem_of_getElem? (i := 4) rfl)) (hw _ (List.mem_of_getElem? (i := 18) rfl)) (by decide) (own_rm3 l Z a0 hw oc xc (v0 &&& (9223372036854775807 : Int64)) V0 Cs h7 n0 Z7 hV0 Loc_7 (by omega)) at_140 rfl rfl (lenOf own_pd7 rfl) (by show 2 * 0 + _ ≤ _; exact Nat.le_of_eq rfl) (by decide) (by decide) rfl rfl (by decide) (by decide) ?_
      rintro h8 ⟨Loc8, K8⟩
      have Z8 : n0 ≤ h8.size := Nat.le_trans Z7 K8.1
      have Lob_8 := OLA.keep Lob_7 K8 (ninS ne_ob_oc (ninS ne_ob_xc nin0)) (ninS ne_xb_oc (ninS ne_xb_xc nin0))
      have Loa7_8 := OLA.keep Loa7 K8 (ninS ne_oa_oc (ninS ne_oa_xc nin0)) (ninS ne_xa_oc (ninS ne_xa_xc nin0))
      refine OGo.lload K (pc' := 145) at_143 rfl rfl ?_
      refine OGo.lconst K (pc' := 146) (z := 1) at_145 rfl rfl ?_
      refine OGo.ladd K (pc' := 147) at_146 rfl ?_
      refine OGo.lstore K (pc' := 149) (Ls' := #[.val (.long v0), .second, .val (.long v1), .second, .val (.long v2), .second, .val (.int v3), .val (.int v4), .val (.long (v0 &&& (9223372036854775807 : Int64))), .second, .val (.long (v1 &&& (9223372036854775807 : Int64))), .second, .val (.long (v2 &&& (9223372036854775807 : Int64))), .second, .val (.int f0), .val (.int f1), .val (.int f2), .val (.int f3), .val (.int (((v3 &&& (2147483647 : Int32)) % (100 : Int32)) + (1 : Int32))), .val (.ref oa), .val (.ref ob), .val (.ref oc), .val (.long ((Int64.ofNat As.length) + (1 : Int64))), .second, .val (.long (Int64.ofNat Bs.length)), .second]) at_147 rfl rfl ?_
      rw [own_inc64 As.length (by omega)]
      exact J149 h8 ((own_bkt V0 (own_lg V0)) :: As) Bs ((own_bkt V0 (own_lg V0)) :: Cs) Z8 Loa7_8 Lob_8 Loc8 (fun i => by have := he i; rw [own_count_cons, own_count_cons]; omega) (by rw [List.length_cons, List.length_cons]; omega) (by rw [List.length_cons]; omega)
  intro h As Bs Cs Zh Loa Lob Loc he hl hm
  suffices J174 : ∀ (h : Heap) (As Bs Cs : List Nat) (Zh : n0 ≤ h.size) (Loa : OLA Z n0 h oa xa As) (Lob : OLA Z n0 h ob xb Bs) (Loc : OLA Z n0 h oc xc Cs) (he : ∀ i, As.count i + Bs.count i = Cs.count i) (hl : As.length + Bs.length = Cs.length) (hm : Cs.length ≤ 2), OGo p l e room_1 s m #[(.long v0), (.long v1), (.long v2), (.int v3), (.int v4)] below meth c n0 (OV fun w h => w = .int 1) h 6 84486 174 #[.val (.long v0), .second, .val (.long v1), .second, .val (.long v2), .second, .val (.int v3), .val (.int v4), .val (.long (v0 &&& (9223372036854775807 : Int64))), .second, .val (.long (v1 &&& (9223372036854775807 : Int64))), .second, .val (.long (v2 &&& (9223372036854775807 : Int64))), .second, .val (.int f0), .val (.int f1), .val (.int f2), .val (.int f3), .val (.int (((v3 &&& (2147483647 : Int32)) % (100 : Int32)) + (1 : Int32))), .val (.ref oa), .val (.ref ob), .val (.ref oc), .val (.long (Int64.ofNat As.length)), .second, .val (.long (Int64.ofNat Bs.length)), .second] [] by
    refine OGo.iload K (pc' := 151) at_149 rfl rfl ?_
    refine OGo.ifEq K (pc' := 154) (pcY := 174) at_151 rfl (by decide) rfl (fun hc151 => ?_) (fun hc151 => ?_)
    · skip
      exact J174 h As Bs Cs Zh Loa Lob Loc he hl (by omega)
    · skip
      refine OGo.aload K (pc' := 156) at_154 rfl rfl rfl ?_
      refine OGo.lload K (pc' := 158) at_156 rfl rfl ?_
      refine OGo.callVN K (pc' := 161) (y := (⟨"com/example/intervale/intervale/bench/Latencies", "record", "(J)V"⟩ : MethodName)) (z := (⟨"com/example/intervale/intervale/bench/Latencies", "record", "(J)V"⟩ : MethodName)) (a := ob) (W := 0) (cells' := 6) (slots' := 84486) (argsL := [(.long (v1 &&& (9223372036854775807 : Int64)))]) (st := []) Lob.1 (hw _ (List.mem_of_getElem? (i := 14) rfl)) (hw _ (List.mem_of_getElem? (i := 15) rfl)) (notFace_of_selects (args := #[]) (mvT K.hZ (hw _ (List.mem_of_getElem? (i := 17) rfl)))) (hw _ (List.mem_of_getElem? (i := 17) rfl)) (hw _ (List.mem_of_getElem? (i := 16) rfl)) (hw _ (List.mem_of_getElem? (i := 4) rfl)) (hw _ (List.mem_of_getElem? (i := 18) rfl)) (by decide) (own_rm3 l Z a0 hw ob xb (v1 &&& (9223372036854775807 : Int64)) V1 Bs h n0 Zh hV1 Lob (by omega)) at_158 rfl rfl (lenOf own_pd7 rfl) (by show 2 * 0 + _ ≤ _; exact Nat.le_of_eq rfl) (by decide) (by decide) rfl rfl (by decide) (by decide) ?_
      rintro h9 ⟨Lob9, K9⟩
      have Z9 : n0 ≤ h9.size := Nat.le_trans Zh K9.1
      have Loa_9 := OLA.keep Loa K9 (ninS ne_oa_ob (ninS ne_oa_xb nin0)) (ninS ne_xa_ob (ninS ne_xa_xb nin0))
      have Loc_9 := OLA.keep Loc K9 (ninS (Ne.symm ne_ob_oc) (ninS (Ne.symm ne_xb_oc) nin0)) (ninS (Ne.symm ne_ob_xc) (ninS (Ne.symm ne_xb_xc) nin0))
      refine OGo.aload K (pc' := 163) at_161 rfl rfl rfl ?_
      refine OGo.lload K (pc' := 165) at_163 rfl rfl ?_
      refine OGo.callVN K (pc' := 168) (y := (⟨"com/example/intervale/intervale/bench/Latencies", "record", "(J)V"⟩ : MethodName)) (z := (⟨"com/example/intervale/intervale/bench/Latencies", "record", "(J)V"⟩ : MethodName)) (a := oc) (W := 0) (cells' := 6) (slots' := 84486) (argsL := [(.long (v1 &&& (9223372036854775807 : Int64)))]) (st := []) Loc_9.1 (hw _ (List.mem_of_getElem? (i := 14) rfl)) (hw _ (List.mem_of_getElem? (i := 15) rfl)) (notFace_of_selects (args := #[]) (mvT K.hZ (hw _ (List.mem_of_getElem? (i := 17) rfl)))) (hw _ (List.mem_of_getElem? (i := 17) rfl)) (hw _ (List.mem_of_getElem? (i := 16) rfl)) (hw _ (List.mem_of_getElem? (i := 4) rfl)) (hw _ (List.mem_of_getElem? (i := 18) rfl)) (by decide) (own_rm3 l Z a0 hw oc xc (v1 &&& (9223372036854775807 : Int64)) V1 Cs h9 n0 Z9 hV1 Loc_9 (by omega)) at_165 rfl rfl (lenOf own_pd7 rfl) (by show 2 * 0 + _ ≤ _; exact Nat.le_of_eq rfl) (by decide) (by decide) rfl rfl (by decide) (by decide) ?_
      rintro h10 ⟨Loc10, K10⟩
      have Z10 : n0 ≤ h10.size := Nat.le_trans Z9 K10.1
      have Loa_10 := OLA.keep Loa_9 K10 (ninS ne_oa_oc (ninS ne_oa_xc nin0)) (ninS ne_xa_oc (ninS ne_xa_xc nin0))
      have Lob9_10 := OLA.keep Lob9 K10 (ninS ne_ob_oc (ninS ne_ob_xc nin0)) (ninS ne_xb_oc (ninS ne_xb_xc nin0))
      refine OGo.lload K (pc' := 170) at_168 rfl rfl ?_
      refine OGo.lconst K (pc' := 171) (z := 1) at_170 rfl rfl ?_
      refine OGo.ladd K (pc' := 172) at_171 rfl ?_
      refine OGo.lstore K (pc' := 174) (Ls' := #[.val (.long v0), .second, .val (.long v1), .second, .val (.long v2), .second, .val (.int v3), .val (.int v4), .val (.long (v0 &&& (9223372036854775807 : Int64))), .second, .val (.long (v1 &&& (9223372036854775807 : Int64))), .second, .val (.long (v2 &&& (9223372036854775807 : Int64))), .second, .val (.int f0), .val (.int f1), .val (.int f2), .val (.int f3), .val (.int (((v3 &&& (2147483647 : Int32)) % (100 : Int32)) + (1 : Int32))), .val (.ref oa), .val (.ref ob), .val (.ref oc), .val (.long (Int64.ofNat As.length)), .second, .val (.long ((Int64.ofNat Bs.length) + (1 : Int64))), .second]) at_172 rfl rfl ?_
      rw [own_inc64 Bs.length (by omega)]
      exact J174 h10 As ((own_bkt V1 (own_lg V1)) :: Bs) ((own_bkt V1 (own_lg V1)) :: Cs) Z10 Loa_10 Lob9_10 Loc10 (fun i => by have := he i; rw [own_count_cons, own_count_cons]; omega) (by rw [List.length_cons, List.length_cons]; omega) (by rw [List.length_cons]; omega)
  intro h As Bs Cs Zh Loa Lob Loc he hl hm
  suffices J220 : ∀ (h : Heap) (As Bs Cs : List Nat) (Zh : n0 ≤ h.size) (Loa : OLA Z n0 h oa xa As) (Lob : OLA Z n0 h ob xb Bs) (Loc : OLA Z n0 h oc xc Cs) (he : ∀ i, As.count i + Bs.count i = Cs.count i) (hl : As.length + Bs.length = Cs.length) (hm : Cs.length ≤ 3), OGo p l e room_1 s m #[(.long v0), (.long v1), (.long v2), (.int v3), (.int v4)] below meth c n0 (OV fun w h => w = .int 1) h 6 84486 220 #[.val (.long v0), .second, .val (.long v1), .second, .val (.long v2), .second, .val (.int v3), .val (.int v4), .val (.long (v0 &&& (9223372036854775807 : Int64))), .second, .val (.long (v1 &&& (9223372036854775807 : Int64))), .second, .val (.long (v2 &&& (9223372036854775807 : Int64))), .second, .val (.int f0), .val (.int f1), .val (.int f2), .val (.int f3), .val (.int (((v3 &&& (2147483647 : Int32)) % (100 : Int32)) + (1 : Int32))), .val (.ref oa), .val (.ref ob), .val (.ref oc), .val (.long (Int64.ofNat As.length)), .second, .val (.long (Int64.ofNat Bs.length)), .second] [] by
    refine OGo.iload K (pc' := 176) at_174 rfl rfl ?_
    refine OGo.ifEq K (pc' := 179) (pcY := 220) at_176 rfl (by decide) rfl (fun hc176 => ?_) (fun hc176 => ?_)
    · skip
      exact J220 h As Bs Cs Zh Loa Lob Loc he hl (by omega)
    · skip
      refine OGo.iload K (pc' := 181) at_179 rfl rfl ?_
      refine OGo.ifEq K (pc' := 184) (pcY := 200) at_181 rfl (by decide) rfl (fun hc181 => ?_) (fun hc181 => ?_)
      · skip
        refine OGo.aload K (pc' := 202) at_200 rfl rfl rfl ?_
        refine OGo.lload K (pc' := 204) at_202 rfl rfl ?_
        refine OGo.callVN K (pc' := 207) (y := (⟨"com/example/intervale/intervale/bench/Latencies", "record", "(J)V"⟩ : MethodName)) (z := (⟨"com/example/intervale/intervale/bench/Latencies", "record", "(J)V"⟩ : MethodName)) (a := ob) (W := 0) (cells' := 6) (slots' := 84486) (argsL := [(.long (v2 &&& (9223372036854775807 : Int64)))]) (st := []) Lob.1 (hw _ (List.mem_of_getElem? (i := 14) rfl)) (hw _ (List.mem_of_getElem? (i := 15) rfl)) (notFace_of_selects (args := #[]) (mvT K.hZ (hw _ (List.mem_of_getElem? (i := 17) rfl)))) (hw _ (List.mem_of_getElem? (i := 17) rfl)) (hw _ (List.mem_of_getElem? (i := 16) rfl)) (hw _ (List.mem_of_getElem? (i := 4) rfl)) (hw _ (List.mem_of_getElem? (i := 18) rfl)) (by decide) (own_rm3 l Z a0 hw ob xb (v2 &&& (9223372036854775807 : Int64)) V2 Bs h n0 Zh hV2 Lob (by omega)) at_204 rfl rfl (lenOf own_pd7 rfl) (by show 2 * 0 + _ ≤ _; exact Nat.le_of_eq rfl) (by decide) (by decide) rfl rfl (by decide) (by decide) ?_
        rintro h11 ⟨Lob11, K11⟩
        have Z11 : n0 ≤ h11.size := Nat.le_trans Zh K11.1
        have Loa_11 := OLA.keep Loa K11 (ninS ne_oa_ob (ninS ne_oa_xb nin0)) (ninS ne_xa_ob (ninS ne_xa_xb nin0))
        have Loc_11 := OLA.keep Loc K11 (ninS (Ne.symm ne_ob_oc) (ninS (Ne.symm ne_xb_oc) nin0)) (ninS (Ne.symm ne_ob_xc) (ninS (Ne.symm ne_xb_xc) nin0))
        refine OGo.lload K (pc' := 209) at_207 rfl rfl ?_
        refine OGo.lconst K (pc' := 210) (z := 1) at_209 rfl rfl ?_
        refine OGo.ladd K (pc' := 211) at_210 rfl ?_
        refine OGo.lstore K (pc' := 213) (Ls' := #[.val (.long v0), .second, .val (.long v1), .second, .val (.long v2), .second, .val (.int v3), .val (.int v4), .val (.long (v0 &&& (9223372036854775807 : Int64))), .second, .val (.long (v1 &&& (9223372036854775807 : Int64))), .second, .val (.long (v2 &&& (9223372036854775807 : Int64))), .second, .val (.int f0), .val (.int f1), .val (.int f2), .val (.int f3), .val (.int (((v3 &&& (2147483647 : Int32)) % (100 : Int32)) + (1 : Int32))), .val (.ref oa), .val (.ref ob), .val (.ref oc), .val (.long (Int64.ofNat As.length)), .second, .val (.long ((Int64.ofNat Bs.length) + (1 : Int64))), .second]) at_211 rfl rfl ?_
        refine OGo.aload K (pc' := 215) at_213 rfl rfl rfl ?_
        refine OGo.lload K (pc' := 217) at_215 rfl rfl ?_
        refine OGo.callVN K (pc' := 220) (y := (⟨"com/example/intervale/intervale/bench/Latencies", "record", "(J)V"⟩ : MethodName)) (z := (⟨"com/example/intervale/intervale/bench/Latencies", "record", "(J)V"⟩ : MethodName)) (a := oc) (W := 0) (cells' := 6) (slots' := 84486) (argsL := [(.long (v2 &&& (9223372036854775807 : Int64)))]) (st := []) Loc_11.1 (hw _ (List.mem_of_getElem? (i := 14) rfl)) (hw _ (List.mem_of_getElem? (i := 15) rfl)) (notFace_of_selects (args := #[]) (mvT K.hZ (hw _ (List.mem_of_getElem? (i := 17) rfl)))) (hw _ (List.mem_of_getElem? (i := 17) rfl)) (hw _ (List.mem_of_getElem? (i := 16) rfl)) (hw _ (List.mem_of_getElem? (i := 4) rfl)) (hw _ (List.mem_of_getElem? (i := 18) rfl)) (by decide) (own_rm3 l Z a0 hw oc xc (v2 &&& (9223372036854775807 : Int64)) V2 Cs h11 n0 Z11 hV2 Loc_11 (by omega)) at_217 rfl rfl (lenOf own_pd7 rfl) (by show 2 * 0 + _ ≤ _; exact Nat.le_of_eq rfl) (by decide) (by decide) rfl rfl (by decide) (by decide) ?_
        rintro h12 ⟨Loc12, K12⟩
        have Z12 : n0 ≤ h12.size := Nat.le_trans Z11 K12.1
        have Loa_12 := OLA.keep Loa_11 K12 (ninS ne_oa_oc (ninS ne_oa_xc nin0)) (ninS ne_xa_oc (ninS ne_xa_xc nin0))
        have Lob11_12 := OLA.keep Lob11 K12 (ninS ne_ob_oc (ninS ne_ob_xc nin0)) (ninS ne_xb_oc (ninS ne_xb_xc nin0))
        rw [own_inc64 Bs.length (by omega)]
        exact J220 h12 As ((own_bkt V2 (own_lg V2)) :: Bs) ((own_bkt V2 (own_lg V2)) :: Cs) Z12 Loa_12 Lob11_12 Loc12 (fun i => by have := he i; rw [own_count_cons, own_count_cons]; omega) (by rw [List.length_cons, List.length_cons]; omega) (by rw [List.length_cons]; omega)
      · skip
        refine OGo.aload K (pc' := 186) at_184 rfl rfl rfl ?_
        refine OGo.lload K (pc' := 188) at_186 rfl rfl ?_
        refine OGo.callVN K (pc' := 191) (y := (⟨"com/example/intervale/intervale/bench/Latencies", "record", "(J)V"⟩ : MethodName)) (z := (⟨"com/example/intervale/intervale/bench/Latencies", "record", "(J)V"⟩ : MethodName)) (a := oa) (W := 0) (cells' := 6) (slots' := 84486) (argsL := [(.long (v2 &&& (9223372036854775807 : Int64)))]) (st := []) Loa.1 (hw _ (List.mem_of_getElem? (i := 14) rfl)) (hw _ (List.mem_of_getElem? (i := 15) rfl)) (notFace_of_selects (args := #[]) (mvT K.hZ (hw _ (List.mem_of_getElem? (i := 17) rfl)))) (hw _ (List.mem_of_getElem? (i := 17) rfl)) (hw _ (List.mem_of_getElem? (i := 16) rfl)) (hw _ (List.mem_of_getElem? (i := 4) rfl)) (hw _ (List.mem_of_getElem? (i := 18) rfl)) (by decide) (own_rm3 l Z a0 hw oa xa (v2 &&& (9223372036854775807 : Int64)) V2 As h n0 Zh hV2 Loa (by omega)) at_188 rfl rfl (lenOf own_pd7 rfl) (by show 2 * 0 + _ ≤ _; exact Nat.le_of_eq rfl) (by decide) (by decide) rfl rfl (by decide) (by decide) ?_
        rintro h13 ⟨Loa13, K13⟩
        have Z13 : n0 ≤ h13.size := Nat.le_trans Zh K13.1
        have Lob_13 := OLA.keep Lob K13 (ninS (Ne.symm ne_oa_ob) (ninS (Ne.symm ne_xa_ob) nin0)) (ninS (Ne.symm ne_oa_xb) (ninS (Ne.symm ne_xa_xb) nin0))
        have Loc_13 := OLA.keep Loc K13 (ninS (Ne.symm ne_oa_oc) (ninS (Ne.symm ne_xa_oc) nin0)) (ninS (Ne.symm ne_oa_xc) (ninS (Ne.symm ne_xa_xc) nin0))
        refine OGo.lload K (pc' := 193) at_191 rfl rfl ?_
        refine OGo.lconst K (pc' := 194) (z := 1) at_193 rfl rfl ?_
        refine OGo.ladd K (pc' := 195) at_194 rfl ?_
        refine OGo.lstore K (pc' := 197) (Ls' := #[.val (.long v0), .second, .val (.long v1), .second, .val (.long v2), .second, .val (.int v3), .val (.int v4), .val (.long (v0 &&& (9223372036854775807 : Int64))), .second, .val (.long (v1 &&& (9223372036854775807 : Int64))), .second, .val (.long (v2 &&& (9223372036854775807 : Int64))), .second, .val (.int f0), .val (.int f1), .val (.int f2), .val (.int f3), .val (.int (((v3 &&& (2147483647 : Int32)) % (100 : Int32)) + (1 : Int32))), .val (.ref oa), .val (.ref ob), .val (.ref oc), .val (.long ((Int64.ofNat As.length) + (1 : Int64))), .second, .val (.long (Int64.ofNat Bs.length)), .second]) at_195 rfl rfl ?_
        refine OGo.goto K (pc' := 213) at_197 (by decide) rfl ?_
        refine OGo.aload K (pc' := 215) at_213 rfl rfl rfl ?_
        refine OGo.lload K (pc' := 217) at_215 rfl rfl ?_
        refine OGo.callVN K (pc' := 220) (y := (⟨"com/example/intervale/intervale/bench/Latencies", "record", "(J)V"⟩ : MethodName)) (z := (⟨"com/example/intervale/intervale/bench/Latencies", "record", "(J)V"⟩ : MethodName)) (a := oc) (W := 0) (cells' := 6) (slots' := 84486) (argsL := [(.long (v2 &&& (9223372036854775807 : Int64)))]) (st := []) Loc_13.1 (hw _ (List.mem_of_getElem? (i := 14) rfl)) (hw _ (List.mem_of_getElem? (i := 15) rfl)) (notFace_of_selects (args := #[]) (mvT K.hZ (hw _ (List.mem_of_getElem? (i := 17) rfl)))) (hw _ (List.mem_of_getElem? (i := 17) rfl)) (hw _ (List.mem_of_getElem? (i := 16) rfl)) (hw _ (List.mem_of_getElem? (i := 4) rfl)) (hw _ (List.mem_of_getElem? (i := 18) rfl)) (by decide) (own_rm3 l Z a0 hw oc xc (v2 &&& (9223372036854775807 : Int64)) V2 Cs h13 n0 Z13 hV2 Loc_13 (by omega)) at_217 rfl rfl (lenOf own_pd7 rfl) (by show 2 * 0 + _ ≤ _; exact Nat.le_of_eq rfl) (by decide) (by decide) rfl rfl (by decide) (by decide) ?_
        rintro h14 ⟨Loc14, K14⟩
        have Z14 : n0 ≤ h14.size := Nat.le_trans Z13 K14.1
        have Lob_14 := OLA.keep Lob_13 K14 (ninS ne_ob_oc (ninS ne_ob_xc nin0)) (ninS ne_xb_oc (ninS ne_xb_xc nin0))
        have Loa13_14 := OLA.keep Loa13 K14 (ninS ne_oa_oc (ninS ne_oa_xc nin0)) (ninS ne_xa_oc (ninS ne_xa_xc nin0))
        rw [own_inc64 As.length (by omega)]
        exact J220 h14 ((own_bkt V2 (own_lg V2)) :: As) Bs ((own_bkt V2 (own_lg V2)) :: Cs) Z14 Loa13_14 Lob_14 Loc14 (fun i => by have := he i; rw [own_count_cons, own_count_cons]; omega) (by rw [List.length_cons, List.length_cons]; omega) (by rw [List.length_cons]; omega)
  intro h As Bs Cs Zh Loa Lob Loc he hl hm
  refine OGo.aload K (pc' := 222) at_220 rfl rfl rfl ?_
  refine OGo.aload K (pc' := 224) at_222 rfl rfl rfl ?_
  refine OGo.callVN K (pc' := 227) (y := (⟨"com/example/intervale/intervale/bench/Latencies", "add", "(Lcom/example/intervale/intervale/bench/Latencies;)V"⟩ : MethodName)) (z := (⟨"com/example/intervale/intervale/bench/Latencies", "add", "(Lcom/example/intervale/intervale/bench/Latencies;)V"⟩ : MethodName)) (a := oa) (W := 0) (cells' := 6) (slots' := 84486) (argsL := [(.ref ob)]) (st := []) Loa.1 (hw _ (List.mem_of_getElem? (i := 25) rfl)) (hw _ (List.mem_of_getElem? (i := 26) rfl)) (notFace_of_selects (args := #[]) (mvT K.hZ (hw _ (List.mem_of_getElem? (i := 28) rfl)))) (hw _ (List.mem_of_getElem? (i := 28) rfl)) (hw _ (List.mem_of_getElem? (i := 27) rfl)) (hw _ (List.mem_of_getElem? (i := 4) rfl)) (hw _ (List.mem_of_getElem? (i := 29) rfl)) (by decide) (own_rm5 l Z a0 hw oa xa ob xb As Bs h n0 Zh Loa Lob (by omega) ne_oa_ob ne_oa_xb ne_xa_ob ne_xa_xb) at_224 rfl rfl (lenOf own_pd8 rfl) (by show 2 * 0 + _ ≤ _; exact Nat.le_of_eq rfl) (by decide) (by decide) rfl rfl (by decide) (by decide) ?_
  rintro h15 ⟨Loa15, K15⟩
  have Z15 : n0 ≤ h15.size := Nat.le_trans Zh K15.1
  have Lob_15 := OLA.keep Lob K15 (ninS (Ne.symm ne_oa_ob) (ninS (Ne.symm ne_xa_ob) nin0)) (ninS (Ne.symm ne_oa_xb) (ninS (Ne.symm ne_xa_xb) nin0))
  have Loc_15 := OLA.keep Loc K15 (ninS (Ne.symm ne_oa_oc) (ninS (Ne.symm ne_xa_oc) nin0)) (ninS (Ne.symm ne_oa_xc) (ninS (Ne.symm ne_xa_xc) nin0))
  refine OGo.aload K (pc' := 229) at_227 rfl rfl rfl ?_
  refine OGo.callVV K (pc' := 232) (y := (⟨"com/example/intervale/intervale/bench/Latencies", "count", "()J"⟩ : MethodName)) (z := (⟨"com/example/intervale/intervale/bench/Latencies", "count", "()J"⟩ : MethodName)) (a := oa) (W := 0) (cells' := 6) (slots' := 84486) (argsL := []) (st := []) Loa15.1 (hw _ (List.mem_of_getElem? (i := 30) rfl)) (hw _ (List.mem_of_getElem? (i := 31) rfl)) (notFace_of_selects (args := #[]) (mvT K.hZ (hw _ (List.mem_of_getElem? (i := 33) rfl)))) (hw _ (List.mem_of_getElem? (i := 33) rfl)) (hw _ (List.mem_of_getElem? (i := 32) rfl)) (hw _ (List.mem_of_getElem? (i := 4) rfl)) (hw _ (List.mem_of_getElem? (i := 34) rfl)) (by decide) (own_rm6 l Z a0 hw oa _ h15 n0 Z15 Loa15.2.2.1) at_229 rfl rfl (lenOf own_pd9 rfl) (by show 2 * 0 + _ ≤ _; exact Nat.le_of_eq rfl) (by decide) (by decide) rfl rfl (by decide) (by decide) ?_
  rintro _ h16 ⟨rfl, e16⟩
  rw [e16]
  show OGo p l e _ s m _ below meth c n0 _ h15 6 84486 232 #[.val (.long v0), .second, .val (.long v1), .second, .val (.long v2), .second, .val (.int v3), .val (.int v4), .val (.long (v0 &&& (9223372036854775807 : Int64))), .second, .val (.long (v1 &&& (9223372036854775807 : Int64))), .second, .val (.long (v2 &&& (9223372036854775807 : Int64))), .second, .val (.int f0), .val (.int f1), .val (.int f2), .val (.int f3), .val (.int (((v3 &&& (2147483647 : Int32)) % (100 : Int32)) + (1 : Int32))), .val (.ref oa), .val (.ref ob), .val (.ref oc), .val (.long (Int64.ofNat As.length)), .second, .val (.long (Int64.ofNat Bs.length)), .second] [(.long (Int64.ofNat (As ++ Bs).length))]
  refine OGo.lload K (pc' := 234) at_232 rfl rfl ?_
  refine OGo.lload K (pc' := 236) at_234 rfl rfl ?_
  refine OGo.ladd K (pc' := 237) at_236 rfl ?_
  refine OGo.lcmpNe K (pc' := 241) (pcY := 274) at_237 rfl at_238 rfl (by decide) rfl (fun hc237 => absurd (by rw [List.length_append, own_o64 _ _ (by omega)] : (Int64.ofNat (As ++ Bs).length) = ((Int64.ofNat As.length) + (Int64.ofNat Bs.length))) hc237) (fun hc237 => ?_)
  refine OGo.aload K (pc' := 243) at_241 rfl rfl rfl ?_
  refine OGo.callVV K (pc' := 246) (y := (⟨"com/example/intervale/intervale/bench/Latencies", "count", "()J"⟩ : MethodName)) (z := (⟨"com/example/intervale/intervale/bench/Latencies", "count", "()J"⟩ : MethodName)) (a := ob) (W := 0) (cells' := 6) (slots' := 84486) (argsL := []) (st := []) Lob_15.1 (hw _ (List.mem_of_getElem? (i := 30) rfl)) (hw _ (List.mem_of_getElem? (i := 31) rfl)) (notFace_of_selects (args := #[]) (mvT K.hZ (hw _ (List.mem_of_getElem? (i := 33) rfl)))) (hw _ (List.mem_of_getElem? (i := 33) rfl)) (hw _ (List.mem_of_getElem? (i := 32) rfl)) (hw _ (List.mem_of_getElem? (i := 4) rfl)) (hw _ (List.mem_of_getElem? (i := 34) rfl)) (by decide) (own_rm6 l Z a0 hw ob _ h15 n0 Z15 Lob_15.2.2.1) at_243 rfl rfl (lenOf own_pd9 rfl) (by show 2 * 0 + _ ≤ _; exact Nat.le_of_eq rfl) (by decide) (by decide) rfl rfl (by decide) (by decide) ?_
  rintro _ h17 ⟨rfl, e17⟩
  rw [e17]
  show OGo p l e _ s m _ below meth c n0 _ h15 6 84486 246 #[.val (.long v0), .second, .val (.long v1), .second, .val (.long v2), .second, .val (.int v3), .val (.int v4), .val (.long (v0 &&& (9223372036854775807 : Int64))), .second, .val (.long (v1 &&& (9223372036854775807 : Int64))), .second, .val (.long (v2 &&& (9223372036854775807 : Int64))), .second, .val (.int f0), .val (.int f1), .val (.int f2), .val (.int f3), .val (.int (((v3 &&& (2147483647 : Int32)) % (100 : Int32)) + (1 : Int32))), .val (.ref oa), .val (.ref ob), .val (.ref oc), .val (.long (Int64.ofNat As.length)), .second, .val (.long (Int64.ofNat Bs.length)), .second] [(.long (Int64.ofNat Bs.length))]
  refine OGo.lload K (pc' := 248) at_246 rfl rfl ?_
  refine OGo.lcmpNe K (pc' := 252) (pcY := 274) at_248 rfl at_249 rfl (by decide) rfl (fun hc248 => absurd (rfl : (Int64.ofNat Bs.length) = (Int64.ofNat Bs.length)) hc248) (fun hc248 => ?_)
  refine OGo.aload K (pc' := 254) at_252 rfl rfl rfl ?_
  refine OGo.iload K (pc' := 256) at_254 rfl rfl ?_
  refine OGo.callVV K (pc' := 259) (y := (⟨"com/example/intervale/intervale/bench/Latencies", "percentile", "(I)J"⟩ : MethodName)) (z := (⟨"com/example/intervale/intervale/bench/Latencies", "percentile", "(I)J"⟩ : MethodName)) (a := oa) (W := 0) (cells' := 6) (slots' := 84486) (argsL := [(.int (((v3 &&& (2147483647 : Int32)) % (100 : Int32)) + (1 : Int32)))]) (st := []) Loa15.1 (hw _ (List.mem_of_getElem? (i := 35) rfl)) (hw _ (List.mem_of_getElem? (i := 36) rfl)) (notFace_of_selects (args := #[]) (mvT K.hZ (hw _ (List.mem_of_getElem? (i := 38) rfl)))) (hw _ (List.mem_of_getElem? (i := 38) rfl)) (hw _ (List.mem_of_getElem? (i := 37) rfl)) (hw _ (List.mem_of_getElem? (i := 4) rfl)) (hw _ (List.mem_of_getElem? (i := 39) rfl)) (by decide) (own_rm7 l Z a0 hw oa xa (((v3 &&& (2147483647 : Int32)) % (100 : Int32)) + (1 : Int32)) (As ++ Bs) h15 n0 Z15 Loa15 (by rw [List.length_append]; omega) hp1 hp2) at_256 rfl rfl (lenOf own_pd5 rfl) (by show 2 * 0 + _ ≤ _; exact Nat.le_of_eq rfl) (by decide) (by decide) rfl rfl (by decide) (by decide) ?_
  rintro _ h18 ⟨rfl, e18⟩
  rw [e18]
  show OGo p l e _ s m _ below meth c n0 _ h15 6 84486 259 #[.val (.long v0), .second, .val (.long v1), .second, .val (.long v2), .second, .val (.int v3), .val (.int v4), .val (.long (v0 &&& (9223372036854775807 : Int64))), .second, .val (.long (v1 &&& (9223372036854775807 : Int64))), .second, .val (.long (v2 &&& (9223372036854775807 : Int64))), .second, .val (.int f0), .val (.int f1), .val (.int f2), .val (.int f3), .val (.int (((v3 &&& (2147483647 : Int32)) % (100 : Int32)) + (1 : Int32))), .val (.ref oa), .val (.ref ob), .val (.ref oc), .val (.long (Int64.ofNat As.length)), .second, .val (.long (Int64.ofNat Bs.length)), .second] [(.long (own_mid (Int32.ofNat (own_find (As ++ Bs) (((((v3 &&& (2147483647 : Int32)) % (100 : Int32)) + (1 : Int32)).toInt.toNat * (As ++ Bs).length + 99) / 100) 28160 0 0))))]
  refine OGo.aload K (pc' := 261) at_259 rfl rfl rfl ?_
  refine OGo.iload K (pc' := 263) at_261 rfl rfl ?_
  refine OGo.callVV K (pc' := 266) (y := (⟨"com/example/intervale/intervale/bench/Latencies", "percentile", "(I)J"⟩ : MethodName)) (z := (⟨"com/example/intervale/intervale/bench/Latencies", "percentile", "(I)J"⟩ : MethodName)) (a := oc) (W := 2) (cells' := 6) (slots' := 84486) (argsL := [(.int (((v3 &&& (2147483647 : Int32)) % (100 : Int32)) + (1 : Int32)))]) (st := [(.long (own_mid (Int32.ofNat (own_find (As ++ Bs) (((((v3 &&& (2147483647 : Int32)) % (100 : Int32)) + (1 : Int32)).toInt.toNat * (As ++ Bs).length + 99) / 100) 28160 0 0))))]) Loc_15.1 (hw _ (List.mem_of_getElem? (i := 35) rfl)) (hw _ (List.mem_of_getElem? (i := 36) rfl)) (notFace_of_selects (args := #[]) (mvT K.hZ (hw _ (List.mem_of_getElem? (i := 38) rfl)))) (hw _ (List.mem_of_getElem? (i := 38) rfl)) (hw _ (List.mem_of_getElem? (i := 37) rfl)) (hw _ (List.mem_of_getElem? (i := 4) rfl)) (hw _ (List.mem_of_getElem? (i := 39) rfl)) (by decide) (own_rm7 l Z a0 hw oc xc (((v3 &&& (2147483647 : Int32)) % (100 : Int32)) + (1 : Int32)) Cs h15 n0 Z15 Loc_15 (by omega) hp1 hp2) at_263 rfl rfl (lenOf own_pd5 rfl) (by show 2 * 0 + _ ≤ _; exact Nat.le_of_eq rfl) (by decide) (by decide) rfl rfl (by decide) (by decide) ?_
  rintro _ h19 ⟨rfl, e19⟩
  rw [e19]
  show OGo p l e _ s m _ below meth c n0 _ h15 6 84486 266 #[.val (.long v0), .second, .val (.long v1), .second, .val (.long v2), .second, .val (.int v3), .val (.int v4), .val (.long (v0 &&& (9223372036854775807 : Int64))), .second, .val (.long (v1 &&& (9223372036854775807 : Int64))), .second, .val (.long (v2 &&& (9223372036854775807 : Int64))), .second, .val (.int f0), .val (.int f1), .val (.int f2), .val (.int f3), .val (.int (((v3 &&& (2147483647 : Int32)) % (100 : Int32)) + (1 : Int32))), .val (.ref oa), .val (.ref ob), .val (.ref oc), .val (.long (Int64.ofNat As.length)), .second, .val (.long (Int64.ofNat Bs.length)), .second] [(.long (own_mid (Int32.ofNat (own_find Cs (((((v3 &&& (2147483647 : Int32)) % (100 : Int32)) + (1 : Int32)).toInt.toNat * Cs.length + 99) / 100) 28160 0 0)))), (.long (own_mid (Int32.ofNat (own_find (As ++ Bs) (((((v3 &&& (2147483647 : Int32)) % (100 : Int32)) + (1 : Int32)).toInt.toNat * (As ++ Bs).length + 99) / 100) 28160 0 0))))]
  refine OGo.lcmpNe K (pc' := 270) (pcY := 274) at_266 rfl at_267 rfl (by decide) rfl (fun hc266 => absurd (by rw [List.length_append, hl, own_find_congr (as := As ++ Bs) (bs := Cs) (fun i => by rw [List.count_append]; exact he i)] : (own_mid (Int32.ofNat (own_find (As ++ Bs) (((((v3 &&& (2147483647 : Int32)) % (100 : Int32)) + (1 : Int32)).toInt.toNat * (As ++ Bs).length + 99) / 100) 28160 0 0))) = (own_mid (Int32.ofNat (own_find Cs (((((v3 &&& (2147483647 : Int32)) % (100 : Int32)) + (1 : Int32)).toInt.toNat * Cs.length + 99) / 100) 28160 0 0)))) hc266) (fun hc266 => ?_)
  refine OGo.iconst K (pc' := 271) (z := 1) at_270 rfl rfl ?_
  refine OGo.goto K (pc' := 275) at_271 (by decide) rfl ?_
  exact OGo.ret K at_275 rfl (Or.inl ⟨rfl, by simp, _, rfl⟩) (by decide) (by decide) ⟨_, rfl, rfl⟩
set_option maxRecDepth 65536 in
set_option maxHeartbeats 40000000 in
theorem own_comes {Post : Tables → Env → Array Value → State → Outcome → State → Prop} (hpost : ∀ tb e args s v u, (limb_1_1.after args s (.returned v) u = true ∧ limb_1_2.after args s (.returned v) u = true ∧ True) → FrameEnd s (.returned v) u (Jvm.fieldLocs frame_1_writes args s ++ Jvm.arrayLocs frame_1_arrays args s ++ Jvm.staticLocs frame_1_statics s) 24 169088 → Post tb e args s (.returned v) u) :
    ArmFor flags0 classFile x code maxLocals ret World_1 tables_1 room_1 Calls_1 rest_1 Pre_1 Post := by
  intro l hfl _ _ p e ha hc hk s m args below hf hA hF happ hP
  obtain ⟨hcalls, hrest, hpre⟩ := hP
  obtain ⟨-, -, -, hnamed, -, -, -, hat⟩ := (Spec.applies_iff hf).mp happ
  obtain ⟨hg, hn⟩ := and_e (Cond.before_iff.mp (show (Jvm.Cond.and given_1 narrow_1).before args s = true from hpre))
  obtain ⟨gg1, gg2⟩ := and_e hg
  obtain ⟨gg3, gg4⟩ := and_e gg2
  obtain ⟨gg5, gg6⟩ := and_e gg4
  obtain ⟨gg7, gg8⟩ := and_e gg6
  obtain ⟨gg9, gg10⟩ := and_e gg8
  obtain ⟨w0, w1, w2, w3, w4, rfl⟩ : ∃ w0 w1 w2 w3 w4 : Value, args = #[w0, w1, w2, w3, w4] := by
    have hs : args.size = 5 := by simpa [Cond.value, given_1] using gg1
    obtain ⟨L⟩ := args
    match L, hs with
    | [w0, w1, w2, w3, w4], _ => exact ⟨w0, w1, w2, w3, w4, rfl⟩
  have hw := fun d (hd : d ∈ tables_1) => atoms_spec (ws := Jvm.Cond.code x code maxLocals ret :: tables_1) hat d (List.mem_cons_of_mem _ hd)
  have hfit : Fit s := fun {y c} hc i hi => by
    obtain ⟨ha, rfl⟩ := Array.getElem?_eq_some_iff.mp hc
    have q := List.all_eq_true.mp ((Array.all_eq_true_iff_forall_mem.mp hF) _ (Array.getElem_mem ha)) i (List.mem_range.mpr hi)
    simpa [Array.getElem?_eq_getElem hi] using q
  obtain ⟨i0, ei0⟩ := isL_v gg3
  obtain rfl : w0 = (.long i0) := Option.some.inj ei0
  obtain ⟨i1, ei1⟩ := isL_v gg5
  obtain rfl : w1 = (.long i1) := Option.some.inj ei1
  obtain ⟨i2, ei2⟩ := isL_v gg7
  obtain rfl : w2 = (.long i2) := Option.some.inj ei2
  obtain ⟨i3, ei3⟩ := is_v gg9
  obtain rfl : w3 = (.int i3) := Option.some.inj ei3
  obtain ⟨i4, ei4⟩ := is_v gg10
  obtain rfl : w4 = (.int i4) := Option.some.inj ei4
  obtain ⟨n, o, h1, h2, h3, _, L, rfl, ⟨⟨_, rfl, rfl⟩, N⟩, hq⟩ := own_rm0 l s _ hw tables_1 i0 i1 i2 i3 i4  s.heap s.heap.size (Nat.le_refl _)  p e ha hc hk s m _ below hf ((Spec.applies_iff_loose hf).mp happ).1 ⟨rfl, State.Warmed39.refl s, rfl⟩ trivial
  refine ⟨n, _, h1, h2, h3, hpost _ _ _ _ _ _ ⟨Cond.after_iff.mpr rfl, Cond.after_iff.mpr (eq_i res_at (Term.int_eval (1)) rfl), trivial⟩ ⟨hq.1, hq.2.1, (hq.2.2.sift fun y hy => Or.inr (N y hy)).mono (by decide) (by decide)⟩⟩
theorem main_1_1 : Claimed_1_1 := own_comes fun _ _ _ _ _ _ h hF => ⟨h.1, hF⟩
theorem main_1_2 : Claimed_1_2 := own_comes fun _ _ _ _ _ _ h hF => ⟨h.2.1, hF⟩
end Jvm.Pilot.@@N@@
namespace Jvm.Pilot.@@N@@
open Jvm Jvm.ClassFile Sem Op Lib Jvm.Free Jvm.Stand Jvm.Pilot.@@N@@.Jvm.D
/-! MADE BY PROGRAM (witnessworld.py) out of the Statement's table words and the real class files: 17 classes; the members and pool entries that the words name. The judged class is class 1, her method 1. -/
namespace start1
open Jvm.ClassFile
def u (s : String) : CpInfo := .utf8 (stringToUtf16 s)
/-- a pool by its gaps: so many unusable entries, then the entry; so many at the end -/
def gap : Nat → List CpInfo → List CpInfo
  | 0, r => r
  | n + 1, r => .unusable :: gap n r
def poolList (es : List (Nat × CpInfo)) (last : Nat) : List CpInfo := es.foldr (fun e r => gap e.1 (e.2 :: r)) (gap last [])
def pool (es : List (Nat × CpInfo)) (last : Nat) : Array CpInfo := ⟨poolList es last⟩
def fileOf (pool : Array CpInfo) (this : Nat) (attrs : Array Attribute := #[]) (ms : Array MethodInfo := #[]) (fl : Nat := 33) (sup : Nat := 0) (ifs : Array Nat := #[]) (fds : Array FieldInfo := #[]) : ClassFile where
  minorVersion := 0
  majorVersion := 65
  constantPool := pool
  accessFlags := fl
  thisClass := this
  superClass := sup
  interfaces := ifs
  fields := fds
  methods := ms
  attributes := attrs
def plain (name : String) (sup : Option ClassId) : Class where
  name := name
  kind := .ordinary
  loader := none
  accessFlags := 33
  super := sup
  interfaces := #[]
  cf := none
  fields := #[]
  methods := #[]
  instanceTypes := #[]
  staticTypes := #[]
  resolved := #[]
  callSites := []
  init := .initialized
  statics := none
  mirror := none

def pool0 : Array CpInfo := pool [(5, u "<init>"), (0, u "()V"), (1, .class_ 10), (1, u "java/lang/Object")] 113

def k0c0 : Code := { maxStack := 0, maxLocals := 1, code := object_method_1_code, exceptionTable := #[], attributes := #[] }
def k0m0 : Method := { name := "<init>", desc := "()V", sig := { parameters := [], returnType := none }, accessFlags := 1, code := some k0c0 }
/-- java/lang/Object -/
def k0 : Class := { plain "java/lang/Object" none with
  accessFlags := 33
  interfaces := #[]
  cf := some (fileOf pool0 8 #[] #[{ accessFlags := 1, nameIndex := 5, descriptorIndex := 6, attributes := #[] }] 33 0 #[] #[])
  fields := #[]
  methods := #[k0m0]
  instanceTypes := #[]
  staticTypes := #[]
  resolved := Array.replicate 124 none
  statics := none }

def pool1 : Array CpInfo := pool [(2, .class_ 4), (0, .nameAndType 5 6), (0, u "java/lang/Object"), (0, u "<init>"), (0, u "()V"), (2, .long 9223372036854775807), (1, .integer 2147483647), (0, .class_ 13), (0, u "com/example/intervale/intervale/bench/Latencies"), (0, .methodref 12 3), (0, .methodref 12 16), (0, .nameAndType 17 18), (0, u "record"), (0, u "(J)V"), (0, .methodref 12 20), (0, .nameAndType 21 22), (0, u "add"), (0, u "(Lcom/example/intervale/intervale/bench/Latencies;)V"), (0, .methodref 12 24), (0, .nameAndType 25 26), (0, u "count"), (0, u "()J"), (0, .methodref 12 28), (0, .nameAndType 29 30), (0, u "percentile"), (0, u "(I)J"), (0, .class_ 32), (0, u "com/example/intervale/intervale/bench/LatenciesAddPinLaw"), (2, u "law"), (0, u "(JJJII)Z")] 3

def k1m0 : Method := { name := "<init>", desc := "()V", sig := { parameters := [], returnType := none }, accessFlags := 1, code := none }
def k1c1 : Code := { maxStack := 6, maxLocals := 26, code := code, exceptionTable := #[], attributes := #[] }
def k1m1 : Method := { name := "law", desc := "(JJJII)Z", sig := { parameters := [.long, .long, .long, .int, .int], returnType := some .boolean }, accessFlags := 9, code := some k1c1 }
/-- com/example/intervale/intervale/bench/LatenciesAddPinLaw -/
def k1 : Class := { plain "com/example/intervale/intervale/bench/LatenciesAddPinLaw" (some 0) with
  accessFlags := 49
  interfaces := #[]
  cf := some (fileOf pool1 31 #[] #[{ accessFlags := 1, nameIndex := 5, descriptorIndex := 6, attributes := #[] }, { accessFlags := 9, nameIndex := 35, descriptorIndex := 36, attributes := #[] }] 49 2 #[] #[])
  fields := #[]
  methods := #[k1m0, k1m1]
  instanceTypes := #[]
  staticTypes := #[]
  resolved := Array.replicate 40 none
  statics := none }

def pool2 : Array CpInfo := pool [(1, .class_ 2), (0, u "com/example/intervale/intervale/bench/Latencies"), (0, .methodref 4 5), (0, .class_ 6), (0, .nameAndType 7 8), (0, u "java/lang/Object"), (0, u "<init>"), (0, u "()V"), (0, .fieldref 1 10), (0, .nameAndType 11 12), (0, u "counts"), (0, u "[J"), (9, .methodref 1 23), (0, .nameAndType 24 25), (0, u "bucket"), (0, u "(J)I"), (0, .fieldref 1 27), (0, .nameAndType 28 29), (0, u "count"), (0, u "J"), (3, .long 99), (1, .long 100), (1, .methodref 1 38), (0, .nameAndType 39 40), (0, u "middle"), (0, u "(I)J"), (0, .long 1024), (1, .methodref 44 45), (0, .class_ 46), (0, .nameAndType 47 25), (0, u "java/lang/Long"), (0, u "numberOfLeadingZeros"), (0, .long 2), (1, u "EXACT_BITS"), (0, u "I"), (2, u "EXACT"), (1, u "HALF"), (1, u "BUCKETS"), (3, u "record"), (0, u "(J)V"), (1, u "add"), (0, u "(Lcom/example/intervale/intervale/bench/Latencies;)V"), (0, u "()J"), (0, u "percentile")] 19

def k2c0 : Code := { maxStack := 2, maxLocals := 1, code := prog_8_method_1_code, exceptionTable := #[], attributes := #[] }
def k2m0 : Method := { name := "<init>", desc := "()V", sig := { parameters := [], returnType := none }, accessFlags := 1, code := some k2c0 }
def k2c1 : Code := { maxStack := 6, maxLocals := 3, code := prog_8_method_2_code, exceptionTable := #[], attributes := #[] }
def k2m1 : Method := { name := "record", desc := "(J)V", sig := { parameters := [.long], returnType := none }, accessFlags := 1, code := some k2c1 }
def k2c2 : Code := { maxStack := 6, maxLocals := 3, code := prog_8_method_3_code, exceptionTable := #[], attributes := #[] }
def k2m2 : Method := { name := "add", desc := "(Lcom/example/intervale/intervale/bench/Latencies;)V", sig := { parameters := [(.object "com/example/intervale/intervale/bench/Latencies")], returnType := none }, accessFlags := 1, code := some k2c2 }
def k2c3 : Code := { maxStack := 2, maxLocals := 1, code := prog_8_method_4_code, exceptionTable := #[], attributes := #[] }
def k2m3 : Method := { name := "count", desc := "()J", sig := { parameters := [], returnType := some .long }, accessFlags := 1, code := some k2c3 }
def k2c4 : Code := { maxStack := 4, maxLocals := 7, code := prog_8_method_5_code, exceptionTable := #[], attributes := #[] }
def k2m4 : Method := { name := "percentile", desc := "(I)J", sig := { parameters := [.int], returnType := some .long }, accessFlags := 1, code := some k2c4 }
def k2c5 : Code := { maxStack := 4, maxLocals := 3, code := prog_8_method_6_code, exceptionTable := #[], attributes := #[] }
def k2m5 : Method := { name := "bucket", desc := "(J)I", sig := { parameters := [.long], returnType := some .int }, accessFlags := 10, code := some k2c5 }
def k2c6 : Code := { maxStack := 6, maxLocals := 5, code := prog_8_method_7_code, exceptionTable := #[], attributes := #[] }
def k2m6 : Method := { name := "middle", desc := "(I)J", sig := { parameters := [.int], returnType := some .long }, accessFlags := 10, code := some k2c6 }
/-- com/example/intervale/intervale/bench/Latencies -/
def k2 : Class := { plain "com/example/intervale/intervale/bench/Latencies" (some 0) with
  accessFlags := 49
  interfaces := #[]
  cf := some (fileOf pool2 1 #[] #[{ accessFlags := 1, nameIndex := 7, descriptorIndex := 8, attributes := #[] }, { accessFlags := 1, nameIndex := 62, descriptorIndex := 63, attributes := #[] }, { accessFlags := 1, nameIndex := 65, descriptorIndex := 66, attributes := #[] }, { accessFlags := 1, nameIndex := 28, descriptorIndex := 67, attributes := #[] }, { accessFlags := 1, nameIndex := 68, descriptorIndex := 40, attributes := #[] }, { accessFlags := 10, nameIndex := 24, descriptorIndex := 25, attributes := #[] }, { accessFlags := 10, nameIndex := 39, descriptorIndex := 40, attributes := #[] }] 49 4 #[] #[{ accessFlags := 26, nameIndex := 50, descriptorIndex := 51, attributes := #[] }, { accessFlags := 26, nameIndex := 54, descriptorIndex := 51, attributes := #[] }, { accessFlags := 26, nameIndex := 56, descriptorIndex := 51, attributes := #[] }, { accessFlags := 26, nameIndex := 58, descriptorIndex := 51, attributes := #[] }, { accessFlags := 18, nameIndex := 11, descriptorIndex := 12, attributes := #[] }, { accessFlags := 2, nameIndex := 28, descriptorIndex := 29, attributes := #[] }])
  fields := #[{ name := "EXACT_BITS", type := .int, accessFlags := 26, slot := 0, constantValue := 0 }, { name := "EXACT", type := .int, accessFlags := 26, slot := 1, constantValue := 0 }, { name := "HALF", type := .int, accessFlags := 26, slot := 2, constantValue := 0 }, { name := "BUCKETS", type := .int, accessFlags := 26, slot := 3, constantValue := 0 }, { name := "counts", type := (.array .long), accessFlags := 18, slot := 0, constantValue := 0 }, { name := "count", type := .long, accessFlags := 2, slot := 1, constantValue := 0 }]
  methods := #[k2m0, k2m1, k2m2, k2m3, k2m4, k2m5, k2m6]
  instanceTypes := #[(.array .long), .long]
  staticTypes := #[.int, .int, .int, .int]
  resolved := Array.replicate 88 none
  statics := none }

def pool3 : Array CpInfo := pool [(1, .class_ 2), (0, u "java/io/Serializable"), (0, .class_ 4), (0, u "java/lang/Object")] 2

/-- java/io/Serializable -/
def k3 : Class := { plain "java/io/Serializable" (some 0) with
  accessFlags := 1537
  interfaces := #[]
  cf := some (fileOf pool3 1 #[] #[] 1537 3 #[] #[])
  fields := #[]
  methods := #[]
  instanceTypes := #[]
  staticTypes := #[]
  resolved := Array.replicate 7 none
  statics := none }

def pool4 : Array CpInfo := pool [(2, .class_ 4), (1, u "java/lang/Object"), (0, u "<init>"), (0, u "()V"), (1, .class_ 10), (1, u "java/lang/Number"), (2, .class_ 14), (0, u "java/io/Serializable"), (0, u "serialVersionUID"), (0, u "J")] 20

def k4m0 : Method := { name := "<init>", desc := "()V", sig := { parameters := [], returnType := none }, accessFlags := 1, code := none }
/-- java/lang/Number -/
def k4 : Class := { plain "java/lang/Number" (some 0) with
  accessFlags := 1057
  interfaces := #[3]
  cf := some (fileOf pool4 8 #[] #[{ accessFlags := 1, nameIndex := 5, descriptorIndex := 6, attributes := #[] }] 1057 2 #[13] #[{ accessFlags := 26, nameIndex := 15, descriptorIndex := 16, attributes := #[] }])
  fields := #[{ name := "serialVersionUID", type := .long, accessFlags := 26, slot := 0, constantValue := 0 }]
  methods := #[k4m0]
  instanceTypes := #[]
  staticTypes := #[.long]
  resolved := Array.replicate 37 none
  statics := none }

def pool5 : Array CpInfo := pool [(1, .class_ 2), (0, u "java/lang/Comparable"), (0, .class_ 4), (0, u "java/lang/Object")] 7

/-- java/lang/Comparable -/
def k5 : Class := { plain "java/lang/Comparable" (some 0) with
  accessFlags := 1537
  interfaces := #[]
  cf := some (fileOf pool5 1 #[] #[] 1537 3 #[] #[])
  fields := #[]
  methods := #[]
  instanceTypes := #[]
  staticTypes := #[]
  resolved := Array.replicate 12 none
  statics := none }

def pool6 : Array CpInfo := pool [(1, .class_ 2), (0, u "java/lang/constant/Constable"), (0, .class_ 4), (0, u "java/lang/Object")] 6

/-- java/lang/constant/Constable -/
def k6 : Class := { plain "java/lang/constant/Constable" (some 0) with
  accessFlags := 1537
  interfaces := #[]
  cf := some (fileOf pool6 1 #[] #[] 1537 3 #[] #[])
  fields := #[]
  methods := #[]
  instanceTypes := #[]
  staticTypes := #[]
  resolved := Array.replicate 11 none
  statics := none }

def pool7 : Array CpInfo := pool [(1, .class_ 2), (0, u "java/lang/constant/ConstantDesc"), (0, .class_ 4), (0, u "java/lang/Object")] 32

/-- java/lang/constant/ConstantDesc -/
def k7 : Class := { plain "java/lang/constant/ConstantDesc" (some 0) with
  accessFlags := 1537
  interfaces := #[]
  cf := some (fileOf pool7 1 #[] #[] 1537 3 #[] #[])
  fields := #[]
  methods := #[]
  instanceTypes := #[]
  staticTypes := #[]
  resolved := Array.replicate 37 none
  statics := none }

def pool8 : Array CpInfo := pool [(1, .class_ 2), (0, u "java/lang/Long"), (15, .class_ 20), (1, u "java/lang/Integer"), (79, u "numberOfLeadingZeros"), (0, u "(J)I"), (133, .class_ 237), (1, u "java/lang/Long$LongCache"), (33, .class_ 272), (0, u "java/lang/Number"), (2, u "value"), (0, u "J"), (31, .methodref 18 309), (0, .nameAndType 100 310), (0, u "(I)I"), (50, u "TYPE"), (0, u "Ljava/lang/Class;"), (0, .class_ 364), (0, u "java/lang/Comparable"), (0, .class_ 366), (0, u "java/lang/constant/Constable"), (0, .class_ 368), (0, u "java/lang/constant/ConstantDesc"), (0, u "MIN_VALUE"), (1, u "MAX_VALUE"), (4, u "SIZE"), (0, u "I"), (1, u "BYTES"), (1, u "serialVersionUID")] 142

def k8c0 : Code := { maxStack := 3, maxLocals := 3, code := jdk_35_method_48_code, exceptionTable := #[], attributes := #[] }
def k8m0 : Method := { name := "numberOfLeadingZeros", desc := "(J)I", sig := { parameters := [.long], returnType := some .int }, accessFlags := 9, code := some k8c0 }
/-- java/lang/Long -/
def k8 : Class := { plain "java/lang/Long" (some 4) with
  accessFlags := 49
  interfaces := #[5, 6, 7]
  cf := some (fileOf pool8 1 #[.nestMembers #[235]] #[{ accessFlags := 9, nameIndex := 100, descriptorIndex := 101, attributes := #[] }] 49 271 #[363, 365, 367] #[{ accessFlags := 25, nameIndex := 369, descriptorIndex := 276, attributes := #[] }, { accessFlags := 25, nameIndex := 371, descriptorIndex := 276, attributes := #[] }, { accessFlags := 25, nameIndex := 361, descriptorIndex := 362, attributes := #[] }, { accessFlags := 18, nameIndex := 275, descriptorIndex := 276, attributes := #[] }, { accessFlags := 25, nameIndex := 376, descriptorIndex := 377, attributes := #[] }, { accessFlags := 25, nameIndex := 379, descriptorIndex := 377, attributes := #[] }, { accessFlags := 26, nameIndex := 381, descriptorIndex := 276, attributes := #[] }])
  fields := #[{ name := "MIN_VALUE", type := .long, accessFlags := 25, slot := 0, constantValue := 0 }, { name := "MAX_VALUE", type := .long, accessFlags := 25, slot := 1, constantValue := 0 }, { name := "TYPE", type := (.object "java/lang/Class"), accessFlags := 25, slot := 2, constantValue := 0 }, { name := "value", type := .long, accessFlags := 18, slot := 0, constantValue := 0 }, { name := "SIZE", type := .int, accessFlags := 25, slot := 3, constantValue := 0 }, { name := "BYTES", type := .int, accessFlags := 25, slot := 4, constantValue := 0 }, { name := "serialVersionUID", type := .long, accessFlags := 26, slot := 5, constantValue := 0 }]
  methods := #[k8m0]
  instanceTypes := #[.long]
  staticTypes := #[.long, .long, (.object "java/lang/Class"), .int, .int, .long]
  resolved := Array.replicate 524 none
  statics := none }

def pool9 : Array CpInfo := pool [(1, .class_ 2), (0, u "java/lang/Integer"), (16, u "digits"), (0, u "[C"), (32, u "numberOfLeadingZeros"), (0, u "(I)I"), (30, u "DigitOnes"), (0, u "[B"), (2, u "DigitTens"), (99, .class_ 190), (0, u "java/lang/Integer$IntegerCache"), (3, u "I"), (8, .class_ 204), (0, u "java/lang/Number"), (2, u "value"), (56, .integer 65536), (37, u "TYPE"), (0, u "Ljava/lang/Class;"), (0, .class_ 305), (0, u "java/lang/Comparable"), (0, .class_ 307), (0, u "java/lang/constant/Constable"), (0, .class_ 309), (0, u "java/lang/constant/ConstantDesc"), (0, u "MIN_VALUE"), (1, u "MAX_VALUE"), (3, u "SIZE"), (1, u "BYTES"), (1, u "serialVersionUID"), (0, u "J")] 131

def k9c0 : Code := { maxStack := 3, maxLocals := 2, code := jdk_33_method_47_code, exceptionTable := #[], attributes := #[] }
def k9m0 : Method := { name := "numberOfLeadingZeros", desc := "(I)I", sig := { parameters := [.int], returnType := some .int }, accessFlags := 9, code := some k9c0 }
/-- java/lang/Integer -/
def k9 : Class := { plain "java/lang/Integer" (some 4) with
  accessFlags := 49
  interfaces := #[5, 6, 7]
  cf := some (fileOf pool9 1 #[.nestMembers #[189]] #[{ accessFlags := 9, nameIndex := 53, descriptorIndex := 54, attributes := #[] }] 49 203 #[304, 306, 308] #[{ accessFlags := 25, nameIndex := 310, descriptorIndex := 194, attributes := #[] }, { accessFlags := 25, nameIndex := 312, descriptorIndex := 194, attributes := #[] }, { accessFlags := 25, nameIndex := 302, descriptorIndex := 303, attributes := #[] }, { accessFlags := 24, nameIndex := 19, descriptorIndex := 20, attributes := #[] }, { accessFlags := 24, nameIndex := 89, descriptorIndex := 86, attributes := #[] }, { accessFlags := 24, nameIndex := 85, descriptorIndex := 86, attributes := #[] }, { accessFlags := 18, nameIndex := 207, descriptorIndex := 194, attributes := #[] }, { accessFlags := 25, nameIndex := 316, descriptorIndex := 194, attributes := #[] }, { accessFlags := 25, nameIndex := 318, descriptorIndex := 194, attributes := #[] }, { accessFlags := 26, nameIndex := 320, descriptorIndex := 321, attributes := #[] }])
  fields := #[{ name := "MIN_VALUE", type := .int, accessFlags := 25, slot := 0, constantValue := 0 }, { name := "MAX_VALUE", type := .int, accessFlags := 25, slot := 1, constantValue := 0 }, { name := "TYPE", type := (.object "java/lang/Class"), accessFlags := 25, slot := 2, constantValue := 0 }, { name := "digits", type := (.array .char), accessFlags := 24, slot := 3, constantValue := 0 }, { name := "DigitTens", type := (.array .byte), accessFlags := 24, slot := 4, constantValue := 0 }, { name := "DigitOnes", type := (.array .byte), accessFlags := 24, slot := 5, constantValue := 0 }, { name := "value", type := .int, accessFlags := 18, slot := 0, constantValue := 0 }, { name := "SIZE", type := .int, accessFlags := 25, slot := 6, constantValue := 0 }, { name := "BYTES", type := .int, accessFlags := 25, slot := 7, constantValue := 0 }, { name := "serialVersionUID", type := .long, accessFlags := 26, slot := 8, constantValue := 0 }]
  methods := #[k9m0]
  instanceTypes := #[.int]
  staticTypes := #[.int, .int, (.object "java/lang/Class"), (.array .char), (.array .byte), (.array .byte), .int, .int, .long]
  resolved := Array.replicate 453 none
  statics := none }

def pool10 : Array CpInfo := pool [(1, u "java/lang/Cloneable"), (0, .class_ 1), (0, u "java/lang/Object"), (0, .class_ 3)] 3

/-- java/lang/Cloneable -/
def k10 : Class := { plain "java/lang/Cloneable" (some 0) with
  accessFlags := 1537
  interfaces := #[]
  cf := some (fileOf pool10 2 #[] #[] 1537 4 #[] #[])
  fields := #[]
  methods := #[]
  instanceTypes := #[]
  staticTypes := #[]
  resolved := Array.replicate 8 none
  statics := none }

/-- the primitive byte -/
def k11 : Class := { plain "byte" none with kind := .primitive 'B', accessFlags := 0x411 }
/-- [B -/
def k12 : Class := { plain "[B" (some 0) with kind := .array 11 .byte, interfaces := #[10, 3], accessFlags := 1041 }

/-- the primitive int -/
def k13 : Class := { plain "int" none with kind := .primitive 'I', accessFlags := 0x411 }
/-- [I -/
def k14 : Class := { plain "[I" (some 0) with kind := .array 13 .int, interfaces := #[10, 3], accessFlags := 1041 }

/-- the primitive long -/
def k15 : Class := { plain "long" none with kind := .primitive 'J', accessFlags := 0x411 }
/-- [J -/
def k16 : Class := { plain "[J" (some 0) with kind := .array 15 .long, interfaces := #[10, 3], accessFlags := 1041 }

def heap : Heap := #[]
def classes : Array Class := #[k0, k1, k2, k3, k4, k5, k6, k7, k8, k9, k10, k11, k12, k13, k14, k15, k16]
def interned : List (Array UInt16 × Addr) := []
def slotsUsed : Nat := 0
def theMethod : MethodId := ⟨1, 1⟩
def args0 : Array Value := #[.long 5, .long 3, .long 2, .int 7, .int 9]
def aboutOver (below : List Frame) : State where
  vm := { classes := classes, interned := interned.toArray }
  heap := heap
  slotsUsed := slotsUsed
  threads := #[{ frames := .invoking theMethod args0 :: below }]
def below0 : List Frame := [.native { method := ⟨0, 0⟩, args := #[] }]
def about1 : State := aboutOver below0
def p0 : Program := .bare "" "" ""
def e0 : Env := launch0.env 0 0 0
theorem w_frames : about1.frames = Frame.invoking theMethod args0 :: below0 := rfl
set_option maxRecDepth 65536 in
theorem w_args : argsFit about1.vm theMethod args0 = true := by decide +kernel
set_option maxRecDepth 65536 in
theorem w_heap : heapFits about1 = true := by decide +kernel
set_option maxRecDepth 65536 in
theorem w_runnable : about1.curStatus? = some .runnable := by decide +kernel
set_option maxRecDepth 65536 in
theorem w_alone : about1.alone = true := by decide +kernel
set_option maxRecDepth 65536 in
theorem w_named : about1.methodNamed? x = some theMethod := by decide +kernel
set_option maxRecDepth 65536 in
theorem w_hears : about1.hears theMethod below0 = true := by decide +kernel
set_option maxRecDepth 65536 in
theorem w_ripe : about1.ripe theMethod args0 below0 = true := by decide +kernel
theorem w_running : about1.status = .running := rfl
set_option maxRecDepth 65536 in
theorem w_room : about1.hasRoom e0.platform room_1 = true :=
  launch0.hasRoom_least _ room_1 (by decide +kernel) (by decide +kernel) (by decide +kernel) (by decide +kernel) (by decide +kernel) (by decide +kernel)
theorem allAtoms_all (ts : List Jvm.Cond) (a : Array Jvm.Value) (st : Jvm.State) : (allAtoms ts).before a st = ts.all (fun c => c.before a st) := by
  induction ts with
  | nil => rfl
  | cons c t ih =>
    show (Jvm.Cond.and c (allAtoms t)).before a st = _
    rw [Jvm.Cond.before_and, ih, List.all_cons]
def words1 : List Jvm.Cond := Jvm.Cond.code x code maxLocals ret :: tables_1
/-- a 'code' word, met by the world's own term for the bytes: nothing is compared byte by byte -/
theorem code_word {y : MethodName} {bytes : ByteArray} {mx : Nat} {rt : Option FieldType} {a : Array Value} {s : State} {m : MethodId} {meth : Method} {c : Code} (h1 : s.methodNamed? y = some m) (h2 : s.vm.method? m = some meth) (h3 : meth.code = some c) (h4 : c.code = bytes)
    (h5 : (c.maxLocals == mx && c.exceptionTable.isEmpty && decide (c.maxStack ≤ mostOperands) && decide (meth.sig.returnType = rt) && !meth.locks && decide (parseMethodDescriptor y.desc = some meth.sig)) = true) : (Jvm.Cond.code y bytes mx rt).before a s = true := by
  simp only [Bool.and_eq_true, beq_iff_eq, Bool.not_eq_true', decide_eq_true_eq] at h5
  obtain ⟨⟨⟨⟨⟨g1, g2⟩, g3⟩, g4⟩, g5⟩, g6⟩ := h5
  simp [Cond.before, Cond.holds, Cond.value, h1, h2, h3, h4, g1, g2, g3, g4, g5, g6]
def isCode : Jvm.Cond → Bool
  | .code _ _ _ _ => true
  | _ => false
theorem all_split {L : List Jvm.Cond} {P : Jvm.Cond → Bool} (h1 : L.all (fun c => isCode c || P c) = true) (h2 : ∀ c ∈ L.filter isCode, P c = true) : L.all P = true := by
  refine List.all_eq_true.mpr fun c hc => ?_
  have h := List.all_eq_true.mp h1 c hc
  rcases Bool.eq_false_or_eq_true (isCode c) with hi | hi
  · exact h2 c (List.mem_filter.mpr ⟨hc, hi⟩)
  · simpa [hi] using h
set_option maxRecDepth 65536 in
theorem w_c0 : (Jvm.Cond.code x code maxLocals ret).before args0 about1 = true := code_word (m := ⟨1, 1⟩) (meth := k1m1) (c := k1c1) (by decide +kernel) rfl rfl rfl (by decide +kernel)
set_option maxRecDepth 65536 in
theorem w_c1 : (Jvm.Cond.code ({ cls := "com/example/intervale/intervale/bench/Latencies", name := "<init>", desc := "()V" } : Jvm.MethodName) prog_8_method_1_code (1 : Nat) (Option.none : Option Jvm.ClassFile.FieldType)).before args0 about1 = true := code_word (m := ⟨2, 0⟩) (meth := k2m0) (c := k2c0) (by decide +kernel) rfl rfl rfl (by decide +kernel)
set_option maxRecDepth 65536 in
theorem w_c2 : (Jvm.Cond.code ({ cls := "java/lang/Object", name := "<init>", desc := "()V" } : Jvm.MethodName) object_method_1_code (1 : Nat) (Option.none : Option Jvm.ClassFile.FieldType)).before args0 about1 = true := code_word (m := ⟨0, 0⟩) (meth := k0m0) (c := k0c0) (by decide +kernel) rfl rfl rfl (by decide +kernel)
set_option maxRecDepth 65536 in
theorem w_c3 : (Jvm.Cond.code ({ cls := "com/example/intervale/intervale/bench/Latencies", name := "record", desc := "(J)V" } : Jvm.MethodName) prog_8_method_2_code (3 : Nat) (Option.none : Option Jvm.ClassFile.FieldType)).before args0 about1 = true := code_word (m := ⟨2, 1⟩) (meth := k2m1) (c := k2c1) (by decide +kernel) rfl rfl rfl (by decide +kernel)
set_option maxRecDepth 65536 in
theorem w_c4 : (Jvm.Cond.code ({ cls := "com/example/intervale/intervale/bench/Latencies", name := "bucket", desc := "(J)I" } : Jvm.MethodName) prog_8_method_6_code (3 : Nat) (Option.some Jvm.ClassFile.FieldType.int)).before args0 about1 = true := code_word (m := ⟨2, 5⟩) (meth := k2m5) (c := k2c5) (by decide +kernel) rfl rfl rfl (by decide +kernel)
set_option maxRecDepth 65536 in
theorem w_c5 : (Jvm.Cond.code ({ cls := "com/example/intervale/intervale/bench/Latencies", name := "add", desc := "(Lcom/example/intervale/intervale/bench/Latencies;)V" } : Jvm.MethodName) prog_8_method_3_code (3 : Nat) (Option.none : Option Jvm.ClassFile.FieldType)).before args0 about1 = true := code_word (m := ⟨2, 2⟩) (meth := k2m2) (c := k2c2) (by decide +kernel) rfl rfl rfl (by decide +kernel)
set_option maxRecDepth 65536 in
theorem w_c6 : (Jvm.Cond.code ({ cls := "com/example/intervale/intervale/bench/Latencies", name := "count", desc := "()J" } : Jvm.MethodName) prog_8_method_4_code (1 : Nat) (Option.some Jvm.ClassFile.FieldType.long)).before args0 about1 = true := code_word (m := ⟨2, 3⟩) (meth := k2m3) (c := k2c3) (by decide +kernel) rfl rfl rfl (by decide +kernel)
set_option maxRecDepth 65536 in
theorem w_c7 : (Jvm.Cond.code ({ cls := "com/example/intervale/intervale/bench/Latencies", name := "percentile", desc := "(I)J" } : Jvm.MethodName) prog_8_method_5_code (7 : Nat) (Option.some Jvm.ClassFile.FieldType.long)).before args0 about1 = true := code_word (m := ⟨2, 4⟩) (meth := k2m4) (c := k2c4) (by decide +kernel) rfl rfl rfl (by decide +kernel)
set_option maxRecDepth 65536 in
theorem w_c8 : (Jvm.Cond.code ({ cls := "com/example/intervale/intervale/bench/Latencies", name := "middle", desc := "(I)J" } : Jvm.MethodName) prog_8_method_7_code (5 : Nat) (Option.some Jvm.ClassFile.FieldType.long)).before args0 about1 = true := code_word (m := ⟨2, 6⟩) (meth := k2m6) (c := k2c6) (by decide +kernel) rfl rfl rfl (by decide +kernel)
set_option maxRecDepth 65536 in
theorem w_c9 : (Jvm.Cond.code ({ cls := "java/lang/Long", name := "numberOfLeadingZeros", desc := "(J)I" } : Jvm.MethodName) jdk_35_method_48_code (3 : Nat) (Option.some Jvm.ClassFile.FieldType.int)).before args0 about1 = true := code_word (m := ⟨8, 0⟩) (meth := k8m0) (c := k8c0) (by decide +kernel) rfl rfl rfl (by decide +kernel)
set_option maxRecDepth 65536 in
theorem w_c10 : (Jvm.Cond.code ({ cls := "java/lang/Integer", name := "numberOfLeadingZeros", desc := "(I)I" } : Jvm.MethodName) jdk_33_method_47_code (2 : Nat) (Option.some Jvm.ClassFile.FieldType.int)).before args0 about1 = true := code_word (m := ⟨9, 0⟩) (meth := k9m0) (c := k9c0) (by decide +kernel) rfl rfl rfl (by decide +kernel)
def codes1 : List Jvm.Cond := [Jvm.Cond.code x code maxLocals ret, Jvm.Cond.code ({ cls := "com/example/intervale/intervale/bench/Latencies", name := "<init>", desc := "()V" } : Jvm.MethodName) prog_8_method_1_code (1 : Nat) (Option.none : Option Jvm.ClassFile.FieldType), Jvm.Cond.code ({ cls := "java/lang/Object", name := "<init>", desc := "()V" } : Jvm.MethodName) object_method_1_code (1 : Nat) (Option.none : Option Jvm.ClassFile.FieldType), Jvm.Cond.code ({ cls := "com/example/intervale/intervale/bench/Latencies", name := "record", desc := "(J)V" } : Jvm.MethodName) prog_8_method_2_code (3 : Nat) (Option.none : Option Jvm.ClassFile.FieldType), Jvm.Cond.code ({ cls := "com/example/intervale/intervale/bench/Latencies", name := "bucket", desc := "(J)I" } : Jvm.MethodName) prog_8_method_6_code (3 : Nat) (Option.some Jvm.ClassFile.FieldType.int), Jvm.Cond.code ({ cls := "com/example/intervale/intervale/bench/Latencies", name := "add", desc := "(Lcom/example/intervale/intervale/bench/Latencies;)V" } : Jvm.MethodName) prog_8_method_3_code (3 : Nat) (Option.none : Option Jvm.ClassFile.FieldType), Jvm.Cond.code ({ cls := "com/example/intervale/intervale/bench/Latencies", name := "count", desc := "()J" } : Jvm.MethodName) prog_8_method_4_code (1 : Nat) (Option.some Jvm.ClassFile.FieldType.long), Jvm.Cond.code ({ cls := "com/example/intervale/intervale/bench/Latencies", name := "percentile", desc := "(I)J" } : Jvm.MethodName) prog_8_method_5_code (7 : Nat) (Option.some Jvm.ClassFile.FieldType.long), Jvm.Cond.code ({ cls := "com/example/intervale/intervale/bench/Latencies", name := "middle", desc := "(I)J" } : Jvm.MethodName) prog_8_method_7_code (5 : Nat) (Option.some Jvm.ClassFile.FieldType.long), Jvm.Cond.code ({ cls := "java/lang/Long", name := "numberOfLeadingZeros", desc := "(J)I" } : Jvm.MethodName) jdk_35_method_48_code (3 : Nat) (Option.some Jvm.ClassFile.FieldType.int), Jvm.Cond.code ({ cls := "java/lang/Integer", name := "numberOfLeadingZeros", desc := "(I)I" } : Jvm.MethodName) jdk_33_method_47_code (2 : Nat) (Option.some Jvm.ClassFile.FieldType.int)]
set_option maxRecDepth 65536 in
theorem codes_eq : words1.filter isCode = codes1 := rfl
theorem w_codes : ∀ c ∈ words1.filter isCode, c.before args0 about1 = true := by
  rw [codes_eq]
  intro c hc
  simp only [codes1, List.mem_cons, List.not_mem_nil, or_false] at hc
  rcases hc with rfl | rfl | rfl | rfl | rfl | rfl | rfl | rfl | rfl | rfl | rfl
  · exact w_c0
  · exact w_c1
  · exact w_c2
  · exact w_c3
  · exact w_c4
  · exact w_c5
  · exact w_c6
  · exact w_c7
  · exact w_c8
  · exact w_c9
  · exact w_c10
set_option maxRecDepth 65536 in
theorem w_t1 : (words1.take 24).all (fun c => isCode c || c.before args0 about1) = true := by decide +kernel
set_option maxRecDepth 65536 in
theorem w_t2 : ((words1.drop 24).take 24).all (fun c => isCode c || c.before args0 about1) = true := by decide +kernel
set_option maxRecDepth 65536 in
theorem w_t3 : ((words1.drop 24).drop 24).all (fun c => isCode c || c.before args0 about1) = true := by decide +kernel
theorem w_tables : (allAtoms (Jvm.Cond.code x code maxLocals ret :: tables_1)).before args0 about1 = true := by
  rw [allAtoms_all]
  show words1.all (fun c => c.before args0 about1) = true
  refine all_split ?_ w_codes
  rw [← List.take_append_drop 24 words1, List.all_append, w_t1, ← List.take_append_drop 24 (words1.drop 24), List.all_append, w_t2, w_t3]
  rfl
set_option maxRecDepth 65536 in
theorem w_case : (Jvm.Cond.and given_1 narrow_1).before args0 about1 = true := by decide +kernel
theorem w_applies : (headSpec (Jvm.Cond.code x code maxLocals ret :: tables_1) room_1).applies x e0.platform about1 = true :=
  (Spec.applies_iff w_frames).mpr ⟨w_running, w_runnable, w_alone, w_named, w_hears, w_ripe, w_room, w_tables⟩
theorem atStart : AtStart classFile x code maxLocals ret World_1 tables_1 room_1 Calls_1 rest_1 Pre_1 launch0 p0 e0 about1 theMethod args0 below0 :=
  ⟨lists_1, trivial, launch0.admits_env _ _ _, launch0.least_env, fairChoices_fair.cas, fairChoices_fair.clock, w_frames, w_args, w_heap, w_applies, trivial, trivial, w_case⟩
end start1
theorem witness_1 : WitnessClaimed_1 := ⟨start1.p0, start1.e0, start1.about1, start1.theMethod, start1.args0, start1.below0, start1.atStart⟩
end Jvm.Pilot.@@N@@
