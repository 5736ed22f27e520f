import JvmDerived
import JvmDerived.Pilot.@@N@@Statement
import JvmDerived.Pilot.@@N@@Code
set_option linter.unusedVariables false
set_option linter.unusedSimpArgs false
namespace Jvm.Pilot.@@N@@
open Jvm Jvm.ClassFile Sem Op Lib Jvm.Free Jvm.Stand Jvm.LawKit Jvm.RoadKit Bundle Jvm.Pilot.@@N@@.Jvm.D
section OwnLayer
variable {p : Program} {l : Launch} {e : Env} {R : Room} {s : State} {m : MethodId} {args : Array Value} {below : List Frame} {meth : Method} {c : Code} {Z : State} {a0 : Array Value} {n0 : Nat} {own nm : String} {bytes : ByteArray} {ml : Nat} {rt : Option FieldType} {Q : Option Value → Heap → Prop} {h : Heap} {cells slots pc pc' pcY : Nat} {Ls Ls' : Array Slot} {st st' : List Value}
def ushr (x y : Int32) : Int32 := (x.toUInt32 >>> (y &&& 31).toUInt32).toInt32
def ushrL (x : Int64) (y : Int32) : Int64 := (x.toUInt64 >>> (y &&& 0x3f).toInt64.toUInt64).toInt64
/-- what stays the same while a body is walked -/
def OCx (p : Program) (l : Launch) (e : Env) (R : Room) (s : State) (m : MethodId) (args : Array Value) (below : List Frame) (meth : Method) (c : Code) (Z : State) (own nm : String) (bytes : ByteArray) (ml : Nat) (rt : Option FieldType) : Prop :=
  p.tables.exec = Jvm.exec ∧ c.code = bytes ∧ c.maxLocals = ml ∧ meth.sig.returnType = rt ∧ meth.name = nm ∧ meth.locks = false ∧ s.vm.findClass own = some m.cls ∧ Z.Warmed39 s.vm
theorem OCx.ex (K : OCx p l e R s m args below meth c Z own nm bytes ml rt) : p.tables.exec = Jvm.exec := K.1
theorem OCx.by (K : OCx p l e R s m args below meth c Z own nm bytes ml rt) : c.code = bytes := K.2.1
theorem OCx.hml (K : OCx p l e R s m args below meth c Z own nm bytes ml rt) : c.maxLocals = ml := K.2.2.1
theorem OCx.hrt (K : OCx p l e R s m args below meth c Z own nm bytes ml rt) : meth.sig.returnType = rt := K.2.2.2.1
theorem OCx.hnm (K : OCx p l e R s m args below meth c Z own nm bytes ml rt) : meth.name = nm := K.2.2.2.2.1
theorem OCx.lk (K : OCx p l e R s m args below meth c Z own nm bytes ml rt) : meth.locks = false := K.2.2.2.2.2.1
theorem OCx.hown (K : OCx p l e R s m args below meth c Z own nm bytes ml rt) : s.vm.findClass own = some m.cls := K.2.2.2.2.2.2.1
theorem OCx.hZ (K : OCx p l e R s m args below meth c Z own nm bytes ml rt) : Z.Warmed39 s.vm := K.2.2.2.2.2.2.2
/-- from here the body ends as Q says -/
def OGo (p : Program) (l : Launch) (e : Env) (R : Room) (s : State) (m : MethodId) (args : Array Value) (below : List Frame) (meth : Method) (c : Code) (n0 : Nat) (Q : Option Value → Heap → Prop) (h : Heap) (cells slots pc : Nat) (Ls : Array Slot) (st : List Value) : Prop :=
  ∀ (T : State) (locs : List Loc) (k n : Nat), Stand p l e R s m args below meth c T locs k n → T.heap = h → Fr n0 locs → k ≤ cells → n ≤ slots →
    ∃ (s₂ : State) (v : Option Value) (L : List Loc), Steps p.tables e below (T.setTop (mkF m pc Ls st)) s₂ ∧ s₂.status = .running ∧ Ended s₂ below (.returned v) ∧ Q v s₂.heap ∧ Fr n0 L ∧ FrameEnd s (.returned v) s₂ L R.cells R.slots
abbrev OCon (l : Launch) (Z : State) (n0 : Nat) (y : MethodName) (bytes : ByteArray) (maxL : Nat) (ret : Option FieldType) (ws : List Jvm.Cond) (rm : Room) (as' : Array Value) (h0 : Heap) (Q : Option Value → Heap → Prop) : Prop :=
  MetFree l y (head1 (Jvm.Cond.code y bytes maxL ret :: ws) rm) (fun a U => a = as' ∧ Z.Warmed39 U.vm ∧ U.heap = h0) (fun _ _ _ _ _ => True) (fun _ U o U' => ∃ v L, o = .returned v ∧ (Q v U'.heap ∧ Fr n0 L) ∧ FrameEnd U o U' L rm.cells rm.slots)
def OV (P : Value → Heap → Prop) (v : Option Value) (h : Heap) : Prop := ∃ w, v = some w ∧ P w h
def ON (P : Heap → Prop) (v : Option Value) (h : Heap) : Prop := v = none ∧ P h
def own_lay : List Value → List Slot
  | [] => []
  | v :: vs => if v.category = 2 then .val v :: .second :: own_lay vs else .val v :: own_lay vs
theorem own_lay_fold (vs : List Value) (acc : Array Slot) : vs.foldl (fun acc v => if v.category = 2 then (acc.push (.val v)).push .second else acc.push (.val v)) acc = acc ++ (own_lay vs).toArray := by
  induction vs generalizing acc with
  | nil => simp [own_lay]
  | cons v vs ih =>
    rw [List.foldl_cons, ih]
    simp only [own_lay]
    split <;> simp
theorem own_entry (m : MethodId) {vs : List Value} {n : Nat} {L : List Slot} (h : own_lay vs ++ List.replicate (n - (own_lay vs).length) .unset = L) : entryFrame m vs.toArray n = mkF m 0 L.toArray [] := by
  unfold entryFrame mkF argsToLocals
  subst h
  simp [own_lay_fold]
theorem OCon.of {y : MethodName} {maxL : Nat} {ret : Option FieldType} {ws : List Jvm.Cond} {rm : Room} {as' : Array Value} {h0 : Heap} (hpl : plainFor y = true) (hf : ∀ m, entryFrame m as' maxL = mkF m 0 Ls [])
    (body : ∀ p e s m below meth c, OCx p l e rm s m as' below meth c Z y.cls y.name bytes maxL ret → OGo p l e rm s m as' below meth c n0 Q h0 0 0 0 Ls []) : OCon l Z n0 y bytes maxL ret ws rm as' h0 Q := by
  refine MetFree.of_bodySF hpl hisR ?_
  intro p e s m args below meth c s₁ Bd hml0 hP hK
  obtain ⟨rfl, hZ, hh⟩ := hP
  have X0 : Stand p l e rm s m _ below meth c s₁ [] 0 0 := Stand.of_body Bd
  have e0 : s₁.heap = h0 := by rw [← hh, Bd.state]; rfl
  obtain ⟨s₂, v, L, h1, h2, h3, h4, h5, h6⟩ := body p e s m below meth c ⟨Bd.exec, Bd.bytes, hml0, Bd.returns, (name_of_methodNamed Bd.named Bd.method).1, BodyLoose.notSynchronized Bd, findClass_of_methodNamed Bd.named, hZ⟩ s₁ [] 0 0 X0 e0 (Fr.nil n0) (Nat.le_refl _) (Nat.le_refl _)
  exact ⟨s₂, _, castTop (hf m) h1, h2, h3, v, L, rfl, ⟨h4, h5⟩, h6⟩
theorem OCon.mono {y : MethodName} {maxL : Nat} {ret : Option FieldType} {ws : List Jvm.Cond} {rm : Room} {as' : Array Value} {h0 : Heap} {Q' : Option Value → Heap → Prop} (H : OCon l Z n0 y bytes maxL ret ws rm as' h0 Q) (k : ∀ v h, Q v h → Q' v h) : OCon l Z n0 y bytes maxL ret ws rm as' h0 Q' := by
  intro p e ha hc hk s m args below hf happ hP hK
  obtain ⟨n, o, h1, h2, h3, v, L, h4, ⟨h5, h6⟩, h7⟩ := H p e ha hc hk s m args below hf happ hP hK
  exact ⟨n, o, h1, h2, h3, v, L, h4, ⟨k _ _ h5, h6⟩, h7⟩
theorem OGo.more {cells' slots' : Nat} (r : OGo p l e R s m args below meth c n0 Q h cells' slots' pc Ls st) (hc : cells ≤ cells') (hs : slots ≤ slots') : OGo p l e R s m args below meth c n0 Q h cells slots pc Ls st :=
  fun T locs k n X e0 N h1 h2 => r T locs k n X e0 N (Nat.le_trans h1 hc) (Nat.le_trans h2 hs)
theorem OGo.plain (hs : ∀ (T t : State), At T m c below → Steps p.tables e below (T.setTop (mkF m pc' Ls' st')) t → Steps p.tables e below (T.setTop (mkF m pc Ls st)) t) (r : OGo p l e R s m args below meth c n0 Q h cells slots pc' Ls' st') : OGo p l e R s m args below meth c n0 Q h cells slots pc Ls st := by
  intro T locs k n X e0 N h1 h2
  obtain ⟨s₂, v, L, g, r'⟩ := r T locs k n X e0 N h1 h2
  exact ⟨s₂, v, L, hs T s₂ X.here g, r'⟩
theorem OGo.same (hs : ∀ (T : State) (locs : List Loc) (k n : Nat), Stand p l e R s m args below meth c T locs k n → T.heap = h → ∃ T', Stand p l e R s m args below meth c T' locs k n ∧ T'.heap = h ∧ ∀ t, Steps p.tables e below (T'.setTop (mkF m pc' Ls' st')) t → Steps p.tables e below (T.setTop (mkF m pc Ls st)) t) (r : OGo p l e R s m args below meth c n0 Q h cells slots pc' Ls' st') : OGo p l e R s m args below meth c n0 Q h cells slots pc Ls st := by
  intro T locs k n X e0 N h1 h2
  obtain ⟨T', X', e', st'⟩ := hs T locs k n X e0
  obtain ⟨s₂, v, L, g, r'⟩ := r T' locs k n X' e' N h1 h2
  exact ⟨s₂, v, L, st' _ g, r'⟩
/-- a step that writes one place a -/
theorem OGo.write {a : Addr} {sl : Nat} {v : Value} (ga : n0 ≤ a) (hs : ∀ (T : State) (locs : List Loc) (k n : Nat), Stand p l e R s m args below meth c T locs k n → T.heap = h → ∃ T' h', Stand p l e R s m args below meth c T' (locs ++ [⟨a, sl⟩]) k n ∧ T'.heap = h' ∧ Wr h h' a sl v ∧ ∀ t, Steps p.tables e below (T'.setTop (mkF m pc' Ls' st')) t → Steps p.tables e below (T.setTop (mkF m pc Ls st)) t)
    (r : ∀ h', Wr h h' a sl v → OGo p l e R s m args below meth c n0 Q h' cells slots pc' Ls' st') : OGo p l e R s m args below meth c n0 Q h cells slots pc Ls st := by
  intro T locs k n X e0 N h1 h2
  obtain ⟨T', h', X', e', W, st'⟩ := hs T locs k n X e0
  obtain ⟨s₂, v, L, g, r'⟩ := r h' W T' _ k n X' e' (Fr.snoc X' N ga) h1 h2
  exact ⟨s₂, v, L, st' _ g, r'⟩
theorem OGo.leave {w : Option Value} (K : OCx p l e R s m args below meth c Z own nm bytes ml rt) (hv : rt = none → w = none) (hs : ∀ (T : State) (locs : List Loc) (k n : Nat) (fs : List Frame), Stand p l e R s m args below meth c T locs k n → (∀ (f : JFrame) (acts : List Action), f.method = m → f.locked = none → f.entered = [] → (doReturn e (T.setTop f) acts w).1 = T.setFrames fs) → Steps p.tables e below (T.setTop (mkF m pc Ls st)) (T.setFrames fs))
    (hc : cells ≤ R.cells) (hl : slots ≤ R.slots) (q : Q w h) : OGo p l e R s m args below meth c n0 Q h cells slots pc Ls st := by
  intro T locs k n X e0 N h1 h2
  obtain ⟨fs, hr, hrun, hended, hW, hsame⟩ := X.leave (v := w) (fun x => hv (K.hrt.symm.trans x)) K.lk
  refine ⟨_, w, locs, hs T locs k n fs X hr, hrun, hended, ?_, N, ⟨_, rfl⟩, hW, hsame.mono (Nat.le_trans h1 hc) (Nat.le_trans h2 hl)⟩
  show Q w T.heap
  rw [e0]; exact q
theorem OGo.ret {w : Value} {t : FieldType} {i : Instr} {rest : List Value} (K : OCx p l e R s m args below meth c Z own nm bytes ml (some t)) (hd : decode bytes pc = .ok (i, 1)) (hn : narrow t w = w)
    (hi : (i = .ireturn ∧ (t = .int ∨ t = .boolean ∨ t = .byte ∨ t = .char ∨ t = .short) ∧ ∃ z, w = .int z) ∨ (i = .lreturn ∧ t = .long ∧ ∃ z, w = .long z) ∨ (i = .dreturn ∧ t = .double ∧ ∃ z, w = .double z) ∨ (i = .freturn ∧ t = .float ∧ ∃ z, w = .float z) ∨ (i = .areturn ∧ t.isReference = true ∧ w.isRef = true))
    (hc : cells ≤ R.cells) (hl : slots ≤ R.slots) (q : Q (some w) h) : OGo p l e R s m args below meth c n0 Q h cells slots pc Ls (w :: rest) :=
  OGo.leave K (fun x => nomatch x) (fun T locs k n fs X hr => retOut X K.ex K.hrt hn hi (hb K.by hd) hr) hc hl q
theorem OGo.iret {z : Int32} {rest : List Value} (K : OCx p l e R s m args below meth c Z own nm bytes ml (some .int)) (hd : decode bytes pc = .ok (.ireturn, 1)) (hc : cells ≤ R.cells) (hl : slots ≤ R.slots) (q : Q (some (.int z)) h) : OGo p l e R s m args below meth c n0 Q h cells slots pc Ls (.int z :: rest) :=
  OGo.ret K hd rfl (Or.inl ⟨rfl, Or.inl rfl, z, rfl⟩) hc hl q
theorem OGo.nret {z : Int32} {t : FieldType} {rest : List Value} (K : OCx p l e R s m args below meth c Z own nm bytes ml (some t)) (ht : t = .boolean ∨ t = .byte ∨ t = .char ∨ t = .short) (hd : decode bytes pc = .ok (.ireturn, 1)) (hc : cells ≤ R.cells) (hl : slots ≤ R.slots) (q : Q (some (.int (nar t z))) h) : OGo p l e R s m args below meth c n0 Q h cells slots pc Ls (.int z :: rest) :=
  OGo.leave K (fun x => nomatch x) (fun T locs k n fs X hr => retN X K.ex K.hrt ht (hb K.by hd) hr) hc hl q
theorem OGo.lret {z : Int64} {rest : List Value} (K : OCx p l e R s m args below meth c Z own nm bytes ml (some .long)) (hd : decode bytes pc = .ok (.lreturn, 1)) (hc : cells ≤ R.cells) (hl : slots ≤ R.slots) (q : Q (some (.long z)) h) : OGo p l e R s m args below meth c n0 Q h cells slots pc Ls (.long z :: rest) :=
  OGo.ret K hd rfl (Or.inr (Or.inl ⟨rfl, rfl, z, rfl⟩)) hc hl q
theorem OGo.dret {z : UInt64} {rest : List Value} (K : OCx p l e R s m args below meth c Z own nm bytes ml (some .double)) (hd : decode bytes pc = .ok (.dreturn, 1)) (hc : cells ≤ R.cells) (hl : slots ≤ R.slots) (q : Q (some (.double z)) h) : OGo p l e R s m args below meth c n0 Q h cells slots pc Ls (.double z :: rest) :=
  OGo.ret K hd rfl (Or.inr (Or.inr (Or.inl ⟨rfl, rfl, z, rfl⟩))) hc hl q
theorem OGo.aret {w : Value} {t : FieldType} {rest : List Value} (K : OCx p l e R s m args below meth c Z own nm bytes ml (some t)) (hd : decode bytes pc = .ok (.areturn, 1)) (ht : t.isReference = true) (hw : w.isRef = true) (hc : cells ≤ R.cells) (hl : slots ≤ R.slots) (q : Q (some w) h) : OGo p l e R s m args below meth c n0 Q h cells slots pc Ls (w :: rest) :=
  OGo.ret K hd (by cases t <;> first | (cases ht; done) | (cases w <;> first | (cases hw; done) | rfl)) (Or.inr (Or.inr (Or.inr (Or.inr ⟨rfl, ht, hw⟩)))) hc hl q
theorem OGo.vret (K : OCx p l e R s m args below meth c Z own nm bytes ml none) (hd : decode bytes pc = .ok (.return_, 1)) (hc : cells ≤ R.cells) (hl : slots ≤ R.slots) (q : Q none h) : OGo p l e R s m args below meth c n0 Q h cells slots pc Ls [] :=
  OGo.leave K (fun _ => rfl) (fun T locs k n fs X hr => X.returnOut K.ex K.hrt (hb K.by hd) hr) hc hl q

theorem OGo.iload (K : OCx p l e R s m args below meth c Z own nm bytes ml rt) {k : Nat} {v : Int32} (hd : decode bytes pc = .ok (.iload k, 2)) (hp : pc + 2 = pc') (hl : Ls[k]? = some (.val (.int v))) (r : OGo p l e R s m args below meth c n0 Q h cells slots pc' Ls (.int v :: st)) : OGo p l e R s m args below meth c n0 Q h cells slots pc Ls st := by
  subst hp
  exact OGo.plain (fun T t hA q => XS.iload hA K.ex rfl (hb K.by hd) hl q) r
theorem OGo.iloadN (K : OCx p l e R s m args below meth c Z own nm bytes ml rt) {k : Fin 4} {v : Int32} (hd : decode bytes pc = .ok (.iload_n k, 1)) (hp : pc + 1 = pc') (hl : Ls[k.val]? = some (.val (.int v))) (r : OGo p l e R s m args below meth c n0 Q h cells slots pc' Ls (.int v :: st)) : OGo p l e R s m args below meth c n0 Q h cells slots pc Ls st := by
  subst hp
  exact OGo.plain (fun T t hA q => XS.iloadN hA K.ex rfl (hb K.by hd) hl q) r
theorem OGo.lload (K : OCx p l e R s m args below meth c Z own nm bytes ml rt) {k : Nat} {v : Int64} (hd : decode bytes pc = .ok (.lload k, 2)) (hp : pc + 2 = pc') (hl : Ls[k]? = some (.val (.long v))) (r : OGo p l e R s m args below meth c n0 Q h cells slots pc' Ls (.long v :: st)) : OGo p l e R s m args below meth c n0 Q h cells slots pc Ls st := by
  subst hp
  exact OGo.plain (fun T t hA q => XS.lload hA K.ex rfl (hb K.by hd) hl q) r
theorem OGo.lloadN (K : OCx p l e R s m args below meth c Z own nm bytes ml rt) {k : Fin 4} {v : Int64} (hd : decode bytes pc = .ok (.lload_n k, 1)) (hp : pc + 1 = pc') (hl : Ls[k.val]? = some (.val (.long v))) (r : OGo p l e R s m args below meth c n0 Q h cells slots pc' Ls (.long v :: st)) : OGo p l e R s m args below meth c n0 Q h cells slots pc Ls st := by
  subst hp
  exact OGo.plain (fun T t hA q => XS.lloadN hA K.ex rfl (hb K.by hd) hl q) r
theorem OGo.aload (K : OCx p l e R s m args below meth c Z own nm bytes ml rt) {k : Nat} {v : Value} (hd : decode bytes pc = .ok (.aload k, 2)) (hp : pc + 2 = pc') (hl : Ls[k]? = some (.val v)) (hv : v.isRef = true) (r : OGo p l e R s m args below meth c n0 Q h cells slots pc' Ls (v :: st)) : OGo p l e R s m args below meth c n0 Q h cells slots pc Ls st := by
  subst hp
  exact OGo.plain (fun T t hA q => XS.aload hA K.ex rfl (hb K.by hd) hl hv q) r
theorem OGo.aloadN (K : OCx p l e R s m args below meth c Z own nm bytes ml rt) {k : Fin 4} {v : Value} (hd : decode bytes pc = .ok (.aload_n k, 1)) (hp : pc + 1 = pc') (hl : Ls[k.val]? = some (.val v)) (hv : v.isRef = true) (r : OGo p l e R s m args below meth c n0 Q h cells slots pc' Ls (v :: st)) : OGo p l e R s m args below meth c n0 Q h cells slots pc Ls st := by
  subst hp
  exact OGo.plain (fun T t hA q => XS.aloadN hA K.ex rfl (hb K.by hd) hl hv q) r
theorem OGo.istore (K : OCx p l e R s m args below meth c Z own nm bytes ml rt) {k : Nat} {v : Int32} (hd : decode bytes pc = .ok (.istore k, 2)) (hp : pc + 2 = pc') (hl : storeLocals Ls k (.int v) = some Ls') (r : OGo p l e R s m args below meth c n0 Q h cells slots pc' Ls' st) : OGo p l e R s m args below meth c n0 Q h cells slots pc Ls (.int v :: st) := by
  subst hp
  exact OGo.plain (fun T t hA q => XS.istore hA K.ex rfl (hb K.by hd) rfl hl q) r
theorem OGo.istoreN (K : OCx p l e R s m args below meth c Z own nm bytes ml rt) {k : Fin 4} {v : Int32} (hd : decode bytes pc = .ok (.istore_n k, 1)) (hp : pc + 1 = pc') (hl : storeLocals Ls k.val (.int v) = some Ls') (r : OGo p l e R s m args below meth c n0 Q h cells slots pc' Ls' st) : OGo p l e R s m args below meth c n0 Q h cells slots pc Ls (.int v :: st) := by
  subst hp
  exact OGo.plain (fun T t hA q => XS.istoreN hA K.ex rfl (hb K.by hd) rfl hl q) r
theorem OGo.lstore (K : OCx p l e R s m args below meth c Z own nm bytes ml rt) {k : Nat} {v : Int64} (hd : decode bytes pc = .ok (.lstore k, 2)) (hp : pc + 2 = pc') (hl : storeLocals Ls k (.long v) = some Ls') (r : OGo p l e R s m args below meth c n0 Q h cells slots pc' Ls' st) : OGo p l e R s m args below meth c n0 Q h cells slots pc Ls (.long v :: st) := by
  subst hp
  exact OGo.plain (fun T t hA q => XS.lstore hA K.ex rfl (hb K.by hd) rfl hl q) r
theorem OGo.lstoreN (K : OCx p l e R s m args below meth c Z own nm bytes ml rt) {k : Fin 4} {v : Int64} (hd : decode bytes pc = .ok (.lstore_n k, 1)) (hp : pc + 1 = pc') (hl : storeLocals Ls k.val (.long v) = some Ls') (r : OGo p l e R s m args below meth c n0 Q h cells slots pc' Ls' st) : OGo p l e R s m args below meth c n0 Q h cells slots pc Ls (.long v :: st) := by
  subst hp
  exact OGo.plain (fun T t hA q => XS.lstoreN hA K.ex rfl (hb K.by hd) rfl hl q) r
theorem OGo.astore (K : OCx p l e R s m args below meth c Z own nm bytes ml rt) {k : Nat} {v : Value} (hd : decode bytes pc = .ok (.astore k, 2)) (hp : pc + 2 = pc') (hv : v.isRef = true) (hl : storeLocals Ls k v = some Ls') (r : OGo p l e R s m args below meth c n0 Q h cells slots pc' Ls' st) : OGo p l e R s m args below meth c n0 Q h cells slots pc Ls (v :: st) := by
  subst hp
  exact OGo.plain (fun T t hA q => XS.astore hA K.ex rfl (hb K.by hd) rfl hv hl q) r
theorem OGo.astoreN (K : OCx p l e R s m args below meth c Z own nm bytes ml rt) {k : Fin 4} {v : Value} (hd : decode bytes pc = .ok (.astore_n k, 1)) (hp : pc + 1 = pc') (hv : v.isRef = true) (hl : storeLocals Ls k.val v = some Ls') (r : OGo p l e R s m args below meth c n0 Q h cells slots pc' Ls' st) : OGo p l e R s m args below meth c n0 Q h cells slots pc Ls (v :: st) := by
  subst hp
  exact OGo.plain (fun T t hA q => XS.astoreN hA K.ex rfl (hb K.by hd) rfl hv hl q) r
theorem OGo.iconst (K : OCx p l e R s m args below meth c Z own nm bytes ml rt) {i : Int} {z : Int32} (hd : decode bytes pc = .ok (.iconst i, 1)) (hp : pc + 1 = pc') (hz : Int32.ofInt i = z) (r : OGo p l e R s m args below meth c n0 Q h cells slots pc' Ls (.int z :: st)) : OGo p l e R s m args below meth c n0 Q h cells slots pc Ls st := by
  subst hp
  exact OGo.plain (fun T t hA q => XS.iconst hA K.ex rfl (hb K.by hd) (by rw [hz]; exact q)) r
theorem OGo.bipush (K : OCx p l e R s m args below meth c Z own nm bytes ml rt) {i : Int} {z : Int32} (hd : decode bytes pc = .ok (.bipush i, 2)) (hp : pc + 2 = pc') (hz : (Int8.ofInt i).toInt32 = z) (r : OGo p l e R s m args below meth c n0 Q h cells slots pc' Ls (.int z :: st)) : OGo p l e R s m args below meth c n0 Q h cells slots pc Ls st := by
  subst hp
  exact OGo.plain (fun T t hA q => XS.bipush hA K.ex rfl (hb K.by hd) (by rw [hz]; exact q)) r
theorem OGo.sipush (K : OCx p l e R s m args below meth c Z own nm bytes ml rt) {i : Int} {z : Int32} (hd : decode bytes pc = .ok (.sipush i, 3)) (hp : pc + 3 = pc') (hz : (Int16.ofInt i).toInt32 = z) (r : OGo p l e R s m args below meth c n0 Q h cells slots pc' Ls (.int z :: st)) : OGo p l e R s m args below meth c n0 Q h cells slots pc Ls st := by
  subst hp
  exact OGo.plain (fun T t hA q => XS.sipush hA K.ex rfl (hb K.by hd) (by rw [hz]; exact q)) r
theorem OGo.lconst (K : OCx p l e R s m args below meth c Z own nm bytes ml rt) {i : Fin 2} {z : Int64} (hd : decode bytes pc = .ok (.lconst i, 1)) (hp : pc + 1 = pc') (hz : Int64.ofNat i = z) (r : OGo p l e R s m args below meth c n0 Q h cells slots pc' Ls (.long z :: st)) : OGo p l e R s m args below meth c n0 Q h cells slots pc Ls st := by
  subst hp
  exact OGo.plain (fun T t hA q => XS.lconst hA K.ex rfl (hb K.by hd) (by rw [hz]; exact q)) r
theorem OGo.aconstNull (K : OCx p l e R s m args below meth c Z own nm bytes ml rt) (hd : decode bytes pc = .ok (.aconst_null, 1)) (hp : pc + 1 = pc') (r : OGo p l e R s m args below meth c n0 Q h cells slots pc' Ls (.null :: st)) : OGo p l e R s m args below meth c n0 Q h cells slots pc Ls st := by
  subst hp
  exact OGo.plain (fun T t hA q => XS.aconstNull hA K.ex rfl (hb K.by hd) q) r
theorem OGo.iadd (K : OCx p l e R s m args below meth c Z own nm bytes ml rt) {x y : Int32} (hd : decode bytes pc = .ok (.iadd, 1)) (hp : pc + 1 = pc') (r : OGo p l e R s m args below meth c n0 Q h cells slots pc' Ls (.int (x + y) :: st)) : OGo p l e R s m args below meth c n0 Q h cells slots pc Ls (.int y :: .int x :: st) := by
  subst hp
  exact OGo.plain (fun T t hA q => XS.iadd hA K.ex rfl (hb K.by hd) rfl q) r
theorem OGo.isub (K : OCx p l e R s m args below meth c Z own nm bytes ml rt) {x y : Int32} (hd : decode bytes pc = .ok (.isub, 1)) (hp : pc + 1 = pc') (r : OGo p l e R s m args below meth c n0 Q h cells slots pc' Ls (.int (x - y) :: st)) : OGo p l e R s m args below meth c n0 Q h cells slots pc Ls (.int y :: .int x :: st) := by
  subst hp
  exact OGo.plain (fun T t hA q => XS.isub hA K.ex rfl (hb K.by hd) rfl q) r
theorem OGo.imul (K : OCx p l e R s m args below meth c Z own nm bytes ml rt) {x y : Int32} (hd : decode bytes pc = .ok (.imul, 1)) (hp : pc + 1 = pc') (r : OGo p l e R s m args below meth c n0 Q h cells slots pc' Ls (.int (x * y) :: st)) : OGo p l e R s m args below meth c n0 Q h cells slots pc Ls (.int y :: .int x :: st) := by
  subst hp
  exact OGo.plain (fun T t hA q => XS.imul hA K.ex rfl (hb K.by hd) rfl q) r
theorem OGo.iand (K : OCx p l e R s m args below meth c Z own nm bytes ml rt) {x y : Int32} (hd : decode bytes pc = .ok (.iand, 1)) (hp : pc + 1 = pc') (r : OGo p l e R s m args below meth c n0 Q h cells slots pc' Ls (.int (x &&& y) :: st)) : OGo p l e R s m args below meth c n0 Q h cells slots pc Ls (.int y :: .int x :: st) := by
  subst hp
  exact OGo.plain (fun T t hA q => XS.iand hA K.ex rfl (hb K.by hd) rfl q) r
theorem OGo.ior (K : OCx p l e R s m args below meth c Z own nm bytes ml rt) {x y : Int32} (hd : decode bytes pc = .ok (.ior, 1)) (hp : pc + 1 = pc') (r : OGo p l e R s m args below meth c n0 Q h cells slots pc' Ls (.int (x ||| y) :: st)) : OGo p l e R s m args below meth c n0 Q h cells slots pc Ls (.int y :: .int x :: st) := by
  subst hp
  exact OGo.plain (fun T t hA q => XS.ior hA K.ex rfl (hb K.by hd) rfl q) r
theorem OGo.ixor (K : OCx p l e R s m args below meth c Z own nm bytes ml rt) {x y : Int32} (hd : decode bytes pc = .ok (.ixor, 1)) (hp : pc + 1 = pc') (r : OGo p l e R s m args below meth c n0 Q h cells slots pc' Ls (.int (x ^^^ y) :: st)) : OGo p l e R s m args below meth c n0 Q h cells slots pc Ls (.int y :: .int x :: st) := by
  subst hp
  exact OGo.plain (fun T t hA q => XS.ixor hA K.ex rfl (hb K.by hd) rfl q) r
theorem OGo.ladd (K : OCx p l e R s m args below meth c Z own nm bytes ml rt) {x y : Int64} (hd : decode bytes pc = .ok (.ladd, 1)) (hp : pc + 1 = pc') (r : OGo p l e R s m args below meth c n0 Q h cells slots pc' Ls (.long (x + y) :: st)) : OGo p l e R s m args below meth c n0 Q h cells slots pc Ls (.long y :: .long x :: st) := by
  subst hp
  exact OGo.plain (fun T t hA q => XS.ladd hA K.ex rfl (hb K.by hd) rfl q) r
theorem OGo.lsub (K : OCx p l e R s m args below meth c Z own nm bytes ml rt) {x y : Int64} (hd : decode bytes pc = .ok (.lsub, 1)) (hp : pc + 1 = pc') (r : OGo p l e R s m args below meth c n0 Q h cells slots pc' Ls (.long (x - y) :: st)) : OGo p l e R s m args below meth c n0 Q h cells slots pc Ls (.long y :: .long x :: st) := by
  subst hp
  exact OGo.plain (fun T t hA q => XS.lsub hA K.ex rfl (hb K.by hd) rfl q) r
theorem OGo.lmul (K : OCx p l e R s m args below meth c Z own nm bytes ml rt) {x y : Int64} (hd : decode bytes pc = .ok (.lmul, 1)) (hp : pc + 1 = pc') (r : OGo p l e R s m args below meth c n0 Q h cells slots pc' Ls (.long (x * y) :: st)) : OGo p l e R s m args below meth c n0 Q h cells slots pc Ls (.long y :: .long x :: st) := by
  subst hp
  exact OGo.plain (fun T t hA q => XS.lmul hA K.ex rfl (hb K.by hd) rfl q) r
theorem OGo.land (K : OCx p l e R s m args below meth c Z own nm bytes ml rt) {x y : Int64} (hd : decode bytes pc = .ok (.land, 1)) (hp : pc + 1 = pc') (r : OGo p l e R s m args below meth c n0 Q h cells slots pc' Ls (.long (x &&& y) :: st)) : OGo p l e R s m args below meth c n0 Q h cells slots pc Ls (.long y :: .long x :: st) := by
  subst hp
  exact OGo.plain (fun T t hA q => XS.land hA K.ex rfl (hb K.by hd) rfl q) r
theorem OGo.lor (K : OCx p l e R s m args below meth c Z own nm bytes ml rt) {x y : Int64} (hd : decode bytes pc = .ok (.lor, 1)) (hp : pc + 1 = pc') (r : OGo p l e R s m args below meth c n0 Q h cells slots pc' Ls (.long (x ||| y) :: st)) : OGo p l e R s m args below meth c n0 Q h cells slots pc Ls (.long y :: .long x :: st) := by
  subst hp
  exact OGo.plain (fun T t hA q => XS.lor hA K.ex rfl (hb K.by hd) rfl q) r
theorem OGo.lxor (K : OCx p l e R s m args below meth c Z own nm bytes ml rt) {x y : Int64} (hd : decode bytes pc = .ok (.lxor, 1)) (hp : pc + 1 = pc') (r : OGo p l e R s m args below meth c n0 Q h cells slots pc' Ls (.long (x ^^^ y) :: st)) : OGo p l e R s m args below meth c n0 Q h cells slots pc Ls (.long y :: .long x :: st) := by
  subst hp
  exact OGo.plain (fun T t hA q => XS.lxor hA K.ex rfl (hb K.by hd) rfl q) r
theorem OGo.ishl (K : OCx p l e R s m args below meth c Z own nm bytes ml rt) {x y : Int32} (hd : decode bytes pc = .ok (.ishl, 1)) (hp : pc + 1 = pc') (r : OGo p l e R s m args below meth c n0 Q h cells slots pc' Ls (.int (x <<< (y &&& 31)) :: st)) : OGo p l e R s m args below meth c n0 Q h cells slots pc Ls (.int y :: .int x :: st) := by
  subst hp
  exact OGo.plain (fun T t hA q => XS.ishl hA K.ex rfl (hb K.by hd) rfl q) r
theorem OGo.ishr (K : OCx p l e R s m args below meth c Z own nm bytes ml rt) {x y : Int32} (hd : decode bytes pc = .ok (.ishr, 1)) (hp : pc + 1 = pc') (r : OGo p l e R s m args below meth c n0 Q h cells slots pc' Ls (.int (x >>> (y &&& 31)) :: st)) : OGo p l e R s m args below meth c n0 Q h cells slots pc Ls (.int y :: .int x :: st) := by
  subst hp
  exact OGo.plain (fun T t hA q => XS.ishr hA K.ex rfl (hb K.by hd) rfl q) r
theorem OGo.iushr (K : OCx p l e R s m args below meth c Z own nm bytes ml rt) {x y : Int32} (hd : decode bytes pc = .ok (.iushr, 1)) (hp : pc + 1 = pc') (r : OGo p l e R s m args below meth c n0 Q h cells slots pc' Ls (.int (ushr x y) :: st)) : OGo p l e R s m args below meth c n0 Q h cells slots pc Ls (.int y :: .int x :: st) := by
  subst hp
  exact OGo.plain (fun T t hA q => XS.iushr hA K.ex rfl (hb K.by hd) rfl q) r
theorem OGo.lshl (K : OCx p l e R s m args below meth c Z own nm bytes ml rt) {x : Int64} {y : Int32} (hd : decode bytes pc = .ok (.lshl, 1)) (hp : pc + 1 = pc') (r : OGo p l e R s m args below meth c n0 Q h cells slots pc' Ls (.long (x <<< (y &&& 63).toInt64) :: st)) : OGo p l e R s m args below meth c n0 Q h cells slots pc Ls (.int y :: .long x :: st) := by
  subst hp
  exact OGo.plain (fun T t hA q => XS.lshl hA K.ex rfl (hb K.by hd) rfl q) r
theorem OGo.lshr (K : OCx p l e R s m args below meth c Z own nm bytes ml rt) {x : Int64} {y : Int32} (hd : decode bytes pc = .ok (.lshr, 1)) (hp : pc + 1 = pc') (r : OGo p l e R s m args below meth c n0 Q h cells slots pc' Ls (.long (x >>> (y &&& 63).toInt64) :: st)) : OGo p l e R s m args below meth c n0 Q h cells slots pc Ls (.int y :: .long x :: st) := by
  subst hp
  exact OGo.plain (fun T t hA q => XS.lshr hA K.ex rfl (hb K.by hd) rfl q) r
theorem OGo.lushr (K : OCx p l e R s m args below meth c Z own nm bytes ml rt) {x : Int64} {y : Int32} (hd : decode bytes pc = .ok (.lushr, 1)) (hp : pc + 1 = pc') (r : OGo p l e R s m args below meth c n0 Q h cells slots pc' Ls (.long (ushrL x y) :: st)) : OGo p l e R s m args below meth c n0 Q h cells slots pc Ls (.int y :: .long x :: st) := by
  subst hp
  exact OGo.plain (fun T t hA q => XS.lushr hA K.ex rfl (hb K.by hd) rfl q) r
theorem OGo.idiv (K : OCx p l e R s m args below meth c Z own nm bytes ml rt) {x y : Int32} (hd : decode bytes pc = .ok (.idiv, 1)) (hp : pc + 1 = pc') (hy : y ≠ 0) (r : OGo p l e R s m args below meth c n0 Q h cells slots pc' Ls (.int (x / y) :: st)) : OGo p l e R s m args below meth c n0 Q h cells slots pc Ls (.int y :: .int x :: st) := by
  subst hp
  exact OGo.plain (fun T t hA q => XS.idiv hA K.ex rfl (hb K.by hd) rfl hy q) r
theorem OGo.irem (K : OCx p l e R s m args below meth c Z own nm bytes ml rt) {x y : Int32} (hd : decode bytes pc = .ok (.irem, 1)) (hp : pc + 1 = pc') (hy : y ≠ 0) (r : OGo p l e R s m args below meth c n0 Q h cells slots pc' Ls (.int (x % y) :: st)) : OGo p l e R s m args below meth c n0 Q h cells slots pc Ls (.int y :: .int x :: st) := by
  subst hp
  exact OGo.plain (fun T t hA q => XS.irem hA K.ex rfl (hb K.by hd) rfl hy (by rw [show x - x / y * y = x % y from irem_eq_mod x y]; exact q)) r
theorem OGo.ldiv (K : OCx p l e R s m args below meth c Z own nm bytes ml rt) {x y : Int64} (hd : decode bytes pc = .ok (.ldiv, 1)) (hp : pc + 1 = pc') (hy : y ≠ 0) (r : OGo p l e R s m args below meth c n0 Q h cells slots pc' Ls (.long (x / y) :: st)) : OGo p l e R s m args below meth c n0 Q h cells slots pc Ls (.long y :: .long x :: st) := by
  subst hp
  exact OGo.plain (fun T t hA q => XS.ldiv hA K.ex rfl (hb K.by hd) rfl hy q) r
theorem OGo.lrem (K : OCx p l e R s m args below meth c Z own nm bytes ml rt) {x y : Int64} (hd : decode bytes pc = .ok (.lrem, 1)) (hp : pc + 1 = pc') (hy : y ≠ 0) (r : OGo p l e R s m args below meth c n0 Q h cells slots pc' Ls (.long (x - (x / y) * y) :: st)) : OGo p l e R s m args below meth c n0 Q h cells slots pc Ls (.long y :: .long x :: st) := by
  subst hp
  exact OGo.plain (fun T t hA q => XS.lrem hA K.ex rfl (hb K.by hd) rfl hy q) r
theorem OGo.ineg (K : OCx p l e R s m args below meth c Z own nm bytes ml rt) {x : Int32} (hd : decode bytes pc = .ok (.ineg, 1)) (hp : pc + 1 = pc') (r : OGo p l e R s m args below meth c n0 Q h cells slots pc' Ls (.int (-x) :: st)) : OGo p l e R s m args below meth c n0 Q h cells slots pc Ls (.int x :: st) := by
  subst hp
  exact OGo.plain (fun T t hA q => XS.ineg hA K.ex rfl (hb K.by hd) rfl q) r
theorem OGo.lneg (K : OCx p l e R s m args below meth c Z own nm bytes ml rt) {x : Int64} (hd : decode bytes pc = .ok (.lneg, 1)) (hp : pc + 1 = pc') (r : OGo p l e R s m args below meth c n0 Q h cells slots pc' Ls (.long (-x) :: st)) : OGo p l e R s m args below meth c n0 Q h cells slots pc Ls (.long x :: st) := by
  subst hp
  exact OGo.plain (fun T t hA q => XS.lneg hA K.ex rfl (hb K.by hd) rfl q) r
theorem OGo.i2l (K : OCx p l e R s m args below meth c Z own nm bytes ml rt) {x : Int32} (hd : decode bytes pc = .ok (.i2l, 1)) (hp : pc + 1 = pc') (r : OGo p l e R s m args below meth c n0 Q h cells slots pc' Ls (.long x.toInt64 :: st)) : OGo p l e R s m args below meth c n0 Q h cells slots pc Ls (.int x :: st) := by
  subst hp
  exact OGo.plain (fun T t hA q => XS.i2l hA K.ex rfl (hb K.by hd) rfl q) r
theorem OGo.l2i (K : OCx p l e R s m args below meth c Z own nm bytes ml rt) {x : Int64} (hd : decode bytes pc = .ok (.l2i, 1)) (hp : pc + 1 = pc') (r : OGo p l e R s m args below meth c n0 Q h cells slots pc' Ls (.int x.toInt32 :: st)) : OGo p l e R s m args below meth c n0 Q h cells slots pc Ls (.long x :: st) := by
  subst hp
  exact OGo.plain (fun T t hA q => XS.l2i hA K.ex rfl (hb K.by hd) rfl q) r
theorem OGo.i2b (K : OCx p l e R s m args below meth c Z own nm bytes ml rt) {x : Int32} (hd : decode bytes pc = .ok (.i2b, 1)) (hp : pc + 1 = pc') (r : OGo p l e R s m args below meth c n0 Q h cells slots pc' Ls (.int x.toInt8.toInt32 :: st)) : OGo p l e R s m args below meth c n0 Q h cells slots pc Ls (.int x :: st) := by
  subst hp
  exact OGo.plain (fun T t hA q => XS.i2b hA K.ex rfl (hb K.by hd) rfl q) r
theorem OGo.i2s (K : OCx p l e R s m args below meth c Z own nm bytes ml rt) {x : Int32} (hd : decode bytes pc = .ok (.i2s, 1)) (hp : pc + 1 = pc') (r : OGo p l e R s m args below meth c n0 Q h cells slots pc' Ls (.int x.toInt16.toInt32 :: st)) : OGo p l e R s m args below meth c n0 Q h cells slots pc Ls (.int x :: st) := by
  subst hp
  exact OGo.plain (fun T t hA q => XS.i2s hA K.ex rfl (hb K.by hd) rfl q) r
theorem OGo.i2c (K : OCx p l e R s m args below meth c Z own nm bytes ml rt) {x : Int32} (hd : decode bytes pc = .ok (.i2c, 1)) (hp : pc + 1 = pc') (r : OGo p l e R s m args below meth c n0 Q h cells slots pc' Ls (.int x.toUInt32.toUInt16.toUInt32.toInt32 :: st)) : OGo p l e R s m args below meth c n0 Q h cells slots pc Ls (.int x :: st) := by
  subst hp
  exact OGo.plain (fun T t hA q => XS.i2c hA K.ex rfl (hb K.by hd) rfl q) r
theorem OGo.iinc (K : OCx p l e R s m args below meth c Z own nm bytes ml rt) {k : Nat} {i : Int} {x z : Int32} (hd : decode bytes pc = .ok (.iinc k i, 3)) (hp : pc + 3 = pc') (hl : Ls[k]? = some (.val (.int x))) (hz : Int32.ofInt i = z) (hl' : storeLocals Ls k (.int (x + z)) = some Ls') (r : OGo p l e R s m args below meth c n0 Q h cells slots pc' Ls' st) : OGo p l e R s m args below meth c n0 Q h cells slots pc Ls st := by
  subst hp
  exact OGo.plain (fun T t hA q => XS.iinc hA K.ex rfl (hb K.by hd) hl (by rw [hz]; exact hl') q) r
theorem OGo.dup (K : OCx p l e R s m args below meth c Z own nm bytes ml rt) {v : Value} (hd : decode bytes pc = .ok (.dup, 1)) (hp : pc + 1 = pc') (hc : v.category = 1) (r : OGo p l e R s m args below meth c n0 Q h cells slots pc' Ls (v :: v :: st)) : OGo p l e R s m args below meth c n0 Q h cells slots pc Ls (v :: st) := by
  subst hp
  exact OGo.plain (fun T t hA q => XS.dup hA K.ex rfl (hb K.by hd) rfl hc q) r
theorem OGo.pop (K : OCx p l e R s m args below meth c Z own nm bytes ml rt) {v : Value} (hd : decode bytes pc = .ok (.pop, 1)) (hp : pc + 1 = pc') (hc : v.category = 1) (r : OGo p l e R s m args below meth c n0 Q h cells slots pc' Ls st) : OGo p l e R s m args below meth c n0 Q h cells slots pc Ls (v :: st) := by
  subst hp
  exact OGo.plain (fun T t hA q => XS.pop hA K.ex rfl (hb K.by hd) rfl hc q) r
theorem OGo.dupX1 (K : OCx p l e R s m args below meth c Z own nm bytes ml rt) {v w : Value} (hd : decode bytes pc = .ok (.dup_x1, 1)) (hp : pc + 1 = pc') (hc : v.category = 1) (hc' : w.category = 1) (r : OGo p l e R s m args below meth c n0 Q h cells slots pc' Ls (v :: w :: v :: st)) : OGo p l e R s m args below meth c n0 Q h cells slots pc Ls (v :: w :: st) := by
  subst hp
  exact OGo.plain (fun T t hA q => XS.dupX1 hA K.ex rfl (hb K.by hd) rfl hc hc' q) r
theorem OGo.dup2 (K : OCx p l e R s m args below meth c Z own nm bytes ml rt) {v w : Value} (hd : decode bytes pc = .ok (.dup2, 1)) (hp : pc + 1 = pc') (hc : v.category = 1) (hc' : w.category = 1) (r : OGo p l e R s m args below meth c n0 Q h cells slots pc' Ls (v :: w :: v :: w :: st)) : OGo p l e R s m args below meth c n0 Q h cells slots pc Ls (v :: w :: st) := by
  subst hp
  exact OGo.plain (fun T t hA q => XT.dup2 hA K.ex rfl (hb K.by hd) rfl hc hc' q) r
theorem OGo.dup2L (K : OCx p l e R s m args below meth c Z own nm bytes ml rt) {x : Int64} (hd : decode bytes pc = .ok (.dup2, 1)) (hp : pc + 1 = pc') (r : OGo p l e R s m args below meth c n0 Q h cells slots pc' Ls (.long x :: .long x :: st)) : OGo p l e R s m args below meth c n0 Q h cells slots pc Ls (.long x :: st) := by
  subst hp
  exact OGo.plain (fun T t hA q => XT.dup2L hA K.ex rfl (hb K.by hd) rfl q) r
theorem OGo.lcmp (K : OCx p l e R s m args below meth c Z own nm bytes ml rt) {x y : Int64} (hd : decode bytes pc = .ok (.lcmp, 1)) (hp : pc + 1 = pc') (r : OGo p l e R s m args below meth c n0 Q h cells slots pc' Ls (.int (lcmpW x y) :: st)) : OGo p l e R s m args below meth c n0 Q h cells slots pc Ls (.long y :: .long x :: st) := by
  subst hp
  exact OGo.plain (fun T t hA q => XS.lcmp hA K.ex rfl (hb K.by hd) rfl q) r
theorem OGo.dload (K : OCx p l e R s m args below meth c Z own nm bytes ml rt) {k : Nat} {v : UInt64} (hd : decode bytes pc = .ok (.dload k, 2)) (hp : pc + 2 = pc') (hl : Ls[k]? = some (.val (.double v))) (r : OGo p l e R s m args below meth c n0 Q h cells slots pc' Ls (.double v :: st)) : OGo p l e R s m args below meth c n0 Q h cells slots pc Ls st := by
  subst hp
  exact OGo.plain (fun T t hA q => XS.dload hA K.ex rfl (hb K.by hd) hl q) r
theorem OGo.dloadN (K : OCx p l e R s m args below meth c Z own nm bytes ml rt) {k : Fin 4} {v : UInt64} (hd : decode bytes pc = .ok (.dload_n k, 1)) (hp : pc + 1 = pc') (hl : Ls[k.val]? = some (.val (.double v))) (r : OGo p l e R s m args below meth c n0 Q h cells slots pc' Ls (.double v :: st)) : OGo p l e R s m args below meth c n0 Q h cells slots pc Ls st := by
  subst hp
  exact OGo.plain (fun T t hA q => XS.dloadN hA K.ex rfl (hb K.by hd) hl q) r
theorem OGo.dstore (K : OCx p l e R s m args below meth c Z own nm bytes ml rt) {k : Nat} {v : UInt64} (hd : decode bytes pc = .ok (.dstore k, 2)) (hp : pc + 2 = pc') (hl : storeLocals Ls k (.double v) = some Ls') (r : OGo p l e R s m args below meth c n0 Q h cells slots pc' Ls' st) : OGo p l e R s m args below meth c n0 Q h cells slots pc Ls (.double v :: st) := by
  subst hp
  exact OGo.plain (fun T t hA q => XS.dstore hA K.ex rfl (hb K.by hd) rfl hl q) r
theorem OGo.dstoreN (K : OCx p l e R s m args below meth c Z own nm bytes ml rt) {k : Fin 4} {v : UInt64} (hd : decode bytes pc = .ok (.dstore_n k, 1)) (hp : pc + 1 = pc') (hl : storeLocals Ls k.val (.double v) = some Ls') (r : OGo p l e R s m args below meth c n0 Q h cells slots pc' Ls' st) : OGo p l e R s m args below meth c n0 Q h cells slots pc Ls (.double v :: st) := by
  subst hp
  exact OGo.plain (fun T t hA q => XS.dstoreN hA K.ex rfl (hb K.by hd) rfl hl q) r
theorem OGo.dconst0 (K : OCx p l e R s m args below meth c Z own nm bytes ml rt) {z : UInt64} (hd : decode bytes pc = .ok (.dconst 0, 1)) (hp : pc + 1 = pc') (hz : FP.dconst0 = z) (r : OGo p l e R s m args below meth c n0 Q h cells slots pc' Ls (.double z :: st)) : OGo p l e R s m args below meth c n0 Q h cells slots pc Ls st := by
  subst hp
  exact OGo.plain (fun T t hA q => XS.dconst0 hA K.ex rfl (hb K.by hd) hz q) r
theorem OGo.dconst1 (K : OCx p l e R s m args below meth c Z own nm bytes ml rt) {z : UInt64} (hd : decode bytes pc = .ok (.dconst 1, 1)) (hp : pc + 1 = pc') (hz : FP.dconst1 = z) (r : OGo p l e R s m args below meth c n0 Q h cells slots pc' Ls (.double z :: st)) : OGo p l e R s m args below meth c n0 Q h cells slots pc Ls st := by
  subst hp
  exact OGo.plain (fun T t hA q => XS.dconst1 hA K.ex rfl (hb K.by hd) hz q) r
theorem OGo.i2d (K : OCx p l e R s m args below meth c Z own nm bytes ml rt) {x : Int32} (hd : decode bytes pc = .ok (.i2d, 1)) (hp : pc + 1 = pc') (r : OGo p l e R s m args below meth c n0 Q h cells slots pc' Ls (.double (FP.i2d x) :: st)) : OGo p l e R s m args below meth c n0 Q h cells slots pc Ls (.int x :: st) := by
  subst hp
  exact OGo.plain (fun T t hA q => XS.i2dS hA K.ex rfl (hb K.by hd) rfl rfl q) r
theorem OGo.dadd (K : OCx p l e R s m args below meth c Z own nm bytes ml rt) {x y z : UInt64} (hd : decode bytes pc = .ok (.dadd, 1)) (hp : pc + 1 = pc') (hn : Jvm.Free.Fl.NoNaN64 (FP.dadd x y)) (hz : FP.dadd x y = z) (r : OGo p l e R s m args below meth c n0 Q h cells slots pc' Ls (.double z :: st)) : OGo p l e R s m args below meth c n0 Q h cells slots pc Ls (.double y :: .double x :: st) := by
  subst hp
  exact OGo.plain (fun T t hA q => XS.daddS hA K.ex rfl (hb K.by hd) rfl hn hz q) r
theorem OGo.dsub (K : OCx p l e R s m args below meth c Z own nm bytes ml rt) {x y z : UInt64} (hd : decode bytes pc = .ok (.dsub, 1)) (hp : pc + 1 = pc') (hn : Jvm.Free.Fl.NoNaN64 (FP.dsub x y)) (hz : FP.dsub x y = z) (r : OGo p l e R s m args below meth c n0 Q h cells slots pc' Ls (.double z :: st)) : OGo p l e R s m args below meth c n0 Q h cells slots pc Ls (.double y :: .double x :: st) := by
  subst hp
  exact OGo.plain (fun T t hA q => XS.dsubS hA K.ex rfl (hb K.by hd) rfl hn hz q) r
theorem OGo.dmul (K : OCx p l e R s m args below meth c Z own nm bytes ml rt) {x y z : UInt64} (hd : decode bytes pc = .ok (.dmul, 1)) (hp : pc + 1 = pc') (hn : Jvm.Free.Fl.NoNaN64 (FP.dmul x y)) (hz : FP.dmul x y = z) (r : OGo p l e R s m args below meth c n0 Q h cells slots pc' Ls (.double z :: st)) : OGo p l e R s m args below meth c n0 Q h cells slots pc Ls (.double y :: .double x :: st) := by
  subst hp
  exact OGo.plain (fun T t hA q => XS.dmulS hA K.ex rfl (hb K.by hd) rfl hn hz q) r
theorem OGo.ddiv (K : OCx p l e R s m args below meth c Z own nm bytes ml rt) {x y z : UInt64} (hd : decode bytes pc = .ok (.ddiv, 1)) (hp : pc + 1 = pc') (hn : Jvm.Free.Fl.NoNaN64 (FP.ddiv x y)) (hz : FP.ddiv x y = z) (r : OGo p l e R s m args below meth c n0 Q h cells slots pc' Ls (.double z :: st)) : OGo p l e R s m args below meth c n0 Q h cells slots pc Ls (.double y :: .double x :: st) := by
  subst hp
  exact OGo.plain (fun T t hA q => XS.ddivS hA K.ex rfl (hb K.by hd) rfl hn hz q) r
theorem OGo.dcmp (K : OCx p l e R s m args below meth c Z own nm bytes ml rt) {o : CmpOp} {x y : UInt64} {z : Int32} (hd : decode bytes pc = .ok (.dcmp o, 1)) (hp : pc + 1 = pc') (hz : cmpValue (FP.dcmp x y) o = z) (r : OGo p l e R s m args below meth c n0 Q h cells slots pc' Ls (.int z :: st)) : OGo p l e R s m args below meth c n0 Q h cells slots pc Ls (.double y :: .double x :: st) := by
  subst hp
  exact OGo.plain (fun T t hA q => XS.dcmpS hA K.ex rfl (hb K.by hd) rfl hz q) r
theorem OGo.goto (K : OCx p l e R s m args below meth c Z own nm bytes ml rt) {o : Int} (hd : decode bytes pc = .ok (.goto o, 3)) (ho : 0 ≤ (pc : Int) + o) (hp : ((pc : Int) + o).toNat = pc') (r : OGo p l e R s m args below meth c n0 Q h cells slots pc' Ls st) : OGo p l e R s m args below meth c n0 Q h cells slots pc Ls st :=
  OGo.plain (fun T t hA q => XS.goto hA K.ex rfl rfl (hb K.by hd) ho hp q) r
theorem OGo.icmp (K : OCx p l e R s m args below meth c Z own nm bytes ml rt) {cd : ClassFile.Cond} {o : Int} {x y : Int32} (hd : decode bytes pc = .ok (.if_icmp cd o, 3)) (hp : pc + 3 = pc') (ho : 0 ≤ (pc : Int) + o) (hq : ((pc : Int) + o).toNat = pcY) (ry : if_icmp.holds cd x y = true → OGo p l e R s m args below meth c n0 Q h cells slots pcY Ls st) (rn : if_icmp.holds cd x y = false → OGo p l e R s m args below meth c n0 Q h cells slots pc' Ls st) : OGo p l e R s m args below meth c n0 Q h cells slots pc Ls (.int y :: .int x :: st) := by
  subst hp
  cases hc : if_icmp.holds cd x y
  · exact OGo.plain (fun T t hA q => XS.icmpNo hA K.ex rfl (hb K.by hd) rfl hc q) (rn hc)
  · exact OGo.plain (fun T t hA q => XS.icmpYes hA K.ex rfl rfl (hb K.by hd) rfl hc ho hq q) (ry hc)
theorem OGo.ifc (K : OCx p l e R s m args below meth c Z own nm bytes ml rt) {cd : ClassFile.Cond} {o : Int} {x : Int32} (hd : decode bytes pc = .ok (.ifCond cd o, 3)) (hp : pc + 3 = pc') (ho : 0 ≤ (pc : Int) + o) (hq : ((pc : Int) + o).toNat = pcY) (ry : if_icmp.holds cd x 0 = true → OGo p l e R s m args below meth c n0 Q h cells slots pcY Ls st) (rn : if_icmp.holds cd x 0 = false → OGo p l e R s m args below meth c n0 Q h cells slots pc' Ls st) : OGo p l e R s m args below meth c n0 Q h cells slots pc Ls (.int x :: st) := by
  subst hp
  cases hc : if_icmp.holds cd x 0
  · exact OGo.plain (fun T t hA q => XS.ifNo hA K.ex rfl (hb K.by hd) rfl ((if0 _ _).trans hc) q) (rn hc)
  · exact OGo.plain (fun T t hA q => XS.ifYes hA K.ex rfl rfl (hb K.by hd) rfl ((if0 _ _).trans hc) ho hq q) (ry hc)
theorem own_holds {cd : ClassFile.Cond} {x y : Int32} {b : Bool} (q : if_icmp.holds cd x y = b) : match cd with | .eq => (x = y) = (b = true) | .ne => (¬ x = y) = (b = true) | .lt => (x < y) = (b = true) | .ge => (¬ x < y) = (b = true) | .gt => (y < x) = (b = true) | .le => (¬ y < x) = (b = true) := by
  subst q
  cases cd
  all_goals simp only [eq_iff_iff]
  · constructor
    · intro h; exact (teq h).1
    · intro h; by_cases q : x = y
      · exact q
      · rw [(feq q).1] at h; cases h
  · constructor
    · intro h; exact (feq h).2
    · intro h q; rw [(teq q).2] at h; cases h
  · constructor
    · intro h; exact (tlt h).1
    · intro h; by_cases q : x < y
      · exact q
      · rw [(flt q).1] at h; cases h
  · constructor
    · intro h; exact (flt h).2.1
    · intro h q; rw [(tlt q).2.1] at h; cases h
  · constructor
    · intro h; exact (tlt h).2.2.1
    · intro h; by_cases q : y < x
      · exact q
      · rw [(flt q).2.2.1] at h; cases h
  · constructor
    · intro h; exact (flt h).2.2.2
    · intro h q; rw [(tlt q).2.2.2] at h; cases h
theorem OGo.icmpEq (K : OCx p l e R s m args below meth c Z own nm bytes ml rt) {o : Int} {x y : Int32} (hd : decode bytes pc = .ok (.if_icmp .eq o, 3)) (hp : pc + 3 = pc') (ho : 0 ≤ (pc : Int) + o) (hq : ((pc : Int) + o).toNat = pcY) (ry : x = y → OGo p l e R s m args below meth c n0 Q h cells slots pcY Ls st) (rn : ¬ x = y → OGo p l e R s m args below meth c n0 Q h cells slots pc' Ls st) : OGo p l e R s m args below meth c n0 Q h cells slots pc Ls (.int y :: .int x :: st) :=
  OGo.icmp K hd hp ho hq (fun q => ry ((own_holds q : _ = _).mpr rfl)) (fun q => rn (fun z => Bool.false_ne_true ((own_holds q : _ = _).mp z)))
theorem OGo.ifEq (K : OCx p l e R s m args below meth c Z own nm bytes ml rt) {o : Int} {x : Int32} (hd : decode bytes pc = .ok (.ifCond .eq o, 3)) (hp : pc + 3 = pc') (ho : 0 ≤ (pc : Int) + o) (hq : ((pc : Int) + o).toNat = pcY) (ry : x = 0 → OGo p l e R s m args below meth c n0 Q h cells slots pcY Ls st) (rn : ¬ x = 0 → OGo p l e R s m args below meth c n0 Q h cells slots pc' Ls st) : OGo p l e R s m args below meth c n0 Q h cells slots pc Ls (.int x :: st) :=
  OGo.ifc K hd hp ho hq (fun q => ry ((own_holds q : _ = _).mpr rfl)) (fun q => rn (fun z => Bool.false_ne_true ((own_holds q : _ = _).mp z)))
theorem OGo.lcmpEq (K : OCx p l e R s m args below meth c Z own nm bytes ml rt) {o : Int} {x y : Int64} {pc1 : Nat} (hd0 : decode bytes pc = .ok (.lcmp, 1)) (hp0 : pc + 1 = pc1) (hd : decode bytes pc1 = .ok (.ifCond .eq o, 3)) (hp : pc1 + 3 = pc') (ho : 0 ≤ (pc1 : Int) + o) (hq : ((pc1 : Int) + o).toNat = pcY) (ry : x = y → OGo p l e R s m args below meth c n0 Q h cells slots pcY Ls st) (rn : ¬ x = y → OGo p l e R s m args below meth c n0 Q h cells slots pc' Ls st) : OGo p l e R s m args below meth c n0 Q h cells slots pc Ls (.long y :: .long x :: st) :=
  OGo.lcmp K hd0 hp0 (OGo.ifEq K hd hp ho hq (fun q => ry ((lw_eq x y).mp q)) (fun q => rn (fun z => q ((lw_eq x y).mpr z))))
theorem OGo.icmpNe (K : OCx p l e R s m args below meth c Z own nm bytes ml rt) {o : Int} {x y : Int32} (hd : decode bytes pc = .ok (.if_icmp .ne o, 3)) (hp : pc + 3 = pc') (ho : 0 ≤ (pc : Int) + o) (hq : ((pc : Int) + o).toNat = pcY) (ry : ¬ x = y → OGo p l e R s m args below meth c n0 Q h cells slots pcY Ls st) (rn : x = y → OGo p l e R s m args below meth c n0 Q h cells slots pc' Ls st) : OGo p l e R s m args below meth c n0 Q h cells slots pc Ls (.int y :: .int x :: st) :=
  OGo.icmp K hd hp ho hq (fun q => ry ((own_holds q : _ = _).mpr rfl)) (fun q => rn (Classical.byContradiction fun z => Bool.false_ne_true ((own_holds q : _ = _).mp z)))
theorem OGo.ifNe (K : OCx p l e R s m args below meth c Z own nm bytes ml rt) {o : Int} {x : Int32} (hd : decode bytes pc = .ok (.ifCond .ne o, 3)) (hp : pc + 3 = pc') (ho : 0 ≤ (pc : Int) + o) (hq : ((pc : Int) + o).toNat = pcY) (ry : ¬ x = 0 → OGo p l e R s m args below meth c n0 Q h cells slots pcY Ls st) (rn : x = 0 → OGo p l e R s m args below meth c n0 Q h cells slots pc' Ls st) : OGo p l e R s m args below meth c n0 Q h cells slots pc Ls (.int x :: st) :=
  OGo.ifc K hd hp ho hq (fun q => ry ((own_holds q : _ = _).mpr rfl)) (fun q => rn (Classical.byContradiction fun z => Bool.false_ne_true ((own_holds q : _ = _).mp z)))
theorem OGo.lcmpNe (K : OCx p l e R s m args below meth c Z own nm bytes ml rt) {o : Int} {x y : Int64} {pc1 : Nat} (hd0 : decode bytes pc = .ok (.lcmp, 1)) (hp0 : pc + 1 = pc1) (hd : decode bytes pc1 = .ok (.ifCond .ne o, 3)) (hp : pc1 + 3 = pc') (ho : 0 ≤ (pc1 : Int) + o) (hq : ((pc1 : Int) + o).toNat = pcY) (ry : ¬ x = y → OGo p l e R s m args below meth c n0 Q h cells slots pcY Ls st) (rn : x = y → OGo p l e R s m args below meth c n0 Q h cells slots pc' Ls st) : OGo p l e R s m args below meth c n0 Q h cells slots pc Ls (.long y :: .long x :: st) :=
  OGo.lcmp K hd0 hp0 (OGo.ifNe K hd hp ho hq (fun q => ry (fun z => q ((lw_eq x y).mpr z))) (fun q => rn ((lw_eq x y).mp q)))
theorem OGo.icmpLt (K : OCx p l e R s m args below meth c Z own nm bytes ml rt) {o : Int} {x y : Int32} (hd : decode bytes pc = .ok (.if_icmp .lt o, 3)) (hp : pc + 3 = pc') (ho : 0 ≤ (pc : Int) + o) (hq : ((pc : Int) + o).toNat = pcY) (ry : x < y → OGo p l e R s m args below meth c n0 Q h cells slots pcY Ls st) (rn : ¬ x < y → OGo p l e R s m args below meth c n0 Q h cells slots pc' Ls st) : OGo p l e R s m args below meth c n0 Q h cells slots pc Ls (.int y :: .int x :: st) :=
  OGo.icmp K hd hp ho hq (fun q => ry ((own_holds q : _ = _).mpr rfl)) (fun q => rn (fun z => Bool.false_ne_true ((own_holds q : _ = _).mp z)))
theorem OGo.ifLt (K : OCx p l e R s m args below meth c Z own nm bytes ml rt) {o : Int} {x : Int32} (hd : decode bytes pc = .ok (.ifCond .lt o, 3)) (hp : pc + 3 = pc') (ho : 0 ≤ (pc : Int) + o) (hq : ((pc : Int) + o).toNat = pcY) (ry : x < 0 → OGo p l e R s m args below meth c n0 Q h cells slots pcY Ls st) (rn : ¬ x < 0 → OGo p l e R s m args below meth c n0 Q h cells slots pc' Ls st) : OGo p l e R s m args below meth c n0 Q h cells slots pc Ls (.int x :: st) :=
  OGo.ifc K hd hp ho hq (fun q => ry ((own_holds q : _ = _).mpr rfl)) (fun q => rn (fun z => Bool.false_ne_true ((own_holds q : _ = _).mp z)))
theorem OGo.lcmpLt (K : OCx p l e R s m args below meth c Z own nm bytes ml rt) {o : Int} {x y : Int64} {pc1 : Nat} (hd0 : decode bytes pc = .ok (.lcmp, 1)) (hp0 : pc + 1 = pc1) (hd : decode bytes pc1 = .ok (.ifCond .lt o, 3)) (hp : pc1 + 3 = pc') (ho : 0 ≤ (pc1 : Int) + o) (hq : ((pc1 : Int) + o).toNat = pcY) (ry : x < y → OGo p l e R s m args below meth c n0 Q h cells slots pcY Ls st) (rn : ¬ x < y → OGo p l e R s m args below meth c n0 Q h cells slots pc' Ls st) : OGo p l e R s m args below meth c n0 Q h cells slots pc Ls (.long y :: .long x :: st) :=
  OGo.lcmp K hd0 hp0 (OGo.ifLt K hd hp ho hq (fun q => ry ((lw_lt x y).mp q)) (fun q => rn (fun z => q ((lw_lt x y).mpr z))))
theorem OGo.icmpGe (K : OCx p l e R s m args below meth c Z own nm bytes ml rt) {o : Int} {x y : Int32} (hd : decode bytes pc = .ok (.if_icmp .ge o, 3)) (hp : pc + 3 = pc') (ho : 0 ≤ (pc : Int) + o) (hq : ((pc : Int) + o).toNat = pcY) (ry : ¬ x < y → OGo p l e R s m args below meth c n0 Q h cells slots pcY Ls st) (rn : x < y → OGo p l e R s m args below meth c n0 Q h cells slots pc' Ls st) : OGo p l e R s m args below meth c n0 Q h cells slots pc Ls (.int y :: .int x :: st) :=
  OGo.icmp K hd hp ho hq (fun q => ry ((own_holds q : _ = _).mpr rfl)) (fun q => rn (Classical.byContradiction fun z => Bool.false_ne_true ((own_holds q : _ = _).mp z)))
theorem OGo.ifGe (K : OCx p l e R s m args below meth c Z own nm bytes ml rt) {o : Int} {x : Int32} (hd : decode bytes pc = .ok (.ifCond .ge o, 3)) (hp : pc + 3 = pc') (ho : 0 ≤ (pc : Int) + o) (hq : ((pc : Int) + o).toNat = pcY) (ry : ¬ x < 0 → OGo p l e R s m args below meth c n0 Q h cells slots pcY Ls st) (rn : x < 0 → OGo p l e R s m args below meth c n0 Q h cells slots pc' Ls st) : OGo p l e R s m args below meth c n0 Q h cells slots pc Ls (.int x :: st) :=
  OGo.ifc K hd hp ho hq (fun q => ry ((own_holds q : _ = _).mpr rfl)) (fun q => rn (Classical.byContradiction fun z => Bool.false_ne_true ((own_holds q : _ = _).mp z)))
theorem OGo.lcmpGe (K : OCx p l e R s m args below meth c Z own nm bytes ml rt) {o : Int} {x y : Int64} {pc1 : Nat} (hd0 : decode bytes pc = .ok (.lcmp, 1)) (hp0 : pc + 1 = pc1) (hd : decode bytes pc1 = .ok (.ifCond .ge o, 3)) (hp : pc1 + 3 = pc') (ho : 0 ≤ (pc1 : Int) + o) (hq : ((pc1 : Int) + o).toNat = pcY) (ry : ¬ x < y → OGo p l e R s m args below meth c n0 Q h cells slots pcY Ls st) (rn : x < y → OGo p l e R s m args below meth c n0 Q h cells slots pc' Ls st) : OGo p l e R s m args below meth c n0 Q h cells slots pc Ls (.long y :: .long x :: st) :=
  OGo.lcmp K hd0 hp0 (OGo.ifGe K hd hp ho hq (fun q => ry (fun z => q ((lw_lt x y).mpr z))) (fun q => rn ((lw_lt x y).mp q)))
theorem OGo.icmpGt (K : OCx p l e R s m args below meth c Z own nm bytes ml rt) {o : Int} {x y : Int32} (hd : decode bytes pc = .ok (.if_icmp .gt o, 3)) (hp : pc + 3 = pc') (ho : 0 ≤ (pc : Int) + o) (hq : ((pc : Int) + o).toNat = pcY) (ry : y < x → OGo p l e R s m args below meth c n0 Q h cells slots pcY Ls st) (rn : ¬ y < x → OGo p l e R s m args below meth c n0 Q h cells slots pc' Ls st) : OGo p l e R s m args below meth c n0 Q h cells slots pc Ls (.int y :: .int x :: st) :=
  OGo.icmp K hd hp ho hq (fun q => ry ((own_holds q : _ = _).mpr rfl)) (fun q => rn (fun z => Bool.false_ne_true ((own_holds q : _ = _).mp z)))
theorem OGo.ifGt (K : OCx p l e R s m args below meth c Z own nm bytes ml rt) {o : Int} {x : Int32} (hd : decode bytes pc = .ok (.ifCond .gt o, 3)) (hp : pc + 3 = pc') (ho : 0 ≤ (pc : Int) + o) (hq : ((pc : Int) + o).toNat = pcY) (ry : 0 < x → OGo p l e R s m args below meth c n0 Q h cells slots pcY Ls st) (rn : ¬ 0 < x → OGo p l e R s m args below meth c n0 Q h cells slots pc' Ls st) : OGo p l e R s m args below meth c n0 Q h cells slots pc Ls (.int x :: st) :=
  OGo.ifc K hd hp ho hq (fun q => ry ((own_holds q : _ = _).mpr rfl)) (fun q => rn (fun z => Bool.false_ne_true ((own_holds q : _ = _).mp z)))
theorem OGo.lcmpGt (K : OCx p l e R s m args below meth c Z own nm bytes ml rt) {o : Int} {x y : Int64} {pc1 : Nat} (hd0 : decode bytes pc = .ok (.lcmp, 1)) (hp0 : pc + 1 = pc1) (hd : decode bytes pc1 = .ok (.ifCond .gt o, 3)) (hp : pc1 + 3 = pc') (ho : 0 ≤ (pc1 : Int) + o) (hq : ((pc1 : Int) + o).toNat = pcY) (ry : y < x → OGo p l e R s m args below meth c n0 Q h cells slots pcY Ls st) (rn : ¬ y < x → OGo p l e R s m args below meth c n0 Q h cells slots pc' Ls st) : OGo p l e R s m args below meth c n0 Q h cells slots pc Ls (.long y :: .long x :: st) :=
  OGo.lcmp K hd0 hp0 (OGo.ifGt K hd hp ho hq (fun q => ry ((lw_gt x y).mp q)) (fun q => rn (fun z => q ((lw_gt x y).mpr z))))
theorem OGo.icmpLe (K : OCx p l e R s m args below meth c Z own nm bytes ml rt) {o : Int} {x y : Int32} (hd : decode bytes pc = .ok (.if_icmp .le o, 3)) (hp : pc + 3 = pc') (ho : 0 ≤ (pc : Int) + o) (hq : ((pc : Int) + o).toNat = pcY) (ry : ¬ y < x → OGo p l e R s m args below meth c n0 Q h cells slots pcY Ls st) (rn : y < x → OGo p l e R s m args below meth c n0 Q h cells slots pc' Ls st) : OGo p l e R s m args below meth c n0 Q h cells slots pc Ls (.int y :: .int x :: st) :=
  OGo.icmp K hd hp ho hq (fun q => ry ((own_holds q : _ = _).mpr rfl)) (fun q => rn (Classical.byContradiction fun z => Bool.false_ne_true ((own_holds q : _ = _).mp z)))
theorem OGo.ifLe (K : OCx p l e R s m args below meth c Z own nm bytes ml rt) {o : Int} {x : Int32} (hd : decode bytes pc = .ok (.ifCond .le o, 3)) (hp : pc + 3 = pc') (ho : 0 ≤ (pc : Int) + o) (hq : ((pc : Int) + o).toNat = pcY) (ry : ¬ 0 < x → OGo p l e R s m args below meth c n0 Q h cells slots pcY Ls st) (rn : 0 < x → OGo p l e R s m args below meth c n0 Q h cells slots pc' Ls st) : OGo p l e R s m args below meth c n0 Q h cells slots pc Ls (.int x :: st) :=
  OGo.ifc K hd hp ho hq (fun q => ry ((own_holds q : _ = _).mpr rfl)) (fun q => rn (Classical.byContradiction fun z => Bool.false_ne_true ((own_holds q : _ = _).mp z)))
theorem OGo.lcmpLe (K : OCx p l e R s m args below meth c Z own nm bytes ml rt) {o : Int} {x y : Int64} {pc1 : Nat} (hd0 : decode bytes pc = .ok (.lcmp, 1)) (hp0 : pc + 1 = pc1) (hd : decode bytes pc1 = .ok (.ifCond .le o, 3)) (hp : pc1 + 3 = pc') (ho : 0 ≤ (pc1 : Int) + o) (hq : ((pc1 : Int) + o).toNat = pcY) (ry : ¬ y < x → OGo p l e R s m args below meth c n0 Q h cells slots pcY Ls st) (rn : y < x → OGo p l e R s m args below meth c n0 Q h cells slots pc' Ls st) : OGo p l e R s m args below meth c n0 Q h cells slots pc Ls (.long y :: .long x :: st) :=
  OGo.lcmp K hd0 hp0 (OGo.ifLe K hd hp ho hq (fun q => ry (fun z => q ((lw_gt x y).mpr z))) (fun q => rn ((lw_gt x y).mp q)))
theorem OGo.ifnullY (K : OCx p l e R s m args below meth c Z own nm bytes ml rt) {o : Int} (hd : decode bytes pc = .ok (.ifnull o, 3)) (ho : 0 ≤ (pc : Int) + o) (hq : ((pc : Int) + o).toNat = pc') (r : OGo p l e R s m args below meth c n0 Q h cells slots pc' Ls st) : OGo p l e R s m args below meth c n0 Q h cells slots pc Ls (.null :: st) :=
  OGo.plain (fun T t hA q => XS.ifnullYes hA K.ex rfl rfl (hb K.by hd) rfl ho hq q) r
theorem OGo.ifnullN (K : OCx p l e R s m args below meth c Z own nm bytes ml rt) {b : Addr} {o : Int} (hd : decode bytes pc = .ok (.ifnull o, 3)) (hp : pc + 3 = pc') (r : OGo p l e R s m args below meth c n0 Q h cells slots pc' Ls st) : OGo p l e R s m args below meth c n0 Q h cells slots pc Ls (.ref b :: st) := by
  subst hp
  exact OGo.plain (fun T t hA q => XS.ifnullNo hA K.ex rfl (hb K.by hd) rfl q) r
theorem OGo.ifnonnullY (K : OCx p l e R s m args below meth c Z own nm bytes ml rt) {b : Addr} {o : Int} (hd : decode bytes pc = .ok (.ifnonnull o, 3)) (ho : 0 ≤ (pc : Int) + o) (hq : ((pc : Int) + o).toNat = pc') (r : OGo p l e R s m args below meth c n0 Q h cells slots pc' Ls st) : OGo p l e R s m args below meth c n0 Q h cells slots pc Ls (.ref b :: st) :=
  OGo.plain (fun T t hA q => XS.ifnonnullYes hA K.ex rfl rfl (hb K.by hd) rfl ho hq q) r
theorem OGo.ifnonnullN (K : OCx p l e R s m args below meth c Z own nm bytes ml rt) {o : Int} (hd : decode bytes pc = .ok (.ifnonnull o, 3)) (hp : pc + 3 = pc') (r : OGo p l e R s m args below meth c n0 Q h cells slots pc' Ls st) : OGo p l e R s m args below meth c n0 Q h cells slots pc Ls (.null :: st) := by
  subst hp
  exact OGo.plain (fun T t hA q => XS.ifnonnullNo hA K.ex rfl (hb K.by hd) rfl q) r
theorem OGo.getF (K : OCx p l e R s m args below meth c Z own nm bytes ml rt) {R0 O n d host : String} {index : Nat} {a : Addr} {v : Value} (w : (Jvm.Cond.fieldLink own index R0 n d).before a0 Z = true ∨ (Jvm.Cond.fieldLinkNest own index R0 n d host).before a0 Z = true) (via : Via Z R0 O n d) (F : Fld Z h a O n d v) (hd : decode bytes pc = .ok (.getfield index, 3)) (hp : pc + 3 = pc') (r : OGo p l e R s m args below meth c n0 Q h cells slots pc' Ls (v :: st)) : OGo p l e R s m args below meth c n0 Q h cells slots pc Ls (.ref a :: st) := by
  subst hp
  exact OGo.same (fun T locs k n X e0 => RoadKit.getF X K.ex K.hZ K.hown w via e0 F (g := mkF m pc Ls (.ref a :: st)) rfl rfl (hb K.by hd)) r
theorem OGo.getS (K : OCx p l e R s m args below meth c Z own nm bytes ml rt) {R0 O n d host : String} {index : Nat} {v : Value} (w : (Jvm.Cond.fieldLink own index R0 n d).before a0 Z = true ∨ (Jvm.Cond.fieldLinkNest own index R0 n d host).before a0 Z = true) (via : Via Z R0 O n d) (F : Sta Z h O n d v) (hd : decode bytes pc = .ok (.getstatic index, 3)) (hp : pc + 3 = pc') (r : OGo p l e R s m args below meth c n0 Q h cells slots pc' Ls (v :: st)) : OGo p l e R s m args below meth c n0 Q h cells slots pc Ls st := by
  subst hp
  exact OGo.same (fun T locs k n X e0 => RoadKit.getS2 X K.ex K.hZ K.hown w via e0 F (g := mkF m pc Ls st) rfl (hb K.by hd)) r
theorem OGo.putF (K : OCx p l e R s m args below meth c Z own nm bytes ml rt) {R0 O n d host C : String} {index kk : Nat} {ty : FieldType} {a : Addr} {v old : Value} (w : (Jvm.Cond.fieldLink own index R0 n d).before a0 Z = true ∨ (Jvm.Cond.fieldLinkNest own index R0 n d host).before a0 Z = true) (via : Via Z R0 O n d) (F : Fld Z h a O n d old) (E : Exa Z h a C) (L : (Jvm.Cond.lays C O n d).before a0 Z = true ∨ ((Jvm.Cond.laysFinal C O n d).before a0 Z = true ∧ own = O ∧ nm = "<init>")) (wi : (Jvm.Cond.instantiable C kk).before a0 Z = true) (hty : parseFieldDescriptor d = some ty) (hn : narrow ty v = v) (hf : fits ty v = true) (ga : n0 ≤ a) (hd : decode bytes pc = .ok (.putfield index, 3)) (hp : pc + 3 = pc')
    (r : ∀ h', Wr h h' a (RoadKit.slotOf Z O n d) v → OGo p l e R s m args below meth c n0 Q h' cells slots pc' Ls st) : OGo p l e R s m args below meth c n0 Q h cells slots pc Ls (v :: .ref a :: st) := by
  subst hp
  exact OGo.write ga (fun T locs k n X e0 => RoadKit.putF X K.ex K.hZ K.hown w via e0 F E (L.imp id fun q => ⟨q.1, q.2.1, K.hnm.trans q.2.2⟩) wi hty hn hf (g := mkF m pc Ls (v :: .ref a :: st)) rfl rfl (hb K.by hd)) r
theorem OGo.putFN (K : OCx p l e R s m args below meth c Z own nm bytes ml rt) {R0 O n d C : String} {index kk : Nat} {ty : FieldType} {a : Addr} {v v' old : Value} (w : (Jvm.Cond.fieldLink own index R0 n d).before a0 Z = true) (via : Via Z R0 O n d) (F : Fld Z h a O n d old) (E : Exa Z h a C) (L : (Jvm.Cond.lays C O n d).before a0 Z = true ∨ ((Jvm.Cond.laysFinal C O n d).before a0 Z = true ∧ own = O ∧ nm = "<init>")) (wi : (Jvm.Cond.instantiable C kk).before a0 Z = true) (hty : parseFieldDescriptor d = some ty) (hn : narrow ty v = v') (hf : fits ty v' = true) (ga : n0 ≤ a) (hd : decode bytes pc = .ok (.putfield index, 3)) (hp : pc + 3 = pc')
    (r : ∀ h', Wr h h' a (RoadKit.slotOf Z O n d) v' → OGo p l e R s m args below meth c n0 Q h' cells slots pc' Ls st) : OGo p l e R s m args below meth c n0 Q h cells slots pc Ls (v :: .ref a :: st) := by
  subst hp
  exact OGo.write ga (fun T locs k n X e0 => RoadKit.putFN X K.ex K.hZ K.hown w via e0 F E (L.imp id fun q => ⟨q.1, q.2.1, K.hnm.trans q.2.2⟩) wi hty hn hf (g := mkF m pc Ls (v :: .ref a :: st)) rfl rfl (hb K.by hd)) r
theorem OGo.newO (K : OCx p l e R s m args below meth c Z own nm bytes ml rt) {C : String} {index n cells' slots' : Nat} (w : (Jvm.Cond.classLink own index C).before a0 Z = true) (wi : (Jvm.Cond.instantiable C n).before a0 Z = true) (wz : (Jvm.Cond.initialized C).before a0 Z = true) (hd : decode bytes pc = .ok (.new index, 3)) (hp : pc + 3 = pc') (hc : cells + 1 = cells') (hl : slots + n = slots') (hc' : cells' ≤ R.cells) (hl' : slots' ≤ R.slots)
    (r : ∀ (h' : Heap) (a : Addr), a = h.size → Ext h h' → Exa Z h' a C → (∀ {O nm d : String} {ty : FieldType}, Laid Z a0 C O nm d → parseFieldDescriptor d = some ty → Fld Z h' a O nm d (defaultValue ty)) → OGo p l e R s m args below meth c n0 Q h' cells' slots' pc' Ls (.ref a :: st)) : OGo p l e R s m args below meth c n0 Q h cells slots pc Ls st := by
  subst hp hc hl
  intro T locs k j X e0 N h1 h2
  obtain ⟨T', h', X', e', E, A, D, -, st'⟩ := RoadKit.newO X K.ex K.hZ K.hown w wi wz e0 (g := mkF m pc Ls st) rfl (hb K.by hd) (by omega) (by omega)
  obtain ⟨s₂, v, L, g, r'⟩ := r h' h.size rfl E A D T' locs _ _ X' e' N (by omega) (by omega)
  exact ⟨s₂, v, L, st' _ g, r'⟩
theorem OGo.newP (K : OCx p l e R s m args below meth c Z own nm bytes ml rt) {aty : ArrayType} {z : Int32} {cap cells' slots' : Nat} (w : (Jvm.Cond.arrayClass (newarray.typeOf aty)).before a0 Z = true) (hd : decode bytes pc = .ok (.newarray aty, 2)) (hp : pc + 2 = pc') (hz : ¬ z < 0) (hcap : z.toNatClampNeg ≤ cap) (hb' : cap * 8 ≤ 536870912) (hc : cells + 1 = cells') (hl : slots + cap = slots') (hc' : cells' ≤ R.cells) (hl' : slots' ≤ R.slots)
    (r : ∀ (h' : Heap) (a : Addr) (ca : ClassId), a = h.size → Ext h h' → Arv Z h' a ca (newarray.typeOf aty) z [] (defaultValue (newarray.typeOf aty)) → OGo p l e R s m args below meth c n0 Q h' cells' slots' pc' Ls (.ref a :: st)) : OGo p l e R s m args below meth c n0 Q h cells slots pc Ls (.int z :: st) := by
  subst hp hc hl
  intro T locs k j X e0 N h1 h2
  obtain ⟨T', h', ca, X', e', E, A, st'⟩ := RoadKit.newP X K.ex K.hZ w e0 (g := mkF m pc Ls (.int z :: st)) rfl (hb K.by hd) rfl hz (cap := cap) hcap hb' (by omega) (by omega)
  obtain ⟨s₂, v, L, g, r'⟩ := r h' h.size ca rfl E (Arv.new A hz) T' locs _ _ X' e' N (by omega) (by omega)
  exact ⟨s₂, v, L, st' _ g, r'⟩
theorem OGo.newR (K : OCx p l e R s m args below meth c Z own nm bytes ml rt) {C : String} {index : Nat} {z : Int32} {cap cells' slots' : Nat} (w1 : (Jvm.Cond.classLink own index C).before a0 Z = true) (w2 : (Jvm.Cond.arrayOver (.object C)).before a0 Z = true) (hd : decode bytes pc = .ok (.anewarray index, 3)) (hp : pc + 3 = pc') (hz : ¬ z < 0) (hcap : z.toNatClampNeg ≤ cap) (hb' : cap * 8 ≤ 536870912) (hc : cells + 1 = cells') (hl : slots + cap = slots') (hc' : cells' ≤ R.cells) (hl' : slots' ≤ R.slots)
    (r : ∀ (h' : Heap) (a : Addr) (ca : ClassId), a = h.size → Ext h h' → Arv Z h' a ca (.object C) z [] .null → Ovr Z ca C → OGo p l e R s m args below meth c n0 Q h' cells' slots' pc' Ls (.ref a :: st)) : OGo p l e R s m args below meth c n0 Q h cells slots pc Ls (.int z :: st) := by
  subst hp hc hl
  intro T locs k j X e0 N h1 h2
  obtain ⟨T', h', ca, X', e', E, A, O, st'⟩ := RoadKit.newR X K.ex K.hZ K.hown w1 w2 e0 (g := mkF m pc Ls (.int z :: st)) rfl (hb K.by hd) rfl hz (cap := cap) hcap hb' (by omega) (by omega)
  obtain ⟨s₂, v, L, g, r'⟩ := r h' h.size ca rfl E (Arv.new A hz) O T' locs _ _ X' e' N (by omega) (by omega)
  exact ⟨s₂, v, L, st' _ g, r'⟩
theorem OGo.iaload (K : OCx p l e R s m args below meth c Z own nm bytes ml rt) {a : Addr} {ca : ClassId} {z j : Int32} {vs : List Value} {dv v : Value} (A : Arv Z h a ca .int z vs dv) (hj : ¬ j < 0 ∧ j < z) (hv : vs.getD j.toNatClampNeg dv = v) (hd : decode bytes pc = .ok (.iaload, 1)) (hp : pc + 1 = pc') (r : OGo p l e R s m args below meth c n0 Q h cells slots pc' Ls (v :: st)) : OGo p l e R s m args below meth c n0 Q h cells slots pc Ls (.int j :: .ref a :: st) := by
  subst hp
  obtain ⟨cl, A, -, S, -, H, -⟩ := A
  have hin := inb_of S hj
  exact OGo.same (fun T locs k n X e0 => ⟨T, X, e0, fun t q => X.iaload K.ex (j := j) (by rw [e0]; exact A.1) (State.isArrayOf_alike K.hZ.alike A.2.1) A.2.2 hin (H.at hin hv) (g := mkF m pc Ls (.int j :: .ref a :: st)) rfl rfl (hb K.by hd) t q⟩) r
theorem OGo.laload (K : OCx p l e R s m args below meth c Z own nm bytes ml rt) {a : Addr} {ca : ClassId} {z j : Int32} {vs : List Value} {dv v : Value} (A : Arv Z h a ca .long z vs dv) (hj : ¬ j < 0 ∧ j < z) (hv : vs.getD j.toNatClampNeg dv = v) (hd : decode bytes pc = .ok (.laload, 1)) (hp : pc + 1 = pc') (r : OGo p l e R s m args below meth c n0 Q h cells slots pc' Ls (v :: st)) : OGo p l e R s m args below meth c n0 Q h cells slots pc Ls (.int j :: .ref a :: st) := by
  subst hp
  obtain ⟨cl, A, -, S, -, H, -⟩ := A
  have hin := inb_of S hj
  exact OGo.same (fun T locs k n X e0 => ⟨T, X, e0, fun t q => X.laload K.ex (j := j) (by rw [e0]; exact A.1) (State.isArrayOf_alike K.hZ.alike A.2.1) A.2.2 hin (H.at hin hv) (g := mkF m pc Ls (.int j :: .ref a :: st)) rfl rfl (hb K.by hd) t q⟩) r
theorem OGo.caload (K : OCx p l e R s m args below meth c Z own nm bytes ml rt) {a : Addr} {ca : ClassId} {z j : Int32} {vs : List Value} {dv v : Value} (A : Arv Z h a ca .char z vs dv) (hj : ¬ j < 0 ∧ j < z) (hv : vs.getD j.toNatClampNeg dv = v) (hd : decode bytes pc = .ok (.caload, 1)) (hp : pc + 1 = pc') (r : OGo p l e R s m args below meth c n0 Q h cells slots pc' Ls (v :: st)) : OGo p l e R s m args below meth c n0 Q h cells slots pc Ls (.int j :: .ref a :: st) := by
  subst hp
  obtain ⟨cl, A, -, S, -, H, -⟩ := A
  have hin := inb_of S hj
  exact OGo.same (fun T locs k n X e0 => ⟨T, X, e0, fun t q => X.caload K.ex (j := j) (by rw [e0]; exact A.1) (State.isArrayOf_alike K.hZ.alike A.2.1) A.2.2 hin (H.at hin hv) (g := mkF m pc Ls (.int j :: .ref a :: st)) rfl rfl (hb K.by hd) t q⟩) r
theorem OGo.saload (K : OCx p l e R s m args below meth c Z own nm bytes ml rt) {a : Addr} {ca : ClassId} {z j : Int32} {vs : List Value} {dv v : Value} (A : Arv Z h a ca .short z vs dv) (hj : ¬ j < 0 ∧ j < z) (hv : vs.getD j.toNatClampNeg dv = v) (hd : decode bytes pc = .ok (.saload, 1)) (hp : pc + 1 = pc') (r : OGo p l e R s m args below meth c n0 Q h cells slots pc' Ls (v :: st)) : OGo p l e R s m args below meth c n0 Q h cells slots pc Ls (.int j :: .ref a :: st) := by
  subst hp
  obtain ⟨cl, A, -, S, -, H, -⟩ := A
  have hin := inb_of S hj
  exact OGo.same (fun T locs k n X e0 => ⟨T, X, e0, fun t q => X.saload K.ex (j := j) (by rw [e0]; exact A.1) (State.isArrayOf_alike K.hZ.alike A.2.1) A.2.2 hin (H.at hin hv) (g := mkF m pc Ls (.int j :: .ref a :: st)) rfl rfl (hb K.by hd) t q⟩) r
theorem OGo.baload (K : OCx p l e R s m args below meth c Z own nm bytes ml rt) {a : Addr} {ca : ClassId} {z j : Int32} {vs : List Value} {dv v : Value} (A : Arv Z h a ca .byte z vs dv) (hj : ¬ j < 0 ∧ j < z) (hv : vs.getD j.toNatClampNeg dv = v) (hd : decode bytes pc = .ok (.baload, 1)) (hp : pc + 1 = pc') (r : OGo p l e R s m args below meth c n0 Q h cells slots pc' Ls (v :: st)) : OGo p l e R s m args below meth c n0 Q h cells slots pc Ls (.int j :: .ref a :: st) := by
  subst hp
  obtain ⟨cl, A, -, S, -, H, -⟩ := A
  have hin := inb_of S hj
  exact OGo.same (fun T locs k n X e0 => ⟨T, X, e0, fun t q => X.baloadBytes K.ex (j := j) (by rw [e0]; exact A.1) (State.isArrayOf_alike K.hZ.alike A.2.1) A.2.2 hin (H.at hin hv) (g := mkF m pc Ls (.int j :: .ref a :: st)) rfl rfl (hb K.by hd) t q⟩) r
theorem OGo.zaload (K : OCx p l e R s m args below meth c Z own nm bytes ml rt) {a : Addr} {ca : ClassId} {z j : Int32} {vs : List Value} {dv v : Value} (A : Arv Z h a ca .boolean z vs dv) (hj : ¬ j < 0 ∧ j < z) (hv : vs.getD j.toNatClampNeg dv = v) (hd : decode bytes pc = .ok (.baload, 1)) (hp : pc + 1 = pc') (r : OGo p l e R s m args below meth c n0 Q h cells slots pc' Ls (v :: st)) : OGo p l e R s m args below meth c n0 Q h cells slots pc Ls (.int j :: .ref a :: st) := by
  subst hp
  obtain ⟨cl, A, -, S, -, H, -⟩ := A
  have hin := inb_of S hj
  exact OGo.same (fun T locs k n X e0 => ⟨T, X, e0, fun t q => X.baloadBooleans K.ex (j := j) (by rw [e0]; exact A.1) (State.isArrayOf_alike K.hZ.alike A.2.1) A.2.2 hin (H.at hin hv) (g := mkF m pc Ls (.int j :: .ref a :: st)) rfl rfl (hb K.by hd) t q⟩) r
theorem OGo.aaload (K : OCx p l e R s m args below meth c Z own nm bytes ml rt) {a : Addr} {ca : ClassId} {ty : FieldType} {z j : Int32} {vs : List Value} {dv v : Value} (A : Arv Z h a ca ty z vs dv) (hty : ty.isReference = true) (hj : ¬ j < 0 ∧ j < z) (hv : vs.getD j.toNatClampNeg dv = v) (hd : decode bytes pc = .ok (.aaload, 1)) (hp : pc + 1 = pc') (r : OGo p l e R s m args below meth c n0 Q h cells slots pc' Ls (v :: st)) : OGo p l e R s m args below meth c n0 Q h cells slots pc Ls (.int j :: .ref a :: st) := by
  subst hp
  obtain ⟨cl, A, -, S, -, H, -⟩ := A
  have hin := inb_of S hj
  exact OGo.same (fun T locs k n X e0 => ⟨T, X, e0, fun t q => X.aaload K.ex (j := j) (by rw [e0]; exact A.1) (State.isArrayOf_alike K.hZ.alike A.2.1) hty A.2.2 hin (H.at hin hv) (g := mkF m pc Ls (.int j :: .ref a :: st)) rfl rfl (hb K.by hd) t q⟩) r
theorem OGo.alen (K : OCx p l e R s m args below meth c Z own nm bytes ml rt) {a : Addr} {ca : ClassId} {ty : FieldType} {z : Int32} {vs : List Value} {dv : Value} (A : Arv Z h a ca ty z vs dv) (hd : decode bytes pc = .ok (.arraylength, 1)) (hp : pc + 1 = pc') (r : OGo p l e R s m args below meth c n0 Q h cells slots pc' Ls (.int z :: st)) : OGo p l e R s m args below meth c n0 Q h cells slots pc Ls (.ref a :: st) := by
  subst hp
  obtain ⟨cl, A, -, S, hz, -, -⟩ := A
  exact OGo.same (fun T locs k n X e0 => ⟨T, X, e0, fun t q => X.arraylength K.ex (by rw [e0]; exact A.1) (State.isArrayOf_alike K.hZ.alike A.2.1) (g := mkF m pc Ls (.ref a :: st)) rfl rfl (hb K.by hd) t (by rw [len_of S hz]; exact q)⟩) r
theorem OGo.iastore (K : OCx p l e R s m args below meth c Z own nm bytes ml rt) {a : Addr} {ca : ClassId} {z j : Int32} {vs : List Value} {dv : Value} {x : Int32} (A : Arv Z h a ca .int z vs dv) (hj : ¬ j < 0 ∧ j < z) {i : Nat} (hij : j.toNatClampNeg = i) (hi : i < vs.length) (ga : n0 ≤ a) (hd : decode bytes pc = .ok (.iastore, 1)) (hp : pc + 1 = pc')
    (r : ∀ h', Wr h h' a j.toNatClampNeg (.int x) → Arv Z h' a ca .int z (vs.set i (.int x)) dv → OGo p l e R s m args below meth c n0 Q h' cells slots pc' Ls st) : OGo p l e R s m args below meth c n0 Q h cells slots pc Ls (.int x :: .int j :: .ref a :: st) := by
  subst hp
  obtain ⟨cl, A, q1, S, hz, H, G⟩ := A
  have hin := inb_of S hj
  exact OGo.write ga (fun T locs k n X e0 => RoadKit.stI X K.ex K.hZ e0 A (j := j) hin (g := mkF m pc Ls (.int x :: .int j :: .ref a :: st)) rfl rfl (hb K.by hd)) (fun h' W => r h' W (Arv.set A q1 S hz H G rfl W _ hij hi))
theorem OGo.lastore (K : OCx p l e R s m args below meth c Z own nm bytes ml rt) {a : Addr} {ca : ClassId} {z j : Int32} {vs : List Value} {dv : Value} {x : Int64} (A : Arv Z h a ca .long z vs dv) (hj : ¬ j < 0 ∧ j < z) {i : Nat} (hij : j.toNatClampNeg = i) (hi : i < vs.length) (ga : n0 ≤ a) (hd : decode bytes pc = .ok (.lastore, 1)) (hp : pc + 1 = pc')
    (r : ∀ h', Wr h h' a j.toNatClampNeg (.long x) → Arv Z h' a ca .long z (vs.set i (.long x)) dv → OGo p l e R s m args below meth c n0 Q h' cells slots pc' Ls st) : OGo p l e R s m args below meth c n0 Q h cells slots pc Ls (.long x :: .int j :: .ref a :: st) := by
  subst hp
  obtain ⟨cl, A, q1, S, hz, H, G⟩ := A
  have hin := inb_of S hj
  exact OGo.write ga (fun T locs k n X e0 => RoadKit.stJ X K.ex K.hZ e0 A (j := j) hin (g := mkF m pc Ls (.long x :: .int j :: .ref a :: st)) rfl rfl (hb K.by hd)) (fun h' W => r h' W (Arv.set A q1 S hz H G rfl W _ hij hi))
theorem OGo.castore (K : OCx p l e R s m args below meth c Z own nm bytes ml rt) {a : Addr} {ca : ClassId} {z j : Int32} {vs : List Value} {dv : Value} {x : Int32} (A : Arv Z h a ca .char z vs dv) (hj : ¬ j < 0 ∧ j < z) {i : Nat} (hij : j.toNatClampNeg = i) (hi : i < vs.length) (ga : n0 ≤ a) (hd : decode bytes pc = .ok (.castore, 1)) (hp : pc + 1 = pc')
    (r : ∀ h', Wr h h' a j.toNatClampNeg (.int (nar .char x)) → Arv Z h' a ca .char z (vs.set i (.int (nar .char x))) dv → OGo p l e R s m args below meth c n0 Q h' cells slots pc' Ls st) : OGo p l e R s m args below meth c n0 Q h cells slots pc Ls (.int x :: .int j :: .ref a :: st) := by
  subst hp
  obtain ⟨cl, A, q1, S, hz, H, G⟩ := A
  have hin := inb_of S hj
  exact OGo.write ga (fun T locs k n X e0 => RoadKit.stC X K.ex K.hZ e0 A (j := j) hin (g := mkF m pc Ls (.int x :: .int j :: .ref a :: st)) rfl rfl (hb K.by hd)) (fun h' W => r h' W (Arv.set A q1 S hz H G (fits_nar_char x) W _ hij hi))
theorem OGo.sastore (K : OCx p l e R s m args below meth c Z own nm bytes ml rt) {a : Addr} {ca : ClassId} {z j : Int32} {vs : List Value} {dv : Value} {x : Int32} (A : Arv Z h a ca .short z vs dv) (hj : ¬ j < 0 ∧ j < z) {i : Nat} (hij : j.toNatClampNeg = i) (hi : i < vs.length) (ga : n0 ≤ a) (hd : decode bytes pc = .ok (.sastore, 1)) (hp : pc + 1 = pc')
    (r : ∀ h', Wr h h' a j.toNatClampNeg (.int (nar .short x)) → Arv Z h' a ca .short z (vs.set i (.int (nar .short x))) dv → OGo p l e R s m args below meth c n0 Q h' cells slots pc' Ls st) : OGo p l e R s m args below meth c n0 Q h cells slots pc Ls (.int x :: .int j :: .ref a :: st) := by
  subst hp
  obtain ⟨cl, A, q1, S, hz, H, G⟩ := A
  have hin := inb_of S hj
  exact OGo.write ga (fun T locs k n X e0 => RoadKit.stS X K.ex K.hZ e0 A (j := j) hin (g := mkF m pc Ls (.int x :: .int j :: .ref a :: st)) rfl rfl (hb K.by hd)) (fun h' W => r h' W (Arv.set A q1 S hz H G (fits_nar_short x) W _ hij hi))
theorem OGo.bastore (K : OCx p l e R s m args below meth c Z own nm bytes ml rt) {a : Addr} {ca : ClassId} {z j : Int32} {vs : List Value} {dv : Value} {x : Int32} (A : Arv Z h a ca .byte z vs dv) (hj : ¬ j < 0 ∧ j < z) {i : Nat} (hij : j.toNatClampNeg = i) (hi : i < vs.length) (ga : n0 ≤ a) (hd : decode bytes pc = .ok (.bastore, 1)) (hp : pc + 1 = pc')
    (r : ∀ h', Wr h h' a j.toNatClampNeg (.int (nar .byte x)) → Arv Z h' a ca .byte z (vs.set i (.int (nar .byte x))) dv → OGo p l e R s m args below meth c n0 Q h' cells slots pc' Ls st) : OGo p l e R s m args below meth c n0 Q h cells slots pc Ls (.int x :: .int j :: .ref a :: st) := by
  subst hp
  obtain ⟨cl, A, q1, S, hz, H, G⟩ := A
  have hin := inb_of S hj
  exact OGo.write ga (fun T locs k n X e0 => RoadKit.stB X K.ex K.hZ e0 A (j := j) hin (g := mkF m pc Ls (.int x :: .int j :: .ref a :: st)) rfl rfl (hb K.by hd)) (fun h' W => r h' W (Arv.set A q1 S hz H G (fits_nar_byte x) W _ hij hi))
theorem OGo.zastore (K : OCx p l e R s m args below meth c Z own nm bytes ml rt) {a : Addr} {ca : ClassId} {z j : Int32} {vs : List Value} {dv : Value} {x : Int32} (A : Arv Z h a ca .boolean z vs dv) (hj : ¬ j < 0 ∧ j < z) {i : Nat} (hij : j.toNatClampNeg = i) (hi : i < vs.length) (ga : n0 ≤ a) (hd : decode bytes pc = .ok (.bastore, 1)) (hp : pc + 1 = pc')
    (r : ∀ h', Wr h h' a j.toNatClampNeg (.int (nar .boolean x)) → Arv Z h' a ca .boolean z (vs.set i (.int (nar .boolean x))) dv → OGo p l e R s m args below meth c n0 Q h' cells slots pc' Ls st) : OGo p l e R s m args below meth c n0 Q h cells slots pc Ls (.int x :: .int j :: .ref a :: st) := by
  subst hp
  obtain ⟨cl, A, q1, S, hz, H, G⟩ := A
  have hin := inb_of S hj
  exact OGo.write ga (fun T locs k n X e0 => RoadKit.stZ X K.ex K.hZ e0 A (j := j) hin (g := mkF m pc Ls (.int x :: .int j :: .ref a :: st)) rfl rfl (hb K.by hd)) (fun h' W => r h' W (Arv.set A q1 S hz H G (fits_nar_bool x) W _ hij hi))
theorem OGo.aastore (K : OCx p l e R s m args below meth c Z own nm bytes ml rt) {a : Addr} {ca : ClassId} {ty : FieldType} {z j : Int32} {vs : List Value} {dv v : Value} (A : Arv Z h a ca ty z vs dv) (hty : ty.isReference = true) (hv : v.isRef = true) (F : Sto Z h a v) (hj : ¬ j < 0 ∧ j < z) {i : Nat} (hij : j.toNatClampNeg = i) (hi : i < vs.length) (ga : n0 ≤ a) (hd : decode bytes pc = .ok (.aastore, 1)) (hp : pc + 1 = pc')
    (r : ∀ h', Wr h h' a j.toNatClampNeg v → Arv Z h' a ca ty z (vs.set i v) dv → OGo p l e R s m args below meth c n0 Q h' cells slots pc' Ls st) : OGo p l e R s m args below meth c n0 Q h cells slots pc Ls (v :: .int j :: .ref a :: st) := by
  subst hp
  obtain ⟨cl, A, q1, S, hz, H, G⟩ := A
  have hin := inb_of S hj
  exact OGo.write ga (fun T locs k n X e0 => RoadKit.stR X K.ex K.hZ e0 A (j := j) hin hty F (g := mkF m pc Ls (v :: .int j :: .ref a :: st)) rfl rfl (hb K.by hd)) (fun h' W => r h' W (Arv.set A q1 S hz H G (by cases ty <;> first | (cases hty; done) | (cases v <;> first | (cases hv; done) | rfl)) W _ hij hi))
theorem OGo.initO (K : OCx p l e R s m args below meth c Z own nm bytes ml rt) {idx W : Nat} {a : Addr} (w1 : (Jvm.Cond.methodLink own idx Lib.objectInit).before a0 Z = true) (w2 : (Jvm.Cond.instanceMethod Lib.objectInit).before a0 Z = true) (w3 : (Jvm.Cond.code Lib.objectInit ⟨#[0xb1]⟩ 1 none).before a0 Z = true) (hd : decode bytes pc = .ok (.invokespecial idx, 3)) (hp : pc + 3 = pc') (hsz : Ls.size = ml) (hW : 2 * 0 + (st.map fun v => v.category).sum ≤ W) (hf : 1 ≤ R.frames) (hl : W + 12 ≤ R.locals) (r : OGo p l e R s m args below meth c n0 Q h cells slots pc' Ls st) : OGo p l e R s m args below meth c n0 Q h cells slots pc Ls (.ref a :: st) := by
  subst hp
  exact OGo.same (fun T locs k n X e0 => RoadKit.initO X K.ex K.hZ K.hown w1 w2 w3 e0 (g := mkF m pc Ls (.ref a :: st)) rfl (hsz.trans K.hml.symm) rfl (hb K.by hd) hf hW hl) r
theorem own_private {T : State} {locs : List Loc} {cells slots : Nat} (X : Stand p l e R s m args below meth c T locs cells slots) (hexec : p.tables.exec = Jvm.exec) {own : String} {index ni : Nat} {y : MethodName} {bytes : ByteArray} {maxL : Nat} {ret : Option FieldType}
    (hown : s.vm.findClass own = some m.cls) (hlink : (Jvm.Cond.methodLink own index y).before args s = true) (hinst : (Jvm.Cond.instanceMethod y).before args s = true) (hi : (Jvm.Cond.instantiable y.cls ni).before args s = true) (hpriv : s.PrivateAt y) (hcode : (Jvm.Cond.code y bytes maxL ret).before args s = true) (hy : y.cls ≠ "java/lang/invoke/MethodHandle" ∧ y.cls ≠ "java/lang/invoke/VarHandle")
    {W : Nat} {Pre : Pt → Array Value → Prop} {Post : Pt → Array Value → Option Value → Pt → Prop} (hK : Back l R p e below s args y 3 W Pre Post) {g : JFrame} (hg : g.method = m) (hsize : g.locals.size = c.maxLocals) {a : Addr} {cell : Cell} (hcell : T.heap[a]? = some cell) (hobj : ∀ q, cell.vm ≠ .statics q)
    {argsL rest : List Value} (hlen : ∀ sig, parseMethodDescriptor y.desc = some sig → argsL.length = sig.parameters.length) (hstack : g.stack = argsL.reverse ++ .ref a :: rest) (hW : 2 * g.monitorRoom + (rest.map fun v => v.category).sum ≤ W) (hdg : decode c.code g.pc = .ok (.invokevirtual index, 3))
    (hpre : ∀ vm₁, s.WarmedH vm₁ → Pre ⟨T.setVm vm₁, locs, cells, slots⟩ (.ref a :: argsL).toArray) :
    ∃ (v : Option Value) (vm₁ : Vm) (B : Pt), s.WarmedH vm₁ ∧ Stand p l e R s m args below meth c B.U B.locs B.cells B.slots ∧ Post ⟨T.setVm vm₁, locs, cells, slots⟩ (.ref a :: argsL).toArray v B ∧ Steps p.tables e below (T.setTop g) (B.U.setTop { g with pc := g.pc + 3, stack := v.toList ++ rest }) := by
  obtain ⟨mk, mt, n1, n2, n3, n4⟩ := Cond.instanceMethod_spec hinst
  obtain ⟨mt', ct, c1, -, -, -, -, -, -, c2⟩ := Cond.code_spec n1 hcode
  obtain rfl : mt' = mt := Option.some.inj (c1.symm.trans n2)
  obtain ⟨ci, ki, i1, i2, -, i3, -⟩ := Cond.instantiable_spec hi
  have i4 : s.vm.classes[mk.cls]? = some ki := by rw [Option.some.inj ((findClass_of_methodNamed n1).symm.trans i1)]; exact i2
  have i5 : ki.isInterface = false := (Bool.or_eq_false_iff.mp i3).1
  obtain ⟨vm₁, Y, sp⟩ := X.invokevirtual hexec hown hlink n1 n2 n3 i4 i5 hy hcell hobj (selectMethod_private n2 (hpriv mk mt' n1 n2)) n2 n4 i4 i5 hg (hlen _ c2) hstack hdg
  obtain ⟨v, B, Y', P', go⟩ := hK m meth c ⟨T.setVm vm₁, locs, cells, slots⟩ { g with stack := rest } (.invokevirtual index) mk (.ref a :: argsL).toArray Y hg hsize hdg hW (Y.named n1) (hpre vm₁ Y.warmed)
  exact ⟨v, vm₁, B, Y.warmed, Y', P', (sp _ fun acts => by rw [doInvoke_state]; exact Steps.refl _).trans go⟩
theorem OGo.callSV (K : OCx p l e R s m args below meth c Z own nm bytes ml rt) {y : MethodName} {index : Nat} {bytes' : ByteArray} {maxL : Nat} {ret : Option FieldType} {rm : Room} {W cells' slots' : Nat} {argsL : List Value} {P : Value → Heap → Prop} (w1 : (Jvm.Cond.methodLink own index y).before a0 Z = true) (w2 : (Jvm.Cond.static y).before a0 Z = true) (w3 : (Jvm.Cond.initialized y.cls).before a0 Z = true) (w4 : (Jvm.Cond.code y bytes' maxL ret).before a0 Z = true) (hy : y.cls ≠ "java/lang/invoke/MethodHandle" ∧ y.cls ≠ "java/lang/invoke/VarHandle") (C : OCon l Z n0 y bytes' maxL ret [] rm (argsL.toArray) h (OV P)) (hd : decode bytes pc = .ok (.invokestatic index, 3)) (hp : pc + 3 = pc') (hsz : Ls.size = ml) (hlen : ∀ sig, parseMethodDescriptor y.desc = some sig → argsL.length = sig.parameters.length) (hW : 2 * 0 + (st.map fun v => v.category).sum ≤ W) (hf : rm.frames + 1 ≤ R.frames) (hlo : W + (maxL + 11) + rm.locals ≤ R.locals) (hc : cells + rm.cells = cells') (hl : slots + rm.slots = slots') (hc' : cells' ≤ R.cells) (hl' : slots' ≤ R.slots) (r : ∀ (w : Value) (h' : Heap), P w h' → OGo p l e R s m args below meth c n0 Q h' cells' slots' pc' Ls (w :: st))
    : OGo p l e R s m args below meth c n0 Q h cells slots pc Ls (argsL.reverse ++ st) := by
  subst hp hc hl
  intro T locs k n X e0 N h1 h2
  obtain ⟨_, _, ⟨T', L', k', n'⟩, -, X', ⟨Lc, ⟨hQ, hN⟩, l', y', z'⟩, stp⟩ := Jvm.LawKit.callS X K.ex (y := y) K.hown (mvT K.hZ w1) (mvT K.hZ w2) (mvT K.hZ w3) (mvT K.hZ w4) hy (backOf (W := W) (Q := fun v h L => (OV P) v h ∧ Fr n0 L) C K.hZ w4 w3 hf hlo) (g := mkF m pc Ls (argsL.reverse ++ st)) rfl (hsz.trans K.hml.symm) (argsL := argsL) (rest := st) hlen rfl hW (hb K.by hd) (fun _ _ => ⟨rfl, e0, (by show k + rm.cells ≤ R.cells; omega), (by show n + rm.slots ≤ R.slots; omega)⟩)
  dsimp only [Pt.U, Pt.locs, Pt.cells, Pt.slots] at X' l' y' z' stp hQ
  subst l' y' z'
  obtain ⟨w, rfl, hQ⟩ := hQ
  obtain ⟨s₂, v, L, g, r'⟩ := r w _ hQ T' _ _ _ X' rfl (Fr.app N hN) (by omega) (by omega)
  exact ⟨s₂, v, L, stp _ g, r'⟩
theorem OGo.callSN (K : OCx p l e R s m args below meth c Z own nm bytes ml rt) {y : MethodName} {index : Nat} {bytes' : ByteArray} {maxL : Nat} {ret : Option FieldType} {rm : Room} {W cells' slots' : Nat} {argsL : List Value} {P : Heap → Prop} (w1 : (Jvm.Cond.methodLink own index y).before a0 Z = true) (w2 : (Jvm.Cond.static y).before a0 Z = true) (w3 : (Jvm.Cond.initialized y.cls).before a0 Z = true) (w4 : (Jvm.Cond.code y bytes' maxL ret).before a0 Z = true) (hy : y.cls ≠ "java/lang/invoke/MethodHandle" ∧ y.cls ≠ "java/lang/invoke/VarHandle") (C : OCon l Z n0 y bytes' maxL ret [] rm (argsL.toArray) h (ON P)) (hd : decode bytes pc = .ok (.invokestatic index, 3)) (hp : pc + 3 = pc') (hsz : Ls.size = ml) (hlen : ∀ sig, parseMethodDescriptor y.desc = some sig → argsL.length = sig.parameters.length) (hW : 2 * 0 + (st.map fun v => v.category).sum ≤ W) (hf : rm.frames + 1 ≤ R.frames) (hlo : W + (maxL + 11) + rm.locals ≤ R.locals) (hc : cells + rm.cells = cells') (hl : slots + rm.slots = slots') (hc' : cells' ≤ R.cells) (hl' : slots' ≤ R.slots) (r : ∀ (h' : Heap), P h' → OGo p l e R s m args below meth c n0 Q h' cells' slots' pc' Ls st)
    : OGo p l e R s m args below meth c n0 Q h cells slots pc Ls (argsL.reverse ++ st) := by
  subst hp hc hl
  intro T locs k n X e0 N h1 h2
  obtain ⟨_, _, ⟨T', L', k', n'⟩, -, X', ⟨Lc, ⟨hQ, hN⟩, l', y', z'⟩, stp⟩ := Jvm.LawKit.callS X K.ex (y := y) K.hown (mvT K.hZ w1) (mvT K.hZ w2) (mvT K.hZ w3) (mvT K.hZ w4) hy (backOf (W := W) (Q := fun v h L => (ON P) v h ∧ Fr n0 L) C K.hZ w4 w3 hf hlo) (g := mkF m pc Ls (argsL.reverse ++ st)) rfl (hsz.trans K.hml.symm) (argsL := argsL) (rest := st) hlen rfl hW (hb K.by hd) (fun _ _ => ⟨rfl, e0, (by show k + rm.cells ≤ R.cells; omega), (by show n + rm.slots ≤ R.slots; omega)⟩)
  dsimp only [Pt.U, Pt.locs, Pt.cells, Pt.slots] at X' l' y' z' stp hQ
  subst l' y' z'
  obtain ⟨rfl, hQ⟩ := hQ
  obtain ⟨s₂, v, L, g, r'⟩ := r  _ hQ T' _ _ _ X' rfl (Fr.app N hN) (by omega) (by omega)
  exact ⟨s₂, v, L, stp _ g, r'⟩
theorem OGo.callIV (K : OCx p l e R s m args below meth c Z own nm bytes ml rt) {y : MethodName} {a : Addr} {index : Nat} {bytes' : ByteArray} {maxL : Nat} {rm : Room} {W cells' slots' : Nat} {argsL : List Value} {P : Value → Heap → Prop} (hy1 : y.name = "<init>") (w1 : (Jvm.Cond.methodLink own index y).before a0 Z = true) (w2 : (Jvm.Cond.instanceMethod y).before a0 Z = true) (w3 : (Jvm.Cond.initialized y.cls).before a0 Z = true) (w4 : (Jvm.Cond.code y bytes' maxL none).before a0 Z = true) (hy : y.cls ≠ "java/lang/invoke/MethodHandle" ∧ y.cls ≠ "java/lang/invoke/VarHandle") (C : OCon l Z n0 y bytes' maxL none [] rm ((.ref a :: argsL).toArray) h (OV P)) (hd : decode bytes pc = .ok (.invokespecial index, 3)) (hp : pc + 3 = pc') (hsz : Ls.size = ml) (hlen : ∀ sig, parseMethodDescriptor y.desc = some sig → argsL.length = sig.parameters.length) (hW : 2 * 0 + (st.map fun v => v.category).sum ≤ W) (hf : rm.frames + 1 ≤ R.frames) (hlo : W + (maxL + 11) + rm.locals ≤ R.locals) (hc : cells + rm.cells = cells') (hl : slots + rm.slots = slots') (hc' : cells' ≤ R.cells) (hl' : slots' ≤ R.slots) (r : ∀ (w : Value) (h' : Heap), P w h' → OGo p l e R s m args below meth c n0 Q h' cells' slots' pc' Ls (w :: st))
    : OGo p l e R s m args below meth c n0 Q h cells slots pc Ls (argsL.reverse ++ .ref a :: st) := by
  subst hp hc hl
  intro T locs k n X e0 N h1 h2
  obtain ⟨_, _, ⟨T', L', k', n'⟩, -, X', ⟨Lc, ⟨hQ, hN⟩, l', y', z'⟩, stp⟩ := X.specialBack K.ex (y := y) hy1 K.hown (mvT K.hZ w1) (mvT K.hZ w2) (mvT K.hZ w4) hy (backOf (W := W) (Q := fun v h L => (OV P) v h ∧ Fr n0 L) C K.hZ w4 w3 hf hlo) (g := mkF m pc Ls (argsL.reverse ++ .ref a :: st)) rfl (hsz.trans K.hml.symm) (Steps.refl _) (a := a) (argsL := argsL) (rest := st) hlen rfl hW (hb K.by hd) (fun _ _ => ⟨rfl, e0, (by show k + rm.cells ≤ R.cells; omega), (by show n + rm.slots ≤ R.slots; omega)⟩)
  dsimp only [Pt.U, Pt.locs, Pt.cells, Pt.slots] at X' l' y' z' stp hQ
  subst l' y' z'
  obtain ⟨w, rfl, hQ⟩ := hQ
  obtain ⟨s₂, v, L, g, r'⟩ := r w _ hQ T' _ _ _ X' rfl (Fr.app N hN) (by omega) (by omega)
  exact ⟨s₂, v, L, stp.trans g, r'⟩
theorem OGo.callIN (K : OCx p l e R s m args below meth c Z own nm bytes ml rt) {y : MethodName} {a : Addr} {index : Nat} {bytes' : ByteArray} {maxL : Nat} {rm : Room} {W cells' slots' : Nat} {argsL : List Value} {P : Heap → Prop} (hy1 : y.name = "<init>") (w1 : (Jvm.Cond.methodLink own index y).before a0 Z = true) (w2 : (Jvm.Cond.instanceMethod y).before a0 Z = true) (w3 : (Jvm.Cond.initialized y.cls).before a0 Z = true) (w4 : (Jvm.Cond.code y bytes' maxL none).before a0 Z = true) (hy : y.cls ≠ "java/lang/invoke/MethodHandle" ∧ y.cls ≠ "java/lang/invoke/VarHandle") (C : OCon l Z n0 y bytes' maxL none [] rm ((.ref a :: argsL).toArray) h (ON P)) (hd : decode bytes pc = .ok (.invokespecial index, 3)) (hp : pc + 3 = pc') (hsz : Ls.size = ml) (hlen : ∀ sig, parseMethodDescriptor y.desc = some sig → argsL.length = sig.parameters.length) (hW : 2 * 0 + (st.map fun v => v.category).sum ≤ W) (hf : rm.frames + 1 ≤ R.frames) (hlo : W + (maxL + 11) + rm.locals ≤ R.locals) (hc : cells + rm.cells = cells') (hl : slots + rm.slots = slots') (hc' : cells' ≤ R.cells) (hl' : slots' ≤ R.slots) (r : ∀ (h' : Heap), P h' → OGo p l e R s m args below meth c n0 Q h' cells' slots' pc' Ls st)
    : OGo p l e R s m args below meth c n0 Q h cells slots pc Ls (argsL.reverse ++ .ref a :: st) := by
  subst hp hc hl
  intro T locs k n X e0 N h1 h2
  obtain ⟨_, _, ⟨T', L', k', n'⟩, -, X', ⟨Lc, ⟨hQ, hN⟩, l', y', z'⟩, stp⟩ := X.specialBack K.ex (y := y) hy1 K.hown (mvT K.hZ w1) (mvT K.hZ w2) (mvT K.hZ w4) hy (backOf (W := W) (Q := fun v h L => (ON P) v h ∧ Fr n0 L) C K.hZ w4 w3 hf hlo) (g := mkF m pc Ls (argsL.reverse ++ .ref a :: st)) rfl (hsz.trans K.hml.symm) (Steps.refl _) (a := a) (argsL := argsL) (rest := st) hlen rfl hW (hb K.by hd) (fun _ _ => ⟨rfl, e0, (by show k + rm.cells ≤ R.cells; omega), (by show n + rm.slots ≤ R.slots; omega)⟩)
  dsimp only [Pt.U, Pt.locs, Pt.cells, Pt.slots] at X' l' y' z' stp hQ
  subst l' y' z'
  obtain ⟨rfl, hQ⟩ := hQ
  obtain ⟨s₂, v, L, g, r'⟩ := r  _ hQ T' _ _ _ X' rfl (Fr.app N hN) (by omega) (by omega)
  exact ⟨s₂, v, L, stp.trans g, r'⟩
theorem OGo.callPV (K : OCx p l e R s m args below meth c Z own nm bytes ml rt) {y : MethodName} {a : Addr} {C0 : String} {index : Nat} {bytes' : ByteArray} {maxL : Nat} {ret : Option FieldType} {rm : Room} {W cells' slots' : Nat} {argsL : List Value} {P : Value → Heap → Prop} (E : Exa Z h a C0) (w1 : (Jvm.Cond.methodLink own index y).before a0 Z = true) (w2 : (Jvm.Cond.instanceMethod y).before a0 Z = true) (w5 : (Jvm.Cond.selects y.cls y y).before a0 Z = true) (w6 : (Jvm.Cond.privateMethod y).before a0 Z = true) (w3 : (Jvm.Cond.initialized y.cls).before a0 Z = true) (w4 : (Jvm.Cond.code y bytes' maxL ret).before a0 Z = true) (hy : y.cls ≠ "java/lang/invoke/MethodHandle" ∧ y.cls ≠ "java/lang/invoke/VarHandle") (C : OCon l Z n0 y bytes' maxL ret [] rm ((.ref a :: argsL).toArray) h (OV P)) (hd : decode bytes pc = .ok (.invokevirtual index, 3)) (hp : pc + 3 = pc') (hsz : Ls.size = ml) (hlen : ∀ sig, parseMethodDescriptor y.desc = some sig → argsL.length = sig.parameters.length) (hW : 2 * 0 + (st.map fun v => v.category).sum ≤ W) (hf : rm.frames + 1 ≤ R.frames) (hlo : W + (maxL + 11) + rm.locals ≤ R.locals) (hc : cells + rm.cells = cells') (hl : slots + rm.slots = slots') (hc' : cells' ≤ R.cells) (hl' : slots' ≤ R.slots) (r : ∀ (w : Value) (h' : Heap), P w h' → OGo p l e R s m args below meth c n0 Q h' cells' slots' pc' Ls (w :: st))
    : OGo p l e R s m args below meth c n0 Q h cells slots pc Ls (argsL.reverse ++ .ref a :: st) := by
  subst hp hc hl
  intro T locs k n X e0 N h1 h2
  obtain ⟨cq, q, q'⟩ := E.cell
  obtain ⟨_, _, ⟨T', L', k', n'⟩, -, X', ⟨Lc, ⟨hQ, hN⟩, l', y', z'⟩, stp⟩ := X.privateBack K.ex (y := y) K.hown (mvT K.hZ w1) (mvT K.hZ w2) (mvT K.hZ w5) (Cond.privateMethod_at (mvP K.hZ w6 (args := #[]))) (mvT K.hZ w4) hy (backOf (W := W) (Q := fun v h L => (OV P) v h ∧ Fr n0 L) C K.hZ w4 w3 hf hlo) (g := mkF m pc Ls (argsL.reverse ++ .ref a :: st)) rfl (hsz.trans K.hml.symm) (Steps.refl _) (a := a) (by rw [e0]; exact q) q' (argsL := argsL) (rest := st) hlen rfl hW (hb K.by hd) (fun _ _ => ⟨rfl, e0, (by show k + rm.cells ≤ R.cells; omega), (by show n + rm.slots ≤ R.slots; omega)⟩)
  dsimp only [Pt.U, Pt.locs, Pt.cells, Pt.slots] at X' l' y' z' stp hQ
  subst l' y' z'
  obtain ⟨w, rfl, hQ⟩ := hQ
  obtain ⟨s₂, v, L, g, r'⟩ := r w _ hQ T' _ _ _ X' rfl (Fr.app N hN) (by omega) (by omega)
  exact ⟨s₂, v, L, stp.trans g, r'⟩
theorem OGo.callPN (K : OCx p l e R s m args below meth c Z own nm bytes ml rt) {y : MethodName} {a : Addr} {C0 : String} {index : Nat} {bytes' : ByteArray} {maxL : Nat} {ret : Option FieldType} {rm : Room} {W cells' slots' : Nat} {argsL : List Value} {P : Heap → Prop} (E : Exa Z h a C0) (w1 : (Jvm.Cond.methodLink own index y).before a0 Z = true) (w2 : (Jvm.Cond.instanceMethod y).before a0 Z = true) (w5 : (Jvm.Cond.selects y.cls y y).before a0 Z = true) (w6 : (Jvm.Cond.privateMethod y).before a0 Z = true) (w3 : (Jvm.Cond.initialized y.cls).before a0 Z = true) (w4 : (Jvm.Cond.code y bytes' maxL ret).before a0 Z = true) (hy : y.cls ≠ "java/lang/invoke/MethodHandle" ∧ y.cls ≠ "java/lang/invoke/VarHandle") (C : OCon l Z n0 y bytes' maxL ret [] rm ((.ref a :: argsL).toArray) h (ON P)) (hd : decode bytes pc = .ok (.invokevirtual index, 3)) (hp : pc + 3 = pc') (hsz : Ls.size = ml) (hlen : ∀ sig, parseMethodDescriptor y.desc = some sig → argsL.length = sig.parameters.length) (hW : 2 * 0 + (st.map fun v => v.category).sum ≤ W) (hf : rm.frames + 1 ≤ R.frames) (hlo : W + (maxL + 11) + rm.locals ≤ R.locals) (hc : cells + rm.cells = cells') (hl : slots + rm.slots = slots') (hc' : cells' ≤ R.cells) (hl' : slots' ≤ R.slots) (r : ∀ (h' : Heap), P h' → OGo p l e R s m args below meth c n0 Q h' cells' slots' pc' Ls st)
    : OGo p l e R s m args below meth c n0 Q h cells slots pc Ls (argsL.reverse ++ .ref a :: st) := by
  subst hp hc hl
  intro T locs k n X e0 N h1 h2
  obtain ⟨cq, q, q'⟩ := E.cell
  obtain ⟨_, _, ⟨T', L', k', n'⟩, -, X', ⟨Lc, ⟨hQ, hN⟩, l', y', z'⟩, stp⟩ := X.privateBack K.ex (y := y) K.hown (mvT K.hZ w1) (mvT K.hZ w2) (mvT K.hZ w5) (Cond.privateMethod_at (mvP K.hZ w6 (args := #[]))) (mvT K.hZ w4) hy (backOf (W := W) (Q := fun v h L => (ON P) v h ∧ Fr n0 L) C K.hZ w4 w3 hf hlo) (g := mkF m pc Ls (argsL.reverse ++ .ref a :: st)) rfl (hsz.trans K.hml.symm) (Steps.refl _) (a := a) (by rw [e0]; exact q) q' (argsL := argsL) (rest := st) hlen rfl hW (hb K.by hd) (fun _ _ => ⟨rfl, e0, (by show k + rm.cells ≤ R.cells; omega), (by show n + rm.slots ≤ R.slots; omega)⟩)
  dsimp only [Pt.U, Pt.locs, Pt.cells, Pt.slots] at X' l' y' z' stp hQ
  subst l' y' z'
  obtain ⟨rfl, hQ⟩ := hQ
  obtain ⟨s₂, v, L, g, r'⟩ := r  _ hQ T' _ _ _ X' rfl (Fr.app N hN) (by omega) (by omega)
  exact ⟨s₂, v, L, stp.trans g, r'⟩
theorem OGo.callVV (K : OCx p l e R s m args below meth c Z own nm bytes ml rt) {y z : MethodName} {a : Addr} {C0 : String} {index : Nat} {bytes' : ByteArray} {maxL : Nat} {ret : Option FieldType} {rm : Room} {W cells' slots' : Nat} {argsL : List Value} {P : Value → Heap → Prop} (E : Exa Z h a C0) (w1 : (Jvm.Cond.methodLink own index y).before a0 Z = true) (w2 : (Jvm.Cond.declares y).before a0 Z = true) (hnf : NotFace s y) (w5 : (Jvm.Cond.selects C0 y z).before a0 Z = true) (w6 : (Jvm.Cond.instanceMethod z).before a0 Z = true) (w3 : (Jvm.Cond.initialized z.cls).before a0 Z = true) (w4 : (Jvm.Cond.code z bytes' maxL ret).before a0 Z = true) (hy : y.cls ≠ "java/lang/invoke/MethodHandle" ∧ y.cls ≠ "java/lang/invoke/VarHandle") (C : OCon l Z n0 z bytes' maxL ret [] rm ((.ref a :: argsL).toArray) h (OV P)) (hd : decode bytes pc = .ok (.invokevirtual index, 3)) (hp : pc + 3 = pc') (hsz : Ls.size = ml) (hlen : ∀ sig, parseMethodDescriptor y.desc = some sig → argsL.length = sig.parameters.length) (hW : 2 * 0 + (st.map fun v => v.category).sum ≤ W) (hf : rm.frames + 1 ≤ R.frames) (hlo : W + (maxL + 11) + rm.locals ≤ R.locals) (hc : cells + rm.cells = cells') (hl : slots + rm.slots = slots') (hc' : cells' ≤ R.cells) (hl' : slots' ≤ R.slots) (r : ∀ (w : Value) (h' : Heap), P w h' → OGo p l e R s m args below meth c n0 Q h' cells' slots' pc' Ls (w :: st))
    : OGo p l e R s m args below meth c n0 Q h cells slots pc Ls (argsL.reverse ++ .ref a :: st) := by
  subst hp hc hl
  intro T locs k n X e0 N h1 h2
  obtain ⟨cq, kq, qa, qb, qc⟩ := isOf K.hZ e0 E
  obtain ⟨_, _, ⟨T', L', k', n'⟩, -, X', ⟨Lc, ⟨hQ, hN⟩, l', y', z'⟩, stp⟩ := X.virtualBack K.ex (y := y) (z := z) K.hown (mvT K.hZ w1) (mvT K.hZ w2) hnf (mvT K.hZ w5) (mvT K.hZ w6) hy (backOf (W := W) (Q := fun v h L => (OV P) v h ∧ Fr n0 L) C K.hZ w4 w3 hf hlo) qa qc (g := mkF m pc Ls (argsL.reverse ++ .ref a :: st)) rfl (hsz.trans K.hml.symm) (Steps.refl _) (argsL := argsL) (rest := st) hlen rfl hW (hb K.by hd) (fun _ _ => ⟨rfl, e0, (by show k + rm.cells ≤ R.cells; omega), (by show n + rm.slots ≤ R.slots; omega)⟩)
  dsimp only [Pt.U, Pt.locs, Pt.cells, Pt.slots] at X' l' y' z' stp hQ
  subst l' y' z'
  obtain ⟨w, rfl, hQ⟩ := hQ
  obtain ⟨s₂, v, L, g, r'⟩ := r w _ hQ T' _ _ _ X' rfl (Fr.app N hN) (by omega) (by omega)
  exact ⟨s₂, v, L, stp.trans g, r'⟩
theorem OGo.callVN (K : OCx p l e R s m args below meth c Z own nm bytes ml rt) {y z : MethodName} {a : Addr} {C0 : String} {index : Nat} {bytes' : ByteArray} {maxL : Nat} {ret : Option FieldType} {rm : Room} {W cells' slots' : Nat} {argsL : List Value} {P : Heap → Prop} (E : Exa Z h a C0) (w1 : (Jvm.Cond.methodLink own index y).before a0 Z = true) (w2 : (Jvm.Cond.declares y).before a0 Z = true) (hnf : NotFace s y) (w5 : (Jvm.Cond.selects C0 y z).before a0 Z = true) (w6 : (Jvm.Cond.instanceMethod z).before a0 Z = true) (w3 : (Jvm.Cond.initialized z.cls).before a0 Z = true) (w4 : (Jvm.Cond.code z bytes' maxL ret).before a0 Z = true) (hy : y.cls ≠ "java/lang/invoke/MethodHandle" ∧ y.cls ≠ "java/lang/invoke/VarHandle") (C : OCon l Z n0 z bytes' maxL ret [] rm ((.ref a :: argsL).toArray) h (ON P)) (hd : decode bytes pc = .ok (.invokevirtual index, 3)) (hp : pc + 3 = pc') (hsz : Ls.size = ml) (hlen : ∀ sig, parseMethodDescriptor y.desc = some sig → argsL.length = sig.parameters.length) (hW : 2 * 0 + (st.map fun v => v.category).sum ≤ W) (hf : rm.frames + 1 ≤ R.frames) (hlo : W + (maxL + 11) + rm.locals ≤ R.locals) (hc : cells + rm.cells = cells') (hl : slots + rm.slots = slots') (hc' : cells' ≤ R.cells) (hl' : slots' ≤ R.slots) (r : ∀ (h' : Heap), P h' → OGo p l e R s m args below meth c n0 Q h' cells' slots' pc' Ls st)
    : OGo p l e R s m args below meth c n0 Q h cells slots pc Ls (argsL.reverse ++ .ref a :: st) := by
  subst hp hc hl
  intro T locs k n X e0 N h1 h2
  obtain ⟨cq, kq, qa, qb, qc⟩ := isOf K.hZ e0 E
  obtain ⟨_, _, ⟨T', L', k', n'⟩, -, X', ⟨Lc, ⟨hQ, hN⟩, l', y', z'⟩, stp⟩ := X.virtualBack K.ex (y := y) (z := z) K.hown (mvT K.hZ w1) (mvT K.hZ w2) hnf (mvT K.hZ w5) (mvT K.hZ w6) hy (backOf (W := W) (Q := fun v h L => (ON P) v h ∧ Fr n0 L) C K.hZ w4 w3 hf hlo) qa qc (g := mkF m pc Ls (argsL.reverse ++ .ref a :: st)) rfl (hsz.trans K.hml.symm) (Steps.refl _) (argsL := argsL) (rest := st) hlen rfl hW (hb K.by hd) (fun _ _ => ⟨rfl, e0, (by show k + rm.cells ≤ R.cells; omega), (by show n + rm.slots ≤ R.slots; omega)⟩)
  dsimp only [Pt.U, Pt.locs, Pt.cells, Pt.slots] at X' l' y' z' stp hQ
  subst l' y' z'
  obtain ⟨rfl, hQ⟩ := hQ
  obtain ⟨s₂, v, L, g, r'⟩ := r  _ hQ T' _ _ _ X' rfl (Fr.app N hN) (by omega) (by omega)
  exact ⟨s₂, v, L, stp.trans g, r'⟩
theorem OGo.callFV (K : OCx p l e R s m args below meth c Z own nm bytes ml rt) {y z : MethodName} {a : Addr} {C0 : String} {cnt : Nat} {index : Nat} {bytes' : ByteArray} {maxL : Nat} {ret : Option FieldType} {rm : Room} {W cells' slots' : Nat} {argsL : List Value} {P : Value → Heap → Prop} (E : Exa Z h a C0) (w1 : (Jvm.Cond.methodLink own index y).before a0 Z = true) (w2 : (Jvm.Cond.declares y).before a0 Z = true) (w7 : (Jvm.Cond.interfaceMethod y.cls y.cls y.name y.desc).before a0 Z = true) (w5 : (Jvm.Cond.selects C0 y z).before a0 Z = true) (w6 : (Jvm.Cond.instanceMethod z).before a0 Z = true) (w8 : (Jvm.Cond.publicMethod z).before a0 Z = true) (w9 : (Jvm.Cond.unhidden C0 y.name y.desc).before a0 Z = true) (w10 : (Jvm.Cond.castable C0 y.cls).before a0 Z = true) (w3 : (Jvm.Cond.initialized z.cls).before a0 Z = true) (w4 : (Jvm.Cond.code z bytes' maxL ret).before a0 Z = true) (hy : y.cls ≠ "java/lang/invoke/MethodHandle" ∧ y.cls ≠ "java/lang/invoke/VarHandle") (C : OCon l Z n0 z bytes' maxL ret [] rm ((.ref a :: argsL).toArray) h (OV P)) (hd : decode bytes pc = .ok (.invokeinterface index cnt, 5)) (hp : pc + 5 = pc') (hsz : Ls.size = ml) (hlen : ∀ sig, parseMethodDescriptor y.desc = some sig → argsL.length = sig.parameters.length) (hW : 2 * 0 + (st.map fun v => v.category).sum ≤ W) (hf : rm.frames + 1 ≤ R.frames) (hlo : W + (maxL + 11) + rm.locals ≤ R.locals) (hc : cells + rm.cells = cells') (hl : slots + rm.slots = slots') (hc' : cells' ≤ R.cells) (hl' : slots' ≤ R.slots) (r : ∀ (w : Value) (h' : Heap), P w h' → OGo p l e R s m args below meth c n0 Q h' cells' slots' pc' Ls (w :: st))
    : OGo p l e R s m args below meth c n0 Q h cells slots pc Ls (argsL.reverse ++ .ref a :: st) := by
  subst hp hc hl
  intro T locs k n X e0 N h1 h2
  obtain ⟨cq, kq, qa, qb, qc⟩ := isOf K.hZ e0 E
  obtain ⟨_, _, ⟨T', L', k', n'⟩, -, X', ⟨Lc, ⟨hQ, hN⟩, l', y', z'⟩, stp⟩ := X.interfaceBack K.ex (xi := y) (y := z) K.hown (mvT K.hZ w1) (mvT K.hZ w2) (mvT K.hZ w7 (by simp [Cond.onTables, Cond.keepsFace, Cond.keeps, Cond.steady, Cond.faceAtom, hy.1, hy.2])) (mvT K.hZ w5) (mvT K.hZ w6) (mvT K.hZ w8) (mvT K.hZ w9) (mvT K.hZ w10) hy (backOf (W := W) (Q := fun v h L => (OV P) v h ∧ Fr n0 L) C K.hZ w4 w3 hf hlo) qa qb qc (g := mkF m pc Ls (argsL.reverse ++ .ref a :: st)) rfl (hsz.trans K.hml.symm) (Steps.refl _) (argsL := argsL) (rest := st) hlen rfl hW (hb K.by hd) (fun _ _ => ⟨rfl, e0, (by show k + rm.cells ≤ R.cells; omega), (by show n + rm.slots ≤ R.slots; omega)⟩)
  dsimp only [Pt.U, Pt.locs, Pt.cells, Pt.slots] at X' l' y' z' stp hQ
  subst l' y' z'
  obtain ⟨w, rfl, hQ⟩ := hQ
  obtain ⟨s₂, v, L, g, r'⟩ := r w _ hQ T' _ _ _ X' rfl (Fr.app N hN) (by omega) (by omega)
  exact ⟨s₂, v, L, stp.trans g, r'⟩
theorem OGo.callFN (K : OCx p l e R s m args below meth c Z own nm bytes ml rt) {y z : MethodName} {a : Addr} {C0 : String} {cnt : Nat} {index : Nat} {bytes' : ByteArray} {maxL : Nat} {ret : Option FieldType} {rm : Room} {W cells' slots' : Nat} {argsL : List Value} {P : Heap → Prop} (E : Exa Z h a C0) (w1 : (Jvm.Cond.methodLink own index y).before a0 Z = true) (w2 : (Jvm.Cond.declares y).before a0 Z = true) (w7 : (Jvm.Cond.interfaceMethod y.cls y.cls y.name y.desc).before a0 Z = true) (w5 : (Jvm.Cond.selects C0 y z).before a0 Z = true) (w6 : (Jvm.Cond.instanceMethod z).before a0 Z = true) (w8 : (Jvm.Cond.publicMethod z).before a0 Z = true) (w9 : (Jvm.Cond.unhidden C0 y.name y.desc).before a0 Z = true) (w10 : (Jvm.Cond.castable C0 y.cls).before a0 Z = true) (w3 : (Jvm.Cond.initialized z.cls).before a0 Z = true) (w4 : (Jvm.Cond.code z bytes' maxL ret).before a0 Z = true) (hy : y.cls ≠ "java/lang/invoke/MethodHandle" ∧ y.cls ≠ "java/lang/invoke/VarHandle") (C : OCon l Z n0 z bytes' maxL ret [] rm ((.ref a :: argsL).toArray) h (ON P)) (hd : decode bytes pc = .ok (.invokeinterface index cnt, 5)) (hp : pc + 5 = pc') (hsz : Ls.size = ml) (hlen : ∀ sig, parseMethodDescriptor y.desc = some sig → argsL.length = sig.parameters.length) (hW : 2 * 0 + (st.map fun v => v.category).sum ≤ W) (hf : rm.frames + 1 ≤ R.frames) (hlo : W + (maxL + 11) + rm.locals ≤ R.locals) (hc : cells + rm.cells = cells') (hl : slots + rm.slots = slots') (hc' : cells' ≤ R.cells) (hl' : slots' ≤ R.slots) (r : ∀ (h' : Heap), P h' → OGo p l e R s m args below meth c n0 Q h' cells' slots' pc' Ls st)
    : OGo p l e R s m args below meth c n0 Q h cells slots pc Ls (argsL.reverse ++ .ref a :: st) := by
  subst hp hc hl
  intro T locs k n X e0 N h1 h2
  obtain ⟨cq, kq, qa, qb, qc⟩ := isOf K.hZ e0 E
  obtain ⟨_, _, ⟨T', L', k', n'⟩, -, X', ⟨Lc, ⟨hQ, hN⟩, l', y', z'⟩, stp⟩ := X.interfaceBack K.ex (xi := y) (y := z) K.hown (mvT K.hZ w1) (mvT K.hZ w2) (mvT K.hZ w7 (by simp [Cond.onTables, Cond.keepsFace, Cond.keeps, Cond.steady, Cond.faceAtom, hy.1, hy.2])) (mvT K.hZ w5) (mvT K.hZ w6) (mvT K.hZ w8) (mvT K.hZ w9) (mvT K.hZ w10) hy (backOf (W := W) (Q := fun v h L => (ON P) v h ∧ Fr n0 L) C K.hZ w4 w3 hf hlo) qa qb qc (g := mkF m pc Ls (argsL.reverse ++ .ref a :: st)) rfl (hsz.trans K.hml.symm) (Steps.refl _) (argsL := argsL) (rest := st) hlen rfl hW (hb K.by hd) (fun _ _ => ⟨rfl, e0, (by show k + rm.cells ≤ R.cells; omega), (by show n + rm.slots ≤ R.slots; omega)⟩)
  dsimp only [Pt.U, Pt.locs, Pt.cells, Pt.slots] at X' l' y' z' stp hQ
  subst l' y' z'
  obtain ⟨rfl, hQ⟩ := hQ
  obtain ⟨s₂, v, L, g, r'⟩ := r  _ hQ T' _ _ _ X' rfl (Fr.app N hN) (by omega) (by omega)
  exact ⟨s₂, v, L, stp.trans g, r'⟩
theorem OGo.copy (K : OCx p l e R s m args below meth c Z own nm bytes ml rt) {index W : Nat} {a b : Addr} {k k' : ClassId} {ty : FieldType} {z z' sp dp nn : Int32} {vs vd us : List Value} {dv dd : Value} (w1 : (Jvm.Cond.methodLink own index Jvm.Stand.acN).before a0 Z = true) (w2 : (Jvm.Cond.native Jvm.Stand.acN).before a0 Z = true) (w3 : (Jvm.Cond.static Jvm.Stand.acN).before a0 Z = true) (w4 : (Jvm.Cond.initialized "java/lang/System").before a0 Z = true)
    (A : Arv Z h a k ty z vs dv) (B : Arv Z h b k' ty z' vd dd) (hty : refKind ty = false) (h1 : ¬ sp < 0) (h2 : ¬ dp < 0) (h3 : ¬ nn < 0) (h4 : sp.toNatClampNeg + nn.toNatClampNeg ≤ z.toNatClampNeg) (h5 : dp.toNatClampNeg + nn.toNatClampNeg ≤ z'.toNatClampNeg) (hus : us = (List.range nn.toNatClampNeg).map fun i => vs.getD (sp.toNatClampNeg + i) dv) (hl : dp.toNatClampNeg + nn.toNatClampNeg ≤ vd.length) (ge : n0 ≤ b)
    (hd : decode bytes pc = .ok (.invokestatic index, 3)) (hp : pc + 3 = pc') (hsz : Ls.size = ml) (hf : 1 ≤ R.frames) (hW : 2 * 0 + (st.map fun v => v.category).sum ≤ W) (hlo : W + (nativeFrameWords "java/lang/System" "arraycopy" 5 + 11) ≤ R.locals)
    (r : ∀ h', Keep h h' [b] → Arv Z h' b k' ty z' (vd.take dp.toNatClampNeg ++ us ++ vd.drop (dp.toNatClampNeg + nn.toNatClampNeg)) dd → OGo p l e R s m args below meth c n0 Q h' cells slots pc' Ls st) : OGo p l e R s m args below meth c n0 Q h cells slots pc Ls (.int nn :: .int dp :: .ref b :: .int sp :: .ref a :: st) := by
  subst hp
  intro T locs k n X e0 N h1' h2'
  obtain ⟨T', h', L, X', e', N', K', V', st'⟩ := RoadKit.cpA X K.ex K.hZ K.hown w1 w2 w3 w4 e0 A B (Or.inl ⟨rfl, hty⟩) h1 h2 h3 h4 h5 hus hl N ge (g := mkF m pc Ls (.int nn :: .int dp :: .ref b :: .int sp :: .ref a :: st)) rfl (hsz.trans K.hml.symm) rfl (hb K.by hd) hf hW hlo
  obtain ⟨s₂, v, L2, g, r'⟩ := r h' K' V' T' L k n X' e' N' h1' h2'
  exact ⟨s₂, v, L2, st' _ g, r'⟩
theorem OGo.callQV (K : OCx p l e R s m args below meth c Z own nm bytes ml rt) {y : MethodName} {a : Addr} {C0 : String} {ni : Nat} {index : Nat} {bytes' : ByteArray} {maxL : Nat} {ret : Option FieldType} {rm : Room} {W cells' slots' : Nat} {argsL : List Value} {P : Value → Heap → Prop} (E : Exa Z h a C0) (w1 : (Jvm.Cond.methodLink own index y).before a0 Z = true) (w2 : (Jvm.Cond.instanceMethod y).before a0 Z = true) (w5 : (Jvm.Cond.instantiable y.cls ni).before a0 Z = true) (w6 : (Jvm.Cond.privateMethod y).before a0 Z = true) (w3 : (Jvm.Cond.initialized y.cls).before a0 Z = true) (w4 : (Jvm.Cond.code y bytes' maxL ret).before a0 Z = true) (hy : y.cls ≠ "java/lang/invoke/MethodHandle" ∧ y.cls ≠ "java/lang/invoke/VarHandle") (C : OCon l Z n0 y bytes' maxL ret [] rm ((.ref a :: argsL).toArray) h (OV P)) (hd : decode bytes pc = .ok (.invokevirtual index, 3)) (hp : pc + 3 = pc') (hsz : Ls.size = ml) (hlen : ∀ sig, parseMethodDescriptor y.desc = some sig → argsL.length = sig.parameters.length) (hW : 2 * 0 + (st.map fun v => v.category).sum ≤ W) (hf : rm.frames + 1 ≤ R.frames) (hlo : W + (maxL + 11) + rm.locals ≤ R.locals) (hc : cells + rm.cells = cells') (hl : slots + rm.slots = slots') (hc' : cells' ≤ R.cells) (hl' : slots' ≤ R.slots) (r : ∀ (w : Value) (h' : Heap), P w h' → OGo p l e R s m args below meth c n0 Q h' cells' slots' pc' Ls (w :: st))
    : OGo p l e R s m args below meth c n0 Q h cells slots pc Ls (argsL.reverse ++ .ref a :: st) := by
  subst hp hc hl
  intro T locs k n X e0 N h1 h2
  obtain ⟨cq, q, q'⟩ := E.cell
  obtain ⟨_, _, ⟨T', L', k', n'⟩, -, X', ⟨Lc, ⟨hQ, hN⟩, l', y', z'⟩, stp⟩ := own_private X K.ex (y := y) K.hown (mvT K.hZ w1) (mvT K.hZ w2) (mvT K.hZ w5) (Cond.privateMethod_at (mvP K.hZ w6 (args := #[]))) (mvT K.hZ w4) hy (backOf (W := W) (Q := fun v h L => (OV P) v h ∧ Fr n0 L) C K.hZ w4 w3 hf hlo) (g := mkF m pc Ls (argsL.reverse ++ .ref a :: st)) rfl (hsz.trans K.hml.symm) (a := a) (by rw [e0]; exact q) q' (argsL := argsL) (rest := st) hlen rfl hW (hb K.by hd) (fun _ _ => ⟨rfl, e0, (by show k + rm.cells ≤ R.cells; omega), (by show n + rm.slots ≤ R.slots; omega)⟩)
  dsimp only [Pt.U, Pt.locs, Pt.cells, Pt.slots] at X' l' y' z' stp hQ
  subst l' y' z'
  obtain ⟨w, rfl, hQ⟩ := hQ
  obtain ⟨s₂, v, L, g, r'⟩ := r w _ hQ T' _ _ _ X' rfl (Fr.app N hN) (by omega) (by omega)
  exact ⟨s₂, v, L, stp.trans g, r'⟩
theorem OGo.callQN (K : OCx p l e R s m args below meth c Z own nm bytes ml rt) {y : MethodName} {a : Addr} {C0 : String} {ni : Nat} {index : Nat} {bytes' : ByteArray} {maxL : Nat} {ret : Option FieldType} {rm : Room} {W cells' slots' : Nat} {argsL : List Value} {P : Heap → Prop} (E : Exa Z h a C0) (w1 : (Jvm.Cond.methodLink own index y).before a0 Z = true) (w2 : (Jvm.Cond.instanceMethod y).before a0 Z = true) (w5 : (Jvm.Cond.instantiable y.cls ni).before a0 Z = true) (w6 : (Jvm.Cond.privateMethod y).before a0 Z = true) (w3 : (Jvm.Cond.initialized y.cls).before a0 Z = true) (w4 : (Jvm.Cond.code y bytes' maxL ret).before a0 Z = true) (hy : y.cls ≠ "java/lang/invoke/MethodHandle" ∧ y.cls ≠ "java/lang/invoke/VarHandle") (C : OCon l Z n0 y bytes' maxL ret [] rm ((.ref a :: argsL).toArray) h (ON P)) (hd : decode bytes pc = .ok (.invokevirtual index, 3)) (hp : pc + 3 = pc') (hsz : Ls.size = ml) (hlen : ∀ sig, parseMethodDescriptor y.desc = some sig → argsL.length = sig.parameters.length) (hW : 2 * 0 + (st.map fun v => v.category).sum ≤ W) (hf : rm.frames + 1 ≤ R.frames) (hlo : W + (maxL + 11) + rm.locals ≤ R.locals) (hc : cells + rm.cells = cells') (hl : slots + rm.slots = slots') (hc' : cells' ≤ R.cells) (hl' : slots' ≤ R.slots) (r : ∀ (h' : Heap), P h' → OGo p l e R s m args below meth c n0 Q h' cells' slots' pc' Ls st)
    : OGo p l e R s m args below meth c n0 Q h cells slots pc Ls (argsL.reverse ++ .ref a :: st) := by
  subst hp hc hl
  intro T locs k n X e0 N h1 h2
  obtain ⟨cq, q, q'⟩ := E.cell
  obtain ⟨_, _, ⟨T', L', k', n'⟩, -, X', ⟨Lc, ⟨hQ, hN⟩, l', y', z'⟩, stp⟩ := own_private X K.ex (y := y) K.hown (mvT K.hZ w1) (mvT K.hZ w2) (mvT K.hZ w5) (Cond.privateMethod_at (mvP K.hZ w6 (args := #[]))) (mvT K.hZ w4) hy (backOf (W := W) (Q := fun v h L => (ON P) v h ∧ Fr n0 L) C K.hZ w4 w3 hf hlo) (g := mkF m pc Ls (argsL.reverse ++ .ref a :: st)) rfl (hsz.trans K.hml.symm) (a := a) (by rw [e0]; exact q) q' (argsL := argsL) (rest := st) hlen rfl hW (hb K.by hd) (fun _ _ => ⟨rfl, e0, (by show k + rm.cells ≤ R.cells; omega), (by show n + rm.slots ≤ R.slots; omega)⟩)
  dsimp only [Pt.U, Pt.locs, Pt.cells, Pt.slots] at X' l' y' z' stp hQ
  subst l' y' z'
  obtain ⟨rfl, hQ⟩ := hQ
  obtain ⟨s₂, v, L, g, r'⟩ := r  _ hQ T' _ _ _ X' rfl (Fr.app N hN) (by omega) (by omega)
  exact ⟨s₂, v, L, stp.trans g, r'⟩
theorem OGo.acmp (K : OCx p l e R s m args below meth c Z own nm bytes ml rt) {cd : ACond} {o : Int} {x y : Value} {same : Bool} (hd : decode bytes pc = .ok (.if_acmp cd o, 3)) (h1 : x.isRef = true) (h2 : y.isRef = true) (hq : decide (x = y) = same) (ho : 0 ≤ (pc : Int) + o) (hp : pc' = if acV cd same = true then ((pc : Int) + o).toNat else pc + 3) (r : OGo p l e R s m args below meth c n0 Q h cells slots pc' Ls st) : OGo p l e R s m args below meth c n0 Q h cells slots pc Ls (y :: x :: st) :=
  OGo.same (fun T locs k n X e0 => ⟨T, X, e0, fun t q => RoadKit.acmp X K.ex (g := mkF m pc Ls (y :: x :: st)) rfl h1 h2 rfl (hb K.by hd) rfl hq ho hp q⟩) r
theorem OGo.castY (K : OCx p l e R s m args below meth c Z own nm bytes ml rt) {C : String} {index : Nat} {a : Addr} (w : (Jvm.Cond.classLink own index C).before a0 Z = true) (I : Ins Z h a C true) (hd : decode bytes pc = .ok (.checkcast index, 3)) (hp : pc + 3 = pc') (r : OGo p l e R s m args below meth c n0 Q h cells slots pc' Ls (.ref a :: st)) : OGo p l e R s m args below meth c n0 Q h cells slots pc Ls (.ref a :: st) := by
  subst hp
  exact OGo.same (fun T locs k n X e0 => RoadKit.castY X K.ex K.hZ K.hown w e0 I (g := mkF m pc Ls (.ref a :: st)) rfl rfl (hb K.by hd)) r
theorem OGo.instY (K : OCx p l e R s m args below meth c Z own nm bytes ml rt) {C : String} {index : Nat} {a : Addr} (w : (Jvm.Cond.classLink own index C).before a0 Z = true) (I : Ins Z h a C true) (hd : decode bytes pc = .ok (.instanceof index, 3)) (hp : pc + 3 = pc') (r : OGo p l e R s m args below meth c n0 Q h cells slots pc' Ls (.int 1 :: st)) : OGo p l e R s m args below meth c n0 Q h cells slots pc Ls (.ref a :: st) := by
  subst hp
  exact OGo.same (fun T locs k n X e0 => RoadKit.instY X K.ex K.hZ K.hown w e0 I (g := mkF m pc Ls (.ref a :: st)) rfl rfl (hb K.by hd)) r
theorem OGo.ldcI (K : OCx p l e R s m args below meth c Z own nm bytes ml rt) {index : Nat} {v : Int32} (w : (Jvm.Cond.constant own index v).before a0 Z = true) (hd : decode bytes pc = .ok (.ldc index, 2)) (hp : pc + 2 = pc') (r : OGo p l e R s m args below meth c n0 Q h cells slots pc' Ls (.int v :: st)) : OGo p l e R s m args below meth c n0 Q h cells slots pc Ls st := by
  subst hp
  exact OGo.same (fun T locs k n X e0 => ⟨T, X, e0, fun t q => X.ldcInt K.ex K.hown (mvT K.hZ w) (g := mkF m pc Ls st) rfl (hb K.by hd) t q⟩) r
theorem OGo.ldcwI (K : OCx p l e R s m args below meth c Z own nm bytes ml rt) {index : Nat} {v : Int32} (w : (Jvm.Cond.constant own index v).before a0 Z = true) (hd : decode bytes pc = .ok (.ldc_w index, 3)) (hp : pc + 3 = pc') (r : OGo p l e R s m args below meth c n0 Q h cells slots pc' Ls (.int v :: st)) : OGo p l e R s m args below meth c n0 Q h cells slots pc Ls st := by
  subst hp
  exact OGo.same (fun T locs k n X e0 => ⟨T, X, e0, fun t q => X.ldcwInt K.ex K.hown (mvT K.hZ w) (g := mkF m pc Ls st) rfl (hb K.by hd) t q⟩) r
theorem OGo.ldcJ (K : OCx p l e R s m args below meth c Z own nm bytes ml rt) {index : Nat} {v : Int64} (w : (Jvm.Cond.constantLong own index v).before a0 Z = true) (hd : decode bytes pc = .ok (.ldc2_w index, 3)) (hp : pc + 3 = pc') (r : OGo p l e R s m args below meth c n0 Q h cells slots pc' Ls (.long v :: st)) : OGo p l e R s m args below meth c n0 Q h cells slots pc Ls st := by
  subst hp
  exact OGo.same (fun T locs k n X e0 => ⟨T, X, e0, fun t q => X.ldc2Long K.ex K.hown (mvT K.hZ w) (g := mkF m pc Ls st) rfl (hb K.by hd) t q⟩) r
theorem OGo.ldcD (K : OCx p l e R s m args below meth c Z own nm bytes ml rt) {index : Nat} {v : UInt64} (w : (Jvm.Cond.constantDouble own index v).before a0 Z = true) (hd : decode bytes pc = .ok (.ldc2_w index, 3)) (hp : pc + 3 = pc') (r : OGo p l e R s m args below meth c n0 Q h cells slots pc' Ls (.double v :: st)) : OGo p l e R s m args below meth c n0 Q h cells slots pc Ls st := by
  subst hp
  exact OGo.same (fun T locs k n X e0 => ⟨T, X, e0, fun t q => X.ldc2DoubleC K.ex K.hown (mvT K.hZ w) (g := mkF m pc Ls st) rfl (hb K.by hd) t q⟩) r
end OwnLayer
theorem own_eqi {args : Array Value} {first s : State} {o : Option Outcome} {idx : List Nat} {a : Term} {k : Int32} (h : (Jvm.Cond.eq a (Jvm.Term.int k)).value args first o s idx = some true) : a.eval args first o idx s = some (.int k) := by
  obtain ⟨x, y, h1, h2, h3, h4⟩ := cmp_v (Or.inl h)
  have h5 : y = .int k := Option.some.inj (h2.symm.trans (Term.int_eval k))
  subst h5
  obtain ⟨z, rfl⟩ := h4
  have h6 : (Jvm.Cond.eq a (Jvm.Term.int k)).value args first o s idx = some (decide (z = k)) := by simp [Cond.value, h1, h2]
  have h7 := gotT h6 h
  rw [h1, h7]
def OS (Z : State) (n0 : Nat) (h : Heap) (C n d : String) (v : Value) : Prop := ∃ (cf i : Nat) (k : Class) (f : Field) (st : Addr) (cell : Cell), Z.fieldFound? C n d = some (cf, k, i, f) ∧ f.isStatic = true ∧ k.init = .initialized ∧ k.statics = some st ∧ h[st]? = some cell ∧ cell.vm.isStatics = true ∧ cell.slots[f.slot]? = some v ∧ st < n0
theorem OS.sta {Z : State} {n0 : Nat} {h : Heap} {C n d : String} {v : Value} (F : OS Z n0 h C n d v) : Sta Z h C n d v := by
  obtain ⟨cf, i, k, f, st, cell, h1, h2, h3, h4, h5, h6, h7, -⟩ := F
  exact ⟨cf, i, k, f, st, cell, h1, h2, h3, h4, h5, h6, h7⟩
theorem OS.of {Z : State} {n0 : Nat} {h : Heap} {C n d : String} {v : Value} (F : Sta Z h C n d v) (q : h.size ≤ n0) : OS Z n0 h C n d v := by
  obtain ⟨cf, i, k, f, st, cell, h1, h2, h3, h4, h5, h6, h7⟩ := F
  exact ⟨cf, i, k, f, st, cell, h1, h2, h3, h4, h5, h6, h7, Nat.lt_of_lt_of_le (Array.getElem?_eq_some_iff.mp h5).1 q⟩
theorem own_lt_nin {n0 : Nat} {x : Addr} {ws : List Addr} (q : x < n0) (r : ∀ y ∈ ws, n0 ≤ y) : x ∉ ws := fun z => absurd q (Nat.not_lt.mpr (r x z))
theorem OS.keep {Z : State} {n0 : Nat} {h h' : Heap} {ws : List Addr} {C n d : String} {v : Value} (F : OS Z n0 h C n d v) (K : Keep h h' ws) (r : ∀ y ∈ ws, n0 ≤ y) : OS Z n0 h' C n d v := by
  obtain ⟨cf, i, k, f, st, cell, h1, h2, h3, h4, h5, h6, h7, h8⟩ := F
  exact ⟨cf, i, k, f, st, cell, h1, h2, h3, h4, K.2.1 _ _ h5 (own_lt_nin h8 r), h6, h7, h8⟩
theorem own_keep_ext {h h' : Heap} (E : Ext h h') : Keep h h' [] := (Keep.refl h []).ext E
def OWd (Z : State) (n0 : Nat) (h : Heap) (d : Addr) : Prop := OS Z n0 h "java/util/ArrayList" "DEFAULTCAPACITY_EMPTY_ELEMENTDATA" "[Ljava/lang/Object;" (.ref d) ∧ (∃ k, Arv Z h d k (.object "java/lang/Object") 0 [] .null) ∧ d < n0
theorem OWd.keep {Z : State} {n0 : Nat} {h h' : Heap} {ws : List Addr} {d : Addr} (F : OWd Z n0 h d) (K : Keep h h' ws) (r : ∀ y ∈ ws, n0 ≤ y) : OWd Z n0 h' d := by
  obtain ⟨S, ⟨k, A⟩, q⟩ := F
  exact ⟨S.keep K r, ⟨k, A.keep K (own_lt_nin q r)⟩, q⟩
theorem OWd.ext {Z : State} {n0 : Nat} {h h' : Heap} {d : Addr} (F : OWd Z n0 h d) (E : Ext h h') : OWd Z n0 h' d := F.keep (own_keep_ext E) all0
theorem OWd.wr {Z : State} {n0 : Nat} {h h' : Heap} {d a : Addr} {sl : Nat} {v : Value} (F : OWd Z n0 h d) (W : Wr h h' a sl v) (g : n0 ≤ a) : OWd Z n0 h' d := F.keep (Keep.of_wr W) (allS g all0)
def OAL0 (Z : State) (n0 : Nat) (h : Heap) (a d : Addr) : Prop := Exa Z h a "java/util/ArrayList" ∧ Fld Z h a "java/util/ArrayList" "size" "I" (.int 0) ∧ (∃ mc, Fld Z h a "java/util/AbstractList" "modCount" "I" (.int mc)) ∧ Fld Z h a "java/util/ArrayList" "elementData" "[Ljava/lang/Object;" (.ref d) ∧ n0 ≤ a
def OAL1 (Z : State) (n0 : Nat) (h : Heap) (a x : Addr) (vs : List Addr) : Prop := Exa Z h a "java/util/ArrayList" ∧ Fld Z h a "java/util/ArrayList" "size" "I" (.int (Int32.ofNat vs.length)) ∧ (∃ mc, Fld Z h a "java/util/AbstractList" "modCount" "I" (.int mc)) ∧ Fld Z h a "java/util/ArrayList" "elementData" "[Ljava/lang/Object;" (.ref x) ∧
  (∃ k us, Arv Z h x k (.object "java/lang/Object") 10 us .null ∧ us.length = 10 ∧ Ovr Z k "java/lang/Object" ∧ ∀ i (hi : i < vs.length), us.getD i .null = .ref vs[i]) ∧ a ≠ x ∧ n0 ≤ a ∧ n0 ≤ x
theorem OAL0.keep {Z : State} {n0 : Nat} {h h' : Heap} {ws : List Addr} {a d : Addr} (F : OAL0 Z n0 h a d) (K : Keep h h' ws) (r : a ∉ ws) : OAL0 Z n0 h' a d := by
  obtain ⟨E, F1, ⟨mc, F2⟩, F3, g⟩ := F
  exact ⟨E.keep K, F1.keep K r, ⟨mc, F2.keep K r⟩, F3.keep K r, g⟩
theorem OAL1.keep {Z : State} {n0 : Nat} {h h' : Heap} {ws : List Addr} {a x : Addr} {vs : List Addr} (F : OAL1 Z n0 h a x vs) (K : Keep h h' ws) (r : a ∉ ws) (r2 : x ∉ ws) : OAL1 Z n0 h' a x vs := by
  obtain ⟨E, F1, ⟨mc, F2⟩, F3, ⟨k, us, A, q⟩, g⟩ := F
  exact ⟨E.keep K, F1.keep K r, ⟨mc, F2.keep K r⟩, F3.keep K r, ⟨k, us, A.keep K r2, q⟩, g⟩
theorem OAL0.lta {Z : State} {n0 : Nat} {h : Heap} {a d : Addr} (F : OAL0 Z n0 h a d) : a < h.size := F.1.lt
theorem OAL1.lta {Z : State} {n0 : Nat} {h : Heap} {a x : Addr} {vs : List Addr} (F : OAL1 Z n0 h a x vs) : a < h.size := F.1.lt
theorem OAL1.ltx {Z : State} {n0 : Nat} {h : Heap} {a x : Addr} {vs : List Addr} (F : OAL1 Z n0 h a x vs) : x < h.size := by
  obtain ⟨-, -, -, -, ⟨k, us, A, -⟩, -⟩ := F
  exact A.lt
theorem own_i10 {n : Nat} (h : n < 10) : ¬ (Int32.ofNat n) < 0 ∧ Int32.ofNat n < 10 ∧ (Int32.ofNat n).toNatClampNeg = n ∧ ¬ Int32.ofNat n = 10 := by
  have e1 := toInt_of (n := Int32.ofNat n) rfl (by omega)
  have e2 := clamp_of (n := Int32.ofNat n) rfl (by omega)
  have e3 : (10 : Int32).toInt = 10 := rfl
  have e4 : (0 : Int32).toInt = 0 := rfl
  refine ⟨by rw [Int32.lt_iff_toInt_lt, e1, e4]; omega, by rw [Int32.lt_iff_toInt_lt, e1, e3]; omega, e2, fun q => ?_⟩
  have := congrArg Int32.toInt q
  rw [e1, e3] at this; omega
theorem own_al_push {us : List Value} {vs : List Addr} {y : Addr} (hl : us.length = 10) (hn : vs.length < 10) (H : ∀ i (hi : i < vs.length), us.getD i .null = .ref vs[i]) : ∀ i (hi : i < (vs ++ [y]).length), (us.set vs.length (.ref y)).getD i .null = .ref (vs ++ [y])[i] := by
  intro i hi
  simp only [List.length_append, List.length_cons, List.length_nil] at hi
  rw [List.getD_eq_getElem?_getD]
  by_cases q : i = vs.length
  · subst q
    rw [List.getElem?_set_self (by omega)]
    simp
  · have q' : i < vs.length := by omega
    rw [List.getElem?_set_ne (Ne.symm q), ← List.getD_eq_getElem?_getD, H i q', List.getElem_append_left q']
theorem own_i32lt {i n : Nat} (h : i < n) (hn : n < 2 ^ 31) : Int32.ofNat i < Int32.ofNat n := by
  rw [Int32.lt_iff_toInt_lt, toInt_of (n := Int32.ofNat i) rfl (by omega), toInt_of (n := Int32.ofNat n) rfl hn]; omega
theorem own_sta_keep {Z : State} {h h' : Heap} {C n d : String} {v : Value} (F : Sta Z h C n d v) (K : Keep h h' []) : Sta Z h' C n d v := by
  obtain ⟨cf, i, k, f, st, cell, h1, h2, h3, h4, h5, r⟩ := F
  exact ⟨cf, i, k, f, st, cell, h1, h2, h3, h4, K.2.1 _ _ h5 nin0, r⟩
theorem own_sto {Z : State} {h : Heap} {a y : Addr} {k : ClassId} {ty : FieldType} {z : Int32} {vs : List Value} {dv : Value} {C : String} (A : Arv Z h a k ty z vs dv) (O : Ovr Z k C) (I : Ins Z h y C true) : Sto Z h a (.ref y) := by
  obtain ⟨c, A, q, -⟩ := A
  exact Sto.ofV A q O I
theorem own_ins_keep {Z : State} {h h' : Heap} {ws : List Addr} {a : Addr} {C : String} (F : Ins Z h a C true) (K : Keep h h' ws) : Ins Z h' a C true := by
  obtain ⟨cell, cT, h1, h2, h3⟩ := F
  obtain ⟨c', q, r1, r2, -⟩ := K.2.2 a cell h1
  exact ⟨c', cT, q, h2, by rw [r1, r2]; exact h3⟩
theorem own_lenspec {s : State} {args : Array Value} {t : Term} {a : Addr} {cl : Cell} {z : Int32} (ht : t.eval args s none [] s = some (.ref a)) (hc : s.heap[a]? = some cl) (h : (Term.length t).eval args s none [] s = some (.int z)) : cl.slots.size < 2 ^ 31 ∧ cl.slots.size.toInt32 = z := by
  simp only [Term.eval, Option.bind_eq_bind] at h
  simp [ht] at h
  obtain ⟨cell, hcell, h⟩ := Option.bind_eq_some_iff.mp h
  cases hc.symm.trans (State.arrayAt?_spec hcell).1
  by_cases hn : cl.slots.size < 2147483648
  · rw [if_pos hn] at h; cases h; exact ⟨hn, rfl⟩
  · rw [if_neg hn] at h; cases h
theorem own_wd {s : State} {args : Array Value} (hfit : Fit s) (w0 : (Jvm.Cond.initialized "java/util/ArrayList").before args s = true) (w1 : (Jvm.Cond.laysStatic "java/util/ArrayList" "DEFAULTCAPACITY_EMPTY_ELEMENTDATA" "[Ljava/lang/Object;").before args s = true) (w2 : (Jvm.Cond.arrayOf (Jvm.Term.static "java/util/ArrayList" "DEFAULTCAPACITY_EMPTY_ELEMENTDATA" "[Ljava/lang/Object;") (Jvm.ClassFile.FieldType.object "java/lang/Object")).before args s = true) (w3 : (Jvm.Cond.eq (Jvm.Term.length (Jvm.Term.static "java/util/ArrayList" "DEFAULTCAPACITY_EMPTY_ELEMENTDATA" "[Ljava/lang/Object;")) (Jvm.Term.int (0 : Int32))).before args s = true) : ∃ d, OWd s s.heap.size s.heap d := by
  obtain ⟨d, ev⟩ := arr_v (Cond.before_iff.mp w2)
  have S := Sta.start ev (Or.inr ⟨w0, w1⟩)
  obtain ⟨c, A⟩ := Arr.start ev (Cond.before_iff.mp w2)
  obtain ⟨q1, q2⟩ := own_lenspec ev A.1 (own_eqi (Cond.before_iff.mp w3))
  exact ⟨d, OS.of S (Nat.le_refl _), ⟨_, Arv.start hfit A q1 q2 (by decide) rfl trivial⟩, A.lt⟩
def own_by (c : Int32) : Value := .int c.toInt8.toInt32
def OStr (Z : State) (n0 : Nat) (h : Heap) (s t : Addr) (cs : List Int32) : Prop := Exa Z h s "java/lang/String" ∧ Fld Z h s "java/lang/String" "value" "[B" (.ref t) ∧ Fld Z h s "java/lang/String" "coder" "B" (.int 0) ∧ (∃ k, Arv Z h t k .byte (Int32.ofNat cs.length) (cs.map own_by) (.int 0)) ∧ s ≠ t ∧ n0 ≤ s ∧ n0 ≤ t
theorem OStr.keep {Z : State} {n0 : Nat} {h h' : Heap} {s t : Addr} {cs : List Int32} {ws : List Addr} (F : OStr Z n0 h s t cs) (K : Keep h h' ws) (q1 : s ∉ ws) (q2 : t ∉ ws) : OStr Z n0 h' s t cs := by
  obtain ⟨E, F1, F2, ⟨k, V⟩, r⟩ := F
  exact ⟨E.keep K, F1.keep K q1, F2.keep K q1, ⟨k, V.keep K q2⟩, r⟩
theorem OStr.lts {Z : State} {n0 : Nat} {h : Heap} {s t : Addr} {cs : List Int32} (F : OStr Z n0 h s t cs) : s < h.size := F.1.lt
theorem OStr.ltt {Z : State} {n0 : Nat} {h : Heap} {s t : Addr} {cs : List Int32} (F : OStr Z n0 h s t cs) : t < h.size := by
  obtain ⟨E, F1, F2, ⟨k, V⟩, r⟩ := F
  exact V.lt
theorem own_s32 {n : Nat} (h : n < 1000) : (Int32.ofNat n).toInt = n ∧ ¬ (Int32.ofNat n) < 0 ∧ (Int32.ofNat n).toNatClampNeg = n := by
  have e1 := toInt_of (n := Int32.ofNat n) rfl (by omega)
  have e2 := clamp_of (n := Int32.ofNat n) rfl (by omega)
  have e4 : (0 : Int32).toInt = 0 := rfl
  exact ⟨e1, by rw [Int32.lt_iff_toInt_lt, e1, e4]; omega, e2⟩
theorem own_slt {n N : Nat} (h : n < 1000) (hN : N < 1000) : Int32.ofNat n < Int32.ofNat N ↔ n < N := by
  rw [Int32.lt_iff_toInt_lt, (own_s32 h).1, (own_s32 hN).1]; omega
theorem own_narb (c : Int32) : Value.int (nar .byte c.toInt8.toInt32) = own_by c := by
  unfold own_by
  show Value.int (c.toInt8.toInt32.toInt8.toInt32) = _
  rw [Int8.toInt8_toInt32]
theorem own_map_of {us : List Value} {cs : List Int32} (hl : us.length = cs.length) (H : ∀ j (hj : j < cs.length), us.getD j (.int 0) = own_by cs[j]) : us = cs.map own_by := by
  apply List.ext_getElem (by simpa using hl)
  intro i h1 h2
  have := H i (by simpa using h2)
  rw [List.getD_eq_getElem?_getD, List.getElem?_eq_getElem h1] at this
  simpa using this
theorem own_getD_map {cs : List Int32} {d : Value} {j : Nat} (hj : j < cs.length) : (cs.map Value.int).getD j d = .int cs[j] := by
  rw [List.getD_eq_getElem?_getD, List.getElem?_map, List.getElem?_eq_getElem hj]; rfl
theorem own_sset_ne {us : List Value} {i j : Nat} {v d : Value} (h : i ≠ j) : (us.set i v).getD j d = us.getD j d := by
  rw [List.getD_eq_getElem?_getD, List.getD_eq_getElem?_getD, List.getElem?_set_ne h]
theorem own_sset_eq {us : List Value} {i : Nat} {v d : Value} (h : i < us.length) : (us.set i v).getD i d = v := by
  rw [List.getD_eq_getElem?_getD, List.getElem?_set_self h]; rfl
theorem own_cs {s : State} {args : Array Value} (w0 : (Jvm.Cond.initializedFor "java/lang/String" "COMPACT_STRINGS" "Z").before args s = true) (w1 : (Jvm.Cond.isInt (Jvm.Term.static "java/lang/String" "COMPACT_STRINGS" "Z")).before args s = true) (w2 : (Jvm.Cond.not (Jvm.Cond.eq (Jvm.Term.static "java/lang/String" "COMPACT_STRINGS" "Z") (Jvm.Term.int (0 : Int32)))).before args s = true) : ∃ cz, OS s s.heap.size s.heap "java/lang/String" "COMPACT_STRINGS" "Z" (.int cz) ∧ ¬ cz = 0 := by
  obtain ⟨z, ev⟩ := is_v (Cond.before_iff.mp w1)
  have h2 := not_v (Cond.before_iff.mp w2)
  have h3 : (Jvm.Cond.eq (Jvm.Term.static "java/lang/String" "COMPACT_STRINGS" "Z") (Jvm.Term.int (0 : Int32))).value args s none s [] = some (decide (z = 0)) := by simp [Cond.value, ev, Term.int_eval]
  exact ⟨z, OS.of (Sta.start ev (Or.inl w0)) (Nat.le_refl _), gotF h3 h2⟩
theorem own_c255 (c : Int32) : ∀ x ∈ [nar .char (c &&& 255).toUInt32.toUInt16.toUInt32.toInt32], ¬ (255 : Int32) < x := by
  intro x hx
  rw [List.mem_singleton.mp hx, i2c_mask]
  show ¬ (255 : Int32) < (c &&& 255).toUInt32.toUInt16.toUInt32.toInt32
  rw [i2c_mask, Int32.lt_iff_toInt_lt]
  have := (c_and c 255 (by decide)).2
  omega
theorem own_d3_0 : decode jdk_22_method_1_code 0 = .ok (.aload_n 0, 1) := by decide +kernel
theorem own_d3_1 : decode jdk_22_method_1_code 1 = .ok (.invokespecial 1, 3) := by decide +kernel
theorem own_d3_4 : decode jdk_22_method_1_code 4 = .ok (.return_, 1) := by decide +kernel
theorem own_pn_3 : plainName "java/util/AbstractCollection" = true := by first | (simp [plainName, overriddenIn]; done) | decide +kernel
theorem own_d2_0 : decode jdk_39_method_1_code 0 = .ok (.aload_n 0, 1) := by decide +kernel
theorem own_d2_1 : decode jdk_39_method_1_code 1 = .ok (.invokespecial 1, 3) := by decide +kernel
theorem own_pd1 : parseMethodDescriptor "()V" = some ⟨[], none⟩ := by decide +kernel
theorem own_d2_4 : decode jdk_39_method_1_code 4 = .ok (.aload_n 0, 1) := by decide +kernel
theorem own_d2_5 : decode jdk_39_method_1_code 5 = .ok (.iconst 0, 1) := by decide +kernel
theorem own_d2_6 : decode jdk_39_method_1_code 6 = .ok (.putfield 7, 3) := by decide +kernel
theorem own_d2_9 : decode jdk_39_method_1_code 9 = .ok (.return_, 1) := by decide +kernel
theorem own_pn_2 : plainName "java/util/AbstractList" = true := by first | (simp [plainName, overriddenIn]; done) | decide +kernel
theorem own_d1_0 : decode jdk_38_method_2_code 0 = .ok (.aload_n 0, 1) := by decide +kernel
theorem own_d1_1 : decode jdk_38_method_2_code 1 = .ok (.invokespecial 1, 3) := by decide +kernel
theorem own_d1_4 : decode jdk_38_method_2_code 4 = .ok (.aload_n 0, 1) := by decide +kernel
theorem own_d1_5 : decode jdk_38_method_2_code 5 = .ok (.getstatic 39, 3) := by decide +kernel
theorem own_d1_8 : decode jdk_38_method_2_code 8 = .ok (.putfield 9, 3) := by decide +kernel
theorem own_d1_11 : decode jdk_38_method_2_code 11 = .ok (.return_, 1) := by decide +kernel
theorem own_pn_1 : plainName "java/util/ArrayList" = true := by first | (simp [plainName, overriddenIn]; done) | decide +kernel
theorem own_d17_0 : decode jdk_29_method_65_code 0 = .ok (.iload_n 0, 1) := by decide +kernel
theorem own_d17_1 : decode jdk_29_method_65_code 1 = .ok (.iload_n 1, 1) := by decide +kernel
theorem own_d17_2 : decode jdk_29_method_65_code 2 = .ok (.if_icmp .lt 7, 3) := by decide +kernel
theorem own_d17_9 : decode jdk_29_method_65_code 9 = .ok (.iload_n 1, 1) := by decide +kernel
theorem own_d17_10 : decode jdk_29_method_65_code 10 = .ok (.ireturn, 1) := by decide +kernel
theorem own_d17_5 : decode jdk_29_method_65_code 5 = .ok (.iload_n 0, 1) := by decide +kernel
theorem own_d17_6 : decode jdk_29_method_65_code 6 = .ok (.goto 4, 3) := by decide +kernel
theorem own_d16_0 : decode jdk_38_method_6_code 0 = .ok (.aload_n 0, 1) := by decide +kernel
theorem own_d16_1 : decode jdk_38_method_6_code 1 = .ok (.getfield 9, 3) := by decide +kernel
theorem own_d16_4 : decode jdk_38_method_6_code 4 = .ok (.arraylength, 1) := by decide +kernel
theorem own_d16_5 : decode jdk_38_method_6_code 5 = .ok (.istore_n 2, 1) := by decide +kernel
theorem own_d16_6 : decode jdk_38_method_6_code 6 = .ok (.iload_n 2, 1) := by decide +kernel
theorem own_d16_7 : decode jdk_38_method_6_code 7 = .ok (.ifCond .gt 13, 3) := by decide +kernel
theorem own_d16_10 : decode jdk_38_method_6_code 10 = .ok (.aload_n 0, 1) := by decide +kernel
theorem own_d16_11 : decode jdk_38_method_6_code 11 = .ok (.getfield 9, 3) := by decide +kernel
theorem own_d16_14 : decode jdk_38_method_6_code 14 = .ok (.getstatic 39, 3) := by decide +kernel
theorem own_d16_17 : decode jdk_38_method_6_code 17 = .ok (.if_acmp .eq 28, 3) := by decide +kernel
theorem own_d16_45 : decode jdk_38_method_6_code 45 = .ok (.aload_n 0, 1) := by decide +kernel
theorem own_d16_46 : decode jdk_38_method_6_code 46 = .ok (.bipush 10, 2) := by decide +kernel
theorem own_d16_48 : decode jdk_38_method_6_code 48 = .ok (.iload_n 1, 1) := by decide +kernel
theorem own_d16_49 : decode jdk_38_method_6_code 49 = .ok (.invokestatic 79, 3) := by decide +kernel
theorem own_pd4 : parseMethodDescriptor "(II)I" = some ⟨[.int, .int], some .int⟩ := by decide +kernel
theorem own_d16_52 : decode jdk_38_method_6_code 52 = .ok (.anewarray 7, 3) := by decide +kernel
theorem own_d16_55 : decode jdk_38_method_6_code 55 = .ok (.dup_x1, 1) := by decide +kernel
theorem own_d16_56 : decode jdk_38_method_6_code 56 = .ok (.putfield 9, 3) := by decide +kernel
theorem own_d16_59 : decode jdk_38_method_6_code 59 = .ok (.areturn, 1) := by decide +kernel
theorem own_d15_0 : decode jdk_38_method_7_code 0 = .ok (.aload_n 0, 1) := by decide +kernel
theorem own_d15_1 : decode jdk_38_method_7_code 1 = .ok (.aload_n 0, 1) := by decide +kernel
theorem own_d15_2 : decode jdk_38_method_7_code 2 = .ok (.getfield 48, 3) := by decide +kernel
theorem own_d15_5 : decode jdk_38_method_7_code 5 = .ok (.iconst 1, 1) := by decide +kernel
theorem own_d15_6 : decode jdk_38_method_7_code 6 = .ok (.iadd, 1) := by decide +kernel
theorem own_d15_7 : decode jdk_38_method_7_code 7 = .ok (.invokevirtual 69, 3) := by decide +kernel
theorem own_pd5 : parseMethodDescriptor "(I)[Ljava/lang/Object;" = some ⟨[.int], some (.array (.object "java/lang/Object"))⟩ := by decide +kernel
theorem own_d15_10 : decode jdk_38_method_7_code 10 = .ok (.areturn, 1) := by decide +kernel
theorem own_d14_0 : decode jdk_38_method_24_code 0 = .ok (.iload_n 3, 1) := by decide +kernel
theorem own_d14_1 : decode jdk_38_method_24_code 1 = .ok (.aload_n 2, 1) := by decide +kernel
theorem own_d14_2 : decode jdk_38_method_24_code 2 = .ok (.arraylength, 1) := by decide +kernel
theorem own_d14_3 : decode jdk_38_method_24_code 3 = .ok (.if_icmp .ne 8, 3) := by decide +kernel
theorem own_d14_11 : decode jdk_38_method_24_code 11 = .ok (.aload_n 2, 1) := by decide +kernel
theorem own_d14_12 : decode jdk_38_method_24_code 12 = .ok (.iload_n 3, 1) := by decide +kernel
theorem own_d14_13 : decode jdk_38_method_24_code 13 = .ok (.aload_n 1, 1) := by decide +kernel
theorem own_d14_14 : decode jdk_38_method_24_code 14 = .ok (.aastore, 1) := by decide +kernel
theorem own_d14_15 : decode jdk_38_method_24_code 15 = .ok (.aload_n 0, 1) := by decide +kernel
theorem own_d14_16 : decode jdk_38_method_24_code 16 = .ok (.iload_n 3, 1) := by decide +kernel
theorem own_d14_17 : decode jdk_38_method_24_code 17 = .ok (.iconst 1, 1) := by decide +kernel
theorem own_d14_18 : decode jdk_38_method_24_code 18 = .ok (.iadd, 1) := by decide +kernel
theorem own_d14_19 : decode jdk_38_method_24_code 19 = .ok (.putfield 48, 3) := by decide +kernel
theorem own_d14_22 : decode jdk_38_method_24_code 22 = .ok (.return_, 1) := by decide +kernel
theorem own_d14_6 : decode jdk_38_method_24_code 6 = .ok (.aload_n 0, 1) := by decide +kernel
theorem own_d14_7 : decode jdk_38_method_24_code 7 = .ok (.invokevirtual 129, 3) := by decide +kernel
theorem own_pd6 : parseMethodDescriptor "()[Ljava/lang/Object;" = some ⟨[], some (.array (.object "java/lang/Object"))⟩ := by decide +kernel
theorem own_d14_10 : decode jdk_38_method_24_code 10 = .ok (.astore_n 2, 1) := by decide +kernel
theorem own_d13_0 : decode jdk_38_method_25_code 0 = .ok (.aload_n 0, 1) := by decide +kernel
theorem own_d13_1 : decode jdk_38_method_25_code 1 = .ok (.dup, 1) := by decide +kernel
theorem own_d13_2 : decode jdk_38_method_25_code 2 = .ok (.getfield 63, 3) := by decide +kernel
theorem own_d13_5 : decode jdk_38_method_25_code 5 = .ok (.iconst 1, 1) := by decide +kernel
theorem own_d13_6 : decode jdk_38_method_25_code 6 = .ok (.iadd, 1) := by decide +kernel
theorem own_d13_7 : decode jdk_38_method_25_code 7 = .ok (.putfield 63, 3) := by decide +kernel
theorem own_d13_10 : decode jdk_38_method_25_code 10 = .ok (.aload_n 0, 1) := by decide +kernel
theorem own_d13_11 : decode jdk_38_method_25_code 11 = .ok (.aload_n 1, 1) := by decide +kernel
theorem own_d13_12 : decode jdk_38_method_25_code 12 = .ok (.aload_n 0, 1) := by decide +kernel
theorem own_d13_13 : decode jdk_38_method_25_code 13 = .ok (.getfield 9, 3) := by decide +kernel
theorem own_d13_16 : decode jdk_38_method_25_code 16 = .ok (.aload_n 0, 1) := by decide +kernel
theorem own_d13_17 : decode jdk_38_method_25_code 17 = .ok (.getfield 48, 3) := by decide +kernel
theorem own_d13_20 : decode jdk_38_method_25_code 20 = .ok (.invokevirtual 131, 3) := by decide +kernel
theorem own_pd7 : parseMethodDescriptor "(Ljava/lang/Object;[Ljava/lang/Object;I)V" = some ⟨[(.object "java/lang/Object"), (.array (.object "java/lang/Object")), .int], none⟩ := by decide +kernel
theorem own_d13_23 : decode jdk_38_method_25_code 23 = .ok (.iconst 1, 1) := by decide +kernel
theorem own_d13_24 : decode jdk_38_method_25_code 24 = .ok (.ireturn, 1) := by decide +kernel
theorem own_d11_3 : decode jdk_52_method_21_code 3 = .ok (.iload 5, 2) := by decide +kernel
theorem own_d11_5 : decode jdk_52_method_21_code 5 = .ok (.iload 4, 2) := by decide +kernel
theorem own_d11_7 : decode jdk_52_method_21_code 7 = .ok (.if_icmp .ge 37, 3) := by decide +kernel
theorem own_d11_44 : decode jdk_52_method_21_code 44 = .ok (.iload 4, 2) := by decide +kernel
theorem own_d11_46 : decode jdk_52_method_21_code 46 = .ok (.ireturn, 1) := by decide +kernel
theorem own_d11_10 : decode jdk_52_method_21_code 10 = .ok (.aload_n 0, 1) := by decide +kernel
theorem own_d11_11 : decode jdk_52_method_21_code 11 = .ok (.iload_n 1, 1) := by decide +kernel
theorem own_d11_12 : decode jdk_52_method_21_code 12 = .ok (.caload, 1) := by decide +kernel
theorem own_d11_13 : decode jdk_52_method_21_code 13 = .ok (.istore 6, 2) := by decide +kernel
theorem own_d11_15 : decode jdk_52_method_21_code 15 = .ok (.iload 6, 2) := by decide +kernel
theorem own_d11_17 : decode jdk_52_method_21_code 17 = .ok (.sipush 255, 3) := by decide +kernel
theorem own_d11_20 : decode jdk_52_method_21_code 20 = .ok (.if_icmp .le 6, 3) := by decide +kernel
theorem own_d11_26 : decode jdk_52_method_21_code 26 = .ok (.aload_n 2, 1) := by decide +kernel
theorem own_d11_27 : decode jdk_52_method_21_code 27 = .ok (.iload_n 3, 1) := by decide +kernel
theorem own_d11_28 : decode jdk_52_method_21_code 28 = .ok (.iload 6, 2) := by decide +kernel
theorem own_d11_30 : decode jdk_52_method_21_code 30 = .ok (.i2b, 1) := by decide +kernel
theorem own_d11_31 : decode jdk_52_method_21_code 31 = .ok (.bastore, 1) := by decide +kernel
theorem own_d11_32 : decode jdk_52_method_21_code 32 = .ok (.iinc 1 1, 3) := by decide +kernel
theorem own_d11_35 : decode jdk_52_method_21_code 35 = .ok (.iinc 3 1, 3) := by decide +kernel
theorem own_d11_38 : decode jdk_52_method_21_code 38 = .ok (.iinc 5 1, 3) := by decide +kernel
theorem own_d11_41 : decode jdk_52_method_21_code 41 = .ok (.goto (-38), 3) := by decide +kernel
theorem own_d11_0 : decode jdk_52_method_21_code 0 = .ok (.iconst 0, 1) := by decide +kernel
theorem own_d11_1 : decode jdk_52_method_21_code 1 = .ok (.istore 5, 2) := by decide +kernel
theorem own_pn_11 : plainName "java/lang/StringUTF16" = true := by first | (simp [plainName, overriddenIn]; done) | decide +kernel
theorem own_d10_0 : decode jdk_52_method_16_code 0 = .ok (.iload_n 2, 1) := by decide +kernel
theorem own_d10_1 : decode jdk_52_method_16_code 1 = .ok (.newarray .byte, 2) := by decide +kernel
theorem own_d10_3 : decode jdk_52_method_16_code 3 = .ok (.astore_n 3, 1) := by decide +kernel
theorem own_d10_4 : decode jdk_52_method_16_code 4 = .ok (.aload_n 0, 1) := by decide +kernel
theorem own_d10_5 : decode jdk_52_method_16_code 5 = .ok (.iload_n 1, 1) := by decide +kernel
theorem own_d10_6 : decode jdk_52_method_16_code 6 = .ok (.aload_n 3, 1) := by decide +kernel
theorem own_d10_7 : decode jdk_52_method_16_code 7 = .ok (.iconst 0, 1) := by decide +kernel
theorem own_d10_8 : decode jdk_52_method_16_code 8 = .ok (.iload_n 2, 1) := by decide +kernel
theorem own_d10_9 : decode jdk_52_method_16_code 9 = .ok (.invokestatic 115, 3) := by decide +kernel
theorem own_pd9 : parseMethodDescriptor "([CI[BII)I" = some ⟨[(.array .char), .int, (.array .byte), .int, .int], some .int⟩ := by decide +kernel
theorem own_d10_12 : decode jdk_52_method_16_code 12 = .ok (.istore 4, 2) := by decide +kernel
theorem own_d10_14 : decode jdk_52_method_16_code 14 = .ok (.iload 4, 2) := by decide +kernel
theorem own_d10_16 : decode jdk_52_method_16_code 16 = .ok (.iload_n 2, 1) := by decide +kernel
theorem own_d10_17 : decode jdk_52_method_16_code 17 = .ok (.if_icmp .eq 40, 3) := by decide +kernel
theorem own_d10_57 : decode jdk_52_method_16_code 57 = .ok (.aload_n 3, 1) := by decide +kernel
theorem own_d10_58 : decode jdk_52_method_16_code 58 = .ok (.areturn, 1) := by decide +kernel
theorem own_d12_0 : decode jdk_52_method_15_code 0 = .ok (.iload_n 1, 1) := by decide +kernel
theorem own_d12_1 : decode jdk_52_method_15_code 1 = .ok (.aload_n 0, 1) := by decide +kernel
theorem own_d12_2 : decode jdk_52_method_15_code 2 = .ok (.arraylength, 1) := by decide +kernel
theorem own_d12_3 : decode jdk_52_method_15_code 3 = .ok (.isub, 1) := by decide +kernel
theorem own_d12_4 : decode jdk_52_method_15_code 4 = .ok (.bipush 31, 2) := by decide +kernel
theorem own_d12_6 : decode jdk_52_method_15_code 6 = .ok (.iushr, 1) := by decide +kernel
theorem own_d12_7 : decode jdk_52_method_15_code 7 = .ok (.i2b, 1) := by decide +kernel
theorem own_d12_8 : decode jdk_52_method_15_code 8 = .ok (.ireturn, 1) := by decide +kernel
theorem own_d9_0 : decode jdk_42_method_149_code 0 = .ok (.aload_n 0, 1) := by decide +kernel
theorem own_d9_1 : decode jdk_42_method_149_code 1 = .ok (.invokespecial 1, 3) := by decide +kernel
theorem own_d9_4 : decode jdk_42_method_149_code 4 = .ok (.iload_n 3, 1) := by decide +kernel
theorem own_d9_5 : decode jdk_42_method_149_code 5 = .ok (.ifCond .ne 22, 3) := by decide +kernel
theorem own_d9_27 : decode jdk_42_method_149_code 27 = .ok (.getstatic 38, 3) := by decide +kernel
theorem own_d9_30 : decode jdk_42_method_149_code 30 = .ok (.ifCond .eq 28, 3) := by decide +kernel
theorem own_d9_33 : decode jdk_42_method_149_code 33 = .ok (.aload_n 1, 1) := by decide +kernel
theorem own_d9_34 : decode jdk_42_method_149_code 34 = .ok (.iload_n 2, 1) := by decide +kernel
theorem own_d9_35 : decode jdk_42_method_149_code 35 = .ok (.iload_n 3, 1) := by decide +kernel
theorem own_d9_36 : decode jdk_42_method_149_code 36 = .ok (.invokestatic 177, 3) := by decide +kernel
theorem own_pd10 : parseMethodDescriptor "([CII)[B" = some ⟨[(.array .char), .int, .int], some (.array .byte)⟩ := by decide +kernel
theorem own_d9_39 : decode jdk_42_method_149_code 39 = .ok (.astore 5, 2) := by decide +kernel
theorem own_d9_41 : decode jdk_42_method_149_code 41 = .ok (.aload_n 0, 1) := by decide +kernel
theorem own_d9_42 : decode jdk_42_method_149_code 42 = .ok (.aload 5, 2) := by decide +kernel
theorem own_d9_44 : decode jdk_42_method_149_code 44 = .ok (.iload_n 3, 1) := by decide +kernel
theorem own_d9_45 : decode jdk_42_method_149_code 45 = .ok (.invokestatic 47, 3) := by decide +kernel
theorem own_pd11 : parseMethodDescriptor "([BI)B" = some ⟨[(.array .byte), .int], some .byte⟩ := by decide +kernel
theorem own_d9_48 : decode jdk_42_method_149_code 48 = .ok (.putfield 15, 3) := by decide +kernel
theorem own_d9_51 : decode jdk_42_method_149_code 51 = .ok (.aload_n 0, 1) := by decide +kernel
theorem own_d9_52 : decode jdk_42_method_149_code 52 = .ok (.aload 5, 2) := by decide +kernel
theorem own_d9_54 : decode jdk_42_method_149_code 54 = .ok (.putfield 9, 3) := by decide +kernel
theorem own_d9_57 : decode jdk_42_method_149_code 57 = .ok (.return_, 1) := by decide +kernel
theorem own_pn_9 : plainName "java/lang/String" = true := by first | (simp [plainName, overriddenIn]; done) | decide +kernel
theorem own_d8_0 : decode jdk_42_method_3_code 0 = .ok (.aload_n 0, 1) := by decide +kernel
theorem own_d8_1 : decode jdk_42_method_3_code 1 = .ok (.aload_n 1, 1) := by decide +kernel
theorem own_d8_2 : decode jdk_42_method_3_code 2 = .ok (.iconst 0, 1) := by decide +kernel
theorem own_d8_3 : decode jdk_42_method_3_code 3 = .ok (.aload_n 1, 1) := by decide +kernel
theorem own_d8_4 : decode jdk_42_method_3_code 4 = .ok (.arraylength, 1) := by decide +kernel
theorem own_d8_5 : decode jdk_42_method_3_code 5 = .ok (.aconst_null, 1) := by decide +kernel
theorem own_d8_6 : decode jdk_42_method_3_code 6 = .ok (.invokespecial 27, 3) := by decide +kernel
theorem own_pd13 : parseMethodDescriptor "([CIILjava/lang/Void;)V" = some ⟨[(.array .char), .int, .int, (.object "java/lang/Void")], none⟩ := by decide +kernel
theorem own_d8_9 : decode jdk_42_method_3_code 9 = .ok (.return_, 1) := by decide +kernel
theorem own_d6_0 : decode jdk_30_method_1_code 0 = .ok (.aload_n 0, 1) := by decide +kernel
theorem own_d6_1 : decode jdk_30_method_1_code 1 = .ok (.invokespecial 1, 3) := by decide +kernel
theorem own_d6_4 : decode jdk_30_method_1_code 4 = .ok (.return_, 1) := by decide +kernel
theorem own_pn_6 : plainName "java/lang/Record" = true := by first | (simp [plainName, overriddenIn]; done) | decide +kernel
theorem own_d5_0 : decode prog_32_method_1_code 0 = .ok (.aload_n 0, 1) := by decide +kernel
theorem own_d5_1 : decode prog_32_method_1_code 1 = .ok (.invokespecial 1, 3) := by decide +kernel
theorem own_d5_4 : decode prog_32_method_1_code 4 = .ok (.aload_n 0, 1) := by decide +kernel
theorem own_d5_5 : decode prog_32_method_1_code 5 = .ok (.lload_n 1, 1) := by decide +kernel
theorem own_d5_6 : decode prog_32_method_1_code 6 = .ok (.putfield 7, 3) := by decide +kernel
theorem own_d5_9 : decode prog_32_method_1_code 9 = .ok (.aload_n 0, 1) := by decide +kernel
theorem own_d5_10 : decode prog_32_method_1_code 10 = .ok (.lload_n 3, 1) := by decide +kernel
theorem own_d5_11 : decode prog_32_method_1_code 11 = .ok (.putfield 13, 3) := by decide +kernel
theorem own_d5_14 : decode prog_32_method_1_code 14 = .ok (.aload_n 0, 1) := by decide +kernel
theorem own_d5_15 : decode prog_32_method_1_code 15 = .ok (.lload 5, 2) := by decide +kernel
theorem own_d5_17 : decode prog_32_method_1_code 17 = .ok (.putfield 16, 3) := by decide +kernel
theorem own_d5_20 : decode prog_32_method_1_code 20 = .ok (.aload_n 0, 1) := by decide +kernel
theorem own_d5_21 : decode prog_32_method_1_code 21 = .ok (.lload 7, 2) := by decide +kernel
theorem own_d5_23 : decode prog_32_method_1_code 23 = .ok (.putfield 19, 3) := by decide +kernel
theorem own_d5_26 : decode prog_32_method_1_code 26 = .ok (.aload_n 0, 1) := by decide +kernel
theorem own_d5_27 : decode prog_32_method_1_code 27 = .ok (.aload 9, 2) := by decide +kernel
theorem own_d5_29 : decode prog_32_method_1_code 29 = .ok (.putfield 22, 3) := by decide +kernel
theorem own_d5_32 : decode prog_32_method_1_code 32 = .ok (.return_, 1) := by decide +kernel
theorem own_pn_5 : plainName "com/example/intervale/intervale/bench/Verifier$Verification" = true := by first | (simp [plainName, overriddenIn]; done) | decide +kernel
theorem own_d7_0 : decode prog_32_method_2_code 0 = .ok (.aload_n 0, 1) := by decide +kernel
theorem own_d7_1 : decode prog_32_method_2_code 1 = .ok (.getfield 13, 3) := by decide +kernel
theorem own_d7_4 : decode prog_32_method_2_code 4 = .ok (.lconst 0, 1) := by decide +kernel
theorem own_d7_5 : decode prog_32_method_2_code 5 = .ok (.lcmp, 1) := by decide +kernel
theorem own_d7_6 : decode prog_32_method_2_code 6 = .ok (.ifCond .ne 16, 3) := by decide +kernel
theorem own_d7_22 : decode prog_32_method_2_code 22 = .ok (.iconst 0, 1) := by decide +kernel
theorem own_d7_23 : decode prog_32_method_2_code 23 = .ok (.ireturn, 1) := by decide +kernel
theorem own_d7_9 : decode prog_32_method_2_code 9 = .ok (.aload_n 0, 1) := by decide +kernel
theorem own_d7_10 : decode prog_32_method_2_code 10 = .ok (.getfield 16, 3) := by decide +kernel
theorem own_d7_13 : decode prog_32_method_2_code 13 = .ok (.lconst 0, 1) := by decide +kernel
theorem own_d7_14 : decode prog_32_method_2_code 14 = .ok (.lcmp, 1) := by decide +kernel
theorem own_d7_15 : decode prog_32_method_2_code 15 = .ok (.ifCond .ne 7, 3) := by decide +kernel
theorem own_d7_18 : decode prog_32_method_2_code 18 = .ok (.iconst 1, 1) := by decide +kernel
theorem own_d7_19 : decode prog_32_method_2_code 19 = .ok (.goto 4, 3) := by decide +kernel
theorem own_pd16 : parseMethodDescriptor "([C)V" = some ⟨[(.array .char)], none⟩ := by decide +kernel
theorem own_pd17 : parseMethodDescriptor "(Ljava/lang/Object;)Z" = some ⟨[(.object "java/lang/Object")], some .boolean⟩ := by decide +kernel
theorem own_pd18 : parseMethodDescriptor "(JJJJLjava/util/List;)V" = some ⟨[.long, .long, .long, .long, (.object "java/util/List")], none⟩ := by decide +kernel
theorem own_pd19 : parseMethodDescriptor "()Z" = some ⟨[], some .boolean⟩ := by decide +kernel
theorem own_pn_0 : plainName "com/example/intervale/intervale/bench/VerificationPassedPinLaw" = true := by first | (simp [plainName, overriddenIn]; done) | decide +kernel
set_option maxRecDepth 65536 in
set_option maxHeartbeats 40000000 in
theorem own_acol (l : Launch) (Z : State) (a0 : Array Value) (hw : ∀ d ∈ tables_1, d.before a0 Z = true) (a : Addr) (h0 : Heap) (n0 : Nat) (Z0 : n0 ≤ h0.size)  :
    OCon l Z n0 (⟨"java/util/AbstractCollection", "<init>", "()V"⟩ : MethodName) jdk_22_method_1_code 1 none [] ({ frames := 1, cells := 0, slots := 0, locals := 12 } : Room) #[(.ref a)] h0 (ON fun h => h = h0) := by
  refine OCon.of (Ls := #[.val (.ref a)]) (plainFor_of_name own_pn_3) (fun m => own_entry m rfl) ?_
  intro p e s m below meth c K
  refine OGo.aloadN K (pc' := 1) own_d3_0 rfl rfl rfl ?_
  refine OGo.initO K (pc' := 4) (W := 0) (hw _ (List.mem_of_getElem? (i := 18) rfl)) (hw _ (List.mem_of_getElem? (i := 19) rfl)) (hw _ (List.mem_of_getElem? (i := 20) rfl)) own_d3_1 rfl rfl (by show 2 * 0 + _ ≤ _; exact Nat.le_of_eq rfl) (by decide) (by decide) ?_
  exact OGo.vret K own_d3_4 (by decide) (by decide) ⟨rfl, rfl⟩
set_option maxRecDepth 65536 in
set_option maxHeartbeats 40000000 in
theorem own_abl (l : Launch) (Z : State) (a0 : Array Value) (hw : ∀ d ∈ tables_1, d.before a0 Z = true) (a : Addr) (u : Value) (h0 : Heap) (n0 : Nat) (Z0 : n0 ≤ h0.size) (E : Exa Z h0 a "java/util/ArrayList") (F : Fld Z h0 a "java/util/AbstractList" "modCount" "I" u) (g_a : n0 ≤ a) :
    OCon l Z n0 (⟨"java/util/AbstractList", "<init>", "()V"⟩ : MethodName) jdk_39_method_1_code 1 none [] ({ frames := 2, cells := 0, slots := 0, locals := 24 } : Room) #[(.ref a)] h0 (ON fun h => ∃ sl v, Wr h0 h a sl v ∧ sl = RoadKit.slotOf Z "java/util/AbstractList" "modCount" "I" ∧ Fld Z h a "java/util/AbstractList" "modCount" "I" (.int 0)) := by
  refine OCon.of (Ls := #[.val (.ref a)]) (plainFor_of_name own_pn_2) (fun m => own_entry m rfl) ?_
  intro p e s m below meth c K
  refine OGo.aloadN K (pc' := 1) own_d2_0 rfl rfl rfl ?_
  refine OGo.callIN K (pc' := 4) (y := (⟨"java/util/AbstractCollection", "<init>", "()V"⟩ : MethodName)) (a := a) (W := 0) (cells' := 0) (slots' := 0) (argsL := []) (st := []) rfl (hw _ (List.mem_of_getElem? (i := 12) rfl)) (hw _ (List.mem_of_getElem? (i := 13) rfl)) (hw _ (List.mem_of_getElem? (i := 16) rfl)) (hw _ (List.mem_of_getElem? (i := 17) rfl)) (by decide) (own_acol l Z a0 hw a h0 n0 Z0) own_d2_1 rfl rfl (lenOf own_pd1 rfl) (by show 2 * 0 + _ ≤ _; exact Nat.le_of_eq rfl) (by decide) (by decide) rfl rfl (by decide) (by decide) ?_
  rintro h1 e1
  rw [e1]
  refine OGo.aloadN K (pc' := 5) own_d2_4 rfl rfl rfl ?_
  refine OGo.iconst K (pc' := 6) (z := 0) own_d2_5 rfl rfl ?_
  refine OGo.putF K (pc' := 9) (host := "") (Or.inl (hw _ (List.mem_of_getElem? (i := 21) rfl))) Via.refl F E (Or.inl (hw _ (List.mem_of_getElem? (i := 22) rfl))) (hw _ (List.mem_of_getElem? (i := 1) rfl)) (ty := .int) (by decide) rfl rfl g_a own_d2_6 rfl ?_
  intro h2 W2
  have Z2 : n0 ≤ h2.size := by rw [W2.size]; exact Z0
  have Fw_modCount_a_2 := F.same W2
  have E_2 := E.wr W2
  exact OGo.vret K own_d2_9 (by decide) (by decide) ⟨rfl, _, _, W2, rfl, Fw_modCount_a_2⟩
set_option maxRecDepth 65536 in
set_option maxHeartbeats 40000000 in
theorem own_al_init (l : Launch) (Z : State) (a0 : Array Value) (hw : ∀ d ∈ tables_1, d.before a0 Z = true) (a dd : Addr) (u1 u2 : Value) (h0 : Heap) (n0 : Nat) (Z0 : n0 ≤ h0.size) (E : Exa Z h0 a "java/util/ArrayList") (F1 : Fld Z h0 a "java/util/ArrayList" "elementData" "[Ljava/lang/Object;" u1) (F2 : Fld Z h0 a "java/util/ArrayList" "size" "I" (.int 0)) (F3 : Fld Z h0 a "java/util/AbstractList" "modCount" "I" u2) (g_a : n0 ≤ a) (Wd : OWd Z n0 h0 dd) :
    OCon l Z n0 (⟨"java/util/ArrayList", "<init>", "()V"⟩ : MethodName) jdk_38_method_2_code 1 none [] ({ frames := 3, cells := 0, slots := 0, locals := 36 } : Room) #[(.ref a)] h0 (ON fun h => OAL0 Z n0 h a dd ∧ Keep h0 h [a]) := by
  refine OCon.of (Ls := #[.val (.ref a)]) (plainFor_of_name own_pn_1) (fun m => own_entry m rfl) ?_
  intro p e s m below meth c K
  refine OGo.aloadN K (pc' := 1) own_d1_0 rfl rfl rfl ?_
  refine OGo.callIN K (pc' := 4) (y := (⟨"java/util/AbstractList", "<init>", "()V"⟩ : MethodName)) (a := a) (W := 0) (cells' := 0) (slots' := 0) (argsL := []) (st := []) rfl (hw _ (List.mem_of_getElem? (i := 6) rfl)) (hw _ (List.mem_of_getElem? (i := 7) rfl)) (hw _ (List.mem_of_getElem? (i := 10) rfl)) (hw _ (List.mem_of_getElem? (i := 11) rfl)) (by decide) (own_abl l Z a0 hw a _ h0 n0 Z0 E F3 g_a) own_d1_1 rfl rfl (lenOf own_pd1 rfl) (by show 2 * 0 + _ ≤ _; exact Nat.le_of_eq rfl) (by decide) (by decide) rfl rfl (by decide) (by decide) ?_
  rintro h1 ⟨sl1, v1, W1, es1, Fm1⟩
  subst es1
  have Z1 : n0 ≤ h1.size := by rw [W1.size]; exact Z0
  have E_1 := E.wr W1
  have F1_1 := F1.other W1 (Or.inr (slot_ne (Or.inl (hw _ (List.mem_of_getElem? (i := 25) rfl))) (Or.inl (hw _ (List.mem_of_getElem? (i := 22) rfl))) (by decide) (t := (.array (.object "java/lang/Object"))) (t' := .int) (by decide) (by decide)))
  have F2_1 := F2.other W1 (Or.inr (slot_ne (Or.inl (hw _ (List.mem_of_getElem? (i := 93) rfl))) (Or.inl (hw _ (List.mem_of_getElem? (i := 22) rfl))) (by decide) (t := .int) (t' := .int) (by decide) (by decide)))
  have Wd_1 := OWd.wr Wd W1 g_a
  have Kp1 : Keep h0 h1 [a] := (Keep.refl h0 [a]).wr W1 (Or.inl (List.mem_of_getElem? (i := 0) rfl))
  refine OGo.aloadN K (pc' := 5) own_d1_4 rfl rfl rfl ?_
  refine OGo.getS K (pc' := 8) (host := "") (Or.inl (hw _ (List.mem_of_getElem? (i := 23) rfl))) Via.refl Wd_1.1.sta own_d1_5 rfl ?_
  refine OGo.putF K (pc' := 11) (host := "") (Or.inl (hw _ (List.mem_of_getElem? (i := 24) rfl))) Via.refl F1_1 E_1 (Or.inl (hw _ (List.mem_of_getElem? (i := 25) rfl))) (hw _ (List.mem_of_getElem? (i := 1) rfl)) (ty := (.array (.object "java/lang/Object"))) (by decide) rfl rfl g_a own_d1_8 rfl ?_
  intro h2 W2
  have Z2 : n0 ≤ h2.size := by rw [W2.size]; exact Z1
  have Fw_elementData_a_2 := F1_1.same W2
  have E_2 := E_1.wr W2
  have F2_2 := F2_1.other W2 (Or.inr (slot_ne (Or.inl (hw _ (List.mem_of_getElem? (i := 93) rfl))) (Or.inl (hw _ (List.mem_of_getElem? (i := 25) rfl))) (by decide) (t := .int) (t' := (.array (.object "java/lang/Object"))) (by decide) (by decide)))
  have Fm1_2 := Fm1.other W2 (Or.inr (slot_ne (Or.inl (hw _ (List.mem_of_getElem? (i := 22) rfl))) (Or.inl (hw _ (List.mem_of_getElem? (i := 25) rfl))) (by decide) (t := .int) (t' := (.array (.object "java/lang/Object"))) (by decide) (by decide)))
  have Wd_2 := OWd.wr Wd_1 W2 g_a
  have Kp2 : Keep h0 h2 [a] := Kp1.wr W2 (Or.inl (List.mem_of_getElem? (i := 0) rfl))
  exact OGo.vret K own_d1_11 (by decide) (by decide) ⟨rfl, ⟨E_2, F2_2, ⟨_, Fm1_2⟩, Fw_elementData_a_2, g_a⟩, Kp2⟩
set_option maxRecDepth 65536 in
set_option maxHeartbeats 40000000 in
theorem own_maxI (l : Launch) (Z : State) (a0 : Array Value) (hw : ∀ d ∈ tables_1, d.before a0 Z = true) (u v : Int32) (h0 : Heap) (n0 : Nat) (Z0 : n0 ≤ h0.size)  :
    OCon l Z n0 (⟨"java/lang/Math", "max", "(II)I"⟩ : MethodName) jdk_29_method_65_code 2 (some .int) [] ({ frames := 0, cells := 0, slots := 0, locals := 0 } : Room) #[(.int u), (.int v)] h0 (OV fun w h => w = .int (if u < v then v else u) ∧ h = h0) := by
  refine OCon.of (Ls := #[.val (.int u), .val (.int v)]) (Jvm.Free.JP.mathPlain rfl (by decide +kernel)) (fun m => own_entry m rfl) ?_
  intro p e s m below meth c K
  refine OGo.iloadN K (pc' := 1) own_d17_0 rfl rfl ?_
  refine OGo.iloadN K (pc' := 2) own_d17_1 rfl rfl ?_
  refine OGo.icmpLt K (pc' := 5) (pcY := 9) own_d17_2 rfl (by decide) rfl (fun hc => ?_) (fun hc => ?_)
  · skip
    refine OGo.iloadN K (pc' := 10) own_d17_9 rfl rfl ?_
    exact OGo.iret K own_d17_10 (by decide) (by decide) ⟨_, rfl, by rw [if_pos hc], rfl⟩
  · skip
    refine OGo.iloadN K (pc' := 6) own_d17_5 rfl rfl ?_
    refine OGo.goto K (pc' := 10) own_d17_6 (by decide) rfl ?_
    exact OGo.iret K own_d17_10 (by decide) (by decide) ⟨_, rfl, by rw [if_neg hc], rfl⟩
set_option maxRecDepth 65536 in
set_option maxHeartbeats 40000000 in
theorem own_al_grow1 (l : Launch) (Z : State) (a0 : Array Value) (hw : ∀ d ∈ tables_1, d.before a0 Z = true) (a dd : Addr) (h0 : Heap) (n0 : Nat) (Z0 : n0 ≤ h0.size) (L : OAL0 Z n0 h0 a dd) (Wd : OWd Z n0 h0 dd) :
    OCon l Z n0 (⟨"java/util/ArrayList", "grow", "(I)[Ljava/lang/Object;"⟩ : MethodName) jdk_38_method_6_code 4 (some (.array (.object "java/lang/Object"))) [] ({ frames := 1, cells := 1, slots := 10, locals := 14 } : Room) #[(.ref a), (.int 1)] h0 (OV fun w h => ∃ x, w = .ref x ∧ OAL1 Z n0 h a x [] ∧ Keep h0 h [a] ∧ h0.size ≤ x) := by
  refine OCon.of (Ls := #[.val (.ref a), .val (.int 1), .unset, .unset]) (plainFor_of_name own_pn_1) (fun m => own_entry m rfl) ?_
  intro p e s m below meth c K
  obtain ⟨E, F1, ⟨mc, F2⟩, F3, g_a⟩ := L
  obtain ⟨Sd, ⟨kd, Vd⟩, ld⟩ := Wd
  refine OGo.aloadN K (pc' := 1) own_d16_0 rfl rfl rfl ?_
  refine OGo.getF K (pc' := 4) (host := "") (Or.inl (hw _ (List.mem_of_getElem? (i := 24) rfl))) Via.refl F3 own_d16_1 rfl ?_
  refine OGo.alen K (pc' := 5) Vd own_d16_4 rfl ?_
  refine OGo.istoreN K (pc' := 6) (Ls' := #[.val (.ref a), .val (.int (1 : Int32)), .val (.int (0 : Int32)), .unset]) own_d16_5 rfl rfl ?_
  refine OGo.iloadN K (pc' := 7) own_d16_6 rfl rfl ?_
  refine OGo.ifGt K (pc' := 10) (pcY := 20) own_d16_7 rfl (by decide) rfl (fun hc7 => absurd hc7 (by decide : ¬ (0 : Int32) < (0 : Int32))) (fun hc7 => ?_)
  refine OGo.aloadN K (pc' := 11) own_d16_10 rfl rfl rfl ?_
  refine OGo.getF K (pc' := 14) (host := "") (Or.inl (hw _ (List.mem_of_getElem? (i := 24) rfl))) Via.refl F3 own_d16_11 rfl ?_
  refine OGo.getS K (pc' := 17) (host := "") (Or.inl (hw _ (List.mem_of_getElem? (i := 23) rfl))) Via.refl Sd.sta own_d16_14 rfl ?_
  refine OGo.acmp K (pc' := 45) (same := true) own_d16_17 rfl rfl (decide_eq_true rfl) (by decide) rfl ?_
  refine OGo.aloadN K (pc' := 46) own_d16_45 rfl rfl rfl ?_
  refine OGo.bipush K (pc' := 48) (z := 10) own_d16_46 rfl rfl ?_
  refine OGo.iloadN K (pc' := 49) own_d16_48 rfl rfl ?_
  refine OGo.callSV K (pc' := 52) (y := (⟨"java/lang/Math", "max", "(II)I"⟩ : MethodName)) (W := 1) (cells' := 0) (slots' := 0) (argsL := [(.int (10 : Int32)), (.int (1 : Int32))]) (st := [(.ref a)]) (hw _ (List.mem_of_getElem? (i := 109) rfl)) (hw _ (List.mem_of_getElem? (i := 110) rfl)) (hw _ (List.mem_of_getElem? (i := 111) rfl)) (hw _ (List.mem_of_getElem? (i := 112) rfl)) (by decide) (own_maxI l Z a0 hw 10 1 h0 n0 Z0) own_d16_49 rfl rfl (lenOf own_pd4 rfl) (by show 2 * 0 + _ ≤ _; exact Nat.le_of_eq rfl) (by decide) (by decide) rfl rfl (by decide) (by decide) ?_
  rintro _ h1 ⟨rfl, e1⟩
  rw [e1]
  show OGo p l e _ s m _ below meth c n0 _ h0 0 0 52 #[.val (.ref a), .val (.int (1 : Int32)), .val (.int (0 : Int32)), .unset] [(.int (if (10 : Int32) < (1 : Int32) then (1 : Int32) else (10 : Int32))), (.ref a)]
  rw [show (if (10 : Int32) < (1 : Int32) then (1 : Int32) else (10 : Int32)) = 10 from by decide]
  refine OGo.newR K (pc' := 55) (cap := 10) (cells' := 1) (slots' := 10) (hw _ (List.mem_of_getElem? (i := 113) rfl)) (hw _ (List.mem_of_getElem? (i := 114) rfl)) own_d16_52 rfl (by decide) (by decide) (by decide) rfl rfl (by decide) (by decide) ?_
  intro h2 x k_x gq2 E2 V_x O_x
  have ne_a_x : a ≠ x := Nat.ne_of_lt (Nat.lt_of_lt_of_le F3.lt (Nat.le_of_eq gq2.symm))
  have g_x : n0 ≤ x := Nat.le_trans Z0 (Nat.le_of_eq gq2.symm)
  have sz_x : h0.size ≤ x := Nat.le_trans (Keep.refl h0 [a]).1 (Nat.le_of_eq gq2.symm)
  have Z2 : n0 ≤ h2.size := Nat.le_trans Z0 E2.1
  have Kp2 : Keep h0 h2 [a] := (Keep.refl h0 [a]).ext E2
  have F3_2 := F3.ext E2
  have F1_2 := F1.ext E2
  have E_2 := E.ext E2
  have F2_2 := F2.ext E2
  refine OGo.dupX1 K (pc' := 56) own_d16_55 rfl rfl rfl ?_
  refine OGo.putF K (pc' := 59) (host := "") (Or.inl (hw _ (List.mem_of_getElem? (i := 24) rfl))) Via.refl F3_2 E_2 (Or.inl (hw _ (List.mem_of_getElem? (i := 25) rfl))) (hw _ (List.mem_of_getElem? (i := 1) rfl)) (ty := (.array (.object "java/lang/Object"))) (by decide) rfl rfl g_a own_d16_56 rfl ?_
  intro h3 W3
  have Z3 : n0 ≤ h3.size := by rw [W3.size]; exact Z2
  have Fw_elementData_a_3 := F3_2.same W3
  have F1_3 := F1_2.other W3 (Or.inr (slot_ne (Or.inl (hw _ (List.mem_of_getElem? (i := 93) rfl))) (Or.inl (hw _ (List.mem_of_getElem? (i := 25) rfl))) (by decide) (t := .int) (t' := (.array (.object "java/lang/Object"))) (by decide) (by decide)))
  have E_3 := E_2.wr W3
  have F2_3 := F2_2.other W3 (Or.inr (slot_ne (Or.inl (hw _ (List.mem_of_getElem? (i := 22) rfl))) (Or.inl (hw _ (List.mem_of_getElem? (i := 25) rfl))) (by decide) (t := .int) (t' := (.array (.object "java/lang/Object"))) (by decide) (by decide)))
  have V_x_3 := V_x.other W3 (Ne.symm ne_a_x)
  have Kp3 : Keep h0 h3 [a] := Kp2.wr W3 (Or.inl (List.mem_of_getElem? (i := 0) rfl))
  exact OGo.aret K own_d16_59 rfl rfl (by decide) (by decide) ⟨_, rfl, x, rfl, ⟨E_3, F1_3, ⟨_, F2_3⟩, Fw_elementData_a_3, ⟨_, _, V_x_3.pad (pad_rep [] _ 10), rfl, O_x, fun i hi => absurd hi (Nat.not_lt_zero i)⟩, ne_a_x, g_a, g_x⟩, Kp3, sz_x⟩
set_option maxRecDepth 65536 in
set_option maxHeartbeats 40000000 in
theorem own_al_grow0 (l : Launch) (Z : State) (a0 : Array Value) (hw : ∀ d ∈ tables_1, d.before a0 Z = true) (a dd : Addr) (h0 : Heap) (n0 : Nat) (Z0 : n0 ≤ h0.size) (L : OAL0 Z n0 h0 a dd) (Wd : OWd Z n0 h0 dd) :
    OCon l Z n0 (⟨"java/util/ArrayList", "grow", "()[Ljava/lang/Object;"⟩ : MethodName) jdk_38_method_7_code 1 (some (.array (.object "java/lang/Object"))) [] ({ frames := 2, cells := 1, slots := 10, locals := 29 } : Room) #[(.ref a)] h0 (OV fun w h => ∃ x, w = .ref x ∧ OAL1 Z n0 h a x [] ∧ Keep h0 h [a] ∧ h0.size ≤ x) := by
  refine OCon.of (Ls := #[.val (.ref a)]) (plainFor_of_name own_pn_1) (fun m => own_entry m rfl) ?_
  intro p e s m below meth c K
  refine OGo.aloadN K (pc' := 1) own_d15_0 rfl rfl rfl ?_
  refine OGo.aloadN K (pc' := 2) own_d15_1 rfl rfl rfl ?_
  refine OGo.getF K (pc' := 5) (host := "") (Or.inl (hw _ (List.mem_of_getElem? (i := 92) rfl))) Via.refl L.2.1 own_d15_2 rfl ?_
  refine OGo.iconst K (pc' := 6) (z := 1) own_d15_5 rfl rfl ?_
  refine OGo.iadd K (pc' := 7) own_d15_6 rfl ?_
  refine OGo.callPV K (pc' := 10) (y := (⟨"java/util/ArrayList", "grow", "(I)[Ljava/lang/Object;"⟩ : MethodName)) (a := a) (W := 0) (cells' := 1) (slots' := 10) (argsL := [(.int ((0 : Int32) + (1 : Int32)))]) (st := []) L.1 (hw _ (List.mem_of_getElem? (i := 104) rfl)) (hw _ (List.mem_of_getElem? (i := 105) rfl)) (hw _ (List.mem_of_getElem? (i := 107) rfl)) (hw _ (List.mem_of_getElem? (i := 106) rfl)) (hw _ (List.mem_of_getElem? (i := 2) rfl)) (hw _ (List.mem_of_getElem? (i := 108) rfl)) (by decide) (own_al_grow1 l Z a0 hw a dd h0 n0 Z0 L Wd) own_d15_7 rfl rfl (lenOf own_pd5 rfl) (by show 2 * 0 + _ ≤ _; exact Nat.le_of_eq rfl) (by decide) (by decide) rfl rfl (by decide) (by decide) ?_
  rintro _ h1 ⟨x, rfl, L1, K1, s1⟩
  have Z1 : n0 ≤ h1.size := Nat.le_trans Z0 K1.1
  show OGo p l e _ s m _ below meth c n0 _ h1 1 10 10 #[.val (.ref a)] [(.ref x)]
  exact OGo.aret K own_d15_10 rfl rfl (by decide) (by decide) ⟨_, rfl, x, rfl, L1, K1, s1⟩
set_option maxRecDepth 65536 in
set_option maxHeartbeats 40000000 in
theorem own_al_add3_1 (l : Launch) (Z : State) (a0 : Array Value) (hw : ∀ d ∈ tables_1, d.before a0 Z = true) (a y x : Addr) (vs : List Addr) (h0 : Heap) (n0 : Nat) (Z0 : n0 ≤ h0.size) (L : OAL1 Z n0 h0 a x vs) (hn : vs.length < 10) (I' : Ins Z h0 y "java/lang/Object" true) :
    OCon l Z n0 (⟨"java/util/ArrayList", "add", "(Ljava/lang/Object;[Ljava/lang/Object;I)V"⟩ : MethodName) jdk_38_method_24_code 4 none [] ({ frames := 0, cells := 0, slots := 0, locals := 0 } : Room) #[(.ref a), (.ref y), (.ref x), (.int (Int32.ofNat vs.length))] h0 (ON fun h => OAL1 Z n0 h a x (vs ++ [y]) ∧ Keep h0 h [a, x]) := by
  refine OCon.of (Ls := #[.val (.ref a), .val (.ref y), .val (.ref x), .val (.int (Int32.ofNat vs.length))]) (plainFor_of_name own_pn_1) (fun m => own_entry m rfl) ?_
  intro p e s m below meth c K
  obtain ⟨E, F1, ⟨mc, F2⟩, F3, ⟨k, us, Vx, lx, Ox, Hx⟩, ne1, g_a, g_x⟩ := L
  obtain ⟨i1, i2, i3, i4⟩ := own_i10 hn
  refine OGo.iloadN K (pc' := 1) own_d14_0 rfl rfl ?_
  refine OGo.aloadN K (pc' := 2) own_d14_1 rfl rfl rfl ?_
  refine OGo.alen K (pc' := 3) Vx own_d14_2 rfl ?_
  refine OGo.icmpNe K (pc' := 6) (pcY := 11) own_d14_3 rfl (by decide) rfl (fun hc3 => ?_) (fun hc3 => absurd hc3 (i4 : ¬ (Int32.ofNat vs.length) = (10 : Int32)))
  refine OGo.aloadN K (pc' := 12) own_d14_11 rfl rfl rfl ?_
  refine OGo.iloadN K (pc' := 13) own_d14_12 rfl rfl ?_
  refine OGo.aloadN K (pc' := 14) own_d14_13 rfl rfl rfl ?_
  refine OGo.aastore K (pc' := 15) (i := vs.length) Vx rfl rfl (own_sto Vx Ox (I')) ⟨i1, i2⟩ i3 (by rw [lx]; exact hn) g_x own_d14_14 rfl ?_
  intro h1 W1 Vx_1
  have Z1 : n0 ≤ h1.size := by rw [W1.size]; exact Z0
  have F3_1 := F3.other W1 (Or.inl ne1)
  have F1_1 := F1.other W1 (Or.inl ne1)
  have E_1 := E.wr W1
  have F2_1 := F2.other W1 (Or.inl ne1)
  have Kp1 : Keep h0 h1 [a, x] := (Keep.refl h0 [a, x]).wr W1 (Or.inl (List.mem_of_getElem? (i := 1) rfl))
  refine OGo.aloadN K (pc' := 16) own_d14_15 rfl rfl rfl ?_
  refine OGo.iloadN K (pc' := 17) own_d14_16 rfl rfl ?_
  refine OGo.iconst K (pc' := 18) (z := 1) own_d14_17 rfl rfl ?_
  refine OGo.iadd K (pc' := 19) own_d14_18 rfl ?_
  refine OGo.putF K (pc' := 22) (host := "") (Or.inl (hw _ (List.mem_of_getElem? (i := 92) rfl))) Via.refl F1_1 E_1 (Or.inl (hw _ (List.mem_of_getElem? (i := 93) rfl))) (hw _ (List.mem_of_getElem? (i := 1) rfl)) (ty := .int) (by decide) rfl rfl g_a own_d14_19 rfl ?_
  intro h2 W2
  have Z2 : n0 ≤ h2.size := by rw [W2.size]; exact Z1
  have Fw_size_a_2 := F1_1.same W2
  have F3_2 := F3_1.other W2 (Or.inr (slot_ne (Or.inl (hw _ (List.mem_of_getElem? (i := 25) rfl))) (Or.inl (hw _ (List.mem_of_getElem? (i := 93) rfl))) (by decide) (t := (.array (.object "java/lang/Object"))) (t' := .int) (by decide) (by decide)))
  have Vx_2 := Vx_1.other W2 (Ne.symm ne1)
  have E_2 := E_1.wr W2
  have F2_2 := F2_1.other W2 (Or.inr (slot_ne (Or.inl (hw _ (List.mem_of_getElem? (i := 22) rfl))) (Or.inl (hw _ (List.mem_of_getElem? (i := 93) rfl))) (by decide) (t := .int) (t' := .int) (by decide) (by decide)))
  have Kp2 : Keep h0 h2 [a, x] := Kp1.wr W2 (Or.inl (List.mem_of_getElem? (i := 0) rfl))
  exact OGo.vret K own_d14_22 (by decide) (by decide) ⟨rfl, ⟨E_2, (by first | (rw [List.length_append, show vs.length + [y].length = vs.length + 1 from rfl, inc_ofNat]; exact Fw_size_a_2) | exact Fw_size_a_2), ⟨_, F2_2⟩, F3_2, ⟨_, _, Vx_2, by rw [List.length_set]; exact lx, Ox, own_al_push lx hn Hx⟩, ne1, g_a, g_x⟩, Kp2⟩
set_option maxRecDepth 65536 in
set_option maxHeartbeats 40000000 in
theorem own_al_add3_0 (l : Launch) (Z : State) (a0 : Array Value) (hw : ∀ d ∈ tables_1, d.before a0 Z = true) (a y dd : Addr) (h0 : Heap) (n0 : Nat) (Z0 : n0 ≤ h0.size) (L : OAL0 Z n0 h0 a dd) (Wd : OWd Z n0 h0 dd) (I0 : Ins Z h0 y "java/lang/Object" true) :
    OCon l Z n0 (⟨"java/util/ArrayList", "add", "(Ljava/lang/Object;[Ljava/lang/Object;I)V"⟩ : MethodName) jdk_38_method_24_code 4 none [] ({ frames := 3, cells := 1, slots := 10, locals := 41 } : Room) #[(.ref a), (.ref y), (.ref dd), (.int 0)] h0 (ON fun h => ∃ x, OAL1 Z n0 h a x [y] ∧ Keep h0 h [a] ∧ h0.size ≤ x) := by
  refine OCon.of (Ls := #[.val (.ref a), .val (.ref y), .val (.ref dd), .val (.int 0)]) (plainFor_of_name own_pn_1) (fun m => own_entry m rfl) ?_
  intro p e s m below meth c K
  obtain ⟨kd, Vd⟩ := Wd.2.1
  refine OGo.iloadN K (pc' := 1) own_d14_0 rfl rfl ?_
  refine OGo.aloadN K (pc' := 2) own_d14_1 rfl rfl rfl ?_
  refine OGo.alen K (pc' := 3) Vd own_d14_2 rfl ?_
  refine OGo.icmpNe K (pc' := 6) (pcY := 11) own_d14_3 rfl (by decide) rfl (fun hc3 => absurd (rfl : (0 : Int32) = (0 : Int32)) hc3) (fun hc3 => ?_)
  refine OGo.aloadN K (pc' := 7) own_d14_6 rfl rfl rfl ?_
  refine OGo.callPV K (pc' := 10) (y := (⟨"java/util/ArrayList", "grow", "()[Ljava/lang/Object;"⟩ : MethodName)) (a := a) (W := 0) (cells' := 1) (slots' := 10) (argsL := []) (st := []) L.1 (hw _ (List.mem_of_getElem? (i := 99) rfl)) (hw _ (List.mem_of_getElem? (i := 100) rfl)) (hw _ (List.mem_of_getElem? (i := 102) rfl)) (hw _ (List.mem_of_getElem? (i := 101) rfl)) (hw _ (List.mem_of_getElem? (i := 2) rfl)) (hw _ (List.mem_of_getElem? (i := 103) rfl)) (by decide) (own_al_grow0 l Z a0 hw a dd h0 n0 Z0 L Wd) own_d14_7 rfl rfl (lenOf own_pd6 rfl) (by show 2 * 0 + _ ≤ _; exact Nat.le_of_eq rfl) (by decide) (by decide) rfl rfl (by decide) (by decide) ?_
  rintro _ h1 ⟨x, rfl, L1, K1, s1⟩
  have Z1 : n0 ≤ h1.size := Nat.le_trans Z0 K1.1
  show OGo p l e _ s m _ below meth c n0 _ h1 1 10 10 #[.val (.ref a), .val (.ref y), .val (.ref dd), .val (.int (0 : Int32))] [(.ref x)]
  obtain ⟨E, F1, ⟨mc, F2⟩, F3, ⟨k, us, Vx, lx, Ox, Hx⟩, ne1, g_a, g_x⟩ := L1
  have hn : ([] : List Addr).length < 10 := by decide
  obtain ⟨i1, i2, i3, i4⟩ := own_i10 hn
  have I' := own_ins_keep I0 K1
  have sz_x := s1
  refine OGo.astoreN K (pc' := 11) (Ls' := #[.val (.ref a), .val (.ref y), .val (.ref x), .val (.int (0 : Int32))]) own_d14_10 rfl rfl rfl ?_
  show OGo p l e _ s m _ below meth c n0 _ h1 1 10 11 #[.val (.ref a), .val (.ref y), .val (.ref x), .val (.int (Int32.ofNat ([] : List Addr).length))] []
  refine OGo.aloadN K (pc' := 12) own_d14_11 rfl rfl rfl ?_
  refine OGo.iloadN K (pc' := 13) own_d14_12 rfl rfl ?_
  refine OGo.aloadN K (pc' := 14) own_d14_13 rfl rfl rfl ?_
  refine OGo.aastore K (pc' := 15) (i := ([] : List Addr).length) Vx rfl rfl (own_sto Vx Ox (I')) ⟨i1, i2⟩ i3 (by rw [lx]; exact hn) g_x own_d14_14 rfl ?_
  intro h2 W2 Vx_2
  have Z2 : n0 ≤ h2.size := by rw [W2.size]; exact Z1
  have F3_2 := F3.other W2 (Or.inl ne1)
  have F1_2 := F1.other W2 (Or.inl ne1)
  have E_2 := E.wr W2
  have F2_2 := F2.other W2 (Or.inl ne1)
  have Kp2 : Keep h0 h2 [a] := K1.wr W2 (Or.inr sz_x)
  refine OGo.aloadN K (pc' := 16) own_d14_15 rfl rfl rfl ?_
  refine OGo.iloadN K (pc' := 17) own_d14_16 rfl rfl ?_
  refine OGo.iconst K (pc' := 18) (z := 1) own_d14_17 rfl rfl ?_
  refine OGo.iadd K (pc' := 19) own_d14_18 rfl ?_
  refine OGo.putF K (pc' := 22) (host := "") (Or.inl (hw _ (List.mem_of_getElem? (i := 92) rfl))) Via.refl F1_2 E_2 (Or.inl (hw _ (List.mem_of_getElem? (i := 93) rfl))) (hw _ (List.mem_of_getElem? (i := 1) rfl)) (ty := .int) (by decide) rfl rfl g_a own_d14_19 rfl ?_
  intro h3 W3
  have Z3 : n0 ≤ h3.size := by rw [W3.size]; exact Z2
  have Fw_size_a_3 := F1_2.same W3
  have F3_3 := F3_2.other W3 (Or.inr (slot_ne (Or.inl (hw _ (List.mem_of_getElem? (i := 25) rfl))) (Or.inl (hw _ (List.mem_of_getElem? (i := 93) rfl))) (by decide) (t := (.array (.object "java/lang/Object"))) (t' := .int) (by decide) (by decide)))
  have Vx_3 := Vx_2.other W3 (Ne.symm ne1)
  have E_3 := E_2.wr W3
  have F2_3 := F2_2.other W3 (Or.inr (slot_ne (Or.inl (hw _ (List.mem_of_getElem? (i := 22) rfl))) (Or.inl (hw _ (List.mem_of_getElem? (i := 93) rfl))) (by decide) (t := .int) (t' := .int) (by decide) (by decide)))
  have Kp3 : Keep h0 h3 [a] := Kp2.wr W3 (Or.inl (List.mem_of_getElem? (i := 0) rfl))
  exact OGo.vret K own_d14_22 (by decide) (by decide) ⟨rfl, x, ⟨E_3, (by first | (rw [List.length_append, show ([] : List Addr).length + [y].length = ([] : List Addr).length + 1 from rfl, inc_ofNat]; exact Fw_size_a_3) | exact Fw_size_a_3), ⟨_, F2_3⟩, F3_3, ⟨_, _, Vx_3, by rw [List.length_set]; exact lx, Ox, own_al_push lx hn Hx⟩, ne1, g_a, g_x⟩, Kp3, sz_x⟩
set_option maxRecDepth 65536 in
set_option maxHeartbeats 40000000 in
theorem own_al_add0 (l : Launch) (Z : State) (a0 : Array Value) (hw : ∀ d ∈ tables_1, d.before a0 Z = true) (a y dd : Addr) (h0 : Heap) (n0 : Nat) (Z0 : n0 ≤ h0.size) (L : OAL0 Z n0 h0 a dd) (Wd : OWd Z n0 h0 dd) (I0 : Ins Z h0 y "java/lang/Object" true) :
    OCon l Z n0 (⟨"java/util/ArrayList", "add", "(Ljava/lang/Object;)Z"⟩ : MethodName) jdk_38_method_25_code 2 (some .boolean) [] ({ frames := 4, cells := 1, slots := 10, locals := 56 } : Room) #[(.ref a), (.ref y)] h0 (OV fun w h => w = .int 1 ∧ ∃ x, OAL1 Z n0 h a x [y] ∧ Keep h0 h [a] ∧ h0.size ≤ x) := by
  refine OCon.of (Ls := #[.val (.ref a), .val (.ref y)]) (plainFor_of_name own_pn_1) (fun m => own_entry m rfl) ?_
  intro p e s m below meth c K
  obtain ⟨E, F1, ⟨mc, F2⟩, F3, g_a⟩ := L
  refine OGo.aloadN K (pc' := 1) own_d13_0 rfl rfl rfl ?_
  refine OGo.dup K (pc' := 2) own_d13_1 rfl rfl ?_
  refine OGo.getF K (pc' := 5) (host := "") (Or.inl (hw _ (List.mem_of_getElem? (i := 90) rfl))) (Via.of (hw _ (List.mem_of_getElem? (i := 91) rfl))) F2 own_d13_2 rfl ?_
  refine OGo.iconst K (pc' := 6) (z := 1) own_d13_5 rfl rfl ?_
  refine OGo.iadd K (pc' := 7) own_d13_6 rfl ?_
  refine OGo.putF K (pc' := 10) (host := "") (Or.inl (hw _ (List.mem_of_getElem? (i := 90) rfl))) (Via.of (hw _ (List.mem_of_getElem? (i := 91) rfl))) F2 E (Or.inl (hw _ (List.mem_of_getElem? (i := 22) rfl))) (hw _ (List.mem_of_getElem? (i := 1) rfl)) (ty := .int) (by decide) rfl rfl g_a own_d13_7 rfl ?_
  intro h1 W1
  have Z1 : n0 ≤ h1.size := by rw [W1.size]; exact Z0
  have Fw_modCount_a_1 := F2.same W1
  have F3_1 := F3.other W1 (Or.inr (slot_ne (Or.inl (hw _ (List.mem_of_getElem? (i := 25) rfl))) (Or.inl (hw _ (List.mem_of_getElem? (i := 22) rfl))) (by decide) (t := (.array (.object "java/lang/Object"))) (t' := .int) (by decide) (by decide)))
  have F1_1 := F1.other W1 (Or.inr (slot_ne (Or.inl (hw _ (List.mem_of_getElem? (i := 93) rfl))) (Or.inl (hw _ (List.mem_of_getElem? (i := 22) rfl))) (by decide) (t := .int) (t' := .int) (by decide) (by decide)))
  have E_1 := E.wr W1
  have Wd_1 := OWd.wr Wd W1 g_a
  have Kp1 : Keep h0 h1 [a] := (Keep.refl h0 [a]).wr W1 (Or.inl (List.mem_of_getElem? (i := 0) rfl))
  have L' : OAL0 Z n0 h1 a dd := ⟨E_1, F1_1, ⟨_, Fw_modCount_a_1⟩, F3_1, g_a⟩
  refine OGo.aloadN K (pc' := 11) own_d13_10 rfl rfl rfl ?_
  refine OGo.aloadN K (pc' := 12) own_d13_11 rfl rfl rfl ?_
  refine OGo.aloadN K (pc' := 13) own_d13_12 rfl rfl rfl ?_
  refine OGo.getF K (pc' := 16) (host := "") (Or.inl (hw _ (List.mem_of_getElem? (i := 24) rfl))) Via.refl F3_1 own_d13_13 rfl ?_
  refine OGo.aloadN K (pc' := 17) own_d13_16 rfl rfl rfl ?_
  refine OGo.getF K (pc' := 20) (host := "") (Or.inl (hw _ (List.mem_of_getElem? (i := 92) rfl))) Via.refl F1_1 own_d13_17 rfl ?_
  refine OGo.callPN K (pc' := 23) (y := (⟨"java/util/ArrayList", "add", "(Ljava/lang/Object;[Ljava/lang/Object;I)V"⟩ : MethodName)) (a := a) (W := 0) (cells' := 1) (slots' := 10) (argsL := [(.ref y), (.ref dd), (.int (0 : Int32))]) (st := []) E_1 (hw _ (List.mem_of_getElem? (i := 94) rfl)) (hw _ (List.mem_of_getElem? (i := 95) rfl)) (hw _ (List.mem_of_getElem? (i := 97) rfl)) (hw _ (List.mem_of_getElem? (i := 96) rfl)) (hw _ (List.mem_of_getElem? (i := 2) rfl)) (hw _ (List.mem_of_getElem? (i := 98) rfl)) (by decide) (own_al_add3_0 l Z a0 hw a y dd h1 n0 Z1 L' Wd_1 (own_ins_keep I0 Kp1)) own_d13_20 rfl rfl (lenOf own_pd7 rfl) (by show 2 * 0 + _ ≤ _; exact Nat.le_of_eq rfl) (by decide) (by decide) rfl rfl (by decide) (by decide) ?_
  rintro h2 ⟨x, L2, K2, s2⟩
  have Z2 : n0 ≤ h2.size := Nat.le_trans Z1 K2.1
  have Kp2 : Keep h0 h2 [a] := Kp1.trans K2 (allS (Or.inl (List.mem_of_getElem? (i := 0) rfl)) all0)
  refine OGo.iconst K (pc' := 24) (z := 1) own_d13_23 rfl rfl ?_
  exact OGo.ret K own_d13_24 rfl (Or.inl ⟨rfl, by simp, _, rfl⟩) (by decide) (by decide) ⟨_, rfl, rfl, x, L2, Kp2, Nat.le_trans Kp1.1 s2⟩
set_option maxRecDepth 65536 in
set_option maxHeartbeats 40000000 in
theorem own_al_add1 (l : Launch) (Z : State) (a0 : Array Value) (hw : ∀ d ∈ tables_1, d.before a0 Z = true) (a y x : Addr) (vs : List Addr) (h0 : Heap) (n0 : Nat) (Z0 : n0 ≤ h0.size) (L : OAL1 Z n0 h0 a x vs) (hn : vs.length < 10) (I0 : Ins Z h0 y "java/lang/Object" true) :
    OCon l Z n0 (⟨"java/util/ArrayList", "add", "(Ljava/lang/Object;)Z"⟩ : MethodName) jdk_38_method_25_code 2 (some .boolean) [] ({ frames := 1, cells := 0, slots := 0, locals := 15 } : Room) #[(.ref a), (.ref y)] h0 (OV fun w h => w = .int 1 ∧ OAL1 Z n0 h a x (vs ++ [y]) ∧ Keep h0 h [a, x]) := by
  refine OCon.of (Ls := #[.val (.ref a), .val (.ref y)]) (plainFor_of_name own_pn_1) (fun m => own_entry m rfl) ?_
  intro p e s m below meth c K
  obtain ⟨E, F1, ⟨mc, F2⟩, F3, ⟨k, us, Vx, lx, Ox, Hx⟩, ne1, g_a, g_x⟩ := L
  refine OGo.aloadN K (pc' := 1) own_d13_0 rfl rfl rfl ?_
  refine OGo.dup K (pc' := 2) own_d13_1 rfl rfl ?_
  refine OGo.getF K (pc' := 5) (host := "") (Or.inl (hw _ (List.mem_of_getElem? (i := 90) rfl))) (Via.of (hw _ (List.mem_of_getElem? (i := 91) rfl))) F2 own_d13_2 rfl ?_
  refine OGo.iconst K (pc' := 6) (z := 1) own_d13_5 rfl rfl ?_
  refine OGo.iadd K (pc' := 7) own_d13_6 rfl ?_
  refine OGo.putF K (pc' := 10) (host := "") (Or.inl (hw _ (List.mem_of_getElem? (i := 90) rfl))) (Via.of (hw _ (List.mem_of_getElem? (i := 91) rfl))) F2 E (Or.inl (hw _ (List.mem_of_getElem? (i := 22) rfl))) (hw _ (List.mem_of_getElem? (i := 1) rfl)) (ty := .int) (by decide) rfl rfl g_a own_d13_7 rfl ?_
  intro h1 W1
  have Z1 : n0 ≤ h1.size := by rw [W1.size]; exact Z0
  have Fw_modCount_a_1 := F2.same W1
  have F3_1 := F3.other W1 (Or.inr (slot_ne (Or.inl (hw _ (List.mem_of_getElem? (i := 25) rfl))) (Or.inl (hw _ (List.mem_of_getElem? (i := 22) rfl))) (by decide) (t := (.array (.object "java/lang/Object"))) (t' := .int) (by decide) (by decide)))
  have F1_1 := F1.other W1 (Or.inr (slot_ne (Or.inl (hw _ (List.mem_of_getElem? (i := 93) rfl))) (Or.inl (hw _ (List.mem_of_getElem? (i := 22) rfl))) (by decide) (t := .int) (t' := .int) (by decide) (by decide)))
  have Vx_1 := Vx.other W1 (Ne.symm ne1)
  have E_1 := E.wr W1
  have Kp1 : Keep h0 h1 [a, x] := (Keep.refl h0 [a, x]).wr W1 (Or.inl (List.mem_of_getElem? (i := 0) rfl))
  have L' : OAL1 Z n0 h1 a x vs := ⟨E_1, F1_1, ⟨_, Fw_modCount_a_1⟩, F3_1, ⟨k, us, Vx_1, lx, Ox, Hx⟩, ne1, g_a, g_x⟩
  refine OGo.aloadN K (pc' := 11) own_d13_10 rfl rfl rfl ?_
  refine OGo.aloadN K (pc' := 12) own_d13_11 rfl rfl rfl ?_
  refine OGo.aloadN K (pc' := 13) own_d13_12 rfl rfl rfl ?_
  refine OGo.getF K (pc' := 16) (host := "") (Or.inl (hw _ (List.mem_of_getElem? (i := 24) rfl))) Via.refl F3_1 own_d13_13 rfl ?_
  refine OGo.aloadN K (pc' := 17) own_d13_16 rfl rfl rfl ?_
  refine OGo.getF K (pc' := 20) (host := "") (Or.inl (hw _ (List.mem_of_getElem? (i := 92) rfl))) Via.refl F1_1 own_d13_17 rfl ?_
  refine OGo.callPN K (pc' := 23) (y := (⟨"java/util/ArrayList", "add", "(Ljava/lang/Object;[Ljava/lang/Object;I)V"⟩ : MethodName)) (a := a) (W := 0) (cells' := 0) (slots' := 0) (argsL := [(.ref y), (.ref x), (.int (Int32.ofNat vs.length))]) (st := []) E_1 (hw _ (List.mem_of_getElem? (i := 94) rfl)) (hw _ (List.mem_of_getElem? (i := 95) rfl)) (hw _ (List.mem_of_getElem? (i := 97) rfl)) (hw _ (List.mem_of_getElem? (i := 96) rfl)) (hw _ (List.mem_of_getElem? (i := 2) rfl)) (hw _ (List.mem_of_getElem? (i := 98) rfl)) (by decide) (own_al_add3_1 l Z a0 hw a y x vs h1 n0 Z1 L' hn (own_ins_keep I0 Kp1)) own_d13_20 rfl rfl (lenOf own_pd7 rfl) (by show 2 * 0 + _ ≤ _; exact Nat.le_of_eq rfl) (by decide) (by decide) rfl rfl (by decide) (by decide) ?_
  rintro h2 ⟨L2, K2⟩
  have Z2 : n0 ≤ h2.size := Nat.le_trans Z1 K2.1
  have Kp2 : Keep h0 h2 [a, x] := Kp1.trans K2 (allS (Or.inl (List.mem_of_getElem? (i := 0) rfl)) (allS (Or.inl (List.mem_of_getElem? (i := 1) rfl)) all0))
  refine OGo.iconst K (pc' := 24) (z := 1) own_d13_23 rfl rfl ?_
  exact OGo.ret K own_d13_24 rfl (Or.inl ⟨rfl, by simp, _, rfl⟩) (by decide) (by decide) ⟨_, rfl, rfl, L2, Kp2⟩
set_option maxRecDepth 65536 in
set_option maxHeartbeats 40000000 in
theorem own_compress5 (l : Launch) (Z : State) (a0 : Array Value) (hw : ∀ d ∈ tables_1, d.before a0 Z = true) (b t : Addr) (kb kt : ClassId) (cs : List Int32) (d : Value) (us0 : List Value) (h0 : Heap) (n0 : Nat) (Z0 : n0 ≤ h0.size) (Vb : Arv Z h0 b kb .char (Int32.ofNat cs.length) (cs.map Value.int) d) (Vt : Arv Z h0 t kt .byte (Int32.ofNat cs.length) us0 (.int 0)) (lt : us0.length = cs.length) (hn : cs.length < 1000) (hc : ∀ c ∈ cs, ¬ (255 : Int32) < c) (nbt : b ≠ t) (g_t : n0 ≤ t) :
    OCon l Z n0 (⟨"java/lang/StringUTF16", "compress", "([CI[BII)I"⟩ : MethodName) jdk_52_method_21_code 7 (some .int) [] ({ frames := 0, cells := 0, slots := 0, locals := 0 } : Room) #[(.ref b), (.int 0), (.ref t), (.int 0), (.int (Int32.ofNat cs.length))] h0 (OV fun w h => w = .int (Int32.ofNat cs.length) ∧ Keep h0 h [t] ∧ Arv Z h t kt .byte (Int32.ofNat cs.length) (cs.map own_by) (.int 0)) := by
  refine OCon.of (Ls := #[.val (.ref b), .val (.int 0), .val (.ref t), .val (.int 0), .val (.int (Int32.ofNat cs.length)), .unset, .unset]) (plainFor_of_name own_pn_11) (fun m => own_entry m rfl) ?_
  intro p e s m below meth c K
  have loop : ∀ (dd i : Nat) (h : Heap) (us : List Value) (s6 : Slot) (h6 : One s6) (hd : i + dd = cs.length) (Zh : n0 ≤ h.size) (Wb : Arv Z h b kb .char (Int32.ofNat cs.length) (cs.map Value.int) d) (Wt : Arv Z h t kt .byte (Int32.ofNat cs.length) us (.int 0)) (lu : us.length = cs.length) (Kp : Keep h0 h [t]) (p1 : ∀ j (hj : j < cs.length), j < i → us.getD j (.int 0) = own_by cs[j]), OGo p l e ({ frames := 0, cells := 0, slots := 0, locals := 0 } : Room) s m #[(.ref b), (.int 0), (.ref t), (.int 0), (.int (Int32.ofNat cs.length))] below meth c n0 (OV fun w h => w = .int (Int32.ofNat cs.length) ∧ Keep h0 h [t] ∧ Arv Z h t kt .byte (Int32.ofNat cs.length) (cs.map own_by) (.int 0)) h 0 0 3 #[.val (.ref b), .val (.int (Int32.ofNat i)), .val (.ref t), .val (.int (Int32.ofNat i)), .val (.int (Int32.ofNat cs.length)), .val (.int (Int32.ofNat i)), s6] [] := by
    intro dd
    induction dd with
    | zero =>
      intro i h us s6 h6 hd Zh Wb Wt lu Kp p1
      have ei : i = cs.length := by omega
      refine OGo.iload K (pc' := 5) own_d11_3 rfl rfl ?_
      refine OGo.iload K (pc' := 7) own_d11_5 rfl rfl ?_
      refine OGo.icmpGe K (pc' := 10) (pcY := 44) own_d11_7 rfl (by decide) rfl (fun hc7 => ?_) (fun hc7 => absurd hc7 ((by rw [ei]; exact Int32.lt_irrefl) : ¬ (Int32.ofNat i) < (Int32.ofNat cs.length)))
      refine OGo.iload K (pc' := 46) own_d11_44 rfl rfl ?_
      exact OGo.iret K own_d11_46 (by decide) (by decide) ⟨_, rfl, rfl, Kp, own_map_of lu (fun j hj => p1 j hj (by omega)) ▸ Wt⟩
    | succ dd ih =>
      intro i h us s6 h6 hd Zh Wb Wt lu Kp p1
      have hi : i < cs.length := by omega
      obtain ⟨-, j1, j3⟩ := own_s32 (n := i) (by omega)
      have j2 := (own_slt (n := i) (N := cs.length) (by omega) hn).mpr hi
      refine OGo.iload K (pc' := 5) own_d11_3 rfl rfl ?_
      refine OGo.iload K (pc' := 7) own_d11_5 rfl rfl ?_
      refine OGo.icmpGe K (pc' := 10) (pcY := 44) own_d11_7 rfl (by decide) rfl (fun hc7 => absurd (j2 : (Int32.ofNat i) < (Int32.ofNat cs.length)) hc7) (fun hc7 => ?_)
      refine OGo.aloadN K (pc' := 11) own_d11_10 rfl rfl rfl ?_
      refine OGo.iloadN K (pc' := 12) own_d11_11 rfl rfl ?_
      refine OGo.caload K (pc' := 13) (v := (.int cs[i])) Wb ⟨j1, j2⟩ (by rw [j3]; exact own_getD_map hi) own_d11_12 rfl ?_
      refine OGo.istore K (pc' := 15) (Ls' := #[.val (.ref b), .val (.int (Int32.ofNat i)), .val (.ref t), .val (.int (Int32.ofNat i)), .val (.int (Int32.ofNat cs.length)), .val (.int (Int32.ofNat i)), .val (.int cs[i])]) own_d11_13 rfl ((XS.store1 rfl h6 rfl).trans rfl) ?_
      refine OGo.iload K (pc' := 17) own_d11_15 rfl rfl ?_
      refine OGo.sipush K (pc' := 20) (z := 255) own_d11_17 rfl rfl ?_
      refine OGo.icmpLe K (pc' := 23) (pcY := 26) own_d11_20 rfl (by decide) rfl (fun hc20 => ?_) (fun hc20 => absurd hc20 (hc _ (List.getElem_mem hi) : ¬ (255 : Int32) < cs[i]))
      refine OGo.aloadN K (pc' := 27) own_d11_26 rfl rfl rfl ?_
      refine OGo.iloadN K (pc' := 28) own_d11_27 rfl rfl ?_
      refine OGo.iload K (pc' := 30) own_d11_28 rfl rfl ?_
      refine OGo.i2b K (pc' := 31) own_d11_30 rfl ?_
      refine OGo.bastore K (pc' := 32) (i := i) Wt ⟨j1, j2⟩ j3 (by rw [lu]; exact hi) g_t own_d11_31 rfl ?_
      intro h1 W1 Wt_1
      have Z1 : n0 ≤ h1.size := by rw [W1.size]; exact Zh
      have Wb_1 := Wb.other W1 nbt
      have Kp1 : Keep h0 h1 [t] := Kp.wr W1 (Or.inl (List.mem_of_getElem? (i := 0) rfl))
      refine OGo.iinc K (pc' := 35) (z := 1) (Ls' := #[.val (.ref b), .val (.int ((Int32.ofNat i) + (1 : Int32))), .val (.ref t), .val (.int (Int32.ofNat i)), .val (.int (Int32.ofNat cs.length)), .val (.int (Int32.ofNat i)), .val (.int cs[i])]) own_d11_32 rfl rfl rfl rfl ?_
      refine OGo.iinc K (pc' := 38) (z := 1) (Ls' := #[.val (.ref b), .val (.int ((Int32.ofNat i) + (1 : Int32))), .val (.ref t), .val (.int ((Int32.ofNat i) + (1 : Int32))), .val (.int (Int32.ofNat cs.length)), .val (.int (Int32.ofNat i)), .val (.int cs[i])]) own_d11_35 rfl rfl rfl rfl ?_
      refine OGo.iinc K (pc' := 41) (z := 1) (Ls' := #[.val (.ref b), .val (.int ((Int32.ofNat i) + (1 : Int32))), .val (.ref t), .val (.int ((Int32.ofNat i) + (1 : Int32))), .val (.int (Int32.ofNat cs.length)), .val (.int ((Int32.ofNat i) + (1 : Int32))), .val (.int cs[i])]) own_d11_38 rfl rfl rfl rfl ?_
      refine OGo.goto K (pc' := 3) own_d11_41 (by decide) rfl ?_
      rw [← inc_ofNat]
      exact ih (i + 1) h1 _ _ (One.val rfl) (by omega) Z1 Wb_1 Wt_1 (by rw [List.length_set]; exact lu) Kp1 (fun j hj hj' => if q : j = i then (by subst q; rw [own_sset_eq (by omega), own_narb]) else (by rw [own_sset_ne (by omega)]; exact p1 j hj (by omega)))
  refine OGo.iconst K (pc' := 1) (z := 0) own_d11_0 rfl rfl ?_
  refine OGo.istore K (pc' := 3) (Ls' := #[.val (.ref b), .val (.int (0 : Int32)), .val (.ref t), .val (.int (0 : Int32)), .val (.int (Int32.ofNat cs.length)), .val (.int (0 : Int32)), .unset]) own_d11_1 rfl rfl ?_
  exact loop cs.length 0 h0 us0 _ One.u (by omega) Z0 Vb Vt lt (Keep.refl _ _) (fun j hj q => absurd q (Nat.not_lt_zero j))
set_option maxRecDepth 65536 in
set_option maxHeartbeats 40000000 in
theorem own_compress3 (l : Launch) (Z : State) (a0 : Array Value) (hw : ∀ d ∈ tables_1, d.before a0 Z = true) (b : Addr) (kb : ClassId) (cs : List Int32) (d : Value) (h0 : Heap) (n0 : Nat) (Z0 : n0 ≤ h0.size) (Vb : Arv Z h0 b kb .char (Int32.ofNat cs.length) (cs.map Value.int) d) (hn : cs.length ≤ 4) (hc : ∀ c ∈ cs, ¬ (255 : Int32) < c) :
    OCon l Z n0 (⟨"java/lang/StringUTF16", "compress", "([CII)[B"⟩ : MethodName) jdk_52_method_16_code 6 (some (.array .byte)) [] ({ frames := 1, cells := 1, slots := 4, locals := 18 } : Room) #[(.ref b), (.int 0), (.int (Int32.ofNat cs.length))] h0 (OV fun w h => ∃ t k, w = .ref t ∧ Keep h0 h [] ∧ Arv Z h t k .byte (Int32.ofNat cs.length) (cs.map own_by) (.int 0) ∧ h0.size ≤ t ∧ n0 ≤ t) := by
  refine OCon.of (Ls := #[.val (.ref b), .val (.int 0), .val (.int (Int32.ofNat cs.length)), .unset, .unset, .unset]) (plainFor_of_name own_pn_11) (fun m => own_entry m rfl) ?_
  intro p e s m below meth c K
  obtain ⟨-, t2, t3⟩ := own_s32 (n := cs.length) (by omega)
  refine OGo.iloadN K (pc' := 1) own_d10_0 rfl rfl ?_
  refine OGo.newP K (pc' := 3) (cap := 4) (cells' := 1) (slots' := 4) (hw _ (List.mem_of_getElem? (i := 70) rfl)) own_d10_1 rfl t2 (by rw [t3]; exact hn) (by decide) rfl rfl (by decide) (by decide) ?_
  intro h1 t k_t gq1 E1 V_t
  have ne_b_t : b ≠ t := Nat.ne_of_lt (Nat.lt_of_lt_of_le Vb.lt (Nat.le_of_eq gq1.symm))
  have g_t : n0 ≤ t := Nat.le_trans Z0 (Nat.le_of_eq gq1.symm)
  have sz_t : h0.size ≤ t := Nat.le_trans (Keep.refl h0 []).1 (Nat.le_of_eq gq1.symm)
  have Z1 : n0 ≤ h1.size := Nat.le_trans Z0 E1.1
  have Kp1 : Keep h0 h1 [] := (Keep.refl h0 []).ext E1
  have Vb_1 := Vb.ext E1
  replace V_t := V_t.pad (pad_rep [] _ cs.length)
  refine OGo.astoreN K (pc' := 4) (Ls' := #[.val (.ref b), .val (.int (0 : Int32)), .val (.int (Int32.ofNat cs.length)), .val (.ref t), .unset, .unset]) own_d10_3 rfl rfl rfl ?_
  refine OGo.aloadN K (pc' := 5) own_d10_4 rfl rfl rfl ?_
  refine OGo.iloadN K (pc' := 6) own_d10_5 rfl rfl ?_
  refine OGo.aloadN K (pc' := 7) own_d10_6 rfl rfl rfl ?_
  refine OGo.iconst K (pc' := 8) (z := 0) own_d10_7 rfl rfl ?_
  refine OGo.iloadN K (pc' := 9) own_d10_8 rfl rfl ?_
  refine OGo.callSV K (pc' := 12) (y := (⟨"java/lang/StringUTF16", "compress", "([CI[BII)I"⟩ : MethodName)) (W := 0) (cells' := 1) (slots' := 4) (argsL := [(.ref b), (.int (0 : Int32)), (.ref t), (.int (0 : Int32)), (.int (Int32.ofNat cs.length))]) (st := []) (hw _ (List.mem_of_getElem? (i := 71) rfl)) (hw _ (List.mem_of_getElem? (i := 72) rfl)) (hw _ (List.mem_of_getElem? (i := 68) rfl)) (hw _ (List.mem_of_getElem? (i := 73) rfl)) (by decide) (own_compress5 l Z a0 hw b t _ _ cs _ _ h1 n0 Z1 Vb_1 V_t (by simp) (by omega) hc ne_b_t g_t) own_d10_9 rfl rfl (lenOf own_pd9 rfl) (by show 2 * 0 + _ ≤ _; exact Nat.le_of_eq rfl) (by decide) (by decide) rfl rfl (by decide) (by decide) ?_
  rintro _ h2 ⟨rfl, K2, Vt2⟩
  have Z2 : n0 ≤ h2.size := Nat.le_trans Z1 K2.1
  have Vb_2 := Vb_1.keep K2 (ninS ne_b_t nin0)
  have Kp2 : Keep h0 h2 [] := Kp1.trans K2 (allS (Or.inr sz_t) all0)
  show OGo p l e _ s m _ below meth c n0 _ h2 1 4 12 #[.val (.ref b), .val (.int (0 : Int32)), .val (.int (Int32.ofNat cs.length)), .val (.ref t), .unset, .unset] [(.int (Int32.ofNat cs.length))]
  refine OGo.istore K (pc' := 14) (Ls' := #[.val (.ref b), .val (.int (0 : Int32)), .val (.int (Int32.ofNat cs.length)), .val (.ref t), .val (.int (Int32.ofNat cs.length)), .unset]) own_d10_12 rfl rfl ?_
  refine OGo.iload K (pc' := 16) own_d10_14 rfl rfl ?_
  refine OGo.iloadN K (pc' := 17) own_d10_16 rfl rfl ?_
  refine OGo.icmpEq K (pc' := 20) (pcY := 57) own_d10_17 rfl (by decide) rfl (fun hc17 => ?_) (fun hc17 => absurd (rfl : (Int32.ofNat cs.length) = (Int32.ofNat cs.length)) hc17)
  refine OGo.aloadN K (pc' := 58) own_d10_57 rfl rfl rfl ?_
  exact OGo.aret K own_d10_58 rfl rfl (by decide) (by decide) ⟨_, rfl, t, _, rfl, Kp2, Vt2, sz_t, g_t⟩
set_option maxRecDepth 65536 in
set_option maxHeartbeats 40000000 in
theorem own_coderLen (l : Launch) (Z : State) (a0 : Array Value) (hw : ∀ d ∈ tables_1, d.before a0 Z = true) (t : Addr) (kt : ClassId) (z : Int32) (vs : List Value) (d : Value) (h0 : Heap) (n0 : Nat) (Z0 : n0 ≤ h0.size) (Vt : Arv Z h0 t kt .byte z vs d) :
    OCon l Z n0 (⟨"java/lang/StringUTF16", "coderFromArrayLen", "([BI)B"⟩ : MethodName) jdk_52_method_15_code 2 (some .byte) [] ({ frames := 0, cells := 0, slots := 0, locals := 0 } : Room) #[(.ref t), (.int z)] h0 (OV fun w h => w = .int 0 ∧ h = h0) := by
  refine OCon.of (Ls := #[.val (.ref t), .val (.int z)]) (plainFor_of_name own_pn_11) (fun m => own_entry m rfl) ?_
  intro p e s m below meth c K
  refine OGo.iloadN K (pc' := 1) own_d12_0 rfl rfl ?_
  refine OGo.aloadN K (pc' := 2) own_d12_1 rfl rfl rfl ?_
  refine OGo.alen K (pc' := 3) Vt own_d12_2 rfl ?_
  refine OGo.isub K (pc' := 4) own_d12_3 rfl ?_
  rw [show (z - z) = (0 : Int32) from Int32.sub_self _]
  refine OGo.bipush K (pc' := 6) (z := 31) own_d12_4 rfl rfl ?_
  refine OGo.iushr K (pc' := 7) own_d12_6 rfl ?_
  refine OGo.i2b K (pc' := 8) own_d12_7 rfl ?_
  exact OGo.nret K (by simp) own_d12_8 (by decide) (by decide) ⟨_, rfl, by decide, rfl⟩
set_option maxRecDepth 65536 in
set_option maxHeartbeats 40000000 in
theorem own_strC4 (l : Launch) (Z : State) (a0 : Array Value) (hw : ∀ d ∈ tables_1, d.before a0 Z = true) (s' b : Addr) (kb : ClassId) (cs : List Int32) (d u1 u2 : Value) (cz : Int32) (h0 : Heap) (n0 : Nat) (Z0 : n0 ≤ h0.size) (E : Exa Z h0 s' "java/lang/String") (F1 : Fld Z h0 s' "java/lang/String" "value" "[B" u1) (F2 : Fld Z h0 s' "java/lang/String" "coder" "B" u2) (Vb : Arv Z h0 b kb .char (Int32.ofNat cs.length) (cs.map Value.int) d) (h1 : 1 ≤ cs.length) (hn : cs.length ≤ 4) (hc : ∀ c ∈ cs, ¬ (255 : Int32) < c) (Sc : Sta Z h0 "java/lang/String" "COMPACT_STRINGS" "Z" (.int cz)) (hcz : ¬ cz = 0) (g_s' : n0 ≤ s') :
    OCon l Z n0 (⟨"java/lang/String", "<init>", "([CIILjava/lang/Void;)V"⟩ : MethodName) jdk_42_method_149_code 6 none [] ({ frames := 2, cells := 1, slots := 4, locals := 35 } : Room) #[(.ref s'), (.ref b), (.int 0), (.int (Int32.ofNat cs.length)), .null] h0 (ON fun h => ∃ t, OStr Z n0 h s' t cs ∧ Keep h0 h [s'] ∧ h0.size ≤ t) := by
  refine OCon.of (Ls := #[.val (.ref s'), .val (.ref b), .val (.int 0), .val (.int (Int32.ofNat cs.length)), .val .null, .unset]) (plainFor_of_name own_pn_9) (fun m => own_entry m rfl) ?_
  intro p e s m below meth c K
  have hne : ¬ Int32.ofNat cs.length = 0 := fun q => by have := congrArg Int32.toInt q; rw [(own_s32 (by omega)).1, show (0 : Int32).toInt = 0 from rfl] at this; omega
  refine OGo.aloadN K (pc' := 1) own_d9_0 rfl rfl rfl ?_
  refine OGo.initO K (pc' := 4) (W := 0) (hw _ (List.mem_of_getElem? (i := 64) rfl)) (hw _ (List.mem_of_getElem? (i := 19) rfl)) (hw _ (List.mem_of_getElem? (i := 20) rfl)) own_d9_1 rfl rfl (by show 2 * 0 + _ ≤ _; exact Nat.le_of_eq rfl) (by decide) (by decide) ?_
  refine OGo.iloadN K (pc' := 5) own_d9_4 rfl rfl ?_
  refine OGo.ifNe K (pc' := 8) (pcY := 27) own_d9_5 rfl (by decide) rfl (fun hc5 => ?_) (fun hc5 => absurd hc5 (hne : ¬ (Int32.ofNat cs.length) = (0 : Int32)))
  refine OGo.getS K (pc' := 30) (host := "") (Or.inl (hw _ (List.mem_of_getElem? (i := 65) rfl))) Via.refl Sc own_d9_27 rfl ?_
  refine OGo.ifEq K (pc' := 33) (pcY := 58) own_d9_30 rfl (by decide) rfl (fun hc30 => absurd hc30 (hcz : ¬ cz = (0 : Int32))) (fun hc30 => ?_)
  refine OGo.aloadN K (pc' := 34) own_d9_33 rfl rfl rfl ?_
  refine OGo.iloadN K (pc' := 35) own_d9_34 rfl rfl ?_
  refine OGo.iloadN K (pc' := 36) own_d9_35 rfl rfl ?_
  refine OGo.callSV K (pc' := 39) (y := (⟨"java/lang/StringUTF16", "compress", "([CII)[B"⟩ : MethodName)) (W := 0) (cells' := 1) (slots' := 4) (argsL := [(.ref b), (.int (0 : Int32)), (.int (Int32.ofNat cs.length))]) (st := []) (hw _ (List.mem_of_getElem? (i := 66) rfl)) (hw _ (List.mem_of_getElem? (i := 67) rfl)) (hw _ (List.mem_of_getElem? (i := 68) rfl)) (hw _ (List.mem_of_getElem? (i := 69) rfl)) (by decide) (own_compress3 l Z a0 hw b _ cs _ h0 n0 Z0 Vb hn hc) own_d9_36 rfl rfl (lenOf own_pd10 rfl) (by show 2 * 0 + _ ≤ _; exact Nat.le_of_eq rfl) (by decide) (by decide) rfl rfl (by decide) (by decide) ?_
  rintro _ h1 ⟨t, kt, rfl, K1, Vt, s1, g_t⟩
  have Z1 : n0 ≤ h1.size := Nat.le_trans Z0 K1.1
  have ne_s'_t : s' ≠ t := Nat.ne_of_lt (Nat.lt_of_lt_of_le E.lt s1)
  have E_1 := E.keep K1
  have F1_1 := F1.keep K1 nin0
  have F2_1 := F2.keep K1 nin0
  have Kp1 : Keep h0 h1 [s'] := (Keep.refl h0 [s']).trans K1 all0
  show OGo p l e _ s m _ below meth c n0 _ h1 1 4 39 #[.val (.ref s'), .val (.ref b), .val (.int (0 : Int32)), .val (.int (Int32.ofNat cs.length)), .val .null, .unset] [(.ref t)]
  have sz_t := s1
  refine OGo.astore K (pc' := 41) (Ls' := #[.val (.ref s'), .val (.ref b), .val (.int (0 : Int32)), .val (.int (Int32.ofNat cs.length)), .val .null, .val (.ref t)]) own_d9_39 rfl rfl rfl ?_
  refine OGo.aloadN K (pc' := 42) own_d9_41 rfl rfl rfl ?_
  refine OGo.aload K (pc' := 44) own_d9_42 rfl rfl rfl ?_
  refine OGo.iloadN K (pc' := 45) own_d9_44 rfl rfl ?_
  refine OGo.callSV K (pc' := 48) (y := (⟨"java/lang/StringUTF16", "coderFromArrayLen", "([BI)B"⟩ : MethodName)) (W := 1) (cells' := 1) (slots' := 4) (argsL := [(.ref t), (.int (Int32.ofNat cs.length))]) (st := [(.ref s')]) (hw _ (List.mem_of_getElem? (i := 74) rfl)) (hw _ (List.mem_of_getElem? (i := 75) rfl)) (hw _ (List.mem_of_getElem? (i := 68) rfl)) (hw _ (List.mem_of_getElem? (i := 76) rfl)) (by decide) (own_coderLen l Z a0 hw t _ _ _ _ h1 n0 Z1 Vt) own_d9_45 rfl rfl (lenOf own_pd11 rfl) (by show 2 * 0 + _ ≤ _; exact Nat.le_of_eq rfl) (by decide) (by decide) rfl rfl (by decide) (by decide) ?_
  rintro _ h2 ⟨rfl, e2⟩
  rw [e2]
  show OGo p l e _ s m _ below meth c n0 _ h1 1 4 48 #[.val (.ref s'), .val (.ref b), .val (.int (0 : Int32)), .val (.int (Int32.ofNat cs.length)), .val .null, .val (.ref t)] [(.int (0 : Int32)), (.ref s')]
  refine OGo.putFN K (pc' := 51) (hw _ (List.mem_of_getElem? (i := 77) rfl)) Via.refl F2_1 E_1 (Or.inr ⟨(hw _ (List.mem_of_getElem? (i := 78) rfl)), rfl, rfl⟩) (hw _ (List.mem_of_getElem? (i := 55) rfl)) (ty := .byte) (v' := (.int (0 : Int32))) (by decide) rfl rfl g_s' own_d9_48 rfl ?_
  intro h3 W3
  have Z3 : n0 ≤ h3.size := by rw [W3.size]; exact Z1
  have Fw_coder_s'_3 := F2_1.same W3
  have E_3 := E_1.wr W3
  have F1_3 := F1_1.other W3 (Or.inr (slot_ne (Or.inr (hw _ (List.mem_of_getElem? (i := 80) rfl))) (Or.inr (hw _ (List.mem_of_getElem? (i := 78) rfl))) (by decide) (t := (.array .byte)) (t' := .byte) (by decide) (by decide)))
  have Vt_3 := Vt.other W3 (Ne.symm ne_s'_t)
  have Kp3 : Keep h0 h3 [s'] := Kp1.wr W3 (Or.inl (List.mem_of_getElem? (i := 0) rfl))
  refine OGo.aloadN K (pc' := 52) own_d9_51 rfl rfl rfl ?_
  refine OGo.aload K (pc' := 54) own_d9_52 rfl rfl rfl ?_
  refine OGo.putF K (pc' := 57) (host := "") (Or.inl (hw _ (List.mem_of_getElem? (i := 79) rfl))) Via.refl F1_3 E_3 (Or.inr ⟨(hw _ (List.mem_of_getElem? (i := 80) rfl)), rfl, rfl⟩) (hw _ (List.mem_of_getElem? (i := 55) rfl)) (ty := (.array .byte)) (by decide) rfl rfl g_s' own_d9_54 rfl ?_
  intro h4 W4
  have Z4 : n0 ≤ h4.size := by rw [W4.size]; exact Z3
  have Fw_value_s'_4 := F1_3.same W4
  have E_4 := E_3.wr W4
  have Fw_coder_s'_4 := Fw_coder_s'_3.other W4 (Or.inr (slot_ne (Or.inr (hw _ (List.mem_of_getElem? (i := 78) rfl))) (Or.inr (hw _ (List.mem_of_getElem? (i := 80) rfl))) (by decide) (t := .byte) (t' := (.array .byte)) (by decide) (by decide)))
  have Vt_4 := Vt_3.other W4 (Ne.symm ne_s'_t)
  have Kp4 : Keep h0 h4 [s'] := Kp3.wr W4 (Or.inl (List.mem_of_getElem? (i := 0) rfl))
  exact OGo.vret K own_d9_57 (by decide) (by decide) ⟨rfl, t, ⟨E_4, Fw_value_s'_4, Fw_coder_s'_4, ⟨_, Vt_4⟩, ne_s'_t, g_s', g_t⟩, Kp4, sz_t⟩
set_option maxRecDepth 65536 in
set_option maxHeartbeats 40000000 in
theorem own_strC (l : Launch) (Z : State) (a0 : Array Value) (hw : ∀ d ∈ tables_1, d.before a0 Z = true) (s' b : Addr) (kb : ClassId) (cs : List Int32) (d u1 u2 : Value) (cz : Int32) (h0 : Heap) (n0 : Nat) (Z0 : n0 ≤ h0.size) (E : Exa Z h0 s' "java/lang/String") (F1 : Fld Z h0 s' "java/lang/String" "value" "[B" u1) (F2 : Fld Z h0 s' "java/lang/String" "coder" "B" u2) (Vb : Arv Z h0 b kb .char (Int32.ofNat cs.length) (cs.map Value.int) d) (h1 : 1 ≤ cs.length) (hn : cs.length ≤ 4) (hc : ∀ c ∈ cs, ¬ (255 : Int32) < c) (Sc : Sta Z h0 "java/lang/String" "COMPACT_STRINGS" "Z" (.int cz)) (hcz : ¬ cz = 0) (g_s' : n0 ≤ s') :
    OCon l Z n0 (⟨"java/lang/String", "<init>", "([C)V"⟩ : MethodName) jdk_42_method_3_code 2 none [] ({ frames := 3, cells := 1, slots := 4, locals := 52 } : Room) #[(.ref s'), (.ref b)] h0 (ON fun h => ∃ t, OStr Z n0 h s' t cs ∧ Keep h0 h [s'] ∧ h0.size ≤ t) := by
  refine OCon.of (Ls := #[.val (.ref s'), .val (.ref b)]) (plainFor_of_name own_pn_9) (fun m => own_entry m rfl) ?_
  intro p e s m below meth c K
  refine OGo.aloadN K (pc' := 1) own_d8_0 rfl rfl rfl ?_
  refine OGo.aloadN K (pc' := 2) own_d8_1 rfl rfl rfl ?_
  refine OGo.iconst K (pc' := 3) (z := 0) own_d8_2 rfl rfl ?_
  refine OGo.aloadN K (pc' := 4) own_d8_3 rfl rfl rfl ?_
  refine OGo.alen K (pc' := 5) Vb own_d8_4 rfl ?_
  refine OGo.aconstNull K (pc' := 6) own_d8_5 rfl ?_
  refine OGo.callIN K (pc' := 9) (y := (⟨"java/lang/String", "<init>", "([CIILjava/lang/Void;)V"⟩ : MethodName)) (a := s') (W := 0) (cells' := 1) (slots' := 4) (argsL := [(.ref b), (.int (0 : Int32)), (.int (Int32.ofNat cs.length)), .null]) (st := []) rfl (hw _ (List.mem_of_getElem? (i := 60) rfl)) (hw _ (List.mem_of_getElem? (i := 61) rfl)) (hw _ (List.mem_of_getElem? (i := 56) rfl)) (hw _ (List.mem_of_getElem? (i := 63) rfl)) (by decide) (own_strC4 l Z a0 hw s' b _ cs _ _ _ cz h0 n0 Z0 E F1 F2 Vb h1 hn hc Sc hcz g_s') own_d8_6 rfl rfl (lenOf own_pd13 rfl) (by show 2 * 0 + _ ≤ _; exact Nat.le_of_eq rfl) (by decide) (by decide) rfl rfl (by decide) (by decide) ?_
  rintro h1 ⟨t, O1, K1, s1⟩
  have Z1 : n0 ≤ h1.size := Nat.le_trans Z0 K1.1
  exact OGo.vret K own_d8_9 (by decide) (by decide) ⟨rfl, t, O1, K1, s1⟩
set_option maxRecDepth 65536 in
set_option maxHeartbeats 40000000 in
theorem own_rm6 (l : Launch) (Z : State) (a0 : Array Value) (hw : ∀ d ∈ tables_1, d.before a0 Z = true) (a : Addr) (h0 : Heap) (n0 : Nat) (Z0 : n0 ≤ h0.size)  :
    OCon l Z n0 (⟨"java/lang/Record", "<init>", "()V"⟩ : MethodName) jdk_30_method_1_code 1 none [] ({ frames := 1, cells := 0, slots := 0, locals := 12 } : Room) #[(.ref a)] h0 (ON fun h => h = h0) := by
  refine OCon.of (Ls := #[.val (.ref a)]) (plainFor_of_name own_pn_6) (fun m => own_entry m rfl) ?_
  intro p e s m below meth c K
  refine OGo.aloadN K (pc' := 1) own_d6_0 rfl rfl rfl ?_
  refine OGo.initO K (pc' := 4) (W := 0) (hw _ (List.mem_of_getElem? (i := 37) rfl)) (hw _ (List.mem_of_getElem? (i := 19) rfl)) (hw _ (List.mem_of_getElem? (i := 20) rfl)) own_d6_1 rfl rfl (by show 2 * 0 + _ ≤ _; exact Nat.le_of_eq rfl) (by decide) (by decide) ?_
  exact OGo.vret K own_d6_4 (by decide) (by decide) ⟨rfl, rfl⟩
set_option maxRecDepth 65536 in
set_option maxHeartbeats 40000000 in
theorem own_rm5 (l : Launch) (Z : State) (a0 : Array Value) (hw : ∀ d ∈ tables_1, d.before a0 Z = true) (a q : Addr) (x1 x2 x3 x4 : Int64) (u0 u1 u2 u3 u4 : Value) (h0 : Heap) (n0 : Nat) (Z0 : n0 ≤ h0.size) (E : Exa Z h0 a "com/example/intervale/intervale/bench/Verifier$Verification") (F0 : Fld Z h0 a "com/example/intervale/intervale/bench/Verifier$Verification" "acknowledged" "J" u0) (F1 : Fld Z h0 a "com/example/intervale/intervale/bench/Verifier$Verification" "lost" "J" u1) (F2 : Fld Z h0 a "com/example/intervale/intervale/bench/Verifier$Verification" "tornGroups" "J" u2) (F3 : Fld Z h0 a "com/example/intervale/intervale/bench/Verifier$Verification" "skipped" "J" u3) (F4 : Fld Z h0 a "com/example/intervale/intervale/bench/Verifier$Verification" "described" "Ljava/util/List;" u4) (g_a : n0 ≤ a) :
    OCon l Z n0 (⟨"com/example/intervale/intervale/bench/Verifier$Verification", "<init>", "(JJJJLjava/util/List;)V"⟩ : MethodName) prog_32_method_1_code 10 none [] ({ frames := 2, cells := 0, slots := 0, locals := 24 } : Room) #[(.ref a), (.long x1), (.long x2), (.long x3), (.long x4), (.ref q)] h0 (ON fun h => Keep h0 h [a] ∧ Fld Z h a "com/example/intervale/intervale/bench/Verifier$Verification" "lost" "J" (.long x2) ∧ Fld Z h a "com/example/intervale/intervale/bench/Verifier$Verification" "tornGroups" "J" (.long x3)) := by
  refine OCon.of (Ls := #[.val (.ref a), .val (.long x1), .second, .val (.long x2), .second, .val (.long x3), .second, .val (.long x4), .second, .val (.ref q)]) (plainFor_of_name own_pn_5) (fun m => own_entry m rfl) ?_
  intro p e s m below meth c K
  refine OGo.aloadN K (pc' := 1) own_d5_0 rfl rfl rfl ?_
  refine OGo.callIN K (pc' := 4) (y := (⟨"java/lang/Record", "<init>", "()V"⟩ : MethodName)) (a := a) (W := 0) (cells' := 0) (slots' := 0) (argsL := []) (st := []) rfl (hw _ (List.mem_of_getElem? (i := 32) rfl)) (hw _ (List.mem_of_getElem? (i := 33) rfl)) (hw _ (List.mem_of_getElem? (i := 35) rfl)) (hw _ (List.mem_of_getElem? (i := 36) rfl)) (by decide) (own_rm6 l Z a0 hw a h0 n0 Z0) own_d5_1 rfl rfl (lenOf own_pd1 rfl) (by show 2 * 0 + _ ≤ _; exact Nat.le_of_eq rfl) (by decide) (by decide) rfl rfl (by decide) (by decide) ?_
  rintro h1 e1
  rw [e1]
  refine OGo.aloadN K (pc' := 5) own_d5_4 rfl rfl rfl ?_
  refine OGo.lloadN K (pc' := 6) own_d5_5 rfl rfl ?_
  refine OGo.putF K (pc' := 9) (host := "") (Or.inl (hw _ (List.mem_of_getElem? (i := 38) rfl))) Via.refl F0 E (Or.inr ⟨(hw _ (List.mem_of_getElem? (i := 39) rfl)), rfl, rfl⟩) (hw _ (List.mem_of_getElem? (i := 27) rfl)) (ty := .long) (by decide) rfl rfl g_a own_d5_6 rfl ?_
  intro h2 W2
  have Z2 : n0 ≤ h2.size := by rw [W2.size]; exact Z0
  have Fw_acknowledged_a_2 := F0.same W2
  have E_2 := E.wr W2
  have F1_2 := F1.other W2 (Or.inr (slot_ne (Or.inr (hw _ (List.mem_of_getElem? (i := 41) rfl))) (Or.inr (hw _ (List.mem_of_getElem? (i := 39) rfl))) (by decide) (t := .long) (t' := .long) (by decide) (by decide)))
  have F2_2 := F2.other W2 (Or.inr (slot_ne (Or.inr (hw _ (List.mem_of_getElem? (i := 43) rfl))) (Or.inr (hw _ (List.mem_of_getElem? (i := 39) rfl))) (by decide) (t := .long) (t' := .long) (by decide) (by decide)))
  have F3_2 := F3.other W2 (Or.inr (slot_ne (Or.inr (hw _ (List.mem_of_getElem? (i := 45) rfl))) (Or.inr (hw _ (List.mem_of_getElem? (i := 39) rfl))) (by decide) (t := .long) (t' := .long) (by decide) (by decide)))
  have F4_2 := F4.other W2 (Or.inr (slot_ne (Or.inr (hw _ (List.mem_of_getElem? (i := 47) rfl))) (Or.inr (hw _ (List.mem_of_getElem? (i := 39) rfl))) (by decide) (t := (.object "java/util/List")) (t' := .long) (by decide) (by decide)))
  have Kp2 : Keep h0 h2 [a] := (Keep.refl h0 [a]).wr W2 (Or.inl (List.mem_of_getElem? (i := 0) rfl))
  refine OGo.aloadN K (pc' := 10) own_d5_9 rfl rfl rfl ?_
  refine OGo.lloadN K (pc' := 11) own_d5_10 rfl rfl ?_
  refine OGo.putF K (pc' := 14) (host := "") (Or.inl (hw _ (List.mem_of_getElem? (i := 40) rfl))) Via.refl F1_2 E_2 (Or.inr ⟨(hw _ (List.mem_of_getElem? (i := 41) rfl)), rfl, rfl⟩) (hw _ (List.mem_of_getElem? (i := 27) rfl)) (ty := .long) (by decide) rfl rfl g_a own_d5_11 rfl ?_
  intro h3 W3
  have Z3 : n0 ≤ h3.size := by rw [W3.size]; exact Z2
  have Fw_lost_a_3 := F1_2.same W3
  have E_3 := E_2.wr W3
  have Fw_acknowledged_a_3 := Fw_acknowledged_a_2.other W3 (Or.inr (slot_ne (Or.inr (hw _ (List.mem_of_getElem? (i := 39) rfl))) (Or.inr (hw _ (List.mem_of_getElem? (i := 41) rfl))) (by decide) (t := .long) (t' := .long) (by decide) (by decide)))
  have F2_3 := F2_2.other W3 (Or.inr (slot_ne (Or.inr (hw _ (List.mem_of_getElem? (i := 43) rfl))) (Or.inr (hw _ (List.mem_of_getElem? (i := 41) rfl))) (by decide) (t := .long) (t' := .long) (by decide) (by decide)))
  have F3_3 := F3_2.other W3 (Or.inr (slot_ne (Or.inr (hw _ (List.mem_of_getElem? (i := 45) rfl))) (Or.inr (hw _ (List.mem_of_getElem? (i := 41) rfl))) (by decide) (t := .long) (t' := .long) (by decide) (by decide)))
  have F4_3 := F4_2.other W3 (Or.inr (slot_ne (Or.inr (hw _ (List.mem_of_getElem? (i := 47) rfl))) (Or.inr (hw _ (List.mem_of_getElem? (i := 41) rfl))) (by decide) (t := (.object "java/util/List")) (t' := .long) (by decide) (by decide)))
  have Kp3 : Keep h0 h3 [a] := Kp2.wr W3 (Or.inl (List.mem_of_getElem? (i := 0) rfl))
  refine OGo.aloadN K (pc' := 15) own_d5_14 rfl rfl rfl ?_
  refine OGo.lload K (pc' := 17) own_d5_15 rfl rfl ?_
  refine OGo.putF K (pc' := 20) (host := "") (Or.inl (hw _ (List.mem_of_getElem? (i := 42) rfl))) Via.refl F2_3 E_3 (Or.inr ⟨(hw _ (List.mem_of_getElem? (i := 43) rfl)), rfl, rfl⟩) (hw _ (List.mem_of_getElem? (i := 27) rfl)) (ty := .long) (by decide) rfl rfl g_a own_d5_17 rfl ?_
  intro h4 W4
  have Z4 : n0 ≤ h4.size := by rw [W4.size]; exact Z3
  have Fw_tornGroups_a_4 := F2_3.same W4
  have E_4 := E_3.wr W4
  have Fw_acknowledged_a_4 := Fw_acknowledged_a_3.other W4 (Or.inr (slot_ne (Or.inr (hw _ (List.mem_of_getElem? (i := 39) rfl))) (Or.inr (hw _ (List.mem_of_getElem? (i := 43) rfl))) (by decide) (t := .long) (t' := .long) (by decide) (by decide)))
  have Fw_lost_a_4 := Fw_lost_a_3.other W4 (Or.inr (slot_ne (Or.inr (hw _ (List.mem_of_getElem? (i := 41) rfl))) (Or.inr (hw _ (List.mem_of_getElem? (i := 43) rfl))) (by decide) (t := .long) (t' := .long) (by decide) (by decide)))
  have F3_4 := F3_3.other W4 (Or.inr (slot_ne (Or.inr (hw _ (List.mem_of_getElem? (i := 45) rfl))) (Or.inr (hw _ (List.mem_of_getElem? (i := 43) rfl))) (by decide) (t := .long) (t' := .long) (by decide) (by decide)))
  have F4_4 := F4_3.other W4 (Or.inr (slot_ne (Or.inr (hw _ (List.mem_of_getElem? (i := 47) rfl))) (Or.inr (hw _ (List.mem_of_getElem? (i := 43) rfl))) (by decide) (t := (.object "java/util/List")) (t' := .long) (by decide) (by decide)))
  have Kp4 : Keep h0 h4 [a] := Kp3.wr W4 (Or.inl (List.mem_of_getElem? (i := 0) rfl))
  refine OGo.aloadN K (pc' := 21) own_d5_20 rfl rfl rfl ?_
  refine OGo.lload K (pc' := 23) own_d5_21 rfl rfl ?_
  refine OGo.putF K (pc' := 26) (host := "") (Or.inl (hw _ (List.mem_of_getElem? (i := 44) rfl))) Via.refl F3_4 E_4 (Or.inr ⟨(hw _ (List.mem_of_getElem? (i := 45) rfl)), rfl, rfl⟩) (hw _ (List.mem_of_getElem? (i := 27) rfl)) (ty := .long) (by decide) rfl rfl g_a own_d5_23 rfl ?_
  intro h5 W5
  have Z5 : n0 ≤ h5.size := by rw [W5.size]; exact Z4
  have Fw_skipped_a_5 := F3_4.same W5
  have E_5 := E_4.wr W5
  have Fw_acknowledged_a_5 := Fw_acknowledged_a_4.other W5 (Or.inr (slot_ne (Or.inr (hw _ (List.mem_of_getElem? (i := 39) rfl))) (Or.inr (hw _ (List.mem_of_getElem? (i := 45) rfl))) (by decide) (t := .long) (t' := .long) (by decide) (by decide)))
  have Fw_lost_a_5 := Fw_lost_a_4.other W5 (Or.inr (slot_ne (Or.inr (hw _ (List.mem_of_getElem? (i := 41) rfl))) (Or.inr (hw _ (List.mem_of_getElem? (i := 45) rfl))) (by decide) (t := .long) (t' := .long) (by decide) (by decide)))
  have Fw_tornGroups_a_5 := Fw_tornGroups_a_4.other W5 (Or.inr (slot_ne (Or.inr (hw _ (List.mem_of_getElem? (i := 43) rfl))) (Or.inr (hw _ (List.mem_of_getElem? (i := 45) rfl))) (by decide) (t := .long) (t' := .long) (by decide) (by decide)))
  have F4_5 := F4_4.other W5 (Or.inr (slot_ne (Or.inr (hw _ (List.mem_of_getElem? (i := 47) rfl))) (Or.inr (hw _ (List.mem_of_getElem? (i := 45) rfl))) (by decide) (t := (.object "java/util/List")) (t' := .long) (by decide) (by decide)))
  have Kp5 : Keep h0 h5 [a] := Kp4.wr W5 (Or.inl (List.mem_of_getElem? (i := 0) rfl))
  refine OGo.aloadN K (pc' := 27) own_d5_26 rfl rfl rfl ?_
  refine OGo.aload K (pc' := 29) own_d5_27 rfl rfl rfl ?_
  refine OGo.putF K (pc' := 32) (host := "") (Or.inl (hw _ (List.mem_of_getElem? (i := 46) rfl))) Via.refl F4_5 E_5 (Or.inr ⟨(hw _ (List.mem_of_getElem? (i := 47) rfl)), rfl, rfl⟩) (hw _ (List.mem_of_getElem? (i := 27) rfl)) (ty := (.object "java/util/List")) (by decide) rfl rfl g_a own_d5_29 rfl ?_
  intro h6 W6
  have Z6 : n0 ≤ h6.size := by rw [W6.size]; exact Z5
  have Fw_described_a_6 := F4_5.same W6
  have E_6 := E_5.wr W6
  have Fw_acknowledged_a_6 := Fw_acknowledged_a_5.other W6 (Or.inr (slot_ne (Or.inr (hw _ (List.mem_of_getElem? (i := 39) rfl))) (Or.inr (hw _ (List.mem_of_getElem? (i := 47) rfl))) (by decide) (t := .long) (t' := (.object "java/util/List")) (by decide) (by decide)))
  have Fw_lost_a_6 := Fw_lost_a_5.other W6 (Or.inr (slot_ne (Or.inr (hw _ (List.mem_of_getElem? (i := 41) rfl))) (Or.inr (hw _ (List.mem_of_getElem? (i := 47) rfl))) (by decide) (t := .long) (t' := (.object "java/util/List")) (by decide) (by decide)))
  have Fw_tornGroups_a_6 := Fw_tornGroups_a_5.other W6 (Or.inr (slot_ne (Or.inr (hw _ (List.mem_of_getElem? (i := 43) rfl))) (Or.inr (hw _ (List.mem_of_getElem? (i := 47) rfl))) (by decide) (t := .long) (t' := (.object "java/util/List")) (by decide) (by decide)))
  have Fw_skipped_a_6 := Fw_skipped_a_5.other W6 (Or.inr (slot_ne (Or.inr (hw _ (List.mem_of_getElem? (i := 45) rfl))) (Or.inr (hw _ (List.mem_of_getElem? (i := 47) rfl))) (by decide) (t := .long) (t' := (.object "java/util/List")) (by decide) (by decide)))
  have Kp6 : Keep h0 h6 [a] := Kp5.wr W6 (Or.inl (List.mem_of_getElem? (i := 0) rfl))
  exact OGo.vret K own_d5_32 (by decide) (by decide) ⟨rfl, Kp6, Fw_lost_a_6, Fw_tornGroups_a_6⟩
set_option maxRecDepth 65536 in
set_option maxHeartbeats 40000000 in
theorem own_rm7 (l : Launch) (Z : State) (a0 : Array Value) (hw : ∀ d ∈ tables_1, d.before a0 Z = true) (a : Addr) (x y : Int64) (h0 : Heap) (n0 : Nat) (Z0 : n0 ≤ h0.size) (F1 : Fld Z h0 a "com/example/intervale/intervale/bench/Verifier$Verification" "lost" "J" (.long x)) (F2 : Fld Z h0 a "com/example/intervale/intervale/bench/Verifier$Verification" "tornGroups" "J" (.long y)) :
    OCon l Z n0 (⟨"com/example/intervale/intervale/bench/Verifier$Verification", "passed", "()Z"⟩ : MethodName) prog_32_method_2_code 1 (some .boolean) [] ({ frames := 0, cells := 0, slots := 0, locals := 0 } : Room) #[(.ref a)] h0 (OV fun w h => w = .int (if x = 0 ∧ y = 0 then 1 else 0) ∧ h = h0) := by
  refine OCon.of (Ls := #[.val (.ref a)]) (plainFor_of_name own_pn_5) (fun m => own_entry m rfl) ?_
  intro p e s m below meth c K
  refine OGo.aloadN K (pc' := 1) own_d7_0 rfl rfl rfl ?_
  refine OGo.getF K (pc' := 4) (host := "") (Or.inl (hw _ (List.mem_of_getElem? (i := 40) rfl))) Via.refl F1 own_d7_1 rfl ?_
  refine OGo.lconst K (pc' := 5) (z := 0) own_d7_4 rfl rfl ?_
  refine OGo.lcmpNe K (pc' := 9) (pcY := 22) own_d7_5 rfl own_d7_6 rfl (by decide) rfl (fun h1 => ?_) (fun h1 => ?_)
  · skip
    refine OGo.iconst K (pc' := 23) (z := 0) own_d7_22 rfl rfl ?_
    exact OGo.ret K own_d7_23 rfl (Or.inl ⟨rfl, by simp, _, rfl⟩) (by decide) (by decide) ⟨_, rfl, by rw [if_neg (fun z => h1 z.1)], rfl⟩
  · skip
    refine OGo.aloadN K (pc' := 10) own_d7_9 rfl rfl rfl ?_
    refine OGo.getF K (pc' := 13) (host := "") (Or.inl (hw _ (List.mem_of_getElem? (i := 42) rfl))) Via.refl F2 own_d7_10 rfl ?_
    refine OGo.lconst K (pc' := 14) (z := 0) own_d7_13 rfl rfl ?_
    refine OGo.lcmpNe K (pc' := 18) (pcY := 22) own_d7_14 rfl own_d7_15 rfl (by decide) rfl (fun h2 => ?_) (fun h2 => ?_)
    · skip
      refine OGo.iconst K (pc' := 23) (z := 0) own_d7_22 rfl rfl ?_
      exact OGo.ret K own_d7_23 rfl (Or.inl ⟨rfl, by simp, _, rfl⟩) (by decide) (by decide) ⟨_, rfl, by rw [if_neg (fun z => h2 z.2)], rfl⟩
    · skip
      refine OGo.iconst K (pc' := 19) (z := 1) own_d7_18 rfl rfl ?_
      refine OGo.goto K (pc' := 23) own_d7_19 (by decide) rfl ?_
      exact OGo.ret K own_d7_23 rfl (Or.inl ⟨rfl, by simp, _, rfl⟩) (by decide) (by decide) ⟨_, rfl, by rw [if_pos ⟨h1, h2⟩], rfl⟩
set_option maxRecDepth 65536 in
set_option maxHeartbeats 40000000 in
theorem own_rm0 (l : Launch) (Z : State) (a0 : Array Value) (hw : ∀ d ∈ tables_1, d.before a0 Z = true) (ws : List Jvm.Cond) (v0 v1 v2 v3 : Int64) (v4 v5 : Int32) (dd : Addr) (cz : Int32) (h0 : Heap) (n0 : Nat) (Z0 : n0 ≤ h0.size) (Wd : OWd Z n0 h0 dd) (Sc : OS Z n0 h0 "java/lang/String" "COMPACT_STRINGS" "Z" (.int cz)) (hcz : ¬ cz = 0) :
    OCon l Z n0 x code maxLocals ret ws room_1 #[(.long v0), (.long v1), (.long v2), (.long v3), (.int v4), (.int v5)] h0 (OV fun w h => w = .int 1) := by
  refine OCon.of (Ls := #[.val (.long v0), .second, .val (.long v1), .second, .val (.long v2), .second, .val (.long v3), .second, .val (.int v4), .val (.int v5), .unset, .unset, .unset, .unset, .unset, .unset, .unset]) (plainFor_of_name own_pn_0) (fun m => own_entry m rfl) ?_
  intro p e s m below meth c K
  refine OGo.iload K (pc' := 2) at_0 rfl rfl ?_
  refine OGo.iconst K (pc' := 3) (z := 1) at_2 rfl rfl ?_
  refine OGo.iand K (pc' := 4) at_3 rfl ?_
  suffices J12 : ∀ lo : Int64, OGo p l e room_1 s m #[(.long v0), (.long v1), (.long v2), (.long v3), (.int v4), (.int v5)] below meth c n0 (OV fun w h => w = .int 1) h0 0 0 12 #[.val (.long v0), .second, .val (.long v1), .second, .val (.long v2), .second, .val (.long v3), .second, .val (.int v4), .val (.int v5), .unset, .unset, .unset, .unset, .unset, .unset, .unset] [(.long lo)] by
    refine OGo.ifEq K (pc' := 7) (pcY := 11) at_4 rfl (by decide) rfl (fun hc4 => ?_) (fun hc4 => ?_)
    · skip
      refine OGo.lloadN K (pc' := 12) at_11 rfl rfl ?_
      exact J12 _
    · skip
      refine OGo.lconst K (pc' := 8) (z := 0) at_7 rfl rfl ?_
      refine OGo.goto K (pc' := 12) at_8 (by decide) rfl ?_
      exact J12 _
  intro lo
  refine OGo.lstore K (pc' := 14) (Ls' := #[.val (.long v0), .second, .val (.long v1), .second, .val (.long v2), .second, .val (.long v3), .second, .val (.int v4), .val (.int v5), .val (.long lo), .second, .unset, .unset, .unset, .unset, .unset]) at_12 rfl rfl ?_
  refine OGo.iload K (pc' := 16) at_14 rfl rfl ?_
  refine OGo.iconst K (pc' := 17) (z := 2) at_16 rfl rfl ?_
  refine OGo.iand K (pc' := 18) at_17 rfl ?_
  suffices J27 : ∀ to : Int64, OGo p l e room_1 s m #[(.long v0), (.long v1), (.long v2), (.long v3), (.int v4), (.int v5)] below meth c n0 (OV fun w h => w = .int 1) h0 0 0 27 #[.val (.long v0), .second, .val (.long v1), .second, .val (.long v2), .second, .val (.long v3), .second, .val (.int v4), .val (.int v5), .val (.long lo), .second, .unset, .unset, .unset, .unset, .unset] [(.long to)] by
    refine OGo.ifEq K (pc' := 21) (pcY := 25) at_18 rfl (by decide) rfl (fun hc18 => ?_) (fun hc18 => ?_)
    · skip
      refine OGo.lload K (pc' := 27) at_25 rfl rfl ?_
      exact J27 _
    · skip
      refine OGo.lconst K (pc' := 22) (z := 0) at_21 rfl rfl ?_
      refine OGo.goto K (pc' := 27) at_22 (by decide) rfl ?_
      exact J27 _
  intro to
  refine OGo.lstore K (pc' := 29) (Ls' := #[.val (.long v0), .second, .val (.long v1), .second, .val (.long v2), .second, .val (.long v3), .second, .val (.int v4), .val (.int v5), .val (.long lo), .second, .val (.long to), .second, .unset, .unset, .unset]) at_27 rfl rfl ?_
  refine OGo.newO K (pc' := 32) (cells' := 1) (slots' := 3) (hw _ (List.mem_of_getElem? (i := 0) rfl)) (hw _ (List.mem_of_getElem? (i := 1) rfl)) (hw _ (List.mem_of_getElem? (i := 2) rfl)) at_29 rfl rfl rfl (by decide) (by decide) ?_
  intro h1 a gq1 E1 A1 D1
  have g_a : n0 ≤ a := Nat.le_trans Z0 (Nat.le_of_eq gq1.symm)
  have Z1 : n0 ≤ h1.size := Nat.le_trans Z0 E1.1
  have Wd_1 := OWd.ext Wd E1
  have Sc_1 := OS.keep Sc (own_keep_ext E1) all0
  have F_modCount_a : Fld Z h1 a "java/util/AbstractList" "modCount" "I" (.int (0 : Int32)) := D1 (Or.inl (hw _ (List.mem_of_getElem? (i := 22) rfl))) (ty := .int) (by decide)
  have F_elementData_a : Fld Z h1 a "java/util/ArrayList" "elementData" "[Ljava/lang/Object;" .null := D1 (Or.inl (hw _ (List.mem_of_getElem? (i := 25) rfl))) (ty := (.array (.object "java/lang/Object"))) (by decide)
  have F_size_a : Fld Z h1 a "java/util/ArrayList" "size" "I" (.int (0 : Int32)) := D1 (Or.inl (hw _ (List.mem_of_getElem? (i := 93) rfl))) (ty := .int) (by decide)
  refine OGo.dup K (pc' := 33) at_32 rfl rfl ?_
  refine OGo.callIN K (pc' := 36) (y := (⟨"java/util/ArrayList", "<init>", "()V"⟩ : MethodName)) (a := a) (W := 1) (cells' := 1) (slots' := 3) (argsL := []) (st := [(.ref a)]) rfl (hw _ (List.mem_of_getElem? (i := 3) rfl)) (hw _ (List.mem_of_getElem? (i := 4) rfl)) (hw _ (List.mem_of_getElem? (i := 2) rfl)) (hw _ (List.mem_of_getElem? (i := 5) rfl)) (by decide) (own_al_init l Z a0 hw a dd _ _ h1 n0 Z1 A1 F_elementData_a F_size_a F_modCount_a g_a Wd_1) at_33 rfl rfl (lenOf own_pd1 rfl) (by show 2 * 0 + _ ≤ _; exact Nat.le_of_eq rfl) (by decide) (by decide) rfl rfl (by decide) (by decide) ?_
  rintro h2 ⟨L2, K2⟩
  have Z2 : n0 ≤ h2.size := Nat.le_trans Z1 K2.1
  have Wd_2 := OWd.keep Wd_1 K2 (allS g_a all0)
  have Sc_2 := OS.keep Sc_1 K2 (allS g_a all0)
  refine OGo.astore K (pc' := 38) (Ls' := #[.val (.long v0), .second, .val (.long v1), .second, .val (.long v2), .second, .val (.long v3), .second, .val (.int v4), .val (.int v5), .val (.long lo), .second, .val (.long to), .second, .val (.ref a), .unset, .unset]) at_36 rfl rfl rfl ?_
  refine OGo.iload K (pc' := 40) at_38 rfl rfl ?_
  refine OGo.iconst K (pc' := 41) (z := 4) at_40 rfl rfl ?_
  refine OGo.iand K (pc' := 42) at_41 rfl ?_
  suffices J78 : ∀ (h : Heap) (s15 : Slot) (h15 : One s15) (Zh : n0 ≤ h.size), OGo p l e room_1 s m #[(.long v0), (.long v1), (.long v2), (.long v3), (.int v4), (.int v5)] below meth c n0 (OV fun w h => w = .int 1) h 6 40 78 #[.val (.long v0), .second, .val (.long v1), .second, .val (.long v2), .second, .val (.long v3), .second, .val (.int v4), .val (.int v5), .val (.long lo), .second, .val (.long to), .second, .val (.ref a), s15, .unset] [] by
    refine OGo.ifEq K (pc' := 45) (pcY := 78) at_42 rfl (by decide) rfl (fun hc42 => ?_) (fun hc42 => ?_)
    · skip
      exact OGo.more (J78 h2 _ One.u Z2) (by decide) (by decide)
    · skip
      refine OGo.iconst K (pc' := 46) (z := 1) at_45 rfl rfl ?_
      refine OGo.newP K (pc' := 48) (cap := 1) (cells' := 2) (slots' := 4) (hw _ (List.mem_of_getElem? (i := 53) rfl)) at_46 rfl (by decide) (by decide) (by decide) rfl rfl (by decide) (by decide) ?_
      intro h3 cb k_cb gq3 E3 V_cb
      have ne_a_cb : a ≠ cb := Nat.ne_of_lt (Nat.lt_of_lt_of_le (OAL0.lta L2) (Nat.le_of_eq gq3.symm))
      have g_cb : n0 ≤ cb := Nat.le_trans Z2 (Nat.le_of_eq gq3.symm)
      have Z3 : n0 ≤ h3.size := Nat.le_trans Z2 E3.1
      have Wd_3 := OWd.ext Wd_2 E3
      have Sc_3 := OS.keep Sc_2 (own_keep_ext E3) all0
      have L2_3 := OAL0.keep L2 (own_keep_ext E3) nin0
      replace V_cb : Arv Z h3 cb _ .char (1 : Int32) [.int 0] (.int 0) := V_cb.pad (pad_rep [] _ 1)
      refine OGo.astore K (pc' := 50) (Ls' := #[.val (.long v0), .second, .val (.long v1), .second, .val (.long v2), .second, .val (.long v3), .second, .val (.int v4), .val (.int v5), .val (.long lo), .second, .val (.long to), .second, .val (.ref a), .val (.ref cb), .unset]) at_48 rfl rfl rfl ?_
      refine OGo.aload K (pc' := 52) at_50 rfl rfl rfl ?_
      refine OGo.iconst K (pc' := 53) (z := 0) at_52 rfl rfl ?_
      refine OGo.iload K (pc' := 55) at_53 rfl rfl ?_
      refine OGo.sipush K (pc' := 58) (z := 255) at_55 rfl rfl ?_
      refine OGo.iand K (pc' := 59) at_58 rfl ?_
      refine OGo.i2c K (pc' := 60) at_59 rfl ?_
      refine OGo.castore K (pc' := 61) (i := 0) V_cb (by decide) rfl (Nat.le_of_ble_eq_true rfl) g_cb at_60 rfl ?_
      intro h4 W4 V_cb_4
      have Z4 : n0 ≤ h4.size := by rw [W4.size]; exact Z3
      replace V_cb_4 : Arv Z h4 cb _ .char (1 : Int32) [.int (nar .char ((v5 &&& (255 : Int32)).toUInt32.toUInt16.toUInt32.toInt32))] (.int 0) := V_cb_4
      have Wd_4 := OWd.wr Wd_3 W4 g_cb
      have Sc_4 := OS.keep Sc_3 (Keep.of_wr W4) (allS g_cb all0)
      have L2_4 := OAL0.keep L2_3 (Keep.of_wr W4) (ninS ne_a_cb nin0)
      refine OGo.aload K (pc' := 63) at_61 rfl rfl rfl ?_
      refine OGo.newO K (pc' := 66) (cells' := 3) (slots' := 8) (hw _ (List.mem_of_getElem? (i := 54) rfl)) (hw _ (List.mem_of_getElem? (i := 55) rfl)) (hw _ (List.mem_of_getElem? (i := 56) rfl)) at_63 rfl rfl rfl (by decide) (by decide) ?_
      intro h5 sb gq5 E5 A5 D5
      have ne_a_sb : a ≠ sb := Nat.ne_of_lt (Nat.lt_of_lt_of_le (OAL0.lta L2_4) (Nat.le_of_eq gq5.symm))
      have ne_cb_sb : cb ≠ sb := Nat.ne_of_lt (Nat.lt_of_lt_of_le V_cb_4.lt (Nat.le_of_eq gq5.symm))
      have g_sb : n0 ≤ sb := Nat.le_trans Z4 (Nat.le_of_eq gq5.symm)
      have Z5 : n0 ≤ h5.size := Nat.le_trans Z4 E5.1
      have Wd_5 := OWd.ext Wd_4 E5
      have Sc_5 := OS.keep Sc_4 (own_keep_ext E5) all0
      have L2_5 := OAL0.keep L2_4 (own_keep_ext E5) nin0
      have V_cb_5 := V_cb_4.ext E5
      have F_coder_sb : Fld Z h5 sb "java/lang/String" "coder" "B" (.int (0 : Int32)) := D5 (Or.inr (hw _ (List.mem_of_getElem? (i := 78) rfl))) (ty := .byte) (by decide)
      have F_value_sb : Fld Z h5 sb "java/lang/String" "value" "[B" .null := D5 (Or.inr (hw _ (List.mem_of_getElem? (i := 80) rfl))) (ty := (.array .byte)) (by decide)
      refine OGo.dup K (pc' := 67) at_66 rfl rfl ?_
      refine OGo.aload K (pc' := 69) at_67 rfl rfl rfl ?_
      refine OGo.callIN K (pc' := 72) (y := (⟨"java/lang/String", "<init>", "([C)V"⟩ : MethodName)) (a := sb) (W := 2) (cells' := 4) (slots' := 12) (argsL := [(.ref cb)]) (st := [(.ref sb), (.ref a)]) rfl (hw _ (List.mem_of_getElem? (i := 57) rfl)) (hw _ (List.mem_of_getElem? (i := 58) rfl)) (hw _ (List.mem_of_getElem? (i := 56) rfl)) (hw _ (List.mem_of_getElem? (i := 59) rfl)) (by decide) (own_strC l Z a0 hw sb cb _ [nar .char ((v5 &&& (255 : Int32)).toUInt32.toUInt16.toUInt32.toInt32)] _ _ _ cz h5 n0 Z5 A5 F_value_sb F_coder_sb V_cb_5 (Nat.le_of_ble_eq_true rfl) (Nat.le_of_ble_eq_true rfl) (own_c255 v5) Sc_5.sta hcz g_sb) at_69 rfl rfl (lenOf own_pd16 rfl) (by show 2 * 0 + _ ≤ _; exact Nat.le_of_eq rfl) (by decide) (by decide) rfl rfl (by decide) (by decide) ?_
      rintro h6 ⟨tb, O6, K6, s6⟩
      have Z6 : n0 ≤ h6.size := Nat.le_trans Z5 K6.1
      have ne_a_tb : a ≠ tb := Nat.ne_of_lt (Nat.lt_of_lt_of_le (OAL0.lta L2_5) s6)
      have ne_cb_tb : cb ≠ tb := Nat.ne_of_lt (Nat.lt_of_lt_of_le V_cb_5.lt s6)
      have ne_sb_tb : sb ≠ tb := Nat.ne_of_lt (Nat.lt_of_lt_of_le A5.lt s6)
      have Wd_6 := OWd.keep Wd_5 K6 (allS g_sb all0)
      have Sc_6 := OS.keep Sc_5 K6 (allS g_sb all0)
      have L2_6 := OAL0.keep L2_5 K6 (ninS ne_a_sb nin0)
      have V_cb_6 := V_cb_5.keep K6 (ninS ne_cb_sb nin0)
      have A5_6 := A5.keep K6
      refine OGo.callFV K (pc' := 77) (y := (⟨"java/util/List", "add", "(Ljava/lang/Object;)Z"⟩ : MethodName)) (z := (⟨"java/util/ArrayList", "add", "(Ljava/lang/Object;)Z"⟩ : MethodName)) (a := a) (W := 0) (cells' := 5) (slots' := 22) (argsL := [(.ref sb)]) (st := []) L2_6.1 (hw _ (List.mem_of_getElem? (i := 81) rfl)) (hw _ (List.mem_of_getElem? (i := 82) rfl)) (hw _ (List.mem_of_getElem? (i := 83) rfl)) (hw _ (List.mem_of_getElem? (i := 84) rfl)) (hw _ (List.mem_of_getElem? (i := 85) rfl)) (hw _ (List.mem_of_getElem? (i := 86) rfl)) (hw _ (List.mem_of_getElem? (i := 87) rfl)) (hw _ (List.mem_of_getElem? (i := 88) rfl)) (hw _ (List.mem_of_getElem? (i := 2) rfl)) (hw _ (List.mem_of_getElem? (i := 89) rfl)) (by decide) (own_al_add0 l Z a0 hw a sb dd h6 n0 Z6 L2_6 Wd_6 (Ins.of_exa A5_6 (hw _ (List.mem_of_getElem? (i := 115) rfl)))) at_72 rfl rfl (lenOf own_pd17 rfl) (by show 2 * 0 + _ ≤ _; exact Nat.le_of_eq rfl) (by decide) (by decide) rfl rfl (by decide) (by decide) ?_
      rintro _ h7 ⟨rfl, x, L7, K7, s7⟩
      have Z7 : n0 ≤ h7.size := Nat.le_trans Z6 K7.1
      have Wd_7 := OWd.keep Wd_6 K7 (allS g_a all0)
      have Sc_7 := OS.keep Sc_6 K7 (allS g_a all0)
      have V_cb_7 := V_cb_6.keep K7 (ninS (Ne.symm ne_a_cb) nin0)
      have A5_7 := A5_6.keep K7
      show OGo p l e _ s m _ below meth c n0 _ h7 5 22 77 #[.val (.long v0), .second, .val (.long v1), .second, .val (.long v2), .second, .val (.long v3), .second, .val (.int v4), .val (.int v5), .val (.long lo), .second, .val (.long to), .second, .val (.ref a), .val (.ref cb), .unset] [(.int (1 : Int32))]
      refine OGo.pop K (pc' := 78) at_77 rfl rfl ?_
      exact OGo.more (J78 h7 _ (One.val rfl) Z7) (by decide) (by decide)
  intro h s15 h15 Zh
  refine OGo.newO K (pc' := 81) (cells' := 7) (slots' := 45) (hw _ (List.mem_of_getElem? (i := 26) rfl)) (hw _ (List.mem_of_getElem? (i := 27) rfl)) (hw _ (List.mem_of_getElem? (i := 28) rfl)) at_78 rfl rfl rfl (by decide) (by decide) ?_
  intro h8 vr gq8 E8 A8 D8
  have g_vr : n0 ≤ vr := Nat.le_trans Zh (Nat.le_of_eq gq8.symm)
  have Z8 : n0 ≤ h8.size := Nat.le_trans Zh E8.1
  have F_acknowledged_vr : Fld Z h8 vr "com/example/intervale/intervale/bench/Verifier$Verification" "acknowledged" "J" (.long (0 : Int64)) := D8 (Or.inr (hw _ (List.mem_of_getElem? (i := 39) rfl))) (ty := .long) (by decide)
  have F_lost_vr : Fld Z h8 vr "com/example/intervale/intervale/bench/Verifier$Verification" "lost" "J" (.long (0 : Int64)) := D8 (Or.inr (hw _ (List.mem_of_getElem? (i := 41) rfl))) (ty := .long) (by decide)
  have F_tornGroups_vr : Fld Z h8 vr "com/example/intervale/intervale/bench/Verifier$Verification" "tornGroups" "J" (.long (0 : Int64)) := D8 (Or.inr (hw _ (List.mem_of_getElem? (i := 43) rfl))) (ty := .long) (by decide)
  have F_skipped_vr : Fld Z h8 vr "com/example/intervale/intervale/bench/Verifier$Verification" "skipped" "J" (.long (0 : Int64)) := D8 (Or.inr (hw _ (List.mem_of_getElem? (i := 45) rfl))) (ty := .long) (by decide)
  have F_described_vr : Fld Z h8 vr "com/example/intervale/intervale/bench/Verifier$Verification" "described" "Ljava/util/List;" .null := D8 (Or.inr (hw _ (List.mem_of_getElem? (i := 47) rfl))) (ty := (.object "java/util/List")) (by decide)
  refine OGo.dup K (pc' := 82) at_81 rfl rfl ?_
  refine OGo.lloadN K (pc' := 83) at_82 rfl rfl ?_
  refine OGo.lload K (pc' := 85) at_83 rfl rfl ?_
  refine OGo.lload K (pc' := 87) at_85 rfl rfl ?_
  refine OGo.lload K (pc' := 89) at_87 rfl rfl ?_
  refine OGo.aload K (pc' := 91) at_89 rfl rfl rfl ?_
  refine OGo.callIN K (pc' := 94) (y := (⟨"com/example/intervale/intervale/bench/Verifier$Verification", "<init>", "(JJJJLjava/util/List;)V"⟩ : MethodName)) (a := vr) (W := 1) (cells' := 7) (slots' := 45) (argsL := [(.long v0), (.long lo), (.long to), (.long v3), (.ref a)]) (st := [(.ref vr)]) rfl (hw _ (List.mem_of_getElem? (i := 29) rfl)) (hw _ (List.mem_of_getElem? (i := 30) rfl)) (hw _ (List.mem_of_getElem? (i := 28) rfl)) (hw _ (List.mem_of_getElem? (i := 31) rfl)) (by decide) (own_rm5 l Z a0 hw vr a v0 lo to v3 _ _ _ _ _ h8 n0 Z8 A8 F_acknowledged_vr F_lost_vr F_tornGroups_vr F_skipped_vr F_described_vr g_vr) at_91 rfl rfl (lenOf own_pd18 rfl) (by show 2 * 0 + _ ≤ _; exact Nat.le_of_eq rfl) (by decide) (by decide) rfl rfl (by decide) (by decide) ?_
  rintro h9 ⟨K9, Fa, Fb⟩
  have Z9 : n0 ≤ h9.size := Nat.le_trans Z8 K9.1
  have A8_9 := A8.keep K9
  refine OGo.astore K (pc' := 96) (Ls' := #[.val (.long v0), .second, .val (.long v1), .second, .val (.long v2), .second, .val (.long v3), .second, .val (.int v4), .val (.int v5), .val (.long lo), .second, .val (.long to), .second, .val (.ref a), .val (.ref vr), .unset]) at_94 rfl rfl ((XS.store1 rfl h15 rfl).trans rfl) ?_
  refine OGo.lload K (pc' := 98) at_96 rfl rfl ?_
  refine OGo.lconst K (pc' := 99) (z := 0) at_98 rfl rfl ?_
  refine OGo.lcmpEq K (pc' := 103) (pcY := 109) at_99 rfl at_100 rfl (by decide) rfl (fun h1 => ?_) (fun h1 => ?_)
  · skip
    refine OGo.lload K (pc' := 111) at_109 rfl rfl ?_
    refine OGo.lconst K (pc' := 112) (z := 0) at_111 rfl rfl ?_
    refine OGo.lcmpEq K (pc' := 116) (pcY := 122) at_112 rfl at_113 rfl (by decide) rfl (fun h2 => ?_) (fun h2 => ?_)
    · skip
      refine OGo.iconst K (pc' := 123) (z := 1) at_122 rfl rfl ?_
      refine OGo.istore K (pc' := 125) (Ls' := #[.val (.long v0), .second, .val (.long v1), .second, .val (.long v2), .second, .val (.long v3), .second, .val (.int v4), .val (.int v5), .val (.long lo), .second, .val (.long to), .second, .val (.ref a), .val (.ref vr), .val (.int (1 : Int32))]) at_123 rfl rfl ?_
      refine OGo.aload K (pc' := 127) at_125 rfl rfl rfl ?_
      refine OGo.callVV K (pc' := 130) (y := (⟨"com/example/intervale/intervale/bench/Verifier$Verification", "passed", "()Z"⟩ : MethodName)) (z := (⟨"com/example/intervale/intervale/bench/Verifier$Verification", "passed", "()Z"⟩ : MethodName)) (a := vr) (W := 0) (cells' := 7) (slots' := 45) (argsL := []) (st := []) A8_9 (hw _ (List.mem_of_getElem? (i := 48) rfl)) (hw _ (List.mem_of_getElem? (i := 49) rfl)) (notFace_of_selects (args := #[]) (mvT K.hZ (hw _ (List.mem_of_getElem? (i := 51) rfl)))) (hw _ (List.mem_of_getElem? (i := 51) rfl)) (hw _ (List.mem_of_getElem? (i := 50) rfl)) (hw _ (List.mem_of_getElem? (i := 28) rfl)) (hw _ (List.mem_of_getElem? (i := 52) rfl)) (by decide) (own_rm7 l Z a0 hw vr lo to h9 n0 Z9 Fa Fb) at_127 rfl rfl (lenOf own_pd19 rfl) (by show 2 * 0 + _ ≤ _; exact Nat.le_of_eq rfl) (by decide) (by decide) rfl rfl (by decide) (by decide) ?_
      rintro _ h10 ⟨rfl, e10⟩
      rw [e10]
      show OGo p l e _ s m _ below meth c n0 _ h9 7 45 130 #[.val (.long v0), .second, .val (.long v1), .second, .val (.long v2), .second, .val (.long v3), .second, .val (.int v4), .val (.int v5), .val (.long lo), .second, .val (.long to), .second, .val (.ref a), .val (.ref vr), .val (.int (1 : Int32))] [(.int (if lo = 0 ∧ to = 0 then 1 else 0))]
      refine OGo.iload K (pc' := 132) at_130 rfl rfl ?_
      refine OGo.icmpNe K (pc' := 135) (pcY := 139) at_132 rfl (by decide) rfl (fun hc132 => absurd (if_pos ⟨h1, h2⟩ : (if lo = 0 ∧ to = 0 then 1 else 0) = (1 : Int32)) hc132) (fun hc132 => ?_)
      refine OGo.iconst K (pc' := 136) (z := 1) at_135 rfl rfl ?_
      refine OGo.goto K (pc' := 140) at_136 (by decide) rfl ?_
      exact OGo.ret K at_140 rfl (Or.inl ⟨rfl, by simp, _, rfl⟩) (by decide) (by decide) ⟨_, rfl, rfl⟩
    · skip
      refine OGo.iconst K (pc' := 117) (z := 0) at_116 rfl rfl ?_
      refine OGo.istore K (pc' := 119) (Ls' := #[.val (.long v0), .second, .val (.long v1), .second, .val (.long v2), .second, .val (.long v3), .second, .val (.int v4), .val (.int v5), .val (.long lo), .second, .val (.long to), .second, .val (.ref a), .val (.ref vr), .val (.int (0 : Int32))]) at_117 rfl rfl ?_
      refine OGo.goto K (pc' := 125) at_119 (by decide) rfl ?_
      refine OGo.aload K (pc' := 127) at_125 rfl rfl rfl ?_
      refine OGo.callVV K (pc' := 130) (y := (⟨"com/example/intervale/intervale/bench/Verifier$Verification", "passed", "()Z"⟩ : MethodName)) (z := (⟨"com/example/intervale/intervale/bench/Verifier$Verification", "passed", "()Z"⟩ : MethodName)) (a := vr) (W := 0) (cells' := 7) (slots' := 45) (argsL := []) (st := []) A8_9 (hw _ (List.mem_of_getElem? (i := 48) rfl)) (hw _ (List.mem_of_getElem? (i := 49) rfl)) (notFace_of_selects (args := #[]) (mvT K.hZ (hw _ (List.mem_of_getElem? (i := 51) rfl)))) (hw _ (List.mem_of_getElem? (i := 51) rfl)) (hw _ (List.mem_of_getElem? (i := 50) rfl)) (hw _ (List.mem_of_getElem? (i := 28) rfl)) (hw _ (List.mem_of_getElem? (i := 52) rfl)) (by decide) (own_rm7 l Z a0 hw vr lo to h9 n0 Z9 Fa Fb) at_127 rfl rfl (lenOf own_pd19 rfl) (by show 2 * 0 + _ ≤ _; exact Nat.le_of_eq rfl) (by decide) (by decide) rfl rfl (by decide) (by decide) ?_
      rintro _ h11 ⟨rfl, e11⟩
      rw [e11]
      show OGo p l e _ s m _ below meth c n0 _ h9 7 45 130 #[.val (.long v0), .second, .val (.long v1), .second, .val (.long v2), .second, .val (.long v3), .second, .val (.int v4), .val (.int v5), .val (.long lo), .second, .val (.long to), .second, .val (.ref a), .val (.ref vr), .val (.int (0 : Int32))] [(.int (if lo = 0 ∧ to = 0 then 1 else 0))]
      refine OGo.iload K (pc' := 132) at_130 rfl rfl ?_
      refine OGo.icmpNe K (pc' := 135) (pcY := 139) at_132 rfl (by decide) rfl (fun hc132 => absurd (if_neg (fun z => h2 z.2) : (if lo = 0 ∧ to = 0 then 1 else 0) = (0 : Int32)) hc132) (fun hc132 => ?_)
      refine OGo.iconst K (pc' := 136) (z := 1) at_135 rfl rfl ?_
      refine OGo.goto K (pc' := 140) at_136 (by decide) rfl ?_
      exact OGo.ret K at_140 rfl (Or.inl ⟨rfl, by simp, _, rfl⟩) (by decide) (by decide) ⟨_, rfl, rfl⟩
  · skip
    refine OGo.iconst K (pc' := 104) (z := 0) at_103 rfl rfl ?_
    refine OGo.istore K (pc' := 106) (Ls' := #[.val (.long v0), .second, .val (.long v1), .second, .val (.long v2), .second, .val (.long v3), .second, .val (.int v4), .val (.int v5), .val (.long lo), .second, .val (.long to), .second, .val (.ref a), .val (.ref vr), .val (.int (0 : Int32))]) at_104 rfl rfl ?_
    refine OGo.goto K (pc' := 125) at_106 (by decide) rfl ?_
    refine OGo.aload K (pc' := 127) at_125 rfl rfl rfl ?_
    refine OGo.callVV K (pc' := 130) (y := (⟨"com/example/intervale/intervale/bench/Verifier$Verification", "passed", "()Z"⟩ : MethodName)) (z := (⟨"com/example/intervale/intervale/bench/Verifier$Verification", "passed", "()Z"⟩ : MethodName)) (a := vr) (W := 0) (cells' := 7) (slots' := 45) (argsL := []) (st := []) A8_9 (hw _ (List.mem_of_getElem? (i := 48) rfl)) (hw _ (List.mem_of_getElem? (i := 49) rfl)) (notFace_of_selects (args := #[]) (mvT K.hZ (hw _ (List.mem_of_getElem? (i := 51) rfl)))) (hw _ (List.mem_of_getElem? (i := 51) rfl)) (hw _ (List.mem_of_getElem? (i := 50) rfl)) (hw _ (List.mem_of_getElem? (i := 28) rfl)) (hw _ (List.mem_of_getElem? (i := 52) rfl)) (by decide) (own_rm7 l Z a0 hw vr lo to h9 n0 Z9 Fa Fb) at_127 rfl rfl (lenOf own_pd19 rfl) (by show 2 * 0 + _ ≤ _; exact Nat.le_of_eq rfl) (by decide) (by decide) rfl rfl (by decide) (by decide) ?_
    rintro _ h12 ⟨rfl, e12⟩
    rw [e12]
    show OGo p l e _ s m _ below meth c n0 _ h9 7 45 130 #[.val (.long v0), .second, .val (.long v1), .second, .val (.long v2), .second, .val (.long v3), .second, .val (.int v4), .val (.int v5), .val (.long lo), .second, .val (.long to), .second, .val (.ref a), .val (.ref vr), .val (.int (0 : Int32))] [(.int (if lo = 0 ∧ to = 0 then 1 else 0))]
    refine OGo.iload K (pc' := 132) at_130 rfl rfl ?_
    refine OGo.icmpNe K (pc' := 135) (pcY := 139) at_132 rfl (by decide) rfl (fun hc132 => absurd (if_neg (fun z => h1 z.1) : (if lo = 0 ∧ to = 0 then 1 else 0) = (0 : Int32)) hc132) (fun hc132 => ?_)
    refine OGo.iconst K (pc' := 136) (z := 1) at_135 rfl rfl ?_
    refine OGo.goto K (pc' := 140) at_136 (by decide) rfl ?_
    exact OGo.ret K at_140 rfl (Or.inl ⟨rfl, by simp, _, rfl⟩) (by decide) (by decide) ⟨_, rfl, rfl⟩
set_option maxRecDepth 65536 in
set_option maxHeartbeats 40000000 in
theorem own_comes {Post : Tables → Env → Array Value → State → Outcome → State → Prop} (hpost : ∀ tb e args s v u, (limb_1_1.after args s (.returned v) u = true ∧ limb_1_2.after args s (.returned v) u = true ∧ True) → FrameEnd s (.returned v) u (Jvm.fieldLocs frame_1_writes args s ++ Jvm.arrayLocs frame_1_arrays args s ++ Jvm.staticLocs frame_1_statics s) 24 128 → Post tb e args s (.returned v) u) :
    ArmFor flags0 classFile x code maxLocals ret World_1 tables_1 room_1 Calls_1 rest_1 Pre_1 Post := by
  intro l hfl _ _ p e ha hc hk s m args below hf hA hF happ hP
  obtain ⟨hcalls, hrest, hpre⟩ := hP
  obtain ⟨-, -, -, hnamed, -, -, -, hat⟩ := (Spec.applies_iff hf).mp happ
  obtain ⟨hg, hn⟩ := and_e (Cond.before_iff.mp (show (Jvm.Cond.and given_1 narrow_1).before args s = true from hpre))
  obtain ⟨gg1, gg2⟩ := and_e hg
  obtain ⟨gg3, gg4⟩ := and_e gg2
  obtain ⟨gg5, gg6⟩ := and_e gg4
  obtain ⟨gg7, gg8⟩ := and_e gg6
  obtain ⟨gg9, gg10⟩ := and_e gg8
  obtain ⟨gg11, gg12⟩ := and_e gg10
  obtain ⟨w0, w1, w2, w3, w4, w5, rfl⟩ : ∃ w0 w1 w2 w3 w4 w5 : Value, args = #[w0, w1, w2, w3, w4, w5] := by
    have hs : args.size = 6 := by simpa [Cond.value, given_1] using gg1
    obtain ⟨L⟩ := args
    match L, hs with
    | [w0, w1, w2, w3, w4, w5], _ => exact ⟨w0, w1, w2, w3, w4, w5, rfl⟩
  have hw := fun d (hd : d ∈ tables_1) => atoms_spec (ws := Jvm.Cond.code x code maxLocals ret :: tables_1) hat d (List.mem_cons_of_mem _ hd)
  have hfit : Fit s := fun {y c} hc i hi => by
    obtain ⟨ha, rfl⟩ := Array.getElem?_eq_some_iff.mp hc
    have q := List.all_eq_true.mp ((Array.all_eq_true_iff_forall_mem.mp hF) _ (Array.getElem_mem ha)) i (List.mem_range.mpr hi)
    simpa [Array.getElem?_eq_getElem hi] using q
  obtain ⟨hsets, hown0⟩ := atoms_of _ (rest_1_c_eq ▸ (show rest_1_c.before _ s = true from hrest))
  have hr0 := Cond.before_iff.mp hown0
  obtain ⟨i0, ei0⟩ := isL_v gg3
  obtain rfl : w0 = (.long i0) := Option.some.inj ei0
  obtain ⟨i1, ei1⟩ := isL_v gg5
  obtain rfl : w1 = (.long i1) := Option.some.inj ei1
  obtain ⟨i2, ei2⟩ := isL_v gg7
  obtain rfl : w2 = (.long i2) := Option.some.inj ei2
  obtain ⟨i3, ei3⟩ := isL_v gg9
  obtain rfl : w3 = (.long i3) := Option.some.inj ei3
  obtain ⟨i4, ei4⟩ := is_v gg11
  obtain rfl : w4 = (.int i4) := Option.some.inj ei4
  obtain ⟨i5, ei5⟩ := is_v gg12
  obtain rfl : w5 = (.int i5) := Option.some.inj ei5
  obtain ⟨dd, Wd⟩ := own_wd hfit (hw _ (List.mem_of_getElem? (i := 2) rfl)) (hsets _ (List.mem_of_getElem? (i := 2) rfl)) (hsets _ (List.mem_of_getElem? (i := 6) rfl)) (hsets _ (List.mem_of_getElem? (i := 8) rfl))
  obtain ⟨cz, Sc, hcz⟩ := own_cs (hsets _ (List.mem_of_getElem? (i := 9) rfl)) (hsets _ (List.mem_of_getElem? (i := 10) rfl)) (hsets _ (List.mem_of_getElem? (i := 11) rfl))
  obtain ⟨n, o, h1, h2, h3, _, L, rfl, ⟨⟨_, rfl, rfl⟩, N⟩, hq⟩ := own_rm0 l s _ hw tables_1 i0 i1 i2 i3 i4 i5 dd cz s.heap s.heap.size (Nat.le_refl _) Wd Sc hcz p e ha hc hk s m _ below hf ((Spec.applies_iff_loose hf).mp happ).1 ⟨rfl, State.Warmed39.refl s, rfl⟩ trivial
  refine ⟨n, _, h1, h2, h3, hpost _ _ _ _ _ _ ⟨Cond.after_iff.mpr rfl, Cond.after_iff.mpr (eq_i res_at (Term.int_eval (1)) rfl), trivial⟩ ⟨hq.1, hq.2.1, (hq.2.2.sift fun y hy => Or.inr (N y hy)).mono (by decide) (by decide)⟩⟩
theorem main_1_1 : Claimed_1_1 := own_comes fun _ _ _ _ _ _ h hF => ⟨h.1, hF⟩
theorem main_1_2 : Claimed_1_2 := own_comes fun _ _ _ _ _ _ h hF => ⟨h.2.1, hF⟩
end Jvm.Pilot.@@N@@
namespace Jvm.Pilot.@@N@@
open Jvm Jvm.ClassFile Sem Op Lib Jvm.Free Jvm.Stand Jvm.Pilot.@@N@@.Jvm.D
/-! MADE BY PROGRAM (witnessworld.py) out of the Statement's table words and the real class files: 31 classes; the members and pool entries that the words name. The judged class is class 1, her method 1. -/
namespace start1
open Jvm.ClassFile
def u (s : String) : CpInfo := .utf8 (stringToUtf16 s)
/-- a pool by its gaps: so many unusable entries, then the entry; so many at the end -/
def gap : Nat → List CpInfo → List CpInfo
  | 0, r => r
  | n + 1, r => .unusable :: gap n r
def poolList (es : List (Nat × CpInfo)) (last : Nat) : List CpInfo := es.foldr (fun e r => gap e.1 (e.2 :: r)) (gap last [])
def pool (es : List (Nat × CpInfo)) (last : Nat) : Array CpInfo := ⟨poolList es last⟩
def fileOf (pool : Array CpInfo) (this : Nat) (attrs : Array Attribute := #[]) (ms : Array MethodInfo := #[]) (fl : Nat := 33) (sup : Nat := 0) (ifs : Array Nat := #[]) (fds : Array FieldInfo := #[]) : ClassFile where
  minorVersion := 0
  majorVersion := 65
  constantPool := pool
  accessFlags := fl
  thisClass := this
  superClass := sup
  interfaces := ifs
  fields := fds
  methods := ms
  attributes := attrs
def plain (name : String) (sup : Option ClassId) : Class where
  name := name
  kind := .ordinary
  loader := none
  accessFlags := 33
  super := sup
  interfaces := #[]
  cf := none
  fields := #[]
  methods := #[]
  instanceTypes := #[]
  staticTypes := #[]
  resolved := #[]
  callSites := []
  init := .initialized
  statics := none
  mirror := none

def pool0 : Array CpInfo := pool [(5, u "<init>"), (0, u "()V"), (1, .class_ 10), (1, u "java/lang/Object")] 113

def k0c0 : Code := { maxStack := 0, maxLocals := 1, code := object_method_1_code, exceptionTable := #[], attributes := #[] }
def k0m0 : Method := { name := "<init>", desc := "()V", sig := { parameters := [], returnType := none }, accessFlags := 1, code := some k0c0 }
/-- java/lang/Object -/
def k0 : Class := { plain "java/lang/Object" none with
  accessFlags := 33
  interfaces := #[]
  cf := some (fileOf pool0 8 #[] #[{ accessFlags := 1, nameIndex := 5, descriptorIndex := 6, attributes := #[] }] 33 0 #[] #[])
  fields := #[]
  methods := #[k0m0]
  instanceTypes := #[]
  staticTypes := #[]
  resolved := Array.replicate 124 none
  statics := none }

def pool1 : Array CpInfo := pool [(2, .class_ 4), (0, .nameAndType 5 6), (0, u "java/lang/Object"), (0, u "<init>"), (0, u "()V"), (0, .class_ 8), (0, u "java/util/ArrayList"), (0, .methodref 7 3), (0, .class_ 11), (0, u "java/lang/String"), (0, .methodref 10 13), (0, .nameAndType 5 14), (0, u "([C)V"), (0, .interfaceMethodref 16 17), (0, .class_ 18), (0, .nameAndType 19 20), (0, u "java/util/List"), (0, u "add"), (0, u "(Ljava/lang/Object;)Z"), (0, .class_ 22), (0, u "com/example/intervale/intervale/bench/Verifier$Verification"), (0, .methodref 21 24), (0, .nameAndType 5 25), (0, u "(JJJJLjava/util/List;)V"), (0, .methodref 21 27), (0, .nameAndType 28 29), (0, u "passed"), (0, u "()Z"), (0, .class_ 31), (0, u "com/example/intervale/intervale/bench/VerificationPassedPinLaw"), (2, u "law"), (0, u "(JJJJII)Z")] 7

def k1m0 : Method := { name := "<init>", desc := "()V", sig := { parameters := [], returnType := none }, accessFlags := 2, code := none }
def k1c1 : Code := { maxStack := 11, maxLocals := 17, code := code, exceptionTable := #[], attributes := #[] }
def k1m1 : Method := { name := "law", desc := "(JJJJII)Z", sig := { parameters := [.long, .long, .long, .long, .int, .int], returnType := some .boolean }, accessFlags := 9, code := some k1c1 }
/-- com/example/intervale/intervale/bench/VerificationPassedPinLaw -/
def k1 : Class := { plain "com/example/intervale/intervale/bench/VerificationPassedPinLaw" (some 0) with
  accessFlags := 49
  interfaces := #[]
  cf := some (fileOf pool1 30 #[] #[{ accessFlags := 2, nameIndex := 5, descriptorIndex := 6, attributes := #[] }, { accessFlags := 9, nameIndex := 34, descriptorIndex := 35, attributes := #[] }] 49 2 #[] #[])
  fields := #[]
  methods := #[k1m0, k1m1]
  instanceTypes := #[]
  staticTypes := #[]
  resolved := Array.replicate 43 none
  statics := none }

def pool2 : Array CpInfo := pool [(8, .class_ 10), (1, u "java/lang/Iterable"), (24, .class_ 36), (0, u "java/lang/Object")] 25

/-- java/lang/Iterable -/
def k2 : Class := { plain "java/lang/Iterable" (some 0) with
  accessFlags := 1537
  interfaces := #[]
  cf := some (fileOf pool2 8 #[] #[] 1537 35 #[] #[])
  fields := #[]
  methods := #[]
  instanceTypes := #[]
  staticTypes := #[]
  resolved := Array.replicate 62 none
  statics := none }

def pool3 : Array CpInfo := pool [(10, .class_ 12), (1, u "java/util/Collection"), (47, .class_ 61), (0, u "java/lang/Object"), (0, .class_ 63), (0, u "java/lang/Iterable")] 51

/-- java/util/Collection -/
def k3 : Class := { plain "java/util/Collection" (some 0) with
  accessFlags := 1537
  interfaces := #[2]
  cf := some (fileOf pool3 10 #[] #[] 1537 60 #[62] #[])
  fields := #[]
  methods := #[]
  instanceTypes := #[]
  staticTypes := #[]
  resolved := Array.replicate 115 none
  statics := none }

def pool4 : Array CpInfo := pool [(1, .methodref 2 3), (0, .class_ 4), (0, .nameAndType 5 6), (0, u "java/lang/Object"), (0, u "<init>"), (0, u "()V"), (1, .class_ 10), (1, u "java/util/AbstractCollection"), (66, .class_ 78), (0, u "java/util/Collection")] 81

def k4c0 : Code := { maxStack := 1, maxLocals := 1, code := jdk_22_method_1_code, exceptionTable := #[], attributes := #[] }
def k4m0 : Method := { name := "<init>", desc := "()V", sig := { parameters := [], returnType := none }, accessFlags := 4, code := some k4c0 }
/-- java/util/AbstractCollection -/
def k4 : Class := { plain "java/util/AbstractCollection" (some 0) with
  accessFlags := 1057
  interfaces := #[3]
  cf := some (fileOf pool4 8 #[] #[{ accessFlags := 4, nameIndex := 5, descriptorIndex := 6, attributes := #[] }] 1057 2 #[77] #[])
  fields := #[]
  methods := #[k4m0]
  instanceTypes := #[]
  staticTypes := #[]
  resolved := Array.replicate 160 none
  statics := none }

def pool5 : Array CpInfo := pool [(8, .class_ 10), (1, u "java/util/SequencedCollection"), (15, .class_ 27), (0, u "java/lang/Object"), (0, .class_ 29), (0, u "java/util/Collection")] 27

/-- java/util/SequencedCollection -/
def k5 : Class := { plain "java/util/SequencedCollection" (some 0) with
  accessFlags := 1537
  interfaces := #[3]
  cf := some (fileOf pool5 8 #[] #[] 1537 26 #[28] #[])
  fields := #[]
  methods := #[]
  instanceTypes := #[]
  staticTypes := #[]
  resolved := Array.replicate 57 none
  statics := none }

def pool6 : Array CpInfo := pool [(8, .class_ 10), (1, u "java/util/List"), (49, u "add"), (3, u "(Ljava/lang/Object;)Z"), (38, .class_ 104), (0, u "java/lang/Object"), (15, .class_ 121), (0, u "java/util/SequencedCollection")] 129

def k6m0 : Method := { name := "add", desc := "(Ljava/lang/Object;)Z", sig := { parameters := [(.object "java/lang/Object")], returnType := some .boolean }, accessFlags := 1025, code := none }
/-- java/util/List -/
def k6 : Class := { plain "java/util/List" (some 0) with
  accessFlags := 1537
  interfaces := #[5]
  cf := some (fileOf pool6 8 #[] #[{ accessFlags := 1025, nameIndex := 60, descriptorIndex := 64, attributes := #[] }] 1537 103 #[120] #[])
  fields := #[]
  methods := #[k6m0]
  instanceTypes := #[]
  staticTypes := #[]
  resolved := Array.replicate 251 none
  statics := none }

def pool7 : Array CpInfo := pool [(1, .methodref 2 3), (0, .class_ 4), (0, .nameAndType 5 6), (0, u "java/util/AbstractCollection"), (0, u "<init>"), (0, u "()V"), (0, .fieldref 8 9), (0, .class_ 10), (0, .nameAndType 11 12), (0, u "java/util/AbstractList"), (0, u "modCount"), (0, u "I"), (64, .class_ 78), (0, u "java/util/AbstractList$Itr"), (3, .class_ 83), (0, u "java/util/AbstractList$ListItr"), (9, .class_ 94), (0, u "java/util/AbstractList$RandomAccessSubList"), (3, .class_ 99), (0, u "java/util/AbstractList$SubList"), (33, .class_ 134), (0, u "java/util/List"), (73, .class_ 209), (0, u "java/util/AbstractList$SubList$1"), (0, .class_ 211), (0, u "java/util/AbstractList$RandomAccessSpliterator")] 6

def k7c0 : Code := { maxStack := 2, maxLocals := 1, code := jdk_39_method_1_code, exceptionTable := #[], attributes := #[] }
def k7m0 : Method := { name := "<init>", desc := "()V", sig := { parameters := [], returnType := none }, accessFlags := 4, code := some k7c0 }
/-- java/util/AbstractList -/
def k7 : Class := { plain "java/util/AbstractList" (some 4) with
  accessFlags := 1057
  interfaces := #[6]
  cf := some (fileOf pool7 8 #[.nestMembers #[93, 98, 208, 210, 82, 77]] #[{ accessFlags := 4, nameIndex := 5, descriptorIndex := 6, attributes := #[] }] 1057 2 #[133] #[{ accessFlags := 132, nameIndex := 11, descriptorIndex := 12, attributes := #[] }])
  fields := #[{ name := "modCount", type := .int, accessFlags := 132, slot := 0, constantValue := 0 }]
  methods := #[k7m0]
  instanceTypes := #[.int]
  staticTypes := #[]
  resolved := Array.replicate 218 none
  statics := none }

def pool8 : Array CpInfo := pool [(1, .class_ 2), (0, u "java/util/RandomAccess"), (0, .class_ 4), (0, u "java/lang/Object")] 2

/-- java/util/RandomAccess -/
def k8 : Class := { plain "java/util/RandomAccess" (some 0) with
  accessFlags := 1537
  interfaces := #[]
  cf := some (fileOf pool8 1 #[] #[] 1537 3 #[] #[])
  fields := #[]
  methods := #[]
  instanceTypes := #[]
  staticTypes := #[]
  resolved := Array.replicate 7 none
  statics := none }

def pool9 : Array CpInfo := pool [(1, .class_ 2), (0, u "java/lang/Cloneable"), (0, .class_ 4), (0, u "java/lang/Object")] 2

/-- java/lang/Cloneable -/
def k9 : Class := { plain "java/lang/Cloneable" (some 0) with
  accessFlags := 1537
  interfaces := #[]
  cf := some (fileOf pool9 1 #[] #[] 1537 3 #[] #[])
  fields := #[]
  methods := #[]
  instanceTypes := #[]
  staticTypes := #[]
  resolved := Array.replicate 7 none
  statics := none }

def pool10 : Array CpInfo := pool [(1, .class_ 2), (0, u "java/io/Serializable"), (0, .class_ 4), (0, u "java/lang/Object")] 2

/-- java/io/Serializable -/
def k10 : Class := { plain "java/io/Serializable" (some 0) with
  accessFlags := 1537
  interfaces := #[]
  cf := some (fileOf pool10 1 #[] #[] 1537 3 #[] #[])
  fields := #[]
  methods := #[]
  instanceTypes := #[]
  staticTypes := #[]
  resolved := Array.replicate 7 none
  statics := none }

def pool11 : Array CpInfo := pool [(1, .methodref 2 3), (0, .class_ 4), (0, .nameAndType 5 6), (0, u "java/util/AbstractList"), (0, u "<init>"), (0, u "()V"), (0, .class_ 8), (0, u "java/lang/Object"), (0, .fieldref 10 11), (0, .class_ 12), (0, .nameAndType 13 14), (0, u "java/util/ArrayList"), (0, u "elementData"), (0, u "[Ljava/lang/Object;"), (2, u "EMPTY_ELEMENTDATA"), (21, .fieldref 10 40), (0, .nameAndType 41 14), (0, u "DEFAULTCAPACITY_EMPTY_ELEMENTDATA"), (5, u "()[Ljava/lang/Object;"), (0, .fieldref 10 49), (0, .nameAndType 50 51), (0, u "size"), (0, u "I"), (11, .fieldref 10 64), (0, .nameAndType 65 51), (0, u "modCount"), (3, .methodref 10 70), (0, .nameAndType 71 72), (0, u "grow"), (0, u "(I)[Ljava/lang/Object;"), (6, .methodref 80 81), (0, .class_ 82), (0, .nameAndType 83 84), (0, u "java/lang/Math"), (0, u "max"), (0, u "(II)I"), (11, u "(Ljava/lang/Object;)Z"), (32, .methodref 10 130), (0, .nameAndType 71 47), (0, .methodref 10 132), (0, .nameAndType 133 134), (0, u "add"), (0, u "(Ljava/lang/Object;[Ljava/lang/Object;I)V"), (13, .class_ 149), (0, u "java/util/List"), (112, .class_ 263), (0, u "java/util/ArrayList$ListItr"), (3, .class_ 268), (0, u "java/util/ArrayList$Itr"), (7, .class_ 277), (0, u "java/util/ArrayList$SubList"), (12, .class_ 291), (0, u "java/util/ArrayList$ArrayListSpliterator"), (37, .class_ 330), (0, u "java/util/RandomAccess"), (0, .class_ 332), (0, u "java/lang/Cloneable"), (0, .class_ 334), (0, u "java/io/Serializable"), (0, u "serialVersionUID"), (0, u "J"), (3, u "DEFAULT_CAPACITY"), (159, .class_ 501), (0, u "java/util/ArrayList$SubList$2"), (0, .class_ 503), (0, u "java/util/ArrayList$SubList$1")] 5

def k11c0 : Code := { maxStack := 2, maxLocals := 1, code := jdk_38_method_2_code, exceptionTable := #[], attributes := #[] }
def k11m0 : Method := { name := "<init>", desc := "()V", sig := { parameters := [], returnType := none }, accessFlags := 1, code := some k11c0 }
def k11c1 : Code := { maxStack := 4, maxLocals := 4, code := jdk_38_method_6_code, exceptionTable := #[], attributes := #[] }
def k11m1 : Method := { name := "grow", desc := "(I)[Ljava/lang/Object;", sig := { parameters := [.int], returnType := some (.array (.object "java/lang/Object")) }, accessFlags := 2, code := some k11c1 }
def k11c2 : Code := { maxStack := 3, maxLocals := 1, code := jdk_38_method_7_code, exceptionTable := #[], attributes := #[] }
def k11m2 : Method := { name := "grow", desc := "()[Ljava/lang/Object;", sig := { parameters := [], returnType := some (.array (.object "java/lang/Object")) }, accessFlags := 2, code := some k11c2 }
def k11c3 : Code := { maxStack := 3, maxLocals := 4, code := jdk_38_method_24_code, exceptionTable := #[], attributes := #[] }
def k11m3 : Method := { name := "add", desc := "(Ljava/lang/Object;[Ljava/lang/Object;I)V", sig := { parameters := [(.object "java/lang/Object"), (.array (.object "java/lang/Object")), .int], returnType := none }, accessFlags := 2, code := some k11c3 }
def k11c4 : Code := { maxStack := 4, maxLocals := 2, code := jdk_38_method_25_code, exceptionTable := #[], attributes := #[] }
def k11m4 : Method := { name := "add", desc := "(Ljava/lang/Object;)Z", sig := { parameters := [(.object "java/lang/Object")], returnType := some .boolean }, accessFlags := 1, code := some k11c4 }
/-- java/util/ArrayList -/
def k11 : Class := { plain "java/util/ArrayList" (some 7) with
  accessFlags := 33
  interfaces := #[6, 8, 9, 10]
  cf := some (fileOf pool11 10 #[.nestMembers #[290, 276, 500, 502, 262, 267]] #[{ accessFlags := 1, nameIndex := 5, descriptorIndex := 6, attributes := #[] }, { accessFlags := 2, nameIndex := 71, descriptorIndex := 72, attributes := #[] }, { accessFlags := 2, nameIndex := 71, descriptorIndex := 47, attributes := #[] }, { accessFlags := 2, nameIndex := 133, descriptorIndex := 134, attributes := #[] }, { accessFlags := 1, nameIndex := 133, descriptorIndex := 96, attributes := #[] }] 33 2 #[148, 329, 331, 333] #[{ accessFlags := 26, nameIndex := 335, descriptorIndex := 336, attributes := #[] }, { accessFlags := 26, nameIndex := 340, descriptorIndex := 51, attributes := #[] }, { accessFlags := 26, nameIndex := 17, descriptorIndex := 14, attributes := #[] }, { accessFlags := 26, nameIndex := 41, descriptorIndex := 14, attributes := #[] }, { accessFlags := 128, nameIndex := 13, descriptorIndex := 14, attributes := #[] }, { accessFlags := 2, nameIndex := 50, descriptorIndex := 51, attributes := #[] }])
  fields := #[{ name := "serialVersionUID", type := .long, accessFlags := 26, slot := 0, constantValue := 0 }, { name := "DEFAULT_CAPACITY", type := .int, accessFlags := 26, slot := 1, constantValue := 0 }, { name := "EMPTY_ELEMENTDATA", type := (.array (.object "java/lang/Object")), accessFlags := 26, slot := 2, constantValue := 0 }, { name := "DEFAULTCAPACITY_EMPTY_ELEMENTDATA", type := (.array (.object "java/lang/Object")), accessFlags := 26, slot := 3, constantValue := 0 }, { name := "elementData", type := (.array (.object "java/lang/Object")), accessFlags := 128, slot := 1, constantValue := 0 }, { name := "size", type := .int, accessFlags := 2, slot := 2, constantValue := 0 }]
  methods := #[k11m0, k11m1, k11m2, k11m3, k11m4]
  instanceTypes := #[.int, (.array (.object "java/lang/Object")), .int]
  staticTypes := #[.long, .int, (.array (.object "java/lang/Object")), (.array (.object "java/lang/Object"))]
  resolved := Array.replicate 509 none
  statics := some 0 }

def pool12 : Array CpInfo := pool [(1, .methodref 2 3), (0, .class_ 4), (0, .nameAndType 5 6), (0, u "java/lang/Object"), (0, u "<init>"), (0, u "()V"), (0, .class_ 8), (0, u "java/lang/Record")] 13

def k12c0 : Code := { maxStack := 1, maxLocals := 1, code := jdk_30_method_1_code, exceptionTable := #[], attributes := #[] }
def k12m0 : Method := { name := "<init>", desc := "()V", sig := { parameters := [], returnType := none }, accessFlags := 4, code := some k12c0 }
/-- java/lang/Record -/
def k12 : Class := { plain "java/lang/Record" (some 0) with
  accessFlags := 1057
  interfaces := #[]
  cf := some (fileOf pool12 7 #[] #[{ accessFlags := 4, nameIndex := 5, descriptorIndex := 6, attributes := #[] }] 1057 2 #[] #[])
  fields := #[]
  methods := #[k12m0]
  instanceTypes := #[]
  staticTypes := #[]
  resolved := Array.replicate 22 none
  statics := none }

def pool13 : Array CpInfo := pool [(1, .methodref 2 3), (0, .class_ 4), (0, .nameAndType 5 6), (0, u "java/lang/Record"), (0, u "<init>"), (0, u "()V"), (0, .fieldref 8 9), (0, .class_ 10), (0, .nameAndType 11 12), (0, u "com/example/intervale/intervale/bench/Verifier$Verification"), (0, u "acknowledged"), (0, u "J"), (0, .fieldref 8 14), (0, .nameAndType 15 12), (0, u "lost"), (0, .fieldref 8 17), (0, .nameAndType 18 12), (0, u "tornGroups"), (0, .fieldref 8 20), (0, .nameAndType 21 12), (0, u "skipped"), (0, .fieldref 8 23), (0, .nameAndType 24 25), (0, u "described"), (0, u "Ljava/util/List;"), (27, u "(JJJJLjava/util/List;)V"), (4, u "passed"), (0, u "()Z"), (11, .class_ 72), (0, u "com/example/intervale/intervale/bench/Verifier")] 37

def k13c0 : Code := { maxStack := 3, maxLocals := 10, code := prog_32_method_1_code, exceptionTable := #[], attributes := #[] }
def k13m0 : Method := { name := "<init>", desc := "(JJJJLjava/util/List;)V", sig := { parameters := [.long, .long, .long, .long, (.object "java/util/List")], returnType := none }, accessFlags := 1, code := some k13c0 }
def k13c1 : Code := { maxStack := 4, maxLocals := 1, code := prog_32_method_2_code, exceptionTable := #[], attributes := #[] }
def k13m1 : Method := { name := "passed", desc := "()Z", sig := { parameters := [], returnType := some .boolean }, accessFlags := 1, code := some k13c1 }
/-- com/example/intervale/intervale/bench/Verifier$Verification -/
def k13 : Class := { plain "com/example/intervale/intervale/bench/Verifier$Verification" (some 12) with
  accessFlags := 49
  interfaces := #[]
  cf := some (fileOf pool13 8 #[.nestHost 71] #[{ accessFlags := 1, nameIndex := 5, descriptorIndex := 53, attributes := #[] }, { accessFlags := 1, nameIndex := 58, descriptorIndex := 59, attributes := #[] }] 49 2 #[] #[{ accessFlags := 18, nameIndex := 11, descriptorIndex := 12, attributes := #[] }, { accessFlags := 18, nameIndex := 15, descriptorIndex := 12, attributes := #[] }, { accessFlags := 18, nameIndex := 18, descriptorIndex := 12, attributes := #[] }, { accessFlags := 18, nameIndex := 21, descriptorIndex := 12, attributes := #[] }, { accessFlags := 18, nameIndex := 24, descriptorIndex := 25, attributes := #[] }])
  fields := #[{ name := "acknowledged", type := .long, accessFlags := 18, slot := 0, constantValue := 0 }, { name := "lost", type := .long, accessFlags := 18, slot := 1, constantValue := 0 }, { name := "tornGroups", type := .long, accessFlags := 18, slot := 2, constantValue := 0 }, { name := "skipped", type := .long, accessFlags := 18, slot := 3, constantValue := 0 }, { name := "described", type := (.object "java/util/List"), accessFlags := 18, slot := 4, constantValue := 0 }]
  methods := #[k13m0, k13m1]
  instanceTypes := #[.long, .long, .long, .long, (.object "java/util/List")]
  staticTypes := #[]
  resolved := Array.replicate 110 none
  statics := none }

def pool14 : Array CpInfo := pool [(1, .class_ 2), (0, u "java/lang/Comparable"), (0, .class_ 4), (0, u "java/lang/Object")] 7

/-- java/lang/Comparable -/
def k14 : Class := { plain "java/lang/Comparable" (some 0) with
  accessFlags := 1537
  interfaces := #[]
  cf := some (fileOf pool14 1 #[] #[] 1537 3 #[] #[])
  fields := #[]
  methods := #[]
  instanceTypes := #[]
  staticTypes := #[]
  resolved := Array.replicate 12 none
  statics := none }

def pool15 : Array CpInfo := pool [(2, .class_ 4), (1, u "java/lang/CharSequence"), (42, .class_ 48), (0, u "java/lang/CharSequence$1CodePointIterator"), (10, .class_ 60), (0, u "java/lang/CharSequence$1CharIterator"), (5, .class_ 67), (0, u "java/lang/Object")] 63

/-- java/lang/CharSequence -/
def k15 : Class := { plain "java/lang/CharSequence" (some 0) with
  accessFlags := 1537
  interfaces := #[]
  cf := some (fileOf pool15 2 #[.nestMembers #[47, 59]] #[] 1537 66 #[] #[])
  fields := #[]
  methods := #[]
  instanceTypes := #[]
  staticTypes := #[]
  resolved := Array.replicate 131 none
  statics := none }

def pool16 : Array CpInfo := pool [(1, .class_ 2), (0, u "java/lang/constant/Constable"), (0, .class_ 4), (0, u "java/lang/Object")] 6

/-- java/lang/constant/Constable -/
def k16 : Class := { plain "java/lang/constant/Constable" (some 0) with
  accessFlags := 1537
  interfaces := #[]
  cf := some (fileOf pool16 1 #[] #[] 1537 3 #[] #[])
  fields := #[]
  methods := #[]
  instanceTypes := #[]
  staticTypes := #[]
  resolved := Array.replicate 11 none
  statics := none }

def pool17 : Array CpInfo := pool [(1, .class_ 2), (0, u "java/lang/constant/ConstantDesc"), (0, .class_ 4), (0, u "java/lang/Object")] 32

/-- java/lang/constant/ConstantDesc -/
def k17 : Class := { plain "java/lang/constant/ConstantDesc" (some 0) with
  accessFlags := 1537
  interfaces := #[]
  cf := some (fileOf pool17 1 #[] #[] 1537 3 #[] #[])
  fields := #[]
  methods := #[]
  instanceTypes := #[]
  staticTypes := #[]
  resolved := Array.replicate 37 none
  statics := none }

def pool18 : Array CpInfo := pool [(1, .methodref 2 3), (0, .class_ 4), (0, .nameAndType 5 6), (0, u "java/lang/Object"), (0, u "<init>"), (0, u "()V"), (2, .fieldref 10 11), (0, .class_ 12), (0, .nameAndType 13 14), (0, u "java/lang/String"), (0, u "value"), (0, u "[B"), (0, .fieldref 10 16), (0, .nameAndType 17 18), (0, u "coder"), (0, u "B"), (2, u "hash"), (0, u "I"), (2, u "hashIsZero"), (0, u "Z"), (0, .methodref 10 28), (0, .nameAndType 5 29), (0, u "([CIILjava/lang/Void;)V"), (8, .fieldref 10 39), (0, .nameAndType 40 26), (0, u "COMPACT_STRINGS"), (1, .class_ 44), (1, u "java/lang/StringUTF16"), (0, u "compress"), (1, .methodref 42 48), (0, .nameAndType 49 50), (0, u "coderFromArrayLen"), (0, u "([BI)B"), (126, .methodref 42 178), (0, .nameAndType 45 179), (0, u "([CII)[B"), (395, .class_ 576), (0, u "java/lang/CharSequence"), (22, u "CASE_INSENSITIVE_ORDER"), (0, u "Ljava/util/Comparator;"), (409, u "([C)V"), (90, u "serialPersistentFields"), (0, u "[Ljava/io/ObjectStreamField;"), (0, .class_ 1104), (0, u "java/lang/String$CaseInsensitiveComparator"), (1, .class_ 1107), (0, u "java/io/Serializable"), (0, .class_ 1109), (0, u "java/lang/Comparable"), (0, .class_ 1111), (0, u "java/lang/constant/Constable"), (0, .class_ 1113), (0, u "java/lang/constant/ConstantDesc"), (2, u "serialVersionUID"), (0, u "J"), (3, u "REPL"), (0, u "C"), (2, u "LATIN1"), (1, u "UTF16")] 323

def k18m0 : Method := { name := "<init>", desc := "()V", sig := { parameters := [], returnType := none }, accessFlags := 1, code := none }
def k18c1 : Code := { maxStack := 5, maxLocals := 2, code := jdk_42_method_3_code, exceptionTable := #[], attributes := #[] }
def k18m1 : Method := { name := "<init>", desc := "([C)V", sig := { parameters := [(.array .char)], returnType := none }, accessFlags := 1, code := some k18c1 }
def k18c2 : Code := { maxStack := 4, maxLocals := 6, code := jdk_42_method_149_code, exceptionTable := #[], attributes := #[] }
def k18m2 : Method := { name := "<init>", desc := "([CIILjava/lang/Void;)V", sig := { parameters := [(.array .char), .int, .int, (.object "java/lang/Void")], returnType := none }, accessFlags := 2, code := some k18c2 }
/-- java/lang/String -/
def k18 : Class := { plain "java/lang/String" (some 0) with
  accessFlags := 49
  interfaces := #[10, 14, 15, 16, 17]
  cf := some (fileOf pool18 10 #[.nestMembers #[1103]] #[{ accessFlags := 1, nameIndex := 5, descriptorIndex := 6, attributes := #[] }, { accessFlags := 1, nameIndex := 5, descriptorIndex := 1010, attributes := #[] }, { accessFlags := 2, nameIndex := 5, descriptorIndex := 29, attributes := #[] }] 49 2 #[1106, 1108, 575, 1110, 1112] #[{ accessFlags := 18, nameIndex := 13, descriptorIndex := 14, attributes := #[] }, { accessFlags := 18, nameIndex := 17, descriptorIndex := 18, attributes := #[] }, { accessFlags := 2, nameIndex := 21, descriptorIndex := 22, attributes := #[] }, { accessFlags := 2, nameIndex := 25, descriptorIndex := 26, attributes := #[] }, { accessFlags := 26, nameIndex := 1116, descriptorIndex := 1117, attributes := #[] }, { accessFlags := 24, nameIndex := 40, descriptorIndex := 26, attributes := #[] }, { accessFlags := 26, nameIndex := 1101, descriptorIndex := 1102, attributes := #[] }, { accessFlags := 26, nameIndex := 1121, descriptorIndex := 1122, attributes := #[] }, { accessFlags := 25, nameIndex := 599, descriptorIndex := 600, attributes := #[] }, { accessFlags := 24, nameIndex := 1125, descriptorIndex := 18, attributes := #[] }, { accessFlags := 24, nameIndex := 1127, descriptorIndex := 18, attributes := #[] }])
  fields := #[{ name := "value", type := (.array .byte), accessFlags := 18, slot := 0, constantValue := 0 }, { name := "coder", type := .byte, accessFlags := 18, slot := 1, constantValue := 0 }, { name := "hash", type := .int, accessFlags := 2, slot := 2, constantValue := 0 }, { name := "hashIsZero", type := .boolean, accessFlags := 2, slot := 3, constantValue := 0 }, { name := "serialVersionUID", type := .long, accessFlags := 26, slot := 0, constantValue := 0 }, { name := "COMPACT_STRINGS", type := .boolean, accessFlags := 24, slot := 1, constantValue := 0 }, { name := "serialPersistentFields", type := (.array (.object "java/io/ObjectStreamField")), accessFlags := 26, slot := 2, constantValue := 0 }, { name := "REPL", type := .char, accessFlags := 26, slot := 3, constantValue := 0 }, { name := "CASE_INSENSITIVE_ORDER", type := (.object "java/util/Comparator"), accessFlags := 25, slot := 4, constantValue := 0 }, { name := "LATIN1", type := .byte, accessFlags := 24, slot := 5, constantValue := 0 }, { name := "UTF16", type := .byte, accessFlags := 24, slot := 6, constantValue := 0 }]
  methods := #[k18m0, k18m1, k18m2]
  instanceTypes := #[(.array .byte), .byte, .int, .boolean]
  staticTypes := #[.long, .boolean, (.array (.object "java/io/ObjectStreamField")), .char, (.object "java/util/Comparator"), .byte, .byte]
  resolved := Array.replicate 1451 none
  statics := some 1 }

def pool19 : Array CpInfo := pool [(6, .class_ 8), (1, u "java/lang/Object"), (0, u "<init>"), (0, u "()V"), (1, .class_ 14), (1, u "java/lang/StringUTF16"), (31, u "$assertionsDisabled"), (0, u "Z"), (13, u "HI_BYTE_SHIFT"), (0, u "I"), (2, u "LO_BYTE_SHIFT"), (49, .methodref 12 116), (0, .nameAndType 117 118), (0, u "compress"), (0, u "([CI[BII)I"), (3, u "([CII)[B"), (138, u "coderFromArrayLen"), (0, u "([BI)B"), (106, .class_ 371), (1, u "java/lang/StringUTF16$LinesSpliterator"), (58, u "MAX_LENGTH"), (196, .class_ 628), (0, u "java/lang/StringUTF16$CodePointsSpliterator"), (0, .class_ 630), (0, u "java/lang/StringUTF16$CharsSpliterator")] 4

def k19m0 : Method := { name := "<init>", desc := "()V", sig := { parameters := [], returnType := none }, accessFlags := 0, code := none }
def k19c1 : Code := { maxStack := 2, maxLocals := 2, code := jdk_52_method_15_code, exceptionTable := #[], attributes := #[] }
def k19m1 : Method := { name := "coderFromArrayLen", desc := "([BI)B", sig := { parameters := [(.array .byte), .int], returnType := some .byte }, accessFlags := 8, code := some k19c1 }
def k19c2 : Code := { maxStack := 5, maxLocals := 6, code := jdk_52_method_16_code, exceptionTable := #[], attributes := #[] }
def k19m2 : Method := { name := "compress", desc := "([CII)[B", sig := { parameters := [(.array .char), .int, .int], returnType := some (.array .byte) }, accessFlags := 9, code := some k19c2 }
def k19c3 : Code := { maxStack := 3, maxLocals := 7, code := jdk_52_method_21_code, exceptionTable := #[], attributes := #[] }
def k19m3 : Method := { name := "compress", desc := "([CI[BII)I", sig := { parameters := [(.array .char), .int, (.array .byte), .int, .int], returnType := some .int }, accessFlags := 9, code := some k19c3 }
/-- java/lang/StringUTF16 -/
def k19 : Class := { plain "java/lang/StringUTF16" (some 0) with
  accessFlags := 48
  interfaces := #[]
  cf := some (fileOf pool19 12 #[.nestMembers #[627, 629, 369]] #[{ accessFlags := 0, nameIndex := 9, descriptorIndex := 10, attributes := #[] }, { accessFlags := 8, nameIndex := 261, descriptorIndex := 262, attributes := #[] }, { accessFlags := 9, nameIndex := 117, descriptorIndex := 122, attributes := #[] }, { accessFlags := 9, nameIndex := 117, descriptorIndex := 118, attributes := #[] }] 48 6 #[] #[{ accessFlags := 26, nameIndex := 61, descriptorIndex := 62, attributes := #[] }, { accessFlags := 26, nameIndex := 65, descriptorIndex := 62, attributes := #[] }, { accessFlags := 24, nameIndex := 430, descriptorIndex := 62, attributes := #[] }, { accessFlags := 4120, nameIndex := 46, descriptorIndex := 47, attributes := #[] }])
  fields := #[{ name := "HI_BYTE_SHIFT", type := .int, accessFlags := 26, slot := 0, constantValue := 0 }, { name := "LO_BYTE_SHIFT", type := .int, accessFlags := 26, slot := 1, constantValue := 0 }, { name := "MAX_LENGTH", type := .int, accessFlags := 24, slot := 2, constantValue := 0 }, { name := "$assertionsDisabled", type := .boolean, accessFlags := 4120, slot := 3, constantValue := 0 }]
  methods := #[k19m0, k19m1, k19m2, k19m3]
  instanceTypes := #[]
  staticTypes := #[.int, .int, .int, .boolean]
  resolved := Array.replicate 635 none
  statics := none }

def pool20 : Array CpInfo := pool [(1, .class_ 2), (0, u "java/lang/Math"), (1, .class_ 6), (1, u "java/lang/Object"), (0, u "<init>"), (0, u "()V"), (89, .class_ 100), (1, u "java/lang/Math$RandomNumberGeneratorHolder"), (71, u "negativeZeroFloatBits"), (0, u "J"), (2, u "negativeZeroDoubleBits"), (21, u "max"), (46, u "$assertionsDisabled"), (0, u "Z"), (88, u "(II)I"), (2, u "twoToTheDoubleScaleDown"), (0, u "D"), (4, u "twoToTheDoubleScaleUp"), (9, u "E"), (3, u "PI"), (2, u "TAU"), (2, u "DEGREES_TO_RADIANS"), (0, u "RADIANS_TO_DEGREES")] 94

def k20m0 : Method := { name := "<init>", desc := "()V", sig := { parameters := [], returnType := none }, accessFlags := 2, code := none }
def k20c1 : Code := { maxStack := 2, maxLocals := 2, code := jdk_29_method_65_code, exceptionTable := #[], attributes := #[] }
def k20m1 : Method := { name := "max", desc := "(II)I", sig := { parameters := [.int, .int], returnType := some .int }, accessFlags := 9, code := some k20c1 }
/-- java/lang/Math -/
def k20 : Class := { plain "java/lang/Math" (some 0) with
  accessFlags := 49
  interfaces := #[]
  cf := some (fileOf pool20 1 #[.nestMembers #[98]] #[{ accessFlags := 2, nameIndex := 7, descriptorIndex := 8, attributes := #[] }, { accessFlags := 9, nameIndex := 198, descriptorIndex := 335, attributes := #[] }] 49 4 #[] #[{ accessFlags := 25, nameIndex := 354, descriptorIndex := 339, attributes := #[] }, { accessFlags := 25, nameIndex := 358, descriptorIndex := 339, attributes := #[] }, { accessFlags := 25, nameIndex := 361, descriptorIndex := 339, attributes := #[] }, { accessFlags := 26, nameIndex := 364, descriptorIndex := 339, attributes := #[] }, { accessFlags := 26, nameIndex := 365, descriptorIndex := 339, attributes := #[] }, { accessFlags := 26, nameIndex := 172, descriptorIndex := 173, attributes := #[] }, { accessFlags := 26, nameIndex := 176, descriptorIndex := 173, attributes := #[] }, { accessFlags := 8, nameIndex := 344, descriptorIndex := 339, attributes := #[] }, { accessFlags := 8, nameIndex := 338, descriptorIndex := 339, attributes := #[] }, { accessFlags := 4120, nameIndex := 245, descriptorIndex := 246, attributes := #[] }])
  fields := #[{ name := "E", type := .double, accessFlags := 25, slot := 0, constantValue := 0 }, { name := "PI", type := .double, accessFlags := 25, slot := 1, constantValue := 0 }, { name := "TAU", type := .double, accessFlags := 25, slot := 2, constantValue := 0 }, { name := "DEGREES_TO_RADIANS", type := .double, accessFlags := 26, slot := 3, constantValue := 0 }, { name := "RADIANS_TO_DEGREES", type := .double, accessFlags := 26, slot := 4, constantValue := 0 }, { name := "negativeZeroFloatBits", type := .long, accessFlags := 26, slot := 5, constantValue := 0 }, { name := "negativeZeroDoubleBits", type := .long, accessFlags := 26, slot := 6, constantValue := 0 }, { name := "twoToTheDoubleScaleUp", type := .double, accessFlags := 8, slot := 7, constantValue := 0 }, { name := "twoToTheDoubleScaleDown", type := .double, accessFlags := 8, slot := 8, constantValue := 0 }, { name := "$assertionsDisabled", type := .boolean, accessFlags := 4120, slot := 9, constantValue := 0 }]
  methods := #[k20m0, k20m1]
  instanceTypes := #[]
  staticTypes := #[.double, .double, .double, .double, .double, .long, .long, .double, .double, .boolean]
  resolved := Array.replicate 460 none
  statics := none }

def pool21 : Array CpInfo := pool [(4, .class_ 6), (1, u "java/lang/Object"), (0, u "<init>"), (0, u "()V"), (5, .class_ 16), (1, u "java/lang/StringLatin1"), (104, u "$assertionsDisabled"), (0, u "Z"), (98, .class_ 223), (1, u "java/lang/StringLatin1$LinesSpliterator"), (166, .class_ 391), (0, u "java/lang/StringLatin1$CharsSpliterator")] 3

def k21m0 : Method := { name := "<init>", desc := "()V", sig := { parameters := [], returnType := none }, accessFlags := 0, code := none }
/-- java/lang/StringLatin1 -/
def k21 : Class := { plain "java/lang/StringLatin1" (some 0) with
  accessFlags := 48
  interfaces := #[]
  cf := some (fileOf pool21 14 #[.nestMembers #[390, 221]] #[{ accessFlags := 0, nameIndex := 7, descriptorIndex := 8, attributes := #[] }] 48 4 #[] #[{ accessFlags := 4120, nameIndex := 121, descriptorIndex := 122, attributes := #[] }])
  fields := #[{ name := "$assertionsDisabled", type := .boolean, accessFlags := 4120, slot := 0, constantValue := 0 }]
  methods := #[k21m0]
  instanceTypes := #[]
  staticTypes := #[.boolean]
  resolved := Array.replicate 395 none
  statics := none }

def pool22 : Array CpInfo := pool [(2, .class_ 4), (1, u "java/lang/Object"), (0, u "<init>"), (0, u "()V"), (17, .class_ 26), (1, u "jdk/internal/util/Preconditions"), (28, .class_ 56), (0, u "jdk/internal/util/Preconditions$4"), (57, .class_ 115), (0, u "jdk/internal/util/Preconditions$1"), (7, u "SIOOBE_FORMATTER"), (0, u "Ljava/util/function/BiFunction;"), (0, .class_ 126), (0, u "jdk/internal/util/Preconditions$2"), (3, u "AIOOBE_FORMATTER"), (0, .class_ 132), (0, u "jdk/internal/util/Preconditions$3"), (3, u "IOOBE_FORMATTER")] 57

def k22m0 : Method := { name := "<init>", desc := "()V", sig := { parameters := [], returnType := none }, accessFlags := 1, code := none }
/-- jdk/internal/util/Preconditions -/
def k22 : Class := { plain "jdk/internal/util/Preconditions" (some 0) with
  accessFlags := 33
  interfaces := #[]
  cf := some (fileOf pool22 24 #[.nestMembers #[55, 131, 125, 114]] #[{ accessFlags := 1, nameIndex := 5, descriptorIndex := 6, attributes := #[] }] 33 2 #[] #[{ accessFlags := 25, nameIndex := 123, descriptorIndex := 124, attributes := #[] }, { accessFlags := 25, nameIndex := 130, descriptorIndex := 124, attributes := #[] }, { accessFlags := 25, nameIndex := 136, descriptorIndex := 124, attributes := #[] }])
  fields := #[{ name := "SIOOBE_FORMATTER", type := (.object "java/util/function/BiFunction"), accessFlags := 25, slot := 0, constantValue := 0 }, { name := "AIOOBE_FORMATTER", type := (.object "java/util/function/BiFunction"), accessFlags := 25, slot := 1, constantValue := 0 }, { name := "IOOBE_FORMATTER", type := (.object "java/util/function/BiFunction"), accessFlags := 25, slot := 2, constantValue := 0 }]
  methods := #[k22m0]
  instanceTypes := #[]
  staticTypes := #[(.object "java/util/function/BiFunction"), (.object "java/util/function/BiFunction"), (.object "java/util/function/BiFunction")]
  resolved := Array.replicate 194 none
  statics := some 2 }

def pool23 : Array CpInfo := pool [(9, u "<init>"), (6, .class_ 18), (1, u "java/lang/Object"), (0, u "()V"), (1, .class_ 23), (1, u "jdk/internal/util/ArraysSupport"), (0, u "LOG2_ARRAY_LONG_INDEX_SCALE"), (0, u "I"), (2, u "U"), (0, u "Ljdk/internal/misc/Unsafe;"), (8, u "BIG_ENDIAN"), (0, u "Z"), (8, u "LOG2_BYTE_BIT_SIZE"), (4, u "LOG2_ARRAY_INT_INDEX_SCALE"), (54, u "JLA"), (0, u "Ljdk/internal/access/JavaLangAccess;"), (11, u "LOG2_ARRAY_BOOLEAN_INDEX_SCALE"), (9, u "LOG2_ARRAY_BYTE_INDEX_SCALE"), (5, u "LOG2_ARRAY_CHAR_INDEX_SCALE"), (5, u "LOG2_ARRAY_SHORT_INDEX_SCALE"), (18, u "LOG2_ARRAY_FLOAT_INDEX_SCALE"), (24, u "LOG2_ARRAY_DOUBLE_INDEX_SCALE"), (89, u "T_BOOLEAN"), (2, u "T_CHAR"), (1, u "T_FLOAT"), (1, u "T_DOUBLE"), (1, u "T_BYTE"), (1, u "T_SHORT"), (1, u "T_INT"), (1, u "T_LONG"), (1, u "SOFT_MAX_ARRAY_LENGTH")] 83

def k23m0 : Method := { name := "<init>", desc := "()V", sig := { parameters := [], returnType := none }, accessFlags := 2, code := none }
/-- jdk/internal/util/ArraysSupport -/
def k23 : Class := { plain "jdk/internal/util/ArraysSupport" (some 0) with
  accessFlags := 33
  interfaces := #[]
  cf := some (fileOf pool23 21 #[] #[{ accessFlags := 2, nameIndex := 9, descriptorIndex := 19, attributes := #[] }] 33 16 #[] #[{ accessFlags := 24, nameIndex := 28, descriptorIndex := 29, attributes := #[] }, { accessFlags := 26, nameIndex := 38, descriptorIndex := 39, attributes := #[] }, { accessFlags := 25, nameIndex := 121, descriptorIndex := 25, attributes := #[] }, { accessFlags := 25, nameIndex := 131, descriptorIndex := 25, attributes := #[] }, { accessFlags := 25, nameIndex := 137, descriptorIndex := 25, attributes := #[] }, { accessFlags := 25, nameIndex := 143, descriptorIndex := 25, attributes := #[] }, { accessFlags := 25, nameIndex := 53, descriptorIndex := 25, attributes := #[] }, { accessFlags := 25, nameIndex := 24, descriptorIndex := 25, attributes := #[] }, { accessFlags := 25, nameIndex := 162, descriptorIndex := 25, attributes := #[] }, { accessFlags := 25, nameIndex := 187, descriptorIndex := 25, attributes := #[] }, { accessFlags := 26, nameIndex := 48, descriptorIndex := 25, attributes := #[] }, { accessFlags := 25, nameIndex := 277, descriptorIndex := 25, attributes := #[] }, { accessFlags := 25, nameIndex := 280, descriptorIndex := 25, attributes := #[] }, { accessFlags := 25, nameIndex := 282, descriptorIndex := 25, attributes := #[] }, { accessFlags := 25, nameIndex := 284, descriptorIndex := 25, attributes := #[] }, { accessFlags := 25, nameIndex := 286, descriptorIndex := 25, attributes := #[] }, { accessFlags := 25, nameIndex := 288, descriptorIndex := 25, attributes := #[] }, { accessFlags := 25, nameIndex := 290, descriptorIndex := 25, attributes := #[] }, { accessFlags := 25, nameIndex := 292, descriptorIndex := 25, attributes := #[] }, { accessFlags := 26, nameIndex := 108, descriptorIndex := 109, attributes := #[] }, { accessFlags := 25, nameIndex := 294, descriptorIndex := 25, attributes := #[] }])
  fields := #[{ name := "U", type := (.object "jdk/internal/misc/Unsafe"), accessFlags := 24, slot := 0, constantValue := 0 }, { name := "BIG_ENDIAN", type := .boolean, accessFlags := 26, slot := 1, constantValue := 0 }, { name := "LOG2_ARRAY_BOOLEAN_INDEX_SCALE", type := .int, accessFlags := 25, slot := 2, constantValue := 0 }, { name := "LOG2_ARRAY_BYTE_INDEX_SCALE", type := .int, accessFlags := 25, slot := 3, constantValue := 0 }, { name := "LOG2_ARRAY_CHAR_INDEX_SCALE", type := .int, accessFlags := 25, slot := 4, constantValue := 0 }, { name := "LOG2_ARRAY_SHORT_INDEX_SCALE", type := .int, accessFlags := 25, slot := 5, constantValue := 0 }, { name := "LOG2_ARRAY_INT_INDEX_SCALE", type := .int, accessFlags := 25, slot := 6, constantValue := 0 }, { name := "LOG2_ARRAY_LONG_INDEX_SCALE", type := .int, accessFlags := 25, slot := 7, constantValue := 0 }, { name := "LOG2_ARRAY_FLOAT_INDEX_SCALE", type := .int, accessFlags := 25, slot := 8, constantValue := 0 }, { name := "LOG2_ARRAY_DOUBLE_INDEX_SCALE", type := .int, accessFlags := 25, slot := 9, constantValue := 0 }, { name := "LOG2_BYTE_BIT_SIZE", type := .int, accessFlags := 26, slot := 10, constantValue := 0 }, { name := "T_BOOLEAN", type := .int, accessFlags := 25, slot := 11, constantValue := 0 }, { name := "T_CHAR", type := .int, accessFlags := 25, slot := 12, constantValue := 0 }, { name := "T_FLOAT", type := .int, accessFlags := 25, slot := 13, constantValue := 0 }, { name := "T_DOUBLE", type := .int, accessFlags := 25, slot := 14, constantValue := 0 }, { name := "T_BYTE", type := .int, accessFlags := 25, slot := 15, constantValue := 0 }, { name := "T_SHORT", type := .int, accessFlags := 25, slot := 16, constantValue := 0 }, { name := "T_INT", type := .int, accessFlags := 25, slot := 17, constantValue := 0 }, { name := "T_LONG", type := .int, accessFlags := 25, slot := 18, constantValue := 0 }, { name := "JLA", type := (.object "jdk/internal/access/JavaLangAccess"), accessFlags := 26, slot := 19, constantValue := 0 }, { name := "SOFT_MAX_ARRAY_LENGTH", type := .int, accessFlags := 25, slot := 20, constantValue := 0 }]
  methods := #[k23m0]
  instanceTypes := #[]
  staticTypes := #[(.object "jdk/internal/misc/Unsafe"), .boolean, .int, .int, .int, .int, .int, .int, .int, .int, .int, .int, .int, .int, .int, .int, .int, .int, .int, (.object "jdk/internal/access/JavaLangAccess"), .int]
  resolved := Array.replicate 378 none
  statics := none }

/-- the primitive byte -/
def k24 : Class := { plain "byte" none with kind := .primitive 'B', accessFlags := 0x411 }
/-- [B -/
def k25 : Class := { plain "[B" (some 0) with kind := .array 24 .byte, interfaces := #[9, 10], accessFlags := 1041 }

/-- the primitive char -/
def k26 : Class := { plain "char" none with kind := .primitive 'C', accessFlags := 0x411 }
/-- [C -/
def k27 : Class := { plain "[C" (some 0) with kind := .array 26 .char, interfaces := #[9, 10], accessFlags := 1041 }

/-- the primitive int -/
def k28 : Class := { plain "int" none with kind := .primitive 'I', accessFlags := 0x411 }
/-- [I -/
def k29 : Class := { plain "[I" (some 0) with kind := .array 28 .int, interfaces := #[9, 10], accessFlags := 1041 }

/-- [Ljava/lang/Object; -/
def k30 : Class := { plain "[Ljava/lang/Object;" (some 0) with kind := .array 0 (.object "java/lang/Object"), interfaces := #[9, 10], accessFlags := 1041 }

def heap : Heap := #[{ cls := 11, slots := #[.long 0, .int 0, .ref 3, .ref 4], vm := .statics 11 },
  { cls := 18, slots := #[.long 0, .int 1, .null, .int 0, .null, .int 0, .int 0], vm := .statics 18 },
  { cls := 22, slots := #[.null, .null, .null], vm := .statics 22 },
  { cls := 30, slots := #[], vm := .none },
  { cls := 30, slots := #[], vm := .none }]
def classes : Array Class := #[k0, k1, k2, k3, k4, k5, k6, k7, k8, k9, k10, k11, k12, k13, k14, k15, k16, k17, k18, k19, k20, k21, k22, k23, k24, k25, k26, k27, k28, k29, k30]
def interned : List (Array UInt16 × Addr) := []
def slotsUsed : Nat := 14
def theMethod : MethodId := ⟨1, 1⟩
def args0 : Array Value := #[.long 5, .long 3, .long 2, .long 7, .int 9, .int 4]
def aboutOver (below : List Frame) : State where
  vm := { classes := classes, interned := interned.toArray }
  heap := heap
  slotsUsed := slotsUsed
  threads := #[{ frames := .invoking theMethod args0 :: below }]
def below0 : List Frame := [.native { method := ⟨0, 0⟩, args := #[] }]
def about1 : State := aboutOver below0
def p0 : Program := .bare "" "" ""
def e0 : Env := launch0.env 0 0 0
theorem w_frames : about1.frames = Frame.invoking theMethod args0 :: below0 := rfl
set_option maxRecDepth 65536 in
theorem w_args : argsFit about1.vm theMethod args0 = true := by decide +kernel
set_option maxRecDepth 65536 in
theorem w_heap : heapFits about1 = true := by decide +kernel
set_option maxRecDepth 65536 in
theorem w_runnable : about1.curStatus? = some .runnable := by decide +kernel
set_option maxRecDepth 65536 in
theorem w_alone : about1.alone = true := by decide +kernel
set_option maxRecDepth 65536 in
theorem w_named : about1.methodNamed? x = some theMethod := by decide +kernel
set_option maxRecDepth 65536 in
theorem w_hears : about1.hears theMethod below0 = true := by decide +kernel
set_option maxRecDepth 65536 in
theorem w_ripe : about1.ripe theMethod args0 below0 = true := by decide +kernel
theorem w_running : about1.status = .running := rfl
set_option maxRecDepth 65536 in
theorem w_room : about1.hasRoom e0.platform room_1 = true :=
  launch0.hasRoom_least _ room_1 (by decide +kernel) (by decide +kernel) (by decide +kernel) (by decide +kernel) (by decide +kernel) (by decide +kernel)
theorem allAtoms_all (ts : List Jvm.Cond) (a : Array Jvm.Value) (st : Jvm.State) : (allAtoms ts).before a st = ts.all (fun c => c.before a st) := by
  induction ts with
  | nil => rfl
  | cons c t ih =>
    show (Jvm.Cond.and c (allAtoms t)).before a st = _
    rw [Jvm.Cond.before_and, ih, List.all_cons]
def words1 : List Jvm.Cond := Jvm.Cond.code x code maxLocals ret :: tables_1
/-- a 'code' word, met by the world's own term for the bytes: nothing is compared byte by byte -/
theorem code_word {y : MethodName} {bytes : ByteArray} {mx : Nat} {rt : Option FieldType} {a : Array Value} {s : State} {m : MethodId} {meth : Method} {c : Code} (h1 : s.methodNamed? y = some m) (h2 : s.vm.method? m = some meth) (h3 : meth.code = some c) (h4 : c.code = bytes)
    (h5 : (c.maxLocals == mx && c.exceptionTable.isEmpty && decide (c.maxStack ≤ mostOperands) && decide (meth.sig.returnType = rt) && !meth.locks && decide (parseMethodDescriptor y.desc = some meth.sig)) = true) : (Jvm.Cond.code y bytes mx rt).before a s = true := by
  simp only [Bool.and_eq_true, beq_iff_eq, Bool.not_eq_true', decide_eq_true_eq] at h5
  obtain ⟨⟨⟨⟨⟨g1, g2⟩, g3⟩, g4⟩, g5⟩, g6⟩ := h5
  simp [Cond.before, Cond.holds, Cond.value, h1, h2, h3, h4, g1, g2, g3, g4, g5, g6]
def isCode : Jvm.Cond → Bool
  | .code _ _ _ _ => true
  | _ => false
theorem all_split {L : List Jvm.Cond} {P : Jvm.Cond → Bool} (h1 : L.all (fun c => isCode c || P c) = true) (h2 : ∀ c ∈ L.filter isCode, P c = true) : L.all P = true := by
  refine List.all_eq_true.mpr fun c hc => ?_
  have h := List.all_eq_true.mp h1 c hc
  rcases Bool.eq_false_or_eq_true (isCode c) with hi | hi
  · exact h2 c (List.mem_filter.mpr ⟨hc, hi⟩)
  · simpa [hi] using h
set_option maxRecDepth 65536 in
theorem w_c0 : (Jvm.Cond.code x code maxLocals ret).before args0 about1 = true := code_word (m := ⟨1, 1⟩) (meth := k1m1) (c := k1c1) (by decide +kernel) rfl rfl rfl (by decide +kernel)
set_option maxRecDepth 65536 in
theorem w_c1 : (Jvm.Cond.code ({ cls := "java/util/ArrayList", name := "<init>", desc := "()V" } : Jvm.MethodName) jdk_38_method_2_code (1 : Nat) (Option.none : Option Jvm.ClassFile.FieldType)).before args0 about1 = true := code_word (m := ⟨11, 0⟩) (meth := k11m0) (c := k11c0) (by decide +kernel) rfl rfl rfl (by decide +kernel)
set_option maxRecDepth 65536 in
theorem w_c2 : (Jvm.Cond.code ({ cls := "java/util/AbstractList", name := "<init>", desc := "()V" } : Jvm.MethodName) jdk_39_method_1_code (1 : Nat) (Option.none : Option Jvm.ClassFile.FieldType)).before args0 about1 = true := code_word (m := ⟨7, 0⟩) (meth := k7m0) (c := k7c0) (by decide +kernel) rfl rfl rfl (by decide +kernel)
set_option maxRecDepth 65536 in
theorem w_c3 : (Jvm.Cond.code ({ cls := "java/util/AbstractCollection", name := "<init>", desc := "()V" } : Jvm.MethodName) jdk_22_method_1_code (1 : Nat) (Option.none : Option Jvm.ClassFile.FieldType)).before args0 about1 = true := code_word (m := ⟨4, 0⟩) (meth := k4m0) (c := k4c0) (by decide +kernel) rfl rfl rfl (by decide +kernel)
set_option maxRecDepth 65536 in
theorem w_c4 : (Jvm.Cond.code ({ cls := "java/lang/Object", name := "<init>", desc := "()V" } : Jvm.MethodName) object_method_1_code (1 : Nat) (Option.none : Option Jvm.ClassFile.FieldType)).before args0 about1 = true := code_word (m := ⟨0, 0⟩) (meth := k0m0) (c := k0c0) (by decide +kernel) rfl rfl rfl (by decide +kernel)
set_option maxRecDepth 65536 in
theorem w_c5 : (Jvm.Cond.code ({ cls := "com/example/intervale/intervale/bench/Verifier$Verification", name := "<init>", desc := "(JJJJLjava/util/List;)V" } : Jvm.MethodName) prog_32_method_1_code (10 : Nat) (Option.none : Option Jvm.ClassFile.FieldType)).before args0 about1 = true := code_word (m := ⟨13, 0⟩) (meth := k13m0) (c := k13c0) (by decide +kernel) rfl rfl rfl (by decide +kernel)
set_option maxRecDepth 65536 in
theorem w_c6 : (Jvm.Cond.code ({ cls := "java/lang/Record", name := "<init>", desc := "()V" } : Jvm.MethodName) jdk_30_method_1_code (1 : Nat) (Option.none : Option Jvm.ClassFile.FieldType)).before args0 about1 = true := code_word (m := ⟨12, 0⟩) (meth := k12m0) (c := k12c0) (by decide +kernel) rfl rfl rfl (by decide +kernel)
set_option maxRecDepth 65536 in
theorem w_c7 : (Jvm.Cond.code ({ cls := "com/example/intervale/intervale/bench/Verifier$Verification", name := "passed", desc := "()Z" } : Jvm.MethodName) prog_32_method_2_code (1 : Nat) (Option.some Jvm.ClassFile.FieldType.boolean)).before args0 about1 = true := code_word (m := ⟨13, 1⟩) (meth := k13m1) (c := k13c1) (by decide +kernel) rfl rfl rfl (by decide +kernel)
set_option maxRecDepth 65536 in
theorem w_c8 : (Jvm.Cond.code ({ cls := "java/lang/String", name := "<init>", desc := "([C)V" } : Jvm.MethodName) jdk_42_method_3_code (2 : Nat) (Option.none : Option Jvm.ClassFile.FieldType)).before args0 about1 = true := code_word (m := ⟨18, 1⟩) (meth := k18m1) (c := k18c1) (by decide +kernel) rfl rfl rfl (by decide +kernel)
set_option maxRecDepth 65536 in
theorem w_c9 : (Jvm.Cond.code ({ cls := "java/lang/String", name := "<init>", desc := "([CIILjava/lang/Void;)V" } : Jvm.MethodName) jdk_42_method_149_code (6 : Nat) (Option.none : Option Jvm.ClassFile.FieldType)).before args0 about1 = true := code_word (m := ⟨18, 2⟩) (meth := k18m2) (c := k18c2) (by decide +kernel) rfl rfl rfl (by decide +kernel)
set_option maxRecDepth 65536 in
theorem w_c10 : (Jvm.Cond.code ({ cls := "java/lang/StringUTF16", name := "compress", desc := "([CII)[B" } : Jvm.MethodName) jdk_52_method_16_code (6 : Nat) (Option.some (Jvm.ClassFile.FieldType.array Jvm.ClassFile.FieldType.byte))).before args0 about1 = true := code_word (m := ⟨19, 2⟩) (meth := k19m2) (c := k19c2) (by decide +kernel) rfl rfl rfl (by decide +kernel)
set_option maxRecDepth 65536 in
theorem w_c11 : (Jvm.Cond.code ({ cls := "java/lang/StringUTF16", name := "compress", desc := "([CI[BII)I" } : Jvm.MethodName) jdk_52_method_21_code (7 : Nat) (Option.some Jvm.ClassFile.FieldType.int)).before args0 about1 = true := code_word (m := ⟨19, 3⟩) (meth := k19m3) (c := k19c3) (by decide +kernel) rfl rfl rfl (by decide +kernel)
set_option maxRecDepth 65536 in
theorem w_c12 : (Jvm.Cond.code ({ cls := "java/lang/StringUTF16", name := "coderFromArrayLen", desc := "([BI)B" } : Jvm.MethodName) jdk_52_method_15_code (2 : Nat) (Option.some Jvm.ClassFile.FieldType.byte)).before args0 about1 = true := code_word (m := ⟨19, 1⟩) (meth := k19m1) (c := k19c1) (by decide +kernel) rfl rfl rfl (by decide +kernel)
set_option maxRecDepth 65536 in
theorem w_c13 : (Jvm.Cond.code ({ cls := "java/util/ArrayList", name := "add", desc := "(Ljava/lang/Object;)Z" } : Jvm.MethodName) jdk_38_method_25_code (2 : Nat) (Option.some Jvm.ClassFile.FieldType.boolean)).before args0 about1 = true := code_word (m := ⟨11, 4⟩) (meth := k11m4) (c := k11c4) (by decide +kernel) rfl rfl rfl (by decide +kernel)
set_option maxRecDepth 65536 in
theorem w_c14 : (Jvm.Cond.code ({ cls := "java/util/ArrayList", name := "add", desc := "(Ljava/lang/Object;[Ljava/lang/Object;I)V" } : Jvm.MethodName) jdk_38_method_24_code (4 : Nat) (Option.none : Option Jvm.ClassFile.FieldType)).before args0 about1 = true := code_word (m := ⟨11, 3⟩) (meth := k11m3) (c := k11c3) (by decide +kernel) rfl rfl rfl (by decide +kernel)
set_option maxRecDepth 65536 in
theorem w_c15 : (Jvm.Cond.code ({ cls := "java/util/ArrayList", name := "grow", desc := "()[Ljava/lang/Object;" } : Jvm.MethodName) jdk_38_method_7_code (1 : Nat) (Option.some (Jvm.ClassFile.FieldType.array (Jvm.ClassFile.FieldType.object "java/lang/Object")))).before args0 about1 = true := code_word (m := ⟨11, 2⟩) (meth := k11m2) (c := k11c2) (by decide +kernel) rfl rfl rfl (by decide +kernel)
set_option maxRecDepth 65536 in
theorem w_c16 : (Jvm.Cond.code ({ cls := "java/util/ArrayList", name := "grow", desc := "(I)[Ljava/lang/Object;" } : Jvm.MethodName) jdk_38_method_6_code (4 : Nat) (Option.some (Jvm.ClassFile.FieldType.array (Jvm.ClassFile.FieldType.object "java/lang/Object")))).before args0 about1 = true := code_word (m := ⟨11, 1⟩) (meth := k11m1) (c := k11c1) (by decide +kernel) rfl rfl rfl (by decide +kernel)
set_option maxRecDepth 65536 in
theorem w_c17 : (Jvm.Cond.code ({ cls := "java/lang/Math", name := "max", desc := "(II)I" } : Jvm.MethodName) jdk_29_method_65_code (2 : Nat) (Option.some Jvm.ClassFile.FieldType.int)).before args0 about1 = true := code_word (m := ⟨20, 1⟩) (meth := k20m1) (c := k20c1) (by decide +kernel) rfl rfl rfl (by decide +kernel)
def codes1 : List Jvm.Cond := [Jvm.Cond.code x code maxLocals ret, Jvm.Cond.code ({ cls := "java/util/ArrayList", name := "<init>", desc := "()V" } : Jvm.MethodName) jdk_38_method_2_code (1 : Nat) (Option.none : Option Jvm.ClassFile.FieldType), Jvm.Cond.code ({ cls := "java/util/AbstractList", name := "<init>", desc := "()V" } : Jvm.MethodName) jdk_39_method_1_code (1 : Nat) (Option.none : Option Jvm.ClassFile.FieldType), Jvm.Cond.code ({ cls := "java/util/AbstractCollection", name := "<init>", desc := "()V" } : Jvm.MethodName) jdk_22_method_1_code (1 : Nat) (Option.none : Option Jvm.ClassFile.FieldType), Jvm.Cond.code ({ cls := "java/lang/Object", name := "<init>", desc := "()V" } : Jvm.MethodName) object_method_1_code (1 : Nat) (Option.none : Option Jvm.ClassFile.FieldType), Jvm.Cond.code ({ cls := "com/example/intervale/intervale/bench/Verifier$Verification", name := "<init>", desc := "(JJJJLjava/util/List;)V" } : Jvm.MethodName) prog_32_method_1_code (10 : Nat) (Option.none : Option Jvm.ClassFile.FieldType), Jvm.Cond.code ({ cls := "java/lang/Record", name := "<init>", desc := "()V" } : Jvm.MethodName) jdk_30_method_1_code (1 : Nat) (Option.none : Option Jvm.ClassFile.FieldType), Jvm.Cond.code ({ cls := "com/example/intervale/intervale/bench/Verifier$Verification", name := "passed", desc := "()Z" } : Jvm.MethodName) prog_32_method_2_code (1 : Nat) (Option.some Jvm.ClassFile.FieldType.boolean), Jvm.Cond.code ({ cls := "java/lang/String", name := "<init>", desc := "([C)V" } : Jvm.MethodName) jdk_42_method_3_code (2 : Nat) (Option.none : Option Jvm.ClassFile.FieldType), Jvm.Cond.code ({ cls := "java/lang/String", name := "<init>", desc := "([CIILjava/lang/Void;)V" } : Jvm.MethodName) jdk_42_method_149_code (6 : Nat) (Option.none : Option Jvm.ClassFile.FieldType), Jvm.Cond.code ({ cls := "java/lang/StringUTF16", name := "compress", desc := "([CII)[B" } : Jvm.MethodName) jdk_52_method_16_code (6 : Nat) (Option.some (Jvm.ClassFile.FieldType.array Jvm.ClassFile.FieldType.byte)), Jvm.Cond.code ({ cls := "java/lang/StringUTF16", name := "compress", desc := "([CI[BII)I" } : Jvm.MethodName) jdk_52_method_21_code (7 : Nat) (Option.some Jvm.ClassFile.FieldType.int), Jvm.Cond.code ({ cls := "java/lang/StringUTF16", name := "coderFromArrayLen", desc := "([BI)B" } : Jvm.MethodName) jdk_52_method_15_code (2 : Nat) (Option.some Jvm.ClassFile.FieldType.byte), Jvm.Cond.code ({ cls := "java/util/ArrayList", name := "add", desc := "(Ljava/lang/Object;)Z" } : Jvm.MethodName) jdk_38_method_25_code (2 : Nat) (Option.some Jvm.ClassFile.FieldType.boolean), Jvm.Cond.code ({ cls := "java/util/ArrayList", name := "add", desc := "(Ljava/lang/Object;[Ljava/lang/Object;I)V" } : Jvm.MethodName) jdk_38_method_24_code (4 : Nat) (Option.none : Option Jvm.ClassFile.FieldType), Jvm.Cond.code ({ cls := "java/util/ArrayList", name := "grow", desc := "()[Ljava/lang/Object;" } : Jvm.MethodName) jdk_38_method_7_code (1 : Nat) (Option.some (Jvm.ClassFile.FieldType.array (Jvm.ClassFile.FieldType.object "java/lang/Object"))), Jvm.Cond.code ({ cls := "java/util/ArrayList", name := "grow", desc := "(I)[Ljava/lang/Object;" } : Jvm.MethodName) jdk_38_method_6_code (4 : Nat) (Option.some (Jvm.ClassFile.FieldType.array (Jvm.ClassFile.FieldType.object "java/lang/Object"))), Jvm.Cond.code ({ cls := "java/lang/Math", name := "max", desc := "(II)I" } : Jvm.MethodName) jdk_29_method_65_code (2 : Nat) (Option.some Jvm.ClassFile.FieldType.int)]
set_option maxRecDepth 65536 in
theorem codes_eq : words1.filter isCode = codes1 := rfl
theorem w_codes : ∀ c ∈ words1.filter isCode, c.before args0 about1 = true := by
  rw [codes_eq]
  intro c hc
  simp only [codes1, List.mem_cons, List.not_mem_nil, or_false] at hc
  rcases hc with rfl | rfl | rfl | rfl | rfl | rfl | rfl | rfl | rfl | rfl | rfl | rfl | rfl | rfl | rfl | rfl | rfl | rfl
  · exact w_c0
  · exact w_c1
  · exact w_c2
  · exact w_c3
  · exact w_c4
  · exact w_c5
  · exact w_c6
  · exact w_c7
  · exact w_c8
  · exact w_c9
  · exact w_c10
  · exact w_c11
  · exact w_c12
  · exact w_c13
  · exact w_c14
  · exact w_c15
  · exact w_c16
  · exact w_c17
set_option maxRecDepth 65536 in
theorem w_t1 : (words1.take 24).all (fun c => isCode c || c.before args0 about1) = true := by decide +kernel
set_option maxRecDepth 65536 in
theorem w_t2 : ((words1.drop 24).take 24).all (fun c => isCode c || c.before args0 about1) = true := by decide +kernel
set_option maxRecDepth 65536 in
theorem w_t3 : (((words1.drop 24).drop 24).take 24).all (fun c => isCode c || c.before args0 about1) = true := by decide +kernel
set_option maxRecDepth 65536 in
theorem w_t4 : ((((words1.drop 24).drop 24).drop 24).take 24).all (fun c => isCode c || c.before args0 about1) = true := by decide +kernel
set_option maxRecDepth 65536 in
theorem w_t5 : ((((words1.drop 24).drop 24).drop 24).drop 24).all (fun c => isCode c || c.before args0 about1) = true := by decide +kernel
theorem w_tables : (allAtoms (Jvm.Cond.code x code maxLocals ret :: tables_1)).before args0 about1 = true := by
  rw [allAtoms_all]
  show words1.all (fun c => c.before args0 about1) = true
  refine all_split ?_ w_codes
  rw [← List.take_append_drop 24 words1, List.all_append, w_t1, ← List.take_append_drop 24 (words1.drop 24), List.all_append, w_t2, ← List.take_append_drop 24 ((words1.drop 24).drop 24), List.all_append, w_t3, ← List.take_append_drop 24 (((words1.drop 24).drop 24).drop 24), List.all_append, w_t4, w_t5]
  rfl
set_option maxRecDepth 65536 in
theorem w_rest : rest_1_c.before args0 about1 = true := by decide +kernel
set_option maxRecDepth 65536 in
theorem w_case : (Jvm.Cond.and given_1 narrow_1).before args0 about1 = true := by decide +kernel
theorem w_applies : (headSpec (Jvm.Cond.code x code maxLocals ret :: tables_1) room_1).applies x e0.platform about1 = true :=
  (Spec.applies_iff w_frames).mpr ⟨w_running, w_runnable, w_alone, w_named, w_hears, w_ripe, w_room, w_tables⟩
theorem atStart : AtStart classFile x code maxLocals ret World_1 tables_1 room_1 Calls_1 rest_1 Pre_1 launch0 p0 e0 about1 theMethod args0 below0 :=
  ⟨lists_1, trivial, launch0.admits_env _ _ _, launch0.least_env, fairChoices_fair.cas, fairChoices_fair.clock, w_frames, w_args, w_heap, w_applies, trivial, w_rest, w_case⟩
end start1
theorem witness_1 : WitnessClaimed_1 := ⟨start1.p0, start1.e0, start1.about1, start1.theMethod, start1.args0, start1.below0, start1.atStart⟩
end Jvm.Pilot.@@N@@
