import JvmDerived
import JvmDerived.Pilot.@@N@@Statement
import JvmDerived.Pilot.@@N@@Code
set_option linter.unusedVariables false
set_option linter.unusedSimpArgs false
namespace Jvm.Pilot.@@N@@
open Jvm Jvm.ClassFile Sem Op Lib Jvm.Free Jvm.Stand Jvm.LawKit Jvm.RoadKit Bundle Jvm.Pilot.@@N@@.Jvm.D
section OwnLayer
variable {p : Program} {l : Launch} {e : Env} {R : Room} {s : State} {m : MethodId} {args : Array Value} {below : List Frame} {meth : Method} {c : Code} {Z : State} {a0 : Array Value} {n0 : Nat} {own nm : String} {bytes : ByteArray} {ml : Nat} {rt : Option FieldType} {Q : Option Value → Heap → Prop} {h : Heap} {cells slots pc pc' pcY : Nat} {Ls Ls' : Array Slot} {st st' : List Value}
def ushr (x y : Int32) : Int32 := (x.toUInt32 >>> (y &&& 31).toUInt32).toInt32
def ushrL (x : Int64) (y : Int32) : Int64 := (x.toUInt64 >>> (y &&& 0x3f).toInt64.toUInt64).toInt64
/-- what stays the same while a body is walked -/
def OCx (p : Program) (l : Launch) (e : Env) (R : Room) (s : State) (m : MethodId) (args : Array Value) (below : List Frame) (meth : Method) (c : Code) (Z : State) (own nm : String) (bytes : ByteArray) (ml : Nat) (rt : Option FieldType) : Prop :=
  p.tables.exec = Jvm.exec ∧ c.code = bytes ∧ c.maxLocals = ml ∧ meth.sig.returnType = rt ∧ meth.name = nm ∧ meth.locks = false ∧ s.vm.findClass own = some m.cls ∧ Z.Warmed39 s.vm
theorem OCx.ex (K : OCx p l e R s m args below meth c Z own nm bytes ml rt) : p.tables.exec = Jvm.exec := K.1
theorem OCx.by (K : OCx p l e R s m args below meth c Z own nm bytes ml rt) : c.code = bytes := K.2.1
theorem OCx.hml (K : OCx p l e R s m args below meth c Z own nm bytes ml rt) : c.maxLocals = ml := K.2.2.1
theorem OCx.hrt (K : OCx p l e R s m args below meth c Z own nm bytes ml rt) : meth.sig.returnType = rt := K.2.2.2.1
theorem OCx.hnm (K : OCx p l e R s m args below meth c Z own nm bytes ml rt) : meth.name = nm := K.2.2.2.2.1
theorem OCx.lk (K : OCx p l e R s m args below meth c Z own nm bytes ml rt) : meth.locks = false := K.2.2.2.2.2.1
theorem OCx.hown (K : OCx p l e R s m args below meth c Z own nm bytes ml rt) : s.vm.findClass own = some m.cls := K.2.2.2.2.2.2.1
theorem OCx.hZ (K : OCx p l e R s m args below meth c Z own nm bytes ml rt) : Z.Warmed39 s.vm := K.2.2.2.2.2.2.2
/-- from here the body ends as Q says -/
def OGo (p : Program) (l : Launch) (e : Env) (R : Room) (s : State) (m : MethodId) (args : Array Value) (below : List Frame) (meth : Method) (c : Code) (n0 : Nat) (Q : Option Value → Heap → Prop) (h : Heap) (cells slots pc : Nat) (Ls : Array Slot) (st : List Value) : Prop :=
  ∀ (T : State) (locs : List Loc) (k n : Nat), Stand p l e R s m args below meth c T locs k n → T.heap = h → Fr n0 locs → k ≤ cells → n ≤ slots →
    ∃ (s₂ : State) (v : Option Value) (L : List Loc), Steps p.tables e below (T.setTop (mkF m pc Ls st)) s₂ ∧ s₂.status = .running ∧ Ended s₂ below (.returned v) ∧ Q v s₂.heap ∧ Fr n0 L ∧ FrameEnd s (.returned v) s₂ L R.cells R.slots
abbrev OCon (l : Launch) (Z : State) (n0 : Nat) (y : MethodName) (bytes : ByteArray) (maxL : Nat) (ret : Option FieldType) (ws : List Jvm.Cond) (rm : Room) (as' : Array Value) (h0 : Heap) (Q : Option Value → Heap → Prop) : Prop :=
  MetFree l y (head1 (Jvm.Cond.code y bytes maxL ret :: ws) rm) (fun a U => a = as' ∧ Z.Warmed39 U.vm ∧ U.heap = h0) (fun _ _ _ _ _ => True) (fun _ U o U' => ∃ v L, o = .returned v ∧ (Q v U'.heap ∧ Fr n0 L) ∧ FrameEnd U o U' L rm.cells rm.slots)
def OV (P : Value → Heap → Prop) (v : Option Value) (h : Heap) : Prop := ∃ w, v = some w ∧ P w h
def ON (P : Heap → Prop) (v : Option Value) (h : Heap) : Prop := v = none ∧ P h
def own_lay : List Value → List Slot
  | [] => []
  | v :: vs => if v.category = 2 then .val v :: .second :: own_lay vs else .val v :: own_lay vs
theorem own_lay_fold (vs : List Value) (acc : Array Slot) : vs.foldl (fun acc v => if v.category = 2 then (acc.push (.val v)).push .second else acc.push (.val v)) acc = acc ++ (own_lay vs).toArray := by
  induction vs generalizing acc with
  | nil => simp [own_lay]
  | cons v vs ih =>
    rw [List.foldl_cons, ih]
    simp only [own_lay]
    split <;> simp
theorem own_entry (m : MethodId) {vs : List Value} {n : Nat} {L : List Slot} (h : own_lay vs ++ List.replicate (n - (own_lay vs).length) .unset = L) : entryFrame m vs.toArray n = mkF m 0 L.toArray [] := by
  unfold entryFrame mkF argsToLocals
  subst h
  simp [own_lay_fold]
theorem OCon.of {y : MethodName} {maxL : Nat} {ret : Option FieldType} {ws : List Jvm.Cond} {rm : Room} {as' : Array Value} {h0 : Heap} (hpl : plainFor y = true) (hf : ∀ m, entryFrame m as' maxL = mkF m 0 Ls [])
    (body : ∀ p e s m below meth c, OCx p l e rm s m as' below meth c Z y.cls y.name bytes maxL ret → OGo p l e rm s m as' below meth c n0 Q h0 0 0 0 Ls []) : OCon l Z n0 y bytes maxL ret ws rm as' h0 Q := by
  refine MetFree.of_bodySF hpl hisR ?_
  intro p e s m args below meth c s₁ Bd hml0 hP hK
  obtain ⟨rfl, hZ, hh⟩ := hP
  have X0 : Stand p l e rm s m _ below meth c s₁ [] 0 0 := Stand.of_body Bd
  have e0 : s₁.heap = h0 := by rw [← hh, Bd.state]; rfl
  obtain ⟨s₂, v, L, h1, h2, h3, h4, h5, h6⟩ := body p e s m below meth c ⟨Bd.exec, Bd.bytes, hml0, Bd.returns, (name_of_methodNamed Bd.named Bd.method).1, BodyLoose.notSynchronized Bd, findClass_of_methodNamed Bd.named, hZ⟩ s₁ [] 0 0 X0 e0 (Fr.nil n0) (Nat.le_refl _) (Nat.le_refl _)
  exact ⟨s₂, _, castTop (hf m) h1, h2, h3, v, L, rfl, ⟨h4, h5⟩, h6⟩
theorem OCon.mono {y : MethodName} {maxL : Nat} {ret : Option FieldType} {ws : List Jvm.Cond} {rm : Room} {as' : Array Value} {h0 : Heap} {Q' : Option Value → Heap → Prop} (H : OCon l Z n0 y bytes maxL ret ws rm as' h0 Q) (k : ∀ v h, Q v h → Q' v h) : OCon l Z n0 y bytes maxL ret ws rm as' h0 Q' := by
  intro p e ha hc hk s m args below hf happ hP hK
  obtain ⟨n, o, h1, h2, h3, v, L, h4, ⟨h5, h6⟩, h7⟩ := H p e ha hc hk s m args below hf happ hP hK
  exact ⟨n, o, h1, h2, h3, v, L, h4, ⟨k _ _ h5, h6⟩, h7⟩
theorem OGo.more {cells' slots' : Nat} (r : OGo p l e R s m args below meth c n0 Q h cells' slots' pc Ls st) (hc : cells ≤ cells') (hs : slots ≤ slots') : OGo p l e R s m args below meth c n0 Q h cells slots pc Ls st :=
  fun T locs k n X e0 N h1 h2 => r T locs k n X e0 N (Nat.le_trans h1 hc) (Nat.le_trans h2 hs)
theorem OGo.plain (hs : ∀ (T t : State), At T m c below → Steps p.tables e below (T.setTop (mkF m pc' Ls' st')) t → Steps p.tables e below (T.setTop (mkF m pc Ls st)) t) (r : OGo p l e R s m args below meth c n0 Q h cells slots pc' Ls' st') : OGo p l e R s m args below meth c n0 Q h cells slots pc Ls st := by
  intro T locs k n X e0 N h1 h2
  obtain ⟨s₂, v, L, g, r'⟩ := r T locs k n X e0 N h1 h2
  exact ⟨s₂, v, L, hs T s₂ X.here g, r'⟩
theorem OGo.same (hs : ∀ (T : State) (locs : List Loc) (k n : Nat), Stand p l e R s m args below meth c T locs k n → T.heap = h → ∃ T', Stand p l e R s m args below meth c T' locs k n ∧ T'.heap = h ∧ ∀ t, Steps p.tables e below (T'.setTop (mkF m pc' Ls' st')) t → Steps p.tables e below (T.setTop (mkF m pc Ls st)) t) (r : OGo p l e R s m args below meth c n0 Q h cells slots pc' Ls' st') : OGo p l e R s m args below meth c n0 Q h cells slots pc Ls st := by
  intro T locs k n X e0 N h1 h2
  obtain ⟨T', X', e', st'⟩ := hs T locs k n X e0
  obtain ⟨s₂, v, L, g, r'⟩ := r T' locs k n X' e' N h1 h2
  exact ⟨s₂, v, L, st' _ g, r'⟩
/-- a step that writes one place a -/
theorem OGo.write {a : Addr} {sl : Nat} {v : Value} (ga : n0 ≤ a) (hs : ∀ (T : State) (locs : List Loc) (k n : Nat), Stand p l e R s m args below meth c T locs k n → T.heap = h → ∃ T' h', Stand p l e R s m args below meth c T' (locs ++ [⟨a, sl⟩]) k n ∧ T'.heap = h' ∧ Wr h h' a sl v ∧ ∀ t, Steps p.tables e below (T'.setTop (mkF m pc' Ls' st')) t → Steps p.tables e below (T.setTop (mkF m pc Ls st)) t)
    (r : ∀ h', Wr h h' a sl v → OGo p l e R s m args below meth c n0 Q h' cells slots pc' Ls' st') : OGo p l e R s m args below meth c n0 Q h cells slots pc Ls st := by
  intro T locs k n X e0 N h1 h2
  obtain ⟨T', h', X', e', W, st'⟩ := hs T locs k n X e0
  obtain ⟨s₂, v, L, g, r'⟩ := r h' W T' _ k n X' e' (Fr.snoc X' N ga) h1 h2
  exact ⟨s₂, v, L, st' _ g, r'⟩
theorem OGo.leave {w : Option Value} (K : OCx p l e R s m args below meth c Z own nm bytes ml rt) (hv : rt = none → w = none) (hs : ∀ (T : State) (locs : List Loc) (k n : Nat) (fs : List Frame), Stand p l e R s m args below meth c T locs k n → (∀ (f : JFrame) (acts : List Action), f.method = m → f.locked = none → f.entered = [] → (doReturn e (T.setTop f) acts w).1 = T.setFrames fs) → Steps p.tables e below (T.setTop (mkF m pc Ls st)) (T.setFrames fs))
    (hc : cells ≤ R.cells) (hl : slots ≤ R.slots) (q : Q w h) : OGo p l e R s m args below meth c n0 Q h cells slots pc Ls st := by
  intro T locs k n X e0 N h1 h2
  obtain ⟨fs, hr, hrun, hended, hW, hsame⟩ := X.leave (v := w) (fun x => hv (K.hrt.symm.trans x)) K.lk
  refine ⟨_, w, locs, hs T locs k n fs X hr, hrun, hended, ?_, N, ⟨_, rfl⟩, hW, hsame.mono (Nat.le_trans h1 hc) (Nat.le_trans h2 hl)⟩
  show Q w T.heap
  rw [e0]; exact q
theorem OGo.ret {w : Value} {t : FieldType} {i : Instr} {rest : List Value} (K : OCx p l e R s m args below meth c Z own nm bytes ml (some t)) (hd : decode bytes pc = .ok (i, 1)) (hn : narrow t w = w)
    (hi : (i = .ireturn ∧ (t = .int ∨ t = .boolean ∨ t = .byte ∨ t = .char ∨ t = .short) ∧ ∃ z, w = .int z) ∨ (i = .lreturn ∧ t = .long ∧ ∃ z, w = .long z) ∨ (i = .dreturn ∧ t = .double ∧ ∃ z, w = .double z) ∨ (i = .freturn ∧ t = .float ∧ ∃ z, w = .float z) ∨ (i = .areturn ∧ t.isReference = true ∧ w.isRef = true))
    (hc : cells ≤ R.cells) (hl : slots ≤ R.slots) (q : Q (some w) h) : OGo p l e R s m args below meth c n0 Q h cells slots pc Ls (w :: rest) :=
  OGo.leave K (fun x => nomatch x) (fun T locs k n fs X hr => retOut X K.ex K.hrt hn hi (hb K.by hd) hr) hc hl q
theorem OGo.iret {z : Int32} {rest : List Value} (K : OCx p l e R s m args below meth c Z own nm bytes ml (some .int)) (hd : decode bytes pc = .ok (.ireturn, 1)) (hc : cells ≤ R.cells) (hl : slots ≤ R.slots) (q : Q (some (.int z)) h) : OGo p l e R s m args below meth c n0 Q h cells slots pc Ls (.int z :: rest) :=
  OGo.ret K hd rfl (Or.inl ⟨rfl, Or.inl rfl, z, rfl⟩) hc hl q
theorem OGo.nret {z : Int32} {t : FieldType} {rest : List Value} (K : OCx p l e R s m args below meth c Z own nm bytes ml (some t)) (ht : t = .boolean ∨ t = .byte ∨ t = .char ∨ t = .short) (hd : decode bytes pc = .ok (.ireturn, 1)) (hc : cells ≤ R.cells) (hl : slots ≤ R.slots) (q : Q (some (.int (nar t z))) h) : OGo p l e R s m args below meth c n0 Q h cells slots pc Ls (.int z :: rest) :=
  OGo.leave K (fun x => nomatch x) (fun T locs k n fs X hr => retN X K.ex K.hrt ht (hb K.by hd) hr) hc hl q
theorem OGo.lret {z : Int64} {rest : List Value} (K : OCx p l e R s m args below meth c Z own nm bytes ml (some .long)) (hd : decode bytes pc = .ok (.lreturn, 1)) (hc : cells ≤ R.cells) (hl : slots ≤ R.slots) (q : Q (some (.long z)) h) : OGo p l e R s m args below meth c n0 Q h cells slots pc Ls (.long z :: rest) :=
  OGo.ret K hd rfl (Or.inr (Or.inl ⟨rfl, rfl, z, rfl⟩)) hc hl q
theorem OGo.dret {z : UInt64} {rest : List Value} (K : OCx p l e R s m args below meth c Z own nm bytes ml (some .double)) (hd : decode bytes pc = .ok (.dreturn, 1)) (hc : cells ≤ R.cells) (hl : slots ≤ R.slots) (q : Q (some (.double z)) h) : OGo p l e R s m args below meth c n0 Q h cells slots pc Ls (.double z :: rest) :=
  OGo.ret K hd rfl (Or.inr (Or.inr (Or.inl ⟨rfl, rfl, z, rfl⟩))) hc hl q
theorem OGo.aret {w : Value} {t : FieldType} {rest : List Value} (K : OCx p l e R s m args below meth c Z own nm bytes ml (some t)) (hd : decode bytes pc = .ok (.areturn, 1)) (ht : t.isReference = true) (hw : w.isRef = true) (hc : cells ≤ R.cells) (hl : slots ≤ R.slots) (q : Q (some w) h) : OGo p l e R s m args below meth c n0 Q h cells slots pc Ls (w :: rest) :=
  OGo.ret K hd (by cases t <;> first | (cases ht; done) | (cases w <;> first | (cases hw; done) | rfl)) (Or.inr (Or.inr (Or.inr (Or.inr ⟨rfl, ht, hw⟩)))) hc hl q
theorem OGo.vret (K : OCx p l e R s m args below meth c Z own nm bytes ml none) (hd : decode bytes pc = .ok (.return_, 1)) (hc : cells ≤ R.cells) (hl : slots ≤ R.slots) (q : Q none h) : OGo p l e R s m args below meth c n0 Q h cells slots pc Ls [] :=
  OGo.leave K (fun _ => rfl) (fun T locs k n fs X hr => X.returnOut K.ex K.hrt (hb K.by hd) hr) hc hl q

theorem OGo.iload (K : OCx p l e R s m args below meth c Z own nm bytes ml rt) {k : Nat} {v : Int32} (hd : decode bytes pc = .ok (.iload k, 2)) (hp : pc + 2 = pc') (hl : Ls[k]? = some (.val (.int v))) (r : OGo p l e R s m args below meth c n0 Q h cells slots pc' Ls (.int v :: st)) : OGo p l e R s m args below meth c n0 Q h cells slots pc Ls st := by
  subst hp
  exact OGo.plain (fun T t hA q => XS.iload hA K.ex rfl (hb K.by hd) hl q) r
theorem OGo.iloadN (K : OCx p l e R s m args below meth c Z own nm bytes ml rt) {k : Fin 4} {v : Int32} (hd : decode bytes pc = .ok (.iload_n k, 1)) (hp : pc + 1 = pc') (hl : Ls[k.val]? = some (.val (.int v))) (r : OGo p l e R s m args below meth c n0 Q h cells slots pc' Ls (.int v :: st)) : OGo p l e R s m args below meth c n0 Q h cells slots pc Ls st := by
  subst hp
  exact OGo.plain (fun T t hA q => XS.iloadN hA K.ex rfl (hb K.by hd) hl q) r
theorem OGo.lload (K : OCx p l e R s m args below meth c Z own nm bytes ml rt) {k : Nat} {v : Int64} (hd : decode bytes pc = .ok (.lload k, 2)) (hp : pc + 2 = pc') (hl : Ls[k]? = some (.val (.long v))) (r : OGo p l e R s m args below meth c n0 Q h cells slots pc' Ls (.long v :: st)) : OGo p l e R s m args below meth c n0 Q h cells slots pc Ls st := by
  subst hp
  exact OGo.plain (fun T t hA q => XS.lload hA K.ex rfl (hb K.by hd) hl q) r
theorem OGo.lloadN (K : OCx p l e R s m args below meth c Z own nm bytes ml rt) {k : Fin 4} {v : Int64} (hd : decode bytes pc = .ok (.lload_n k, 1)) (hp : pc + 1 = pc') (hl : Ls[k.val]? = some (.val (.long v))) (r : OGo p l e R s m args below meth c n0 Q h cells slots pc' Ls (.long v :: st)) : OGo p l e R s m args below meth c n0 Q h cells slots pc Ls st := by
  subst hp
  exact OGo.plain (fun T t hA q => XS.lloadN hA K.ex rfl (hb K.by hd) hl q) r
theorem OGo.aload (K : OCx p l e R s m args below meth c Z own nm bytes ml rt) {k : Nat} {v : Value} (hd : decode bytes pc = .ok (.aload k, 2)) (hp : pc + 2 = pc') (hl : Ls[k]? = some (.val v)) (hv : v.isRef = true) (r : OGo p l e R s m args below meth c n0 Q h cells slots pc' Ls (v :: st)) : OGo p l e R s m args below meth c n0 Q h cells slots pc Ls st := by
  subst hp
  exact OGo.plain (fun T t hA q => XS.aload hA K.ex rfl (hb K.by hd) hl hv q) r
theorem OGo.aloadN (K : OCx p l e R s m args below meth c Z own nm bytes ml rt) {k : Fin 4} {v : Value} (hd : decode bytes pc = .ok (.aload_n k, 1)) (hp : pc + 1 = pc') (hl : Ls[k.val]? = some (.val v)) (hv : v.isRef = true) (r : OGo p l e R s m args below meth c n0 Q h cells slots pc' Ls (v :: st)) : OGo p l e R s m args below meth c n0 Q h cells slots pc Ls st := by
  subst hp
  exact OGo.plain (fun T t hA q => XS.aloadN hA K.ex rfl (hb K.by hd) hl hv q) r
theorem OGo.istore (K : OCx p l e R s m args below meth c Z own nm bytes ml rt) {k : Nat} {v : Int32} (hd : decode bytes pc = .ok (.istore k, 2)) (hp : pc + 2 = pc') (hl : storeLocals Ls k (.int v) = some Ls') (r : OGo p l e R s m args below meth c n0 Q h cells slots pc' Ls' st) : OGo p l e R s m args below meth c n0 Q h cells slots pc Ls (.int v :: st) := by
  subst hp
  exact OGo.plain (fun T t hA q => XS.istore hA K.ex rfl (hb K.by hd) rfl hl q) r
theorem OGo.istoreN (K : OCx p l e R s m args below meth c Z own nm bytes ml rt) {k : Fin 4} {v : Int32} (hd : decode bytes pc = .ok (.istore_n k, 1)) (hp : pc + 1 = pc') (hl : storeLocals Ls k.val (.int v) = some Ls') (r : OGo p l e R s m args below meth c n0 Q h cells slots pc' Ls' st) : OGo p l e R s m args below meth c n0 Q h cells slots pc Ls (.int v :: st) := by
  subst hp
  exact OGo.plain (fun T t hA q => XS.istoreN hA K.ex rfl (hb K.by hd) rfl hl q) r
theorem OGo.lstore (K : OCx p l e R s m args below meth c Z own nm bytes ml rt) {k : Nat} {v : Int64} (hd : decode bytes pc = .ok (.lstore k, 2)) (hp : pc + 2 = pc') (hl : storeLocals Ls k (.long v) = some Ls') (r : OGo p l e R s m args below meth c n0 Q h cells slots pc' Ls' st) : OGo p l e R s m args below meth c n0 Q h cells slots pc Ls (.long v :: st) := by
  subst hp
  exact OGo.plain (fun T t hA q => XS.lstore hA K.ex rfl (hb K.by hd) rfl hl q) r
theorem OGo.lstoreN (K : OCx p l e R s m args below meth c Z own nm bytes ml rt) {k : Fin 4} {v : Int64} (hd : decode bytes pc = .ok (.lstore_n k, 1)) (hp : pc + 1 = pc') (hl : storeLocals Ls k.val (.long v) = some Ls') (r : OGo p l e R s m args below meth c n0 Q h cells slots pc' Ls' st) : OGo p l e R s m args below meth c n0 Q h cells slots pc Ls (.long v :: st) := by
  subst hp
  exact OGo.plain (fun T t hA q => XS.lstoreN hA K.ex rfl (hb K.by hd) rfl hl q) r
theorem OGo.astore (K : OCx p l e R s m args below meth c Z own nm bytes ml rt) {k : Nat} {v : Value} (hd : decode bytes pc = .ok (.astore k, 2)) (hp : pc + 2 = pc') (hv : v.isRef = true) (hl : storeLocals Ls k v = some Ls') (r : OGo p l e R s m args below meth c n0 Q h cells slots pc' Ls' st) : OGo p l e R s m args below meth c n0 Q h cells slots pc Ls (v :: st) := by
  subst hp
  exact OGo.plain (fun T t hA q => XS.astore hA K.ex rfl (hb K.by hd) rfl hv hl q) r
theorem OGo.astoreN (K : OCx p l e R s m args below meth c Z own nm bytes ml rt) {k : Fin 4} {v : Value} (hd : decode bytes pc = .ok (.astore_n k, 1)) (hp : pc + 1 = pc') (hv : v.isRef = true) (hl : storeLocals Ls k.val v = some Ls') (r : OGo p l e R s m args below meth c n0 Q h cells slots pc' Ls' st) : OGo p l e R s m args below meth c n0 Q h cells slots pc Ls (v :: st) := by
  subst hp
  exact OGo.plain (fun T t hA q => XS.astoreN hA K.ex rfl (hb K.by hd) rfl hv hl q) r
theorem OGo.iconst (K : OCx p l e R s m args below meth c Z own nm bytes ml rt) {i : Int} {z : Int32} (hd : decode bytes pc = .ok (.iconst i, 1)) (hp : pc + 1 = pc') (hz : Int32.ofInt i = z) (r : OGo p l e R s m args below meth c n0 Q h cells slots pc' Ls (.int z :: st)) : OGo p l e R s m args below meth c n0 Q h cells slots pc Ls st := by
  subst hp
  exact OGo.plain (fun T t hA q => XS.iconst hA K.ex rfl (hb K.by hd) (by rw [hz]; exact q)) r
theorem OGo.bipush (K : OCx p l e R s m args below meth c Z own nm bytes ml rt) {i : Int} {z : Int32} (hd : decode bytes pc = .ok (.bipush i, 2)) (hp : pc + 2 = pc') (hz : (Int8.ofInt i).toInt32 = z) (r : OGo p l e R s m args below meth c n0 Q h cells slots pc' Ls (.int z :: st)) : OGo p l e R s m args below meth c n0 Q h cells slots pc Ls st := by
  subst hp
  exact OGo.plain (fun T t hA q => XS.bipush hA K.ex rfl (hb K.by hd) (by rw [hz]; exact q)) r
theorem OGo.sipush (K : OCx p l e R s m args below meth c Z own nm bytes ml rt) {i : Int} {z : Int32} (hd : decode bytes pc = .ok (.sipush i, 3)) (hp : pc + 3 = pc') (hz : (Int16.ofInt i).toInt32 = z) (r : OGo p l e R s m args below meth c n0 Q h cells slots pc' Ls (.int z :: st)) : OGo p l e R s m args below meth c n0 Q h cells slots pc Ls st := by
  subst hp
  exact OGo.plain (fun T t hA q => XS.sipush hA K.ex rfl (hb K.by hd) (by rw [hz]; exact q)) r
theorem OGo.lconst (K : OCx p l e R s m args below meth c Z own nm bytes ml rt) {i : Fin 2} {z : Int64} (hd : decode bytes pc = .ok (.lconst i, 1)) (hp : pc + 1 = pc') (hz : Int64.ofNat i = z) (r : OGo p l e R s m args below meth c n0 Q h cells slots pc' Ls (.long z :: st)) : OGo p l e R s m args below meth c n0 Q h cells slots pc Ls st := by
  subst hp
  exact OGo.plain (fun T t hA q => XS.lconst hA K.ex rfl (hb K.by hd) (by rw [hz]; exact q)) r
theorem OGo.aconstNull (K : OCx p l e R s m args below meth c Z own nm bytes ml rt) (hd : decode bytes pc = .ok (.aconst_null, 1)) (hp : pc + 1 = pc') (r : OGo p l e R s m args below meth c n0 Q h cells slots pc' Ls (.null :: st)) : OGo p l e R s m args below meth c n0 Q h cells slots pc Ls st := by
  subst hp
  exact OGo.plain (fun T t hA q => XS.aconstNull hA K.ex rfl (hb K.by hd) q) r
theorem OGo.iadd (K : OCx p l e R s m args below meth c Z own nm bytes ml rt) {x y : Int32} (hd : decode bytes pc = .ok (.iadd, 1)) (hp : pc + 1 = pc') (r : OGo p l e R s m args below meth c n0 Q h cells slots pc' Ls (.int (x + y) :: st)) : OGo p l e R s m args below meth c n0 Q h cells slots pc Ls (.int y :: .int x :: st) := by
  subst hp
  exact OGo.plain (fun T t hA q => XS.iadd hA K.ex rfl (hb K.by hd) rfl q) r
theorem OGo.isub (K : OCx p l e R s m args below meth c Z own nm bytes ml rt) {x y : Int32} (hd : decode bytes pc = .ok (.isub, 1)) (hp : pc + 1 = pc') (r : OGo p l e R s m args below meth c n0 Q h cells slots pc' Ls (.int (x - y) :: st)) : OGo p l e R s m args below meth c n0 Q h cells slots pc Ls (.int y :: .int x :: st) := by
  subst hp
  exact OGo.plain (fun T t hA q => XS.isub hA K.ex rfl (hb K.by hd) rfl q) r
theorem OGo.imul (K : OCx p l e R s m args below meth c Z own nm bytes ml rt) {x y : Int32} (hd : decode bytes pc = .ok (.imul, 1)) (hp : pc + 1 = pc') (r : OGo p l e R s m args below meth c n0 Q h cells slots pc' Ls (.int (x * y) :: st)) : OGo p l e R s m args below meth c n0 Q h cells slots pc Ls (.int y :: .int x :: st) := by
  subst hp
  exact OGo.plain (fun T t hA q => XS.imul hA K.ex rfl (hb K.by hd) rfl q) r
theorem OGo.iand (K : OCx p l e R s m args below meth c Z own nm bytes ml rt) {x y : Int32} (hd : decode bytes pc = .ok (.iand, 1)) (hp : pc + 1 = pc') (r : OGo p l e R s m args below meth c n0 Q h cells slots pc' Ls (.int (x &&& y) :: st)) : OGo p l e R s m args below meth c n0 Q h cells slots pc Ls (.int y :: .int x :: st) := by
  subst hp
  exact OGo.plain (fun T t hA q => XS.iand hA K.ex rfl (hb K.by hd) rfl q) r
theorem OGo.ior (K : OCx p l e R s m args below meth c Z own nm bytes ml rt) {x y : Int32} (hd : decode bytes pc = .ok (.ior, 1)) (hp : pc + 1 = pc') (r : OGo p l e R s m args below meth c n0 Q h cells slots pc' Ls (.int (x ||| y) :: st)) : OGo p l e R s m args below meth c n0 Q h cells slots pc Ls (.int y :: .int x :: st) := by
  subst hp
  exact OGo.plain (fun T t hA q => XS.ior hA K.ex rfl (hb K.by hd) rfl q) r
theorem OGo.ixor (K : OCx p l e R s m args below meth c Z own nm bytes ml rt) {x y : Int32} (hd : decode bytes pc = .ok (.ixor, 1)) (hp : pc + 1 = pc') (r : OGo p l e R s m args below meth c n0 Q h cells slots pc' Ls (.int (x ^^^ y) :: st)) : OGo p l e R s m args below meth c n0 Q h cells slots pc Ls (.int y :: .int x :: st) := by
  subst hp
  exact OGo.plain (fun T t hA q => XS.ixor hA K.ex rfl (hb K.by hd) rfl q) r
theorem OGo.ladd (K : OCx p l e R s m args below meth c Z own nm bytes ml rt) {x y : Int64} (hd : decode bytes pc = .ok (.ladd, 1)) (hp : pc + 1 = pc') (r : OGo p l e R s m args below meth c n0 Q h cells slots pc' Ls (.long (x + y) :: st)) : OGo p l e R s m args below meth c n0 Q h cells slots pc Ls (.long y :: .long x :: st) := by
  subst hp
  exact OGo.plain (fun T t hA q => XS.ladd hA K.ex rfl (hb K.by hd) rfl q) r
theorem OGo.lsub (K : OCx p l e R s m args below meth c Z own nm bytes ml rt) {x y : Int64} (hd : decode bytes pc = .ok (.lsub, 1)) (hp : pc + 1 = pc') (r : OGo p l e R s m args below meth c n0 Q h cells slots pc' Ls (.long (x - y) :: st)) : OGo p l e R s m args below meth c n0 Q h cells slots pc Ls (.long y :: .long x :: st) := by
  subst hp
  exact OGo.plain (fun T t hA q => XS.lsub hA K.ex rfl (hb K.by hd) rfl q) r
theorem OGo.lmul (K : OCx p l e R s m args below meth c Z own nm bytes ml rt) {x y : Int64} (hd : decode bytes pc = .ok (.lmul, 1)) (hp : pc + 1 = pc') (r : OGo p l e R s m args below meth c n0 Q h cells slots pc' Ls (.long (x * y) :: st)) : OGo p l e R s m args below meth c n0 Q h cells slots pc Ls (.long y :: .long x :: st) := by
  subst hp
  exact OGo.plain (fun T t hA q => XS.lmul hA K.ex rfl (hb K.by hd) rfl q) r
theorem OGo.land (K : OCx p l e R s m args below meth c Z own nm bytes ml rt) {x y : Int64} (hd : decode bytes pc = .ok (.land, 1)) (hp : pc + 1 = pc') (r : OGo p l e R s m args below meth c n0 Q h cells slots pc' Ls (.long (x &&& y) :: st)) : OGo p l e R s m args below meth c n0 Q h cells slots pc Ls (.long y :: .long x :: st) := by
  subst hp
  exact OGo.plain (fun T t hA q => XS.land hA K.ex rfl (hb K.by hd) rfl q) r
theorem OGo.lor (K : OCx p l e R s m args below meth c Z own nm bytes ml rt) {x y : Int64} (hd : decode bytes pc = .ok (.lor, 1)) (hp : pc + 1 = pc') (r : OGo p l e R s m args below meth c n0 Q h cells slots pc' Ls (.long (x ||| y) :: st)) : OGo p l e R s m args below meth c n0 Q h cells slots pc Ls (.long y :: .long x :: st) := by
  subst hp
  exact OGo.plain (fun T t hA q => XS.lor hA K.ex rfl (hb K.by hd) rfl q) r
theorem OGo.lxor (K : OCx p l e R s m args below meth c Z own nm bytes ml rt) {x y : Int64} (hd : decode bytes pc = .ok (.lxor, 1)) (hp : pc + 1 = pc') (r : OGo p l e R s m args below meth c n0 Q h cells slots pc' Ls (.long (x ^^^ y) :: st)) : OGo p l e R s m args below meth c n0 Q h cells slots pc Ls (.long y :: .long x :: st) := by
  subst hp
  exact OGo.plain (fun T t hA q => XS.lxor hA K.ex rfl (hb K.by hd) rfl q) r
theorem OGo.ishl (K : OCx p l e R s m args below meth c Z own nm bytes ml rt) {x y : Int32} (hd : decode bytes pc = .ok (.ishl, 1)) (hp : pc + 1 = pc') (r : OGo p l e R s m args below meth c n0 Q h cells slots pc' Ls (.int (x <<< (y &&& 31)) :: st)) : OGo p l e R s m args below meth c n0 Q h cells slots pc Ls (.int y :: .int x :: st) := by
  subst hp
  exact OGo.plain (fun T t hA q => XS.ishl hA K.ex rfl (hb K.by hd) rfl q) r
theorem OGo.ishr (K : OCx p l e R s m args below meth c Z own nm bytes ml rt) {x y : Int32} (hd : decode bytes pc = .ok (.ishr, 1)) (hp : pc + 1 = pc') (r : OGo p l e R s m args below meth c n0 Q h cells slots pc' Ls (.int (x >>> (y &&& 31)) :: st)) : OGo p l e R s m args below meth c n0 Q h cells slots pc Ls (.int y :: .int x :: st) := by
  subst hp
  exact OGo.plain (fun T t hA q => XS.ishr hA K.ex rfl (hb K.by hd) rfl q) r
theorem OGo.iushr (K : OCx p l e R s m args below meth c Z own nm bytes ml rt) {x y : Int32} (hd : decode bytes pc = .ok (.iushr, 1)) (hp : pc + 1 = pc') (r : OGo p l e R s m args below meth c n0 Q h cells slots pc' Ls (.int (ushr x y) :: st)) : OGo p l e R s m args below meth c n0 Q h cells slots pc Ls (.int y :: .int x :: st) := by
  subst hp
  exact OGo.plain (fun T t hA q => XS.iushr hA K.ex rfl (hb K.by hd) rfl q) r
theorem OGo.lshl (K : OCx p l e R s m args below meth c Z own nm bytes ml rt) {x : Int64} {y : Int32} (hd : decode bytes pc = .ok (.lshl, 1)) (hp : pc + 1 = pc') (r : OGo p l e R s m args below meth c n0 Q h cells slots pc' Ls (.long (x <<< (y &&& 63).toInt64) :: st)) : OGo p l e R s m args below meth c n0 Q h cells slots pc Ls (.int y :: .long x :: st) := by
  subst hp
  exact OGo.plain (fun T t hA q => XS.lshl hA K.ex rfl (hb K.by hd) rfl q) r
theorem OGo.lshr (K : OCx p l e R s m args below meth c Z own nm bytes ml rt) {x : Int64} {y : Int32} (hd : decode bytes pc = .ok (.lshr, 1)) (hp : pc + 1 = pc') (r : OGo p l e R s m args below meth c n0 Q h cells slots pc' Ls (.long (x >>> (y &&& 63).toInt64) :: st)) : OGo p l e R s m args below meth c n0 Q h cells slots pc Ls (.int y :: .long x :: st) := by
  subst hp
  exact OGo.plain (fun T t hA q => XS.lshr hA K.ex rfl (hb K.by hd) rfl q) r
theorem OGo.lushr (K : OCx p l e R s m args below meth c Z own nm bytes ml rt) {x : Int64} {y : Int32} (hd : decode bytes pc = .ok (.lushr, 1)) (hp : pc + 1 = pc') (r : OGo p l e R s m args below meth c n0 Q h cells slots pc' Ls (.long (ushrL x y) :: st)) : OGo p l e R s m args below meth c n0 Q h cells slots pc Ls (.int y :: .long x :: st) := by
  subst hp
  exact OGo.plain (fun T t hA q => XS.lushr hA K.ex rfl (hb K.by hd) rfl q) r
theorem OGo.idiv (K : OCx p l e R s m args below meth c Z own nm bytes ml rt) {x y : Int32} (hd : decode bytes pc = .ok (.idiv, 1)) (hp : pc + 1 = pc') (hy : y ≠ 0) (r : OGo p l e R s m args below meth c n0 Q h cells slots pc' Ls (.int (x / y) :: st)) : OGo p l e R s m args below meth c n0 Q h cells slots pc Ls (.int y :: .int x :: st) := by
  subst hp
  exact OGo.plain (fun T t hA q => XS.idiv hA K.ex rfl (hb K.by hd) rfl hy q) r
theorem OGo.irem (K : OCx p l e R s m args below meth c Z own nm bytes ml rt) {x y : Int32} (hd : decode bytes pc = .ok (.irem, 1)) (hp : pc + 1 = pc') (hy : y ≠ 0) (r : OGo p l e R s m args below meth c n0 Q h cells slots pc' Ls (.int (x % y) :: st)) : OGo p l e R s m args below meth c n0 Q h cells slots pc Ls (.int y :: .int x :: st) := by
  subst hp
  exact OGo.plain (fun T t hA q => XS.irem hA K.ex rfl (hb K.by hd) rfl hy (by rw [show x - x / y * y = x % y from irem_eq_mod x y]; exact q)) r
theorem OGo.ldiv (K : OCx p l e R s m args below meth c Z own nm bytes ml rt) {x y : Int64} (hd : decode bytes pc = .ok (.ldiv, 1)) (hp : pc + 1 = pc') (hy : y ≠ 0) (r : OGo p l e R s m args below meth c n0 Q h cells slots pc' Ls (.long (x / y) :: st)) : OGo p l e R s m args below meth c n0 Q h cells slots pc Ls (.long y :: .long x :: st) := by
  subst hp
  exact OGo.plain (fun T t hA q => XS.ldiv hA K.ex rfl (hb K.by hd) rfl hy q) r
theorem OGo.lrem (K : OCx p l e R s m args below meth c Z own nm bytes ml rt) {x y : Int64} (hd : decode bytes pc = .ok (.lrem, 1)) (hp : pc + 1 = pc') (hy : y ≠ 0) (r : OGo p l e R s m args below meth c n0 Q h cells slots pc' Ls (.long (x - (x / y) * y) :: st)) : OGo p l e R s m args below meth c n0 Q h cells slots pc Ls (.long y :: .long x :: st) := by
  subst hp
  exact OGo.plain (fun T t hA q => XS.lrem hA K.ex rfl (hb K.by hd) rfl hy q) r
theorem OGo.ineg (K : OCx p l e R s m args below meth c Z own nm bytes ml rt) {x : Int32} (hd : decode bytes pc = .ok (.ineg, 1)) (hp : pc + 1 = pc') (r : OGo p l e R s m args below meth c n0 Q h cells slots pc' Ls (.int (-x) :: st)) : OGo p l e R s m args below meth c n0 Q h cells slots pc Ls (.int x :: st) := by
  subst hp
  exact OGo.plain (fun T t hA q => XS.ineg hA K.ex rfl (hb K.by hd) rfl q) r
theorem OGo.lneg (K : OCx p l e R s m args below meth c Z own nm bytes ml rt) {x : Int64} (hd : decode bytes pc = .ok (.lneg, 1)) (hp : pc + 1 = pc') (r : OGo p l e R s m args below meth c n0 Q h cells slots pc' Ls (.long (-x) :: st)) : OGo p l e R s m args below meth c n0 Q h cells slots pc Ls (.long x :: st) := by
  subst hp
  exact OGo.plain (fun T t hA q => XS.lneg hA K.ex rfl (hb K.by hd) rfl q) r
theorem OGo.i2l (K : OCx p l e R s m args below meth c Z own nm bytes ml rt) {x : Int32} (hd : decode bytes pc = .ok (.i2l, 1)) (hp : pc + 1 = pc') (r : OGo p l e R s m args below meth c n0 Q h cells slots pc' Ls (.long x.toInt64 :: st)) : OGo p l e R s m args below meth c n0 Q h cells slots pc Ls (.int x :: st) := by
  subst hp
  exact OGo.plain (fun T t hA q => XS.i2l hA K.ex rfl (hb K.by hd) rfl q) r
theorem OGo.l2i (K : OCx p l e R s m args below meth c Z own nm bytes ml rt) {x : Int64} (hd : decode bytes pc = .ok (.l2i, 1)) (hp : pc + 1 = pc') (r : OGo p l e R s m args below meth c n0 Q h cells slots pc' Ls (.int x.toInt32 :: st)) : OGo p l e R s m args below meth c n0 Q h cells slots pc Ls (.long x :: st) := by
  subst hp
  exact OGo.plain (fun T t hA q => XS.l2i hA K.ex rfl (hb K.by hd) rfl q) r
theorem OGo.i2b (K : OCx p l e R s m args below meth c Z own nm bytes ml rt) {x : Int32} (hd : decode bytes pc = .ok (.i2b, 1)) (hp : pc + 1 = pc') (r : OGo p l e R s m args below meth c n0 Q h cells slots pc' Ls (.int x.toInt8.toInt32 :: st)) : OGo p l e R s m args below meth c n0 Q h cells slots pc Ls (.int x :: st) := by
  subst hp
  exact OGo.plain (fun T t hA q => XS.i2b hA K.ex rfl (hb K.by hd) rfl q) r
theorem OGo.i2s (K : OCx p l e R s m args below meth c Z own nm bytes ml rt) {x : Int32} (hd : decode bytes pc = .ok (.i2s, 1)) (hp : pc + 1 = pc') (r : OGo p l e R s m args below meth c n0 Q h cells slots pc' Ls (.int x.toInt16.toInt32 :: st)) : OGo p l e R s m args below meth c n0 Q h cells slots pc Ls (.int x :: st) := by
  subst hp
  exact OGo.plain (fun T t hA q => XS.i2s hA K.ex rfl (hb K.by hd) rfl q) r
theorem OGo.i2c (K : OCx p l e R s m args below meth c Z own nm bytes ml rt) {x : Int32} (hd : decode bytes pc = .ok (.i2c, 1)) (hp : pc + 1 = pc') (r : OGo p l e R s m args below meth c n0 Q h cells slots pc' Ls (.int x.toUInt32.toUInt16.toUInt32.toInt32 :: st)) : OGo p l e R s m args below meth c n0 Q h cells slots pc Ls (.int x :: st) := by
  subst hp
  exact OGo.plain (fun T t hA q => XS.i2c hA K.ex rfl (hb K.by hd) rfl q) r
theorem OGo.iinc (K : OCx p l e R s m args below meth c Z own nm bytes ml rt) {k : Nat} {i : Int} {x z : Int32} (hd : decode bytes pc = .ok (.iinc k i, 3)) (hp : pc + 3 = pc') (hl : Ls[k]? = some (.val (.int x))) (hz : Int32.ofInt i = z) (hl' : storeLocals Ls k (.int (x + z)) = some Ls') (r : OGo p l e R s m args below meth c n0 Q h cells slots pc' Ls' st) : OGo p l e R s m args below meth c n0 Q h cells slots pc Ls st := by
  subst hp
  exact OGo.plain (fun T t hA q => XS.iinc hA K.ex rfl (hb K.by hd) hl (by rw [hz]; exact hl') q) r
theorem OGo.dup (K : OCx p l e R s m args below meth c Z own nm bytes ml rt) {v : Value} (hd : decode bytes pc = .ok (.dup, 1)) (hp : pc + 1 = pc') (hc : v.category = 1) (r : OGo p l e R s m args below meth c n0 Q h cells slots pc' Ls (v :: v :: st)) : OGo p l e R s m args below meth c n0 Q h cells slots pc Ls (v :: st) := by
  subst hp
  exact OGo.plain (fun T t hA q => XS.dup hA K.ex rfl (hb K.by hd) rfl hc q) r
theorem OGo.pop (K : OCx p l e R s m args below meth c Z own nm bytes ml rt) {v : Value} (hd : decode bytes pc = .ok (.pop, 1)) (hp : pc + 1 = pc') (hc : v.category = 1) (r : OGo p l e R s m args below meth c n0 Q h cells slots pc' Ls st) : OGo p l e R s m args below meth c n0 Q h cells slots pc Ls (v :: st) := by
  subst hp
  exact OGo.plain (fun T t hA q => XS.pop hA K.ex rfl (hb K.by hd) rfl hc q) r
theorem OGo.dupX1 (K : OCx p l e R s m args below meth c Z own nm bytes ml rt) {v w : Value} (hd : decode bytes pc = .ok (.dup_x1, 1)) (hp : pc + 1 = pc') (hc : v.category = 1) (hc' : w.category = 1) (r : OGo p l e R s m args below meth c n0 Q h cells slots pc' Ls (v :: w :: v :: st)) : OGo p l e R s m args below meth c n0 Q h cells slots pc Ls (v :: w :: st) := by
  subst hp
  exact OGo.plain (fun T t hA q => XS.dupX1 hA K.ex rfl (hb K.by hd) rfl hc hc' q) r
theorem OGo.dup2 (K : OCx p l e R s m args below meth c Z own nm bytes ml rt) {v w : Value} (hd : decode bytes pc = .ok (.dup2, 1)) (hp : pc + 1 = pc') (hc : v.category = 1) (hc' : w.category = 1) (r : OGo p l e R s m args below meth c n0 Q h cells slots pc' Ls (v :: w :: v :: w :: st)) : OGo p l e R s m args below meth c n0 Q h cells slots pc Ls (v :: w :: st) := by
  subst hp
  exact OGo.plain (fun T t hA q => XT.dup2 hA K.ex rfl (hb K.by hd) rfl hc hc' q) r
theorem OGo.dup2L (K : OCx p l e R s m args below meth c Z own nm bytes ml rt) {x : Int64} (hd : decode bytes pc = .ok (.dup2, 1)) (hp : pc + 1 = pc') (r : OGo p l e R s m args below meth c n0 Q h cells slots pc' Ls (.long x :: .long x :: st)) : OGo p l e R s m args below meth c n0 Q h cells slots pc Ls (.long x :: st) := by
  subst hp
  exact OGo.plain (fun T t hA q => XT.dup2L hA K.ex rfl (hb K.by hd) rfl q) r
theorem OGo.lcmp (K : OCx p l e R s m args below meth c Z own nm bytes ml rt) {x y : Int64} (hd : decode bytes pc = .ok (.lcmp, 1)) (hp : pc + 1 = pc') (r : OGo p l e R s m args below meth c n0 Q h cells slots pc' Ls (.int (lcmpW x y) :: st)) : OGo p l e R s m args below meth c n0 Q h cells slots pc Ls (.long y :: .long x :: st) := by
  subst hp
  exact OGo.plain (fun T t hA q => XS.lcmp hA K.ex rfl (hb K.by hd) rfl q) r
theorem OGo.dload (K : OCx p l e R s m args below meth c Z own nm bytes ml rt) {k : Nat} {v : UInt64} (hd : decode bytes pc = .ok (.dload k, 2)) (hp : pc + 2 = pc') (hl : Ls[k]? = some (.val (.double v))) (r : OGo p l e R s m args below meth c n0 Q h cells slots pc' Ls (.double v :: st)) : OGo p l e R s m args below meth c n0 Q h cells slots pc Ls st := by
  subst hp
  exact OGo.plain (fun T t hA q => XS.dload hA K.ex rfl (hb K.by hd) hl q) r
theorem OGo.dloadN (K : OCx p l e R s m args below meth c Z own nm bytes ml rt) {k : Fin 4} {v : UInt64} (hd : decode bytes pc = .ok (.dload_n k, 1)) (hp : pc + 1 = pc') (hl : Ls[k.val]? = some (.val (.double v))) (r : OGo p l e R s m args below meth c n0 Q h cells slots pc' Ls (.double v :: st)) : OGo p l e R s m args below meth c n0 Q h cells slots pc Ls st := by
  subst hp
  exact OGo.plain (fun T t hA q => XS.dloadN hA K.ex rfl (hb K.by hd) hl q) r
theorem OGo.dstore (K : OCx p l e R s m args below meth c Z own nm bytes ml rt) {k : Nat} {v : UInt64} (hd : decode bytes pc = .ok (.dstore k, 2)) (hp : pc + 2 = pc') (hl : storeLocals Ls k (.double v) = some Ls') (r : OGo p l e R s m args below meth c n0 Q h cells slots pc' Ls' st) : OGo p l e R s m args below meth c n0 Q h cells slots pc Ls (.double v :: st) := by
  subst hp
  exact OGo.plain (fun T t hA q => XS.dstore hA K.ex rfl (hb K.by hd) rfl hl q) r
theorem OGo.dstoreN (K : OCx p l e R s m args below meth c Z own nm bytes ml rt) {k : Fin 4} {v : UInt64} (hd : decode bytes pc = .ok (.dstore_n k, 1)) (hp : pc + 1 = pc') (hl : storeLocals Ls k.val (.double v) = some Ls') (r : OGo p l e R s m args below meth c n0 Q h cells slots pc' Ls' st) : OGo p l e R s m args below meth c n0 Q h cells slots pc Ls (.double v :: st) := by
  subst hp
  exact OGo.plain (fun T t hA q => XS.dstoreN hA K.ex rfl (hb K.by hd) rfl hl q) r
theorem OGo.dconst0 (K : OCx p l e R s m args below meth c Z own nm bytes ml rt) {z : UInt64} (hd : decode bytes pc = .ok (.dconst 0, 1)) (hp : pc + 1 = pc') (hz : FP.dconst0 = z) (r : OGo p l e R s m args below meth c n0 Q h cells slots pc' Ls (.double z :: st)) : OGo p l e R s m args below meth c n0 Q h cells slots pc Ls st := by
  subst hp
  exact OGo.plain (fun T t hA q => XS.dconst0 hA K.ex rfl (hb K.by hd) hz q) r
theorem OGo.dconst1 (K : OCx p l e R s m args below meth c Z own nm bytes ml rt) {z : UInt64} (hd : decode bytes pc = .ok (.dconst 1, 1)) (hp : pc + 1 = pc') (hz : FP.dconst1 = z) (r : OGo p l e R s m args below meth c n0 Q h cells slots pc' Ls (.double z :: st)) : OGo p l e R s m args below meth c n0 Q h cells slots pc Ls st := by
  subst hp
  exact OGo.plain (fun T t hA q => XS.dconst1 hA K.ex rfl (hb K.by hd) hz q) r
theorem OGo.i2d (K : OCx p l e R s m args below meth c Z own nm bytes ml rt) {x : Int32} (hd : decode bytes pc = .ok (.i2d, 1)) (hp : pc + 1 = pc') (r : OGo p l e R s m args below meth c n0 Q h cells slots pc' Ls (.double (FP.i2d x) :: st)) : OGo p l e R s m args below meth c n0 Q h cells slots pc Ls (.int x :: st) := by
  subst hp
  exact OGo.plain (fun T t hA q => XS.i2dS hA K.ex rfl (hb K.by hd) rfl rfl q) r
theorem OGo.dadd (K : OCx p l e R s m args below meth c Z own nm bytes ml rt) {x y z : UInt64} (hd : decode bytes pc = .ok (.dadd, 1)) (hp : pc + 1 = pc') (hn : Jvm.Free.Fl.NoNaN64 (FP.dadd x y)) (hz : FP.dadd x y = z) (r : OGo p l e R s m args below meth c n0 Q h cells slots pc' Ls (.double z :: st)) : OGo p l e R s m args below meth c n0 Q h cells slots pc Ls (.double y :: .double x :: st) := by
  subst hp
  exact OGo.plain (fun T t hA q => XS.daddS hA K.ex rfl (hb K.by hd) rfl hn hz q) r
theorem OGo.dsub (K : OCx p l e R s m args below meth c Z own nm bytes ml rt) {x y z : UInt64} (hd : decode bytes pc = .ok (.dsub, 1)) (hp : pc + 1 = pc') (hn : Jvm.Free.Fl.NoNaN64 (FP.dsub x y)) (hz : FP.dsub x y = z) (r : OGo p l e R s m args below meth c n0 Q h cells slots pc' Ls (.double z :: st)) : OGo p l e R s m args below meth c n0 Q h cells slots pc Ls (.double y :: .double x :: st) := by
  subst hp
  exact OGo.plain (fun T t hA q => XS.dsubS hA K.ex rfl (hb K.by hd) rfl hn hz q) r
theorem OGo.dmul (K : OCx p l e R s m args below meth c Z own nm bytes ml rt) {x y z : UInt64} (hd : decode bytes pc = .ok (.dmul, 1)) (hp : pc + 1 = pc') (hn : Jvm.Free.Fl.NoNaN64 (FP.dmul x y)) (hz : FP.dmul x y = z) (r : OGo p l e R s m args below meth c n0 Q h cells slots pc' Ls (.double z :: st)) : OGo p l e R s m args below meth c n0 Q h cells slots pc Ls (.double y :: .double x :: st) := by
  subst hp
  exact OGo.plain (fun T t hA q => XS.dmulS hA K.ex rfl (hb K.by hd) rfl hn hz q) r
theorem OGo.ddiv (K : OCx p l e R s m args below meth c Z own nm bytes ml rt) {x y z : UInt64} (hd : decode bytes pc = .ok (.ddiv, 1)) (hp : pc + 1 = pc') (hn : Jvm.Free.Fl.NoNaN64 (FP.ddiv x y)) (hz : FP.ddiv x y = z) (r : OGo p l e R s m args below meth c n0 Q h cells slots pc' Ls (.double z :: st)) : OGo p l e R s m args below meth c n0 Q h cells slots pc Ls (.double y :: .double x :: st) := by
  subst hp
  exact OGo.plain (fun T t hA q => XS.ddivS hA K.ex rfl (hb K.by hd) rfl hn hz q) r
theorem OGo.dcmp (K : OCx p l e R s m args below meth c Z own nm bytes ml rt) {o : CmpOp} {x y : UInt64} {z : Int32} (hd : decode bytes pc = .ok (.dcmp o, 1)) (hp : pc + 1 = pc') (hz : cmpValue (FP.dcmp x y) o = z) (r : OGo p l e R s m args below meth c n0 Q h cells slots pc' Ls (.int z :: st)) : OGo p l e R s m args below meth c n0 Q h cells slots pc Ls (.double y :: .double x :: st) := by
  subst hp
  exact OGo.plain (fun T t hA q => XS.dcmpS hA K.ex rfl (hb K.by hd) rfl hz q) r
theorem OGo.goto (K : OCx p l e R s m args below meth c Z own nm bytes ml rt) {o : Int} (hd : decode bytes pc = .ok (.goto o, 3)) (ho : 0 ≤ (pc : Int) + o) (hp : ((pc : Int) + o).toNat = pc') (r : OGo p l e R s m args below meth c n0 Q h cells slots pc' Ls st) : OGo p l e R s m args below meth c n0 Q h cells slots pc Ls st :=
  OGo.plain (fun T t hA q => XS.goto hA K.ex rfl rfl (hb K.by hd) ho hp q) r
theorem OGo.icmp (K : OCx p l e R s m args below meth c Z own nm bytes ml rt) {cd : ClassFile.Cond} {o : Int} {x y : Int32} (hd : decode bytes pc = .ok (.if_icmp cd o, 3)) (hp : pc + 3 = pc') (ho : 0 ≤ (pc : Int) + o) (hq : ((pc : Int) + o).toNat = pcY) (ry : if_icmp.holds cd x y = true → OGo p l e R s m args below meth c n0 Q h cells slots pcY Ls st) (rn : if_icmp.holds cd x y = false → OGo p l e R s m args below meth c n0 Q h cells slots pc' Ls st) : OGo p l e R s m args below meth c n0 Q h cells slots pc Ls (.int y :: .int x :: st) := by
  subst hp
  cases hc : if_icmp.holds cd x y
  · exact OGo.plain (fun T t hA q => XS.icmpNo hA K.ex rfl (hb K.by hd) rfl hc q) (rn hc)
  · exact OGo.plain (fun T t hA q => XS.icmpYes hA K.ex rfl rfl (hb K.by hd) rfl hc ho hq q) (ry hc)
theorem OGo.ifc (K : OCx p l e R s m args below meth c Z own nm bytes ml rt) {cd : ClassFile.Cond} {o : Int} {x : Int32} (hd : decode bytes pc = .ok (.ifCond cd o, 3)) (hp : pc + 3 = pc') (ho : 0 ≤ (pc : Int) + o) (hq : ((pc : Int) + o).toNat = pcY) (ry : if_icmp.holds cd x 0 = true → OGo p l e R s m args below meth c n0 Q h cells slots pcY Ls st) (rn : if_icmp.holds cd x 0 = false → OGo p l e R s m args below meth c n0 Q h cells slots pc' Ls st) : OGo p l e R s m args below meth c n0 Q h cells slots pc Ls (.int x :: st) := by
  subst hp
  cases hc : if_icmp.holds cd x 0
  · exact OGo.plain (fun T t hA q => XS.ifNo hA K.ex rfl (hb K.by hd) rfl ((if0 _ _).trans hc) q) (rn hc)
  · exact OGo.plain (fun T t hA q => XS.ifYes hA K.ex rfl rfl (hb K.by hd) rfl ((if0 _ _).trans hc) ho hq q) (ry hc)
theorem own_holds {cd : ClassFile.Cond} {x y : Int32} {b : Bool} (q : if_icmp.holds cd x y = b) : match cd with | .eq => (x = y) = (b = true) | .ne => (¬ x = y) = (b = true) | .lt => (x < y) = (b = true) | .ge => (¬ x < y) = (b = true) | .gt => (y < x) = (b = true) | .le => (¬ y < x) = (b = true) := by
  subst q
  cases cd
  all_goals simp only [eq_iff_iff]
  · constructor
    · intro h; exact (teq h).1
    · intro h; by_cases q : x = y
      · exact q
      · rw [(feq q).1] at h; cases h
  · constructor
    · intro h; exact (feq h).2
    · intro h q; rw [(teq q).2] at h; cases h
  · constructor
    · intro h; exact (tlt h).1
    · intro h; by_cases q : x < y
      · exact q
      · rw [(flt q).1] at h; cases h
  · constructor
    · intro h; exact (flt h).2.1
    · intro h q; rw [(tlt q).2.1] at h; cases h
  · constructor
    · intro h; exact (tlt h).2.2.1
    · intro h; by_cases q : y < x
      · exact q
      · rw [(flt q).2.2.1] at h; cases h
  · constructor
    · intro h; exact (flt h).2.2.2
    · intro h q; rw [(tlt q).2.2.2] at h; cases h
theorem OGo.icmpEq (K : OCx p l e R s m args below meth c Z own nm bytes ml rt) {o : Int} {x y : Int32} (hd : decode bytes pc = .ok (.if_icmp .eq o, 3)) (hp : pc + 3 = pc') (ho : 0 ≤ (pc : Int) + o) (hq : ((pc : Int) + o).toNat = pcY) (ry : x = y → OGo p l e R s m args below meth c n0 Q h cells slots pcY Ls st) (rn : ¬ x = y → OGo p l e R s m args below meth c n0 Q h cells slots pc' Ls st) : OGo p l e R s m args below meth c n0 Q h cells slots pc Ls (.int y :: .int x :: st) :=
  OGo.icmp K hd hp ho hq (fun q => ry ((own_holds q : _ = _).mpr rfl)) (fun q => rn (fun z => Bool.false_ne_true ((own_holds q : _ = _).mp z)))
theorem OGo.ifEq (K : OCx p l e R s m args below meth c Z own nm bytes ml rt) {o : Int} {x : Int32} (hd : decode bytes pc = .ok (.ifCond .eq o, 3)) (hp : pc + 3 = pc') (ho : 0 ≤ (pc : Int) + o) (hq : ((pc : Int) + o).toNat = pcY) (ry : x = 0 → OGo p l e R s m args below meth c n0 Q h cells slots pcY Ls st) (rn : ¬ x = 0 → OGo p l e R s m args below meth c n0 Q h cells slots pc' Ls st) : OGo p l e R s m args below meth c n0 Q h cells slots pc Ls (.int x :: st) :=
  OGo.ifc K hd hp ho hq (fun q => ry ((own_holds q : _ = _).mpr rfl)) (fun q => rn (fun z => Bool.false_ne_true ((own_holds q : _ = _).mp z)))
theorem OGo.lcmpEq (K : OCx p l e R s m args below meth c Z own nm bytes ml rt) {o : Int} {x y : Int64} {pc1 : Nat} (hd0 : decode bytes pc = .ok (.lcmp, 1)) (hp0 : pc + 1 = pc1) (hd : decode bytes pc1 = .ok (.ifCond .eq o, 3)) (hp : pc1 + 3 = pc') (ho : 0 ≤ (pc1 : Int) + o) (hq : ((pc1 : Int) + o).toNat = pcY) (ry : x = y → OGo p l e R s m args below meth c n0 Q h cells slots pcY Ls st) (rn : ¬ x = y → OGo p l e R s m args below meth c n0 Q h cells slots pc' Ls st) : OGo p l e R s m args below meth c n0 Q h cells slots pc Ls (.long y :: .long x :: st) :=
  OGo.lcmp K hd0 hp0 (OGo.ifEq K hd hp ho hq (fun q => ry ((lw_eq x y).mp q)) (fun q => rn (fun z => q ((lw_eq x y).mpr z))))
theorem OGo.icmpNe (K : OCx p l e R s m args below meth c Z own nm bytes ml rt) {o : Int} {x y : Int32} (hd : decode bytes pc = .ok (.if_icmp .ne o, 3)) (hp : pc + 3 = pc') (ho : 0 ≤ (pc : Int) + o) (hq : ((pc : Int) + o).toNat = pcY) (ry : ¬ x = y → OGo p l e R s m args below meth c n0 Q h cells slots pcY Ls st) (rn : x = y → OGo p l e R s m args below meth c n0 Q h cells slots pc' Ls st) : OGo p l e R s m args below meth c n0 Q h cells slots pc Ls (.int y :: .int x :: st) :=
  OGo.icmp K hd hp ho hq (fun q => ry ((own_holds q : _ = _).mpr rfl)) (fun q => rn (Classical.byContradiction fun z => Bool.false_ne_true ((own_holds q : _ = _).mp z)))
theorem OGo.ifNe (K : OCx p l e R s m args below meth c Z own nm bytes ml rt) {o : Int} {x : Int32} (hd : decode bytes pc = .ok (.ifCond .ne o, 3)) (hp : pc + 3 = pc') (ho : 0 ≤ (pc : Int) + o) (hq : ((pc : Int) + o).toNat = pcY) (ry : ¬ x = 0 → OGo p l e R s m args below meth c n0 Q h cells slots pcY Ls st) (rn : x = 0 → OGo p l e R s m args below meth c n0 Q h cells slots pc' Ls st) : OGo p l e R s m args below meth c n0 Q h cells slots pc Ls (.int x :: st) :=
  OGo.ifc K hd hp ho hq (fun q => ry ((own_holds q : _ = _).mpr rfl)) (fun q => rn (Classical.byContradiction fun z => Bool.false_ne_true ((own_holds q : _ = _).mp z)))
theorem OGo.lcmpNe (K : OCx p l e R s m args below meth c Z own nm bytes ml rt) {o : Int} {x y : Int64} {pc1 : Nat} (hd0 : decode bytes pc = .ok (.lcmp, 1)) (hp0 : pc + 1 = pc1) (hd : decode bytes pc1 = .ok (.ifCond .ne o, 3)) (hp : pc1 + 3 = pc') (ho : 0 ≤ (pc1 : Int) + o) (hq : ((pc1 : Int) + o).toNat = pcY) (ry : ¬ x = y → OGo p l e R s m args below meth c n0 Q h cells slots pcY Ls st) (rn : x = y → OGo p l e R s m args below meth c n0 Q h cells slots pc' Ls st) : OGo p l e R s m args below meth c n0 Q h cells slots pc Ls (.long y :: .long x :: st) :=
  OGo.lcmp K hd0 hp0 (OGo.ifNe K hd hp ho hq (fun q => ry (fun z => q ((lw_eq x y).mpr z))) (fun q => rn ((lw_eq x y).mp q)))
theorem OGo.icmpLt (K : OCx p l e R s m args below meth c Z own nm bytes ml rt) {o : Int} {x y : Int32} (hd : decode bytes pc = .ok (.if_icmp .lt o, 3)) (hp : pc + 3 = pc') (ho : 0 ≤ (pc : Int) + o) (hq : ((pc : Int) + o).toNat = pcY) (ry : x < y → OGo p l e R s m args below meth c n0 Q h cells slots pcY Ls st) (rn : ¬ x < y → OGo p l e R s m args below meth c n0 Q h cells slots pc' Ls st) : OGo p l e R s m args below meth c n0 Q h cells slots pc Ls (.int y :: .int x :: st) :=
  OGo.icmp K hd hp ho hq (fun q => ry ((own_holds q : _ = _).mpr rfl)) (fun q => rn (fun z => Bool.false_ne_true ((own_holds q : _ = _).mp z)))
theorem OGo.ifLt (K : OCx p l e R s m args below meth c Z own nm bytes ml rt) {o : Int} {x : Int32} (hd : decode bytes pc = .ok (.ifCond .lt o, 3)) (hp : pc + 3 = pc') (ho : 0 ≤ (pc : Int) + o) (hq : ((pc : Int) + o).toNat = pcY) (ry : x < 0 → OGo p l e R s m args below meth c n0 Q h cells slots pcY Ls st) (rn : ¬ x < 0 → OGo p l e R s m args below meth c n0 Q h cells slots pc' Ls st) : OGo p l e R s m args below meth c n0 Q h cells slots pc Ls (.int x :: st) :=
  OGo.ifc K hd hp ho hq (fun q => ry ((own_holds q : _ = _).mpr rfl)) (fun q => rn (fun z => Bool.false_ne_true ((own_holds q : _ = _).mp z)))
theorem OGo.lcmpLt (K : OCx p l e R s m args below meth c Z own nm bytes ml rt) {o : Int} {x y : Int64} {pc1 : Nat} (hd0 : decode bytes pc = .ok (.lcmp, 1)) (hp0 : pc + 1 = pc1) (hd : decode bytes pc1 = .ok (.ifCond .lt o, 3)) (hp : pc1 + 3 = pc') (ho : 0 ≤ (pc1 : Int) + o) (hq : ((pc1 : Int) + o).toNat = pcY) (ry : x < y → OGo p l e R s m args below meth c n0 Q h cells slots pcY Ls st) (rn : ¬ x < y → OGo p l e R s m args below meth c n0 Q h cells slots pc' Ls st) : OGo p l e R s m args below meth c n0 Q h cells slots pc Ls (.long y :: .long x :: st) :=
  OGo.lcmp K hd0 hp0 (OGo.ifLt K hd hp ho hq (fun q => ry ((lw_lt x y).mp q)) (fun q => rn (fun z => q ((lw_lt x y).mpr z))))
theorem OGo.icmpGe (K : OCx p l e R s m args below meth c Z own nm bytes ml rt) {o : Int} {x y : Int32} (hd : decode bytes pc = .ok (.if_icmp .ge o, 3)) (hp : pc + 3 = pc') (ho : 0 ≤ (pc : Int) + o) (hq : ((pc : Int) + o).toNat = pcY) (ry : ¬ x < y → OGo p l e R s m args below meth c n0 Q h cells slots pcY Ls st) (rn : x < y → OGo p l e R s m args below meth c n0 Q h cells slots pc' Ls st) : OGo p l e R s m args below meth c n0 Q h cells slots pc Ls (.int y :: .int x :: st) :=
  OGo.icmp K hd hp ho hq (fun q => ry ((own_holds q : _ = _).mpr rfl)) (fun q => rn (Classical.byContradiction fun z => Bool.false_ne_true ((own_holds q : _ = _).mp z)))
theorem OGo.ifGe (K : OCx p l e R s m args below meth c Z own nm bytes ml rt) {o : Int} {x : Int32} (hd : decode bytes pc = .ok (.ifCond .ge o, 3)) (hp : pc + 3 = pc') (ho : 0 ≤ (pc : Int) + o) (hq : ((pc : Int) + o).toNat = pcY) (ry : ¬ x < 0 → OGo p l e R s m args below meth c n0 Q h cells slots pcY Ls st) (rn : x < 0 → OGo p l e R s m args below meth c n0 Q h cells slots pc' Ls st) : OGo p l e R s m args below meth c n0 Q h cells slots pc Ls (.int x :: st) :=
  OGo.ifc K hd hp ho hq (fun q => ry ((own_holds q : _ = _).mpr rfl)) (fun q => rn (Classical.byContradiction fun z => Bool.false_ne_true ((own_holds q : _ = _).mp z)))
theorem OGo.lcmpGe (K : OCx p l e R s m args below meth c Z own nm bytes ml rt) {o : Int} {x y : Int64} {pc1 : Nat} (hd0 : decode bytes pc = .ok (.lcmp, 1)) (hp0 : pc + 1 = pc1) (hd : decode bytes pc1 = .ok (.ifCond .ge o, 3)) (hp : pc1 + 3 = pc') (ho : 0 ≤ (pc1 : Int) + o) (hq : ((pc1 : Int) + o).toNat = pcY) (ry : ¬ x < y → OGo p l e R s m args below meth c n0 Q h cells slots pcY Ls st) (rn : x < y → OGo p l e R s m args below meth c n0 Q h cells slots pc' Ls st) : OGo p l e R s m args below meth c n0 Q h cells slots pc Ls (.long y :: .long x :: st) :=
  OGo.lcmp K hd0 hp0 (OGo.ifGe K hd hp ho hq (fun q => ry (fun z => q ((lw_lt x y).mpr z))) (fun q => rn ((lw_lt x y).mp q)))
theorem OGo.icmpGt (K : OCx p l e R s m args below meth c Z own nm bytes ml rt) {o : Int} {x y : Int32} (hd : decode bytes pc = .ok (.if_icmp .gt o, 3)) (hp : pc + 3 = pc') (ho : 0 ≤ (pc : Int) + o) (hq : ((pc : Int) + o).toNat = pcY) (ry : y < x → OGo p l e R s m args below meth c n0 Q h cells slots pcY Ls st) (rn : ¬ y < x → OGo p l e R s m args below meth c n0 Q h cells slots pc' Ls st) : OGo p l e R s m args below meth c n0 Q h cells slots pc Ls (.int y :: .int x :: st) :=
  OGo.icmp K hd hp ho hq (fun q => ry ((own_holds q : _ = _).mpr rfl)) (fun q => rn (fun z => Bool.false_ne_true ((own_holds q : _ = _).mp z)))
theorem OGo.ifGt (K : OCx p l e R s m args below meth c Z own nm bytes ml rt) {o : Int} {x : Int32} (hd : decode bytes pc = .ok (.ifCond .gt o, 3)) (hp : pc + 3 = pc') (ho : 0 ≤ (pc : Int) + o) (hq : ((pc : Int) + o).toNat = pcY) (ry : 0 < x → OGo p l e R s m args below meth c n0 Q h cells slots pcY Ls st) (rn : ¬ 0 < x → OGo p l e R s m args below meth c n0 Q h cells slots pc' Ls st) : OGo p l e R s m args below meth c n0 Q h cells slots pc Ls (.int x :: st) :=
  OGo.ifc K hd hp ho hq (fun q => ry ((own_holds q : _ = _).mpr rfl)) (fun q => rn (fun z => Bool.false_ne_true ((own_holds q : _ = _).mp z)))
theorem OGo.lcmpGt (K : OCx p l e R s m args below meth c Z own nm bytes ml rt) {o : Int} {x y : Int64} {pc1 : Nat} (hd0 : decode bytes pc = .ok (.lcmp, 1)) (hp0 : pc + 1 = pc1) (hd : decode bytes pc1 = .ok (.ifCond .gt o, 3)) (hp : pc1 + 3 = pc') (ho : 0 ≤ (pc1 : Int) + o) (hq : ((pc1 : Int) + o).toNat = pcY) (ry : y < x → OGo p l e R s m args below meth c n0 Q h cells slots pcY Ls st) (rn : ¬ y < x → OGo p l e R s m args below meth c n0 Q h cells slots pc' Ls st) : OGo p l e R s m args below meth c n0 Q h cells slots pc Ls (.long y :: .long x :: st) :=
  OGo.lcmp K hd0 hp0 (OGo.ifGt K hd hp ho hq (fun q => ry ((lw_gt x y).mp q)) (fun q => rn (fun z => q ((lw_gt x y).mpr z))))
theorem OGo.icmpLe (K : OCx p l e R s m args below meth c Z own nm bytes ml rt) {o : Int} {x y : Int32} (hd : decode bytes pc = .ok (.if_icmp .le o, 3)) (hp : pc + 3 = pc') (ho : 0 ≤ (pc : Int) + o) (hq : ((pc : Int) + o).toNat = pcY) (ry : ¬ y < x → OGo p l e R s m args below meth c n0 Q h cells slots pcY Ls st) (rn : y < x → OGo p l e R s m args below meth c n0 Q h cells slots pc' Ls st) : OGo p l e R s m args below meth c n0 Q h cells slots pc Ls (.int y :: .int x :: st) :=
  OGo.icmp K hd hp ho hq (fun q => ry ((own_holds q : _ = _).mpr rfl)) (fun q => rn (Classical.byContradiction fun z => Bool.false_ne_true ((own_holds q : _ = _).mp z)))
theorem OGo.ifLe (K : OCx p l e R s m args below meth c Z own nm bytes ml rt) {o : Int} {x : Int32} (hd : decode bytes pc = .ok (.ifCond .le o, 3)) (hp : pc + 3 = pc') (ho : 0 ≤ (pc : Int) + o) (hq : ((pc : Int) + o).toNat = pcY) (ry : ¬ 0 < x → OGo p l e R s m args below meth c n0 Q h cells slots pcY Ls st) (rn : 0 < x → OGo p l e R s m args below meth c n0 Q h cells slots pc' Ls st) : OGo p l e R s m args below meth c n0 Q h cells slots pc Ls (.int x :: st) :=
  OGo.ifc K hd hp ho hq (fun q => ry ((own_holds q : _ = _).mpr rfl)) (fun q => rn (Classical.byContradiction fun z => Bool.false_ne_true ((own_holds q : _ = _).mp z)))
theorem OGo.lcmpLe (K : OCx p l e R s m args below meth c Z own nm bytes ml rt) {o : Int} {x y : Int64} {pc1 : Nat} (hd0 : decode bytes pc = .ok (.lcmp, 1)) (hp0 : pc + 1 = pc1) (hd : decode bytes pc1 = .ok (.ifCond .le o, 3)) (hp : pc1 + 3 = pc') (ho : 0 ≤ (pc1 : Int) + o) (hq : ((pc1 : Int) + o).toNat = pcY) (ry : ¬ y < x → OGo p l e R s m args below meth c n0 Q h cells slots pcY Ls st) (rn : y < x → OGo p l e R s m args below meth c n0 Q h cells slots pc' Ls st) : OGo p l e R s m args below meth c n0 Q h cells slots pc Ls (.long y :: .long x :: st) :=
  OGo.lcmp K hd0 hp0 (OGo.ifLe K hd hp ho hq (fun q => ry (fun z => q ((lw_gt x y).mpr z))) (fun q => rn ((lw_gt x y).mp q)))
theorem OGo.ifnullY (K : OCx p l e R s m args below meth c Z own nm bytes ml rt) {o : Int} (hd : decode bytes pc = .ok (.ifnull o, 3)) (ho : 0 ≤ (pc : Int) + o) (hq : ((pc : Int) + o).toNat = pc') (r : OGo p l e R s m args below meth c n0 Q h cells slots pc' Ls st) : OGo p l e R s m args below meth c n0 Q h cells slots pc Ls (.null :: st) :=
  OGo.plain (fun T t hA q => XS.ifnullYes hA K.ex rfl rfl (hb K.by hd) rfl ho hq q) r
theorem OGo.ifnullN (K : OCx p l e R s m args below meth c Z own nm bytes ml rt) {b : Addr} {o : Int} (hd : decode bytes pc = .ok (.ifnull o, 3)) (hp : pc + 3 = pc') (r : OGo p l e R s m args below meth c n0 Q h cells slots pc' Ls st) : OGo p l e R s m args below meth c n0 Q h cells slots pc Ls (.ref b :: st) := by
  subst hp
  exact OGo.plain (fun T t hA q => XS.ifnullNo hA K.ex rfl (hb K.by hd) rfl q) r
theorem OGo.ifnonnullY (K : OCx p l e R s m args below meth c Z own nm bytes ml rt) {b : Addr} {o : Int} (hd : decode bytes pc = .ok (.ifnonnull o, 3)) (ho : 0 ≤ (pc : Int) + o) (hq : ((pc : Int) + o).toNat = pc') (r : OGo p l e R s m args below meth c n0 Q h cells slots pc' Ls st) : OGo p l e R s m args below meth c n0 Q h cells slots pc Ls (.ref b :: st) :=
  OGo.plain (fun T t hA q => XS.ifnonnullYes hA K.ex rfl rfl (hb K.by hd) rfl ho hq q) r
theorem OGo.ifnonnullN (K : OCx p l e R s m args below meth c Z own nm bytes ml rt) {o : Int} (hd : decode bytes pc = .ok (.ifnonnull o, 3)) (hp : pc + 3 = pc') (r : OGo p l e R s m args below meth c n0 Q h cells slots pc' Ls st) : OGo p l e R s m args below meth c n0 Q h cells slots pc Ls (.null :: st) := by
  subst hp
  exact OGo.plain (fun T t hA q => XS.ifnonnullNo hA K.ex rfl (hb K.by hd) rfl q) r
theorem OGo.getF (K : OCx p l e R s m args below meth c Z own nm bytes ml rt) {R0 O n d host : String} {index : Nat} {a : Addr} {v : Value} (w : (Jvm.Cond.fieldLink own index R0 n d).before a0 Z = true ∨ (Jvm.Cond.fieldLinkNest own index R0 n d host).before a0 Z = true) (via : Via Z R0 O n d) (F : Fld Z h a O n d v) (hd : decode bytes pc = .ok (.getfield index, 3)) (hp : pc + 3 = pc') (r : OGo p l e R s m args below meth c n0 Q h cells slots pc' Ls (v :: st)) : OGo p l e R s m args below meth c n0 Q h cells slots pc Ls (.ref a :: st) := by
  subst hp
  exact OGo.same (fun T locs k n X e0 => RoadKit.getF X K.ex K.hZ K.hown w via e0 F (g := mkF m pc Ls (.ref a :: st)) rfl rfl (hb K.by hd)) r
theorem OGo.getS (K : OCx p l e R s m args below meth c Z own nm bytes ml rt) {R0 O n d host : String} {index : Nat} {v : Value} (w : (Jvm.Cond.fieldLink own index R0 n d).before a0 Z = true ∨ (Jvm.Cond.fieldLinkNest own index R0 n d host).before a0 Z = true) (via : Via Z R0 O n d) (F : Sta Z h O n d v) (hd : decode bytes pc = .ok (.getstatic index, 3)) (hp : pc + 3 = pc') (r : OGo p l e R s m args below meth c n0 Q h cells slots pc' Ls (v :: st)) : OGo p l e R s m args below meth c n0 Q h cells slots pc Ls st := by
  subst hp
  exact OGo.same (fun T locs k n X e0 => RoadKit.getS2 X K.ex K.hZ K.hown w via e0 F (g := mkF m pc Ls st) rfl (hb K.by hd)) r
theorem OGo.putF (K : OCx p l e R s m args below meth c Z own nm bytes ml rt) {R0 O n d host C : String} {index kk : Nat} {ty : FieldType} {a : Addr} {v old : Value} (w : (Jvm.Cond.fieldLink own index R0 n d).before a0 Z = true ∨ (Jvm.Cond.fieldLinkNest own index R0 n d host).before a0 Z = true) (via : Via Z R0 O n d) (F : Fld Z h a O n d old) (E : Exa Z h a C) (L : (Jvm.Cond.lays C O n d).before a0 Z = true ∨ ((Jvm.Cond.laysFinal C O n d).before a0 Z = true ∧ own = O ∧ nm = "<init>")) (wi : (Jvm.Cond.instantiable C kk).before a0 Z = true) (hty : parseFieldDescriptor d = some ty) (hn : narrow ty v = v) (hf : fits ty v = true) (ga : n0 ≤ a) (hd : decode bytes pc = .ok (.putfield index, 3)) (hp : pc + 3 = pc')
    (r : ∀ h', Wr h h' a (RoadKit.slotOf Z O n d) v → OGo p l e R s m args below meth c n0 Q h' cells slots pc' Ls st) : OGo p l e R s m args below meth c n0 Q h cells slots pc Ls (v :: .ref a :: st) := by
  subst hp
  exact OGo.write ga (fun T locs k n X e0 => RoadKit.putF X K.ex K.hZ K.hown w via e0 F E (L.imp id fun q => ⟨q.1, q.2.1, K.hnm.trans q.2.2⟩) wi hty hn hf (g := mkF m pc Ls (v :: .ref a :: st)) rfl rfl (hb K.by hd)) r
theorem OGo.putFN (K : OCx p l e R s m args below meth c Z own nm bytes ml rt) {R0 O n d C : String} {index kk : Nat} {ty : FieldType} {a : Addr} {v v' old : Value} (w : (Jvm.Cond.fieldLink own index R0 n d).before a0 Z = true) (via : Via Z R0 O n d) (F : Fld Z h a O n d old) (E : Exa Z h a C) (L : (Jvm.Cond.lays C O n d).before a0 Z = true ∨ ((Jvm.Cond.laysFinal C O n d).before a0 Z = true ∧ own = O ∧ nm = "<init>")) (wi : (Jvm.Cond.instantiable C kk).before a0 Z = true) (hty : parseFieldDescriptor d = some ty) (hn : narrow ty v = v') (hf : fits ty v' = true) (ga : n0 ≤ a) (hd : decode bytes pc = .ok (.putfield index, 3)) (hp : pc + 3 = pc')
    (r : ∀ h', Wr h h' a (RoadKit.slotOf Z O n d) v' → OGo p l e R s m args below meth c n0 Q h' cells slots pc' Ls st) : OGo p l e R s m args below meth c n0 Q h cells slots pc Ls (v :: .ref a :: st) := by
  subst hp
  exact OGo.write ga (fun T locs k n X e0 => RoadKit.putFN X K.ex K.hZ K.hown w via e0 F E (L.imp id fun q => ⟨q.1, q.2.1, K.hnm.trans q.2.2⟩) wi hty hn hf (g := mkF m pc Ls (v :: .ref a :: st)) rfl rfl (hb K.by hd)) r
theorem OGo.newO (K : OCx p l e R s m args below meth c Z own nm bytes ml rt) {C : String} {index n cells' slots' : Nat} (w : (Jvm.Cond.classLink own index C).before a0 Z = true) (wi : (Jvm.Cond.instantiable C n).before a0 Z = true) (wz : (Jvm.Cond.initialized C).before a0 Z = true) (hd : decode bytes pc = .ok (.new index, 3)) (hp : pc + 3 = pc') (hc : cells + 1 = cells') (hl : slots + n = slots') (hc' : cells' ≤ R.cells) (hl' : slots' ≤ R.slots)
    (r : ∀ (h' : Heap) (a : Addr), a = h.size → Ext h h' → Exa Z h' a C → (∀ {O nm d : String} {ty : FieldType}, Laid Z a0 C O nm d → parseFieldDescriptor d = some ty → Fld Z h' a O nm d (defaultValue ty)) → OGo p l e R s m args below meth c n0 Q h' cells' slots' pc' Ls (.ref a :: st)) : OGo p l e R s m args below meth c n0 Q h cells slots pc Ls st := by
  subst hp hc hl
  intro T locs k j X e0 N h1 h2
  obtain ⟨T', h', X', e', E, A, D, -, st'⟩ := RoadKit.newO X K.ex K.hZ K.hown w wi wz e0 (g := mkF m pc Ls st) rfl (hb K.by hd) (by omega) (by omega)
  obtain ⟨s₂, v, L, g, r'⟩ := r h' h.size rfl E A D T' locs _ _ X' e' N (by omega) (by omega)
  exact ⟨s₂, v, L, st' _ g, r'⟩
theorem OGo.newP (K : OCx p l e R s m args below meth c Z own nm bytes ml rt) {aty : ArrayType} {z : Int32} {cap cells' slots' : Nat} (w : (Jvm.Cond.arrayClass (newarray.typeOf aty)).before a0 Z = true) (hd : decode bytes pc = .ok (.newarray aty, 2)) (hp : pc + 2 = pc') (hz : ¬ z < 0) (hcap : z.toNatClampNeg ≤ cap) (hb' : cap * 8 ≤ 536870912) (hc : cells + 1 = cells') (hl : slots + cap = slots') (hc' : cells' ≤ R.cells) (hl' : slots' ≤ R.slots)
    (r : ∀ (h' : Heap) (a : Addr) (ca : ClassId), a = h.size → Ext h h' → Arv Z h' a ca (newarray.typeOf aty) z [] (defaultValue (newarray.typeOf aty)) → OGo p l e R s m args below meth c n0 Q h' cells' slots' pc' Ls (.ref a :: st)) : OGo p l e R s m args below meth c n0 Q h cells slots pc Ls (.int z :: st) := by
  subst hp hc hl
  intro T locs k j X e0 N h1 h2
  obtain ⟨T', h', ca, X', e', E, A, st'⟩ := RoadKit.newP X K.ex K.hZ w e0 (g := mkF m pc Ls (.int z :: st)) rfl (hb K.by hd) rfl hz (cap := cap) hcap hb' (by omega) (by omega)
  obtain ⟨s₂, v, L, g, r'⟩ := r h' h.size ca rfl E (Arv.new A hz) T' locs _ _ X' e' N (by omega) (by omega)
  exact ⟨s₂, v, L, st' _ g, r'⟩
theorem OGo.newR (K : OCx p l e R s m args below meth c Z own nm bytes ml rt) {C : String} {index : Nat} {z : Int32} {cap cells' slots' : Nat} (w1 : (Jvm.Cond.classLink own index C).before a0 Z = true) (w2 : (Jvm.Cond.arrayOver (.object C)).before a0 Z = true) (hd : decode bytes pc = .ok (.anewarray index, 3)) (hp : pc + 3 = pc') (hz : ¬ z < 0) (hcap : z.toNatClampNeg ≤ cap) (hb' : cap * 8 ≤ 536870912) (hc : cells + 1 = cells') (hl : slots + cap = slots') (hc' : cells' ≤ R.cells) (hl' : slots' ≤ R.slots)
    (r : ∀ (h' : Heap) (a : Addr) (ca : ClassId), a = h.size → Ext h h' → Arv Z h' a ca (.object C) z [] .null → Ovr Z ca C → OGo p l e R s m args below meth c n0 Q h' cells' slots' pc' Ls (.ref a :: st)) : OGo p l e R s m args below meth c n0 Q h cells slots pc Ls (.int z :: st) := by
  subst hp hc hl
  intro T locs k j X e0 N h1 h2
  obtain ⟨T', h', ca, X', e', E, A, O, st'⟩ := RoadKit.newR X K.ex K.hZ K.hown w1 w2 e0 (g := mkF m pc Ls (.int z :: st)) rfl (hb K.by hd) rfl hz (cap := cap) hcap hb' (by omega) (by omega)
  obtain ⟨s₂, v, L, g, r'⟩ := r h' h.size ca rfl E (Arv.new A hz) O T' locs _ _ X' e' N (by omega) (by omega)
  exact ⟨s₂, v, L, st' _ g, r'⟩
theorem OGo.iaload (K : OCx p l e R s m args below meth c Z own nm bytes ml rt) {a : Addr} {ca : ClassId} {z j : Int32} {vs : List Value} {dv v : Value} (A : Arv Z h a ca .int z vs dv) (hj : ¬ j < 0 ∧ j < z) (hv : vs.getD j.toNatClampNeg dv = v) (hd : decode bytes pc = .ok (.iaload, 1)) (hp : pc + 1 = pc') (r : OGo p l e R s m args below meth c n0 Q h cells slots pc' Ls (v :: st)) : OGo p l e R s m args below meth c n0 Q h cells slots pc Ls (.int j :: .ref a :: st) := by
  subst hp
  obtain ⟨cl, A, -, S, -, H, -⟩ := A
  have hin := inb_of S hj
  exact OGo.same (fun T locs k n X e0 => ⟨T, X, e0, fun t q => X.iaload K.ex (j := j) (by rw [e0]; exact A.1) (State.isArrayOf_alike K.hZ.alike A.2.1) A.2.2 hin (H.at hin hv) (g := mkF m pc Ls (.int j :: .ref a :: st)) rfl rfl (hb K.by hd) t q⟩) r
theorem OGo.laload (K : OCx p l e R s m args below meth c Z own nm bytes ml rt) {a : Addr} {ca : ClassId} {z j : Int32} {vs : List Value} {dv v : Value} (A : Arv Z h a ca .long z vs dv) (hj : ¬ j < 0 ∧ j < z) (hv : vs.getD j.toNatClampNeg dv = v) (hd : decode bytes pc = .ok (.laload, 1)) (hp : pc + 1 = pc') (r : OGo p l e R s m args below meth c n0 Q h cells slots pc' Ls (v :: st)) : OGo p l e R s m args below meth c n0 Q h cells slots pc Ls (.int j :: .ref a :: st) := by
  subst hp
  obtain ⟨cl, A, -, S, -, H, -⟩ := A
  have hin := inb_of S hj
  exact OGo.same (fun T locs k n X e0 => ⟨T, X, e0, fun t q => X.laload K.ex (j := j) (by rw [e0]; exact A.1) (State.isArrayOf_alike K.hZ.alike A.2.1) A.2.2 hin (H.at hin hv) (g := mkF m pc Ls (.int j :: .ref a :: st)) rfl rfl (hb K.by hd) t q⟩) r
theorem OGo.caload (K : OCx p l e R s m args below meth c Z own nm bytes ml rt) {a : Addr} {ca : ClassId} {z j : Int32} {vs : List Value} {dv v : Value} (A : Arv Z h a ca .char z vs dv) (hj : ¬ j < 0 ∧ j < z) (hv : vs.getD j.toNatClampNeg dv = v) (hd : decode bytes pc = .ok (.caload, 1)) (hp : pc + 1 = pc') (r : OGo p l e R s m args below meth c n0 Q h cells slots pc' Ls (v :: st)) : OGo p l e R s m args below meth c n0 Q h cells slots pc Ls (.int j :: .ref a :: st) := by
  subst hp
  obtain ⟨cl, A, -, S, -, H, -⟩ := A
  have hin := inb_of S hj
  exact OGo.same (fun T locs k n X e0 => ⟨T, X, e0, fun t q => X.caload K.ex (j := j) (by rw [e0]; exact A.1) (State.isArrayOf_alike K.hZ.alike A.2.1) A.2.2 hin (H.at hin hv) (g := mkF m pc Ls (.int j :: .ref a :: st)) rfl rfl (hb K.by hd) t q⟩) r
theorem OGo.saload (K : OCx p l e R s m args below meth c Z own nm bytes ml rt) {a : Addr} {ca : ClassId} {z j : Int32} {vs : List Value} {dv v : Value} (A : Arv Z h a ca .short z vs dv) (hj : ¬ j < 0 ∧ j < z) (hv : vs.getD j.toNatClampNeg dv = v) (hd : decode bytes pc = .ok (.saload, 1)) (hp : pc + 1 = pc') (r : OGo p l e R s m args below meth c n0 Q h cells slots pc' Ls (v :: st)) : OGo p l e R s m args below meth c n0 Q h cells slots pc Ls (.int j :: .ref a :: st) := by
  subst hp
  obtain ⟨cl, A, -, S, -, H, -⟩ := A
  have hin := inb_of S hj
  exact OGo.same (fun T locs k n X e0 => ⟨T, X, e0, fun t q => X.saload K.ex (j := j) (by rw [e0]; exact A.1) (State.isArrayOf_alike K.hZ.alike A.2.1) A.2.2 hin (H.at hin hv) (g := mkF m pc Ls (.int j :: .ref a :: st)) rfl rfl (hb K.by hd) t q⟩) r
theorem OGo.baload (K : OCx p l e R s m args below meth c Z own nm bytes ml rt) {a : Addr} {ca : ClassId} {z j : Int32} {vs : List Value} {dv v : Value} (A : Arv Z h a ca .byte z vs dv) (hj : ¬ j < 0 ∧ j < z) (hv : vs.getD j.toNatClampNeg dv = v) (hd : decode bytes pc = .ok (.baload, 1)) (hp : pc + 1 = pc') (r : OGo p l e R s m args below meth c n0 Q h cells slots pc' Ls (v :: st)) : OGo p l e R s m args below meth c n0 Q h cells slots pc Ls (.int j :: .ref a :: st) := by
  subst hp
  obtain ⟨cl, A, -, S, -, H, -⟩ := A
  have hin := inb_of S hj
  exact OGo.same (fun T locs k n X e0 => ⟨T, X, e0, fun t q => X.baloadBytes K.ex (j := j) (by rw [e0]; exact A.1) (State.isArrayOf_alike K.hZ.alike A.2.1) A.2.2 hin (H.at hin hv) (g := mkF m pc Ls (.int j :: .ref a :: st)) rfl rfl (hb K.by hd) t q⟩) r
theorem OGo.zaload (K : OCx p l e R s m args below meth c Z own nm bytes ml rt) {a : Addr} {ca : ClassId} {z j : Int32} {vs : List Value} {dv v : Value} (A : Arv Z h a ca .boolean z vs dv) (hj : ¬ j < 0 ∧ j < z) (hv : vs.getD j.toNatClampNeg dv = v) (hd : decode bytes pc = .ok (.baload, 1)) (hp : pc + 1 = pc') (r : OGo p l e R s m args below meth c n0 Q h cells slots pc' Ls (v :: st)) : OGo p l e R s m args below meth c n0 Q h cells slots pc Ls (.int j :: .ref a :: st) := by
  subst hp
  obtain ⟨cl, A, -, S, -, H, -⟩ := A
  have hin := inb_of S hj
  exact OGo.same (fun T locs k n X e0 => ⟨T, X, e0, fun t q => X.baloadBooleans K.ex (j := j) (by rw [e0]; exact A.1) (State.isArrayOf_alike K.hZ.alike A.2.1) A.2.2 hin (H.at hin hv) (g := mkF m pc Ls (.int j :: .ref a :: st)) rfl rfl (hb K.by hd) t q⟩) r
theorem OGo.aaload (K : OCx p l e R s m args below meth c Z own nm bytes ml rt) {a : Addr} {ca : ClassId} {ty : FieldType} {z j : Int32} {vs : List Value} {dv v : Value} (A : Arv Z h a ca ty z vs dv) (hty : ty.isReference = true) (hj : ¬ j < 0 ∧ j < z) (hv : vs.getD j.toNatClampNeg dv = v) (hd : decode bytes pc = .ok (.aaload, 1)) (hp : pc + 1 = pc') (r : OGo p l e R s m args below meth c n0 Q h cells slots pc' Ls (v :: st)) : OGo p l e R s m args below meth c n0 Q h cells slots pc Ls (.int j :: .ref a :: st) := by
  subst hp
  obtain ⟨cl, A, -, S, -, H, -⟩ := A
  have hin := inb_of S hj
  exact OGo.same (fun T locs k n X e0 => ⟨T, X, e0, fun t q => X.aaload K.ex (j := j) (by rw [e0]; exact A.1) (State.isArrayOf_alike K.hZ.alike A.2.1) hty A.2.2 hin (H.at hin hv) (g := mkF m pc Ls (.int j :: .ref a :: st)) rfl rfl (hb K.by hd) t q⟩) r
theorem OGo.alen (K : OCx p l e R s m args below meth c Z own nm bytes ml rt) {a : Addr} {ca : ClassId} {ty : FieldType} {z : Int32} {vs : List Value} {dv : Value} (A : Arv Z h a ca ty z vs dv) (hd : decode bytes pc = .ok (.arraylength, 1)) (hp : pc + 1 = pc') (r : OGo p l e R s m args below meth c n0 Q h cells slots pc' Ls (.int z :: st)) : OGo p l e R s m args below meth c n0 Q h cells slots pc Ls (.ref a :: st) := by
  subst hp
  obtain ⟨cl, A, -, S, hz, -, -⟩ := A
  exact OGo.same (fun T locs k n X e0 => ⟨T, X, e0, fun t q => X.arraylength K.ex (by rw [e0]; exact A.1) (State.isArrayOf_alike K.hZ.alike A.2.1) (g := mkF m pc Ls (.ref a :: st)) rfl rfl (hb K.by hd) t (by rw [len_of S hz]; exact q)⟩) r
theorem OGo.iastore (K : OCx p l e R s m args below meth c Z own nm bytes ml rt) {a : Addr} {ca : ClassId} {z j : Int32} {vs : List Value} {dv : Value} {x : Int32} (A : Arv Z h a ca .int z vs dv) (hj : ¬ j < 0 ∧ j < z) {i : Nat} (hij : j.toNatClampNeg = i) (hi : i < vs.length) (ga : n0 ≤ a) (hd : decode bytes pc = .ok (.iastore, 1)) (hp : pc + 1 = pc')
    (r : ∀ h', Wr h h' a j.toNatClampNeg (.int x) → Arv Z h' a ca .int z (vs.set i (.int x)) dv → OGo p l e R s m args below meth c n0 Q h' cells slots pc' Ls st) : OGo p l e R s m args below meth c n0 Q h cells slots pc Ls (.int x :: .int j :: .ref a :: st) := by
  subst hp
  obtain ⟨cl, A, q1, S, hz, H, G⟩ := A
  have hin := inb_of S hj
  exact OGo.write ga (fun T locs k n X e0 => RoadKit.stI X K.ex K.hZ e0 A (j := j) hin (g := mkF m pc Ls (.int x :: .int j :: .ref a :: st)) rfl rfl (hb K.by hd)) (fun h' W => r h' W (Arv.set A q1 S hz H G rfl W _ hij hi))
theorem OGo.lastore (K : OCx p l e R s m args below meth c Z own nm bytes ml rt) {a : Addr} {ca : ClassId} {z j : Int32} {vs : List Value} {dv : Value} {x : Int64} (A : Arv Z h a ca .long z vs dv) (hj : ¬ j < 0 ∧ j < z) {i : Nat} (hij : j.toNatClampNeg = i) (hi : i < vs.length) (ga : n0 ≤ a) (hd : decode bytes pc = .ok (.lastore, 1)) (hp : pc + 1 = pc')
    (r : ∀ h', Wr h h' a j.toNatClampNeg (.long x) → Arv Z h' a ca .long z (vs.set i (.long x)) dv → OGo p l e R s m args below meth c n0 Q h' cells slots pc' Ls st) : OGo p l e R s m args below meth c n0 Q h cells slots pc Ls (.long x :: .int j :: .ref a :: st) := by
  subst hp
  obtain ⟨cl, A, q1, S, hz, H, G⟩ := A
  have hin := inb_of S hj
  exact OGo.write ga (fun T locs k n X e0 => RoadKit.stJ X K.ex K.hZ e0 A (j := j) hin (g := mkF m pc Ls (.long x :: .int j :: .ref a :: st)) rfl rfl (hb K.by hd)) (fun h' W => r h' W (Arv.set A q1 S hz H G rfl W _ hij hi))
theorem OGo.castore (K : OCx p l e R s m args below meth c Z own nm bytes ml rt) {a : Addr} {ca : ClassId} {z j : Int32} {vs : List Value} {dv : Value} {x : Int32} (A : Arv Z h a ca .char z vs dv) (hj : ¬ j < 0 ∧ j < z) {i : Nat} (hij : j.toNatClampNeg = i) (hi : i < vs.length) (ga : n0 ≤ a) (hd : decode bytes pc = .ok (.castore, 1)) (hp : pc + 1 = pc')
    (r : ∀ h', Wr h h' a j.toNatClampNeg (.int (nar .char x)) → Arv Z h' a ca .char z (vs.set i (.int (nar .char x))) dv → OGo p l e R s m args below meth c n0 Q h' cells slots pc' Ls st) : OGo p l e R s m args below meth c n0 Q h cells slots pc Ls (.int x :: .int j :: .ref a :: st) := by
  subst hp
  obtain ⟨cl, A, q1, S, hz, H, G⟩ := A
  have hin := inb_of S hj
  exact OGo.write ga (fun T locs k n X e0 => RoadKit.stC X K.ex K.hZ e0 A (j := j) hin (g := mkF m pc Ls (.int x :: .int j :: .ref a :: st)) rfl rfl (hb K.by hd)) (fun h' W => r h' W (Arv.set A q1 S hz H G (fits_nar_char x) W _ hij hi))
theorem OGo.sastore (K : OCx p l e R s m args below meth c Z own nm bytes ml rt) {a : Addr} {ca : ClassId} {z j : Int32} {vs : List Value} {dv : Value} {x : Int32} (A : Arv Z h a ca .short z vs dv) (hj : ¬ j < 0 ∧ j < z) {i : Nat} (hij : j.toNatClampNeg = i) (hi : i < vs.length) (ga : n0 ≤ a) (hd : decode bytes pc = .ok (.sastore, 1)) (hp : pc + 1 = pc')
    (r : ∀ h', Wr h h' a j.toNatClampNeg (.int (nar .short x)) → Arv Z h' a ca .short z (vs.set i (.int (nar .short x))) dv → OGo p l e R s m args below meth c n0 Q h' cells slots pc' Ls st) : OGo p l e R s m args below meth c n0 Q h cells slots pc Ls (.int x :: .int j :: .ref a :: st) := by
  subst hp
  obtain ⟨cl, A, q1, S, hz, H, G⟩ := A
  have hin := inb_of S hj
  exact OGo.write ga (fun T locs k n X e0 => RoadKit.stS X K.ex K.hZ e0 A (j := j) hin (g := mkF m pc Ls (.int x :: .int j :: .ref a :: st)) rfl rfl (hb K.by hd)) (fun h' W => r h' W (Arv.set A q1 S hz H G (fits_nar_short x) W _ hij hi))
theorem OGo.bastore (K : OCx p l e R s m args below meth c Z own nm bytes ml rt) {a : Addr} {ca : ClassId} {z j : Int32} {vs : List Value} {dv : Value} {x : Int32} (A : Arv Z h a ca .byte z vs dv) (hj : ¬ j < 0 ∧ j < z) {i : Nat} (hij : j.toNatClampNeg = i) (hi : i < vs.length) (ga : n0 ≤ a) (hd : decode bytes pc = .ok (.bastore, 1)) (hp : pc + 1 = pc')
    (r : ∀ h', Wr h h' a j.toNatClampNeg (.int (nar .byte x)) → Arv Z h' a ca .byte z (vs.set i (.int (nar .byte x))) dv → OGo p l e R s m args below meth c n0 Q h' cells slots pc' Ls st) : OGo p l e R s m args below meth c n0 Q h cells slots pc Ls (.int x :: .int j :: .ref a :: st) := by
  subst hp
  obtain ⟨cl, A, q1, S, hz, H, G⟩ := A
  have hin := inb_of S hj
  exact OGo.write ga (fun T locs k n X e0 => RoadKit.stB X K.ex K.hZ e0 A (j := j) hin (g := mkF m pc Ls (.int x :: .int j :: .ref a :: st)) rfl rfl (hb K.by hd)) (fun h' W => r h' W (Arv.set A q1 S hz H G (fits_nar_byte x) W _ hij hi))
theorem OGo.zastore (K : OCx p l e R s m args below meth c Z own nm bytes ml rt) {a : Addr} {ca : ClassId} {z j : Int32} {vs : List Value} {dv : Value} {x : Int32} (A : Arv Z h a ca .boolean z vs dv) (hj : ¬ j < 0 ∧ j < z) {i : Nat} (hij : j.toNatClampNeg = i) (hi : i < vs.length) (ga : n0 ≤ a) (hd : decode bytes pc = .ok (.bastore, 1)) (hp : pc + 1 = pc')
    (r : ∀ h', Wr h h' a j.toNatClampNeg (.int (nar .boolean x)) → Arv Z h' a ca .boolean z (vs.set i (.int (nar .boolean x))) dv → OGo p l e R s m args below meth c n0 Q h' cells slots pc' Ls st) : OGo p l e R s m args below meth c n0 Q h cells slots pc Ls (.int x :: .int j :: .ref a :: st) := by
  subst hp
  obtain ⟨cl, A, q1, S, hz, H, G⟩ := A
  have hin := inb_of S hj
  exact OGo.write ga (fun T locs k n X e0 => RoadKit.stZ X K.ex K.hZ e0 A (j := j) hin (g := mkF m pc Ls (.int x :: .int j :: .ref a :: st)) rfl rfl (hb K.by hd)) (fun h' W => r h' W (Arv.set A q1 S hz H G (fits_nar_bool x) W _ hij hi))
theorem OGo.aastore (K : OCx p l e R s m args below meth c Z own nm bytes ml rt) {a : Addr} {ca : ClassId} {ty : FieldType} {z j : Int32} {vs : List Value} {dv v : Value} (A : Arv Z h a ca ty z vs dv) (hty : ty.isReference = true) (hv : v.isRef = true) (F : Sto Z h a v) (hj : ¬ j < 0 ∧ j < z) {i : Nat} (hij : j.toNatClampNeg = i) (hi : i < vs.length) (ga : n0 ≤ a) (hd : decode bytes pc = .ok (.aastore, 1)) (hp : pc + 1 = pc')
    (r : ∀ h', Wr h h' a j.toNatClampNeg v → Arv Z h' a ca ty z (vs.set i v) dv → OGo p l e R s m args below meth c n0 Q h' cells slots pc' Ls st) : OGo p l e R s m args below meth c n0 Q h cells slots pc Ls (v :: .int j :: .ref a :: st) := by
  subst hp
  obtain ⟨cl, A, q1, S, hz, H, G⟩ := A
  have hin := inb_of S hj
  exact OGo.write ga (fun T locs k n X e0 => RoadKit.stR X K.ex K.hZ e0 A (j := j) hin hty F (g := mkF m pc Ls (v :: .int j :: .ref a :: st)) rfl rfl (hb K.by hd)) (fun h' W => r h' W (Arv.set A q1 S hz H G (by cases ty <;> first | (cases hty; done) | (cases v <;> first | (cases hv; done) | rfl)) W _ hij hi))
theorem OGo.initO (K : OCx p l e R s m args below meth c Z own nm bytes ml rt) {idx W : Nat} {a : Addr} (w1 : (Jvm.Cond.methodLink own idx Lib.objectInit).before a0 Z = true) (w2 : (Jvm.Cond.instanceMethod Lib.objectInit).before a0 Z = true) (w3 : (Jvm.Cond.code Lib.objectInit ⟨#[0xb1]⟩ 1 none).before a0 Z = true) (hd : decode bytes pc = .ok (.invokespecial idx, 3)) (hp : pc + 3 = pc') (hsz : Ls.size = ml) (hW : 2 * 0 + (st.map fun v => v.category).sum ≤ W) (hf : 1 ≤ R.frames) (hl : W + 12 ≤ R.locals) (r : OGo p l e R s m args below meth c n0 Q h cells slots pc' Ls st) : OGo p l e R s m args below meth c n0 Q h cells slots pc Ls (.ref a :: st) := by
  subst hp
  exact OGo.same (fun T locs k n X e0 => RoadKit.initO X K.ex K.hZ K.hown w1 w2 w3 e0 (g := mkF m pc Ls (.ref a :: st)) rfl (hsz.trans K.hml.symm) rfl (hb K.by hd) hf hW hl) r
theorem own_private {T : State} {locs : List Loc} {cells slots : Nat} (X : Stand p l e R s m args below meth c T locs cells slots) (hexec : p.tables.exec = Jvm.exec) {own : String} {index ni : Nat} {y : MethodName} {bytes : ByteArray} {maxL : Nat} {ret : Option FieldType}
    (hown : s.vm.findClass own = some m.cls) (hlink : (Jvm.Cond.methodLink own index y).before args s = true) (hinst : (Jvm.Cond.instanceMethod y).before args s = true) (hi : (Jvm.Cond.instantiable y.cls ni).before args s = true) (hpriv : s.PrivateAt y) (hcode : (Jvm.Cond.code y bytes maxL ret).before args s = true) (hy : y.cls ≠ "java/lang/invoke/MethodHandle" ∧ y.cls ≠ "java/lang/invoke/VarHandle")
    {W : Nat} {Pre : Pt → Array Value → Prop} {Post : Pt → Array Value → Option Value → Pt → Prop} (hK : Back l R p e below s args y 3 W Pre Post) {g : JFrame} (hg : g.method = m) (hsize : g.locals.size = c.maxLocals) {a : Addr} {cell : Cell} (hcell : T.heap[a]? = some cell) (hobj : ∀ q, cell.vm ≠ .statics q)
    {argsL rest : List Value} (hlen : ∀ sig, parseMethodDescriptor y.desc = some sig → argsL.length = sig.parameters.length) (hstack : g.stack = argsL.reverse ++ .ref a :: rest) (hW : 2 * g.monitorRoom + (rest.map fun v => v.category).sum ≤ W) (hdg : decode c.code g.pc = .ok (.invokevirtual index, 3))
    (hpre : ∀ vm₁, s.WarmedH vm₁ → Pre ⟨T.setVm vm₁, locs, cells, slots⟩ (.ref a :: argsL).toArray) :
    ∃ (v : Option Value) (vm₁ : Vm) (B : Pt), s.WarmedH vm₁ ∧ Stand p l e R s m args below meth c B.U B.locs B.cells B.slots ∧ Post ⟨T.setVm vm₁, locs, cells, slots⟩ (.ref a :: argsL).toArray v B ∧ Steps p.tables e below (T.setTop g) (B.U.setTop { g with pc := g.pc + 3, stack := v.toList ++ rest }) := by
  obtain ⟨mk, mt, n1, n2, n3, n4⟩ := Cond.instanceMethod_spec hinst
  obtain ⟨mt', ct, c1, -, -, -, -, -, -, c2⟩ := Cond.code_spec n1 hcode
  obtain rfl : mt' = mt := Option.some.inj (c1.symm.trans n2)
  obtain ⟨ci, ki, i1, i2, -, i3, -⟩ := Cond.instantiable_spec hi
  have i4 : s.vm.classes[mk.cls]? = some ki := by rw [Option.some.inj ((findClass_of_methodNamed n1).symm.trans i1)]; exact i2
  have i5 : ki.isInterface = false := (Bool.or_eq_false_iff.mp i3).1
  obtain ⟨vm₁, Y, sp⟩ := X.invokevirtual hexec hown hlink n1 n2 n3 i4 i5 hy hcell hobj (selectMethod_private n2 (hpriv mk mt' n1 n2)) n2 n4 i4 i5 hg (hlen _ c2) hstack hdg
  obtain ⟨v, B, Y', P', go⟩ := hK m meth c ⟨T.setVm vm₁, locs, cells, slots⟩ { g with stack := rest } (.invokevirtual index) mk (.ref a :: argsL).toArray Y hg hsize hdg hW (Y.named n1) (hpre vm₁ Y.warmed)
  exact ⟨v, vm₁, B, Y.warmed, Y', P', (sp _ fun acts => by rw [doInvoke_state]; exact Steps.refl _).trans go⟩
theorem OGo.callSV (K : OCx p l e R s m args below meth c Z own nm bytes ml rt) {y : MethodName} {index : Nat} {bytes' : ByteArray} {maxL : Nat} {ret : Option FieldType} {rm : Room} {W cells' slots' : Nat} {argsL : List Value} {P : Value → Heap → Prop} (w1 : (Jvm.Cond.methodLink own index y).before a0 Z = true) (w2 : (Jvm.Cond.static y).before a0 Z = true) (w3 : (Jvm.Cond.initialized y.cls).before a0 Z = true) (w4 : (Jvm.Cond.code y bytes' maxL ret).before a0 Z = true) (hy : y.cls ≠ "java/lang/invoke/MethodHandle" ∧ y.cls ≠ "java/lang/invoke/VarHandle") (C : OCon l Z n0 y bytes' maxL ret [] rm (argsL.toArray) h (OV P)) (hd : decode bytes pc = .ok (.invokestatic index, 3)) (hp : pc + 3 = pc') (hsz : Ls.size = ml) (hlen : ∀ sig, parseMethodDescriptor y.desc = some sig → argsL.length = sig.parameters.length) (hW : 2 * 0 + (st.map fun v => v.category).sum ≤ W) (hf : rm.frames + 1 ≤ R.frames) (hlo : W + (maxL + 11) + rm.locals ≤ R.locals) (hc : cells + rm.cells = cells') (hl : slots + rm.slots = slots') (hc' : cells' ≤ R.cells) (hl' : slots' ≤ R.slots) (r : ∀ (w : Value) (h' : Heap), P w h' → OGo p l e R s m args below meth c n0 Q h' cells' slots' pc' Ls (w :: st))
    : OGo p l e R s m args below meth c n0 Q h cells slots pc Ls (argsL.reverse ++ st) := by
  subst hp hc hl
  intro T locs k n X e0 N h1 h2
  obtain ⟨_, _, ⟨T', L', k', n'⟩, -, X', ⟨Lc, ⟨hQ, hN⟩, l', y', z'⟩, stp⟩ := Jvm.LawKit.callS X K.ex (y := y) K.hown (mvT K.hZ w1) (mvT K.hZ w2) (mvT K.hZ w3) (mvT K.hZ w4) hy (backOf (W := W) (Q := fun v h L => (OV P) v h ∧ Fr n0 L) C K.hZ w4 w3 hf hlo) (g := mkF m pc Ls (argsL.reverse ++ st)) rfl (hsz.trans K.hml.symm) (argsL := argsL) (rest := st) hlen rfl hW (hb K.by hd) (fun _ _ => ⟨rfl, e0, (by show k + rm.cells ≤ R.cells; omega), (by show n + rm.slots ≤ R.slots; omega)⟩)
  dsimp only [Pt.U, Pt.locs, Pt.cells, Pt.slots] at X' l' y' z' stp hQ
  subst l' y' z'
  obtain ⟨w, rfl, hQ⟩ := hQ
  obtain ⟨s₂, v, L, g, r'⟩ := r w _ hQ T' _ _ _ X' rfl (Fr.app N hN) (by omega) (by omega)
  exact ⟨s₂, v, L, stp _ g, r'⟩
theorem OGo.callSN (K : OCx p l e R s m args below meth c Z own nm bytes ml rt) {y : MethodName} {index : Nat} {bytes' : ByteArray} {maxL : Nat} {ret : Option FieldType} {rm : Room} {W cells' slots' : Nat} {argsL : List Value} {P : Heap → Prop} (w1 : (Jvm.Cond.methodLink own index y).before a0 Z = true) (w2 : (Jvm.Cond.static y).before a0 Z = true) (w3 : (Jvm.Cond.initialized y.cls).before a0 Z = true) (w4 : (Jvm.Cond.code y bytes' maxL ret).before a0 Z = true) (hy : y.cls ≠ "java/lang/invoke/MethodHandle" ∧ y.cls ≠ "java/lang/invoke/VarHandle") (C : OCon l Z n0 y bytes' maxL ret [] rm (argsL.toArray) h (ON P)) (hd : decode bytes pc = .ok (.invokestatic index, 3)) (hp : pc + 3 = pc') (hsz : Ls.size = ml) (hlen : ∀ sig, parseMethodDescriptor y.desc = some sig → argsL.length = sig.parameters.length) (hW : 2 * 0 + (st.map fun v => v.category).sum ≤ W) (hf : rm.frames + 1 ≤ R.frames) (hlo : W + (maxL + 11) + rm.locals ≤ R.locals) (hc : cells + rm.cells = cells') (hl : slots + rm.slots = slots') (hc' : cells' ≤ R.cells) (hl' : slots' ≤ R.slots) (r : ∀ (h' : Heap), P h' → OGo p l e R s m args below meth c n0 Q h' cells' slots' pc' Ls st)
    : OGo p l e R s m args below meth c n0 Q h cells slots pc Ls (argsL.reverse ++ st) := by
  subst hp hc hl
  intro T locs k n X e0 N h1 h2
  obtain ⟨_, _, ⟨T', L', k', n'⟩, -, X', ⟨Lc, ⟨hQ, hN⟩, l', y', z'⟩, stp⟩ := Jvm.LawKit.callS X K.ex (y := y) K.hown (mvT K.hZ w1) (mvT K.hZ w2) (mvT K.hZ w3) (mvT K.hZ w4) hy (backOf (W := W) (Q := fun v h L => (ON P) v h ∧ Fr n0 L) C K.hZ w4 w3 hf hlo) (g := mkF m pc Ls (argsL.reverse ++ st)) rfl (hsz.trans K.hml.symm) (argsL := argsL) (rest := st) hlen rfl hW (hb K.by hd) (fun _ _ => ⟨rfl, e0, (by show k + rm.cells ≤ R.cells; omega), (by show n + rm.slots ≤ R.slots; omega)⟩)
  dsimp only [Pt.U, Pt.locs, Pt.cells, Pt.slots] at X' l' y' z' stp hQ
  subst l' y' z'
  obtain ⟨rfl, hQ⟩ := hQ
  obtain ⟨s₂, v, L, g, r'⟩ := r  _ hQ T' _ _ _ X' rfl (Fr.app N hN) (by omega) (by omega)
  exact ⟨s₂, v, L, stp _ g, r'⟩
theorem OGo.callIV (K : OCx p l e R s m args below meth c Z own nm bytes ml rt) {y : MethodName} {a : Addr} {index : Nat} {bytes' : ByteArray} {maxL : Nat} {rm : Room} {W cells' slots' : Nat} {argsL : List Value} {P : Value → Heap → Prop} (hy1 : y.name = "<init>") (w1 : (Jvm.Cond.methodLink own index y).before a0 Z = true) (w2 : (Jvm.Cond.instanceMethod y).before a0 Z = true) (w3 : (Jvm.Cond.initialized y.cls).before a0 Z = true) (w4 : (Jvm.Cond.code y bytes' maxL none).before a0 Z = true) (hy : y.cls ≠ "java/lang/invoke/MethodHandle" ∧ y.cls ≠ "java/lang/invoke/VarHandle") (C : OCon l Z n0 y bytes' maxL none [] rm ((.ref a :: argsL).toArray) h (OV P)) (hd : decode bytes pc = .ok (.invokespecial index, 3)) (hp : pc + 3 = pc') (hsz : Ls.size = ml) (hlen : ∀ sig, parseMethodDescriptor y.desc = some sig → argsL.length = sig.parameters.length) (hW : 2 * 0 + (st.map fun v => v.category).sum ≤ W) (hf : rm.frames + 1 ≤ R.frames) (hlo : W + (maxL + 11) + rm.locals ≤ R.locals) (hc : cells + rm.cells = cells') (hl : slots + rm.slots = slots') (hc' : cells' ≤ R.cells) (hl' : slots' ≤ R.slots) (r : ∀ (w : Value) (h' : Heap), P w h' → OGo p l e R s m args below meth c n0 Q h' cells' slots' pc' Ls (w :: st))
    : OGo p l e R s m args below meth c n0 Q h cells slots pc Ls (argsL.reverse ++ .ref a :: st) := by
  subst hp hc hl
  intro T locs k n X e0 N h1 h2
  obtain ⟨_, _, ⟨T', L', k', n'⟩, -, X', ⟨Lc, ⟨hQ, hN⟩, l', y', z'⟩, stp⟩ := X.specialBack K.ex (y := y) hy1 K.hown (mvT K.hZ w1) (mvT K.hZ w2) (mvT K.hZ w4) hy (backOf (W := W) (Q := fun v h L => (OV P) v h ∧ Fr n0 L) C K.hZ w4 w3 hf hlo) (g := mkF m pc Ls (argsL.reverse ++ .ref a :: st)) rfl (hsz.trans K.hml.symm) (Steps.refl _) (a := a) (argsL := argsL) (rest := st) hlen rfl hW (hb K.by hd) (fun _ _ => ⟨rfl, e0, (by show k + rm.cells ≤ R.cells; omega), (by show n + rm.slots ≤ R.slots; omega)⟩)
  dsimp only [Pt.U, Pt.locs, Pt.cells, Pt.slots] at X' l' y' z' stp hQ
  subst l' y' z'
  obtain ⟨w, rfl, hQ⟩ := hQ
  obtain ⟨s₂, v, L, g, r'⟩ := r w _ hQ T' _ _ _ X' rfl (Fr.app N hN) (by omega) (by omega)
  exact ⟨s₂, v, L, stp.trans g, r'⟩
theorem OGo.callIN (K : OCx p l e R s m args below meth c Z own nm bytes ml rt) {y : MethodName} {a : Addr} {index : Nat} {bytes' : ByteArray} {maxL : Nat} {rm : Room} {W cells' slots' : Nat} {argsL : List Value} {P : Heap → Prop} (hy1 : y.name = "<init>") (w1 : (Jvm.Cond.methodLink own index y).before a0 Z = true) (w2 : (Jvm.Cond.instanceMethod y).before a0 Z = true) (w3 : (Jvm.Cond.initialized y.cls).before a0 Z = true) (w4 : (Jvm.Cond.code y bytes' maxL none).before a0 Z = true) (hy : y.cls ≠ "java/lang/invoke/MethodHandle" ∧ y.cls ≠ "java/lang/invoke/VarHandle") (C : OCon l Z n0 y bytes' maxL none [] rm ((.ref a :: argsL).toArray) h (ON P)) (hd : decode bytes pc = .ok (.invokespecial index, 3)) (hp : pc + 3 = pc') (hsz : Ls.size = ml) (hlen : ∀ sig, parseMethodDescriptor y.desc = some sig → argsL.length = sig.parameters.length) (hW : 2 * 0 + (st.map fun v => v.category).sum ≤ W) (hf : rm.frames + 1 ≤ R.frames) (hlo : W + (maxL + 11) + rm.locals ≤ R.locals) (hc : cells + rm.cells = cells') (hl : slots + rm.slots = slots') (hc' : cells' ≤ R.cells) (hl' : slots' ≤ R.slots) (r : ∀ (h' : Heap), P h' → OGo p l e R s m args below meth c n0 Q h' cells' slots' pc' Ls st)
    : OGo p l e R s m args below meth c n0 Q h cells slots pc Ls (argsL.reverse ++ .ref a :: st) := by
  subst hp hc hl
  intro T locs k n X e0 N h1 h2
  obtain ⟨_, _, ⟨T', L', k', n'⟩, -, X', ⟨Lc, ⟨hQ, hN⟩, l', y', z'⟩, stp⟩ := X.specialBack K.ex (y := y) hy1 K.hown (mvT K.hZ w1) (mvT K.hZ w2) (mvT K.hZ w4) hy (backOf (W := W) (Q := fun v h L => (ON P) v h ∧ Fr n0 L) C K.hZ w4 w3 hf hlo) (g := mkF m pc Ls (argsL.reverse ++ .ref a :: st)) rfl (hsz.trans K.hml.symm) (Steps.refl _) (a := a) (argsL := argsL) (rest := st) hlen rfl hW (hb K.by hd) (fun _ _ => ⟨rfl, e0, (by show k + rm.cells ≤ R.cells; omega), (by show n + rm.slots ≤ R.slots; omega)⟩)
  dsimp only [Pt.U, Pt.locs, Pt.cells, Pt.slots] at X' l' y' z' stp hQ
  subst l' y' z'
  obtain ⟨rfl, hQ⟩ := hQ
  obtain ⟨s₂, v, L, g, r'⟩ := r  _ hQ T' _ _ _ X' rfl (Fr.app N hN) (by omega) (by omega)
  exact ⟨s₂, v, L, stp.trans g, r'⟩
theorem OGo.callPV (K : OCx p l e R s m args below meth c Z own nm bytes ml rt) {y : MethodName} {a : Addr} {C0 : String} {index : Nat} {bytes' : ByteArray} {maxL : Nat} {ret : Option FieldType} {rm : Room} {W cells' slots' : Nat} {argsL : List Value} {P : Value → Heap → Prop} (E : Exa Z h a C0) (w1 : (Jvm.Cond.methodLink own index y).before a0 Z = true) (w2 : (Jvm.Cond.instanceMethod y).before a0 Z = true) (w5 : (Jvm.Cond.selects y.cls y y).before a0 Z = true) (w6 : (Jvm.Cond.privateMethod y).before a0 Z = true) (w3 : (Jvm.Cond.initialized y.cls).before a0 Z = true) (w4 : (Jvm.Cond.code y bytes' maxL ret).before a0 Z = true) (hy : y.cls ≠ "java/lang/invoke/MethodHandle" ∧ y.cls ≠ "java/lang/invoke/VarHandle") (C : OCon l Z n0 y bytes' maxL ret [] rm ((.ref a :: argsL).toArray) h (OV P)) (hd : decode bytes pc = .ok (.invokevirtual index, 3)) (hp : pc + 3 = pc') (hsz : Ls.size = ml) (hlen : ∀ sig, parseMethodDescriptor y.desc = some sig → argsL.length = sig.parameters.length) (hW : 2 * 0 + (st.map fun v => v.category).sum ≤ W) (hf : rm.frames + 1 ≤ R.frames) (hlo : W + (maxL + 11) + rm.locals ≤ R.locals) (hc : cells + rm.cells = cells') (hl : slots + rm.slots = slots') (hc' : cells' ≤ R.cells) (hl' : slots' ≤ R.slots) (r : ∀ (w : Value) (h' : Heap), P w h' → OGo p l e R s m args below meth c n0 Q h' cells' slots' pc' Ls (w :: st))
    : OGo p l e R s m args below meth c n0 Q h cells slots pc Ls (argsL.reverse ++ .ref a :: st) := by
  subst hp hc hl
  intro T locs k n X e0 N h1 h2
  obtain ⟨cq, q, q'⟩ := E.cell
  obtain ⟨_, _, ⟨T', L', k', n'⟩, -, X', ⟨Lc, ⟨hQ, hN⟩, l', y', z'⟩, stp⟩ := X.privateBack K.ex (y := y) K.hown (mvT K.hZ w1) (mvT K.hZ w2) (mvT K.hZ w5) (Cond.privateMethod_at (mvP K.hZ w6 (args := #[]))) (mvT K.hZ w4) hy (backOf (W := W) (Q := fun v h L => (OV P) v h ∧ Fr n0 L) C K.hZ w4 w3 hf hlo) (g := mkF m pc Ls (argsL.reverse ++ .ref a :: st)) rfl (hsz.trans K.hml.symm) (Steps.refl _) (a := a) (by rw [e0]; exact q) q' (argsL := argsL) (rest := st) hlen rfl hW (hb K.by hd) (fun _ _ => ⟨rfl, e0, (by show k + rm.cells ≤ R.cells; omega), (by show n + rm.slots ≤ R.slots; omega)⟩)
  dsimp only [Pt.U, Pt.locs, Pt.cells, Pt.slots] at X' l' y' z' stp hQ
  subst l' y' z'
  obtain ⟨w, rfl, hQ⟩ := hQ
  obtain ⟨s₂, v, L, g, r'⟩ := r w _ hQ T' _ _ _ X' rfl (Fr.app N hN) (by omega) (by omega)
  exact ⟨s₂, v, L, stp.trans g, r'⟩
theorem OGo.callPN (K : OCx p l e R s m args below meth c Z own nm bytes ml rt) {y : MethodName} {a : Addr} {C0 : String} {index : Nat} {bytes' : ByteArray} {maxL : Nat} {ret : Option FieldType} {rm : Room} {W cells' slots' : Nat} {argsL : List Value} {P : Heap → Prop} (E : Exa Z h a C0) (w1 : (Jvm.Cond.methodLink own index y).before a0 Z = true) (w2 : (Jvm.Cond.instanceMethod y).before a0 Z = true) (w5 : (Jvm.Cond.selects y.cls y y).before a0 Z = true) (w6 : (Jvm.Cond.privateMethod y).before a0 Z = true) (w3 : (Jvm.Cond.initialized y.cls).before a0 Z = true) (w4 : (Jvm.Cond.code y bytes' maxL ret).before a0 Z = true) (hy : y.cls ≠ "java/lang/invoke/MethodHandle" ∧ y.cls ≠ "java/lang/invoke/VarHandle") (C : OCon l Z n0 y bytes' maxL ret [] rm ((.ref a :: argsL).toArray) h (ON P)) (hd : decode bytes pc = .ok (.invokevirtual index, 3)) (hp : pc + 3 = pc') (hsz : Ls.size = ml) (hlen : ∀ sig, parseMethodDescriptor y.desc = some sig → argsL.length = sig.parameters.length) (hW : 2 * 0 + (st.map fun v => v.category).sum ≤ W) (hf : rm.frames + 1 ≤ R.frames) (hlo : W + (maxL + 11) + rm.locals ≤ R.locals) (hc : cells + rm.cells = cells') (hl : slots + rm.slots = slots') (hc' : cells' ≤ R.cells) (hl' : slots' ≤ R.slots) (r : ∀ (h' : Heap), P h' → OGo p l e R s m args below meth c n0 Q h' cells' slots' pc' Ls st)
    : OGo p l e R s m args below meth c n0 Q h cells slots pc Ls (argsL.reverse ++ .ref a :: st) := by
  subst hp hc hl
  intro T locs k n X e0 N h1 h2
  obtain ⟨cq, q, q'⟩ := E.cell
  obtain ⟨_, _, ⟨T', L', k', n'⟩, -, X', ⟨Lc, ⟨hQ, hN⟩, l', y', z'⟩, stp⟩ := X.privateBack K.ex (y := y) K.hown (mvT K.hZ w1) (mvT K.hZ w2) (mvT K.hZ w5) (Cond.privateMethod_at (mvP K.hZ w6 (args := #[]))) (mvT K.hZ w4) hy (backOf (W := W) (Q := fun v h L => (ON P) v h ∧ Fr n0 L) C K.hZ w4 w3 hf hlo) (g := mkF m pc Ls (argsL.reverse ++ .ref a :: st)) rfl (hsz.trans K.hml.symm) (Steps.refl _) (a := a) (by rw [e0]; exact q) q' (argsL := argsL) (rest := st) hlen rfl hW (hb K.by hd) (fun _ _ => ⟨rfl, e0, (by show k + rm.cells ≤ R.cells; omega), (by show n + rm.slots ≤ R.slots; omega)⟩)
  dsimp only [Pt.U, Pt.locs, Pt.cells, Pt.slots] at X' l' y' z' stp hQ
  subst l' y' z'
  obtain ⟨rfl, hQ⟩ := hQ
  obtain ⟨s₂, v, L, g, r'⟩ := r  _ hQ T' _ _ _ X' rfl (Fr.app N hN) (by omega) (by omega)
  exact ⟨s₂, v, L, stp.trans g, r'⟩
theorem OGo.callVV (K : OCx p l e R s m args below meth c Z own nm bytes ml rt) {y z : MethodName} {a : Addr} {C0 : String} {index : Nat} {bytes' : ByteArray} {maxL : Nat} {ret : Option FieldType} {rm : Room} {W cells' slots' : Nat} {argsL : List Value} {P : Value → Heap → Prop} (E : Exa Z h a C0) (w1 : (Jvm.Cond.methodLink own index y).before a0 Z = true) (w2 : (Jvm.Cond.declares y).before a0 Z = true) (hnf : NotFace s y) (w5 : (Jvm.Cond.selects C0 y z).before a0 Z = true) (w6 : (Jvm.Cond.instanceMethod z).before a0 Z = true) (w3 : (Jvm.Cond.initialized z.cls).before a0 Z = true) (w4 : (Jvm.Cond.code z bytes' maxL ret).before a0 Z = true) (hy : y.cls ≠ "java/lang/invoke/MethodHandle" ∧ y.cls ≠ "java/lang/invoke/VarHandle") (C : OCon l Z n0 z bytes' maxL ret [] rm ((.ref a :: argsL).toArray) h (OV P)) (hd : decode bytes pc = .ok (.invokevirtual index, 3)) (hp : pc + 3 = pc') (hsz : Ls.size = ml) (hlen : ∀ sig, parseMethodDescriptor y.desc = some sig → argsL.length = sig.parameters.length) (hW : 2 * 0 + (st.map fun v => v.category).sum ≤ W) (hf : rm.frames + 1 ≤ R.frames) (hlo : W + (maxL + 11) + rm.locals ≤ R.locals) (hc : cells + rm.cells = cells') (hl : slots + rm.slots = slots') (hc' : cells' ≤ R.cells) (hl' : slots' ≤ R.slots) (r : ∀ (w : Value) (h' : Heap), P w h' → OGo p l e R s m args below meth c n0 Q h' cells' slots' pc' Ls (w :: st))
    : OGo p l e R s m args below meth c n0 Q h cells slots pc Ls (argsL.reverse ++ .ref a :: st) := by
  subst hp hc hl
  intro T locs k n X e0 N h1 h2
  obtain ⟨cq, kq, qa, qb, qc⟩ := isOf K.hZ e0 E
  obtain ⟨_, _, ⟨T', L', k', n'⟩, -, X', ⟨Lc, ⟨hQ, hN⟩, l', y', z'⟩, stp⟩ := X.virtualBack K.ex (y := y) (z := z) K.hown (mvT K.hZ w1) (mvT K.hZ w2) hnf (mvT K.hZ w5) (mvT K.hZ w6) hy (backOf (W := W) (Q := fun v h L => (OV P) v h ∧ Fr n0 L) C K.hZ w4 w3 hf hlo) qa qc (g := mkF m pc Ls (argsL.reverse ++ .ref a :: st)) rfl (hsz.trans K.hml.symm) (Steps.refl _) (argsL := argsL) (rest := st) hlen rfl hW (hb K.by hd) (fun _ _ => ⟨rfl, e0, (by show k + rm.cells ≤ R.cells; omega), (by show n + rm.slots ≤ R.slots; omega)⟩)
  dsimp only [Pt.U, Pt.locs, Pt.cells, Pt.slots] at X' l' y' z' stp hQ
  subst l' y' z'
  obtain ⟨w, rfl, hQ⟩ := hQ
  obtain ⟨s₂, v, L, g, r'⟩ := r w _ hQ T' _ _ _ X' rfl (Fr.app N hN) (by omega) (by omega)
  exact ⟨s₂, v, L, stp.trans g, r'⟩
theorem OGo.callVN (K : OCx p l e R s m args below meth c Z own nm bytes ml rt) {y z : MethodName} {a : Addr} {C0 : String} {index : Nat} {bytes' : ByteArray} {maxL : Nat} {ret : Option FieldType} {rm : Room} {W cells' slots' : Nat} {argsL : List Value} {P : Heap → Prop} (E : Exa Z h a C0) (w1 : (Jvm.Cond.methodLink own index y).before a0 Z = true) (w2 : (Jvm.Cond.declares y).before a0 Z = true) (hnf : NotFace s y) (w5 : (Jvm.Cond.selects C0 y z).before a0 Z = true) (w6 : (Jvm.Cond.instanceMethod z).before a0 Z = true) (w3 : (Jvm.Cond.initialized z.cls).before a0 Z = true) (w4 : (Jvm.Cond.code z bytes' maxL ret).before a0 Z = true) (hy : y.cls ≠ "java/lang/invoke/MethodHandle" ∧ y.cls ≠ "java/lang/invoke/VarHandle") (C : OCon l Z n0 z bytes' maxL ret [] rm ((.ref a :: argsL).toArray) h (ON P)) (hd : decode bytes pc = .ok (.invokevirtual index, 3)) (hp : pc + 3 = pc') (hsz : Ls.size = ml) (hlen : ∀ sig, parseMethodDescriptor y.desc = some sig → argsL.length = sig.parameters.length) (hW : 2 * 0 + (st.map fun v => v.category).sum ≤ W) (hf : rm.frames + 1 ≤ R.frames) (hlo : W + (maxL + 11) + rm.locals ≤ R.locals) (hc : cells + rm.cells = cells') (hl : slots + rm.slots = slots') (hc' : cells' ≤ R.cells) (hl' : slots' ≤ R.slots) (r : ∀ (h' : Heap), P h' → OGo p l e R s m args below meth c n0 Q h' cells' slots' pc' Ls st)
    : OGo p l e R s m args below meth c n0 Q h cells slots pc Ls (argsL.reverse ++ .ref a :: st) := by
  subst hp hc hl
  intro T locs k n X e0 N h1 h2
  obtain ⟨cq, kq, qa, qb, qc⟩ := isOf K.hZ e0 E
  obtain ⟨_, _, ⟨T', L', k', n'⟩, -, X', ⟨Lc, ⟨hQ, hN⟩, l', y', z'⟩, stp⟩ := X.virtualBack K.ex (y := y) (z := z) K.hown (mvT K.hZ w1) (mvT K.hZ w2) hnf (mvT K.hZ w5) (mvT K.hZ w6) hy (backOf (W := W) (Q := fun v h L => (ON P) v h ∧ Fr n0 L) C K.hZ w4 w3 hf hlo) qa qc (g := mkF m pc Ls (argsL.reverse ++ .ref a :: st)) rfl (hsz.trans K.hml.symm) (Steps.refl _) (argsL := argsL) (rest := st) hlen rfl hW (hb K.by hd) (fun _ _ => ⟨rfl, e0, (by show k + rm.cells ≤ R.cells; omega), (by show n + rm.slots ≤ R.slots; omega)⟩)
  dsimp only [Pt.U, Pt.locs, Pt.cells, Pt.slots] at X' l' y' z' stp hQ
  subst l' y' z'
  obtain ⟨rfl, hQ⟩ := hQ
  obtain ⟨s₂, v, L, g, r'⟩ := r  _ hQ T' _ _ _ X' rfl (Fr.app N hN) (by omega) (by omega)
  exact ⟨s₂, v, L, stp.trans g, r'⟩
theorem OGo.callFV (K : OCx p l e R s m args below meth c Z own nm bytes ml rt) {y z : MethodName} {a : Addr} {C0 : String} {cnt : Nat} {index : Nat} {bytes' : ByteArray} {maxL : Nat} {ret : Option FieldType} {rm : Room} {W cells' slots' : Nat} {argsL : List Value} {P : Value → Heap → Prop} (E : Exa Z h a C0) (w1 : (Jvm.Cond.methodLink own index y).before a0 Z = true) (w2 : (Jvm.Cond.declares y).before a0 Z = true) (w7 : (Jvm.Cond.interfaceMethod y.cls y.cls y.name y.desc).before a0 Z = true) (w5 : (Jvm.Cond.selects C0 y z).before a0 Z = true) (w6 : (Jvm.Cond.instanceMethod z).before a0 Z = true) (w8 : (Jvm.Cond.publicMethod z).before a0 Z = true) (w9 : (Jvm.Cond.unhidden C0 y.name y.desc).before a0 Z = true) (w10 : (Jvm.Cond.castable C0 y.cls).before a0 Z = true) (w3 : (Jvm.Cond.initialized z.cls).before a0 Z = true) (w4 : (Jvm.Cond.code z bytes' maxL ret).before a0 Z = true) (hy : y.cls ≠ "java/lang/invoke/MethodHandle" ∧ y.cls ≠ "java/lang/invoke/VarHandle") (C : OCon l Z n0 z bytes' maxL ret [] rm ((.ref a :: argsL).toArray) h (OV P)) (hd : decode bytes pc = .ok (.invokeinterface index cnt, 5)) (hp : pc + 5 = pc') (hsz : Ls.size = ml) (hlen : ∀ sig, parseMethodDescriptor y.desc = some sig → argsL.length = sig.parameters.length) (hW : 2 * 0 + (st.map fun v => v.category).sum ≤ W) (hf : rm.frames + 1 ≤ R.frames) (hlo : W + (maxL + 11) + rm.locals ≤ R.locals) (hc : cells + rm.cells = cells') (hl : slots + rm.slots = slots') (hc' : cells' ≤ R.cells) (hl' : slots' ≤ R.slots) (r : ∀ (w : Value) (h' : Heap), P w h' → OGo p l e R s m args below meth c n0 Q h' cells' slots' pc' Ls (w :: st))
    : OGo p l e R s m args below meth c n0 Q h cells slots pc Ls (argsL.reverse ++ .ref a :: st) := by
  subst hp hc hl
  intro T locs k n X e0 N h1 h2
  obtain ⟨cq, kq, qa, qb, qc⟩ := isOf K.hZ e0 E
  obtain ⟨_, _, ⟨T', L', k', n'⟩, -, X', ⟨Lc, ⟨hQ, hN⟩, l', y', z'⟩, stp⟩ := X.interfaceBack K.ex (xi := y) (y := z) K.hown (mvT K.hZ w1) (mvT K.hZ w2) (mvT K.hZ w7 (by simp [Cond.onTables, Cond.keepsFace, Cond.keeps, Cond.steady, Cond.faceAtom, hy.1, hy.2])) (mvT K.hZ w5) (mvT K.hZ w6) (mvT K.hZ w8) (mvT K.hZ w9) (mvT K.hZ w10) hy (backOf (W := W) (Q := fun v h L => (OV P) v h ∧ Fr n0 L) C K.hZ w4 w3 hf hlo) qa qb qc (g := mkF m pc Ls (argsL.reverse ++ .ref a :: st)) rfl (hsz.trans K.hml.symm) (Steps.refl _) (argsL := argsL) (rest := st) hlen rfl hW (hb K.by hd) (fun _ _ => ⟨rfl, e0, (by show k + rm.cells ≤ R.cells; omega), (by show n + rm.slots ≤ R.slots; omega)⟩)
  dsimp only [Pt.U, Pt.locs, Pt.cells, Pt.slots] at X' l' y' z' stp hQ
  subst l' y' z'
  obtain ⟨w, rfl, hQ⟩ := hQ
  obtain ⟨s₂, v, L, g, r'⟩ := r w _ hQ T' _ _ _ X' rfl (Fr.app N hN) (by omega) (by omega)
  exact ⟨s₂, v, L, stp.trans g, r'⟩
theorem OGo.callFN (K : OCx p l e R s m args below meth c Z own nm bytes ml rt) {y z : MethodName} {a : Addr} {C0 : String} {cnt : Nat} {index : Nat} {bytes' : ByteArray} {maxL : Nat} {ret : Option FieldType} {rm : Room} {W cells' slots' : Nat} {argsL : List Value} {P : Heap → Prop} (E : Exa Z h a C0) (w1 : (Jvm.Cond.methodLink own index y).before a0 Z = true) (w2 : (Jvm.Cond.declares y).before a0 Z = true) (w7 : (Jvm.Cond.interfaceMethod y.cls y.cls y.name y.desc).before a0 Z = true) (w5 : (Jvm.Cond.selects C0 y z).before a0 Z = true) (w6 : (Jvm.Cond.instanceMethod z).before a0 Z = true) (w8 : (Jvm.Cond.publicMethod z).before a0 Z = true) (w9 : (Jvm.Cond.unhidden C0 y.name y.desc).before a0 Z = true) (w10 : (Jvm.Cond.castable C0 y.cls).before a0 Z = true) (w3 : (Jvm.Cond.initialized z.cls).before a0 Z = true) (w4 : (Jvm.Cond.code z bytes' maxL ret).before a0 Z = true) (hy : y.cls ≠ "java/lang/invoke/MethodHandle" ∧ y.cls ≠ "java/lang/invoke/VarHandle") (C : OCon l Z n0 z bytes' maxL ret [] rm ((.ref a :: argsL).toArray) h (ON P)) (hd : decode bytes pc = .ok (.invokeinterface index cnt, 5)) (hp : pc + 5 = pc') (hsz : Ls.size = ml) (hlen : ∀ sig, parseMethodDescriptor y.desc = some sig → argsL.length = sig.parameters.length) (hW : 2 * 0 + (st.map fun v => v.category).sum ≤ W) (hf : rm.frames + 1 ≤ R.frames) (hlo : W + (maxL + 11) + rm.locals ≤ R.locals) (hc : cells + rm.cells = cells') (hl : slots + rm.slots = slots') (hc' : cells' ≤ R.cells) (hl' : slots' ≤ R.slots) (r : ∀ (h' : Heap), P h' → OGo p l e R s m args below meth c n0 Q h' cells' slots' pc' Ls st)
    : OGo p l e R s m args below meth c n0 Q h cells slots pc Ls (argsL.reverse ++ .ref a :: st) := by
  subst hp hc hl
  intro T locs k n X e0 N h1 h2
  obtain ⟨cq, kq, qa, qb, qc⟩ := isOf K.hZ e0 E
  obtain ⟨_, _, ⟨T', L', k', n'⟩, -, X', ⟨Lc, ⟨hQ, hN⟩, l', y', z'⟩, stp⟩ := X.interfaceBack K.ex (xi := y) (y := z) K.hown (mvT K.hZ w1) (mvT K.hZ w2) (mvT K.hZ w7 (by simp [Cond.onTables, Cond.keepsFace, Cond.keeps, Cond.steady, Cond.faceAtom, hy.1, hy.2])) (mvT K.hZ w5) (mvT K.hZ w6) (mvT K.hZ w8) (mvT K.hZ w9) (mvT K.hZ w10) hy (backOf (W := W) (Q := fun v h L => (ON P) v h ∧ Fr n0 L) C K.hZ w4 w3 hf hlo) qa qb qc (g := mkF m pc Ls (argsL.reverse ++ .ref a :: st)) rfl (hsz.trans K.hml.symm) (Steps.refl _) (argsL := argsL) (rest := st) hlen rfl hW (hb K.by hd) (fun _ _ => ⟨rfl, e0, (by show k + rm.cells ≤ R.cells; omega), (by show n + rm.slots ≤ R.slots; omega)⟩)
  dsimp only [Pt.U, Pt.locs, Pt.cells, Pt.slots] at X' l' y' z' stp hQ
  subst l' y' z'
  obtain ⟨rfl, hQ⟩ := hQ
  obtain ⟨s₂, v, L, g, r'⟩ := r  _ hQ T' _ _ _ X' rfl (Fr.app N hN) (by omega) (by omega)
  exact ⟨s₂, v, L, stp.trans g, r'⟩
theorem OGo.copy (K : OCx p l e R s m args below meth c Z own nm bytes ml rt) {index W : Nat} {a b : Addr} {k k' : ClassId} {ty : FieldType} {z z' sp dp nn : Int32} {vs vd us : List Value} {dv dd : Value} (w1 : (Jvm.Cond.methodLink own index Jvm.Stand.acN).before a0 Z = true) (w2 : (Jvm.Cond.native Jvm.Stand.acN).before a0 Z = true) (w3 : (Jvm.Cond.static Jvm.Stand.acN).before a0 Z = true) (w4 : (Jvm.Cond.initialized "java/lang/System").before a0 Z = true)
    (A : Arv Z h a k ty z vs dv) (B : Arv Z h b k' ty z' vd dd) (hty : refKind ty = false) (h1 : ¬ sp < 0) (h2 : ¬ dp < 0) (h3 : ¬ nn < 0) (h4 : sp.toNatClampNeg + nn.toNatClampNeg ≤ z.toNatClampNeg) (h5 : dp.toNatClampNeg + nn.toNatClampNeg ≤ z'.toNatClampNeg) (hus : us = (List.range nn.toNatClampNeg).map fun i => vs.getD (sp.toNatClampNeg + i) dv) (hl : dp.toNatClampNeg + nn.toNatClampNeg ≤ vd.length) (ge : n0 ≤ b)
    (hd : decode bytes pc = .ok (.invokestatic index, 3)) (hp : pc + 3 = pc') (hsz : Ls.size = ml) (hf : 1 ≤ R.frames) (hW : 2 * 0 + (st.map fun v => v.category).sum ≤ W) (hlo : W + (nativeFrameWords "java/lang/System" "arraycopy" 5 + 11) ≤ R.locals)
    (r : ∀ h', Keep h h' [b] → Arv Z h' b k' ty z' (vd.take dp.toNatClampNeg ++ us ++ vd.drop (dp.toNatClampNeg + nn.toNatClampNeg)) dd → OGo p l e R s m args below meth c n0 Q h' cells slots pc' Ls st) : OGo p l e R s m args below meth c n0 Q h cells slots pc Ls (.int nn :: .int dp :: .ref b :: .int sp :: .ref a :: st) := by
  subst hp
  intro T locs k n X e0 N h1' h2'
  obtain ⟨T', h', L, X', e', N', K', V', st'⟩ := RoadKit.cpA X K.ex K.hZ K.hown w1 w2 w3 w4 e0 A B (Or.inl ⟨rfl, hty⟩) h1 h2 h3 h4 h5 hus hl N ge (g := mkF m pc Ls (.int nn :: .int dp :: .ref b :: .int sp :: .ref a :: st)) rfl (hsz.trans K.hml.symm) rfl (hb K.by hd) hf hW hlo
  obtain ⟨s₂, v, L2, g, r'⟩ := r h' K' V' T' L k n X' e' N' h1' h2'
  exact ⟨s₂, v, L2, st' _ g, r'⟩
theorem OGo.callQV (K : OCx p l e R s m args below meth c Z own nm bytes ml rt) {y : MethodName} {a : Addr} {C0 : String} {ni : Nat} {index : Nat} {bytes' : ByteArray} {maxL : Nat} {ret : Option FieldType} {rm : Room} {W cells' slots' : Nat} {argsL : List Value} {P : Value → Heap → Prop} (E : Exa Z h a C0) (w1 : (Jvm.Cond.methodLink own index y).before a0 Z = true) (w2 : (Jvm.Cond.instanceMethod y).before a0 Z = true) (w5 : (Jvm.Cond.instantiable y.cls ni).before a0 Z = true) (w6 : (Jvm.Cond.privateMethod y).before a0 Z = true) (w3 : (Jvm.Cond.initialized y.cls).before a0 Z = true) (w4 : (Jvm.Cond.code y bytes' maxL ret).before a0 Z = true) (hy : y.cls ≠ "java/lang/invoke/MethodHandle" ∧ y.cls ≠ "java/lang/invoke/VarHandle") (C : OCon l Z n0 y bytes' maxL ret [] rm ((.ref a :: argsL).toArray) h (OV P)) (hd : decode bytes pc = .ok (.invokevirtual index, 3)) (hp : pc + 3 = pc') (hsz : Ls.size = ml) (hlen : ∀ sig, parseMethodDescriptor y.desc = some sig → argsL.length = sig.parameters.length) (hW : 2 * 0 + (st.map fun v => v.category).sum ≤ W) (hf : rm.frames + 1 ≤ R.frames) (hlo : W + (maxL + 11) + rm.locals ≤ R.locals) (hc : cells + rm.cells = cells') (hl : slots + rm.slots = slots') (hc' : cells' ≤ R.cells) (hl' : slots' ≤ R.slots) (r : ∀ (w : Value) (h' : Heap), P w h' → OGo p l e R s m args below meth c n0 Q h' cells' slots' pc' Ls (w :: st))
    : OGo p l e R s m args below meth c n0 Q h cells slots pc Ls (argsL.reverse ++ .ref a :: st) := by
  subst hp hc hl
  intro T locs k n X e0 N h1 h2
  obtain ⟨cq, q, q'⟩ := E.cell
  obtain ⟨_, _, ⟨T', L', k', n'⟩, -, X', ⟨Lc, ⟨hQ, hN⟩, l', y', z'⟩, stp⟩ := own_private X K.ex (y := y) K.hown (mvT K.hZ w1) (mvT K.hZ w2) (mvT K.hZ w5) (Cond.privateMethod_at (mvP K.hZ w6 (args := #[]))) (mvT K.hZ w4) hy (backOf (W := W) (Q := fun v h L => (OV P) v h ∧ Fr n0 L) C K.hZ w4 w3 hf hlo) (g := mkF m pc Ls (argsL.reverse ++ .ref a :: st)) rfl (hsz.trans K.hml.symm) (a := a) (by rw [e0]; exact q) q' (argsL := argsL) (rest := st) hlen rfl hW (hb K.by hd) (fun _ _ => ⟨rfl, e0, (by show k + rm.cells ≤ R.cells; omega), (by show n + rm.slots ≤ R.slots; omega)⟩)
  dsimp only [Pt.U, Pt.locs, Pt.cells, Pt.slots] at X' l' y' z' stp hQ
  subst l' y' z'
  obtain ⟨w, rfl, hQ⟩ := hQ
  obtain ⟨s₂, v, L, g, r'⟩ := r w _ hQ T' _ _ _ X' rfl (Fr.app N hN) (by omega) (by omega)
  exact ⟨s₂, v, L, stp.trans g, r'⟩
theorem OGo.callQN (K : OCx p l e R s m args below meth c Z own nm bytes ml rt) {y : MethodName} {a : Addr} {C0 : String} {ni : Nat} {index : Nat} {bytes' : ByteArray} {maxL : Nat} {ret : Option FieldType} {rm : Room} {W cells' slots' : Nat} {argsL : List Value} {P : Heap → Prop} (E : Exa Z h a C0) (w1 : (Jvm.Cond.methodLink own index y).before a0 Z = true) (w2 : (Jvm.Cond.instanceMethod y).before a0 Z = true) (w5 : (Jvm.Cond.instantiable y.cls ni).before a0 Z = true) (w6 : (Jvm.Cond.privateMethod y).before a0 Z = true) (w3 : (Jvm.Cond.initialized y.cls).before a0 Z = true) (w4 : (Jvm.Cond.code y bytes' maxL ret).before a0 Z = true) (hy : y.cls ≠ "java/lang/invoke/MethodHandle" ∧ y.cls ≠ "java/lang/invoke/VarHandle") (C : OCon l Z n0 y bytes' maxL ret [] rm ((.ref a :: argsL).toArray) h (ON P)) (hd : decode bytes pc = .ok (.invokevirtual index, 3)) (hp : pc + 3 = pc') (hsz : Ls.size = ml) (hlen : ∀ sig, parseMethodDescriptor y.desc = some sig → argsL.length = sig.parameters.length) (hW : 2 * 0 + (st.map fun v => v.category).sum ≤ W) (hf : rm.frames + 1 ≤ R.frames) (hlo : W + (maxL + 11) + rm.locals ≤ R.locals) (hc : cells + rm.cells = cells') (hl : slots + rm.slots = slots') (hc' : cells' ≤ R.cells) (hl' : slots' ≤ R.slots) (r : ∀ (h' : Heap), P h' → OGo p l e R s m args below meth c n0 Q h' cells' slots' pc' Ls st)
    : OGo p l e R s m args below meth c n0 Q h cells slots pc Ls (argsL.reverse ++ .ref a :: st) := by
  subst hp hc hl
  intro T locs k n X e0 N h1 h2
  obtain ⟨cq, q, q'⟩ := E.cell
  obtain ⟨_, _, ⟨T', L', k', n'⟩, -, X', ⟨Lc, ⟨hQ, hN⟩, l', y', z'⟩, stp⟩ := own_private X K.ex (y := y) K.hown (mvT K.hZ w1) (mvT K.hZ w2) (mvT K.hZ w5) (Cond.privateMethod_at (mvP K.hZ w6 (args := #[]))) (mvT K.hZ w4) hy (backOf (W := W) (Q := fun v h L => (ON P) v h ∧ Fr n0 L) C K.hZ w4 w3 hf hlo) (g := mkF m pc Ls (argsL.reverse ++ .ref a :: st)) rfl (hsz.trans K.hml.symm) (a := a) (by rw [e0]; exact q) q' (argsL := argsL) (rest := st) hlen rfl hW (hb K.by hd) (fun _ _ => ⟨rfl, e0, (by show k + rm.cells ≤ R.cells; omega), (by show n + rm.slots ≤ R.slots; omega)⟩)
  dsimp only [Pt.U, Pt.locs, Pt.cells, Pt.slots] at X' l' y' z' stp hQ
  subst l' y' z'
  obtain ⟨rfl, hQ⟩ := hQ
  obtain ⟨s₂, v, L, g, r'⟩ := r  _ hQ T' _ _ _ X' rfl (Fr.app N hN) (by omega) (by omega)
  exact ⟨s₂, v, L, stp.trans g, r'⟩
theorem OGo.acmp (K : OCx p l e R s m args below meth c Z own nm bytes ml rt) {cd : ACond} {o : Int} {x y : Value} {same : Bool} (hd : decode bytes pc = .ok (.if_acmp cd o, 3)) (h1 : x.isRef = true) (h2 : y.isRef = true) (hq : decide (x = y) = same) (ho : 0 ≤ (pc : Int) + o) (hp : pc' = if acV cd same = true then ((pc : Int) + o).toNat else pc + 3) (r : OGo p l e R s m args below meth c n0 Q h cells slots pc' Ls st) : OGo p l e R s m args below meth c n0 Q h cells slots pc Ls (y :: x :: st) :=
  OGo.same (fun T locs k n X e0 => ⟨T, X, e0, fun t q => RoadKit.acmp X K.ex (g := mkF m pc Ls (y :: x :: st)) rfl h1 h2 rfl (hb K.by hd) rfl hq ho hp q⟩) r
theorem OGo.castY (K : OCx p l e R s m args below meth c Z own nm bytes ml rt) {C : String} {index : Nat} {a : Addr} (w : (Jvm.Cond.classLink own index C).before a0 Z = true) (I : Ins Z h a C true) (hd : decode bytes pc = .ok (.checkcast index, 3)) (hp : pc + 3 = pc') (r : OGo p l e R s m args below meth c n0 Q h cells slots pc' Ls (.ref a :: st)) : OGo p l e R s m args below meth c n0 Q h cells slots pc Ls (.ref a :: st) := by
  subst hp
  exact OGo.same (fun T locs k n X e0 => RoadKit.castY X K.ex K.hZ K.hown w e0 I (g := mkF m pc Ls (.ref a :: st)) rfl rfl (hb K.by hd)) r
theorem OGo.instY (K : OCx p l e R s m args below meth c Z own nm bytes ml rt) {C : String} {index : Nat} {a : Addr} (w : (Jvm.Cond.classLink own index C).before a0 Z = true) (I : Ins Z h a C true) (hd : decode bytes pc = .ok (.instanceof index, 3)) (hp : pc + 3 = pc') (r : OGo p l e R s m args below meth c n0 Q h cells slots pc' Ls (.int 1 :: st)) : OGo p l e R s m args below meth c n0 Q h cells slots pc Ls (.ref a :: st) := by
  subst hp
  exact OGo.same (fun T locs k n X e0 => RoadKit.instY X K.ex K.hZ K.hown w e0 I (g := mkF m pc Ls (.ref a :: st)) rfl rfl (hb K.by hd)) r
theorem OGo.ldcI (K : OCx p l e R s m args below meth c Z own nm bytes ml rt) {index : Nat} {v : Int32} (w : (Jvm.Cond.constant own index v).before a0 Z = true) (hd : decode bytes pc = .ok (.ldc index, 2)) (hp : pc + 2 = pc') (r : OGo p l e R s m args below meth c n0 Q h cells slots pc' Ls (.int v :: st)) : OGo p l e R s m args below meth c n0 Q h cells slots pc Ls st := by
  subst hp
  exact OGo.same (fun T locs k n X e0 => ⟨T, X, e0, fun t q => X.ldcInt K.ex K.hown (mvT K.hZ w) (g := mkF m pc Ls st) rfl (hb K.by hd) t q⟩) r
theorem OGo.ldcwI (K : OCx p l e R s m args below meth c Z own nm bytes ml rt) {index : Nat} {v : Int32} (w : (Jvm.Cond.constant own index v).before a0 Z = true) (hd : decode bytes pc = .ok (.ldc_w index, 3)) (hp : pc + 3 = pc') (r : OGo p l e R s m args below meth c n0 Q h cells slots pc' Ls (.int v :: st)) : OGo p l e R s m args below meth c n0 Q h cells slots pc Ls st := by
  subst hp
  exact OGo.same (fun T locs k n X e0 => ⟨T, X, e0, fun t q => X.ldcwInt K.ex K.hown (mvT K.hZ w) (g := mkF m pc Ls st) rfl (hb K.by hd) t q⟩) r
theorem OGo.ldcJ (K : OCx p l e R s m args below meth c Z own nm bytes ml rt) {index : Nat} {v : Int64} (w : (Jvm.Cond.constantLong own index v).before a0 Z = true) (hd : decode bytes pc = .ok (.ldc2_w index, 3)) (hp : pc + 3 = pc') (r : OGo p l e R s m args below meth c n0 Q h cells slots pc' Ls (.long v :: st)) : OGo p l e R s m args below meth c n0 Q h cells slots pc Ls st := by
  subst hp
  exact OGo.same (fun T locs k n X e0 => ⟨T, X, e0, fun t q => X.ldc2Long K.ex K.hown (mvT K.hZ w) (g := mkF m pc Ls st) rfl (hb K.by hd) t q⟩) r
theorem OGo.ldcD (K : OCx p l e R s m args below meth c Z own nm bytes ml rt) {index : Nat} {v : UInt64} (w : (Jvm.Cond.constantDouble own index v).before a0 Z = true) (hd : decode bytes pc = .ok (.ldc2_w index, 3)) (hp : pc + 3 = pc') (r : OGo p l e R s m args below meth c n0 Q h cells slots pc' Ls (.double v :: st)) : OGo p l e R s m args below meth c n0 Q h cells slots pc Ls st := by
  subst hp
  exact OGo.same (fun T locs k n X e0 => ⟨T, X, e0, fun t q => X.ldc2DoubleC K.ex K.hown (mvT K.hZ w) (g := mkF m pc Ls st) rfl (hb K.by hd) t q⟩) r
end OwnLayer
theorem own_eqi {args : Array Value} {first s : State} {o : Option Outcome} {idx : List Nat} {a : Term} {k : Int32} (h : (Jvm.Cond.eq a (Jvm.Term.int k)).value args first o s idx = some true) : a.eval args first o idx s = some (.int k) := by
  obtain ⟨x, y, h1, h2, h3, h4⟩ := cmp_v (Or.inl h)
  have h5 : y = .int k := Option.some.inj (h2.symm.trans (Term.int_eval k))
  subst h5
  obtain ⟨z, rfl⟩ := h4
  have h6 : (Jvm.Cond.eq a (Jvm.Term.int k)).value args first o s idx = some (decide (z = k)) := by simp [Cond.value, h1, h2]
  have h7 := gotT h6 h
  rw [h1, h7]
def OS (Z : State) (n0 : Nat) (h : Heap) (C n d : String) (v : Value) : Prop := ∃ (cf i : Nat) (k : Class) (f : Field) (st : Addr) (cell : Cell), Z.fieldFound? C n d = some (cf, k, i, f) ∧ f.isStatic = true ∧ k.init = .initialized ∧ k.statics = some st ∧ h[st]? = some cell ∧ cell.vm.isStatics = true ∧ cell.slots[f.slot]? = some v ∧ st < n0
theorem OS.sta {Z : State} {n0 : Nat} {h : Heap} {C n d : String} {v : Value} (F : OS Z n0 h C n d v) : Sta Z h C n d v := by
  obtain ⟨cf, i, k, f, st, cell, h1, h2, h3, h4, h5, h6, h7, -⟩ := F
  exact ⟨cf, i, k, f, st, cell, h1, h2, h3, h4, h5, h6, h7⟩
theorem OS.of {Z : State} {n0 : Nat} {h : Heap} {C n d : String} {v : Value} (F : Sta Z h C n d v) (q : h.size ≤ n0) : OS Z n0 h C n d v := by
  obtain ⟨cf, i, k, f, st, cell, h1, h2, h3, h4, h5, h6, h7⟩ := F
  exact ⟨cf, i, k, f, st, cell, h1, h2, h3, h4, h5, h6, h7, Nat.lt_of_lt_of_le (Array.getElem?_eq_some_iff.mp h5).1 q⟩
theorem own_lt_nin {n0 : Nat} {x : Addr} {ws : List Addr} (q : x < n0) (r : ∀ y ∈ ws, n0 ≤ y) : x ∉ ws := fun z => absurd q (Nat.not_lt.mpr (r x z))
theorem OS.keep {Z : State} {n0 : Nat} {h h' : Heap} {ws : List Addr} {C n d : String} {v : Value} (F : OS Z n0 h C n d v) (K : Keep h h' ws) (r : ∀ y ∈ ws, n0 ≤ y) : OS Z n0 h' C n d v := by
  obtain ⟨cf, i, k, f, st, cell, h1, h2, h3, h4, h5, h6, h7, h8⟩ := F
  exact ⟨cf, i, k, f, st, cell, h1, h2, h3, h4, K.2.1 _ _ h5 (own_lt_nin h8 r), h6, h7, h8⟩
theorem own_keep_ext {h h' : Heap} (E : Ext h h') : Keep h h' [] := (Keep.refl h []).ext E
def OWd (Z : State) (n0 : Nat) (h : Heap) (d : Addr) : Prop := OS Z n0 h "java/util/ArrayList" "DEFAULTCAPACITY_EMPTY_ELEMENTDATA" "[Ljava/lang/Object;" (.ref d) ∧ (∃ k, Arv Z h d k (.object "java/lang/Object") 0 [] .null) ∧ d < n0
theorem OWd.keep {Z : State} {n0 : Nat} {h h' : Heap} {ws : List Addr} {d : Addr} (F : OWd Z n0 h d) (K : Keep h h' ws) (r : ∀ y ∈ ws, n0 ≤ y) : OWd Z n0 h' d := by
  obtain ⟨S, ⟨k, A⟩, q⟩ := F
  exact ⟨S.keep K r, ⟨k, A.keep K (own_lt_nin q r)⟩, q⟩
theorem OWd.ext {Z : State} {n0 : Nat} {h h' : Heap} {d : Addr} (F : OWd Z n0 h d) (E : Ext h h') : OWd Z n0 h' d := F.keep (own_keep_ext E) all0
theorem OWd.wr {Z : State} {n0 : Nat} {h h' : Heap} {d a : Addr} {sl : Nat} {v : Value} (F : OWd Z n0 h d) (W : Wr h h' a sl v) (g : n0 ≤ a) : OWd Z n0 h' d := F.keep (Keep.of_wr W) (allS g all0)
def OAL0 (Z : State) (n0 : Nat) (h : Heap) (a d : Addr) : Prop := Exa Z h a "java/util/ArrayList" ∧ Fld Z h a "java/util/ArrayList" "size" "I" (.int 0) ∧ (∃ mc, Fld Z h a "java/util/AbstractList" "modCount" "I" (.int mc)) ∧ Fld Z h a "java/util/ArrayList" "elementData" "[Ljava/lang/Object;" (.ref d) ∧ n0 ≤ a
def OAL1 (Z : State) (n0 : Nat) (h : Heap) (a x : Addr) (vs : List Addr) : Prop := Exa Z h a "java/util/ArrayList" ∧ Fld Z h a "java/util/ArrayList" "size" "I" (.int (Int32.ofNat vs.length)) ∧ (∃ mc, Fld Z h a "java/util/AbstractList" "modCount" "I" (.int mc)) ∧ Fld Z h a "java/util/ArrayList" "elementData" "[Ljava/lang/Object;" (.ref x) ∧
  (∃ k us, Arv Z h x k (.object "java/lang/Object") 10 us .null ∧ us.length = 10 ∧ Ovr Z k "java/lang/Object" ∧ ∀ i (hi : i < vs.length), us.getD i .null = .ref vs[i]) ∧ a ≠ x ∧ n0 ≤ a ∧ n0 ≤ x
theorem OAL0.keep {Z : State} {n0 : Nat} {h h' : Heap} {ws : List Addr} {a d : Addr} (F : OAL0 Z n0 h a d) (K : Keep h h' ws) (r : a ∉ ws) : OAL0 Z n0 h' a d := by
  obtain ⟨E, F1, ⟨mc, F2⟩, F3, g⟩ := F
  exact ⟨E.keep K, F1.keep K r, ⟨mc, F2.keep K r⟩, F3.keep K r, g⟩
theorem OAL1.keep {Z : State} {n0 : Nat} {h h' : Heap} {ws : List Addr} {a x : Addr} {vs : List Addr} (F : OAL1 Z n0 h a x vs) (K : Keep h h' ws) (r : a ∉ ws) (r2 : x ∉ ws) : OAL1 Z n0 h' a x vs := by
  obtain ⟨E, F1, ⟨mc, F2⟩, F3, ⟨k, us, A, q⟩, g⟩ := F
  exact ⟨E.keep K, F1.keep K r, ⟨mc, F2.keep K r⟩, F3.keep K r, ⟨k, us, A.keep K r2, q⟩, g⟩
theorem OAL0.lta {Z : State} {n0 : Nat} {h : Heap} {a d : Addr} (F : OAL0 Z n0 h a d) : a < h.size := F.1.lt
theorem OAL1.lta {Z : State} {n0 : Nat} {h : Heap} {a x : Addr} {vs : List Addr} (F : OAL1 Z n0 h a x vs) : a < h.size := F.1.lt
theorem OAL1.ltx {Z : State} {n0 : Nat} {h : Heap} {a x : Addr} {vs : List Addr} (F : OAL1 Z n0 h a x vs) : x < h.size := by
  obtain ⟨-, -, -, -, ⟨k, us, A, -⟩, -⟩ := F
  exact A.lt
theorem own_i10 {n : Nat} (h : n < 10) : ¬ (Int32.ofNat n) < 0 ∧ Int32.ofNat n < 10 ∧ (Int32.ofNat n).toNatClampNeg = n ∧ ¬ Int32.ofNat n = 10 := by
  have e1 := toInt_of (n := Int32.ofNat n) rfl (by omega)
  have e2 := clamp_of (n := Int32.ofNat n) rfl (by omega)
  have e3 : (10 : Int32).toInt = 10 := rfl
  have e4 : (0 : Int32).toInt = 0 := rfl
  refine ⟨by rw [Int32.lt_iff_toInt_lt, e1, e4]; omega, by rw [Int32.lt_iff_toInt_lt, e1, e3]; omega, e2, fun q => ?_⟩
  have := congrArg Int32.toInt q
  rw [e1, e3] at this; omega
theorem own_al_push {us : List Value} {vs : List Addr} {y : Addr} (hl : us.length = 10) (hn : vs.length < 10) (H : ∀ i (hi : i < vs.length), us.getD i .null = .ref vs[i]) : ∀ i (hi : i < (vs ++ [y]).length), (us.set vs.length (.ref y)).getD i .null = .ref (vs ++ [y])[i] := by
  intro i hi
  simp only [List.length_append, List.length_cons, List.length_nil] at hi
  rw [List.getD_eq_getElem?_getD]
  by_cases q : i = vs.length
  · subst q
    rw [List.getElem?_set_self (by omega)]
    simp
  · have q' : i < vs.length := by omega
    rw [List.getElem?_set_ne (Ne.symm q), ← List.getD_eq_getElem?_getD, H i q', List.getElem_append_left q']
theorem own_i32lt {i n : Nat} (h : i < n) (hn : n < 2 ^ 31) : Int32.ofNat i < Int32.ofNat n := by
  rw [Int32.lt_iff_toInt_lt, toInt_of (n := Int32.ofNat i) rfl (by omega), toInt_of (n := Int32.ofNat n) rfl hn]; omega
theorem own_sta_keep {Z : State} {h h' : Heap} {C n d : String} {v : Value} (F : Sta Z h C n d v) (K : Keep h h' []) : Sta Z h' C n d v := by
  obtain ⟨cf, i, k, f, st, cell, h1, h2, h3, h4, h5, r⟩ := F
  exact ⟨cf, i, k, f, st, cell, h1, h2, h3, h4, K.2.1 _ _ h5 nin0, r⟩
theorem own_sto {Z : State} {h : Heap} {a y : Addr} {k : ClassId} {ty : FieldType} {z : Int32} {vs : List Value} {dv : Value} {C : String} (A : Arv Z h a k ty z vs dv) (O : Ovr Z k C) (I : Ins Z h y C true) : Sto Z h a (.ref y) := by
  obtain ⟨c, A, q, -⟩ := A
  exact Sto.ofV A q O I
theorem own_ins_keep {Z : State} {h h' : Heap} {ws : List Addr} {a : Addr} {C : String} (F : Ins Z h a C true) (K : Keep h h' ws) : Ins Z h' a C true := by
  obtain ⟨cell, cT, h1, h2, h3⟩ := F
  obtain ⟨c', q, r1, r2, -⟩ := K.2.2 a cell h1
  exact ⟨c', cT, q, h2, by rw [r1, r2]; exact h3⟩
def OTL (Z : State) (n0 : Nat) (h : Heap) (t gs st : Addr) (fr to : Int64) (A B : Nat) (bs : List Nat) : Prop :=
  Exa Z h t "com/example/loadvane/loadvane/simulation/Tally" ∧ Fld Z h t "com/example/loadvane/loadvane/simulation/Tally" "groupStarts" "[I" (.ref gs) ∧ Fld Z h t "com/example/loadvane/loadvane/simulation/Tally" "sent" "[J" (.ref st) ∧ (∃ r, Fld Z h t "com/example/loadvane/loadvane/simulation/Tally" "requests" "J" (.long r)) ∧ Fld Z h t "com/example/loadvane/loadvane/simulation/Tally" "measureFrom" "J" (.long fr) ∧ Fld Z h t "com/example/loadvane/loadvane/simulation/Tally" "measureTo" "J" (.long to) ∧
  (∃ k, Arv Z h gs k .int 3 [.int 0, .int (Int32.ofNat A), .int (Int32.ofNat (A + B))] (.int 0)) ∧ (∃ k vs, Arv Z h st k .long (Int32.ofNat (A + B)) vs (.long 0) ∧ vs.length = A + B ∧ ∀ i, i < A + B → vs.getD i (.long 0) = .long (Int64.ofNat (bs.count i))) ∧
  t ≠ gs ∧ t ≠ st ∧ gs ≠ st ∧ n0 ≤ t ∧ n0 ≤ st
theorem own_a32 {n N : Nat} (h : n < N) (hN : N < 1000) : ¬ (Int32.ofNat n) < 0 ∧ Int32.ofNat n < Int32.ofNat N ∧ (Int32.ofNat n).toNatClampNeg = n := by
  have e1 := toInt_of (n := Int32.ofNat n) rfl (by omega)
  have e2 := clamp_of (n := Int32.ofNat n) rfl (by omega)
  have e3 := toInt_of (n := Int32.ofNat N) rfl (by omega)
  have e4 : (0 : Int32).toInt = 0 := rfl
  exact ⟨by rw [Int32.lt_iff_toInt_lt, e1, e4]; omega, by rw [Int32.lt_iff_toInt_lt, e1, e3]; omega, e2⟩
theorem own_nn {n : Nat} (h : n < 1000) : ¬ (Int32.ofNat n) < 0 ∧ (Int32.ofNat n).toNatClampNeg = n := by
  have e1 := toInt_of (n := Int32.ofNat n) rfl (by omega)
  have e2 := clamp_of (n := Int32.ofNat n) rfl (by omega)
  have e4 : (0 : Int32).toInt = 0 := rfl
  exact ⟨by rw [Int32.lt_iff_toInt_lt, e1, e4]; omega, e2⟩
theorem own_add32 (a b : Nat) (h : a + b < 2 ^ 31) : Int32.ofNat a + Int32.ofNat b = Int32.ofNat (a + b) := by
  apply Int32.toInt_inj.mp
  have h1 := c_iadd (Int32.ofNat a) (Int32.ofNat b)
  have h2 := rng32 (Int32.ofNat a + Int32.ofNat b)
  have e1 := toInt_of (n := Int32.ofNat a) rfl (by omega)
  have e2 := toInt_of (n := Int32.ofNat b) rfl (by omega)
  have e3 := toInt_of (n := Int32.ofNat (a + b)) rfl h
  omega
theorem own_o64 (a b : Nat) (h : a + b < 2 ^ 63) : Int64.ofNat a + Int64.ofNat b = Int64.ofNat (a + b) := by
  apply Int64.toInt_inj.mp
  have h1 := c_ladd (Int64.ofNat a) (Int64.ofNat b)
  have h2 := rng64 (Int64.ofNat a + Int64.ofNat b)
  have e1 : (Int64.ofNat a).toInt = a := Int64.toInt_ofNat_of_lt (by omega)
  have e2 : (Int64.ofNat b).toInt = b := Int64.toInt_ofNat_of_lt (by omega)
  have e3 : (Int64.ofNat (a + b)).toInt = ((a + b : Nat) : Int) := Int64.toInt_ofNat_of_lt h
  omega
theorem own_zero (N i : Nat) : ([] ++ List.replicate N (Value.long 0)).getD i (.long 0) = .long 0 := by
  rw [List.nil_append, List.getD_eq_getElem?_getD, List.getElem?_replicate]
  split <;> rfl
theorem own_count_cons (b : Nat) (bs : List Nat) (i : Nat) : (b :: bs).count i = bs.count i + if b = i then 1 else 0 := by
  rw [List.count_cons]; congr 1; by_cases q : b = i <;> simp [q]
theorem own_rec {vs : List Value} {bs : List Nat} {b N : Nat} (hl : vs.length = N) (hb : b < N) (hn : bs.length < 1000) (H : ∀ i, i < N → vs.getD i (.long 0) = .long (Int64.ofNat (bs.count i))) : ∀ i, i < N → (vs.set b (.long (Int64.ofNat (bs.count b) + 1))).getD i (.long 0) = .long (Int64.ofNat ((b :: bs).count i)) := by
  intro i hi
  have hc : bs.count b ≤ bs.length := List.count_le_length
  rw [List.getD_eq_getElem?_getD, own_count_cons]
  by_cases q : b = i
  · subst q
    rw [List.getElem?_set_self (by omega), if_pos rfl, ← own_o64 _ _ (by omega)]
    rfl
  · rw [List.getElem?_set_ne q, ← List.getD_eq_getElem?_getD, H i hi, if_neg q, Nat.add_zero]
def own_rng (bs : List Nat) (lo hi : Nat) : Nat := bs.countP (fun b => decide (lo ≤ b ∧ b < hi))
theorem own_rng_le (bs : List Nat) (lo hi : Nat) : own_rng bs lo hi ≤ bs.length := List.countP_le_length
theorem own_rng_refl (bs : List Nat) (lo : Nat) : own_rng bs lo lo = 0 := by
  unfold own_rng
  rw [List.countP_eq_zero]
  intro b _; simp
theorem own_rng_cons (b : Nat) (bs : List Nat) (lo hi : Nat) : own_rng (b :: bs) lo hi = own_rng bs lo hi + if lo ≤ b ∧ b < hi then 1 else 0 := by
  unfold own_rng; rw [List.countP_cons]; congr 1; by_cases q : lo ≤ b ∧ b < hi <;> simp [q]
theorem own_rng_succ (bs : List Nat) (lo i : Nat) (h : lo ≤ i) : own_rng bs lo (i + 1) = own_rng bs lo i + bs.count i := by
  induction bs with
  | nil => rfl
  | cons b bs ih =>
    rw [own_rng_cons, own_rng_cons, own_count_cons, ih]
    by_cases h2 : b = i
    · subst h2; rw [if_pos ⟨h, by omega⟩, if_neg (by omega), if_pos rfl]; omega
    · by_cases h1 : lo ≤ b ∧ b < i
      · rw [if_pos h1, if_pos ⟨h1.1, by omega⟩, if_neg h2]; omega
      · rw [if_neg h1, if_neg (by omega), if_neg h2]; omega
def own_ms (t fr to : Int64) : Prop := ¬ t < fr ∧ t < to
instance own_msd (t fr to : Int64) : Decidable (own_ms t fr to) := by unfold own_ms; exact inferInstance
def own_st (t fr to : Int64) (k : Nat) (bs : List Nat) : List Nat := if own_ms t fr to then k :: bs else bs
def own_hit (t fr to : Int64) (k lo hi : Nat) : Nat := if own_ms t fr to ∧ lo ≤ k ∧ k < hi then 1 else 0
theorem own_st_rng (t fr to : Int64) (k : Nat) (bs : List Nat) (lo hi : Nat) : own_rng (own_st t fr to k bs) lo hi = own_rng bs lo hi + own_hit t fr to k lo hi := by
  unfold own_st own_hit
  by_cases m : own_ms t fr to
  · rw [if_pos m, own_rng_cons]; congr 1; by_cases q : lo ≤ k ∧ k < hi <;> simp [m, q]
  · rw [if_neg m, if_neg (fun z => m z.1)]; rfl
theorem own_st_len (t fr to : Int64) (k : Nat) (bs : List Nat) : (own_st t fr to k bs).length ≤ bs.length + 1 := by
  unfold own_st; split
  · simp
  · omega
theorem own_hit_le (t fr to : Int64) (k lo hi : Nat) : own_hit t fr to k lo hi ≤ 1 := by unfold own_hit; split <;> omega
theorem own_mask3 (x : Int32) : ∃ A : Nat, (x &&& 3) % 3 = Int32.ofNat A ∧ A ≤ 2 := by
  have h0 : 0 ≤ (x &&& 3).toInt := (c_andS x 3).2.2 (by decide)
  have h1 := (c_irem (x &&& 3) 3 3 rfl).1 h0
  refine ⟨((x &&& 3) % 3).toInt.toNat, ?_, by omega⟩
  apply Int32.toInt_inj.mp
  rw [toInt_of (n := Int32.ofNat ((x &&& 3) % 3).toInt.toNat) rfl (by omega)]
  omega
theorem own_maskK (x : Int32) (N : Nat) (h : 0 < N) (hN : N < 1000) : ∃ k : Nat, (x &&& 15) % Int32.ofNat N = Int32.ofNat k ∧ k < N := by
  have h0 : 0 ≤ (x &&& 15).toInt := (c_andS x 15).2.2 (by decide)
  have e := toInt_of (n := Int32.ofNat N) rfl (by omega)
  have h1 := (c_irem (x &&& 15) (Int32.ofNat N) N e).1 h0
  have h2 := Int.emod_lt_of_pos (x &&& 15).toInt (show 0 < (N : Int) by omega)
  have h3 := Int.emod_nonneg (x &&& 15).toInt (show (N : Int) ≠ 0 by omega)
  refine ⟨((x &&& 15) % Int32.ofNat N).toInt.toNat, ?_, by omega⟩
  apply Int32.toInt_inj.mp
  rw [toInt_of (n := Int32.ofNat ((x &&& 15) % Int32.ofNat N).toInt.toNat) rfl (by omega)]
  omega
theorem own_nz32 {N : Nat} (h : 0 < N) (hN : N < 1000) : Int32.ofNat N ≠ 0 := fun q => by
  have e := toInt_of (n := Int32.ofNat N) rfl (by omega)
  rw [q, show (0 : Int32).toInt = 0 from rfl] at e; omega
theorem own_hitv (t fr to : Int64) {k lo hi : Nat} (hk : k < 1000) (hl : lo < 1000) (hh : hi < 1000) : (Int32.ofNat k < Int32.ofNat lo ↔ k < lo) ∧ (Int32.ofNat k < Int32.ofNat hi ↔ k < hi) := by
  have e1 := toInt_of (n := Int32.ofNat k) rfl (by omega)
  have e2 := toInt_of (n := Int32.ofNat lo) rfl (by omega)
  have e3 := toInt_of (n := Int32.ofNat hi) rfl (by omega)
  constructor
  · rw [Int32.lt_iff_toInt_lt, e1, e2]; omega
  · rw [Int32.lt_iff_toInt_lt, e1, e3]; omega
theorem own_lenspec {s : State} {args : Array Value} {t : Term} {a : Addr} {cl : Cell} {z : Int32} (ht : t.eval args s none [] s = some (.ref a)) (hc : s.heap[a]? = some cl) (h : (Term.length t).eval args s none [] s = some (.int z)) : cl.slots.size < 2 ^ 31 ∧ cl.slots.size.toInt32 = z := by
  simp only [Term.eval, Option.bind_eq_bind] at h
  simp [ht] at h
  obtain ⟨cell, hcell, h⟩ := Option.bind_eq_some_iff.mp h
  cases hc.symm.trans (State.arrayAt?_spec hcell).1
  by_cases hn : cl.slots.size < 2147483648
  · rw [if_pos hn] at h; cases h; exact ⟨hn, rfl⟩
  · rw [if_neg hn] at h; cases h
theorem own_wd {s : State} {args : Array Value} (hfit : Fit s) (w0 : (Jvm.Cond.initialized "java/util/ArrayList").before args s = true) (w1 : (Jvm.Cond.laysStatic "java/util/ArrayList" "DEFAULTCAPACITY_EMPTY_ELEMENTDATA" "[Ljava/lang/Object;").before args s = true) (w2 : (Jvm.Cond.arrayOf (Jvm.Term.static "java/util/ArrayList" "DEFAULTCAPACITY_EMPTY_ELEMENTDATA" "[Ljava/lang/Object;") (Jvm.ClassFile.FieldType.object "java/lang/Object")).before args s = true) (w3 : (Jvm.Cond.eq (Jvm.Term.length (Jvm.Term.static "java/util/ArrayList" "DEFAULTCAPACITY_EMPTY_ELEMENTDATA" "[Ljava/lang/Object;")) (Jvm.Term.int (0 : Int32))).before args s = true) : ∃ d, OWd s s.heap.size s.heap d := by
  obtain ⟨d, ev⟩ := arr_v (Cond.before_iff.mp w2)
  have S := Sta.start ev (Or.inr ⟨w0, w1⟩)
  obtain ⟨c, A⟩ := Arr.start ev (Cond.before_iff.mp w2)
  obtain ⟨q1, q2⟩ := own_lenspec ev A.1 (own_eqi (Cond.before_iff.mp w3))
  exact ⟨d, OS.of S (Nat.le_refl _), ⟨_, Arv.start hfit A q1 q2 (by decide) rfl trivial⟩, A.lt⟩
theorem own_sum3 (t1 t2 t3 fr to : Int64) (k1 k2 k3 lo hi : Nat) : Int64.ofNat (own_hit t1 fr to k1 lo hi) + Int64.ofNat (own_hit t2 fr to k2 lo hi) + Int64.ofNat (own_hit t3 fr to k3 lo hi) = Int64.ofNat (own_rng (own_st t3 fr to k3 (own_st t2 fr to k2 (own_st t1 fr to k1 []))) lo hi) := by
  have a1 := own_hit_le t1 fr to k1 lo hi
  have a2 := own_hit_le t2 fr to k2 lo hi
  have a3 := own_hit_le t3 fr to k3 lo hi
  rw [own_o64 _ _ (by omega), own_o64 _ _ (by omega), own_st_rng, own_st_rng, own_st_rng, show own_rng [] lo hi = 0 from rfl, Nat.zero_add]
theorem own_d3_0 : decode jdk_22_method_1_code 0 = .ok (.aload_n 0, 1) := by decide +kernel
theorem own_d3_1 : decode jdk_22_method_1_code 1 = .ok (.invokespecial 1, 3) := by decide +kernel
theorem own_d3_4 : decode jdk_22_method_1_code 4 = .ok (.return_, 1) := by decide +kernel
theorem own_pn_3 : plainName "java/util/AbstractCollection" = true := by first | (simp [plainName, overriddenIn]; done) | decide +kernel
theorem own_d2_0 : decode jdk_39_method_1_code 0 = .ok (.aload_n 0, 1) := by decide +kernel
theorem own_d2_1 : decode jdk_39_method_1_code 1 = .ok (.invokespecial 1, 3) := by decide +kernel
theorem own_pd1 : parseMethodDescriptor "()V" = some ⟨[], none⟩ := by decide +kernel
theorem own_d2_4 : decode jdk_39_method_1_code 4 = .ok (.aload_n 0, 1) := by decide +kernel
theorem own_d2_5 : decode jdk_39_method_1_code 5 = .ok (.iconst 0, 1) := by decide +kernel
theorem own_d2_6 : decode jdk_39_method_1_code 6 = .ok (.putfield 7, 3) := by decide +kernel
theorem own_d2_9 : decode jdk_39_method_1_code 9 = .ok (.return_, 1) := by decide +kernel
theorem own_pn_2 : plainName "java/util/AbstractList" = true := by first | (simp [plainName, overriddenIn]; done) | decide +kernel
theorem own_d1_0 : decode jdk_38_method_2_code 0 = .ok (.aload_n 0, 1) := by decide +kernel
theorem own_d1_1 : decode jdk_38_method_2_code 1 = .ok (.invokespecial 1, 3) := by decide +kernel
theorem own_d1_4 : decode jdk_38_method_2_code 4 = .ok (.aload_n 0, 1) := by decide +kernel
theorem own_d1_5 : decode jdk_38_method_2_code 5 = .ok (.getstatic 39, 3) := by decide +kernel
theorem own_d1_8 : decode jdk_38_method_2_code 8 = .ok (.putfield 9, 3) := by decide +kernel
theorem own_d1_11 : decode jdk_38_method_2_code 11 = .ok (.return_, 1) := by decide +kernel
theorem own_pn_1 : plainName "java/util/ArrayList" = true := by first | (simp [plainName, overriddenIn]; done) | decide +kernel
theorem own_d11_0 : decode jdk_29_method_65_code 0 = .ok (.iload_n 0, 1) := by decide +kernel
theorem own_d11_1 : decode jdk_29_method_65_code 1 = .ok (.iload_n 1, 1) := by decide +kernel
theorem own_d11_2 : decode jdk_29_method_65_code 2 = .ok (.if_icmp .lt 7, 3) := by decide +kernel
theorem own_d11_9 : decode jdk_29_method_65_code 9 = .ok (.iload_n 1, 1) := by decide +kernel
theorem own_d11_10 : decode jdk_29_method_65_code 10 = .ok (.ireturn, 1) := by decide +kernel
theorem own_d11_5 : decode jdk_29_method_65_code 5 = .ok (.iload_n 0, 1) := by decide +kernel
theorem own_d11_6 : decode jdk_29_method_65_code 6 = .ok (.goto 4, 3) := by decide +kernel
theorem own_d10_0 : decode jdk_38_method_6_code 0 = .ok (.aload_n 0, 1) := by decide +kernel
theorem own_d10_1 : decode jdk_38_method_6_code 1 = .ok (.getfield 9, 3) := by decide +kernel
theorem own_d10_4 : decode jdk_38_method_6_code 4 = .ok (.arraylength, 1) := by decide +kernel
theorem own_d10_5 : decode jdk_38_method_6_code 5 = .ok (.istore_n 2, 1) := by decide +kernel
theorem own_d10_6 : decode jdk_38_method_6_code 6 = .ok (.iload_n 2, 1) := by decide +kernel
theorem own_d10_7 : decode jdk_38_method_6_code 7 = .ok (.ifCond .gt 13, 3) := by decide +kernel
theorem own_d10_10 : decode jdk_38_method_6_code 10 = .ok (.aload_n 0, 1) := by decide +kernel
theorem own_d10_11 : decode jdk_38_method_6_code 11 = .ok (.getfield 9, 3) := by decide +kernel
theorem own_d10_14 : decode jdk_38_method_6_code 14 = .ok (.getstatic 39, 3) := by decide +kernel
theorem own_d10_17 : decode jdk_38_method_6_code 17 = .ok (.if_acmp .eq 28, 3) := by decide +kernel
theorem own_d10_45 : decode jdk_38_method_6_code 45 = .ok (.aload_n 0, 1) := by decide +kernel
theorem own_d10_46 : decode jdk_38_method_6_code 46 = .ok (.bipush 10, 2) := by decide +kernel
theorem own_d10_48 : decode jdk_38_method_6_code 48 = .ok (.iload_n 1, 1) := by decide +kernel
theorem own_d10_49 : decode jdk_38_method_6_code 49 = .ok (.invokestatic 79, 3) := by decide +kernel
theorem own_pd4 : parseMethodDescriptor "(II)I" = some ⟨[.int, .int], some .int⟩ := by decide +kernel
theorem own_d10_52 : decode jdk_38_method_6_code 52 = .ok (.anewarray 7, 3) := by decide +kernel
theorem own_d10_55 : decode jdk_38_method_6_code 55 = .ok (.dup_x1, 1) := by decide +kernel
theorem own_d10_56 : decode jdk_38_method_6_code 56 = .ok (.putfield 9, 3) := by decide +kernel
theorem own_d10_59 : decode jdk_38_method_6_code 59 = .ok (.areturn, 1) := by decide +kernel
theorem own_d9_0 : decode jdk_38_method_7_code 0 = .ok (.aload_n 0, 1) := by decide +kernel
theorem own_d9_1 : decode jdk_38_method_7_code 1 = .ok (.aload_n 0, 1) := by decide +kernel
theorem own_d9_2 : decode jdk_38_method_7_code 2 = .ok (.getfield 48, 3) := by decide +kernel
theorem own_d9_5 : decode jdk_38_method_7_code 5 = .ok (.iconst 1, 1) := by decide +kernel
theorem own_d9_6 : decode jdk_38_method_7_code 6 = .ok (.iadd, 1) := by decide +kernel
theorem own_d9_7 : decode jdk_38_method_7_code 7 = .ok (.invokevirtual 69, 3) := by decide +kernel
theorem own_pd5 : parseMethodDescriptor "(I)[Ljava/lang/Object;" = some ⟨[.int], some (.array (.object "java/lang/Object"))⟩ := by decide +kernel
theorem own_d9_10 : decode jdk_38_method_7_code 10 = .ok (.areturn, 1) := by decide +kernel
theorem own_d8_0 : decode jdk_38_method_24_code 0 = .ok (.iload_n 3, 1) := by decide +kernel
theorem own_d8_1 : decode jdk_38_method_24_code 1 = .ok (.aload_n 2, 1) := by decide +kernel
theorem own_d8_2 : decode jdk_38_method_24_code 2 = .ok (.arraylength, 1) := by decide +kernel
theorem own_d8_3 : decode jdk_38_method_24_code 3 = .ok (.if_icmp .ne 8, 3) := by decide +kernel
theorem own_d8_11 : decode jdk_38_method_24_code 11 = .ok (.aload_n 2, 1) := by decide +kernel
theorem own_d8_12 : decode jdk_38_method_24_code 12 = .ok (.iload_n 3, 1) := by decide +kernel
theorem own_d8_13 : decode jdk_38_method_24_code 13 = .ok (.aload_n 1, 1) := by decide +kernel
theorem own_d8_14 : decode jdk_38_method_24_code 14 = .ok (.aastore, 1) := by decide +kernel
theorem own_d8_15 : decode jdk_38_method_24_code 15 = .ok (.aload_n 0, 1) := by decide +kernel
theorem own_d8_16 : decode jdk_38_method_24_code 16 = .ok (.iload_n 3, 1) := by decide +kernel
theorem own_d8_17 : decode jdk_38_method_24_code 17 = .ok (.iconst 1, 1) := by decide +kernel
theorem own_d8_18 : decode jdk_38_method_24_code 18 = .ok (.iadd, 1) := by decide +kernel
theorem own_d8_19 : decode jdk_38_method_24_code 19 = .ok (.putfield 48, 3) := by decide +kernel
theorem own_d8_22 : decode jdk_38_method_24_code 22 = .ok (.return_, 1) := by decide +kernel
theorem own_d8_6 : decode jdk_38_method_24_code 6 = .ok (.aload_n 0, 1) := by decide +kernel
theorem own_d8_7 : decode jdk_38_method_24_code 7 = .ok (.invokevirtual 129, 3) := by decide +kernel
theorem own_pd6 : parseMethodDescriptor "()[Ljava/lang/Object;" = some ⟨[], some (.array (.object "java/lang/Object"))⟩ := by decide +kernel
theorem own_d8_10 : decode jdk_38_method_24_code 10 = .ok (.astore_n 2, 1) := by decide +kernel
theorem own_d7_0 : decode jdk_38_method_25_code 0 = .ok (.aload_n 0, 1) := by decide +kernel
theorem own_d7_1 : decode jdk_38_method_25_code 1 = .ok (.dup, 1) := by decide +kernel
theorem own_d7_2 : decode jdk_38_method_25_code 2 = .ok (.getfield 63, 3) := by decide +kernel
theorem own_d7_5 : decode jdk_38_method_25_code 5 = .ok (.iconst 1, 1) := by decide +kernel
theorem own_d7_6 : decode jdk_38_method_25_code 6 = .ok (.iadd, 1) := by decide +kernel
theorem own_d7_7 : decode jdk_38_method_25_code 7 = .ok (.putfield 63, 3) := by decide +kernel
theorem own_d7_10 : decode jdk_38_method_25_code 10 = .ok (.aload_n 0, 1) := by decide +kernel
theorem own_d7_11 : decode jdk_38_method_25_code 11 = .ok (.aload_n 1, 1) := by decide +kernel
theorem own_d7_12 : decode jdk_38_method_25_code 12 = .ok (.aload_n 0, 1) := by decide +kernel
theorem own_d7_13 : decode jdk_38_method_25_code 13 = .ok (.getfield 9, 3) := by decide +kernel
theorem own_d7_16 : decode jdk_38_method_25_code 16 = .ok (.aload_n 0, 1) := by decide +kernel
theorem own_d7_17 : decode jdk_38_method_25_code 17 = .ok (.getfield 48, 3) := by decide +kernel
theorem own_d7_20 : decode jdk_38_method_25_code 20 = .ok (.invokevirtual 131, 3) := by decide +kernel
theorem own_pd7 : parseMethodDescriptor "(Ljava/lang/Object;[Ljava/lang/Object;I)V" = some ⟨[(.object "java/lang/Object"), (.array (.object "java/lang/Object")), .int], none⟩ := by decide +kernel
theorem own_d7_23 : decode jdk_38_method_25_code 23 = .ok (.iconst 1, 1) := by decide +kernel
theorem own_d7_24 : decode jdk_38_method_25_code 24 = .ok (.ireturn, 1) := by decide +kernel
theorem own_d13_0 : decode jdk_38_method_8_code 0 = .ok (.aload_n 0, 1) := by decide +kernel
theorem own_d13_1 : decode jdk_38_method_8_code 1 = .ok (.getfield 48, 3) := by decide +kernel
theorem own_d13_4 : decode jdk_38_method_8_code 4 = .ok (.ireturn, 1) := by decide +kernel
theorem own_d16_0 : decode jdk_41_method_11_code 0 = .ok (.iload_n 0, 1) := by decide +kernel
theorem own_d16_1 : decode jdk_41_method_11_code 1 = .ok (.ifCond .lt 8, 3) := by decide +kernel
theorem own_d16_4 : decode jdk_41_method_11_code 4 = .ok (.iload_n 0, 1) := by decide +kernel
theorem own_d16_5 : decode jdk_41_method_11_code 5 = .ok (.iload_n 1, 1) := by decide +kernel
theorem own_d16_6 : decode jdk_41_method_11_code 6 = .ok (.if_icmp .lt 10, 3) := by decide +kernel
theorem own_d16_16 : decode jdk_41_method_11_code 16 = .ok (.iload_n 0, 1) := by decide +kernel
theorem own_d16_17 : decode jdk_41_method_11_code 17 = .ok (.ireturn, 1) := by decide +kernel
theorem own_pn_16 : plainName "jdk/internal/util/Preconditions" = true := by first | (simp [plainName, overriddenIn]; done) | decide +kernel
theorem own_d15_0 : decode jdk_31_method_17_code 0 = .ok (.iload_n 0, 1) := by decide +kernel
theorem own_d15_1 : decode jdk_31_method_17_code 1 = .ok (.iload_n 1, 1) := by decide +kernel
theorem own_d15_2 : decode jdk_31_method_17_code 2 = .ok (.aconst_null, 1) := by decide +kernel
theorem own_d15_3 : decode jdk_31_method_17_code 3 = .ok (.invokestatic 105, 3) := by decide +kernel
theorem own_pd9 : parseMethodDescriptor "(IILjava/util/function/BiFunction;)I" = some ⟨[.int, .int, (.object "java/util/function/BiFunction")], some .int⟩ := by decide +kernel
theorem own_d15_6 : decode jdk_31_method_17_code 6 = .ok (.ireturn, 1) := by decide +kernel
theorem own_pn_15 : plainName "java/util/Objects" = true := by first | (simp [plainName, overriddenIn]; done) | decide +kernel
theorem own_d17_0 : decode jdk_38_method_18_code 0 = .ok (.aload_n 0, 1) := by decide +kernel
theorem own_d17_1 : decode jdk_38_method_18_code 1 = .ok (.getfield 9, 3) := by decide +kernel
theorem own_d17_4 : decode jdk_38_method_18_code 4 = .ok (.iload_n 1, 1) := by decide +kernel
theorem own_d17_5 : decode jdk_38_method_18_code 5 = .ok (.aaload, 1) := by decide +kernel
theorem own_d17_6 : decode jdk_38_method_18_code 6 = .ok (.areturn, 1) := by decide +kernel
theorem own_d14_0 : decode jdk_38_method_20_code 0 = .ok (.iload_n 1, 1) := by decide +kernel
theorem own_d14_1 : decode jdk_38_method_20_code 1 = .ok (.aload_n 0, 1) := by decide +kernel
theorem own_d14_2 : decode jdk_38_method_20_code 2 = .ok (.getfield 48, 3) := by decide +kernel
theorem own_d14_5 : decode jdk_38_method_20_code 5 = .ok (.invokestatic 118, 3) := by decide +kernel
theorem own_d14_8 : decode jdk_38_method_20_code 8 = .ok (.pop, 1) := by decide +kernel
theorem own_d14_9 : decode jdk_38_method_20_code 9 = .ok (.aload_n 0, 1) := by decide +kernel
theorem own_d14_10 : decode jdk_38_method_20_code 10 = .ok (.iload_n 1, 1) := by decide +kernel
theorem own_d14_11 : decode jdk_38_method_20_code 11 = .ok (.invokevirtual 123, 3) := by decide +kernel
theorem own_pd11 : parseMethodDescriptor "(I)Ljava/lang/Object;" = some ⟨[.int], some (.object "java/lang/Object")⟩ := by decide +kernel
theorem own_d14_14 : decode jdk_38_method_20_code 14 = .ok (.areturn, 1) := by decide +kernel
theorem own_d6_0 : decode jdk_30_method_1_code 0 = .ok (.aload_n 0, 1) := by decide +kernel
theorem own_d6_1 : decode jdk_30_method_1_code 1 = .ok (.invokespecial 1, 3) := by decide +kernel
theorem own_d6_4 : decode jdk_30_method_1_code 4 = .ok (.return_, 1) := by decide +kernel
theorem own_pn_6 : plainName "java/lang/Record" = true := by first | (simp [plainName, overriddenIn]; done) | decide +kernel
theorem own_d5_0 : decode prog_44_method_1_code 0 = .ok (.aload_n 0, 1) := by decide +kernel
theorem own_d5_1 : decode prog_44_method_1_code 1 = .ok (.invokespecial 5, 3) := by decide +kernel
theorem own_d5_4 : decode prog_44_method_1_code 4 = .ok (.aload_n 0, 1) := by decide +kernel
theorem own_d5_5 : decode prog_44_method_1_code 5 = .ok (.aload_n 1, 1) := by decide +kernel
theorem own_d5_6 : decode prog_44_method_1_code 6 = .ok (.putfield 11, 3) := by decide +kernel
theorem own_d5_9 : decode prog_44_method_1_code 9 = .ok (.aload_n 0, 1) := by decide +kernel
theorem own_d5_10 : decode prog_44_method_1_code 10 = .ok (.iload_n 2, 1) := by decide +kernel
theorem own_d5_11 : decode prog_44_method_1_code 11 = .ok (.putfield 17, 3) := by decide +kernel
theorem own_d5_14 : decode prog_44_method_1_code 14 = .ok (.aload_n 0, 1) := by decide +kernel
theorem own_d5_15 : decode prog_44_method_1_code 15 = .ok (.aload_n 3, 1) := by decide +kernel
theorem own_d5_16 : decode prog_44_method_1_code 16 = .ok (.putfield 21, 3) := by decide +kernel
theorem own_d5_19 : decode prog_44_method_1_code 19 = .ok (.aload_n 0, 1) := by decide +kernel
theorem own_d5_20 : decode prog_44_method_1_code 20 = .ok (.lload 4, 2) := by decide +kernel
theorem own_d5_22 : decode prog_44_method_1_code 22 = .ok (.putfield 25, 3) := by decide +kernel
theorem own_d5_25 : decode prog_44_method_1_code 25 = .ok (.aload_n 0, 1) := by decide +kernel
theorem own_d5_26 : decode prog_44_method_1_code 26 = .ok (.iload 6, 2) := by decide +kernel
theorem own_d5_28 : decode prog_44_method_1_code 28 = .ok (.putfield 29, 3) := by decide +kernel
theorem own_d5_31 : decode prog_44_method_1_code 31 = .ok (.aload_n 0, 1) := by decide +kernel
theorem own_d5_32 : decode prog_44_method_1_code 32 = .ok (.iload 7, 2) := by decide +kernel
theorem own_d5_34 : decode prog_44_method_1_code 34 = .ok (.putfield 32, 3) := by decide +kernel
theorem own_d5_37 : decode prog_44_method_1_code 37 = .ok (.aload_n 0, 1) := by decide +kernel
theorem own_d5_38 : decode prog_44_method_1_code 38 = .ok (.dload 8, 2) := by decide +kernel
theorem own_d5_40 : decode prog_44_method_1_code 40 = .ok (.putfield 35, 3) := by decide +kernel
theorem own_d5_43 : decode prog_44_method_1_code 43 = .ok (.aload_n 0, 1) := by decide +kernel
theorem own_d5_44 : decode prog_44_method_1_code 44 = .ok (.lload 10, 2) := by decide +kernel
theorem own_d5_46 : decode prog_44_method_1_code 46 = .ok (.putfield 39, 3) := by decide +kernel
theorem own_d5_49 : decode prog_44_method_1_code 49 = .ok (.aload_n 0, 1) := by decide +kernel
theorem own_d5_50 : decode prog_44_method_1_code 50 = .ok (.lload 12, 2) := by decide +kernel
theorem own_d5_52 : decode prog_44_method_1_code 52 = .ok (.putfield 42, 3) := by decide +kernel
theorem own_d5_55 : decode prog_44_method_1_code 55 = .ok (.aload_n 0, 1) := by decide +kernel
theorem own_d5_56 : decode prog_44_method_1_code 56 = .ok (.lload 14, 2) := by decide +kernel
theorem own_d5_58 : decode prog_44_method_1_code 58 = .ok (.putfield 45, 3) := by decide +kernel
theorem own_d5_61 : decode prog_44_method_1_code 61 = .ok (.aload_n 0, 1) := by decide +kernel
theorem own_d5_62 : decode prog_44_method_1_code 62 = .ok (.lload 16, 2) := by decide +kernel
theorem own_d5_64 : decode prog_44_method_1_code 64 = .ok (.putfield 48, 3) := by decide +kernel
theorem own_d5_67 : decode prog_44_method_1_code 67 = .ok (.aload_n 0, 1) := by decide +kernel
theorem own_d5_68 : decode prog_44_method_1_code 68 = .ok (.lload 18, 2) := by decide +kernel
theorem own_d5_70 : decode prog_44_method_1_code 70 = .ok (.putfield 51, 3) := by decide +kernel
theorem own_d5_73 : decode prog_44_method_1_code 73 = .ok (.return_, 1) := by decide +kernel
theorem own_pn_5 : plainName "com/example/loadvane/loadvane/simulation/Group" = true := by first | (simp [plainName, overriddenIn]; done) | decide +kernel
theorem own_d18_0 : decode prog_44_method_8_code 0 = .ok (.aload_n 0, 1) := by decide +kernel
theorem own_d18_1 : decode prog_44_method_8_code 1 = .ok (.getfield 17, 3) := by decide +kernel
theorem own_d18_4 : decode prog_44_method_8_code 4 = .ok (.ireturn, 1) := by decide +kernel
theorem own_d12_0 : decode prog_58_method_1_code 0 = .ok (.aload_n 0, 1) := by decide +kernel
theorem own_d12_1 : decode prog_58_method_1_code 1 = .ok (.invokespecial 3, 3) := by decide +kernel
theorem own_d12_4 : decode prog_58_method_1_code 4 = .ok (.aload_n 0, 1) := by decide +kernel
theorem own_d12_5 : decode prog_58_method_1_code 5 = .ok (.sipush 1024, 3) := by decide +kernel
theorem own_d12_8 : decode prog_58_method_1_code 8 = .ok (.newarray .long, 2) := by decide +kernel
theorem own_d12_10 : decode prog_58_method_1_code 10 = .ok (.putfield 9, 3) := by decide +kernel
theorem own_d12_13 : decode prog_58_method_1_code 13 = .ok (.aload_n 0, 1) := by decide +kernel
theorem own_d12_14 : decode prog_58_method_1_code 14 = .ok (.iconst 1, 1) := by decide +kernel
theorem own_d12_15 : decode prog_58_method_1_code 15 = .ok (.putfield 15, 3) := by decide +kernel
theorem own_d12_18 : decode prog_58_method_1_code 18 = .ok (.aload_n 0, 1) := by decide +kernel
theorem own_d12_19 : decode prog_58_method_1_code 19 = .ok (.aload_n 1, 1) := by decide +kernel
theorem own_d12_20 : decode prog_58_method_1_code 20 = .ok (.invokeinterface 19 1, 5) := by decide +kernel
theorem own_pd14 : parseMethodDescriptor "()I" = some ⟨[], some .int⟩ := by decide +kernel
theorem own_d12_25 : decode prog_58_method_1_code 25 = .ok (.iconst 1, 1) := by decide +kernel
theorem own_d12_26 : decode prog_58_method_1_code 26 = .ok (.iadd, 1) := by decide +kernel
theorem own_d12_27 : decode prog_58_method_1_code 27 = .ok (.newarray .int, 2) := by decide +kernel
theorem own_d12_29 : decode prog_58_method_1_code 29 = .ok (.putfield 25, 3) := by decide +kernel
theorem own_d12_32 : decode prog_58_method_1_code 32 = .ok (.iconst 0, 1) := by decide +kernel
theorem own_d12_33 : decode prog_58_method_1_code 33 = .ok (.istore 6, 2) := by decide +kernel
theorem own_d12_35 : decode prog_58_method_1_code 35 = .ok (.iload 6, 2) := by decide +kernel
theorem own_d12_37 : decode prog_58_method_1_code 37 = .ok (.aload_n 1, 1) := by decide +kernel
theorem own_d12_38 : decode prog_58_method_1_code 38 = .ok (.invokeinterface 19 1, 5) := by decide +kernel
theorem own_d12_43 : decode prog_58_method_1_code 43 = .ok (.if_icmp .ge 40, 3) := by decide +kernel
theorem own_d12_46 : decode prog_58_method_1_code 46 = .ok (.aload_n 0, 1) := by decide +kernel
theorem own_d12_47 : decode prog_58_method_1_code 47 = .ok (.getfield 25, 3) := by decide +kernel
theorem own_d12_50 : decode prog_58_method_1_code 50 = .ok (.iload 6, 2) := by decide +kernel
theorem own_d12_52 : decode prog_58_method_1_code 52 = .ok (.iconst 1, 1) := by decide +kernel
theorem own_d12_53 : decode prog_58_method_1_code 53 = .ok (.iadd, 1) := by decide +kernel
theorem own_d12_54 : decode prog_58_method_1_code 54 = .ok (.aload_n 0, 1) := by decide +kernel
theorem own_d12_55 : decode prog_58_method_1_code 55 = .ok (.getfield 25, 3) := by decide +kernel
theorem own_d12_58 : decode prog_58_method_1_code 58 = .ok (.iload 6, 2) := by decide +kernel
theorem own_d12_60 : decode prog_58_method_1_code 60 = .ok (.iaload, 1) := by decide +kernel
theorem own_d12_61 : decode prog_58_method_1_code 61 = .ok (.aload_n 1, 1) := by decide +kernel
theorem own_d12_62 : decode prog_58_method_1_code 62 = .ok (.iload 6, 2) := by decide +kernel
theorem own_d12_64 : decode prog_58_method_1_code 64 = .ok (.invokeinterface 29 2, 5) := by decide +kernel
theorem own_d12_69 : decode prog_58_method_1_code 69 = .ok (.checkcast 33, 3) := by decide +kernel
theorem own_d12_72 : decode prog_58_method_1_code 72 = .ok (.invokevirtual 35, 3) := by decide +kernel
theorem own_d12_75 : decode prog_58_method_1_code 75 = .ok (.iadd, 1) := by decide +kernel
theorem own_d12_76 : decode prog_58_method_1_code 76 = .ok (.iastore, 1) := by decide +kernel
theorem own_d12_77 : decode prog_58_method_1_code 77 = .ok (.iinc 6 1, 3) := by decide +kernel
theorem own_d12_80 : decode prog_58_method_1_code 80 = .ok (.goto (-45), 3) := by decide +kernel
theorem own_d12_83 : decode prog_58_method_1_code 83 = .ok (.aload_n 0, 1) := by decide +kernel
theorem own_d12_84 : decode prog_58_method_1_code 84 = .ok (.getfield 25, 3) := by decide +kernel
theorem own_d12_87 : decode prog_58_method_1_code 87 = .ok (.aload_n 1, 1) := by decide +kernel
theorem own_d12_88 : decode prog_58_method_1_code 88 = .ok (.invokeinterface 19 1, 5) := by decide +kernel
theorem own_d12_93 : decode prog_58_method_1_code 93 = .ok (.iaload, 1) := by decide +kernel
theorem own_d12_94 : decode prog_58_method_1_code 94 = .ok (.istore 6, 2) := by decide +kernel
theorem own_d12_96 : decode prog_58_method_1_code 96 = .ok (.aload_n 0, 1) := by decide +kernel
theorem own_d12_97 : decode prog_58_method_1_code 97 = .ok (.iload 6, 2) := by decide +kernel
theorem own_d12_99 : decode prog_58_method_1_code 99 = .ok (.newarray .long, 2) := by decide +kernel
theorem own_d12_101 : decode prog_58_method_1_code 101 = .ok (.putfield 38, 3) := by decide +kernel
theorem own_d12_104 : decode prog_58_method_1_code 104 = .ok (.aload_n 0, 1) := by decide +kernel
theorem own_d12_105 : decode prog_58_method_1_code 105 = .ok (.iload 6, 2) := by decide +kernel
theorem own_d12_107 : decode prog_58_method_1_code 107 = .ok (.newarray .long, 2) := by decide +kernel
theorem own_d12_109 : decode prog_58_method_1_code 109 = .ok (.putfield 41, 3) := by decide +kernel
theorem own_d12_112 : decode prog_58_method_1_code 112 = .ok (.aload_n 0, 1) := by decide +kernel
theorem own_d12_113 : decode prog_58_method_1_code 113 = .ok (.iload 6, 2) := by decide +kernel
theorem own_d12_115 : decode prog_58_method_1_code 115 = .ok (.newarray .int, 2) := by decide +kernel
theorem own_d12_117 : decode prog_58_method_1_code 117 = .ok (.putfield 44, 3) := by decide +kernel
theorem own_d12_120 : decode prog_58_method_1_code 120 = .ok (.aload_n 0, 1) := by decide +kernel
theorem own_d12_121 : decode prog_58_method_1_code 121 = .ok (.iload 6, 2) := by decide +kernel
theorem own_d12_123 : decode prog_58_method_1_code 123 = .ok (.newarray .long, 2) := by decide +kernel
theorem own_d12_125 : decode prog_58_method_1_code 125 = .ok (.putfield 47, 3) := by decide +kernel
theorem own_d12_128 : decode prog_58_method_1_code 128 = .ok (.aload_n 0, 1) := by decide +kernel
theorem own_d12_129 : decode prog_58_method_1_code 129 = .ok (.iload 6, 2) := by decide +kernel
theorem own_d12_131 : decode prog_58_method_1_code 131 = .ok (.newarray .int, 2) := by decide +kernel
theorem own_d12_133 : decode prog_58_method_1_code 133 = .ok (.putfield 50, 3) := by decide +kernel
theorem own_d12_136 : decode prog_58_method_1_code 136 = .ok (.aload_n 0, 1) := by decide +kernel
theorem own_d12_137 : decode prog_58_method_1_code 137 = .ok (.lload_n 2, 1) := by decide +kernel
theorem own_d12_138 : decode prog_58_method_1_code 138 = .ok (.putfield 53, 3) := by decide +kernel
theorem own_d12_141 : decode prog_58_method_1_code 141 = .ok (.aload_n 0, 1) := by decide +kernel
theorem own_d12_142 : decode prog_58_method_1_code 142 = .ok (.lload 4, 2) := by decide +kernel
theorem own_d12_144 : decode prog_58_method_1_code 144 = .ok (.putfield 57, 3) := by decide +kernel
theorem own_d12_147 : decode prog_58_method_1_code 147 = .ok (.return_, 1) := by decide +kernel
theorem own_pn_12 : plainName "com/example/loadvane/loadvane/simulation/Tally" = true := by first | (simp [plainName, overriddenIn]; done) | decide +kernel
theorem own_d19_10 : decode prog_58_method_11_code 10 = .ok (.iload 4, 2) := by decide +kernel
theorem own_d19_12 : decode prog_58_method_11_code 12 = .ok (.aload_n 0, 1) := by decide +kernel
theorem own_d19_13 : decode prog_58_method_11_code 13 = .ok (.getfield 25, 3) := by decide +kernel
theorem own_d19_16 : decode prog_58_method_11_code 16 = .ok (.iload_n 1, 1) := by decide +kernel
theorem own_d19_17 : decode prog_58_method_11_code 17 = .ok (.iconst 1, 1) := by decide +kernel
theorem own_d19_18 : decode prog_58_method_11_code 18 = .ok (.iadd, 1) := by decide +kernel
theorem own_d19_19 : decode prog_58_method_11_code 19 = .ok (.iaload, 1) := by decide +kernel
theorem own_d19_20 : decode prog_58_method_11_code 20 = .ok (.if_icmp .ge 19, 3) := by decide +kernel
theorem own_d19_39 : decode prog_58_method_11_code 39 = .ok (.lload_n 2, 1) := by decide +kernel
theorem own_d19_40 : decode prog_58_method_11_code 40 = .ok (.lreturn, 1) := by decide +kernel
theorem own_d19_23 : decode prog_58_method_11_code 23 = .ok (.lload_n 2, 1) := by decide +kernel
theorem own_d19_24 : decode prog_58_method_11_code 24 = .ok (.aload_n 0, 1) := by decide +kernel
theorem own_d19_25 : decode prog_58_method_11_code 25 = .ok (.getfield 38, 3) := by decide +kernel
theorem own_d19_28 : decode prog_58_method_11_code 28 = .ok (.iload 4, 2) := by decide +kernel
theorem own_d19_30 : decode prog_58_method_11_code 30 = .ok (.laload, 1) := by decide +kernel
theorem own_d19_31 : decode prog_58_method_11_code 31 = .ok (.ladd, 1) := by decide +kernel
theorem own_d19_32 : decode prog_58_method_11_code 32 = .ok (.lstore_n 2, 1) := by decide +kernel
theorem own_d19_33 : decode prog_58_method_11_code 33 = .ok (.iinc 4 1, 3) := by decide +kernel
theorem own_d19_36 : decode prog_58_method_11_code 36 = .ok (.goto (-26), 3) := by decide +kernel
theorem own_d19_0 : decode prog_58_method_11_code 0 = .ok (.lconst 0, 1) := by decide +kernel
theorem own_d19_1 : decode prog_58_method_11_code 1 = .ok (.lstore_n 2, 1) := by decide +kernel
theorem own_d19_2 : decode prog_58_method_11_code 2 = .ok (.aload_n 0, 1) := by decide +kernel
theorem own_d19_3 : decode prog_58_method_11_code 3 = .ok (.getfield 25, 3) := by decide +kernel
theorem own_d19_6 : decode prog_58_method_11_code 6 = .ok (.iload_n 1, 1) := by decide +kernel
theorem own_d19_7 : decode prog_58_method_11_code 7 = .ok (.iaload, 1) := by decide +kernel
theorem own_d19_8 : decode prog_58_method_11_code 8 = .ok (.istore 4, 2) := by decide +kernel
theorem own_d21_0 : decode prog_58_method_20_code 0 = .ok (.lload_n 1, 1) := by decide +kernel
theorem own_d21_1 : decode prog_58_method_20_code 1 = .ok (.aload_n 0, 1) := by decide +kernel
theorem own_d21_2 : decode prog_58_method_20_code 2 = .ok (.getfield 53, 3) := by decide +kernel
theorem own_d21_5 : decode prog_58_method_20_code 5 = .ok (.lcmp, 1) := by decide +kernel
theorem own_d21_6 : decode prog_58_method_20_code 6 = .ok (.ifCond .lt 16, 3) := by decide +kernel
theorem own_d21_22 : decode prog_58_method_20_code 22 = .ok (.iconst 0, 1) := by decide +kernel
theorem own_d21_23 : decode prog_58_method_20_code 23 = .ok (.ireturn, 1) := by decide +kernel
theorem own_d21_9 : decode prog_58_method_20_code 9 = .ok (.lload_n 1, 1) := by decide +kernel
theorem own_d21_10 : decode prog_58_method_20_code 10 = .ok (.aload_n 0, 1) := by decide +kernel
theorem own_d21_11 : decode prog_58_method_20_code 11 = .ok (.getfield 57, 3) := by decide +kernel
theorem own_d21_14 : decode prog_58_method_20_code 14 = .ok (.lcmp, 1) := by decide +kernel
theorem own_d21_15 : decode prog_58_method_20_code 15 = .ok (.ifCond .ge 7, 3) := by decide +kernel
theorem own_d21_18 : decode prog_58_method_20_code 18 = .ok (.iconst 1, 1) := by decide +kernel
theorem own_d21_19 : decode prog_58_method_20_code 19 = .ok (.goto 4, 3) := by decide +kernel
theorem own_d20_0 : decode prog_58_method_3_code 0 = .ok (.aload_n 0, 1) := by decide +kernel
theorem own_d20_1 : decode prog_58_method_3_code 1 = .ok (.lload_n 1, 1) := by decide +kernel
theorem own_d20_2 : decode prog_58_method_3_code 2 = .ok (.invokevirtual 60, 3) := by decide +kernel
theorem own_pd16 : parseMethodDescriptor "(J)Z" = some ⟨[.long], some .boolean⟩ := by decide +kernel
theorem own_d20_5 : decode prog_58_method_3_code 5 = .ok (.ifCond .eq 23, 3) := by decide +kernel
theorem own_d20_8 : decode prog_58_method_3_code 8 = .ok (.aload_n 0, 1) := by decide +kernel
theorem own_d20_9 : decode prog_58_method_3_code 9 = .ok (.dup, 1) := by decide +kernel
theorem own_d20_10 : decode prog_58_method_3_code 10 = .ok (.getfield 64, 3) := by decide +kernel
theorem own_d20_13 : decode prog_58_method_3_code 13 = .ok (.lconst 1, 1) := by decide +kernel
theorem own_d20_14 : decode prog_58_method_3_code 14 = .ok (.ladd, 1) := by decide +kernel
theorem own_d20_15 : decode prog_58_method_3_code 15 = .ok (.putfield 64, 3) := by decide +kernel
theorem own_d20_18 : decode prog_58_method_3_code 18 = .ok (.aload_n 0, 1) := by decide +kernel
theorem own_d20_19 : decode prog_58_method_3_code 19 = .ok (.getfield 38, 3) := by decide +kernel
theorem own_d20_22 : decode prog_58_method_3_code 22 = .ok (.iload_n 3, 1) := by decide +kernel
theorem own_d20_23 : decode prog_58_method_3_code 23 = .ok (.dup2, 1) := by decide +kernel
theorem own_d20_24 : decode prog_58_method_3_code 24 = .ok (.laload, 1) := by decide +kernel
theorem own_d20_25 : decode prog_58_method_3_code 25 = .ok (.lconst 1, 1) := by decide +kernel
theorem own_d20_26 : decode prog_58_method_3_code 26 = .ok (.ladd, 1) := by decide +kernel
theorem own_d20_27 : decode prog_58_method_3_code 27 = .ok (.lastore, 1) := by decide +kernel
theorem own_d20_28 : decode prog_58_method_3_code 28 = .ok (.return_, 1) := by decide +kernel
theorem own_d22_0 : decode method_3_code 0 = .ok (.lload_n 0, 1) := by decide +kernel
theorem own_d22_1 : decode method_3_code 1 = .ok (.lload_n 2, 1) := by decide +kernel
theorem own_d22_2 : decode method_3_code 2 = .ok (.lcmp, 1) := by decide +kernel
theorem own_d22_3 : decode method_3_code 3 = .ok (.ifCond .lt 26, 3) := by decide +kernel
theorem own_d22_29 : decode method_3_code 29 = .ok (.lconst 0, 1) := by decide +kernel
theorem own_d22_30 : decode method_3_code 30 = .ok (.lreturn, 1) := by decide +kernel
theorem own_d22_6 : decode method_3_code 6 = .ok (.lload_n 0, 1) := by decide +kernel
theorem own_d22_7 : decode method_3_code 7 = .ok (.lload 4, 2) := by decide +kernel
theorem own_d22_9 : decode method_3_code 9 = .ok (.lcmp, 1) := by decide +kernel
theorem own_d22_10 : decode method_3_code 10 = .ok (.ifCond .ge 19, 3) := by decide +kernel
theorem own_d22_13 : decode method_3_code 13 = .ok (.iload 6, 2) := by decide +kernel
theorem own_d22_15 : decode method_3_code 15 = .ok (.iload 7, 2) := by decide +kernel
theorem own_d22_17 : decode method_3_code 17 = .ok (.if_icmp .lt 12, 3) := by decide +kernel
theorem own_d22_20 : decode method_3_code 20 = .ok (.iload 6, 2) := by decide +kernel
theorem own_d22_22 : decode method_3_code 22 = .ok (.iload 8, 2) := by decide +kernel
theorem own_d22_24 : decode method_3_code 24 = .ok (.if_icmp .ge 5, 3) := by decide +kernel
theorem own_d22_27 : decode method_3_code 27 = .ok (.lconst 1, 1) := by decide +kernel
theorem own_d22_28 : decode method_3_code 28 = .ok (.lreturn, 1) := by decide +kernel
theorem own_pn_22 : plainName "com/example/loadvane/loadvane/simulation/TallySentToGroupPinLaw" = true := by first | (simp [plainName, overriddenIn]; done) | decide +kernel
theorem own_pd18 : parseMethodDescriptor "(Ljava/lang/String;ILcom/example/loadvane/loadvane/simulation/Group$Service;JIIDJJJJJ)V" = some ⟨[(.object "java/lang/String"), .int, (.object "com/example/loadvane/loadvane/simulation/Group$Service"), .long, .int, .int, .double, .long, .long, .long, .long, .long], none⟩ := by decide +kernel
theorem own_pd19 : parseMethodDescriptor "(Ljava/lang/Object;)Z" = some ⟨[(.object "java/lang/Object")], some .boolean⟩ := by decide +kernel
theorem own_pd20 : parseMethodDescriptor "(Ljava/util/List;JJ)V" = some ⟨[(.object "java/util/List"), .long, .long], none⟩ := by decide +kernel
theorem own_pd21 : parseMethodDescriptor "(JI)V" = some ⟨[.long, .int], none⟩ := by decide +kernel
theorem own_pd22 : parseMethodDescriptor "(JJJIII)J" = some ⟨[.long, .long, .long, .int, .int, .int], some .long⟩ := by decide +kernel
theorem own_pd23 : parseMethodDescriptor "(I)J" = some ⟨[.int], some .long⟩ := by decide +kernel
set_option maxRecDepth 65536 in
set_option maxHeartbeats 40000000 in
theorem own_acol (l : Launch) (Z : State) (a0 : Array Value) (hw : ∀ d ∈ tables_1, d.before a0 Z = true) (a : Addr) (h0 : Heap) (n0 : Nat) (Z0 : n0 ≤ h0.size)  :
    OCon l Z n0 (⟨"java/util/AbstractCollection", "<init>", "()V"⟩ : MethodName) jdk_22_method_1_code 1 none [] ({ frames := 1, cells := 0, slots := 0, locals := 12 } : Room) #[(.ref a)] h0 (ON fun h => h = h0) := by
  refine OCon.of (Ls := #[.val (.ref a)]) (plainFor_of_name own_pn_3) (fun m => own_entry m rfl) ?_
  intro p e s m below meth c K
  refine OGo.aloadN K (pc' := 1) own_d3_0 rfl rfl rfl ?_
  refine OGo.initO K (pc' := 4) (W := 0) (hw _ (List.mem_of_getElem? (i := 18) rfl)) (hw _ (List.mem_of_getElem? (i := 19) rfl)) (hw _ (List.mem_of_getElem? (i := 20) rfl)) own_d3_1 rfl rfl (by show 2 * 0 + _ ≤ _; exact Nat.le_of_eq rfl) (by decide) (by decide) ?_
  exact OGo.vret K own_d3_4 (by decide) (by decide) ⟨rfl, rfl⟩
set_option maxRecDepth 65536 in
set_option maxHeartbeats 40000000 in
theorem own_abl (l : Launch) (Z : State) (a0 : Array Value) (hw : ∀ d ∈ tables_1, d.before a0 Z = true) (a : Addr) (u : Value) (h0 : Heap) (n0 : Nat) (Z0 : n0 ≤ h0.size) (E : Exa Z h0 a "java/util/ArrayList") (F : Fld Z h0 a "java/util/AbstractList" "modCount" "I" u) (g_a : n0 ≤ a) :
    OCon l Z n0 (⟨"java/util/AbstractList", "<init>", "()V"⟩ : MethodName) jdk_39_method_1_code 1 none [] ({ frames := 2, cells := 0, slots := 0, locals := 24 } : Room) #[(.ref a)] h0 (ON fun h => ∃ sl v, Wr h0 h a sl v ∧ sl = RoadKit.slotOf Z "java/util/AbstractList" "modCount" "I" ∧ Fld Z h a "java/util/AbstractList" "modCount" "I" (.int 0)) := by
  refine OCon.of (Ls := #[.val (.ref a)]) (plainFor_of_name own_pn_2) (fun m => own_entry m rfl) ?_
  intro p e s m below meth c K
  refine OGo.aloadN K (pc' := 1) own_d2_0 rfl rfl rfl ?_
  refine OGo.callIN K (pc' := 4) (y := (⟨"java/util/AbstractCollection", "<init>", "()V"⟩ : MethodName)) (a := a) (W := 0) (cells' := 0) (slots' := 0) (argsL := []) (st := []) rfl (hw _ (List.mem_of_getElem? (i := 12) rfl)) (hw _ (List.mem_of_getElem? (i := 13) rfl)) (hw _ (List.mem_of_getElem? (i := 16) rfl)) (hw _ (List.mem_of_getElem? (i := 17) rfl)) (by decide) (own_acol l Z a0 hw a h0 n0 Z0) own_d2_1 rfl rfl (lenOf own_pd1 rfl) (by show 2 * 0 + _ ≤ _; exact Nat.le_of_eq rfl) (by decide) (by decide) rfl rfl (by decide) (by decide) ?_
  rintro h1 e1
  rw [e1]
  refine OGo.aloadN K (pc' := 5) own_d2_4 rfl rfl rfl ?_
  refine OGo.iconst K (pc' := 6) (z := 0) own_d2_5 rfl rfl ?_
  refine OGo.putF K (pc' := 9) (host := "") (Or.inl (hw _ (List.mem_of_getElem? (i := 21) rfl))) Via.refl F E (Or.inl (hw _ (List.mem_of_getElem? (i := 22) rfl))) (hw _ (List.mem_of_getElem? (i := 1) rfl)) (ty := .int) (by decide) rfl rfl g_a own_d2_6 rfl ?_
  intro h2 W2
  have Z2 : n0 ≤ h2.size := by rw [W2.size]; exact Z0
  have Fw_modCount_a_2 := F.same W2
  have E_2 := E.wr W2
  exact OGo.vret K own_d2_9 (by decide) (by decide) ⟨rfl, _, _, W2, rfl, Fw_modCount_a_2⟩
set_option maxRecDepth 65536 in
set_option maxHeartbeats 40000000 in
theorem own_al_init (l : Launch) (Z : State) (a0 : Array Value) (hw : ∀ d ∈ tables_1, d.before a0 Z = true) (a dd : Addr) (u1 u2 : Value) (h0 : Heap) (n0 : Nat) (Z0 : n0 ≤ h0.size) (E : Exa Z h0 a "java/util/ArrayList") (F1 : Fld Z h0 a "java/util/ArrayList" "elementData" "[Ljava/lang/Object;" u1) (F2 : Fld Z h0 a "java/util/ArrayList" "size" "I" (.int 0)) (F3 : Fld Z h0 a "java/util/AbstractList" "modCount" "I" u2) (g_a : n0 ≤ a) (Wd : OWd Z n0 h0 dd) :
    OCon l Z n0 (⟨"java/util/ArrayList", "<init>", "()V"⟩ : MethodName) jdk_38_method_2_code 1 none [] ({ frames := 3, cells := 0, slots := 0, locals := 36 } : Room) #[(.ref a)] h0 (ON fun h => OAL0 Z n0 h a dd ∧ Keep h0 h [a]) := by
  refine OCon.of (Ls := #[.val (.ref a)]) (plainFor_of_name own_pn_1) (fun m => own_entry m rfl) ?_
  intro p e s m below meth c K
  refine OGo.aloadN K (pc' := 1) own_d1_0 rfl rfl rfl ?_
  refine OGo.callIN K (pc' := 4) (y := (⟨"java/util/AbstractList", "<init>", "()V"⟩ : MethodName)) (a := a) (W := 0) (cells' := 0) (slots' := 0) (argsL := []) (st := []) rfl (hw _ (List.mem_of_getElem? (i := 6) rfl)) (hw _ (List.mem_of_getElem? (i := 7) rfl)) (hw _ (List.mem_of_getElem? (i := 10) rfl)) (hw _ (List.mem_of_getElem? (i := 11) rfl)) (by decide) (own_abl l Z a0 hw a _ h0 n0 Z0 E F3 g_a) own_d1_1 rfl rfl (lenOf own_pd1 rfl) (by show 2 * 0 + _ ≤ _; exact Nat.le_of_eq rfl) (by decide) (by decide) rfl rfl (by decide) (by decide) ?_
  rintro h1 ⟨sl1, v1, W1, es1, Fm1⟩
  subst es1
  have Z1 : n0 ≤ h1.size := by rw [W1.size]; exact Z0
  have E_1 := E.wr W1
  have F1_1 := F1.other W1 (Or.inr (slot_ne (Or.inl (hw _ (List.mem_of_getElem? (i := 25) rfl))) (Or.inl (hw _ (List.mem_of_getElem? (i := 22) rfl))) (by decide) (t := (.array (.object "java/lang/Object"))) (t' := .int) (by decide) (by decide)))
  have F2_1 := F2.other W1 (Or.inr (slot_ne (Or.inl (hw _ (List.mem_of_getElem? (i := 70) rfl))) (Or.inl (hw _ (List.mem_of_getElem? (i := 22) rfl))) (by decide) (t := .int) (t' := .int) (by decide) (by decide)))
  have Wd_1 := OWd.wr Wd W1 g_a
  have Kp1 : Keep h0 h1 [a] := (Keep.refl h0 [a]).wr W1 (Or.inl (List.mem_of_getElem? (i := 0) rfl))
  refine OGo.aloadN K (pc' := 5) own_d1_4 rfl rfl rfl ?_
  refine OGo.getS K (pc' := 8) (host := "") (Or.inl (hw _ (List.mem_of_getElem? (i := 23) rfl))) Via.refl Wd_1.1.sta own_d1_5 rfl ?_
  refine OGo.putF K (pc' := 11) (host := "") (Or.inl (hw _ (List.mem_of_getElem? (i := 24) rfl))) Via.refl F1_1 E_1 (Or.inl (hw _ (List.mem_of_getElem? (i := 25) rfl))) (hw _ (List.mem_of_getElem? (i := 1) rfl)) (ty := (.array (.object "java/lang/Object"))) (by decide) rfl rfl g_a own_d1_8 rfl ?_
  intro h2 W2
  have Z2 : n0 ≤ h2.size := by rw [W2.size]; exact Z1
  have Fw_elementData_a_2 := F1_1.same W2
  have E_2 := E_1.wr W2
  have F2_2 := F2_1.other W2 (Or.inr (slot_ne (Or.inl (hw _ (List.mem_of_getElem? (i := 70) rfl))) (Or.inl (hw _ (List.mem_of_getElem? (i := 25) rfl))) (by decide) (t := .int) (t' := (.array (.object "java/lang/Object"))) (by decide) (by decide)))
  have Fm1_2 := Fm1.other W2 (Or.inr (slot_ne (Or.inl (hw _ (List.mem_of_getElem? (i := 22) rfl))) (Or.inl (hw _ (List.mem_of_getElem? (i := 25) rfl))) (by decide) (t := .int) (t' := (.array (.object "java/lang/Object"))) (by decide) (by decide)))
  have Wd_2 := OWd.wr Wd_1 W2 g_a
  have Kp2 : Keep h0 h2 [a] := Kp1.wr W2 (Or.inl (List.mem_of_getElem? (i := 0) rfl))
  exact OGo.vret K own_d1_11 (by decide) (by decide) ⟨rfl, ⟨E_2, F2_2, ⟨_, Fm1_2⟩, Fw_elementData_a_2, g_a⟩, Kp2⟩
set_option maxRecDepth 65536 in
set_option maxHeartbeats 40000000 in
theorem own_maxI (l : Launch) (Z : State) (a0 : Array Value) (hw : ∀ d ∈ tables_1, d.before a0 Z = true) (u v : Int32) (h0 : Heap) (n0 : Nat) (Z0 : n0 ≤ h0.size)  :
    OCon l Z n0 (⟨"java/lang/Math", "max", "(II)I"⟩ : MethodName) jdk_29_method_65_code 2 (some .int) [] ({ frames := 0, cells := 0, slots := 0, locals := 0 } : Room) #[(.int u), (.int v)] h0 (OV fun w h => w = .int (if u < v then v else u) ∧ h = h0) := by
  refine OCon.of (Ls := #[.val (.int u), .val (.int v)]) (Jvm.Free.JP.mathPlain rfl (by decide +kernel)) (fun m => own_entry m rfl) ?_
  intro p e s m below meth c K
  refine OGo.iloadN K (pc' := 1) own_d11_0 rfl rfl ?_
  refine OGo.iloadN K (pc' := 2) own_d11_1 rfl rfl ?_
  refine OGo.icmpLt K (pc' := 5) (pcY := 9) own_d11_2 rfl (by decide) rfl (fun hc => ?_) (fun hc => ?_)
  · skip
    refine OGo.iloadN K (pc' := 10) own_d11_9 rfl rfl ?_
    exact OGo.iret K own_d11_10 (by decide) (by decide) ⟨_, rfl, by rw [if_pos hc], rfl⟩
  · skip
    refine OGo.iloadN K (pc' := 6) own_d11_5 rfl rfl ?_
    refine OGo.goto K (pc' := 10) own_d11_6 (by decide) rfl ?_
    exact OGo.iret K own_d11_10 (by decide) (by decide) ⟨_, rfl, by rw [if_neg hc], rfl⟩
set_option maxRecDepth 65536 in
set_option maxHeartbeats 40000000 in
theorem own_al_grow1 (l : Launch) (Z : State) (a0 : Array Value) (hw : ∀ d ∈ tables_1, d.before a0 Z = true) (a dd : Addr) (h0 : Heap) (n0 : Nat) (Z0 : n0 ≤ h0.size) (L : OAL0 Z n0 h0 a dd) (Wd : OWd Z n0 h0 dd) :
    OCon l Z n0 (⟨"java/util/ArrayList", "grow", "(I)[Ljava/lang/Object;"⟩ : MethodName) jdk_38_method_6_code 4 (some (.array (.object "java/lang/Object"))) [] ({ frames := 1, cells := 1, slots := 10, locals := 14 } : Room) #[(.ref a), (.int 1)] h0 (OV fun w h => ∃ x, w = .ref x ∧ OAL1 Z n0 h a x [] ∧ Keep h0 h [a] ∧ h0.size ≤ x) := by
  refine OCon.of (Ls := #[.val (.ref a), .val (.int 1), .unset, .unset]) (plainFor_of_name own_pn_1) (fun m => own_entry m rfl) ?_
  intro p e s m below meth c K
  obtain ⟨E, F1, ⟨mc, F2⟩, F3, g_a⟩ := L
  obtain ⟨Sd, ⟨kd, Vd⟩, ld⟩ := Wd
  refine OGo.aloadN K (pc' := 1) own_d10_0 rfl rfl rfl ?_
  refine OGo.getF K (pc' := 4) (host := "") (Or.inl (hw _ (List.mem_of_getElem? (i := 24) rfl))) Via.refl F3 own_d10_1 rfl ?_
  refine OGo.alen K (pc' := 5) Vd own_d10_4 rfl ?_
  refine OGo.istoreN K (pc' := 6) (Ls' := #[.val (.ref a), .val (.int (1 : Int32)), .val (.int (0 : Int32)), .unset]) own_d10_5 rfl rfl ?_
  refine OGo.iloadN K (pc' := 7) own_d10_6 rfl rfl ?_
  refine OGo.ifGt K (pc' := 10) (pcY := 20) own_d10_7 rfl (by decide) rfl (fun hc7 => absurd hc7 (by decide : ¬ (0 : Int32) < (0 : Int32))) (fun hc7 => ?_)
  refine OGo.aloadN K (pc' := 11) own_d10_10 rfl rfl rfl ?_
  refine OGo.getF K (pc' := 14) (host := "") (Or.inl (hw _ (List.mem_of_getElem? (i := 24) rfl))) Via.refl F3 own_d10_11 rfl ?_
  refine OGo.getS K (pc' := 17) (host := "") (Or.inl (hw _ (List.mem_of_getElem? (i := 23) rfl))) Via.refl Sd.sta own_d10_14 rfl ?_
  refine OGo.acmp K (pc' := 45) (same := true) own_d10_17 rfl rfl (decide_eq_true rfl) (by decide) rfl ?_
  refine OGo.aloadN K (pc' := 46) own_d10_45 rfl rfl rfl ?_
  refine OGo.bipush K (pc' := 48) (z := 10) own_d10_46 rfl rfl ?_
  refine OGo.iloadN K (pc' := 49) own_d10_48 rfl rfl ?_
  refine OGo.callSV K (pc' := 52) (y := (⟨"java/lang/Math", "max", "(II)I"⟩ : MethodName)) (W := 1) (cells' := 0) (slots' := 0) (argsL := [(.int (10 : Int32)), (.int (1 : Int32))]) (st := [(.ref a)]) (hw _ (List.mem_of_getElem? (i := 86) rfl)) (hw _ (List.mem_of_getElem? (i := 87) rfl)) (hw _ (List.mem_of_getElem? (i := 88) rfl)) (hw _ (List.mem_of_getElem? (i := 89) rfl)) (by decide) (own_maxI l Z a0 hw 10 1 h0 n0 Z0) own_d10_49 rfl rfl (lenOf own_pd4 rfl) (by show 2 * 0 + _ ≤ _; exact Nat.le_of_eq rfl) (by decide) (by decide) rfl rfl (by decide) (by decide) ?_
  rintro _ h1 ⟨rfl, e1⟩
  rw [e1]
  show OGo p l e _ s m _ below meth c n0 _ h0 0 0 52 #[.val (.ref a), .val (.int (1 : Int32)), .val (.int (0 : Int32)), .unset] [(.int (if (10 : Int32) < (1 : Int32) then (1 : Int32) else (10 : Int32))), (.ref a)]
  rw [show (if (10 : Int32) < (1 : Int32) then (1 : Int32) else (10 : Int32)) = 10 from by decide]
  refine OGo.newR K (pc' := 55) (cap := 10) (cells' := 1) (slots' := 10) (hw _ (List.mem_of_getElem? (i := 90) rfl)) (hw _ (List.mem_of_getElem? (i := 91) rfl)) own_d10_52 rfl (by decide) (by decide) (by decide) rfl rfl (by decide) (by decide) ?_
  intro h2 x k_x gq2 E2 V_x O_x
  have ne_a_x : a ≠ x := Nat.ne_of_lt (Nat.lt_of_lt_of_le F3.lt (Nat.le_of_eq gq2.symm))
  have g_x : n0 ≤ x := Nat.le_trans Z0 (Nat.le_of_eq gq2.symm)
  have sz_x : h0.size ≤ x := Nat.le_trans (Keep.refl h0 [a]).1 (Nat.le_of_eq gq2.symm)
  have Z2 : n0 ≤ h2.size := Nat.le_trans Z0 E2.1
  have Kp2 : Keep h0 h2 [a] := (Keep.refl h0 [a]).ext E2
  have F3_2 := F3.ext E2
  have F1_2 := F1.ext E2
  have E_2 := E.ext E2
  have F2_2 := F2.ext E2
  refine OGo.dupX1 K (pc' := 56) own_d10_55 rfl rfl rfl ?_
  refine OGo.putF K (pc' := 59) (host := "") (Or.inl (hw _ (List.mem_of_getElem? (i := 24) rfl))) Via.refl F3_2 E_2 (Or.inl (hw _ (List.mem_of_getElem? (i := 25) rfl))) (hw _ (List.mem_of_getElem? (i := 1) rfl)) (ty := (.array (.object "java/lang/Object"))) (by decide) rfl rfl g_a own_d10_56 rfl ?_
  intro h3 W3
  have Z3 : n0 ≤ h3.size := by rw [W3.size]; exact Z2
  have Fw_elementData_a_3 := F3_2.same W3
  have F1_3 := F1_2.other W3 (Or.inr (slot_ne (Or.inl (hw _ (List.mem_of_getElem? (i := 70) rfl))) (Or.inl (hw _ (List.mem_of_getElem? (i := 25) rfl))) (by decide) (t := .int) (t' := (.array (.object "java/lang/Object"))) (by decide) (by decide)))
  have E_3 := E_2.wr W3
  have F2_3 := F2_2.other W3 (Or.inr (slot_ne (Or.inl (hw _ (List.mem_of_getElem? (i := 22) rfl))) (Or.inl (hw _ (List.mem_of_getElem? (i := 25) rfl))) (by decide) (t := .int) (t' := (.array (.object "java/lang/Object"))) (by decide) (by decide)))
  have V_x_3 := V_x.other W3 (Ne.symm ne_a_x)
  have Kp3 : Keep h0 h3 [a] := Kp2.wr W3 (Or.inl (List.mem_of_getElem? (i := 0) rfl))
  exact OGo.aret K own_d10_59 rfl rfl (by decide) (by decide) ⟨_, rfl, x, rfl, ⟨E_3, F1_3, ⟨_, F2_3⟩, Fw_elementData_a_3, ⟨_, _, V_x_3.pad (pad_rep [] _ 10), rfl, O_x, fun i hi => absurd hi (Nat.not_lt_zero i)⟩, ne_a_x, g_a, g_x⟩, Kp3, sz_x⟩
set_option maxRecDepth 65536 in
set_option maxHeartbeats 40000000 in
theorem own_al_grow0 (l : Launch) (Z : State) (a0 : Array Value) (hw : ∀ d ∈ tables_1, d.before a0 Z = true) (a dd : Addr) (h0 : Heap) (n0 : Nat) (Z0 : n0 ≤ h0.size) (L : OAL0 Z n0 h0 a dd) (Wd : OWd Z n0 h0 dd) :
    OCon l Z n0 (⟨"java/util/ArrayList", "grow", "()[Ljava/lang/Object;"⟩ : MethodName) jdk_38_method_7_code 1 (some (.array (.object "java/lang/Object"))) [] ({ frames := 2, cells := 1, slots := 10, locals := 29 } : Room) #[(.ref a)] h0 (OV fun w h => ∃ x, w = .ref x ∧ OAL1 Z n0 h a x [] ∧ Keep h0 h [a] ∧ h0.size ≤ x) := by
  refine OCon.of (Ls := #[.val (.ref a)]) (plainFor_of_name own_pn_1) (fun m => own_entry m rfl) ?_
  intro p e s m below meth c K
  refine OGo.aloadN K (pc' := 1) own_d9_0 rfl rfl rfl ?_
  refine OGo.aloadN K (pc' := 2) own_d9_1 rfl rfl rfl ?_
  refine OGo.getF K (pc' := 5) (host := "") (Or.inl (hw _ (List.mem_of_getElem? (i := 69) rfl))) Via.refl L.2.1 own_d9_2 rfl ?_
  refine OGo.iconst K (pc' := 6) (z := 1) own_d9_5 rfl rfl ?_
  refine OGo.iadd K (pc' := 7) own_d9_6 rfl ?_
  refine OGo.callPV K (pc' := 10) (y := (⟨"java/util/ArrayList", "grow", "(I)[Ljava/lang/Object;"⟩ : MethodName)) (a := a) (W := 0) (cells' := 1) (slots' := 10) (argsL := [(.int ((0 : Int32) + (1 : Int32)))]) (st := []) L.1 (hw _ (List.mem_of_getElem? (i := 81) rfl)) (hw _ (List.mem_of_getElem? (i := 82) rfl)) (hw _ (List.mem_of_getElem? (i := 84) rfl)) (hw _ (List.mem_of_getElem? (i := 83) rfl)) (hw _ (List.mem_of_getElem? (i := 2) rfl)) (hw _ (List.mem_of_getElem? (i := 85) rfl)) (by decide) (own_al_grow1 l Z a0 hw a dd h0 n0 Z0 L Wd) own_d9_7 rfl rfl (lenOf own_pd5 rfl) (by show 2 * 0 + _ ≤ _; exact Nat.le_of_eq rfl) (by decide) (by decide) rfl rfl (by decide) (by decide) ?_
  rintro _ h1 ⟨x, rfl, L1, K1, s1⟩
  have Z1 : n0 ≤ h1.size := Nat.le_trans Z0 K1.1
  show OGo p l e _ s m _ below meth c n0 _ h1 1 10 10 #[.val (.ref a)] [(.ref x)]
  exact OGo.aret K own_d9_10 rfl rfl (by decide) (by decide) ⟨_, rfl, x, rfl, L1, K1, s1⟩
set_option maxRecDepth 65536 in
set_option maxHeartbeats 40000000 in
theorem own_al_add3_1 (l : Launch) (Z : State) (a0 : Array Value) (hw : ∀ d ∈ tables_1, d.before a0 Z = true) (a y x : Addr) (vs : List Addr) (h0 : Heap) (n0 : Nat) (Z0 : n0 ≤ h0.size) (L : OAL1 Z n0 h0 a x vs) (hn : vs.length < 10) (I' : Ins Z h0 y "java/lang/Object" true) :
    OCon l Z n0 (⟨"java/util/ArrayList", "add", "(Ljava/lang/Object;[Ljava/lang/Object;I)V"⟩ : MethodName) jdk_38_method_24_code 4 none [] ({ frames := 0, cells := 0, slots := 0, locals := 0 } : Room) #[(.ref a), (.ref y), (.ref x), (.int (Int32.ofNat vs.length))] h0 (ON fun h => OAL1 Z n0 h a x (vs ++ [y]) ∧ Keep h0 h [a, x]) := by
  refine OCon.of (Ls := #[.val (.ref a), .val (.ref y), .val (.ref x), .val (.int (Int32.ofNat vs.length))]) (plainFor_of_name own_pn_1) (fun m => own_entry m rfl) ?_
  intro p e s m below meth c K
  obtain ⟨E, F1, ⟨mc, F2⟩, F3, ⟨k, us, Vx, lx, Ox, Hx⟩, ne1, g_a, g_x⟩ := L
  obtain ⟨i1, i2, i3, i4⟩ := own_i10 hn
  refine OGo.iloadN K (pc' := 1) own_d8_0 rfl rfl ?_
  refine OGo.aloadN K (pc' := 2) own_d8_1 rfl rfl rfl ?_
  refine OGo.alen K (pc' := 3) Vx own_d8_2 rfl ?_
  refine OGo.icmpNe K (pc' := 6) (pcY := 11) own_d8_3 rfl (by decide) rfl (fun hc3 => ?_) (fun hc3 => absurd hc3 (i4 : ¬ (Int32.ofNat vs.length) = (10 : Int32)))
  refine OGo.aloadN K (pc' := 12) own_d8_11 rfl rfl rfl ?_
  refine OGo.iloadN K (pc' := 13) own_d8_12 rfl rfl ?_
  refine OGo.aloadN K (pc' := 14) own_d8_13 rfl rfl rfl ?_
  refine OGo.aastore K (pc' := 15) (i := vs.length) Vx rfl rfl (own_sto Vx Ox (I')) ⟨i1, i2⟩ i3 (by rw [lx]; exact hn) g_x own_d8_14 rfl ?_
  intro h1 W1 Vx_1
  have Z1 : n0 ≤ h1.size := by rw [W1.size]; exact Z0
  have F3_1 := F3.other W1 (Or.inl ne1)
  have F1_1 := F1.other W1 (Or.inl ne1)
  have E_1 := E.wr W1
  have F2_1 := F2.other W1 (Or.inl ne1)
  have Kp1 : Keep h0 h1 [a, x] := (Keep.refl h0 [a, x]).wr W1 (Or.inl (List.mem_of_getElem? (i := 1) rfl))
  refine OGo.aloadN K (pc' := 16) own_d8_15 rfl rfl rfl ?_
  refine OGo.iloadN K (pc' := 17) own_d8_16 rfl rfl ?_
  refine OGo.iconst K (pc' := 18) (z := 1) own_d8_17 rfl rfl ?_
  refine OGo.iadd K (pc' := 19) own_d8_18 rfl ?_
  refine OGo.putF K (pc' := 22) (host := "") (Or.inl (hw _ (List.mem_of_getElem? (i := 69) rfl))) Via.refl F1_1 E_1 (Or.inl (hw _ (List.mem_of_getElem? (i := 70) rfl))) (hw _ (List.mem_of_getElem? (i := 1) rfl)) (ty := .int) (by decide) rfl rfl g_a own_d8_19 rfl ?_
  intro h2 W2
  have Z2 : n0 ≤ h2.size := by rw [W2.size]; exact Z1
  have Fw_size_a_2 := F1_1.same W2
  have F3_2 := F3_1.other W2 (Or.inr (slot_ne (Or.inl (hw _ (List.mem_of_getElem? (i := 25) rfl))) (Or.inl (hw _ (List.mem_of_getElem? (i := 70) rfl))) (by decide) (t := (.array (.object "java/lang/Object"))) (t' := .int) (by decide) (by decide)))
  have Vx_2 := Vx_1.other W2 (Ne.symm ne1)
  have E_2 := E_1.wr W2
  have F2_2 := F2_1.other W2 (Or.inr (slot_ne (Or.inl (hw _ (List.mem_of_getElem? (i := 22) rfl))) (Or.inl (hw _ (List.mem_of_getElem? (i := 70) rfl))) (by decide) (t := .int) (t' := .int) (by decide) (by decide)))
  have Kp2 : Keep h0 h2 [a, x] := Kp1.wr W2 (Or.inl (List.mem_of_getElem? (i := 0) rfl))
  exact OGo.vret K own_d8_22 (by decide) (by decide) ⟨rfl, ⟨E_2, (by first | (rw [List.length_append, show vs.length + [y].length = vs.length + 1 from rfl, inc_ofNat]; exact Fw_size_a_2) | exact Fw_size_a_2), ⟨_, F2_2⟩, F3_2, ⟨_, _, Vx_2, by rw [List.length_set]; exact lx, Ox, own_al_push lx hn Hx⟩, ne1, g_a, g_x⟩, Kp2⟩
set_option maxRecDepth 65536 in
set_option maxHeartbeats 40000000 in
theorem own_al_add3_0 (l : Launch) (Z : State) (a0 : Array Value) (hw : ∀ d ∈ tables_1, d.before a0 Z = true) (a y dd : Addr) (h0 : Heap) (n0 : Nat) (Z0 : n0 ≤ h0.size) (L : OAL0 Z n0 h0 a dd) (Wd : OWd Z n0 h0 dd) (I0 : Ins Z h0 y "java/lang/Object" true) :
    OCon l Z n0 (⟨"java/util/ArrayList", "add", "(Ljava/lang/Object;[Ljava/lang/Object;I)V"⟩ : MethodName) jdk_38_method_24_code 4 none [] ({ frames := 3, cells := 1, slots := 10, locals := 41 } : Room) #[(.ref a), (.ref y), (.ref dd), (.int 0)] h0 (ON fun h => ∃ x, OAL1 Z n0 h a x [y] ∧ Keep h0 h [a] ∧ h0.size ≤ x) := by
  refine OCon.of (Ls := #[.val (.ref a), .val (.ref y), .val (.ref dd), .val (.int 0)]) (plainFor_of_name own_pn_1) (fun m => own_entry m rfl) ?_
  intro p e s m below meth c K
  obtain ⟨kd, Vd⟩ := Wd.2.1
  refine OGo.iloadN K (pc' := 1) own_d8_0 rfl rfl ?_
  refine OGo.aloadN K (pc' := 2) own_d8_1 rfl rfl rfl ?_
  refine OGo.alen K (pc' := 3) Vd own_d8_2 rfl ?_
  refine OGo.icmpNe K (pc' := 6) (pcY := 11) own_d8_3 rfl (by decide) rfl (fun hc3 => absurd (rfl : (0 : Int32) = (0 : Int32)) hc3) (fun hc3 => ?_)
  refine OGo.aloadN K (pc' := 7) own_d8_6 rfl rfl rfl ?_
  refine OGo.callPV K (pc' := 10) (y := (⟨"java/util/ArrayList", "grow", "()[Ljava/lang/Object;"⟩ : MethodName)) (a := a) (W := 0) (cells' := 1) (slots' := 10) (argsL := []) (st := []) L.1 (hw _ (List.mem_of_getElem? (i := 76) rfl)) (hw _ (List.mem_of_getElem? (i := 77) rfl)) (hw _ (List.mem_of_getElem? (i := 79) rfl)) (hw _ (List.mem_of_getElem? (i := 78) rfl)) (hw _ (List.mem_of_getElem? (i := 2) rfl)) (hw _ (List.mem_of_getElem? (i := 80) rfl)) (by decide) (own_al_grow0 l Z a0 hw a dd h0 n0 Z0 L Wd) own_d8_7 rfl rfl (lenOf own_pd6 rfl) (by show 2 * 0 + _ ≤ _; exact Nat.le_of_eq rfl) (by decide) (by decide) rfl rfl (by decide) (by decide) ?_
  rintro _ h1 ⟨x, rfl, L1, K1, s1⟩
  have Z1 : n0 ≤ h1.size := Nat.le_trans Z0 K1.1
  show OGo p l e _ s m _ below meth c n0 _ h1 1 10 10 #[.val (.ref a), .val (.ref y), .val (.ref dd), .val (.int (0 : Int32))] [(.ref x)]
  obtain ⟨E, F1, ⟨mc, F2⟩, F3, ⟨k, us, Vx, lx, Ox, Hx⟩, ne1, g_a, g_x⟩ := L1
  have hn : ([] : List Addr).length < 10 := by decide
  obtain ⟨i1, i2, i3, i4⟩ := own_i10 hn
  have I' := own_ins_keep I0 K1
  have sz_x := s1
  refine OGo.astoreN K (pc' := 11) (Ls' := #[.val (.ref a), .val (.ref y), .val (.ref x), .val (.int (0 : Int32))]) own_d8_10 rfl rfl rfl ?_
  show OGo p l e _ s m _ below meth c n0 _ h1 1 10 11 #[.val (.ref a), .val (.ref y), .val (.ref x), .val (.int (Int32.ofNat ([] : List Addr).length))] []
  refine OGo.aloadN K (pc' := 12) own_d8_11 rfl rfl rfl ?_
  refine OGo.iloadN K (pc' := 13) own_d8_12 rfl rfl ?_
  refine OGo.aloadN K (pc' := 14) own_d8_13 rfl rfl rfl ?_
  refine OGo.aastore K (pc' := 15) (i := ([] : List Addr).length) Vx rfl rfl (own_sto Vx Ox (I')) ⟨i1, i2⟩ i3 (by rw [lx]; exact hn) g_x own_d8_14 rfl ?_
  intro h2 W2 Vx_2
  have Z2 : n0 ≤ h2.size := by rw [W2.size]; exact Z1
  have F3_2 := F3.other W2 (Or.inl ne1)
  have F1_2 := F1.other W2 (Or.inl ne1)
  have E_2 := E.wr W2
  have F2_2 := F2.other W2 (Or.inl ne1)
  have Kp2 : Keep h0 h2 [a] := K1.wr W2 (Or.inr sz_x)
  refine OGo.aloadN K (pc' := 16) own_d8_15 rfl rfl rfl ?_
  refine OGo.iloadN K (pc' := 17) own_d8_16 rfl rfl ?_
  refine OGo.iconst K (pc' := 18) (z := 1) own_d8_17 rfl rfl ?_
  refine OGo.iadd K (pc' := 19) own_d8_18 rfl ?_
  refine OGo.putF K (pc' := 22) (host := "") (Or.inl (hw _ (List.mem_of_getElem? (i := 69) rfl))) Via.refl F1_2 E_2 (Or.inl (hw _ (List.mem_of_getElem? (i := 70) rfl))) (hw _ (List.mem_of_getElem? (i := 1) rfl)) (ty := .int) (by decide) rfl rfl g_a own_d8_19 rfl ?_
  intro h3 W3
  have Z3 : n0 ≤ h3.size := by rw [W3.size]; exact Z2
  have Fw_size_a_3 := F1_2.same W3
  have F3_3 := F3_2.other W3 (Or.inr (slot_ne (Or.inl (hw _ (List.mem_of_getElem? (i := 25) rfl))) (Or.inl (hw _ (List.mem_of_getElem? (i := 70) rfl))) (by decide) (t := (.array (.object "java/lang/Object"))) (t' := .int) (by decide) (by decide)))
  have Vx_3 := Vx_2.other W3 (Ne.symm ne1)
  have E_3 := E_2.wr W3
  have F2_3 := F2_2.other W3 (Or.inr (slot_ne (Or.inl (hw _ (List.mem_of_getElem? (i := 22) rfl))) (Or.inl (hw _ (List.mem_of_getElem? (i := 70) rfl))) (by decide) (t := .int) (t' := .int) (by decide) (by decide)))
  have Kp3 : Keep h0 h3 [a] := Kp2.wr W3 (Or.inl (List.mem_of_getElem? (i := 0) rfl))
  exact OGo.vret K own_d8_22 (by decide) (by decide) ⟨rfl, x, ⟨E_3, (by first | (rw [List.length_append, show ([] : List Addr).length + [y].length = ([] : List Addr).length + 1 from rfl, inc_ofNat]; exact Fw_size_a_3) | exact Fw_size_a_3), ⟨_, F2_3⟩, F3_3, ⟨_, _, Vx_3, by rw [List.length_set]; exact lx, Ox, own_al_push lx hn Hx⟩, ne1, g_a, g_x⟩, Kp3, sz_x⟩
set_option maxRecDepth 65536 in
set_option maxHeartbeats 40000000 in
theorem own_al_add0 (l : Launch) (Z : State) (a0 : Array Value) (hw : ∀ d ∈ tables_1, d.before a0 Z = true) (a y dd : Addr) (h0 : Heap) (n0 : Nat) (Z0 : n0 ≤ h0.size) (L : OAL0 Z n0 h0 a dd) (Wd : OWd Z n0 h0 dd) (I0 : Ins Z h0 y "java/lang/Object" true) :
    OCon l Z n0 (⟨"java/util/ArrayList", "add", "(Ljava/lang/Object;)Z"⟩ : MethodName) jdk_38_method_25_code 2 (some .boolean) [] ({ frames := 4, cells := 1, slots := 10, locals := 56 } : Room) #[(.ref a), (.ref y)] h0 (OV fun w h => w = .int 1 ∧ ∃ x, OAL1 Z n0 h a x [y] ∧ Keep h0 h [a] ∧ h0.size ≤ x) := by
  refine OCon.of (Ls := #[.val (.ref a), .val (.ref y)]) (plainFor_of_name own_pn_1) (fun m => own_entry m rfl) ?_
  intro p e s m below meth c K
  obtain ⟨E, F1, ⟨mc, F2⟩, F3, g_a⟩ := L
  refine OGo.aloadN K (pc' := 1) own_d7_0 rfl rfl rfl ?_
  refine OGo.dup K (pc' := 2) own_d7_1 rfl rfl ?_
  refine OGo.getF K (pc' := 5) (host := "") (Or.inl (hw _ (List.mem_of_getElem? (i := 67) rfl))) (Via.of (hw _ (List.mem_of_getElem? (i := 68) rfl))) F2 own_d7_2 rfl ?_
  refine OGo.iconst K (pc' := 6) (z := 1) own_d7_5 rfl rfl ?_
  refine OGo.iadd K (pc' := 7) own_d7_6 rfl ?_
  refine OGo.putF K (pc' := 10) (host := "") (Or.inl (hw _ (List.mem_of_getElem? (i := 67) rfl))) (Via.of (hw _ (List.mem_of_getElem? (i := 68) rfl))) F2 E (Or.inl (hw _ (List.mem_of_getElem? (i := 22) rfl))) (hw _ (List.mem_of_getElem? (i := 1) rfl)) (ty := .int) (by decide) rfl rfl g_a own_d7_7 rfl ?_
  intro h1 W1
  have Z1 : n0 ≤ h1.size := by rw [W1.size]; exact Z0
  have Fw_modCount_a_1 := F2.same W1
  have F3_1 := F3.other W1 (Or.inr (slot_ne (Or.inl (hw _ (List.mem_of_getElem? (i := 25) rfl))) (Or.inl (hw _ (List.mem_of_getElem? (i := 22) rfl))) (by decide) (t := (.array (.object "java/lang/Object"))) (t' := .int) (by decide) (by decide)))
  have F1_1 := F1.other W1 (Or.inr (slot_ne (Or.inl (hw _ (List.mem_of_getElem? (i := 70) rfl))) (Or.inl (hw _ (List.mem_of_getElem? (i := 22) rfl))) (by decide) (t := .int) (t' := .int) (by decide) (by decide)))
  have E_1 := E.wr W1
  have Wd_1 := OWd.wr Wd W1 g_a
  have Kp1 : Keep h0 h1 [a] := (Keep.refl h0 [a]).wr W1 (Or.inl (List.mem_of_getElem? (i := 0) rfl))
  have L' : OAL0 Z n0 h1 a dd := ⟨E_1, F1_1, ⟨_, Fw_modCount_a_1⟩, F3_1, g_a⟩
  refine OGo.aloadN K (pc' := 11) own_d7_10 rfl rfl rfl ?_
  refine OGo.aloadN K (pc' := 12) own_d7_11 rfl rfl rfl ?_
  refine OGo.aloadN K (pc' := 13) own_d7_12 rfl rfl rfl ?_
  refine OGo.getF K (pc' := 16) (host := "") (Or.inl (hw _ (List.mem_of_getElem? (i := 24) rfl))) Via.refl F3_1 own_d7_13 rfl ?_
  refine OGo.aloadN K (pc' := 17) own_d7_16 rfl rfl rfl ?_
  refine OGo.getF K (pc' := 20) (host := "") (Or.inl (hw _ (List.mem_of_getElem? (i := 69) rfl))) Via.refl F1_1 own_d7_17 rfl ?_
  refine OGo.callPN K (pc' := 23) (y := (⟨"java/util/ArrayList", "add", "(Ljava/lang/Object;[Ljava/lang/Object;I)V"⟩ : MethodName)) (a := a) (W := 0) (cells' := 1) (slots' := 10) (argsL := [(.ref y), (.ref dd), (.int (0 : Int32))]) (st := []) E_1 (hw _ (List.mem_of_getElem? (i := 71) rfl)) (hw _ (List.mem_of_getElem? (i := 72) rfl)) (hw _ (List.mem_of_getElem? (i := 74) rfl)) (hw _ (List.mem_of_getElem? (i := 73) rfl)) (hw _ (List.mem_of_getElem? (i := 2) rfl)) (hw _ (List.mem_of_getElem? (i := 75) rfl)) (by decide) (own_al_add3_0 l Z a0 hw a y dd h1 n0 Z1 L' Wd_1 (own_ins_keep I0 Kp1)) own_d7_20 rfl rfl (lenOf own_pd7 rfl) (by show 2 * 0 + _ ≤ _; exact Nat.le_of_eq rfl) (by decide) (by decide) rfl rfl (by decide) (by decide) ?_
  rintro h2 ⟨x, L2, K2, s2⟩
  have Z2 : n0 ≤ h2.size := Nat.le_trans Z1 K2.1
  have Kp2 : Keep h0 h2 [a] := Kp1.trans K2 (allS (Or.inl (List.mem_of_getElem? (i := 0) rfl)) all0)
  refine OGo.iconst K (pc' := 24) (z := 1) own_d7_23 rfl rfl ?_
  exact OGo.ret K own_d7_24 rfl (Or.inl ⟨rfl, by simp, _, rfl⟩) (by decide) (by decide) ⟨_, rfl, rfl, x, L2, Kp2, Nat.le_trans Kp1.1 s2⟩
set_option maxRecDepth 65536 in
set_option maxHeartbeats 40000000 in
theorem own_al_add1 (l : Launch) (Z : State) (a0 : Array Value) (hw : ∀ d ∈ tables_1, d.before a0 Z = true) (a y x : Addr) (vs : List Addr) (h0 : Heap) (n0 : Nat) (Z0 : n0 ≤ h0.size) (L : OAL1 Z n0 h0 a x vs) (hn : vs.length < 10) (I0 : Ins Z h0 y "java/lang/Object" true) :
    OCon l Z n0 (⟨"java/util/ArrayList", "add", "(Ljava/lang/Object;)Z"⟩ : MethodName) jdk_38_method_25_code 2 (some .boolean) [] ({ frames := 1, cells := 0, slots := 0, locals := 15 } : Room) #[(.ref a), (.ref y)] h0 (OV fun w h => w = .int 1 ∧ OAL1 Z n0 h a x (vs ++ [y]) ∧ Keep h0 h [a, x]) := by
  refine OCon.of (Ls := #[.val (.ref a), .val (.ref y)]) (plainFor_of_name own_pn_1) (fun m => own_entry m rfl) ?_
  intro p e s m below meth c K
  obtain ⟨E, F1, ⟨mc, F2⟩, F3, ⟨k, us, Vx, lx, Ox, Hx⟩, ne1, g_a, g_x⟩ := L
  refine OGo.aloadN K (pc' := 1) own_d7_0 rfl rfl rfl ?_
  refine OGo.dup K (pc' := 2) own_d7_1 rfl rfl ?_
  refine OGo.getF K (pc' := 5) (host := "") (Or.inl (hw _ (List.mem_of_getElem? (i := 67) rfl))) (Via.of (hw _ (List.mem_of_getElem? (i := 68) rfl))) F2 own_d7_2 rfl ?_
  refine OGo.iconst K (pc' := 6) (z := 1) own_d7_5 rfl rfl ?_
  refine OGo.iadd K (pc' := 7) own_d7_6 rfl ?_
  refine OGo.putF K (pc' := 10) (host := "") (Or.inl (hw _ (List.mem_of_getElem? (i := 67) rfl))) (Via.of (hw _ (List.mem_of_getElem? (i := 68) rfl))) F2 E (Or.inl (hw _ (List.mem_of_getElem? (i := 22) rfl))) (hw _ (List.mem_of_getElem? (i := 1) rfl)) (ty := .int) (by decide) rfl rfl g_a own_d7_7 rfl ?_
  intro h1 W1
  have Z1 : n0 ≤ h1.size := by rw [W1.size]; exact Z0
  have Fw_modCount_a_1 := F2.same W1
  have F3_1 := F3.other W1 (Or.inr (slot_ne (Or.inl (hw _ (List.mem_of_getElem? (i := 25) rfl))) (Or.inl (hw _ (List.mem_of_getElem? (i := 22) rfl))) (by decide) (t := (.array (.object "java/lang/Object"))) (t' := .int) (by decide) (by decide)))
  have F1_1 := F1.other W1 (Or.inr (slot_ne (Or.inl (hw _ (List.mem_of_getElem? (i := 70) rfl))) (Or.inl (hw _ (List.mem_of_getElem? (i := 22) rfl))) (by decide) (t := .int) (t' := .int) (by decide) (by decide)))
  have Vx_1 := Vx.other W1 (Ne.symm ne1)
  have E_1 := E.wr W1
  have Kp1 : Keep h0 h1 [a, x] := (Keep.refl h0 [a, x]).wr W1 (Or.inl (List.mem_of_getElem? (i := 0) rfl))
  have L' : OAL1 Z n0 h1 a x vs := ⟨E_1, F1_1, ⟨_, Fw_modCount_a_1⟩, F3_1, ⟨k, us, Vx_1, lx, Ox, Hx⟩, ne1, g_a, g_x⟩
  refine OGo.aloadN K (pc' := 11) own_d7_10 rfl rfl rfl ?_
  refine OGo.aloadN K (pc' := 12) own_d7_11 rfl rfl rfl ?_
  refine OGo.aloadN K (pc' := 13) own_d7_12 rfl rfl rfl ?_
  refine OGo.getF K (pc' := 16) (host := "") (Or.inl (hw _ (List.mem_of_getElem? (i := 24) rfl))) Via.refl F3_1 own_d7_13 rfl ?_
  refine OGo.aloadN K (pc' := 17) own_d7_16 rfl rfl rfl ?_
  refine OGo.getF K (pc' := 20) (host := "") (Or.inl (hw _ (List.mem_of_getElem? (i := 69) rfl))) Via.refl F1_1 own_d7_17 rfl ?_
  refine OGo.callPN K (pc' := 23) (y := (⟨"java/util/ArrayList", "add", "(Ljava/lang/Object;[Ljava/lang/Object;I)V"⟩ : MethodName)) (a := a) (W := 0) (cells' := 0) (slots' := 0) (argsL := [(.ref y), (.ref x), (.int (Int32.ofNat vs.length))]) (st := []) E_1 (hw _ (List.mem_of_getElem? (i := 71) rfl)) (hw _ (List.mem_of_getElem? (i := 72) rfl)) (hw _ (List.mem_of_getElem? (i := 74) rfl)) (hw _ (List.mem_of_getElem? (i := 73) rfl)) (hw _ (List.mem_of_getElem? (i := 2) rfl)) (hw _ (List.mem_of_getElem? (i := 75) rfl)) (by decide) (own_al_add3_1 l Z a0 hw a y x vs h1 n0 Z1 L' hn (own_ins_keep I0 Kp1)) own_d7_20 rfl rfl (lenOf own_pd7 rfl) (by show 2 * 0 + _ ≤ _; exact Nat.le_of_eq rfl) (by decide) (by decide) rfl rfl (by decide) (by decide) ?_
  rintro h2 ⟨L2, K2⟩
  have Z2 : n0 ≤ h2.size := Nat.le_trans Z1 K2.1
  have Kp2 : Keep h0 h2 [a, x] := Kp1.trans K2 (allS (Or.inl (List.mem_of_getElem? (i := 0) rfl)) (allS (Or.inl (List.mem_of_getElem? (i := 1) rfl)) all0))
  refine OGo.iconst K (pc' := 24) (z := 1) own_d7_23 rfl rfl ?_
  exact OGo.ret K own_d7_24 rfl (Or.inl ⟨rfl, by simp, _, rfl⟩) (by decide) (by decide) ⟨_, rfl, rfl, L2, Kp2⟩
set_option maxRecDepth 65536 in
set_option maxHeartbeats 40000000 in
theorem own_al_size (l : Launch) (Z : State) (a0 : Array Value) (hw : ∀ d ∈ tables_1, d.before a0 Z = true) (a : Addr) (v : Int32) (h0 : Heap) (n0 : Nat) (Z0 : n0 ≤ h0.size) (F : Fld Z h0 a "java/util/ArrayList" "size" "I" (.int v)) :
    OCon l Z n0 (⟨"java/util/ArrayList", "size", "()I"⟩ : MethodName) jdk_38_method_8_code 1 (some .int) [] ({ frames := 0, cells := 0, slots := 0, locals := 0 } : Room) #[(.ref a)] h0 (OV fun w h => w = .int v ∧ h = h0) := by
  refine OCon.of (Ls := #[.val (.ref a)]) (plainFor_of_name own_pn_1) (fun m => own_entry m rfl) ?_
  intro p e s m below meth c K
  refine OGo.aloadN K (pc' := 1) own_d13_0 rfl rfl rfl ?_
  refine OGo.getF K (pc' := 4) (host := "") (Or.inl (hw _ (List.mem_of_getElem? (i := 69) rfl))) Via.refl F own_d13_1 rfl ?_
  exact OGo.iret K own_d13_4 (by decide) (by decide) ⟨_, rfl, rfl, rfl⟩
set_option maxRecDepth 65536 in
set_option maxHeartbeats 40000000 in
theorem own_checkIndex (l : Launch) (Z : State) (a0 : Array Value) (hw : ∀ d ∈ tables_1, d.before a0 Z = true) (i v : Int32) (h0 : Heap) (n0 : Nat) (Z0 : n0 ≤ h0.size) (h1 : ¬ i < 0) (h2 : i < v) :
    OCon l Z n0 (⟨"jdk/internal/util/Preconditions", "checkIndex", "(IILjava/util/function/BiFunction;)I"⟩ : MethodName) jdk_41_method_11_code 3 (some .int) [] ({ frames := 0, cells := 0, slots := 0, locals := 0 } : Room) #[(.int i), (.int v), .null] h0 (OV fun w h => w = .int i ∧ h = h0) := by
  refine OCon.of (Ls := #[.val (.int i), .val (.int v), .val .null]) (plainFor_of_name own_pn_16) (fun m => own_entry m rfl) ?_
  intro p e s m below meth c K
  refine OGo.iloadN K (pc' := 1) own_d16_0 rfl rfl ?_
  refine OGo.ifLt K (pc' := 4) (pcY := 9) own_d16_1 rfl (by decide) rfl (fun hc1 => absurd hc1 (h1 : ¬ i < (0 : Int32))) (fun hc1 => ?_)
  refine OGo.iloadN K (pc' := 5) own_d16_4 rfl rfl ?_
  refine OGo.iloadN K (pc' := 6) own_d16_5 rfl rfl ?_
  refine OGo.icmpLt K (pc' := 9) (pcY := 16) own_d16_6 rfl (by decide) rfl (fun hc6 => ?_) (fun hc6 => absurd (h2 : i < v) hc6)
  refine OGo.iloadN K (pc' := 17) own_d16_16 rfl rfl ?_
  exact OGo.iret K own_d16_17 (by decide) (by decide) ⟨_, rfl, rfl, rfl⟩
set_option maxRecDepth 65536 in
set_option maxHeartbeats 40000000 in
theorem own_objCheck (l : Launch) (Z : State) (a0 : Array Value) (hw : ∀ d ∈ tables_1, d.before a0 Z = true) (i v : Int32) (h0 : Heap) (n0 : Nat) (Z0 : n0 ≤ h0.size) (h1 : ¬ i < 0) (h2 : i < v) :
    OCon l Z n0 (⟨"java/util/Objects", "checkIndex", "(II)I"⟩ : MethodName) jdk_31_method_17_code 2 (some .int) [] ({ frames := 1, cells := 0, slots := 0, locals := 14 } : Room) #[(.int i), (.int v)] h0 (OV fun w h => w = .int i ∧ h = h0) := by
  refine OCon.of (Ls := #[.val (.int i), .val (.int v)]) (plainFor_of_name own_pn_15) (fun m => own_entry m rfl) ?_
  intro p e s m below meth c K
  refine OGo.iloadN K (pc' := 1) own_d15_0 rfl rfl ?_
  refine OGo.iloadN K (pc' := 2) own_d15_1 rfl rfl ?_
  refine OGo.aconstNull K (pc' := 3) own_d15_2 rfl ?_
  refine OGo.callSV K (pc' := 6) (y := (⟨"jdk/internal/util/Preconditions", "checkIndex", "(IILjava/util/function/BiFunction;)I"⟩ : MethodName)) (W := 0) (cells' := 0) (slots' := 0) (argsL := [(.int i), (.int v), .null]) (st := []) (hw _ (List.mem_of_getElem? (i := 129) rfl)) (hw _ (List.mem_of_getElem? (i := 130) rfl)) (hw _ (List.mem_of_getElem? (i := 131) rfl)) (hw _ (List.mem_of_getElem? (i := 132) rfl)) (by decide) (own_checkIndex l Z a0 hw i v h0 n0 Z0 h1 h2) own_d15_3 rfl rfl (lenOf own_pd9 rfl) (by show 2 * 0 + _ ≤ _; exact Nat.le_of_eq rfl) (by decide) (by decide) rfl rfl (by decide) (by decide) ?_
  rintro _ h1 ⟨rfl, e1⟩
  rw [e1]
  show OGo p l e _ s m _ below meth c n0 _ h0 0 0 6 #[.val (.int i), .val (.int v)] [(.int i)]
  exact OGo.iret K own_d15_6 (by decide) (by decide) ⟨_, rfl, rfl, rfl⟩
set_option maxRecDepth 65536 in
set_option maxHeartbeats 40000000 in
theorem own_al_ed (l : Launch) (Z : State) (a0 : Array Value) (hw : ∀ d ∈ tables_1, d.before a0 Z = true) (a x : Addr) (i : Nat) (vs : List Addr) (h0 : Heap) (n0 : Nat) (Z0 : n0 ≤ h0.size) (L : OAL1 Z n0 h0 a x vs) (hi : i < vs.length) (hn : vs.length ≤ 10) :
    OCon l Z n0 (⟨"java/util/ArrayList", "elementData", "(I)Ljava/lang/Object;"⟩ : MethodName) jdk_38_method_18_code 2 (some (.object "java/lang/Object")) [] ({ frames := 0, cells := 0, slots := 0, locals := 0 } : Room) #[(.ref a), (.int (Int32.ofNat i))] h0 (OV fun w h => w = .ref vs[i] ∧ h = h0) := by
  refine OCon.of (Ls := #[.val (.ref a), .val (.int (Int32.ofNat i))]) (plainFor_of_name own_pn_1) (fun m => own_entry m rfl) ?_
  intro p e s m below meth c K
  obtain ⟨E, F1, ⟨mc, F2⟩, F3, ⟨k, us, Vx, lx, Ox, Hx⟩, ne1, g_a, g_x⟩ := L
  obtain ⟨i1, i2, i3, -⟩ := own_i10 (Nat.lt_of_lt_of_le hi hn)
  refine OGo.aloadN K (pc' := 1) own_d17_0 rfl rfl rfl ?_
  refine OGo.getF K (pc' := 4) (host := "") (Or.inl (hw _ (List.mem_of_getElem? (i := 24) rfl))) Via.refl F3 own_d17_1 rfl ?_
  refine OGo.iloadN K (pc' := 5) own_d17_4 rfl rfl ?_
  refine OGo.aaload K (pc' := 6) (v := (.ref vs[i])) Vx rfl ⟨i1, i2⟩ (by rw [i3]; exact Hx i hi) own_d17_5 rfl ?_
  exact OGo.aret K own_d17_6 rfl rfl (by decide) (by decide) ⟨_, rfl, rfl, rfl⟩
set_option maxRecDepth 65536 in
set_option maxHeartbeats 40000000 in
theorem own_al_get (l : Launch) (Z : State) (a0 : Array Value) (hw : ∀ d ∈ tables_1, d.before a0 Z = true) (a x : Addr) (i : Nat) (vs : List Addr) (h0 : Heap) (n0 : Nat) (Z0 : n0 ≤ h0.size) (L : OAL1 Z n0 h0 a x vs) (hi : i < vs.length) (hn : vs.length ≤ 10) :
    OCon l Z n0 (⟨"java/util/ArrayList", "get", "(I)Ljava/lang/Object;"⟩ : MethodName) jdk_38_method_20_code 2 (some (.object "java/lang/Object")) [] ({ frames := 2, cells := 0, slots := 0, locals := 27 } : Room) #[(.ref a), (.int (Int32.ofNat i))] h0 (OV fun w h => w = .ref vs[i] ∧ h = h0) := by
  refine OCon.of (Ls := #[.val (.ref a), .val (.int (Int32.ofNat i))]) (plainFor_of_name own_pn_1) (fun m => own_entry m rfl) ?_
  intro p e s m below meth c K
  obtain ⟨i1, i2, i3, -⟩ := own_i10 (Nat.lt_of_lt_of_le hi hn)
  refine OGo.iloadN K (pc' := 1) own_d14_0 rfl rfl ?_
  refine OGo.aloadN K (pc' := 2) own_d14_1 rfl rfl rfl ?_
  refine OGo.getF K (pc' := 5) (host := "") (Or.inl (hw _ (List.mem_of_getElem? (i := 69) rfl))) Via.refl L.2.1 own_d14_2 rfl ?_
  refine OGo.callSV K (pc' := 8) (y := (⟨"java/util/Objects", "checkIndex", "(II)I"⟩ : MethodName)) (W := 0) (cells' := 0) (slots' := 0) (argsL := [(.int (Int32.ofNat i)), (.int (Int32.ofNat vs.length))]) (st := []) (hw _ (List.mem_of_getElem? (i := 125) rfl)) (hw _ (List.mem_of_getElem? (i := 126) rfl)) (hw _ (List.mem_of_getElem? (i := 127) rfl)) (hw _ (List.mem_of_getElem? (i := 128) rfl)) (by decide) (own_objCheck l Z a0 hw _ _ h0 n0 Z0 i1 (own_i32lt hi (by omega))) own_d14_5 rfl rfl (lenOf own_pd4 rfl) (by show 2 * 0 + _ ≤ _; exact Nat.le_of_eq rfl) (by decide) (by decide) rfl rfl (by decide) (by decide) ?_
  rintro _ h1 ⟨rfl, e1⟩
  rw [e1]
  show OGo p l e _ s m _ below meth c n0 _ h0 0 0 8 #[.val (.ref a), .val (.int (Int32.ofNat i))] [(.int (Int32.ofNat i))]
  refine OGo.pop K (pc' := 9) own_d14_8 rfl rfl ?_
  refine OGo.aloadN K (pc' := 10) own_d14_9 rfl rfl rfl ?_
  refine OGo.iloadN K (pc' := 11) own_d14_10 rfl rfl ?_
  refine OGo.callVV K (pc' := 14) (y := (⟨"java/util/ArrayList", "elementData", "(I)Ljava/lang/Object;"⟩ : MethodName)) (z := (⟨"java/util/ArrayList", "elementData", "(I)Ljava/lang/Object;"⟩ : MethodName)) (a := a) (W := 0) (cells' := 0) (slots' := 0) (argsL := [(.int (Int32.ofNat i))]) (st := []) L.1 (hw _ (List.mem_of_getElem? (i := 133) rfl)) (hw _ (List.mem_of_getElem? (i := 134) rfl)) (notFace_of_selects (args := #[]) (mvT K.hZ (hw _ (List.mem_of_getElem? (i := 136) rfl)))) (hw _ (List.mem_of_getElem? (i := 136) rfl)) (hw _ (List.mem_of_getElem? (i := 135) rfl)) (hw _ (List.mem_of_getElem? (i := 2) rfl)) (hw _ (List.mem_of_getElem? (i := 137) rfl)) (by decide) (own_al_ed l Z a0 hw a x i vs h0 n0 Z0 L hi hn) own_d14_11 rfl rfl (lenOf own_pd11 rfl) (by show 2 * 0 + _ ≤ _; exact Nat.le_of_eq rfl) (by decide) (by decide) rfl rfl (by decide) (by decide) ?_
  rintro _ h2 ⟨rfl, e2⟩
  rw [e2]
  show OGo p l e _ s m _ below meth c n0 _ h0 0 0 14 #[.val (.ref a), .val (.int (Int32.ofNat i))] [(.ref vs[i])]
  exact OGo.aret K own_d14_14 rfl rfl (by decide) (by decide) ⟨_, rfl, rfl, rfl⟩
set_option maxRecDepth 65536 in
set_option maxHeartbeats 40000000 in
theorem own_rm6 (l : Launch) (Z : State) (a0 : Array Value) (hw : ∀ d ∈ tables_1, d.before a0 Z = true) (a : Addr) (h0 : Heap) (n0 : Nat) (Z0 : n0 ≤ h0.size)  :
    OCon l Z n0 (⟨"java/lang/Record", "<init>", "()V"⟩ : MethodName) jdk_30_method_1_code 1 none [] ({ frames := 1, cells := 0, slots := 0, locals := 12 } : Room) #[(.ref a)] h0 (ON fun h => h = h0) := by
  refine OCon.of (Ls := #[.val (.ref a)]) (plainFor_of_name own_pn_6) (fun m => own_entry m rfl) ?_
  intro p e s m below meth c K
  refine OGo.aloadN K (pc' := 1) own_d6_0 rfl rfl rfl ?_
  refine OGo.initO K (pc' := 4) (W := 0) (hw _ (List.mem_of_getElem? (i := 37) rfl)) (hw _ (List.mem_of_getElem? (i := 19) rfl)) (hw _ (List.mem_of_getElem? (i := 20) rfl)) own_d6_1 rfl rfl (by show 2 * 0 + _ ≤ _; exact Nat.le_of_eq rfl) (by decide) (by decide) ?_
  exact OGo.vret K own_d6_4 (by decide) (by decide) ⟨rfl, rfl⟩
set_option maxRecDepth 65536 in
set_option maxHeartbeats 40000000 in
theorem own_rm5 (l : Launch) (Z : State) (a0 : Array Value) (hw : ∀ d ∈ tables_1, d.before a0 Z = true) (a : Addr) (u : Int32) (u0 u1 u2 u3 u4 u5 u6 u7 u8 u9 u10 u11 : Value) (h0 : Heap) (n0 : Nat) (Z0 : n0 ≤ h0.size) (E : Exa Z h0 a "com/example/loadvane/loadvane/simulation/Group") (F0 : Fld Z h0 a "com/example/loadvane/loadvane/simulation/Group" "name" "Ljava/lang/String;" u0) (F1 : Fld Z h0 a "com/example/loadvane/loadvane/simulation/Group" "count" "I" u1) (F2 : Fld Z h0 a "com/example/loadvane/loadvane/simulation/Group" "service" "Lcom/example/loadvane/loadvane/simulation/Group$Service;" u2) (F3 : Fld Z h0 a "com/example/loadvane/loadvane/simulation/Group" "serviceNanos" "J" u3) (F4 : Fld Z h0 a "com/example/loadvane/loadvane/simulation/Group" "workers" "I" u4) (F5 : Fld Z h0 a "com/example/loadvane/loadvane/simulation/Group" "queue" "I" u5) (F6 : Fld Z h0 a "com/example/loadvane/loadvane/simulation/Group" "failRate" "D" u6) (F7 : Fld Z h0 a "com/example/loadvane/loadvane/simulation/Group" "downFromNanos" "J" u7) (F8 : Fld Z h0 a "com/example/loadvane/loadvane/simulation/Group" "downUntilNanos" "J" u8) (F9 : Fld Z h0 a "com/example/loadvane/loadvane/simulation/Group" "startNanos" "J" u9) (F10 : Fld Z h0 a "com/example/loadvane/loadvane/simulation/Group" "slowFromNanos" "J" u10) (F11 : Fld Z h0 a "com/example/loadvane/loadvane/simulation/Group" "slowServiceNanos" "J" u11) (g_a : n0 ≤ a) :
    OCon l Z n0 (⟨"com/example/loadvane/loadvane/simulation/Group", "<init>", "(Ljava/lang/String;ILcom/example/loadvane/loadvane/simulation/Group$Service;JIIDJJJJJ)V"⟩ : MethodName) prog_44_method_1_code 20 none [] ({ frames := 2, cells := 0, slots := 0, locals := 24 } : Room) #[(.ref a), .null, (.int u), .null, (.long (0 : Int64)), (.int (0 : Int32)), (.int (0 : Int32)), (.double (0 : UInt64)), (.long (0 : Int64)), (.long (0 : Int64)), (.long (0 : Int64)), (.long (0 : Int64)), (.long (0 : Int64))] h0 (ON fun h => Keep h0 h [a] ∧ Fld Z h a "com/example/loadvane/loadvane/simulation/Group" "count" "I" (.int u)) := by
  refine OCon.of (Ls := #[.val (.ref a), .val .null, .val (.int u), .val .null, .val (.long (0 : Int64)), .second, .val (.int (0 : Int32)), .val (.int (0 : Int32)), .val (.double (0 : UInt64)), .second, .val (.long (0 : Int64)), .second, .val (.long (0 : Int64)), .second, .val (.long (0 : Int64)), .second, .val (.long (0 : Int64)), .second, .val (.long (0 : Int64)), .second]) (plainFor_of_name own_pn_5) (fun m => own_entry m rfl) ?_
  intro p e s m below meth c K
  refine OGo.aloadN K (pc' := 1) own_d5_0 rfl rfl rfl ?_
  refine OGo.callIN K (pc' := 4) (y := (⟨"java/lang/Record", "<init>", "()V"⟩ : MethodName)) (a := a) (W := 0) (cells' := 0) (slots' := 0) (argsL := []) (st := []) rfl (hw _ (List.mem_of_getElem? (i := 32) rfl)) (hw _ (List.mem_of_getElem? (i := 33) rfl)) (hw _ (List.mem_of_getElem? (i := 35) rfl)) (hw _ (List.mem_of_getElem? (i := 36) rfl)) (by decide) (own_rm6 l Z a0 hw a h0 n0 Z0) own_d5_1 rfl rfl (lenOf own_pd1 rfl) (by show 2 * 0 + _ ≤ _; exact Nat.le_of_eq rfl) (by decide) (by decide) rfl rfl (by decide) (by decide) ?_
  rintro h1 e1
  rw [e1]
  refine OGo.aloadN K (pc' := 5) own_d5_4 rfl rfl rfl ?_
  refine OGo.aloadN K (pc' := 6) own_d5_5 rfl rfl rfl ?_
  refine OGo.putF K (pc' := 9) (host := "") (Or.inl (hw _ (List.mem_of_getElem? (i := 38) rfl))) Via.refl F0 E (Or.inr ⟨(hw _ (List.mem_of_getElem? (i := 39) rfl)), rfl, rfl⟩) (hw _ (List.mem_of_getElem? (i := 27) rfl)) (ty := (.object "java/lang/String")) (by decide) rfl rfl g_a own_d5_6 rfl ?_
  intro h2 W2
  have Z2 : n0 ≤ h2.size := by rw [W2.size]; exact Z0
  have Fw_name_a_2 := F0.same W2
  have E_2 := E.wr W2
  have F1_2 := F1.other W2 (Or.inr (slot_ne (Or.inr (hw _ (List.mem_of_getElem? (i := 41) rfl))) (Or.inr (hw _ (List.mem_of_getElem? (i := 39) rfl))) (by decide) (t := .int) (t' := (.object "java/lang/String")) (by decide) (by decide)))
  have Kp2 : Keep h0 h2 [a] := (Keep.refl h0 [a]).wr W2 (Or.inl (List.mem_of_getElem? (i := 0) rfl))
  refine OGo.aloadN K (pc' := 10) own_d5_9 rfl rfl rfl ?_
  refine OGo.iloadN K (pc' := 11) own_d5_10 rfl rfl ?_
  refine OGo.putF K (pc' := 14) (host := "") (Or.inl (hw _ (List.mem_of_getElem? (i := 40) rfl))) Via.refl F1_2 E_2 (Or.inr ⟨(hw _ (List.mem_of_getElem? (i := 41) rfl)), rfl, rfl⟩) (hw _ (List.mem_of_getElem? (i := 27) rfl)) (ty := .int) (by decide) rfl rfl g_a own_d5_11 rfl ?_
  intro h3 W3
  have Z3 : n0 ≤ h3.size := by rw [W3.size]; exact Z2
  have Fw_count_a_3 := F1_2.same W3
  have E_3 := E_2.wr W3
  have Kp3 : Keep h0 h3 [a] := Kp2.wr W3 (Or.inl (List.mem_of_getElem? (i := 0) rfl))
  refine OGo.aloadN K (pc' := 15) own_d5_14 rfl rfl rfl ?_
  refine OGo.aloadN K (pc' := 16) own_d5_15 rfl rfl rfl ?_
  refine OGo.putF K (pc' := 19) (host := "") (Or.inl (hw _ (List.mem_of_getElem? (i := 42) rfl))) Via.refl ((F2.other W2 (Or.inr (slot_ne (Or.inr (hw _ (List.mem_of_getElem? (i := 43) rfl))) (Or.inr (hw _ (List.mem_of_getElem? (i := 39) rfl))) (by decide) (t := (.object "com/example/loadvane/loadvane/simulation/Group$Service")) (t' := (.object "java/lang/String")) (by decide) (by decide)))).other W3 (Or.inr (slot_ne (Or.inr (hw _ (List.mem_of_getElem? (i := 43) rfl))) (Or.inr (hw _ (List.mem_of_getElem? (i := 41) rfl))) (by decide) (t := (.object "com/example/loadvane/loadvane/simulation/Group$Service")) (t' := .int) (by decide) (by decide)))) E_3 (Or.inr ⟨(hw _ (List.mem_of_getElem? (i := 43) rfl)), rfl, rfl⟩) (hw _ (List.mem_of_getElem? (i := 27) rfl)) (ty := (.object "com/example/loadvane/loadvane/simulation/Group$Service")) (by decide) rfl rfl g_a own_d5_16 rfl ?_
  intro h4 W4
  have Z4 : n0 ≤ h4.size := by rw [W4.size]; exact Z3
  have Fw_service_a_4 := ((F2.other W2 (Or.inr (slot_ne (Or.inr (hw _ (List.mem_of_getElem? (i := 43) rfl))) (Or.inr (hw _ (List.mem_of_getElem? (i := 39) rfl))) (by decide) (t := (.object "com/example/loadvane/loadvane/simulation/Group$Service")) (t' := (.object "java/lang/String")) (by decide) (by decide)))).other W3 (Or.inr (slot_ne (Or.inr (hw _ (List.mem_of_getElem? (i := 43) rfl))) (Or.inr (hw _ (List.mem_of_getElem? (i := 41) rfl))) (by decide) (t := (.object "com/example/loadvane/loadvane/simulation/Group$Service")) (t' := .int) (by decide) (by decide)))).same W4
  have E_4 := E_3.wr W4
  have Fw_count_a_4 := Fw_count_a_3.other W4 (Or.inr (slot_ne (Or.inr (hw _ (List.mem_of_getElem? (i := 41) rfl))) (Or.inr (hw _ (List.mem_of_getElem? (i := 43) rfl))) (by decide) (t := .int) (t' := (.object "com/example/loadvane/loadvane/simulation/Group$Service")) (by decide) (by decide)))
  have Kp4 : Keep h0 h4 [a] := Kp3.wr W4 (Or.inl (List.mem_of_getElem? (i := 0) rfl))
  refine OGo.aloadN K (pc' := 20) own_d5_19 rfl rfl rfl ?_
  refine OGo.lload K (pc' := 22) own_d5_20 rfl rfl ?_
  refine OGo.putF K (pc' := 25) (host := "") (Or.inl (hw _ (List.mem_of_getElem? (i := 44) rfl))) Via.refl (((F3.other W2 (Or.inr (slot_ne (Or.inr (hw _ (List.mem_of_getElem? (i := 45) rfl))) (Or.inr (hw _ (List.mem_of_getElem? (i := 39) rfl))) (by decide) (t := .long) (t' := (.object "java/lang/String")) (by decide) (by decide)))).other W3 (Or.inr (slot_ne (Or.inr (hw _ (List.mem_of_getElem? (i := 45) rfl))) (Or.inr (hw _ (List.mem_of_getElem? (i := 41) rfl))) (by decide) (t := .long) (t' := .int) (by decide) (by decide)))).other W4 (Or.inr (slot_ne (Or.inr (hw _ (List.mem_of_getElem? (i := 45) rfl))) (Or.inr (hw _ (List.mem_of_getElem? (i := 43) rfl))) (by decide) (t := .long) (t' := (.object "com/example/loadvane/loadvane/simulation/Group$Service")) (by decide) (by decide)))) E_4 (Or.inr ⟨(hw _ (List.mem_of_getElem? (i := 45) rfl)), rfl, rfl⟩) (hw _ (List.mem_of_getElem? (i := 27) rfl)) (ty := .long) (by decide) rfl rfl g_a own_d5_22 rfl ?_
  intro h5 W5
  have Z5 : n0 ≤ h5.size := by rw [W5.size]; exact Z4
  have Fw_serviceNanos_a_5 := (((F3.other W2 (Or.inr (slot_ne (Or.inr (hw _ (List.mem_of_getElem? (i := 45) rfl))) (Or.inr (hw _ (List.mem_of_getElem? (i := 39) rfl))) (by decide) (t := .long) (t' := (.object "java/lang/String")) (by decide) (by decide)))).other W3 (Or.inr (slot_ne (Or.inr (hw _ (List.mem_of_getElem? (i := 45) rfl))) (Or.inr (hw _ (List.mem_of_getElem? (i := 41) rfl))) (by decide) (t := .long) (t' := .int) (by decide) (by decide)))).other W4 (Or.inr (slot_ne (Or.inr (hw _ (List.mem_of_getElem? (i := 45) rfl))) (Or.inr (hw _ (List.mem_of_getElem? (i := 43) rfl))) (by decide) (t := .long) (t' := (.object "com/example/loadvane/loadvane/simulation/Group$Service")) (by decide) (by decide)))).same W5
  have E_5 := E_4.wr W5
  have Fw_count_a_5 := Fw_count_a_4.other W5 (Or.inr (slot_ne (Or.inr (hw _ (List.mem_of_getElem? (i := 41) rfl))) (Or.inr (hw _ (List.mem_of_getElem? (i := 45) rfl))) (by decide) (t := .int) (t' := .long) (by decide) (by decide)))
  have Kp5 : Keep h0 h5 [a] := Kp4.wr W5 (Or.inl (List.mem_of_getElem? (i := 0) rfl))
  refine OGo.aloadN K (pc' := 26) own_d5_25 rfl rfl rfl ?_
  refine OGo.iload K (pc' := 28) own_d5_26 rfl rfl ?_
  refine OGo.putF K (pc' := 31) (host := "") (Or.inl (hw _ (List.mem_of_getElem? (i := 46) rfl))) Via.refl ((((F4.other W2 (Or.inr (slot_ne (Or.inr (hw _ (List.mem_of_getElem? (i := 47) rfl))) (Or.inr (hw _ (List.mem_of_getElem? (i := 39) rfl))) (by decide) (t := .int) (t' := (.object "java/lang/String")) (by decide) (by decide)))).other W3 (Or.inr (slot_ne (Or.inr (hw _ (List.mem_of_getElem? (i := 47) rfl))) (Or.inr (hw _ (List.mem_of_getElem? (i := 41) rfl))) (by decide) (t := .int) (t' := .int) (by decide) (by decide)))).other W4 (Or.inr (slot_ne (Or.inr (hw _ (List.mem_of_getElem? (i := 47) rfl))) (Or.inr (hw _ (List.mem_of_getElem? (i := 43) rfl))) (by decide) (t := .int) (t' := (.object "com/example/loadvane/loadvane/simulation/Group$Service")) (by decide) (by decide)))).other W5 (Or.inr (slot_ne (Or.inr (hw _ (List.mem_of_getElem? (i := 47) rfl))) (Or.inr (hw _ (List.mem_of_getElem? (i := 45) rfl))) (by decide) (t := .int) (t' := .long) (by decide) (by decide)))) E_5 (Or.inr ⟨(hw _ (List.mem_of_getElem? (i := 47) rfl)), rfl, rfl⟩) (hw _ (List.mem_of_getElem? (i := 27) rfl)) (ty := .int) (by decide) rfl rfl g_a own_d5_28 rfl ?_
  intro h6 W6
  have Z6 : n0 ≤ h6.size := by rw [W6.size]; exact Z5
  have Fw_workers_a_6 := ((((F4.other W2 (Or.inr (slot_ne (Or.inr (hw _ (List.mem_of_getElem? (i := 47) rfl))) (Or.inr (hw _ (List.mem_of_getElem? (i := 39) rfl))) (by decide) (t := .int) (t' := (.object "java/lang/String")) (by decide) (by decide)))).other W3 (Or.inr (slot_ne (Or.inr (hw _ (List.mem_of_getElem? (i := 47) rfl))) (Or.inr (hw _ (List.mem_of_getElem? (i := 41) rfl))) (by decide) (t := .int) (t' := .int) (by decide) (by decide)))).other W4 (Or.inr (slot_ne (Or.inr (hw _ (List.mem_of_getElem? (i := 47) rfl))) (Or.inr (hw _ (List.mem_of_getElem? (i := 43) rfl))) (by decide) (t := .int) (t' := (.object "com/example/loadvane/loadvane/simulation/Group$Service")) (by decide) (by decide)))).other W5 (Or.inr (slot_ne (Or.inr (hw _ (List.mem_of_getElem? (i := 47) rfl))) (Or.inr (hw _ (List.mem_of_getElem? (i := 45) rfl))) (by decide) (t := .int) (t' := .long) (by decide) (by decide)))).same W6
  have E_6 := E_5.wr W6
  have Fw_count_a_6 := Fw_count_a_5.other W6 (Or.inr (slot_ne (Or.inr (hw _ (List.mem_of_getElem? (i := 41) rfl))) (Or.inr (hw _ (List.mem_of_getElem? (i := 47) rfl))) (by decide) (t := .int) (t' := .int) (by decide) (by decide)))
  have Kp6 : Keep h0 h6 [a] := Kp5.wr W6 (Or.inl (List.mem_of_getElem? (i := 0) rfl))
  refine OGo.aloadN K (pc' := 32) own_d5_31 rfl rfl rfl ?_
  refine OGo.iload K (pc' := 34) own_d5_32 rfl rfl ?_
  refine OGo.putF K (pc' := 37) (host := "") (Or.inl (hw _ (List.mem_of_getElem? (i := 48) rfl))) Via.refl (((((F5.other W2 (Or.inr (slot_ne (Or.inr (hw _ (List.mem_of_getElem? (i := 49) rfl))) (Or.inr (hw _ (List.mem_of_getElem? (i := 39) rfl))) (by decide) (t := .int) (t' := (.object "java/lang/String")) (by decide) (by decide)))).other W3 (Or.inr (slot_ne (Or.inr (hw _ (List.mem_of_getElem? (i := 49) rfl))) (Or.inr (hw _ (List.mem_of_getElem? (i := 41) rfl))) (by decide) (t := .int) (t' := .int) (by decide) (by decide)))).other W4 (Or.inr (slot_ne (Or.inr (hw _ (List.mem_of_getElem? (i := 49) rfl))) (Or.inr (hw _ (List.mem_of_getElem? (i := 43) rfl))) (by decide) (t := .int) (t' := (.object "com/example/loadvane/loadvane/simulation/Group$Service")) (by decide) (by decide)))).other W5 (Or.inr (slot_ne (Or.inr (hw _ (List.mem_of_getElem? (i := 49) rfl))) (Or.inr (hw _ (List.mem_of_getElem? (i := 45) rfl))) (by decide) (t := .int) (t' := .long) (by decide) (by decide)))).other W6 (Or.inr (slot_ne (Or.inr (hw _ (List.mem_of_getElem? (i := 49) rfl))) (Or.inr (hw _ (List.mem_of_getElem? (i := 47) rfl))) (by decide) (t := .int) (t' := .int) (by decide) (by decide)))) E_6 (Or.inr ⟨(hw _ (List.mem_of_getElem? (i := 49) rfl)), rfl, rfl⟩) (hw _ (List.mem_of_getElem? (i := 27) rfl)) (ty := .int) (by decide) rfl rfl g_a own_d5_34 rfl ?_
  intro h7 W7
  have Z7 : n0 ≤ h7.size := by rw [W7.size]; exact Z6
  have Fw_queue_a_7 := (((((F5.other W2 (Or.inr (slot_ne (Or.inr (hw _ (List.mem_of_getElem? (i := 49) rfl))) (Or.inr (hw _ (List.mem_of_getElem? (i := 39) rfl))) (by decide) (t := .int) (t' := (.object "java/lang/String")) (by decide) (by decide)))).other W3 (Or.inr (slot_ne (Or.inr (hw _ (List.mem_of_getElem? (i := 49) rfl))) (Or.inr (hw _ (List.mem_of_getElem? (i := 41) rfl))) (by decide) (t := .int) (t' := .int) (by decide) (by decide)))).other W4 (Or.inr (slot_ne (Or.inr (hw _ (List.mem_of_getElem? (i := 49) rfl))) (Or.inr (hw _ (List.mem_of_getElem? (i := 43) rfl))) (by decide) (t := .int) (t' := (.object "com/example/loadvane/loadvane/simulation/Group$Service")) (by decide) (by decide)))).other W5 (Or.inr (slot_ne (Or.inr (hw _ (List.mem_of_getElem? (i := 49) rfl))) (Or.inr (hw _ (List.mem_of_getElem? (i := 45) rfl))) (by decide) (t := .int) (t' := .long) (by decide) (by decide)))).other W6 (Or.inr (slot_ne (Or.inr (hw _ (List.mem_of_getElem? (i := 49) rfl))) (Or.inr (hw _ (List.mem_of_getElem? (i := 47) rfl))) (by decide) (t := .int) (t' := .int) (by decide) (by decide)))).same W7
  have E_7 := E_6.wr W7
  have Fw_count_a_7 := Fw_count_a_6.other W7 (Or.inr (slot_ne (Or.inr (hw _ (List.mem_of_getElem? (i := 41) rfl))) (Or.inr (hw _ (List.mem_of_getElem? (i := 49) rfl))) (by decide) (t := .int) (t' := .int) (by decide) (by decide)))
  have Kp7 : Keep h0 h7 [a] := Kp6.wr W7 (Or.inl (List.mem_of_getElem? (i := 0) rfl))
  refine OGo.aloadN K (pc' := 38) own_d5_37 rfl rfl rfl ?_
  refine OGo.dload K (pc' := 40) own_d5_38 rfl rfl ?_
  refine OGo.putF K (pc' := 43) (host := "") (Or.inl (hw _ (List.mem_of_getElem? (i := 50) rfl))) Via.refl ((((((F6.other W2 (Or.inr (slot_ne (Or.inr (hw _ (List.mem_of_getElem? (i := 51) rfl))) (Or.inr (hw _ (List.mem_of_getElem? (i := 39) rfl))) (by decide) (t := .double) (t' := (.object "java/lang/String")) (by decide) (by decide)))).other W3 (Or.inr (slot_ne (Or.inr (hw _ (List.mem_of_getElem? (i := 51) rfl))) (Or.inr (hw _ (List.mem_of_getElem? (i := 41) rfl))) (by decide) (t := .double) (t' := .int) (by decide) (by decide)))).other W4 (Or.inr (slot_ne (Or.inr (hw _ (List.mem_of_getElem? (i := 51) rfl))) (Or.inr (hw _ (List.mem_of_getElem? (i := 43) rfl))) (by decide) (t := .double) (t' := (.object "com/example/loadvane/loadvane/simulation/Group$Service")) (by decide) (by decide)))).other W5 (Or.inr (slot_ne (Or.inr (hw _ (List.mem_of_getElem? (i := 51) rfl))) (Or.inr (hw _ (List.mem_of_getElem? (i := 45) rfl))) (by decide) (t := .double) (t' := .long) (by decide) (by decide)))).other W6 (Or.inr (slot_ne (Or.inr (hw _ (List.mem_of_getElem? (i := 51) rfl))) (Or.inr (hw _ (List.mem_of_getElem? (i := 47) rfl))) (by decide) (t := .double) (t' := .int) (by decide) (by decide)))).other W7 (Or.inr (slot_ne (Or.inr (hw _ (List.mem_of_getElem? (i := 51) rfl))) (Or.inr (hw _ (List.mem_of_getElem? (i := 49) rfl))) (by decide) (t := .double) (t' := .int) (by decide) (by decide)))) E_7 (Or.inr ⟨(hw _ (List.mem_of_getElem? (i := 51) rfl)), rfl, rfl⟩) (hw _ (List.mem_of_getElem? (i := 27) rfl)) (ty := .double) (by decide) rfl rfl g_a own_d5_40 rfl ?_
  intro h8 W8
  have Z8 : n0 ≤ h8.size := by rw [W8.size]; exact Z7
  have Fw_failRate_a_8 := ((((((F6.other W2 (Or.inr (slot_ne (Or.inr (hw _ (List.mem_of_getElem? (i := 51) rfl))) (Or.inr (hw _ (List.mem_of_getElem? (i := 39) rfl))) (by decide) (t := .double) (t' := (.object "java/lang/String")) (by decide) (by decide)))).other W3 (Or.inr (slot_ne (Or.inr (hw _ (List.mem_of_getElem? (i := 51) rfl))) (Or.inr (hw _ (List.mem_of_getElem? (i := 41) rfl))) (by decide) (t := .double) (t' := .int) (by decide) (by decide)))).other W4 (Or.inr (slot_ne (Or.inr (hw _ (List.mem_of_getElem? (i := 51) rfl))) (Or.inr (hw _ (List.mem_of_getElem? (i := 43) rfl))) (by decide) (t := .double) (t' := (.object "com/example/loadvane/loadvane/simulation/Group$Service")) (by decide) (by decide)))).other W5 (Or.inr (slot_ne (Or.inr (hw _ (List.mem_of_getElem? (i := 51) rfl))) (Or.inr (hw _ (List.mem_of_getElem? (i := 45) rfl))) (by decide) (t := .double) (t' := .long) (by decide) (by decide)))).other W6 (Or.inr (slot_ne (Or.inr (hw _ (List.mem_of_getElem? (i := 51) rfl))) (Or.inr (hw _ (List.mem_of_getElem? (i := 47) rfl))) (by decide) (t := .double) (t' := .int) (by decide) (by decide)))).other W7 (Or.inr (slot_ne (Or.inr (hw _ (List.mem_of_getElem? (i := 51) rfl))) (Or.inr (hw _ (List.mem_of_getElem? (i := 49) rfl))) (by decide) (t := .double) (t' := .int) (by decide) (by decide)))).same W8
  have E_8 := E_7.wr W8
  have Fw_count_a_8 := Fw_count_a_7.other W8 (Or.inr (slot_ne (Or.inr (hw _ (List.mem_of_getElem? (i := 41) rfl))) (Or.inr (hw _ (List.mem_of_getElem? (i := 51) rfl))) (by decide) (t := .int) (t' := .double) (by decide) (by decide)))
  have Kp8 : Keep h0 h8 [a] := Kp7.wr W8 (Or.inl (List.mem_of_getElem? (i := 0) rfl))
  refine OGo.aloadN K (pc' := 44) own_d5_43 rfl rfl rfl ?_
  refine OGo.lload K (pc' := 46) own_d5_44 rfl rfl ?_
  refine OGo.putF K (pc' := 49) (host := "") (Or.inl (hw _ (List.mem_of_getElem? (i := 52) rfl))) Via.refl (((((((F7.other W2 (Or.inr (slot_ne (Or.inr (hw _ (List.mem_of_getElem? (i := 53) rfl))) (Or.inr (hw _ (List.mem_of_getElem? (i := 39) rfl))) (by decide) (t := .long) (t' := (.object "java/lang/String")) (by decide) (by decide)))).other W3 (Or.inr (slot_ne (Or.inr (hw _ (List.mem_of_getElem? (i := 53) rfl))) (Or.inr (hw _ (List.mem_of_getElem? (i := 41) rfl))) (by decide) (t := .long) (t' := .int) (by decide) (by decide)))).other W4 (Or.inr (slot_ne (Or.inr (hw _ (List.mem_of_getElem? (i := 53) rfl))) (Or.inr (hw _ (List.mem_of_getElem? (i := 43) rfl))) (by decide) (t := .long) (t' := (.object "com/example/loadvane/loadvane/simulation/Group$Service")) (by decide) (by decide)))).other W5 (Or.inr (slot_ne (Or.inr (hw _ (List.mem_of_getElem? (i := 53) rfl))) (Or.inr (hw _ (List.mem_of_getElem? (i := 45) rfl))) (by decide) (t := .long) (t' := .long) (by decide) (by decide)))).other W6 (Or.inr (slot_ne (Or.inr (hw _ (List.mem_of_getElem? (i := 53) rfl))) (Or.inr (hw _ (List.mem_of_getElem? (i := 47) rfl))) (by decide) (t := .long) (t' := .int) (by decide) (by decide)))).other W7 (Or.inr (slot_ne (Or.inr (hw _ (List.mem_of_getElem? (i := 53) rfl))) (Or.inr (hw _ (List.mem_of_getElem? (i := 49) rfl))) (by decide) (t := .long) (t' := .int) (by decide) (by decide)))).other W8 (Or.inr (slot_ne (Or.inr (hw _ (List.mem_of_getElem? (i := 53) rfl))) (Or.inr (hw _ (List.mem_of_getElem? (i := 51) rfl))) (by decide) (t := .long) (t' := .double) (by decide) (by decide)))) E_8 (Or.inr ⟨(hw _ (List.mem_of_getElem? (i := 53) rfl)), rfl, rfl⟩) (hw _ (List.mem_of_getElem? (i := 27) rfl)) (ty := .long) (by decide) rfl rfl g_a own_d5_46 rfl ?_
  intro h9 W9
  have Z9 : n0 ≤ h9.size := by rw [W9.size]; exact Z8
  have Fw_downFromNanos_a_9 := (((((((F7.other W2 (Or.inr (slot_ne (Or.inr (hw _ (List.mem_of_getElem? (i := 53) rfl))) (Or.inr (hw _ (List.mem_of_getElem? (i := 39) rfl))) (by decide) (t := .long) (t' := (.object "java/lang/String")) (by decide) (by decide)))).other W3 (Or.inr (slot_ne (Or.inr (hw _ (List.mem_of_getElem? (i := 53) rfl))) (Or.inr (hw _ (List.mem_of_getElem? (i := 41) rfl))) (by decide) (t := .long) (t' := .int) (by decide) (by decide)))).other W4 (Or.inr (slot_ne (Or.inr (hw _ (List.mem_of_getElem? (i := 53) rfl))) (Or.inr (hw _ (List.mem_of_getElem? (i := 43) rfl))) (by decide) (t := .long) (t' := (.object "com/example/loadvane/loadvane/simulation/Group$Service")) (by decide) (by decide)))).other W5 (Or.inr (slot_ne (Or.inr (hw _ (List.mem_of_getElem? (i := 53) rfl))) (Or.inr (hw _ (List.mem_of_getElem? (i := 45) rfl))) (by decide) (t := .long) (t' := .long) (by decide) (by decide)))).other W6 (Or.inr (slot_ne (Or.inr (hw _ (List.mem_of_getElem? (i := 53) rfl))) (Or.inr (hw _ (List.mem_of_getElem? (i := 47) rfl))) (by decide) (t := .long) (t' := .int) (by decide) (by decide)))).other W7 (Or.inr (slot_ne (Or.inr (hw _ (List.mem_of_getElem? (i := 53) rfl))) (Or.inr (hw _ (List.mem_of_getElem? (i := 49) rfl))) (by decide) (t := .long) (t' := .int) (by decide) (by decide)))).other W8 (Or.inr (slot_ne (Or.inr (hw _ (List.mem_of_getElem? (i := 53) rfl))) (Or.inr (hw _ (List.mem_of_getElem? (i := 51) rfl))) (by decide) (t := .long) (t' := .double) (by decide) (by decide)))).same W9
  have E_9 := E_8.wr W9
  have Fw_count_a_9 := Fw_count_a_8.other W9 (Or.inr (slot_ne (Or.inr (hw _ (List.mem_of_getElem? (i := 41) rfl))) (Or.inr (hw _ (List.mem_of_getElem? (i := 53) rfl))) (by decide) (t := .int) (t' := .long) (by decide) (by decide)))
  have Kp9 : Keep h0 h9 [a] := Kp8.wr W9 (Or.inl (List.mem_of_getElem? (i := 0) rfl))
  refine OGo.aloadN K (pc' := 50) own_d5_49 rfl rfl rfl ?_
  refine OGo.lload K (pc' := 52) own_d5_50 rfl rfl ?_
  refine OGo.putF K (pc' := 55) (host := "") (Or.inl (hw _ (List.mem_of_getElem? (i := 54) rfl))) Via.refl ((((((((F8.other W2 (Or.inr (slot_ne (Or.inr (hw _ (List.mem_of_getElem? (i := 55) rfl))) (Or.inr (hw _ (List.mem_of_getElem? (i := 39) rfl))) (by decide) (t := .long) (t' := (.object "java/lang/String")) (by decide) (by decide)))).other W3 (Or.inr (slot_ne (Or.inr (hw _ (List.mem_of_getElem? (i := 55) rfl))) (Or.inr (hw _ (List.mem_of_getElem? (i := 41) rfl))) (by decide) (t := .long) (t' := .int) (by decide) (by decide)))).other W4 (Or.inr (slot_ne (Or.inr (hw _ (List.mem_of_getElem? (i := 55) rfl))) (Or.inr (hw _ (List.mem_of_getElem? (i := 43) rfl))) (by decide) (t := .long) (t' := (.object "com/example/loadvane/loadvane/simulation/Group$Service")) (by decide) (by decide)))).other W5 (Or.inr (slot_ne (Or.inr (hw _ (List.mem_of_getElem? (i := 55) rfl))) (Or.inr (hw _ (List.mem_of_getElem? (i := 45) rfl))) (by decide) (t := .long) (t' := .long) (by decide) (by decide)))).other W6 (Or.inr (slot_ne (Or.inr (hw _ (List.mem_of_getElem? (i := 55) rfl))) (Or.inr (hw _ (List.mem_of_getElem? (i := 47) rfl))) (by decide) (t := .long) (t' := .int) (by decide) (by decide)))).other W7 (Or.inr (slot_ne (Or.inr (hw _ (List.mem_of_getElem? (i := 55) rfl))) (Or.inr (hw _ (List.mem_of_getElem? (i := 49) rfl))) (by decide) (t := .long) (t' := .int) (by decide) (by decide)))).other W8 (Or.inr (slot_ne (Or.inr (hw _ (List.mem_of_getElem? (i := 55) rfl))) (Or.inr (hw _ (List.mem_of_getElem? (i := 51) rfl))) (by decide) (t := .long) (t' := .double) (by decide) (by decide)))).other W9 (Or.inr (slot_ne (Or.inr (hw _ (List.mem_of_getElem? (i := 55) rfl))) (Or.inr (hw _ (List.mem_of_getElem? (i := 53) rfl))) (by decide) (t := .long) (t' := .long) (by decide) (by decide)))) E_9 (Or.inr ⟨(hw _ (List.mem_of_getElem? (i := 55) rfl)), rfl, rfl⟩) (hw _ (List.mem_of_getElem? (i := 27) rfl)) (ty := .long) (by decide) rfl rfl g_a own_d5_52 rfl ?_
  intro h10 W10
  have Z10 : n0 ≤ h10.size := by rw [W10.size]; exact Z9
  have Fw_downUntilNanos_a_10 := ((((((((F8.other W2 (Or.inr (slot_ne (Or.inr (hw _ (List.mem_of_getElem? (i := 55) rfl))) (Or.inr (hw _ (List.mem_of_getElem? (i := 39) rfl))) (by decide) (t := .long) (t' := (.object "java/lang/String")) (by decide) (by decide)))).other W3 (Or.inr (slot_ne (Or.inr (hw _ (List.mem_of_getElem? (i := 55) rfl))) (Or.inr (hw _ (List.mem_of_getElem? (i := 41) rfl))) (by decide) (t := .long) (t' := .int) (by decide) (by decide)))).other W4 (Or.inr (slot_ne (Or.inr (hw _ (List.mem_of_getElem? (i := 55) rfl))) (Or.inr (hw _ (List.mem_of_getElem? (i := 43) rfl))) (by decide) (t := .long) (t' := (.object "com/example/loadvane/loadvane/simulation/Group$Service")) (by decide) (by decide)))).other W5 (Or.inr (slot_ne (Or.inr (hw _ (List.mem_of_getElem? (i := 55) rfl))) (Or.inr (hw _ (List.mem_of_getElem? (i := 45) rfl))) (by decide) (t := .long) (t' := .long) (by decide) (by decide)))).other W6 (Or.inr (slot_ne (Or.inr (hw _ (List.mem_of_getElem? (i := 55) rfl))) (Or.inr (hw _ (List.mem_of_getElem? (i := 47) rfl))) (by decide) (t := .long) (t' := .int) (by decide) (by decide)))).other W7 (Or.inr (slot_ne (Or.inr (hw _ (List.mem_of_getElem? (i := 55) rfl))) (Or.inr (hw _ (List.mem_of_getElem? (i := 49) rfl))) (by decide) (t := .long) (t' := .int) (by decide) (by decide)))).other W8 (Or.inr (slot_ne (Or.inr (hw _ (List.mem_of_getElem? (i := 55) rfl))) (Or.inr (hw _ (List.mem_of_getElem? (i := 51) rfl))) (by decide) (t := .long) (t' := .double) (by decide) (by decide)))).other W9 (Or.inr (slot_ne (Or.inr (hw _ (List.mem_of_getElem? (i := 55) rfl))) (Or.inr (hw _ (List.mem_of_getElem? (i := 53) rfl))) (by decide) (t := .long) (t' := .long) (by decide) (by decide)))).same W10
  have E_10 := E_9.wr W10
  have Fw_count_a_10 := Fw_count_a_9.other W10 (Or.inr (slot_ne (Or.inr (hw _ (List.mem_of_getElem? (i := 41) rfl))) (Or.inr (hw _ (List.mem_of_getElem? (i := 55) rfl))) (by decide) (t := .int) (t' := .long) (by decide) (by decide)))
  have Kp10 : Keep h0 h10 [a] := Kp9.wr W10 (Or.inl (List.mem_of_getElem? (i := 0) rfl))
  refine OGo.aloadN K (pc' := 56) own_d5_55 rfl rfl rfl ?_
  refine OGo.lload K (pc' := 58) own_d5_56 rfl rfl ?_
  refine OGo.putF K (pc' := 61) (host := "") (Or.inl (hw _ (List.mem_of_getElem? (i := 56) rfl))) Via.refl (((((((((F9.other W2 (Or.inr (slot_ne (Or.inr (hw _ (List.mem_of_getElem? (i := 57) rfl))) (Or.inr (hw _ (List.mem_of_getElem? (i := 39) rfl))) (by decide) (t := .long) (t' := (.object "java/lang/String")) (by decide) (by decide)))).other W3 (Or.inr (slot_ne (Or.inr (hw _ (List.mem_of_getElem? (i := 57) rfl))) (Or.inr (hw _ (List.mem_of_getElem? (i := 41) rfl))) (by decide) (t := .long) (t' := .int) (by decide) (by decide)))).other W4 (Or.inr (slot_ne (Or.inr (hw _ (List.mem_of_getElem? (i := 57) rfl))) (Or.inr (hw _ (List.mem_of_getElem? (i := 43) rfl))) (by decide) (t := .long) (t' := (.object "com/example/loadvane/loadvane/simulation/Group$Service")) (by decide) (by decide)))).other W5 (Or.inr (slot_ne (Or.inr (hw _ (List.mem_of_getElem? (i := 57) rfl))) (Or.inr (hw _ (List.mem_of_getElem? (i := 45) rfl))) (by decide) (t := .long) (t' := .long) (by decide) (by decide)))).other W6 (Or.inr (slot_ne (Or.inr (hw _ (List.mem_of_getElem? (i := 57) rfl))) (Or.inr (hw _ (List.mem_of_getElem? (i := 47) rfl))) (by decide) (t := .long) (t' := .int) (by decide) (by decide)))).other W7 (Or.inr (slot_ne (Or.inr (hw _ (List.mem_of_getElem? (i := 57) rfl))) (Or.inr (hw _ (List.mem_of_getElem? (i := 49) rfl))) (by decide) (t := .long) (t' := .int) (by decide) (by decide)))).other W8 (Or.inr (slot_ne (Or.inr (hw _ (List.mem_of_getElem? (i := 57) rfl))) (Or.inr (hw _ (List.mem_of_getElem? (i := 51) rfl))) (by decide) (t := .long) (t' := .double) (by decide) (by decide)))).other W9 (Or.inr (slot_ne (Or.inr (hw _ (List.mem_of_getElem? (i := 57) rfl))) (Or.inr (hw _ (List.mem_of_getElem? (i := 53) rfl))) (by decide) (t := .long) (t' := .long) (by decide) (by decide)))).other W10 (Or.inr (slot_ne (Or.inr (hw _ (List.mem_of_getElem? (i := 57) rfl))) (Or.inr (hw _ (List.mem_of_getElem? (i := 55) rfl))) (by decide) (t := .long) (t' := .long) (by decide) (by decide)))) E_10 (Or.inr ⟨(hw _ (List.mem_of_getElem? (i := 57) rfl)), rfl, rfl⟩) (hw _ (List.mem_of_getElem? (i := 27) rfl)) (ty := .long) (by decide) rfl rfl g_a own_d5_58 rfl ?_
  intro h11 W11
  have Z11 : n0 ≤ h11.size := by rw [W11.size]; exact Z10
  have Fw_startNanos_a_11 := (((((((((F9.other W2 (Or.inr (slot_ne (Or.inr (hw _ (List.mem_of_getElem? (i := 57) rfl))) (Or.inr (hw _ (List.mem_of_getElem? (i := 39) rfl))) (by decide) (t := .long) (t' := (.object "java/lang/String")) (by decide) (by decide)))).other W3 (Or.inr (slot_ne (Or.inr (hw _ (List.mem_of_getElem? (i := 57) rfl))) (Or.inr (hw _ (List.mem_of_getElem? (i := 41) rfl))) (by decide) (t := .long) (t' := .int) (by decide) (by decide)))).other W4 (Or.inr (slot_ne (Or.inr (hw _ (List.mem_of_getElem? (i := 57) rfl))) (Or.inr (hw _ (List.mem_of_getElem? (i := 43) rfl))) (by decide) (t := .long) (t' := (.object "com/example/loadvane/loadvane/simulation/Group$Service")) (by decide) (by decide)))).other W5 (Or.inr (slot_ne (Or.inr (hw _ (List.mem_of_getElem? (i := 57) rfl))) (Or.inr (hw _ (List.mem_of_getElem? (i := 45) rfl))) (by decide) (t := .long) (t' := .long) (by decide) (by decide)))).other W6 (Or.inr (slot_ne (Or.inr (hw _ (List.mem_of_getElem? (i := 57) rfl))) (Or.inr (hw _ (List.mem_of_getElem? (i := 47) rfl))) (by decide) (t := .long) (t' := .int) (by decide) (by decide)))).other W7 (Or.inr (slot_ne (Or.inr (hw _ (List.mem_of_getElem? (i := 57) rfl))) (Or.inr (hw _ (List.mem_of_getElem? (i := 49) rfl))) (by decide) (t := .long) (t' := .int) (by decide) (by decide)))).other W8 (Or.inr (slot_ne (Or.inr (hw _ (List.mem_of_getElem? (i := 57) rfl))) (Or.inr (hw _ (List.mem_of_getElem? (i := 51) rfl))) (by decide) (t := .long) (t' := .double) (by decide) (by decide)))).other W9 (Or.inr (slot_ne (Or.inr (hw _ (List.mem_of_getElem? (i := 57) rfl))) (Or.inr (hw _ (List.mem_of_getElem? (i := 53) rfl))) (by decide) (t := .long) (t' := .long) (by decide) (by decide)))).other W10 (Or.inr (slot_ne (Or.inr (hw _ (List.mem_of_getElem? (i := 57) rfl))) (Or.inr (hw _ (List.mem_of_getElem? (i := 55) rfl))) (by decide) (t := .long) (t' := .long) (by decide) (by decide)))).same W11
  have E_11 := E_10.wr W11
  have Fw_count_a_11 := Fw_count_a_10.other W11 (Or.inr (slot_ne (Or.inr (hw _ (List.mem_of_getElem? (i := 41) rfl))) (Or.inr (hw _ (List.mem_of_getElem? (i := 57) rfl))) (by decide) (t := .int) (t' := .long) (by decide) (by decide)))
  have Kp11 : Keep h0 h11 [a] := Kp10.wr W11 (Or.inl (List.mem_of_getElem? (i := 0) rfl))
  refine OGo.aloadN K (pc' := 62) own_d5_61 rfl rfl rfl ?_
  refine OGo.lload K (pc' := 64) own_d5_62 rfl rfl ?_
  refine OGo.putF K (pc' := 67) (host := "") (Or.inl (hw _ (List.mem_of_getElem? (i := 58) rfl))) Via.refl ((((((((((F10.other W2 (Or.inr (slot_ne (Or.inr (hw _ (List.mem_of_getElem? (i := 59) rfl))) (Or.inr (hw _ (List.mem_of_getElem? (i := 39) rfl))) (by decide) (t := .long) (t' := (.object "java/lang/String")) (by decide) (by decide)))).other W3 (Or.inr (slot_ne (Or.inr (hw _ (List.mem_of_getElem? (i := 59) rfl))) (Or.inr (hw _ (List.mem_of_getElem? (i := 41) rfl))) (by decide) (t := .long) (t' := .int) (by decide) (by decide)))).other W4 (Or.inr (slot_ne (Or.inr (hw _ (List.mem_of_getElem? (i := 59) rfl))) (Or.inr (hw _ (List.mem_of_getElem? (i := 43) rfl))) (by decide) (t := .long) (t' := (.object "com/example/loadvane/loadvane/simulation/Group$Service")) (by decide) (by decide)))).other W5 (Or.inr (slot_ne (Or.inr (hw _ (List.mem_of_getElem? (i := 59) rfl))) (Or.inr (hw _ (List.mem_of_getElem? (i := 45) rfl))) (by decide) (t := .long) (t' := .long) (by decide) (by decide)))).other W6 (Or.inr (slot_ne (Or.inr (hw _ (List.mem_of_getElem? (i := 59) rfl))) (Or.inr (hw _ (List.mem_of_getElem? (i := 47) rfl))) (by decide) (t := .long) (t' := .int) (by decide) (by decide)))).other W7 (Or.inr (slot_ne (Or.inr (hw _ (List.mem_of_getElem? (i := 59) rfl))) (Or.inr (hw _ (List.mem_of_getElem? (i := 49) rfl))) (by decide) (t := .long) (t' := .int) (by decide) (by decide)))).other W8 (Or.inr (slot_ne (Or.inr (hw _ (List.mem_of_getElem? (i := 59) rfl))) (Or.inr (hw _ (List.mem_of_getElem? (i := 51) rfl))) (by decide) (t := .long) (t' := .double) (by decide) (by decide)))).other W9 (Or.inr (slot_ne (Or.inr (hw _ (List.mem_of_getElem? (i := 59) rfl))) (Or.inr (hw _ (List.mem_of_getElem? (i := 53) rfl))) (by decide) (t := .long) (t' := .long) (by decide) (by decide)))).other W10 (Or.inr (slot_ne (Or.inr (hw _ (List.mem_of_getElem? (i := 59) rfl))) (Or.inr (hw _ (List.mem_of_getElem? (i := 55) rfl))) (by decide) (t := .long) (t' := .long) (by decide) (by decide)))).other W11 (Or.inr (slot_ne (Or.inr (hw _ (List.mem_of_getElem? (i := 59) rfl))) (Or.inr (hw _ (List.mem_of_getElem? (i := 57) rfl))) (by decide) (t := .long) (t' := .long) (by decide) (by decide)))) E_11 (Or.inr ⟨(hw _ (List.mem_of_getElem? (i := 59) rfl)), rfl, rfl⟩) (hw _ (List.mem_of_getElem? (i := 27) rfl)) (ty := .long) (by decide) rfl rfl g_a own_d5_64 rfl ?_
  intro h12 W12
  have Z12 : n0 ≤ h12.size := by rw [W12.size]; exact Z11
  have Fw_slowFromNanos_a_12 := ((((((((((F10.other W2 (Or.inr (slot_ne (Or.inr (hw _ (List.mem_of_getElem? (i := 59) rfl))) (Or.inr (hw _ (List.mem_of_getElem? (i := 39) rfl))) (by decide) (t := .long) (t' := (.object "java/lang/String")) (by decide) (by decide)))).other W3 (Or.inr (slot_ne (Or.inr (hw _ (List.mem_of_getElem? (i := 59) rfl))) (Or.inr (hw _ (List.mem_of_getElem? (i := 41) rfl))) (by decide) (t := .long) (t' := .int) (by decide) (by decide)))).other W4 (Or.inr (slot_ne (Or.inr (hw _ (List.mem_of_getElem? (i := 59) rfl))) (Or.inr (hw _ (List.mem_of_getElem? (i := 43) rfl))) (by decide) (t := .long) (t' := (.object "com/example/loadvane/loadvane/simulation/Group$Service")) (by decide) (by decide)))).other W5 (Or.inr (slot_ne (Or.inr (hw _ (List.mem_of_getElem? (i := 59) rfl))) (Or.inr (hw _ (List.mem_of_getElem? (i := 45) rfl))) (by decide) (t := .long) (t' := .long) (by decide) (by decide)))).other W6 (Or.inr (slot_ne (Or.inr (hw _ (List.mem_of_getElem? (i := 59) rfl))) (Or.inr (hw _ (List.mem_of_getElem? (i := 47) rfl))) (by decide) (t := .long) (t' := .int) (by decide) (by decide)))).other W7 (Or.inr (slot_ne (Or.inr (hw _ (List.mem_of_getElem? (i := 59) rfl))) (Or.inr (hw _ (List.mem_of_getElem? (i := 49) rfl))) (by decide) (t := .long) (t' := .int) (by decide) (by decide)))).other W8 (Or.inr (slot_ne (Or.inr (hw _ (List.mem_of_getElem? (i := 59) rfl))) (Or.inr (hw _ (List.mem_of_getElem? (i := 51) rfl))) (by decide) (t := .long) (t' := .double) (by decide) (by decide)))).other W9 (Or.inr (slot_ne (Or.inr (hw _ (List.mem_of_getElem? (i := 59) rfl))) (Or.inr (hw _ (List.mem_of_getElem? (i := 53) rfl))) (by decide) (t := .long) (t' := .long) (by decide) (by decide)))).other W10 (Or.inr (slot_ne (Or.inr (hw _ (List.mem_of_getElem? (i := 59) rfl))) (Or.inr (hw _ (List.mem_of_getElem? (i := 55) rfl))) (by decide) (t := .long) (t' := .long) (by decide) (by decide)))).other W11 (Or.inr (slot_ne (Or.inr (hw _ (List.mem_of_getElem? (i := 59) rfl))) (Or.inr (hw _ (List.mem_of_getElem? (i := 57) rfl))) (by decide) (t := .long) (t' := .long) (by decide) (by decide)))).same W12
  have E_12 := E_11.wr W12
  have Fw_count_a_12 := Fw_count_a_11.other W12 (Or.inr (slot_ne (Or.inr (hw _ (List.mem_of_getElem? (i := 41) rfl))) (Or.inr (hw _ (List.mem_of_getElem? (i := 59) rfl))) (by decide) (t := .int) (t' := .long) (by decide) (by decide)))
  have Kp12 : Keep h0 h12 [a] := Kp11.wr W12 (Or.inl (List.mem_of_getElem? (i := 0) rfl))
  refine OGo.aloadN K (pc' := 68) own_d5_67 rfl rfl rfl ?_
  refine OGo.lload K (pc' := 70) own_d5_68 rfl rfl ?_
  refine OGo.putF K (pc' := 73) (host := "") (Or.inl (hw _ (List.mem_of_getElem? (i := 60) rfl))) Via.refl (((((((((((F11.other W2 (Or.inr (slot_ne (Or.inr (hw _ (List.mem_of_getElem? (i := 61) rfl))) (Or.inr (hw _ (List.mem_of_getElem? (i := 39) rfl))) (by decide) (t := .long) (t' := (.object "java/lang/String")) (by decide) (by decide)))).other W3 (Or.inr (slot_ne (Or.inr (hw _ (List.mem_of_getElem? (i := 61) rfl))) (Or.inr (hw _ (List.mem_of_getElem? (i := 41) rfl))) (by decide) (t := .long) (t' := .int) (by decide) (by decide)))).other W4 (Or.inr (slot_ne (Or.inr (hw _ (List.mem_of_getElem? (i := 61) rfl))) (Or.inr (hw _ (List.mem_of_getElem? (i := 43) rfl))) (by decide) (t := .long) (t' := (.object "com/example/loadvane/loadvane/simulation/Group$Service")) (by decide) (by decide)))).other W5 (Or.inr (slot_ne (Or.inr (hw _ (List.mem_of_getElem? (i := 61) rfl))) (Or.inr (hw _ (List.mem_of_getElem? (i := 45) rfl))) (by decide) (t := .long) (t' := .long) (by decide) (by decide)))).other W6 (Or.inr (slot_ne (Or.inr (hw _ (List.mem_of_getElem? (i := 61) rfl))) (Or.inr (hw _ (List.mem_of_getElem? (i := 47) rfl))) (by decide) (t := .long) (t' := .int) (by decide) (by decide)))).other W7 (Or.inr (slot_ne (Or.inr (hw _ (List.mem_of_getElem? (i := 61) rfl))) (Or.inr (hw _ (List.mem_of_getElem? (i := 49) rfl))) (by decide) (t := .long) (t' := .int) (by decide) (by decide)))).other W8 (Or.inr (slot_ne (Or.inr (hw _ (List.mem_of_getElem? (i := 61) rfl))) (Or.inr (hw _ (List.mem_of_getElem? (i := 51) rfl))) (by decide) (t := .long) (t' := .double) (by decide) (by decide)))).other W9 (Or.inr (slot_ne (Or.inr (hw _ (List.mem_of_getElem? (i := 61) rfl))) (Or.inr (hw _ (List.mem_of_getElem? (i := 53) rfl))) (by decide) (t := .long) (t' := .long) (by decide) (by decide)))).other W10 (Or.inr (slot_ne (Or.inr (hw _ (List.mem_of_getElem? (i := 61) rfl))) (Or.inr (hw _ (List.mem_of_getElem? (i := 55) rfl))) (by decide) (t := .long) (t' := .long) (by decide) (by decide)))).other W11 (Or.inr (slot_ne (Or.inr (hw _ (List.mem_of_getElem? (i := 61) rfl))) (Or.inr (hw _ (List.mem_of_getElem? (i := 57) rfl))) (by decide) (t := .long) (t' := .long) (by decide) (by decide)))).other W12 (Or.inr (slot_ne (Or.inr (hw _ (List.mem_of_getElem? (i := 61) rfl))) (Or.inr (hw _ (List.mem_of_getElem? (i := 59) rfl))) (by decide) (t := .long) (t' := .long) (by decide) (by decide)))) E_12 (Or.inr ⟨(hw _ (List.mem_of_getElem? (i := 61) rfl)), rfl, rfl⟩) (hw _ (List.mem_of_getElem? (i := 27) rfl)) (ty := .long) (by decide) rfl rfl g_a own_d5_70 rfl ?_
  intro h13 W13
  have Z13 : n0 ≤ h13.size := by rw [W13.size]; exact Z12
  have Fw_slowServiceNanos_a_13 := (((((((((((F11.other W2 (Or.inr (slot_ne (Or.inr (hw _ (List.mem_of_getElem? (i := 61) rfl))) (Or.inr (hw _ (List.mem_of_getElem? (i := 39) rfl))) (by decide) (t := .long) (t' := (.object "java/lang/String")) (by decide) (by decide)))).other W3 (Or.inr (slot_ne (Or.inr (hw _ (List.mem_of_getElem? (i := 61) rfl))) (Or.inr (hw _ (List.mem_of_getElem? (i := 41) rfl))) (by decide) (t := .long) (t' := .int) (by decide) (by decide)))).other W4 (Or.inr (slot_ne (Or.inr (hw _ (List.mem_of_getElem? (i := 61) rfl))) (Or.inr (hw _ (List.mem_of_getElem? (i := 43) rfl))) (by decide) (t := .long) (t' := (.object "com/example/loadvane/loadvane/simulation/Group$Service")) (by decide) (by decide)))).other W5 (Or.inr (slot_ne (Or.inr (hw _ (List.mem_of_getElem? (i := 61) rfl))) (Or.inr (hw _ (List.mem_of_getElem? (i := 45) rfl))) (by decide) (t := .long) (t' := .long) (by decide) (by decide)))).other W6 (Or.inr (slot_ne (Or.inr (hw _ (List.mem_of_getElem? (i := 61) rfl))) (Or.inr (hw _ (List.mem_of_getElem? (i := 47) rfl))) (by decide) (t := .long) (t' := .int) (by decide) (by decide)))).other W7 (Or.inr (slot_ne (Or.inr (hw _ (List.mem_of_getElem? (i := 61) rfl))) (Or.inr (hw _ (List.mem_of_getElem? (i := 49) rfl))) (by decide) (t := .long) (t' := .int) (by decide) (by decide)))).other W8 (Or.inr (slot_ne (Or.inr (hw _ (List.mem_of_getElem? (i := 61) rfl))) (Or.inr (hw _ (List.mem_of_getElem? (i := 51) rfl))) (by decide) (t := .long) (t' := .double) (by decide) (by decide)))).other W9 (Or.inr (slot_ne (Or.inr (hw _ (List.mem_of_getElem? (i := 61) rfl))) (Or.inr (hw _ (List.mem_of_getElem? (i := 53) rfl))) (by decide) (t := .long) (t' := .long) (by decide) (by decide)))).other W10 (Or.inr (slot_ne (Or.inr (hw _ (List.mem_of_getElem? (i := 61) rfl))) (Or.inr (hw _ (List.mem_of_getElem? (i := 55) rfl))) (by decide) (t := .long) (t' := .long) (by decide) (by decide)))).other W11 (Or.inr (slot_ne (Or.inr (hw _ (List.mem_of_getElem? (i := 61) rfl))) (Or.inr (hw _ (List.mem_of_getElem? (i := 57) rfl))) (by decide) (t := .long) (t' := .long) (by decide) (by decide)))).other W12 (Or.inr (slot_ne (Or.inr (hw _ (List.mem_of_getElem? (i := 61) rfl))) (Or.inr (hw _ (List.mem_of_getElem? (i := 59) rfl))) (by decide) (t := .long) (t' := .long) (by decide) (by decide)))).same W13
  have E_13 := E_12.wr W13
  have Fw_count_a_13 := Fw_count_a_12.other W13 (Or.inr (slot_ne (Or.inr (hw _ (List.mem_of_getElem? (i := 41) rfl))) (Or.inr (hw _ (List.mem_of_getElem? (i := 61) rfl))) (by decide) (t := .int) (t' := .long) (by decide) (by decide)))
  have Kp13 : Keep h0 h13 [a] := Kp12.wr W13 (Or.inl (List.mem_of_getElem? (i := 0) rfl))
  exact OGo.vret K own_d5_73 (by decide) (by decide) ⟨rfl, Kp13, Fw_count_a_13⟩
set_option maxRecDepth 65536 in
set_option maxHeartbeats 40000000 in
theorem own_rm18 (l : Launch) (Z : State) (a0 : Array Value) (hw : ∀ d ∈ tables_1, d.before a0 Z = true) (a : Addr) (u : Int32) (h0 : Heap) (n0 : Nat) (Z0 : n0 ≤ h0.size) (F : Fld Z h0 a "com/example/loadvane/loadvane/simulation/Group" "count" "I" (.int u)) :
    OCon l Z n0 (⟨"com/example/loadvane/loadvane/simulation/Group", "count", "()I"⟩ : MethodName) prog_44_method_8_code 1 (some .int) [] ({ frames := 0, cells := 0, slots := 0, locals := 0 } : Room) #[(.ref a)] h0 (OV fun w h => w = .int u ∧ h = h0) := by
  refine OCon.of (Ls := #[.val (.ref a)]) (plainFor_of_name own_pn_5) (fun m => own_entry m rfl) ?_
  intro p e s m below meth c K
  refine OGo.aloadN K (pc' := 1) own_d18_0 rfl rfl rfl ?_
  refine OGo.getF K (pc' := 4) (host := "") (Or.inl (hw _ (List.mem_of_getElem? (i := 40) rfl))) Via.refl F own_d18_1 rfl ?_
  exact OGo.iret K own_d18_4 (by decide) (by decide) ⟨_, rfl, rfl, rfl⟩
set_option maxRecDepth 65536 in
set_option maxHeartbeats 40000000 in
theorem own_rm12 (l : Launch) (Z : State) (a0 : Array Value) (hw : ∀ d ∈ tables_1, d.before a0 Z = true) (t a x g1 g2 : Addr) (fr to : Int64) (A B : Nat) (h0 : Heap) (n0 : Nat) (Z0 : n0 ≤ h0.size) (E : Exa Z h0 t "com/example/loadvane/loadvane/simulation/Tally") (F_latencies : Fld Z h0 t "com/example/loadvane/loadvane/simulation/Tally" "latencies" "[J" .null) (F_sorted : Fld Z h0 t "com/example/loadvane/loadvane/simulation/Tally" "sorted" "Z" (.int (0 : Int32))) (F_groupStarts : Fld Z h0 t "com/example/loadvane/loadvane/simulation/Tally" "groupStarts" "[I" .null) (F_sent : Fld Z h0 t "com/example/loadvane/loadvane/simulation/Tally" "sent" "[J" .null) (F_succeeded : Fld Z h0 t "com/example/loadvane/loadvane/simulation/Tally" "succeeded" "[J" .null) (F_probationMax : Fld Z h0 t "com/example/loadvane/loadvane/simulation/Tally" "probationMax" "[I" .null) (F_overLimit : Fld Z h0 t "com/example/loadvane/loadvane/simulation/Tally" "overLimit" "[J" .null) (F_clients : Fld Z h0 t "com/example/loadvane/loadvane/simulation/Tally" "clients" "[I" .null) (F_measureFrom : Fld Z h0 t "com/example/loadvane/loadvane/simulation/Tally" "measureFrom" "J" (.long (0 : Int64))) (F_measureTo : Fld Z h0 t "com/example/loadvane/loadvane/simulation/Tally" "measureTo" "J" (.long (0 : Int64))) (F_requests : Fld Z h0 t "com/example/loadvane/loadvane/simulation/Tally" "requests" "J" (.long (0 : Int64))) (g_t : n0 ≤ t) (L : OAL1 Z n0 h0 a x [g1, g2]) (Eg1 : Exa Z h0 g1 "com/example/loadvane/loadvane/simulation/Group") (Eg2 : Exa Z h0 g2 "com/example/loadvane/loadvane/simulation/Group") (Fg1 : Fld Z h0 g1 "com/example/loadvane/loadvane/simulation/Group" "count" "I" (.int (Int32.ofNat A))) (Fg2 : Fld Z h0 g2 "com/example/loadvane/loadvane/simulation/Group" "count" "I" (.int (Int32.ofNat B))) (nta : t ≠ a) (ntx : t ≠ x) (nt1 : t ≠ g1) (nt2 : t ≠ g2) (hA : A ≤ 2) (hB : B ≤ 2) :
    OCon l Z n0 (⟨"com/example/loadvane/loadvane/simulation/Tally", "<init>", "(Ljava/util/List;JJ)V"⟩ : MethodName) prog_58_method_1_code 7 none [] ({ frames := 3, cells := 7, slots := 1047, locals := 43 } : Room) #[(.ref t), (.ref a), (.long fr), (.long to)] h0 (ON fun h => ∃ gs st, OTL Z n0 h t gs st fr to A B [] ∧ Keep h0 h [t]) := by
  refine OCon.of (Ls := #[.val (.ref t), .val (.ref a), .val (.long fr), .second, .val (.long to), .second, .unset]) (plainFor_of_name own_pn_12) (fun m => own_entry m rfl) ?_
  intro p e s m below meth c K
  obtain ⟨hN1, hN2⟩ := own_nn (n := A + B) (by omega)
  refine OGo.aloadN K (pc' := 1) own_d12_0 rfl rfl rfl ?_
  refine OGo.initO K (pc' := 4) (W := 0) (hw _ (List.mem_of_getElem? (i := 99) rfl)) (hw _ (List.mem_of_getElem? (i := 19) rfl)) (hw _ (List.mem_of_getElem? (i := 20) rfl)) own_d12_1 rfl rfl (by show 2 * 0 + _ ≤ _; exact Nat.le_of_eq rfl) (by decide) (by decide) ?_
  refine OGo.aloadN K (pc' := 5) own_d12_4 rfl rfl rfl ?_
  refine OGo.sipush K (pc' := 8) (z := 1024) own_d12_5 rfl rfl ?_
  refine OGo.newP K (pc' := 10) (cap := 1024) (cells' := 1) (slots' := 1024) (hw _ (List.mem_of_getElem? (i := 100) rfl)) own_d12_8 rfl (by decide) (by decide) (by decide) rfl rfl (by decide) (by decide) ?_
  intro h1 lat k_lat gq1 E1 V_lat
  have ne_t_lat : t ≠ lat := Nat.ne_of_lt (Nat.lt_of_lt_of_le E.lt (Nat.le_of_eq gq1.symm))
  have ne_a_lat : a ≠ lat := Nat.ne_of_lt (Nat.lt_of_lt_of_le (OAL1.lta L) (Nat.le_of_eq gq1.symm))
  have ne_x_lat : x ≠ lat := Nat.ne_of_lt (Nat.lt_of_lt_of_le (OAL1.ltx L) (Nat.le_of_eq gq1.symm))
  have ne_g1_lat : g1 ≠ lat := Nat.ne_of_lt (Nat.lt_of_lt_of_le Eg1.lt (Nat.le_of_eq gq1.symm))
  have ne_g2_lat : g2 ≠ lat := Nat.ne_of_lt (Nat.lt_of_lt_of_le Eg2.lt (Nat.le_of_eq gq1.symm))
  have g_lat : n0 ≤ lat := Nat.le_trans Z0 (Nat.le_of_eq gq1.symm)
  have sz_lat : h0.size ≤ lat := Nat.le_trans (Keep.refl h0 [t]).1 (Nat.le_of_eq gq1.symm)
  have Z1 : n0 ≤ h1.size := Nat.le_trans Z0 E1.1
  have Kp1 : Keep h0 h1 [t] := (Keep.refl h0 [t]).ext E1
  have E_1 := E.ext E1
  have L_1 := OAL1.keep L (own_keep_ext E1) nin0 nin0
  have Eg1_1 := Eg1.ext E1
  have Eg2_1 := Eg2.ext E1
  have Fg1_1 := Fg1.ext E1
  have Fg2_1 := Fg2.ext E1
  have F_latencies_1 := F_latencies.ext E1
  have F_sorted_1 := F_sorted.ext E1
  have F_groupStarts_1 := F_groupStarts.ext E1
  have F_sent_1 := F_sent.ext E1
  have F_succeeded_1 := F_succeeded.ext E1
  have F_probationMax_1 := F_probationMax.ext E1
  have F_overLimit_1 := F_overLimit.ext E1
  have F_clients_1 := F_clients.ext E1
  have F_measureFrom_1 := F_measureFrom.ext E1
  have F_measureTo_1 := F_measureTo.ext E1
  have F_requests_1 := F_requests.ext E1
  refine OGo.putF K (pc' := 13) (host := "") (Or.inl (hw _ (List.mem_of_getElem? (i := 101) rfl))) Via.refl F_latencies_1 E_1 (Or.inl (hw _ (List.mem_of_getElem? (i := 102) rfl))) (hw _ (List.mem_of_getElem? (i := 94) rfl)) (ty := (.array .long)) (by decide) rfl rfl g_t own_d12_10 rfl ?_
  intro h2 W2
  have Z2 : n0 ≤ h2.size := by rw [W2.size]; exact Z1
  have Fw_latencies_t_2 := F_latencies_1.same W2
  have E_2 := E_1.wr W2
  have L_2 := OAL1.keep L_1 (Keep.of_wr W2) (ninS (Ne.symm nta) nin0) (ninS (Ne.symm ntx) nin0)
  have Eg1_2 := Eg1_1.wr W2
  have Eg2_2 := Eg2_1.wr W2
  have Fg1_2 := Fg1_1.other W2 (Or.inl (Ne.symm nt1))
  have Fg2_2 := Fg2_1.other W2 (Or.inl (Ne.symm nt2))
  have F_sorted_2 := F_sorted_1.other W2 (Or.inr (slot_ne (Or.inl (hw _ (List.mem_of_getElem? (i := 104) rfl))) (Or.inl (hw _ (List.mem_of_getElem? (i := 102) rfl))) (by decide) (t := .boolean) (t' := (.array .long)) (by decide) (by decide)))
  have F_groupStarts_2 := F_groupStarts_1.other W2 (Or.inr (slot_ne (Or.inr (hw _ (List.mem_of_getElem? (i := 116) rfl))) (Or.inl (hw _ (List.mem_of_getElem? (i := 102) rfl))) (by decide) (t := (.array .int)) (t' := (.array .long)) (by decide) (by decide)))
  have F_sent_2 := F_sent_1.other W2 (Or.inr (slot_ne (Or.inr (hw _ (List.mem_of_getElem? (i := 146) rfl))) (Or.inl (hw _ (List.mem_of_getElem? (i := 102) rfl))) (by decide) (t := (.array .long)) (t' := (.array .long)) (by decide) (by decide)))
  have F_succeeded_2 := F_succeeded_1.other W2 (Or.inr (slot_ne (Or.inr (hw _ (List.mem_of_getElem? (i := 148) rfl))) (Or.inl (hw _ (List.mem_of_getElem? (i := 102) rfl))) (by decide) (t := (.array .long)) (t' := (.array .long)) (by decide) (by decide)))
  have F_probationMax_2 := F_probationMax_1.other W2 (Or.inr (slot_ne (Or.inr (hw _ (List.mem_of_getElem? (i := 150) rfl))) (Or.inl (hw _ (List.mem_of_getElem? (i := 102) rfl))) (by decide) (t := (.array .int)) (t' := (.array .long)) (by decide) (by decide)))
  have F_overLimit_2 := F_overLimit_1.other W2 (Or.inr (slot_ne (Or.inr (hw _ (List.mem_of_getElem? (i := 152) rfl))) (Or.inl (hw _ (List.mem_of_getElem? (i := 102) rfl))) (by decide) (t := (.array .long)) (t' := (.array .long)) (by decide) (by decide)))
  have F_clients_2 := F_clients_1.other W2 (Or.inr (slot_ne (Or.inr (hw _ (List.mem_of_getElem? (i := 154) rfl))) (Or.inl (hw _ (List.mem_of_getElem? (i := 102) rfl))) (by decide) (t := (.array .int)) (t' := (.array .long)) (by decide) (by decide)))
  have F_measureFrom_2 := F_measureFrom_1.other W2 (Or.inr (slot_ne (Or.inr (hw _ (List.mem_of_getElem? (i := 156) rfl))) (Or.inl (hw _ (List.mem_of_getElem? (i := 102) rfl))) (by decide) (t := .long) (t' := (.array .long)) (by decide) (by decide)))
  have F_measureTo_2 := F_measureTo_1.other W2 (Or.inr (slot_ne (Or.inr (hw _ (List.mem_of_getElem? (i := 158) rfl))) (Or.inl (hw _ (List.mem_of_getElem? (i := 102) rfl))) (by decide) (t := .long) (t' := (.array .long)) (by decide) (by decide)))
  have F_requests_2 := F_requests_1.other W2 (Or.inr (slot_ne (Or.inl (hw _ (List.mem_of_getElem? (i := 174) rfl))) (Or.inl (hw _ (List.mem_of_getElem? (i := 102) rfl))) (by decide) (t := .long) (t' := (.array .long)) (by decide) (by decide)))
  have Kp2 : Keep h0 h2 [t] := Kp1.wr W2 (Or.inl (List.mem_of_getElem? (i := 0) rfl))
  refine OGo.aloadN K (pc' := 14) own_d12_13 rfl rfl rfl ?_
  refine OGo.iconst K (pc' := 15) (z := 1) own_d12_14 rfl rfl ?_
  refine OGo.putFN K (pc' := 18) (hw _ (List.mem_of_getElem? (i := 103) rfl)) Via.refl F_sorted_2 E_2 (Or.inl (hw _ (List.mem_of_getElem? (i := 104) rfl))) (hw _ (List.mem_of_getElem? (i := 94) rfl)) (ty := .boolean) (v' := (.int (1 : Int32))) (by decide) rfl rfl g_t own_d12_15 rfl ?_
  intro h3 W3
  have Z3 : n0 ≤ h3.size := by rw [W3.size]; exact Z2
  have Fw_sorted_t_3 := F_sorted_2.same W3
  have E_3 := E_2.wr W3
  have L_3 := OAL1.keep L_2 (Keep.of_wr W3) (ninS (Ne.symm nta) nin0) (ninS (Ne.symm ntx) nin0)
  have Eg1_3 := Eg1_2.wr W3
  have Eg2_3 := Eg2_2.wr W3
  have Fg1_3 := Fg1_2.other W3 (Or.inl (Ne.symm nt1))
  have Fg2_3 := Fg2_2.other W3 (Or.inl (Ne.symm nt2))
  have F_groupStarts_3 := F_groupStarts_2.other W3 (Or.inr (slot_ne (Or.inr (hw _ (List.mem_of_getElem? (i := 116) rfl))) (Or.inl (hw _ (List.mem_of_getElem? (i := 104) rfl))) (by decide) (t := (.array .int)) (t' := .boolean) (by decide) (by decide)))
  have F_sent_3 := F_sent_2.other W3 (Or.inr (slot_ne (Or.inr (hw _ (List.mem_of_getElem? (i := 146) rfl))) (Or.inl (hw _ (List.mem_of_getElem? (i := 104) rfl))) (by decide) (t := (.array .long)) (t' := .boolean) (by decide) (by decide)))
  have F_succeeded_3 := F_succeeded_2.other W3 (Or.inr (slot_ne (Or.inr (hw _ (List.mem_of_getElem? (i := 148) rfl))) (Or.inl (hw _ (List.mem_of_getElem? (i := 104) rfl))) (by decide) (t := (.array .long)) (t' := .boolean) (by decide) (by decide)))
  have F_probationMax_3 := F_probationMax_2.other W3 (Or.inr (slot_ne (Or.inr (hw _ (List.mem_of_getElem? (i := 150) rfl))) (Or.inl (hw _ (List.mem_of_getElem? (i := 104) rfl))) (by decide) (t := (.array .int)) (t' := .boolean) (by decide) (by decide)))
  have F_overLimit_3 := F_overLimit_2.other W3 (Or.inr (slot_ne (Or.inr (hw _ (List.mem_of_getElem? (i := 152) rfl))) (Or.inl (hw _ (List.mem_of_getElem? (i := 104) rfl))) (by decide) (t := (.array .long)) (t' := .boolean) (by decide) (by decide)))
  have F_clients_3 := F_clients_2.other W3 (Or.inr (slot_ne (Or.inr (hw _ (List.mem_of_getElem? (i := 154) rfl))) (Or.inl (hw _ (List.mem_of_getElem? (i := 104) rfl))) (by decide) (t := (.array .int)) (t' := .boolean) (by decide) (by decide)))
  have F_measureFrom_3 := F_measureFrom_2.other W3 (Or.inr (slot_ne (Or.inr (hw _ (List.mem_of_getElem? (i := 156) rfl))) (Or.inl (hw _ (List.mem_of_getElem? (i := 104) rfl))) (by decide) (t := .long) (t' := .boolean) (by decide) (by decide)))
  have F_measureTo_3 := F_measureTo_2.other W3 (Or.inr (slot_ne (Or.inr (hw _ (List.mem_of_getElem? (i := 158) rfl))) (Or.inl (hw _ (List.mem_of_getElem? (i := 104) rfl))) (by decide) (t := .long) (t' := .boolean) (by decide) (by decide)))
  have F_requests_3 := F_requests_2.other W3 (Or.inr (slot_ne (Or.inl (hw _ (List.mem_of_getElem? (i := 174) rfl))) (Or.inl (hw _ (List.mem_of_getElem? (i := 104) rfl))) (by decide) (t := .long) (t' := .boolean) (by decide) (by decide)))
  have Kp3 : Keep h0 h3 [t] := Kp2.wr W3 (Or.inl (List.mem_of_getElem? (i := 0) rfl))
  refine OGo.aloadN K (pc' := 19) own_d12_18 rfl rfl rfl ?_
  refine OGo.aloadN K (pc' := 20) own_d12_19 rfl rfl rfl ?_
  refine OGo.callFV K (pc' := 25) (y := (⟨"java/util/List", "size", "()I"⟩ : MethodName)) (z := (⟨"java/util/ArrayList", "size", "()I"⟩ : MethodName)) (a := a) (W := 1) (cells' := 1) (slots' := 1024) (argsL := []) (st := [(.ref t)]) L_3.1 (hw _ (List.mem_of_getElem? (i := 105) rfl)) (hw _ (List.mem_of_getElem? (i := 106) rfl)) (hw _ (List.mem_of_getElem? (i := 107) rfl)) (hw _ (List.mem_of_getElem? (i := 108) rfl)) (hw _ (List.mem_of_getElem? (i := 109) rfl)) (hw _ (List.mem_of_getElem? (i := 110) rfl)) (hw _ (List.mem_of_getElem? (i := 111) rfl)) (hw _ (List.mem_of_getElem? (i := 112) rfl)) (hw _ (List.mem_of_getElem? (i := 2) rfl)) (hw _ (List.mem_of_getElem? (i := 113) rfl)) (by decide) (own_al_size l Z a0 hw a 2 h3 n0 Z3 L_3.2.1) own_d12_20 rfl rfl (lenOf own_pd14 rfl) (by show 2 * 0 + _ ≤ _; exact Nat.le_of_eq rfl) (by decide) (by decide) rfl rfl (by decide) (by decide) ?_
  rintro _ h4 ⟨rfl, e4⟩
  rw [e4]
  show OGo p l e _ s m _ below meth c n0 _ h3 1 1024 25 #[.val (.ref t), .val (.ref a), .val (.long fr), .second, .val (.long to), .second, .unset] [(.int (2 : Int32)), (.ref t)]
  refine OGo.iconst K (pc' := 26) (z := 1) own_d12_25 rfl rfl ?_
  refine OGo.iadd K (pc' := 27) own_d12_26 rfl ?_
  rw [show ((2 : Int32) + (1 : Int32)) = (3 : Int32) from rfl]
  refine OGo.newP K (pc' := 29) (cap := 3) (cells' := 2) (slots' := 1027) (hw _ (List.mem_of_getElem? (i := 114) rfl)) own_d12_27 rfl (by decide) (by decide) (by decide) rfl rfl (by decide) (by decide) ?_
  intro h5 gs k_gs gq5 E5 V_gs
  have ne_t_gs : t ≠ gs := Nat.ne_of_lt (Nat.lt_of_lt_of_le E_3.lt (Nat.le_of_eq gq5.symm))
  have ne_a_gs : a ≠ gs := Nat.ne_of_lt (Nat.lt_of_lt_of_le (OAL1.lta L_3) (Nat.le_of_eq gq5.symm))
  have ne_x_gs : x ≠ gs := Nat.ne_of_lt (Nat.lt_of_lt_of_le (OAL1.ltx L_3) (Nat.le_of_eq gq5.symm))
  have ne_g1_gs : g1 ≠ gs := Nat.ne_of_lt (Nat.lt_of_lt_of_le Eg1_3.lt (Nat.le_of_eq gq5.symm))
  have ne_g2_gs : g2 ≠ gs := Nat.ne_of_lt (Nat.lt_of_lt_of_le Eg2_3.lt (Nat.le_of_eq gq5.symm))
  have g_gs : n0 ≤ gs := Nat.le_trans Z3 (Nat.le_of_eq gq5.symm)
  have sz_gs : h0.size ≤ gs := Nat.le_trans Kp3.1 (Nat.le_of_eq gq5.symm)
  have Z5 : n0 ≤ h5.size := Nat.le_trans Z3 E5.1
  have Kp5 : Keep h0 h5 [t] := Kp3.ext E5
  have E_5 := E_3.ext E5
  have L_5 := OAL1.keep L_3 (own_keep_ext E5) nin0 nin0
  have Eg1_5 := Eg1_3.ext E5
  have Eg2_5 := Eg2_3.ext E5
  have Fg1_5 := Fg1_3.ext E5
  have Fg2_5 := Fg2_3.ext E5
  have F_groupStarts_5 := F_groupStarts_3.ext E5
  have F_sent_5 := F_sent_3.ext E5
  have F_succeeded_5 := F_succeeded_3.ext E5
  have F_probationMax_5 := F_probationMax_3.ext E5
  have F_overLimit_5 := F_overLimit_3.ext E5
  have F_clients_5 := F_clients_3.ext E5
  have F_measureFrom_5 := F_measureFrom_3.ext E5
  have F_measureTo_5 := F_measureTo_3.ext E5
  have F_requests_5 := F_requests_3.ext E5
  replace V_gs : Arv Z h5 gs _ .int (3 : Int32) [.int 0, .int 0, .int 0] (.int 0) := V_gs.pad (pad_rep [] _ 3)
  refine OGo.putF K (pc' := 32) (host := "") (Or.inl (hw _ (List.mem_of_getElem? (i := 115) rfl))) Via.refl F_groupStarts_5 E_5 (Or.inr ⟨(hw _ (List.mem_of_getElem? (i := 116) rfl)), rfl, rfl⟩) (hw _ (List.mem_of_getElem? (i := 94) rfl)) (ty := (.array .int)) (by decide) rfl rfl g_t own_d12_29 rfl ?_
  intro h6 W6
  have Z6 : n0 ≤ h6.size := by rw [W6.size]; exact Z5
  have Fw_groupStarts_t_6 := F_groupStarts_5.same W6
  have E_6 := E_5.wr W6
  have L_6 := OAL1.keep L_5 (Keep.of_wr W6) (ninS (Ne.symm nta) nin0) (ninS (Ne.symm ntx) nin0)
  have Eg1_6 := Eg1_5.wr W6
  have Eg2_6 := Eg2_5.wr W6
  have Fg1_6 := Fg1_5.other W6 (Or.inl (Ne.symm nt1))
  have Fg2_6 := Fg2_5.other W6 (Or.inl (Ne.symm nt2))
  have F_sent_6 := F_sent_5.other W6 (Or.inr (slot_ne (Or.inr (hw _ (List.mem_of_getElem? (i := 146) rfl))) (Or.inr (hw _ (List.mem_of_getElem? (i := 116) rfl))) (by decide) (t := (.array .long)) (t' := (.array .int)) (by decide) (by decide)))
  have F_succeeded_6 := F_succeeded_5.other W6 (Or.inr (slot_ne (Or.inr (hw _ (List.mem_of_getElem? (i := 148) rfl))) (Or.inr (hw _ (List.mem_of_getElem? (i := 116) rfl))) (by decide) (t := (.array .long)) (t' := (.array .int)) (by decide) (by decide)))
  have F_probationMax_6 := F_probationMax_5.other W6 (Or.inr (slot_ne (Or.inr (hw _ (List.mem_of_getElem? (i := 150) rfl))) (Or.inr (hw _ (List.mem_of_getElem? (i := 116) rfl))) (by decide) (t := (.array .int)) (t' := (.array .int)) (by decide) (by decide)))
  have F_overLimit_6 := F_overLimit_5.other W6 (Or.inr (slot_ne (Or.inr (hw _ (List.mem_of_getElem? (i := 152) rfl))) (Or.inr (hw _ (List.mem_of_getElem? (i := 116) rfl))) (by decide) (t := (.array .long)) (t' := (.array .int)) (by decide) (by decide)))
  have F_clients_6 := F_clients_5.other W6 (Or.inr (slot_ne (Or.inr (hw _ (List.mem_of_getElem? (i := 154) rfl))) (Or.inr (hw _ (List.mem_of_getElem? (i := 116) rfl))) (by decide) (t := (.array .int)) (t' := (.array .int)) (by decide) (by decide)))
  have F_measureFrom_6 := F_measureFrom_5.other W6 (Or.inr (slot_ne (Or.inr (hw _ (List.mem_of_getElem? (i := 156) rfl))) (Or.inr (hw _ (List.mem_of_getElem? (i := 116) rfl))) (by decide) (t := .long) (t' := (.array .int)) (by decide) (by decide)))
  have F_measureTo_6 := F_measureTo_5.other W6 (Or.inr (slot_ne (Or.inr (hw _ (List.mem_of_getElem? (i := 158) rfl))) (Or.inr (hw _ (List.mem_of_getElem? (i := 116) rfl))) (by decide) (t := .long) (t' := (.array .int)) (by decide) (by decide)))
  have F_requests_6 := F_requests_5.other W6 (Or.inr (slot_ne (Or.inl (hw _ (List.mem_of_getElem? (i := 174) rfl))) (Or.inr (hw _ (List.mem_of_getElem? (i := 116) rfl))) (by decide) (t := .long) (t' := (.array .int)) (by decide) (by decide)))
  have V_gs_6 := V_gs.other W6 (Ne.symm ne_t_gs)
  have Kp6 : Keep h0 h6 [t] := Kp5.wr W6 (Or.inl (List.mem_of_getElem? (i := 0) rfl))
  refine OGo.iconst K (pc' := 33) (z := 0) own_d12_32 rfl rfl ?_
  refine OGo.istore K (pc' := 35) (Ls' := #[.val (.ref t), .val (.ref a), .val (.long fr), .second, .val (.long to), .second, .val (.int (0 : Int32))]) own_d12_33 rfl rfl ?_
  refine OGo.iload K (pc' := 37) own_d12_35 rfl rfl ?_
  refine OGo.aloadN K (pc' := 38) own_d12_37 rfl rfl rfl ?_
  refine OGo.callFV K (pc' := 43) (y := (⟨"java/util/List", "size", "()I"⟩ : MethodName)) (z := (⟨"java/util/ArrayList", "size", "()I"⟩ : MethodName)) (a := a) (W := 1) (cells' := 2) (slots' := 1027) (argsL := []) (st := [(.int (0 : Int32))]) L_6.1 (hw _ (List.mem_of_getElem? (i := 105) rfl)) (hw _ (List.mem_of_getElem? (i := 106) rfl)) (hw _ (List.mem_of_getElem? (i := 107) rfl)) (hw _ (List.mem_of_getElem? (i := 108) rfl)) (hw _ (List.mem_of_getElem? (i := 109) rfl)) (hw _ (List.mem_of_getElem? (i := 110) rfl)) (hw _ (List.mem_of_getElem? (i := 111) rfl)) (hw _ (List.mem_of_getElem? (i := 112) rfl)) (hw _ (List.mem_of_getElem? (i := 2) rfl)) (hw _ (List.mem_of_getElem? (i := 113) rfl)) (by decide) (own_al_size l Z a0 hw a 2 h6 n0 Z6 L_6.2.1) own_d12_38 rfl rfl (lenOf own_pd14 rfl) (by show 2 * 0 + _ ≤ _; exact Nat.le_of_eq rfl) (by decide) (by decide) rfl rfl (by decide) (by decide) ?_
  rintro _ h7 ⟨rfl, e7⟩
  rw [e7]
  show OGo p l e _ s m _ below meth c n0 _ h6 2 1027 43 #[.val (.ref t), .val (.ref a), .val (.long fr), .second, .val (.long to), .second, .val (.int (0 : Int32))] [(.int (2 : Int32)), (.int (0 : Int32))]
  refine OGo.icmpGe K (pc' := 46) (pcY := 83) own_d12_43 rfl (by decide) rfl (fun hc43 => absurd (by decide : (0 : Int32) < (2 : Int32)) hc43) (fun hc43 => ?_)
  refine OGo.aloadN K (pc' := 47) own_d12_46 rfl rfl rfl ?_
  refine OGo.getF K (pc' := 50) (host := "") (Or.inl (hw _ (List.mem_of_getElem? (i := 115) rfl))) Via.refl Fw_groupStarts_t_6 own_d12_47 rfl ?_
  refine OGo.iload K (pc' := 52) own_d12_50 rfl rfl ?_
  refine OGo.iconst K (pc' := 53) (z := 1) own_d12_52 rfl rfl ?_
  refine OGo.iadd K (pc' := 54) own_d12_53 rfl ?_
  rw [show ((0 : Int32) + (1 : Int32)) = (1 : Int32) from rfl]
  refine OGo.aloadN K (pc' := 55) own_d12_54 rfl rfl rfl ?_
  refine OGo.getF K (pc' := 58) (host := "") (Or.inl (hw _ (List.mem_of_getElem? (i := 115) rfl))) Via.refl Fw_groupStarts_t_6 own_d12_55 rfl ?_
  refine OGo.iload K (pc' := 60) own_d12_58 rfl rfl ?_
  refine OGo.iaload K (pc' := 61) (v := (.int (0 : Int32))) V_gs_6 (by decide) rfl own_d12_60 rfl ?_
  refine OGo.aloadN K (pc' := 62) own_d12_61 rfl rfl rfl ?_
  refine OGo.iload K (pc' := 64) own_d12_62 rfl rfl ?_
  refine OGo.callFV K (pc' := 69) (y := (⟨"java/util/List", "get", "(I)Ljava/lang/Object;"⟩ : MethodName)) (z := (⟨"java/util/ArrayList", "get", "(I)Ljava/lang/Object;"⟩ : MethodName)) (a := a) (W := 3) (cells' := 2) (slots' := 1027) (argsL := [(.int (0 : Int32))]) (st := [(.int (0 : Int32)), (.int (1 : Int32)), (.ref gs)]) L_6.1 (hw _ (List.mem_of_getElem? (i := 117) rfl)) (hw _ (List.mem_of_getElem? (i := 118) rfl)) (hw _ (List.mem_of_getElem? (i := 119) rfl)) (hw _ (List.mem_of_getElem? (i := 120) rfl)) (hw _ (List.mem_of_getElem? (i := 121) rfl)) (hw _ (List.mem_of_getElem? (i := 122) rfl)) (hw _ (List.mem_of_getElem? (i := 123) rfl)) (hw _ (List.mem_of_getElem? (i := 112) rfl)) (hw _ (List.mem_of_getElem? (i := 2) rfl)) (hw _ (List.mem_of_getElem? (i := 124) rfl)) (by decide) (own_al_get l Z a0 hw a x 0 [g1, g2] h6 n0 Z6 L_6 (Nat.le_of_ble_eq_true rfl) (Nat.le_of_ble_eq_true rfl)) own_d12_64 rfl rfl (lenOf own_pd11 rfl) (by show 2 * 0 + _ ≤ _; exact Nat.le_of_eq rfl) (by decide) (by decide) rfl rfl (by decide) (by decide) ?_
  rintro _ h8 ⟨rfl, e8⟩
  rw [e8]
  show OGo p l e _ s m _ below meth c n0 _ h6 2 1027 69 #[.val (.ref t), .val (.ref a), .val (.long fr), .second, .val (.long to), .second, .val (.int (0 : Int32))] [(.ref g1), (.int (0 : Int32)), (.int (1 : Int32)), (.ref gs)]
  refine OGo.castY K (pc' := 72) (hw _ (List.mem_of_getElem? (i := 138) rfl)) (Ins.self Eg1_6) own_d12_69 rfl ?_
  refine OGo.callVV K (pc' := 75) (y := (⟨"com/example/loadvane/loadvane/simulation/Group", "count", "()I"⟩ : MethodName)) (z := (⟨"com/example/loadvane/loadvane/simulation/Group", "count", "()I"⟩ : MethodName)) (a := g1) (W := 3) (cells' := 2) (slots' := 1027) (argsL := []) (st := [(.int (0 : Int32)), (.int (1 : Int32)), (.ref gs)]) Eg1_6 (hw _ (List.mem_of_getElem? (i := 140) rfl)) (hw _ (List.mem_of_getElem? (i := 141) rfl)) (notFace_of_selects (args := #[]) (mvT K.hZ (hw _ (List.mem_of_getElem? (i := 143) rfl)))) (hw _ (List.mem_of_getElem? (i := 143) rfl)) (hw _ (List.mem_of_getElem? (i := 142) rfl)) (hw _ (List.mem_of_getElem? (i := 28) rfl)) (hw _ (List.mem_of_getElem? (i := 144) rfl)) (by decide) (own_rm18 l Z a0 hw g1 _ h6 n0 Z6 Fg1_6) own_d12_72 rfl rfl (lenOf own_pd14 rfl) (by show 2 * 0 + _ ≤ _; exact Nat.le_of_eq rfl) (by decide) (by decide) rfl rfl (by decide) (by decide) ?_
  rintro _ h9 ⟨rfl, e9⟩
  rw [e9]
  show OGo p l e _ s m _ below meth c n0 _ h6 2 1027 75 #[.val (.ref t), .val (.ref a), .val (.long fr), .second, .val (.long to), .second, .val (.int (0 : Int32))] [(.int (Int32.ofNat A)), (.int (0 : Int32)), (.int (1 : Int32)), (.ref gs)]
  refine OGo.iadd K (pc' := 76) own_d12_75 rfl ?_
  rw [show ((0 : Int32) + (Int32.ofNat A)) = (Int32.ofNat A) from (Int32.zero_add _)]
  refine OGo.iastore K (pc' := 77) (i := 1) V_gs_6 (by decide) rfl (Nat.le_of_ble_eq_true rfl) g_gs own_d12_76 rfl ?_
  intro h10 W10 V_gs_10
  have Z10 : n0 ≤ h10.size := by rw [W10.size]; exact Z6
  replace V_gs_10 : Arv Z h10 gs _ .int (3 : Int32) [.int 0, .int (Int32.ofNat A), .int 0] (.int 0) := V_gs_10
  have E_10 := E_6.wr W10
  have L_10 := OAL1.keep L_6 (Keep.of_wr W10) (ninS ne_a_gs nin0) (ninS ne_x_gs nin0)
  have Eg1_10 := Eg1_6.wr W10
  have Eg2_10 := Eg2_6.wr W10
  have Fg1_10 := Fg1_6.other W10 (Or.inl ne_g1_gs)
  have Fg2_10 := Fg2_6.other W10 (Or.inl ne_g2_gs)
  have Fw_groupStarts_t_10 := Fw_groupStarts_t_6.other W10 (Or.inl ne_t_gs)
  have F_sent_10 := F_sent_6.other W10 (Or.inl ne_t_gs)
  have F_succeeded_10 := F_succeeded_6.other W10 (Or.inl ne_t_gs)
  have F_probationMax_10 := F_probationMax_6.other W10 (Or.inl ne_t_gs)
  have F_overLimit_10 := F_overLimit_6.other W10 (Or.inl ne_t_gs)
  have F_clients_10 := F_clients_6.other W10 (Or.inl ne_t_gs)
  have F_measureFrom_10 := F_measureFrom_6.other W10 (Or.inl ne_t_gs)
  have F_measureTo_10 := F_measureTo_6.other W10 (Or.inl ne_t_gs)
  have F_requests_10 := F_requests_6.other W10 (Or.inl ne_t_gs)
  have Kp10 : Keep h0 h10 [t] := Kp6.wr W10 (Or.inr sz_gs)
  refine OGo.iinc K (pc' := 80) (z := 1) (Ls' := #[.val (.ref t), .val (.ref a), .val (.long fr), .second, .val (.long to), .second, .val (.int ((0 : Int32) + (1 : Int32)))]) own_d12_77 rfl rfl rfl rfl ?_
  refine OGo.goto K (pc' := 35) own_d12_80 (by decide) rfl ?_
  rw [show ((0 : Int32) + (1 : Int32)) = (1 : Int32) from rfl]
  refine OGo.iload K (pc' := 37) own_d12_35 rfl rfl ?_
  refine OGo.aloadN K (pc' := 38) own_d12_37 rfl rfl rfl ?_
  refine OGo.callFV K (pc' := 43) (y := (⟨"java/util/List", "size", "()I"⟩ : MethodName)) (z := (⟨"java/util/ArrayList", "size", "()I"⟩ : MethodName)) (a := a) (W := 1) (cells' := 2) (slots' := 1027) (argsL := []) (st := [(.int (1 : Int32))]) L_10.1 (hw _ (List.mem_of_getElem? (i := 105) rfl)) (hw _ (List.mem_of_getElem? (i := 106) rfl)) (hw _ (List.mem_of_getElem? (i := 107) rfl)) (hw _ (List.mem_of_getElem? (i := 108) rfl)) (hw _ (List.mem_of_getElem? (i := 109) rfl)) (hw _ (List.mem_of_getElem? (i := 110) rfl)) (hw _ (List.mem_of_getElem? (i := 111) rfl)) (hw _ (List.mem_of_getElem? (i := 112) rfl)) (hw _ (List.mem_of_getElem? (i := 2) rfl)) (hw _ (List.mem_of_getElem? (i := 113) rfl)) (by decide) (own_al_size l Z a0 hw a 2 h10 n0 Z10 L_10.2.1) own_d12_38 rfl rfl (lenOf own_pd14 rfl) (by show 2 * 0 + _ ≤ _; exact Nat.le_of_eq rfl) (by decide) (by decide) rfl rfl (by decide) (by decide) ?_
  rintro _ h11 ⟨rfl, e11⟩
  rw [e11]
  show OGo p l e _ s m _ below meth c n0 _ h10 2 1027 43 #[.val (.ref t), .val (.ref a), .val (.long fr), .second, .val (.long to), .second, .val (.int (1 : Int32))] [(.int (2 : Int32)), (.int (1 : Int32))]
  refine OGo.icmpGe K (pc' := 46) (pcY := 83) own_d12_43 rfl (by decide) rfl (fun hc43 => absurd (by decide : (1 : Int32) < (2 : Int32)) hc43) (fun hc43 => ?_)
  refine OGo.aloadN K (pc' := 47) own_d12_46 rfl rfl rfl ?_
  refine OGo.getF K (pc' := 50) (host := "") (Or.inl (hw _ (List.mem_of_getElem? (i := 115) rfl))) Via.refl Fw_groupStarts_t_10 own_d12_47 rfl ?_
  refine OGo.iload K (pc' := 52) own_d12_50 rfl rfl ?_
  refine OGo.iconst K (pc' := 53) (z := 1) own_d12_52 rfl rfl ?_
  refine OGo.iadd K (pc' := 54) own_d12_53 rfl ?_
  rw [show ((1 : Int32) + (1 : Int32)) = (2 : Int32) from rfl]
  refine OGo.aloadN K (pc' := 55) own_d12_54 rfl rfl rfl ?_
  refine OGo.getF K (pc' := 58) (host := "") (Or.inl (hw _ (List.mem_of_getElem? (i := 115) rfl))) Via.refl Fw_groupStarts_t_10 own_d12_55 rfl ?_
  refine OGo.iload K (pc' := 60) own_d12_58 rfl rfl ?_
  refine OGo.iaload K (pc' := 61) (v := (.int (Int32.ofNat A))) V_gs_10 (by decide) rfl own_d12_60 rfl ?_
  refine OGo.aloadN K (pc' := 62) own_d12_61 rfl rfl rfl ?_
  refine OGo.iload K (pc' := 64) own_d12_62 rfl rfl ?_
  refine OGo.callFV K (pc' := 69) (y := (⟨"java/util/List", "get", "(I)Ljava/lang/Object;"⟩ : MethodName)) (z := (⟨"java/util/ArrayList", "get", "(I)Ljava/lang/Object;"⟩ : MethodName)) (a := a) (W := 3) (cells' := 2) (slots' := 1027) (argsL := [(.int (1 : Int32))]) (st := [(.int (Int32.ofNat A)), (.int (2 : Int32)), (.ref gs)]) L_10.1 (hw _ (List.mem_of_getElem? (i := 117) rfl)) (hw _ (List.mem_of_getElem? (i := 118) rfl)) (hw _ (List.mem_of_getElem? (i := 119) rfl)) (hw _ (List.mem_of_getElem? (i := 120) rfl)) (hw _ (List.mem_of_getElem? (i := 121) rfl)) (hw _ (List.mem_of_getElem? (i := 122) rfl)) (hw _ (List.mem_of_getElem? (i := 123) rfl)) (hw _ (List.mem_of_getElem? (i := 112) rfl)) (hw _ (List.mem_of_getElem? (i := 2) rfl)) (hw _ (List.mem_of_getElem? (i := 124) rfl)) (by decide) (own_al_get l Z a0 hw a x 1 [g1, g2] h10 n0 Z10 L_10 (Nat.le_of_ble_eq_true rfl) (Nat.le_of_ble_eq_true rfl)) own_d12_64 rfl rfl (lenOf own_pd11 rfl) (by show 2 * 0 + _ ≤ _; exact Nat.le_of_eq rfl) (by decide) (by decide) rfl rfl (by decide) (by decide) ?_
  rintro _ h12 ⟨rfl, e12⟩
  rw [e12]
  show OGo p l e _ s m _ below meth c n0 _ h10 2 1027 69 #[.val (.ref t), .val (.ref a), .val (.long fr), .second, .val (.long to), .second, .val (.int (1 : Int32))] [(.ref g2), (.int (Int32.ofNat A)), (.int (2 : Int32)), (.ref gs)]
  refine OGo.castY K (pc' := 72) (hw _ (List.mem_of_getElem? (i := 138) rfl)) (Ins.self Eg2_10) own_d12_69 rfl ?_
  refine OGo.callVV K (pc' := 75) (y := (⟨"com/example/loadvane/loadvane/simulation/Group", "count", "()I"⟩ : MethodName)) (z := (⟨"com/example/loadvane/loadvane/simulation/Group", "count", "()I"⟩ : MethodName)) (a := g2) (W := 3) (cells' := 2) (slots' := 1027) (argsL := []) (st := [(.int (Int32.ofNat A)), (.int (2 : Int32)), (.ref gs)]) Eg2_10 (hw _ (List.mem_of_getElem? (i := 140) rfl)) (hw _ (List.mem_of_getElem? (i := 141) rfl)) (notFace_of_selects (args := #[]) (mvT K.hZ (hw _ (List.mem_of_getElem? (i := 143) rfl)))) (hw _ (List.mem_of_getElem? (i := 143) rfl)) (hw _ (List.mem_of_getElem? (i := 142) rfl)) (hw _ (List.mem_of_getElem? (i := 28) rfl)) (hw _ (List.mem_of_getElem? (i := 144) rfl)) (by decide) (own_rm18 l Z a0 hw g2 _ h10 n0 Z10 Fg2_10) own_d12_72 rfl rfl (lenOf own_pd14 rfl) (by show 2 * 0 + _ ≤ _; exact Nat.le_of_eq rfl) (by decide) (by decide) rfl rfl (by decide) (by decide) ?_
  rintro _ h13 ⟨rfl, e13⟩
  rw [e13]
  show OGo p l e _ s m _ below meth c n0 _ h10 2 1027 75 #[.val (.ref t), .val (.ref a), .val (.long fr), .second, .val (.long to), .second, .val (.int (1 : Int32))] [(.int (Int32.ofNat B)), (.int (Int32.ofNat A)), (.int (2 : Int32)), (.ref gs)]
  refine OGo.iadd K (pc' := 76) own_d12_75 rfl ?_
  rw [show ((Int32.ofNat A) + (Int32.ofNat B)) = (Int32.ofNat (A + B)) from (own_add32 A B (by omega))]
  refine OGo.iastore K (pc' := 77) (i := 2) V_gs_10 (by decide) rfl (Nat.le_of_ble_eq_true rfl) g_gs own_d12_76 rfl ?_
  intro h14 W14 V_gs_14
  have Z14 : n0 ≤ h14.size := by rw [W14.size]; exact Z10
  replace V_gs_14 : Arv Z h14 gs _ .int (3 : Int32) [.int 0, .int (Int32.ofNat A), .int (Int32.ofNat (A + B))] (.int 0) := V_gs_14
  have E_14 := E_10.wr W14
  have L_14 := OAL1.keep L_10 (Keep.of_wr W14) (ninS ne_a_gs nin0) (ninS ne_x_gs nin0)
  have Eg1_14 := Eg1_10.wr W14
  have Eg2_14 := Eg2_10.wr W14
  have Fg1_14 := Fg1_10.other W14 (Or.inl ne_g1_gs)
  have Fg2_14 := Fg2_10.other W14 (Or.inl ne_g2_gs)
  have Fw_groupStarts_t_14 := Fw_groupStarts_t_10.other W14 (Or.inl ne_t_gs)
  have F_sent_14 := F_sent_10.other W14 (Or.inl ne_t_gs)
  have F_succeeded_14 := F_succeeded_10.other W14 (Or.inl ne_t_gs)
  have F_probationMax_14 := F_probationMax_10.other W14 (Or.inl ne_t_gs)
  have F_overLimit_14 := F_overLimit_10.other W14 (Or.inl ne_t_gs)
  have F_clients_14 := F_clients_10.other W14 (Or.inl ne_t_gs)
  have F_measureFrom_14 := F_measureFrom_10.other W14 (Or.inl ne_t_gs)
  have F_measureTo_14 := F_measureTo_10.other W14 (Or.inl ne_t_gs)
  have F_requests_14 := F_requests_10.other W14 (Or.inl ne_t_gs)
  have Kp14 : Keep h0 h14 [t] := Kp10.wr W14 (Or.inr sz_gs)
  refine OGo.iinc K (pc' := 80) (z := 1) (Ls' := #[.val (.ref t), .val (.ref a), .val (.long fr), .second, .val (.long to), .second, .val (.int ((1 : Int32) + (1 : Int32)))]) own_d12_77 rfl rfl rfl rfl ?_
  refine OGo.goto K (pc' := 35) own_d12_80 (by decide) rfl ?_
  rw [show ((1 : Int32) + (1 : Int32)) = (2 : Int32) from rfl]
  refine OGo.iload K (pc' := 37) own_d12_35 rfl rfl ?_
  refine OGo.aloadN K (pc' := 38) own_d12_37 rfl rfl rfl ?_
  refine OGo.callFV K (pc' := 43) (y := (⟨"java/util/List", "size", "()I"⟩ : MethodName)) (z := (⟨"java/util/ArrayList", "size", "()I"⟩ : MethodName)) (a := a) (W := 1) (cells' := 2) (slots' := 1027) (argsL := []) (st := [(.int (2 : Int32))]) L_14.1 (hw _ (List.mem_of_getElem? (i := 105) rfl)) (hw _ (List.mem_of_getElem? (i := 106) rfl)) (hw _ (List.mem_of_getElem? (i := 107) rfl)) (hw _ (List.mem_of_getElem? (i := 108) rfl)) (hw _ (List.mem_of_getElem? (i := 109) rfl)) (hw _ (List.mem_of_getElem? (i := 110) rfl)) (hw _ (List.mem_of_getElem? (i := 111) rfl)) (hw _ (List.mem_of_getElem? (i := 112) rfl)) (hw _ (List.mem_of_getElem? (i := 2) rfl)) (hw _ (List.mem_of_getElem? (i := 113) rfl)) (by decide) (own_al_size l Z a0 hw a 2 h14 n0 Z14 L_14.2.1) own_d12_38 rfl rfl (lenOf own_pd14 rfl) (by show 2 * 0 + _ ≤ _; exact Nat.le_of_eq rfl) (by decide) (by decide) rfl rfl (by decide) (by decide) ?_
  rintro _ h15 ⟨rfl, e15⟩
  rw [e15]
  show OGo p l e _ s m _ below meth c n0 _ h14 2 1027 43 #[.val (.ref t), .val (.ref a), .val (.long fr), .second, .val (.long to), .second, .val (.int (2 : Int32))] [(.int (2 : Int32)), (.int (2 : Int32))]
  refine OGo.icmpGe K (pc' := 46) (pcY := 83) own_d12_43 rfl (by decide) rfl (fun hc43 => ?_) (fun hc43 => absurd hc43 (by decide : ¬ (2 : Int32) < (2 : Int32)))
  refine OGo.aloadN K (pc' := 84) own_d12_83 rfl rfl rfl ?_
  refine OGo.getF K (pc' := 87) (host := "") (Or.inl (hw _ (List.mem_of_getElem? (i := 115) rfl))) Via.refl Fw_groupStarts_t_14 own_d12_84 rfl ?_
  refine OGo.aloadN K (pc' := 88) own_d12_87 rfl rfl rfl ?_
  refine OGo.callFV K (pc' := 93) (y := (⟨"java/util/List", "size", "()I"⟩ : MethodName)) (z := (⟨"java/util/ArrayList", "size", "()I"⟩ : MethodName)) (a := a) (W := 1) (cells' := 2) (slots' := 1027) (argsL := []) (st := [(.ref gs)]) L_14.1 (hw _ (List.mem_of_getElem? (i := 105) rfl)) (hw _ (List.mem_of_getElem? (i := 106) rfl)) (hw _ (List.mem_of_getElem? (i := 107) rfl)) (hw _ (List.mem_of_getElem? (i := 108) rfl)) (hw _ (List.mem_of_getElem? (i := 109) rfl)) (hw _ (List.mem_of_getElem? (i := 110) rfl)) (hw _ (List.mem_of_getElem? (i := 111) rfl)) (hw _ (List.mem_of_getElem? (i := 112) rfl)) (hw _ (List.mem_of_getElem? (i := 2) rfl)) (hw _ (List.mem_of_getElem? (i := 113) rfl)) (by decide) (own_al_size l Z a0 hw a 2 h14 n0 Z14 L_14.2.1) own_d12_88 rfl rfl (lenOf own_pd14 rfl) (by show 2 * 0 + _ ≤ _; exact Nat.le_of_eq rfl) (by decide) (by decide) rfl rfl (by decide) (by decide) ?_
  rintro _ h16 ⟨rfl, e16⟩
  rw [e16]
  show OGo p l e _ s m _ below meth c n0 _ h14 2 1027 93 #[.val (.ref t), .val (.ref a), .val (.long fr), .second, .val (.long to), .second, .val (.int (2 : Int32))] [(.int (2 : Int32)), (.ref gs)]
  refine OGo.iaload K (pc' := 94) (v := (.int (Int32.ofNat (A + B)))) V_gs_14 (by decide) rfl own_d12_93 rfl ?_
  refine OGo.istore K (pc' := 96) (Ls' := #[.val (.ref t), .val (.ref a), .val (.long fr), .second, .val (.long to), .second, .val (.int (Int32.ofNat (A + B)))]) own_d12_94 rfl rfl ?_
  refine OGo.aloadN K (pc' := 97) own_d12_96 rfl rfl rfl ?_
  refine OGo.iload K (pc' := 99) own_d12_97 rfl rfl ?_
  refine OGo.newP K (pc' := 101) (cap := 4) (cells' := 3) (slots' := 1031) (hw _ (List.mem_of_getElem? (i := 100) rfl)) own_d12_99 rfl hN1 (by rw [hN2]; omega) (by decide) rfl rfl (by decide) (by decide) ?_
  intro h17 st k_st gq17 E17 V_st
  have ne_t_st : t ≠ st := Nat.ne_of_lt (Nat.lt_of_lt_of_le E_14.lt (Nat.le_of_eq gq17.symm))
  have ne_a_st : a ≠ st := Nat.ne_of_lt (Nat.lt_of_lt_of_le (OAL1.lta L_14) (Nat.le_of_eq gq17.symm))
  have ne_x_st : x ≠ st := Nat.ne_of_lt (Nat.lt_of_lt_of_le (OAL1.ltx L_14) (Nat.le_of_eq gq17.symm))
  have ne_g1_st : g1 ≠ st := Nat.ne_of_lt (Nat.lt_of_lt_of_le Eg1_14.lt (Nat.le_of_eq gq17.symm))
  have ne_g2_st : g2 ≠ st := Nat.ne_of_lt (Nat.lt_of_lt_of_le Eg2_14.lt (Nat.le_of_eq gq17.symm))
  have ne_gs_st : gs ≠ st := Nat.ne_of_lt (Nat.lt_of_lt_of_le V_gs_14.lt (Nat.le_of_eq gq17.symm))
  have g_st : n0 ≤ st := Nat.le_trans Z14 (Nat.le_of_eq gq17.symm)
  have sz_st : h0.size ≤ st := Nat.le_trans Kp14.1 (Nat.le_of_eq gq17.symm)
  have Z17 : n0 ≤ h17.size := Nat.le_trans Z14 E17.1
  have Kp17 : Keep h0 h17 [t] := Kp14.ext E17
  have E_17 := E_14.ext E17
  have L_17 := OAL1.keep L_14 (own_keep_ext E17) nin0 nin0
  have Eg1_17 := Eg1_14.ext E17
  have Eg2_17 := Eg2_14.ext E17
  have Fg1_17 := Fg1_14.ext E17
  have Fg2_17 := Fg2_14.ext E17
  have Fw_groupStarts_t_17 := Fw_groupStarts_t_14.ext E17
  have F_sent_17 := F_sent_14.ext E17
  have F_succeeded_17 := F_succeeded_14.ext E17
  have F_probationMax_17 := F_probationMax_14.ext E17
  have F_overLimit_17 := F_overLimit_14.ext E17
  have F_clients_17 := F_clients_14.ext E17
  have F_measureFrom_17 := F_measureFrom_14.ext E17
  have F_measureTo_17 := F_measureTo_14.ext E17
  have F_requests_17 := F_requests_14.ext E17
  have V_gs_17 := V_gs_14.ext E17
  refine OGo.putF K (pc' := 104) (host := "") (Or.inl (hw _ (List.mem_of_getElem? (i := 145) rfl))) Via.refl F_sent_17 E_17 (Or.inr ⟨(hw _ (List.mem_of_getElem? (i := 146) rfl)), rfl, rfl⟩) (hw _ (List.mem_of_getElem? (i := 94) rfl)) (ty := (.array .long)) (by decide) rfl rfl g_t own_d12_101 rfl ?_
  intro h18 W18
  have Z18 : n0 ≤ h18.size := by rw [W18.size]; exact Z17
  have Fw_sent_t_18 := F_sent_17.same W18
  have E_18 := E_17.wr W18
  have L_18 := OAL1.keep L_17 (Keep.of_wr W18) (ninS (Ne.symm nta) nin0) (ninS (Ne.symm ntx) nin0)
  have Eg1_18 := Eg1_17.wr W18
  have Eg2_18 := Eg2_17.wr W18
  have Fg1_18 := Fg1_17.other W18 (Or.inl (Ne.symm nt1))
  have Fg2_18 := Fg2_17.other W18 (Or.inl (Ne.symm nt2))
  have Fw_groupStarts_t_18 := Fw_groupStarts_t_17.other W18 (Or.inr (slot_ne (Or.inr (hw _ (List.mem_of_getElem? (i := 116) rfl))) (Or.inr (hw _ (List.mem_of_getElem? (i := 146) rfl))) (by decide) (t := (.array .int)) (t' := (.array .long)) (by decide) (by decide)))
  have F_succeeded_18 := F_succeeded_17.other W18 (Or.inr (slot_ne (Or.inr (hw _ (List.mem_of_getElem? (i := 148) rfl))) (Or.inr (hw _ (List.mem_of_getElem? (i := 146) rfl))) (by decide) (t := (.array .long)) (t' := (.array .long)) (by decide) (by decide)))
  have F_probationMax_18 := F_probationMax_17.other W18 (Or.inr (slot_ne (Or.inr (hw _ (List.mem_of_getElem? (i := 150) rfl))) (Or.inr (hw _ (List.mem_of_getElem? (i := 146) rfl))) (by decide) (t := (.array .int)) (t' := (.array .long)) (by decide) (by decide)))
  have F_overLimit_18 := F_overLimit_17.other W18 (Or.inr (slot_ne (Or.inr (hw _ (List.mem_of_getElem? (i := 152) rfl))) (Or.inr (hw _ (List.mem_of_getElem? (i := 146) rfl))) (by decide) (t := (.array .long)) (t' := (.array .long)) (by decide) (by decide)))
  have F_clients_18 := F_clients_17.other W18 (Or.inr (slot_ne (Or.inr (hw _ (List.mem_of_getElem? (i := 154) rfl))) (Or.inr (hw _ (List.mem_of_getElem? (i := 146) rfl))) (by decide) (t := (.array .int)) (t' := (.array .long)) (by decide) (by decide)))
  have F_measureFrom_18 := F_measureFrom_17.other W18 (Or.inr (slot_ne (Or.inr (hw _ (List.mem_of_getElem? (i := 156) rfl))) (Or.inr (hw _ (List.mem_of_getElem? (i := 146) rfl))) (by decide) (t := .long) (t' := (.array .long)) (by decide) (by decide)))
  have F_measureTo_18 := F_measureTo_17.other W18 (Or.inr (slot_ne (Or.inr (hw _ (List.mem_of_getElem? (i := 158) rfl))) (Or.inr (hw _ (List.mem_of_getElem? (i := 146) rfl))) (by decide) (t := .long) (t' := (.array .long)) (by decide) (by decide)))
  have F_requests_18 := F_requests_17.other W18 (Or.inr (slot_ne (Or.inl (hw _ (List.mem_of_getElem? (i := 174) rfl))) (Or.inr (hw _ (List.mem_of_getElem? (i := 146) rfl))) (by decide) (t := .long) (t' := (.array .long)) (by decide) (by decide)))
  have V_gs_18 := V_gs_17.other W18 (Ne.symm ne_t_gs)
  have V_st_18 := V_st.other W18 (Ne.symm ne_t_st)
  have Kp18 : Keep h0 h18 [t] := Kp17.wr W18 (Or.inl (List.mem_of_getElem? (i := 0) rfl))
  refine OGo.aloadN K (pc' := 105) own_d12_104 rfl rfl rfl ?_
  refine OGo.iload K (pc' := 107) own_d12_105 rfl rfl ?_
  refine OGo.newP K (pc' := 109) (cap := 4) (cells' := 4) (slots' := 1035) (hw _ (List.mem_of_getElem? (i := 100) rfl)) own_d12_107 rfl hN1 (by rw [hN2]; omega) (by decide) rfl rfl (by decide) (by decide) ?_
  intro h19 y1 k_y1 gq19 E19 V_y1
  have ne_t_y1 : t ≠ y1 := Nat.ne_of_lt (Nat.lt_of_lt_of_le E_18.lt (Nat.le_of_eq gq19.symm))
  have ne_a_y1 : a ≠ y1 := Nat.ne_of_lt (Nat.lt_of_lt_of_le (OAL1.lta L_18) (Nat.le_of_eq gq19.symm))
  have ne_x_y1 : x ≠ y1 := Nat.ne_of_lt (Nat.lt_of_lt_of_le (OAL1.ltx L_18) (Nat.le_of_eq gq19.symm))
  have ne_g1_y1 : g1 ≠ y1 := Nat.ne_of_lt (Nat.lt_of_lt_of_le Eg1_18.lt (Nat.le_of_eq gq19.symm))
  have ne_g2_y1 : g2 ≠ y1 := Nat.ne_of_lt (Nat.lt_of_lt_of_le Eg2_18.lt (Nat.le_of_eq gq19.symm))
  have ne_gs_y1 : gs ≠ y1 := Nat.ne_of_lt (Nat.lt_of_lt_of_le V_gs_18.lt (Nat.le_of_eq gq19.symm))
  have ne_st_y1 : st ≠ y1 := Nat.ne_of_lt (Nat.lt_of_lt_of_le V_st_18.lt (Nat.le_of_eq gq19.symm))
  have g_y1 : n0 ≤ y1 := Nat.le_trans Z18 (Nat.le_of_eq gq19.symm)
  have sz_y1 : h0.size ≤ y1 := Nat.le_trans Kp18.1 (Nat.le_of_eq gq19.symm)
  have Z19 : n0 ≤ h19.size := Nat.le_trans Z18 E19.1
  have Kp19 : Keep h0 h19 [t] := Kp18.ext E19
  have E_19 := E_18.ext E19
  have L_19 := OAL1.keep L_18 (own_keep_ext E19) nin0 nin0
  have Eg1_19 := Eg1_18.ext E19
  have Eg2_19 := Eg2_18.ext E19
  have Fg1_19 := Fg1_18.ext E19
  have Fg2_19 := Fg2_18.ext E19
  have Fw_groupStarts_t_19 := Fw_groupStarts_t_18.ext E19
  have Fw_sent_t_19 := Fw_sent_t_18.ext E19
  have F_succeeded_19 := F_succeeded_18.ext E19
  have F_probationMax_19 := F_probationMax_18.ext E19
  have F_overLimit_19 := F_overLimit_18.ext E19
  have F_clients_19 := F_clients_18.ext E19
  have F_measureFrom_19 := F_measureFrom_18.ext E19
  have F_measureTo_19 := F_measureTo_18.ext E19
  have F_requests_19 := F_requests_18.ext E19
  have V_gs_19 := V_gs_18.ext E19
  have V_st_19 := V_st_18.ext E19
  refine OGo.putF K (pc' := 112) (host := "") (Or.inl (hw _ (List.mem_of_getElem? (i := 147) rfl))) Via.refl F_succeeded_19 E_19 (Or.inr ⟨(hw _ (List.mem_of_getElem? (i := 148) rfl)), rfl, rfl⟩) (hw _ (List.mem_of_getElem? (i := 94) rfl)) (ty := (.array .long)) (by decide) rfl rfl g_t own_d12_109 rfl ?_
  intro h20 W20
  have Z20 : n0 ≤ h20.size := by rw [W20.size]; exact Z19
  have Fw_succeeded_t_20 := F_succeeded_19.same W20
  have E_20 := E_19.wr W20
  have L_20 := OAL1.keep L_19 (Keep.of_wr W20) (ninS (Ne.symm nta) nin0) (ninS (Ne.symm ntx) nin0)
  have Eg1_20 := Eg1_19.wr W20
  have Eg2_20 := Eg2_19.wr W20
  have Fg1_20 := Fg1_19.other W20 (Or.inl (Ne.symm nt1))
  have Fg2_20 := Fg2_19.other W20 (Or.inl (Ne.symm nt2))
  have Fw_groupStarts_t_20 := Fw_groupStarts_t_19.other W20 (Or.inr (slot_ne (Or.inr (hw _ (List.mem_of_getElem? (i := 116) rfl))) (Or.inr (hw _ (List.mem_of_getElem? (i := 148) rfl))) (by decide) (t := (.array .int)) (t' := (.array .long)) (by decide) (by decide)))
  have Fw_sent_t_20 := Fw_sent_t_19.other W20 (Or.inr (slot_ne (Or.inr (hw _ (List.mem_of_getElem? (i := 146) rfl))) (Or.inr (hw _ (List.mem_of_getElem? (i := 148) rfl))) (by decide) (t := (.array .long)) (t' := (.array .long)) (by decide) (by decide)))
  have F_probationMax_20 := F_probationMax_19.other W20 (Or.inr (slot_ne (Or.inr (hw _ (List.mem_of_getElem? (i := 150) rfl))) (Or.inr (hw _ (List.mem_of_getElem? (i := 148) rfl))) (by decide) (t := (.array .int)) (t' := (.array .long)) (by decide) (by decide)))
  have F_overLimit_20 := F_overLimit_19.other W20 (Or.inr (slot_ne (Or.inr (hw _ (List.mem_of_getElem? (i := 152) rfl))) (Or.inr (hw _ (List.mem_of_getElem? (i := 148) rfl))) (by decide) (t := (.array .long)) (t' := (.array .long)) (by decide) (by decide)))
  have F_clients_20 := F_clients_19.other W20 (Or.inr (slot_ne (Or.inr (hw _ (List.mem_of_getElem? (i := 154) rfl))) (Or.inr (hw _ (List.mem_of_getElem? (i := 148) rfl))) (by decide) (t := (.array .int)) (t' := (.array .long)) (by decide) (by decide)))
  have F_measureFrom_20 := F_measureFrom_19.other W20 (Or.inr (slot_ne (Or.inr (hw _ (List.mem_of_getElem? (i := 156) rfl))) (Or.inr (hw _ (List.mem_of_getElem? (i := 148) rfl))) (by decide) (t := .long) (t' := (.array .long)) (by decide) (by decide)))
  have F_measureTo_20 := F_measureTo_19.other W20 (Or.inr (slot_ne (Or.inr (hw _ (List.mem_of_getElem? (i := 158) rfl))) (Or.inr (hw _ (List.mem_of_getElem? (i := 148) rfl))) (by decide) (t := .long) (t' := (.array .long)) (by decide) (by decide)))
  have F_requests_20 := F_requests_19.other W20 (Or.inr (slot_ne (Or.inl (hw _ (List.mem_of_getElem? (i := 174) rfl))) (Or.inr (hw _ (List.mem_of_getElem? (i := 148) rfl))) (by decide) (t := .long) (t' := (.array .long)) (by decide) (by decide)))
  have V_gs_20 := V_gs_19.other W20 (Ne.symm ne_t_gs)
  have V_st_20 := V_st_19.other W20 (Ne.symm ne_t_st)
  have Kp20 : Keep h0 h20 [t] := Kp19.wr W20 (Or.inl (List.mem_of_getElem? (i := 0) rfl))
  refine OGo.aloadN K (pc' := 113) own_d12_112 rfl rfl rfl ?_
  refine OGo.iload K (pc' := 115) own_d12_113 rfl rfl ?_
  refine OGo.newP K (pc' := 117) (cap := 4) (cells' := 5) (slots' := 1039) (hw _ (List.mem_of_getElem? (i := 114) rfl)) own_d12_115 rfl hN1 (by rw [hN2]; omega) (by decide) rfl rfl (by decide) (by decide) ?_
  intro h21 y2 k_y2 gq21 E21 V_y2
  have ne_t_y2 : t ≠ y2 := Nat.ne_of_lt (Nat.lt_of_lt_of_le E_20.lt (Nat.le_of_eq gq21.symm))
  have ne_a_y2 : a ≠ y2 := Nat.ne_of_lt (Nat.lt_of_lt_of_le (OAL1.lta L_20) (Nat.le_of_eq gq21.symm))
  have ne_x_y2 : x ≠ y2 := Nat.ne_of_lt (Nat.lt_of_lt_of_le (OAL1.ltx L_20) (Nat.le_of_eq gq21.symm))
  have ne_g1_y2 : g1 ≠ y2 := Nat.ne_of_lt (Nat.lt_of_lt_of_le Eg1_20.lt (Nat.le_of_eq gq21.symm))
  have ne_g2_y2 : g2 ≠ y2 := Nat.ne_of_lt (Nat.lt_of_lt_of_le Eg2_20.lt (Nat.le_of_eq gq21.symm))
  have ne_gs_y2 : gs ≠ y2 := Nat.ne_of_lt (Nat.lt_of_lt_of_le V_gs_20.lt (Nat.le_of_eq gq21.symm))
  have ne_st_y2 : st ≠ y2 := Nat.ne_of_lt (Nat.lt_of_lt_of_le V_st_20.lt (Nat.le_of_eq gq21.symm))
  have g_y2 : n0 ≤ y2 := Nat.le_trans Z20 (Nat.le_of_eq gq21.symm)
  have sz_y2 : h0.size ≤ y2 := Nat.le_trans Kp20.1 (Nat.le_of_eq gq21.symm)
  have Z21 : n0 ≤ h21.size := Nat.le_trans Z20 E21.1
  have Kp21 : Keep h0 h21 [t] := Kp20.ext E21
  have E_21 := E_20.ext E21
  have L_21 := OAL1.keep L_20 (own_keep_ext E21) nin0 nin0
  have Eg1_21 := Eg1_20.ext E21
  have Eg2_21 := Eg2_20.ext E21
  have Fg1_21 := Fg1_20.ext E21
  have Fg2_21 := Fg2_20.ext E21
  have Fw_groupStarts_t_21 := Fw_groupStarts_t_20.ext E21
  have Fw_sent_t_21 := Fw_sent_t_20.ext E21
  have F_probationMax_21 := F_probationMax_20.ext E21
  have F_overLimit_21 := F_overLimit_20.ext E21
  have F_clients_21 := F_clients_20.ext E21
  have F_measureFrom_21 := F_measureFrom_20.ext E21
  have F_measureTo_21 := F_measureTo_20.ext E21
  have F_requests_21 := F_requests_20.ext E21
  have V_gs_21 := V_gs_20.ext E21
  have V_st_21 := V_st_20.ext E21
  refine OGo.putF K (pc' := 120) (host := "") (Or.inl (hw _ (List.mem_of_getElem? (i := 149) rfl))) Via.refl F_probationMax_21 E_21 (Or.inr ⟨(hw _ (List.mem_of_getElem? (i := 150) rfl)), rfl, rfl⟩) (hw _ (List.mem_of_getElem? (i := 94) rfl)) (ty := (.array .int)) (by decide) rfl rfl g_t own_d12_117 rfl ?_
  intro h22 W22
  have Z22 : n0 ≤ h22.size := by rw [W22.size]; exact Z21
  have Fw_probationMax_t_22 := F_probationMax_21.same W22
  have E_22 := E_21.wr W22
  have L_22 := OAL1.keep L_21 (Keep.of_wr W22) (ninS (Ne.symm nta) nin0) (ninS (Ne.symm ntx) nin0)
  have Eg1_22 := Eg1_21.wr W22
  have Eg2_22 := Eg2_21.wr W22
  have Fg1_22 := Fg1_21.other W22 (Or.inl (Ne.symm nt1))
  have Fg2_22 := Fg2_21.other W22 (Or.inl (Ne.symm nt2))
  have Fw_groupStarts_t_22 := Fw_groupStarts_t_21.other W22 (Or.inr (slot_ne (Or.inr (hw _ (List.mem_of_getElem? (i := 116) rfl))) (Or.inr (hw _ (List.mem_of_getElem? (i := 150) rfl))) (by decide) (t := (.array .int)) (t' := (.array .int)) (by decide) (by decide)))
  have Fw_sent_t_22 := Fw_sent_t_21.other W22 (Or.inr (slot_ne (Or.inr (hw _ (List.mem_of_getElem? (i := 146) rfl))) (Or.inr (hw _ (List.mem_of_getElem? (i := 150) rfl))) (by decide) (t := (.array .long)) (t' := (.array .int)) (by decide) (by decide)))
  have F_overLimit_22 := F_overLimit_21.other W22 (Or.inr (slot_ne (Or.inr (hw _ (List.mem_of_getElem? (i := 152) rfl))) (Or.inr (hw _ (List.mem_of_getElem? (i := 150) rfl))) (by decide) (t := (.array .long)) (t' := (.array .int)) (by decide) (by decide)))
  have F_clients_22 := F_clients_21.other W22 (Or.inr (slot_ne (Or.inr (hw _ (List.mem_of_getElem? (i := 154) rfl))) (Or.inr (hw _ (List.mem_of_getElem? (i := 150) rfl))) (by decide) (t := (.array .int)) (t' := (.array .int)) (by decide) (by decide)))
  have F_measureFrom_22 := F_measureFrom_21.other W22 (Or.inr (slot_ne (Or.inr (hw _ (List.mem_of_getElem? (i := 156) rfl))) (Or.inr (hw _ (List.mem_of_getElem? (i := 150) rfl))) (by decide) (t := .long) (t' := (.array .int)) (by decide) (by decide)))
  have F_measureTo_22 := F_measureTo_21.other W22 (Or.inr (slot_ne (Or.inr (hw _ (List.mem_of_getElem? (i := 158) rfl))) (Or.inr (hw _ (List.mem_of_getElem? (i := 150) rfl))) (by decide) (t := .long) (t' := (.array .int)) (by decide) (by decide)))
  have F_requests_22 := F_requests_21.other W22 (Or.inr (slot_ne (Or.inl (hw _ (List.mem_of_getElem? (i := 174) rfl))) (Or.inr (hw _ (List.mem_of_getElem? (i := 150) rfl))) (by decide) (t := .long) (t' := (.array .int)) (by decide) (by decide)))
  have V_gs_22 := V_gs_21.other W22 (Ne.symm ne_t_gs)
  have V_st_22 := V_st_21.other W22 (Ne.symm ne_t_st)
  have Kp22 : Keep h0 h22 [t] := Kp21.wr W22 (Or.inl (List.mem_of_getElem? (i := 0) rfl))
  refine OGo.aloadN K (pc' := 121) own_d12_120 rfl rfl rfl ?_
  refine OGo.iload K (pc' := 123) own_d12_121 rfl rfl ?_
  refine OGo.newP K (pc' := 125) (cap := 4) (cells' := 6) (slots' := 1043) (hw _ (List.mem_of_getElem? (i := 100) rfl)) own_d12_123 rfl hN1 (by rw [hN2]; omega) (by decide) rfl rfl (by decide) (by decide) ?_
  intro h23 y3 k_y3 gq23 E23 V_y3
  have ne_t_y3 : t ≠ y3 := Nat.ne_of_lt (Nat.lt_of_lt_of_le E_22.lt (Nat.le_of_eq gq23.symm))
  have ne_a_y3 : a ≠ y3 := Nat.ne_of_lt (Nat.lt_of_lt_of_le (OAL1.lta L_22) (Nat.le_of_eq gq23.symm))
  have ne_x_y3 : x ≠ y3 := Nat.ne_of_lt (Nat.lt_of_lt_of_le (OAL1.ltx L_22) (Nat.le_of_eq gq23.symm))
  have ne_g1_y3 : g1 ≠ y3 := Nat.ne_of_lt (Nat.lt_of_lt_of_le Eg1_22.lt (Nat.le_of_eq gq23.symm))
  have ne_g2_y3 : g2 ≠ y3 := Nat.ne_of_lt (Nat.lt_of_lt_of_le Eg2_22.lt (Nat.le_of_eq gq23.symm))
  have ne_gs_y3 : gs ≠ y3 := Nat.ne_of_lt (Nat.lt_of_lt_of_le V_gs_22.lt (Nat.le_of_eq gq23.symm))
  have ne_st_y3 : st ≠ y3 := Nat.ne_of_lt (Nat.lt_of_lt_of_le V_st_22.lt (Nat.le_of_eq gq23.symm))
  have g_y3 : n0 ≤ y3 := Nat.le_trans Z22 (Nat.le_of_eq gq23.symm)
  have sz_y3 : h0.size ≤ y3 := Nat.le_trans Kp22.1 (Nat.le_of_eq gq23.symm)
  have Z23 : n0 ≤ h23.size := Nat.le_trans Z22 E23.1
  have Kp23 : Keep h0 h23 [t] := Kp22.ext E23
  have E_23 := E_22.ext E23
  have L_23 := OAL1.keep L_22 (own_keep_ext E23) nin0 nin0
  have Eg1_23 := Eg1_22.ext E23
  have Eg2_23 := Eg2_22.ext E23
  have Fg1_23 := Fg1_22.ext E23
  have Fg2_23 := Fg2_22.ext E23
  have Fw_groupStarts_t_23 := Fw_groupStarts_t_22.ext E23
  have Fw_sent_t_23 := Fw_sent_t_22.ext E23
  have F_overLimit_23 := F_overLimit_22.ext E23
  have F_clients_23 := F_clients_22.ext E23
  have F_measureFrom_23 := F_measureFrom_22.ext E23
  have F_measureTo_23 := F_measureTo_22.ext E23
  have F_requests_23 := F_requests_22.ext E23
  have V_gs_23 := V_gs_22.ext E23
  have V_st_23 := V_st_22.ext E23
  refine OGo.putF K (pc' := 128) (host := "") (Or.inl (hw _ (List.mem_of_getElem? (i := 151) rfl))) Via.refl F_overLimit_23 E_23 (Or.inr ⟨(hw _ (List.mem_of_getElem? (i := 152) rfl)), rfl, rfl⟩) (hw _ (List.mem_of_getElem? (i := 94) rfl)) (ty := (.array .long)) (by decide) rfl rfl g_t own_d12_125 rfl ?_
  intro h24 W24
  have Z24 : n0 ≤ h24.size := by rw [W24.size]; exact Z23
  have Fw_overLimit_t_24 := F_overLimit_23.same W24
  have E_24 := E_23.wr W24
  have L_24 := OAL1.keep L_23 (Keep.of_wr W24) (ninS (Ne.symm nta) nin0) (ninS (Ne.symm ntx) nin0)
  have Eg1_24 := Eg1_23.wr W24
  have Eg2_24 := Eg2_23.wr W24
  have Fg1_24 := Fg1_23.other W24 (Or.inl (Ne.symm nt1))
  have Fg2_24 := Fg2_23.other W24 (Or.inl (Ne.symm nt2))
  have Fw_groupStarts_t_24 := Fw_groupStarts_t_23.other W24 (Or.inr (slot_ne (Or.inr (hw _ (List.mem_of_getElem? (i := 116) rfl))) (Or.inr (hw _ (List.mem_of_getElem? (i := 152) rfl))) (by decide) (t := (.array .int)) (t' := (.array .long)) (by decide) (by decide)))
  have Fw_sent_t_24 := Fw_sent_t_23.other W24 (Or.inr (slot_ne (Or.inr (hw _ (List.mem_of_getElem? (i := 146) rfl))) (Or.inr (hw _ (List.mem_of_getElem? (i := 152) rfl))) (by decide) (t := (.array .long)) (t' := (.array .long)) (by decide) (by decide)))
  have F_clients_24 := F_clients_23.other W24 (Or.inr (slot_ne (Or.inr (hw _ (List.mem_of_getElem? (i := 154) rfl))) (Or.inr (hw _ (List.mem_of_getElem? (i := 152) rfl))) (by decide) (t := (.array .int)) (t' := (.array .long)) (by decide) (by decide)))
  have F_measureFrom_24 := F_measureFrom_23.other W24 (Or.inr (slot_ne (Or.inr (hw _ (List.mem_of_getElem? (i := 156) rfl))) (Or.inr (hw _ (List.mem_of_getElem? (i := 152) rfl))) (by decide) (t := .long) (t' := (.array .long)) (by decide) (by decide)))
  have F_measureTo_24 := F_measureTo_23.other W24 (Or.inr (slot_ne (Or.inr (hw _ (List.mem_of_getElem? (i := 158) rfl))) (Or.inr (hw _ (List.mem_of_getElem? (i := 152) rfl))) (by decide) (t := .long) (t' := (.array .long)) (by decide) (by decide)))
  have F_requests_24 := F_requests_23.other W24 (Or.inr (slot_ne (Or.inl (hw _ (List.mem_of_getElem? (i := 174) rfl))) (Or.inr (hw _ (List.mem_of_getElem? (i := 152) rfl))) (by decide) (t := .long) (t' := (.array .long)) (by decide) (by decide)))
  have V_gs_24 := V_gs_23.other W24 (Ne.symm ne_t_gs)
  have V_st_24 := V_st_23.other W24 (Ne.symm ne_t_st)
  have Kp24 : Keep h0 h24 [t] := Kp23.wr W24 (Or.inl (List.mem_of_getElem? (i := 0) rfl))
  refine OGo.aloadN K (pc' := 129) own_d12_128 rfl rfl rfl ?_
  refine OGo.iload K (pc' := 131) own_d12_129 rfl rfl ?_
  refine OGo.newP K (pc' := 133) (cap := 4) (cells' := 7) (slots' := 1047) (hw _ (List.mem_of_getElem? (i := 114) rfl)) own_d12_131 rfl hN1 (by rw [hN2]; omega) (by decide) rfl rfl (by decide) (by decide) ?_
  intro h25 y4 k_y4 gq25 E25 V_y4
  have ne_t_y4 : t ≠ y4 := Nat.ne_of_lt (Nat.lt_of_lt_of_le E_24.lt (Nat.le_of_eq gq25.symm))
  have ne_a_y4 : a ≠ y4 := Nat.ne_of_lt (Nat.lt_of_lt_of_le (OAL1.lta L_24) (Nat.le_of_eq gq25.symm))
  have ne_x_y4 : x ≠ y4 := Nat.ne_of_lt (Nat.lt_of_lt_of_le (OAL1.ltx L_24) (Nat.le_of_eq gq25.symm))
  have ne_g1_y4 : g1 ≠ y4 := Nat.ne_of_lt (Nat.lt_of_lt_of_le Eg1_24.lt (Nat.le_of_eq gq25.symm))
  have ne_g2_y4 : g2 ≠ y4 := Nat.ne_of_lt (Nat.lt_of_lt_of_le Eg2_24.lt (Nat.le_of_eq gq25.symm))
  have ne_gs_y4 : gs ≠ y4 := Nat.ne_of_lt (Nat.lt_of_lt_of_le V_gs_24.lt (Nat.le_of_eq gq25.symm))
  have ne_st_y4 : st ≠ y4 := Nat.ne_of_lt (Nat.lt_of_lt_of_le V_st_24.lt (Nat.le_of_eq gq25.symm))
  have g_y4 : n0 ≤ y4 := Nat.le_trans Z24 (Nat.le_of_eq gq25.symm)
  have sz_y4 : h0.size ≤ y4 := Nat.le_trans Kp24.1 (Nat.le_of_eq gq25.symm)
  have Z25 : n0 ≤ h25.size := Nat.le_trans Z24 E25.1
  have Kp25 : Keep h0 h25 [t] := Kp24.ext E25
  have E_25 := E_24.ext E25
  have L_25 := OAL1.keep L_24 (own_keep_ext E25) nin0 nin0
  have Eg1_25 := Eg1_24.ext E25
  have Eg2_25 := Eg2_24.ext E25
  have Fg1_25 := Fg1_24.ext E25
  have Fg2_25 := Fg2_24.ext E25
  have Fw_groupStarts_t_25 := Fw_groupStarts_t_24.ext E25
  have Fw_sent_t_25 := Fw_sent_t_24.ext E25
  have F_clients_25 := F_clients_24.ext E25
  have F_measureFrom_25 := F_measureFrom_24.ext E25
  have F_measureTo_25 := F_measureTo_24.ext E25
  have F_requests_25 := F_requests_24.ext E25
  have V_gs_25 := V_gs_24.ext E25
  have V_st_25 := V_st_24.ext E25
  refine OGo.putF K (pc' := 136) (host := "") (Or.inl (hw _ (List.mem_of_getElem? (i := 153) rfl))) Via.refl F_clients_25 E_25 (Or.inr ⟨(hw _ (List.mem_of_getElem? (i := 154) rfl)), rfl, rfl⟩) (hw _ (List.mem_of_getElem? (i := 94) rfl)) (ty := (.array .int)) (by decide) rfl rfl g_t own_d12_133 rfl ?_
  intro h26 W26
  have Z26 : n0 ≤ h26.size := by rw [W26.size]; exact Z25
  have Fw_clients_t_26 := F_clients_25.same W26
  have E_26 := E_25.wr W26
  have L_26 := OAL1.keep L_25 (Keep.of_wr W26) (ninS (Ne.symm nta) nin0) (ninS (Ne.symm ntx) nin0)
  have Eg1_26 := Eg1_25.wr W26
  have Eg2_26 := Eg2_25.wr W26
  have Fg1_26 := Fg1_25.other W26 (Or.inl (Ne.symm nt1))
  have Fg2_26 := Fg2_25.other W26 (Or.inl (Ne.symm nt2))
  have Fw_groupStarts_t_26 := Fw_groupStarts_t_25.other W26 (Or.inr (slot_ne (Or.inr (hw _ (List.mem_of_getElem? (i := 116) rfl))) (Or.inr (hw _ (List.mem_of_getElem? (i := 154) rfl))) (by decide) (t := (.array .int)) (t' := (.array .int)) (by decide) (by decide)))
  have Fw_sent_t_26 := Fw_sent_t_25.other W26 (Or.inr (slot_ne (Or.inr (hw _ (List.mem_of_getElem? (i := 146) rfl))) (Or.inr (hw _ (List.mem_of_getElem? (i := 154) rfl))) (by decide) (t := (.array .long)) (t' := (.array .int)) (by decide) (by decide)))
  have F_measureFrom_26 := F_measureFrom_25.other W26 (Or.inr (slot_ne (Or.inr (hw _ (List.mem_of_getElem? (i := 156) rfl))) (Or.inr (hw _ (List.mem_of_getElem? (i := 154) rfl))) (by decide) (t := .long) (t' := (.array .int)) (by decide) (by decide)))
  have F_measureTo_26 := F_measureTo_25.other W26 (Or.inr (slot_ne (Or.inr (hw _ (List.mem_of_getElem? (i := 158) rfl))) (Or.inr (hw _ (List.mem_of_getElem? (i := 154) rfl))) (by decide) (t := .long) (t' := (.array .int)) (by decide) (by decide)))
  have F_requests_26 := F_requests_25.other W26 (Or.inr (slot_ne (Or.inl (hw _ (List.mem_of_getElem? (i := 174) rfl))) (Or.inr (hw _ (List.mem_of_getElem? (i := 154) rfl))) (by decide) (t := .long) (t' := (.array .int)) (by decide) (by decide)))
  have V_gs_26 := V_gs_25.other W26 (Ne.symm ne_t_gs)
  have V_st_26 := V_st_25.other W26 (Ne.symm ne_t_st)
  have Kp26 : Keep h0 h26 [t] := Kp25.wr W26 (Or.inl (List.mem_of_getElem? (i := 0) rfl))
  refine OGo.aloadN K (pc' := 137) own_d12_136 rfl rfl rfl ?_
  refine OGo.lloadN K (pc' := 138) own_d12_137 rfl rfl ?_
  refine OGo.putF K (pc' := 141) (host := "") (Or.inl (hw _ (List.mem_of_getElem? (i := 155) rfl))) Via.refl F_measureFrom_26 E_26 (Or.inr ⟨(hw _ (List.mem_of_getElem? (i := 156) rfl)), rfl, rfl⟩) (hw _ (List.mem_of_getElem? (i := 94) rfl)) (ty := .long) (by decide) rfl rfl g_t own_d12_138 rfl ?_
  intro h27 W27
  have Z27 : n0 ≤ h27.size := by rw [W27.size]; exact Z26
  have Fw_measureFrom_t_27 := F_measureFrom_26.same W27
  have E_27 := E_26.wr W27
  have L_27 := OAL1.keep L_26 (Keep.of_wr W27) (ninS (Ne.symm nta) nin0) (ninS (Ne.symm ntx) nin0)
  have Eg1_27 := Eg1_26.wr W27
  have Eg2_27 := Eg2_26.wr W27
  have Fg1_27 := Fg1_26.other W27 (Or.inl (Ne.symm nt1))
  have Fg2_27 := Fg2_26.other W27 (Or.inl (Ne.symm nt2))
  have Fw_groupStarts_t_27 := Fw_groupStarts_t_26.other W27 (Or.inr (slot_ne (Or.inr (hw _ (List.mem_of_getElem? (i := 116) rfl))) (Or.inr (hw _ (List.mem_of_getElem? (i := 156) rfl))) (by decide) (t := (.array .int)) (t' := .long) (by decide) (by decide)))
  have Fw_sent_t_27 := Fw_sent_t_26.other W27 (Or.inr (slot_ne (Or.inr (hw _ (List.mem_of_getElem? (i := 146) rfl))) (Or.inr (hw _ (List.mem_of_getElem? (i := 156) rfl))) (by decide) (t := (.array .long)) (t' := .long) (by decide) (by decide)))
  have F_measureTo_27 := F_measureTo_26.other W27 (Or.inr (slot_ne (Or.inr (hw _ (List.mem_of_getElem? (i := 158) rfl))) (Or.inr (hw _ (List.mem_of_getElem? (i := 156) rfl))) (by decide) (t := .long) (t' := .long) (by decide) (by decide)))
  have F_requests_27 := F_requests_26.other W27 (Or.inr (slot_ne (Or.inl (hw _ (List.mem_of_getElem? (i := 174) rfl))) (Or.inr (hw _ (List.mem_of_getElem? (i := 156) rfl))) (by decide) (t := .long) (t' := .long) (by decide) (by decide)))
  have V_gs_27 := V_gs_26.other W27 (Ne.symm ne_t_gs)
  have V_st_27 := V_st_26.other W27 (Ne.symm ne_t_st)
  have Kp27 : Keep h0 h27 [t] := Kp26.wr W27 (Or.inl (List.mem_of_getElem? (i := 0) rfl))
  refine OGo.aloadN K (pc' := 142) own_d12_141 rfl rfl rfl ?_
  refine OGo.lload K (pc' := 144) own_d12_142 rfl rfl ?_
  refine OGo.putF K (pc' := 147) (host := "") (Or.inl (hw _ (List.mem_of_getElem? (i := 157) rfl))) Via.refl F_measureTo_27 E_27 (Or.inr ⟨(hw _ (List.mem_of_getElem? (i := 158) rfl)), rfl, rfl⟩) (hw _ (List.mem_of_getElem? (i := 94) rfl)) (ty := .long) (by decide) rfl rfl g_t own_d12_144 rfl ?_
  intro h28 W28
  have Z28 : n0 ≤ h28.size := by rw [W28.size]; exact Z27
  have Fw_measureTo_t_28 := F_measureTo_27.same W28
  have E_28 := E_27.wr W28
  have L_28 := OAL1.keep L_27 (Keep.of_wr W28) (ninS (Ne.symm nta) nin0) (ninS (Ne.symm ntx) nin0)
  have Eg1_28 := Eg1_27.wr W28
  have Eg2_28 := Eg2_27.wr W28
  have Fg1_28 := Fg1_27.other W28 (Or.inl (Ne.symm nt1))
  have Fg2_28 := Fg2_27.other W28 (Or.inl (Ne.symm nt2))
  have Fw_groupStarts_t_28 := Fw_groupStarts_t_27.other W28 (Or.inr (slot_ne (Or.inr (hw _ (List.mem_of_getElem? (i := 116) rfl))) (Or.inr (hw _ (List.mem_of_getElem? (i := 158) rfl))) (by decide) (t := (.array .int)) (t' := .long) (by decide) (by decide)))
  have Fw_sent_t_28 := Fw_sent_t_27.other W28 (Or.inr (slot_ne (Or.inr (hw _ (List.mem_of_getElem? (i := 146) rfl))) (Or.inr (hw _ (List.mem_of_getElem? (i := 158) rfl))) (by decide) (t := (.array .long)) (t' := .long) (by decide) (by decide)))
  have Fw_measureFrom_t_28 := Fw_measureFrom_t_27.other W28 (Or.inr (slot_ne (Or.inr (hw _ (List.mem_of_getElem? (i := 156) rfl))) (Or.inr (hw _ (List.mem_of_getElem? (i := 158) rfl))) (by decide) (t := .long) (t' := .long) (by decide) (by decide)))
  have F_requests_28 := F_requests_27.other W28 (Or.inr (slot_ne (Or.inl (hw _ (List.mem_of_getElem? (i := 174) rfl))) (Or.inr (hw _ (List.mem_of_getElem? (i := 158) rfl))) (by decide) (t := .long) (t' := .long) (by decide) (by decide)))
  have V_gs_28 := V_gs_27.other W28 (Ne.symm ne_t_gs)
  have V_st_28 := V_st_27.other W28 (Ne.symm ne_t_st)
  have Kp28 : Keep h0 h28 [t] := Kp27.wr W28 (Or.inl (List.mem_of_getElem? (i := 0) rfl))
  exact OGo.vret K own_d12_147 (by decide) (by decide) ⟨rfl, gs, st, ⟨E_28, Fw_groupStarts_t_28, Fw_sent_t_28, ⟨_, F_requests_28⟩, Fw_measureFrom_t_28, Fw_measureTo_t_28, ⟨_, V_gs_28⟩, ⟨_, _, V_st_28.pad (pad_rep [] _ (A + B)), (by rw [List.nil_append, List.length_replicate]), fun i _ => own_zero (A + B) i⟩, ne_t_gs, ne_t_st, ne_gs_st, g_t, g_st⟩, Kp28⟩
set_option maxRecDepth 65536 in
set_option maxHeartbeats 40000000 in
theorem own_rm19 (l : Launch) (Z : State) (a0 : Array Value) (hw : ∀ d ∈ tables_1, d.before a0 Z = true) (t gs st : Addr) (fr to : Int64) (A B : Nat) (bs : List Nat) (g g' : Int32) (lo hi : Nat) (h0 : Heap) (n0 : Nat) (Z0 : n0 ≤ h0.size) (O : OTL Z n0 h0 t gs st fr to A B bs) (hAB : A + B < 100) (hb : bs.length < 1000) (hg : ¬ g < 0 ∧ g < 3) (hg' : ¬ g' < 0 ∧ g' < 3) (eg : g + 1 = g') (h1 : [Value.int 0, .int (Int32.ofNat A), .int (Int32.ofNat (A + B))].getD g.toNatClampNeg (.int 0) = .int (Int32.ofNat lo)) (h2 : [Value.int 0, .int (Int32.ofNat A), .int (Int32.ofNat (A + B))].getD g'.toNatClampNeg (.int 0) = .int (Int32.ofNat hi)) (hl : lo ≤ hi) (hh : hi ≤ A + B) :
    OCon l Z n0 (⟨"com/example/loadvane/loadvane/simulation/Tally", "sentToGroup", "(I)J"⟩ : MethodName) prog_58_method_11_code 5 (some .long) [] ({ frames := 0, cells := 0, slots := 0, locals := 0 } : Room) #[(.ref t), (.int g)] h0 (OV fun w h => w = .long (Int64.ofNat (own_rng bs lo hi)) ∧ h = h0) := by
  refine OCon.of (Ls := #[.val (.ref t), .val (.int g), .unset, .unset, .unset]) (plainFor_of_name own_pn_12) (fun m => own_entry m rfl) ?_
  intro p e s m below meth c K
  obtain ⟨E, F1, F2, ⟨rq, F3⟩, F4, F5, ⟨kg, Vg⟩, ⟨ks, vs, Vs, ls, Hs⟩, ne1, ne2, ne3, g_t, g_st⟩ := O
  have loop : ∀ (d i : Nat) (hd : i + d = hi) (hi' : lo ≤ i), OGo p l e ({ frames := 0, cells := 0, slots := 0, locals := 0 } : Room) s m #[(.ref t), (.int g)] below meth c n0 (OV fun w h => w = .long (Int64.ofNat (own_rng bs lo hi)) ∧ h = h0) h0 0 0 10 #[.val (.ref t), .val (.int g), .val (.long (Int64.ofNat (own_rng bs lo i))), .second, .val (.int (Int32.ofNat i))] [] := by
    intro d
    induction d with
    | zero =>
      intro i hd hi'
      have ei : i = hi := by omega
      subst ei
      refine OGo.iload K (pc' := 12) own_d19_10 rfl rfl ?_
      refine OGo.aloadN K (pc' := 13) own_d19_12 rfl rfl rfl ?_
      refine OGo.getF K (pc' := 16) (host := "") (Or.inl (hw _ (List.mem_of_getElem? (i := 115) rfl))) Via.refl F1 own_d19_13 rfl ?_
      refine OGo.iloadN K (pc' := 17) own_d19_16 rfl rfl ?_
      refine OGo.iconst K (pc' := 18) (z := 1) own_d19_17 rfl rfl ?_
      refine OGo.iadd K (pc' := 19) own_d19_18 rfl ?_
      rw [show (g + (1 : Int32)) = g' from eg]
      refine OGo.iaload K (pc' := 20) (v := (.int (Int32.ofNat i))) Vg hg' h2 own_d19_19 rfl ?_
      refine OGo.icmpGe K (pc' := 23) (pcY := 39) own_d19_20 rfl (by decide) rfl (fun hc20 => ?_) (fun hc20 => absurd hc20 (Int32.lt_irrefl : ¬ (Int32.ofNat i) < (Int32.ofNat i)))
      refine OGo.lloadN K (pc' := 40) own_d19_39 rfl rfl ?_
      exact OGo.lret K own_d19_40 (by decide) (by decide) ⟨_, rfl, rfl, rfl⟩
    | succ d ih =>
      intro i hd hi'
      obtain ⟨i1, i2, i3⟩ := own_a32 (n := i) (N := A + B) (by omega) (by omega)
      obtain ⟨-, i4, -⟩ := own_a32 (n := i) (N := hi) (by omega) (by omega)
      have hc : bs.count i ≤ bs.length := List.count_le_length
      have hr := own_rng_le bs lo i
      refine OGo.iload K (pc' := 12) own_d19_10 rfl rfl ?_
      refine OGo.aloadN K (pc' := 13) own_d19_12 rfl rfl rfl ?_
      refine OGo.getF K (pc' := 16) (host := "") (Or.inl (hw _ (List.mem_of_getElem? (i := 115) rfl))) Via.refl F1 own_d19_13 rfl ?_
      refine OGo.iloadN K (pc' := 17) own_d19_16 rfl rfl ?_
      refine OGo.iconst K (pc' := 18) (z := 1) own_d19_17 rfl rfl ?_
      refine OGo.iadd K (pc' := 19) own_d19_18 rfl ?_
      rw [show (g + (1 : Int32)) = g' from eg]
      refine OGo.iaload K (pc' := 20) (v := (.int (Int32.ofNat hi))) Vg hg' h2 own_d19_19 rfl ?_
      refine OGo.icmpGe K (pc' := 23) (pcY := 39) own_d19_20 rfl (by decide) rfl (fun hc20 => absurd (i4 : (Int32.ofNat i) < (Int32.ofNat hi)) hc20) (fun hc20 => ?_)
      refine OGo.lloadN K (pc' := 24) own_d19_23 rfl rfl ?_
      refine OGo.aloadN K (pc' := 25) own_d19_24 rfl rfl rfl ?_
      refine OGo.getF K (pc' := 28) (host := "") (Or.inl (hw _ (List.mem_of_getElem? (i := 145) rfl))) Via.refl F2 own_d19_25 rfl ?_
      refine OGo.iload K (pc' := 30) own_d19_28 rfl rfl ?_
      refine OGo.laload K (pc' := 31) (v := (.long (Int64.ofNat (bs.count i)))) Vs ⟨i1, i2⟩ (by rw [i3]; exact Hs i (by omega)) own_d19_30 rfl ?_
      refine OGo.ladd K (pc' := 32) own_d19_31 rfl ?_
      refine OGo.lstoreN K (pc' := 33) (Ls' := #[.val (.ref t), .val (.int g), .val (.long ((Int64.ofNat (own_rng bs lo i)) + (Int64.ofNat (bs.count i)))), .second, .val (.int (Int32.ofNat i))]) own_d19_32 rfl rfl ?_
      refine OGo.iinc K (pc' := 36) (z := 1) (Ls' := #[.val (.ref t), .val (.int g), .val (.long ((Int64.ofNat (own_rng bs lo i)) + (Int64.ofNat (bs.count i)))), .second, .val (.int ((Int32.ofNat i) + (1 : Int32)))]) own_d19_33 rfl rfl rfl rfl ?_
      refine OGo.goto K (pc' := 10) own_d19_36 (by decide) rfl ?_
      rw [← inc_ofNat, own_o64 _ _ (by omega), ← own_rng_succ bs lo i hi']
      exact ih (i + 1) (by omega) (by omega)
  refine OGo.lconst K (pc' := 1) (z := 0) own_d19_0 rfl rfl ?_
  refine OGo.lstoreN K (pc' := 2) (Ls' := #[.val (.ref t), .val (.int g), .val (.long (0 : Int64)), .second, .unset]) own_d19_1 rfl rfl ?_
  refine OGo.aloadN K (pc' := 3) own_d19_2 rfl rfl rfl ?_
  refine OGo.getF K (pc' := 6) (host := "") (Or.inl (hw _ (List.mem_of_getElem? (i := 115) rfl))) Via.refl F1 own_d19_3 rfl ?_
  refine OGo.iloadN K (pc' := 7) own_d19_6 rfl rfl ?_
  refine OGo.iaload K (pc' := 8) (v := (.int (Int32.ofNat lo))) Vg hg h1 own_d19_7 rfl ?_
  refine OGo.istore K (pc' := 10) (Ls' := #[.val (.ref t), .val (.int g), .val (.long (0 : Int64)), .second, .val (.int (Int32.ofNat lo))]) own_d19_8 rfl rfl ?_
  have fin := loop (hi - lo) lo (by omega) (Nat.le_refl _)
  rw [own_rng_refl] at fin
  exact fin
set_option maxRecDepth 65536 in
set_option maxHeartbeats 40000000 in
theorem own_rm21 (l : Launch) (Z : State) (a0 : Array Value) (hw : ∀ d ∈ tables_1, d.before a0 Z = true) (t : Addr) (x fr to : Int64) (h0 : Heap) (n0 : Nat) (Z0 : n0 ≤ h0.size) (F4 : Fld Z h0 t "com/example/loadvane/loadvane/simulation/Tally" "measureFrom" "J" (.long fr)) (F5 : Fld Z h0 t "com/example/loadvane/loadvane/simulation/Tally" "measureTo" "J" (.long to)) :
    OCon l Z n0 (⟨"com/example/loadvane/loadvane/simulation/Tally", "measured", "(J)Z"⟩ : MethodName) prog_58_method_20_code 3 (some .boolean) [] ({ frames := 0, cells := 0, slots := 0, locals := 0 } : Room) #[(.ref t), (.long x)] h0 (OV fun w h => w = .int (if own_ms x fr to then 1 else 0) ∧ h = h0) := by
  refine OCon.of (Ls := #[.val (.ref t), .val (.long x), .second]) (plainFor_of_name own_pn_12) (fun m => own_entry m rfl) ?_
  intro p e s m below meth c K
  refine OGo.lloadN K (pc' := 1) own_d21_0 rfl rfl ?_
  refine OGo.aloadN K (pc' := 2) own_d21_1 rfl rfl rfl ?_
  refine OGo.getF K (pc' := 5) (host := "") (Or.inl (hw _ (List.mem_of_getElem? (i := 155) rfl))) Via.refl F4 own_d21_2 rfl ?_
  refine OGo.lcmpLt K (pc' := 9) (pcY := 22) own_d21_5 rfl own_d21_6 rfl (by decide) rfl (fun h1 => ?_) (fun h1 => ?_)
  · skip
    refine OGo.iconst K (pc' := 23) (z := 0) own_d21_22 rfl rfl ?_
    exact OGo.ret K own_d21_23 rfl (Or.inl ⟨rfl, by simp, _, rfl⟩) (by decide) (by decide) ⟨_, rfl, by rw [if_neg (fun z => z.1 h1)], rfl⟩
  · skip
    refine OGo.lloadN K (pc' := 10) own_d21_9 rfl rfl ?_
    refine OGo.aloadN K (pc' := 11) own_d21_10 rfl rfl rfl ?_
    refine OGo.getF K (pc' := 14) (host := "") (Or.inl (hw _ (List.mem_of_getElem? (i := 157) rfl))) Via.refl F5 own_d21_11 rfl ?_
    refine OGo.lcmpGe K (pc' := 18) (pcY := 22) own_d21_14 rfl own_d21_15 rfl (by decide) rfl (fun h2 => ?_) (fun h2 => ?_)
    · skip
      refine OGo.iconst K (pc' := 23) (z := 0) own_d21_22 rfl rfl ?_
      exact OGo.ret K own_d21_23 rfl (Or.inl ⟨rfl, by simp, _, rfl⟩) (by decide) (by decide) ⟨_, rfl, by rw [if_neg (fun z => h2 z.2)], rfl⟩
    · skip
      refine OGo.iconst K (pc' := 19) (z := 1) own_d21_18 rfl rfl ?_
      refine OGo.goto K (pc' := 23) own_d21_19 (by decide) rfl ?_
      exact OGo.ret K own_d21_23 rfl (Or.inl ⟨rfl, by simp, _, rfl⟩) (by decide) (by decide) ⟨_, rfl, by rw [if_pos ⟨h1, h2⟩], rfl⟩
set_option maxRecDepth 65536 in
set_option maxHeartbeats 40000000 in
theorem own_rm20 (l : Launch) (Z : State) (a0 : Array Value) (hw : ∀ d ∈ tables_1, d.before a0 Z = true) (t gs st : Addr) (fr to : Int64) (A B : Nat) (bs : List Nat) (x : Int64) (k : Nat) (h0 : Heap) (n0 : Nat) (Z0 : n0 ≤ h0.size) (O : OTL Z n0 h0 t gs st fr to A B bs) (hk : k < A + B) (hAB : A + B < 100) (hb : bs.length < 1000) :
    OCon l Z n0 (⟨"com/example/loadvane/loadvane/simulation/Tally", "sent", "(JI)V"⟩ : MethodName) prog_58_method_3_code 4 none [] ({ frames := 1, cells := 0, slots := 0, locals := 14 } : Room) #[(.ref t), (.long x), (.int (Int32.ofNat k))] h0 (ON fun h => OTL Z n0 h t gs st fr to A B (own_st x fr to k bs) ∧ Keep h0 h [t, st]) := by
  refine OCon.of (Ls := #[.val (.ref t), .val (.long x), .second, .val (.int (Int32.ofNat k))]) (plainFor_of_name own_pn_12) (fun m => own_entry m rfl) ?_
  intro p e s m below meth c K
  have O' := O
  obtain ⟨E, F1, F2, ⟨rq, F3⟩, F4, F5, ⟨kg, Vg⟩, ⟨ks, vs, Vs, ls, Hs⟩, ne1, ne2, ne3, g_t, g_st⟩ := O
  obtain ⟨i1, i2, i3⟩ := own_a32 hk (by omega)
  refine OGo.aloadN K (pc' := 1) own_d20_0 rfl rfl rfl ?_
  refine OGo.lloadN K (pc' := 2) own_d20_1 rfl rfl ?_
  refine OGo.callQV K (pc' := 5) (y := (⟨"com/example/loadvane/loadvane/simulation/Tally", "measured", "(J)Z"⟩ : MethodName)) (a := t) (W := 0) (cells' := 0) (slots' := 0) (argsL := [(.long x)]) (st := []) E (hw _ (List.mem_of_getElem? (i := 169) rfl)) (hw _ (List.mem_of_getElem? (i := 170) rfl)) (hw _ (List.mem_of_getElem? (i := 94) rfl)) (hw _ (List.mem_of_getElem? (i := 171) rfl)) (hw _ (List.mem_of_getElem? (i := 95) rfl)) (hw _ (List.mem_of_getElem? (i := 172) rfl)) (by decide) (own_rm21 l Z a0 hw t x fr to h0 n0 Z0 F4 F5) own_d20_2 rfl rfl (lenOf own_pd16 rfl) (by show 2 * 0 + _ ≤ _; exact Nat.le_of_eq rfl) (by decide) (by decide) rfl rfl (by decide) (by decide) ?_
  rintro _ h1 ⟨rfl, e1⟩
  rw [e1]
  show OGo p l e _ s m _ below meth c n0 _ h0 0 0 5 #[.val (.ref t), .val (.long x), .second, .val (.int (Int32.ofNat k))] [(.int (if own_ms x fr to then 1 else 0))]
  by_cases hm : own_ms x fr to
  · skip
    rw [if_pos hm]
    refine OGo.ifEq K (pc' := 8) (pcY := 28) own_d20_5 rfl (by decide) rfl (fun hc5 => absurd hc5 (by decide : ¬ (1 : Int32) = (0 : Int32))) (fun hc5 => ?_)
    refine OGo.aloadN K (pc' := 9) own_d20_8 rfl rfl rfl ?_
    refine OGo.dup K (pc' := 10) own_d20_9 rfl rfl ?_
    refine OGo.getF K (pc' := 13) (host := "") (Or.inl (hw _ (List.mem_of_getElem? (i := 173) rfl))) Via.refl F3 own_d20_10 rfl ?_
    refine OGo.lconst K (pc' := 14) (z := 1) own_d20_13 rfl rfl ?_
    refine OGo.ladd K (pc' := 15) own_d20_14 rfl ?_
    refine OGo.putF K (pc' := 18) (host := "") (Or.inl (hw _ (List.mem_of_getElem? (i := 173) rfl))) Via.refl F3 E (Or.inl (hw _ (List.mem_of_getElem? (i := 174) rfl))) (hw _ (List.mem_of_getElem? (i := 94) rfl)) (ty := .long) (by decide) rfl rfl g_t own_d20_15 rfl ?_
    intro h2 W2
    have Z2 : n0 ≤ h2.size := by rw [W2.size]; exact Z0
    have Fw_requests_t_2 := F3.same W2
    have E_2 := E.wr W2
    have F1_2 := F1.other W2 (Or.inr (slot_ne (Or.inr (hw _ (List.mem_of_getElem? (i := 116) rfl))) (Or.inl (hw _ (List.mem_of_getElem? (i := 174) rfl))) (by decide) (t := (.array .int)) (t' := .long) (by decide) (by decide)))
    have F2_2 := F2.other W2 (Or.inr (slot_ne (Or.inr (hw _ (List.mem_of_getElem? (i := 146) rfl))) (Or.inl (hw _ (List.mem_of_getElem? (i := 174) rfl))) (by decide) (t := (.array .long)) (t' := .long) (by decide) (by decide)))
    have F4_2 := F4.other W2 (Or.inr (slot_ne (Or.inr (hw _ (List.mem_of_getElem? (i := 156) rfl))) (Or.inl (hw _ (List.mem_of_getElem? (i := 174) rfl))) (by decide) (t := .long) (t' := .long) (by decide) (by decide)))
    have F5_2 := F5.other W2 (Or.inr (slot_ne (Or.inr (hw _ (List.mem_of_getElem? (i := 158) rfl))) (Or.inl (hw _ (List.mem_of_getElem? (i := 174) rfl))) (by decide) (t := .long) (t' := .long) (by decide) (by decide)))
    have Vg_2 := Vg.other W2 (Ne.symm ne1)
    have Vs_2 := Vs.other W2 (Ne.symm ne2)
    have Kp2 : Keep h0 h2 [t, st] := (Keep.refl h0 [t, st]).wr W2 (Or.inl (List.mem_of_getElem? (i := 0) rfl))
    refine OGo.aloadN K (pc' := 19) own_d20_18 rfl rfl rfl ?_
    refine OGo.getF K (pc' := 22) (host := "") (Or.inl (hw _ (List.mem_of_getElem? (i := 145) rfl))) Via.refl F2_2 own_d20_19 rfl ?_
    refine OGo.iloadN K (pc' := 23) own_d20_22 rfl rfl ?_
    refine OGo.dup2 K (pc' := 24) own_d20_23 rfl rfl rfl ?_
    refine OGo.laload K (pc' := 25) (v := (.long (Int64.ofNat (bs.count k)))) Vs_2 ⟨i1, i2⟩ (by rw [i3]; exact Hs k hk) own_d20_24 rfl ?_
    refine OGo.lconst K (pc' := 26) (z := 1) own_d20_25 rfl rfl ?_
    refine OGo.ladd K (pc' := 27) own_d20_26 rfl ?_
    refine OGo.lastore K (pc' := 28) (i := k) Vs_2 ⟨i1, i2⟩ i3 (by rw [ls]; exact hk) g_st own_d20_27 rfl ?_
    intro h3 W3 Vs_3
    have Z3 : n0 ≤ h3.size := by rw [W3.size]; exact Z2
    have E_3 := E_2.wr W3
    have F1_3 := F1_2.other W3 (Or.inl ne2)
    have F2_3 := F2_2.other W3 (Or.inl ne2)
    have Fw_requests_t_3 := Fw_requests_t_2.other W3 (Or.inl ne2)
    have F4_3 := F4_2.other W3 (Or.inl ne2)
    have F5_3 := F5_2.other W3 (Or.inl ne2)
    have Vg_3 := Vg_2.other W3 ne3
    have Kp3 : Keep h0 h3 [t, st] := Kp2.wr W3 (Or.inl (List.mem_of_getElem? (i := 1) rfl))
    exact OGo.vret K own_d20_28 (by decide) (by decide) ⟨rfl, by rw [own_st, if_pos hm]; exact ⟨E_3, F1_3, F2_3, ⟨_, Fw_requests_t_3⟩, F4_3, F5_3, ⟨_, Vg_3⟩, ⟨_, _, Vs_3, by rw [List.length_set]; exact ls, own_rec ls hk hb Hs⟩, ne1, ne2, ne3, g_t, g_st⟩, Kp3⟩
  · skip
    rw [if_neg hm]
    refine OGo.ifEq K (pc' := 8) (pcY := 28) own_d20_5 rfl (by decide) rfl (fun hc5 => ?_) (fun hc5 => absurd (by decide : (0 : Int32) = (0 : Int32)) hc5)
    exact OGo.vret K own_d20_28 (by decide) (by decide) ⟨rfl, by rw [own_st, if_neg hm]; exact O', Keep.refl _ _⟩
set_option maxRecDepth 65536 in
set_option maxHeartbeats 40000000 in
theorem own_rm22 (l : Launch) (Z : State) (a0 : Array Value) (hw : ∀ d ∈ tables_1, d.before a0 Z = true) (x fr to : Int64) (k lo hi : Nat) (h0 : Heap) (n0 : Nat) (Z0 : n0 ≤ h0.size) (hk : k < 1000) (hl : lo < 1000) (hh : hi < 1000) :
    OCon l Z n0 (⟨"com/example/loadvane/loadvane/simulation/TallySentToGroupPinLaw", "hit", "(JJJIII)J"⟩ : MethodName) method_3_code 9 (some .long) [] ({ frames := 0, cells := 0, slots := 0, locals := 0 } : Room) #[(.long x), (.long fr), (.long to), (.int (Int32.ofNat k)), (.int (Int32.ofNat lo)), (.int (Int32.ofNat hi))] h0 (OV fun w h => w = .long (Int64.ofNat (own_hit x fr to k lo hi)) ∧ h = h0) := by
  refine OCon.of (Ls := #[.val (.long x), .second, .val (.long fr), .second, .val (.long to), .second, .val (.int (Int32.ofNat k)), .val (.int (Int32.ofNat lo)), .val (.int (Int32.ofNat hi))]) (plainFor_of_name own_pn_22) (fun m => own_entry m rfl) ?_
  intro p e s m below meth c K
  obtain ⟨q1, q2⟩ := own_hitv x fr to hk hl hh
  refine OGo.lloadN K (pc' := 1) own_d22_0 rfl rfl ?_
  refine OGo.lloadN K (pc' := 2) own_d22_1 rfl rfl ?_
  refine OGo.lcmpLt K (pc' := 6) (pcY := 29) own_d22_2 rfl own_d22_3 rfl (by decide) rfl (fun h1 => ?_) (fun h1 => ?_)
  · skip
    refine OGo.lconst K (pc' := 30) (z := 0) own_d22_29 rfl rfl ?_
    exact OGo.lret K own_d22_30 (by decide) (by decide) ⟨_, rfl, by rw [own_hit, if_neg (fun z => z.1.1 h1)]; rfl, rfl⟩
  · skip
    refine OGo.lloadN K (pc' := 7) own_d22_6 rfl rfl ?_
    refine OGo.lload K (pc' := 9) own_d22_7 rfl rfl ?_
    refine OGo.lcmpGe K (pc' := 13) (pcY := 29) own_d22_9 rfl own_d22_10 rfl (by decide) rfl (fun h2 => ?_) (fun h2 => ?_)
    · skip
      refine OGo.lconst K (pc' := 30) (z := 0) own_d22_29 rfl rfl ?_
      exact OGo.lret K own_d22_30 (by decide) (by decide) ⟨_, rfl, by rw [own_hit, if_neg (fun z => h2 z.1.2)]; rfl, rfl⟩
    · skip
      refine OGo.iload K (pc' := 15) own_d22_13 rfl rfl ?_
      refine OGo.iload K (pc' := 17) own_d22_15 rfl rfl ?_
      refine OGo.icmpLt K (pc' := 20) (pcY := 29) own_d22_17 rfl (by decide) rfl (fun h3 => ?_) (fun h3 => ?_)
      · skip
        refine OGo.lconst K (pc' := 30) (z := 0) own_d22_29 rfl rfl ?_
        exact OGo.lret K own_d22_30 (by decide) (by decide) ⟨_, rfl, by rw [own_hit, if_neg (fun z => absurd (q1.mp h3) (Nat.not_lt.mpr z.2.1))]; rfl, rfl⟩
      · skip
        refine OGo.iload K (pc' := 22) own_d22_20 rfl rfl ?_
        refine OGo.iload K (pc' := 24) own_d22_22 rfl rfl ?_
        refine OGo.icmpGe K (pc' := 27) (pcY := 29) own_d22_24 rfl (by decide) rfl (fun h4 => ?_) (fun h4 => ?_)
        · skip
          refine OGo.lconst K (pc' := 30) (z := 0) own_d22_29 rfl rfl ?_
          exact OGo.lret K own_d22_30 (by decide) (by decide) ⟨_, rfl, by rw [own_hit, if_neg (fun z => h4 (q2.mpr z.2.2))]; rfl, rfl⟩
        · skip
          refine OGo.lconst K (pc' := 28) (z := 1) own_d22_27 rfl rfl ?_
          exact OGo.lret K own_d22_28 (by decide) (by decide) ⟨_, rfl, by rw [own_hit, if_pos ⟨⟨h1, h2⟩, Nat.le_of_not_lt (fun z => h3 (q1.mpr z)), q2.mp h4⟩]; rfl, rfl⟩
set_option maxRecDepth 65536 in
set_option maxHeartbeats 40000000 in
theorem own_rm0 (l : Launch) (Z : State) (a0 : Array Value) (hw : ∀ d ∈ tables_1, d.before a0 Z = true) (ws : List Jvm.Cond) (v0 : Int32) (fr to t1 t2 t3 : Int64) (dd : Addr) (h0 : Heap) (n0 : Nat) (Z0 : n0 ≤ h0.size) (Wd : OWd Z n0 h0 dd) :
    OCon l Z n0 x code maxLocals ret ws room_1 #[(.int v0), (.long fr), (.long to), (.long t1), (.long t2), (.long t3)] h0 (OV fun w h => w = .int 1) := by
  refine OCon.of (Ls := #[.val (.int v0), .val (.long fr), .second, .val (.long to), .second, .val (.long t1), .second, .val (.long t2), .second, .val (.long t3), .second, .unset, .unset, .unset, .unset, .unset, .unset, .unset, .unset, .unset, .unset, .unset, .unset]) (plainFor_of_name own_pn_22) (fun m => own_entry m rfl) ?_
  intro p e s m below meth c K
  obtain ⟨A, eA, hA⟩ := own_mask3 v0
  obtain ⟨B, eB, hB⟩ := own_mask3 (ushr v0 (2 : Int32))
  refine OGo.iloadN K (pc' := 1) at_0 rfl rfl ?_
  refine OGo.iconst K (pc' := 2) (z := 3) at_1 rfl rfl ?_
  refine OGo.iand K (pc' := 3) at_2 rfl ?_
  refine OGo.iconst K (pc' := 4) (z := 3) at_3 rfl rfl ?_
  refine OGo.irem K (pc' := 5) at_4 rfl (by decide) ?_
  rw [show ((v0 &&& (3 : Int32)) % (3 : Int32)) = (Int32.ofNat A) from eA]
  refine OGo.istore K (pc' := 7) (Ls' := #[.val (.int v0), .val (.long fr), .second, .val (.long to), .second, .val (.long t1), .second, .val (.long t2), .second, .val (.long t3), .second, .val (.int (Int32.ofNat A)), .unset, .unset, .unset, .unset, .unset, .unset, .unset, .unset, .unset, .unset, .unset]) at_5 rfl rfl ?_
  refine OGo.iloadN K (pc' := 8) at_7 rfl rfl ?_
  refine OGo.iconst K (pc' := 9) (z := 2) at_8 rfl rfl ?_
  refine OGo.iushr K (pc' := 10) at_9 rfl ?_
  refine OGo.iconst K (pc' := 11) (z := 3) at_10 rfl rfl ?_
  refine OGo.iand K (pc' := 12) at_11 rfl ?_
  refine OGo.iconst K (pc' := 13) (z := 3) at_12 rfl rfl ?_
  refine OGo.irem K (pc' := 14) at_13 rfl (by decide) ?_
  rw [show (((ushr v0 (2 : Int32)) &&& (3 : Int32)) % (3 : Int32)) = (Int32.ofNat B) from eB]
  refine OGo.istore K (pc' := 16) (Ls' := #[.val (.int v0), .val (.long fr), .second, .val (.long to), .second, .val (.long t1), .second, .val (.long t2), .second, .val (.long t3), .second, .val (.int (Int32.ofNat A)), .val (.int (Int32.ofNat B)), .unset, .unset, .unset, .unset, .unset, .unset, .unset, .unset, .unset, .unset]) at_14 rfl rfl ?_
  refine OGo.iload K (pc' := 18) at_16 rfl rfl ?_
  refine OGo.iload K (pc' := 20) at_18 rfl rfl ?_
  refine OGo.iadd K (pc' := 21) at_20 rfl ?_
  rw [show ((Int32.ofNat A) + (Int32.ofNat B)) = (Int32.ofNat (A + B)) from (own_add32 A B (by omega))]
  refine OGo.istore K (pc' := 23) (Ls' := #[.val (.int v0), .val (.long fr), .second, .val (.long to), .second, .val (.long t1), .second, .val (.long t2), .second, .val (.long t3), .second, .val (.int (Int32.ofNat A)), .val (.int (Int32.ofNat B)), .val (.int (Int32.ofNat (A + B))), .unset, .unset, .unset, .unset, .unset, .unset, .unset, .unset, .unset]) at_21 rfl rfl ?_
  refine OGo.newO K (pc' := 26) (cells' := 1) (slots' := 3) (hw _ (List.mem_of_getElem? (i := 0) rfl)) (hw _ (List.mem_of_getElem? (i := 1) rfl)) (hw _ (List.mem_of_getElem? (i := 2) rfl)) at_23 rfl rfl rfl (by decide) (by decide) ?_
  intro h1 a gq1 E1 A1 D1
  have g_a : n0 ≤ a := Nat.le_trans Z0 (Nat.le_of_eq gq1.symm)
  have Z1 : n0 ≤ h1.size := Nat.le_trans Z0 E1.1
  have Wd_1 := OWd.ext Wd E1
  have F_modCount_a : Fld Z h1 a "java/util/AbstractList" "modCount" "I" (.int (0 : Int32)) := D1 (Or.inl (hw _ (List.mem_of_getElem? (i := 22) rfl))) (ty := .int) (by decide)
  have F_elementData_a : Fld Z h1 a "java/util/ArrayList" "elementData" "[Ljava/lang/Object;" .null := D1 (Or.inl (hw _ (List.mem_of_getElem? (i := 25) rfl))) (ty := (.array (.object "java/lang/Object"))) (by decide)
  have F_size_a : Fld Z h1 a "java/util/ArrayList" "size" "I" (.int (0 : Int32)) := D1 (Or.inl (hw _ (List.mem_of_getElem? (i := 70) rfl))) (ty := .int) (by decide)
  refine OGo.dup K (pc' := 27) at_26 rfl rfl ?_
  refine OGo.callIN K (pc' := 30) (y := (⟨"java/util/ArrayList", "<init>", "()V"⟩ : MethodName)) (a := a) (W := 1) (cells' := 1) (slots' := 3) (argsL := []) (st := [(.ref a)]) rfl (hw _ (List.mem_of_getElem? (i := 3) rfl)) (hw _ (List.mem_of_getElem? (i := 4) rfl)) (hw _ (List.mem_of_getElem? (i := 2) rfl)) (hw _ (List.mem_of_getElem? (i := 5) rfl)) (by decide) (own_al_init l Z a0 hw a dd _ _ h1 n0 Z1 A1 F_elementData_a F_size_a F_modCount_a g_a Wd_1) at_27 rfl rfl (lenOf own_pd1 rfl) (by show 2 * 0 + _ ≤ _; exact Nat.le_of_eq rfl) (by decide) (by decide) rfl rfl (by decide) (by decide) ?_
  rintro h2 ⟨L2, K2⟩
  have Z2 : n0 ≤ h2.size := Nat.le_trans Z1 K2.1
  have Wd_2 := OWd.keep Wd_1 K2 (allS g_a all0)
  refine OGo.astore K (pc' := 32) (Ls' := #[.val (.int v0), .val (.long fr), .second, .val (.long to), .second, .val (.long t1), .second, .val (.long t2), .second, .val (.long t3), .second, .val (.int (Int32.ofNat A)), .val (.int (Int32.ofNat B)), .val (.int (Int32.ofNat (A + B))), .val (.ref a), .unset, .unset, .unset, .unset, .unset, .unset, .unset, .unset]) at_30 rfl rfl rfl ?_
  refine OGo.aload K (pc' := 34) at_32 rfl rfl rfl ?_
  refine OGo.newO K (pc' := 37) (cells' := 2) (slots' := 15) (hw _ (List.mem_of_getElem? (i := 26) rfl)) (hw _ (List.mem_of_getElem? (i := 27) rfl)) (hw _ (List.mem_of_getElem? (i := 28) rfl)) at_34 rfl rfl rfl (by decide) (by decide) ?_
  intro h3 g1 gq3 E3 A3 D3
  have ne_a_g1 : a ≠ g1 := Nat.ne_of_lt (Nat.lt_of_lt_of_le (OAL0.lta L2) (Nat.le_of_eq gq3.symm))
  have g_g1 : n0 ≤ g1 := Nat.le_trans Z2 (Nat.le_of_eq gq3.symm)
  have Z3 : n0 ≤ h3.size := Nat.le_trans Z2 E3.1
  have Wd_3 := OWd.ext Wd_2 E3
  have L2_3 := OAL0.keep L2 (own_keep_ext E3) nin0
  have F_name_g1 : Fld Z h3 g1 "com/example/loadvane/loadvane/simulation/Group" "name" "Ljava/lang/String;" .null := D3 (Or.inr (hw _ (List.mem_of_getElem? (i := 39) rfl))) (ty := (.object "java/lang/String")) (by decide)
  have F_count_g1 : Fld Z h3 g1 "com/example/loadvane/loadvane/simulation/Group" "count" "I" (.int (0 : Int32)) := D3 (Or.inr (hw _ (List.mem_of_getElem? (i := 41) rfl))) (ty := .int) (by decide)
  have F_service_g1 : Fld Z h3 g1 "com/example/loadvane/loadvane/simulation/Group" "service" "Lcom/example/loadvane/loadvane/simulation/Group$Service;" .null := D3 (Or.inr (hw _ (List.mem_of_getElem? (i := 43) rfl))) (ty := (.object "com/example/loadvane/loadvane/simulation/Group$Service")) (by decide)
  have F_serviceNanos_g1 : Fld Z h3 g1 "com/example/loadvane/loadvane/simulation/Group" "serviceNanos" "J" (.long (0 : Int64)) := D3 (Or.inr (hw _ (List.mem_of_getElem? (i := 45) rfl))) (ty := .long) (by decide)
  have F_workers_g1 : Fld Z h3 g1 "com/example/loadvane/loadvane/simulation/Group" "workers" "I" (.int (0 : Int32)) := D3 (Or.inr (hw _ (List.mem_of_getElem? (i := 47) rfl))) (ty := .int) (by decide)
  have F_queue_g1 : Fld Z h3 g1 "com/example/loadvane/loadvane/simulation/Group" "queue" "I" (.int (0 : Int32)) := D3 (Or.inr (hw _ (List.mem_of_getElem? (i := 49) rfl))) (ty := .int) (by decide)
  have F_failRate_g1 : Fld Z h3 g1 "com/example/loadvane/loadvane/simulation/Group" "failRate" "D" (.double (0 : UInt64)) := D3 (Or.inr (hw _ (List.mem_of_getElem? (i := 51) rfl))) (ty := .double) (by decide)
  have F_downFromNanos_g1 : Fld Z h3 g1 "com/example/loadvane/loadvane/simulation/Group" "downFromNanos" "J" (.long (0 : Int64)) := D3 (Or.inr (hw _ (List.mem_of_getElem? (i := 53) rfl))) (ty := .long) (by decide)
  have F_downUntilNanos_g1 : Fld Z h3 g1 "com/example/loadvane/loadvane/simulation/Group" "downUntilNanos" "J" (.long (0 : Int64)) := D3 (Or.inr (hw _ (List.mem_of_getElem? (i := 55) rfl))) (ty := .long) (by decide)
  have F_startNanos_g1 : Fld Z h3 g1 "com/example/loadvane/loadvane/simulation/Group" "startNanos" "J" (.long (0 : Int64)) := D3 (Or.inr (hw _ (List.mem_of_getElem? (i := 57) rfl))) (ty := .long) (by decide)
  have F_slowFromNanos_g1 : Fld Z h3 g1 "com/example/loadvane/loadvane/simulation/Group" "slowFromNanos" "J" (.long (0 : Int64)) := D3 (Or.inr (hw _ (List.mem_of_getElem? (i := 59) rfl))) (ty := .long) (by decide)
  have F_slowServiceNanos_g1 : Fld Z h3 g1 "com/example/loadvane/loadvane/simulation/Group" "slowServiceNanos" "J" (.long (0 : Int64)) := D3 (Or.inr (hw _ (List.mem_of_getElem? (i := 61) rfl))) (ty := .long) (by decide)
  refine OGo.dup K (pc' := 38) at_37 rfl rfl ?_
  refine OGo.aconstNull K (pc' := 39) at_38 rfl ?_
  refine OGo.iload K (pc' := 41) at_39 rfl rfl ?_
  refine OGo.aconstNull K (pc' := 42) at_41 rfl ?_
  refine OGo.lconst K (pc' := 43) (z := 0) at_42 rfl rfl ?_
  refine OGo.iconst K (pc' := 44) (z := 0) at_43 rfl rfl ?_
  refine OGo.iconst K (pc' := 45) (z := 0) at_44 rfl rfl ?_
  refine OGo.dconst0 K (pc' := 46) (z := (0 : UInt64)) at_45 rfl rfl ?_
  refine OGo.lconst K (pc' := 47) (z := 0) at_46 rfl rfl ?_
  refine OGo.lconst K (pc' := 48) (z := 0) at_47 rfl rfl ?_
  refine OGo.lconst K (pc' := 49) (z := 0) at_48 rfl rfl ?_
  refine OGo.lconst K (pc' := 50) (z := 0) at_49 rfl rfl ?_
  refine OGo.lconst K (pc' := 51) (z := 0) at_50 rfl rfl ?_
  refine OGo.callIN K (pc' := 54) (y := (⟨"com/example/loadvane/loadvane/simulation/Group", "<init>", "(Ljava/lang/String;ILcom/example/loadvane/loadvane/simulation/Group$Service;JIIDJJJJJ)V"⟩ : MethodName)) (a := g1) (W := 2) (cells' := 2) (slots' := 15) (argsL := [.null, (.int (Int32.ofNat A)), .null, (.long (0 : Int64)), (.int (0 : Int32)), (.int (0 : Int32)), (.double (0 : UInt64)), (.long (0 : Int64)), (.long (0 : Int64)), (.long (0 : Int64)), (.long (0 : Int64)), (.long (0 : Int64))]) (st := [(.ref g1), (.ref a)]) rfl (hw _ (List.mem_of_getElem? (i := 29) rfl)) (hw _ (List.mem_of_getElem? (i := 30) rfl)) (hw _ (List.mem_of_getElem? (i := 28) rfl)) (hw _ (List.mem_of_getElem? (i := 31) rfl)) (by decide) (own_rm5 l Z a0 hw g1 (Int32.ofNat A) _ _ _ _ _ _ _ _ _ _ _ _ h3 n0 Z3 A3 F_name_g1 F_count_g1 F_service_g1 F_serviceNanos_g1 F_workers_g1 F_queue_g1 F_failRate_g1 F_downFromNanos_g1 F_downUntilNanos_g1 F_startNanos_g1 F_slowFromNanos_g1 F_slowServiceNanos_g1 g_g1) at_51 rfl rfl (lenOf own_pd18 rfl) (by show 2 * 0 + _ ≤ _; exact Nat.le_of_eq rfl) (by decide) (by decide) rfl rfl (by decide) (by decide) ?_
  rintro h4 ⟨K4, Fg1⟩
  have Z4 : n0 ≤ h4.size := Nat.le_trans Z3 K4.1
  have Wd_4 := OWd.keep Wd_3 K4 (allS g_g1 all0)
  have L2_4 := OAL0.keep L2_3 K4 (ninS ne_a_g1 nin0)
  have A3_4 := A3.keep K4
  refine OGo.callVV K (pc' := 57) (y := (⟨"java/util/ArrayList", "add", "(Ljava/lang/Object;)Z"⟩ : MethodName)) (z := (⟨"java/util/ArrayList", "add", "(Ljava/lang/Object;)Z"⟩ : MethodName)) (a := a) (W := 0) (cells' := 3) (slots' := 25) (argsL := [(.ref g1)]) (st := []) L2_4.1 (hw _ (List.mem_of_getElem? (i := 62) rfl)) (hw _ (List.mem_of_getElem? (i := 63) rfl)) (notFace_of_selects (args := #[]) (mvT K.hZ (hw _ (List.mem_of_getElem? (i := 65) rfl)))) (hw _ (List.mem_of_getElem? (i := 65) rfl)) (hw _ (List.mem_of_getElem? (i := 64) rfl)) (hw _ (List.mem_of_getElem? (i := 2) rfl)) (hw _ (List.mem_of_getElem? (i := 66) rfl)) (by decide) (own_al_add0 l Z a0 hw a g1 dd h4 n0 Z4 L2_4 Wd_4 (Ins.of_exa A3_4 (hw _ (List.mem_of_getElem? (i := 92) rfl)))) at_54 rfl rfl (lenOf own_pd19 rfl) (by show 2 * 0 + _ ≤ _; exact Nat.le_of_eq rfl) (by decide) (by decide) rfl rfl (by decide) (by decide) ?_
  rintro _ h5 ⟨rfl, x, L5, K5, s5⟩
  have Z5 : n0 ≤ h5.size := Nat.le_trans Z4 K5.1
  have ne_a_x : a ≠ x := Nat.ne_of_lt (Nat.lt_of_lt_of_le (OAL0.lta L2_4) s5)
  have ne_g1_x : g1 ≠ x := Nat.ne_of_lt (Nat.lt_of_lt_of_le A3_4.lt s5)
  have Wd_5 := OWd.keep Wd_4 K5 (allS g_a all0)
  have A3_5 := A3_4.keep K5
  have Fg1_5 := Fg1.keep K5 (ninS (Ne.symm ne_a_g1) nin0)
  show OGo p l e _ s m _ below meth c n0 _ h5 3 25 57 #[.val (.int v0), .val (.long fr), .second, .val (.long to), .second, .val (.long t1), .second, .val (.long t2), .second, .val (.long t3), .second, .val (.int (Int32.ofNat A)), .val (.int (Int32.ofNat B)), .val (.int (Int32.ofNat (A + B))), .val (.ref a), .unset, .unset, .unset, .unset, .unset, .unset, .unset, .unset] [(.int (1 : Int32))]
  have g_x := L5.2.2.2.2.2.2.2
  have ne_a_x := L5.2.2.2.2.2.1
  refine OGo.pop K (pc' := 58) at_57 rfl rfl ?_
  refine OGo.aload K (pc' := 60) at_58 rfl rfl rfl ?_
  refine OGo.newO K (pc' := 63) (cells' := 4) (slots' := 37) (hw _ (List.mem_of_getElem? (i := 26) rfl)) (hw _ (List.mem_of_getElem? (i := 27) rfl)) (hw _ (List.mem_of_getElem? (i := 28) rfl)) at_60 rfl rfl rfl (by decide) (by decide) ?_
  intro h6 g2 gq6 E6 A6 D6
  have ne_g1_g2 : g1 ≠ g2 := Nat.ne_of_lt (Nat.lt_of_lt_of_le A3_5.lt (Nat.le_of_eq gq6.symm))
  have ne_a_g2 : a ≠ g2 := Nat.ne_of_lt (Nat.lt_of_lt_of_le (OAL1.lta L5) (Nat.le_of_eq gq6.symm))
  have ne_x_g2 : x ≠ g2 := Nat.ne_of_lt (Nat.lt_of_lt_of_le (OAL1.ltx L5) (Nat.le_of_eq gq6.symm))
  have g_g2 : n0 ≤ g2 := Nat.le_trans Z5 (Nat.le_of_eq gq6.symm)
  have Z6 : n0 ≤ h6.size := Nat.le_trans Z5 E6.1
  have Wd_6 := OWd.ext Wd_5 E6
  have A3_6 := A3_5.ext E6
  have Fg1_6 := Fg1_5.ext E6
  have L5_6 := OAL1.keep L5 (own_keep_ext E6) nin0 nin0
  have F_name_g2 : Fld Z h6 g2 "com/example/loadvane/loadvane/simulation/Group" "name" "Ljava/lang/String;" .null := D6 (Or.inr (hw _ (List.mem_of_getElem? (i := 39) rfl))) (ty := (.object "java/lang/String")) (by decide)
  have F_count_g2 : Fld Z h6 g2 "com/example/loadvane/loadvane/simulation/Group" "count" "I" (.int (0 : Int32)) := D6 (Or.inr (hw _ (List.mem_of_getElem? (i := 41) rfl))) (ty := .int) (by decide)
  have F_service_g2 : Fld Z h6 g2 "com/example/loadvane/loadvane/simulation/Group" "service" "Lcom/example/loadvane/loadvane/simulation/Group$Service;" .null := D6 (Or.inr (hw _ (List.mem_of_getElem? (i := 43) rfl))) (ty := (.object "com/example/loadvane/loadvane/simulation/Group$Service")) (by decide)
  have F_serviceNanos_g2 : Fld Z h6 g2 "com/example/loadvane/loadvane/simulation/Group" "serviceNanos" "J" (.long (0 : Int64)) := D6 (Or.inr (hw _ (List.mem_of_getElem? (i := 45) rfl))) (ty := .long) (by decide)
  have F_workers_g2 : Fld Z h6 g2 "com/example/loadvane/loadvane/simulation/Group" "workers" "I" (.int (0 : Int32)) := D6 (Or.inr (hw _ (List.mem_of_getElem? (i := 47) rfl))) (ty := .int) (by decide)
  have F_queue_g2 : Fld Z h6 g2 "com/example/loadvane/loadvane/simulation/Group" "queue" "I" (.int (0 : Int32)) := D6 (Or.inr (hw _ (List.mem_of_getElem? (i := 49) rfl))) (ty := .int) (by decide)
  have F_failRate_g2 : Fld Z h6 g2 "com/example/loadvane/loadvane/simulation/Group" "failRate" "D" (.double (0 : UInt64)) := D6 (Or.inr (hw _ (List.mem_of_getElem? (i := 51) rfl))) (ty := .double) (by decide)
  have F_downFromNanos_g2 : Fld Z h6 g2 "com/example/loadvane/loadvane/simulation/Group" "downFromNanos" "J" (.long (0 : Int64)) := D6 (Or.inr (hw _ (List.mem_of_getElem? (i := 53) rfl))) (ty := .long) (by decide)
  have F_downUntilNanos_g2 : Fld Z h6 g2 "com/example/loadvane/loadvane/simulation/Group" "downUntilNanos" "J" (.long (0 : Int64)) := D6 (Or.inr (hw _ (List.mem_of_getElem? (i := 55) rfl))) (ty := .long) (by decide)
  have F_startNanos_g2 : Fld Z h6 g2 "com/example/loadvane/loadvane/simulation/Group" "startNanos" "J" (.long (0 : Int64)) := D6 (Or.inr (hw _ (List.mem_of_getElem? (i := 57) rfl))) (ty := .long) (by decide)
  have F_slowFromNanos_g2 : Fld Z h6 g2 "com/example/loadvane/loadvane/simulation/Group" "slowFromNanos" "J" (.long (0 : Int64)) := D6 (Or.inr (hw _ (List.mem_of_getElem? (i := 59) rfl))) (ty := .long) (by decide)
  have F_slowServiceNanos_g2 : Fld Z h6 g2 "com/example/loadvane/loadvane/simulation/Group" "slowServiceNanos" "J" (.long (0 : Int64)) := D6 (Or.inr (hw _ (List.mem_of_getElem? (i := 61) rfl))) (ty := .long) (by decide)
  refine OGo.dup K (pc' := 64) at_63 rfl rfl ?_
  refine OGo.aconstNull K (pc' := 65) at_64 rfl ?_
  refine OGo.iload K (pc' := 67) at_65 rfl rfl ?_
  refine OGo.aconstNull K (pc' := 68) at_67 rfl ?_
  refine OGo.lconst K (pc' := 69) (z := 0) at_68 rfl rfl ?_
  refine OGo.iconst K (pc' := 70) (z := 0) at_69 rfl rfl ?_
  refine OGo.iconst K (pc' := 71) (z := 0) at_70 rfl rfl ?_
  refine OGo.dconst0 K (pc' := 72) (z := (0 : UInt64)) at_71 rfl rfl ?_
  refine OGo.lconst K (pc' := 73) (z := 0) at_72 rfl rfl ?_
  refine OGo.lconst K (pc' := 74) (z := 0) at_73 rfl rfl ?_
  refine OGo.lconst K (pc' := 75) (z := 0) at_74 rfl rfl ?_
  refine OGo.lconst K (pc' := 76) (z := 0) at_75 rfl rfl ?_
  refine OGo.lconst K (pc' := 77) (z := 0) at_76 rfl rfl ?_
  refine OGo.callIN K (pc' := 80) (y := (⟨"com/example/loadvane/loadvane/simulation/Group", "<init>", "(Ljava/lang/String;ILcom/example/loadvane/loadvane/simulation/Group$Service;JIIDJJJJJ)V"⟩ : MethodName)) (a := g2) (W := 2) (cells' := 4) (slots' := 37) (argsL := [.null, (.int (Int32.ofNat B)), .null, (.long (0 : Int64)), (.int (0 : Int32)), (.int (0 : Int32)), (.double (0 : UInt64)), (.long (0 : Int64)), (.long (0 : Int64)), (.long (0 : Int64)), (.long (0 : Int64)), (.long (0 : Int64))]) (st := [(.ref g2), (.ref a)]) rfl (hw _ (List.mem_of_getElem? (i := 29) rfl)) (hw _ (List.mem_of_getElem? (i := 30) rfl)) (hw _ (List.mem_of_getElem? (i := 28) rfl)) (hw _ (List.mem_of_getElem? (i := 31) rfl)) (by decide) (own_rm5 l Z a0 hw g2 (Int32.ofNat B) _ _ _ _ _ _ _ _ _ _ _ _ h6 n0 Z6 A6 F_name_g2 F_count_g2 F_service_g2 F_serviceNanos_g2 F_workers_g2 F_queue_g2 F_failRate_g2 F_downFromNanos_g2 F_downUntilNanos_g2 F_startNanos_g2 F_slowFromNanos_g2 F_slowServiceNanos_g2 g_g2) at_77 rfl rfl (lenOf own_pd18 rfl) (by show 2 * 0 + _ ≤ _; exact Nat.le_of_eq rfl) (by decide) (by decide) rfl rfl (by decide) (by decide) ?_
  rintro h7 ⟨K7, Fg2⟩
  have Z7 : n0 ≤ h7.size := Nat.le_trans Z6 K7.1
  have Wd_7 := OWd.keep Wd_6 K7 (allS g_g2 all0)
  have A3_7 := A3_6.keep K7
  have Fg1_7 := Fg1_6.keep K7 (ninS ne_g1_g2 nin0)
  have L5_7 := OAL1.keep L5_6 K7 (ninS ne_a_g2 nin0) (ninS ne_x_g2 nin0)
  have A6_7 := A6.keep K7
  refine OGo.callVV K (pc' := 83) (y := (⟨"java/util/ArrayList", "add", "(Ljava/lang/Object;)Z"⟩ : MethodName)) (z := (⟨"java/util/ArrayList", "add", "(Ljava/lang/Object;)Z"⟩ : MethodName)) (a := a) (W := 0) (cells' := 4) (slots' := 37) (argsL := [(.ref g2)]) (st := []) L5_7.1 (hw _ (List.mem_of_getElem? (i := 62) rfl)) (hw _ (List.mem_of_getElem? (i := 63) rfl)) (notFace_of_selects (args := #[]) (mvT K.hZ (hw _ (List.mem_of_getElem? (i := 65) rfl)))) (hw _ (List.mem_of_getElem? (i := 65) rfl)) (hw _ (List.mem_of_getElem? (i := 64) rfl)) (hw _ (List.mem_of_getElem? (i := 2) rfl)) (hw _ (List.mem_of_getElem? (i := 66) rfl)) (by decide) (own_al_add1 l Z a0 hw a g2 x [g1] h7 n0 Z7 L5_7 (Nat.le_of_ble_eq_true rfl) (Ins.of_exa A6_7 (hw _ (List.mem_of_getElem? (i := 92) rfl)))) at_80 rfl rfl (lenOf own_pd19 rfl) (by show 2 * 0 + _ ≤ _; exact Nat.le_of_eq rfl) (by decide) (by decide) rfl rfl (by decide) (by decide) ?_
  rintro _ h8 ⟨rfl, L8, K8⟩
  have Z8 : n0 ≤ h8.size := Nat.le_trans Z7 K8.1
  have Wd_8 := OWd.keep Wd_7 K8 (allS g_a (allS g_x all0))
  have A3_8 := A3_7.keep K8
  have Fg1_8 := Fg1_7.keep K8 (ninS (Ne.symm ne_a_g1) (ninS ne_g1_x nin0))
  have A6_8 := A6_7.keep K8
  have Fg2_8 := Fg2.keep K8 (ninS (Ne.symm ne_a_g2) (ninS (Ne.symm ne_x_g2) nin0))
  show OGo p l e _ s m _ below meth c n0 _ h8 4 37 83 #[.val (.int v0), .val (.long fr), .second, .val (.long to), .second, .val (.long t1), .second, .val (.long t2), .second, .val (.long t3), .second, .val (.int (Int32.ofNat A)), .val (.int (Int32.ofNat B)), .val (.int (Int32.ofNat (A + B))), .val (.ref a), .unset, .unset, .unset, .unset, .unset, .unset, .unset, .unset] [(.int (1 : Int32))]
  refine OGo.pop K (pc' := 84) at_83 rfl rfl ?_
  refine OGo.newO K (pc' := 87) (cells' := 5) (slots' := 50) (hw _ (List.mem_of_getElem? (i := 93) rfl)) (hw _ (List.mem_of_getElem? (i := 94) rfl)) (hw _ (List.mem_of_getElem? (i := 95) rfl)) at_84 rfl rfl rfl (by decide) (by decide) ?_
  intro h9 t gq9 E9 A9 D9
  have ne_g1_t : g1 ≠ t := Nat.ne_of_lt (Nat.lt_of_lt_of_le A3_8.lt (Nat.le_of_eq gq9.symm))
  have ne_g2_t : g2 ≠ t := Nat.ne_of_lt (Nat.lt_of_lt_of_le A6_8.lt (Nat.le_of_eq gq9.symm))
  have ne_a_t : a ≠ t := Nat.ne_of_lt (Nat.lt_of_lt_of_le (OAL1.lta L8) (Nat.le_of_eq gq9.symm))
  have ne_x_t : x ≠ t := Nat.ne_of_lt (Nat.lt_of_lt_of_le (OAL1.ltx L8) (Nat.le_of_eq gq9.symm))
  have g_t : n0 ≤ t := Nat.le_trans Z8 (Nat.le_of_eq gq9.symm)
  have Z9 : n0 ≤ h9.size := Nat.le_trans Z8 E9.1
  have Wd_9 := OWd.ext Wd_8 E9
  have A3_9 := A3_8.ext E9
  have Fg1_9 := Fg1_8.ext E9
  have A6_9 := A6_8.ext E9
  have Fg2_9 := Fg2_8.ext E9
  have L8_9 := OAL1.keep L8 (own_keep_ext E9) nin0 nin0
  have F_latencies_t : Fld Z h9 t "com/example/loadvane/loadvane/simulation/Tally" "latencies" "[J" .null := D9 (Or.inl (hw _ (List.mem_of_getElem? (i := 102) rfl))) (ty := (.array .long)) (by decide)
  have F_sorted_t : Fld Z h9 t "com/example/loadvane/loadvane/simulation/Tally" "sorted" "Z" (.int (0 : Int32)) := D9 (Or.inl (hw _ (List.mem_of_getElem? (i := 104) rfl))) (ty := .boolean) (by decide)
  have F_groupStarts_t : Fld Z h9 t "com/example/loadvane/loadvane/simulation/Tally" "groupStarts" "[I" .null := D9 (Or.inr (hw _ (List.mem_of_getElem? (i := 116) rfl))) (ty := (.array .int)) (by decide)
  have F_sent_t : Fld Z h9 t "com/example/loadvane/loadvane/simulation/Tally" "sent" "[J" .null := D9 (Or.inr (hw _ (List.mem_of_getElem? (i := 146) rfl))) (ty := (.array .long)) (by decide)
  have F_succeeded_t : Fld Z h9 t "com/example/loadvane/loadvane/simulation/Tally" "succeeded" "[J" .null := D9 (Or.inr (hw _ (List.mem_of_getElem? (i := 148) rfl))) (ty := (.array .long)) (by decide)
  have F_probationMax_t : Fld Z h9 t "com/example/loadvane/loadvane/simulation/Tally" "probationMax" "[I" .null := D9 (Or.inr (hw _ (List.mem_of_getElem? (i := 150) rfl))) (ty := (.array .int)) (by decide)
  have F_overLimit_t : Fld Z h9 t "com/example/loadvane/loadvane/simulation/Tally" "overLimit" "[J" .null := D9 (Or.inr (hw _ (List.mem_of_getElem? (i := 152) rfl))) (ty := (.array .long)) (by decide)
  have F_clients_t : Fld Z h9 t "com/example/loadvane/loadvane/simulation/Tally" "clients" "[I" .null := D9 (Or.inr (hw _ (List.mem_of_getElem? (i := 154) rfl))) (ty := (.array .int)) (by decide)
  have F_measureFrom_t : Fld Z h9 t "com/example/loadvane/loadvane/simulation/Tally" "measureFrom" "J" (.long (0 : Int64)) := D9 (Or.inr (hw _ (List.mem_of_getElem? (i := 156) rfl))) (ty := .long) (by decide)
  have F_measureTo_t : Fld Z h9 t "com/example/loadvane/loadvane/simulation/Tally" "measureTo" "J" (.long (0 : Int64)) := D9 (Or.inr (hw _ (List.mem_of_getElem? (i := 158) rfl))) (ty := .long) (by decide)
  have F_requests_t : Fld Z h9 t "com/example/loadvane/loadvane/simulation/Tally" "requests" "J" (.long (0 : Int64)) := D9 (Or.inl (hw _ (List.mem_of_getElem? (i := 174) rfl))) (ty := .long) (by decide)
  refine OGo.dup K (pc' := 88) at_87 rfl rfl ?_
  refine OGo.aload K (pc' := 90) at_88 rfl rfl rfl ?_
  refine OGo.lloadN K (pc' := 91) at_90 rfl rfl ?_
  refine OGo.lloadN K (pc' := 92) at_91 rfl rfl ?_
  refine OGo.callIN K (pc' := 95) (y := (⟨"com/example/loadvane/loadvane/simulation/Tally", "<init>", "(Ljava/util/List;JJ)V"⟩ : MethodName)) (a := t) (W := 1) (cells' := 12) (slots' := 1097) (argsL := [(.ref a), (.long fr), (.long to)]) (st := [(.ref t)]) rfl (hw _ (List.mem_of_getElem? (i := 96) rfl)) (hw _ (List.mem_of_getElem? (i := 97) rfl)) (hw _ (List.mem_of_getElem? (i := 95) rfl)) (hw _ (List.mem_of_getElem? (i := 98) rfl)) (by decide) (own_rm12 l Z a0 hw t a x g1 g2 fr to A B h9 n0 Z9 A9 F_latencies_t F_sorted_t F_groupStarts_t F_sent_t F_succeeded_t F_probationMax_t F_overLimit_t F_clients_t F_measureFrom_t F_measureTo_t F_requests_t g_t L8_9 A3_9 A6_9 Fg1_9 Fg2_9 (Ne.symm ne_a_t) (Ne.symm ne_x_t) (Ne.symm ne_g1_t) (Ne.symm ne_g2_t) hA hB) at_92 rfl rfl (lenOf own_pd20 rfl) (by show 2 * 0 + _ ≤ _; exact Nat.le_of_eq rfl) (by decide) (by decide) rfl rfl (by decide) (by decide) ?_
  rintro h10 ⟨gs, st, O10, K10⟩
  have Z10 : n0 ≤ h10.size := Nat.le_trans Z9 K10.1
  refine OGo.astore K (pc' := 97) (Ls' := #[.val (.int v0), .val (.long fr), .second, .val (.long to), .second, .val (.long t1), .second, .val (.long t2), .second, .val (.long t3), .second, .val (.int (Int32.ofNat A)), .val (.int (Int32.ofNat B)), .val (.int (Int32.ofNat (A + B))), .val (.ref a), .val (.ref t), .unset, .unset, .unset, .unset, .unset, .unset, .unset]) at_95 rfl rfl rfl ?_
  refine OGo.lconst K (pc' := 98) (z := 0) at_97 rfl rfl ?_
  refine OGo.lstore K (pc' := 100) (Ls' := #[.val (.int v0), .val (.long fr), .second, .val (.long to), .second, .val (.long t1), .second, .val (.long t2), .second, .val (.long t3), .second, .val (.int (Int32.ofNat A)), .val (.int (Int32.ofNat B)), .val (.int (Int32.ofNat (A + B))), .val (.ref a), .val (.ref t), .val (.long (0 : Int64)), .second, .unset, .unset, .unset, .unset, .unset]) at_98 rfl rfl ?_
  refine OGo.lconst K (pc' := 101) (z := 0) at_100 rfl rfl ?_
  refine OGo.lstore K (pc' := 103) (Ls' := #[.val (.int v0), .val (.long fr), .second, .val (.long to), .second, .val (.long t1), .second, .val (.long t2), .second, .val (.long t3), .second, .val (.int (Int32.ofNat A)), .val (.int (Int32.ofNat B)), .val (.int (Int32.ofNat (A + B))), .val (.ref a), .val (.ref t), .val (.long (0 : Int64)), .second, .val (.long (0 : Int64)), .second, .unset, .unset, .unset]) at_101 rfl rfl ?_
  suffices J : ∀ (h : Heap) (bs : List Nat) (e0 e1 : Int64) (s20 s21 s22 : Slot) (Zh : n0 ≤ h.size) (O : OTL Z n0 h t gs st fr to A B bs) (q0 : e0 = Int64.ofNat (own_rng bs 0 A)) (q1 : e1 = Int64.ofNat (own_rng bs A (A + B))) (hb : bs.length < 1000), OGo p l e room_1 s m #[(.int v0), (.long fr), (.long to), (.long t1), (.long t2), (.long t3)] below meth c n0 (OV fun w h => w = .int 1) h 12 1097 253 #[.val (.int v0), .val (.long fr), .second, .val (.long to), .second, .val (.long t1), .second, .val (.long t2), .second, .val (.long t3), .second, .val (.int (Int32.ofNat A)), .val (.int (Int32.ofNat B)), .val (.int (Int32.ofNat (A + B))), .val (.ref a), .val (.ref t), .val (.long e0), .second, .val (.long e1), .second, s20, s21, s22] [] by
    refine OGo.iload K (pc' := 105) at_103 rfl rfl ?_
    refine OGo.ifLe K (pc' := 108) (pcY := 253) at_105 rfl (by decide) rfl (fun hc => ?_) (fun hc => ?_)
    · skip
      exact J h10 [] _ _ _ _ _ Z10 O10 rfl rfl (by decide)
    · skip
      have hN : 0 < A + B := by have e := toInt_of (n := Int32.ofNat (A + B)) rfl (by omega); rw [Int32.lt_iff_toInt_lt, e, show (0 : Int32).toInt = 0 from rfl] at hc; omega
      obtain ⟨k1, ek1, hk1⟩ := own_maskK (ushr v0 (4 : Int32)) (A + B) hN (by omega)
      obtain ⟨k2, ek2, hk2⟩ := own_maskK (ushr v0 (8 : Int32)) (A + B) hN (by omega)
      obtain ⟨k3, ek3, hk3⟩ := own_maskK (ushr v0 (12 : Int32)) (A + B) hN (by omega)
      refine OGo.iloadN K (pc' := 109) at_108 rfl rfl ?_
      refine OGo.iconst K (pc' := 110) (z := 4) at_109 rfl rfl ?_
      refine OGo.iushr K (pc' := 111) at_110 rfl ?_
      refine OGo.bipush K (pc' := 113) (z := 15) at_111 rfl rfl ?_
      refine OGo.iand K (pc' := 114) at_113 rfl ?_
      refine OGo.iload K (pc' := 116) at_114 rfl rfl ?_
      refine OGo.irem K (pc' := 117) at_116 rfl (own_nz32 hN (by omega)) ?_
      rw [show (((ushr v0 (4 : Int32)) &&& (15 : Int32)) % (Int32.ofNat (A + B))) = (Int32.ofNat k1) from ek1]
      refine OGo.istore K (pc' := 119) (Ls' := #[.val (.int v0), .val (.long fr), .second, .val (.long to), .second, .val (.long t1), .second, .val (.long t2), .second, .val (.long t3), .second, .val (.int (Int32.ofNat A)), .val (.int (Int32.ofNat B)), .val (.int (Int32.ofNat (A + B))), .val (.ref a), .val (.ref t), .val (.long (0 : Int64)), .second, .val (.long (0 : Int64)), .second, .val (.int (Int32.ofNat k1)), .unset, .unset]) at_117 rfl rfl ?_
      refine OGo.iloadN K (pc' := 120) at_119 rfl rfl ?_
      refine OGo.bipush K (pc' := 122) (z := 8) at_120 rfl rfl ?_
      refine OGo.iushr K (pc' := 123) at_122 rfl ?_
      refine OGo.bipush K (pc' := 125) (z := 15) at_123 rfl rfl ?_
      refine OGo.iand K (pc' := 126) at_125 rfl ?_
      refine OGo.iload K (pc' := 128) at_126 rfl rfl ?_
      refine OGo.irem K (pc' := 129) at_128 rfl (own_nz32 hN (by omega)) ?_
      rw [show (((ushr v0 (8 : Int32)) &&& (15 : Int32)) % (Int32.ofNat (A + B))) = (Int32.ofNat k2) from ek2]
      refine OGo.istore K (pc' := 131) (Ls' := #[.val (.int v0), .val (.long fr), .second, .val (.long to), .second, .val (.long t1), .second, .val (.long t2), .second, .val (.long t3), .second, .val (.int (Int32.ofNat A)), .val (.int (Int32.ofNat B)), .val (.int (Int32.ofNat (A + B))), .val (.ref a), .val (.ref t), .val (.long (0 : Int64)), .second, .val (.long (0 : Int64)), .second, .val (.int (Int32.ofNat k1)), .val (.int (Int32.ofNat k2)), .unset]) at_129 rfl rfl ?_
      refine OGo.iloadN K (pc' := 132) at_131 rfl rfl ?_
      refine OGo.bipush K (pc' := 134) (z := 12) at_132 rfl rfl ?_
      refine OGo.iushr K (pc' := 135) at_134 rfl ?_
      refine OGo.bipush K (pc' := 137) (z := 15) at_135 rfl rfl ?_
      refine OGo.iand K (pc' := 138) at_137 rfl ?_
      refine OGo.iload K (pc' := 140) at_138 rfl rfl ?_
      refine OGo.irem K (pc' := 141) at_140 rfl (own_nz32 hN (by omega)) ?_
      rw [show (((ushr v0 (12 : Int32)) &&& (15 : Int32)) % (Int32.ofNat (A + B))) = (Int32.ofNat k3) from ek3]
      refine OGo.istore K (pc' := 143) (Ls' := #[.val (.int v0), .val (.long fr), .second, .val (.long to), .second, .val (.long t1), .second, .val (.long t2), .second, .val (.long t3), .second, .val (.int (Int32.ofNat A)), .val (.int (Int32.ofNat B)), .val (.int (Int32.ofNat (A + B))), .val (.ref a), .val (.ref t), .val (.long (0 : Int64)), .second, .val (.long (0 : Int64)), .second, .val (.int (Int32.ofNat k1)), .val (.int (Int32.ofNat k2)), .val (.int (Int32.ofNat k3))]) at_141 rfl rfl ?_
      refine OGo.aload K (pc' := 145) at_143 rfl rfl rfl ?_
      refine OGo.lload K (pc' := 147) at_145 rfl rfl ?_
      refine OGo.iload K (pc' := 149) at_147 rfl rfl ?_
      refine OGo.callVN K (pc' := 152) (y := (⟨"com/example/loadvane/loadvane/simulation/Tally", "sent", "(JI)V"⟩ : MethodName)) (z := (⟨"com/example/loadvane/loadvane/simulation/Tally", "sent", "(JI)V"⟩ : MethodName)) (a := t) (W := 0) (cells' := 12) (slots' := 1097) (argsL := [(.long t1), (.int (Int32.ofNat k1))]) (st := []) O10.1 (hw _ (List.mem_of_getElem? (i := 164) rfl)) (hw _ (List.mem_of_getElem? (i := 165) rfl)) (notFace_of_selects (args := #[]) (mvT K.hZ (hw _ (List.mem_of_getElem? (i := 167) rfl)))) (hw _ (List.mem_of_getElem? (i := 167) rfl)) (hw _ (List.mem_of_getElem? (i := 166) rfl)) (hw _ (List.mem_of_getElem? (i := 95) rfl)) (hw _ (List.mem_of_getElem? (i := 168) rfl)) (by decide) (own_rm20 l Z a0 hw t gs st fr to A B [] t1 k1 h10 n0 Z10 O10 hk1 (by omega) (by decide)) at_149 rfl rfl (lenOf own_pd21 rfl) (by show 2 * 0 + _ ≤ _; exact Nat.le_of_eq rfl) (by decide) (by decide) rfl rfl (by decide) (by decide) ?_
      rintro h11 ⟨O11, K11⟩
      have Z11 : n0 ≤ h11.size := Nat.le_trans Z10 K11.1
      refine OGo.aload K (pc' := 154) at_152 rfl rfl rfl ?_
      refine OGo.lload K (pc' := 156) at_154 rfl rfl ?_
      refine OGo.iload K (pc' := 158) at_156 rfl rfl ?_
      refine OGo.callVN K (pc' := 161) (y := (⟨"com/example/loadvane/loadvane/simulation/Tally", "sent", "(JI)V"⟩ : MethodName)) (z := (⟨"com/example/loadvane/loadvane/simulation/Tally", "sent", "(JI)V"⟩ : MethodName)) (a := t) (W := 0) (cells' := 12) (slots' := 1097) (argsL := [(.long t2), (.int (Int32.ofNat k2))]) (st := []) O11.1 (hw _ (List.mem_of_getElem? (i := 164) rfl)) (hw _ (List.mem_of_getElem? (i := 165) rfl)) (notFace_of_selects (args := #[]) (mvT K.hZ (hw _ (List.mem_of_getElem? (i := 167) rfl)))) (hw _ (List.mem_of_getElem? (i := 167) rfl)) (hw _ (List.mem_of_getElem? (i := 166) rfl)) (hw _ (List.mem_of_getElem? (i := 95) rfl)) (hw _ (List.mem_of_getElem? (i := 168) rfl)) (by decide) (own_rm20 l Z a0 hw t gs st fr to A B (own_st t1 fr to k1 []) t2 k2 h11 n0 Z11 O11 hk2 (by omega) (by have := own_st_len t1 fr to k1 []; simp at this; omega)) at_158 rfl rfl (lenOf own_pd21 rfl) (by show 2 * 0 + _ ≤ _; exact Nat.le_of_eq rfl) (by decide) (by decide) rfl rfl (by decide) (by decide) ?_
      rintro h12 ⟨O12, K12⟩
      have Z12 : n0 ≤ h12.size := Nat.le_trans Z11 K12.1
      refine OGo.aload K (pc' := 163) at_161 rfl rfl rfl ?_
      refine OGo.lload K (pc' := 165) at_163 rfl rfl ?_
      refine OGo.iload K (pc' := 167) at_165 rfl rfl ?_
      refine OGo.callVN K (pc' := 170) (y := (⟨"com/example/loadvane/loadvane/simulation/Tally", "sent", "(JI)V"⟩ : MethodName)) (z := (⟨"com/example/loadvane/loadvane/simulation/Tally", "sent", "(JI)V"⟩ : MethodName)) (a := t) (W := 0) (cells' := 12) (slots' := 1097) (argsL := [(.long t3), (.int (Int32.ofNat k3))]) (st := []) O12.1 (hw _ (List.mem_of_getElem? (i := 164) rfl)) (hw _ (List.mem_of_getElem? (i := 165) rfl)) (notFace_of_selects (args := #[]) (mvT K.hZ (hw _ (List.mem_of_getElem? (i := 167) rfl)))) (hw _ (List.mem_of_getElem? (i := 167) rfl)) (hw _ (List.mem_of_getElem? (i := 166) rfl)) (hw _ (List.mem_of_getElem? (i := 95) rfl)) (hw _ (List.mem_of_getElem? (i := 168) rfl)) (by decide) (own_rm20 l Z a0 hw t gs st fr to A B (own_st t2 fr to k2 (own_st t1 fr to k1 [])) t3 k3 h12 n0 Z12 O12 hk3 (by omega) (by have := own_st_len t1 fr to k1 []; have := own_st_len t2 fr to k2 (own_st t1 fr to k1 []); simp at *; omega)) at_167 rfl rfl (lenOf own_pd21 rfl) (by show 2 * 0 + _ ≤ _; exact Nat.le_of_eq rfl) (by decide) (by decide) rfl rfl (by decide) (by decide) ?_
      rintro h13 ⟨O13, K13⟩
      have Z13 : n0 ≤ h13.size := Nat.le_trans Z12 K13.1
      refine OGo.lload K (pc' := 172) at_170 rfl rfl ?_
      refine OGo.lloadN K (pc' := 173) at_172 rfl rfl ?_
      refine OGo.lloadN K (pc' := 174) at_173 rfl rfl ?_
      refine OGo.iload K (pc' := 176) at_174 rfl rfl ?_
      refine OGo.iconst K (pc' := 177) (z := 0) at_176 rfl rfl ?_
      refine OGo.iload K (pc' := 179) at_177 rfl rfl ?_
      refine OGo.callSV K (pc' := 182) (y := (⟨"com/example/loadvane/loadvane/simulation/TallySentToGroupPinLaw", "hit", "(JJJIII)J"⟩ : MethodName)) (W := 0) (cells' := 12) (slots' := 1097) (argsL := [(.long t1), (.long fr), (.long to), (.int (Int32.ofNat k1)), (.int (0 : Int32)), (.int (Int32.ofNat A))]) (st := []) (hw _ (List.mem_of_getElem? (i := 175) rfl)) (hw _ (List.mem_of_getElem? (i := 176) rfl)) (hw _ (List.mem_of_getElem? (i := 177) rfl)) (hw _ (List.mem_of_getElem? (i := 178) rfl)) (by decide) (own_rm22 l Z a0 hw t1 fr to k1 0 A h13 n0 Z13 (by omega) (by omega) (by omega)) at_179 rfl rfl (lenOf own_pd22 rfl) (by show 2 * 0 + _ ≤ _; exact Nat.le_of_eq rfl) (by decide) (by decide) rfl rfl (by decide) (by decide) ?_
      rintro _ h14 ⟨rfl, e14⟩
      rw [e14]
      show OGo p l e _ s m _ below meth c n0 _ h13 12 1097 182 #[.val (.int v0), .val (.long fr), .second, .val (.long to), .second, .val (.long t1), .second, .val (.long t2), .second, .val (.long t3), .second, .val (.int (Int32.ofNat A)), .val (.int (Int32.ofNat B)), .val (.int (Int32.ofNat (A + B))), .val (.ref a), .val (.ref t), .val (.long (0 : Int64)), .second, .val (.long (0 : Int64)), .second, .val (.int (Int32.ofNat k1)), .val (.int (Int32.ofNat k2)), .val (.int (Int32.ofNat k3))] [(.long (Int64.ofNat (own_hit t1 fr to k1 0 A)))]
      refine OGo.lload K (pc' := 184) at_182 rfl rfl ?_
      refine OGo.lloadN K (pc' := 185) at_184 rfl rfl ?_
      refine OGo.lloadN K (pc' := 186) at_185 rfl rfl ?_
      refine OGo.iload K (pc' := 188) at_186 rfl rfl ?_
      refine OGo.iconst K (pc' := 189) (z := 0) at_188 rfl rfl ?_
      refine OGo.iload K (pc' := 191) at_189 rfl rfl ?_
      refine OGo.callSV K (pc' := 194) (y := (⟨"com/example/loadvane/loadvane/simulation/TallySentToGroupPinLaw", "hit", "(JJJIII)J"⟩ : MethodName)) (W := 2) (cells' := 12) (slots' := 1097) (argsL := [(.long t2), (.long fr), (.long to), (.int (Int32.ofNat k2)), (.int (0 : Int32)), (.int (Int32.ofNat A))]) (st := [(.long (Int64.ofNat (own_hit t1 fr to k1 0 A)))]) (hw _ (List.mem_of_getElem? (i := 175) rfl)) (hw _ (List.mem_of_getElem? (i := 176) rfl)) (hw _ (List.mem_of_getElem? (i := 177) rfl)) (hw _ (List.mem_of_getElem? (i := 178) rfl)) (by decide) (own_rm22 l Z a0 hw t2 fr to k2 0 A h13 n0 Z13 (by omega) (by omega) (by omega)) at_191 rfl rfl (lenOf own_pd22 rfl) (by show 2 * 0 + _ ≤ _; exact Nat.le_of_eq rfl) (by decide) (by decide) rfl rfl (by decide) (by decide) ?_
      rintro _ h15 ⟨rfl, e15⟩
      rw [e15]
      show OGo p l e _ s m _ below meth c n0 _ h13 12 1097 194 #[.val (.int v0), .val (.long fr), .second, .val (.long to), .second, .val (.long t1), .second, .val (.long t2), .second, .val (.long t3), .second, .val (.int (Int32.ofNat A)), .val (.int (Int32.ofNat B)), .val (.int (Int32.ofNat (A + B))), .val (.ref a), .val (.ref t), .val (.long (0 : Int64)), .second, .val (.long (0 : Int64)), .second, .val (.int (Int32.ofNat k1)), .val (.int (Int32.ofNat k2)), .val (.int (Int32.ofNat k3))] [(.long (Int64.ofNat (own_hit t2 fr to k2 0 A))), (.long (Int64.ofNat (own_hit t1 fr to k1 0 A)))]
      refine OGo.ladd K (pc' := 195) at_194 rfl ?_
      refine OGo.lload K (pc' := 197) at_195 rfl rfl ?_
      refine OGo.lloadN K (pc' := 198) at_197 rfl rfl ?_
      refine OGo.lloadN K (pc' := 199) at_198 rfl rfl ?_
      refine OGo.iload K (pc' := 201) at_199 rfl rfl ?_
      refine OGo.iconst K (pc' := 202) (z := 0) at_201 rfl rfl ?_
      refine OGo.iload K (pc' := 204) at_202 rfl rfl ?_
      refine OGo.callSV K (pc' := 207) (y := (⟨"com/example/loadvane/loadvane/simulation/TallySentToGroupPinLaw", "hit", "(JJJIII)J"⟩ : MethodName)) (W := 2) (cells' := 12) (slots' := 1097) (argsL := [(.long t3), (.long fr), (.long to), (.int (Int32.ofNat k3)), (.int (0 : Int32)), (.int (Int32.ofNat A))]) (st := [(.long ((Int64.ofNat (own_hit t1 fr to k1 0 A)) + (Int64.ofNat (own_hit t2 fr to k2 0 A))))]) (hw _ (List.mem_of_getElem? (i := 175) rfl)) (hw _ (List.mem_of_getElem? (i := 176) rfl)) (hw _ (List.mem_of_getElem? (i := 177) rfl)) (hw _ (List.mem_of_getElem? (i := 178) rfl)) (by decide) (own_rm22 l Z a0 hw t3 fr to k3 0 A h13 n0 Z13 (by omega) (by omega) (by omega)) at_204 rfl rfl (lenOf own_pd22 rfl) (by show 2 * 0 + _ ≤ _; exact Nat.le_of_eq rfl) (by decide) (by decide) rfl rfl (by decide) (by decide) ?_
      rintro _ h16 ⟨rfl, e16⟩
      rw [e16]
      show OGo p l e _ s m _ below meth c n0 _ h13 12 1097 207 #[.val (.int v0), .val (.long fr), .second, .val (.long to), .second, .val (.long t1), .second, .val (.long t2), .second, .val (.long t3), .second, .val (.int (Int32.ofNat A)), .val (.int (Int32.ofNat B)), .val (.int (Int32.ofNat (A + B))), .val (.ref a), .val (.ref t), .val (.long (0 : Int64)), .second, .val (.long (0 : Int64)), .second, .val (.int (Int32.ofNat k1)), .val (.int (Int32.ofNat k2)), .val (.int (Int32.ofNat k3))] [(.long (Int64.ofNat (own_hit t3 fr to k3 0 A))), (.long ((Int64.ofNat (own_hit t1 fr to k1 0 A)) + (Int64.ofNat (own_hit t2 fr to k2 0 A))))]
      refine OGo.ladd K (pc' := 208) at_207 rfl ?_
      refine OGo.lstore K (pc' := 210) (Ls' := #[.val (.int v0), .val (.long fr), .second, .val (.long to), .second, .val (.long t1), .second, .val (.long t2), .second, .val (.long t3), .second, .val (.int (Int32.ofNat A)), .val (.int (Int32.ofNat B)), .val (.int (Int32.ofNat (A + B))), .val (.ref a), .val (.ref t), .val (.long (((Int64.ofNat (own_hit t1 fr to k1 0 A)) + (Int64.ofNat (own_hit t2 fr to k2 0 A))) + (Int64.ofNat (own_hit t3 fr to k3 0 A)))), .second, .val (.long (0 : Int64)), .second, .val (.int (Int32.ofNat k1)), .val (.int (Int32.ofNat k2)), .val (.int (Int32.ofNat k3))]) at_208 rfl rfl ?_
      refine OGo.lload K (pc' := 212) at_210 rfl rfl ?_
      refine OGo.lloadN K (pc' := 213) at_212 rfl rfl ?_
      refine OGo.lloadN K (pc' := 214) at_213 rfl rfl ?_
      refine OGo.iload K (pc' := 216) at_214 rfl rfl ?_
      refine OGo.iload K (pc' := 218) at_216 rfl rfl ?_
      refine OGo.iload K (pc' := 220) at_218 rfl rfl ?_
      refine OGo.callSV K (pc' := 223) (y := (⟨"com/example/loadvane/loadvane/simulation/TallySentToGroupPinLaw", "hit", "(JJJIII)J"⟩ : MethodName)) (W := 0) (cells' := 12) (slots' := 1097) (argsL := [(.long t1), (.long fr), (.long to), (.int (Int32.ofNat k1)), (.int (Int32.ofNat A)), (.int (Int32.ofNat (A + B)))]) (st := []) (hw _ (List.mem_of_getElem? (i := 175) rfl)) (hw _ (List.mem_of_getElem? (i := 176) rfl)) (hw _ (List.mem_of_getElem? (i := 177) rfl)) (hw _ (List.mem_of_getElem? (i := 178) rfl)) (by decide) (own_rm22 l Z a0 hw t1 fr to k1 A (A + B) h13 n0 Z13 (by omega) (by omega) (by omega)) at_220 rfl rfl (lenOf own_pd22 rfl) (by show 2 * 0 + _ ≤ _; exact Nat.le_of_eq rfl) (by decide) (by decide) rfl rfl (by decide) (by decide) ?_
      rintro _ h17 ⟨rfl, e17⟩
      rw [e17]
      show OGo p l e _ s m _ below meth c n0 _ h13 12 1097 223 #[.val (.int v0), .val (.long fr), .second, .val (.long to), .second, .val (.long t1), .second, .val (.long t2), .second, .val (.long t3), .second, .val (.int (Int32.ofNat A)), .val (.int (Int32.ofNat B)), .val (.int (Int32.ofNat (A + B))), .val (.ref a), .val (.ref t), .val (.long (((Int64.ofNat (own_hit t1 fr to k1 0 A)) + (Int64.ofNat (own_hit t2 fr to k2 0 A))) + (Int64.ofNat (own_hit t3 fr to k3 0 A)))), .second, .val (.long (0 : Int64)), .second, .val (.int (Int32.ofNat k1)), .val (.int (Int32.ofNat k2)), .val (.int (Int32.ofNat k3))] [(.long (Int64.ofNat (own_hit t1 fr to k1 A (A + B))))]
      refine OGo.lload K (pc' := 225) at_223 rfl rfl ?_
      refine OGo.lloadN K (pc' := 226) at_225 rfl rfl ?_
      refine OGo.lloadN K (pc' := 227) at_226 rfl rfl ?_
      refine OGo.iload K (pc' := 229) at_227 rfl rfl ?_
      refine OGo.iload K (pc' := 231) at_229 rfl rfl ?_
      refine OGo.iload K (pc' := 233) at_231 rfl rfl ?_
      refine OGo.callSV K (pc' := 236) (y := (⟨"com/example/loadvane/loadvane/simulation/TallySentToGroupPinLaw", "hit", "(JJJIII)J"⟩ : MethodName)) (W := 2) (cells' := 12) (slots' := 1097) (argsL := [(.long t2), (.long fr), (.long to), (.int (Int32.ofNat k2)), (.int (Int32.ofNat A)), (.int (Int32.ofNat (A + B)))]) (st := [(.long (Int64.ofNat (own_hit t1 fr to k1 A (A + B))))]) (hw _ (List.mem_of_getElem? (i := 175) rfl)) (hw _ (List.mem_of_getElem? (i := 176) rfl)) (hw _ (List.mem_of_getElem? (i := 177) rfl)) (hw _ (List.mem_of_getElem? (i := 178) rfl)) (by decide) (own_rm22 l Z a0 hw t2 fr to k2 A (A + B) h13 n0 Z13 (by omega) (by omega) (by omega)) at_233 rfl rfl (lenOf own_pd22 rfl) (by show 2 * 0 + _ ≤ _; exact Nat.le_of_eq rfl) (by decide) (by decide) rfl rfl (by decide) (by decide) ?_
      rintro _ h18 ⟨rfl, e18⟩
      rw [e18]
      show OGo p l e _ s m _ below meth c n0 _ h13 12 1097 236 #[.val (.int v0), .val (.long fr), .second, .val (.long to), .second, .val (.long t1), .second, .val (.long t2), .second, .val (.long t3), .second, .val (.int (Int32.ofNat A)), .val (.int (Int32.ofNat B)), .val (.int (Int32.ofNat (A + B))), .val (.ref a), .val (.ref t), .val (.long (((Int64.ofNat (own_hit t1 fr to k1 0 A)) + (Int64.ofNat (own_hit t2 fr to k2 0 A))) + (Int64.ofNat (own_hit t3 fr to k3 0 A)))), .second, .val (.long (0 : Int64)), .second, .val (.int (Int32.ofNat k1)), .val (.int (Int32.ofNat k2)), .val (.int (Int32.ofNat k3))] [(.long (Int64.ofNat (own_hit t2 fr to k2 A (A + B)))), (.long (Int64.ofNat (own_hit t1 fr to k1 A (A + B))))]
      refine OGo.ladd K (pc' := 237) at_236 rfl ?_
      refine OGo.lload K (pc' := 239) at_237 rfl rfl ?_
      refine OGo.lloadN K (pc' := 240) at_239 rfl rfl ?_
      refine OGo.lloadN K (pc' := 241) at_240 rfl rfl ?_
      refine OGo.iload K (pc' := 243) at_241 rfl rfl ?_
      refine OGo.iload K (pc' := 245) at_243 rfl rfl ?_
      refine OGo.iload K (pc' := 247) at_245 rfl rfl ?_
      refine OGo.callSV K (pc' := 250) (y := (⟨"com/example/loadvane/loadvane/simulation/TallySentToGroupPinLaw", "hit", "(JJJIII)J"⟩ : MethodName)) (W := 2) (cells' := 12) (slots' := 1097) (argsL := [(.long t3), (.long fr), (.long to), (.int (Int32.ofNat k3)), (.int (Int32.ofNat A)), (.int (Int32.ofNat (A + B)))]) (st := [(.long ((Int64.ofNat (own_hit t1 fr to k1 A (A + B))) + (Int64.ofNat (own_hit t2 fr to k2 A (A + B)))))]) (hw _ (List.mem_of_getElem? (i := 175) rfl)) (hw _ (List.mem_of_getElem? (i := 176) rfl)) (hw _ (List.mem_of_getElem? (i := 177) rfl)) (hw _ (List.mem_of_getElem? (i := 178) rfl)) (by decide) (own_rm22 l Z a0 hw t3 fr to k3 A (A + B) h13 n0 Z13 (by omega) (by omega) (by omega)) at_247 rfl rfl (lenOf own_pd22 rfl) (by show 2 * 0 + _ ≤ _; exact Nat.le_of_eq rfl) (by decide) (by decide) rfl rfl (by decide) (by decide) ?_
      rintro _ h19 ⟨rfl, e19⟩
      rw [e19]
      show OGo p l e _ s m _ below meth c n0 _ h13 12 1097 250 #[.val (.int v0), .val (.long fr), .second, .val (.long to), .second, .val (.long t1), .second, .val (.long t2), .second, .val (.long t3), .second, .val (.int (Int32.ofNat A)), .val (.int (Int32.ofNat B)), .val (.int (Int32.ofNat (A + B))), .val (.ref a), .val (.ref t), .val (.long (((Int64.ofNat (own_hit t1 fr to k1 0 A)) + (Int64.ofNat (own_hit t2 fr to k2 0 A))) + (Int64.ofNat (own_hit t3 fr to k3 0 A)))), .second, .val (.long (0 : Int64)), .second, .val (.int (Int32.ofNat k1)), .val (.int (Int32.ofNat k2)), .val (.int (Int32.ofNat k3))] [(.long (Int64.ofNat (own_hit t3 fr to k3 A (A + B)))), (.long ((Int64.ofNat (own_hit t1 fr to k1 A (A + B))) + (Int64.ofNat (own_hit t2 fr to k2 A (A + B)))))]
      refine OGo.ladd K (pc' := 251) at_250 rfl ?_
      refine OGo.lstore K (pc' := 253) (Ls' := #[.val (.int v0), .val (.long fr), .second, .val (.long to), .second, .val (.long t1), .second, .val (.long t2), .second, .val (.long t3), .second, .val (.int (Int32.ofNat A)), .val (.int (Int32.ofNat B)), .val (.int (Int32.ofNat (A + B))), .val (.ref a), .val (.ref t), .val (.long (((Int64.ofNat (own_hit t1 fr to k1 0 A)) + (Int64.ofNat (own_hit t2 fr to k2 0 A))) + (Int64.ofNat (own_hit t3 fr to k3 0 A)))), .second, .val (.long (((Int64.ofNat (own_hit t1 fr to k1 A (A + B))) + (Int64.ofNat (own_hit t2 fr to k2 A (A + B)))) + (Int64.ofNat (own_hit t3 fr to k3 A (A + B))))), .second, .val (.int (Int32.ofNat k1)), .val (.int (Int32.ofNat k2)), .val (.int (Int32.ofNat k3))]) at_251 rfl rfl ?_
      exact J h13 (own_st t3 fr to k3 (own_st t2 fr to k2 (own_st t1 fr to k1 []))) _ _ _ _ _ Z13 O13 (own_sum3 _ _ _ _ _ _ _ _ _ _) (own_sum3 _ _ _ _ _ _ _ _ _ _) (by have := own_st_len t1 fr to k1 []; have := own_st_len t2 fr to k2 (own_st t1 fr to k1 []); have := own_st_len t3 fr to k3 (own_st t2 fr to k2 (own_st t1 fr to k1 [])); simp at *; omega)
  intro h bs e0 e1 s20 s21 s22 Zh O q0 q1 hb
  refine OGo.aload K (pc' := 255) at_253 rfl rfl rfl ?_
  refine OGo.iconst K (pc' := 256) (z := 0) at_255 rfl rfl ?_
  refine OGo.callVV K (pc' := 259) (y := (⟨"com/example/loadvane/loadvane/simulation/Tally", "sentToGroup", "(I)J"⟩ : MethodName)) (z := (⟨"com/example/loadvane/loadvane/simulation/Tally", "sentToGroup", "(I)J"⟩ : MethodName)) (a := t) (W := 0) (cells' := 12) (slots' := 1097) (argsL := [(.int (0 : Int32))]) (st := []) O.1 (hw _ (List.mem_of_getElem? (i := 159) rfl)) (hw _ (List.mem_of_getElem? (i := 160) rfl)) (notFace_of_selects (args := #[]) (mvT K.hZ (hw _ (List.mem_of_getElem? (i := 162) rfl)))) (hw _ (List.mem_of_getElem? (i := 162) rfl)) (hw _ (List.mem_of_getElem? (i := 161) rfl)) (hw _ (List.mem_of_getElem? (i := 95) rfl)) (hw _ (List.mem_of_getElem? (i := 163) rfl)) (by decide) (own_rm19 l Z a0 hw t gs st fr to A B bs 0 1 0 A h n0 Zh O (by omega) hb (by decide) (by decide) rfl rfl rfl (Nat.zero_le _) (by omega)) at_256 rfl rfl (lenOf own_pd23 rfl) (by show 2 * 0 + _ ≤ _; exact Nat.le_of_eq rfl) (by decide) (by decide) rfl rfl (by decide) (by decide) ?_
  rintro _ h20 ⟨rfl, e20⟩
  rw [e20]
  show OGo p l e _ s m _ below meth c n0 _ h 12 1097 259 #[.val (.int v0), .val (.long fr), .second, .val (.long to), .second, .val (.long t1), .second, .val (.long t2), .second, .val (.long t3), .second, .val (.int (Int32.ofNat A)), .val (.int (Int32.ofNat B)), .val (.int (Int32.ofNat (A + B))), .val (.ref a), .val (.ref t), .val (.long e0), .second, .val (.long e1), .second, s20, s21, s22] [(.long (Int64.ofNat (own_rng bs 0 A)))]
  refine OGo.lload K (pc' := 261) at_259 rfl rfl ?_
  refine OGo.lcmpNe K (pc' := 265) (pcY := 281) at_261 rfl at_262 rfl (by decide) rfl (fun hc261 => absurd (q0.symm : (Int64.ofNat (own_rng bs 0 A)) = e0) hc261) (fun hc261 => ?_)
  refine OGo.aload K (pc' := 267) at_265 rfl rfl rfl ?_
  refine OGo.iconst K (pc' := 268) (z := 1) at_267 rfl rfl ?_
  refine OGo.callVV K (pc' := 271) (y := (⟨"com/example/loadvane/loadvane/simulation/Tally", "sentToGroup", "(I)J"⟩ : MethodName)) (z := (⟨"com/example/loadvane/loadvane/simulation/Tally", "sentToGroup", "(I)J"⟩ : MethodName)) (a := t) (W := 0) (cells' := 12) (slots' := 1097) (argsL := [(.int (1 : Int32))]) (st := []) O.1 (hw _ (List.mem_of_getElem? (i := 159) rfl)) (hw _ (List.mem_of_getElem? (i := 160) rfl)) (notFace_of_selects (args := #[]) (mvT K.hZ (hw _ (List.mem_of_getElem? (i := 162) rfl)))) (hw _ (List.mem_of_getElem? (i := 162) rfl)) (hw _ (List.mem_of_getElem? (i := 161) rfl)) (hw _ (List.mem_of_getElem? (i := 95) rfl)) (hw _ (List.mem_of_getElem? (i := 163) rfl)) (by decide) (own_rm19 l Z a0 hw t gs st fr to A B bs 1 2 A (A + B) h n0 Zh O (by omega) hb (by decide) (by decide) rfl rfl rfl (by omega) (by omega)) at_268 rfl rfl (lenOf own_pd23 rfl) (by show 2 * 0 + _ ≤ _; exact Nat.le_of_eq rfl) (by decide) (by decide) rfl rfl (by decide) (by decide) ?_
  rintro _ h21 ⟨rfl, e21⟩
  rw [e21]
  show OGo p l e _ s m _ below meth c n0 _ h 12 1097 271 #[.val (.int v0), .val (.long fr), .second, .val (.long to), .second, .val (.long t1), .second, .val (.long t2), .second, .val (.long t3), .second, .val (.int (Int32.ofNat A)), .val (.int (Int32.ofNat B)), .val (.int (Int32.ofNat (A + B))), .val (.ref a), .val (.ref t), .val (.long e0), .second, .val (.long e1), .second, s20, s21, s22] [(.long (Int64.ofNat (own_rng bs A (A + B))))]
  refine OGo.lload K (pc' := 273) at_271 rfl rfl ?_
  refine OGo.lcmpNe K (pc' := 277) (pcY := 281) at_273 rfl at_274 rfl (by decide) rfl (fun hc273 => absurd (q1.symm : (Int64.ofNat (own_rng bs A (A + B))) = e1) hc273) (fun hc273 => ?_)
  refine OGo.iconst K (pc' := 278) (z := 1) at_277 rfl rfl ?_
  refine OGo.goto K (pc' := 282) at_278 (by decide) rfl ?_
  exact OGo.ret K at_282 rfl (Or.inl ⟨rfl, by simp, _, rfl⟩) (by decide) (by decide) ⟨_, rfl, rfl⟩
set_option maxRecDepth 65536 in
set_option maxHeartbeats 40000000 in
theorem own_comes {Post : Tables → Env → Array Value → State → Outcome → State → Prop} (hpost : ∀ tb e args s v u, (limb_1_1.after args s (.returned v) u = true ∧ limb_1_2.after args s (.returned v) u = true ∧ True) → FrameEnd s (.returned v) u (Jvm.fieldLocs frame_1_writes args s ++ Jvm.arrayLocs frame_1_arrays args s ++ Jvm.staticLocs frame_1_statics s) 32 2304 → Post tb e args s (.returned v) u) :
    ArmFor flags0 classFile x code maxLocals ret World_1 tables_1 room_1 Calls_1 rest_1 Pre_1 Post := by
  intro l hfl _ _ p e ha hc hk s m args below hf hA hF happ hP
  obtain ⟨hcalls, hrest, hpre⟩ := hP
  obtain ⟨-, -, -, hnamed, -, -, -, hat⟩ := (Spec.applies_iff hf).mp happ
  obtain ⟨hg, hn⟩ := and_e (Cond.before_iff.mp (show (Jvm.Cond.and given_1 narrow_1).before args s = true from hpre))
  obtain ⟨gg1, gg2⟩ := and_e hg
  obtain ⟨gg3, gg4⟩ := and_e gg2
  obtain ⟨gg5, gg6⟩ := and_e gg4
  obtain ⟨gg7, gg8⟩ := and_e gg6
  obtain ⟨gg9, gg10⟩ := and_e gg8
  obtain ⟨gg11, gg12⟩ := and_e gg10
  obtain ⟨w0, w1, w2, w3, w4, w5, rfl⟩ : ∃ w0 w1 w2 w3 w4 w5 : Value, args = #[w0, w1, w2, w3, w4, w5] := by
    have hs : args.size = 6 := by simpa [Cond.value, given_1] using gg1
    obtain ⟨L⟩ := args
    match L, hs with
    | [w0, w1, w2, w3, w4, w5], _ => exact ⟨w0, w1, w2, w3, w4, w5, rfl⟩
  have hw := fun d (hd : d ∈ tables_1) => atoms_spec (ws := Jvm.Cond.code x code maxLocals ret :: tables_1) hat d (List.mem_cons_of_mem _ hd)
  have hfit : Fit s := fun {y c} hc i hi => by
    obtain ⟨ha, rfl⟩ := Array.getElem?_eq_some_iff.mp hc
    have q := List.all_eq_true.mp ((Array.all_eq_true_iff_forall_mem.mp hF) _ (Array.getElem_mem ha)) i (List.mem_range.mpr hi)
    simpa [Array.getElem?_eq_getElem hi] using q
  obtain ⟨hsets, hown0⟩ := atoms_of _ (rest_1_c_eq ▸ (show rest_1_c.before _ s = true from hrest))
  have hr0 := Cond.before_iff.mp hown0
  obtain ⟨i0, ei0⟩ := is_v gg3
  obtain rfl : w0 = (.int i0) := Option.some.inj ei0
  obtain ⟨i1, ei1⟩ := isL_v gg5
  obtain rfl : w1 = (.long i1) := Option.some.inj ei1
  obtain ⟨i2, ei2⟩ := isL_v gg7
  obtain rfl : w2 = (.long i2) := Option.some.inj ei2
  obtain ⟨i3, ei3⟩ := isL_v gg9
  obtain rfl : w3 = (.long i3) := Option.some.inj ei3
  obtain ⟨i4, ei4⟩ := isL_v gg11
  obtain rfl : w4 = (.long i4) := Option.some.inj ei4
  obtain ⟨i5, ei5⟩ := isL_v gg12
  obtain rfl : w5 = (.long i5) := Option.some.inj ei5
  obtain ⟨dd, Wd⟩ := own_wd hfit (hw _ (List.mem_of_getElem? (i := 2) rfl)) (hsets _ (List.mem_of_getElem? (i := 2) rfl)) (hsets _ (List.mem_of_getElem? (i := 6) rfl)) (hsets _ (List.mem_of_getElem? (i := 8) rfl))
  obtain ⟨n, o, h1, h2, h3, _, L, rfl, ⟨⟨_, rfl, rfl⟩, N⟩, hq⟩ := own_rm0 l s _ hw tables_1 i0 i1 i2 i3 i4 i5 dd s.heap s.heap.size (Nat.le_refl _) Wd p e ha hc hk s m _ below hf ((Spec.applies_iff_loose hf).mp happ).1 ⟨rfl, State.Warmed39.refl s, rfl⟩ trivial
  refine ⟨n, _, h1, h2, h3, hpost _ _ _ _ _ _ ⟨Cond.after_iff.mpr rfl, Cond.after_iff.mpr (eq_i res_at (Term.int_eval (1)) rfl), trivial⟩ ⟨hq.1, hq.2.1, (hq.2.2.sift fun y hy => Or.inr (N y hy)).mono (by decide) (by decide)⟩⟩
theorem main_1_1 : Claimed_1_1 := own_comes fun _ _ _ _ _ _ h hF => ⟨h.1, hF⟩
theorem main_1_2 : Claimed_1_2 := own_comes fun _ _ _ _ _ _ h hF => ⟨h.2.1, hF⟩
end Jvm.Pilot.@@N@@
namespace Jvm.Pilot.@@N@@
open Jvm Jvm.ClassFile Sem Op Lib Jvm.Free Jvm.Stand Jvm.Pilot.@@N@@.Jvm.D
/-! MADE BY PROGRAM (witnessworld.py) out of the Statement's table words and the real class files: 25 classes; the members and pool entries that the words name. The judged class is class 1, her method 1. -/
namespace start1
open Jvm.ClassFile
def u (s : String) : CpInfo := .utf8 (stringToUtf16 s)
/-- a pool by its gaps: so many unusable entries, then the entry; so many at the end -/
def gap : Nat → List CpInfo → List CpInfo
  | 0, r => r
  | n + 1, r => .unusable :: gap n r
def poolList (es : List (Nat × CpInfo)) (last : Nat) : List CpInfo := es.foldr (fun e r => gap e.1 (e.2 :: r)) (gap last [])
def pool (es : List (Nat × CpInfo)) (last : Nat) : Array CpInfo := ⟨poolList es last⟩
def fileOf (pool : Array CpInfo) (this : Nat) (attrs : Array Attribute := #[]) (ms : Array MethodInfo := #[]) (fl : Nat := 33) (sup : Nat := 0) (ifs : Array Nat := #[]) (fds : Array FieldInfo := #[]) : ClassFile where
  minorVersion := 0
  majorVersion := 65
  constantPool := pool
  accessFlags := fl
  thisClass := this
  superClass := sup
  interfaces := ifs
  fields := fds
  methods := ms
  attributes := attrs
def plain (name : String) (sup : Option ClassId) : Class where
  name := name
  kind := .ordinary
  loader := none
  accessFlags := 33
  super := sup
  interfaces := #[]
  cf := none
  fields := #[]
  methods := #[]
  instanceTypes := #[]
  staticTypes := #[]
  resolved := #[]
  callSites := []
  init := .initialized
  statics := none
  mirror := none

def pool0 : Array CpInfo := pool [(5, u "<init>"), (0, u "()V"), (1, .class_ 10), (1, u "java/lang/Object")] 113

def k0c0 : Code := { maxStack := 0, maxLocals := 1, code := object_method_1_code, exceptionTable := #[], attributes := #[] }
def k0m0 : Method := { name := "<init>", desc := "()V", sig := { parameters := [], returnType := none }, accessFlags := 1, code := some k0c0 }
/-- java/lang/Object -/
def k0 : Class := { plain "java/lang/Object" none with
  accessFlags := 33
  interfaces := #[]
  cf := some (fileOf pool0 8 #[] #[{ accessFlags := 1, nameIndex := 5, descriptorIndex := 6, attributes := #[] }] 33 0 #[] #[])
  fields := #[]
  methods := #[k0m0]
  instanceTypes := #[]
  staticTypes := #[]
  resolved := Array.replicate 124 none
  statics := none }

def pool1 : Array CpInfo := pool [(2, .class_ 4), (0, .nameAndType 5 6), (0, u "java/lang/Object"), (0, u "<init>"), (0, u "()V"), (0, .class_ 8), (0, u "java/util/ArrayList"), (0, .methodref 7 3), (0, .class_ 11), (0, u "com/example/loadvane/loadvane/simulation/Group"), (0, .methodref 10 13), (0, .nameAndType 5 14), (0, u "(Ljava/lang/String;ILcom/example/loadvane/loadvane/simulation/Group$Service;JIIDJJJJJ)V"), (0, .methodref 7 16), (0, .nameAndType 17 18), (0, u "add"), (0, u "(Ljava/lang/Object;)Z"), (0, .class_ 20), (0, u "com/example/loadvane/loadvane/simulation/Tally"), (0, .methodref 19 22), (0, .nameAndType 5 23), (0, u "(Ljava/util/List;JJ)V"), (0, .methodref 19 25), (0, .nameAndType 26 27), (0, u "sent"), (0, u "(JI)V"), (0, .methodref 29 30), (0, .class_ 31), (0, .nameAndType 32 33), (0, u "com/example/loadvane/loadvane/simulation/TallySentToGroupPinLaw"), (0, u "hit"), (0, u "(JJJIII)J"), (0, .methodref 19 35), (0, .nameAndType 36 37), (0, u "sentToGroup"), (0, u "(I)J"), (2, u "law"), (0, u "(IJJJJJ)Z")] 7

def k1m0 : Method := { name := "<init>", desc := "()V", sig := { parameters := [], returnType := none }, accessFlags := 1, code := none }
def k1c1 : Code := { maxStack := 22, maxLocals := 23, code := code, exceptionTable := #[], attributes := #[] }
def k1m1 : Method := { name := "law", desc := "(IJJJJJ)Z", sig := { parameters := [.int, .long, .long, .long, .long, .long], returnType := some .boolean }, accessFlags := 9, code := some k1c1 }
def k1c2 : Code := { maxStack := 4, maxLocals := 9, code := method_3_code, exceptionTable := #[], attributes := #[] }
def k1m2 : Method := { name := "hit", desc := "(JJJIII)J", sig := { parameters := [.long, .long, .long, .int, .int, .int], returnType := some .long }, accessFlags := 10, code := some k1c2 }
/-- com/example/loadvane/loadvane/simulation/TallySentToGroupPinLaw -/
def k1 : Class := { plain "com/example/loadvane/loadvane/simulation/TallySentToGroupPinLaw" (some 0) with
  accessFlags := 49
  interfaces := #[]
  cf := some (fileOf pool1 29 #[] #[{ accessFlags := 1, nameIndex := 5, descriptorIndex := 6, attributes := #[] }, { accessFlags := 9, nameIndex := 40, descriptorIndex := 41, attributes := #[] }, { accessFlags := 10, nameIndex := 32, descriptorIndex := 33, attributes := #[] }] 49 2 #[] #[])
  fields := #[]
  methods := #[k1m0, k1m1, k1m2]
  instanceTypes := #[]
  staticTypes := #[]
  resolved := Array.replicate 49 none
  statics := none }

def pool2 : Array CpInfo := pool [(8, .class_ 10), (1, u "java/lang/Iterable"), (24, .class_ 36), (0, u "java/lang/Object")] 25

/-- java/lang/Iterable -/
def k2 : Class := { plain "java/lang/Iterable" (some 0) with
  accessFlags := 1537
  interfaces := #[]
  cf := some (fileOf pool2 8 #[] #[] 1537 35 #[] #[])
  fields := #[]
  methods := #[]
  instanceTypes := #[]
  staticTypes := #[]
  resolved := Array.replicate 62 none
  statics := none }

def pool3 : Array CpInfo := pool [(10, .class_ 12), (1, u "java/util/Collection"), (47, .class_ 61), (0, u "java/lang/Object"), (0, .class_ 63), (0, u "java/lang/Iterable")] 51

/-- java/util/Collection -/
def k3 : Class := { plain "java/util/Collection" (some 0) with
  accessFlags := 1537
  interfaces := #[2]
  cf := some (fileOf pool3 10 #[] #[] 1537 60 #[62] #[])
  fields := #[]
  methods := #[]
  instanceTypes := #[]
  staticTypes := #[]
  resolved := Array.replicate 115 none
  statics := none }

def pool4 : Array CpInfo := pool [(1, .methodref 2 3), (0, .class_ 4), (0, .nameAndType 5 6), (0, u "java/lang/Object"), (0, u "<init>"), (0, u "()V"), (1, .class_ 10), (1, u "java/util/AbstractCollection"), (66, .class_ 78), (0, u "java/util/Collection")] 81

def k4c0 : Code := { maxStack := 1, maxLocals := 1, code := jdk_22_method_1_code, exceptionTable := #[], attributes := #[] }
def k4m0 : Method := { name := "<init>", desc := "()V", sig := { parameters := [], returnType := none }, accessFlags := 4, code := some k4c0 }
/-- java/util/AbstractCollection -/
def k4 : Class := { plain "java/util/AbstractCollection" (some 0) with
  accessFlags := 1057
  interfaces := #[3]
  cf := some (fileOf pool4 8 #[] #[{ accessFlags := 4, nameIndex := 5, descriptorIndex := 6, attributes := #[] }] 1057 2 #[77] #[])
  fields := #[]
  methods := #[k4m0]
  instanceTypes := #[]
  staticTypes := #[]
  resolved := Array.replicate 160 none
  statics := none }

def pool5 : Array CpInfo := pool [(8, .class_ 10), (1, u "java/util/SequencedCollection"), (15, .class_ 27), (0, u "java/lang/Object"), (0, .class_ 29), (0, u "java/util/Collection")] 27

/-- java/util/SequencedCollection -/
def k5 : Class := { plain "java/util/SequencedCollection" (some 0) with
  accessFlags := 1537
  interfaces := #[3]
  cf := some (fileOf pool5 8 #[] #[] 1537 26 #[28] #[])
  fields := #[]
  methods := #[]
  instanceTypes := #[]
  staticTypes := #[]
  resolved := Array.replicate 57 none
  statics := none }

def pool6 : Array CpInfo := pool [(8, .class_ 10), (1, u "java/util/List"), (64, u "get"), (0, u "(I)Ljava/lang/Object;"), (2, u "size"), (0, u "()I"), (22, .class_ 104), (0, u "java/lang/Object"), (15, .class_ 121), (0, u "java/util/SequencedCollection")] 129

def k6m0 : Method := { name := "size", desc := "()I", sig := { parameters := [], returnType := some .int }, accessFlags := 1025, code := none }
def k6m1 : Method := { name := "get", desc := "(I)Ljava/lang/Object;", sig := { parameters := [.int], returnType := some (.object "java/lang/Object") }, accessFlags := 1025, code := none }
/-- java/util/List -/
def k6 : Class := { plain "java/util/List" (some 0) with
  accessFlags := 1537
  interfaces := #[5]
  cf := some (fileOf pool6 8 #[] #[{ accessFlags := 1025, nameIndex := 79, descriptorIndex := 80, attributes := #[] }, { accessFlags := 1025, nameIndex := 75, descriptorIndex := 76, attributes := #[] }] 1537 103 #[120] #[])
  fields := #[]
  methods := #[k6m0, k6m1]
  instanceTypes := #[]
  staticTypes := #[]
  resolved := Array.replicate 251 none
  statics := none }

def pool7 : Array CpInfo := pool [(1, .methodref 2 3), (0, .class_ 4), (0, .nameAndType 5 6), (0, u "java/util/AbstractCollection"), (0, u "<init>"), (0, u "()V"), (0, .fieldref 8 9), (0, .class_ 10), (0, .nameAndType 11 12), (0, u "java/util/AbstractList"), (0, u "modCount"), (0, u "I"), (64, .class_ 78), (0, u "java/util/AbstractList$Itr"), (3, .class_ 83), (0, u "java/util/AbstractList$ListItr"), (9, .class_ 94), (0, u "java/util/AbstractList$RandomAccessSubList"), (3, .class_ 99), (0, u "java/util/AbstractList$SubList"), (33, .class_ 134), (0, u "java/util/List"), (73, .class_ 209), (0, u "java/util/AbstractList$SubList$1"), (0, .class_ 211), (0, u "java/util/AbstractList$RandomAccessSpliterator")] 6

def k7c0 : Code := { maxStack := 2, maxLocals := 1, code := jdk_39_method_1_code, exceptionTable := #[], attributes := #[] }
def k7m0 : Method := { name := "<init>", desc := "()V", sig := { parameters := [], returnType := none }, accessFlags := 4, code := some k7c0 }
/-- java/util/AbstractList -/
def k7 : Class := { plain "java/util/AbstractList" (some 4) with
  accessFlags := 1057
  interfaces := #[6]
  cf := some (fileOf pool7 8 #[.nestMembers #[93, 98, 208, 210, 82, 77]] #[{ accessFlags := 4, nameIndex := 5, descriptorIndex := 6, attributes := #[] }] 1057 2 #[133] #[{ accessFlags := 132, nameIndex := 11, descriptorIndex := 12, attributes := #[] }])
  fields := #[{ name := "modCount", type := .int, accessFlags := 132, slot := 0, constantValue := 0 }]
  methods := #[k7m0]
  instanceTypes := #[.int]
  staticTypes := #[]
  resolved := Array.replicate 218 none
  statics := none }

def pool8 : Array CpInfo := pool [(1, .class_ 2), (0, u "java/util/RandomAccess"), (0, .class_ 4), (0, u "java/lang/Object")] 2

/-- java/util/RandomAccess -/
def k8 : Class := { plain "java/util/RandomAccess" (some 0) with
  accessFlags := 1537
  interfaces := #[]
  cf := some (fileOf pool8 1 #[] #[] 1537 3 #[] #[])
  fields := #[]
  methods := #[]
  instanceTypes := #[]
  staticTypes := #[]
  resolved := Array.replicate 7 none
  statics := none }

def pool9 : Array CpInfo := pool [(1, .class_ 2), (0, u "java/lang/Cloneable"), (0, .class_ 4), (0, u "java/lang/Object")] 2

/-- java/lang/Cloneable -/
def k9 : Class := { plain "java/lang/Cloneable" (some 0) with
  accessFlags := 1537
  interfaces := #[]
  cf := some (fileOf pool9 1 #[] #[] 1537 3 #[] #[])
  fields := #[]
  methods := #[]
  instanceTypes := #[]
  staticTypes := #[]
  resolved := Array.replicate 7 none
  statics := none }

def pool10 : Array CpInfo := pool [(1, .class_ 2), (0, u "java/io/Serializable"), (0, .class_ 4), (0, u "java/lang/Object")] 2

/-- java/io/Serializable -/
def k10 : Class := { plain "java/io/Serializable" (some 0) with
  accessFlags := 1537
  interfaces := #[]
  cf := some (fileOf pool10 1 #[] #[] 1537 3 #[] #[])
  fields := #[]
  methods := #[]
  instanceTypes := #[]
  staticTypes := #[]
  resolved := Array.replicate 7 none
  statics := none }

def pool11 : Array CpInfo := pool [(1, .methodref 2 3), (0, .class_ 4), (0, .nameAndType 5 6), (0, u "java/util/AbstractList"), (0, u "<init>"), (0, u "()V"), (0, .class_ 8), (0, u "java/lang/Object"), (0, .fieldref 10 11), (0, .class_ 12), (0, .nameAndType 13 14), (0, u "java/util/ArrayList"), (0, u "elementData"), (0, u "[Ljava/lang/Object;"), (2, u "EMPTY_ELEMENTDATA"), (21, .fieldref 10 40), (0, .nameAndType 41 14), (0, u "DEFAULTCAPACITY_EMPTY_ELEMENTDATA"), (5, u "()[Ljava/lang/Object;"), (0, .fieldref 10 49), (0, .nameAndType 50 51), (0, u "size"), (0, u "I"), (11, .fieldref 10 64), (0, .nameAndType 65 51), (0, u "modCount"), (3, .methodref 10 70), (0, .nameAndType 71 72), (0, u "grow"), (0, u "(I)[Ljava/lang/Object;"), (6, .methodref 80 81), (0, .class_ 82), (0, .nameAndType 83 84), (0, u "java/lang/Math"), (0, u "max"), (0, u "(II)I"), (11, u "(Ljava/lang/Object;)Z"), (21, .methodref 119 120), (0, .class_ 121), (0, .nameAndType 122 84), (0, u "java/util/Objects"), (0, u "checkIndex"), (0, .methodref 10 124), (0, .nameAndType 13 125), (0, u "(I)Ljava/lang/Object;"), (3, .methodref 10 130), (0, .nameAndType 71 47), (0, .methodref 10 132), (0, .nameAndType 133 134), (0, u "add"), (0, u "(Ljava/lang/Object;[Ljava/lang/Object;I)V"), (13, .class_ 149), (0, u "java/util/List"), (36, u "()I"), (75, .class_ 263), (0, u "java/util/ArrayList$ListItr"), (3, .class_ 268), (0, u "java/util/ArrayList$Itr"), (7, .class_ 277), (0, u "java/util/ArrayList$SubList"), (12, .class_ 291), (0, u "java/util/ArrayList$ArrayListSpliterator"), (37, .class_ 330), (0, u "java/util/RandomAccess"), (0, .class_ 332), (0, u "java/lang/Cloneable"), (0, .class_ 334), (0, u "java/io/Serializable"), (0, u "serialVersionUID"), (0, u "J"), (3, u "DEFAULT_CAPACITY"), (40, u "get"), (118, .class_ 501), (0, u "java/util/ArrayList$SubList$2"), (0, .class_ 503), (0, u "java/util/ArrayList$SubList$1")] 5

def k11c0 : Code := { maxStack := 2, maxLocals := 1, code := jdk_38_method_2_code, exceptionTable := #[], attributes := #[] }
def k11m0 : Method := { name := "<init>", desc := "()V", sig := { parameters := [], returnType := none }, accessFlags := 1, code := some k11c0 }
def k11c1 : Code := { maxStack := 4, maxLocals := 4, code := jdk_38_method_6_code, exceptionTable := #[], attributes := #[] }
def k11m1 : Method := { name := "grow", desc := "(I)[Ljava/lang/Object;", sig := { parameters := [.int], returnType := some (.array (.object "java/lang/Object")) }, accessFlags := 2, code := some k11c1 }
def k11c2 : Code := { maxStack := 3, maxLocals := 1, code := jdk_38_method_7_code, exceptionTable := #[], attributes := #[] }
def k11m2 : Method := { name := "grow", desc := "()[Ljava/lang/Object;", sig := { parameters := [], returnType := some (.array (.object "java/lang/Object")) }, accessFlags := 2, code := some k11c2 }
def k11c3 : Code := { maxStack := 1, maxLocals := 1, code := jdk_38_method_8_code, exceptionTable := #[], attributes := #[] }
def k11m3 : Method := { name := "size", desc := "()I", sig := { parameters := [], returnType := some .int }, accessFlags := 1, code := some k11c3 }
def k11c4 : Code := { maxStack := 2, maxLocals := 2, code := jdk_38_method_18_code, exceptionTable := #[], attributes := #[] }
def k11m4 : Method := { name := "elementData", desc := "(I)Ljava/lang/Object;", sig := { parameters := [.int], returnType := some (.object "java/lang/Object") }, accessFlags := 0, code := some k11c4 }
def k11c5 : Code := { maxStack := 2, maxLocals := 2, code := jdk_38_method_20_code, exceptionTable := #[], attributes := #[] }
def k11m5 : Method := { name := "get", desc := "(I)Ljava/lang/Object;", sig := { parameters := [.int], returnType := some (.object "java/lang/Object") }, accessFlags := 1, code := some k11c5 }
def k11c6 : Code := { maxStack := 3, maxLocals := 4, code := jdk_38_method_24_code, exceptionTable := #[], attributes := #[] }
def k11m6 : Method := { name := "add", desc := "(Ljava/lang/Object;[Ljava/lang/Object;I)V", sig := { parameters := [(.object "java/lang/Object"), (.array (.object "java/lang/Object")), .int], returnType := none }, accessFlags := 2, code := some k11c6 }
def k11c7 : Code := { maxStack := 4, maxLocals := 2, code := jdk_38_method_25_code, exceptionTable := #[], attributes := #[] }
def k11m7 : Method := { name := "add", desc := "(Ljava/lang/Object;)Z", sig := { parameters := [(.object "java/lang/Object")], returnType := some .boolean }, accessFlags := 1, code := some k11c7 }
/-- java/util/ArrayList -/
def k11 : Class := { plain "java/util/ArrayList" (some 7) with
  accessFlags := 33
  interfaces := #[6, 8, 9, 10]
  cf := some (fileOf pool11 10 #[.nestMembers #[290, 276, 500, 502, 262, 267]] #[{ accessFlags := 1, nameIndex := 5, descriptorIndex := 6, attributes := #[] }, { accessFlags := 2, nameIndex := 71, descriptorIndex := 72, attributes := #[] }, { accessFlags := 2, nameIndex := 71, descriptorIndex := 47, attributes := #[] }, { accessFlags := 1, nameIndex := 50, descriptorIndex := 186, attributes := #[] }, { accessFlags := 0, nameIndex := 13, descriptorIndex := 125, attributes := #[] }, { accessFlags := 1, nameIndex := 381, descriptorIndex := 125, attributes := #[] }, { accessFlags := 2, nameIndex := 133, descriptorIndex := 134, attributes := #[] }, { accessFlags := 1, nameIndex := 133, descriptorIndex := 96, attributes := #[] }] 33 2 #[148, 329, 331, 333] #[{ accessFlags := 26, nameIndex := 335, descriptorIndex := 336, attributes := #[] }, { accessFlags := 26, nameIndex := 340, descriptorIndex := 51, attributes := #[] }, { accessFlags := 26, nameIndex := 17, descriptorIndex := 14, attributes := #[] }, { accessFlags := 26, nameIndex := 41, descriptorIndex := 14, attributes := #[] }, { accessFlags := 128, nameIndex := 13, descriptorIndex := 14, attributes := #[] }, { accessFlags := 2, nameIndex := 50, descriptorIndex := 51, attributes := #[] }])
  fields := #[{ name := "serialVersionUID", type := .long, accessFlags := 26, slot := 0, constantValue := 0 }, { name := "DEFAULT_CAPACITY", type := .int, accessFlags := 26, slot := 1, constantValue := 0 }, { name := "EMPTY_ELEMENTDATA", type := (.array (.object "java/lang/Object")), accessFlags := 26, slot := 2, constantValue := 0 }, { name := "DEFAULTCAPACITY_EMPTY_ELEMENTDATA", type := (.array (.object "java/lang/Object")), accessFlags := 26, slot := 3, constantValue := 0 }, { name := "elementData", type := (.array (.object "java/lang/Object")), accessFlags := 128, slot := 1, constantValue := 0 }, { name := "size", type := .int, accessFlags := 2, slot := 2, constantValue := 0 }]
  methods := #[k11m0, k11m1, k11m2, k11m3, k11m4, k11m5, k11m6, k11m7]
  instanceTypes := #[.int, (.array (.object "java/lang/Object")), .int]
  staticTypes := #[.long, .int, (.array (.object "java/lang/Object")), (.array (.object "java/lang/Object"))]
  resolved := Array.replicate 509 none
  statics := some 0 }

def pool12 : Array CpInfo := pool [(1, .methodref 2 3), (0, .class_ 4), (0, .nameAndType 5 6), (0, u "java/lang/Object"), (0, u "<init>"), (0, u "()V"), (0, .class_ 8), (0, u "java/lang/Record")] 13

def k12c0 : Code := { maxStack := 1, maxLocals := 1, code := jdk_30_method_1_code, exceptionTable := #[], attributes := #[] }
def k12m0 : Method := { name := "<init>", desc := "()V", sig := { parameters := [], returnType := none }, accessFlags := 4, code := some k12c0 }
/-- java/lang/Record -/
def k12 : Class := { plain "java/lang/Record" (some 0) with
  accessFlags := 1057
  interfaces := #[]
  cf := some (fileOf pool12 7 #[] #[{ accessFlags := 4, nameIndex := 5, descriptorIndex := 6, attributes := #[] }] 1057 2 #[] #[])
  fields := #[]
  methods := #[k12m0]
  instanceTypes := #[]
  staticTypes := #[]
  resolved := Array.replicate 22 none
  statics := none }

def pool13 : Array CpInfo := pool [(5, .methodref 6 7), (0, .class_ 8), (0, .nameAndType 9 10), (0, u "java/lang/Record"), (0, u "<init>"), (0, u "()V"), (0, .fieldref 12 13), (0, .class_ 14), (0, .nameAndType 15 16), (0, u "com/example/loadvane/loadvane/simulation/Group"), (0, u "name"), (0, u "Ljava/lang/String;"), (0, .fieldref 12 18), (0, .nameAndType 19 20), (0, u "count"), (0, u "I"), (0, .fieldref 12 22), (0, .nameAndType 23 24), (0, u "service"), (0, u "Lcom/example/loadvane/loadvane/simulation/Group$Service;"), (0, .fieldref 12 26), (0, .nameAndType 27 28), (0, u "serviceNanos"), (0, u "J"), (0, .fieldref 12 30), (0, .nameAndType 31 20), (0, u "workers"), (0, .fieldref 12 33), (0, .nameAndType 34 20), (0, u "queue"), (0, .fieldref 12 36), (0, .nameAndType 37 38), (0, u "failRate"), (0, u "D"), (0, .fieldref 12 40), (0, .nameAndType 41 28), (0, u "downFromNanos"), (0, .fieldref 12 43), (0, .nameAndType 44 28), (0, u "downUntilNanos"), (0, .fieldref 12 46), (0, .nameAndType 47 28), (0, u "startNanos"), (0, .fieldref 12 49), (0, .nameAndType 50 28), (0, u "slowFromNanos"), (0, .fieldref 12 52), (0, .nameAndType 53 28), (0, u "slowServiceNanos"), (1, .class_ 57), (1, u "com/example/loadvane/loadvane/simulation/Group$Service"), (1, u "()I"), (23, u "NEVER"), (3, u "UNBOUNDED"), (1, u "(Ljava/lang/String;ILcom/example/loadvane/loadvane/simulation/Group$Service;JIIDJJJJJ)V")] 46

def k13c0 : Code := { maxStack := 3, maxLocals := 20, code := prog_44_method_1_code, exceptionTable := #[], attributes := #[] }
def k13m0 : Method := { name := "<init>", desc := "(Ljava/lang/String;ILcom/example/loadvane/loadvane/simulation/Group$Service;JIIDJJJJJ)V", sig := { parameters := [(.object "java/lang/String"), .int, (.object "com/example/loadvane/loadvane/simulation/Group$Service"), .long, .int, .int, .double, .long, .long, .long, .long, .long], returnType := none }, accessFlags := 0, code := some k13c0 }
def k13c1 : Code := { maxStack := 1, maxLocals := 1, code := prog_44_method_8_code, exceptionTable := #[], attributes := #[] }
def k13m1 : Method := { name := "count", desc := "()I", sig := { parameters := [], returnType := some .int }, accessFlags := 1, code := some k13c1 }
/-- com/example/loadvane/loadvane/simulation/Group -/
def k13 : Class := { plain "com/example/loadvane/loadvane/simulation/Group" (some 12) with
  accessFlags := 48
  interfaces := #[]
  cf := some (fileOf pool13 12 #[.nestMembers #[55]] #[{ accessFlags := 0, nameIndex := 9, descriptorIndex := 89, attributes := #[] }, { accessFlags := 1, nameIndex := 19, descriptorIndex := 59, attributes := #[] }] 48 6 #[] #[{ accessFlags := 18, nameIndex := 15, descriptorIndex := 16, attributes := #[] }, { accessFlags := 18, nameIndex := 19, descriptorIndex := 20, attributes := #[] }, { accessFlags := 18, nameIndex := 23, descriptorIndex := 24, attributes := #[] }, { accessFlags := 18, nameIndex := 27, descriptorIndex := 28, attributes := #[] }, { accessFlags := 18, nameIndex := 31, descriptorIndex := 20, attributes := #[] }, { accessFlags := 18, nameIndex := 34, descriptorIndex := 20, attributes := #[] }, { accessFlags := 18, nameIndex := 37, descriptorIndex := 38, attributes := #[] }, { accessFlags := 18, nameIndex := 41, descriptorIndex := 28, attributes := #[] }, { accessFlags := 18, nameIndex := 44, descriptorIndex := 28, attributes := #[] }, { accessFlags := 18, nameIndex := 47, descriptorIndex := 28, attributes := #[] }, { accessFlags := 18, nameIndex := 50, descriptorIndex := 28, attributes := #[] }, { accessFlags := 18, nameIndex := 53, descriptorIndex := 28, attributes := #[] }, { accessFlags := 24, nameIndex := 83, descriptorIndex := 28, attributes := #[] }, { accessFlags := 24, nameIndex := 87, descriptorIndex := 20, attributes := #[] }])
  fields := #[{ name := "name", type := (.object "java/lang/String"), accessFlags := 18, slot := 0, constantValue := 0 }, { name := "count", type := .int, accessFlags := 18, slot := 1, constantValue := 0 }, { name := "service", type := (.object "com/example/loadvane/loadvane/simulation/Group$Service"), accessFlags := 18, slot := 2, constantValue := 0 }, { name := "serviceNanos", type := .long, accessFlags := 18, slot := 3, constantValue := 0 }, { name := "workers", type := .int, accessFlags := 18, slot := 4, constantValue := 0 }, { name := "queue", type := .int, accessFlags := 18, slot := 5, constantValue := 0 }, { name := "failRate", type := .double, accessFlags := 18, slot := 6, constantValue := 0 }, { name := "downFromNanos", type := .long, accessFlags := 18, slot := 7, constantValue := 0 }, { name := "downUntilNanos", type := .long, accessFlags := 18, slot := 8, constantValue := 0 }, { name := "startNanos", type := .long, accessFlags := 18, slot := 9, constantValue := 0 }, { name := "slowFromNanos", type := .long, accessFlags := 18, slot := 10, constantValue := 0 }, { name := "slowServiceNanos", type := .long, accessFlags := 18, slot := 11, constantValue := 0 }, { name := "NEVER", type := .long, accessFlags := 24, slot := 0, constantValue := 0 }, { name := "UNBOUNDED", type := .int, accessFlags := 24, slot := 1, constantValue := 0 }]
  methods := #[k13m0, k13m1]
  instanceTypes := #[(.object "java/lang/String"), .int, (.object "com/example/loadvane/loadvane/simulation/Group$Service"), .long, .int, .int, .double, .long, .long, .long, .long, .long]
  staticTypes := #[.long, .int]
  resolved := Array.replicate 136 none
  statics := none }

def pool14 : Array CpInfo := pool [(1, .class_ 2), (0, u "java/lang/Math"), (1, .class_ 6), (1, u "java/lang/Object"), (0, u "<init>"), (0, u "()V"), (89, .class_ 100), (1, u "java/lang/Math$RandomNumberGeneratorHolder"), (71, u "negativeZeroFloatBits"), (0, u "J"), (2, u "negativeZeroDoubleBits"), (21, u "max"), (46, u "$assertionsDisabled"), (0, u "Z"), (88, u "(II)I"), (2, u "twoToTheDoubleScaleDown"), (0, u "D"), (4, u "twoToTheDoubleScaleUp"), (9, u "E"), (3, u "PI"), (2, u "TAU"), (2, u "DEGREES_TO_RADIANS"), (0, u "RADIANS_TO_DEGREES")] 94

def k14m0 : Method := { name := "<init>", desc := "()V", sig := { parameters := [], returnType := none }, accessFlags := 2, code := none }
def k14c1 : Code := { maxStack := 2, maxLocals := 2, code := jdk_29_method_65_code, exceptionTable := #[], attributes := #[] }
def k14m1 : Method := { name := "max", desc := "(II)I", sig := { parameters := [.int, .int], returnType := some .int }, accessFlags := 9, code := some k14c1 }
/-- java/lang/Math -/
def k14 : Class := { plain "java/lang/Math" (some 0) with
  accessFlags := 49
  interfaces := #[]
  cf := some (fileOf pool14 1 #[.nestMembers #[98]] #[{ accessFlags := 2, nameIndex := 7, descriptorIndex := 8, attributes := #[] }, { accessFlags := 9, nameIndex := 198, descriptorIndex := 335, attributes := #[] }] 49 4 #[] #[{ accessFlags := 25, nameIndex := 354, descriptorIndex := 339, attributes := #[] }, { accessFlags := 25, nameIndex := 358, descriptorIndex := 339, attributes := #[] }, { accessFlags := 25, nameIndex := 361, descriptorIndex := 339, attributes := #[] }, { accessFlags := 26, nameIndex := 364, descriptorIndex := 339, attributes := #[] }, { accessFlags := 26, nameIndex := 365, descriptorIndex := 339, attributes := #[] }, { accessFlags := 26, nameIndex := 172, descriptorIndex := 173, attributes := #[] }, { accessFlags := 26, nameIndex := 176, descriptorIndex := 173, attributes := #[] }, { accessFlags := 8, nameIndex := 344, descriptorIndex := 339, attributes := #[] }, { accessFlags := 8, nameIndex := 338, descriptorIndex := 339, attributes := #[] }, { accessFlags := 4120, nameIndex := 245, descriptorIndex := 246, attributes := #[] }])
  fields := #[{ name := "E", type := .double, accessFlags := 25, slot := 0, constantValue := 0 }, { name := "PI", type := .double, accessFlags := 25, slot := 1, constantValue := 0 }, { name := "TAU", type := .double, accessFlags := 25, slot := 2, constantValue := 0 }, { name := "DEGREES_TO_RADIANS", type := .double, accessFlags := 26, slot := 3, constantValue := 0 }, { name := "RADIANS_TO_DEGREES", type := .double, accessFlags := 26, slot := 4, constantValue := 0 }, { name := "negativeZeroFloatBits", type := .long, accessFlags := 26, slot := 5, constantValue := 0 }, { name := "negativeZeroDoubleBits", type := .long, accessFlags := 26, slot := 6, constantValue := 0 }, { name := "twoToTheDoubleScaleUp", type := .double, accessFlags := 8, slot := 7, constantValue := 0 }, { name := "twoToTheDoubleScaleDown", type := .double, accessFlags := 8, slot := 8, constantValue := 0 }, { name := "$assertionsDisabled", type := .boolean, accessFlags := 4120, slot := 9, constantValue := 0 }]
  methods := #[k14m0, k14m1]
  instanceTypes := #[]
  staticTypes := #[.double, .double, .double, .double, .double, .long, .long, .double, .double, .boolean]
  resolved := Array.replicate 460 none
  statics := none }

def pool15 : Array CpInfo := pool [(3, .methodref 4 5), (0, .class_ 6), (0, .nameAndType 7 8), (0, u "java/lang/Object"), (0, u "<init>"), (0, u "()V"), (0, .fieldref 10 11), (0, .class_ 12), (0, .nameAndType 13 14), (0, u "com/example/loadvane/loadvane/simulation/Tally"), (0, u "latencies"), (0, u "[J"), (0, .fieldref 10 16), (0, .nameAndType 17 18), (0, u "sorted"), (0, u "Z"), (0, .interfaceMethodref 20 21), (0, .class_ 22), (0, .nameAndType 23 24), (0, u "java/util/List"), (0, u "size"), (0, u "()I"), (0, .fieldref 10 26), (0, .nameAndType 27 28), (0, u "groupStarts"), (0, u "[I"), (0, .interfaceMethodref 20 30), (0, .nameAndType 31 32), (0, u "get"), (0, u "(I)Ljava/lang/Object;"), (0, .class_ 34), (0, u "com/example/loadvane/loadvane/simulation/Group"), (0, .methodref 33 36), (0, .nameAndType 37 24), (0, u "count"), (0, .fieldref 10 39), (0, .nameAndType 40 14), (0, u "sent"), (0, .fieldref 10 42), (0, .nameAndType 43 14), (0, u "succeeded"), (0, .fieldref 10 45), (0, .nameAndType 46 28), (0, u "probationMax"), (0, .fieldref 10 48), (0, .nameAndType 49 14), (0, u "overLimit"), (0, .fieldref 10 51), (0, .nameAndType 52 28), (0, u "clients"), (0, .fieldref 10 54), (0, .nameAndType 55 56), (0, u "measureFrom"), (0, u "J"), (0, .fieldref 10 58), (0, .nameAndType 59 56), (0, u "measureTo"), (0, .methodref 10 61), (0, .nameAndType 62 63), (0, u "measured"), (0, u "(J)Z"), (0, .fieldref 10 65), (0, .nameAndType 66 56), (0, u "requests"), (8, u "ok"), (0, u "I"), (23, u "latencySum"), (15, u "MAX_REQUESTS"), (1, u "(Ljava/util/List;JJ)V"), (7, u "(JI)V"), (8, u "sentToGroup"), (0, u "(I)J")] 4

def k15c0 : Code := { maxStack := 5, maxLocals := 7, code := prog_58_method_1_code, exceptionTable := #[], attributes := #[] }
def k15m0 : Method := { name := "<init>", desc := "(Ljava/util/List;JJ)V", sig := { parameters := [(.object "java/util/List"), .long, .long], returnType := none }, accessFlags := 0, code := some k15c0 }
def k15c1 : Code := { maxStack := 6, maxLocals := 4, code := prog_58_method_3_code, exceptionTable := #[], attributes := #[] }
def k15m1 : Method := { name := "sent", desc := "(JI)V", sig := { parameters := [.long, .int], returnType := none }, accessFlags := 0, code := some k15c1 }
def k15c2 : Code := { maxStack := 4, maxLocals := 5, code := prog_58_method_11_code, exceptionTable := #[], attributes := #[] }
def k15m2 : Method := { name := "sentToGroup", desc := "(I)J", sig := { parameters := [.int], returnType := some .long }, accessFlags := 0, code := some k15c2 }
def k15c3 : Code := { maxStack := 4, maxLocals := 3, code := prog_58_method_20_code, exceptionTable := #[], attributes := #[] }
def k15m3 : Method := { name := "measured", desc := "(J)Z", sig := { parameters := [.long], returnType := some .boolean }, accessFlags := 2, code := some k15c3 }
/-- com/example/loadvane/loadvane/simulation/Tally -/
def k15 : Class := { plain "com/example/loadvane/loadvane/simulation/Tally" (some 0) with
  accessFlags := 48
  interfaces := #[]
  cf := some (fileOf pool15 10 #[] #[{ accessFlags := 0, nameIndex := 7, descriptorIndex := 118, attributes := #[] }, { accessFlags := 0, nameIndex := 40, descriptorIndex := 126, attributes := #[] }, { accessFlags := 0, nameIndex := 135, descriptorIndex := 136, attributes := #[] }, { accessFlags := 2, nameIndex := 62, descriptorIndex := 63, attributes := #[] }] 48 4 #[] #[{ accessFlags := 24, nameIndex := 116, descriptorIndex := 56, attributes := #[] }, { accessFlags := 18, nameIndex := 55, descriptorIndex := 56, attributes := #[] }, { accessFlags := 18, nameIndex := 59, descriptorIndex := 56, attributes := #[] }, { accessFlags := 18, nameIndex := 27, descriptorIndex := 28, attributes := #[] }, { accessFlags := 18, nameIndex := 40, descriptorIndex := 14, attributes := #[] }, { accessFlags := 18, nameIndex := 43, descriptorIndex := 14, attributes := #[] }, { accessFlags := 18, nameIndex := 46, descriptorIndex := 28, attributes := #[] }, { accessFlags := 18, nameIndex := 49, descriptorIndex := 14, attributes := #[] }, { accessFlags := 18, nameIndex := 52, descriptorIndex := 28, attributes := #[] }, { accessFlags := 2, nameIndex := 66, descriptorIndex := 56, attributes := #[] }, { accessFlags := 2, nameIndex := 13, descriptorIndex := 14, attributes := #[] }, { accessFlags := 2, nameIndex := 75, descriptorIndex := 76, attributes := #[] }, { accessFlags := 2, nameIndex := 100, descriptorIndex := 56, attributes := #[] }, { accessFlags := 2, nameIndex := 17, descriptorIndex := 18, attributes := #[] }])
  fields := #[{ name := "MAX_REQUESTS", type := .long, accessFlags := 24, slot := 0, constantValue := 0 }, { name := "measureFrom", type := .long, accessFlags := 18, slot := 0, constantValue := 0 }, { name := "measureTo", type := .long, accessFlags := 18, slot := 1, constantValue := 0 }, { name := "groupStarts", type := (.array .int), accessFlags := 18, slot := 2, constantValue := 0 }, { name := "sent", type := (.array .long), accessFlags := 18, slot := 3, constantValue := 0 }, { name := "succeeded", type := (.array .long), accessFlags := 18, slot := 4, constantValue := 0 }, { name := "probationMax", type := (.array .int), accessFlags := 18, slot := 5, constantValue := 0 }, { name := "overLimit", type := (.array .long), accessFlags := 18, slot := 6, constantValue := 0 }, { name := "clients", type := (.array .int), accessFlags := 18, slot := 7, constantValue := 0 }, { name := "requests", type := .long, accessFlags := 2, slot := 8, constantValue := 0 }, { name := "latencies", type := (.array .long), accessFlags := 2, slot := 9, constantValue := 0 }, { name := "ok", type := .int, accessFlags := 2, slot := 10, constantValue := 0 }, { name := "latencySum", type := .long, accessFlags := 2, slot := 11, constantValue := 0 }, { name := "sorted", type := .boolean, accessFlags := 2, slot := 12, constantValue := 0 }]
  methods := #[k15m0, k15m1, k15m2, k15m3]
  instanceTypes := #[.long, .long, (.array .int), (.array .long), (.array .long), (.array .int), (.array .long), (.array .int), .long, (.array .long), .int, .long, .boolean]
  staticTypes := #[.long]
  resolved := Array.replicate 141 none
  statics := none }

def pool16 : Array CpInfo := pool [(2, .class_ 4), (1, u "java/lang/Object"), (0, u "<init>"), (0, u "()V"), (35, .class_ 44), (1, u "java/util/Objects"), (60, .methodref 106 107), (0, .class_ 108), (0, .nameAndType 109 110), (0, u "jdk/internal/util/Preconditions"), (0, u "checkIndex"), (0, u "(IILjava/util/function/BiFunction;)I"), (60, u "(II)I")] 12

def k16m0 : Method := { name := "<init>", desc := "()V", sig := { parameters := [], returnType := none }, accessFlags := 2, code := none }
def k16c1 : Code := { maxStack := 3, maxLocals := 2, code := jdk_31_method_17_code, exceptionTable := #[], attributes := #[] }
def k16m1 : Method := { name := "checkIndex", desc := "(II)I", sig := { parameters := [.int, .int], returnType := some .int }, accessFlags := 9, code := some k16c1 }
/-- java/util/Objects -/
def k16 : Class := { plain "java/util/Objects" (some 0) with
  accessFlags := 49
  interfaces := #[]
  cf := some (fileOf pool16 42 #[] #[{ accessFlags := 2, nameIndex := 5, descriptorIndex := 6, attributes := #[] }, { accessFlags := 9, nameIndex := 109, descriptorIndex := 171, attributes := #[] }] 49 2 #[] #[])
  fields := #[]
  methods := #[k16m0, k16m1]
  instanceTypes := #[]
  staticTypes := #[]
  resolved := Array.replicate 184 none
  statics := none }

def pool17 : Array CpInfo := pool [(2, .class_ 4), (1, u "java/lang/Object"), (0, u "<init>"), (0, u "()V"), (17, .class_ 26), (1, u "jdk/internal/util/Preconditions"), (6, u "checkIndex"), (21, .class_ 56), (0, u "jdk/internal/util/Preconditions$4"), (57, .class_ 115), (0, u "jdk/internal/util/Preconditions$1"), (7, u "SIOOBE_FORMATTER"), (0, u "Ljava/util/function/BiFunction;"), (0, .class_ 126), (0, u "jdk/internal/util/Preconditions$2"), (3, u "AIOOBE_FORMATTER"), (0, .class_ 132), (0, u "jdk/internal/util/Preconditions$3"), (3, u "IOOBE_FORMATTER"), (41, u "(IILjava/util/function/BiFunction;)I")] 15

def k17m0 : Method := { name := "<init>", desc := "()V", sig := { parameters := [], returnType := none }, accessFlags := 1, code := none }
def k17c1 : Code := { maxStack := 3, maxLocals := 3, code := jdk_41_method_11_code, exceptionTable := #[], attributes := #[] }
def k17m1 : Method := { name := "checkIndex", desc := "(IILjava/util/function/BiFunction;)I", sig := { parameters := [.int, .int, (.object "java/util/function/BiFunction")], returnType := some .int }, accessFlags := 9, code := some k17c1 }
/-- jdk/internal/util/Preconditions -/
def k17 : Class := { plain "jdk/internal/util/Preconditions" (some 0) with
  accessFlags := 33
  interfaces := #[]
  cf := some (fileOf pool17 24 #[.nestMembers #[55, 131, 125, 114]] #[{ accessFlags := 1, nameIndex := 5, descriptorIndex := 6, attributes := #[] }, { accessFlags := 9, nameIndex := 33, descriptorIndex := 178, attributes := #[] }] 33 2 #[] #[{ accessFlags := 25, nameIndex := 123, descriptorIndex := 124, attributes := #[] }, { accessFlags := 25, nameIndex := 130, descriptorIndex := 124, attributes := #[] }, { accessFlags := 25, nameIndex := 136, descriptorIndex := 124, attributes := #[] }])
  fields := #[{ name := "SIOOBE_FORMATTER", type := (.object "java/util/function/BiFunction"), accessFlags := 25, slot := 0, constantValue := 0 }, { name := "AIOOBE_FORMATTER", type := (.object "java/util/function/BiFunction"), accessFlags := 25, slot := 1, constantValue := 0 }, { name := "IOOBE_FORMATTER", type := (.object "java/util/function/BiFunction"), accessFlags := 25, slot := 2, constantValue := 0 }]
  methods := #[k17m0, k17m1]
  instanceTypes := #[]
  staticTypes := #[(.object "java/util/function/BiFunction"), (.object "java/util/function/BiFunction"), (.object "java/util/function/BiFunction")]
  resolved := Array.replicate 194 none
  statics := none }

/-- the primitive byte -/
def k18 : Class := { plain "byte" none with kind := .primitive 'B', accessFlags := 0x411 }
/-- [B -/
def k19 : Class := { plain "[B" (some 0) with kind := .array 18 .byte, interfaces := #[9, 10], accessFlags := 1041 }

/-- the primitive int -/
def k20 : Class := { plain "int" none with kind := .primitive 'I', accessFlags := 0x411 }
/-- [I -/
def k21 : Class := { plain "[I" (some 0) with kind := .array 20 .int, interfaces := #[9, 10], accessFlags := 1041 }

/-- the primitive long -/
def k22 : Class := { plain "long" none with kind := .primitive 'J', accessFlags := 0x411 }
/-- [J -/
def k23 : Class := { plain "[J" (some 0) with kind := .array 22 .long, interfaces := #[9, 10], accessFlags := 1041 }

/-- [Ljava/lang/Object; -/
def k24 : Class := { plain "[Ljava/lang/Object;" (some 0) with kind := .array 0 (.object "java/lang/Object"), interfaces := #[9, 10], accessFlags := 1041 }

def heap : Heap := #[{ cls := 11, slots := #[.long 0, .int 0, .ref 1, .ref 2], vm := .statics 11 },
  { cls := 24, slots := #[], vm := .none },
  { cls := 24, slots := #[], vm := .none }]
def classes : Array Class := #[k0, k1, k2, k3, k4, k5, k6, k7, k8, k9, k10, k11, k12, k13, k14, k15, k16, k17, k18, k19, k20, k21, k22, k23, k24]
def interned : List (Array UInt16 × Addr) := []
def slotsUsed : Nat := 4
def theMethod : MethodId := ⟨1, 1⟩
def args0 : Array Value := #[.int 5, .long 3, .long 2, .long 7, .long 9, .long 4]
def aboutOver (below : List Frame) : State where
  vm := { classes := classes, interned := interned.toArray }
  heap := heap
  slotsUsed := slotsUsed
  threads := #[{ frames := .invoking theMethod args0 :: below }]
def below0 : List Frame := [.native { method := ⟨0, 0⟩, args := #[] }]
def about1 : State := aboutOver below0
def p0 : Program := .bare "" "" ""
def e0 : Env := launch0.env 0 0 0
theorem w_frames : about1.frames = Frame.invoking theMethod args0 :: below0 := rfl
set_option maxRecDepth 65536 in
theorem w_args : argsFit about1.vm theMethod args0 = true := by decide +kernel
set_option maxRecDepth 65536 in
theorem w_heap : heapFits about1 = true := by decide +kernel
set_option maxRecDepth 65536 in
theorem w_runnable : about1.curStatus? = some .runnable := by decide +kernel
set_option maxRecDepth 65536 in
theorem w_alone : about1.alone = true := by decide +kernel
set_option maxRecDepth 65536 in
theorem w_named : about1.methodNamed? x = some theMethod := by decide +kernel
set_option maxRecDepth 65536 in
theorem w_hears : about1.hears theMethod below0 = true := by decide +kernel
set_option maxRecDepth 65536 in
theorem w_ripe : about1.ripe theMethod args0 below0 = true := by decide +kernel
theorem w_running : about1.status = .running := rfl
set_option maxRecDepth 65536 in
theorem w_room : about1.hasRoom e0.platform room_1 = true :=
  launch0.hasRoom_least _ room_1 (by decide +kernel) (by decide +kernel) (by decide +kernel) (by decide +kernel) (by decide +kernel) (by decide +kernel)
theorem allAtoms_all (ts : List Jvm.Cond) (a : Array Jvm.Value) (st : Jvm.State) : (allAtoms ts).before a st = ts.all (fun c => c.before a st) := by
  induction ts with
  | nil => rfl
  | cons c t ih =>
    show (Jvm.Cond.and c (allAtoms t)).before a st = _
    rw [Jvm.Cond.before_and, ih, List.all_cons]
def words1 : List Jvm.Cond := Jvm.Cond.code x code maxLocals ret :: tables_1
/-- a 'code' word, met by the world's own term for the bytes: nothing is compared byte by byte -/
theorem code_word {y : MethodName} {bytes : ByteArray} {mx : Nat} {rt : Option FieldType} {a : Array Value} {s : State} {m : MethodId} {meth : Method} {c : Code} (h1 : s.methodNamed? y = some m) (h2 : s.vm.method? m = some meth) (h3 : meth.code = some c) (h4 : c.code = bytes)
    (h5 : (c.maxLocals == mx && c.exceptionTable.isEmpty && decide (c.maxStack ≤ mostOperands) && decide (meth.sig.returnType = rt) && !meth.locks && decide (parseMethodDescriptor y.desc = some meth.sig)) = true) : (Jvm.Cond.code y bytes mx rt).before a s = true := by
  simp only [Bool.and_eq_true, beq_iff_eq, Bool.not_eq_true', decide_eq_true_eq] at h5
  obtain ⟨⟨⟨⟨⟨g1, g2⟩, g3⟩, g4⟩, g5⟩, g6⟩ := h5
  simp [Cond.before, Cond.holds, Cond.value, h1, h2, h3, h4, g1, g2, g3, g4, g5, g6]
def isCode : Jvm.Cond → Bool
  | .code _ _ _ _ => true
  | _ => false
theorem all_split {L : List Jvm.Cond} {P : Jvm.Cond → Bool} (h1 : L.all (fun c => isCode c || P c) = true) (h2 : ∀ c ∈ L.filter isCode, P c = true) : L.all P = true := by
  refine List.all_eq_true.mpr fun c hc => ?_
  have h := List.all_eq_true.mp h1 c hc
  rcases Bool.eq_false_or_eq_true (isCode c) with hi | hi
  · exact h2 c (List.mem_filter.mpr ⟨hc, hi⟩)
  · simpa [hi] using h
set_option maxRecDepth 65536 in
theorem w_c0 : (Jvm.Cond.code x code maxLocals ret).before args0 about1 = true := code_word (m := ⟨1, 1⟩) (meth := k1m1) (c := k1c1) (by decide +kernel) rfl rfl rfl (by decide +kernel)
set_option maxRecDepth 65536 in
theorem w_c1 : (Jvm.Cond.code ({ cls := "java/util/ArrayList", name := "<init>", desc := "()V" } : Jvm.MethodName) jdk_38_method_2_code (1 : Nat) (Option.none : Option Jvm.ClassFile.FieldType)).before args0 about1 = true := code_word (m := ⟨11, 0⟩) (meth := k11m0) (c := k11c0) (by decide +kernel) rfl rfl rfl (by decide +kernel)
set_option maxRecDepth 65536 in
theorem w_c2 : (Jvm.Cond.code ({ cls := "java/util/AbstractList", name := "<init>", desc := "()V" } : Jvm.MethodName) jdk_39_method_1_code (1 : Nat) (Option.none : Option Jvm.ClassFile.FieldType)).before args0 about1 = true := code_word (m := ⟨7, 0⟩) (meth := k7m0) (c := k7c0) (by decide +kernel) rfl rfl rfl (by decide +kernel)
set_option maxRecDepth 65536 in
theorem w_c3 : (Jvm.Cond.code ({ cls := "java/util/AbstractCollection", name := "<init>", desc := "()V" } : Jvm.MethodName) jdk_22_method_1_code (1 : Nat) (Option.none : Option Jvm.ClassFile.FieldType)).before args0 about1 = true := code_word (m := ⟨4, 0⟩) (meth := k4m0) (c := k4c0) (by decide +kernel) rfl rfl rfl (by decide +kernel)
set_option maxRecDepth 65536 in
theorem w_c4 : (Jvm.Cond.code ({ cls := "java/lang/Object", name := "<init>", desc := "()V" } : Jvm.MethodName) object_method_1_code (1 : Nat) (Option.none : Option Jvm.ClassFile.FieldType)).before args0 about1 = true := code_word (m := ⟨0, 0⟩) (meth := k0m0) (c := k0c0) (by decide +kernel) rfl rfl rfl (by decide +kernel)
set_option maxRecDepth 65536 in
theorem w_c5 : (Jvm.Cond.code ({ cls := "com/example/loadvane/loadvane/simulation/Group", name := "<init>", desc := "(Ljava/lang/String;ILcom/example/loadvane/loadvane/simulation/Group$Service;JIIDJJJJJ)V" } : Jvm.MethodName) prog_44_method_1_code (20 : Nat) (Option.none : Option Jvm.ClassFile.FieldType)).before args0 about1 = true := code_word (m := ⟨13, 0⟩) (meth := k13m0) (c := k13c0) (by decide +kernel) rfl rfl rfl (by decide +kernel)
set_option maxRecDepth 65536 in
theorem w_c6 : (Jvm.Cond.code ({ cls := "java/lang/Record", name := "<init>", desc := "()V" } : Jvm.MethodName) jdk_30_method_1_code (1 : Nat) (Option.none : Option Jvm.ClassFile.FieldType)).before args0 about1 = true := code_word (m := ⟨12, 0⟩) (meth := k12m0) (c := k12c0) (by decide +kernel) rfl rfl rfl (by decide +kernel)
set_option maxRecDepth 65536 in
theorem w_c7 : (Jvm.Cond.code ({ cls := "java/util/ArrayList", name := "add", desc := "(Ljava/lang/Object;)Z" } : Jvm.MethodName) jdk_38_method_25_code (2 : Nat) (Option.some Jvm.ClassFile.FieldType.boolean)).before args0 about1 = true := code_word (m := ⟨11, 7⟩) (meth := k11m7) (c := k11c7) (by decide +kernel) rfl rfl rfl (by decide +kernel)
set_option maxRecDepth 65536 in
theorem w_c8 : (Jvm.Cond.code ({ cls := "java/util/ArrayList", name := "add", desc := "(Ljava/lang/Object;[Ljava/lang/Object;I)V" } : Jvm.MethodName) jdk_38_method_24_code (4 : Nat) (Option.none : Option Jvm.ClassFile.FieldType)).before args0 about1 = true := code_word (m := ⟨11, 6⟩) (meth := k11m6) (c := k11c6) (by decide +kernel) rfl rfl rfl (by decide +kernel)
set_option maxRecDepth 65536 in
theorem w_c9 : (Jvm.Cond.code ({ cls := "java/util/ArrayList", name := "grow", desc := "()[Ljava/lang/Object;" } : Jvm.MethodName) jdk_38_method_7_code (1 : Nat) (Option.some (Jvm.ClassFile.FieldType.array (Jvm.ClassFile.FieldType.object "java/lang/Object")))).before args0 about1 = true := code_word (m := ⟨11, 2⟩) (meth := k11m2) (c := k11c2) (by decide +kernel) rfl rfl rfl (by decide +kernel)
set_option maxRecDepth 65536 in
theorem w_c10 : (Jvm.Cond.code ({ cls := "java/util/ArrayList", name := "grow", desc := "(I)[Ljava/lang/Object;" } : Jvm.MethodName) jdk_38_method_6_code (4 : Nat) (Option.some (Jvm.ClassFile.FieldType.array (Jvm.ClassFile.FieldType.object "java/lang/Object")))).before args0 about1 = true := code_word (m := ⟨11, 1⟩) (meth := k11m1) (c := k11c1) (by decide +kernel) rfl rfl rfl (by decide +kernel)
set_option maxRecDepth 65536 in
theorem w_c11 : (Jvm.Cond.code ({ cls := "java/lang/Math", name := "max", desc := "(II)I" } : Jvm.MethodName) jdk_29_method_65_code (2 : Nat) (Option.some Jvm.ClassFile.FieldType.int)).before args0 about1 = true := code_word (m := ⟨14, 1⟩) (meth := k14m1) (c := k14c1) (by decide +kernel) rfl rfl rfl (by decide +kernel)
set_option maxRecDepth 65536 in
theorem w_c12 : (Jvm.Cond.code ({ cls := "com/example/loadvane/loadvane/simulation/Tally", name := "<init>", desc := "(Ljava/util/List;JJ)V" } : Jvm.MethodName) prog_58_method_1_code (7 : Nat) (Option.none : Option Jvm.ClassFile.FieldType)).before args0 about1 = true := code_word (m := ⟨15, 0⟩) (meth := k15m0) (c := k15c0) (by decide +kernel) rfl rfl rfl (by decide +kernel)
set_option maxRecDepth 65536 in
theorem w_c13 : (Jvm.Cond.code ({ cls := "java/util/ArrayList", name := "size", desc := "()I" } : Jvm.MethodName) jdk_38_method_8_code (1 : Nat) (Option.some Jvm.ClassFile.FieldType.int)).before args0 about1 = true := code_word (m := ⟨11, 3⟩) (meth := k11m3) (c := k11c3) (by decide +kernel) rfl rfl rfl (by decide +kernel)
set_option maxRecDepth 65536 in
theorem w_c14 : (Jvm.Cond.code ({ cls := "java/util/ArrayList", name := "get", desc := "(I)Ljava/lang/Object;" } : Jvm.MethodName) jdk_38_method_20_code (2 : Nat) (Option.some (Jvm.ClassFile.FieldType.object "java/lang/Object"))).before args0 about1 = true := code_word (m := ⟨11, 5⟩) (meth := k11m5) (c := k11c5) (by decide +kernel) rfl rfl rfl (by decide +kernel)
set_option maxRecDepth 65536 in
theorem w_c15 : (Jvm.Cond.code ({ cls := "java/util/Objects", name := "checkIndex", desc := "(II)I" } : Jvm.MethodName) jdk_31_method_17_code (2 : Nat) (Option.some Jvm.ClassFile.FieldType.int)).before args0 about1 = true := code_word (m := ⟨16, 1⟩) (meth := k16m1) (c := k16c1) (by decide +kernel) rfl rfl rfl (by decide +kernel)
set_option maxRecDepth 65536 in
theorem w_c16 : (Jvm.Cond.code ({ cls := "jdk/internal/util/Preconditions", name := "checkIndex", desc := "(IILjava/util/function/BiFunction;)I" } : Jvm.MethodName) jdk_41_method_11_code (3 : Nat) (Option.some Jvm.ClassFile.FieldType.int)).before args0 about1 = true := code_word (m := ⟨17, 1⟩) (meth := k17m1) (c := k17c1) (by decide +kernel) rfl rfl rfl (by decide +kernel)
set_option maxRecDepth 65536 in
theorem w_c17 : (Jvm.Cond.code ({ cls := "java/util/ArrayList", name := "elementData", desc := "(I)Ljava/lang/Object;" } : Jvm.MethodName) jdk_38_method_18_code (2 : Nat) (Option.some (Jvm.ClassFile.FieldType.object "java/lang/Object"))).before args0 about1 = true := code_word (m := ⟨11, 4⟩) (meth := k11m4) (c := k11c4) (by decide +kernel) rfl rfl rfl (by decide +kernel)
set_option maxRecDepth 65536 in
theorem w_c18 : (Jvm.Cond.code ({ cls := "com/example/loadvane/loadvane/simulation/Group", name := "count", desc := "()I" } : Jvm.MethodName) prog_44_method_8_code (1 : Nat) (Option.some Jvm.ClassFile.FieldType.int)).before args0 about1 = true := code_word (m := ⟨13, 1⟩) (meth := k13m1) (c := k13c1) (by decide +kernel) rfl rfl rfl (by decide +kernel)
set_option maxRecDepth 65536 in
theorem w_c19 : (Jvm.Cond.code ({ cls := "com/example/loadvane/loadvane/simulation/Tally", name := "sentToGroup", desc := "(I)J" } : Jvm.MethodName) prog_58_method_11_code (5 : Nat) (Option.some Jvm.ClassFile.FieldType.long)).before args0 about1 = true := code_word (m := ⟨15, 2⟩) (meth := k15m2) (c := k15c2) (by decide +kernel) rfl rfl rfl (by decide +kernel)
set_option maxRecDepth 65536 in
theorem w_c20 : (Jvm.Cond.code ({ cls := "com/example/loadvane/loadvane/simulation/Tally", name := "sent", desc := "(JI)V" } : Jvm.MethodName) prog_58_method_3_code (4 : Nat) (Option.none : Option Jvm.ClassFile.FieldType)).before args0 about1 = true := code_word (m := ⟨15, 1⟩) (meth := k15m1) (c := k15c1) (by decide +kernel) rfl rfl rfl (by decide +kernel)
set_option maxRecDepth 65536 in
theorem w_c21 : (Jvm.Cond.code ({ cls := "com/example/loadvane/loadvane/simulation/Tally", name := "measured", desc := "(J)Z" } : Jvm.MethodName) prog_58_method_20_code (3 : Nat) (Option.some Jvm.ClassFile.FieldType.boolean)).before args0 about1 = true := code_word (m := ⟨15, 3⟩) (meth := k15m3) (c := k15c3) (by decide +kernel) rfl rfl rfl (by decide +kernel)
set_option maxRecDepth 65536 in
theorem w_c22 : (Jvm.Cond.code ({ cls := "com/example/loadvane/loadvane/simulation/TallySentToGroupPinLaw", name := "hit", desc := "(JJJIII)J" } : Jvm.MethodName) method_3_code (9 : Nat) (Option.some Jvm.ClassFile.FieldType.long)).before args0 about1 = true := code_word (m := ⟨1, 2⟩) (meth := k1m2) (c := k1c2) (by decide +kernel) rfl rfl rfl (by decide +kernel)
def codes1 : List Jvm.Cond := [Jvm.Cond.code x code maxLocals ret, Jvm.Cond.code ({ cls := "java/util/ArrayList", name := "<init>", desc := "()V" } : Jvm.MethodName) jdk_38_method_2_code (1 : Nat) (Option.none : Option Jvm.ClassFile.FieldType), Jvm.Cond.code ({ cls := "java/util/AbstractList", name := "<init>", desc := "()V" } : Jvm.MethodName) jdk_39_method_1_code (1 : Nat) (Option.none : Option Jvm.ClassFile.FieldType), Jvm.Cond.code ({ cls := "java/util/AbstractCollection", name := "<init>", desc := "()V" } : Jvm.MethodName) jdk_22_method_1_code (1 : Nat) (Option.none : Option Jvm.ClassFile.FieldType), Jvm.Cond.code ({ cls := "java/lang/Object", name := "<init>", desc := "()V" } : Jvm.MethodName) object_method_1_code (1 : Nat) (Option.none : Option Jvm.ClassFile.FieldType), Jvm.Cond.code ({ cls := "com/example/loadvane/loadvane/simulation/Group", name := "<init>", desc := "(Ljava/lang/String;ILcom/example/loadvane/loadvane/simulation/Group$Service;JIIDJJJJJ)V" } : Jvm.MethodName) prog_44_method_1_code (20 : Nat) (Option.none : Option Jvm.ClassFile.FieldType), Jvm.Cond.code ({ cls := "java/lang/Record", name := "<init>", desc := "()V" } : Jvm.MethodName) jdk_30_method_1_code (1 : Nat) (Option.none : Option Jvm.ClassFile.FieldType), Jvm.Cond.code ({ cls := "java/util/ArrayList", name := "add", desc := "(Ljava/lang/Object;)Z" } : Jvm.MethodName) jdk_38_method_25_code (2 : Nat) (Option.some Jvm.ClassFile.FieldType.boolean), Jvm.Cond.code ({ cls := "java/util/ArrayList", name := "add", desc := "(Ljava/lang/Object;[Ljava/lang/Object;I)V" } : Jvm.MethodName) jdk_38_method_24_code (4 : Nat) (Option.none : Option Jvm.ClassFile.FieldType), Jvm.Cond.code ({ cls := "java/util/ArrayList", name := "grow", desc := "()[Ljava/lang/Object;" } : Jvm.MethodName) jdk_38_method_7_code (1 : Nat) (Option.some (Jvm.ClassFile.FieldType.array (Jvm.ClassFile.FieldType.object "java/lang/Object"))), Jvm.Cond.code ({ cls := "java/util/ArrayList", name := "grow", desc := "(I)[Ljava/lang/Object;" } : Jvm.MethodName) jdk_38_method_6_code (4 : Nat) (Option.some (Jvm.ClassFile.FieldType.array (Jvm.ClassFile.FieldType.object "java/lang/Object"))), Jvm.Cond.code ({ cls := "java/lang/Math", name := "max", desc := "(II)I" } : Jvm.MethodName) jdk_29_method_65_code (2 : Nat) (Option.some Jvm.ClassFile.FieldType.int), Jvm.Cond.code ({ cls := "com/example/loadvane/loadvane/simulation/Tally", name := "<init>", desc := "(Ljava/util/List;JJ)V" } : Jvm.MethodName) prog_58_method_1_code (7 : Nat) (Option.none : Option Jvm.ClassFile.FieldType), Jvm.Cond.code ({ cls := "java/util/ArrayList", name := "size", desc := "()I" } : Jvm.MethodName) jdk_38_method_8_code (1 : Nat) (Option.some Jvm.ClassFile.FieldType.int), Jvm.Cond.code ({ cls := "java/util/ArrayList", name := "get", desc := "(I)Ljava/lang/Object;" } : Jvm.MethodName) jdk_38_method_20_code (2 : Nat) (Option.some (Jvm.ClassFile.FieldType.object "java/lang/Object")), Jvm.Cond.code ({ cls := "java/util/Objects", name := "checkIndex", desc := "(II)I" } : Jvm.MethodName) jdk_31_method_17_code (2 : Nat) (Option.some Jvm.ClassFile.FieldType.int), Jvm.Cond.code ({ cls := "jdk/internal/util/Preconditions", name := "checkIndex", desc := "(IILjava/util/function/BiFunction;)I" } : Jvm.MethodName) jdk_41_method_11_code (3 : Nat) (Option.some Jvm.ClassFile.FieldType.int), Jvm.Cond.code ({ cls := "java/util/ArrayList", name := "elementData", desc := "(I)Ljava/lang/Object;" } : Jvm.MethodName) jdk_38_method_18_code (2 : Nat) (Option.some (Jvm.ClassFile.FieldType.object "java/lang/Object")), Jvm.Cond.code ({ cls := "com/example/loadvane/loadvane/simulation/Group", name := "count", desc := "()I" } : Jvm.MethodName) prog_44_method_8_code (1 : Nat) (Option.some Jvm.ClassFile.FieldType.int), Jvm.Cond.code ({ cls := "com/example/loadvane/loadvane/simulation/Tally", name := "sentToGroup", desc := "(I)J" } : Jvm.MethodName) prog_58_method_11_code (5 : Nat) (Option.some Jvm.ClassFile.FieldType.long), Jvm.Cond.code ({ cls := "com/example/loadvane/loadvane/simulation/Tally", name := "sent", desc := "(JI)V" } : Jvm.MethodName) prog_58_method_3_code (4 : Nat) (Option.none : Option Jvm.ClassFile.FieldType), Jvm.Cond.code ({ cls := "com/example/loadvane/loadvane/simulation/Tally", name := "measured", desc := "(J)Z" } : Jvm.MethodName) prog_58_method_20_code (3 : Nat) (Option.some Jvm.ClassFile.FieldType.boolean), Jvm.Cond.code ({ cls := "com/example/loadvane/loadvane/simulation/TallySentToGroupPinLaw", name := "hit", desc := "(JJJIII)J" } : Jvm.MethodName) method_3_code (9 : Nat) (Option.some Jvm.ClassFile.FieldType.long)]
set_option maxRecDepth 65536 in
theorem codes_eq : words1.filter isCode = codes1 := rfl
theorem w_codes : ∀ c ∈ words1.filter isCode, c.before args0 about1 = true := by
  rw [codes_eq]
  intro c hc
  simp only [codes1, List.mem_cons, List.not_mem_nil, or_false] at hc
  rcases hc with rfl | rfl | rfl | rfl | rfl | rfl | rfl | rfl | rfl | rfl | rfl | rfl | rfl | rfl | rfl | rfl | rfl | rfl | rfl | rfl | rfl | rfl | rfl
  · exact w_c0
  · exact w_c1
  · exact w_c2
  · exact w_c3
  · exact w_c4
  · exact w_c5
  · exact w_c6
  · exact w_c7
  · exact w_c8
  · exact w_c9
  · exact w_c10
  · exact w_c11
  · exact w_c12
  · exact w_c13
  · exact w_c14
  · exact w_c15
  · exact w_c16
  · exact w_c17
  · exact w_c18
  · exact w_c19
  · exact w_c20
  · exact w_c21
  · exact w_c22
set_option maxRecDepth 65536 in
theorem w_t1 : (words1.take 24).all (fun c => isCode c || c.before args0 about1) = true := by decide +kernel
set_option maxRecDepth 65536 in
theorem w_t2 : ((words1.drop 24).take 24).all (fun c => isCode c || c.before args0 about1) = true := by decide +kernel
set_option maxRecDepth 65536 in
theorem w_t3 : (((words1.drop 24).drop 24).take 24).all (fun c => isCode c || c.before args0 about1) = true := by decide +kernel
set_option maxRecDepth 65536 in
theorem w_t4 : ((((words1.drop 24).drop 24).drop 24).take 24).all (fun c => isCode c || c.before args0 about1) = true := by decide +kernel
set_option maxRecDepth 65536 in
theorem w_t5 : (((((words1.drop 24).drop 24).drop 24).drop 24).take 24).all (fun c => isCode c || c.before args0 about1) = true := by decide +kernel
set_option maxRecDepth 65536 in
theorem w_t6 : ((((((words1.drop 24).drop 24).drop 24).drop 24).drop 24).take 24).all (fun c => isCode c || c.before args0 about1) = true := by decide +kernel
set_option maxRecDepth 65536 in
theorem w_t7 : (((((((words1.drop 24).drop 24).drop 24).drop 24).drop 24).drop 24).take 24).all (fun c => isCode c || c.before args0 about1) = true := by decide +kernel
set_option maxRecDepth 65536 in
theorem w_t8 : (((((((words1.drop 24).drop 24).drop 24).drop 24).drop 24).drop 24).drop 24).all (fun c => isCode c || c.before args0 about1) = true := by decide +kernel
theorem w_tables : (allAtoms (Jvm.Cond.code x code maxLocals ret :: tables_1)).before args0 about1 = true := by
  rw [allAtoms_all]
  show words1.all (fun c => c.before args0 about1) = true
  refine all_split ?_ w_codes
  rw [← List.take_append_drop 24 words1, List.all_append, w_t1, ← List.take_append_drop 24 (words1.drop 24), List.all_append, w_t2, ← List.take_append_drop 24 ((words1.drop 24).drop 24), List.all_append, w_t3, ← List.take_append_drop 24 (((words1.drop 24).drop 24).drop 24), List.all_append, w_t4, ← List.take_append_drop 24 ((((words1.drop 24).drop 24).drop 24).drop 24), List.all_append, w_t5, ← List.take_append_drop 24 (((((words1.drop 24).drop 24).drop 24).drop 24).drop 24), List.all_append, w_t6, ← List.take_append_drop 24 ((((((words1.drop 24).drop 24).drop 24).drop 24).drop 24).drop 24), List.all_append, w_t7, w_t8]
  rfl
set_option maxRecDepth 65536 in
theorem w_rest : rest_1_c.before args0 about1 = true := by decide +kernel
set_option maxRecDepth 65536 in
theorem w_case : (Jvm.Cond.and given_1 narrow_1).before args0 about1 = true := by decide +kernel
theorem w_applies : (headSpec (Jvm.Cond.code x code maxLocals ret :: tables_1) room_1).applies x e0.platform about1 = true :=
  (Spec.applies_iff w_frames).mpr ⟨w_running, w_runnable, w_alone, w_named, w_hears, w_ripe, w_room, w_tables⟩
theorem atStart : AtStart classFile x code maxLocals ret World_1 tables_1 room_1 Calls_1 rest_1 Pre_1 launch0 p0 e0 about1 theMethod args0 below0 :=
  ⟨lists_1, trivial, launch0.admits_env _ _ _, launch0.least_env, fairChoices_fair.cas, fairChoices_fair.clock, w_frames, w_args, w_heap, w_applies, trivial, w_rest, w_case⟩
end start1
theorem witness_1 : WitnessClaimed_1 := ⟨start1.p0, start1.e0, start1.about1, start1.theMethod, start1.args0, start1.below0, start1.atStart⟩
end Jvm.Pilot.@@N@@
