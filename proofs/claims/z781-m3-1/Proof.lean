import JvmDerived
import JvmDerived.Pilot.@@N@@Statement
import JvmDerived.Pilot.@@N@@Code
set_option linter.unusedVariables false
set_option linter.unusedSimpArgs false
namespace Jvm.Pilot.@@N@@
open Jvm Jvm.ClassFile Sem Op Lib Jvm.Free Jvm.Stand Jvm.LawKit Jvm.RoadKit Bundle Jvm.Pilot.@@N@@.Jvm.D
section OwnLayer
variable {p : Program} {l : Launch} {e : Env} {R : Room} {s : State} {m : MethodId} {args : Array Value} {below : List Frame} {meth : Method} {c : Code} {Z : State} {a0 : Array Value} {n0 : Nat} {own nm : String} {bytes : ByteArray} {ml : Nat} {rt : Option FieldType} {Q : Option Value → Heap → Prop} {h : Heap} {cells slots pc pc' pcY : Nat} {Ls Ls' : Array Slot} {st st' : List Value}
def ushr (x y : Int32) : Int32 := (x.toUInt32 >>> (y &&& 31).toUInt32).toInt32
def ushrL (x : Int64) (y : Int32) : Int64 := (x.toUInt64 >>> (y &&& 0x3f).toInt64.toUInt64).toInt64
/-- what stays the same while a body is walked -/
def OCx (p : Program) (l : Launch) (e : Env) (R : Room) (s : State) (m : MethodId) (args : Array Value) (below : List Frame) (meth : Method) (c : Code) (Z : State) (own nm : String) (bytes : ByteArray) (ml : Nat) (rt : Option FieldType) : Prop :=
  p.tables.exec = Jvm.exec ∧ c.code = bytes ∧ c.maxLocals = ml ∧ meth.sig.returnType = rt ∧ meth.name = nm ∧ meth.locks = false ∧ s.vm.findClass own = some m.cls ∧ Z.Warmed39 s.vm
theorem OCx.ex (K : OCx p l e R s m args below meth c Z own nm bytes ml rt) : p.tables.exec = Jvm.exec := K.1
theorem OCx.by (K : OCx p l e R s m args below meth c Z own nm bytes ml rt) : c.code = bytes := K.2.1
theorem OCx.hml (K : OCx p l e R s m args below meth c Z own nm bytes ml rt) : c.maxLocals = ml := K.2.2.1
theorem OCx.hrt (K : OCx p l e R s m args below meth c Z own nm bytes ml rt) : meth.sig.returnType = rt := K.2.2.2.1
theorem OCx.hnm (K : OCx p l e R s m args below meth c Z own nm bytes ml rt) : meth.name = nm := K.2.2.2.2.1
theorem OCx.lk (K : OCx p l e R s m args below meth c Z own nm bytes ml rt) : meth.locks = false := K.2.2.2.2.2.1
theorem OCx.hown (K : OCx p l e R s m args below meth c Z own nm bytes ml rt) : s.vm.findClass own = some m.cls := K.2.2.2.2.2.2.1
theorem OCx.hZ (K : OCx p l e R s m args below meth c Z own nm bytes ml rt) : Z.Warmed39 s.vm := K.2.2.2.2.2.2.2
/-- from here the body ends as Q says -/
def OGo (p : Program) (l : Launch) (e : Env) (R : Room) (s : State) (m : MethodId) (args : Array Value) (below : List Frame) (meth : Method) (c : Code) (n0 : Nat) (Q : Option Value → Heap → Prop) (h : Heap) (cells slots pc : Nat) (Ls : Array Slot) (st : List Value) : Prop :=
  ∀ (T : State) (locs : List Loc) (k n : Nat), Stand p l e R s m args below meth c T locs k n → T.heap = h → Fr n0 locs → k ≤ cells → n ≤ slots →
    ∃ (s₂ : State) (v : Option Value) (L : List Loc), Steps p.tables e below (T.setTop (mkF m pc Ls st)) s₂ ∧ s₂.status = .running ∧ Ended s₂ below (.returned v) ∧ Q v s₂.heap ∧ Fr n0 L ∧ FrameEnd s (.returned v) s₂ L R.cells R.slots
abbrev OCon (l : Launch) (Z : State) (n0 : Nat) (y : MethodName) (bytes : ByteArray) (maxL : Nat) (ret : Option FieldType) (ws : List Jvm.Cond) (rm : Room) (as' : Array Value) (h0 : Heap) (Q : Option Value → Heap → Prop) : Prop :=
  MetFree l y (head1 (Jvm.Cond.code y bytes maxL ret :: ws) rm) (fun a U => a = as' ∧ Z.Warmed39 U.vm ∧ U.heap = h0) (fun _ _ _ _ _ => True) (fun _ U o U' => ∃ v L, o = .returned v ∧ (Q v U'.heap ∧ Fr n0 L) ∧ FrameEnd U o U' L rm.cells rm.slots)
def OV (P : Value → Heap → Prop) (v : Option Value) (h : Heap) : Prop := ∃ w, v = some w ∧ P w h
def ON (P : Heap → Prop) (v : Option Value) (h : Heap) : Prop := v = none ∧ P h
def own_lay : List Value → List Slot
  | [] => []
  | v :: vs => if v.category = 2 then .val v :: .second :: own_lay vs else .val v :: own_lay vs
theorem own_lay_fold (vs : List Value) (acc : Array Slot) : vs.foldl (fun acc v => if v.category = 2 then (acc.push (.val v)).push .second else acc.push (.val v)) acc = acc ++ (own_lay vs).toArray := by
  induction vs generalizing acc with
  | nil => simp [own_lay]
  | cons v vs ih =>
    rw [List.foldl_cons, ih]
    simp only [own_lay]
    split <;> simp
theorem own_entry (m : MethodId) {vs : List Value} {n : Nat} {L : List Slot} (h : own_lay vs ++ List.replicate (n - (own_lay vs).length) .unset = L) : entryFrame m vs.toArray n = mkF m 0 L.toArray [] := by
  unfold entryFrame mkF argsToLocals
  subst h
  simp [own_lay_fold]
theorem OCon.of {y : MethodName} {maxL : Nat} {ret : Option FieldType} {ws : List Jvm.Cond} {rm : Room} {as' : Array Value} {h0 : Heap} (hpl : plainFor y = true) (hf : ∀ m, entryFrame m as' maxL = mkF m 0 Ls [])
    (body : ∀ p e s m below meth c, OCx p l e rm s m as' below meth c Z y.cls y.name bytes maxL ret → OGo p l e rm s m as' below meth c n0 Q h0 0 0 0 Ls []) : OCon l Z n0 y bytes maxL ret ws rm as' h0 Q := by
  refine MetFree.of_bodySF hpl hisR ?_
  intro p e s m args below meth c s₁ Bd hml0 hP hK
  obtain ⟨rfl, hZ, hh⟩ := hP
  have X0 : Stand p l e rm s m _ below meth c s₁ [] 0 0 := Stand.of_body Bd
  have e0 : s₁.heap = h0 := by rw [← hh, Bd.state]; rfl
  obtain ⟨s₂, v, L, h1, h2, h3, h4, h5, h6⟩ := body p e s m below meth c ⟨Bd.exec, Bd.bytes, hml0, Bd.returns, (name_of_methodNamed Bd.named Bd.method).1, BodyLoose.notSynchronized Bd, findClass_of_methodNamed Bd.named, hZ⟩ s₁ [] 0 0 X0 e0 (Fr.nil n0) (Nat.le_refl _) (Nat.le_refl _)
  exact ⟨s₂, _, castTop (hf m) h1, h2, h3, v, L, rfl, ⟨h4, h5⟩, h6⟩
theorem OCon.mono {y : MethodName} {maxL : Nat} {ret : Option FieldType} {ws : List Jvm.Cond} {rm : Room} {as' : Array Value} {h0 : Heap} {Q' : Option Value → Heap → Prop} (H : OCon l Z n0 y bytes maxL ret ws rm as' h0 Q) (k : ∀ v h, Q v h → Q' v h) : OCon l Z n0 y bytes maxL ret ws rm as' h0 Q' := by
  intro p e ha hc hk s m args below hf happ hP hK
  obtain ⟨n, o, h1, h2, h3, v, L, h4, ⟨h5, h6⟩, h7⟩ := H p e ha hc hk s m args below hf happ hP hK
  exact ⟨n, o, h1, h2, h3, v, L, h4, ⟨k _ _ h5, h6⟩, h7⟩
theorem OGo.more {cells' slots' : Nat} (r : OGo p l e R s m args below meth c n0 Q h cells' slots' pc Ls st) (hc : cells ≤ cells') (hs : slots ≤ slots') : OGo p l e R s m args below meth c n0 Q h cells slots pc Ls st :=
  fun T locs k n X e0 N h1 h2 => r T locs k n X e0 N (Nat.le_trans h1 hc) (Nat.le_trans h2 hs)
theorem OGo.plain (hs : ∀ (T t : State), At T m c below → Steps p.tables e below (T.setTop (mkF m pc' Ls' st')) t → Steps p.tables e below (T.setTop (mkF m pc Ls st)) t) (r : OGo p l e R s m args below meth c n0 Q h cells slots pc' Ls' st') : OGo p l e R s m args below meth c n0 Q h cells slots pc Ls st := by
  intro T locs k n X e0 N h1 h2
  obtain ⟨s₂, v, L, g, r'⟩ := r T locs k n X e0 N h1 h2
  exact ⟨s₂, v, L, hs T s₂ X.here g, r'⟩
theorem OGo.same (hs : ∀ (T : State) (locs : List Loc) (k n : Nat), Stand p l e R s m args below meth c T locs k n → T.heap = h → ∃ T', Stand p l e R s m args below meth c T' locs k n ∧ T'.heap = h ∧ ∀ t, Steps p.tables e below (T'.setTop (mkF m pc' Ls' st')) t → Steps p.tables e below (T.setTop (mkF m pc Ls st)) t) (r : OGo p l e R s m args below meth c n0 Q h cells slots pc' Ls' st') : OGo p l e R s m args below meth c n0 Q h cells slots pc Ls st := by
  intro T locs k n X e0 N h1 h2
  obtain ⟨T', X', e', st'⟩ := hs T locs k n X e0
  obtain ⟨s₂, v, L, g, r'⟩ := r T' locs k n X' e' N h1 h2
  exact ⟨s₂, v, L, st' _ g, r'⟩
/-- a step that writes one place a -/
theorem OGo.write {a : Addr} {sl : Nat} {v : Value} (ga : n0 ≤ a) (hs : ∀ (T : State) (locs : List Loc) (k n : Nat), Stand p l e R s m args below meth c T locs k n → T.heap = h → ∃ T' h', Stand p l e R s m args below meth c T' (locs ++ [⟨a, sl⟩]) k n ∧ T'.heap = h' ∧ Wr h h' a sl v ∧ ∀ t, Steps p.tables e below (T'.setTop (mkF m pc' Ls' st')) t → Steps p.tables e below (T.setTop (mkF m pc Ls st)) t)
    (r : ∀ h', Wr h h' a sl v → OGo p l e R s m args below meth c n0 Q h' cells slots pc' Ls' st') : OGo p l e R s m args below meth c n0 Q h cells slots pc Ls st := by
  intro T locs k n X e0 N h1 h2
  obtain ⟨T', h', X', e', W, st'⟩ := hs T locs k n X e0
  obtain ⟨s₂, v, L, g, r'⟩ := r h' W T' _ k n X' e' (Fr.snoc X' N ga) h1 h2
  exact ⟨s₂, v, L, st' _ g, r'⟩
theorem OGo.leave {w : Option Value} (K : OCx p l e R s m args below meth c Z own nm bytes ml rt) (hv : rt = none → w = none) (hs : ∀ (T : State) (locs : List Loc) (k n : Nat) (fs : List Frame), Stand p l e R s m args below meth c T locs k n → (∀ (f : JFrame) (acts : List Action), f.method = m → f.locked = none → f.entered = [] → (doReturn e (T.setTop f) acts w).1 = T.setFrames fs) → Steps p.tables e below (T.setTop (mkF m pc Ls st)) (T.setFrames fs))
    (hc : cells ≤ R.cells) (hl : slots ≤ R.slots) (q : Q w h) : OGo p l e R s m args below meth c n0 Q h cells slots pc Ls st := by
  intro T locs k n X e0 N h1 h2
  obtain ⟨fs, hr, hrun, hended, hW, hsame⟩ := X.leave (v := w) (fun x => hv (K.hrt.symm.trans x)) K.lk
  refine ⟨_, w, locs, hs T locs k n fs X hr, hrun, hended, ?_, N, ⟨_, rfl⟩, hW, hsame.mono (Nat.le_trans h1 hc) (Nat.le_trans h2 hl)⟩
  show Q w T.heap
  rw [e0]; exact q
theorem OGo.ret {w : Value} {t : FieldType} {i : Instr} {rest : List Value} (K : OCx p l e R s m args below meth c Z own nm bytes ml (some t)) (hd : decode bytes pc = .ok (i, 1)) (hn : narrow t w = w)
    (hi : (i = .ireturn ∧ (t = .int ∨ t = .boolean ∨ t = .byte ∨ t = .char ∨ t = .short) ∧ ∃ z, w = .int z) ∨ (i = .lreturn ∧ t = .long ∧ ∃ z, w = .long z) ∨ (i = .dreturn ∧ t = .double ∧ ∃ z, w = .double z) ∨ (i = .freturn ∧ t = .float ∧ ∃ z, w = .float z) ∨ (i = .areturn ∧ t.isReference = true ∧ w.isRef = true))
    (hc : cells ≤ R.cells) (hl : slots ≤ R.slots) (q : Q (some w) h) : OGo p l e R s m args below meth c n0 Q h cells slots pc Ls (w :: rest) :=
  OGo.leave K (fun x => nomatch x) (fun T locs k n fs X hr => retOut X K.ex K.hrt hn hi (hb K.by hd) hr) hc hl q
theorem OGo.iret {z : Int32} {rest : List Value} (K : OCx p l e R s m args below meth c Z own nm bytes ml (some .int)) (hd : decode bytes pc = .ok (.ireturn, 1)) (hc : cells ≤ R.cells) (hl : slots ≤ R.slots) (q : Q (some (.int z)) h) : OGo p l e R s m args below meth c n0 Q h cells slots pc Ls (.int z :: rest) :=
  OGo.ret K hd rfl (Or.inl ⟨rfl, Or.inl rfl, z, rfl⟩) hc hl q
theorem OGo.nret {z : Int32} {t : FieldType} {rest : List Value} (K : OCx p l e R s m args below meth c Z own nm bytes ml (some t)) (ht : t = .boolean ∨ t = .byte ∨ t = .char ∨ t = .short) (hd : decode bytes pc = .ok (.ireturn, 1)) (hc : cells ≤ R.cells) (hl : slots ≤ R.slots) (q : Q (some (.int (nar t z))) h) : OGo p l e R s m args below meth c n0 Q h cells slots pc Ls (.int z :: rest) :=
  OGo.leave K (fun x => nomatch x) (fun T locs k n fs X hr => retN X K.ex K.hrt ht (hb K.by hd) hr) hc hl q
theorem OGo.lret {z : Int64} {rest : List Value} (K : OCx p l e R s m args below meth c Z own nm bytes ml (some .long)) (hd : decode bytes pc = .ok (.lreturn, 1)) (hc : cells ≤ R.cells) (hl : slots ≤ R.slots) (q : Q (some (.long z)) h) : OGo p l e R s m args below meth c n0 Q h cells slots pc Ls (.long z :: rest) :=
  OGo.ret K hd rfl (Or.inr (Or.inl ⟨rfl, rfl, z, rfl⟩)) hc hl q
theorem OGo.dret {z : UInt64} {rest : List Value} (K : OCx p l e R s m args below meth c Z own nm bytes ml (some .double)) (hd : decode bytes pc = .ok (.dreturn, 1)) (hc : cells ≤ R.cells) (hl : slots ≤ R.slots) (q : Q (some (.double z)) h) : OGo p l e R s m args below meth c n0 Q h cells slots pc Ls (.double z :: rest) :=
  OGo.ret K hd rfl (Or.inr (Or.inr (Or.inl ⟨rfl, rfl, z, rfl⟩))) hc hl q
theorem OGo.aret {w : Value} {t : FieldType} {rest : List Value} (K : OCx p l e R s m args below meth c Z own nm bytes ml (some t)) (hd : decode bytes pc = .ok (.areturn, 1)) (ht : t.isReference = true) (hw : w.isRef = true) (hc : cells ≤ R.cells) (hl : slots ≤ R.slots) (q : Q (some w) h) : OGo p l e R s m args below meth c n0 Q h cells slots pc Ls (w :: rest) :=
  OGo.ret K hd (by cases t <;> first | (cases ht; done) | (cases w <;> first | (cases hw; done) | rfl)) (Or.inr (Or.inr (Or.inr (Or.inr ⟨rfl, ht, hw⟩)))) hc hl q
theorem OGo.vret (K : OCx p l e R s m args below meth c Z own nm bytes ml none) (hd : decode bytes pc = .ok (.return_, 1)) (hc : cells ≤ R.cells) (hl : slots ≤ R.slots) (q : Q none h) : OGo p l e R s m args below meth c n0 Q h cells slots pc Ls [] :=
  OGo.leave K (fun _ => rfl) (fun T locs k n fs X hr => X.returnOut K.ex K.hrt (hb K.by hd) hr) hc hl q

theorem OGo.iload (K : OCx p l e R s m args below meth c Z own nm bytes ml rt) {k : Nat} {v : Int32} (hd : decode bytes pc = .ok (.iload k, 2)) (hp : pc + 2 = pc') (hl : Ls[k]? = some (.val (.int v))) (r : OGo p l e R s m args below meth c n0 Q h cells slots pc' Ls (.int v :: st)) : OGo p l e R s m args below meth c n0 Q h cells slots pc Ls st := by
  subst hp
  exact OGo.plain (fun T t hA q => XS.iload hA K.ex rfl (hb K.by hd) hl q) r
theorem OGo.iloadN (K : OCx p l e R s m args below meth c Z own nm bytes ml rt) {k : Fin 4} {v : Int32} (hd : decode bytes pc = .ok (.iload_n k, 1)) (hp : pc + 1 = pc') (hl : Ls[k.val]? = some (.val (.int v))) (r : OGo p l e R s m args below meth c n0 Q h cells slots pc' Ls (.int v :: st)) : OGo p l e R s m args below meth c n0 Q h cells slots pc Ls st := by
  subst hp
  exact OGo.plain (fun T t hA q => XS.iloadN hA K.ex rfl (hb K.by hd) hl q) r
theorem OGo.lload (K : OCx p l e R s m args below meth c Z own nm bytes ml rt) {k : Nat} {v : Int64} (hd : decode bytes pc = .ok (.lload k, 2)) (hp : pc + 2 = pc') (hl : Ls[k]? = some (.val (.long v))) (r : OGo p l e R s m args below meth c n0 Q h cells slots pc' Ls (.long v :: st)) : OGo p l e R s m args below meth c n0 Q h cells slots pc Ls st := by
  subst hp
  exact OGo.plain (fun T t hA q => XS.lload hA K.ex rfl (hb K.by hd) hl q) r
theorem OGo.lloadN (K : OCx p l e R s m args below meth c Z own nm bytes ml rt) {k : Fin 4} {v : Int64} (hd : decode bytes pc = .ok (.lload_n k, 1)) (hp : pc + 1 = pc') (hl : Ls[k.val]? = some (.val (.long v))) (r : OGo p l e R s m args below meth c n0 Q h cells slots pc' Ls (.long v :: st)) : OGo p l e R s m args below meth c n0 Q h cells slots pc Ls st := by
  subst hp
  exact OGo.plain (fun T t hA q => XS.lloadN hA K.ex rfl (hb K.by hd) hl q) r
theorem OGo.aload (K : OCx p l e R s m args below meth c Z own nm bytes ml rt) {k : Nat} {v : Value} (hd : decode bytes pc = .ok (.aload k, 2)) (hp : pc + 2 = pc') (hl : Ls[k]? = some (.val v)) (hv : v.isRef = true) (r : OGo p l e R s m args below meth c n0 Q h cells slots pc' Ls (v :: st)) : OGo p l e R s m args below meth c n0 Q h cells slots pc Ls st := by
  subst hp
  exact OGo.plain (fun T t hA q => XS.aload hA K.ex rfl (hb K.by hd) hl hv q) r
theorem OGo.aloadN (K : OCx p l e R s m args below meth c Z own nm bytes ml rt) {k : Fin 4} {v : Value} (hd : decode bytes pc = .ok (.aload_n k, 1)) (hp : pc + 1 = pc') (hl : Ls[k.val]? = some (.val v)) (hv : v.isRef = true) (r : OGo p l e R s m args below meth c n0 Q h cells slots pc' Ls (v :: st)) : OGo p l e R s m args below meth c n0 Q h cells slots pc Ls st := by
  subst hp
  exact OGo.plain (fun T t hA q => XS.aloadN hA K.ex rfl (hb K.by hd) hl hv q) r
theorem OGo.istore (K : OCx p l e R s m args below meth c Z own nm bytes ml rt) {k : Nat} {v : Int32} (hd : decode bytes pc = .ok (.istore k, 2)) (hp : pc + 2 = pc') (hl : storeLocals Ls k (.int v) = some Ls') (r : OGo p l e R s m args below meth c n0 Q h cells slots pc' Ls' st) : OGo p l e R s m args below meth c n0 Q h cells slots pc Ls (.int v :: st) := by
  subst hp
  exact OGo.plain (fun T t hA q => XS.istore hA K.ex rfl (hb K.by hd) rfl hl q) r
theorem OGo.istoreN (K : OCx p l e R s m args below meth c Z own nm bytes ml rt) {k : Fin 4} {v : Int32} (hd : decode bytes pc = .ok (.istore_n k, 1)) (hp : pc + 1 = pc') (hl : storeLocals Ls k.val (.int v) = some Ls') (r : OGo p l e R s m args below meth c n0 Q h cells slots pc' Ls' st) : OGo p l e R s m args below meth c n0 Q h cells slots pc Ls (.int v :: st) := by
  subst hp
  exact OGo.plain (fun T t hA q => XS.istoreN hA K.ex rfl (hb K.by hd) rfl hl q) r
theorem OGo.lstore (K : OCx p l e R s m args below meth c Z own nm bytes ml rt) {k : Nat} {v : Int64} (hd : decode bytes pc = .ok (.lstore k, 2)) (hp : pc + 2 = pc') (hl : storeLocals Ls k (.long v) = some Ls') (r : OGo p l e R s m args below meth c n0 Q h cells slots pc' Ls' st) : OGo p l e R s m args below meth c n0 Q h cells slots pc Ls (.long v :: st) := by
  subst hp
  exact OGo.plain (fun T t hA q => XS.lstore hA K.ex rfl (hb K.by hd) rfl hl q) r
theorem OGo.lstoreN (K : OCx p l e R s m args below meth c Z own nm bytes ml rt) {k : Fin 4} {v : Int64} (hd : decode bytes pc = .ok (.lstore_n k, 1)) (hp : pc + 1 = pc') (hl : storeLocals Ls k.val (.long v) = some Ls') (r : OGo p l e R s m args below meth c n0 Q h cells slots pc' Ls' st) : OGo p l e R s m args below meth c n0 Q h cells slots pc Ls (.long v :: st) := by
  subst hp
  exact OGo.plain (fun T t hA q => XS.lstoreN hA K.ex rfl (hb K.by hd) rfl hl q) r
theorem OGo.astore (K : OCx p l e R s m args below meth c Z own nm bytes ml rt) {k : Nat} {v : Value} (hd : decode bytes pc = .ok (.astore k, 2)) (hp : pc + 2 = pc') (hv : v.isRef = true) (hl : storeLocals Ls k v = some Ls') (r : OGo p l e R s m args below meth c n0 Q h cells slots pc' Ls' st) : OGo p l e R s m args below meth c n0 Q h cells slots pc Ls (v :: st) := by
  subst hp
  exact OGo.plain (fun T t hA q => XS.astore hA K.ex rfl (hb K.by hd) rfl hv hl q) r
theorem OGo.astoreN (K : OCx p l e R s m args below meth c Z own nm bytes ml rt) {k : Fin 4} {v : Value} (hd : decode bytes pc = .ok (.astore_n k, 1)) (hp : pc + 1 = pc') (hv : v.isRef = true) (hl : storeLocals Ls k.val v = some Ls') (r : OGo p l e R s m args below meth c n0 Q h cells slots pc' Ls' st) : OGo p l e R s m args below meth c n0 Q h cells slots pc Ls (v :: st) := by
  subst hp
  exact OGo.plain (fun T t hA q => XS.astoreN hA K.ex rfl (hb K.by hd) rfl hv hl q) r
theorem OGo.iconst (K : OCx p l e R s m args below meth c Z own nm bytes ml rt) {i : Int} {z : Int32} (hd : decode bytes pc = .ok (.iconst i, 1)) (hp : pc + 1 = pc') (hz : Int32.ofInt i = z) (r : OGo p l e R s m args below meth c n0 Q h cells slots pc' Ls (.int z :: st)) : OGo p l e R s m args below meth c n0 Q h cells slots pc Ls st := by
  subst hp
  exact OGo.plain (fun T t hA q => XS.iconst hA K.ex rfl (hb K.by hd) (by rw [hz]; exact q)) r
theorem OGo.bipush (K : OCx p l e R s m args below meth c Z own nm bytes ml rt) {i : Int} {z : Int32} (hd : decode bytes pc = .ok (.bipush i, 2)) (hp : pc + 2 = pc') (hz : (Int8.ofInt i).toInt32 = z) (r : OGo p l e R s m args below meth c n0 Q h cells slots pc' Ls (.int z :: st)) : OGo p l e R s m args below meth c n0 Q h cells slots pc Ls st := by
  subst hp
  exact OGo.plain (fun T t hA q => XS.bipush hA K.ex rfl (hb K.by hd) (by rw [hz]; exact q)) r
theorem OGo.sipush (K : OCx p l e R s m args below meth c Z own nm bytes ml rt) {i : Int} {z : Int32} (hd : decode bytes pc = .ok (.sipush i, 3)) (hp : pc + 3 = pc') (hz : (Int16.ofInt i).toInt32 = z) (r : OGo p l e R s m args below meth c n0 Q h cells slots pc' Ls (.int z :: st)) : OGo p l e R s m args below meth c n0 Q h cells slots pc Ls st := by
  subst hp
  exact OGo.plain (fun T t hA q => XS.sipush hA K.ex rfl (hb K.by hd) (by rw [hz]; exact q)) r
theorem OGo.lconst (K : OCx p l e R s m args below meth c Z own nm bytes ml rt) {i : Fin 2} {z : Int64} (hd : decode bytes pc = .ok (.lconst i, 1)) (hp : pc + 1 = pc') (hz : Int64.ofNat i = z) (r : OGo p l e R s m args below meth c n0 Q h cells slots pc' Ls (.long z :: st)) : OGo p l e R s m args below meth c n0 Q h cells slots pc Ls st := by
  subst hp
  exact OGo.plain (fun T t hA q => XS.lconst hA K.ex rfl (hb K.by hd) (by rw [hz]; exact q)) r
theorem OGo.aconstNull (K : OCx p l e R s m args below meth c Z own nm bytes ml rt) (hd : decode bytes pc = .ok (.aconst_null, 1)) (hp : pc + 1 = pc') (r : OGo p l e R s m args below meth c n0 Q h cells slots pc' Ls (.null :: st)) : OGo p l e R s m args below meth c n0 Q h cells slots pc Ls st := by
  subst hp
  exact OGo.plain (fun T t hA q => XS.aconstNull hA K.ex rfl (hb K.by hd) q) r
theorem OGo.iadd (K : OCx p l e R s m args below meth c Z own nm bytes ml rt) {x y : Int32} (hd : decode bytes pc = .ok (.iadd, 1)) (hp : pc + 1 = pc') (r : OGo p l e R s m args below meth c n0 Q h cells slots pc' Ls (.int (x + y) :: st)) : OGo p l e R s m args below meth c n0 Q h cells slots pc Ls (.int y :: .int x :: st) := by
  subst hp
  exact OGo.plain (fun T t hA q => XS.iadd hA K.ex rfl (hb K.by hd) rfl q) r
theorem OGo.isub (K : OCx p l e R s m args below meth c Z own nm bytes ml rt) {x y : Int32} (hd : decode bytes pc = .ok (.isub, 1)) (hp : pc + 1 = pc') (r : OGo p l e R s m args below meth c n0 Q h cells slots pc' Ls (.int (x - y) :: st)) : OGo p l e R s m args below meth c n0 Q h cells slots pc Ls (.int y :: .int x :: st) := by
  subst hp
  exact OGo.plain (fun T t hA q => XS.isub hA K.ex rfl (hb K.by hd) rfl q) r
theorem OGo.imul (K : OCx p l e R s m args below meth c Z own nm bytes ml rt) {x y : Int32} (hd : decode bytes pc = .ok (.imul, 1)) (hp : pc + 1 = pc') (r : OGo p l e R s m args below meth c n0 Q h cells slots pc' Ls (.int (x * y) :: st)) : OGo p l e R s m args below meth c n0 Q h cells slots pc Ls (.int y :: .int x :: st) := by
  subst hp
  exact OGo.plain (fun T t hA q => XS.imul hA K.ex rfl (hb K.by hd) rfl q) r
theorem OGo.iand (K : OCx p l e R s m args below meth c Z own nm bytes ml rt) {x y : Int32} (hd : decode bytes pc = .ok (.iand, 1)) (hp : pc + 1 = pc') (r : OGo p l e R s m args below meth c n0 Q h cells slots pc' Ls (.int (x &&& y) :: st)) : OGo p l e R s m args below meth c n0 Q h cells slots pc Ls (.int y :: .int x :: st) := by
  subst hp
  exact OGo.plain (fun T t hA q => XS.iand hA K.ex rfl (hb K.by hd) rfl q) r
theorem OGo.ior (K : OCx p l e R s m args below meth c Z own nm bytes ml rt) {x y : Int32} (hd : decode bytes pc = .ok (.ior, 1)) (hp : pc + 1 = pc') (r : OGo p l e R s m args below meth c n0 Q h cells slots pc' Ls (.int (x ||| y) :: st)) : OGo p l e R s m args below meth c n0 Q h cells slots pc Ls (.int y :: .int x :: st) := by
  subst hp
  exact OGo.plain (fun T t hA q => XS.ior hA K.ex rfl (hb K.by hd) rfl q) r
theorem OGo.ixor (K : OCx p l e R s m args below meth c Z own nm bytes ml rt) {x y : Int32} (hd : decode bytes pc = .ok (.ixor, 1)) (hp : pc + 1 = pc') (r : OGo p l e R s m args below meth c n0 Q h cells slots pc' Ls (.int (x ^^^ y) :: st)) : OGo p l e R s m args below meth c n0 Q h cells slots pc Ls (.int y :: .int x :: st) := by
  subst hp
  exact OGo.plain (fun T t hA q => XS.ixor hA K.ex rfl (hb K.by hd) rfl q) r
theorem OGo.ladd (K : OCx p l e R s m args below meth c Z own nm bytes ml rt) {x y : Int64} (hd : decode bytes pc = .ok (.ladd, 1)) (hp : pc + 1 = pc') (r : OGo p l e R s m args below meth c n0 Q h cells slots pc' Ls (.long (x + y) :: st)) : OGo p l e R s m args below meth c n0 Q h cells slots pc Ls (.long y :: .long x :: st) := by
  subst hp
  exact OGo.plain (fun T t hA q => XS.ladd hA K.ex rfl (hb K.by hd) rfl q) r
theorem OGo.lsub (K : OCx p l e R s m args below meth c Z own nm bytes ml rt) {x y : Int64} (hd : decode bytes pc = .ok (.lsub, 1)) (hp : pc + 1 = pc') (r : OGo p l e R s m args below meth c n0 Q h cells slots pc' Ls (.long (x - y) :: st)) : OGo p l e R s m args below meth c n0 Q h cells slots pc Ls (.long y :: .long x :: st) := by
  subst hp
  exact OGo.plain (fun T t hA q => XS.lsub hA K.ex rfl (hb K.by hd) rfl q) r
theorem OGo.lmul (K : OCx p l e R s m args below meth c Z own nm bytes ml rt) {x y : Int64} (hd : decode bytes pc = .ok (.lmul, 1)) (hp : pc + 1 = pc') (r : OGo p l e R s m args below meth c n0 Q h cells slots pc' Ls (.long (x * y) :: st)) : OGo p l e R s m args below meth c n0 Q h cells slots pc Ls (.long y :: .long x :: st) := by
  subst hp
  exact OGo.plain (fun T t hA q => XS.lmul hA K.ex rfl (hb K.by hd) rfl q) r
theorem OGo.land (K : OCx p l e R s m args below meth c Z own nm bytes ml rt) {x y : Int64} (hd : decode bytes pc = .ok (.land, 1)) (hp : pc + 1 = pc') (r : OGo p l e R s m args below meth c n0 Q h cells slots pc' Ls (.long (x &&& y) :: st)) : OGo p l e R s m args below meth c n0 Q h cells slots pc Ls (.long y :: .long x :: st) := by
  subst hp
  exact OGo.plain (fun T t hA q => XS.land hA K.ex rfl (hb K.by hd) rfl q) r
theorem OGo.lor (K : OCx p l e R s m args below meth c Z own nm bytes ml rt) {x y : Int64} (hd : decode bytes pc = .ok (.lor, 1)) (hp : pc + 1 = pc') (r : OGo p l e R s m args below meth c n0 Q h cells slots pc' Ls (.long (x ||| y) :: st)) : OGo p l e R s m args below meth c n0 Q h cells slots pc Ls (.long y :: .long x :: st) := by
  subst hp
  exact OGo.plain (fun T t hA q => XS.lor hA K.ex rfl (hb K.by hd) rfl q) r
theorem OGo.lxor (K : OCx p l e R s m args below meth c Z own nm bytes ml rt) {x y : Int64} (hd : decode bytes pc = .ok (.lxor, 1)) (hp : pc + 1 = pc') (r : OGo p l e R s m args below meth c n0 Q h cells slots pc' Ls (.long (x ^^^ y) :: st)) : OGo p l e R s m args below meth c n0 Q h cells slots pc Ls (.long y :: .long x :: st) := by
  subst hp
  exact OGo.plain (fun T t hA q => XS.lxor hA K.ex rfl (hb K.by hd) rfl q) r
theorem OGo.ishl (K : OCx p l e R s m args below meth c Z own nm bytes ml rt) {x y : Int32} (hd : decode bytes pc = .ok (.ishl, 1)) (hp : pc + 1 = pc') (r : OGo p l e R s m args below meth c n0 Q h cells slots pc' Ls (.int (x <<< (y &&& 31)) :: st)) : OGo p l e R s m args below meth c n0 Q h cells slots pc Ls (.int y :: .int x :: st) := by
  subst hp
  exact OGo.plain (fun T t hA q => XS.ishl hA K.ex rfl (hb K.by hd) rfl q) r
theorem OGo.ishr (K : OCx p l e R s m args below meth c Z own nm bytes ml rt) {x y : Int32} (hd : decode bytes pc = .ok (.ishr, 1)) (hp : pc + 1 = pc') (r : OGo p l e R s m args below meth c n0 Q h cells slots pc' Ls (.int (x >>> (y &&& 31)) :: st)) : OGo p l e R s m args below meth c n0 Q h cells slots pc Ls (.int y :: .int x :: st) := by
  subst hp
  exact OGo.plain (fun T t hA q => XS.ishr hA K.ex rfl (hb K.by hd) rfl q) r
theorem OGo.iushr (K : OCx p l e R s m args below meth c Z own nm bytes ml rt) {x y : Int32} (hd : decode bytes pc = .ok (.iushr, 1)) (hp : pc + 1 = pc') (r : OGo p l e R s m args below meth c n0 Q h cells slots pc' Ls (.int (ushr x y) :: st)) : OGo p l e R s m args below meth c n0 Q h cells slots pc Ls (.int y :: .int x :: st) := by
  subst hp
  exact OGo.plain (fun T t hA q => XS.iushr hA K.ex rfl (hb K.by hd) rfl q) r
theorem OGo.lshl (K : OCx p l e R s m args below meth c Z own nm bytes ml rt) {x : Int64} {y : Int32} (hd : decode bytes pc = .ok (.lshl, 1)) (hp : pc + 1 = pc') (r : OGo p l e R s m args below meth c n0 Q h cells slots pc' Ls (.long (x <<< (y &&& 63).toInt64) :: st)) : OGo p l e R s m args below meth c n0 Q h cells slots pc Ls (.int y :: .long x :: st) := by
  subst hp
  exact OGo.plain (fun T t hA q => XS.lshl hA K.ex rfl (hb K.by hd) rfl q) r
theorem OGo.lshr (K : OCx p l e R s m args below meth c Z own nm bytes ml rt) {x : Int64} {y : Int32} (hd : decode bytes pc = .ok (.lshr, 1)) (hp : pc + 1 = pc') (r : OGo p l e R s m args below meth c n0 Q h cells slots pc' Ls (.long (x >>> (y &&& 63).toInt64) :: st)) : OGo p l e R s m args below meth c n0 Q h cells slots pc Ls (.int y :: .long x :: st) := by
  subst hp
  exact OGo.plain (fun T t hA q => XS.lshr hA K.ex rfl (hb K.by hd) rfl q) r
theorem OGo.lushr (K : OCx p l e R s m args below meth c Z own nm bytes ml rt) {x : Int64} {y : Int32} (hd : decode bytes pc = .ok (.lushr, 1)) (hp : pc + 1 = pc') (r : OGo p l e R s m args below meth c n0 Q h cells slots pc' Ls (.long (ushrL x y) :: st)) : OGo p l e R s m args below meth c n0 Q h cells slots pc Ls (.int y :: .long x :: st) := by
  subst hp
  exact OGo.plain (fun T t hA q => XS.lushr hA K.ex rfl (hb K.by hd) rfl q) r
theorem OGo.idiv (K : OCx p l e R s m args below meth c Z own nm bytes ml rt) {x y : Int32} (hd : decode bytes pc = .ok (.idiv, 1)) (hp : pc + 1 = pc') (hy : y ≠ 0) (r : OGo p l e R s m args below meth c n0 Q h cells slots pc' Ls (.int (x / y) :: st)) : OGo p l e R s m args below meth c n0 Q h cells slots pc Ls (.int y :: .int x :: st) := by
  subst hp
  exact OGo.plain (fun T t hA q => XS.idiv hA K.ex rfl (hb K.by hd) rfl hy q) r
theorem OGo.irem (K : OCx p l e R s m args below meth c Z own nm bytes ml rt) {x y : Int32} (hd : decode bytes pc = .ok (.irem, 1)) (hp : pc + 1 = pc') (hy : y ≠ 0) (r : OGo p l e R s m args below meth c n0 Q h cells slots pc' Ls (.int (x % y) :: st)) : OGo p l e R s m args below meth c n0 Q h cells slots pc Ls (.int y :: .int x :: st) := by
  subst hp
  exact OGo.plain (fun T t hA q => XS.irem hA K.ex rfl (hb K.by hd) rfl hy (by rw [show x - x / y * y = x % y from irem_eq_mod x y]; exact q)) r
theorem OGo.ldiv (K : OCx p l e R s m args below meth c Z own nm bytes ml rt) {x y : Int64} (hd : decode bytes pc = .ok (.ldiv, 1)) (hp : pc + 1 = pc') (hy : y ≠ 0) (r : OGo p l e R s m args below meth c n0 Q h cells slots pc' Ls (.long (x / y) :: st)) : OGo p l e R s m args below meth c n0 Q h cells slots pc Ls (.long y :: .long x :: st) := by
  subst hp
  exact OGo.plain (fun T t hA q => XS.ldiv hA K.ex rfl (hb K.by hd) rfl hy q) r
theorem OGo.lrem (K : OCx p l e R s m args below meth c Z own nm bytes ml rt) {x y : Int64} (hd : decode bytes pc = .ok (.lrem, 1)) (hp : pc + 1 = pc') (hy : y ≠ 0) (r : OGo p l e R s m args below meth c n0 Q h cells slots pc' Ls (.long (x - (x / y) * y) :: st)) : OGo p l e R s m args below meth c n0 Q h cells slots pc Ls (.long y :: .long x :: st) := by
  subst hp
  exact OGo.plain (fun T t hA q => XS.lrem hA K.ex rfl (hb K.by hd) rfl hy q) r
theorem OGo.ineg (K : OCx p l e R s m args below meth c Z own nm bytes ml rt) {x : Int32} (hd : decode bytes pc = .ok (.ineg, 1)) (hp : pc + 1 = pc') (r : OGo p l e R s m args below meth c n0 Q h cells slots pc' Ls (.int (-x) :: st)) : OGo p l e R s m args below meth c n0 Q h cells slots pc Ls (.int x :: st) := by
  subst hp
  exact OGo.plain (fun T t hA q => XS.ineg hA K.ex rfl (hb K.by hd) rfl q) r
theorem OGo.lneg (K : OCx p l e R s m args below meth c Z own nm bytes ml rt) {x : Int64} (hd : decode bytes pc = .ok (.lneg, 1)) (hp : pc + 1 = pc') (r : OGo p l e R s m args below meth c n0 Q h cells slots pc' Ls (.long (-x) :: st)) : OGo p l e R s m args below meth c n0 Q h cells slots pc Ls (.long x :: st) := by
  subst hp
  exact OGo.plain (fun T t hA q => XS.lneg hA K.ex rfl (hb K.by hd) rfl q) r
theorem OGo.i2l (K : OCx p l e R s m args below meth c Z own nm bytes ml rt) {x : Int32} (hd : decode bytes pc = .ok (.i2l, 1)) (hp : pc + 1 = pc') (r : OGo p l e R s m args below meth c n0 Q h cells slots pc' Ls (.long x.toInt64 :: st)) : OGo p l e R s m args below meth c n0 Q h cells slots pc Ls (.int x :: st) := by
  subst hp
  exact OGo.plain (fun T t hA q => XS.i2l hA K.ex rfl (hb K.by hd) rfl q) r
theorem OGo.l2i (K : OCx p l e R s m args below meth c Z own nm bytes ml rt) {x : Int64} (hd : decode bytes pc = .ok (.l2i, 1)) (hp : pc + 1 = pc') (r : OGo p l e R s m args below meth c n0 Q h cells slots pc' Ls (.int x.toInt32 :: st)) : OGo p l e R s m args below meth c n0 Q h cells slots pc Ls (.long x :: st) := by
  subst hp
  exact OGo.plain (fun T t hA q => XS.l2i hA K.ex rfl (hb K.by hd) rfl q) r
theorem OGo.i2b (K : OCx p l e R s m args below meth c Z own nm bytes ml rt) {x : Int32} (hd : decode bytes pc = .ok (.i2b, 1)) (hp : pc + 1 = pc') (r : OGo p l e R s m args below meth c n0 Q h cells slots pc' Ls (.int x.toInt8.toInt32 :: st)) : OGo p l e R s m args below meth c n0 Q h cells slots pc Ls (.int x :: st) := by
  subst hp
  exact OGo.plain (fun T t hA q => XS.i2b hA K.ex rfl (hb K.by hd) rfl q) r
theorem OGo.i2s (K : OCx p l e R s m args below meth c Z own nm bytes ml rt) {x : Int32} (hd : decode bytes pc = .ok (.i2s, 1)) (hp : pc + 1 = pc') (r : OGo p l e R s m args below meth c n0 Q h cells slots pc' Ls (.int x.toInt16.toInt32 :: st)) : OGo p l e R s m args below meth c n0 Q h cells slots pc Ls (.int x :: st) := by
  subst hp
  exact OGo.plain (fun T t hA q => XS.i2s hA K.ex rfl (hb K.by hd) rfl q) r
theorem OGo.i2c (K : OCx p l e R s m args below meth c Z own nm bytes ml rt) {x : Int32} (hd : decode bytes pc = .ok (.i2c, 1)) (hp : pc + 1 = pc') (r : OGo p l e R s m args below meth c n0 Q h cells slots pc' Ls (.int x.toUInt32.toUInt16.toUInt32.toInt32 :: st)) : OGo p l e R s m args below meth c n0 Q h cells slots pc Ls (.int x :: st) := by
  subst hp
  exact OGo.plain (fun T t hA q => XS.i2c hA K.ex rfl (hb K.by hd) rfl q) r
theorem OGo.iinc (K : OCx p l e R s m args below meth c Z own nm bytes ml rt) {k : Nat} {i : Int} {x z : Int32} (hd : decode bytes pc = .ok (.iinc k i, 3)) (hp : pc + 3 = pc') (hl : Ls[k]? = some (.val (.int x))) (hz : Int32.ofInt i = z) (hl' : storeLocals Ls k (.int (x + z)) = some Ls') (r : OGo p l e R s m args below meth c n0 Q h cells slots pc' Ls' st) : OGo p l e R s m args below meth c n0 Q h cells slots pc Ls st := by
  subst hp
  exact OGo.plain (fun T t hA q => XS.iinc hA K.ex rfl (hb K.by hd) hl (by rw [hz]; exact hl') q) r
theorem OGo.dup (K : OCx p l e R s m args below meth c Z own nm bytes ml rt) {v : Value} (hd : decode bytes pc = .ok (.dup, 1)) (hp : pc + 1 = pc') (hc : v.category = 1) (r : OGo p l e R s m args below meth c n0 Q h cells slots pc' Ls (v :: v :: st)) : OGo p l e R s m args below meth c n0 Q h cells slots pc Ls (v :: st) := by
  subst hp
  exact OGo.plain (fun T t hA q => XS.dup hA K.ex rfl (hb K.by hd) rfl hc q) r
theorem OGo.pop (K : OCx p l e R s m args below meth c Z own nm bytes ml rt) {v : Value} (hd : decode bytes pc = .ok (.pop, 1)) (hp : pc + 1 = pc') (hc : v.category = 1) (r : OGo p l e R s m args below meth c n0 Q h cells slots pc' Ls st) : OGo p l e R s m args below meth c n0 Q h cells slots pc Ls (v :: st) := by
  subst hp
  exact OGo.plain (fun T t hA q => XS.pop hA K.ex rfl (hb K.by hd) rfl hc q) r
theorem OGo.dupX1 (K : OCx p l e R s m args below meth c Z own nm bytes ml rt) {v w : Value} (hd : decode bytes pc = .ok (.dup_x1, 1)) (hp : pc + 1 = pc') (hc : v.category = 1) (hc' : w.category = 1) (r : OGo p l e R s m args below meth c n0 Q h cells slots pc' Ls (v :: w :: v :: st)) : OGo p l e R s m args below meth c n0 Q h cells slots pc Ls (v :: w :: st) := by
  subst hp
  exact OGo.plain (fun T t hA q => XS.dupX1 hA K.ex rfl (hb K.by hd) rfl hc hc' q) r
theorem OGo.dup2 (K : OCx p l e R s m args below meth c Z own nm bytes ml rt) {v w : Value} (hd : decode bytes pc = .ok (.dup2, 1)) (hp : pc + 1 = pc') (hc : v.category = 1) (hc' : w.category = 1) (r : OGo p l e R s m args below meth c n0 Q h cells slots pc' Ls (v :: w :: v :: w :: st)) : OGo p l e R s m args below meth c n0 Q h cells slots pc Ls (v :: w :: st) := by
  subst hp
  exact OGo.plain (fun T t hA q => XT.dup2 hA K.ex rfl (hb K.by hd) rfl hc hc' q) r
theorem OGo.dup2L (K : OCx p l e R s m args below meth c Z own nm bytes ml rt) {x : Int64} (hd : decode bytes pc = .ok (.dup2, 1)) (hp : pc + 1 = pc') (r : OGo p l e R s m args below meth c n0 Q h cells slots pc' Ls (.long x :: .long x :: st)) : OGo p l e R s m args below meth c n0 Q h cells slots pc Ls (.long x :: st) := by
  subst hp
  exact OGo.plain (fun T t hA q => XT.dup2L hA K.ex rfl (hb K.by hd) rfl q) r
theorem OGo.lcmp (K : OCx p l e R s m args below meth c Z own nm bytes ml rt) {x y : Int64} (hd : decode bytes pc = .ok (.lcmp, 1)) (hp : pc + 1 = pc') (r : OGo p l e R s m args below meth c n0 Q h cells slots pc' Ls (.int (lcmpW x y) :: st)) : OGo p l e R s m args below meth c n0 Q h cells slots pc Ls (.long y :: .long x :: st) := by
  subst hp
  exact OGo.plain (fun T t hA q => XS.lcmp hA K.ex rfl (hb K.by hd) rfl q) r
theorem OGo.dload (K : OCx p l e R s m args below meth c Z own nm bytes ml rt) {k : Nat} {v : UInt64} (hd : decode bytes pc = .ok (.dload k, 2)) (hp : pc + 2 = pc') (hl : Ls[k]? = some (.val (.double v))) (r : OGo p l e R s m args below meth c n0 Q h cells slots pc' Ls (.double v :: st)) : OGo p l e R s m args below meth c n0 Q h cells slots pc Ls st := by
  subst hp
  exact OGo.plain (fun T t hA q => XS.dload hA K.ex rfl (hb K.by hd) hl q) r
theorem OGo.dloadN (K : OCx p l e R s m args below meth c Z own nm bytes ml rt) {k : Fin 4} {v : UInt64} (hd : decode bytes pc = .ok (.dload_n k, 1)) (hp : pc + 1 = pc') (hl : Ls[k.val]? = some (.val (.double v))) (r : OGo p l e R s m args below meth c n0 Q h cells slots pc' Ls (.double v :: st)) : OGo p l e R s m args below meth c n0 Q h cells slots pc Ls st := by
  subst hp
  exact OGo.plain (fun T t hA q => XS.dloadN hA K.ex rfl (hb K.by hd) hl q) r
theorem OGo.dstore (K : OCx p l e R s m args below meth c Z own nm bytes ml rt) {k : Nat} {v : UInt64} (hd : decode bytes pc = .ok (.dstore k, 2)) (hp : pc + 2 = pc') (hl : storeLocals Ls k (.double v) = some Ls') (r : OGo p l e R s m args below meth c n0 Q h cells slots pc' Ls' st) : OGo p l e R s m args below meth c n0 Q h cells slots pc Ls (.double v :: st) := by
  subst hp
  exact OGo.plain (fun T t hA q => XS.dstore hA K.ex rfl (hb K.by hd) rfl hl q) r
theorem OGo.dstoreN (K : OCx p l e R s m args below meth c Z own nm bytes ml rt) {k : Fin 4} {v : UInt64} (hd : decode bytes pc = .ok (.dstore_n k, 1)) (hp : pc + 1 = pc') (hl : storeLocals Ls k.val (.double v) = some Ls') (r : OGo p l e R s m args below meth c n0 Q h cells slots pc' Ls' st) : OGo p l e R s m args below meth c n0 Q h cells slots pc Ls (.double v :: st) := by
  subst hp
  exact OGo.plain (fun T t hA q => XS.dstoreN hA K.ex rfl (hb K.by hd) rfl hl q) r
theorem OGo.dconst0 (K : OCx p l e R s m args below meth c Z own nm bytes ml rt) {z : UInt64} (hd : decode bytes pc = .ok (.dconst 0, 1)) (hp : pc + 1 = pc') (hz : FP.dconst0 = z) (r : OGo p l e R s m args below meth c n0 Q h cells slots pc' Ls (.double z :: st)) : OGo p l e R s m args below meth c n0 Q h cells slots pc Ls st := by
  subst hp
  exact OGo.plain (fun T t hA q => XS.dconst0 hA K.ex rfl (hb K.by hd) hz q) r
theorem OGo.dconst1 (K : OCx p l e R s m args below meth c Z own nm bytes ml rt) {z : UInt64} (hd : decode bytes pc = .ok (.dconst 1, 1)) (hp : pc + 1 = pc') (hz : FP.dconst1 = z) (r : OGo p l e R s m args below meth c n0 Q h cells slots pc' Ls (.double z :: st)) : OGo p l e R s m args below meth c n0 Q h cells slots pc Ls st := by
  subst hp
  exact OGo.plain (fun T t hA q => XS.dconst1 hA K.ex rfl (hb K.by hd) hz q) r
theorem OGo.i2d (K : OCx p l e R s m args below meth c Z own nm bytes ml rt) {x : Int32} (hd : decode bytes pc = .ok (.i2d, 1)) (hp : pc + 1 = pc') (r : OGo p l e R s m args below meth c n0 Q h cells slots pc' Ls (.double (FP.i2d x) :: st)) : OGo p l e R s m args below meth c n0 Q h cells slots pc Ls (.int x :: st) := by
  subst hp
  exact OGo.plain (fun T t hA q => XS.i2dS hA K.ex rfl (hb K.by hd) rfl rfl q) r
theorem OGo.dadd (K : OCx p l e R s m args below meth c Z own nm bytes ml rt) {x y z : UInt64} (hd : decode bytes pc = .ok (.dadd, 1)) (hp : pc + 1 = pc') (hn : Jvm.Free.Fl.NoNaN64 (FP.dadd x y)) (hz : FP.dadd x y = z) (r : OGo p l e R s m args below meth c n0 Q h cells slots pc' Ls (.double z :: st)) : OGo p l e R s m args below meth c n0 Q h cells slots pc Ls (.double y :: .double x :: st) := by
  subst hp
  exact OGo.plain (fun T t hA q => XS.daddS hA K.ex rfl (hb K.by hd) rfl hn hz q) r
theorem OGo.dsub (K : OCx p l e R s m args below meth c Z own nm bytes ml rt) {x y z : UInt64} (hd : decode bytes pc = .ok (.dsub, 1)) (hp : pc + 1 = pc') (hn : Jvm.Free.Fl.NoNaN64 (FP.dsub x y)) (hz : FP.dsub x y = z) (r : OGo p l e R s m args below meth c n0 Q h cells slots pc' Ls (.double z :: st)) : OGo p l e R s m args below meth c n0 Q h cells slots pc Ls (.double y :: .double x :: st) := by
  subst hp
  exact OGo.plain (fun T t hA q => XS.dsubS hA K.ex rfl (hb K.by hd) rfl hn hz q) r
theorem OGo.dmul (K : OCx p l e R s m args below meth c Z own nm bytes ml rt) {x y z : UInt64} (hd : decode bytes pc = .ok (.dmul, 1)) (hp : pc + 1 = pc') (hn : Jvm.Free.Fl.NoNaN64 (FP.dmul x y)) (hz : FP.dmul x y = z) (r : OGo p l e R s m args below meth c n0 Q h cells slots pc' Ls (.double z :: st)) : OGo p l e R s m args below meth c n0 Q h cells slots pc Ls (.double y :: .double x :: st) := by
  subst hp
  exact OGo.plain (fun T t hA q => XS.dmulS hA K.ex rfl (hb K.by hd) rfl hn hz q) r
theorem OGo.ddiv (K : OCx p l e R s m args below meth c Z own nm bytes ml rt) {x y z : UInt64} (hd : decode bytes pc = .ok (.ddiv, 1)) (hp : pc + 1 = pc') (hn : Jvm.Free.Fl.NoNaN64 (FP.ddiv x y)) (hz : FP.ddiv x y = z) (r : OGo p l e R s m args below meth c n0 Q h cells slots pc' Ls (.double z :: st)) : OGo p l e R s m args below meth c n0 Q h cells slots pc Ls (.double y :: .double x :: st) := by
  subst hp
  exact OGo.plain (fun T t hA q => XS.ddivS hA K.ex rfl (hb K.by hd) rfl hn hz q) r
theorem OGo.dcmp (K : OCx p l e R s m args below meth c Z own nm bytes ml rt) {o : CmpOp} {x y : UInt64} {z : Int32} (hd : decode bytes pc = .ok (.dcmp o, 1)) (hp : pc + 1 = pc') (hz : cmpValue (FP.dcmp x y) o = z) (r : OGo p l e R s m args below meth c n0 Q h cells slots pc' Ls (.int z :: st)) : OGo p l e R s m args below meth c n0 Q h cells slots pc Ls (.double y :: .double x :: st) := by
  subst hp
  exact OGo.plain (fun T t hA q => XS.dcmpS hA K.ex rfl (hb K.by hd) rfl hz q) r
theorem OGo.goto (K : OCx p l e R s m args below meth c Z own nm bytes ml rt) {o : Int} (hd : decode bytes pc = .ok (.goto o, 3)) (ho : 0 ≤ (pc : Int) + o) (hp : ((pc : Int) + o).toNat = pc') (r : OGo p l e R s m args below meth c n0 Q h cells slots pc' Ls st) : OGo p l e R s m args below meth c n0 Q h cells slots pc Ls st :=
  OGo.plain (fun T t hA q => XS.goto hA K.ex rfl rfl (hb K.by hd) ho hp q) r
theorem OGo.icmp (K : OCx p l e R s m args below meth c Z own nm bytes ml rt) {cd : ClassFile.Cond} {o : Int} {x y : Int32} (hd : decode bytes pc = .ok (.if_icmp cd o, 3)) (hp : pc + 3 = pc') (ho : 0 ≤ (pc : Int) + o) (hq : ((pc : Int) + o).toNat = pcY) (ry : if_icmp.holds cd x y = true → OGo p l e R s m args below meth c n0 Q h cells slots pcY Ls st) (rn : if_icmp.holds cd x y = false → OGo p l e R s m args below meth c n0 Q h cells slots pc' Ls st) : OGo p l e R s m args below meth c n0 Q h cells slots pc Ls (.int y :: .int x :: st) := by
  subst hp
  cases hc : if_icmp.holds cd x y
  · exact OGo.plain (fun T t hA q => XS.icmpNo hA K.ex rfl (hb K.by hd) rfl hc q) (rn hc)
  · exact OGo.plain (fun T t hA q => XS.icmpYes hA K.ex rfl rfl (hb K.by hd) rfl hc ho hq q) (ry hc)
theorem OGo.ifc (K : OCx p l e R s m args below meth c Z own nm bytes ml rt) {cd : ClassFile.Cond} {o : Int} {x : Int32} (hd : decode bytes pc = .ok (.ifCond cd o, 3)) (hp : pc + 3 = pc') (ho : 0 ≤ (pc : Int) + o) (hq : ((pc : Int) + o).toNat = pcY) (ry : if_icmp.holds cd x 0 = true → OGo p l e R s m args below meth c n0 Q h cells slots pcY Ls st) (rn : if_icmp.holds cd x 0 = false → OGo p l e R s m args below meth c n0 Q h cells slots pc' Ls st) : OGo p l e R s m args below meth c n0 Q h cells slots pc Ls (.int x :: st) := by
  subst hp
  cases hc : if_icmp.holds cd x 0
  · exact OGo.plain (fun T t hA q => XS.ifNo hA K.ex rfl (hb K.by hd) rfl ((if0 _ _).trans hc) q) (rn hc)
  · exact OGo.plain (fun T t hA q => XS.ifYes hA K.ex rfl rfl (hb K.by hd) rfl ((if0 _ _).trans hc) ho hq q) (ry hc)
theorem own_holds {cd : ClassFile.Cond} {x y : Int32} {b : Bool} (q : if_icmp.holds cd x y = b) : match cd with | .eq => (x = y) = (b = true) | .ne => (¬ x = y) = (b = true) | .lt => (x < y) = (b = true) | .ge => (¬ x < y) = (b = true) | .gt => (y < x) = (b = true) | .le => (¬ y < x) = (b = true) := by
  subst q
  cases cd
  all_goals simp only [eq_iff_iff]
  · constructor
    · intro h; exact (teq h).1
    · intro h; by_cases q : x = y
      · exact q
      · rw [(feq q).1] at h; cases h
  · constructor
    · intro h; exact (feq h).2
    · intro h q; rw [(teq q).2] at h; cases h
  · constructor
    · intro h; exact (tlt h).1
    · intro h; by_cases q : x < y
      · exact q
      · rw [(flt q).1] at h; cases h
  · constructor
    · intro h; exact (flt h).2.1
    · intro h q; rw [(tlt q).2.1] at h; cases h
  · constructor
    · intro h; exact (tlt h).2.2.1
    · intro h; by_cases q : y < x
      · exact q
      · rw [(flt q).2.2.1] at h; cases h
  · constructor
    · intro h; exact (flt h).2.2.2
    · intro h q; rw [(tlt q).2.2.2] at h; cases h
theorem OGo.icmpEq (K : OCx p l e R s m args below meth c Z own nm bytes ml rt) {o : Int} {x y : Int32} (hd : decode bytes pc = .ok (.if_icmp .eq o, 3)) (hp : pc + 3 = pc') (ho : 0 ≤ (pc : Int) + o) (hq : ((pc : Int) + o).toNat = pcY) (ry : x = y → OGo p l e R s m args below meth c n0 Q h cells slots pcY Ls st) (rn : ¬ x = y → OGo p l e R s m args below meth c n0 Q h cells slots pc' Ls st) : OGo p l e R s m args below meth c n0 Q h cells slots pc Ls (.int y :: .int x :: st) :=
  OGo.icmp K hd hp ho hq (fun q => ry ((own_holds q : _ = _).mpr rfl)) (fun q => rn (fun z => Bool.false_ne_true ((own_holds q : _ = _).mp z)))
theorem OGo.ifEq (K : OCx p l e R s m args below meth c Z own nm bytes ml rt) {o : Int} {x : Int32} (hd : decode bytes pc = .ok (.ifCond .eq o, 3)) (hp : pc + 3 = pc') (ho : 0 ≤ (pc : Int) + o) (hq : ((pc : Int) + o).toNat = pcY) (ry : x = 0 → OGo p l e R s m args below meth c n0 Q h cells slots pcY Ls st) (rn : ¬ x = 0 → OGo p l e R s m args below meth c n0 Q h cells slots pc' Ls st) : OGo p l e R s m args below meth c n0 Q h cells slots pc Ls (.int x :: st) :=
  OGo.ifc K hd hp ho hq (fun q => ry ((own_holds q : _ = _).mpr rfl)) (fun q => rn (fun z => Bool.false_ne_true ((own_holds q : _ = _).mp z)))
theorem OGo.lcmpEq (K : OCx p l e R s m args below meth c Z own nm bytes ml rt) {o : Int} {x y : Int64} {pc1 : Nat} (hd0 : decode bytes pc = .ok (.lcmp, 1)) (hp0 : pc + 1 = pc1) (hd : decode bytes pc1 = .ok (.ifCond .eq o, 3)) (hp : pc1 + 3 = pc') (ho : 0 ≤ (pc1 : Int) + o) (hq : ((pc1 : Int) + o).toNat = pcY) (ry : x = y → OGo p l e R s m args below meth c n0 Q h cells slots pcY Ls st) (rn : ¬ x = y → OGo p l e R s m args below meth c n0 Q h cells slots pc' Ls st) : OGo p l e R s m args below meth c n0 Q h cells slots pc Ls (.long y :: .long x :: st) :=
  OGo.lcmp K hd0 hp0 (OGo.ifEq K hd hp ho hq (fun q => ry ((lw_eq x y).mp q)) (fun q => rn (fun z => q ((lw_eq x y).mpr z))))
theorem OGo.icmpNe (K : OCx p l e R s m args below meth c Z own nm bytes ml rt) {o : Int} {x y : Int32} (hd : decode bytes pc = .ok (.if_icmp .ne o, 3)) (hp : pc + 3 = pc') (ho : 0 ≤ (pc : Int) + o) (hq : ((pc : Int) + o).toNat = pcY) (ry : ¬ x = y → OGo p l e R s m args below meth c n0 Q h cells slots pcY Ls st) (rn : x = y → OGo p l e R s m args below meth c n0 Q h cells slots pc' Ls st) : OGo p l e R s m args below meth c n0 Q h cells slots pc Ls (.int y :: .int x :: st) :=
  OGo.icmp K hd hp ho hq (fun q => ry ((own_holds q : _ = _).mpr rfl)) (fun q => rn (Classical.byContradiction fun z => Bool.false_ne_true ((own_holds q : _ = _).mp z)))
theorem OGo.ifNe (K : OCx p l e R s m args below meth c Z own nm bytes ml rt) {o : Int} {x : Int32} (hd : decode bytes pc = .ok (.ifCond .ne o, 3)) (hp : pc + 3 = pc') (ho : 0 ≤ (pc : Int) + o) (hq : ((pc : Int) + o).toNat = pcY) (ry : ¬ x = 0 → OGo p l e R s m args below meth c n0 Q h cells slots pcY Ls st) (rn : x = 0 → OGo p l e R s m args below meth c n0 Q h cells slots pc' Ls st) : OGo p l e R s m args below meth c n0 Q h cells slots pc Ls (.int x :: st) :=
  OGo.ifc K hd hp ho hq (fun q => ry ((own_holds q : _ = _).mpr rfl)) (fun q => rn (Classical.byContradiction fun z => Bool.false_ne_true ((own_holds q : _ = _).mp z)))
theorem OGo.lcmpNe (K : OCx p l e R s m args below meth c Z own nm bytes ml rt) {o : Int} {x y : Int64} {pc1 : Nat} (hd0 : decode bytes pc = .ok (.lcmp, 1)) (hp0 : pc + 1 = pc1) (hd : decode bytes pc1 = .ok (.ifCond .ne o, 3)) (hp : pc1 + 3 = pc') (ho : 0 ≤ (pc1 : Int) + o) (hq : ((pc1 : Int) + o).toNat = pcY) (ry : ¬ x = y → OGo p l e R s m args below meth c n0 Q h cells slots pcY Ls st) (rn : x = y → OGo p l e R s m args below meth c n0 Q h cells slots pc' Ls st) : OGo p l e R s m args below meth c n0 Q h cells slots pc Ls (.long y :: .long x :: st) :=
  OGo.lcmp K hd0 hp0 (OGo.ifNe K hd hp ho hq (fun q => ry (fun z => q ((lw_eq x y).mpr z))) (fun q => rn ((lw_eq x y).mp q)))
theorem OGo.icmpLt (K : OCx p l e R s m args below meth c Z own nm bytes ml rt) {o : Int} {x y : Int32} (hd : decode bytes pc = .ok (.if_icmp .lt o, 3)) (hp : pc + 3 = pc') (ho : 0 ≤ (pc : Int) + o) (hq : ((pc : Int) + o).toNat = pcY) (ry : x < y → OGo p l e R s m args below meth c n0 Q h cells slots pcY Ls st) (rn : ¬ x < y → OGo p l e R s m args below meth c n0 Q h cells slots pc' Ls st) : OGo p l e R s m args below meth c n0 Q h cells slots pc Ls (.int y :: .int x :: st) :=
  OGo.icmp K hd hp ho hq (fun q => ry ((own_holds q : _ = _).mpr rfl)) (fun q => rn (fun z => Bool.false_ne_true ((own_holds q : _ = _).mp z)))
theorem OGo.ifLt (K : OCx p l e R s m args below meth c Z own nm bytes ml rt) {o : Int} {x : Int32} (hd : decode bytes pc = .ok (.ifCond .lt o, 3)) (hp : pc + 3 = pc') (ho : 0 ≤ (pc : Int) + o) (hq : ((pc : Int) + o).toNat = pcY) (ry : x < 0 → OGo p l e R s m args below meth c n0 Q h cells slots pcY Ls st) (rn : ¬ x < 0 → OGo p l e R s m args below meth c n0 Q h cells slots pc' Ls st) : OGo p l e R s m args below meth c n0 Q h cells slots pc Ls (.int x :: st) :=
  OGo.ifc K hd hp ho hq (fun q => ry ((own_holds q : _ = _).mpr rfl)) (fun q => rn (fun z => Bool.false_ne_true ((own_holds q : _ = _).mp z)))
theorem OGo.lcmpLt (K : OCx p l e R s m args below meth c Z own nm bytes ml rt) {o : Int} {x y : Int64} {pc1 : Nat} (hd0 : decode bytes pc = .ok (.lcmp, 1)) (hp0 : pc + 1 = pc1) (hd : decode bytes pc1 = .ok (.ifCond .lt o, 3)) (hp : pc1 + 3 = pc') (ho : 0 ≤ (pc1 : Int) + o) (hq : ((pc1 : Int) + o).toNat = pcY) (ry : x < y → OGo p l e R s m args below meth c n0 Q h cells slots pcY Ls st) (rn : ¬ x < y → OGo p l e R s m args below meth c n0 Q h cells slots pc' Ls st) : OGo p l e R s m args below meth c n0 Q h cells slots pc Ls (.long y :: .long x :: st) :=
  OGo.lcmp K hd0 hp0 (OGo.ifLt K hd hp ho hq (fun q => ry ((lw_lt x y).mp q)) (fun q => rn (fun z => q ((lw_lt x y).mpr z))))
theorem OGo.icmpGe (K : OCx p l e R s m args below meth c Z own nm bytes ml rt) {o : Int} {x y : Int32} (hd : decode bytes pc = .ok (.if_icmp .ge o, 3)) (hp : pc + 3 = pc') (ho : 0 ≤ (pc : Int) + o) (hq : ((pc : Int) + o).toNat = pcY) (ry : ¬ x < y → OGo p l e R s m args below meth c n0 Q h cells slots pcY Ls st) (rn : x < y → OGo p l e R s m args below meth c n0 Q h cells slots pc' Ls st) : OGo p l e R s m args below meth c n0 Q h cells slots pc Ls (.int y :: .int x :: st) :=
  OGo.icmp K hd hp ho hq (fun q => ry ((own_holds q : _ = _).mpr rfl)) (fun q => rn (Classical.byContradiction fun z => Bool.false_ne_true ((own_holds q : _ = _).mp z)))
theorem OGo.ifGe (K : OCx p l e R s m args below meth c Z own nm bytes ml rt) {o : Int} {x : Int32} (hd : decode bytes pc = .ok (.ifCond .ge o, 3)) (hp : pc + 3 = pc') (ho : 0 ≤ (pc : Int) + o) (hq : ((pc : Int) + o).toNat = pcY) (ry : ¬ x < 0 → OGo p l e R s m args below meth c n0 Q h cells slots pcY Ls st) (rn : x < 0 → OGo p l e R s m args below meth c n0 Q h cells slots pc' Ls st) : OGo p l e R s m args below meth c n0 Q h cells slots pc Ls (.int x :: st) :=
  OGo.ifc K hd hp ho hq (fun q => ry ((own_holds q : _ = _).mpr rfl)) (fun q => rn (Classical.byContradiction fun z => Bool.false_ne_true ((own_holds q : _ = _).mp z)))
theorem OGo.lcmpGe (K : OCx p l e R s m args below meth c Z own nm bytes ml rt) {o : Int} {x y : Int64} {pc1 : Nat} (hd0 : decode bytes pc = .ok (.lcmp, 1)) (hp0 : pc + 1 = pc1) (hd : decode bytes pc1 = .ok (.ifCond .ge o, 3)) (hp : pc1 + 3 = pc') (ho : 0 ≤ (pc1 : Int) + o) (hq : ((pc1 : Int) + o).toNat = pcY) (ry : ¬ x < y → OGo p l e R s m args below meth c n0 Q h cells slots pcY Ls st) (rn : x < y → OGo p l e R s m args below meth c n0 Q h cells slots pc' Ls st) : OGo p l e R s m args below meth c n0 Q h cells slots pc Ls (.long y :: .long x :: st) :=
  OGo.lcmp K hd0 hp0 (OGo.ifGe K hd hp ho hq (fun q => ry (fun z => q ((lw_lt x y).mpr z))) (fun q => rn ((lw_lt x y).mp q)))
theorem OGo.icmpGt (K : OCx p l e R s m args below meth c Z own nm bytes ml rt) {o : Int} {x y : Int32} (hd : decode bytes pc = .ok (.if_icmp .gt o, 3)) (hp : pc + 3 = pc') (ho : 0 ≤ (pc : Int) + o) (hq : ((pc : Int) + o).toNat = pcY) (ry : y < x → OGo p l e R s m args below meth c n0 Q h cells slots pcY Ls st) (rn : ¬ y < x → OGo p l e R s m args below meth c n0 Q h cells slots pc' Ls st) : OGo p l e R s m args below meth c n0 Q h cells slots pc Ls (.int y :: .int x :: st) :=
  OGo.icmp K hd hp ho hq (fun q => ry ((own_holds q : _ = _).mpr rfl)) (fun q => rn (fun z => Bool.false_ne_true ((own_holds q : _ = _).mp z)))
theorem OGo.ifGt (K : OCx p l e R s m args below meth c Z own nm bytes ml rt) {o : Int} {x : Int32} (hd : decode bytes pc = .ok (.ifCond .gt o, 3)) (hp : pc + 3 = pc') (ho : 0 ≤ (pc : Int) + o) (hq : ((pc : Int) + o).toNat = pcY) (ry : 0 < x → OGo p l e R s m args below meth c n0 Q h cells slots pcY Ls st) (rn : ¬ 0 < x → OGo p l e R s m args below meth c n0 Q h cells slots pc' Ls st) : OGo p l e R s m args below meth c n0 Q h cells slots pc Ls (.int x :: st) :=
  OGo.ifc K hd hp ho hq (fun q => ry ((own_holds q : _ = _).mpr rfl)) (fun q => rn (fun z => Bool.false_ne_true ((own_holds q : _ = _).mp z)))
theorem OGo.lcmpGt (K : OCx p l e R s m args below meth c Z own nm bytes ml rt) {o : Int} {x y : Int64} {pc1 : Nat} (hd0 : decode bytes pc = .ok (.lcmp, 1)) (hp0 : pc + 1 = pc1) (hd : decode bytes pc1 = .ok (.ifCond .gt o, 3)) (hp : pc1 + 3 = pc') (ho : 0 ≤ (pc1 : Int) + o) (hq : ((pc1 : Int) + o).toNat = pcY) (ry : y < x → OGo p l e R s m args below meth c n0 Q h cells slots pcY Ls st) (rn : ¬ y < x → OGo p l e R s m args below meth c n0 Q h cells slots pc' Ls st) : OGo p l e R s m args below meth c n0 Q h cells slots pc Ls (.long y :: .long x :: st) :=
  OGo.lcmp K hd0 hp0 (OGo.ifGt K hd hp ho hq (fun q => ry ((lw_gt x y).mp q)) (fun q => rn (fun z => q ((lw_gt x y).mpr z))))
theorem OGo.icmpLe (K : OCx p l e R s m args below meth c Z own nm bytes ml rt) {o : Int} {x y : Int32} (hd : decode bytes pc = .ok (.if_icmp .le o, 3)) (hp : pc + 3 = pc') (ho : 0 ≤ (pc : Int) + o) (hq : ((pc : Int) + o).toNat = pcY) (ry : ¬ y < x → OGo p l e R s m args below meth c n0 Q h cells slots pcY Ls st) (rn : y < x → OGo p l e R s m args below meth c n0 Q h cells slots pc' Ls st) : OGo p l e R s m args below meth c n0 Q h cells slots pc Ls (.int y :: .int x :: st) :=
  OGo.icmp K hd hp ho hq (fun q => ry ((own_holds q : _ = _).mpr rfl)) (fun q => rn (Classical.byContradiction fun z => Bool.false_ne_true ((own_holds q : _ = _).mp z)))
theorem OGo.ifLe (K : OCx p l e R s m args below meth c Z own nm bytes ml rt) {o : Int} {x : Int32} (hd : decode bytes pc = .ok (.ifCond .le o, 3)) (hp : pc + 3 = pc') (ho : 0 ≤ (pc : Int) + o) (hq : ((pc : Int) + o).toNat = pcY) (ry : ¬ 0 < x → OGo p l e R s m args below meth c n0 Q h cells slots pcY Ls st) (rn : 0 < x → OGo p l e R s m args below meth c n0 Q h cells slots pc' Ls st) : OGo p l e R s m args below meth c n0 Q h cells slots pc Ls (.int x :: st) :=
  OGo.ifc K hd hp ho hq (fun q => ry ((own_holds q : _ = _).mpr rfl)) (fun q => rn (Classical.byContradiction fun z => Bool.false_ne_true ((own_holds q : _ = _).mp z)))
theorem OGo.lcmpLe (K : OCx p l e R s m args below meth c Z own nm bytes ml rt) {o : Int} {x y : Int64} {pc1 : Nat} (hd0 : decode bytes pc = .ok (.lcmp, 1)) (hp0 : pc + 1 = pc1) (hd : decode bytes pc1 = .ok (.ifCond .le o, 3)) (hp : pc1 + 3 = pc') (ho : 0 ≤ (pc1 : Int) + o) (hq : ((pc1 : Int) + o).toNat = pcY) (ry : ¬ y < x → OGo p l e R s m args below meth c n0 Q h cells slots pcY Ls st) (rn : y < x → OGo p l e R s m args below meth c n0 Q h cells slots pc' Ls st) : OGo p l e R s m args below meth c n0 Q h cells slots pc Ls (.long y :: .long x :: st) :=
  OGo.lcmp K hd0 hp0 (OGo.ifLe K hd hp ho hq (fun q => ry (fun z => q ((lw_gt x y).mpr z))) (fun q => rn ((lw_gt x y).mp q)))
theorem OGo.ifnullY (K : OCx p l e R s m args below meth c Z own nm bytes ml rt) {o : Int} (hd : decode bytes pc = .ok (.ifnull o, 3)) (ho : 0 ≤ (pc : Int) + o) (hq : ((pc : Int) + o).toNat = pc') (r : OGo p l e R s m args below meth c n0 Q h cells slots pc' Ls st) : OGo p l e R s m args below meth c n0 Q h cells slots pc Ls (.null :: st) :=
  OGo.plain (fun T t hA q => XS.ifnullYes hA K.ex rfl rfl (hb K.by hd) rfl ho hq q) r
theorem OGo.ifnullN (K : OCx p l e R s m args below meth c Z own nm bytes ml rt) {b : Addr} {o : Int} (hd : decode bytes pc = .ok (.ifnull o, 3)) (hp : pc + 3 = pc') (r : OGo p l e R s m args below meth c n0 Q h cells slots pc' Ls st) : OGo p l e R s m args below meth c n0 Q h cells slots pc Ls (.ref b :: st) := by
  subst hp
  exact OGo.plain (fun T t hA q => XS.ifnullNo hA K.ex rfl (hb K.by hd) rfl q) r
theorem OGo.ifnonnullY (K : OCx p l e R s m args below meth c Z own nm bytes ml rt) {b : Addr} {o : Int} (hd : decode bytes pc = .ok (.ifnonnull o, 3)) (ho : 0 ≤ (pc : Int) + o) (hq : ((pc : Int) + o).toNat = pc') (r : OGo p l e R s m args below meth c n0 Q h cells slots pc' Ls st) : OGo p l e R s m args below meth c n0 Q h cells slots pc Ls (.ref b :: st) :=
  OGo.plain (fun T t hA q => XS.ifnonnullYes hA K.ex rfl rfl (hb K.by hd) rfl ho hq q) r
theorem OGo.ifnonnullN (K : OCx p l e R s m args below meth c Z own nm bytes ml rt) {o : Int} (hd : decode bytes pc = .ok (.ifnonnull o, 3)) (hp : pc + 3 = pc') (r : OGo p l e R s m args below meth c n0 Q h cells slots pc' Ls st) : OGo p l e R s m args below meth c n0 Q h cells slots pc Ls (.null :: st) := by
  subst hp
  exact OGo.plain (fun T t hA q => XS.ifnonnullNo hA K.ex rfl (hb K.by hd) rfl q) r
theorem OGo.getF (K : OCx p l e R s m args below meth c Z own nm bytes ml rt) {R0 O n d host : String} {index : Nat} {a : Addr} {v : Value} (w : (Jvm.Cond.fieldLink own index R0 n d).before a0 Z = true ∨ (Jvm.Cond.fieldLinkNest own index R0 n d host).before a0 Z = true) (via : Via Z R0 O n d) (F : Fld Z h a O n d v) (hd : decode bytes pc = .ok (.getfield index, 3)) (hp : pc + 3 = pc') (r : OGo p l e R s m args below meth c n0 Q h cells slots pc' Ls (v :: st)) : OGo p l e R s m args below meth c n0 Q h cells slots pc Ls (.ref a :: st) := by
  subst hp
  exact OGo.same (fun T locs k n X e0 => RoadKit.getF X K.ex K.hZ K.hown w via e0 F (g := mkF m pc Ls (.ref a :: st)) rfl rfl (hb K.by hd)) r
theorem OGo.getS (K : OCx p l e R s m args below meth c Z own nm bytes ml rt) {R0 O n d host : String} {index : Nat} {v : Value} (w : (Jvm.Cond.fieldLink own index R0 n d).before a0 Z = true ∨ (Jvm.Cond.fieldLinkNest own index R0 n d host).before a0 Z = true) (via : Via Z R0 O n d) (F : Sta Z h O n d v) (hd : decode bytes pc = .ok (.getstatic index, 3)) (hp : pc + 3 = pc') (r : OGo p l e R s m args below meth c n0 Q h cells slots pc' Ls (v :: st)) : OGo p l e R s m args below meth c n0 Q h cells slots pc Ls st := by
  subst hp
  exact OGo.same (fun T locs k n X e0 => RoadKit.getS2 X K.ex K.hZ K.hown w via e0 F (g := mkF m pc Ls st) rfl (hb K.by hd)) r
theorem OGo.putF (K : OCx p l e R s m args below meth c Z own nm bytes ml rt) {R0 O n d host C : String} {index kk : Nat} {ty : FieldType} {a : Addr} {v old : Value} (w : (Jvm.Cond.fieldLink own index R0 n d).before a0 Z = true ∨ (Jvm.Cond.fieldLinkNest own index R0 n d host).before a0 Z = true) (via : Via Z R0 O n d) (F : Fld Z h a O n d old) (E : Exa Z h a C) (L : (Jvm.Cond.lays C O n d).before a0 Z = true ∨ ((Jvm.Cond.laysFinal C O n d).before a0 Z = true ∧ own = O ∧ nm = "<init>")) (wi : (Jvm.Cond.instantiable C kk).before a0 Z = true) (hty : parseFieldDescriptor d = some ty) (hn : narrow ty v = v) (hf : fits ty v = true) (ga : n0 ≤ a) (hd : decode bytes pc = .ok (.putfield index, 3)) (hp : pc + 3 = pc')
    (r : ∀ h', Wr h h' a (RoadKit.slotOf Z O n d) v → OGo p l e R s m args below meth c n0 Q h' cells slots pc' Ls st) : OGo p l e R s m args below meth c n0 Q h cells slots pc Ls (v :: .ref a :: st) := by
  subst hp
  exact OGo.write ga (fun T locs k n X e0 => RoadKit.putF X K.ex K.hZ K.hown w via e0 F E (L.imp id fun q => ⟨q.1, q.2.1, K.hnm.trans q.2.2⟩) wi hty hn hf (g := mkF m pc Ls (v :: .ref a :: st)) rfl rfl (hb K.by hd)) r
theorem OGo.putFN (K : OCx p l e R s m args below meth c Z own nm bytes ml rt) {R0 O n d C : String} {index kk : Nat} {ty : FieldType} {a : Addr} {v v' old : Value} (w : (Jvm.Cond.fieldLink own index R0 n d).before a0 Z = true) (via : Via Z R0 O n d) (F : Fld Z h a O n d old) (E : Exa Z h a C) (L : (Jvm.Cond.lays C O n d).before a0 Z = true ∨ ((Jvm.Cond.laysFinal C O n d).before a0 Z = true ∧ own = O ∧ nm = "<init>")) (wi : (Jvm.Cond.instantiable C kk).before a0 Z = true) (hty : parseFieldDescriptor d = some ty) (hn : narrow ty v = v') (hf : fits ty v' = true) (ga : n0 ≤ a) (hd : decode bytes pc = .ok (.putfield index, 3)) (hp : pc + 3 = pc')
    (r : ∀ h', Wr h h' a (RoadKit.slotOf Z O n d) v' → OGo p l e R s m args below meth c n0 Q h' cells slots pc' Ls st) : OGo p l e R s m args below meth c n0 Q h cells slots pc Ls (v :: .ref a :: st) := by
  subst hp
  exact OGo.write ga (fun T locs k n X e0 => RoadKit.putFN X K.ex K.hZ K.hown w via e0 F E (L.imp id fun q => ⟨q.1, q.2.1, K.hnm.trans q.2.2⟩) wi hty hn hf (g := mkF m pc Ls (v :: .ref a :: st)) rfl rfl (hb K.by hd)) r
theorem OGo.newO (K : OCx p l e R s m args below meth c Z own nm bytes ml rt) {C : String} {index n cells' slots' : Nat} (w : (Jvm.Cond.classLink own index C).before a0 Z = true) (wi : (Jvm.Cond.instantiable C n).before a0 Z = true) (wz : (Jvm.Cond.initialized C).before a0 Z = true) (hd : decode bytes pc = .ok (.new index, 3)) (hp : pc + 3 = pc') (hc : cells + 1 = cells') (hl : slots + n = slots') (hc' : cells' ≤ R.cells) (hl' : slots' ≤ R.slots)
    (r : ∀ (h' : Heap) (a : Addr), a = h.size → Ext h h' → Exa Z h' a C → (∀ {O nm d : String} {ty : FieldType}, Laid Z a0 C O nm d → parseFieldDescriptor d = some ty → Fld Z h' a O nm d (defaultValue ty)) → OGo p l e R s m args below meth c n0 Q h' cells' slots' pc' Ls (.ref a :: st)) : OGo p l e R s m args below meth c n0 Q h cells slots pc Ls st := by
  subst hp hc hl
  intro T locs k j X e0 N h1 h2
  obtain ⟨T', h', X', e', E, A, D, -, st'⟩ := RoadKit.newO X K.ex K.hZ K.hown w wi wz e0 (g := mkF m pc Ls st) rfl (hb K.by hd) (by omega) (by omega)
  obtain ⟨s₂, v, L, g, r'⟩ := r h' h.size rfl E A D T' locs _ _ X' e' N (by omega) (by omega)
  exact ⟨s₂, v, L, st' _ g, r'⟩
theorem OGo.newP (K : OCx p l e R s m args below meth c Z own nm bytes ml rt) {aty : ArrayType} {z : Int32} {cap cells' slots' : Nat} (w : (Jvm.Cond.arrayClass (newarray.typeOf aty)).before a0 Z = true) (hd : decode bytes pc = .ok (.newarray aty, 2)) (hp : pc + 2 = pc') (hz : ¬ z < 0) (hcap : z.toNatClampNeg ≤ cap) (hb' : cap * 8 ≤ 536870912) (hc : cells + 1 = cells') (hl : slots + cap = slots') (hc' : cells' ≤ R.cells) (hl' : slots' ≤ R.slots)
    (r : ∀ (h' : Heap) (a : Addr) (ca : ClassId), a = h.size → Ext h h' → Arv Z h' a ca (newarray.typeOf aty) z [] (defaultValue (newarray.typeOf aty)) → OGo p l e R s m args below meth c n0 Q h' cells' slots' pc' Ls (.ref a :: st)) : OGo p l e R s m args below meth c n0 Q h cells slots pc Ls (.int z :: st) := by
  subst hp hc hl
  intro T locs k j X e0 N h1 h2
  obtain ⟨T', h', ca, X', e', E, A, st'⟩ := RoadKit.newP X K.ex K.hZ w e0 (g := mkF m pc Ls (.int z :: st)) rfl (hb K.by hd) rfl hz (cap := cap) hcap hb' (by omega) (by omega)
  obtain ⟨s₂, v, L, g, r'⟩ := r h' h.size ca rfl E (Arv.new A hz) T' locs _ _ X' e' N (by omega) (by omega)
  exact ⟨s₂, v, L, st' _ g, r'⟩
theorem OGo.newR (K : OCx p l e R s m args below meth c Z own nm bytes ml rt) {C : String} {index : Nat} {z : Int32} {cap cells' slots' : Nat} (w1 : (Jvm.Cond.classLink own index C).before a0 Z = true) (w2 : (Jvm.Cond.arrayOver (.object C)).before a0 Z = true) (hd : decode bytes pc = .ok (.anewarray index, 3)) (hp : pc + 3 = pc') (hz : ¬ z < 0) (hcap : z.toNatClampNeg ≤ cap) (hb' : cap * 8 ≤ 536870912) (hc : cells + 1 = cells') (hl : slots + cap = slots') (hc' : cells' ≤ R.cells) (hl' : slots' ≤ R.slots)
    (r : ∀ (h' : Heap) (a : Addr) (ca : ClassId), a = h.size → Ext h h' → Arv Z h' a ca (.object C) z [] .null → Ovr Z ca C → OGo p l e R s m args below meth c n0 Q h' cells' slots' pc' Ls (.ref a :: st)) : OGo p l e R s m args below meth c n0 Q h cells slots pc Ls (.int z :: st) := by
  subst hp hc hl
  intro T locs k j X e0 N h1 h2
  obtain ⟨T', h', ca, X', e', E, A, O, st'⟩ := RoadKit.newR X K.ex K.hZ K.hown w1 w2 e0 (g := mkF m pc Ls (.int z :: st)) rfl (hb K.by hd) rfl hz (cap := cap) hcap hb' (by omega) (by omega)
  obtain ⟨s₂, v, L, g, r'⟩ := r h' h.size ca rfl E (Arv.new A hz) O T' locs _ _ X' e' N (by omega) (by omega)
  exact ⟨s₂, v, L, st' _ g, r'⟩
theorem OGo.iaload (K : OCx p l e R s m args below meth c Z own nm bytes ml rt) {a : Addr} {ca : ClassId} {z j : Int32} {vs : List Value} {dv v : Value} (A : Arv Z h a ca .int z vs dv) (hj : ¬ j < 0 ∧ j < z) (hv : vs.getD j.toNatClampNeg dv = v) (hd : decode bytes pc = .ok (.iaload, 1)) (hp : pc + 1 = pc') (r : OGo p l e R s m args below meth c n0 Q h cells slots pc' Ls (v :: st)) : OGo p l e R s m args below meth c n0 Q h cells slots pc Ls (.int j :: .ref a :: st) := by
  subst hp
  obtain ⟨cl, A, -, S, -, H, -⟩ := A
  have hin := inb_of S hj
  exact OGo.same (fun T locs k n X e0 => ⟨T, X, e0, fun t q => X.iaload K.ex (j := j) (by rw [e0]; exact A.1) (State.isArrayOf_alike K.hZ.alike A.2.1) A.2.2 hin (H.at hin hv) (g := mkF m pc Ls (.int j :: .ref a :: st)) rfl rfl (hb K.by hd) t q⟩) r
theorem OGo.laload (K : OCx p l e R s m args below meth c Z own nm bytes ml rt) {a : Addr} {ca : ClassId} {z j : Int32} {vs : List Value} {dv v : Value} (A : Arv Z h a ca .long z vs dv) (hj : ¬ j < 0 ∧ j < z) (hv : vs.getD j.toNatClampNeg dv = v) (hd : decode bytes pc = .ok (.laload, 1)) (hp : pc + 1 = pc') (r : OGo p l e R s m args below meth c n0 Q h cells slots pc' Ls (v :: st)) : OGo p l e R s m args below meth c n0 Q h cells slots pc Ls (.int j :: .ref a :: st) := by
  subst hp
  obtain ⟨cl, A, -, S, -, H, -⟩ := A
  have hin := inb_of S hj
  exact OGo.same (fun T locs k n X e0 => ⟨T, X, e0, fun t q => X.laload K.ex (j := j) (by rw [e0]; exact A.1) (State.isArrayOf_alike K.hZ.alike A.2.1) A.2.2 hin (H.at hin hv) (g := mkF m pc Ls (.int j :: .ref a :: st)) rfl rfl (hb K.by hd) t q⟩) r
theorem OGo.caload (K : OCx p l e R s m args below meth c Z own nm bytes ml rt) {a : Addr} {ca : ClassId} {z j : Int32} {vs : List Value} {dv v : Value} (A : Arv Z h a ca .char z vs dv) (hj : ¬ j < 0 ∧ j < z) (hv : vs.getD j.toNatClampNeg dv = v) (hd : decode bytes pc = .ok (.caload, 1)) (hp : pc + 1 = pc') (r : OGo p l e R s m args below meth c n0 Q h cells slots pc' Ls (v :: st)) : OGo p l e R s m args below meth c n0 Q h cells slots pc Ls (.int j :: .ref a :: st) := by
  subst hp
  obtain ⟨cl, A, -, S, -, H, -⟩ := A
  have hin := inb_of S hj
  exact OGo.same (fun T locs k n X e0 => ⟨T, X, e0, fun t q => X.caload K.ex (j := j) (by rw [e0]; exact A.1) (State.isArrayOf_alike K.hZ.alike A.2.1) A.2.2 hin (H.at hin hv) (g := mkF m pc Ls (.int j :: .ref a :: st)) rfl rfl (hb K.by hd) t q⟩) r
theorem OGo.saload (K : OCx p l e R s m args below meth c Z own nm bytes ml rt) {a : Addr} {ca : ClassId} {z j : Int32} {vs : List Value} {dv v : Value} (A : Arv Z h a ca .short z vs dv) (hj : ¬ j < 0 ∧ j < z) (hv : vs.getD j.toNatClampNeg dv = v) (hd : decode bytes pc = .ok (.saload, 1)) (hp : pc + 1 = pc') (r : OGo p l e R s m args below meth c n0 Q h cells slots pc' Ls (v :: st)) : OGo p l e R s m args below meth c n0 Q h cells slots pc Ls (.int j :: .ref a :: st) := by
  subst hp
  obtain ⟨cl, A, -, S, -, H, -⟩ := A
  have hin := inb_of S hj
  exact OGo.same (fun T locs k n X e0 => ⟨T, X, e0, fun t q => X.saload K.ex (j := j) (by rw [e0]; exact A.1) (State.isArrayOf_alike K.hZ.alike A.2.1) A.2.2 hin (H.at hin hv) (g := mkF m pc Ls (.int j :: .ref a :: st)) rfl rfl (hb K.by hd) t q⟩) r
theorem OGo.baload (K : OCx p l e R s m args below meth c Z own nm bytes ml rt) {a : Addr} {ca : ClassId} {z j : Int32} {vs : List Value} {dv v : Value} (A : Arv Z h a ca .byte z vs dv) (hj : ¬ j < 0 ∧ j < z) (hv : vs.getD j.toNatClampNeg dv = v) (hd : decode bytes pc = .ok (.baload, 1)) (hp : pc + 1 = pc') (r : OGo p l e R s m args below meth c n0 Q h cells slots pc' Ls (v :: st)) : OGo p l e R s m args below meth c n0 Q h cells slots pc Ls (.int j :: .ref a :: st) := by
  subst hp
  obtain ⟨cl, A, -, S, -, H, -⟩ := A
  have hin := inb_of S hj
  exact OGo.same (fun T locs k n X e0 => ⟨T, X, e0, fun t q => X.baloadBytes K.ex (j := j) (by rw [e0]; exact A.1) (State.isArrayOf_alike K.hZ.alike A.2.1) A.2.2 hin (H.at hin hv) (g := mkF m pc Ls (.int j :: .ref a :: st)) rfl rfl (hb K.by hd) t q⟩) r
theorem OGo.zaload (K : OCx p l e R s m args below meth c Z own nm bytes ml rt) {a : Addr} {ca : ClassId} {z j : Int32} {vs : List Value} {dv v : Value} (A : Arv Z h a ca .boolean z vs dv) (hj : ¬ j < 0 ∧ j < z) (hv : vs.getD j.toNatClampNeg dv = v) (hd : decode bytes pc = .ok (.baload, 1)) (hp : pc + 1 = pc') (r : OGo p l e R s m args below meth c n0 Q h cells slots pc' Ls (v :: st)) : OGo p l e R s m args below meth c n0 Q h cells slots pc Ls (.int j :: .ref a :: st) := by
  subst hp
  obtain ⟨cl, A, -, S, -, H, -⟩ := A
  have hin := inb_of S hj
  exact OGo.same (fun T locs k n X e0 => ⟨T, X, e0, fun t q => X.baloadBooleans K.ex (j := j) (by rw [e0]; exact A.1) (State.isArrayOf_alike K.hZ.alike A.2.1) A.2.2 hin (H.at hin hv) (g := mkF m pc Ls (.int j :: .ref a :: st)) rfl rfl (hb K.by hd) t q⟩) r
theorem OGo.aaload (K : OCx p l e R s m args below meth c Z own nm bytes ml rt) {a : Addr} {ca : ClassId} {ty : FieldType} {z j : Int32} {vs : List Value} {dv v : Value} (A : Arv Z h a ca ty z vs dv) (hty : ty.isReference = true) (hj : ¬ j < 0 ∧ j < z) (hv : vs.getD j.toNatClampNeg dv = v) (hd : decode bytes pc = .ok (.aaload, 1)) (hp : pc + 1 = pc') (r : OGo p l e R s m args below meth c n0 Q h cells slots pc' Ls (v :: st)) : OGo p l e R s m args below meth c n0 Q h cells slots pc Ls (.int j :: .ref a :: st) := by
  subst hp
  obtain ⟨cl, A, -, S, -, H, -⟩ := A
  have hin := inb_of S hj
  exact OGo.same (fun T locs k n X e0 => ⟨T, X, e0, fun t q => X.aaload K.ex (j := j) (by rw [e0]; exact A.1) (State.isArrayOf_alike K.hZ.alike A.2.1) hty A.2.2 hin (H.at hin hv) (g := mkF m pc Ls (.int j :: .ref a :: st)) rfl rfl (hb K.by hd) t q⟩) r
theorem OGo.alen (K : OCx p l e R s m args below meth c Z own nm bytes ml rt) {a : Addr} {ca : ClassId} {ty : FieldType} {z : Int32} {vs : List Value} {dv : Value} (A : Arv Z h a ca ty z vs dv) (hd : decode bytes pc = .ok (.arraylength, 1)) (hp : pc + 1 = pc') (r : OGo p l e R s m args below meth c n0 Q h cells slots pc' Ls (.int z :: st)) : OGo p l e R s m args below meth c n0 Q h cells slots pc Ls (.ref a :: st) := by
  subst hp
  obtain ⟨cl, A, -, S, hz, -, -⟩ := A
  exact OGo.same (fun T locs k n X e0 => ⟨T, X, e0, fun t q => X.arraylength K.ex (by rw [e0]; exact A.1) (State.isArrayOf_alike K.hZ.alike A.2.1) (g := mkF m pc Ls (.ref a :: st)) rfl rfl (hb K.by hd) t (by rw [len_of S hz]; exact q)⟩) r
theorem OGo.iastore (K : OCx p l e R s m args below meth c Z own nm bytes ml rt) {a : Addr} {ca : ClassId} {z j : Int32} {vs : List Value} {dv : Value} {x : Int32} (A : Arv Z h a ca .int z vs dv) (hj : ¬ j < 0 ∧ j < z) {i : Nat} (hij : j.toNatClampNeg = i) (hi : i < vs.length) (ga : n0 ≤ a) (hd : decode bytes pc = .ok (.iastore, 1)) (hp : pc + 1 = pc')
    (r : ∀ h', Wr h h' a j.toNatClampNeg (.int x) → Arv Z h' a ca .int z (vs.set i (.int x)) dv → OGo p l e R s m args below meth c n0 Q h' cells slots pc' Ls st) : OGo p l e R s m args below meth c n0 Q h cells slots pc Ls (.int x :: .int j :: .ref a :: st) := by
  subst hp
  obtain ⟨cl, A, q1, S, hz, H, G⟩ := A
  have hin := inb_of S hj
  exact OGo.write ga (fun T locs k n X e0 => RoadKit.stI X K.ex K.hZ e0 A (j := j) hin (g := mkF m pc Ls (.int x :: .int j :: .ref a :: st)) rfl rfl (hb K.by hd)) (fun h' W => r h' W (Arv.set A q1 S hz H G rfl W _ hij hi))
theorem OGo.lastore (K : OCx p l e R s m args below meth c Z own nm bytes ml rt) {a : Addr} {ca : ClassId} {z j : Int32} {vs : List Value} {dv : Value} {x : Int64} (A : Arv Z h a ca .long z vs dv) (hj : ¬ j < 0 ∧ j < z) {i : Nat} (hij : j.toNatClampNeg = i) (hi : i < vs.length) (ga : n0 ≤ a) (hd : decode bytes pc = .ok (.lastore, 1)) (hp : pc + 1 = pc')
    (r : ∀ h', Wr h h' a j.toNatClampNeg (.long x) → Arv Z h' a ca .long z (vs.set i (.long x)) dv → OGo p l e R s m args below meth c n0 Q h' cells slots pc' Ls st) : OGo p l e R s m args below meth c n0 Q h cells slots pc Ls (.long x :: .int j :: .ref a :: st) := by
  subst hp
  obtain ⟨cl, A, q1, S, hz, H, G⟩ := A
  have hin := inb_of S hj
  exact OGo.write ga (fun T locs k n X e0 => RoadKit.stJ X K.ex K.hZ e0 A (j := j) hin (g := mkF m pc Ls (.long x :: .int j :: .ref a :: st)) rfl rfl (hb K.by hd)) (fun h' W => r h' W (Arv.set A q1 S hz H G rfl W _ hij hi))
theorem OGo.castore (K : OCx p l e R s m args below meth c Z own nm bytes ml rt) {a : Addr} {ca : ClassId} {z j : Int32} {vs : List Value} {dv : Value} {x : Int32} (A : Arv Z h a ca .char z vs dv) (hj : ¬ j < 0 ∧ j < z) {i : Nat} (hij : j.toNatClampNeg = i) (hi : i < vs.length) (ga : n0 ≤ a) (hd : decode bytes pc = .ok (.castore, 1)) (hp : pc + 1 = pc')
    (r : ∀ h', Wr h h' a j.toNatClampNeg (.int (nar .char x)) → Arv Z h' a ca .char z (vs.set i (.int (nar .char x))) dv → OGo p l e R s m args below meth c n0 Q h' cells slots pc' Ls st) : OGo p l e R s m args below meth c n0 Q h cells slots pc Ls (.int x :: .int j :: .ref a :: st) := by
  subst hp
  obtain ⟨cl, A, q1, S, hz, H, G⟩ := A
  have hin := inb_of S hj
  exact OGo.write ga (fun T locs k n X e0 => RoadKit.stC X K.ex K.hZ e0 A (j := j) hin (g := mkF m pc Ls (.int x :: .int j :: .ref a :: st)) rfl rfl (hb K.by hd)) (fun h' W => r h' W (Arv.set A q1 S hz H G (fits_nar_char x) W _ hij hi))
theorem OGo.sastore (K : OCx p l e R s m args below meth c Z own nm bytes ml rt) {a : Addr} {ca : ClassId} {z j : Int32} {vs : List Value} {dv : Value} {x : Int32} (A : Arv Z h a ca .short z vs dv) (hj : ¬ j < 0 ∧ j < z) {i : Nat} (hij : j.toNatClampNeg = i) (hi : i < vs.length) (ga : n0 ≤ a) (hd : decode bytes pc = .ok (.sastore, 1)) (hp : pc + 1 = pc')
    (r : ∀ h', Wr h h' a j.toNatClampNeg (.int (nar .short x)) → Arv Z h' a ca .short z (vs.set i (.int (nar .short x))) dv → OGo p l e R s m args below meth c n0 Q h' cells slots pc' Ls st) : OGo p l e R s m args below meth c n0 Q h cells slots pc Ls (.int x :: .int j :: .ref a :: st) := by
  subst hp
  obtain ⟨cl, A, q1, S, hz, H, G⟩ := A
  have hin := inb_of S hj
  exact OGo.write ga (fun T locs k n X e0 => RoadKit.stS X K.ex K.hZ e0 A (j := j) hin (g := mkF m pc Ls (.int x :: .int j :: .ref a :: st)) rfl rfl (hb K.by hd)) (fun h' W => r h' W (Arv.set A q1 S hz H G (fits_nar_short x) W _ hij hi))
theorem OGo.bastore (K : OCx p l e R s m args below meth c Z own nm bytes ml rt) {a : Addr} {ca : ClassId} {z j : Int32} {vs : List Value} {dv : Value} {x : Int32} (A : Arv Z h a ca .byte z vs dv) (hj : ¬ j < 0 ∧ j < z) {i : Nat} (hij : j.toNatClampNeg = i) (hi : i < vs.length) (ga : n0 ≤ a) (hd : decode bytes pc = .ok (.bastore, 1)) (hp : pc + 1 = pc')
    (r : ∀ h', Wr h h' a j.toNatClampNeg (.int (nar .byte x)) → Arv Z h' a ca .byte z (vs.set i (.int (nar .byte x))) dv → OGo p l e R s m args below meth c n0 Q h' cells slots pc' Ls st) : OGo p l e R s m args below meth c n0 Q h cells slots pc Ls (.int x :: .int j :: .ref a :: st) := by
  subst hp
  obtain ⟨cl, A, q1, S, hz, H, G⟩ := A
  have hin := inb_of S hj
  exact OGo.write ga (fun T locs k n X e0 => RoadKit.stB X K.ex K.hZ e0 A (j := j) hin (g := mkF m pc Ls (.int x :: .int j :: .ref a :: st)) rfl rfl (hb K.by hd)) (fun h' W => r h' W (Arv.set A q1 S hz H G (fits_nar_byte x) W _ hij hi))
theorem OGo.zastore (K : OCx p l e R s m args below meth c Z own nm bytes ml rt) {a : Addr} {ca : ClassId} {z j : Int32} {vs : List Value} {dv : Value} {x : Int32} (A : Arv Z h a ca .boolean z vs dv) (hj : ¬ j < 0 ∧ j < z) {i : Nat} (hij : j.toNatClampNeg = i) (hi : i < vs.length) (ga : n0 ≤ a) (hd : decode bytes pc = .ok (.bastore, 1)) (hp : pc + 1 = pc')
    (r : ∀ h', Wr h h' a j.toNatClampNeg (.int (nar .boolean x)) → Arv Z h' a ca .boolean z (vs.set i (.int (nar .boolean x))) dv → OGo p l e R s m args below meth c n0 Q h' cells slots pc' Ls st) : OGo p l e R s m args below meth c n0 Q h cells slots pc Ls (.int x :: .int j :: .ref a :: st) := by
  subst hp
  obtain ⟨cl, A, q1, S, hz, H, G⟩ := A
  have hin := inb_of S hj
  exact OGo.write ga (fun T locs k n X e0 => RoadKit.stZ X K.ex K.hZ e0 A (j := j) hin (g := mkF m pc Ls (.int x :: .int j :: .ref a :: st)) rfl rfl (hb K.by hd)) (fun h' W => r h' W (Arv.set A q1 S hz H G (fits_nar_bool x) W _ hij hi))
theorem OGo.aastore (K : OCx p l e R s m args below meth c Z own nm bytes ml rt) {a : Addr} {ca : ClassId} {ty : FieldType} {z j : Int32} {vs : List Value} {dv v : Value} (A : Arv Z h a ca ty z vs dv) (hty : ty.isReference = true) (hv : v.isRef = true) (F : Sto Z h a v) (hj : ¬ j < 0 ∧ j < z) {i : Nat} (hij : j.toNatClampNeg = i) (hi : i < vs.length) (ga : n0 ≤ a) (hd : decode bytes pc = .ok (.aastore, 1)) (hp : pc + 1 = pc')
    (r : ∀ h', Wr h h' a j.toNatClampNeg v → Arv Z h' a ca ty z (vs.set i v) dv → OGo p l e R s m args below meth c n0 Q h' cells slots pc' Ls st) : OGo p l e R s m args below meth c n0 Q h cells slots pc Ls (v :: .int j :: .ref a :: st) := by
  subst hp
  obtain ⟨cl, A, q1, S, hz, H, G⟩ := A
  have hin := inb_of S hj
  exact OGo.write ga (fun T locs k n X e0 => RoadKit.stR X K.ex K.hZ e0 A (j := j) hin hty F (g := mkF m pc Ls (v :: .int j :: .ref a :: st)) rfl rfl (hb K.by hd)) (fun h' W => r h' W (Arv.set A q1 S hz H G (by cases ty <;> first | (cases hty; done) | (cases v <;> first | (cases hv; done) | rfl)) W _ hij hi))
theorem OGo.initO (K : OCx p l e R s m args below meth c Z own nm bytes ml rt) {idx W : Nat} {a : Addr} (w1 : (Jvm.Cond.methodLink own idx Lib.objectInit).before a0 Z = true) (w2 : (Jvm.Cond.instanceMethod Lib.objectInit).before a0 Z = true) (w3 : (Jvm.Cond.code Lib.objectInit ⟨#[0xb1]⟩ 1 none).before a0 Z = true) (hd : decode bytes pc = .ok (.invokespecial idx, 3)) (hp : pc + 3 = pc') (hsz : Ls.size = ml) (hW : 2 * 0 + (st.map fun v => v.category).sum ≤ W) (hf : 1 ≤ R.frames) (hl : W + 12 ≤ R.locals) (r : OGo p l e R s m args below meth c n0 Q h cells slots pc' Ls st) : OGo p l e R s m args below meth c n0 Q h cells slots pc Ls (.ref a :: st) := by
  subst hp
  exact OGo.same (fun T locs k n X e0 => RoadKit.initO X K.ex K.hZ K.hown w1 w2 w3 e0 (g := mkF m pc Ls (.ref a :: st)) rfl (hsz.trans K.hml.symm) rfl (hb K.by hd) hf hW hl) r
theorem own_private {T : State} {locs : List Loc} {cells slots : Nat} (X : Stand p l e R s m args below meth c T locs cells slots) (hexec : p.tables.exec = Jvm.exec) {own : String} {index ni : Nat} {y : MethodName} {bytes : ByteArray} {maxL : Nat} {ret : Option FieldType}
    (hown : s.vm.findClass own = some m.cls) (hlink : (Jvm.Cond.methodLink own index y).before args s = true) (hinst : (Jvm.Cond.instanceMethod y).before args s = true) (hi : (Jvm.Cond.instantiable y.cls ni).before args s = true) (hpriv : s.PrivateAt y) (hcode : (Jvm.Cond.code y bytes maxL ret).before args s = true) (hy : y.cls ≠ "java/lang/invoke/MethodHandle" ∧ y.cls ≠ "java/lang/invoke/VarHandle")
    {W : Nat} {Pre : Pt → Array Value → Prop} {Post : Pt → Array Value → Option Value → Pt → Prop} (hK : Back l R p e below s args y 3 W Pre Post) {g : JFrame} (hg : g.method = m) (hsize : g.locals.size = c.maxLocals) {a : Addr} {cell : Cell} (hcell : T.heap[a]? = some cell) (hobj : ∀ q, cell.vm ≠ .statics q)
    {argsL rest : List Value} (hlen : ∀ sig, parseMethodDescriptor y.desc = some sig → argsL.length = sig.parameters.length) (hstack : g.stack = argsL.reverse ++ .ref a :: rest) (hW : 2 * g.monitorRoom + (rest.map fun v => v.category).sum ≤ W) (hdg : decode c.code g.pc = .ok (.invokevirtual index, 3))
    (hpre : ∀ vm₁, s.WarmedH vm₁ → Pre ⟨T.setVm vm₁, locs, cells, slots⟩ (.ref a :: argsL).toArray) :
    ∃ (v : Option Value) (vm₁ : Vm) (B : Pt), s.WarmedH vm₁ ∧ Stand p l e R s m args below meth c B.U B.locs B.cells B.slots ∧ Post ⟨T.setVm vm₁, locs, cells, slots⟩ (.ref a :: argsL).toArray v B ∧ Steps p.tables e below (T.setTop g) (B.U.setTop { g with pc := g.pc + 3, stack := v.toList ++ rest }) := by
  obtain ⟨mk, mt, n1, n2, n3, n4⟩ := Cond.instanceMethod_spec hinst
  obtain ⟨mt', ct, c1, -, -, -, -, -, -, c2⟩ := Cond.code_spec n1 hcode
  obtain rfl : mt' = mt := Option.some.inj (c1.symm.trans n2)
  obtain ⟨ci, ki, i1, i2, -, i3, -⟩ := Cond.instantiable_spec hi
  have i4 : s.vm.classes[mk.cls]? = some ki := by rw [Option.some.inj ((findClass_of_methodNamed n1).symm.trans i1)]; exact i2
  have i5 : ki.isInterface = false := (Bool.or_eq_false_iff.mp i3).1
  obtain ⟨vm₁, Y, sp⟩ := X.invokevirtual hexec hown hlink n1 n2 n3 i4 i5 hy hcell hobj (selectMethod_private n2 (hpriv mk mt' n1 n2)) n2 n4 i4 i5 hg (hlen _ c2) hstack hdg
  obtain ⟨v, B, Y', P', go⟩ := hK m meth c ⟨T.setVm vm₁, locs, cells, slots⟩ { g with stack := rest } (.invokevirtual index) mk (.ref a :: argsL).toArray Y hg hsize hdg hW (Y.named n1) (hpre vm₁ Y.warmed)
  exact ⟨v, vm₁, B, Y.warmed, Y', P', (sp _ fun acts => by rw [doInvoke_state]; exact Steps.refl _).trans go⟩
theorem OGo.callSV (K : OCx p l e R s m args below meth c Z own nm bytes ml rt) {y : MethodName} {index : Nat} {bytes' : ByteArray} {maxL : Nat} {ret : Option FieldType} {rm : Room} {W cells' slots' : Nat} {argsL : List Value} {P : Value → Heap → Prop} (w1 : (Jvm.Cond.methodLink own index y).before a0 Z = true) (w2 : (Jvm.Cond.static y).before a0 Z = true) (w3 : (Jvm.Cond.initialized y.cls).before a0 Z = true) (w4 : (Jvm.Cond.code y bytes' maxL ret).before a0 Z = true) (hy : y.cls ≠ "java/lang/invoke/MethodHandle" ∧ y.cls ≠ "java/lang/invoke/VarHandle") (C : OCon l Z n0 y bytes' maxL ret [] rm (argsL.toArray) h (OV P)) (hd : decode bytes pc = .ok (.invokestatic index, 3)) (hp : pc + 3 = pc') (hsz : Ls.size = ml) (hlen : ∀ sig, parseMethodDescriptor y.desc = some sig → argsL.length = sig.parameters.length) (hW : 2 * 0 + (st.map fun v => v.category).sum ≤ W) (hf : rm.frames + 1 ≤ R.frames) (hlo : W + (maxL + 11) + rm.locals ≤ R.locals) (hc : cells + rm.cells = cells') (hl : slots + rm.slots = slots') (hc' : cells' ≤ R.cells) (hl' : slots' ≤ R.slots) (r : ∀ (w : Value) (h' : Heap), P w h' → OGo p l e R s m args below meth c n0 Q h' cells' slots' pc' Ls (w :: st))
    : OGo p l e R s m args below meth c n0 Q h cells slots pc Ls (argsL.reverse ++ st) := by
  subst hp hc hl
  intro T locs k n X e0 N h1 h2
  obtain ⟨_, _, ⟨T', L', k', n'⟩, -, X', ⟨Lc, ⟨hQ, hN⟩, l', y', z'⟩, stp⟩ := Jvm.LawKit.callS X K.ex (y := y) K.hown (mvT K.hZ w1) (mvT K.hZ w2) (mvT K.hZ w3) (mvT K.hZ w4) hy (backOf (W := W) (Q := fun v h L => (OV P) v h ∧ Fr n0 L) C K.hZ w4 w3 hf hlo) (g := mkF m pc Ls (argsL.reverse ++ st)) rfl (hsz.trans K.hml.symm) (argsL := argsL) (rest := st) hlen rfl hW (hb K.by hd) (fun _ _ => ⟨rfl, e0, (by show k + rm.cells ≤ R.cells; omega), (by show n + rm.slots ≤ R.slots; omega)⟩)
  dsimp only [Pt.U, Pt.locs, Pt.cells, Pt.slots] at X' l' y' z' stp hQ
  subst l' y' z'
  obtain ⟨w, rfl, hQ⟩ := hQ
  obtain ⟨s₂, v, L, g, r'⟩ := r w _ hQ T' _ _ _ X' rfl (Fr.app N hN) (by omega) (by omega)
  exact ⟨s₂, v, L, stp _ g, r'⟩
theorem OGo.callSN (K : OCx p l e R s m args below meth c Z own nm bytes ml rt) {y : MethodName} {index : Nat} {bytes' : ByteArray} {maxL : Nat} {ret : Option FieldType} {rm : Room} {W cells' slots' : Nat} {argsL : List Value} {P : Heap → Prop} (w1 : (Jvm.Cond.methodLink own index y).before a0 Z = true) (w2 : (Jvm.Cond.static y).before a0 Z = true) (w3 : (Jvm.Cond.initialized y.cls).before a0 Z = true) (w4 : (Jvm.Cond.code y bytes' maxL ret).before a0 Z = true) (hy : y.cls ≠ "java/lang/invoke/MethodHandle" ∧ y.cls ≠ "java/lang/invoke/VarHandle") (C : OCon l Z n0 y bytes' maxL ret [] rm (argsL.toArray) h (ON P)) (hd : decode bytes pc = .ok (.invokestatic index, 3)) (hp : pc + 3 = pc') (hsz : Ls.size = ml) (hlen : ∀ sig, parseMethodDescriptor y.desc = some sig → argsL.length = sig.parameters.length) (hW : 2 * 0 + (st.map fun v => v.category).sum ≤ W) (hf : rm.frames + 1 ≤ R.frames) (hlo : W + (maxL + 11) + rm.locals ≤ R.locals) (hc : cells + rm.cells = cells') (hl : slots + rm.slots = slots') (hc' : cells' ≤ R.cells) (hl' : slots' ≤ R.slots) (r : ∀ (h' : Heap), P h' → OGo p l e R s m args below meth c n0 Q h' cells' slots' pc' Ls st)
    : OGo p l e R s m args below meth c n0 Q h cells slots pc Ls (argsL.reverse ++ st) := by
  subst hp hc hl
  intro T locs k n X e0 N h1 h2
  obtain ⟨_, _, ⟨T', L', k', n'⟩, -, X', ⟨Lc, ⟨hQ, hN⟩, l', y', z'⟩, stp⟩ := Jvm.LawKit.callS X K.ex (y := y) K.hown (mvT K.hZ w1) (mvT K.hZ w2) (mvT K.hZ w3) (mvT K.hZ w4) hy (backOf (W := W) (Q := fun v h L => (ON P) v h ∧ Fr n0 L) C K.hZ w4 w3 hf hlo) (g := mkF m pc Ls (argsL.reverse ++ st)) rfl (hsz.trans K.hml.symm) (argsL := argsL) (rest := st) hlen rfl hW (hb K.by hd) (fun _ _ => ⟨rfl, e0, (by show k + rm.cells ≤ R.cells; omega), (by show n + rm.slots ≤ R.slots; omega)⟩)
  dsimp only [Pt.U, Pt.locs, Pt.cells, Pt.slots] at X' l' y' z' stp hQ
  subst l' y' z'
  obtain ⟨rfl, hQ⟩ := hQ
  obtain ⟨s₂, v, L, g, r'⟩ := r  _ hQ T' _ _ _ X' rfl (Fr.app N hN) (by omega) (by omega)
  exact ⟨s₂, v, L, stp _ g, r'⟩
theorem OGo.callIV (K : OCx p l e R s m args below meth c Z own nm bytes ml rt) {y : MethodName} {a : Addr} {index : Nat} {bytes' : ByteArray} {maxL : Nat} {rm : Room} {W cells' slots' : Nat} {argsL : List Value} {P : Value → Heap → Prop} (hy1 : y.name = "<init>") (w1 : (Jvm.Cond.methodLink own index y).before a0 Z = true) (w2 : (Jvm.Cond.instanceMethod y).before a0 Z = true) (w3 : (Jvm.Cond.initialized y.cls).before a0 Z = true) (w4 : (Jvm.Cond.code y bytes' maxL none).before a0 Z = true) (hy : y.cls ≠ "java/lang/invoke/MethodHandle" ∧ y.cls ≠ "java/lang/invoke/VarHandle") (C : OCon l Z n0 y bytes' maxL none [] rm ((.ref a :: argsL).toArray) h (OV P)) (hd : decode bytes pc = .ok (.invokespecial index, 3)) (hp : pc + 3 = pc') (hsz : Ls.size = ml) (hlen : ∀ sig, parseMethodDescriptor y.desc = some sig → argsL.length = sig.parameters.length) (hW : 2 * 0 + (st.map fun v => v.category).sum ≤ W) (hf : rm.frames + 1 ≤ R.frames) (hlo : W + (maxL + 11) + rm.locals ≤ R.locals) (hc : cells + rm.cells = cells') (hl : slots + rm.slots = slots') (hc' : cells' ≤ R.cells) (hl' : slots' ≤ R.slots) (r : ∀ (w : Value) (h' : Heap), P w h' → OGo p l e R s m args below meth c n0 Q h' cells' slots' pc' Ls (w :: st))
    : OGo p l e R s m args below meth c n0 Q h cells slots pc Ls (argsL.reverse ++ .ref a :: st) := by
  subst hp hc hl
  intro T locs k n X e0 N h1 h2
  obtain ⟨_, _, ⟨T', L', k', n'⟩, -, X', ⟨Lc, ⟨hQ, hN⟩, l', y', z'⟩, stp⟩ := X.specialBack K.ex (y := y) hy1 K.hown (mvT K.hZ w1) (mvT K.hZ w2) (mvT K.hZ w4) hy (backOf (W := W) (Q := fun v h L => (OV P) v h ∧ Fr n0 L) C K.hZ w4 w3 hf hlo) (g := mkF m pc Ls (argsL.reverse ++ .ref a :: st)) rfl (hsz.trans K.hml.symm) (Steps.refl _) (a := a) (argsL := argsL) (rest := st) hlen rfl hW (hb K.by hd) (fun _ _ => ⟨rfl, e0, (by show k + rm.cells ≤ R.cells; omega), (by show n + rm.slots ≤ R.slots; omega)⟩)
  dsimp only [Pt.U, Pt.locs, Pt.cells, Pt.slots] at X' l' y' z' stp hQ
  subst l' y' z'
  obtain ⟨w, rfl, hQ⟩ := hQ
  obtain ⟨s₂, v, L, g, r'⟩ := r w _ hQ T' _ _ _ X' rfl (Fr.app N hN) (by omega) (by omega)
  exact ⟨s₂, v, L, stp.trans g, r'⟩
theorem OGo.callIN (K : OCx p l e R s m args below meth c Z own nm bytes ml rt) {y : MethodName} {a : Addr} {index : Nat} {bytes' : ByteArray} {maxL : Nat} {rm : Room} {W cells' slots' : Nat} {argsL : List Value} {P : Heap → Prop} (hy1 : y.name = "<init>") (w1 : (Jvm.Cond.methodLink own index y).before a0 Z = true) (w2 : (Jvm.Cond.instanceMethod y).before a0 Z = true) (w3 : (Jvm.Cond.initialized y.cls).before a0 Z = true) (w4 : (Jvm.Cond.code y bytes' maxL none).before a0 Z = true) (hy : y.cls ≠ "java/lang/invoke/MethodHandle" ∧ y.cls ≠ "java/lang/invoke/VarHandle") (C : OCon l Z n0 y bytes' maxL none [] rm ((.ref a :: argsL).toArray) h (ON P)) (hd : decode bytes pc = .ok (.invokespecial index, 3)) (hp : pc + 3 = pc') (hsz : Ls.size = ml) (hlen : ∀ sig, parseMethodDescriptor y.desc = some sig → argsL.length = sig.parameters.length) (hW : 2 * 0 + (st.map fun v => v.category).sum ≤ W) (hf : rm.frames + 1 ≤ R.frames) (hlo : W + (maxL + 11) + rm.locals ≤ R.locals) (hc : cells + rm.cells = cells') (hl : slots + rm.slots = slots') (hc' : cells' ≤ R.cells) (hl' : slots' ≤ R.slots) (r : ∀ (h' : Heap), P h' → OGo p l e R s m args below meth c n0 Q h' cells' slots' pc' Ls st)
    : OGo p l e R s m args below meth c n0 Q h cells slots pc Ls (argsL.reverse ++ .ref a :: st) := by
  subst hp hc hl
  intro T locs k n X e0 N h1 h2
  obtain ⟨_, _, ⟨T', L', k', n'⟩, -, X', ⟨Lc, ⟨hQ, hN⟩, l', y', z'⟩, stp⟩ := X.specialBack K.ex (y := y) hy1 K.hown (mvT K.hZ w1) (mvT K.hZ w2) (mvT K.hZ w4) hy (backOf (W := W) (Q := fun v h L => (ON P) v h ∧ Fr n0 L) C K.hZ w4 w3 hf hlo) (g := mkF m pc Ls (argsL.reverse ++ .ref a :: st)) rfl (hsz.trans K.hml.symm) (Steps.refl _) (a := a) (argsL := argsL) (rest := st) hlen rfl hW (hb K.by hd) (fun _ _ => ⟨rfl, e0, (by show k + rm.cells ≤ R.cells; omega), (by show n + rm.slots ≤ R.slots; omega)⟩)
  dsimp only [Pt.U, Pt.locs, Pt.cells, Pt.slots] at X' l' y' z' stp hQ
  subst l' y' z'
  obtain ⟨rfl, hQ⟩ := hQ
  obtain ⟨s₂, v, L, g, r'⟩ := r  _ hQ T' _ _ _ X' rfl (Fr.app N hN) (by omega) (by omega)
  exact ⟨s₂, v, L, stp.trans g, r'⟩
theorem OGo.callPV (K : OCx p l e R s m args below meth c Z own nm bytes ml rt) {y : MethodName} {a : Addr} {C0 : String} {index : Nat} {bytes' : ByteArray} {maxL : Nat} {ret : Option FieldType} {rm : Room} {W cells' slots' : Nat} {argsL : List Value} {P : Value → Heap → Prop} (E : Exa Z h a C0) (w1 : (Jvm.Cond.methodLink own index y).before a0 Z = true) (w2 : (Jvm.Cond.instanceMethod y).before a0 Z = true) (w5 : (Jvm.Cond.selects y.cls y y).before a0 Z = true) (w6 : (Jvm.Cond.privateMethod y).before a0 Z = true) (w3 : (Jvm.Cond.initialized y.cls).before a0 Z = true) (w4 : (Jvm.Cond.code y bytes' maxL ret).before a0 Z = true) (hy : y.cls ≠ "java/lang/invoke/MethodHandle" ∧ y.cls ≠ "java/lang/invoke/VarHandle") (C : OCon l Z n0 y bytes' maxL ret [] rm ((.ref a :: argsL).toArray) h (OV P)) (hd : decode bytes pc = .ok (.invokevirtual index, 3)) (hp : pc + 3 = pc') (hsz : Ls.size = ml) (hlen : ∀ sig, parseMethodDescriptor y.desc = some sig → argsL.length = sig.parameters.length) (hW : 2 * 0 + (st.map fun v => v.category).sum ≤ W) (hf : rm.frames + 1 ≤ R.frames) (hlo : W + (maxL + 11) + rm.locals ≤ R.locals) (hc : cells + rm.cells = cells') (hl : slots + rm.slots = slots') (hc' : cells' ≤ R.cells) (hl' : slots' ≤ R.slots) (r : ∀ (w : Value) (h' : Heap), P w h' → OGo p l e R s m args below meth c n0 Q h' cells' slots' pc' Ls (w :: st))
    : OGo p l e R s m args below meth c n0 Q h cells slots pc Ls (argsL.reverse ++ .ref a :: st) := by
  subst hp hc hl
  intro T locs k n X e0 N h1 h2
  obtain ⟨cq, q, q'⟩ := E.cell
  obtain ⟨_, _, ⟨T', L', k', n'⟩, -, X', ⟨Lc, ⟨hQ, hN⟩, l', y', z'⟩, stp⟩ := X.privateBack K.ex (y := y) K.hown (mvT K.hZ w1) (mvT K.hZ w2) (mvT K.hZ w5) (Cond.privateMethod_at (mvP K.hZ w6 (args := #[]))) (mvT K.hZ w4) hy (backOf (W := W) (Q := fun v h L => (OV P) v h ∧ Fr n0 L) C K.hZ w4 w3 hf hlo) (g := mkF m pc Ls (argsL.reverse ++ .ref a :: st)) rfl (hsz.trans K.hml.symm) (Steps.refl _) (a := a) (by rw [e0]; exact q) q' (argsL := argsL) (rest := st) hlen rfl hW (hb K.by hd) (fun _ _ => ⟨rfl, e0, (by show k + rm.cells ≤ R.cells; omega), (by show n + rm.slots ≤ R.slots; omega)⟩)
  dsimp only [Pt.U, Pt.locs, Pt.cells, Pt.slots] at X' l' y' z' stp hQ
  subst l' y' z'
  obtain ⟨w, rfl, hQ⟩ := hQ
  obtain ⟨s₂, v, L, g, r'⟩ := r w _ hQ T' _ _ _ X' rfl (Fr.app N hN) (by omega) (by omega)
  exact ⟨s₂, v, L, stp.trans g, r'⟩
theorem OGo.callPN (K : OCx p l e R s m args below meth c Z own nm bytes ml rt) {y : MethodName} {a : Addr} {C0 : String} {index : Nat} {bytes' : ByteArray} {maxL : Nat} {ret : Option FieldType} {rm : Room} {W cells' slots' : Nat} {argsL : List Value} {P : Heap → Prop} (E : Exa Z h a C0) (w1 : (Jvm.Cond.methodLink own index y).before a0 Z = true) (w2 : (Jvm.Cond.instanceMethod y).before a0 Z = true) (w5 : (Jvm.Cond.selects y.cls y y).before a0 Z = true) (w6 : (Jvm.Cond.privateMethod y).before a0 Z = true) (w3 : (Jvm.Cond.initialized y.cls).before a0 Z = true) (w4 : (Jvm.Cond.code y bytes' maxL ret).before a0 Z = true) (hy : y.cls ≠ "java/lang/invoke/MethodHandle" ∧ y.cls ≠ "java/lang/invoke/VarHandle") (C : OCon l Z n0 y bytes' maxL ret [] rm ((.ref a :: argsL).toArray) h (ON P)) (hd : decode bytes pc = .ok (.invokevirtual index, 3)) (hp : pc + 3 = pc') (hsz : Ls.size = ml) (hlen : ∀ sig, parseMethodDescriptor y.desc = some sig → argsL.length = sig.parameters.length) (hW : 2 * 0 + (st.map fun v => v.category).sum ≤ W) (hf : rm.frames + 1 ≤ R.frames) (hlo : W + (maxL + 11) + rm.locals ≤ R.locals) (hc : cells + rm.cells = cells') (hl : slots + rm.slots = slots') (hc' : cells' ≤ R.cells) (hl' : slots' ≤ R.slots) (r : ∀ (h' : Heap), P h' → OGo p l e R s m args below meth c n0 Q h' cells' slots' pc' Ls st)
    : OGo p l e R s m args below meth c n0 Q h cells slots pc Ls (argsL.reverse ++ .ref a :: st) := by
  subst hp hc hl
  intro T locs k n X e0 N h1 h2
  obtain ⟨cq, q, q'⟩ := E.cell
  obtain ⟨_, _, ⟨T', L', k', n'⟩, -, X', ⟨Lc, ⟨hQ, hN⟩, l', y', z'⟩, stp⟩ := X.privateBack K.ex (y := y) K.hown (mvT K.hZ w1) (mvT K.hZ w2) (mvT K.hZ w5) (Cond.privateMethod_at (mvP K.hZ w6 (args := #[]))) (mvT K.hZ w4) hy (backOf (W := W) (Q := fun v h L => (ON P) v h ∧ Fr n0 L) C K.hZ w4 w3 hf hlo) (g := mkF m pc Ls (argsL.reverse ++ .ref a :: st)) rfl (hsz.trans K.hml.symm) (Steps.refl _) (a := a) (by rw [e0]; exact q) q' (argsL := argsL) (rest := st) hlen rfl hW (hb K.by hd) (fun _ _ => ⟨rfl, e0, (by show k + rm.cells ≤ R.cells; omega), (by show n + rm.slots ≤ R.slots; omega)⟩)
  dsimp only [Pt.U, Pt.locs, Pt.cells, Pt.slots] at X' l' y' z' stp hQ
  subst l' y' z'
  obtain ⟨rfl, hQ⟩ := hQ
  obtain ⟨s₂, v, L, g, r'⟩ := r  _ hQ T' _ _ _ X' rfl (Fr.app N hN) (by omega) (by omega)
  exact ⟨s₂, v, L, stp.trans g, r'⟩
theorem OGo.callVV (K : OCx p l e R s m args below meth c Z own nm bytes ml rt) {y z : MethodName} {a : Addr} {C0 : String} {index : Nat} {bytes' : ByteArray} {maxL : Nat} {ret : Option FieldType} {rm : Room} {W cells' slots' : Nat} {argsL : List Value} {P : Value → Heap → Prop} (E : Exa Z h a C0) (w1 : (Jvm.Cond.methodLink own index y).before a0 Z = true) (w2 : (Jvm.Cond.declares y).before a0 Z = true) (hnf : NotFace s y) (w5 : (Jvm.Cond.selects C0 y z).before a0 Z = true) (w6 : (Jvm.Cond.instanceMethod z).before a0 Z = true) (w3 : (Jvm.Cond.initialized z.cls).before a0 Z = true) (w4 : (Jvm.Cond.code z bytes' maxL ret).before a0 Z = true) (hy : y.cls ≠ "java/lang/invoke/MethodHandle" ∧ y.cls ≠ "java/lang/invoke/VarHandle") (C : OCon l Z n0 z bytes' maxL ret [] rm ((.ref a :: argsL).toArray) h (OV P)) (hd : decode bytes pc = .ok (.invokevirtual index, 3)) (hp : pc + 3 = pc') (hsz : Ls.size = ml) (hlen : ∀ sig, parseMethodDescriptor y.desc = some sig → argsL.length = sig.parameters.length) (hW : 2 * 0 + (st.map fun v => v.category).sum ≤ W) (hf : rm.frames + 1 ≤ R.frames) (hlo : W + (maxL + 11) + rm.locals ≤ R.locals) (hc : cells + rm.cells = cells') (hl : slots + rm.slots = slots') (hc' : cells' ≤ R.cells) (hl' : slots' ≤ R.slots) (r : ∀ (w : Value) (h' : Heap), P w h' → OGo p l e R s m args below meth c n0 Q h' cells' slots' pc' Ls (w :: st))
    : OGo p l e R s m args below meth c n0 Q h cells slots pc Ls (argsL.reverse ++ .ref a :: st) := by
  subst hp hc hl
  intro T locs k n X e0 N h1 h2
  obtain ⟨cq, kq, qa, qb, qc⟩ := isOf K.hZ e0 E
  obtain ⟨_, _, ⟨T', L', k', n'⟩, -, X', ⟨Lc, ⟨hQ, hN⟩, l', y', z'⟩, stp⟩ := X.virtualBack K.ex (y := y) (z := z) K.hown (mvT K.hZ w1) (mvT K.hZ w2) hnf (mvT K.hZ w5) (mvT K.hZ w6) hy (backOf (W := W) (Q := fun v h L => (OV P) v h ∧ Fr n0 L) C K.hZ w4 w3 hf hlo) qa qc (g := mkF m pc Ls (argsL.reverse ++ .ref a :: st)) rfl (hsz.trans K.hml.symm) (Steps.refl _) (argsL := argsL) (rest := st) hlen rfl hW (hb K.by hd) (fun _ _ => ⟨rfl, e0, (by show k + rm.cells ≤ R.cells; omega), (by show n + rm.slots ≤ R.slots; omega)⟩)
  dsimp only [Pt.U, Pt.locs, Pt.cells, Pt.slots] at X' l' y' z' stp hQ
  subst l' y' z'
  obtain ⟨w, rfl, hQ⟩ := hQ
  obtain ⟨s₂, v, L, g, r'⟩ := r w _ hQ T' _ _ _ X' rfl (Fr.app N hN) (by omega) (by omega)
  exact ⟨s₂, v, L, stp.trans g, r'⟩
theorem OGo.callVN (K : OCx p l e R s m args below meth c Z own nm bytes ml rt) {y z : MethodName} {a : Addr} {C0 : String} {index : Nat} {bytes' : ByteArray} {maxL : Nat} {ret : Option FieldType} {rm : Room} {W cells' slots' : Nat} {argsL : List Value} {P : Heap → Prop} (E : Exa Z h a C0) (w1 : (Jvm.Cond.methodLink own index y).before a0 Z = true) (w2 : (Jvm.Cond.declares y).before a0 Z = true) (hnf : NotFace s y) (w5 : (Jvm.Cond.selects C0 y z).before a0 Z = true) (w6 : (Jvm.Cond.instanceMethod z).before a0 Z = true) (w3 : (Jvm.Cond.initialized z.cls).before a0 Z = true) (w4 : (Jvm.Cond.code z bytes' maxL ret).before a0 Z = true) (hy : y.cls ≠ "java/lang/invoke/MethodHandle" ∧ y.cls ≠ "java/lang/invoke/VarHandle") (C : OCon l Z n0 z bytes' maxL ret [] rm ((.ref a :: argsL).toArray) h (ON P)) (hd : decode bytes pc = .ok (.invokevirtual index, 3)) (hp : pc + 3 = pc') (hsz : Ls.size = ml) (hlen : ∀ sig, parseMethodDescriptor y.desc = some sig → argsL.length = sig.parameters.length) (hW : 2 * 0 + (st.map fun v => v.category).sum ≤ W) (hf : rm.frames + 1 ≤ R.frames) (hlo : W + (maxL + 11) + rm.locals ≤ R.locals) (hc : cells + rm.cells = cells') (hl : slots + rm.slots = slots') (hc' : cells' ≤ R.cells) (hl' : slots' ≤ R.slots) (r : ∀ (h' : Heap), P h' → OGo p l e R s m args below meth c n0 Q h' cells' slots' pc' Ls st)
    : OGo p l e R s m args below meth c n0 Q h cells slots pc Ls (argsL.reverse ++ .ref a :: st) := by
  subst hp hc hl
  intro T locs k n X e0 N h1 h2
  obtain ⟨cq, kq, qa, qb, qc⟩ := isOf K.hZ e0 E
  obtain ⟨_, _, ⟨T', L', k', n'⟩, -, X', ⟨Lc, ⟨hQ, hN⟩, l', y', z'⟩, stp⟩ := X.virtualBack K.ex (y := y) (z := z) K.hown (mvT K.hZ w1) (mvT K.hZ w2) hnf (mvT K.hZ w5) (mvT K.hZ w6) hy (backOf (W := W) (Q := fun v h L => (ON P) v h ∧ Fr n0 L) C K.hZ w4 w3 hf hlo) qa qc (g := mkF m pc Ls (argsL.reverse ++ .ref a :: st)) rfl (hsz.trans K.hml.symm) (Steps.refl _) (argsL := argsL) (rest := st) hlen rfl hW (hb K.by hd) (fun _ _ => ⟨rfl, e0, (by show k + rm.cells ≤ R.cells; omega), (by show n + rm.slots ≤ R.slots; omega)⟩)
  dsimp only [Pt.U, Pt.locs, Pt.cells, Pt.slots] at X' l' y' z' stp hQ
  subst l' y' z'
  obtain ⟨rfl, hQ⟩ := hQ
  obtain ⟨s₂, v, L, g, r'⟩ := r  _ hQ T' _ _ _ X' rfl (Fr.app N hN) (by omega) (by omega)
  exact ⟨s₂, v, L, stp.trans g, r'⟩
theorem OGo.callFV (K : OCx p l e R s m args below meth c Z own nm bytes ml rt) {y z : MethodName} {a : Addr} {C0 : String} {cnt : Nat} {index : Nat} {bytes' : ByteArray} {maxL : Nat} {ret : Option FieldType} {rm : Room} {W cells' slots' : Nat} {argsL : List Value} {P : Value → Heap → Prop} (E : Exa Z h a C0) (w1 : (Jvm.Cond.methodLink own index y).before a0 Z = true) (w2 : (Jvm.Cond.declares y).before a0 Z = true) (w7 : (Jvm.Cond.interfaceMethod y.cls y.cls y.name y.desc).before a0 Z = true) (w5 : (Jvm.Cond.selects C0 y z).before a0 Z = true) (w6 : (Jvm.Cond.instanceMethod z).before a0 Z = true) (w8 : (Jvm.Cond.publicMethod z).before a0 Z = true) (w9 : (Jvm.Cond.unhidden C0 y.name y.desc).before a0 Z = true) (w10 : (Jvm.Cond.castable C0 y.cls).before a0 Z = true) (w3 : (Jvm.Cond.initialized z.cls).before a0 Z = true) (w4 : (Jvm.Cond.code z bytes' maxL ret).before a0 Z = true) (hy : y.cls ≠ "java/lang/invoke/MethodHandle" ∧ y.cls ≠ "java/lang/invoke/VarHandle") (C : OCon l Z n0 z bytes' maxL ret [] rm ((.ref a :: argsL).toArray) h (OV P)) (hd : decode bytes pc = .ok (.invokeinterface index cnt, 5)) (hp : pc + 5 = pc') (hsz : Ls.size = ml) (hlen : ∀ sig, parseMethodDescriptor y.desc = some sig → argsL.length = sig.parameters.length) (hW : 2 * 0 + (st.map fun v => v.category).sum ≤ W) (hf : rm.frames + 1 ≤ R.frames) (hlo : W + (maxL + 11) + rm.locals ≤ R.locals) (hc : cells + rm.cells = cells') (hl : slots + rm.slots = slots') (hc' : cells' ≤ R.cells) (hl' : slots' ≤ R.slots) (r : ∀ (w : Value) (h' : Heap), P w h' → OGo p l e R s m args below meth c n0 Q h' cells' slots' pc' Ls (w :: st))
    : OGo p l e R s m args below meth c n0 Q h cells slots pc Ls (argsL.reverse ++ .ref a :: st) := by
  subst hp hc hl
  intro T locs k n X e0 N h1 h2
  obtain ⟨cq, kq, qa, qb, qc⟩ := isOf K.hZ e0 E
  obtain ⟨_, _, ⟨T', L', k', n'⟩, -, X', ⟨Lc, ⟨hQ, hN⟩, l', y', z'⟩, stp⟩ := X.interfaceBack K.ex (xi := y) (y := z) K.hown (mvT K.hZ w1) (mvT K.hZ w2) (mvT K.hZ w7 (by simp [Cond.onTables, Cond.keepsFace, Cond.keeps, Cond.steady, Cond.faceAtom, hy.1, hy.2])) (mvT K.hZ w5) (mvT K.hZ w6) (mvT K.hZ w8) (mvT K.hZ w9) (mvT K.hZ w10) hy (backOf (W := W) (Q := fun v h L => (OV P) v h ∧ Fr n0 L) C K.hZ w4 w3 hf hlo) qa qb qc (g := mkF m pc Ls (argsL.reverse ++ .ref a :: st)) rfl (hsz.trans K.hml.symm) (Steps.refl _) (argsL := argsL) (rest := st) hlen rfl hW (hb K.by hd) (fun _ _ => ⟨rfl, e0, (by show k + rm.cells ≤ R.cells; omega), (by show n + rm.slots ≤ R.slots; omega)⟩)
  dsimp only [Pt.U, Pt.locs, Pt.cells, Pt.slots] at X' l' y' z' stp hQ
  subst l' y' z'
  obtain ⟨w, rfl, hQ⟩ := hQ
  obtain ⟨s₂, v, L, g, r'⟩ := r w _ hQ T' _ _ _ X' rfl (Fr.app N hN) (by omega) (by omega)
  exact ⟨s₂, v, L, stp.trans g, r'⟩
theorem OGo.callFN (K : OCx p l e R s m args below meth c Z own nm bytes ml rt) {y z : MethodName} {a : Addr} {C0 : String} {cnt : Nat} {index : Nat} {bytes' : ByteArray} {maxL : Nat} {ret : Option FieldType} {rm : Room} {W cells' slots' : Nat} {argsL : List Value} {P : Heap → Prop} (E : Exa Z h a C0) (w1 : (Jvm.Cond.methodLink own index y).before a0 Z = true) (w2 : (Jvm.Cond.declares y).before a0 Z = true) (w7 : (Jvm.Cond.interfaceMethod y.cls y.cls y.name y.desc).before a0 Z = true) (w5 : (Jvm.Cond.selects C0 y z).before a0 Z = true) (w6 : (Jvm.Cond.instanceMethod z).before a0 Z = true) (w8 : (Jvm.Cond.publicMethod z).before a0 Z = true) (w9 : (Jvm.Cond.unhidden C0 y.name y.desc).before a0 Z = true) (w10 : (Jvm.Cond.castable C0 y.cls).before a0 Z = true) (w3 : (Jvm.Cond.initialized z.cls).before a0 Z = true) (w4 : (Jvm.Cond.code z bytes' maxL ret).before a0 Z = true) (hy : y.cls ≠ "java/lang/invoke/MethodHandle" ∧ y.cls ≠ "java/lang/invoke/VarHandle") (C : OCon l Z n0 z bytes' maxL ret [] rm ((.ref a :: argsL).toArray) h (ON P)) (hd : decode bytes pc = .ok (.invokeinterface index cnt, 5)) (hp : pc + 5 = pc') (hsz : Ls.size = ml) (hlen : ∀ sig, parseMethodDescriptor y.desc = some sig → argsL.length = sig.parameters.length) (hW : 2 * 0 + (st.map fun v => v.category).sum ≤ W) (hf : rm.frames + 1 ≤ R.frames) (hlo : W + (maxL + 11) + rm.locals ≤ R.locals) (hc : cells + rm.cells = cells') (hl : slots + rm.slots = slots') (hc' : cells' ≤ R.cells) (hl' : slots' ≤ R.slots) (r : ∀ (h' : Heap), P h' → OGo p l e R s m args below meth c n0 Q h' cells' slots' pc' Ls st)
    : OGo p l e R s m args below meth c n0 Q h cells slots pc Ls (argsL.reverse ++ .ref a :: st) := by
  subst hp hc hl
  intro T locs k n X e0 N h1 h2
  obtain ⟨cq, kq, qa, qb, qc⟩ := isOf K.hZ e0 E
  obtain ⟨_, _, ⟨T', L', k', n'⟩, -, X', ⟨Lc, ⟨hQ, hN⟩, l', y', z'⟩, stp⟩ := X.interfaceBack K.ex (xi := y) (y := z) K.hown (mvT K.hZ w1) (mvT K.hZ w2) (mvT K.hZ w7 (by simp [Cond.onTables, Cond.keepsFace, Cond.keeps, Cond.steady, Cond.faceAtom, hy.1, hy.2])) (mvT K.hZ w5) (mvT K.hZ w6) (mvT K.hZ w8) (mvT K.hZ w9) (mvT K.hZ w10) hy (backOf (W := W) (Q := fun v h L => (ON P) v h ∧ Fr n0 L) C K.hZ w4 w3 hf hlo) qa qb qc (g := mkF m pc Ls (argsL.reverse ++ .ref a :: st)) rfl (hsz.trans K.hml.symm) (Steps.refl _) (argsL := argsL) (rest := st) hlen rfl hW (hb K.by hd) (fun _ _ => ⟨rfl, e0, (by show k + rm.cells ≤ R.cells; omega), (by show n + rm.slots ≤ R.slots; omega)⟩)
  dsimp only [Pt.U, Pt.locs, Pt.cells, Pt.slots] at X' l' y' z' stp hQ
  subst l' y' z'
  obtain ⟨rfl, hQ⟩ := hQ
  obtain ⟨s₂, v, L, g, r'⟩ := r  _ hQ T' _ _ _ X' rfl (Fr.app N hN) (by omega) (by omega)
  exact ⟨s₂, v, L, stp.trans g, r'⟩
theorem OGo.copy (K : OCx p l e R s m args below meth c Z own nm bytes ml rt) {index W : Nat} {a b : Addr} {k k' : ClassId} {ty : FieldType} {z z' sp dp nn : Int32} {vs vd us : List Value} {dv dd : Value} (w1 : (Jvm.Cond.methodLink own index Jvm.Stand.acN).before a0 Z = true) (w2 : (Jvm.Cond.native Jvm.Stand.acN).before a0 Z = true) (w3 : (Jvm.Cond.static Jvm.Stand.acN).before a0 Z = true) (w4 : (Jvm.Cond.initialized "java/lang/System").before a0 Z = true)
    (A : Arv Z h a k ty z vs dv) (B : Arv Z h b k' ty z' vd dd) (hty : refKind ty = false) (h1 : ¬ sp < 0) (h2 : ¬ dp < 0) (h3 : ¬ nn < 0) (h4 : sp.toNatClampNeg + nn.toNatClampNeg ≤ z.toNatClampNeg) (h5 : dp.toNatClampNeg + nn.toNatClampNeg ≤ z'.toNatClampNeg) (hus : us = (List.range nn.toNatClampNeg).map fun i => vs.getD (sp.toNatClampNeg + i) dv) (hl : dp.toNatClampNeg + nn.toNatClampNeg ≤ vd.length) (ge : n0 ≤ b)
    (hd : decode bytes pc = .ok (.invokestatic index, 3)) (hp : pc + 3 = pc') (hsz : Ls.size = ml) (hf : 1 ≤ R.frames) (hW : 2 * 0 + (st.map fun v => v.category).sum ≤ W) (hlo : W + (nativeFrameWords "java/lang/System" "arraycopy" 5 + 11) ≤ R.locals)
    (r : ∀ h', Keep h h' [b] → Arv Z h' b k' ty z' (vd.take dp.toNatClampNeg ++ us ++ vd.drop (dp.toNatClampNeg + nn.toNatClampNeg)) dd → OGo p l e R s m args below meth c n0 Q h' cells slots pc' Ls st) : OGo p l e R s m args below meth c n0 Q h cells slots pc Ls (.int nn :: .int dp :: .ref b :: .int sp :: .ref a :: st) := by
  subst hp
  intro T locs k n X e0 N h1' h2'
  obtain ⟨T', h', L, X', e', N', K', V', st'⟩ := RoadKit.cpA X K.ex K.hZ K.hown w1 w2 w3 w4 e0 A B (Or.inl ⟨rfl, hty⟩) h1 h2 h3 h4 h5 hus hl N ge (g := mkF m pc Ls (.int nn :: .int dp :: .ref b :: .int sp :: .ref a :: st)) rfl (hsz.trans K.hml.symm) rfl (hb K.by hd) hf hW hlo
  obtain ⟨s₂, v, L2, g, r'⟩ := r h' K' V' T' L k n X' e' N' h1' h2'
  exact ⟨s₂, v, L2, st' _ g, r'⟩
theorem OGo.callQV (K : OCx p l e R s m args below meth c Z own nm bytes ml rt) {y : MethodName} {a : Addr} {C0 : String} {ni : Nat} {index : Nat} {bytes' : ByteArray} {maxL : Nat} {ret : Option FieldType} {rm : Room} {W cells' slots' : Nat} {argsL : List Value} {P : Value → Heap → Prop} (E : Exa Z h a C0) (w1 : (Jvm.Cond.methodLink own index y).before a0 Z = true) (w2 : (Jvm.Cond.instanceMethod y).before a0 Z = true) (w5 : (Jvm.Cond.instantiable y.cls ni).before a0 Z = true) (w6 : (Jvm.Cond.privateMethod y).before a0 Z = true) (w3 : (Jvm.Cond.initialized y.cls).before a0 Z = true) (w4 : (Jvm.Cond.code y bytes' maxL ret).before a0 Z = true) (hy : y.cls ≠ "java/lang/invoke/MethodHandle" ∧ y.cls ≠ "java/lang/invoke/VarHandle") (C : OCon l Z n0 y bytes' maxL ret [] rm ((.ref a :: argsL).toArray) h (OV P)) (hd : decode bytes pc = .ok (.invokevirtual index, 3)) (hp : pc + 3 = pc') (hsz : Ls.size = ml) (hlen : ∀ sig, parseMethodDescriptor y.desc = some sig → argsL.length = sig.parameters.length) (hW : 2 * 0 + (st.map fun v => v.category).sum ≤ W) (hf : rm.frames + 1 ≤ R.frames) (hlo : W + (maxL + 11) + rm.locals ≤ R.locals) (hc : cells + rm.cells = cells') (hl : slots + rm.slots = slots') (hc' : cells' ≤ R.cells) (hl' : slots' ≤ R.slots) (r : ∀ (w : Value) (h' : Heap), P w h' → OGo p l e R s m args below meth c n0 Q h' cells' slots' pc' Ls (w :: st))
    : OGo p l e R s m args below meth c n0 Q h cells slots pc Ls (argsL.reverse ++ .ref a :: st) := by
  subst hp hc hl
  intro T locs k n X e0 N h1 h2
  obtain ⟨cq, q, q'⟩ := E.cell
  obtain ⟨_, _, ⟨T', L', k', n'⟩, -, X', ⟨Lc, ⟨hQ, hN⟩, l', y', z'⟩, stp⟩ := own_private X K.ex (y := y) K.hown (mvT K.hZ w1) (mvT K.hZ w2) (mvT K.hZ w5) (Cond.privateMethod_at (mvP K.hZ w6 (args := #[]))) (mvT K.hZ w4) hy (backOf (W := W) (Q := fun v h L => (OV P) v h ∧ Fr n0 L) C K.hZ w4 w3 hf hlo) (g := mkF m pc Ls (argsL.reverse ++ .ref a :: st)) rfl (hsz.trans K.hml.symm) (a := a) (by rw [e0]; exact q) q' (argsL := argsL) (rest := st) hlen rfl hW (hb K.by hd) (fun _ _ => ⟨rfl, e0, (by show k + rm.cells ≤ R.cells; omega), (by show n + rm.slots ≤ R.slots; omega)⟩)
  dsimp only [Pt.U, Pt.locs, Pt.cells, Pt.slots] at X' l' y' z' stp hQ
  subst l' y' z'
  obtain ⟨w, rfl, hQ⟩ := hQ
  obtain ⟨s₂, v, L, g, r'⟩ := r w _ hQ T' _ _ _ X' rfl (Fr.app N hN) (by omega) (by omega)
  exact ⟨s₂, v, L, stp.trans g, r'⟩
theorem OGo.callQN (K : OCx p l e R s m args below meth c Z own nm bytes ml rt) {y : MethodName} {a : Addr} {C0 : String} {ni : Nat} {index : Nat} {bytes' : ByteArray} {maxL : Nat} {ret : Option FieldType} {rm : Room} {W cells' slots' : Nat} {argsL : List Value} {P : Heap → Prop} (E : Exa Z h a C0) (w1 : (Jvm.Cond.methodLink own index y).before a0 Z = true) (w2 : (Jvm.Cond.instanceMethod y).before a0 Z = true) (w5 : (Jvm.Cond.instantiable y.cls ni).before a0 Z = true) (w6 : (Jvm.Cond.privateMethod y).before a0 Z = true) (w3 : (Jvm.Cond.initialized y.cls).before a0 Z = true) (w4 : (Jvm.Cond.code y bytes' maxL ret).before a0 Z = true) (hy : y.cls ≠ "java/lang/invoke/MethodHandle" ∧ y.cls ≠ "java/lang/invoke/VarHandle") (C : OCon l Z n0 y bytes' maxL ret [] rm ((.ref a :: argsL).toArray) h (ON P)) (hd : decode bytes pc = .ok (.invokevirtual index, 3)) (hp : pc + 3 = pc') (hsz : Ls.size = ml) (hlen : ∀ sig, parseMethodDescriptor y.desc = some sig → argsL.length = sig.parameters.length) (hW : 2 * 0 + (st.map fun v => v.category).sum ≤ W) (hf : rm.frames + 1 ≤ R.frames) (hlo : W + (maxL + 11) + rm.locals ≤ R.locals) (hc : cells + rm.cells = cells') (hl : slots + rm.slots = slots') (hc' : cells' ≤ R.cells) (hl' : slots' ≤ R.slots) (r : ∀ (h' : Heap), P h' → OGo p l e R s m args below meth c n0 Q h' cells' slots' pc' Ls st)
    : OGo p l e R s m args below meth c n0 Q h cells slots pc Ls (argsL.reverse ++ .ref a :: st) := by
  subst hp hc hl
  intro T locs k n X e0 N h1 h2
  obtain ⟨cq, q, q'⟩ := E.cell
  obtain ⟨_, _, ⟨T', L', k', n'⟩, -, X', ⟨Lc, ⟨hQ, hN⟩, l', y', z'⟩, stp⟩ := own_private X K.ex (y := y) K.hown (mvT K.hZ w1) (mvT K.hZ w2) (mvT K.hZ w5) (Cond.privateMethod_at (mvP K.hZ w6 (args := #[]))) (mvT K.hZ w4) hy (backOf (W := W) (Q := fun v h L => (ON P) v h ∧ Fr n0 L) C K.hZ w4 w3 hf hlo) (g := mkF m pc Ls (argsL.reverse ++ .ref a :: st)) rfl (hsz.trans K.hml.symm) (a := a) (by rw [e0]; exact q) q' (argsL := argsL) (rest := st) hlen rfl hW (hb K.by hd) (fun _ _ => ⟨rfl, e0, (by show k + rm.cells ≤ R.cells; omega), (by show n + rm.slots ≤ R.slots; omega)⟩)
  dsimp only [Pt.U, Pt.locs, Pt.cells, Pt.slots] at X' l' y' z' stp hQ
  subst l' y' z'
  obtain ⟨rfl, hQ⟩ := hQ
  obtain ⟨s₂, v, L, g, r'⟩ := r  _ hQ T' _ _ _ X' rfl (Fr.app N hN) (by omega) (by omega)
  exact ⟨s₂, v, L, stp.trans g, r'⟩
theorem OGo.acmp (K : OCx p l e R s m args below meth c Z own nm bytes ml rt) {cd : ACond} {o : Int} {x y : Value} {same : Bool} (hd : decode bytes pc = .ok (.if_acmp cd o, 3)) (h1 : x.isRef = true) (h2 : y.isRef = true) (hq : decide (x = y) = same) (ho : 0 ≤ (pc : Int) + o) (hp : pc' = if acV cd same = true then ((pc : Int) + o).toNat else pc + 3) (r : OGo p l e R s m args below meth c n0 Q h cells slots pc' Ls st) : OGo p l e R s m args below meth c n0 Q h cells slots pc Ls (y :: x :: st) :=
  OGo.same (fun T locs k n X e0 => ⟨T, X, e0, fun t q => RoadKit.acmp X K.ex (g := mkF m pc Ls (y :: x :: st)) rfl h1 h2 rfl (hb K.by hd) rfl hq ho hp q⟩) r
theorem OGo.castY (K : OCx p l e R s m args below meth c Z own nm bytes ml rt) {C : String} {index : Nat} {a : Addr} (w : (Jvm.Cond.classLink own index C).before a0 Z = true) (I : Ins Z h a C true) (hd : decode bytes pc = .ok (.checkcast index, 3)) (hp : pc + 3 = pc') (r : OGo p l e R s m args below meth c n0 Q h cells slots pc' Ls (.ref a :: st)) : OGo p l e R s m args below meth c n0 Q h cells slots pc Ls (.ref a :: st) := by
  subst hp
  exact OGo.same (fun T locs k n X e0 => RoadKit.castY X K.ex K.hZ K.hown w e0 I (g := mkF m pc Ls (.ref a :: st)) rfl rfl (hb K.by hd)) r
theorem OGo.instY (K : OCx p l e R s m args below meth c Z own nm bytes ml rt) {C : String} {index : Nat} {a : Addr} (w : (Jvm.Cond.classLink own index C).before a0 Z = true) (I : Ins Z h a C true) (hd : decode bytes pc = .ok (.instanceof index, 3)) (hp : pc + 3 = pc') (r : OGo p l e R s m args below meth c n0 Q h cells slots pc' Ls (.int 1 :: st)) : OGo p l e R s m args below meth c n0 Q h cells slots pc Ls (.ref a :: st) := by
  subst hp
  exact OGo.same (fun T locs k n X e0 => RoadKit.instY X K.ex K.hZ K.hown w e0 I (g := mkF m pc Ls (.ref a :: st)) rfl rfl (hb K.by hd)) r
theorem OGo.ldcI (K : OCx p l e R s m args below meth c Z own nm bytes ml rt) {index : Nat} {v : Int32} (w : (Jvm.Cond.constant own index v).before a0 Z = true) (hd : decode bytes pc = .ok (.ldc index, 2)) (hp : pc + 2 = pc') (r : OGo p l e R s m args below meth c n0 Q h cells slots pc' Ls (.int v :: st)) : OGo p l e R s m args below meth c n0 Q h cells slots pc Ls st := by
  subst hp
  exact OGo.same (fun T locs k n X e0 => ⟨T, X, e0, fun t q => X.ldcInt K.ex K.hown (mvT K.hZ w) (g := mkF m pc Ls st) rfl (hb K.by hd) t q⟩) r
theorem OGo.ldcwI (K : OCx p l e R s m args below meth c Z own nm bytes ml rt) {index : Nat} {v : Int32} (w : (Jvm.Cond.constant own index v).before a0 Z = true) (hd : decode bytes pc = .ok (.ldc_w index, 3)) (hp : pc + 3 = pc') (r : OGo p l e R s m args below meth c n0 Q h cells slots pc' Ls (.int v :: st)) : OGo p l e R s m args below meth c n0 Q h cells slots pc Ls st := by
  subst hp
  exact OGo.same (fun T locs k n X e0 => ⟨T, X, e0, fun t q => X.ldcwInt K.ex K.hown (mvT K.hZ w) (g := mkF m pc Ls st) rfl (hb K.by hd) t q⟩) r
theorem OGo.ldcJ (K : OCx p l e R s m args below meth c Z own nm bytes ml rt) {index : Nat} {v : Int64} (w : (Jvm.Cond.constantLong own index v).before a0 Z = true) (hd : decode bytes pc = .ok (.ldc2_w index, 3)) (hp : pc + 3 = pc') (r : OGo p l e R s m args below meth c n0 Q h cells slots pc' Ls (.long v :: st)) : OGo p l e R s m args below meth c n0 Q h cells slots pc Ls st := by
  subst hp
  exact OGo.same (fun T locs k n X e0 => ⟨T, X, e0, fun t q => X.ldc2Long K.ex K.hown (mvT K.hZ w) (g := mkF m pc Ls st) rfl (hb K.by hd) t q⟩) r
theorem OGo.ldcD (K : OCx p l e R s m args below meth c Z own nm bytes ml rt) {index : Nat} {v : UInt64} (w : (Jvm.Cond.constantDouble own index v).before a0 Z = true) (hd : decode bytes pc = .ok (.ldc2_w index, 3)) (hp : pc + 3 = pc') (r : OGo p l e R s m args below meth c n0 Q h cells slots pc' Ls (.double v :: st)) : OGo p l e R s m args below meth c n0 Q h cells slots pc Ls st := by
  subst hp
  exact OGo.same (fun T locs k n X e0 => ⟨T, X, e0, fun t q => X.ldc2DoubleC K.ex K.hown (mvT K.hZ w) (g := mkF m pc Ls st) rfl (hb K.by hd) t q⟩) r
end OwnLayer
theorem own_ushr {x q : Int32} {k : Nat} (hk : q.toBitVec.toNat % 32 = k) (h0 : 0 < k) (hx : 0 ≤ x.toInt) : (ushr x q).toInt = x.toInt / (2 ^ k : Nat) := by
  have h := c_iushr x q k hk h0
  have r := rng32 x
  rw [Int.emod_eq_of_lt hx (by omega)] at h
  exact h
theorem own_ushrL {v : Int64} {q : Int32} {k : Nat} (hq : q.toInt = k) (hk : 0 < k ∧ k < 64) (hv : 0 ≤ v.toInt) : (ushrL v q).toInt = v.toInt / (2 ^ k : Nat) := by
  have h2 : q.toBitVec.toNat = k := by
    have h3 : q.toBitVec.toInt = k := hq
    rw [BitVec.toInt_eq_toNat_cond] at h3
    have h4 := q.toBitVec.isLt
    split at h3 <;> omega
  have h := c_lushr v q k (by omega) hk.1
  have r := rng64 v
  rw [Int.emod_eq_of_lt hv (by omega)] at h
  exact h
theorem own_nlz_step {n i ns q : Int32} {X k : Nat} (s : Nat) (hns : ns.toInt = -(s : Int)) (hq : q.toBitVec.toNat % 32 = s) (hs : 0 < s ∧ s ≤ 16) (h1 : n.toInt = 31 - (k : Int)) (h2 : i.toInt = ((X / 2 ^ k : Nat) : Int)) (hk : k ≤ 31) : (n + ns).toInt = 31 - ((k + s : Nat) : Int) ∧ (ushr i q).toInt = ((X / 2 ^ (k + s) : Nat) : Int) ∧ (ushr i q).toInt = i.toInt / (2 ^ s : Nat) := by
  have a1 := c_iadd n ns
  have a2 := rng32 (n + ns)
  have nn : (0 : Int) ≤ ((X / 2 ^ k : Nat) : Int) := Int.natCast_nonneg _
  have u := own_ushr (x := i) hq hs.1 (by omega)
  refine ⟨by omega, ?_, u⟩
  rw [u, h2, Nat.pow_add, ← Nat.div_div_eq_div_mul]
  exact (Int.natCast_ediv _ _).symm
theorem own_nlz_fin {n i : Int32} {X k : Nat} (h1 : n.toInt = 31 - (k : Int)) (h2 : i.toInt = ((X / 2 ^ k : Nat) : Int)) (h3 : 0 < i.toInt) (h4 : i.toInt < 4) (hk : k ≤ 30) : ∃ L : Nat, Value.int (n - ushr i 1) = .int (Int32.ofNat (31 - L)) ∧ L ≤ 31 ∧ 2 ^ L ≤ X ∧ X < 2 ^ (L + 1) := by
  have u := own_ushr (x := i) (q := 1) (k := 1) rfl (by decide) (by omega)
  have s1 := c_isub n (ushr i 1)
  have s2 := rng32 (n - ushr i 1)
  have d := Nat.div_add_mod X (2 ^ k)
  have m := Nat.mod_lt X (Nat.two_pow_pos k)
  have hi : X / 2 ^ k = 1 ∨ X / 2 ^ k = 2 ∨ X / 2 ^ k = 3 := by omega
  have fin : ∀ L : Nat, L ≤ 31 → (n - ushr i 1).toInt = 31 - (L : Int) → Value.int (n - ushr i 1) = .int (Int32.ofNat (31 - L)) := fun L hL e => by
    have : n - ushr i 1 = Int32.ofNat (31 - L) := by
      apply Int32.toInt_inj.mp
      rw [toInt_of (n := Int32.ofNat (31 - L)) rfl (by omega), e]; omega
    rw [this]
  have p1 : 2 ^ (k + 1) = 2 * 2 ^ k := by rw [Nat.pow_succ, Nat.mul_comm]
  have p2 : 2 ^ (k + 1 + 1) = 4 * 2 ^ k := by rw [Nat.pow_succ, Nat.pow_succ]; omega
  generalize hP : 2 ^ k = P at *
  rcases hi with e | e | e
  · rw [e] at d h2
    exact ⟨k, fin k (by omega) (by omega), by omega, by omega, by omega⟩
  · rw [e] at d h2
    exact ⟨k + 1, fin (k + 1) (by omega) (by omega), by omega, by omega, by omega⟩
  · rw [e] at d h2
    exact ⟨k + 1, fin (k + 1) (by omega) (by omega), by omega, by omega, by omega⟩
theorem own_hi {v : Int64} {V : Nat} (hV : v.toInt = V) : ((ushrL v 32).toInt32).toInt = ((V / 4294967296 : Nat) : Int) := by
  have u := own_ushrL (v := v) (q := 32) (k := 32) rfl (by decide) (by omega)
  have r := rng64 v
  have c := c_l2i (ushrL v 32)
  have r2 := rng32 (ushrL v 32).toInt32
  rw [show ((2 ^ 32 : Nat) : Int) = 4294967296 from rfl] at u
  omega
theorem own_lo {v : Int64} {V : Nat} (hV : v.toInt = V) (h : V < 4294967296) : v.toInt32.toInt % 4294967296 = V := by
  have c := c_l2i v
  omega
theorem own_ofn {a b : Nat} (h : a + b < 2 ^ 31) : Int32.ofNat a + Int32.ofNat b = Int32.ofNat (a + b) := by
  apply Int32.toInt_inj.mp
  have h1 := c_iadd (Int32.ofNat a) (Int32.ofNat b)
  have h2 := rng32 (Int32.ofNat a + Int32.ofNat b)
  have e1 := toInt_of (n := Int32.ofNat a) rfl (by omega)
  have e2 := toInt_of (n := Int32.ofNat b) rfl (by omega)
  have e3 := toInt_of (n := Int32.ofNat (a + b)) rfl h
  omega
def OTI (Z : State) (n0 : Nat) (h : Heap) (a xk xr xs : Addr) (R C S n : Nat) (F : Int32) (rv sv : List Value) : Prop :=
  Exa Z h a "com/example/centroute/centroute/median/TupleIndex" ∧ Fld Z h a "com/example/centroute/centroute/median/TupleIndex" "width" "I" (.int 1) ∧ Fld Z h a "com/example/centroute/centroute/median/TupleIndex" "rowLength" "I" (.int (Int32.ofNat R)) ∧ Fld Z h a "com/example/centroute/centroute/median/TupleIndex" "fill" "I" (.int F) ∧ Fld Z h a "com/example/centroute/centroute/median/TupleIndex" "keys" "[I" (.ref xk) ∧ Fld Z h a "com/example/centroute/centroute/median/TupleIndex" "rows" "[I" (.ref xr) ∧ Fld Z h a "com/example/centroute/centroute/median/TupleIndex" "slots" "[I" (.ref xs) ∧ Fld Z h a "com/example/centroute/centroute/median/TupleIndex" "size" "I" (.int (Int32.ofNat n)) ∧
  (∃ k kv, Arv Z h xk k .int (Int32.ofNat C) kv (.int 0) ∧ kv.length = C) ∧ (∃ k, Arv Z h xr k .int (Int32.ofNat (C * R)) rv (.int 0) ∧ rv.length = C * R) ∧ (∃ k, Arv Z h xs k .int (Int32.ofNat S) sv (.int 0) ∧ sv.length = S) ∧
  (a ≠ xk ∧ a ≠ xr ∧ a ≠ xs ∧ xk ≠ xr ∧ xk ≠ xs ∧ xr ≠ xs) ∧ (n0 ≤ a ∧ n0 ≤ xk ∧ n0 ≤ xr ∧ n0 ≤ xs) ∧ (1 ≤ R ∧ R ≤ 4) ∧ (1 ≤ C ∧ C ≤ 8) ∧ (S = 4 ∨ S = 8 ∨ S = 16)
def own_hb (C : Nat) : Nat := if C < 2 then 1 else if C < 4 then 2 else 4
theorem own_hb_S {C : Nat} (h : 1 ≤ C ∧ C ≤ 4) : 4 * own_hb C = 4 ∨ 4 * own_hb C = 8 ∨ 4 * own_hb C = 16 := by unfold own_hb; split <;> (try split) <;> omega
theorem own_t32 {n : Nat} (h : n < 1000) : (Int32.ofNat n).toInt = n ∧ ¬ (Int32.ofNat n) < 0 ∧ (Int32.ofNat n).toNatClampNeg = n := by
  have e1 := toInt_of (n := Int32.ofNat n) rfl (by omega)
  have e2 := clamp_of (n := Int32.ofNat n) rfl (by omega)
  have e4 : (0 : Int32).toInt = 0 := rfl
  exact ⟨e1, by rw [Int32.lt_iff_toInt_lt, e1, e4]; omega, e2⟩
theorem own_lt32 {n N : Nat} (h : n < 1000) (hN : N < 1000) : Int32.ofNat n < Int32.ofNat N ↔ n < N := by
  rw [Int32.lt_iff_toInt_lt, (own_t32 h).1, (own_t32 hN).1]; omega
theorem own_a32 {n N : Nat} (h : n < N) (hN : N < 1000) : ¬ (Int32.ofNat n) < 0 ∧ Int32.ofNat n < Int32.ofNat N := ⟨(own_t32 (by omega)).2.1, (own_lt32 (by omega) hN).mpr h⟩
theorem own_add32 (a b : Nat) (h : a + b < 2 ^ 31) : Int32.ofNat a + Int32.ofNat b = Int32.ofNat (a + b) := own_ofn h
theorem own_mul32 (a b : Nat) (h : a < 1000 ∧ b < 1000) : Int32.ofNat a * Int32.ofNat b = Int32.ofNat (a * b) := by
  have hab : a * b ≤ 1000 * 1000 := Nat.mul_le_mul (by omega) (by omega)
  apply Int32.toInt_inj.mp
  have h1 := c_imul (Int32.ofNat a) (Int32.ofNat b)
  have h2 := rng32 (Int32.ofNat a * Int32.ofNat b)
  rw [(own_t32 h.1).1, (own_t32 h.2).1, ← Int.natCast_mul] at h1
  have e3 := toInt_of (n := Int32.ofNat (a * b)) rfl (by omega)
  omega
theorem own_max1 {C : Nat} (h : 1 ≤ C ∧ C ≤ 4) : (if (1 : Int32) < Int32.ofNat C then Int32.ofNat C else 1) = Int32.ofNat C := by
  split
  · rfl
  · rename_i q
    rw [show (1 : Int32) = Int32.ofNat 1 from rfl, own_lt32 (by omega) (by omega)] at q
    rw [show C = 1 by omega]; rfl
theorem own_hobv {C L : Nat} (h : 1 ≤ C ∧ C ≤ 4) (h1 : 2 ^ L ≤ C) (h2 : C < 2 ^ (L + 1)) (hL : L ≤ 31) : (Int32.ofNat C &&& ushr (-2147483648) (Int32.ofNat (31 - L))) = Int32.ofNat (own_hb C) := by
  have hl : L < 3 := by
    apply Nat.lt_of_not_le; intro q
    have := Nat.pow_le_pow_right (show 0 < 2 by decide) q
    rw [show 2 ^ 3 = 8 from rfl] at this; omega
  have hc : C = 1 ∨ C = 2 ∨ C = 3 ∨ C = 4 := by omega
  have hl' : L = 0 ∨ L = 1 ∨ L = 2 := by omega
  rcases hc with rfl | rfl | rfl | rfl <;> rcases hl' with rfl | rfl | rfl <;> first | (simp at h1; done) | (simp at h2; done) | decide
def own_h (x : Int32) (S : Nat) : Nat := ((x * (-1640531535)).toInt % 4294967296).toNat / (4294967296 / S)
theorem own_h_lt (x : Int32) {S : Nat} (h : S = 4 ∨ S = 8 ∨ S = 16) : own_h x S < S := by
  unfold own_h
  rcases h with rfl | rfl | rfl <;> simp only [Nat.reduceDiv] <;> omega
theorem own_hashv (x : Int32) {S L : Nat} (h : S = 4 ∨ S = 8 ∨ S = 16) (h1 : 2 ^ L ≤ S) (h2 : S < 2 ^ (L + 1)) : ushr (x * (-1640531535)) (Int32.ofNat (31 - L) + 1) = Int32.ofNat (own_h x S) := by
  have hs := own_h_lt x h
  have hl : L < 5 := by
    apply Nat.lt_of_not_le; intro q
    have := Nat.pow_le_pow_right (show 0 < 2 by decide) q
    rw [show 2 ^ 5 = 32 from rfl] at this; omega
  have hl' : L = 0 ∨ L = 1 ∨ L = 2 ∨ L = 3 ∨ L = 4 := by omega
  have key : ∀ k : Nat, ∀ q : Int32, q.toBitVec.toNat % 32 = k → 0 < k → (2 ^ k : Nat) = 4294967296 / S → ushr (x * (-1640531535)) q = Int32.ofNat (own_h x S) := fun k q hk h0 he => by
    have c := c_iushr (x * (-1640531535)) q k hk h0
    apply Int32.toInt_inj.mp
    rw [(own_t32 (by omega)).1]
    show ((x * (-1640531535)).toUInt32 >>> (q &&& 31).toUInt32).toInt32.toInt = _
    rw [c, he]
    unfold own_h
    conv => rhs; rw [Int.natCast_ediv, Int.toNat_of_nonneg (Int.emod_nonneg _ (by decide))]
  rcases h with rfl | rfl | rfl <;> rcases hl' with rfl | rfl | rfl | rfl | rfl <;> first | (simp at h1; done) | (simp at h2; done) | exact key 30 _ rfl (by decide) rfl | exact key 29 _ rfl (by decide) rfl | exact key 28 _ rfl (by decide) rfl
theorem own_xor1 (x : Int32) : (x ^^^ 1).toInt = x.toInt + 1 ∨ (x ^^^ 1).toInt = x.toInt - 1 := by
  have h := c_xor2 x 1
  have hb : (x ^^^ 1).toBitVec.toNat / 2 = x.toBitVec.toNat / 2 := by
    rw [Int32.toBitVec_xor, BitVec.toNat_xor]
    have e : ∀ n : Nat, n / 2 = n >>> 1 := fun n => (Nat.shiftRight_eq_div_pow n 1).symm
    rw [e, e, Nat.shiftRight_xor_distrib, show (1 : Int32).toBitVec.toNat >>> 1 = 0 from rfl, Nat.xor_zero]
  have i1 : (x ^^^ 1).toInt = (x ^^^ 1).toBitVec.toInt := rfl
  have i2 : x.toInt = x.toBitVec.toInt := rfl
  have l1 := (x ^^^ 1).toBitVec.isLt
  have l2 := x.toBitVec.isLt
  rw [BitVec.toInt_eq_toNat_cond] at i1 i2
  rw [show (1 : Int32).toInt = 1 from rfl] at h
  split at i1 <;> split at i2 <;> omega
theorem own_h_m1 (u v z : Int) (a : (u - z * -1640531535) % 4294967296 = 0) (b : (v - (z + 1) * -1640531535) % 4294967296 = 0) : v % 4294967296 = u % 4294967296 + 2654435761 ∨ v % 4294967296 + 1640531535 = u % 4294967296 := by omega
theorem own_h_m2 (u v z : Int) (a : (u - z * -1640531535) % 4294967296 = 0) (b : (v - (z - 1) * -1640531535) % 4294967296 = 0) : u % 4294967296 = v % 4294967296 + 2654435761 ∨ u % 4294967296 + 1640531535 = v % 4294967296 := by omega
theorem own_h_key (U V d : Nat) (h : V = U + 2654435761 ∨ V + 1640531535 = U ∨ U = V + 2654435761 ∨ U + 1640531535 = V) (hd : d = 1073741824 ∨ d = 536870912 ∨ d = 268435456) : U / d ≠ V / d := by
  rcases hd with rfl | rfl | rfl <;> omega
theorem own_h_n (u v z : Int) (y : Int) (a : (u - z * -1640531535) % 4294967296 = 0) (b : (v - y * -1640531535) % 4294967296 = 0) (e : y = z + 1 ∨ y = z - 1) (d : Nat) (hd : d = 1073741824 ∨ d = 536870912 ∨ d = 268435456) : (u % 4294967296).toNat / d ≠ (v % 4294967296).toNat / d := by
  have p : 0 ≤ u % 4294967296 := Int.emod_nonneg _ (by decide)
  have q : 0 ≤ v % 4294967296 := Int.emod_nonneg _ (by decide)
  apply own_h_key _ _ _ _ hd
  rcases e with rfl | rfl
  · have c := own_h_m1 u v z a b
    generalize u % 4294967296 = U at *
    generalize v % 4294967296 = V at *
    omega
  · have c := own_h_m2 u v z a b
    generalize u % 4294967296 = U at *
    generalize v % 4294967296 = V at *
    omega
theorem own_h_ne (x : Int32) {S : Nat} (h : S = 4 ∨ S = 8 ∨ S = 16) : own_h x S ≠ own_h (x ^^^ 1) S := by
  have a := c_imul x (-1640531535)
  have b := c_imul (x ^^^ 1) (-1640531535)
  rw [show (-1640531535 : Int32).toInt = -1640531535 from rfl] at a b
  exact own_h_n _ _ _ _ a b (own_xor1 x) _ (by rcases h with rfl | rfl | rfl; exact Or.inl rfl; exact Or.inr (Or.inl rfl); exact Or.inr (Or.inr rfl))
theorem own_set_ne {us : List Value} {i j : Nat} {v d : Value} (h : i ≠ j) : (us.set i v).getD j d = us.getD j d := by
  rw [List.getD_eq_getElem?_getD, List.getD_eq_getElem?_getD, List.getElem?_set_ne h]
theorem own_set_eq {us : List Value} {i : Nat} {v d : Value} (h : i < us.length) : (us.set i v).getD i d = v := by
  rw [List.getD_eq_getElem?_getD, List.getElem?_set_self h]; rfl
theorem own_l2 {N : Nat} {d : Value} : ([] ++ List.replicate (2 * N) d).length = 2 * N := by simp
theorem own_cpl {N : Nat} {vs : List Value} (s3 : (Int32.ofNat N).toNatClampNeg = N) : (List.take (0 : Int32).toNatClampNeg ([] ++ List.replicate (2 * N) (Value.int 0)) ++ List.map (fun i => vs.getD ((0 : Int32).toNatClampNeg + i) (Value.int 0)) (List.range (Int32.ofNat N).toNatClampNeg) ++ List.drop ((0 : Int32).toNatClampNeg + (Int32.ofNat N).toNatClampNeg) ([] ++ List.replicate (2 * N) (Value.int 0))).length = 2 * N := by
  rw [s3, show (0 : Int32).toNatClampNeg = 0 from rfl]; simp; omega
theorem own_cpv {N i : Nat} {vs : List Value} (s3 : (Int32.ofNat N).toNatClampNeg = N) (hi : i < N) : (List.take (0 : Int32).toNatClampNeg ([] ++ List.replicate (2 * N) (Value.int 0)) ++ List.map (fun i => vs.getD ((0 : Int32).toNatClampNeg + i) (Value.int 0)) (List.range (Int32.ofNat N).toNatClampNeg) ++ List.drop ((0 : Int32).toNatClampNeg + (Int32.ofNat N).toNatClampNeg) ([] ++ List.replicate (2 * N) (Value.int 0))).getD i (.int 0) = vs.getD i (.int 0) := by
  rw [s3, show (0 : Int32).toNatClampNeg = 0 from rfl, List.take_zero, List.nil_append, List.getD_eq_getElem?_getD, List.getElem?_append_left (by simpa using hi)]
  simp [hi]
theorem own_cplen {n C : Nat} {kv : List Value} {u : Nat → Value} (hl : kv.length = C) (h : n + 1 ≤ C) (t : (Int32.ofNat n).toNatClampNeg = n) : (List.take (Int32.ofNat n).toNatClampNeg kv ++ List.map u (List.range (1 : Int32).toNatClampNeg) ++ List.drop ((Int32.ofNat n).toNatClampNeg + (1 : Int32).toNatClampNeg) kv).length = C := by
  rw [t, show (1 : Int32).toNatClampNeg = 1 from rfl]; simp; omega
theorem own_div1 {C : Nat} (h : C < 1000) : Int32.ofNat C / 1 = Int32.ofNat C := by
  have e := (own_t32 h).1
  have q := (c_idiv (Int32.ofNat C) 1 1 rfl (by decide)).1 (by omega)
  apply Int32.toInt_inj.mp
  rw [q, Int.ediv_one]
theorem own_ix {e' t' R C : Nat} (he : e' < C) (ht : t' < R) : e' * R + t' < C * R := by
  have : (e' + 1) * R ≤ C * R := Nat.mul_le_mul_right R he
  rw [Nat.add_mul, Nat.one_mul] at this; omega
theorem own_rep0 (N i : Nat) : (List.replicate N (Value.int 0)).getD i (.int 0) = .int 0 := by
  rw [List.getD_eq_getElem?_getD, List.getElem?_replicate]; split <;> rfl
theorem own_one3 (x : Int32) : ∃ R : Nat, 1 + (x &&& 3) = Int32.ofNat R ∧ 1 ≤ R ∧ R ≤ 4 := by
  obtain ⟨h0, h1⟩ := c_and x 3 (by decide)
  rw [show (3 : Int32).toInt = 3 from rfl] at h1
  have a := c_iadd 1 (x &&& 3)
  have r := rng32 (1 + (x &&& 3))
  rw [show (1 : Int32).toInt = 1 from rfl] at a
  refine ⟨(1 + (x &&& 3)).toInt.toNat, ?_, by omega, by omega⟩
  apply Int32.toInt_inj.mp
  rw [(own_t32 (by omega)).1]; omega
theorem own_nz {R : Nat} (h : 1 ≤ R) (h2 : R < 1000) : Int32.ofNat R ≠ 0 := fun q => by
  have := (own_t32 h2).1
  rw [q, show (0 : Int32).toInt = 0 from rfl] at this; omega
theorem own_modR (x : Int32) {R : Nat} (h : 1 ≤ R ∧ R ≤ 4) : ∃ t : Nat, (x &&& 2147483647) % Int32.ofNat R = Int32.ofNat t ∧ t < R := by
  have h0 : 0 ≤ (x &&& 2147483647).toInt := (c_andS x 2147483647).2.2 (by decide)
  have h1 := (c_irem (x &&& 2147483647) (Int32.ofNat R) R (own_t32 (by omega)).1).1 h0
  have h2 := Int.emod_lt_of_pos (x &&& 2147483647).toInt (show 0 < (R : Int) by omega)
  have h3 := Int.emod_nonneg (x &&& 2147483647).toInt (show (R : Int) ≠ 0 by omega)
  refine ⟨((x &&& 2147483647) % Int32.ofNat R).toInt.toNat, ?_, by omega⟩
  apply Int32.toInt_inj.mp
  rw [(own_t32 (by omega)).1]; omega
theorem own_modS (t : Nat) {R : Nat} (h : 1 ≤ R ∧ R ≤ 4) (ht : t < R) : ∃ u : Nat, (Int32.ofNat t + 1) % Int32.ofNat R = Int32.ofNat u ∧ u < R := by
  have e := own_add32 t 1 (by omega)
  rw [show Int32.ofNat 1 = 1 from rfl] at e
  rw [e]
  have h1 := (c_irem (Int32.ofNat (t + 1)) (Int32.ofNat R) R (own_t32 (by omega)).1).1 (by rw [(own_t32 (by omega)).1]; omega)
  rw [(own_t32 (n := t + 1) (by omega)).1] at h1
  have h2 := Int.emod_lt_of_pos ((t + 1 : Nat) : Int) (show 0 < (R : Int) by omega)
  have h3 := Int.emod_nonneg ((t + 1 : Nat) : Int) (show (R : Int) ≠ 0 by omega)
  refine ⟨(Int32.ofNat (t + 1) % Int32.ofNat R).toInt.toNat, ?_, by omega⟩
  apply Int32.toInt_inj.mp
  rw [(own_t32 (by omega)).1]; omega
theorem own_kext {h h' : Heap} (E : Ext h h') : Keep h h' [] := (Keep.refl h []).ext E
theorem own_oti_keep {Z : State} {n0 : Nat} {h h' : Heap} {a xk xr xs : Addr} {R C S n : Nat} {F : Int32} {rv sv : List Value} {ws : List Addr} (O : OTI Z n0 h a xk xr xs R C S n F rv sv) (K : Keep h h' ws) (q1 : a ∉ ws) (q2 : xk ∉ ws) (q3 : xr ∉ ws) (q4 : xs ∉ ws) : OTI Z n0 h' a xk xr xs R C S n F rv sv := by
  obtain ⟨E, F1, F2, F3, F4, F5, F6, F7, ⟨k1, kv, V1, l1⟩, ⟨k2, V2, l2⟩, ⟨k3, V3, l3⟩, r⟩ := O
  exact ⟨E.keep K, F1.keep K q1, F2.keep K q1, F3.keep K q1, F4.keep K q1, F5.keep K q1, F6.keep K q1, F7.keep K q1, ⟨k1, kv, V1.keep K q2, l1⟩, ⟨k2, V2.keep K q3, l2⟩, ⟨k3, V3.keep K q4, l3⟩, r⟩
theorem own_oti_lt {Z : State} {n0 : Nat} {h : Heap} {a xk xr xs : Addr} {R C S n : Nat} {F : Int32} {rv sv : List Value} (O : OTI Z n0 h a xk xr xs R C S n F rv sv) : a < h.size ∧ xk < h.size ∧ xr < h.size ∧ xs < h.size := by
  obtain ⟨E, F1, F2, F3, F4, F5, F6, F7, ⟨k1, kv, V1, l1⟩, ⟨k2, V2, l2⟩, ⟨k3, V3, l3⟩, r⟩ := O
  exact ⟨E.lt, V1.lt, V2.lt, V3.lt⟩
theorem own_d3_0 : decode jdk_29_method_65_code 0 = .ok (.iload_n 0, 1) := by decide +kernel
theorem own_d3_1 : decode jdk_29_method_65_code 1 = .ok (.iload_n 1, 1) := by decide +kernel
theorem own_d3_2 : decode jdk_29_method_65_code 2 = .ok (.if_icmp .lt 7, 3) := by decide +kernel
theorem own_d3_9 : decode jdk_29_method_65_code 9 = .ok (.iload_n 1, 1) := by decide +kernel
theorem own_d3_10 : decode jdk_29_method_65_code 10 = .ok (.ireturn, 1) := by decide +kernel
theorem own_d3_5 : decode jdk_29_method_65_code 5 = .ok (.iload_n 0, 1) := by decide +kernel
theorem own_d3_6 : decode jdk_29_method_65_code 6 = .ok (.goto 4, 3) := by decide +kernel
theorem own_d5_73 : decode jdk_33_method_47_code 73 = .ok (.iload_n 1, 1) := by decide +kernel
theorem own_d5_74 : decode jdk_33_method_47_code 74 = .ok (.iload_n 0, 1) := by decide +kernel
theorem own_d5_75 : decode jdk_33_method_47_code 75 = .ok (.iconst 1, 1) := by decide +kernel
theorem own_d5_76 : decode jdk_33_method_47_code 76 = .ok (.iushr, 1) := by decide +kernel
theorem own_d5_77 : decode jdk_33_method_47_code 77 = .ok (.isub, 1) := by decide +kernel
theorem own_d5_78 : decode jdk_33_method_47_code 78 = .ok (.ireturn, 1) := by decide +kernel
theorem own_d5_61 : decode jdk_33_method_47_code 61 = .ok (.iload_n 0, 1) := by decide +kernel
theorem own_d5_62 : decode jdk_33_method_47_code 62 = .ok (.iconst 4, 1) := by decide +kernel
theorem own_d5_63 : decode jdk_33_method_47_code 63 = .ok (.if_icmp .lt 10, 3) := by decide +kernel
theorem own_d5_66 : decode jdk_33_method_47_code 66 = .ok (.iinc 1 (-2), 3) := by decide +kernel
theorem own_d5_69 : decode jdk_33_method_47_code 69 = .ok (.iload_n 0, 1) := by decide +kernel
theorem own_d5_70 : decode jdk_33_method_47_code 70 = .ok (.iconst 2, 1) := by decide +kernel
theorem own_d5_71 : decode jdk_33_method_47_code 71 = .ok (.iushr, 1) := by decide +kernel
theorem own_d5_72 : decode jdk_33_method_47_code 72 = .ok (.istore_n 0, 1) := by decide +kernel
theorem own_d5_48 : decode jdk_33_method_47_code 48 = .ok (.iload_n 0, 1) := by decide +kernel
theorem own_d5_49 : decode jdk_33_method_47_code 49 = .ok (.bipush 16, 2) := by decide +kernel
theorem own_d5_51 : decode jdk_33_method_47_code 51 = .ok (.if_icmp .lt 10, 3) := by decide +kernel
theorem own_d5_54 : decode jdk_33_method_47_code 54 = .ok (.iinc 1 (-4), 3) := by decide +kernel
theorem own_d5_57 : decode jdk_33_method_47_code 57 = .ok (.iload_n 0, 1) := by decide +kernel
theorem own_d5_58 : decode jdk_33_method_47_code 58 = .ok (.iconst 4, 1) := by decide +kernel
theorem own_d5_59 : decode jdk_33_method_47_code 59 = .ok (.iushr, 1) := by decide +kernel
theorem own_d5_60 : decode jdk_33_method_47_code 60 = .ok (.istore_n 0, 1) := by decide +kernel
theorem own_d5_33 : decode jdk_33_method_47_code 33 = .ok (.iload_n 0, 1) := by decide +kernel
theorem own_d5_34 : decode jdk_33_method_47_code 34 = .ok (.sipush 256, 3) := by decide +kernel
theorem own_d5_37 : decode jdk_33_method_47_code 37 = .ok (.if_icmp .lt 11, 3) := by decide +kernel
theorem own_d5_40 : decode jdk_33_method_47_code 40 = .ok (.iinc 1 (-8), 3) := by decide +kernel
theorem own_d5_43 : decode jdk_33_method_47_code 43 = .ok (.iload_n 0, 1) := by decide +kernel
theorem own_d5_44 : decode jdk_33_method_47_code 44 = .ok (.bipush 8, 2) := by decide +kernel
theorem own_d5_46 : decode jdk_33_method_47_code 46 = .ok (.iushr, 1) := by decide +kernel
theorem own_d5_47 : decode jdk_33_method_47_code 47 = .ok (.istore_n 0, 1) := by decide +kernel
theorem own_d5_0 : decode jdk_33_method_47_code 0 = .ok (.iload_n 0, 1) := by decide +kernel
theorem own_d5_1 : decode jdk_33_method_47_code 1 = .ok (.ifCond .gt 14, 3) := by decide +kernel
theorem own_d5_15 : decode jdk_33_method_47_code 15 = .ok (.bipush 31, 2) := by decide +kernel
theorem own_d5_17 : decode jdk_33_method_47_code 17 = .ok (.istore_n 1, 1) := by decide +kernel
theorem own_d5_18 : decode jdk_33_method_47_code 18 = .ok (.iload_n 0, 1) := by decide +kernel
theorem own_d5_19 : decode jdk_33_method_47_code 19 = .ok (.ldc_w 264, 3) := by decide +kernel
theorem own_d5_22 : decode jdk_33_method_47_code 22 = .ok (.if_icmp .lt 11, 3) := by decide +kernel
theorem own_d5_25 : decode jdk_33_method_47_code 25 = .ok (.iinc 1 (-16), 3) := by decide +kernel
theorem own_d5_28 : decode jdk_33_method_47_code 28 = .ok (.iload_n 0, 1) := by decide +kernel
theorem own_d5_29 : decode jdk_33_method_47_code 29 = .ok (.bipush 16, 2) := by decide +kernel
theorem own_d5_31 : decode jdk_33_method_47_code 31 = .ok (.iushr, 1) := by decide +kernel
theorem own_d5_32 : decode jdk_33_method_47_code 32 = .ok (.istore_n 0, 1) := by decide +kernel
theorem own_d5_4 : decode jdk_33_method_47_code 4 = .ok (.iload_n 0, 1) := by decide +kernel
theorem own_d5_5 : decode jdk_33_method_47_code 5 = .ok (.ifCond .ne 8, 3) := by decide +kernel
theorem own_d5_13 : decode jdk_33_method_47_code 13 = .ok (.iconst 0, 1) := by decide +kernel
theorem own_d5_14 : decode jdk_33_method_47_code 14 = .ok (.ireturn, 1) := by decide +kernel
theorem own_pn_5 : plainName "java/lang/Integer" = true := by first | (simp [plainName, overriddenIn]; done) | decide +kernel
theorem own_d4_0 : decode jdk_33_method_45_code 0 = .ok (.iload_n 0, 1) := by decide +kernel
theorem own_d4_1 : decode jdk_33_method_45_code 1 = .ok (.ldc 127, 2) := by decide +kernel
theorem own_d4_3 : decode jdk_33_method_45_code 3 = .ok (.iload_n 0, 1) := by decide +kernel
theorem own_d4_4 : decode jdk_33_method_45_code 4 = .ok (.invokestatic 51, 3) := by decide +kernel
theorem own_pd1 : parseMethodDescriptor "(I)I" = some ⟨[.int], some .int⟩ := by decide +kernel
theorem own_d4_7 : decode jdk_33_method_45_code 7 = .ok (.iushr, 1) := by decide +kernel
theorem own_d4_8 : decode jdk_33_method_45_code 8 = .ok (.iand, 1) := by decide +kernel
theorem own_d4_9 : decode jdk_33_method_45_code 9 = .ok (.ireturn, 1) := by decide +kernel
theorem own_d1_0 : decode prog_50_method_1_code 0 = .ok (.aload_n 0, 1) := by decide +kernel
theorem own_d1_1 : decode prog_50_method_1_code 1 = .ok (.invokespecial 1, 3) := by decide +kernel
theorem own_d1_4 : decode prog_50_method_1_code 4 = .ok (.aload_n 0, 1) := by decide +kernel
theorem own_d1_5 : decode prog_50_method_1_code 5 = .ok (.iload_n 1, 1) := by decide +kernel
theorem own_d1_6 : decode prog_50_method_1_code 6 = .ok (.putfield 7, 3) := by decide +kernel
theorem own_d1_9 : decode prog_50_method_1_code 9 = .ok (.aload_n 0, 1) := by decide +kernel
theorem own_d1_10 : decode prog_50_method_1_code 10 = .ok (.iload_n 2, 1) := by decide +kernel
theorem own_d1_11 : decode prog_50_method_1_code 11 = .ok (.putfield 13, 3) := by decide +kernel
theorem own_d1_14 : decode prog_50_method_1_code 14 = .ok (.aload_n 0, 1) := by decide +kernel
theorem own_d1_15 : decode prog_50_method_1_code 15 = .ok (.iload_n 3, 1) := by decide +kernel
theorem own_d1_16 : decode prog_50_method_1_code 16 = .ok (.putfield 16, 3) := by decide +kernel
theorem own_d1_19 : decode prog_50_method_1_code 19 = .ok (.iconst 1, 1) := by decide +kernel
theorem own_d1_20 : decode prog_50_method_1_code 20 = .ok (.iload 4, 2) := by decide +kernel
theorem own_d1_22 : decode prog_50_method_1_code 22 = .ok (.invokestatic 19, 3) := by decide +kernel
theorem own_pd2 : parseMethodDescriptor "(II)I" = some ⟨[.int, .int], some .int⟩ := by decide +kernel
theorem own_d1_25 : decode prog_50_method_1_code 25 = .ok (.istore 5, 2) := by decide +kernel
theorem own_d1_27 : decode prog_50_method_1_code 27 = .ok (.aload_n 0, 1) := by decide +kernel
theorem own_d1_28 : decode prog_50_method_1_code 28 = .ok (.iload 5, 2) := by decide +kernel
theorem own_d1_30 : decode prog_50_method_1_code 30 = .ok (.iload_n 1, 1) := by decide +kernel
theorem own_d1_31 : decode prog_50_method_1_code 31 = .ok (.imul, 1) := by decide +kernel
theorem own_d1_32 : decode prog_50_method_1_code 32 = .ok (.newarray .int, 2) := by decide +kernel
theorem own_d1_34 : decode prog_50_method_1_code 34 = .ok (.putfield 25, 3) := by decide +kernel
theorem own_d1_37 : decode prog_50_method_1_code 37 = .ok (.aload_n 0, 1) := by decide +kernel
theorem own_d1_38 : decode prog_50_method_1_code 38 = .ok (.iload 5, 2) := by decide +kernel
theorem own_d1_40 : decode prog_50_method_1_code 40 = .ok (.iload_n 2, 1) := by decide +kernel
theorem own_d1_41 : decode prog_50_method_1_code 41 = .ok (.imul, 1) := by decide +kernel
theorem own_d1_42 : decode prog_50_method_1_code 42 = .ok (.newarray .int, 2) := by decide +kernel
theorem own_d1_44 : decode prog_50_method_1_code 44 = .ok (.putfield 29, 3) := by decide +kernel
theorem own_d1_47 : decode prog_50_method_1_code 47 = .ok (.aload_n 0, 1) := by decide +kernel
theorem own_d1_48 : decode prog_50_method_1_code 48 = .ok (.iload 5, 2) := by decide +kernel
theorem own_d1_50 : decode prog_50_method_1_code 50 = .ok (.invokestatic 32, 3) := by decide +kernel
theorem own_d1_53 : decode prog_50_method_1_code 53 = .ok (.iconst 4, 1) := by decide +kernel
theorem own_d1_54 : decode prog_50_method_1_code 54 = .ok (.imul, 1) := by decide +kernel
theorem own_d1_55 : decode prog_50_method_1_code 55 = .ok (.newarray .int, 2) := by decide +kernel
theorem own_d1_57 : decode prog_50_method_1_code 57 = .ok (.putfield 38, 3) := by decide +kernel
theorem own_d1_60 : decode prog_50_method_1_code 60 = .ok (.return_, 1) := by decide +kernel
theorem own_pn_1 : plainName "com/example/centroute/centroute/median/TupleIndex" = true := by first | (simp [plainName, overriddenIn]; done) | decide +kernel
theorem own_d8_0 : decode prog_50_method_9_code 0 = .ok (.iconst 0, 1) := by decide +kernel
theorem own_d8_1 : decode prog_50_method_9_code 1 = .ok (.istore_n 3, 1) := by decide +kernel
theorem own_d8_2 : decode prog_50_method_9_code 2 = .ok (.iload_n 2, 1) := by decide +kernel
theorem own_d8_3 : decode prog_50_method_9_code 3 = .ok (.istore 4, 2) := by decide +kernel
theorem own_d8_5 : decode prog_50_method_9_code 5 = .ok (.iload 4, 2) := by decide +kernel
theorem own_d8_7 : decode prog_50_method_9_code 7 = .ok (.iload_n 2, 1) := by decide +kernel
theorem own_d8_8 : decode prog_50_method_9_code 8 = .ok (.aload_n 0, 1) := by decide +kernel
theorem own_d8_9 : decode prog_50_method_9_code 9 = .ok (.getfield 7, 3) := by decide +kernel
theorem own_d8_12 : decode prog_50_method_9_code 12 = .ok (.iadd, 1) := by decide +kernel
theorem own_d8_13 : decode prog_50_method_9_code 13 = .ok (.if_icmp .ge 19, 3) := by decide +kernel
theorem own_d8_16 : decode prog_50_method_9_code 16 = .ok (.iload_n 3, 1) := by decide +kernel
theorem own_d8_17 : decode prog_50_method_9_code 17 = .ok (.aload_n 1, 1) := by decide +kernel
theorem own_d8_18 : decode prog_50_method_9_code 18 = .ok (.iload 4, 2) := by decide +kernel
theorem own_d8_20 : decode prog_50_method_9_code 20 = .ok (.iaload, 1) := by decide +kernel
theorem own_d8_21 : decode prog_50_method_9_code 21 = .ok (.iadd, 1) := by decide +kernel
theorem own_d8_22 : decode prog_50_method_9_code 22 = .ok (.ldc 74, 2) := by decide +kernel
theorem own_d8_24 : decode prog_50_method_9_code 24 = .ok (.imul, 1) := by decide +kernel
theorem own_d8_25 : decode prog_50_method_9_code 25 = .ok (.istore_n 3, 1) := by decide +kernel
theorem own_d8_26 : decode prog_50_method_9_code 26 = .ok (.iinc 4 1, 3) := by decide +kernel
theorem own_d8_29 : decode prog_50_method_9_code 29 = .ok (.goto (-24), 3) := by decide +kernel
theorem own_d8_32 : decode prog_50_method_9_code 32 = .ok (.iload_n 3, 1) := by decide +kernel
theorem own_d8_33 : decode prog_50_method_9_code 33 = .ok (.aload_n 0, 1) := by decide +kernel
theorem own_d8_34 : decode prog_50_method_9_code 34 = .ok (.getfield 38, 3) := by decide +kernel
theorem own_d8_37 : decode prog_50_method_9_code 37 = .ok (.arraylength, 1) := by decide +kernel
theorem own_d8_38 : decode prog_50_method_9_code 38 = .ok (.invokestatic 75, 3) := by decide +kernel
theorem own_d8_41 : decode prog_50_method_9_code 41 = .ok (.iconst 1, 1) := by decide +kernel
theorem own_d8_42 : decode prog_50_method_9_code 42 = .ok (.iadd, 1) := by decide +kernel
theorem own_d8_43 : decode prog_50_method_9_code 43 = .ok (.iushr, 1) := by decide +kernel
theorem own_d8_44 : decode prog_50_method_9_code 44 = .ok (.ireturn, 1) := by decide +kernel
theorem own_d7_0 : decode prog_50_method_6_code 0 = .ok (.aload_n 0, 1) := by decide +kernel
theorem own_d7_1 : decode prog_50_method_6_code 1 = .ok (.getfield 38, 3) := by decide +kernel
theorem own_d7_4 : decode prog_50_method_6_code 4 = .ok (.arraylength, 1) := by decide +kernel
theorem own_d7_5 : decode prog_50_method_6_code 5 = .ok (.iconst 1, 1) := by decide +kernel
theorem own_d7_6 : decode prog_50_method_6_code 6 = .ok (.isub, 1) := by decide +kernel
theorem own_d7_7 : decode prog_50_method_6_code 7 = .ok (.istore_n 2, 1) := by decide +kernel
theorem own_d7_8 : decode prog_50_method_6_code 8 = .ok (.aload_n 0, 1) := by decide +kernel
theorem own_d7_9 : decode prog_50_method_6_code 9 = .ok (.aload_n 1, 1) := by decide +kernel
theorem own_d7_10 : decode prog_50_method_6_code 10 = .ok (.iconst 0, 1) := by decide +kernel
theorem own_d7_11 : decode prog_50_method_6_code 11 = .ok (.invokevirtual 66, 3) := by decide +kernel
theorem own_pd4 : parseMethodDescriptor "([II)I" = some ⟨[(.array .int), .int], some .int⟩ := by decide +kernel
theorem own_d7_14 : decode prog_50_method_6_code 14 = .ok (.istore_n 3, 1) := by decide +kernel
theorem own_d7_15 : decode prog_50_method_6_code 15 = .ok (.aload_n 0, 1) := by decide +kernel
theorem own_d7_16 : decode prog_50_method_6_code 16 = .ok (.getfield 38, 3) := by decide +kernel
theorem own_d7_19 : decode prog_50_method_6_code 19 = .ok (.iload_n 3, 1) := by decide +kernel
theorem own_d7_20 : decode prog_50_method_6_code 20 = .ok (.iaload, 1) := by decide +kernel
theorem own_d7_21 : decode prog_50_method_6_code 21 = .ok (.ifCond .eq 28, 3) := by decide +kernel
theorem own_d7_49 : decode prog_50_method_6_code 49 = .ok (.iload_n 3, 1) := by decide +kernel
theorem own_d7_50 : decode prog_50_method_6_code 50 = .ok (.ireturn, 1) := by decide +kernel
theorem own_d12_0 : decode jdk_29_method_69_code 0 = .ok (.iload_n 0, 1) := by decide +kernel
theorem own_d12_1 : decode jdk_29_method_69_code 1 = .ok (.iload_n 1, 1) := by decide +kernel
theorem own_d12_2 : decode jdk_29_method_69_code 2 = .ok (.if_icmp .gt 7, 3) := by decide +kernel
theorem own_d12_9 : decode jdk_29_method_69_code 9 = .ok (.iload_n 1, 1) := by decide +kernel
theorem own_d12_10 : decode jdk_29_method_69_code 10 = .ok (.ireturn, 1) := by decide +kernel
theorem own_d12_5 : decode jdk_29_method_69_code 5 = .ok (.iload_n 0, 1) := by decide +kernel
theorem own_d12_6 : decode jdk_29_method_69_code 6 = .ok (.goto 4, 3) := by decide +kernel
theorem own_d10_0 : decode jdk_65_method_30_code 0 = .ok (.iload_n 1, 1) := by decide +kernel
theorem own_d10_1 : decode jdk_65_method_30_code 1 = .ok (.iload_n 2, 1) := by decide +kernel
theorem own_d10_2 : decode jdk_65_method_30_code 2 = .ok (.if_icmp .le 44, 3) := by decide +kernel
theorem own_d10_46 : decode jdk_65_method_30_code 46 = .ok (.iload_n 1, 1) := by decide +kernel
theorem own_d10_47 : decode jdk_65_method_30_code 47 = .ok (.ifCond .ge 12, 3) := by decide +kernel
theorem own_d10_59 : decode jdk_65_method_30_code 59 = .ok (.iload_n 2, 1) := by decide +kernel
theorem own_d10_60 : decode jdk_65_method_30_code 60 = .ok (.iload_n 0, 1) := by decide +kernel
theorem own_d10_61 : decode jdk_65_method_30_code 61 = .ok (.if_icmp .le 12, 3) := by decide +kernel
theorem own_d10_73 : decode jdk_65_method_30_code 73 = .ok (.return_, 1) := by decide +kernel
theorem own_pn_10 : plainName "java/util/Arrays" = true := by first | (simp [plainName, overriddenIn]; done) | decide +kernel
theorem own_d9_0 : decode jdk_65_method_104_code 0 = .ok (.aload_n 0, 1) := by decide +kernel
theorem own_d9_1 : decode jdk_65_method_104_code 1 = .ok (.arraylength, 1) := by decide +kernel
theorem own_d9_2 : decode jdk_65_method_104_code 2 = .ok (.iload_n 1, 1) := by decide +kernel
theorem own_d9_3 : decode jdk_65_method_104_code 3 = .ok (.iload_n 2, 1) := by decide +kernel
theorem own_d9_4 : decode jdk_65_method_104_code 4 = .ok (.invokestatic 13, 3) := by decide +kernel
theorem own_pd6 : parseMethodDescriptor "(III)V" = some ⟨[.int, .int, .int], none⟩ := by decide +kernel
theorem own_d9_10 : decode jdk_65_method_104_code 10 = .ok (.iload 4, 2) := by decide +kernel
theorem own_d9_12 : decode jdk_65_method_104_code 12 = .ok (.iload_n 2, 1) := by decide +kernel
theorem own_d9_13 : decode jdk_65_method_104_code 13 = .ok (.if_icmp .ge 14, 3) := by decide +kernel
theorem own_d9_27 : decode jdk_65_method_104_code 27 = .ok (.return_, 1) := by decide +kernel
theorem own_d9_16 : decode jdk_65_method_104_code 16 = .ok (.aload_n 0, 1) := by decide +kernel
theorem own_d9_17 : decode jdk_65_method_104_code 17 = .ok (.iload 4, 2) := by decide +kernel
theorem own_d9_19 : decode jdk_65_method_104_code 19 = .ok (.iload_n 3, 1) := by decide +kernel
theorem own_d9_20 : decode jdk_65_method_104_code 20 = .ok (.iastore, 1) := by decide +kernel
theorem own_d9_21 : decode jdk_65_method_104_code 21 = .ok (.iinc 4 1, 3) := by decide +kernel
theorem own_d9_24 : decode jdk_65_method_104_code 24 = .ok (.goto (-14), 3) := by decide +kernel
theorem own_d9_7 : decode jdk_65_method_104_code 7 = .ok (.iload_n 1, 1) := by decide +kernel
theorem own_d9_8 : decode jdk_65_method_104_code 8 = .ok (.istore 4, 2) := by decide +kernel
theorem own_d11_0 : decode jdk_65_method_123_code 0 = .ok (.iload_n 1, 1) := by decide +kernel
theorem own_d11_1 : decode jdk_65_method_123_code 1 = .ok (.aload_n 0, 1) := by decide +kernel
theorem own_d11_2 : decode jdk_65_method_123_code 2 = .ok (.arraylength, 1) := by decide +kernel
theorem own_d11_3 : decode jdk_65_method_123_code 3 = .ok (.if_icmp .ne 11, 3) := by decide +kernel
theorem own_d11_14 : decode jdk_65_method_123_code 14 = .ok (.iload_n 1, 1) := by decide +kernel
theorem own_d11_15 : decode jdk_65_method_123_code 15 = .ok (.newarray .int, 2) := by decide +kernel
theorem own_d11_17 : decode jdk_65_method_123_code 17 = .ok (.astore_n 2, 1) := by decide +kernel
theorem own_d11_18 : decode jdk_65_method_123_code 18 = .ok (.aload_n 0, 1) := by decide +kernel
theorem own_d11_19 : decode jdk_65_method_123_code 19 = .ok (.iconst 0, 1) := by decide +kernel
theorem own_d11_20 : decode jdk_65_method_123_code 20 = .ok (.aload_n 2, 1) := by decide +kernel
theorem own_d11_21 : decode jdk_65_method_123_code 21 = .ok (.iconst 0, 1) := by decide +kernel
theorem own_d11_22 : decode jdk_65_method_123_code 22 = .ok (.aload_n 0, 1) := by decide +kernel
theorem own_d11_23 : decode jdk_65_method_123_code 23 = .ok (.arraylength, 1) := by decide +kernel
theorem own_d11_24 : decode jdk_65_method_123_code 24 = .ok (.iload_n 1, 1) := by decide +kernel
theorem own_d11_25 : decode jdk_65_method_123_code 25 = .ok (.invokestatic 304, 3) := by decide +kernel
theorem own_d11_28 : decode jdk_65_method_123_code 28 = .ok (.invokestatic 150, 3) := by decide +kernel
theorem own_d11_31 : decode jdk_65_method_123_code 31 = .ok (.aload_n 2, 1) := by decide +kernel
theorem own_d11_32 : decode jdk_65_method_123_code 32 = .ok (.areturn, 1) := by decide +kernel
theorem own_d6_0 : decode prog_50_method_2_code 0 = .ok (.aload_n 0, 1) := by decide +kernel
theorem own_d6_1 : decode prog_50_method_2_code 1 = .ok (.aload_n 1, 1) := by decide +kernel
theorem own_d6_2 : decode prog_50_method_2_code 2 = .ok (.invokevirtual 41, 3) := by decide +kernel
theorem own_pd7 : parseMethodDescriptor "([I)I" = some ⟨[(.array .int)], some .int⟩ := by decide +kernel
theorem own_d6_5 : decode prog_50_method_2_code 5 = .ok (.istore_n 2, 1) := by decide +kernel
theorem own_d6_6 : decode prog_50_method_2_code 6 = .ok (.aload_n 0, 1) := by decide +kernel
theorem own_d6_7 : decode prog_50_method_2_code 7 = .ok (.getfield 38, 3) := by decide +kernel
theorem own_d6_10 : decode prog_50_method_2_code 10 = .ok (.iload_n 2, 1) := by decide +kernel
theorem own_d6_11 : decode prog_50_method_2_code 11 = .ok (.iaload, 1) := by decide +kernel
theorem own_d6_12 : decode prog_50_method_2_code 12 = .ok (.ifCond .ne 151, 3) := by decide +kernel
theorem own_d6_15 : decode prog_50_method_2_code 15 = .ok (.aload_n 0, 1) := by decide +kernel
theorem own_d6_16 : decode prog_50_method_2_code 16 = .ok (.getfield 45, 3) := by decide +kernel
theorem own_d6_19 : decode prog_50_method_2_code 19 = .ok (.aload_n 0, 1) := by decide +kernel
theorem own_d6_20 : decode prog_50_method_2_code 20 = .ok (.getfield 25, 3) := by decide +kernel
theorem own_d6_23 : decode prog_50_method_2_code 23 = .ok (.arraylength, 1) := by decide +kernel
theorem own_d6_24 : decode prog_50_method_2_code 24 = .ok (.aload_n 0, 1) := by decide +kernel
theorem own_d6_25 : decode prog_50_method_2_code 25 = .ok (.getfield 7, 3) := by decide +kernel
theorem own_d6_28 : decode prog_50_method_2_code 28 = .ok (.idiv, 1) := by decide +kernel
theorem own_d6_29 : decode prog_50_method_2_code 29 = .ok (.if_icmp .ne 39, 3) := by decide +kernel
theorem own_d6_32 : decode prog_50_method_2_code 32 = .ok (.aload_n 0, 1) := by decide +kernel
theorem own_d6_33 : decode prog_50_method_2_code 33 = .ok (.aload_n 0, 1) := by decide +kernel
theorem own_d6_34 : decode prog_50_method_2_code 34 = .ok (.getfield 25, 3) := by decide +kernel
theorem own_d6_37 : decode prog_50_method_2_code 37 = .ok (.iconst 2, 1) := by decide +kernel
theorem own_d6_38 : decode prog_50_method_2_code 38 = .ok (.aload_n 0, 1) := by decide +kernel
theorem own_d6_39 : decode prog_50_method_2_code 39 = .ok (.getfield 25, 3) := by decide +kernel
theorem own_d6_42 : decode prog_50_method_2_code 42 = .ok (.arraylength, 1) := by decide +kernel
theorem own_d6_43 : decode prog_50_method_2_code 43 = .ok (.imul, 1) := by decide +kernel
theorem own_d6_44 : decode prog_50_method_2_code 44 = .ok (.invokestatic 48, 3) := by decide +kernel
theorem own_pd8 : parseMethodDescriptor "([II)[I" = some ⟨[(.array .int), .int], some (.array .int)⟩ := by decide +kernel
theorem own_d6_47 : decode prog_50_method_2_code 47 = .ok (.putfield 25, 3) := by decide +kernel
theorem own_d6_50 : decode prog_50_method_2_code 50 = .ok (.aload_n 0, 1) := by decide +kernel
theorem own_d6_51 : decode prog_50_method_2_code 51 = .ok (.aload_n 0, 1) := by decide +kernel
theorem own_d6_52 : decode prog_50_method_2_code 52 = .ok (.getfield 29, 3) := by decide +kernel
theorem own_d6_55 : decode prog_50_method_2_code 55 = .ok (.iconst 2, 1) := by decide +kernel
theorem own_d6_56 : decode prog_50_method_2_code 56 = .ok (.aload_n 0, 1) := by decide +kernel
theorem own_d6_57 : decode prog_50_method_2_code 57 = .ok (.getfield 29, 3) := by decide +kernel
theorem own_d6_60 : decode prog_50_method_2_code 60 = .ok (.arraylength, 1) := by decide +kernel
theorem own_d6_61 : decode prog_50_method_2_code 61 = .ok (.imul, 1) := by decide +kernel
theorem own_d6_62 : decode prog_50_method_2_code 62 = .ok (.invokestatic 48, 3) := by decide +kernel
theorem own_d6_65 : decode prog_50_method_2_code 65 = .ok (.putfield 29, 3) := by decide +kernel
theorem own_d6_68 : decode prog_50_method_2_code 68 = .ok (.aload_n 1, 1) := by decide +kernel
theorem own_d6_69 : decode prog_50_method_2_code 69 = .ok (.iconst 0, 1) := by decide +kernel
theorem own_d6_70 : decode prog_50_method_2_code 70 = .ok (.aload_n 0, 1) := by decide +kernel
theorem own_d6_71 : decode prog_50_method_2_code 71 = .ok (.getfield 25, 3) := by decide +kernel
theorem own_d6_74 : decode prog_50_method_2_code 74 = .ok (.aload_n 0, 1) := by decide +kernel
theorem own_d6_75 : decode prog_50_method_2_code 75 = .ok (.getfield 45, 3) := by decide +kernel
theorem own_d6_78 : decode prog_50_method_2_code 78 = .ok (.aload_n 0, 1) := by decide +kernel
theorem own_d6_79 : decode prog_50_method_2_code 79 = .ok (.getfield 7, 3) := by decide +kernel
theorem own_d6_82 : decode prog_50_method_2_code 82 = .ok (.imul, 1) := by decide +kernel
theorem own_d6_83 : decode prog_50_method_2_code 83 = .ok (.aload_n 0, 1) := by decide +kernel
theorem own_d6_84 : decode prog_50_method_2_code 84 = .ok (.getfield 7, 3) := by decide +kernel
theorem own_d6_87 : decode prog_50_method_2_code 87 = .ok (.invokestatic 54, 3) := by decide +kernel
theorem own_d6_90 : decode prog_50_method_2_code 90 = .ok (.aload_n 0, 1) := by decide +kernel
theorem own_d6_91 : decode prog_50_method_2_code 91 = .ok (.getfield 29, 3) := by decide +kernel
theorem own_d6_94 : decode prog_50_method_2_code 94 = .ok (.aload_n 0, 1) := by decide +kernel
theorem own_d6_95 : decode prog_50_method_2_code 95 = .ok (.getfield 45, 3) := by decide +kernel
theorem own_d6_98 : decode prog_50_method_2_code 98 = .ok (.aload_n 0, 1) := by decide +kernel
theorem own_d6_99 : decode prog_50_method_2_code 99 = .ok (.getfield 13, 3) := by decide +kernel
theorem own_d6_102 : decode prog_50_method_2_code 102 = .ok (.imul, 1) := by decide +kernel
theorem own_d6_103 : decode prog_50_method_2_code 103 = .ok (.aload_n 0, 1) := by decide +kernel
theorem own_d6_104 : decode prog_50_method_2_code 104 = .ok (.getfield 45, 3) := by decide +kernel
theorem own_d6_107 : decode prog_50_method_2_code 107 = .ok (.iconst 1, 1) := by decide +kernel
theorem own_d6_108 : decode prog_50_method_2_code 108 = .ok (.iadd, 1) := by decide +kernel
theorem own_d6_109 : decode prog_50_method_2_code 109 = .ok (.aload_n 0, 1) := by decide +kernel
theorem own_d6_110 : decode prog_50_method_2_code 110 = .ok (.getfield 13, 3) := by decide +kernel
theorem own_d6_113 : decode prog_50_method_2_code 113 = .ok (.imul, 1) := by decide +kernel
theorem own_d6_114 : decode prog_50_method_2_code 114 = .ok (.aload_n 0, 1) := by decide +kernel
theorem own_d6_115 : decode prog_50_method_2_code 115 = .ok (.getfield 16, 3) := by decide +kernel
theorem own_d6_118 : decode prog_50_method_2_code 118 = .ok (.invokestatic 60, 3) := by decide +kernel
theorem own_pd9 : parseMethodDescriptor "([IIII)V" = some ⟨[(.array .int), .int, .int, .int], none⟩ := by decide +kernel
theorem own_d6_121 : decode prog_50_method_2_code 121 = .ok (.aload_n 0, 1) := by decide +kernel
theorem own_d6_122 : decode prog_50_method_2_code 122 = .ok (.getfield 38, 3) := by decide +kernel
theorem own_d6_125 : decode prog_50_method_2_code 125 = .ok (.iload_n 2, 1) := by decide +kernel
theorem own_d6_126 : decode prog_50_method_2_code 126 = .ok (.aload_n 0, 1) := by decide +kernel
theorem own_d6_127 : decode prog_50_method_2_code 127 = .ok (.dup, 1) := by decide +kernel
theorem own_d6_128 : decode prog_50_method_2_code 128 = .ok (.getfield 45, 3) := by decide +kernel
theorem own_d6_131 : decode prog_50_method_2_code 131 = .ok (.iconst 1, 1) := by decide +kernel
theorem own_d6_132 : decode prog_50_method_2_code 132 = .ok (.iadd, 1) := by decide +kernel
theorem own_d6_133 : decode prog_50_method_2_code 133 = .ok (.dup_x1, 1) := by decide +kernel
theorem own_d6_134 : decode prog_50_method_2_code 134 = .ok (.putfield 45, 3) := by decide +kernel
theorem own_d6_137 : decode prog_50_method_2_code 137 = .ok (.iastore, 1) := by decide +kernel
theorem own_d6_138 : decode prog_50_method_2_code 138 = .ok (.iconst 2, 1) := by decide +kernel
theorem own_d6_139 : decode prog_50_method_2_code 139 = .ok (.aload_n 0, 1) := by decide +kernel
theorem own_d6_140 : decode prog_50_method_2_code 140 = .ok (.getfield 45, 3) := by decide +kernel
theorem own_d6_143 : decode prog_50_method_2_code 143 = .ok (.imul, 1) := by decide +kernel
theorem own_d6_144 : decode prog_50_method_2_code 144 = .ok (.aload_n 0, 1) := by decide +kernel
theorem own_d6_145 : decode prog_50_method_2_code 145 = .ok (.getfield 38, 3) := by decide +kernel
theorem own_d6_148 : decode prog_50_method_2_code 148 = .ok (.arraylength, 1) := by decide +kernel
theorem own_d6_149 : decode prog_50_method_2_code 149 = .ok (.if_icmp .le 7, 3) := by decide +kernel
theorem own_d6_156 : decode prog_50_method_2_code 156 = .ok (.aload_n 0, 1) := by decide +kernel
theorem own_d6_157 : decode prog_50_method_2_code 157 = .ok (.getfield 45, 3) := by decide +kernel
theorem own_d6_160 : decode prog_50_method_2_code 160 = .ok (.iconst 1, 1) := by decide +kernel
theorem own_d6_161 : decode prog_50_method_2_code 161 = .ok (.isub, 1) := by decide +kernel
theorem own_d6_162 : decode prog_50_method_2_code 162 = .ok (.ireturn, 1) := by decide +kernel
theorem own_d13_0 : decode prog_50_method_5_code 0 = .ok (.aload_n 0, 1) := by decide +kernel
theorem own_d13_1 : decode prog_50_method_5_code 1 = .ok (.getfield 29, 3) := by decide +kernel
theorem own_d13_4 : decode prog_50_method_5_code 4 = .ok (.iload_n 1, 1) := by decide +kernel
theorem own_d13_5 : decode prog_50_method_5_code 5 = .ok (.aload_n 0, 1) := by decide +kernel
theorem own_d13_6 : decode prog_50_method_5_code 6 = .ok (.getfield 13, 3) := by decide +kernel
theorem own_d13_9 : decode prog_50_method_5_code 9 = .ok (.imul, 1) := by decide +kernel
theorem own_d13_10 : decode prog_50_method_5_code 10 = .ok (.iload_n 2, 1) := by decide +kernel
theorem own_d13_11 : decode prog_50_method_5_code 11 = .ok (.iadd, 1) := by decide +kernel
theorem own_d13_12 : decode prog_50_method_5_code 12 = .ok (.iload_n 3, 1) := by decide +kernel
theorem own_d13_13 : decode prog_50_method_5_code 13 = .ok (.iastore, 1) := by decide +kernel
theorem own_d13_14 : decode prog_50_method_5_code 14 = .ok (.return_, 1) := by decide +kernel
theorem own_d14_0 : decode prog_50_method_4_code 0 = .ok (.aload_n 0, 1) := by decide +kernel
theorem own_d14_1 : decode prog_50_method_4_code 1 = .ok (.getfield 29, 3) := by decide +kernel
theorem own_d14_4 : decode prog_50_method_4_code 4 = .ok (.iload_n 1, 1) := by decide +kernel
theorem own_d14_5 : decode prog_50_method_4_code 5 = .ok (.aload_n 0, 1) := by decide +kernel
theorem own_d14_6 : decode prog_50_method_4_code 6 = .ok (.getfield 13, 3) := by decide +kernel
theorem own_d14_9 : decode prog_50_method_4_code 9 = .ok (.imul, 1) := by decide +kernel
theorem own_d14_10 : decode prog_50_method_4_code 10 = .ok (.iload_n 2, 1) := by decide +kernel
theorem own_d14_11 : decode prog_50_method_4_code 11 = .ok (.iadd, 1) := by decide +kernel
theorem own_d14_12 : decode prog_50_method_4_code 12 = .ok (.iaload, 1) := by decide +kernel
theorem own_d14_13 : decode prog_50_method_4_code 13 = .ok (.ireturn, 1) := by decide +kernel
theorem own_pd10 : parseMethodDescriptor "(IIII)V" = some ⟨[.int, .int, .int, .int], none⟩ := by decide +kernel
theorem own_pn_0 : plainName "com/example/centroute/centroute/median/TupleIndexSetPinLaw" = true := by first | (simp [plainName, overriddenIn]; done) | decide +kernel
set_option maxRecDepth 65536 in
set_option maxHeartbeats 40000000 in
theorem own_maxI (l : Launch) (Z : State) (a0 : Array Value) (hw : ∀ d ∈ tables_1, d.before a0 Z = true) (u v : Int32) (h0 : Heap) (n0 : Nat) (Z0 : n0 ≤ h0.size)  :
    OCon l Z n0 (⟨"java/lang/Math", "max", "(II)I"⟩ : MethodName) jdk_29_method_65_code 2 (some .int) [] ({ frames := 0, cells := 0, slots := 0, locals := 0 } : Room) #[(.int u), (.int v)] h0 (OV fun w h => w = .int (if u < v then v else u) ∧ h = h0) := by
  refine OCon.of (Ls := #[.val (.int u), .val (.int v)]) (Jvm.Free.JP.mathPlain rfl (by decide +kernel)) (fun m => own_entry m rfl) ?_
  intro p e s m below meth c K
  refine OGo.iloadN K (pc' := 1) own_d3_0 rfl rfl ?_
  refine OGo.iloadN K (pc' := 2) own_d3_1 rfl rfl ?_
  refine OGo.icmpLt K (pc' := 5) (pcY := 9) own_d3_2 rfl (by decide) rfl (fun hc => ?_) (fun hc => ?_)
  · skip
    refine OGo.iloadN K (pc' := 10) own_d3_9 rfl rfl ?_
    exact OGo.iret K own_d3_10 (by decide) (by decide) ⟨_, rfl, by rw [if_pos hc], rfl⟩
  · skip
    refine OGo.iloadN K (pc' := 6) own_d3_5 rfl rfl ?_
    refine OGo.goto K (pc' := 10) own_d3_6 (by decide) rfl ?_
    exact OGo.iret K own_d3_10 (by decide) (by decide) ⟨_, rfl, by rw [if_neg hc], rfl⟩
set_option maxRecDepth 65536 in
set_option maxHeartbeats 40000000 in
theorem own_nlz32 (l : Launch) (Z : State) (a0 : Array Value) (hw : ∀ d ∈ tables_1, d.before a0 Z = true) (i : Int32) (X : Nat) (h0 : Heap) (n0 : Nat) (Z0 : n0 ≤ h0.size) (hi : ¬ i = 0) (hX : i.toInt % 4294967296 = X) :
    OCon l Z n0 (⟨"java/lang/Integer", "numberOfLeadingZeros", "(I)I"⟩ : MethodName) jdk_33_method_47_code 2 (some .int) [] ({ frames := 0, cells := 0, slots := 0, locals := 0 } : Room) #[(.int i)] h0 (OV fun w h => h = h0 ∧ ∃ L : Nat, w = .int (Int32.ofNat (31 - L)) ∧ L ≤ 31 ∧ 2 ^ L ≤ X ∧ X < 2 ^ (L + 1)) := by
  refine OCon.of (Ls := #[.val (.int i), .unset]) (plainFor_of_name own_pn_5) (fun m => own_entry m rfl) ?_
  intro p e s m below meth c K
  have J73 : ∀ (n i' : Int32) (k : Nat), n.toInt = 31 - (k : Int) → i'.toInt = ((X / 2 ^ k : Nat) : Int) → 0 < i'.toInt → i'.toInt < 4 → k ≤ 30 → OGo p l e ({ frames := 0, cells := 0, slots := 0, locals := 0 } : Room) s m #[(.int i)] below meth c n0 (OV fun w h => h = h0 ∧ ∃ L : Nat, w = .int (Int32.ofNat (31 - L)) ∧ L ≤ 31 ∧ 2 ^ L ≤ X ∧ X < 2 ^ (L + 1)) h0 0 0 73 #[.val (.int i'), .val (.int n)] [] := by
    intro n i' k g1 g2 g3 g4 g5
    refine OGo.iloadN K (pc' := 74) own_d5_73 rfl rfl ?_
    refine OGo.iloadN K (pc' := 75) own_d5_74 rfl rfl ?_
    refine OGo.iconst K (pc' := 76) (z := 1) own_d5_75 rfl rfl ?_
    refine OGo.iushr K (pc' := 77) own_d5_76 rfl ?_
    refine OGo.isub K (pc' := 78) own_d5_77 rfl ?_
    exact OGo.iret K own_d5_78 (by decide) (by decide) ⟨_, rfl, rfl, own_nlz_fin g1 g2 g3 g4 g5⟩
  have J61 : ∀ (n i' : Int32) (k : Nat), n.toInt = 31 - (k : Int) → i'.toInt = ((X / 2 ^ k : Nat) : Int) → 0 < i'.toInt → i'.toInt < 16 → k ≤ 28 → OGo p l e ({ frames := 0, cells := 0, slots := 0, locals := 0 } : Room) s m #[(.int i)] below meth c n0 (OV fun w h => h = h0 ∧ ∃ L : Nat, w = .int (Int32.ofNat (31 - L)) ∧ L ≤ 31 ∧ 2 ^ L ≤ X ∧ X < 2 ^ (L + 1)) h0 0 0 61 #[.val (.int i'), .val (.int n)] [] := by
    intro n i' k g1 g2 g3 g4 g5
    refine OGo.iloadN K (pc' := 62) own_d5_61 rfl rfl ?_
    refine OGo.iconst K (pc' := 63) (z := 4) own_d5_62 rfl rfl ?_
    refine OGo.icmpLt K (pc' := 66) (pcY := 73) own_d5_63 rfl (by decide) rfl (fun hc => ?_) (fun hc => ?_)
    · skip
      exact J73 n i' k g1 g2 g3 (by rw [Int32.lt_iff_toInt_lt, show (4 : Int32).toInt = 4 from rfl] at hc; exact hc) (by omega)
    · skip
      rw [Int32.lt_iff_toInt_lt, show (4 : Int32).toInt = 4 from rfl] at hc
      obtain ⟨f1, f2, f3⟩ := own_nlz_step (ns := (-2 : Int32)) (q := 2) 2 rfl rfl (by decide) g1 g2 (by omega)
      rw [show ((2 ^ 2 : Nat) : Int) = 4 from rfl] at f3
      refine OGo.iinc K (pc' := 69) (z := (-2)) (Ls' := #[.val (.int i'), .val (.int (n + (-2 : Int32)))]) own_d5_66 rfl rfl rfl rfl ?_
      refine OGo.iloadN K (pc' := 70) own_d5_69 rfl rfl ?_
      refine OGo.iconst K (pc' := 71) (z := 2) own_d5_70 rfl rfl ?_
      refine OGo.iushr K (pc' := 72) own_d5_71 rfl ?_
      refine OGo.istoreN K (pc' := 73) (Ls' := #[.val (.int (ushr i' (2 : Int32))), .val (.int (n + (-2 : Int32)))]) own_d5_72 rfl rfl ?_
      exact J73 _ _ (k + 2) f1 f2 (by omega) (by omega) (by omega)
  have J48 : ∀ (n i' : Int32) (k : Nat), n.toInt = 31 - (k : Int) → i'.toInt = ((X / 2 ^ k : Nat) : Int) → 0 < i'.toInt → i'.toInt < 256 → k ≤ 24 → OGo p l e ({ frames := 0, cells := 0, slots := 0, locals := 0 } : Room) s m #[(.int i)] below meth c n0 (OV fun w h => h = h0 ∧ ∃ L : Nat, w = .int (Int32.ofNat (31 - L)) ∧ L ≤ 31 ∧ 2 ^ L ≤ X ∧ X < 2 ^ (L + 1)) h0 0 0 48 #[.val (.int i'), .val (.int n)] [] := by
    intro n i' k g1 g2 g3 g4 g5
    refine OGo.iloadN K (pc' := 49) own_d5_48 rfl rfl ?_
    refine OGo.bipush K (pc' := 51) (z := 16) own_d5_49 rfl rfl ?_
    refine OGo.icmpLt K (pc' := 54) (pcY := 61) own_d5_51 rfl (by decide) rfl (fun hc => ?_) (fun hc => ?_)
    · skip
      exact J61 n i' k g1 g2 g3 (by rw [Int32.lt_iff_toInt_lt, show (16 : Int32).toInt = 16 from rfl] at hc; exact hc) (by omega)
    · skip
      rw [Int32.lt_iff_toInt_lt, show (16 : Int32).toInt = 16 from rfl] at hc
      obtain ⟨f1, f2, f3⟩ := own_nlz_step (ns := (-4 : Int32)) (q := 4) 4 rfl rfl (by decide) g1 g2 (by omega)
      rw [show ((2 ^ 4 : Nat) : Int) = 16 from rfl] at f3
      refine OGo.iinc K (pc' := 57) (z := (-4)) (Ls' := #[.val (.int i'), .val (.int (n + (-4 : Int32)))]) own_d5_54 rfl rfl rfl rfl ?_
      refine OGo.iloadN K (pc' := 58) own_d5_57 rfl rfl ?_
      refine OGo.iconst K (pc' := 59) (z := 4) own_d5_58 rfl rfl ?_
      refine OGo.iushr K (pc' := 60) own_d5_59 rfl ?_
      refine OGo.istoreN K (pc' := 61) (Ls' := #[.val (.int (ushr i' (4 : Int32))), .val (.int (n + (-4 : Int32)))]) own_d5_60 rfl rfl ?_
      exact J61 _ _ (k + 4) f1 f2 (by omega) (by omega) (by omega)
  have J33 : ∀ (n i' : Int32) (k : Nat), n.toInt = 31 - (k : Int) → i'.toInt = ((X / 2 ^ k : Nat) : Int) → 0 < i'.toInt → i'.toInt < 65536 → k ≤ 16 → OGo p l e ({ frames := 0, cells := 0, slots := 0, locals := 0 } : Room) s m #[(.int i)] below meth c n0 (OV fun w h => h = h0 ∧ ∃ L : Nat, w = .int (Int32.ofNat (31 - L)) ∧ L ≤ 31 ∧ 2 ^ L ≤ X ∧ X < 2 ^ (L + 1)) h0 0 0 33 #[.val (.int i'), .val (.int n)] [] := by
    intro n i' k g1 g2 g3 g4 g5
    refine OGo.iloadN K (pc' := 34) own_d5_33 rfl rfl ?_
    refine OGo.sipush K (pc' := 37) (z := 256) own_d5_34 rfl rfl ?_
    refine OGo.icmpLt K (pc' := 40) (pcY := 48) own_d5_37 rfl (by decide) rfl (fun hc => ?_) (fun hc => ?_)
    · skip
      exact J48 n i' k g1 g2 g3 (by rw [Int32.lt_iff_toInt_lt, show (256 : Int32).toInt = 256 from rfl] at hc; exact hc) (by omega)
    · skip
      rw [Int32.lt_iff_toInt_lt, show (256 : Int32).toInt = 256 from rfl] at hc
      obtain ⟨f1, f2, f3⟩ := own_nlz_step (ns := (-8 : Int32)) (q := 8) 8 rfl rfl (by decide) g1 g2 (by omega)
      rw [show ((2 ^ 8 : Nat) : Int) = 256 from rfl] at f3
      refine OGo.iinc K (pc' := 43) (z := (-8)) (Ls' := #[.val (.int i'), .val (.int (n + (-8 : Int32)))]) own_d5_40 rfl rfl rfl rfl ?_
      refine OGo.iloadN K (pc' := 44) own_d5_43 rfl rfl ?_
      refine OGo.bipush K (pc' := 46) (z := 8) own_d5_44 rfl rfl ?_
      refine OGo.iushr K (pc' := 47) own_d5_46 rfl ?_
      refine OGo.istoreN K (pc' := 48) (Ls' := #[.val (.int (ushr i' (8 : Int32))), .val (.int (n + (-8 : Int32)))]) own_d5_47 rfl rfl ?_
      exact J48 _ _ (k + 8) f1 f2 (by omega) (by omega) (by omega)
  refine OGo.iloadN K (pc' := 1) own_d5_0 rfl rfl ?_
  refine OGo.ifGt K (pc' := 4) (pcY := 15) own_d5_1 rfl (by decide) rfl (fun hp => ?_) (fun hp => ?_)
  · skip
    rw [Int32.lt_iff_toInt_lt, show (0 : Int32).toInt = 0 from rfl] at hp
    have r := rng32 i
    have eX : i.toInt = ((X / 2 ^ 0 : Nat) : Int) := by rw [Nat.pow_zero, Nat.div_one]; omega
    refine OGo.bipush K (pc' := 17) (z := 31) own_d5_15 rfl rfl ?_
    refine OGo.istoreN K (pc' := 18) (Ls' := #[.val (.int i), .val (.int (31 : Int32))]) own_d5_17 rfl rfl ?_
    refine OGo.iloadN K (pc' := 19) own_d5_18 rfl rfl ?_
    refine OGo.ldcwI K (pc' := 22) (v := 65536) (hw _ (List.mem_of_getElem? (i := 33) rfl)) own_d5_19 rfl ?_
    refine OGo.icmpLt K (pc' := 25) (pcY := 33) own_d5_22 rfl (by decide) rfl (fun hc => ?_) (fun hc => ?_)
    · skip
      exact J33 _ i 0 rfl eX hp (by rw [Int32.lt_iff_toInt_lt, show (65536 : Int32).toInt = 65536 from rfl] at hc; exact hc) (by decide)
    · skip
      rw [Int32.lt_iff_toInt_lt, show (65536 : Int32).toInt = 65536 from rfl] at hc
      obtain ⟨f1, f2, f3⟩ := own_nlz_step (n := 31) (ns := (-16 : Int32)) (q := 16) 16 rfl rfl (by decide) rfl eX (by decide)
      rw [show ((2 ^ 16 : Nat) : Int) = 65536 from rfl] at f3
      refine OGo.iinc K (pc' := 28) (z := (-16)) (Ls' := #[.val (.int i), .val (.int ((31 : Int32) + (-16 : Int32)))]) own_d5_25 rfl rfl rfl rfl ?_
      refine OGo.iloadN K (pc' := 29) own_d5_28 rfl rfl ?_
      refine OGo.bipush K (pc' := 31) (z := 16) own_d5_29 rfl rfl ?_
      refine OGo.iushr K (pc' := 32) own_d5_31 rfl ?_
      refine OGo.istoreN K (pc' := 33) (Ls' := #[.val (.int (ushr i (16 : Int32))), .val (.int ((31 : Int32) + (-16 : Int32)))]) own_d5_32 rfl rfl ?_
      exact J33 _ _ (0 + 16) f1 f2 (by omega) (by omega) (by decide)
  · skip
    rw [Int32.lt_iff_toInt_lt, show (0 : Int32).toInt = 0 from rfl] at hp
    refine OGo.iloadN K (pc' := 5) own_d5_4 rfl rfl ?_
    refine OGo.ifNe K (pc' := 8) (pcY := 13) own_d5_5 rfl (by decide) rfl (fun hc5 => ?_) (fun hc5 => absurd hc5 (hi : ¬ i = (0 : Int32)))
    refine OGo.iconst K (pc' := 14) (z := 0) own_d5_13 rfl rfl ?_
    have hne : i.toInt ≠ 0 := fun q => hi (Int32.toInt_inj.mp q)
    have r := rng32 i
    exact OGo.iret K own_d5_14 (by decide) (by decide) ⟨_, rfl, rfl, 31, rfl, by decide, by omega, by omega⟩
set_option maxRecDepth 65536 in
set_option maxHeartbeats 40000000 in
theorem own_rm4 (l : Launch) (Z : State) (a0 : Array Value) (hw : ∀ d ∈ tables_1, d.before a0 Z = true) (C : Nat) (h0 : Heap) (n0 : Nat) (Z0 : n0 ≤ h0.size) (hC : 1 ≤ C ∧ C ≤ 4) :
    OCon l Z n0 (⟨"java/lang/Integer", "highestOneBit", "(I)I"⟩ : MethodName) jdk_33_method_45_code 1 (some .int) [] ({ frames := 1, cells := 0, slots := 0, locals := 15 } : Room) #[(.int (Int32.ofNat C))] h0 (OV fun w h => w = .int (Int32.ofNat (own_hb C)) ∧ h = h0) := by
  refine OCon.of (Ls := #[.val (.int (Int32.ofNat C))]) (plainFor_of_name own_pn_5) (fun m => own_entry m rfl) ?_
  intro p e s m below meth c K
  obtain ⟨t1, -, -⟩ := own_t32 (n := C) (by omega)
  refine OGo.iloadN K (pc' := 1) own_d4_0 rfl rfl ?_
  refine OGo.ldcI K (pc' := 3) (v := (-2147483648)) (hw _ (List.mem_of_getElem? (i := 29) rfl)) own_d4_1 rfl ?_
  refine OGo.iloadN K (pc' := 4) own_d4_3 rfl rfl ?_
  refine OGo.callSV K (pc' := 7) (y := (⟨"java/lang/Integer", "numberOfLeadingZeros", "(I)I"⟩ : MethodName)) (W := 2) (cells' := 0) (slots' := 0) (argsL := [(.int (Int32.ofNat C))]) (st := [(.int (-2147483648 : Int32)), (.int (Int32.ofNat C))]) (hw _ (List.mem_of_getElem? (i := 30) rfl)) (hw _ (List.mem_of_getElem? (i := 31) rfl)) (hw _ (List.mem_of_getElem? (i := 27) rfl)) (hw _ (List.mem_of_getElem? (i := 32) rfl)) (by decide) (own_nlz32 l Z a0 hw (Int32.ofNat C) C h0 n0 Z0 (fun q => by rw [q, show (0 : Int32).toInt = 0 from rfl] at t1; omega) (by omega)) own_d4_4 rfl rfl (lenOf own_pd1 rfl) (by show 2 * 0 + _ ≤ _; exact Nat.le_of_eq rfl) (by decide) (by decide) rfl rfl (by decide) (by decide) ?_
  rintro _ h1 ⟨e1, L, rfl, q1, q2, q3⟩
  rw [e1]
  show OGo p l e _ s m _ below meth c n0 _ h0 0 0 7 #[.val (.int (Int32.ofNat C))] [(.int (Int32.ofNat (31 - L))), (.int (-2147483648 : Int32)), (.int (Int32.ofNat C))]
  refine OGo.iushr K (pc' := 8) own_d4_7 rfl ?_
  refine OGo.iand K (pc' := 9) own_d4_8 rfl ?_
  exact OGo.iret K own_d4_9 (by decide) (by decide) ⟨_, rfl, congrArg Value.int (own_hobv hC q2 q3 q1), rfl⟩
set_option maxRecDepth 65536 in
set_option maxHeartbeats 40000000 in
theorem own_rm1 (l : Launch) (Z : State) (a0 : Array Value) (hw : ∀ d ∈ tables_1, d.before a0 Z = true) (a : Addr) (R C : Nat) (F : Int32) (h0 : Heap) (n0 : Nat) (Z0 : n0 ≤ h0.size) (E : Exa Z h0 a "com/example/centroute/centroute/median/TupleIndex") (F_width : Fld Z h0 a "com/example/centroute/centroute/median/TupleIndex" "width" "I" (.int 0)) (F_rowLength : Fld Z h0 a "com/example/centroute/centroute/median/TupleIndex" "rowLength" "I" (.int 0)) (F_fill : Fld Z h0 a "com/example/centroute/centroute/median/TupleIndex" "fill" "I" (.int 0)) (F_keys : Fld Z h0 a "com/example/centroute/centroute/median/TupleIndex" "keys" "[I" .null) (F_rows : Fld Z h0 a "com/example/centroute/centroute/median/TupleIndex" "rows" "[I" .null) (F_slots : Fld Z h0 a "com/example/centroute/centroute/median/TupleIndex" "slots" "[I" .null) (F_size : Fld Z h0 a "com/example/centroute/centroute/median/TupleIndex" "size" "I" (.int 0)) (g_a : n0 ≤ a) (hR : 1 ≤ R ∧ R ≤ 4) (hC : 1 ≤ C ∧ C ≤ 4) :
    OCon l Z n0 (⟨"com/example/centroute/centroute/median/TupleIndex", "<init>", "(IIII)V"⟩ : MethodName) prog_50_method_1_code 6 none [] ({ frames := 2, cells := 3, slots := 36, locals := 28 } : Room) #[(.ref a), (.int 1), (.int (Int32.ofNat R)), (.int F), (.int (Int32.ofNat C))] h0 (ON fun h => ∃ xk xr xs, OTI Z n0 h a xk xr xs R C (4 * own_hb C) 0 F (List.replicate (C * R) (.int 0)) (List.replicate (4 * own_hb C) (.int 0)) ∧ Keep h0 h [a]) := by
  refine OCon.of (Ls := #[.val (.ref a), .val (.int 1), .val (.int (Int32.ofNat R)), .val (.int F), .val (.int (Int32.ofNat C)), .unset]) (plainFor_of_name own_pn_1) (fun m => own_entry m rfl) ?_
  intro p e s m below meth c K
  have hCR : C * R ≤ 16 := Nat.mul_le_mul hC.2 hR.2
  have hS := own_hb_S hC
  obtain ⟨-, cC2, cC3⟩ := own_t32 (n := C) (by omega)
  obtain ⟨-, cR2, cR3⟩ := own_t32 (n := C * R) (by omega)
  obtain ⟨-, cS2, cS3⟩ := own_t32 (n := 4 * own_hb C) (by omega)
  refine OGo.aloadN K (pc' := 1) own_d1_0 rfl rfl rfl ?_
  refine OGo.initO K (pc' := 4) (W := 0) (hw _ (List.mem_of_getElem? (i := 7) rfl)) (hw _ (List.mem_of_getElem? (i := 8) rfl)) (hw _ (List.mem_of_getElem? (i := 9) rfl)) own_d1_1 rfl rfl (by show 2 * 0 + _ ≤ _; exact Nat.le_of_eq rfl) (by decide) (by decide) ?_
  refine OGo.aloadN K (pc' := 5) own_d1_4 rfl rfl rfl ?_
  refine OGo.iloadN K (pc' := 6) own_d1_5 rfl rfl ?_
  refine OGo.putF K (pc' := 9) (host := "") (Or.inl (hw _ (List.mem_of_getElem? (i := 10) rfl))) Via.refl F_width E (Or.inr ⟨(hw _ (List.mem_of_getElem? (i := 11) rfl)), rfl, rfl⟩) (hw _ (List.mem_of_getElem? (i := 2) rfl)) (ty := .int) (by decide) rfl rfl g_a own_d1_6 rfl ?_
  intro h1 W1
  have Z1 : n0 ≤ h1.size := by rw [W1.size]; exact Z0
  have Fw_width_a_1 := F_width.same W1
  have E_1 := E.wr W1
  have F_rowLength_1 := F_rowLength.other W1 (Or.inr (slot_ne (Or.inr (hw _ (List.mem_of_getElem? (i := 13) rfl))) (Or.inr (hw _ (List.mem_of_getElem? (i := 11) rfl))) (by decide) (t := .int) (t' := .int) (by decide) (by decide)))
  have F_fill_1 := F_fill.other W1 (Or.inr (slot_ne (Or.inr (hw _ (List.mem_of_getElem? (i := 15) rfl))) (Or.inr (hw _ (List.mem_of_getElem? (i := 11) rfl))) (by decide) (t := .int) (t' := .int) (by decide) (by decide)))
  have F_keys_1 := F_keys.other W1 (Or.inr (slot_ne (Or.inl (hw _ (List.mem_of_getElem? (i := 22) rfl))) (Or.inr (hw _ (List.mem_of_getElem? (i := 11) rfl))) (by decide) (t := (.array .int)) (t' := .int) (by decide) (by decide)))
  have F_rows_1 := F_rows.other W1 (Or.inr (slot_ne (Or.inl (hw _ (List.mem_of_getElem? (i := 24) rfl))) (Or.inr (hw _ (List.mem_of_getElem? (i := 11) rfl))) (by decide) (t := (.array .int)) (t' := .int) (by decide) (by decide)))
  have F_slots_1 := F_slots.other W1 (Or.inr (slot_ne (Or.inl (hw _ (List.mem_of_getElem? (i := 35) rfl))) (Or.inr (hw _ (List.mem_of_getElem? (i := 11) rfl))) (by decide) (t := (.array .int)) (t' := .int) (by decide) (by decide)))
  have F_size_1 := F_size.other W1 (Or.inr (slot_ne (Or.inl (hw _ (List.mem_of_getElem? (i := 52) rfl))) (Or.inr (hw _ (List.mem_of_getElem? (i := 11) rfl))) (by decide) (t := .int) (t' := .int) (by decide) (by decide)))
  have Kp1 : Keep h0 h1 [a] := (Keep.refl h0 [a]).wr W1 (Or.inl (List.mem_of_getElem? (i := 0) rfl))
  refine OGo.aloadN K (pc' := 10) own_d1_9 rfl rfl rfl ?_
  refine OGo.iloadN K (pc' := 11) own_d1_10 rfl rfl ?_
  refine OGo.putF K (pc' := 14) (host := "") (Or.inl (hw _ (List.mem_of_getElem? (i := 12) rfl))) Via.refl F_rowLength_1 E_1 (Or.inr ⟨(hw _ (List.mem_of_getElem? (i := 13) rfl)), rfl, rfl⟩) (hw _ (List.mem_of_getElem? (i := 2) rfl)) (ty := .int) (by decide) rfl rfl g_a own_d1_11 rfl ?_
  intro h2 W2
  have Z2 : n0 ≤ h2.size := by rw [W2.size]; exact Z1
  have Fw_rowLength_a_2 := F_rowLength_1.same W2
  have E_2 := E_1.wr W2
  have Fw_width_a_2 := Fw_width_a_1.other W2 (Or.inr (slot_ne (Or.inr (hw _ (List.mem_of_getElem? (i := 11) rfl))) (Or.inr (hw _ (List.mem_of_getElem? (i := 13) rfl))) (by decide) (t := .int) (t' := .int) (by decide) (by decide)))
  have F_fill_2 := F_fill_1.other W2 (Or.inr (slot_ne (Or.inr (hw _ (List.mem_of_getElem? (i := 15) rfl))) (Or.inr (hw _ (List.mem_of_getElem? (i := 13) rfl))) (by decide) (t := .int) (t' := .int) (by decide) (by decide)))
  have F_keys_2 := F_keys_1.other W2 (Or.inr (slot_ne (Or.inl (hw _ (List.mem_of_getElem? (i := 22) rfl))) (Or.inr (hw _ (List.mem_of_getElem? (i := 13) rfl))) (by decide) (t := (.array .int)) (t' := .int) (by decide) (by decide)))
  have F_rows_2 := F_rows_1.other W2 (Or.inr (slot_ne (Or.inl (hw _ (List.mem_of_getElem? (i := 24) rfl))) (Or.inr (hw _ (List.mem_of_getElem? (i := 13) rfl))) (by decide) (t := (.array .int)) (t' := .int) (by decide) (by decide)))
  have F_slots_2 := F_slots_1.other W2 (Or.inr (slot_ne (Or.inl (hw _ (List.mem_of_getElem? (i := 35) rfl))) (Or.inr (hw _ (List.mem_of_getElem? (i := 13) rfl))) (by decide) (t := (.array .int)) (t' := .int) (by decide) (by decide)))
  have F_size_2 := F_size_1.other W2 (Or.inr (slot_ne (Or.inl (hw _ (List.mem_of_getElem? (i := 52) rfl))) (Or.inr (hw _ (List.mem_of_getElem? (i := 13) rfl))) (by decide) (t := .int) (t' := .int) (by decide) (by decide)))
  have Kp2 : Keep h0 h2 [a] := Kp1.wr W2 (Or.inl (List.mem_of_getElem? (i := 0) rfl))
  refine OGo.aloadN K (pc' := 15) own_d1_14 rfl rfl rfl ?_
  refine OGo.iloadN K (pc' := 16) own_d1_15 rfl rfl ?_
  refine OGo.putF K (pc' := 19) (host := "") (Or.inl (hw _ (List.mem_of_getElem? (i := 14) rfl))) Via.refl F_fill_2 E_2 (Or.inr ⟨(hw _ (List.mem_of_getElem? (i := 15) rfl)), rfl, rfl⟩) (hw _ (List.mem_of_getElem? (i := 2) rfl)) (ty := .int) (by decide) rfl rfl g_a own_d1_16 rfl ?_
  intro h3 W3
  have Z3 : n0 ≤ h3.size := by rw [W3.size]; exact Z2
  have Fw_fill_a_3 := F_fill_2.same W3
  have E_3 := E_2.wr W3
  have Fw_width_a_3 := Fw_width_a_2.other W3 (Or.inr (slot_ne (Or.inr (hw _ (List.mem_of_getElem? (i := 11) rfl))) (Or.inr (hw _ (List.mem_of_getElem? (i := 15) rfl))) (by decide) (t := .int) (t' := .int) (by decide) (by decide)))
  have Fw_rowLength_a_3 := Fw_rowLength_a_2.other W3 (Or.inr (slot_ne (Or.inr (hw _ (List.mem_of_getElem? (i := 13) rfl))) (Or.inr (hw _ (List.mem_of_getElem? (i := 15) rfl))) (by decide) (t := .int) (t' := .int) (by decide) (by decide)))
  have F_keys_3 := F_keys_2.other W3 (Or.inr (slot_ne (Or.inl (hw _ (List.mem_of_getElem? (i := 22) rfl))) (Or.inr (hw _ (List.mem_of_getElem? (i := 15) rfl))) (by decide) (t := (.array .int)) (t' := .int) (by decide) (by decide)))
  have F_rows_3 := F_rows_2.other W3 (Or.inr (slot_ne (Or.inl (hw _ (List.mem_of_getElem? (i := 24) rfl))) (Or.inr (hw _ (List.mem_of_getElem? (i := 15) rfl))) (by decide) (t := (.array .int)) (t' := .int) (by decide) (by decide)))
  have F_slots_3 := F_slots_2.other W3 (Or.inr (slot_ne (Or.inl (hw _ (List.mem_of_getElem? (i := 35) rfl))) (Or.inr (hw _ (List.mem_of_getElem? (i := 15) rfl))) (by decide) (t := (.array .int)) (t' := .int) (by decide) (by decide)))
  have F_size_3 := F_size_2.other W3 (Or.inr (slot_ne (Or.inl (hw _ (List.mem_of_getElem? (i := 52) rfl))) (Or.inr (hw _ (List.mem_of_getElem? (i := 15) rfl))) (by decide) (t := .int) (t' := .int) (by decide) (by decide)))
  have Kp3 : Keep h0 h3 [a] := Kp2.wr W3 (Or.inl (List.mem_of_getElem? (i := 0) rfl))
  refine OGo.iconst K (pc' := 20) (z := 1) own_d1_19 rfl rfl ?_
  refine OGo.iload K (pc' := 22) own_d1_20 rfl rfl ?_
  refine OGo.callSV K (pc' := 25) (y := (⟨"java/lang/Math", "max", "(II)I"⟩ : MethodName)) (W := 0) (cells' := 0) (slots' := 0) (argsL := [(.int (1 : Int32)), (.int (Int32.ofNat C))]) (st := []) (hw _ (List.mem_of_getElem? (i := 16) rfl)) (hw _ (List.mem_of_getElem? (i := 17) rfl)) (hw _ (List.mem_of_getElem? (i := 18) rfl)) (hw _ (List.mem_of_getElem? (i := 19) rfl)) (by decide) (own_maxI l Z a0 hw 1 (Int32.ofNat C) h3 n0 Z3) own_d1_22 rfl rfl (lenOf own_pd2 rfl) (by show 2 * 0 + _ ≤ _; exact Nat.le_of_eq rfl) (by decide) (by decide) rfl rfl (by decide) (by decide) ?_
  rintro _ h4 ⟨rfl, e4⟩
  rw [e4]
  show OGo p l e _ s m _ below meth c n0 _ h3 0 0 25 #[.val (.ref a), .val (.int (1 : Int32)), .val (.int (Int32.ofNat R)), .val (.int F), .val (.int (Int32.ofNat C)), .unset] [(.int (if (1 : Int32) < (Int32.ofNat C) then (Int32.ofNat C) else (1 : Int32)))]
  rw [show (if (1 : Int32) < (Int32.ofNat C) then (Int32.ofNat C) else (1 : Int32)) = (Int32.ofNat C) from own_max1 hC]
  refine OGo.istore K (pc' := 27) (Ls' := #[.val (.ref a), .val (.int (1 : Int32)), .val (.int (Int32.ofNat R)), .val (.int F), .val (.int (Int32.ofNat C)), .val (.int (Int32.ofNat C))]) own_d1_25 rfl rfl ?_
  refine OGo.aloadN K (pc' := 28) own_d1_27 rfl rfl rfl ?_
  refine OGo.iload K (pc' := 30) own_d1_28 rfl rfl ?_
  refine OGo.iloadN K (pc' := 31) own_d1_30 rfl rfl ?_
  refine OGo.imul K (pc' := 32) own_d1_31 rfl ?_
  rw [show ((Int32.ofNat C) * (1 : Int32)) = (Int32.ofNat C) from Int32.mul_one _]
  refine OGo.newP K (pc' := 34) (cap := 4) (cells' := 1) (slots' := 4) (hw _ (List.mem_of_getElem? (i := 20) rfl)) own_d1_32 rfl cC2 (by rw [cC3]; omega) (by decide) rfl rfl (by decide) (by decide) ?_
  intro h5 xk k_xk gq5 E5 V_xk
  have ne_a_xk : a ≠ xk := Nat.ne_of_lt (Nat.lt_of_lt_of_le E_3.lt (Nat.le_of_eq gq5.symm))
  have g_xk : n0 ≤ xk := Nat.le_trans Z3 (Nat.le_of_eq gq5.symm)
  have sz_xk : h0.size ≤ xk := Nat.le_trans Kp3.1 (Nat.le_of_eq gq5.symm)
  have Z5 : n0 ≤ h5.size := Nat.le_trans Z3 E5.1
  have Kp5 : Keep h0 h5 [a] := Kp3.ext E5
  have E_5 := E_3.ext E5
  have Fw_width_a_5 := Fw_width_a_3.ext E5
  have Fw_rowLength_a_5 := Fw_rowLength_a_3.ext E5
  have Fw_fill_a_5 := Fw_fill_a_3.ext E5
  have F_keys_5 := F_keys_3.ext E5
  have F_rows_5 := F_rows_3.ext E5
  have F_slots_5 := F_slots_3.ext E5
  have F_size_5 := F_size_3.ext E5
  refine OGo.putF K (pc' := 37) (host := "") (Or.inl (hw _ (List.mem_of_getElem? (i := 21) rfl))) Via.refl F_keys_5 E_5 (Or.inl (hw _ (List.mem_of_getElem? (i := 22) rfl))) (hw _ (List.mem_of_getElem? (i := 2) rfl)) (ty := (.array .int)) (by decide) rfl rfl g_a own_d1_34 rfl ?_
  intro h6 W6
  have Z6 : n0 ≤ h6.size := by rw [W6.size]; exact Z5
  have Fw_keys_a_6 := F_keys_5.same W6
  have E_6 := E_5.wr W6
  have Fw_width_a_6 := Fw_width_a_5.other W6 (Or.inr (slot_ne (Or.inr (hw _ (List.mem_of_getElem? (i := 11) rfl))) (Or.inl (hw _ (List.mem_of_getElem? (i := 22) rfl))) (by decide) (t := .int) (t' := (.array .int)) (by decide) (by decide)))
  have Fw_rowLength_a_6 := Fw_rowLength_a_5.other W6 (Or.inr (slot_ne (Or.inr (hw _ (List.mem_of_getElem? (i := 13) rfl))) (Or.inl (hw _ (List.mem_of_getElem? (i := 22) rfl))) (by decide) (t := .int) (t' := (.array .int)) (by decide) (by decide)))
  have Fw_fill_a_6 := Fw_fill_a_5.other W6 (Or.inr (slot_ne (Or.inr (hw _ (List.mem_of_getElem? (i := 15) rfl))) (Or.inl (hw _ (List.mem_of_getElem? (i := 22) rfl))) (by decide) (t := .int) (t' := (.array .int)) (by decide) (by decide)))
  have F_rows_6 := F_rows_5.other W6 (Or.inr (slot_ne (Or.inl (hw _ (List.mem_of_getElem? (i := 24) rfl))) (Or.inl (hw _ (List.mem_of_getElem? (i := 22) rfl))) (by decide) (t := (.array .int)) (t' := (.array .int)) (by decide) (by decide)))
  have F_slots_6 := F_slots_5.other W6 (Or.inr (slot_ne (Or.inl (hw _ (List.mem_of_getElem? (i := 35) rfl))) (Or.inl (hw _ (List.mem_of_getElem? (i := 22) rfl))) (by decide) (t := (.array .int)) (t' := (.array .int)) (by decide) (by decide)))
  have F_size_6 := F_size_5.other W6 (Or.inr (slot_ne (Or.inl (hw _ (List.mem_of_getElem? (i := 52) rfl))) (Or.inl (hw _ (List.mem_of_getElem? (i := 22) rfl))) (by decide) (t := .int) (t' := (.array .int)) (by decide) (by decide)))
  have V_xk_6 := V_xk.other W6 (Ne.symm ne_a_xk)
  have Kp6 : Keep h0 h6 [a] := Kp5.wr W6 (Or.inl (List.mem_of_getElem? (i := 0) rfl))
  refine OGo.aloadN K (pc' := 38) own_d1_37 rfl rfl rfl ?_
  refine OGo.iload K (pc' := 40) own_d1_38 rfl rfl ?_
  refine OGo.iloadN K (pc' := 41) own_d1_40 rfl rfl ?_
  refine OGo.imul K (pc' := 42) own_d1_41 rfl ?_
  rw [show ((Int32.ofNat C) * (Int32.ofNat R)) = (Int32.ofNat (C * R)) from own_mul32 C R (by omega)]
  refine OGo.newP K (pc' := 44) (cap := 16) (cells' := 2) (slots' := 20) (hw _ (List.mem_of_getElem? (i := 20) rfl)) own_d1_42 rfl cR2 (by rw [cR3]; omega) (by decide) rfl rfl (by decide) (by decide) ?_
  intro h7 xr k_xr gq7 E7 V_xr
  have ne_a_xr : a ≠ xr := Nat.ne_of_lt (Nat.lt_of_lt_of_le E_6.lt (Nat.le_of_eq gq7.symm))
  have ne_xk_xr : xk ≠ xr := Nat.ne_of_lt (Nat.lt_of_lt_of_le V_xk_6.lt (Nat.le_of_eq gq7.symm))
  have g_xr : n0 ≤ xr := Nat.le_trans Z6 (Nat.le_of_eq gq7.symm)
  have sz_xr : h0.size ≤ xr := Nat.le_trans Kp6.1 (Nat.le_of_eq gq7.symm)
  have Z7 : n0 ≤ h7.size := Nat.le_trans Z6 E7.1
  have Kp7 : Keep h0 h7 [a] := Kp6.ext E7
  have E_7 := E_6.ext E7
  have Fw_width_a_7 := Fw_width_a_6.ext E7
  have Fw_rowLength_a_7 := Fw_rowLength_a_6.ext E7
  have Fw_fill_a_7 := Fw_fill_a_6.ext E7
  have Fw_keys_a_7 := Fw_keys_a_6.ext E7
  have F_rows_7 := F_rows_6.ext E7
  have F_slots_7 := F_slots_6.ext E7
  have F_size_7 := F_size_6.ext E7
  have V_xk_7 := V_xk_6.ext E7
  refine OGo.putF K (pc' := 47) (host := "") (Or.inl (hw _ (List.mem_of_getElem? (i := 23) rfl))) Via.refl F_rows_7 E_7 (Or.inl (hw _ (List.mem_of_getElem? (i := 24) rfl))) (hw _ (List.mem_of_getElem? (i := 2) rfl)) (ty := (.array .int)) (by decide) rfl rfl g_a own_d1_44 rfl ?_
  intro h8 W8
  have Z8 : n0 ≤ h8.size := by rw [W8.size]; exact Z7
  have Fw_rows_a_8 := F_rows_7.same W8
  have E_8 := E_7.wr W8
  have Fw_width_a_8 := Fw_width_a_7.other W8 (Or.inr (slot_ne (Or.inr (hw _ (List.mem_of_getElem? (i := 11) rfl))) (Or.inl (hw _ (List.mem_of_getElem? (i := 24) rfl))) (by decide) (t := .int) (t' := (.array .int)) (by decide) (by decide)))
  have Fw_rowLength_a_8 := Fw_rowLength_a_7.other W8 (Or.inr (slot_ne (Or.inr (hw _ (List.mem_of_getElem? (i := 13) rfl))) (Or.inl (hw _ (List.mem_of_getElem? (i := 24) rfl))) (by decide) (t := .int) (t' := (.array .int)) (by decide) (by decide)))
  have Fw_fill_a_8 := Fw_fill_a_7.other W8 (Or.inr (slot_ne (Or.inr (hw _ (List.mem_of_getElem? (i := 15) rfl))) (Or.inl (hw _ (List.mem_of_getElem? (i := 24) rfl))) (by decide) (t := .int) (t' := (.array .int)) (by decide) (by decide)))
  have Fw_keys_a_8 := Fw_keys_a_7.other W8 (Or.inr (slot_ne (Or.inl (hw _ (List.mem_of_getElem? (i := 22) rfl))) (Or.inl (hw _ (List.mem_of_getElem? (i := 24) rfl))) (by decide) (t := (.array .int)) (t' := (.array .int)) (by decide) (by decide)))
  have F_slots_8 := F_slots_7.other W8 (Or.inr (slot_ne (Or.inl (hw _ (List.mem_of_getElem? (i := 35) rfl))) (Or.inl (hw _ (List.mem_of_getElem? (i := 24) rfl))) (by decide) (t := (.array .int)) (t' := (.array .int)) (by decide) (by decide)))
  have F_size_8 := F_size_7.other W8 (Or.inr (slot_ne (Or.inl (hw _ (List.mem_of_getElem? (i := 52) rfl))) (Or.inl (hw _ (List.mem_of_getElem? (i := 24) rfl))) (by decide) (t := .int) (t' := (.array .int)) (by decide) (by decide)))
  have V_xk_8 := V_xk_7.other W8 (Ne.symm ne_a_xk)
  have V_xr_8 := V_xr.other W8 (Ne.symm ne_a_xr)
  have Kp8 : Keep h0 h8 [a] := Kp7.wr W8 (Or.inl (List.mem_of_getElem? (i := 0) rfl))
  refine OGo.aloadN K (pc' := 48) own_d1_47 rfl rfl rfl ?_
  refine OGo.iload K (pc' := 50) own_d1_48 rfl rfl ?_
  refine OGo.callSV K (pc' := 53) (y := (⟨"java/lang/Integer", "highestOneBit", "(I)I"⟩ : MethodName)) (W := 1) (cells' := 2) (slots' := 20) (argsL := [(.int (Int32.ofNat C))]) (st := [(.ref a)]) (hw _ (List.mem_of_getElem? (i := 25) rfl)) (hw _ (List.mem_of_getElem? (i := 26) rfl)) (hw _ (List.mem_of_getElem? (i := 27) rfl)) (hw _ (List.mem_of_getElem? (i := 28) rfl)) (by decide) (own_rm4 l Z a0 hw C h8 n0 Z8 hC) own_d1_50 rfl rfl (lenOf own_pd1 rfl) (by show 2 * 0 + _ ≤ _; exact Nat.le_of_eq rfl) (by decide) (by decide) rfl rfl (by decide) (by decide) ?_
  rintro _ h9 ⟨rfl, e9⟩
  rw [e9]
  show OGo p l e _ s m _ below meth c n0 _ h8 2 20 53 #[.val (.ref a), .val (.int (1 : Int32)), .val (.int (Int32.ofNat R)), .val (.int F), .val (.int (Int32.ofNat C)), .val (.int (Int32.ofNat C))] [(.int (Int32.ofNat (own_hb C))), (.ref a)]
  refine OGo.iconst K (pc' := 54) (z := 4) own_d1_53 rfl rfl ?_
  refine OGo.imul K (pc' := 55) own_d1_54 rfl ?_
  rw [show ((Int32.ofNat (own_hb C)) * (4 : Int32)) = (Int32.ofNat (4 * own_hb C)) from (by rw [show (4 : Int32) = Int32.ofNat 4 from rfl, own_mul32 _ 4 (by omega), Nat.mul_comm])]
  refine OGo.newP K (pc' := 57) (cap := 16) (cells' := 3) (slots' := 36) (hw _ (List.mem_of_getElem? (i := 20) rfl)) own_d1_55 rfl cS2 (by rw [cS3]; omega) (by decide) rfl rfl (by decide) (by decide) ?_
  intro h10 xs k_xs gq10 E10 V_xs
  have ne_a_xs : a ≠ xs := Nat.ne_of_lt (Nat.lt_of_lt_of_le E_8.lt (Nat.le_of_eq gq10.symm))
  have ne_xk_xs : xk ≠ xs := Nat.ne_of_lt (Nat.lt_of_lt_of_le V_xk_8.lt (Nat.le_of_eq gq10.symm))
  have ne_xr_xs : xr ≠ xs := Nat.ne_of_lt (Nat.lt_of_lt_of_le V_xr_8.lt (Nat.le_of_eq gq10.symm))
  have g_xs : n0 ≤ xs := Nat.le_trans Z8 (Nat.le_of_eq gq10.symm)
  have sz_xs : h0.size ≤ xs := Nat.le_trans Kp8.1 (Nat.le_of_eq gq10.symm)
  have Z10 : n0 ≤ h10.size := Nat.le_trans Z8 E10.1
  have Kp10 : Keep h0 h10 [a] := Kp8.ext E10
  have E_10 := E_8.ext E10
  have Fw_width_a_10 := Fw_width_a_8.ext E10
  have Fw_rowLength_a_10 := Fw_rowLength_a_8.ext E10
  have Fw_fill_a_10 := Fw_fill_a_8.ext E10
  have Fw_keys_a_10 := Fw_keys_a_8.ext E10
  have Fw_rows_a_10 := Fw_rows_a_8.ext E10
  have F_slots_10 := F_slots_8.ext E10
  have F_size_10 := F_size_8.ext E10
  have V_xk_10 := V_xk_8.ext E10
  have V_xr_10 := V_xr_8.ext E10
  refine OGo.putF K (pc' := 60) (host := "") (Or.inl (hw _ (List.mem_of_getElem? (i := 34) rfl))) Via.refl F_slots_10 E_10 (Or.inl (hw _ (List.mem_of_getElem? (i := 35) rfl))) (hw _ (List.mem_of_getElem? (i := 2) rfl)) (ty := (.array .int)) (by decide) rfl rfl g_a own_d1_57 rfl ?_
  intro h11 W11
  have Z11 : n0 ≤ h11.size := by rw [W11.size]; exact Z10
  have Fw_slots_a_11 := F_slots_10.same W11
  have E_11 := E_10.wr W11
  have Fw_width_a_11 := Fw_width_a_10.other W11 (Or.inr (slot_ne (Or.inr (hw _ (List.mem_of_getElem? (i := 11) rfl))) (Or.inl (hw _ (List.mem_of_getElem? (i := 35) rfl))) (by decide) (t := .int) (t' := (.array .int)) (by decide) (by decide)))
  have Fw_rowLength_a_11 := Fw_rowLength_a_10.other W11 (Or.inr (slot_ne (Or.inr (hw _ (List.mem_of_getElem? (i := 13) rfl))) (Or.inl (hw _ (List.mem_of_getElem? (i := 35) rfl))) (by decide) (t := .int) (t' := (.array .int)) (by decide) (by decide)))
  have Fw_fill_a_11 := Fw_fill_a_10.other W11 (Or.inr (slot_ne (Or.inr (hw _ (List.mem_of_getElem? (i := 15) rfl))) (Or.inl (hw _ (List.mem_of_getElem? (i := 35) rfl))) (by decide) (t := .int) (t' := (.array .int)) (by decide) (by decide)))
  have Fw_keys_a_11 := Fw_keys_a_10.other W11 (Or.inr (slot_ne (Or.inl (hw _ (List.mem_of_getElem? (i := 22) rfl))) (Or.inl (hw _ (List.mem_of_getElem? (i := 35) rfl))) (by decide) (t := (.array .int)) (t' := (.array .int)) (by decide) (by decide)))
  have Fw_rows_a_11 := Fw_rows_a_10.other W11 (Or.inr (slot_ne (Or.inl (hw _ (List.mem_of_getElem? (i := 24) rfl))) (Or.inl (hw _ (List.mem_of_getElem? (i := 35) rfl))) (by decide) (t := (.array .int)) (t' := (.array .int)) (by decide) (by decide)))
  have F_size_11 := F_size_10.other W11 (Or.inr (slot_ne (Or.inl (hw _ (List.mem_of_getElem? (i := 52) rfl))) (Or.inl (hw _ (List.mem_of_getElem? (i := 35) rfl))) (by decide) (t := .int) (t' := (.array .int)) (by decide) (by decide)))
  have V_xk_11 := V_xk_10.other W11 (Ne.symm ne_a_xk)
  have V_xr_11 := V_xr_10.other W11 (Ne.symm ne_a_xr)
  have V_xs_11 := V_xs.other W11 (Ne.symm ne_a_xs)
  have Kp11 : Keep h0 h11 [a] := Kp10.wr W11 (Or.inl (List.mem_of_getElem? (i := 0) rfl))
  exact OGo.vret K own_d1_60 (by decide) (by decide) ⟨rfl, xk, xr, xs, ⟨E_11, Fw_width_a_11, Fw_rowLength_a_11, Fw_fill_a_11, Fw_keys_a_11, Fw_rows_a_11, Fw_slots_a_11, F_size_11, ⟨_, _, V_xk_11.pad (pad_rep [] _ C), List.length_replicate⟩, ⟨_, V_xr_11.pad (pad_rep [] _ (C * R)), List.length_replicate⟩, ⟨_, V_xs_11.pad (pad_rep [] _ (4 * own_hb C)), List.length_replicate⟩, ⟨ne_a_xk, ne_a_xr, ne_a_xs, ne_xk_xr, ne_xk_xs, ne_xr_xs⟩, ⟨g_a, g_xk, g_xr, g_xs⟩, hR, ⟨hC.1, by omega⟩, hS⟩, Kp11⟩
set_option maxRecDepth 65536 in
set_option maxHeartbeats 40000000 in
theorem own_rm8 (l : Launch) (Z : State) (a0 : Array Value) (hw : ∀ d ∈ tables_1, d.before a0 Z = true) (a xk xr xs : Addr) (R C S n : Nat) (F : Int32) (rv sv : List Value) (y : Addr) (ky : ClassId) (kk : Int32) (h0 : Heap) (n0 : Nat) (Z0 : n0 ≤ h0.size) (O : OTI Z n0 h0 a xk xr xs R C S n F rv sv) (Vy : Arv Z h0 y ky .int 1 [.int kk] (.int 0)) :
    OCon l Z n0 (⟨"com/example/centroute/centroute/median/TupleIndex", "hash", "([II)I"⟩ : MethodName) prog_50_method_9_code 5 (some .int) [] ({ frames := 1, cells := 0, slots := 0, locals := 14 } : Room) #[(.ref a), (.ref y), (.int 0)] h0 (OV fun w h => w = .int (Int32.ofNat (own_h kk S)) ∧ h = h0) := by
  refine OCon.of (Ls := #[.val (.ref a), .val (.ref y), .val (.int 0), .unset, .unset]) (plainFor_of_name own_pn_1) (fun m => own_entry m rfl) ?_
  intro p e s m below meth c K
  obtain ⟨E, F1, F2, F3, F4, F5, F6, F7, ⟨kk_, kv, Vk, lk⟩, ⟨kr, Vr, lr⟩, ⟨ks, Vs, ls⟩, ⟨n1, n2, n3, n4, n5, n6⟩, ⟨g_a, g_xk, g_xr, g_xs⟩, hR, hC, hS⟩ := O
  obtain ⟨tS, -, -⟩ := own_t32 (n := S) (by omega)
  refine OGo.iconst K (pc' := 1) (z := 0) own_d8_0 rfl rfl ?_
  refine OGo.istoreN K (pc' := 2) (Ls' := #[.val (.ref a), .val (.ref y), .val (.int (0 : Int32)), .val (.int (0 : Int32)), .unset]) own_d8_1 rfl rfl ?_
  refine OGo.iloadN K (pc' := 3) own_d8_2 rfl rfl ?_
  refine OGo.istore K (pc' := 5) (Ls' := #[.val (.ref a), .val (.ref y), .val (.int (0 : Int32)), .val (.int (0 : Int32)), .val (.int (0 : Int32))]) own_d8_3 rfl rfl ?_
  refine OGo.iload K (pc' := 7) own_d8_5 rfl rfl ?_
  refine OGo.iloadN K (pc' := 8) own_d8_7 rfl rfl ?_
  refine OGo.aloadN K (pc' := 9) own_d8_8 rfl rfl rfl ?_
  refine OGo.getF K (pc' := 12) (host := "") (Or.inl (hw _ (List.mem_of_getElem? (i := 10) rfl))) Via.refl F1 own_d8_9 rfl ?_
  refine OGo.iadd K (pc' := 13) own_d8_12 rfl ?_
  refine OGo.icmpGe K (pc' := 16) (pcY := 32) own_d8_13 rfl (by decide) rfl (fun hc13 => absurd (by decide : (0 : Int32) < ((0 : Int32) + (1 : Int32))) hc13) (fun hc13 => ?_)
  refine OGo.iloadN K (pc' := 17) own_d8_16 rfl rfl ?_
  refine OGo.aloadN K (pc' := 18) own_d8_17 rfl rfl rfl ?_
  refine OGo.iload K (pc' := 20) own_d8_18 rfl rfl ?_
  refine OGo.iaload K (pc' := 21) (v := (.int kk)) Vy (by decide) rfl own_d8_20 rfl ?_
  refine OGo.iadd K (pc' := 22) own_d8_21 rfl ?_
  refine OGo.ldcI K (pc' := 24) (v := (-1640531535)) (hw _ (List.mem_of_getElem? (i := 49) rfl)) own_d8_22 rfl ?_
  refine OGo.imul K (pc' := 25) own_d8_24 rfl ?_
  refine OGo.istoreN K (pc' := 26) (Ls' := #[.val (.ref a), .val (.ref y), .val (.int (0 : Int32)), .val (.int (((0 : Int32) + kk) * (-1640531535 : Int32))), .val (.int (0 : Int32))]) own_d8_25 rfl rfl ?_
  refine OGo.iinc K (pc' := 29) (z := 1) (Ls' := #[.val (.ref a), .val (.ref y), .val (.int (0 : Int32)), .val (.int (((0 : Int32) + kk) * (-1640531535 : Int32))), .val (.int ((0 : Int32) + (1 : Int32)))]) own_d8_26 rfl rfl rfl rfl ?_
  refine OGo.goto K (pc' := 5) own_d8_29 (by decide) rfl ?_
  rw [show ((0 : Int32) + (1 : Int32)) = (1 : Int32) from rfl]
  rw [show ((0 : Int32) + kk) = kk from Int32.zero_add _]
  refine OGo.iload K (pc' := 7) own_d8_5 rfl rfl ?_
  refine OGo.iloadN K (pc' := 8) own_d8_7 rfl rfl ?_
  refine OGo.aloadN K (pc' := 9) own_d8_8 rfl rfl rfl ?_
  refine OGo.getF K (pc' := 12) (host := "") (Or.inl (hw _ (List.mem_of_getElem? (i := 10) rfl))) Via.refl F1 own_d8_9 rfl ?_
  refine OGo.iadd K (pc' := 13) own_d8_12 rfl ?_
  refine OGo.icmpGe K (pc' := 16) (pcY := 32) own_d8_13 rfl (by decide) rfl (fun hc13 => ?_) (fun hc13 => absurd hc13 (by decide : ¬ (1 : Int32) < ((0 : Int32) + (1 : Int32))))
  refine OGo.iloadN K (pc' := 33) own_d8_32 rfl rfl ?_
  refine OGo.aloadN K (pc' := 34) own_d8_33 rfl rfl rfl ?_
  refine OGo.getF K (pc' := 37) (host := "") (Or.inl (hw _ (List.mem_of_getElem? (i := 34) rfl))) Via.refl F6 own_d8_34 rfl ?_
  refine OGo.alen K (pc' := 38) Vs own_d8_37 rfl ?_
  refine OGo.callSV K (pc' := 41) (y := (⟨"java/lang/Integer", "numberOfLeadingZeros", "(I)I"⟩ : MethodName)) (W := 1) (cells' := 0) (slots' := 0) (argsL := [(.int (Int32.ofNat S))]) (st := [(.int (kk * (-1640531535 : Int32)))]) (hw _ (List.mem_of_getElem? (i := 50) rfl)) (hw _ (List.mem_of_getElem? (i := 31) rfl)) (hw _ (List.mem_of_getElem? (i := 27) rfl)) (hw _ (List.mem_of_getElem? (i := 32) rfl)) (by decide) (own_nlz32 l Z a0 hw (Int32.ofNat S) S h0 n0 Z0 (fun q => by rw [q, show (0 : Int32).toInt = 0 from rfl] at tS; omega) (by omega)) own_d8_38 rfl rfl (lenOf own_pd1 rfl) (by show 2 * 0 + _ ≤ _; exact Nat.le_of_eq rfl) (by decide) (by decide) rfl rfl (by decide) (by decide) ?_
  rintro _ h1 ⟨e1, L, rfl, q1, q2, q3⟩
  rw [e1]
  show OGo p l e _ s m _ below meth c n0 _ h0 0 0 41 #[.val (.ref a), .val (.ref y), .val (.int (0 : Int32)), .val (.int (kk * (-1640531535 : Int32))), .val (.int (1 : Int32))] [(.int (Int32.ofNat (31 - L))), (.int (kk * (-1640531535 : Int32)))]
  refine OGo.iconst K (pc' := 42) (z := 1) own_d8_41 rfl rfl ?_
  refine OGo.iadd K (pc' := 43) own_d8_42 rfl ?_
  refine OGo.iushr K (pc' := 44) own_d8_43 rfl ?_
  exact OGo.iret K own_d8_44 (by decide) (by decide) ⟨_, rfl, congrArg Value.int (own_hashv kk hS q2 q3), rfl⟩
set_option maxRecDepth 65536 in
set_option maxHeartbeats 40000000 in
theorem own_rm7 (l : Launch) (Z : State) (a0 : Array Value) (hw : ∀ d ∈ tables_1, d.before a0 Z = true) (a xk xr xs : Addr) (R C S n : Nat) (F : Int32) (rv sv : List Value) (y : Addr) (ky : ClassId) (kk : Int32) (h0 : Heap) (n0 : Nat) (Z0 : n0 ≤ h0.size) (O : OTI Z n0 h0 a xk xr xs R C S n F rv sv) (Vy : Arv Z h0 y ky .int 1 [.int kk] (.int 0)) (h0s : sv.getD (own_h kk S) (.int 0) = .int 0) :
    OCon l Z n0 (⟨"com/example/centroute/centroute/median/TupleIndex", "slot", "([I)I"⟩ : MethodName) prog_50_method_6_code 4 (some .int) [] ({ frames := 2, cells := 0, slots := 0, locals := 30 } : Room) #[(.ref a), (.ref y)] h0 (OV fun w h => w = .int (Int32.ofNat (own_h kk S)) ∧ h = h0) := by
  refine OCon.of (Ls := #[.val (.ref a), .val (.ref y), .unset, .unset]) (plainFor_of_name own_pn_1) (fun m => own_entry m rfl) ?_
  intro p e s m below meth c K
  have O' := O
  obtain ⟨E, F1, F2, F3, F4, F5, F6, F7, ⟨kk_, kv, Vk, lk⟩, ⟨kr, Vr, lr⟩, ⟨ks, Vs, ls⟩, ⟨n1, n2, n3, n4, n5, n6⟩, ⟨g_a, g_xk, g_xr, g_xs⟩, hR, hC, hS⟩ := O
  have hj := own_h_lt kk hS
  obtain ⟨j1, j2⟩ := own_a32 hj (by omega)
  obtain ⟨-, -, j3⟩ := own_t32 (n := own_h kk S) (by omega)
  refine OGo.aloadN K (pc' := 1) own_d7_0 rfl rfl rfl ?_
  refine OGo.getF K (pc' := 4) (host := "") (Or.inl (hw _ (List.mem_of_getElem? (i := 34) rfl))) Via.refl F6 own_d7_1 rfl ?_
  refine OGo.alen K (pc' := 5) Vs own_d7_4 rfl ?_
  refine OGo.iconst K (pc' := 6) (z := 1) own_d7_5 rfl rfl ?_
  refine OGo.isub K (pc' := 7) own_d7_6 rfl ?_
  refine OGo.istoreN K (pc' := 8) (Ls' := #[.val (.ref a), .val (.ref y), .val (.int ((Int32.ofNat S) - (1 : Int32))), .unset]) own_d7_7 rfl rfl ?_
  refine OGo.aloadN K (pc' := 9) own_d7_8 rfl rfl rfl ?_
  refine OGo.aloadN K (pc' := 10) own_d7_9 rfl rfl rfl ?_
  refine OGo.iconst K (pc' := 11) (z := 0) own_d7_10 rfl rfl ?_
  refine OGo.callQV K (pc' := 14) (y := (⟨"com/example/centroute/centroute/median/TupleIndex", "hash", "([II)I"⟩ : MethodName)) (a := a) (W := 0) (cells' := 0) (slots' := 0) (argsL := [(.ref y), (.int (0 : Int32))]) (st := []) E (hw _ (List.mem_of_getElem? (i := 45) rfl)) (hw _ (List.mem_of_getElem? (i := 46) rfl)) (hw _ (List.mem_of_getElem? (i := 2) rfl)) (hw _ (List.mem_of_getElem? (i := 47) rfl)) (hw _ (List.mem_of_getElem? (i := 3) rfl)) (hw _ (List.mem_of_getElem? (i := 48) rfl)) (by decide) (own_rm8 l Z a0 hw a xk xr xs R C S n F rv sv y ky kk h0 n0 Z0 O' Vy) own_d7_11 rfl rfl (lenOf own_pd4 rfl) (by show 2 * 0 + _ ≤ _; exact Nat.le_of_eq rfl) (by decide) (by decide) rfl rfl (by decide) (by decide) ?_
  rintro _ h1 ⟨rfl, e1⟩
  rw [e1]
  show OGo p l e _ s m _ below meth c n0 _ h0 0 0 14 #[.val (.ref a), .val (.ref y), .val (.int ((Int32.ofNat S) - (1 : Int32))), .unset] [(.int (Int32.ofNat (own_h kk S)))]
  refine OGo.istoreN K (pc' := 15) (Ls' := #[.val (.ref a), .val (.ref y), .val (.int ((Int32.ofNat S) - (1 : Int32))), .val (.int (Int32.ofNat (own_h kk S)))]) own_d7_14 rfl rfl ?_
  refine OGo.aloadN K (pc' := 16) own_d7_15 rfl rfl rfl ?_
  refine OGo.getF K (pc' := 19) (host := "") (Or.inl (hw _ (List.mem_of_getElem? (i := 34) rfl))) Via.refl F6 own_d7_16 rfl ?_
  refine OGo.iloadN K (pc' := 20) own_d7_19 rfl rfl ?_
  refine OGo.iaload K (pc' := 21) (v := (.int (0 : Int32))) Vs ⟨j1, j2⟩ (by rw [j3]; exact h0s) own_d7_20 rfl ?_
  refine OGo.ifEq K (pc' := 24) (pcY := 49) own_d7_21 rfl (by decide) rfl (fun hc21 => ?_) (fun hc21 => absurd (rfl : (0 : Int32) = (0 : Int32)) hc21)
  refine OGo.iloadN K (pc' := 50) own_d7_49 rfl rfl ?_
  exact OGo.iret K own_d7_50 (by decide) (by decide) ⟨_, rfl, rfl, rfl⟩
set_option maxRecDepth 65536 in
set_option maxHeartbeats 40000000 in
theorem own_rm12 (l : Launch) (Z : State) (a0 : Array Value) (hw : ∀ d ∈ tables_1, d.before a0 Z = true) (u v : Int32) (h0 : Heap) (n0 : Nat) (Z0 : n0 ≤ h0.size)  :
    OCon l Z n0 (⟨"java/lang/Math", "min", "(II)I"⟩ : MethodName) jdk_29_method_69_code 2 (some .int) [] ({ frames := 0, cells := 0, slots := 0, locals := 0 } : Room) #[(.int u), (.int v)] h0 (OV fun w h => w = .int (if v < u then v else u) ∧ h = h0) := by
  refine OCon.of (Ls := #[.val (.int u), .val (.int v)]) (Jvm.Free.JP.mathPlain rfl (by decide +kernel)) (fun m => own_entry m rfl) ?_
  intro p e s m below meth c K
  refine OGo.iloadN K (pc' := 1) own_d12_0 rfl rfl ?_
  refine OGo.iloadN K (pc' := 2) own_d12_1 rfl rfl ?_
  refine OGo.icmpGt K (pc' := 5) (pcY := 9) own_d12_2 rfl (by decide) rfl (fun hc => ?_) (fun hc => ?_)
  · skip
    refine OGo.iloadN K (pc' := 10) own_d12_9 rfl rfl ?_
    exact OGo.iret K own_d12_10 (by decide) (by decide) ⟨_, rfl, by rw [if_pos hc], rfl⟩
  · skip
    refine OGo.iloadN K (pc' := 6) own_d12_5 rfl rfl ?_
    refine OGo.goto K (pc' := 10) own_d12_6 (by decide) rfl ?_
    exact OGo.iret K own_d12_10 (by decide) (by decide) ⟨_, rfl, by rw [if_neg hc], rfl⟩
set_option maxRecDepth 65536 in
set_option maxHeartbeats 40000000 in
theorem own_rm10 (l : Launch) (Z : State) (a0 : Array Value) (hw : ∀ d ∈ tables_1, d.before a0 Z = true) (u v w' : Int32) (h0 : Heap) (n0 : Nat) (Z0 : n0 ≤ h0.size) (h1 : ¬ w' < v) (h2 : ¬ v < 0) (h3 : ¬ u < w') :
    OCon l Z n0 (⟨"java/util/Arrays", "rangeCheck", "(III)V"⟩ : MethodName) jdk_65_method_30_code 3 none [] ({ frames := 0, cells := 0, slots := 0, locals := 0 } : Room) #[(.int u), (.int v), (.int w')] h0 (ON fun h => h = h0) := by
  refine OCon.of (Ls := #[.val (.int u), .val (.int v), .val (.int w')]) (plainFor_of_name own_pn_10) (fun m => own_entry m rfl) ?_
  intro p e s m below meth c K
  refine OGo.iloadN K (pc' := 1) own_d10_0 rfl rfl ?_
  refine OGo.iloadN K (pc' := 2) own_d10_1 rfl rfl ?_
  refine OGo.icmpLe K (pc' := 5) (pcY := 46) own_d10_2 rfl (by decide) rfl (fun hc2 => ?_) (fun hc2 => absurd hc2 (h1 : ¬ w' < v))
  refine OGo.iloadN K (pc' := 47) own_d10_46 rfl rfl ?_
  refine OGo.ifGe K (pc' := 50) (pcY := 59) own_d10_47 rfl (by decide) rfl (fun hc47 => ?_) (fun hc47 => absurd hc47 (h2 : ¬ v < (0 : Int32)))
  refine OGo.iloadN K (pc' := 60) own_d10_59 rfl rfl ?_
  refine OGo.iloadN K (pc' := 61) own_d10_60 rfl rfl ?_
  refine OGo.icmpLe K (pc' := 64) (pcY := 73) own_d10_61 rfl (by decide) rfl (fun hc61 => ?_) (fun hc61 => absurd hc61 (h3 : ¬ u < w'))
  exact OGo.vret K own_d10_73 (by decide) (by decide) ⟨rfl, rfl⟩
set_option maxRecDepth 65536 in
set_option maxHeartbeats 40000000 in
theorem own_rm9 (l : Launch) (Z : State) (a0 : Array Value) (hw : ∀ d ∈ tables_1, d.before a0 Z = true) (x : Addr) (kx : ClassId) (N lo hi : Nat) (F : Int32) (vs : List Value) (h0 : Heap) (n0 : Nat) (Z0 : n0 ≤ h0.size) (Vx : Arv Z h0 x kx .int (Int32.ofNat N) vs (.int 0)) (lx : vs.length = N) (hN : N < 1000) (h1 : lo ≤ hi) (h2 : hi ≤ N) (g_x : n0 ≤ x) :
    OCon l Z n0 (⟨"java/util/Arrays", "fill", "([IIII)V"⟩ : MethodName) jdk_65_method_104_code 5 none [] ({ frames := 1, cells := 0, slots := 0, locals := 14 } : Room) #[(.ref x), (.int (Int32.ofNat lo)), (.int (Int32.ofNat hi)), (.int F)] h0 (ON fun h => Keep h0 h [x] ∧ ∃ vs', Arv Z h x kx .int (Int32.ofNat N) vs' (.int 0) ∧ vs'.length = N ∧ (∀ i, i < lo → vs'.getD i (.int 0) = vs.getD i (.int 0)) ∧ ∀ i, lo ≤ i → i < hi → vs'.getD i (.int 0) = .int F) := by
  refine OCon.of (Ls := #[.val (.ref x), .val (.int (Int32.ofNat lo)), .val (.int (Int32.ofNat hi)), .val (.int F), .unset]) (plainFor_of_name own_pn_10) (fun m => own_entry m rfl) ?_
  intro p e s m below meth c K
  refine OGo.aloadN K (pc' := 1) own_d9_0 rfl rfl rfl ?_
  refine OGo.alen K (pc' := 2) Vx own_d9_1 rfl ?_
  refine OGo.iloadN K (pc' := 3) own_d9_2 rfl rfl ?_
  refine OGo.iloadN K (pc' := 4) own_d9_3 rfl rfl ?_
  refine OGo.callSN K (pc' := 7) (y := (⟨"java/util/Arrays", "rangeCheck", "(III)V"⟩ : MethodName)) (W := 0) (cells' := 0) (slots' := 0) (argsL := [(.int (Int32.ofNat N)), (.int (Int32.ofNat lo)), (.int (Int32.ofNat hi))]) (st := []) (hw _ (List.mem_of_getElem? (i := 61) rfl)) (hw _ (List.mem_of_getElem? (i := 62) rfl)) (hw _ (List.mem_of_getElem? (i := 59) rfl)) (hw _ (List.mem_of_getElem? (i := 63) rfl)) (by decide) (own_rm10 l Z a0 hw _ _ _ h0 n0 Z0 (fun q => absurd ((own_lt32 (by omega) (by omega)).mp q) (by omega)) (own_t32 (by omega)).2.1 (fun q => absurd ((own_lt32 (by omega) (by omega)).mp q) (by omega))) own_d9_4 rfl rfl (lenOf own_pd6 rfl) (by show 2 * 0 + _ ≤ _; exact Nat.le_of_eq rfl) (by decide) (by decide) rfl rfl (by decide) (by decide) ?_
  rintro h1 e1
  rw [e1]
  have loop : ∀ (d i : Nat) (h : Heap) (us : List Value) (hd : i + d = hi) (hi' : lo ≤ i) (Zh : n0 ≤ h.size) (Vu : Arv Z h x kx .int (Int32.ofNat N) us (.int 0)) (lu : us.length = N) (Kp : Keep h0 h [x]) (p1 : ∀ j, j < lo → us.getD j (.int 0) = vs.getD j (.int 0)) (p2 : ∀ j, lo ≤ j → j < i → us.getD j (.int 0) = .int F), OGo p l e ({ frames := 1, cells := 0, slots := 0, locals := 14 } : Room) s m #[(.ref x), (.int (Int32.ofNat lo)), (.int (Int32.ofNat hi)), (.int F)] below meth c n0 (ON fun h => Keep h0 h [x] ∧ ∃ vs', Arv Z h x kx .int (Int32.ofNat N) vs' (.int 0) ∧ vs'.length = N ∧ (∀ i, i < lo → vs'.getD i (.int 0) = vs.getD i (.int 0)) ∧ ∀ i, lo ≤ i → i < hi → vs'.getD i (.int 0) = .int F) h 0 0 10 #[.val (.ref x), .val (.int (Int32.ofNat lo)), .val (.int (Int32.ofNat hi)), .val (.int F), .val (.int (Int32.ofNat i))] [] := by
    intro d
    induction d with
    | zero =>
      intro i h us hd hi' Zh Vu lu Kp p1 p2
      have ei : i = hi := by omega
      refine OGo.iload K (pc' := 12) own_d9_10 rfl rfl ?_
      refine OGo.iloadN K (pc' := 13) own_d9_12 rfl rfl ?_
      refine OGo.icmpGe K (pc' := 16) (pcY := 27) own_d9_13 rfl (by decide) rfl (fun hc13 => ?_) (fun hc13 => absurd hc13 ((by rw [ei]; exact Int32.lt_irrefl) : ¬ (Int32.ofNat i) < (Int32.ofNat hi)))
      exact OGo.vret K own_d9_27 (by decide) (by decide) ⟨rfl, Kp, us, Vu, lu, p1, fun j q1 q2 => p2 j q1 (by omega)⟩
    | succ d ih =>
      intro i h us hd hi' Zh Vu lu Kp p1 p2
      obtain ⟨j1, j2⟩ := own_a32 (n := i) (N := N) (by omega) hN
      obtain ⟨-, -, j3⟩ := own_t32 (n := i) (by omega)
      refine OGo.iload K (pc' := 12) own_d9_10 rfl rfl ?_
      refine OGo.iloadN K (pc' := 13) own_d9_12 rfl rfl ?_
      refine OGo.icmpGe K (pc' := 16) (pcY := 27) own_d9_13 rfl (by decide) rfl (fun hc13 => absurd ((own_lt32 (by omega) (by omega)).mpr (by omega) : (Int32.ofNat i) < (Int32.ofNat hi)) hc13) (fun hc13 => ?_)
      refine OGo.aloadN K (pc' := 17) own_d9_16 rfl rfl rfl ?_
      refine OGo.iload K (pc' := 19) own_d9_17 rfl rfl ?_
      refine OGo.iloadN K (pc' := 20) own_d9_19 rfl rfl ?_
      refine OGo.iastore K (pc' := 21) (i := i) Vu ⟨j1, j2⟩ j3 (by rw [lu]; omega) g_x own_d9_20 rfl ?_
      intro h2 W2 Vu_2
      have Z2 : n0 ≤ h2.size := by rw [W2.size]; exact Zh
      have Kp2 : Keep h0 h2 [x] := Kp.wr W2 (Or.inl (List.mem_of_getElem? (i := 0) rfl))
      refine OGo.iinc K (pc' := 24) (z := 1) (Ls' := #[.val (.ref x), .val (.int (Int32.ofNat lo)), .val (.int (Int32.ofNat hi)), .val (.int F), .val (.int ((Int32.ofNat i) + (1 : Int32)))]) own_d9_21 rfl rfl rfl rfl ?_
      refine OGo.goto K (pc' := 10) own_d9_24 (by decide) rfl ?_
      rw [← inc_ofNat]
      exact ih (i + 1) h2 _ (by omega) (by omega) Z2 Vu_2 (by rw [List.length_set]; exact lu) Kp2 (fun j hj => by rw [own_set_ne (by omega)]; exact p1 j hj) (fun j hj hj' => if q : j = i then (by subst q; rw [own_set_eq (by omega)]) else (by rw [own_set_ne (by omega)]; exact p2 j hj (by omega)))
  refine OGo.iloadN K (pc' := 8) own_d9_7 rfl rfl ?_
  refine OGo.istore K (pc' := 10) (Ls' := #[.val (.ref x), .val (.int (Int32.ofNat lo)), .val (.int (Int32.ofNat hi)), .val (.int F), .val (.int (Int32.ofNat lo))]) own_d9_8 rfl rfl ?_
  exact loop (hi - lo) lo h0 vs (by omega) (Nat.le_refl _) Z0 Vx lx (Keep.refl _ _) (fun _ _ => rfl) (fun j q1 q2 => absurd q1 (by omega))
set_option maxRecDepth 65536 in
set_option maxHeartbeats 40000000 in
theorem own_copy16 (l : Launch) (Z : State) (a0 : Array Value) (hw : ∀ d ∈ tables_1, d.before a0 Z = true) (x : Addr) (kx : ClassId) (N : Nat) (vs : List Value) (h0 : Heap) (n0 : Nat) (Z0 : n0 ≤ h0.size) (Vx : Arv Z h0 x kx .int (Int32.ofNat N) vs (.int 0)) (lx : vs.length = N) (hN : 1 ≤ N ∧ 2 * N ≤ 16) :
    OCon l Z n0 (⟨"java/util/Arrays", "copyOf", "([II)[I"⟩ : MethodName) jdk_65_method_123_code 3 (some (.array .int)) [] ({ frames := 1, cells := 1, slots := 16, locals := 18 } : Room) #[(.ref x), (.int (Int32.ofNat (2 * N)))] h0 (OV fun w h => ∃ y k vs', w = .ref y ∧ Keep h0 h [] ∧ Arv Z h y k .int (Int32.ofNat (2 * N)) vs' (.int 0) ∧ vs'.length = 2 * N ∧ (∀ i, i < N → vs'.getD i (.int 0) = vs.getD i (.int 0)) ∧ h0.size ≤ y ∧ n0 ≤ y) := by
  refine OCon.of (Ls := #[.val (.ref x), .val (.int (Int32.ofNat (2 * N))), .unset]) (plainFor_of_name own_pn_10) (fun m => own_entry m rfl) ?_
  intro p e s m below meth c K
  obtain ⟨t1, t2, t3⟩ := own_t32 (n := 2 * N) (by omega)
  obtain ⟨s1, s2, s3⟩ := own_t32 (n := N) (by omega)
  refine OGo.iloadN K (pc' := 1) own_d11_0 rfl rfl ?_
  refine OGo.aloadN K (pc' := 2) own_d11_1 rfl rfl rfl ?_
  refine OGo.alen K (pc' := 3) Vx own_d11_2 rfl ?_
  refine OGo.icmpNe K (pc' := 6) (pcY := 14) own_d11_3 rfl (by decide) rfl (fun hc3 => ?_) (fun hc3 => absurd hc3 (fun q => by have := congrArg Int32.toInt q; rw [t1, s1] at this; omega : ¬ (Int32.ofNat (2 * N)) = (Int32.ofNat N)))
  refine OGo.iloadN K (pc' := 15) own_d11_14 rfl rfl ?_
  refine OGo.newP K (pc' := 17) (cap := 16) (cells' := 1) (slots' := 16) (hw _ (List.mem_of_getElem? (i := 20) rfl)) own_d11_15 rfl t2 (by rw [t3]; omega) (by decide) rfl rfl (by decide) (by decide) ?_
  intro h1 y k_y gq1 E1 V_y
  have ne_x_y : x ≠ y := Nat.ne_of_lt (Nat.lt_of_lt_of_le Vx.lt (Nat.le_of_eq gq1.symm))
  have g_y : n0 ≤ y := Nat.le_trans Z0 (Nat.le_of_eq gq1.symm)
  have sz_y : h0.size ≤ y := Nat.le_trans (Keep.refl h0 []).1 (Nat.le_of_eq gq1.symm)
  have Z1 : n0 ≤ h1.size := Nat.le_trans Z0 E1.1
  have Kp1 : Keep h0 h1 [] := (Keep.refl h0 []).ext E1
  have Vx_1 := Vx.ext E1
  replace V_y := V_y.pad (pad_rep [] _ (2 * N))
  refine OGo.astoreN K (pc' := 18) (Ls' := #[.val (.ref x), .val (.int (Int32.ofNat (2 * N))), .val (.ref y)]) own_d11_17 rfl rfl rfl ?_
  refine OGo.aloadN K (pc' := 19) own_d11_18 rfl rfl rfl ?_
  refine OGo.iconst K (pc' := 20) (z := 0) own_d11_19 rfl rfl ?_
  refine OGo.aloadN K (pc' := 21) own_d11_20 rfl rfl rfl ?_
  refine OGo.iconst K (pc' := 22) (z := 0) own_d11_21 rfl rfl ?_
  refine OGo.aloadN K (pc' := 23) own_d11_22 rfl rfl rfl ?_
  refine OGo.alen K (pc' := 24) Vx_1 own_d11_23 rfl ?_
  refine OGo.iloadN K (pc' := 25) own_d11_24 rfl rfl ?_
  refine OGo.callSV K (pc' := 28) (y := (⟨"java/lang/Math", "min", "(II)I"⟩ : MethodName)) (W := 4) (cells' := 1) (slots' := 16) (argsL := [(.int (Int32.ofNat N)), (.int (Int32.ofNat (2 * N)))]) (st := [(.int (0 : Int32)), (.ref y), (.int (0 : Int32)), (.ref x)]) (hw _ (List.mem_of_getElem? (i := 67) rfl)) (hw _ (List.mem_of_getElem? (i := 68) rfl)) (hw _ (List.mem_of_getElem? (i := 18) rfl)) (hw _ (List.mem_of_getElem? (i := 69) rfl)) (by decide) (own_rm12 l Z a0 hw _ _ h1 n0 Z1) own_d11_25 rfl rfl (lenOf own_pd2 rfl) (by show 2 * 0 + _ ≤ _; exact Nat.le_of_eq rfl) (by decide) (by decide) rfl rfl (by decide) (by decide) ?_
  rintro _ h2 ⟨rfl, e2⟩
  rw [e2]
  show OGo p l e _ s m _ below meth c n0 _ h1 1 16 28 #[.val (.ref x), .val (.int (Int32.ofNat (2 * N))), .val (.ref y)] [(.int (if (Int32.ofNat (2 * N)) < (Int32.ofNat N) then (Int32.ofNat (2 * N)) else (Int32.ofNat N))), (.int (0 : Int32)), (.ref y), (.int (0 : Int32)), (.ref x)]
  rw [show (if (Int32.ofNat (2 * N)) < (Int32.ofNat N) then (Int32.ofNat (2 * N)) else (Int32.ofNat N)) = (Int32.ofNat N) from if_neg (fun q => absurd ((own_lt32 (by omega) (by omega)).mp q) (by omega))]
  refine OGo.copy K (pc' := 31) (W := 0) (hw _ (List.mem_of_getElem? (i := 70) rfl)) (hw _ (List.mem_of_getElem? (i := 56) rfl)) (hw _ (List.mem_of_getElem? (i := 54) rfl)) (hw _ (List.mem_of_getElem? (i := 55) rfl)) Vx_1 V_y rfl (by decide) (by decide) s2 (by rw [s3]; show 0 + N ≤ N; omega) (by rw [s3, t3]; show 0 + N ≤ 2 * N; omega) rfl (by rw [s3, own_l2]; show 0 + N ≤ 2 * N; omega) g_y own_d11_28 rfl rfl (by decide) (by show 2 * 0 + _ ≤ _; exact Nat.le_of_eq rfl) (by decide) ?_
  intro h3 K3 V_y_3
  have Z3 : n0 ≤ h3.size := Nat.le_trans Z1 K3.1
  have Vx_3 := Vx_1.keep K3 (ninS ne_x_y nin0)
  have Kp3 : Keep h0 h3 [] := Kp1.trans K3 (allS (Or.inr sz_y) all0)
  refine OGo.aloadN K (pc' := 32) own_d11_31 rfl rfl rfl ?_
  exact OGo.aret K own_d11_32 rfl rfl (by decide) (by decide) ⟨_, rfl, y, _, _, rfl, Kp3, V_y_3, own_cpl s3, fun i hi => own_cpv s3 hi, sz_y, g_y⟩
set_option maxRecDepth 65536 in
set_option maxHeartbeats 40000000 in
theorem own_rm6 (l : Launch) (Z : State) (a0 : Array Value) (hw : ∀ d ∈ tables_1, d.before a0 Z = true) (a xk xr xs : Addr) (R C S n : Nat) (F : Int32) (rv sv : List Value) (y : Addr) (ky : ClassId) (kk : Int32) (h0 : Heap) (n0 : Nat) (Z0 : n0 ≤ h0.size) (O : OTI Z n0 h0 a xk xr xs R C S n F rv sv) (Vy : Arv Z h0 y ky .int 1 [.int kk] (.int 0)) (h0s : sv.getD (own_h kk S) (.int 0) = .int 0) (hn : n ≤ 1) (hnC : n ≤ C) (hfl : ∀ i, i < n * R → rv.getD i (.int 0) = .int F) (ya : y ≠ a) (yk : y ≠ xk) (yr : y ≠ xr) (ys : y ≠ xs) :
    OCon l Z n0 (⟨"com/example/centroute/centroute/median/TupleIndex", "add", "([I)I"⟩ : MethodName) prog_50_method_2_code 3 (some .int) [] ({ frames := 3, cells := 2, slots := 32, locals := 45 } : Room) #[(.ref a), (.ref y)] h0 (OV fun w h => w = .int (Int32.ofNat n) ∧ ∃ xk' xr' C' rv', OTI Z n0 h a xk' xr' xs R C' S (n + 1) F rv' (sv.set (own_h kk S) (.int (Int32.ofNat (n + 1)))) ∧ (∀ i, i < (n + 1) * R → rv'.getD i (.int 0) = .int F) ∧ Keep h0 h [a, xk, xr, xs] ∧ n + 1 ≤ C' ∧ (xk' = xk ∨ h0.size ≤ xk') ∧ (xr' = xr ∨ h0.size ≤ xr')) := by
  refine OCon.of (Ls := #[.val (.ref a), .val (.ref y), .unset]) (plainFor_of_name own_pn_1) (fun m => own_entry m rfl) ?_
  intro p e s m below meth c K
  have O' := O
  obtain ⟨E, F1, F2, F3, F4, F5, F6, F7, ⟨kk_, kv, Vk, lk⟩, ⟨kr, Vr, lr⟩, ⟨ks, Vs, ls⟩, ⟨n1, n2, n3, n4, n5, n6⟩, ⟨g_a, g_xk, g_xr, g_xs⟩, hR, hC, hS⟩ := O
  have hj := own_h_lt kk hS
  obtain ⟨j1, j2⟩ := own_a32 hj (by omega)
  obtain ⟨-, -, j3⟩ := own_t32 (n := own_h kk S) (by omega)
  refine OGo.aloadN K (pc' := 1) own_d6_0 rfl rfl rfl ?_
  refine OGo.aloadN K (pc' := 2) own_d6_1 rfl rfl rfl ?_
  refine OGo.callQV K (pc' := 5) (y := (⟨"com/example/centroute/centroute/median/TupleIndex", "slot", "([I)I"⟩ : MethodName)) (a := a) (W := 0) (cells' := 0) (slots' := 0) (argsL := [(.ref y)]) (st := []) E (hw _ (List.mem_of_getElem? (i := 41) rfl)) (hw _ (List.mem_of_getElem? (i := 42) rfl)) (hw _ (List.mem_of_getElem? (i := 2) rfl)) (hw _ (List.mem_of_getElem? (i := 43) rfl)) (hw _ (List.mem_of_getElem? (i := 3) rfl)) (hw _ (List.mem_of_getElem? (i := 44) rfl)) (by decide) (own_rm7 l Z a0 hw a xk xr xs R C S n F rv sv y ky kk h0 n0 Z0 O' Vy h0s) own_d6_2 rfl rfl (lenOf own_pd7 rfl) (by show 2 * 0 + _ ≤ _; exact Nat.le_of_eq rfl) (by decide) (by decide) rfl rfl (by decide) (by decide) ?_
  rintro _ h1 ⟨rfl, e1⟩
  rw [e1]
  show OGo p l e _ s m _ below meth c n0 _ h0 0 0 5 #[.val (.ref a), .val (.ref y), .unset] [(.int (Int32.ofNat (own_h kk S)))]
  refine OGo.istoreN K (pc' := 6) (Ls' := #[.val (.ref a), .val (.ref y), .val (.int (Int32.ofNat (own_h kk S)))]) own_d6_5 rfl rfl ?_
  refine OGo.aloadN K (pc' := 7) own_d6_6 rfl rfl rfl ?_
  refine OGo.getF K (pc' := 10) (host := "") (Or.inl (hw _ (List.mem_of_getElem? (i := 34) rfl))) Via.refl F6 own_d6_7 rfl ?_
  refine OGo.iloadN K (pc' := 11) own_d6_10 rfl rfl ?_
  refine OGo.iaload K (pc' := 12) (v := (.int (0 : Int32))) Vs ⟨j1, j2⟩ (by rw [j3]; exact h0s) own_d6_11 rfl ?_
  refine OGo.ifNe K (pc' := 15) (pcY := 163) own_d6_12 rfl (by decide) rfl (fun hc12 => absurd (rfl : (0 : Int32) = (0 : Int32)) hc12) (fun hc12 => ?_)
  refine OGo.aloadN K (pc' := 16) own_d6_15 rfl rfl rfl ?_
  refine OGo.getF K (pc' := 19) (host := "") (Or.inl (hw _ (List.mem_of_getElem? (i := 51) rfl))) Via.refl F7 own_d6_16 rfl ?_
  refine OGo.aloadN K (pc' := 20) own_d6_19 rfl rfl rfl ?_
  refine OGo.getF K (pc' := 23) (host := "") (Or.inl (hw _ (List.mem_of_getElem? (i := 21) rfl))) Via.refl F4 own_d6_20 rfl ?_
  refine OGo.alen K (pc' := 24) Vk own_d6_23 rfl ?_
  refine OGo.aloadN K (pc' := 25) own_d6_24 rfl rfl rfl ?_
  refine OGo.getF K (pc' := 28) (host := "") (Or.inl (hw _ (List.mem_of_getElem? (i := 10) rfl))) Via.refl F1 own_d6_25 rfl ?_
  refine OGo.idiv K (pc' := 29) own_d6_28 rfl (by decide) ?_
  rw [show ((Int32.ofNat C) / (1 : Int32)) = (Int32.ofNat C) from own_div1 (by omega)]
  suffices J68 : ∀ (h : Heap) (xk' xr' : Addr) (C' : Nat) (rv' : List Value) (Zh : n0 ≤ h.size) (O : OTI Z n0 h a xk' xr' xs R C' S n F rv' sv) (hC' : n < C') (hf : ∀ i, i < n * R → rv'.getD i (.int 0) = .int F) (Vy : Arv Z h y ky .int 1 [.int kk] (.int 0)) (Kp : Keep h0 h [a, xk, xr, xs]) (dk : xk' = xk ∨ h0.size ≤ xk') (dr : xr' = xr ∨ h0.size ≤ xr') (nyk : y ≠ xk') (nyr : y ≠ xr'), OGo p l e ({ frames := 3, cells := 2, slots := 32, locals := 45 } : Room) s m #[(.ref a), (.ref y)] below meth c n0 (OV fun w h => w = .int (Int32.ofNat n) ∧ ∃ xk' xr' C' rv', OTI Z n0 h a xk' xr' xs R C' S (n + 1) F rv' (sv.set (own_h kk S) (.int (Int32.ofNat (n + 1)))) ∧ (∀ i, i < (n + 1) * R → rv'.getD i (.int 0) = .int F) ∧ Keep h0 h [a, xk, xr, xs] ∧ n + 1 ≤ C' ∧ (xk' = xk ∨ h0.size ≤ xk') ∧ (xr' = xr ∨ h0.size ≤ xr')) h 2 32 68 #[.val (.ref a), .val (.ref y), .val (.int (Int32.ofNat (own_h kk S)))] [] by
    refine OGo.icmpNe K (pc' := 32) (pcY := 68) own_d6_29 rfl (by decide) rfl (fun hc => ?_) (fun hc => ?_)
    · skip
      exact OGo.more (J68 h0 xk xr C rv Z0 O' (Nat.lt_of_le_of_ne hnC (fun q => hc (by rw [q]))) hfl Vy (Keep.refl _ _) (Or.inl rfl) (Or.inl rfl) yk yr) (by decide) (by decide)
    · skip
      have enC : n = C := by have := congrArg Int32.toInt hc; rw [(own_t32 (by omega)).1, (own_t32 (by omega)).1] at this; omega
      have hC1 : C = 1 := by omega
      have hCR : C * R ≤ 4 := by rw [hC1]; omega
      have hCR1 : 1 ≤ C * R := by rw [hC1]; omega
      refine OGo.aloadN K (pc' := 33) own_d6_32 rfl rfl rfl ?_
      refine OGo.aloadN K (pc' := 34) own_d6_33 rfl rfl rfl ?_
      refine OGo.getF K (pc' := 37) (host := "") (Or.inl (hw _ (List.mem_of_getElem? (i := 21) rfl))) Via.refl F4 own_d6_34 rfl ?_
      refine OGo.iconst K (pc' := 38) (z := 2) own_d6_37 rfl rfl ?_
      refine OGo.aloadN K (pc' := 39) own_d6_38 rfl rfl rfl ?_
      refine OGo.getF K (pc' := 42) (host := "") (Or.inl (hw _ (List.mem_of_getElem? (i := 21) rfl))) Via.refl F4 own_d6_39 rfl ?_
      refine OGo.alen K (pc' := 43) Vk own_d6_42 rfl ?_
      refine OGo.imul K (pc' := 44) own_d6_43 rfl ?_
      rw [show ((2 : Int32) * (Int32.ofNat C)) = (Int32.ofNat (2 * C)) from own_mul32 2 C (by omega)]
      refine OGo.callSV K (pc' := 47) (y := (⟨"java/util/Arrays", "copyOf", "([II)[I"⟩ : MethodName)) (W := 1) (cells' := 1) (slots' := 16) (argsL := [(.ref xk), (.int (Int32.ofNat (2 * C)))]) (st := [(.ref a)]) (hw _ (List.mem_of_getElem? (i := 64) rfl)) (hw _ (List.mem_of_getElem? (i := 65) rfl)) (hw _ (List.mem_of_getElem? (i := 59) rfl)) (hw _ (List.mem_of_getElem? (i := 66) rfl)) (by decide) (own_copy16 l Z a0 hw xk kk_ C kv h0 n0 Z0 Vk lk (by omega)) own_d6_44 rfl rfl (lenOf own_pd8 rfl) (by show 2 * 0 + _ ≤ _; exact Nat.le_of_eq rfl) (by decide) (by decide) rfl rfl (by decide) (by decide) ?_
      rintro _ h2 ⟨zk, k1, kv', rfl, K2, Vzk, lzk, pk, s2, g_zk⟩
      have Z2 : n0 ≤ h2.size := Nat.le_trans Z0 K2.1
      have ne_a_zk : a ≠ zk := Nat.ne_of_lt (Nat.lt_of_lt_of_le E.lt s2)
      have ne_xk_zk : xk ≠ zk := Nat.ne_of_lt (Nat.lt_of_lt_of_le Vk.lt s2)
      have ne_xr_zk : xr ≠ zk := Nat.ne_of_lt (Nat.lt_of_lt_of_le Vr.lt s2)
      have ne_xs_zk : xs ≠ zk := Nat.ne_of_lt (Nat.lt_of_lt_of_le Vs.lt s2)
      have ne_y_zk : y ≠ zk := Nat.ne_of_lt (Nat.lt_of_lt_of_le Vy.lt s2)
      have E_2 := E.keep K2
      have F1_2 := F1.keep K2 nin0
      have F2_2 := F2.keep K2 nin0
      have F3_2 := F3.keep K2 nin0
      have F4_2 := F4.keep K2 nin0
      have F5_2 := F5.keep K2 nin0
      have F6_2 := F6.keep K2 nin0
      have F7_2 := F7.keep K2 nin0
      have Vk_2 := Vk.keep K2 nin0
      have Vr_2 := Vr.keep K2 nin0
      have Vs_2 := Vs.keep K2 nin0
      have Vy_2 := Vy.keep K2 nin0
      have Kp2 : Keep h0 h2 [a, xk, xr, xs] := (Keep.refl h0 [a, xk, xr, xs]).trans K2 all0
      show OGo p l e _ s m _ below meth c n0 _ h2 1 16 47 #[.val (.ref a), .val (.ref y), .val (.int (Int32.ofNat (own_h kk S)))] [(.ref zk), (.ref a)]
      have sz_zk := Nat.le_trans (Keep.refl h0 [a, xk, xr, xs]).1 s2
      refine OGo.putF K (pc' := 50) (host := "") (Or.inl (hw _ (List.mem_of_getElem? (i := 21) rfl))) Via.refl F4_2 E_2 (Or.inl (hw _ (List.mem_of_getElem? (i := 22) rfl))) (hw _ (List.mem_of_getElem? (i := 2) rfl)) (ty := (.array .int)) (by decide) rfl rfl g_a own_d6_47 rfl ?_
      intro h3 W3
      have Z3 : n0 ≤ h3.size := by rw [W3.size]; exact Z2
      have Fw_keys_a_3 := F4_2.same W3
      have E_3 := E_2.wr W3
      have F1_3 := F1_2.other W3 (Or.inr (slot_ne (Or.inr (hw _ (List.mem_of_getElem? (i := 11) rfl))) (Or.inl (hw _ (List.mem_of_getElem? (i := 22) rfl))) (by decide) (t := .int) (t' := (.array .int)) (by decide) (by decide)))
      have F2_3 := F2_2.other W3 (Or.inr (slot_ne (Or.inr (hw _ (List.mem_of_getElem? (i := 13) rfl))) (Or.inl (hw _ (List.mem_of_getElem? (i := 22) rfl))) (by decide) (t := .int) (t' := (.array .int)) (by decide) (by decide)))
      have F3_3 := F3_2.other W3 (Or.inr (slot_ne (Or.inr (hw _ (List.mem_of_getElem? (i := 15) rfl))) (Or.inl (hw _ (List.mem_of_getElem? (i := 22) rfl))) (by decide) (t := .int) (t' := (.array .int)) (by decide) (by decide)))
      have F5_3 := F5_2.other W3 (Or.inr (slot_ne (Or.inl (hw _ (List.mem_of_getElem? (i := 24) rfl))) (Or.inl (hw _ (List.mem_of_getElem? (i := 22) rfl))) (by decide) (t := (.array .int)) (t' := (.array .int)) (by decide) (by decide)))
      have F6_3 := F6_2.other W3 (Or.inr (slot_ne (Or.inl (hw _ (List.mem_of_getElem? (i := 35) rfl))) (Or.inl (hw _ (List.mem_of_getElem? (i := 22) rfl))) (by decide) (t := (.array .int)) (t' := (.array .int)) (by decide) (by decide)))
      have F7_3 := F7_2.other W3 (Or.inr (slot_ne (Or.inl (hw _ (List.mem_of_getElem? (i := 52) rfl))) (Or.inl (hw _ (List.mem_of_getElem? (i := 22) rfl))) (by decide) (t := .int) (t' := (.array .int)) (by decide) (by decide)))
      have Vk_3 := Vk_2.other W3 (Ne.symm n1)
      have Vr_3 := Vr_2.other W3 (Ne.symm n2)
      have Vs_3 := Vs_2.other W3 (Ne.symm n3)
      have Vy_3 := Vy_2.other W3 ya
      have Vzk_3 := Vzk.other W3 (Ne.symm ne_a_zk)
      have Kp3 : Keep h0 h3 [a, xk, xr, xs] := Kp2.wr W3 (Or.inl (List.mem_of_getElem? (i := 0) rfl))
      refine OGo.aloadN K (pc' := 51) own_d6_50 rfl rfl rfl ?_
      refine OGo.aloadN K (pc' := 52) own_d6_51 rfl rfl rfl ?_
      refine OGo.getF K (pc' := 55) (host := "") (Or.inl (hw _ (List.mem_of_getElem? (i := 23) rfl))) Via.refl F5_3 own_d6_52 rfl ?_
      refine OGo.iconst K (pc' := 56) (z := 2) own_d6_55 rfl rfl ?_
      refine OGo.aloadN K (pc' := 57) own_d6_56 rfl rfl rfl ?_
      refine OGo.getF K (pc' := 60) (host := "") (Or.inl (hw _ (List.mem_of_getElem? (i := 23) rfl))) Via.refl F5_3 own_d6_57 rfl ?_
      refine OGo.alen K (pc' := 61) Vr_3 own_d6_60 rfl ?_
      refine OGo.imul K (pc' := 62) own_d6_61 rfl ?_
      rw [show ((2 : Int32) * (Int32.ofNat (C * R))) = (Int32.ofNat (2 * (C * R))) from own_mul32 2 (C * R) (by omega)]
      refine OGo.callSV K (pc' := 65) (y := (⟨"java/util/Arrays", "copyOf", "([II)[I"⟩ : MethodName)) (W := 1) (cells' := 2) (slots' := 32) (argsL := [(.ref xr), (.int (Int32.ofNat (2 * (C * R))))]) (st := [(.ref a)]) (hw _ (List.mem_of_getElem? (i := 64) rfl)) (hw _ (List.mem_of_getElem? (i := 65) rfl)) (hw _ (List.mem_of_getElem? (i := 59) rfl)) (hw _ (List.mem_of_getElem? (i := 66) rfl)) (by decide) (own_copy16 l Z a0 hw xr kr (C * R) rv h3 n0 Z3 Vr_3 lr (by omega)) own_d6_62 rfl rfl (lenOf own_pd8 rfl) (by show 2 * 0 + _ ≤ _; exact Nat.le_of_eq rfl) (by decide) (by decide) rfl rfl (by decide) (by decide) ?_
      rintro _ h4 ⟨zr, k2, rv', rfl, K4, Vzr, lzr, pr, s4, g_zr⟩
      have Z4 : n0 ≤ h4.size := Nat.le_trans Z3 K4.1
      have ne_a_zr : a ≠ zr := Nat.ne_of_lt (Nat.lt_of_lt_of_le E_3.lt s4)
      have ne_xk_zr : xk ≠ zr := Nat.ne_of_lt (Nat.lt_of_lt_of_le Vk_3.lt s4)
      have ne_xr_zr : xr ≠ zr := Nat.ne_of_lt (Nat.lt_of_lt_of_le Vr_3.lt s4)
      have ne_xs_zr : xs ≠ zr := Nat.ne_of_lt (Nat.lt_of_lt_of_le Vs_3.lt s4)
      have ne_y_zr : y ≠ zr := Nat.ne_of_lt (Nat.lt_of_lt_of_le Vy_3.lt s4)
      have ne_zk_zr : zk ≠ zr := Nat.ne_of_lt (Nat.lt_of_lt_of_le Vzk_3.lt s4)
      have E_4 := E_3.keep K4
      have F1_4 := F1_3.keep K4 nin0
      have F2_4 := F2_3.keep K4 nin0
      have F3_4 := F3_3.keep K4 nin0
      have Fw_keys_a_4 := Fw_keys_a_3.keep K4 nin0
      have F5_4 := F5_3.keep K4 nin0
      have F6_4 := F6_3.keep K4 nin0
      have F7_4 := F7_3.keep K4 nin0
      have Vk_4 := Vk_3.keep K4 nin0
      have Vr_4 := Vr_3.keep K4 nin0
      have Vs_4 := Vs_3.keep K4 nin0
      have Vy_4 := Vy_3.keep K4 nin0
      have Vzk_4 := Vzk_3.keep K4 nin0
      have Kp4 : Keep h0 h4 [a, xk, xr, xs] := Kp3.trans K4 all0
      show OGo p l e _ s m _ below meth c n0 _ h4 2 32 65 #[.val (.ref a), .val (.ref y), .val (.int (Int32.ofNat (own_h kk S)))] [(.ref zr), (.ref a)]
      have sz_zr := Nat.le_trans Kp3.1 s4
      refine OGo.putF K (pc' := 68) (host := "") (Or.inl (hw _ (List.mem_of_getElem? (i := 23) rfl))) Via.refl F5_4 E_4 (Or.inl (hw _ (List.mem_of_getElem? (i := 24) rfl))) (hw _ (List.mem_of_getElem? (i := 2) rfl)) (ty := (.array .int)) (by decide) rfl rfl g_a own_d6_65 rfl ?_
      intro h5 W5
      have Z5 : n0 ≤ h5.size := by rw [W5.size]; exact Z4
      have Fw_rows_a_5 := F5_4.same W5
      have E_5 := E_4.wr W5
      have F1_5 := F1_4.other W5 (Or.inr (slot_ne (Or.inr (hw _ (List.mem_of_getElem? (i := 11) rfl))) (Or.inl (hw _ (List.mem_of_getElem? (i := 24) rfl))) (by decide) (t := .int) (t' := (.array .int)) (by decide) (by decide)))
      have F2_5 := F2_4.other W5 (Or.inr (slot_ne (Or.inr (hw _ (List.mem_of_getElem? (i := 13) rfl))) (Or.inl (hw _ (List.mem_of_getElem? (i := 24) rfl))) (by decide) (t := .int) (t' := (.array .int)) (by decide) (by decide)))
      have F3_5 := F3_4.other W5 (Or.inr (slot_ne (Or.inr (hw _ (List.mem_of_getElem? (i := 15) rfl))) (Or.inl (hw _ (List.mem_of_getElem? (i := 24) rfl))) (by decide) (t := .int) (t' := (.array .int)) (by decide) (by decide)))
      have Fw_keys_a_5 := Fw_keys_a_4.other W5 (Or.inr (slot_ne (Or.inl (hw _ (List.mem_of_getElem? (i := 22) rfl))) (Or.inl (hw _ (List.mem_of_getElem? (i := 24) rfl))) (by decide) (t := (.array .int)) (t' := (.array .int)) (by decide) (by decide)))
      have F6_5 := F6_4.other W5 (Or.inr (slot_ne (Or.inl (hw _ (List.mem_of_getElem? (i := 35) rfl))) (Or.inl (hw _ (List.mem_of_getElem? (i := 24) rfl))) (by decide) (t := (.array .int)) (t' := (.array .int)) (by decide) (by decide)))
      have F7_5 := F7_4.other W5 (Or.inr (slot_ne (Or.inl (hw _ (List.mem_of_getElem? (i := 52) rfl))) (Or.inl (hw _ (List.mem_of_getElem? (i := 24) rfl))) (by decide) (t := .int) (t' := (.array .int)) (by decide) (by decide)))
      have Vk_5 := Vk_4.other W5 (Ne.symm n1)
      have Vr_5 := Vr_4.other W5 (Ne.symm n2)
      have Vs_5 := Vs_4.other W5 (Ne.symm n3)
      have Vy_5 := Vy_4.other W5 ya
      have Vzk_5 := Vzk_4.other W5 (Ne.symm ne_a_zk)
      have Vzr_5 := Vzr.other W5 (Ne.symm ne_a_zr)
      have Kp5 : Keep h0 h5 [a, xk, xr, xs] := Kp4.wr W5 (Or.inl (List.mem_of_getElem? (i := 0) rfl))
      exact OGo.more (J68 h5 zk zr (2 * C) rv' Z5 ⟨E_5, F1_5, F2_5, F3_5, Fw_keys_a_5, Fw_rows_a_5, F6_5, F7_5, ⟨_, _, Vzk_5, lzk⟩, ⟨_, (by rw [Nat.mul_assoc]; exact Vzr_5), (by rw [Nat.mul_assoc]; exact lzr)⟩, ⟨_, Vs_5, ls⟩, ⟨ne_a_zk, ne_a_zr, n3, ne_zk_zr, (Ne.symm ne_xs_zk), (Ne.symm ne_xs_zr)⟩, ⟨g_a, g_zk, g_zr, g_xs⟩, hR, ⟨by omega, by omega⟩, hS⟩ (by omega) (fun i hi => by rw [pr i (by rw [← enC]; exact hi)]; exact hfl i hi) Vy_5 Kp5 (Or.inr sz_zk) (Or.inr sz_zr) ne_y_zk ne_y_zr) (by decide) (by decide)
  skip
  intro h xk' xr' C' rv' Zh O hC' hf Vy Kp dk dr nyk nyr
  obtain ⟨E, F1, F2, F3, F4, F5, F6, F7, ⟨kk_, kv, Vk, lk⟩, ⟨kr, Vr, lr⟩, ⟨ks, Vs, ls⟩, ⟨n1, n2, n3, n4, n5, n6⟩, ⟨g_a, gk', gr', g_xs⟩, hR, hC, hS⟩ := O
  have hCR' : C' * R ≤ 32 := Nat.mul_le_mul hC.2 hR.2
  have hnR : (n + 1) * R ≤ C' * R := Nat.mul_le_mul_right R (by omega)
  have hnR0 : n * R ≤ (n + 1) * R := Nat.mul_le_mul_right R (by omega)
  obtain ⟨tn1, tn2, tn3⟩ := own_t32 (n := n) (by omega)
  obtain ⟨-, -, tc3⟩ := own_t32 (n := C') (by omega)
  refine OGo.aloadN K (pc' := 69) own_d6_68 rfl rfl rfl ?_
  refine OGo.iconst K (pc' := 70) (z := 0) own_d6_69 rfl rfl ?_
  refine OGo.aloadN K (pc' := 71) own_d6_70 rfl rfl rfl ?_
  refine OGo.getF K (pc' := 74) (host := "") (Or.inl (hw _ (List.mem_of_getElem? (i := 21) rfl))) Via.refl F4 own_d6_71 rfl ?_
  refine OGo.aloadN K (pc' := 75) own_d6_74 rfl rfl rfl ?_
  refine OGo.getF K (pc' := 78) (host := "") (Or.inl (hw _ (List.mem_of_getElem? (i := 51) rfl))) Via.refl F7 own_d6_75 rfl ?_
  refine OGo.aloadN K (pc' := 79) own_d6_78 rfl rfl rfl ?_
  refine OGo.getF K (pc' := 82) (host := "") (Or.inl (hw _ (List.mem_of_getElem? (i := 10) rfl))) Via.refl F1 own_d6_79 rfl ?_
  refine OGo.imul K (pc' := 83) own_d6_82 rfl ?_
  rw [show ((Int32.ofNat n) * (1 : Int32)) = (Int32.ofNat n) from Int32.mul_one _]
  refine OGo.aloadN K (pc' := 84) own_d6_83 rfl rfl rfl ?_
  refine OGo.getF K (pc' := 87) (host := "") (Or.inl (hw _ (List.mem_of_getElem? (i := 10) rfl))) Via.refl F1 own_d6_84 rfl ?_
  have mk : xk' ∈ [a, xk, xr, xs] ∨ h0.size ≤ xk' := (dk.elim (fun q => Or.inl (q ▸ List.mem_of_getElem? (i := 1) rfl)) Or.inr)
  have mr : xr' ∈ [a, xk, xr, xs] ∨ h0.size ≤ xr' := (dr.elim (fun q => Or.inl (q ▸ List.mem_of_getElem? (i := 2) rfl)) Or.inr)
  refine OGo.copy K (pc' := 90) (W := 0) (hw _ (List.mem_of_getElem? (i := 53) rfl)) (hw _ (List.mem_of_getElem? (i := 56) rfl)) (hw _ (List.mem_of_getElem? (i := 54) rfl)) (hw _ (List.mem_of_getElem? (i := 55) rfl)) Vy Vk rfl (by decide) tn2 (by decide) (by decide) (by rw [tn3, tc3]; show n + 1 ≤ C'; omega) rfl (by rw [tn3, lk]; show n + 1 ≤ C'; omega) gk' own_d6_87 rfl rfl (by decide) (by show 2 * 0 + _ ≤ _; exact Nat.le_of_eq rfl) (by decide) ?_
  intro h6 K6 Vk_6
  have Z6 : n0 ≤ h6.size := Nat.le_trans Zh K6.1
  have E_6 := E.keep K6
  have F1_6 := F1.keep K6 (ninS n1 nin0)
  have F2_6 := F2.keep K6 (ninS n1 nin0)
  have F3_6 := F3.keep K6 (ninS n1 nin0)
  have F4_6 := F4.keep K6 (ninS n1 nin0)
  have F5_6 := F5.keep K6 (ninS n1 nin0)
  have F6_6 := F6.keep K6 (ninS n1 nin0)
  have F7_6 := F7.keep K6 (ninS n1 nin0)
  have Vr_6 := Vr.keep K6 (ninS (Ne.symm n4) nin0)
  have Vs_6 := Vs.keep K6 (ninS (Ne.symm n5) nin0)
  have Vy_6 := Vy.keep K6 (ninS nyk nin0)
  have Kp6 : Keep h0 h6 [a, xk, xr, xs] := Kp.trans K6 (allS mk all0)
  refine OGo.aloadN K (pc' := 91) own_d6_90 rfl rfl rfl ?_
  refine OGo.getF K (pc' := 94) (host := "") (Or.inl (hw _ (List.mem_of_getElem? (i := 23) rfl))) Via.refl F5_6 own_d6_91 rfl ?_
  refine OGo.aloadN K (pc' := 95) own_d6_94 rfl rfl rfl ?_
  refine OGo.getF K (pc' := 98) (host := "") (Or.inl (hw _ (List.mem_of_getElem? (i := 51) rfl))) Via.refl F7_6 own_d6_95 rfl ?_
  refine OGo.aloadN K (pc' := 99) own_d6_98 rfl rfl rfl ?_
  refine OGo.getF K (pc' := 102) (host := "") (Or.inl (hw _ (List.mem_of_getElem? (i := 12) rfl))) Via.refl F2_6 own_d6_99 rfl ?_
  refine OGo.imul K (pc' := 103) own_d6_102 rfl ?_
  rw [show ((Int32.ofNat n) * (Int32.ofNat R)) = (Int32.ofNat (n * R)) from own_mul32 n R (by omega)]
  refine OGo.aloadN K (pc' := 104) own_d6_103 rfl rfl rfl ?_
  refine OGo.getF K (pc' := 107) (host := "") (Or.inl (hw _ (List.mem_of_getElem? (i := 51) rfl))) Via.refl F7_6 own_d6_104 rfl ?_
  refine OGo.iconst K (pc' := 108) (z := 1) own_d6_107 rfl rfl ?_
  refine OGo.iadd K (pc' := 109) own_d6_108 rfl ?_
  rw [show ((Int32.ofNat n) + (1 : Int32)) = (Int32.ofNat (n + 1)) from (inc_ofNat n).symm]
  refine OGo.aloadN K (pc' := 110) own_d6_109 rfl rfl rfl ?_
  refine OGo.getF K (pc' := 113) (host := "") (Or.inl (hw _ (List.mem_of_getElem? (i := 12) rfl))) Via.refl F2_6 own_d6_110 rfl ?_
  refine OGo.imul K (pc' := 114) own_d6_113 rfl ?_
  rw [show ((Int32.ofNat (n + 1)) * (Int32.ofNat R)) = (Int32.ofNat ((n + 1) * R)) from own_mul32 (n + 1) R (by omega)]
  refine OGo.aloadN K (pc' := 115) own_d6_114 rfl rfl rfl ?_
  refine OGo.getF K (pc' := 118) (host := "") (Or.inl (hw _ (List.mem_of_getElem? (i := 14) rfl))) Via.refl F3_6 own_d6_115 rfl ?_
  refine OGo.callSN K (pc' := 121) (y := (⟨"java/util/Arrays", "fill", "([IIII)V"⟩ : MethodName)) (W := 0) (cells' := 2) (slots' := 32) (argsL := [(.ref xr'), (.int (Int32.ofNat (n * R))), (.int (Int32.ofNat ((n + 1) * R))), (.int F)]) (st := []) (hw _ (List.mem_of_getElem? (i := 57) rfl)) (hw _ (List.mem_of_getElem? (i := 58) rfl)) (hw _ (List.mem_of_getElem? (i := 59) rfl)) (hw _ (List.mem_of_getElem? (i := 60) rfl)) (by decide) (own_rm9 l Z a0 hw xr' kr (C' * R) (n * R) ((n + 1) * R) F rv' h6 n0 Z6 Vr_6 lr (by omega) hnR0 hnR gr') own_d6_118 rfl rfl (lenOf own_pd9 rfl) (by show 2 * 0 + _ ≤ _; exact Nat.le_of_eq rfl) (by decide) (by decide) rfl rfl (by decide) (by decide) ?_
  rintro h7 ⟨K7, rw', Vr7, lr', p1, p2⟩
  have Z7 : n0 ≤ h7.size := Nat.le_trans Z6 K7.1
  have E_7 := E_6.keep K7
  have F1_7 := F1_6.keep K7 (ninS n2 nin0)
  have F2_7 := F2_6.keep K7 (ninS n2 nin0)
  have F3_7 := F3_6.keep K7 (ninS n2 nin0)
  have F4_7 := F4_6.keep K7 (ninS n2 nin0)
  have F5_7 := F5_6.keep K7 (ninS n2 nin0)
  have F6_7 := F6_6.keep K7 (ninS n2 nin0)
  have F7_7 := F7_6.keep K7 (ninS n2 nin0)
  have Vs_7 := Vs_6.keep K7 (ninS (Ne.symm n6) nin0)
  have Vy_7 := Vy_6.keep K7 (ninS nyr nin0)
  have Vk_7 := Vk_6.keep K7 (ninS n4 nin0)
  have Kp7 : Keep h0 h7 [a, xk, xr, xs] := Kp6.trans K7 (allS mr all0)
  refine OGo.aloadN K (pc' := 122) own_d6_121 rfl rfl rfl ?_
  refine OGo.getF K (pc' := 125) (host := "") (Or.inl (hw _ (List.mem_of_getElem? (i := 34) rfl))) Via.refl F6_7 own_d6_122 rfl ?_
  refine OGo.iloadN K (pc' := 126) own_d6_125 rfl rfl ?_
  refine OGo.aloadN K (pc' := 127) own_d6_126 rfl rfl rfl ?_
  refine OGo.dup K (pc' := 128) own_d6_127 rfl rfl ?_
  refine OGo.getF K (pc' := 131) (host := "") (Or.inl (hw _ (List.mem_of_getElem? (i := 51) rfl))) Via.refl F7_7 own_d6_128 rfl ?_
  refine OGo.iconst K (pc' := 132) (z := 1) own_d6_131 rfl rfl ?_
  refine OGo.iadd K (pc' := 133) own_d6_132 rfl ?_
  rw [show ((Int32.ofNat n) + (1 : Int32)) = (Int32.ofNat (n + 1)) from (inc_ofNat n).symm]
  refine OGo.dupX1 K (pc' := 134) own_d6_133 rfl rfl rfl ?_
  refine OGo.putF K (pc' := 137) (host := "") (Or.inl (hw _ (List.mem_of_getElem? (i := 51) rfl))) Via.refl F7_7 E_7 (Or.inl (hw _ (List.mem_of_getElem? (i := 52) rfl))) (hw _ (List.mem_of_getElem? (i := 2) rfl)) (ty := .int) (by decide) rfl rfl g_a own_d6_134 rfl ?_
  intro h8 W8
  have Z8 : n0 ≤ h8.size := by rw [W8.size]; exact Z7
  have Fw_size_a_8 := F7_7.same W8
  have E_8 := E_7.wr W8
  have F1_8 := F1_7.other W8 (Or.inr (slot_ne (Or.inr (hw _ (List.mem_of_getElem? (i := 11) rfl))) (Or.inl (hw _ (List.mem_of_getElem? (i := 52) rfl))) (by decide) (t := .int) (t' := .int) (by decide) (by decide)))
  have F2_8 := F2_7.other W8 (Or.inr (slot_ne (Or.inr (hw _ (List.mem_of_getElem? (i := 13) rfl))) (Or.inl (hw _ (List.mem_of_getElem? (i := 52) rfl))) (by decide) (t := .int) (t' := .int) (by decide) (by decide)))
  have F3_8 := F3_7.other W8 (Or.inr (slot_ne (Or.inr (hw _ (List.mem_of_getElem? (i := 15) rfl))) (Or.inl (hw _ (List.mem_of_getElem? (i := 52) rfl))) (by decide) (t := .int) (t' := .int) (by decide) (by decide)))
  have F4_8 := F4_7.other W8 (Or.inr (slot_ne (Or.inl (hw _ (List.mem_of_getElem? (i := 22) rfl))) (Or.inl (hw _ (List.mem_of_getElem? (i := 52) rfl))) (by decide) (t := (.array .int)) (t' := .int) (by decide) (by decide)))
  have F5_8 := F5_7.other W8 (Or.inr (slot_ne (Or.inl (hw _ (List.mem_of_getElem? (i := 24) rfl))) (Or.inl (hw _ (List.mem_of_getElem? (i := 52) rfl))) (by decide) (t := (.array .int)) (t' := .int) (by decide) (by decide)))
  have F6_8 := F6_7.other W8 (Or.inr (slot_ne (Or.inl (hw _ (List.mem_of_getElem? (i := 35) rfl))) (Or.inl (hw _ (List.mem_of_getElem? (i := 52) rfl))) (by decide) (t := (.array .int)) (t' := .int) (by decide) (by decide)))
  have Vs_8 := Vs_7.other W8 (Ne.symm n3)
  have Vy_8 := Vy_7.other W8 ya
  have Vk_8 := Vk_7.other W8 (Ne.symm n1)
  have Vr7_8 := Vr7.other W8 (Ne.symm n2)
  have Kp8 : Keep h0 h8 [a, xk, xr, xs] := Kp7.wr W8 (Or.inl (List.mem_of_getElem? (i := 0) rfl))
  refine OGo.iastore K (pc' := 138) (i := (own_h kk S)) Vs_8 ⟨j1, j2⟩ j3 (by rw [ls]; exact hj) g_xs own_d6_137 rfl ?_
  intro h9 W9 Vs_9
  have Z9 : n0 ≤ h9.size := by rw [W9.size]; exact Z8
  have E_9 := E_8.wr W9
  have F1_9 := F1_8.other W9 (Or.inl n3)
  have F2_9 := F2_8.other W9 (Or.inl n3)
  have F3_9 := F3_8.other W9 (Or.inl n3)
  have F4_9 := F4_8.other W9 (Or.inl n3)
  have F5_9 := F5_8.other W9 (Or.inl n3)
  have F6_9 := F6_8.other W9 (Or.inl n3)
  have Fw_size_a_9 := Fw_size_a_8.other W9 (Or.inl n3)
  have Vy_9 := Vy_8.other W9 ys
  have Vk_9 := Vk_8.other W9 n5
  have Vr7_9 := Vr7_8.other W9 n6
  have Kp9 : Keep h0 h9 [a, xk, xr, xs] := Kp8.wr W9 (Or.inl (List.mem_of_getElem? (i := 3) rfl))
  refine OGo.iconst K (pc' := 139) (z := 2) own_d6_138 rfl rfl ?_
  refine OGo.aloadN K (pc' := 140) own_d6_139 rfl rfl rfl ?_
  refine OGo.getF K (pc' := 143) (host := "") (Or.inl (hw _ (List.mem_of_getElem? (i := 51) rfl))) Via.refl Fw_size_a_9 own_d6_140 rfl ?_
  refine OGo.imul K (pc' := 144) own_d6_143 rfl ?_
  rw [show ((2 : Int32) * (Int32.ofNat (n + 1))) = (Int32.ofNat (2 * (n + 1))) from own_mul32 2 (n + 1) (by omega)]
  refine OGo.aloadN K (pc' := 145) own_d6_144 rfl rfl rfl ?_
  refine OGo.getF K (pc' := 148) (host := "") (Or.inl (hw _ (List.mem_of_getElem? (i := 34) rfl))) Via.refl F6_9 own_d6_145 rfl ?_
  refine OGo.alen K (pc' := 149) Vs_9 own_d6_148 rfl ?_
  refine OGo.icmpLe K (pc' := 152) (pcY := 156) own_d6_149 rfl (by decide) rfl (fun hc149 => ?_) (fun hc149 => absurd hc149 (fun q => absurd ((own_lt32 (by omega) (by omega)).mp q) (by omega) : ¬ (Int32.ofNat S) < (Int32.ofNat (2 * (n + 1)))))
  refine OGo.aloadN K (pc' := 157) own_d6_156 rfl rfl rfl ?_
  refine OGo.getF K (pc' := 160) (host := "") (Or.inl (hw _ (List.mem_of_getElem? (i := 51) rfl))) Via.refl Fw_size_a_9 own_d6_157 rfl ?_
  refine OGo.iconst K (pc' := 161) (z := 1) own_d6_160 rfl rfl ?_
  refine OGo.isub K (pc' := 162) own_d6_161 rfl ?_
  rw [show ((Int32.ofNat (n + 1)) - (1 : Int32)) = (Int32.ofNat n) from dec_ofNat n]
  exact OGo.iret K own_d6_162 (by decide) (by decide) ⟨_, rfl, rfl, xk', xr', C', rw', ⟨E_9, F1_9, F2_9, F3_9, F4_9, F5_9, F6_9, Fw_size_a_9, ⟨_, _, Vk_9, own_cplen lk (by omega) tn3⟩, ⟨_, Vr7_9, lr'⟩, ⟨_, Vs_9, by rw [List.length_set]; exact ls⟩, ⟨n1, n2, n3, n4, n5, n6⟩, ⟨g_a, gk', gr', g_xs⟩, hR, hC, hS⟩, (fun i hi => if q : i < n * R then (by rw [p1 i q]; exact hf i q) else (by exact p2 i (by omega) hi)), Kp9, hC', dk, dr⟩
set_option maxRecDepth 65536 in
set_option maxHeartbeats 40000000 in
theorem own_rm13 (l : Launch) (Z : State) (a0 : Array Value) (hw : ∀ d ∈ tables_1, d.before a0 Z = true) (a xk xr xs : Addr) (R C S n : Nat) (F : Int32) (rv sv : List Value) (e' t' : Nat) (v : Int32) (h0 : Heap) (n0 : Nat) (Z0 : n0 ≤ h0.size) (O : OTI Z n0 h0 a xk xr xs R C S n F rv sv) (he : e' < C) (ht : t' < R) :
    OCon l Z n0 (⟨"com/example/centroute/centroute/median/TupleIndex", "set", "(III)V"⟩ : MethodName) prog_50_method_5_code 4 none [] ({ frames := 0, cells := 0, slots := 0, locals := 0 } : Room) #[(.ref a), (.int (Int32.ofNat e')), (.int (Int32.ofNat t')), (.int v)] h0 (ON fun h => OTI Z n0 h a xk xr xs R C S n F (rv.set (e' * R + t') (.int v)) sv ∧ Keep h0 h [xr]) := by
  refine OCon.of (Ls := #[.val (.ref a), .val (.int (Int32.ofNat e')), .val (.int (Int32.ofNat t')), .val (.int v)]) (plainFor_of_name own_pn_1) (fun m => own_entry m rfl) ?_
  intro p e s m below meth c K
  obtain ⟨E, F1, F2, F3, F4, F5, F6, F7, ⟨kk_, kv, Vk, lk⟩, ⟨kr, Vr, lr⟩, ⟨ks, Vs, ls⟩, ⟨n1, n2, n3, n4, n5, n6⟩, ⟨g_a, g_xk, g_xr, g_xs⟩, hR, hC, hS⟩ := O
  have hix : e' * R + t' < C * R := own_ix he ht
  have hCR : C * R ≤ 32 := Nat.mul_le_mul hC.2 hR.2
  obtain ⟨x1, x2⟩ := own_a32 hix (by omega)
  obtain ⟨-, -, x3⟩ := own_t32 (n := e' * R + t') (by omega)
  refine OGo.aloadN K (pc' := 1) own_d13_0 rfl rfl rfl ?_
  refine OGo.getF K (pc' := 4) (host := "") (Or.inl (hw _ (List.mem_of_getElem? (i := 23) rfl))) Via.refl F5 own_d13_1 rfl ?_
  refine OGo.iloadN K (pc' := 5) own_d13_4 rfl rfl ?_
  refine OGo.aloadN K (pc' := 6) own_d13_5 rfl rfl rfl ?_
  refine OGo.getF K (pc' := 9) (host := "") (Or.inl (hw _ (List.mem_of_getElem? (i := 12) rfl))) Via.refl F2 own_d13_6 rfl ?_
  refine OGo.imul K (pc' := 10) own_d13_9 rfl ?_
  rw [show ((Int32.ofNat e') * (Int32.ofNat R)) = (Int32.ofNat (e' * R)) from own_mul32 e' R (by omega)]
  refine OGo.iloadN K (pc' := 11) own_d13_10 rfl rfl ?_
  refine OGo.iadd K (pc' := 12) own_d13_11 rfl ?_
  rw [show ((Int32.ofNat (e' * R)) + (Int32.ofNat t')) = (Int32.ofNat (e' * R + t')) from own_add32 _ _ (by omega)]
  refine OGo.iloadN K (pc' := 13) own_d13_12 rfl rfl ?_
  refine OGo.iastore K (pc' := 14) (i := (e' * R + t')) Vr ⟨x1, x2⟩ x3 (by rw [lr]; exact hix) g_xr own_d13_13 rfl ?_
  intro h1 W1 Vr_1
  have Z1 : n0 ≤ h1.size := by rw [W1.size]; exact Z0
  have E_1 := E.wr W1
  have F1_1 := F1.other W1 (Or.inl n2)
  have F2_1 := F2.other W1 (Or.inl n2)
  have F3_1 := F3.other W1 (Or.inl n2)
  have F4_1 := F4.other W1 (Or.inl n2)
  have F5_1 := F5.other W1 (Or.inl n2)
  have F6_1 := F6.other W1 (Or.inl n2)
  have F7_1 := F7.other W1 (Or.inl n2)
  have Vk_1 := Vk.other W1 n4
  have Vs_1 := Vs.other W1 (Ne.symm n6)
  have Kp1 : Keep h0 h1 [xr] := (Keep.refl h0 [xr]).wr W1 (Or.inl (List.mem_of_getElem? (i := 0) rfl))
  exact OGo.vret K own_d13_14 (by decide) (by decide) ⟨rfl, ⟨E_1, F1_1, F2_1, F3_1, F4_1, F5_1, F6_1, F7_1, ⟨_, _, Vk_1, lk⟩, ⟨_, Vr_1, by rw [List.length_set]; exact lr⟩, ⟨_, Vs_1, ls⟩, ⟨n1, n2, n3, n4, n5, n6⟩, ⟨g_a, g_xk, g_xr, g_xs⟩, hR, hC, hS⟩, Kp1⟩
set_option maxRecDepth 65536 in
set_option maxHeartbeats 40000000 in
theorem own_rm14 (l : Launch) (Z : State) (a0 : Array Value) (hw : ∀ d ∈ tables_1, d.before a0 Z = true) (a xk xr xs : Addr) (R C S n : Nat) (F : Int32) (rv sv : List Value) (e' t' : Nat) (v : Int32) (h0 : Heap) (n0 : Nat) (Z0 : n0 ≤ h0.size) (O : OTI Z n0 h0 a xk xr xs R C S n F rv sv) (he : e' < C) (ht : t' < R) (hv : rv.getD (e' * R + t') (.int 0) = .int v) :
    OCon l Z n0 (⟨"com/example/centroute/centroute/median/TupleIndex", "get", "(II)I"⟩ : MethodName) prog_50_method_4_code 3 (some .int) [] ({ frames := 0, cells := 0, slots := 0, locals := 0 } : Room) #[(.ref a), (.int (Int32.ofNat e')), (.int (Int32.ofNat t'))] h0 (OV fun w h => w = .int v ∧ h = h0) := by
  refine OCon.of (Ls := #[.val (.ref a), .val (.int (Int32.ofNat e')), .val (.int (Int32.ofNat t'))]) (plainFor_of_name own_pn_1) (fun m => own_entry m rfl) ?_
  intro p e s m below meth c K
  obtain ⟨E, F1, F2, F3, F4, F5, F6, F7, ⟨kk_, kv, Vk, lk⟩, ⟨kr, Vr, lr⟩, ⟨ks, Vs, ls⟩, ⟨n1, n2, n3, n4, n5, n6⟩, ⟨g_a, g_xk, g_xr, g_xs⟩, hR, hC, hS⟩ := O
  have hix : e' * R + t' < C * R := own_ix he ht
  have hCR : C * R ≤ 32 := Nat.mul_le_mul hC.2 hR.2
  obtain ⟨x1, x2⟩ := own_a32 hix (by omega)
  obtain ⟨-, -, x3⟩ := own_t32 (n := e' * R + t') (by omega)
  refine OGo.aloadN K (pc' := 1) own_d14_0 rfl rfl rfl ?_
  refine OGo.getF K (pc' := 4) (host := "") (Or.inl (hw _ (List.mem_of_getElem? (i := 23) rfl))) Via.refl F5 own_d14_1 rfl ?_
  refine OGo.iloadN K (pc' := 5) own_d14_4 rfl rfl ?_
  refine OGo.aloadN K (pc' := 6) own_d14_5 rfl rfl rfl ?_
  refine OGo.getF K (pc' := 9) (host := "") (Or.inl (hw _ (List.mem_of_getElem? (i := 12) rfl))) Via.refl F2 own_d14_6 rfl ?_
  refine OGo.imul K (pc' := 10) own_d14_9 rfl ?_
  rw [show ((Int32.ofNat e') * (Int32.ofNat R)) = (Int32.ofNat (e' * R)) from own_mul32 e' R (by omega)]
  refine OGo.iloadN K (pc' := 11) own_d14_10 rfl rfl ?_
  refine OGo.iadd K (pc' := 12) own_d14_11 rfl ?_
  rw [show ((Int32.ofNat (e' * R)) + (Int32.ofNat t')) = (Int32.ofNat (e' * R + t')) from own_add32 _ _ (by omega)]
  refine OGo.iaload K (pc' := 13) (v := (.int v)) Vr ⟨x1, x2⟩ (by rw [x3]; exact hv) own_d14_12 rfl ?_
  exact OGo.iret K own_d14_13 (by decide) (by decide) ⟨_, rfl, rfl, rfl⟩
set_option maxRecDepth 65536 in
set_option maxHeartbeats 40000000 in
theorem own_rm0 (l : Launch) (Z : State) (a0 : Array Value) (hw : ∀ d ∈ tables_1, d.before a0 Z = true) (ws : List Jvm.Cond) (v0 v1 v2 v3 v4 v5 : Int32) (h0 : Heap) (n0 : Nat) (Z0 : n0 ≤ h0.size)  :
    OCon l Z n0 x code maxLocals ret ws room_1 #[(.int v0), (.int v1), (.int v2), (.int v3), (.int v4), (.int v5)] h0 (OV fun w h => w = .int 1) := by
  refine OCon.of (Ls := #[.val (.int v0), .val (.int v1), .val (.int v2), .val (.int v3), .val (.int v4), .val (.int v5), .unset, .unset, .unset, .unset, .unset, .unset, .unset, .unset, .unset, .unset, .unset, .unset, .unset, .unset, .unset, .unset, .unset]) (plainFor_of_name own_pn_0) (fun m => own_entry m rfl) ?_
  intro p e s m below meth c K
  obtain ⟨R, eR, hR⟩ := own_one3 v0
  obtain ⟨C, eC, hC⟩ := own_one3 (v0 >>> ((3 : Int32) &&& 31))
  refine OGo.iconst K (pc' := 1) (z := 1) at_0 rfl rfl ?_
  refine OGo.iloadN K (pc' := 2) at_1 rfl rfl ?_
  refine OGo.iconst K (pc' := 3) (z := 3) at_2 rfl rfl ?_
  refine OGo.iand K (pc' := 4) at_3 rfl ?_
  refine OGo.iadd K (pc' := 5) at_4 rfl ?_
  rw [show ((1 : Int32) + (v0 &&& (3 : Int32))) = (Int32.ofNat R) from eR]
  refine OGo.istore K (pc' := 7) (Ls' := #[.val (.int v0), .val (.int v1), .val (.int v2), .val (.int v3), .val (.int v4), .val (.int v5), .val (.int (Int32.ofNat R)), .unset, .unset, .unset, .unset, .unset, .unset, .unset, .unset, .unset, .unset, .unset, .unset, .unset, .unset, .unset, .unset]) at_5 rfl rfl ?_
  refine OGo.iloadN K (pc' := 8) at_7 rfl rfl ?_
  refine OGo.iconst K (pc' := 9) (z := 2) at_8 rfl rfl ?_
  refine OGo.ishr K (pc' := 10) at_9 rfl ?_
  refine OGo.iconst K (pc' := 11) (z := 1) at_10 rfl rfl ?_
  refine OGo.iand K (pc' := 12) at_11 rfl ?_
  suffices J20 : ∀ f7 : Int32, OGo p l e room_1 s m #[(.int v0), (.int v1), (.int v2), (.int v3), (.int v4), (.int v5)] below meth c n0 (OV fun w h => w = .int 1) h0 0 0 20 #[.val (.int v0), .val (.int v1), .val (.int v2), .val (.int v3), .val (.int v4), .val (.int v5), .val (.int (Int32.ofNat R)), .unset, .unset, .unset, .unset, .unset, .unset, .unset, .unset, .unset, .unset, .unset, .unset, .unset, .unset, .unset, .unset] [(.int f7)] by
    refine OGo.ifNe K (pc' := 15) (pcY := 19) at_12 rfl (by decide) rfl (fun hc12 => ?_) (fun hc12 => ?_)
    · skip
      refine OGo.iconst K (pc' := 20) (z := 0) at_19 rfl rfl ?_
      exact J20 _
    · skip
      refine OGo.iconst K (pc' := 16) (z := 1) at_15 rfl rfl ?_
      refine OGo.goto K (pc' := 20) at_16 (by decide) rfl ?_
      exact J20 _
  intro f7
  refine OGo.istore K (pc' := 22) (Ls' := #[.val (.int v0), .val (.int v1), .val (.int v2), .val (.int v3), .val (.int v4), .val (.int v5), .val (.int (Int32.ofNat R)), .val (.int f7), .unset, .unset, .unset, .unset, .unset, .unset, .unset, .unset, .unset, .unset, .unset, .unset, .unset, .unset, .unset]) at_20 rfl rfl ?_
  refine OGo.iconst K (pc' := 23) (z := 1) at_22 rfl rfl ?_
  refine OGo.iloadN K (pc' := 24) at_23 rfl rfl ?_
  refine OGo.iconst K (pc' := 25) (z := 3) at_24 rfl rfl ?_
  refine OGo.ishr K (pc' := 26) at_25 rfl ?_
  refine OGo.iconst K (pc' := 27) (z := 3) at_26 rfl rfl ?_
  refine OGo.iand K (pc' := 28) at_27 rfl ?_
  refine OGo.iadd K (pc' := 29) at_28 rfl ?_
  rw [show ((1 : Int32) + ((v0 >>> ((3 : Int32) &&& 31)) &&& (3 : Int32))) = (Int32.ofNat C) from eC]
  obtain ⟨t1, et1, ht1⟩ := own_modR v5 hR
  refine OGo.istore K (pc' := 31) (Ls' := #[.val (.int v0), .val (.int v1), .val (.int v2), .val (.int v3), .val (.int v4), .val (.int v5), .val (.int (Int32.ofNat R)), .val (.int f7), .val (.int (Int32.ofNat C)), .unset, .unset, .unset, .unset, .unset, .unset, .unset, .unset, .unset, .unset, .unset, .unset, .unset, .unset]) at_29 rfl rfl ?_
  refine OGo.iload K (pc' := 33) at_31 rfl rfl ?_
  refine OGo.ldcI K (pc' := 35) (v := 2147483647) (hw _ (List.mem_of_getElem? (i := 0) rfl)) at_33 rfl ?_
  refine OGo.iand K (pc' := 36) at_35 rfl ?_
  refine OGo.iload K (pc' := 38) at_36 rfl rfl ?_
  refine OGo.irem K (pc' := 39) at_38 rfl (own_nz hR.1 (by omega)) ?_
  rw [show ((v5 &&& (2147483647 : Int32)) % (Int32.ofNat R)) = (Int32.ofNat t1) from et1]
  obtain ⟨t2, et2, ht2⟩ := own_modS t1 hR ht1
  refine OGo.istore K (pc' := 41) (Ls' := #[.val (.int v0), .val (.int v1), .val (.int v2), .val (.int v3), .val (.int v4), .val (.int v5), .val (.int (Int32.ofNat R)), .val (.int f7), .val (.int (Int32.ofNat C)), .val (.int (Int32.ofNat t1)), .unset, .unset, .unset, .unset, .unset, .unset, .unset, .unset, .unset, .unset, .unset, .unset, .unset]) at_39 rfl rfl ?_
  refine OGo.iload K (pc' := 43) at_41 rfl rfl ?_
  refine OGo.iconst K (pc' := 44) (z := 1) at_43 rfl rfl ?_
  refine OGo.iadd K (pc' := 45) at_44 rfl ?_
  refine OGo.iload K (pc' := 47) at_45 rfl rfl ?_
  refine OGo.irem K (pc' := 48) at_47 rfl (own_nz hR.1 (by omega)) ?_
  rw [show (((Int32.ofNat t1) + (1 : Int32)) % (Int32.ofNat R)) = (Int32.ofNat t2) from et2]
  refine OGo.istore K (pc' := 50) (Ls' := #[.val (.int v0), .val (.int v1), .val (.int v2), .val (.int v3), .val (.int v4), .val (.int v5), .val (.int (Int32.ofNat R)), .val (.int f7), .val (.int (Int32.ofNat C)), .val (.int (Int32.ofNat t1)), .val (.int (Int32.ofNat t2)), .unset, .unset, .unset, .unset, .unset, .unset, .unset, .unset, .unset, .unset, .unset, .unset]) at_48 rfl rfl ?_
  refine OGo.newO K (pc' := 53) (cells' := 1) (slots' := 7) (hw _ (List.mem_of_getElem? (i := 1) rfl)) (hw _ (List.mem_of_getElem? (i := 2) rfl)) (hw _ (List.mem_of_getElem? (i := 3) rfl)) at_50 rfl rfl rfl (by decide) (by decide) ?_
  intro h1 a gq1 E1 A1 D1
  have g_a : n0 ≤ a := Nat.le_trans Z0 (Nat.le_of_eq gq1.symm)
  have Z1 : n0 ≤ h1.size := Nat.le_trans Z0 E1.1
  have F_width_a : Fld Z h1 a "com/example/centroute/centroute/median/TupleIndex" "width" "I" (.int (0 : Int32)) := D1 (Or.inr (hw _ (List.mem_of_getElem? (i := 11) rfl))) (ty := .int) (by decide)
  have F_rowLength_a : Fld Z h1 a "com/example/centroute/centroute/median/TupleIndex" "rowLength" "I" (.int (0 : Int32)) := D1 (Or.inr (hw _ (List.mem_of_getElem? (i := 13) rfl))) (ty := .int) (by decide)
  have F_fill_a : Fld Z h1 a "com/example/centroute/centroute/median/TupleIndex" "fill" "I" (.int (0 : Int32)) := D1 (Or.inr (hw _ (List.mem_of_getElem? (i := 15) rfl))) (ty := .int) (by decide)
  have F_keys_a : Fld Z h1 a "com/example/centroute/centroute/median/TupleIndex" "keys" "[I" .null := D1 (Or.inl (hw _ (List.mem_of_getElem? (i := 22) rfl))) (ty := (.array .int)) (by decide)
  have F_rows_a : Fld Z h1 a "com/example/centroute/centroute/median/TupleIndex" "rows" "[I" .null := D1 (Or.inl (hw _ (List.mem_of_getElem? (i := 24) rfl))) (ty := (.array .int)) (by decide)
  have F_slots_a : Fld Z h1 a "com/example/centroute/centroute/median/TupleIndex" "slots" "[I" .null := D1 (Or.inl (hw _ (List.mem_of_getElem? (i := 35) rfl))) (ty := (.array .int)) (by decide)
  have F_size_a : Fld Z h1 a "com/example/centroute/centroute/median/TupleIndex" "size" "I" (.int (0 : Int32)) := D1 (Or.inl (hw _ (List.mem_of_getElem? (i := 52) rfl))) (ty := .int) (by decide)
  refine OGo.dup K (pc' := 54) at_53 rfl rfl ?_
  refine OGo.iconst K (pc' := 55) (z := 1) at_54 rfl rfl ?_
  refine OGo.iload K (pc' := 57) at_55 rfl rfl ?_
  refine OGo.iloadN K (pc' := 58) at_57 rfl rfl ?_
  refine OGo.iload K (pc' := 60) at_58 rfl rfl ?_
  refine OGo.callIN K (pc' := 63) (y := (⟨"com/example/centroute/centroute/median/TupleIndex", "<init>", "(IIII)V"⟩ : MethodName)) (a := a) (W := 1) (cells' := 4) (slots' := 43) (argsL := [(.int (1 : Int32)), (.int (Int32.ofNat R)), (.int v1), (.int (Int32.ofNat C))]) (st := [(.ref a)]) rfl (hw _ (List.mem_of_getElem? (i := 4) rfl)) (hw _ (List.mem_of_getElem? (i := 5) rfl)) (hw _ (List.mem_of_getElem? (i := 3) rfl)) (hw _ (List.mem_of_getElem? (i := 6) rfl)) (by decide) (own_rm1 l Z a0 hw a R C v1 h1 n0 Z1 A1 F_width_a F_rowLength_a F_fill_a F_keys_a F_rows_a F_slots_a F_size_a g_a hR hC) at_60 rfl rfl (lenOf own_pd10 rfl) (by show 2 * 0 + _ ≤ _; exact Nat.le_of_eq rfl) (by decide) (by decide) rfl rfl (by decide) (by decide) ?_
  rintro h2 ⟨xk, xr, xs, O2, K2⟩
  have Z2 : n0 ≤ h2.size := Nat.le_trans Z1 K2.1
  refine OGo.astore K (pc' := 65) (Ls' := #[.val (.int v0), .val (.int v1), .val (.int v2), .val (.int v3), .val (.int v4), .val (.int v5), .val (.int (Int32.ofNat R)), .val (.int f7), .val (.int (Int32.ofNat C)), .val (.int (Int32.ofNat t1)), .val (.int (Int32.ofNat t2)), .val (.ref a), .unset, .unset, .unset, .unset, .unset, .unset, .unset, .unset, .unset, .unset, .unset]) at_63 rfl rfl rfl ?_
  refine OGo.iconst K (pc' := 66) (z := 1) at_65 rfl rfl ?_
  refine OGo.newP K (pc' := 68) (cap := 1) (cells' := 5) (slots' := 44) (hw _ (List.mem_of_getElem? (i := 20) rfl)) at_66 rfl (by decide) (by decide) (by decide) rfl rfl (by decide) (by decide) ?_
  intro h3 y0 k_y0 gq3 E3 V_y0
  have ne_a_y0 : a ≠ y0 := Nat.ne_of_lt (Nat.lt_of_lt_of_le (own_oti_lt O2).1 (Nat.le_of_eq gq3.symm))
  have ne_xk_y0 : xk ≠ y0 := Nat.ne_of_lt (Nat.lt_of_lt_of_le (own_oti_lt O2).2.1 (Nat.le_of_eq gq3.symm))
  have ne_xr_y0 : xr ≠ y0 := Nat.ne_of_lt (Nat.lt_of_lt_of_le (own_oti_lt O2).2.2.1 (Nat.le_of_eq gq3.symm))
  have ne_xs_y0 : xs ≠ y0 := Nat.ne_of_lt (Nat.lt_of_lt_of_le (own_oti_lt O2).2.2.2 (Nat.le_of_eq gq3.symm))
  have g_y0 : n0 ≤ y0 := Nat.le_trans Z2 (Nat.le_of_eq gq3.symm)
  have Z3 : n0 ≤ h3.size := Nat.le_trans Z2 E3.1
  have O2_3 := own_oti_keep O2 (own_kext E3) nin0 nin0 nin0 nin0
  replace V_y0 : Arv Z h3 y0 _ .int (1 : Int32) [.int 0] (.int 0) := V_y0.pad (pad_rep [] _ 1)
  refine OGo.dup K (pc' := 69) at_68 rfl rfl ?_
  refine OGo.iconst K (pc' := 70) (z := 0) at_69 rfl rfl ?_
  refine OGo.iloadN K (pc' := 71) at_70 rfl rfl ?_
  refine OGo.iastore K (pc' := 72) (i := 0) V_y0 (by decide) rfl (Nat.le_of_ble_eq_true rfl) g_y0 at_71 rfl ?_
  intro h4 W4 V_y0_4
  have Z4 : n0 ≤ h4.size := by rw [W4.size]; exact Z3
  replace V_y0_4 : Arv Z h4 y0 _ .int (1 : Int32) [.int v2] (.int 0) := V_y0_4
  have O2_4 := own_oti_keep O2_3 (Keep.of_wr W4) (ninS ne_a_y0 nin0) (ninS ne_xk_y0 nin0) (ninS ne_xr_y0 nin0) (ninS ne_xs_y0 nin0)
  refine OGo.astore K (pc' := 74) (Ls' := #[.val (.int v0), .val (.int v1), .val (.int v2), .val (.int v3), .val (.int v4), .val (.int v5), .val (.int (Int32.ofNat R)), .val (.int f7), .val (.int (Int32.ofNat C)), .val (.int (Int32.ofNat t1)), .val (.int (Int32.ofNat t2)), .val (.ref a), .val (.ref y0), .unset, .unset, .unset, .unset, .unset, .unset, .unset, .unset, .unset, .unset]) at_72 rfl rfl rfl ?_
  refine OGo.iconst K (pc' := 75) (z := 1) at_74 rfl rfl ?_
  refine OGo.newP K (pc' := 77) (cap := 1) (cells' := 6) (slots' := 45) (hw _ (List.mem_of_getElem? (i := 20) rfl)) at_75 rfl (by decide) (by decide) (by decide) rfl rfl (by decide) (by decide) ?_
  intro h5 y1 k_y1 gq5 E5 V_y1
  have ne_a_y1 : a ≠ y1 := Nat.ne_of_lt (Nat.lt_of_lt_of_le (own_oti_lt O2_4).1 (Nat.le_of_eq gq5.symm))
  have ne_xk_y1 : xk ≠ y1 := Nat.ne_of_lt (Nat.lt_of_lt_of_le (own_oti_lt O2_4).2.1 (Nat.le_of_eq gq5.symm))
  have ne_xr_y1 : xr ≠ y1 := Nat.ne_of_lt (Nat.lt_of_lt_of_le (own_oti_lt O2_4).2.2.1 (Nat.le_of_eq gq5.symm))
  have ne_xs_y1 : xs ≠ y1 := Nat.ne_of_lt (Nat.lt_of_lt_of_le (own_oti_lt O2_4).2.2.2 (Nat.le_of_eq gq5.symm))
  have ne_y0_y1 : y0 ≠ y1 := Nat.ne_of_lt (Nat.lt_of_lt_of_le V_y0_4.lt (Nat.le_of_eq gq5.symm))
  have g_y1 : n0 ≤ y1 := Nat.le_trans Z4 (Nat.le_of_eq gq5.symm)
  have Z5 : n0 ≤ h5.size := Nat.le_trans Z4 E5.1
  have O2_5 := own_oti_keep O2_4 (own_kext E5) nin0 nin0 nin0 nin0
  have V_y0_5 := V_y0_4.ext E5
  replace V_y1 : Arv Z h5 y1 _ .int (1 : Int32) [.int 0] (.int 0) := V_y1.pad (pad_rep [] _ 1)
  refine OGo.dup K (pc' := 78) at_77 rfl rfl ?_
  refine OGo.iconst K (pc' := 79) (z := 0) at_78 rfl rfl ?_
  refine OGo.iloadN K (pc' := 80) at_79 rfl rfl ?_
  refine OGo.iconst K (pc' := 81) (z := 1) at_80 rfl rfl ?_
  refine OGo.ixor K (pc' := 82) at_81 rfl ?_
  refine OGo.iastore K (pc' := 83) (i := 0) V_y1 (by decide) rfl (Nat.le_of_ble_eq_true rfl) g_y1 at_82 rfl ?_
  intro h6 W6 V_y1_6
  have Z6 : n0 ≤ h6.size := by rw [W6.size]; exact Z5
  replace V_y1_6 : Arv Z h6 y1 _ .int (1 : Int32) [.int (v2 ^^^ (1 : Int32))] (.int 0) := V_y1_6
  have O2_6 := own_oti_keep O2_5 (Keep.of_wr W6) (ninS ne_a_y1 nin0) (ninS ne_xk_y1 nin0) (ninS ne_xr_y1 nin0) (ninS ne_xs_y1 nin0)
  have V_y0_6 := V_y0_5.other W6 ne_y0_y1
  have hS := own_hb_S hC
  refine OGo.astore K (pc' := 85) (Ls' := #[.val (.int v0), .val (.int v1), .val (.int v2), .val (.int v3), .val (.int v4), .val (.int v5), .val (.int (Int32.ofNat R)), .val (.int f7), .val (.int (Int32.ofNat C)), .val (.int (Int32.ofNat t1)), .val (.int (Int32.ofNat t2)), .val (.ref a), .val (.ref y0), .val (.ref y1), .unset, .unset, .unset, .unset, .unset, .unset, .unset, .unset, .unset]) at_83 rfl rfl rfl ?_
  refine OGo.aload K (pc' := 87) at_85 rfl rfl rfl ?_
  refine OGo.aload K (pc' := 89) at_87 rfl rfl rfl ?_
  refine OGo.callVV K (pc' := 92) (y := (⟨"com/example/centroute/centroute/median/TupleIndex", "add", "([I)I"⟩ : MethodName)) (z := (⟨"com/example/centroute/centroute/median/TupleIndex", "add", "([I)I"⟩ : MethodName)) (a := a) (W := 0) (cells' := 8) (slots' := 77) (argsL := [(.ref y0)]) (st := []) O2_6.1 (hw _ (List.mem_of_getElem? (i := 36) rfl)) (hw _ (List.mem_of_getElem? (i := 37) rfl)) (notFace_of_selects (args := #[]) (mvT K.hZ (hw _ (List.mem_of_getElem? (i := 39) rfl)))) (hw _ (List.mem_of_getElem? (i := 39) rfl)) (hw _ (List.mem_of_getElem? (i := 38) rfl)) (hw _ (List.mem_of_getElem? (i := 3) rfl)) (hw _ (List.mem_of_getElem? (i := 40) rfl)) (by decide) (own_rm6 l Z a0 hw a xk xr xs R C (4 * own_hb C) 0 v1 (List.replicate (C * R) (.int 0)) (List.replicate (4 * own_hb C) (.int 0)) y0 _ v2 h6 n0 Z6 O2_6 V_y0_6 (own_rep0 _ _) (by decide) (Nat.zero_le _) (fun i hi => absurd hi (by omega)) (Ne.symm ne_a_y0) (Ne.symm ne_xk_y0) (Ne.symm ne_xr_y0) (Ne.symm ne_xs_y0)) at_89 rfl rfl (lenOf own_pd7 rfl) (by show 2 * 0 + _ ≤ _; exact Nat.le_of_eq rfl) (by decide) (by decide) rfl rfl (by decide) (by decide) ?_
  rintro _ h7 ⟨rfl, xk1, xr1, C1, rv1, O7, fl1, K7, hc1, dk1, dr1⟩
  have Z7 : n0 ≤ h7.size := Nat.le_trans Z6 K7.1
  have V_y1_7 := V_y1_6.keep K7 (ninS (Ne.symm ne_a_y1) (ninS (Ne.symm ne_xk_y1) (ninS (Ne.symm ne_xr_y1) (ninS (Ne.symm ne_xs_y1) nin0))))
  show OGo p l e _ s m _ below meth c n0 _ h7 8 77 92 #[.val (.int v0), .val (.int v1), .val (.int v2), .val (.int v3), .val (.int v4), .val (.int v5), .val (.int (Int32.ofNat R)), .val (.int f7), .val (.int (Int32.ofNat C)), .val (.int (Int32.ofNat t1)), .val (.int (Int32.ofNat t2)), .val (.ref a), .val (.ref y0), .val (.ref y1), .unset, .unset, .unset, .unset, .unset, .unset, .unset, .unset, .unset] [(.int (Int32.ofNat 0))]
  have ne_y1_xk1 : y1 ≠ xk1 := dk1.elim (fun e => e ▸ (Ne.symm ne_xk_y1)) (fun e => Nat.ne_of_lt (Nat.lt_of_lt_of_le V_y1_6.lt e))
  have ne_y1_xr1 : y1 ≠ xr1 := dr1.elim (fun e => e ▸ (Ne.symm ne_xr_y1)) (fun e => Nat.ne_of_lt (Nat.lt_of_lt_of_le V_y1_6.lt e))
  refine OGo.istore K (pc' := 94) (Ls' := #[.val (.int v0), .val (.int v1), .val (.int v2), .val (.int v3), .val (.int v4), .val (.int v5), .val (.int (Int32.ofNat R)), .val (.int f7), .val (.int (Int32.ofNat C)), .val (.int (Int32.ofNat t1)), .val (.int (Int32.ofNat t2)), .val (.ref a), .val (.ref y0), .val (.ref y1), .val (.int (Int32.ofNat 0)), .unset, .unset, .unset, .unset, .unset, .unset, .unset, .unset]) at_92 rfl rfl ?_
  refine OGo.aload K (pc' := 96) at_94 rfl rfl rfl ?_
  refine OGo.aload K (pc' := 98) at_96 rfl rfl rfl ?_
  refine OGo.callVV K (pc' := 101) (y := (⟨"com/example/centroute/centroute/median/TupleIndex", "add", "([I)I"⟩ : MethodName)) (z := (⟨"com/example/centroute/centroute/median/TupleIndex", "add", "([I)I"⟩ : MethodName)) (a := a) (W := 0) (cells' := 10) (slots' := 109) (argsL := [(.ref y1)]) (st := []) O7.1 (hw _ (List.mem_of_getElem? (i := 36) rfl)) (hw _ (List.mem_of_getElem? (i := 37) rfl)) (notFace_of_selects (args := #[]) (mvT K.hZ (hw _ (List.mem_of_getElem? (i := 39) rfl)))) (hw _ (List.mem_of_getElem? (i := 39) rfl)) (hw _ (List.mem_of_getElem? (i := 38) rfl)) (hw _ (List.mem_of_getElem? (i := 3) rfl)) (hw _ (List.mem_of_getElem? (i := 40) rfl)) (by decide) (own_rm6 l Z a0 hw a xk1 xr1 xs R C1 (4 * own_hb C) 1 v1 rv1 ((List.replicate (4 * own_hb C) (.int 0)).set (own_h v2 (4 * own_hb C)) (.int (Int32.ofNat (0 + 1)))) y1 _ (v2 ^^^ (1 : Int32)) h7 n0 Z7 O7 V_y1_7 (by rw [own_set_ne (own_h_ne v2 hS)]; exact own_rep0 _ _) (by decide) hc1 fl1 (Ne.symm ne_a_y1) ne_y1_xk1 ne_y1_xr1 (Ne.symm ne_xs_y1)) at_98 rfl rfl (lenOf own_pd7 rfl) (by show 2 * 0 + _ ≤ _; exact Nat.le_of_eq rfl) (by decide) (by decide) rfl rfl (by decide) (by decide) ?_
  rintro _ h8 ⟨rfl, xk2, xr2, C2, rv2, O8, fl2, K8, hc2, dk2, dr2⟩
  have Z8 : n0 ≤ h8.size := Nat.le_trans Z7 K8.1
  have V_y1_8 := V_y1_7.keep K8 (ninS (Ne.symm ne_a_y1) (ninS ne_y1_xk1 (ninS ne_y1_xr1 (ninS (Ne.symm ne_xs_y1) nin0))))
  show OGo p l e _ s m _ below meth c n0 _ h8 10 109 101 #[.val (.int v0), .val (.int v1), .val (.int v2), .val (.int v3), .val (.int v4), .val (.int v5), .val (.int (Int32.ofNat R)), .val (.int f7), .val (.int (Int32.ofNat C)), .val (.int (Int32.ofNat t1)), .val (.int (Int32.ofNat t2)), .val (.ref a), .val (.ref y0), .val (.ref y1), .val (.int (Int32.ofNat 0)), .unset, .unset, .unset, .unset, .unset, .unset, .unset, .unset] [(.int (Int32.ofNat 1))]
  have hC2 : 2 ≤ C2 := hc2
  refine OGo.istore K (pc' := 103) (Ls' := #[.val (.int v0), .val (.int v1), .val (.int v2), .val (.int v3), .val (.int v4), .val (.int v5), .val (.int (Int32.ofNat R)), .val (.int f7), .val (.int (Int32.ofNat C)), .val (.int (Int32.ofNat t1)), .val (.int (Int32.ofNat t2)), .val (.ref a), .val (.ref y0), .val (.ref y1), .val (.int (Int32.ofNat 0)), .val (.int (Int32.ofNat 1)), .unset, .unset, .unset, .unset, .unset, .unset, .unset]) at_101 rfl rfl ?_
  refine OGo.iload K (pc' := 105) at_103 rfl rfl ?_
  refine OGo.ifEq K (pc' := 108) (pcY := 113) at_105 rfl (by decide) rfl (fun hf7 => ?_) (fun hf7 => ?_)
  · skip
    refine OGo.iload K (pc' := 115) at_113 rfl rfl ?_
    refine OGo.istore K (pc' := 117) (Ls' := #[.val (.int v0), .val (.int v1), .val (.int v2), .val (.int v3), .val (.int v4), .val (.int v5), .val (.int (Int32.ofNat R)), .val (.int f7), .val (.int (Int32.ofNat C)), .val (.int (Int32.ofNat t1)), .val (.int (Int32.ofNat t2)), .val (.ref a), .val (.ref y0), .val (.ref y1), .val (.int (Int32.ofNat 0)), .val (.int (Int32.ofNat 1)), .val (.int (Int32.ofNat 1)), .unset, .unset, .unset, .unset, .unset, .unset]) at_115 rfl rfl ?_
    refine OGo.iload K (pc' := 119) at_117 rfl rfl ?_
    refine OGo.ifEq K (pc' := 122) (pcY := 127) at_119 rfl (by decide) rfl (fun hc119 => ?_) (fun hc119 => absurd (hf7 : f7 = (0 : Int32)) hc119)
    refine OGo.iload K (pc' := 129) at_127 rfl rfl ?_
    refine OGo.istore K (pc' := 131) (Ls' := #[.val (.int v0), .val (.int v1), .val (.int v2), .val (.int v3), .val (.int v4), .val (.int v5), .val (.int (Int32.ofNat R)), .val (.int f7), .val (.int (Int32.ofNat C)), .val (.int (Int32.ofNat t1)), .val (.int (Int32.ofNat t2)), .val (.ref a), .val (.ref y0), .val (.ref y1), .val (.int (Int32.ofNat 0)), .val (.int (Int32.ofNat 1)), .val (.int (Int32.ofNat 1)), .val (.int (Int32.ofNat 0)), .unset, .unset, .unset, .unset, .unset]) at_129 rfl rfl ?_
    refine OGo.aload K (pc' := 133) at_131 rfl rfl rfl ?_
    refine OGo.iload K (pc' := 135) at_133 rfl rfl ?_
    refine OGo.iload K (pc' := 137) at_135 rfl rfl ?_
    refine OGo.iloadN K (pc' := 138) at_137 rfl rfl ?_
    have l2 : rv2.length = C2 * R := by obtain ⟨-, -, -, -, -, -, -, -, -, ⟨_, -, q⟩, -⟩ := O8; exact q
    have hm : 2 * R ≤ C2 * R := Nat.mul_le_mul_right R hC2
    refine OGo.callVN K (pc' := 141) (y := (⟨"com/example/centroute/centroute/median/TupleIndex", "set", "(III)V"⟩ : MethodName)) (z := (⟨"com/example/centroute/centroute/median/TupleIndex", "set", "(III)V"⟩ : MethodName)) (a := a) (W := 0) (cells' := 10) (slots' := 109) (argsL := [(.int (Int32.ofNat 1)), (.int (Int32.ofNat t1)), (.int v3)]) (st := []) O8.1 (hw _ (List.mem_of_getElem? (i := 71) rfl)) (hw _ (List.mem_of_getElem? (i := 72) rfl)) (notFace_of_selects (args := #[]) (mvT K.hZ (hw _ (List.mem_of_getElem? (i := 74) rfl)))) (hw _ (List.mem_of_getElem? (i := 74) rfl)) (hw _ (List.mem_of_getElem? (i := 73) rfl)) (hw _ (List.mem_of_getElem? (i := 3) rfl)) (hw _ (List.mem_of_getElem? (i := 75) rfl)) (by decide) (own_rm13 l Z a0 hw a xk2 xr2 xs R C2 (4 * own_hb C) (1 + 1) v1 rv2 (((List.replicate (4 * own_hb C) (.int 0)).set (own_h v2 (4 * own_hb C)) (.int (Int32.ofNat (0 + 1)))).set (own_h (v2 ^^^ (1 : Int32)) (4 * own_hb C)) (.int (Int32.ofNat (1 + 1)))) 1 t1 v3 h8 n0 Z8 O8 (by omega) ht1) at_138 rfl rfl (lenOf own_pd6 rfl) (by show 2 * 0 + _ ≤ _; exact Nat.le_of_eq rfl) (by decide) (by decide) rfl rfl (by decide) (by decide) ?_
    rintro h9 ⟨O9, K9⟩
    have Z9 : n0 ≤ h9.size := Nat.le_trans Z8 K9.1
    refine OGo.aload K (pc' := 143) at_141 rfl rfl rfl ?_
    refine OGo.iload K (pc' := 145) at_143 rfl rfl ?_
    refine OGo.iload K (pc' := 147) at_145 rfl rfl ?_
    refine OGo.callVV K (pc' := 150) (y := (⟨"com/example/centroute/centroute/median/TupleIndex", "get", "(II)I"⟩ : MethodName)) (z := (⟨"com/example/centroute/centroute/median/TupleIndex", "get", "(II)I"⟩ : MethodName)) (a := a) (W := 0) (cells' := 10) (slots' := 109) (argsL := [(.int (Int32.ofNat 1)), (.int (Int32.ofNat t1))]) (st := []) O9.1 (hw _ (List.mem_of_getElem? (i := 76) rfl)) (hw _ (List.mem_of_getElem? (i := 77) rfl)) (notFace_of_selects (args := #[]) (mvT K.hZ (hw _ (List.mem_of_getElem? (i := 79) rfl)))) (hw _ (List.mem_of_getElem? (i := 79) rfl)) (hw _ (List.mem_of_getElem? (i := 78) rfl)) (hw _ (List.mem_of_getElem? (i := 3) rfl)) (hw _ (List.mem_of_getElem? (i := 80) rfl)) (by decide) (own_rm14 l Z a0 hw a xk2 xr2 xs R C2 (4 * own_hb C) (1 + 1) v1 (rv2.set (1 * R + t1) (.int v3)) (((List.replicate (4 * own_hb C) (.int 0)).set (own_h v2 (4 * own_hb C)) (.int (Int32.ofNat (0 + 1)))).set (own_h (v2 ^^^ (1 : Int32)) (4 * own_hb C)) (.int (Int32.ofNat (1 + 1)))) 1 t1 v3 h9 n0 Z9 O9 (by omega) ht1 (by rw [own_set_eq (by omega)])) at_147 rfl rfl (lenOf own_pd2 rfl) (by show 2 * 0 + _ ≤ _; exact Nat.le_of_eq rfl) (by decide) (by decide) rfl rfl (by decide) (by decide) ?_
    rintro _ h10 ⟨rfl, e10⟩
    rw [e10]
    show OGo p l e _ s m _ below meth c n0 _ h9 10 109 150 #[.val (.int v0), .val (.int v1), .val (.int v2), .val (.int v3), .val (.int v4), .val (.int v5), .val (.int (Int32.ofNat R)), .val (.int f7), .val (.int (Int32.ofNat C)), .val (.int (Int32.ofNat t1)), .val (.int (Int32.ofNat t2)), .val (.ref a), .val (.ref y0), .val (.ref y1), .val (.int (Int32.ofNat 0)), .val (.int (Int32.ofNat 1)), .val (.int (Int32.ofNat 1)), .val (.int (Int32.ofNat 0)), .unset, .unset, .unset, .unset, .unset] [(.int v3)]
    refine OGo.iloadN K (pc' := 151) at_150 rfl rfl ?_
    refine OGo.icmpNe K (pc' := 154) (pcY := 158) at_151 rfl (by decide) rfl (fun hc151 => absurd (rfl : v3 = v3) hc151) (fun hc151 => ?_)
    refine OGo.iconst K (pc' := 155) (z := 1) at_154 rfl rfl ?_
    refine OGo.goto K (pc' := 159) at_155 (by decide) rfl ?_
    refine OGo.istore K (pc' := 161) (Ls' := #[.val (.int v0), .val (.int v1), .val (.int v2), .val (.int v3), .val (.int v4), .val (.int v5), .val (.int (Int32.ofNat R)), .val (.int f7), .val (.int (Int32.ofNat C)), .val (.int (Int32.ofNat t1)), .val (.int (Int32.ofNat t2)), .val (.ref a), .val (.ref y0), .val (.ref y1), .val (.int (Int32.ofNat 0)), .val (.int (Int32.ofNat 1)), .val (.int (Int32.ofNat 1)), .val (.int (Int32.ofNat 0)), .val (.int (1 : Int32)), .unset, .unset, .unset, .unset]) at_159 rfl rfl ?_
    refine OGo.aload K (pc' := 163) at_161 rfl rfl rfl ?_
    refine OGo.iload K (pc' := 165) at_163 rfl rfl ?_
    refine OGo.iload K (pc' := 167) at_165 rfl rfl ?_
    refine OGo.callVV K (pc' := 170) (y := (⟨"com/example/centroute/centroute/median/TupleIndex", "get", "(II)I"⟩ : MethodName)) (z := (⟨"com/example/centroute/centroute/median/TupleIndex", "get", "(II)I"⟩ : MethodName)) (a := a) (W := 0) (cells' := 10) (slots' := 109) (argsL := [(.int (Int32.ofNat 0)), (.int (Int32.ofNat t1))]) (st := []) O9.1 (hw _ (List.mem_of_getElem? (i := 76) rfl)) (hw _ (List.mem_of_getElem? (i := 77) rfl)) (notFace_of_selects (args := #[]) (mvT K.hZ (hw _ (List.mem_of_getElem? (i := 79) rfl)))) (hw _ (List.mem_of_getElem? (i := 79) rfl)) (hw _ (List.mem_of_getElem? (i := 78) rfl)) (hw _ (List.mem_of_getElem? (i := 3) rfl)) (hw _ (List.mem_of_getElem? (i := 80) rfl)) (by decide) (own_rm14 l Z a0 hw a xk2 xr2 xs R C2 (4 * own_hb C) (1 + 1) v1 (rv2.set (1 * R + t1) (.int v3)) (((List.replicate (4 * own_hb C) (.int 0)).set (own_h v2 (4 * own_hb C)) (.int (Int32.ofNat (0 + 1)))).set (own_h (v2 ^^^ (1 : Int32)) (4 * own_hb C)) (.int (Int32.ofNat (1 + 1)))) 0 t1 v1 h9 n0 Z9 O9 (by omega) ht1 (by rw [own_set_ne (by omega)]; exact fl2 _ (by omega))) at_167 rfl rfl (lenOf own_pd2 rfl) (by show 2 * 0 + _ ≤ _; exact Nat.le_of_eq rfl) (by decide) (by decide) rfl rfl (by decide) (by decide) ?_
    rintro _ h11 ⟨rfl, e11⟩
    rw [e11]
    show OGo p l e _ s m _ below meth c n0 _ h9 10 109 170 #[.val (.int v0), .val (.int v1), .val (.int v2), .val (.int v3), .val (.int v4), .val (.int v5), .val (.int (Int32.ofNat R)), .val (.int f7), .val (.int (Int32.ofNat C)), .val (.int (Int32.ofNat t1)), .val (.int (Int32.ofNat t2)), .val (.ref a), .val (.ref y0), .val (.ref y1), .val (.int (Int32.ofNat 0)), .val (.int (Int32.ofNat 1)), .val (.int (Int32.ofNat 1)), .val (.int (Int32.ofNat 0)), .val (.int (1 : Int32)), .unset, .unset, .unset, .unset] [(.int v1)]
    refine OGo.iloadN K (pc' := 171) at_170 rfl rfl ?_
    refine OGo.icmpNe K (pc' := 174) (pcY := 178) at_171 rfl (by decide) rfl (fun hc171 => absurd (rfl : v1 = v1) hc171) (fun hc171 => ?_)
    refine OGo.iconst K (pc' := 175) (z := 1) at_174 rfl rfl ?_
    refine OGo.goto K (pc' := 179) at_175 (by decide) rfl ?_
    refine OGo.istore K (pc' := 181) (Ls' := #[.val (.int v0), .val (.int v1), .val (.int v2), .val (.int v3), .val (.int v4), .val (.int v5), .val (.int (Int32.ofNat R)), .val (.int f7), .val (.int (Int32.ofNat C)), .val (.int (Int32.ofNat t1)), .val (.int (Int32.ofNat t2)), .val (.ref a), .val (.ref y0), .val (.ref y1), .val (.int (Int32.ofNat 0)), .val (.int (Int32.ofNat 1)), .val (.int (Int32.ofNat 1)), .val (.int (Int32.ofNat 0)), .val (.int (1 : Int32)), .val (.int (1 : Int32)), .unset, .unset, .unset]) at_179 rfl rfl ?_
    refine OGo.iload K (pc' := 183) at_181 rfl rfl ?_
    refine OGo.iload K (pc' := 185) at_183 rfl rfl ?_
    suffices J206 : OGo p l e room_1 s m #[(.int v0), (.int v1), (.int v2), (.int v3), (.int v4), (.int v5)] below meth c n0 (OV fun w h => w = .int 1) h9 10 109 206 #[.val (.int v0), .val (.int v1), .val (.int v2), .val (.int v3), .val (.int v4), .val (.int v5), .val (.int (Int32.ofNat R)), .val (.int f7), .val (.int (Int32.ofNat C)), .val (.int (Int32.ofNat t1)), .val (.int (Int32.ofNat t2)), .val (.ref a), .val (.ref y0), .val (.ref y1), .val (.int (Int32.ofNat 0)), .val (.int (Int32.ofNat 1)), .val (.int (Int32.ofNat 1)), .val (.int (Int32.ofNat 0)), .val (.int (1 : Int32)), .val (.int (1 : Int32)), .unset, .unset, .unset] [(.int (1 : Int32))] by
      refine OGo.icmpEq K (pc' := 188) (pcY := 201) at_185 rfl (by decide) rfl (fun ht => ?_) (fun ht => ?_)
      · skip
        refine OGo.iconst K (pc' := 202) (z := 1) at_201 rfl rfl ?_
        refine OGo.goto K (pc' := 206) at_202 (by decide) rfl ?_
        exact J206
      · skip
        have nt : t2 ≠ t1 := fun q => ht (by rw [q])
        refine OGo.aload K (pc' := 190) at_188 rfl rfl rfl ?_
        refine OGo.iload K (pc' := 192) at_190 rfl rfl ?_
        refine OGo.iload K (pc' := 194) at_192 rfl rfl ?_
        refine OGo.callVV K (pc' := 197) (y := (⟨"com/example/centroute/centroute/median/TupleIndex", "get", "(II)I"⟩ : MethodName)) (z := (⟨"com/example/centroute/centroute/median/TupleIndex", "get", "(II)I"⟩ : MethodName)) (a := a) (W := 0) (cells' := 10) (slots' := 109) (argsL := [(.int (Int32.ofNat 1)), (.int (Int32.ofNat t2))]) (st := []) O9.1 (hw _ (List.mem_of_getElem? (i := 76) rfl)) (hw _ (List.mem_of_getElem? (i := 77) rfl)) (notFace_of_selects (args := #[]) (mvT K.hZ (hw _ (List.mem_of_getElem? (i := 79) rfl)))) (hw _ (List.mem_of_getElem? (i := 79) rfl)) (hw _ (List.mem_of_getElem? (i := 78) rfl)) (hw _ (List.mem_of_getElem? (i := 3) rfl)) (hw _ (List.mem_of_getElem? (i := 80) rfl)) (by decide) (own_rm14 l Z a0 hw a xk2 xr2 xs R C2 (4 * own_hb C) (1 + 1) v1 (rv2.set (1 * R + t1) (.int v3)) (((List.replicate (4 * own_hb C) (.int 0)).set (own_h v2 (4 * own_hb C)) (.int (Int32.ofNat (0 + 1)))).set (own_h (v2 ^^^ (1 : Int32)) (4 * own_hb C)) (.int (Int32.ofNat (1 + 1)))) 1 t2 v1 h9 n0 Z9 O9 (by omega) ht2 (by rw [own_set_ne (by omega)]; exact fl2 _ (by omega))) at_194 rfl rfl (lenOf own_pd2 rfl) (by show 2 * 0 + _ ≤ _; exact Nat.le_of_eq rfl) (by decide) (by decide) rfl rfl (by decide) (by decide) ?_
        rintro _ h12 ⟨rfl, e12⟩
        rw [e12]
        show OGo p l e _ s m _ below meth c n0 _ h9 10 109 197 #[.val (.int v0), .val (.int v1), .val (.int v2), .val (.int v3), .val (.int v4), .val (.int v5), .val (.int (Int32.ofNat R)), .val (.int f7), .val (.int (Int32.ofNat C)), .val (.int (Int32.ofNat t1)), .val (.int (Int32.ofNat t2)), .val (.ref a), .val (.ref y0), .val (.ref y1), .val (.int (Int32.ofNat 0)), .val (.int (Int32.ofNat 1)), .val (.int (Int32.ofNat 1)), .val (.int (Int32.ofNat 0)), .val (.int (1 : Int32)), .val (.int (1 : Int32)), .unset, .unset, .unset] [(.int v1)]
        refine OGo.iloadN K (pc' := 198) at_197 rfl rfl ?_
        refine OGo.icmpNe K (pc' := 201) (pcY := 205) at_198 rfl (by decide) rfl (fun hc198 => absurd (rfl : v1 = v1) hc198) (fun hc198 => ?_)
        refine OGo.iconst K (pc' := 202) (z := 1) at_201 rfl rfl ?_
        refine OGo.goto K (pc' := 206) at_202 (by decide) rfl ?_
        exact J206
    refine OGo.istore K (pc' := 208) (Ls' := #[.val (.int v0), .val (.int v1), .val (.int v2), .val (.int v3), .val (.int v4), .val (.int v5), .val (.int (Int32.ofNat R)), .val (.int f7), .val (.int (Int32.ofNat C)), .val (.int (Int32.ofNat t1)), .val (.int (Int32.ofNat t2)), .val (.ref a), .val (.ref y0), .val (.ref y1), .val (.int (Int32.ofNat 0)), .val (.int (Int32.ofNat 1)), .val (.int (Int32.ofNat 1)), .val (.int (Int32.ofNat 0)), .val (.int (1 : Int32)), .val (.int (1 : Int32)), .val (.int (1 : Int32)), .unset, .unset]) at_206 rfl rfl ?_
    refine OGo.aload K (pc' := 210) at_208 rfl rfl rfl ?_
    refine OGo.iload K (pc' := 212) at_210 rfl rfl ?_
    refine OGo.iload K (pc' := 214) at_212 rfl rfl ?_
    refine OGo.iload K (pc' := 216) at_214 rfl rfl ?_
    refine OGo.callVN K (pc' := 219) (y := (⟨"com/example/centroute/centroute/median/TupleIndex", "set", "(III)V"⟩ : MethodName)) (z := (⟨"com/example/centroute/centroute/median/TupleIndex", "set", "(III)V"⟩ : MethodName)) (a := a) (W := 0) (cells' := 10) (slots' := 109) (argsL := [(.int (Int32.ofNat 0)), (.int (Int32.ofNat t2)), (.int v4)]) (st := []) O9.1 (hw _ (List.mem_of_getElem? (i := 71) rfl)) (hw _ (List.mem_of_getElem? (i := 72) rfl)) (notFace_of_selects (args := #[]) (mvT K.hZ (hw _ (List.mem_of_getElem? (i := 74) rfl)))) (hw _ (List.mem_of_getElem? (i := 74) rfl)) (hw _ (List.mem_of_getElem? (i := 73) rfl)) (hw _ (List.mem_of_getElem? (i := 3) rfl)) (hw _ (List.mem_of_getElem? (i := 75) rfl)) (by decide) (own_rm13 l Z a0 hw a xk2 xr2 xs R C2 (4 * own_hb C) (1 + 1) v1 (rv2.set (1 * R + t1) (.int v3)) (((List.replicate (4 * own_hb C) (.int 0)).set (own_h v2 (4 * own_hb C)) (.int (Int32.ofNat (0 + 1)))).set (own_h (v2 ^^^ (1 : Int32)) (4 * own_hb C)) (.int (Int32.ofNat (1 + 1)))) 0 t2 v4 h9 n0 Z9 O9 (by omega) ht2) at_216 rfl rfl (lenOf own_pd6 rfl) (by show 2 * 0 + _ ≤ _; exact Nat.le_of_eq rfl) (by decide) (by decide) rfl rfl (by decide) (by decide) ?_
    rintro h13 ⟨O13, K13⟩
    have Z13 : n0 ≤ h13.size := Nat.le_trans Z9 K13.1
    refine OGo.aload K (pc' := 221) at_219 rfl rfl rfl ?_
    refine OGo.iload K (pc' := 223) at_221 rfl rfl ?_
    refine OGo.iload K (pc' := 225) at_223 rfl rfl ?_
    refine OGo.callVV K (pc' := 228) (y := (⟨"com/example/centroute/centroute/median/TupleIndex", "get", "(II)I"⟩ : MethodName)) (z := (⟨"com/example/centroute/centroute/median/TupleIndex", "get", "(II)I"⟩ : MethodName)) (a := a) (W := 0) (cells' := 10) (slots' := 109) (argsL := [(.int (Int32.ofNat 0)), (.int (Int32.ofNat t2))]) (st := []) O13.1 (hw _ (List.mem_of_getElem? (i := 76) rfl)) (hw _ (List.mem_of_getElem? (i := 77) rfl)) (notFace_of_selects (args := #[]) (mvT K.hZ (hw _ (List.mem_of_getElem? (i := 79) rfl)))) (hw _ (List.mem_of_getElem? (i := 79) rfl)) (hw _ (List.mem_of_getElem? (i := 78) rfl)) (hw _ (List.mem_of_getElem? (i := 3) rfl)) (hw _ (List.mem_of_getElem? (i := 80) rfl)) (by decide) (own_rm14 l Z a0 hw a xk2 xr2 xs R C2 (4 * own_hb C) (1 + 1) v1 ((rv2.set (1 * R + t1) (.int v3)).set (0 * R + t2) (.int v4)) (((List.replicate (4 * own_hb C) (.int 0)).set (own_h v2 (4 * own_hb C)) (.int (Int32.ofNat (0 + 1)))).set (own_h (v2 ^^^ (1 : Int32)) (4 * own_hb C)) (.int (Int32.ofNat (1 + 1)))) 0 t2 v4 h13 n0 Z13 O13 (by omega) ht2 (by rw [own_set_eq (by rw [List.length_set]; omega)])) at_225 rfl rfl (lenOf own_pd2 rfl) (by show 2 * 0 + _ ≤ _; exact Nat.le_of_eq rfl) (by decide) (by decide) rfl rfl (by decide) (by decide) ?_
    rintro _ h14 ⟨rfl, e14⟩
    rw [e14]
    show OGo p l e _ s m _ below meth c n0 _ h13 10 109 228 #[.val (.int v0), .val (.int v1), .val (.int v2), .val (.int v3), .val (.int v4), .val (.int v5), .val (.int (Int32.ofNat R)), .val (.int f7), .val (.int (Int32.ofNat C)), .val (.int (Int32.ofNat t1)), .val (.int (Int32.ofNat t2)), .val (.ref a), .val (.ref y0), .val (.ref y1), .val (.int (Int32.ofNat 0)), .val (.int (Int32.ofNat 1)), .val (.int (Int32.ofNat 1)), .val (.int (Int32.ofNat 0)), .val (.int (1 : Int32)), .val (.int (1 : Int32)), .val (.int (1 : Int32)), .unset, .unset] [(.int v4)]
    refine OGo.iload K (pc' := 230) at_228 rfl rfl ?_
    refine OGo.icmpNe K (pc' := 233) (pcY := 237) at_230 rfl (by decide) rfl (fun hc230 => absurd (rfl : v4 = v4) hc230) (fun hc230 => ?_)
    refine OGo.iconst K (pc' := 234) (z := 1) at_233 rfl rfl ?_
    refine OGo.goto K (pc' := 238) at_234 (by decide) rfl ?_
    refine OGo.istore K (pc' := 240) (Ls' := #[.val (.int v0), .val (.int v1), .val (.int v2), .val (.int v3), .val (.int v4), .val (.int v5), .val (.int (Int32.ofNat R)), .val (.int f7), .val (.int (Int32.ofNat C)), .val (.int (Int32.ofNat t1)), .val (.int (Int32.ofNat t2)), .val (.ref a), .val (.ref y0), .val (.ref y1), .val (.int (Int32.ofNat 0)), .val (.int (Int32.ofNat 1)), .val (.int (Int32.ofNat 1)), .val (.int (Int32.ofNat 0)), .val (.int (1 : Int32)), .val (.int (1 : Int32)), .val (.int (1 : Int32)), .val (.int (1 : Int32)), .unset]) at_238 rfl rfl ?_
    refine OGo.aload K (pc' := 242) at_240 rfl rfl rfl ?_
    refine OGo.iload K (pc' := 244) at_242 rfl rfl ?_
    refine OGo.iload K (pc' := 246) at_244 rfl rfl ?_
    refine OGo.callVV K (pc' := 249) (y := (⟨"com/example/centroute/centroute/median/TupleIndex", "get", "(II)I"⟩ : MethodName)) (z := (⟨"com/example/centroute/centroute/median/TupleIndex", "get", "(II)I"⟩ : MethodName)) (a := a) (W := 0) (cells' := 10) (slots' := 109) (argsL := [(.int (Int32.ofNat 1)), (.int (Int32.ofNat t1))]) (st := []) O13.1 (hw _ (List.mem_of_getElem? (i := 76) rfl)) (hw _ (List.mem_of_getElem? (i := 77) rfl)) (notFace_of_selects (args := #[]) (mvT K.hZ (hw _ (List.mem_of_getElem? (i := 79) rfl)))) (hw _ (List.mem_of_getElem? (i := 79) rfl)) (hw _ (List.mem_of_getElem? (i := 78) rfl)) (hw _ (List.mem_of_getElem? (i := 3) rfl)) (hw _ (List.mem_of_getElem? (i := 80) rfl)) (by decide) (own_rm14 l Z a0 hw a xk2 xr2 xs R C2 (4 * own_hb C) (1 + 1) v1 ((rv2.set (1 * R + t1) (.int v3)).set (0 * R + t2) (.int v4)) (((List.replicate (4 * own_hb C) (.int 0)).set (own_h v2 (4 * own_hb C)) (.int (Int32.ofNat (0 + 1)))).set (own_h (v2 ^^^ (1 : Int32)) (4 * own_hb C)) (.int (Int32.ofNat (1 + 1)))) 1 t1 v3 h13 n0 Z13 O13 (by omega) ht1 (by rw [own_set_ne (by omega), own_set_eq (by omega)])) at_246 rfl rfl (lenOf own_pd2 rfl) (by show 2 * 0 + _ ≤ _; exact Nat.le_of_eq rfl) (by decide) (by decide) rfl rfl (by decide) (by decide) ?_
    rintro _ h15 ⟨rfl, e15⟩
    rw [e15]
    show OGo p l e _ s m _ below meth c n0 _ h13 10 109 249 #[.val (.int v0), .val (.int v1), .val (.int v2), .val (.int v3), .val (.int v4), .val (.int v5), .val (.int (Int32.ofNat R)), .val (.int f7), .val (.int (Int32.ofNat C)), .val (.int (Int32.ofNat t1)), .val (.int (Int32.ofNat t2)), .val (.ref a), .val (.ref y0), .val (.ref y1), .val (.int (Int32.ofNat 0)), .val (.int (Int32.ofNat 1)), .val (.int (Int32.ofNat 1)), .val (.int (Int32.ofNat 0)), .val (.int (1 : Int32)), .val (.int (1 : Int32)), .val (.int (1 : Int32)), .val (.int (1 : Int32)), .unset] [(.int v3)]
    refine OGo.iloadN K (pc' := 250) at_249 rfl rfl ?_
    refine OGo.icmpNe K (pc' := 253) (pcY := 257) at_250 rfl (by decide) rfl (fun hc250 => absurd (rfl : v3 = v3) hc250) (fun hc250 => ?_)
    refine OGo.iconst K (pc' := 254) (z := 1) at_253 rfl rfl ?_
    refine OGo.goto K (pc' := 258) at_254 (by decide) rfl ?_
    refine OGo.istore K (pc' := 260) (Ls' := #[.val (.int v0), .val (.int v1), .val (.int v2), .val (.int v3), .val (.int v4), .val (.int v5), .val (.int (Int32.ofNat R)), .val (.int f7), .val (.int (Int32.ofNat C)), .val (.int (Int32.ofNat t1)), .val (.int (Int32.ofNat t2)), .val (.ref a), .val (.ref y0), .val (.ref y1), .val (.int (Int32.ofNat 0)), .val (.int (Int32.ofNat 1)), .val (.int (Int32.ofNat 1)), .val (.int (Int32.ofNat 0)), .val (.int (1 : Int32)), .val (.int (1 : Int32)), .val (.int (1 : Int32)), .val (.int (1 : Int32)), .val (.int (1 : Int32))]) at_258 rfl rfl ?_
    refine OGo.iload K (pc' := 262) at_260 rfl rfl ?_
    refine OGo.ifEq K (pc' := 265) (pcY := 289) at_262 rfl (by decide) rfl (fun hc262 => absurd hc262 (by decide : ¬ (1 : Int32) = (0 : Int32))) (fun hc262 => ?_)
    refine OGo.iload K (pc' := 267) at_265 rfl rfl ?_
    refine OGo.ifEq K (pc' := 270) (pcY := 289) at_267 rfl (by decide) rfl (fun hc267 => absurd hc267 (by decide : ¬ (1 : Int32) = (0 : Int32))) (fun hc267 => ?_)
    refine OGo.iload K (pc' := 272) at_270 rfl rfl ?_
    refine OGo.ifEq K (pc' := 275) (pcY := 289) at_272 rfl (by decide) rfl (fun hc272 => absurd hc272 (by decide : ¬ (1 : Int32) = (0 : Int32))) (fun hc272 => ?_)
    refine OGo.iload K (pc' := 277) at_275 rfl rfl ?_
    refine OGo.ifEq K (pc' := 280) (pcY := 289) at_277 rfl (by decide) rfl (fun hc277 => absurd hc277 (by decide : ¬ (1 : Int32) = (0 : Int32))) (fun hc277 => ?_)
    refine OGo.iload K (pc' := 282) at_280 rfl rfl ?_
    refine OGo.ifEq K (pc' := 285) (pcY := 289) at_282 rfl (by decide) rfl (fun hc282 => absurd hc282 (by decide : ¬ (1 : Int32) = (0 : Int32))) (fun hc282 => ?_)
    refine OGo.iconst K (pc' := 286) (z := 1) at_285 rfl rfl ?_
    refine OGo.goto K (pc' := 290) at_286 (by decide) rfl ?_
    exact OGo.ret K at_290 rfl (Or.inl ⟨rfl, by simp, _, rfl⟩) (by decide) (by decide) ⟨_, rfl, rfl⟩
  · skip
    refine OGo.iload K (pc' := 110) at_108 rfl rfl ?_
    refine OGo.goto K (pc' := 115) at_110 (by decide) rfl ?_
    refine OGo.istore K (pc' := 117) (Ls' := #[.val (.int v0), .val (.int v1), .val (.int v2), .val (.int v3), .val (.int v4), .val (.int v5), .val (.int (Int32.ofNat R)), .val (.int f7), .val (.int (Int32.ofNat C)), .val (.int (Int32.ofNat t1)), .val (.int (Int32.ofNat t2)), .val (.ref a), .val (.ref y0), .val (.ref y1), .val (.int (Int32.ofNat 0)), .val (.int (Int32.ofNat 1)), .val (.int (Int32.ofNat 0)), .unset, .unset, .unset, .unset, .unset, .unset]) at_115 rfl rfl ?_
    refine OGo.iload K (pc' := 119) at_117 rfl rfl ?_
    refine OGo.ifEq K (pc' := 122) (pcY := 127) at_119 rfl (by decide) rfl (fun hc119 => absurd hc119 (hf7 : ¬ f7 = (0 : Int32))) (fun hc119 => ?_)
    refine OGo.iload K (pc' := 124) at_122 rfl rfl ?_
    refine OGo.goto K (pc' := 129) at_124 (by decide) rfl ?_
    refine OGo.istore K (pc' := 131) (Ls' := #[.val (.int v0), .val (.int v1), .val (.int v2), .val (.int v3), .val (.int v4), .val (.int v5), .val (.int (Int32.ofNat R)), .val (.int f7), .val (.int (Int32.ofNat C)), .val (.int (Int32.ofNat t1)), .val (.int (Int32.ofNat t2)), .val (.ref a), .val (.ref y0), .val (.ref y1), .val (.int (Int32.ofNat 0)), .val (.int (Int32.ofNat 1)), .val (.int (Int32.ofNat 0)), .val (.int (Int32.ofNat 1)), .unset, .unset, .unset, .unset, .unset]) at_129 rfl rfl ?_
    refine OGo.aload K (pc' := 133) at_131 rfl rfl rfl ?_
    refine OGo.iload K (pc' := 135) at_133 rfl rfl ?_
    refine OGo.iload K (pc' := 137) at_135 rfl rfl ?_
    refine OGo.iloadN K (pc' := 138) at_137 rfl rfl ?_
    have l2 : rv2.length = C2 * R := by obtain ⟨-, -, -, -, -, -, -, -, -, ⟨_, -, q⟩, -⟩ := O8; exact q
    have hm : 2 * R ≤ C2 * R := Nat.mul_le_mul_right R hC2
    refine OGo.callVN K (pc' := 141) (y := (⟨"com/example/centroute/centroute/median/TupleIndex", "set", "(III)V"⟩ : MethodName)) (z := (⟨"com/example/centroute/centroute/median/TupleIndex", "set", "(III)V"⟩ : MethodName)) (a := a) (W := 0) (cells' := 10) (slots' := 109) (argsL := [(.int (Int32.ofNat 0)), (.int (Int32.ofNat t1)), (.int v3)]) (st := []) O8.1 (hw _ (List.mem_of_getElem? (i := 71) rfl)) (hw _ (List.mem_of_getElem? (i := 72) rfl)) (notFace_of_selects (args := #[]) (mvT K.hZ (hw _ (List.mem_of_getElem? (i := 74) rfl)))) (hw _ (List.mem_of_getElem? (i := 74) rfl)) (hw _ (List.mem_of_getElem? (i := 73) rfl)) (hw _ (List.mem_of_getElem? (i := 3) rfl)) (hw _ (List.mem_of_getElem? (i := 75) rfl)) (by decide) (own_rm13 l Z a0 hw a xk2 xr2 xs R C2 (4 * own_hb C) (1 + 1) v1 rv2 (((List.replicate (4 * own_hb C) (.int 0)).set (own_h v2 (4 * own_hb C)) (.int (Int32.ofNat (0 + 1)))).set (own_h (v2 ^^^ (1 : Int32)) (4 * own_hb C)) (.int (Int32.ofNat (1 + 1)))) 0 t1 v3 h8 n0 Z8 O8 (by omega) ht1) at_138 rfl rfl (lenOf own_pd6 rfl) (by show 2 * 0 + _ ≤ _; exact Nat.le_of_eq rfl) (by decide) (by decide) rfl rfl (by decide) (by decide) ?_
    rintro h16 ⟨O16, K16⟩
    have Z16 : n0 ≤ h16.size := Nat.le_trans Z8 K16.1
    refine OGo.aload K (pc' := 143) at_141 rfl rfl rfl ?_
    refine OGo.iload K (pc' := 145) at_143 rfl rfl ?_
    refine OGo.iload K (pc' := 147) at_145 rfl rfl ?_
    refine OGo.callVV K (pc' := 150) (y := (⟨"com/example/centroute/centroute/median/TupleIndex", "get", "(II)I"⟩ : MethodName)) (z := (⟨"com/example/centroute/centroute/median/TupleIndex", "get", "(II)I"⟩ : MethodName)) (a := a) (W := 0) (cells' := 10) (slots' := 109) (argsL := [(.int (Int32.ofNat 0)), (.int (Int32.ofNat t1))]) (st := []) O16.1 (hw _ (List.mem_of_getElem? (i := 76) rfl)) (hw _ (List.mem_of_getElem? (i := 77) rfl)) (notFace_of_selects (args := #[]) (mvT K.hZ (hw _ (List.mem_of_getElem? (i := 79) rfl)))) (hw _ (List.mem_of_getElem? (i := 79) rfl)) (hw _ (List.mem_of_getElem? (i := 78) rfl)) (hw _ (List.mem_of_getElem? (i := 3) rfl)) (hw _ (List.mem_of_getElem? (i := 80) rfl)) (by decide) (own_rm14 l Z a0 hw a xk2 xr2 xs R C2 (4 * own_hb C) (1 + 1) v1 (rv2.set (0 * R + t1) (.int v3)) (((List.replicate (4 * own_hb C) (.int 0)).set (own_h v2 (4 * own_hb C)) (.int (Int32.ofNat (0 + 1)))).set (own_h (v2 ^^^ (1 : Int32)) (4 * own_hb C)) (.int (Int32.ofNat (1 + 1)))) 0 t1 v3 h16 n0 Z16 O16 (by omega) ht1 (by rw [own_set_eq (by omega)])) at_147 rfl rfl (lenOf own_pd2 rfl) (by show 2 * 0 + _ ≤ _; exact Nat.le_of_eq rfl) (by decide) (by decide) rfl rfl (by decide) (by decide) ?_
    rintro _ h17 ⟨rfl, e17⟩
    rw [e17]
    show OGo p l e _ s m _ below meth c n0 _ h16 10 109 150 #[.val (.int v0), .val (.int v1), .val (.int v2), .val (.int v3), .val (.int v4), .val (.int v5), .val (.int (Int32.ofNat R)), .val (.int f7), .val (.int (Int32.ofNat C)), .val (.int (Int32.ofNat t1)), .val (.int (Int32.ofNat t2)), .val (.ref a), .val (.ref y0), .val (.ref y1), .val (.int (Int32.ofNat 0)), .val (.int (Int32.ofNat 1)), .val (.int (Int32.ofNat 0)), .val (.int (Int32.ofNat 1)), .unset, .unset, .unset, .unset, .unset] [(.int v3)]
    refine OGo.iloadN K (pc' := 151) at_150 rfl rfl ?_
    refine OGo.icmpNe K (pc' := 154) (pcY := 158) at_151 rfl (by decide) rfl (fun hc151 => absurd (rfl : v3 = v3) hc151) (fun hc151 => ?_)
    refine OGo.iconst K (pc' := 155) (z := 1) at_154 rfl rfl ?_
    refine OGo.goto K (pc' := 159) at_155 (by decide) rfl ?_
    refine OGo.istore K (pc' := 161) (Ls' := #[.val (.int v0), .val (.int v1), .val (.int v2), .val (.int v3), .val (.int v4), .val (.int v5), .val (.int (Int32.ofNat R)), .val (.int f7), .val (.int (Int32.ofNat C)), .val (.int (Int32.ofNat t1)), .val (.int (Int32.ofNat t2)), .val (.ref a), .val (.ref y0), .val (.ref y1), .val (.int (Int32.ofNat 0)), .val (.int (Int32.ofNat 1)), .val (.int (Int32.ofNat 0)), .val (.int (Int32.ofNat 1)), .val (.int (1 : Int32)), .unset, .unset, .unset, .unset]) at_159 rfl rfl ?_
    refine OGo.aload K (pc' := 163) at_161 rfl rfl rfl ?_
    refine OGo.iload K (pc' := 165) at_163 rfl rfl ?_
    refine OGo.iload K (pc' := 167) at_165 rfl rfl ?_
    refine OGo.callVV K (pc' := 170) (y := (⟨"com/example/centroute/centroute/median/TupleIndex", "get", "(II)I"⟩ : MethodName)) (z := (⟨"com/example/centroute/centroute/median/TupleIndex", "get", "(II)I"⟩ : MethodName)) (a := a) (W := 0) (cells' := 10) (slots' := 109) (argsL := [(.int (Int32.ofNat 1)), (.int (Int32.ofNat t1))]) (st := []) O16.1 (hw _ (List.mem_of_getElem? (i := 76) rfl)) (hw _ (List.mem_of_getElem? (i := 77) rfl)) (notFace_of_selects (args := #[]) (mvT K.hZ (hw _ (List.mem_of_getElem? (i := 79) rfl)))) (hw _ (List.mem_of_getElem? (i := 79) rfl)) (hw _ (List.mem_of_getElem? (i := 78) rfl)) (hw _ (List.mem_of_getElem? (i := 3) rfl)) (hw _ (List.mem_of_getElem? (i := 80) rfl)) (by decide) (own_rm14 l Z a0 hw a xk2 xr2 xs R C2 (4 * own_hb C) (1 + 1) v1 (rv2.set (0 * R + t1) (.int v3)) (((List.replicate (4 * own_hb C) (.int 0)).set (own_h v2 (4 * own_hb C)) (.int (Int32.ofNat (0 + 1)))).set (own_h (v2 ^^^ (1 : Int32)) (4 * own_hb C)) (.int (Int32.ofNat (1 + 1)))) 1 t1 v1 h16 n0 Z16 O16 (by omega) ht1 (by rw [own_set_ne (by omega)]; exact fl2 _ (by omega))) at_167 rfl rfl (lenOf own_pd2 rfl) (by show 2 * 0 + _ ≤ _; exact Nat.le_of_eq rfl) (by decide) (by decide) rfl rfl (by decide) (by decide) ?_
    rintro _ h18 ⟨rfl, e18⟩
    rw [e18]
    show OGo p l e _ s m _ below meth c n0 _ h16 10 109 170 #[.val (.int v0), .val (.int v1), .val (.int v2), .val (.int v3), .val (.int v4), .val (.int v5), .val (.int (Int32.ofNat R)), .val (.int f7), .val (.int (Int32.ofNat C)), .val (.int (Int32.ofNat t1)), .val (.int (Int32.ofNat t2)), .val (.ref a), .val (.ref y0), .val (.ref y1), .val (.int (Int32.ofNat 0)), .val (.int (Int32.ofNat 1)), .val (.int (Int32.ofNat 0)), .val (.int (Int32.ofNat 1)), .val (.int (1 : Int32)), .unset, .unset, .unset, .unset] [(.int v1)]
    refine OGo.iloadN K (pc' := 171) at_170 rfl rfl ?_
    refine OGo.icmpNe K (pc' := 174) (pcY := 178) at_171 rfl (by decide) rfl (fun hc171 => absurd (rfl : v1 = v1) hc171) (fun hc171 => ?_)
    refine OGo.iconst K (pc' := 175) (z := 1) at_174 rfl rfl ?_
    refine OGo.goto K (pc' := 179) at_175 (by decide) rfl ?_
    refine OGo.istore K (pc' := 181) (Ls' := #[.val (.int v0), .val (.int v1), .val (.int v2), .val (.int v3), .val (.int v4), .val (.int v5), .val (.int (Int32.ofNat R)), .val (.int f7), .val (.int (Int32.ofNat C)), .val (.int (Int32.ofNat t1)), .val (.int (Int32.ofNat t2)), .val (.ref a), .val (.ref y0), .val (.ref y1), .val (.int (Int32.ofNat 0)), .val (.int (Int32.ofNat 1)), .val (.int (Int32.ofNat 0)), .val (.int (Int32.ofNat 1)), .val (.int (1 : Int32)), .val (.int (1 : Int32)), .unset, .unset, .unset]) at_179 rfl rfl ?_
    refine OGo.iload K (pc' := 183) at_181 rfl rfl ?_
    refine OGo.iload K (pc' := 185) at_183 rfl rfl ?_
    suffices J206 : OGo p l e room_1 s m #[(.int v0), (.int v1), (.int v2), (.int v3), (.int v4), (.int v5)] below meth c n0 (OV fun w h => w = .int 1) h16 10 109 206 #[.val (.int v0), .val (.int v1), .val (.int v2), .val (.int v3), .val (.int v4), .val (.int v5), .val (.int (Int32.ofNat R)), .val (.int f7), .val (.int (Int32.ofNat C)), .val (.int (Int32.ofNat t1)), .val (.int (Int32.ofNat t2)), .val (.ref a), .val (.ref y0), .val (.ref y1), .val (.int (Int32.ofNat 0)), .val (.int (Int32.ofNat 1)), .val (.int (Int32.ofNat 0)), .val (.int (Int32.ofNat 1)), .val (.int (1 : Int32)), .val (.int (1 : Int32)), .unset, .unset, .unset] [(.int (1 : Int32))] by
      refine OGo.icmpEq K (pc' := 188) (pcY := 201) at_185 rfl (by decide) rfl (fun ht => ?_) (fun ht => ?_)
      · skip
        refine OGo.iconst K (pc' := 202) (z := 1) at_201 rfl rfl ?_
        refine OGo.goto K (pc' := 206) at_202 (by decide) rfl ?_
        exact J206
      · skip
        have nt : t2 ≠ t1 := fun q => ht (by rw [q])
        refine OGo.aload K (pc' := 190) at_188 rfl rfl rfl ?_
        refine OGo.iload K (pc' := 192) at_190 rfl rfl ?_
        refine OGo.iload K (pc' := 194) at_192 rfl rfl ?_
        refine OGo.callVV K (pc' := 197) (y := (⟨"com/example/centroute/centroute/median/TupleIndex", "get", "(II)I"⟩ : MethodName)) (z := (⟨"com/example/centroute/centroute/median/TupleIndex", "get", "(II)I"⟩ : MethodName)) (a := a) (W := 0) (cells' := 10) (slots' := 109) (argsL := [(.int (Int32.ofNat 0)), (.int (Int32.ofNat t2))]) (st := []) O16.1 (hw _ (List.mem_of_getElem? (i := 76) rfl)) (hw _ (List.mem_of_getElem? (i := 77) rfl)) (notFace_of_selects (args := #[]) (mvT K.hZ (hw _ (List.mem_of_getElem? (i := 79) rfl)))) (hw _ (List.mem_of_getElem? (i := 79) rfl)) (hw _ (List.mem_of_getElem? (i := 78) rfl)) (hw _ (List.mem_of_getElem? (i := 3) rfl)) (hw _ (List.mem_of_getElem? (i := 80) rfl)) (by decide) (own_rm14 l Z a0 hw a xk2 xr2 xs R C2 (4 * own_hb C) (1 + 1) v1 (rv2.set (0 * R + t1) (.int v3)) (((List.replicate (4 * own_hb C) (.int 0)).set (own_h v2 (4 * own_hb C)) (.int (Int32.ofNat (0 + 1)))).set (own_h (v2 ^^^ (1 : Int32)) (4 * own_hb C)) (.int (Int32.ofNat (1 + 1)))) 0 t2 v1 h16 n0 Z16 O16 (by omega) ht2 (by rw [own_set_ne (by omega)]; exact fl2 _ (by omega))) at_194 rfl rfl (lenOf own_pd2 rfl) (by show 2 * 0 + _ ≤ _; exact Nat.le_of_eq rfl) (by decide) (by decide) rfl rfl (by decide) (by decide) ?_
        rintro _ h19 ⟨rfl, e19⟩
        rw [e19]
        show OGo p l e _ s m _ below meth c n0 _ h16 10 109 197 #[.val (.int v0), .val (.int v1), .val (.int v2), .val (.int v3), .val (.int v4), .val (.int v5), .val (.int (Int32.ofNat R)), .val (.int f7), .val (.int (Int32.ofNat C)), .val (.int (Int32.ofNat t1)), .val (.int (Int32.ofNat t2)), .val (.ref a), .val (.ref y0), .val (.ref y1), .val (.int (Int32.ofNat 0)), .val (.int (Int32.ofNat 1)), .val (.int (Int32.ofNat 0)), .val (.int (Int32.ofNat 1)), .val (.int (1 : Int32)), .val (.int (1 : Int32)), .unset, .unset, .unset] [(.int v1)]
        refine OGo.iloadN K (pc' := 198) at_197 rfl rfl ?_
        refine OGo.icmpNe K (pc' := 201) (pcY := 205) at_198 rfl (by decide) rfl (fun hc198 => absurd (rfl : v1 = v1) hc198) (fun hc198 => ?_)
        refine OGo.iconst K (pc' := 202) (z := 1) at_201 rfl rfl ?_
        refine OGo.goto K (pc' := 206) at_202 (by decide) rfl ?_
        exact J206
    refine OGo.istore K (pc' := 208) (Ls' := #[.val (.int v0), .val (.int v1), .val (.int v2), .val (.int v3), .val (.int v4), .val (.int v5), .val (.int (Int32.ofNat R)), .val (.int f7), .val (.int (Int32.ofNat C)), .val (.int (Int32.ofNat t1)), .val (.int (Int32.ofNat t2)), .val (.ref a), .val (.ref y0), .val (.ref y1), .val (.int (Int32.ofNat 0)), .val (.int (Int32.ofNat 1)), .val (.int (Int32.ofNat 0)), .val (.int (Int32.ofNat 1)), .val (.int (1 : Int32)), .val (.int (1 : Int32)), .val (.int (1 : Int32)), .unset, .unset]) at_206 rfl rfl ?_
    refine OGo.aload K (pc' := 210) at_208 rfl rfl rfl ?_
    refine OGo.iload K (pc' := 212) at_210 rfl rfl ?_
    refine OGo.iload K (pc' := 214) at_212 rfl rfl ?_
    refine OGo.iload K (pc' := 216) at_214 rfl rfl ?_
    refine OGo.callVN K (pc' := 219) (y := (⟨"com/example/centroute/centroute/median/TupleIndex", "set", "(III)V"⟩ : MethodName)) (z := (⟨"com/example/centroute/centroute/median/TupleIndex", "set", "(III)V"⟩ : MethodName)) (a := a) (W := 0) (cells' := 10) (slots' := 109) (argsL := [(.int (Int32.ofNat 1)), (.int (Int32.ofNat t2)), (.int v4)]) (st := []) O16.1 (hw _ (List.mem_of_getElem? (i := 71) rfl)) (hw _ (List.mem_of_getElem? (i := 72) rfl)) (notFace_of_selects (args := #[]) (mvT K.hZ (hw _ (List.mem_of_getElem? (i := 74) rfl)))) (hw _ (List.mem_of_getElem? (i := 74) rfl)) (hw _ (List.mem_of_getElem? (i := 73) rfl)) (hw _ (List.mem_of_getElem? (i := 3) rfl)) (hw _ (List.mem_of_getElem? (i := 75) rfl)) (by decide) (own_rm13 l Z a0 hw a xk2 xr2 xs R C2 (4 * own_hb C) (1 + 1) v1 (rv2.set (0 * R + t1) (.int v3)) (((List.replicate (4 * own_hb C) (.int 0)).set (own_h v2 (4 * own_hb C)) (.int (Int32.ofNat (0 + 1)))).set (own_h (v2 ^^^ (1 : Int32)) (4 * own_hb C)) (.int (Int32.ofNat (1 + 1)))) 1 t2 v4 h16 n0 Z16 O16 (by omega) ht2) at_216 rfl rfl (lenOf own_pd6 rfl) (by show 2 * 0 + _ ≤ _; exact Nat.le_of_eq rfl) (by decide) (by decide) rfl rfl (by decide) (by decide) ?_
    rintro h20 ⟨O20, K20⟩
    have Z20 : n0 ≤ h20.size := Nat.le_trans Z16 K20.1
    refine OGo.aload K (pc' := 221) at_219 rfl rfl rfl ?_
    refine OGo.iload K (pc' := 223) at_221 rfl rfl ?_
    refine OGo.iload K (pc' := 225) at_223 rfl rfl ?_
    refine OGo.callVV K (pc' := 228) (y := (⟨"com/example/centroute/centroute/median/TupleIndex", "get", "(II)I"⟩ : MethodName)) (z := (⟨"com/example/centroute/centroute/median/TupleIndex", "get", "(II)I"⟩ : MethodName)) (a := a) (W := 0) (cells' := 10) (slots' := 109) (argsL := [(.int (Int32.ofNat 1)), (.int (Int32.ofNat t2))]) (st := []) O20.1 (hw _ (List.mem_of_getElem? (i := 76) rfl)) (hw _ (List.mem_of_getElem? (i := 77) rfl)) (notFace_of_selects (args := #[]) (mvT K.hZ (hw _ (List.mem_of_getElem? (i := 79) rfl)))) (hw _ (List.mem_of_getElem? (i := 79) rfl)) (hw _ (List.mem_of_getElem? (i := 78) rfl)) (hw _ (List.mem_of_getElem? (i := 3) rfl)) (hw _ (List.mem_of_getElem? (i := 80) rfl)) (by decide) (own_rm14 l Z a0 hw a xk2 xr2 xs R C2 (4 * own_hb C) (1 + 1) v1 ((rv2.set (0 * R + t1) (.int v3)).set (1 * R + t2) (.int v4)) (((List.replicate (4 * own_hb C) (.int 0)).set (own_h v2 (4 * own_hb C)) (.int (Int32.ofNat (0 + 1)))).set (own_h (v2 ^^^ (1 : Int32)) (4 * own_hb C)) (.int (Int32.ofNat (1 + 1)))) 1 t2 v4 h20 n0 Z20 O20 (by omega) ht2 (by rw [own_set_eq (by rw [List.length_set]; omega)])) at_225 rfl rfl (lenOf own_pd2 rfl) (by show 2 * 0 + _ ≤ _; exact Nat.le_of_eq rfl) (by decide) (by decide) rfl rfl (by decide) (by decide) ?_
    rintro _ h21 ⟨rfl, e21⟩
    rw [e21]
    show OGo p l e _ s m _ below meth c n0 _ h20 10 109 228 #[.val (.int v0), .val (.int v1), .val (.int v2), .val (.int v3), .val (.int v4), .val (.int v5), .val (.int (Int32.ofNat R)), .val (.int f7), .val (.int (Int32.ofNat C)), .val (.int (Int32.ofNat t1)), .val (.int (Int32.ofNat t2)), .val (.ref a), .val (.ref y0), .val (.ref y1), .val (.int (Int32.ofNat 0)), .val (.int (Int32.ofNat 1)), .val (.int (Int32.ofNat 0)), .val (.int (Int32.ofNat 1)), .val (.int (1 : Int32)), .val (.int (1 : Int32)), .val (.int (1 : Int32)), .unset, .unset] [(.int v4)]
    refine OGo.iload K (pc' := 230) at_228 rfl rfl ?_
    refine OGo.icmpNe K (pc' := 233) (pcY := 237) at_230 rfl (by decide) rfl (fun hc230 => absurd (rfl : v4 = v4) hc230) (fun hc230 => ?_)
    refine OGo.iconst K (pc' := 234) (z := 1) at_233 rfl rfl ?_
    refine OGo.goto K (pc' := 238) at_234 (by decide) rfl ?_
    refine OGo.istore K (pc' := 240) (Ls' := #[.val (.int v0), .val (.int v1), .val (.int v2), .val (.int v3), .val (.int v4), .val (.int v5), .val (.int (Int32.ofNat R)), .val (.int f7), .val (.int (Int32.ofNat C)), .val (.int (Int32.ofNat t1)), .val (.int (Int32.ofNat t2)), .val (.ref a), .val (.ref y0), .val (.ref y1), .val (.int (Int32.ofNat 0)), .val (.int (Int32.ofNat 1)), .val (.int (Int32.ofNat 0)), .val (.int (Int32.ofNat 1)), .val (.int (1 : Int32)), .val (.int (1 : Int32)), .val (.int (1 : Int32)), .val (.int (1 : Int32)), .unset]) at_238 rfl rfl ?_
    refine OGo.aload K (pc' := 242) at_240 rfl rfl rfl ?_
    refine OGo.iload K (pc' := 244) at_242 rfl rfl ?_
    refine OGo.iload K (pc' := 246) at_244 rfl rfl ?_
    refine OGo.callVV K (pc' := 249) (y := (⟨"com/example/centroute/centroute/median/TupleIndex", "get", "(II)I"⟩ : MethodName)) (z := (⟨"com/example/centroute/centroute/median/TupleIndex", "get", "(II)I"⟩ : MethodName)) (a := a) (W := 0) (cells' := 10) (slots' := 109) (argsL := [(.int (Int32.ofNat 0)), (.int (Int32.ofNat t1))]) (st := []) O20.1 (hw _ (List.mem_of_getElem? (i := 76) rfl)) (hw _ (List.mem_of_getElem? (i := 77) rfl)) (notFace_of_selects (args := #[]) (mvT K.hZ (hw _ (List.mem_of_getElem? (i := 79) rfl)))) (hw _ (List.mem_of_getElem? (i := 79) rfl)) (hw _ (List.mem_of_getElem? (i := 78) rfl)) (hw _ (List.mem_of_getElem? (i := 3) rfl)) (hw _ (List.mem_of_getElem? (i := 80) rfl)) (by decide) (own_rm14 l Z a0 hw a xk2 xr2 xs R C2 (4 * own_hb C) (1 + 1) v1 ((rv2.set (0 * R + t1) (.int v3)).set (1 * R + t2) (.int v4)) (((List.replicate (4 * own_hb C) (.int 0)).set (own_h v2 (4 * own_hb C)) (.int (Int32.ofNat (0 + 1)))).set (own_h (v2 ^^^ (1 : Int32)) (4 * own_hb C)) (.int (Int32.ofNat (1 + 1)))) 0 t1 v3 h20 n0 Z20 O20 (by omega) ht1 (by rw [own_set_ne (by omega), own_set_eq (by omega)])) at_246 rfl rfl (lenOf own_pd2 rfl) (by show 2 * 0 + _ ≤ _; exact Nat.le_of_eq rfl) (by decide) (by decide) rfl rfl (by decide) (by decide) ?_
    rintro _ h22 ⟨rfl, e22⟩
    rw [e22]
    show OGo p l e _ s m _ below meth c n0 _ h20 10 109 249 #[.val (.int v0), .val (.int v1), .val (.int v2), .val (.int v3), .val (.int v4), .val (.int v5), .val (.int (Int32.ofNat R)), .val (.int f7), .val (.int (Int32.ofNat C)), .val (.int (Int32.ofNat t1)), .val (.int (Int32.ofNat t2)), .val (.ref a), .val (.ref y0), .val (.ref y1), .val (.int (Int32.ofNat 0)), .val (.int (Int32.ofNat 1)), .val (.int (Int32.ofNat 0)), .val (.int (Int32.ofNat 1)), .val (.int (1 : Int32)), .val (.int (1 : Int32)), .val (.int (1 : Int32)), .val (.int (1 : Int32)), .unset] [(.int v3)]
    refine OGo.iloadN K (pc' := 250) at_249 rfl rfl ?_
    refine OGo.icmpNe K (pc' := 253) (pcY := 257) at_250 rfl (by decide) rfl (fun hc250 => absurd (rfl : v3 = v3) hc250) (fun hc250 => ?_)
    refine OGo.iconst K (pc' := 254) (z := 1) at_253 rfl rfl ?_
    refine OGo.goto K (pc' := 258) at_254 (by decide) rfl ?_
    refine OGo.istore K (pc' := 260) (Ls' := #[.val (.int v0), .val (.int v1), .val (.int v2), .val (.int v3), .val (.int v4), .val (.int v5), .val (.int (Int32.ofNat R)), .val (.int f7), .val (.int (Int32.ofNat C)), .val (.int (Int32.ofNat t1)), .val (.int (Int32.ofNat t2)), .val (.ref a), .val (.ref y0), .val (.ref y1), .val (.int (Int32.ofNat 0)), .val (.int (Int32.ofNat 1)), .val (.int (Int32.ofNat 0)), .val (.int (Int32.ofNat 1)), .val (.int (1 : Int32)), .val (.int (1 : Int32)), .val (.int (1 : Int32)), .val (.int (1 : Int32)), .val (.int (1 : Int32))]) at_258 rfl rfl ?_
    refine OGo.iload K (pc' := 262) at_260 rfl rfl ?_
    refine OGo.ifEq K (pc' := 265) (pcY := 289) at_262 rfl (by decide) rfl (fun hc262 => absurd hc262 (by decide : ¬ (1 : Int32) = (0 : Int32))) (fun hc262 => ?_)
    refine OGo.iload K (pc' := 267) at_265 rfl rfl ?_
    refine OGo.ifEq K (pc' := 270) (pcY := 289) at_267 rfl (by decide) rfl (fun hc267 => absurd hc267 (by decide : ¬ (1 : Int32) = (0 : Int32))) (fun hc267 => ?_)
    refine OGo.iload K (pc' := 272) at_270 rfl rfl ?_
    refine OGo.ifEq K (pc' := 275) (pcY := 289) at_272 rfl (by decide) rfl (fun hc272 => absurd hc272 (by decide : ¬ (1 : Int32) = (0 : Int32))) (fun hc272 => ?_)
    refine OGo.iload K (pc' := 277) at_275 rfl rfl ?_
    refine OGo.ifEq K (pc' := 280) (pcY := 289) at_277 rfl (by decide) rfl (fun hc277 => absurd hc277 (by decide : ¬ (1 : Int32) = (0 : Int32))) (fun hc277 => ?_)
    refine OGo.iload K (pc' := 282) at_280 rfl rfl ?_
    refine OGo.ifEq K (pc' := 285) (pcY := 289) at_282 rfl (by decide) rfl (fun hc282 => absurd hc282 (by decide : ¬ (1 : Int32) = (0 : Int32))) (fun hc282 => ?_)
    refine OGo.iconst K (pc' := 286) (z := 1) at_285 rfl rfl ?_
    refine OGo.goto K (pc' := 290) at_286 (by decide) rfl ?_
    exact OGo.ret K at_290 rfl (Or.inl ⟨rfl, by simp, _, rfl⟩) (by decide) (by decide) ⟨_, rfl, rfl⟩
set_option maxRecDepth 65536 in
set_option maxHeartbeats 40000000 in
theorem own_comes {Post : Tables → Env → Array Value → State → Outcome → State → Prop} (hpost : ∀ tb e args s v u, (limb_1_1.after args s (.returned v) u = true ∧ limb_1_2.after args s (.returned v) u = true ∧ True) → FrameEnd s (.returned v) u (Jvm.fieldLocs frame_1_writes args s ++ Jvm.arrayLocs frame_1_arrays args s ++ Jvm.staticLocs frame_1_statics s) 24 192 → Post tb e args s (.returned v) u) :
    ArmFor flags0 classFile x code maxLocals ret World_1 tables_1 room_1 Calls_1 rest_1 Pre_1 Post := by
  intro l hfl _ _ p e ha hc hk s m args below hf hA hF happ hP
  obtain ⟨hcalls, hrest, hpre⟩ := hP
  obtain ⟨-, -, -, hnamed, -, -, -, hat⟩ := (Spec.applies_iff hf).mp happ
  obtain ⟨hg, hn⟩ := and_e (Cond.before_iff.mp (show (Jvm.Cond.and given_1 narrow_1).before args s = true from hpre))
  obtain ⟨gg1, gg2⟩ := and_e hg
  obtain ⟨gg3, gg4⟩ := and_e gg2
  obtain ⟨gg5, gg6⟩ := and_e gg4
  obtain ⟨gg7, gg8⟩ := and_e gg6
  obtain ⟨gg9, gg10⟩ := and_e gg8
  obtain ⟨gg11, gg12⟩ := and_e gg10
  obtain ⟨w0, w1, w2, w3, w4, w5, rfl⟩ : ∃ w0 w1 w2 w3 w4 w5 : Value, args = #[w0, w1, w2, w3, w4, w5] := by
    have hs : args.size = 6 := by simpa [Cond.value, given_1] using gg1
    obtain ⟨L⟩ := args
    match L, hs with
    | [w0, w1, w2, w3, w4, w5], _ => exact ⟨w0, w1, w2, w3, w4, w5, rfl⟩
  have hw := fun d (hd : d ∈ tables_1) => atoms_spec (ws := Jvm.Cond.code x code maxLocals ret :: tables_1) hat d (List.mem_cons_of_mem _ hd)
  have hfit : Fit s := fun {y c} hc i hi => by
    obtain ⟨ha, rfl⟩ := Array.getElem?_eq_some_iff.mp hc
    have q := List.all_eq_true.mp ((Array.all_eq_true_iff_forall_mem.mp hF) _ (Array.getElem_mem ha)) i (List.mem_range.mpr hi)
    simpa [Array.getElem?_eq_getElem hi] using q
  obtain ⟨i0, ei0⟩ := is_v gg3
  obtain rfl : w0 = (.int i0) := Option.some.inj ei0
  obtain ⟨i1, ei1⟩ := is_v gg5
  obtain rfl : w1 = (.int i1) := Option.some.inj ei1
  obtain ⟨i2, ei2⟩ := is_v gg7
  obtain rfl : w2 = (.int i2) := Option.some.inj ei2
  obtain ⟨i3, ei3⟩ := is_v gg9
  obtain rfl : w3 = (.int i3) := Option.some.inj ei3
  obtain ⟨i4, ei4⟩ := is_v gg11
  obtain rfl : w4 = (.int i4) := Option.some.inj ei4
  obtain ⟨i5, ei5⟩ := is_v gg12
  obtain rfl : w5 = (.int i5) := Option.some.inj ei5
  obtain ⟨n, o, h1, h2, h3, _, L, rfl, ⟨⟨_, rfl, rfl⟩, N⟩, hq⟩ := own_rm0 l s _ hw tables_1 i0 i1 i2 i3 i4 i5  s.heap s.heap.size (Nat.le_refl _)  p e ha hc hk s m _ below hf ((Spec.applies_iff_loose hf).mp happ).1 ⟨rfl, State.Warmed39.refl s, rfl⟩ trivial
  refine ⟨n, _, h1, h2, h3, hpost _ _ _ _ _ _ ⟨Cond.after_iff.mpr rfl, Cond.after_iff.mpr (eq_i res_at (Term.int_eval (1)) rfl), trivial⟩ ⟨hq.1, hq.2.1, (hq.2.2.sift fun y hy => Or.inr (N y hy)).mono (by decide) (by decide)⟩⟩
theorem main_1_1 : Claimed_1_1 := own_comes fun _ _ _ _ _ _ h hF => ⟨h.1, hF⟩
theorem main_1_2 : Claimed_1_2 := own_comes fun _ _ _ _ _ _ h hF => ⟨h.2.1, hF⟩
end Jvm.Pilot.@@N@@
namespace Jvm.Pilot.@@N@@
open Jvm Jvm.ClassFile Sem Op Lib Jvm.Free Jvm.Stand Jvm.Pilot.@@N@@.Jvm.D
/-! MADE BY PROGRAM (witnessworld.py) out of the Statement's table words and the real class files: 17 classes; the members and pool entries that the words name. The judged class is class 1, her method 1. -/
namespace start1
open Jvm.ClassFile
def u (s : String) : CpInfo := .utf8 (stringToUtf16 s)
/-- a pool by its gaps: so many unusable entries, then the entry; so many at the end -/
def gap : Nat → List CpInfo → List CpInfo
  | 0, r => r
  | n + 1, r => .unusable :: gap n r
def poolList (es : List (Nat × CpInfo)) (last : Nat) : List CpInfo := es.foldr (fun e r => gap e.1 (e.2 :: r)) (gap last [])
def pool (es : List (Nat × CpInfo)) (last : Nat) : Array CpInfo := ⟨poolList es last⟩
def fileOf (pool : Array CpInfo) (this : Nat) (attrs : Array Attribute := #[]) (ms : Array MethodInfo := #[]) (fl : Nat := 33) (sup : Nat := 0) (ifs : Array Nat := #[]) (fds : Array FieldInfo := #[]) : ClassFile where
  minorVersion := 0
  majorVersion := 65
  constantPool := pool
  accessFlags := fl
  thisClass := this
  superClass := sup
  interfaces := ifs
  fields := fds
  methods := ms
  attributes := attrs
def plain (name : String) (sup : Option ClassId) : Class where
  name := name
  kind := .ordinary
  loader := none
  accessFlags := 33
  super := sup
  interfaces := #[]
  cf := none
  fields := #[]
  methods := #[]
  instanceTypes := #[]
  staticTypes := #[]
  resolved := #[]
  callSites := []
  init := .initialized
  statics := none
  mirror := none

def pool0 : Array CpInfo := pool [(5, u "<init>"), (0, u "()V"), (1, .class_ 10), (1, u "java/lang/Object")] 113

def k0c0 : Code := { maxStack := 0, maxLocals := 1, code := object_method_1_code, exceptionTable := #[], attributes := #[] }
def k0m0 : Method := { name := "<init>", desc := "()V", sig := { parameters := [], returnType := none }, accessFlags := 1, code := some k0c0 }
/-- java/lang/Object -/
def k0 : Class := { plain "java/lang/Object" none with
  accessFlags := 33
  interfaces := #[]
  cf := some (fileOf pool0 8 #[] #[{ accessFlags := 1, nameIndex := 5, descriptorIndex := 6, attributes := #[] }] 33 0 #[] #[])
  fields := #[]
  methods := #[k0m0]
  instanceTypes := #[]
  staticTypes := #[]
  resolved := Array.replicate 124 none
  statics := none }

def pool1 : Array CpInfo := pool [(2, .class_ 4), (1, u "java/lang/Object"), (0, u "<init>"), (0, u "()V"), (0, .integer 2147483647), (0, .class_ 9), (0, u "com/example/centroute/centroute/median/TupleIndex"), (0, .methodref 8 11), (0, .nameAndType 5 12), (0, u "(IIII)V"), (0, .methodref 8 14), (0, .nameAndType 15 16), (0, u "add"), (0, u "([I)I"), (0, .methodref 8 18), (0, .nameAndType 19 20), (0, u "set"), (0, u "(III)V"), (0, .methodref 8 22), (0, .nameAndType 23 24), (0, u "get"), (0, u "(II)I"), (0, .class_ 26), (0, u "com/example/centroute/centroute/median/TupleIndexSetPinLaw"), (2, u "law"), (0, u "(IIIIII)Z")] 5

def k1m0 : Method := { name := "<init>", desc := "()V", sig := { parameters := [], returnType := none }, accessFlags := 1, code := none }
def k1c1 : Code := { maxStack := 6, maxLocals := 23, code := code, exceptionTable := #[], attributes := #[] }
def k1m1 : Method := { name := "law", desc := "(IIIIII)Z", sig := { parameters := [.int, .int, .int, .int, .int, .int], returnType := some .boolean }, accessFlags := 9, code := some k1c1 }
/-- com/example/centroute/centroute/median/TupleIndexSetPinLaw -/
def k1 : Class := { plain "com/example/centroute/centroute/median/TupleIndexSetPinLaw" (some 0) with
  accessFlags := 49
  interfaces := #[]
  cf := some (fileOf pool1 25 #[] #[{ accessFlags := 1, nameIndex := 5, descriptorIndex := 6, attributes := #[] }, { accessFlags := 9, nameIndex := 29, descriptorIndex := 30, attributes := #[] }] 49 2 #[] #[])
  fields := #[]
  methods := #[k1m0, k1m1]
  instanceTypes := #[]
  staticTypes := #[]
  resolved := Array.replicate 36 none
  statics := none }

def pool2 : Array CpInfo := pool [(1, .methodref 2 3), (0, .class_ 4), (0, .nameAndType 5 6), (0, u "java/lang/Object"), (0, u "<init>"), (0, u "()V"), (0, .fieldref 8 9), (0, .class_ 10), (0, .nameAndType 11 12), (0, u "com/example/centroute/centroute/median/TupleIndex"), (0, u "width"), (0, u "I"), (0, .fieldref 8 14), (0, .nameAndType 15 12), (0, u "rowLength"), (0, .fieldref 8 17), (0, .nameAndType 18 12), (0, u "fill"), (0, .methodref 20 21), (0, .class_ 22), (0, .nameAndType 23 24), (0, u "java/lang/Math"), (0, u "max"), (0, u "(II)I"), (0, .fieldref 8 26), (0, .nameAndType 27 28), (0, u "keys"), (0, u "[I"), (0, .fieldref 8 30), (0, .nameAndType 31 28), (0, u "rows"), (0, .methodref 33 34), (0, .class_ 35), (0, .nameAndType 36 37), (0, u "java/lang/Integer"), (0, u "highestOneBit"), (0, u "(I)I"), (0, .fieldref 8 39), (0, .nameAndType 40 28), (0, u "slots"), (0, .methodref 8 42), (0, .nameAndType 43 44), (0, u "slot"), (0, u "([I)I"), (0, .fieldref 8 46), (0, .nameAndType 47 12), (0, u "size"), (0, .methodref 49 50), (0, .class_ 51), (0, .nameAndType 52 53), (0, u "java/util/Arrays"), (0, u "copyOf"), (0, u "([II)[I"), (0, .methodref 55 56), (0, .class_ 57), (0, .nameAndType 58 59), (0, u "java/lang/System"), (0, u "arraycopy"), (0, u "(Ljava/lang/Object;ILjava/lang/Object;II)V"), (0, .methodref 49 61), (0, .nameAndType 18 62), (0, u "([IIII)V"), (3, .methodref 8 67), (0, .nameAndType 68 69), (0, u "hash"), (0, u "([II)I"), (4, .integer 2654435761), (0, .methodref 33 76), (0, .nameAndType 77 37), (0, u "numberOfLeadingZeros"), (0, u "(IIII)V"), (2, u "add"), (2, u "get"), (0, u "set"), (0, u "(III)V")] 2

def k2c0 : Code := { maxStack := 3, maxLocals := 6, code := prog_50_method_1_code, exceptionTable := #[], attributes := #[] }
def k2m0 : Method := { name := "<init>", desc := "(IIII)V", sig := { parameters := [.int, .int, .int, .int], returnType := none }, accessFlags := 0, code := some k2c0 }
def k2c1 : Code := { maxStack := 5, maxLocals := 3, code := prog_50_method_2_code, exceptionTable := #[], attributes := #[] }
def k2m1 : Method := { name := "add", desc := "([I)I", sig := { parameters := [(.array .int)], returnType := some .int }, accessFlags := 0, code := some k2c1 }
def k2c2 : Code := { maxStack := 3, maxLocals := 3, code := prog_50_method_4_code, exceptionTable := #[], attributes := #[] }
def k2m2 : Method := { name := "get", desc := "(II)I", sig := { parameters := [.int, .int], returnType := some .int }, accessFlags := 0, code := some k2c2 }
def k2c3 : Code := { maxStack := 3, maxLocals := 4, code := prog_50_method_5_code, exceptionTable := #[], attributes := #[] }
def k2m3 : Method := { name := "set", desc := "(III)V", sig := { parameters := [.int, .int, .int], returnType := none }, accessFlags := 0, code := some k2c3 }
def k2c4 : Code := { maxStack := 3, maxLocals := 4, code := prog_50_method_6_code, exceptionTable := #[], attributes := #[] }
def k2m4 : Method := { name := "slot", desc := "([I)I", sig := { parameters := [(.array .int)], returnType := some .int }, accessFlags := 2, code := some k2c4 }
def k2c5 : Code := { maxStack := 3, maxLocals := 5, code := prog_50_method_9_code, exceptionTable := #[], attributes := #[] }
def k2m5 : Method := { name := "hash", desc := "([II)I", sig := { parameters := [(.array .int), .int], returnType := some .int }, accessFlags := 2, code := some k2c5 }
/-- com/example/centroute/centroute/median/TupleIndex -/
def k2 : Class := { plain "com/example/centroute/centroute/median/TupleIndex" (some 0) with
  accessFlags := 48
  interfaces := #[]
  cf := some (fileOf pool2 8 #[] #[{ accessFlags := 0, nameIndex := 5, descriptorIndex := 78, attributes := #[] }, { accessFlags := 0, nameIndex := 81, descriptorIndex := 44, attributes := #[] }, { accessFlags := 0, nameIndex := 84, descriptorIndex := 24, attributes := #[] }, { accessFlags := 0, nameIndex := 85, descriptorIndex := 86, attributes := #[] }, { accessFlags := 2, nameIndex := 43, descriptorIndex := 44, attributes := #[] }, { accessFlags := 2, nameIndex := 68, descriptorIndex := 69, attributes := #[] }] 48 2 #[] #[{ accessFlags := 18, nameIndex := 11, descriptorIndex := 12, attributes := #[] }, { accessFlags := 18, nameIndex := 15, descriptorIndex := 12, attributes := #[] }, { accessFlags := 18, nameIndex := 18, descriptorIndex := 12, attributes := #[] }, { accessFlags := 2, nameIndex := 27, descriptorIndex := 28, attributes := #[] }, { accessFlags := 2, nameIndex := 31, descriptorIndex := 28, attributes := #[] }, { accessFlags := 2, nameIndex := 40, descriptorIndex := 28, attributes := #[] }, { accessFlags := 2, nameIndex := 47, descriptorIndex := 12, attributes := #[] }])
  fields := #[{ name := "width", type := .int, accessFlags := 18, slot := 0, constantValue := 0 }, { name := "rowLength", type := .int, accessFlags := 18, slot := 1, constantValue := 0 }, { name := "fill", type := .int, accessFlags := 18, slot := 2, constantValue := 0 }, { name := "keys", type := (.array .int), accessFlags := 2, slot := 3, constantValue := 0 }, { name := "rows", type := (.array .int), accessFlags := 2, slot := 4, constantValue := 0 }, { name := "slots", type := (.array .int), accessFlags := 2, slot := 5, constantValue := 0 }, { name := "size", type := .int, accessFlags := 2, slot := 6, constantValue := 0 }]
  methods := #[k2m0, k2m1, k2m2, k2m3, k2m4, k2m5]
  instanceTypes := #[.int, .int, .int, (.array .int), (.array .int), (.array .int), .int]
  staticTypes := #[]
  resolved := Array.replicate 89 none
  statics := none }

def pool3 : Array CpInfo := pool [(1, .class_ 2), (0, u "java/lang/Math"), (1, .class_ 6), (1, u "java/lang/Object"), (0, u "<init>"), (0, u "()V"), (89, .class_ 100), (1, u "java/lang/Math$RandomNumberGeneratorHolder"), (71, u "negativeZeroFloatBits"), (0, u "J"), (2, u "negativeZeroDoubleBits"), (21, u "max"), (2, u "min"), (43, u "$assertionsDisabled"), (0, u "Z"), (88, u "(II)I"), (2, u "twoToTheDoubleScaleDown"), (0, u "D"), (4, u "twoToTheDoubleScaleUp"), (9, u "E"), (3, u "PI"), (2, u "TAU"), (2, u "DEGREES_TO_RADIANS"), (0, u "RADIANS_TO_DEGREES")] 94

def k3m0 : Method := { name := "<init>", desc := "()V", sig := { parameters := [], returnType := none }, accessFlags := 2, code := none }
def k3c1 : Code := { maxStack := 2, maxLocals := 2, code := jdk_29_method_65_code, exceptionTable := #[], attributes := #[] }
def k3m1 : Method := { name := "max", desc := "(II)I", sig := { parameters := [.int, .int], returnType := some .int }, accessFlags := 9, code := some k3c1 }
def k3c2 : Code := { maxStack := 2, maxLocals := 2, code := jdk_29_method_69_code, exceptionTable := #[], attributes := #[] }
def k3m2 : Method := { name := "min", desc := "(II)I", sig := { parameters := [.int, .int], returnType := some .int }, accessFlags := 9, code := some k3c2 }
/-- java/lang/Math -/
def k3 : Class := { plain "java/lang/Math" (some 0) with
  accessFlags := 49
  interfaces := #[]
  cf := some (fileOf pool3 1 #[.nestMembers #[98]] #[{ accessFlags := 2, nameIndex := 7, descriptorIndex := 8, attributes := #[] }, { accessFlags := 9, nameIndex := 198, descriptorIndex := 335, attributes := #[] }, { accessFlags := 9, nameIndex := 201, descriptorIndex := 335, attributes := #[] }] 49 4 #[] #[{ accessFlags := 25, nameIndex := 354, descriptorIndex := 339, attributes := #[] }, { accessFlags := 25, nameIndex := 358, descriptorIndex := 339, attributes := #[] }, { accessFlags := 25, nameIndex := 361, descriptorIndex := 339, attributes := #[] }, { accessFlags := 26, nameIndex := 364, descriptorIndex := 339, attributes := #[] }, { accessFlags := 26, nameIndex := 365, descriptorIndex := 339, attributes := #[] }, { accessFlags := 26, nameIndex := 172, descriptorIndex := 173, attributes := #[] }, { accessFlags := 26, nameIndex := 176, descriptorIndex := 173, attributes := #[] }, { accessFlags := 8, nameIndex := 344, descriptorIndex := 339, attributes := #[] }, { accessFlags := 8, nameIndex := 338, descriptorIndex := 339, attributes := #[] }, { accessFlags := 4120, nameIndex := 245, descriptorIndex := 246, attributes := #[] }])
  fields := #[{ name := "E", type := .double, accessFlags := 25, slot := 0, constantValue := 0 }, { name := "PI", type := .double, accessFlags := 25, slot := 1, constantValue := 0 }, { name := "TAU", type := .double, accessFlags := 25, slot := 2, constantValue := 0 }, { name := "DEGREES_TO_RADIANS", type := .double, accessFlags := 26, slot := 3, constantValue := 0 }, { name := "RADIANS_TO_DEGREES", type := .double, accessFlags := 26, slot := 4, constantValue := 0 }, { name := "negativeZeroFloatBits", type := .long, accessFlags := 26, slot := 5, constantValue := 0 }, { name := "negativeZeroDoubleBits", type := .long, accessFlags := 26, slot := 6, constantValue := 0 }, { name := "twoToTheDoubleScaleUp", type := .double, accessFlags := 8, slot := 7, constantValue := 0 }, { name := "twoToTheDoubleScaleDown", type := .double, accessFlags := 8, slot := 8, constantValue := 0 }, { name := "$assertionsDisabled", type := .boolean, accessFlags := 4120, slot := 9, constantValue := 0 }]
  methods := #[k3m0, k3m1, k3m2]
  instanceTypes := #[]
  staticTypes := #[.double, .double, .double, .double, .double, .long, .long, .double, .double, .boolean]
  resolved := Array.replicate 460 none
  statics := none }

def pool4 : Array CpInfo := pool [(1, .class_ 2), (0, u "java/io/Serializable"), (0, .class_ 4), (0, u "java/lang/Object")] 2

/-- java/io/Serializable -/
def k4 : Class := { plain "java/io/Serializable" (some 0) with
  accessFlags := 1537
  interfaces := #[]
  cf := some (fileOf pool4 1 #[] #[] 1537 3 #[] #[])
  fields := #[]
  methods := #[]
  instanceTypes := #[]
  staticTypes := #[]
  resolved := Array.replicate 7 none
  statics := none }

def pool5 : Array CpInfo := pool [(2, .class_ 4), (1, u "java/lang/Object"), (0, u "<init>"), (0, u "()V"), (1, .class_ 10), (1, u "java/lang/Number"), (2, .class_ 14), (0, u "java/io/Serializable"), (0, u "serialVersionUID"), (0, u "J")] 20

def k5m0 : Method := { name := "<init>", desc := "()V", sig := { parameters := [], returnType := none }, accessFlags := 1, code := none }
/-- java/lang/Number -/
def k5 : Class := { plain "java/lang/Number" (some 0) with
  accessFlags := 1057
  interfaces := #[4]
  cf := some (fileOf pool5 8 #[] #[{ accessFlags := 1, nameIndex := 5, descriptorIndex := 6, attributes := #[] }] 1057 2 #[13] #[{ accessFlags := 26, nameIndex := 15, descriptorIndex := 16, attributes := #[] }])
  fields := #[{ name := "serialVersionUID", type := .long, accessFlags := 26, slot := 0, constantValue := 0 }]
  methods := #[k5m0]
  instanceTypes := #[]
  staticTypes := #[.long]
  resolved := Array.replicate 37 none
  statics := none }

def pool6 : Array CpInfo := pool [(1, .class_ 2), (0, u "java/lang/Comparable"), (0, .class_ 4), (0, u "java/lang/Object")] 7

/-- java/lang/Comparable -/
def k6 : Class := { plain "java/lang/Comparable" (some 0) with
  accessFlags := 1537
  interfaces := #[]
  cf := some (fileOf pool6 1 #[] #[] 1537 3 #[] #[])
  fields := #[]
  methods := #[]
  instanceTypes := #[]
  staticTypes := #[]
  resolved := Array.replicate 12 none
  statics := none }

def pool7 : Array CpInfo := pool [(1, .class_ 2), (0, u "java/lang/constant/Constable"), (0, .class_ 4), (0, u "java/lang/Object")] 6

/-- java/lang/constant/Constable -/
def k7 : Class := { plain "java/lang/constant/Constable" (some 0) with
  accessFlags := 1537
  interfaces := #[]
  cf := some (fileOf pool7 1 #[] #[] 1537 3 #[] #[])
  fields := #[]
  methods := #[]
  instanceTypes := #[]
  staticTypes := #[]
  resolved := Array.replicate 11 none
  statics := none }

def pool8 : Array CpInfo := pool [(1, .class_ 2), (0, u "java/lang/constant/ConstantDesc"), (0, .class_ 4), (0, u "java/lang/Object")] 32

/-- java/lang/constant/ConstantDesc -/
def k8 : Class := { plain "java/lang/constant/ConstantDesc" (some 0) with
  accessFlags := 1537
  interfaces := #[]
  cf := some (fileOf pool8 1 #[] #[] 1537 3 #[] #[])
  fields := #[]
  methods := #[]
  instanceTypes := #[]
  staticTypes := #[]
  resolved := Array.replicate 37 none
  statics := none }

def pool9 : Array CpInfo := pool [(1, .class_ 2), (0, u "java/lang/Integer"), (16, u "digits"), (0, u "[C"), (30, .methodref 1 52), (0, .nameAndType 53 54), (0, u "numberOfLeadingZeros"), (0, u "(I)I"), (30, u "DigitOnes"), (0, u "[B"), (2, u "DigitTens"), (37, .integer 2147483648), (61, .class_ 190), (0, u "java/lang/Integer$IntegerCache"), (3, u "I"), (8, .class_ 204), (0, u "java/lang/Number"), (2, u "value"), (56, .integer 65536), (37, u "TYPE"), (0, u "Ljava/lang/Class;"), (0, .class_ 305), (0, u "java/lang/Comparable"), (0, .class_ 307), (0, u "java/lang/constant/Constable"), (0, .class_ 309), (0, u "java/lang/constant/ConstantDesc"), (0, u "MIN_VALUE"), (1, u "MAX_VALUE"), (3, u "SIZE"), (1, u "BYTES"), (1, u "serialVersionUID"), (0, u "J"), (81, u "highestOneBit")] 49

def k9c0 : Code := { maxStack := 3, maxLocals := 1, code := jdk_33_method_45_code, exceptionTable := #[], attributes := #[] }
def k9m0 : Method := { name := "highestOneBit", desc := "(I)I", sig := { parameters := [.int], returnType := some .int }, accessFlags := 9, code := some k9c0 }
def k9c1 : Code := { maxStack := 3, maxLocals := 2, code := jdk_33_method_47_code, exceptionTable := #[], attributes := #[] }
def k9m1 : Method := { name := "numberOfLeadingZeros", desc := "(I)I", sig := { parameters := [.int], returnType := some .int }, accessFlags := 9, code := some k9c1 }
/-- java/lang/Integer -/
def k9 : Class := { plain "java/lang/Integer" (some 5) with
  accessFlags := 49
  interfaces := #[6, 7, 8]
  cf := some (fileOf pool9 1 #[.nestMembers #[189]] #[{ accessFlags := 9, nameIndex := 403, descriptorIndex := 54, attributes := #[] }, { accessFlags := 9, nameIndex := 53, descriptorIndex := 54, attributes := #[] }] 49 203 #[304, 306, 308] #[{ accessFlags := 25, nameIndex := 310, descriptorIndex := 194, attributes := #[] }, { accessFlags := 25, nameIndex := 312, descriptorIndex := 194, attributes := #[] }, { accessFlags := 25, nameIndex := 302, descriptorIndex := 303, attributes := #[] }, { accessFlags := 24, nameIndex := 19, descriptorIndex := 20, attributes := #[] }, { accessFlags := 24, nameIndex := 89, descriptorIndex := 86, attributes := #[] }, { accessFlags := 24, nameIndex := 85, descriptorIndex := 86, attributes := #[] }, { accessFlags := 18, nameIndex := 207, descriptorIndex := 194, attributes := #[] }, { accessFlags := 25, nameIndex := 316, descriptorIndex := 194, attributes := #[] }, { accessFlags := 25, nameIndex := 318, descriptorIndex := 194, attributes := #[] }, { accessFlags := 26, nameIndex := 320, descriptorIndex := 321, attributes := #[] }])
  fields := #[{ name := "MIN_VALUE", type := .int, accessFlags := 25, slot := 0, constantValue := 0 }, { name := "MAX_VALUE", type := .int, accessFlags := 25, slot := 1, constantValue := 0 }, { name := "TYPE", type := (.object "java/lang/Class"), accessFlags := 25, slot := 2, constantValue := 0 }, { name := "digits", type := (.array .char), accessFlags := 24, slot := 3, constantValue := 0 }, { name := "DigitTens", type := (.array .byte), accessFlags := 24, slot := 4, constantValue := 0 }, { name := "DigitOnes", type := (.array .byte), accessFlags := 24, slot := 5, constantValue := 0 }, { name := "value", type := .int, accessFlags := 18, slot := 0, constantValue := 0 }, { name := "SIZE", type := .int, accessFlags := 25, slot := 6, constantValue := 0 }, { name := "BYTES", type := .int, accessFlags := 25, slot := 7, constantValue := 0 }, { name := "serialVersionUID", type := .long, accessFlags := 26, slot := 8, constantValue := 0 }]
  methods := #[k9m0, k9m1]
  instanceTypes := #[.int]
  staticTypes := #[.int, .int, (.object "java/lang/Class"), (.array .char), (.array .byte), (.array .byte), .int, .int, .long]
  resolved := Array.replicate 453 none
  statics := none }

def pool10 : Array CpInfo := pool [(2, .class_ 4), (1, u "java/lang/Object"), (0, u "<init>"), (0, u "()V"), (1, .class_ 10), (1, u "java/lang/System"), (0, u "allowSecurityManager"), (0, u "I"), (16, u "cons"), (0, u "Ljava/io/Console;"), (77, .class_ 110), (1, u "java/lang/System$CallersHolder"), (43, u "initialErrStream"), (0, u "Ljava/io/PrintStream;"), (19, u "security"), (0, u "Ljava/lang/SecurityManager;"), (31, .class_ 209), (0, u "java/lang/System$1"), (7, u "props"), (0, u "Ljava/util/Properties;"), (2, u "lineSeparator"), (0, u "Ljava/lang/String;"), (96, .class_ 321), (1, u "java/lang/System$LoggerFinder"), (5, .class_ 328), (0, u "java/lang/System$Logger"), (67, u "err"), (2, u "out"), (91, u "notSupportedJnuEncoding"), (15, u "in"), (17, u "initialIn"), (0, u "Ljava/io/InputStream;"), (35, u "bootLayer"), (0, u "Ljava/lang/ModuleLayer;"), (99, .class_ 664), (0, u "java/lang/System$2"), (9, u "NEVER"), (2, u "MAYBE"), (49, u "arraycopy"), (0, u "(Ljava/lang/Object;ILjava/lang/Object;II)V"), (72, .class_ 802), (0, u "java/lang/System$Logger$Level")] 31

def k10m0 : Method := { name := "<init>", desc := "()V", sig := { parameters := [], returnType := none }, accessFlags := 2, code := none }
def k10m1 : Method := { name := "arraycopy", desc := "(Ljava/lang/Object;ILjava/lang/Object;II)V", sig := { parameters := [(.object "java/lang/Object"), .int, (.object "java/lang/Object"), .int, .int], returnType := none }, accessFlags := 265, code := none }
/-- java/lang/System -/
def k10 : Class := { plain "java/lang/System" (some 0) with
  accessFlags := 49
  interfaces := #[]
  cf := some (fileOf pool10 8 #[.nestMembers #[319, 327, 801, 108, 663, 208]] #[{ accessFlags := 2, nameIndex := 5, descriptorIndex := 6, attributes := #[] }, { accessFlags := 265, nameIndex := 727, descriptorIndex := 728, attributes := #[] }] 49 2 #[] #[{ accessFlags := 25, nameIndex := 507, descriptorIndex := 526, attributes := #[] }, { accessFlags := 25, nameIndex := 399, descriptorIndex := 155, attributes := #[] }, { accessFlags := 25, nameIndex := 396, descriptorIndex := 155, attributes := #[] }, { accessFlags := 10, nameIndex := 525, descriptorIndex := 526, attributes := #[] }, { accessFlags := 26, nameIndex := 674, descriptorIndex := 12, attributes := #[] }, { accessFlags := 26, nameIndex := 677, descriptorIndex := 12, attributes := #[] }, { accessFlags := 10, nameIndex := 11, descriptorIndex := 12, attributes := #[] }, { accessFlags := 74, nameIndex := 175, descriptorIndex := 176, attributes := #[] }, { accessFlags := 10, nameIndex := 491, descriptorIndex := 222, attributes := #[] }, { accessFlags := 74, nameIndex := 29, descriptorIndex := 30, attributes := #[] }, { accessFlags := 74, nameIndex := 154, descriptorIndex := 155, attributes := #[] }, { accessFlags := 10, nameIndex := 217, descriptorIndex := 218, attributes := #[] }, { accessFlags := 10, nameIndex := 221, descriptorIndex := 222, attributes := #[] }, { accessFlags := 8, nameIndex := 562, descriptorIndex := 563, attributes := #[] }])
  fields := #[{ name := "in", type := (.object "java/io/InputStream"), accessFlags := 25, slot := 0, constantValue := 0 }, { name := "out", type := (.object "java/io/PrintStream"), accessFlags := 25, slot := 1, constantValue := 0 }, { name := "err", type := (.object "java/io/PrintStream"), accessFlags := 25, slot := 2, constantValue := 0 }, { name := "initialIn", type := (.object "java/io/InputStream"), accessFlags := 10, slot := 3, constantValue := 0 }, { name := "NEVER", type := .int, accessFlags := 26, slot := 4, constantValue := 0 }, { name := "MAYBE", type := .int, accessFlags := 26, slot := 5, constantValue := 0 }, { name := "allowSecurityManager", type := .int, accessFlags := 10, slot := 6, constantValue := 0 }, { name := "security", type := (.object "java/lang/SecurityManager"), accessFlags := 74, slot := 7, constantValue := 0 }, { name := "notSupportedJnuEncoding", type := (.object "java/lang/String"), accessFlags := 10, slot := 8, constantValue := 0 }, { name := "cons", type := (.object "java/io/Console"), accessFlags := 74, slot := 9, constantValue := 0 }, { name := "initialErrStream", type := (.object "java/io/PrintStream"), accessFlags := 74, slot := 10, constantValue := 0 }, { name := "props", type := (.object "java/util/Properties"), accessFlags := 10, slot := 11, constantValue := 0 }, { name := "lineSeparator", type := (.object "java/lang/String"), accessFlags := 10, slot := 12, constantValue := 0 }, { name := "bootLayer", type := (.object "java/lang/ModuleLayer"), accessFlags := 8, slot := 13, constantValue := 0 }]
  methods := #[k10m0, k10m1]
  instanceTypes := #[]
  staticTypes := #[(.object "java/io/InputStream"), (.object "java/io/PrintStream"), (.object "java/io/PrintStream"), (.object "java/io/InputStream"), .int, .int, .int, (.object "java/lang/SecurityManager"), (.object "java/lang/String"), (.object "java/io/Console"), (.object "java/io/PrintStream"), (.object "java/util/Properties"), (.object "java/lang/String"), (.object "java/lang/ModuleLayer")]
  resolved := Array.replicate 834 none
  statics := none }

def pool11 : Array CpInfo := pool [(2, .class_ 4), (1, u "java/lang/Object"), (0, u "<init>"), (0, u "()V"), (5, u "([IIII)V"), (0, .methodref 14 15), (0, .class_ 16), (0, .nameAndType 17 18), (0, u "java/util/Arrays"), (0, u "rangeCheck"), (0, u "(III)V"), (55, .class_ 76), (1, u "java/util/Arrays$NaturalOrder"), (36, .class_ 115), (1, u "java/util/Arrays$LegacyMergeSort"), (1, u "Z"), (32, .methodref 151 152), (0, .class_ 153), (0, .nameAndType 154 155), (0, u "java/lang/System"), (0, u "arraycopy"), (0, u "(Ljava/lang/Object;ILjava/lang/Object;II)V"), (146, u "copyOf"), (1, .methodref 305 306), (0, .class_ 307), (0, .nameAndType 308 309), (0, u "java/lang/Math"), (0, u "min"), (0, u "(II)I"), (65, .class_ 376), (0, u "java/util/Arrays$ArrayList"), (68, u "$assertionsDisabled"), (269, u "MIN_ARRAY_SORT_GRAN"), (0, u "I"), (2, u "INSERTIONSORT_THRESHOLD"), (120, u "fill"), (30, u "([II)[I"), (103, .class_ 976), (0, u "java/util/Arrays$ArrayItr")] 52

def k11m0 : Method := { name := "<init>", desc := "()V", sig := { parameters := [], returnType := none }, accessFlags := 2, code := none }
def k11c1 : Code := { maxStack := 4, maxLocals := 3, code := jdk_65_method_30_code, exceptionTable := #[], attributes := #[] }
def k11m1 : Method := { name := "rangeCheck", desc := "(III)V", sig := { parameters := [.int, .int, .int], returnType := none }, accessFlags := 8, code := some k11c1 }
def k11c2 : Code := { maxStack := 3, maxLocals := 5, code := jdk_65_method_104_code, exceptionTable := #[], attributes := #[] }
def k11m2 : Method := { name := "fill", desc := "([IIII)V", sig := { parameters := [(.array .int), .int, .int, .int], returnType := none }, accessFlags := 9, code := some k11c2 }
def k11c3 : Code := { maxStack := 6, maxLocals := 3, code := jdk_65_method_123_code, exceptionTable := #[], attributes := #[] }
def k11m3 : Method := { name := "copyOf", desc := "([II)[I", sig := { parameters := [(.array .int), .int], returnType := some (.array .int) }, accessFlags := 9, code := some k11c3 }
/-- java/util/Arrays -/
def k11 : Class := { plain "java/util/Arrays" (some 0) with
  accessFlags := 49
  interfaces := #[]
  cf := some (fileOf pool11 14 #[.nestMembers #[975, 375, 113, 74]] #[{ accessFlags := 2, nameIndex := 5, descriptorIndex := 6, attributes := #[] }, { accessFlags := 8, nameIndex := 17, descriptorIndex := 18, attributes := #[] }, { accessFlags := 9, nameIndex := 840, descriptorIndex := 12, attributes := #[] }, { accessFlags := 9, nameIndex := 302, descriptorIndex := 871, attributes := #[] }] 49 2 #[] #[{ accessFlags := 26, nameIndex := 715, descriptorIndex := 716, attributes := #[] }, { accessFlags := 26, nameIndex := 719, descriptorIndex := 716, attributes := #[] }, { accessFlags := 4120, nameIndex := 445, descriptorIndex := 117, attributes := #[] }])
  fields := #[{ name := "MIN_ARRAY_SORT_GRAN", type := .int, accessFlags := 26, slot := 0, constantValue := 0 }, { name := "INSERTIONSORT_THRESHOLD", type := .int, accessFlags := 26, slot := 1, constantValue := 0 }, { name := "$assertionsDisabled", type := .boolean, accessFlags := 4120, slot := 2, constantValue := 0 }]
  methods := #[k11m0, k11m1, k11m2, k11m3]
  instanceTypes := #[]
  staticTypes := #[.int, .int, .boolean]
  resolved := Array.replicate 1029 none
  statics := none }

def pool12 : Array CpInfo := pool [(1, u "java/lang/Cloneable"), (0, .class_ 1), (0, u "java/lang/Object"), (0, .class_ 3)] 3

/-- java/lang/Cloneable -/
def k12 : Class := { plain "java/lang/Cloneable" (some 0) with
  accessFlags := 1537
  interfaces := #[]
  cf := some (fileOf pool12 2 #[] #[] 1537 4 #[] #[])
  fields := #[]
  methods := #[]
  instanceTypes := #[]
  staticTypes := #[]
  resolved := Array.replicate 8 none
  statics := none }

/-- the primitive byte -/
def k13 : Class := { plain "byte" none with kind := .primitive 'B', accessFlags := 0x411 }
/-- [B -/
def k14 : Class := { plain "[B" (some 0) with kind := .array 13 .byte, interfaces := #[12, 4], accessFlags := 1041 }

/-- the primitive int -/
def k15 : Class := { plain "int" none with kind := .primitive 'I', accessFlags := 0x411 }
/-- [I -/
def k16 : Class := { plain "[I" (some 0) with kind := .array 15 .int, interfaces := #[12, 4], accessFlags := 1041 }

def heap : Heap := #[]
def classes : Array Class := #[k0, k1, k2, k3, k4, k5, k6, k7, k8, k9, k10, k11, k12, k13, k14, k15, k16]
def interned : List (Array UInt16 × Addr) := []
def slotsUsed : Nat := 0
def theMethod : MethodId := ⟨1, 1⟩
def args0 : Array Value := #[.int 5, .int 3, .int 2, .int 7, .int 9, .int 4]
def aboutOver (below : List Frame) : State where
  vm := { classes := classes, interned := interned.toArray }
  heap := heap
  slotsUsed := slotsUsed
  threads := #[{ frames := .invoking theMethod args0 :: below }]
def below0 : List Frame := [.native { method := ⟨0, 0⟩, args := #[] }]
def about1 : State := aboutOver below0
def p0 : Program := .bare "" "" ""
def e0 : Env := launch0.env 0 0 0
theorem w_frames : about1.frames = Frame.invoking theMethod args0 :: below0 := rfl
set_option maxRecDepth 65536 in
theorem w_args : argsFit about1.vm theMethod args0 = true := by decide +kernel
set_option maxRecDepth 65536 in
theorem w_heap : heapFits about1 = true := by decide +kernel
set_option maxRecDepth 65536 in
theorem w_runnable : about1.curStatus? = some .runnable := by decide +kernel
set_option maxRecDepth 65536 in
theorem w_alone : about1.alone = true := by decide +kernel
set_option maxRecDepth 65536 in
theorem w_named : about1.methodNamed? x = some theMethod := by decide +kernel
set_option maxRecDepth 65536 in
theorem w_hears : about1.hears theMethod below0 = true := by decide +kernel
set_option maxRecDepth 65536 in
theorem w_ripe : about1.ripe theMethod args0 below0 = true := by decide +kernel
theorem w_running : about1.status = .running := rfl
set_option maxRecDepth 65536 in
theorem w_room : about1.hasRoom e0.platform room_1 = true :=
  launch0.hasRoom_least _ room_1 (by decide +kernel) (by decide +kernel) (by decide +kernel) (by decide +kernel) (by decide +kernel) (by decide +kernel)
theorem allAtoms_all (ts : List Jvm.Cond) (a : Array Jvm.Value) (st : Jvm.State) : (allAtoms ts).before a st = ts.all (fun c => c.before a st) := by
  induction ts with
  | nil => rfl
  | cons c t ih =>
    show (Jvm.Cond.and c (allAtoms t)).before a st = _
    rw [Jvm.Cond.before_and, ih, List.all_cons]
def words1 : List Jvm.Cond := Jvm.Cond.code x code maxLocals ret :: tables_1
/-- a 'code' word, met by the world's own term for the bytes: nothing is compared byte by byte -/
theorem code_word {y : MethodName} {bytes : ByteArray} {mx : Nat} {rt : Option FieldType} {a : Array Value} {s : State} {m : MethodId} {meth : Method} {c : Code} (h1 : s.methodNamed? y = some m) (h2 : s.vm.method? m = some meth) (h3 : meth.code = some c) (h4 : c.code = bytes)
    (h5 : (c.maxLocals == mx && c.exceptionTable.isEmpty && decide (c.maxStack ≤ mostOperands) && decide (meth.sig.returnType = rt) && !meth.locks && decide (parseMethodDescriptor y.desc = some meth.sig)) = true) : (Jvm.Cond.code y bytes mx rt).before a s = true := by
  simp only [Bool.and_eq_true, beq_iff_eq, Bool.not_eq_true', decide_eq_true_eq] at h5
  obtain ⟨⟨⟨⟨⟨g1, g2⟩, g3⟩, g4⟩, g5⟩, g6⟩ := h5
  simp [Cond.before, Cond.holds, Cond.value, h1, h2, h3, h4, g1, g2, g3, g4, g5, g6]
def isCode : Jvm.Cond → Bool
  | .code _ _ _ _ => true
  | _ => false
theorem all_split {L : List Jvm.Cond} {P : Jvm.Cond → Bool} (h1 : L.all (fun c => isCode c || P c) = true) (h2 : ∀ c ∈ L.filter isCode, P c = true) : L.all P = true := by
  refine List.all_eq_true.mpr fun c hc => ?_
  have h := List.all_eq_true.mp h1 c hc
  rcases Bool.eq_false_or_eq_true (isCode c) with hi | hi
  · exact h2 c (List.mem_filter.mpr ⟨hc, hi⟩)
  · simpa [hi] using h
set_option maxRecDepth 65536 in
theorem w_c0 : (Jvm.Cond.code x code maxLocals ret).before args0 about1 = true := code_word (m := ⟨1, 1⟩) (meth := k1m1) (c := k1c1) (by decide +kernel) rfl rfl rfl (by decide +kernel)
set_option maxRecDepth 65536 in
theorem w_c1 : (Jvm.Cond.code ({ cls := "com/example/centroute/centroute/median/TupleIndex", name := "<init>", desc := "(IIII)V" } : Jvm.MethodName) prog_50_method_1_code (6 : Nat) (Option.none : Option Jvm.ClassFile.FieldType)).before args0 about1 = true := code_word (m := ⟨2, 0⟩) (meth := k2m0) (c := k2c0) (by decide +kernel) rfl rfl rfl (by decide +kernel)
set_option maxRecDepth 65536 in
theorem w_c2 : (Jvm.Cond.code ({ cls := "java/lang/Object", name := "<init>", desc := "()V" } : Jvm.MethodName) object_method_1_code (1 : Nat) (Option.none : Option Jvm.ClassFile.FieldType)).before args0 about1 = true := code_word (m := ⟨0, 0⟩) (meth := k0m0) (c := k0c0) (by decide +kernel) rfl rfl rfl (by decide +kernel)
set_option maxRecDepth 65536 in
theorem w_c3 : (Jvm.Cond.code ({ cls := "java/lang/Math", name := "max", desc := "(II)I" } : Jvm.MethodName) jdk_29_method_65_code (2 : Nat) (Option.some Jvm.ClassFile.FieldType.int)).before args0 about1 = true := code_word (m := ⟨3, 1⟩) (meth := k3m1) (c := k3c1) (by decide +kernel) rfl rfl rfl (by decide +kernel)
set_option maxRecDepth 65536 in
theorem w_c4 : (Jvm.Cond.code ({ cls := "java/lang/Integer", name := "highestOneBit", desc := "(I)I" } : Jvm.MethodName) jdk_33_method_45_code (1 : Nat) (Option.some Jvm.ClassFile.FieldType.int)).before args0 about1 = true := code_word (m := ⟨9, 0⟩) (meth := k9m0) (c := k9c0) (by decide +kernel) rfl rfl rfl (by decide +kernel)
set_option maxRecDepth 65536 in
theorem w_c5 : (Jvm.Cond.code ({ cls := "java/lang/Integer", name := "numberOfLeadingZeros", desc := "(I)I" } : Jvm.MethodName) jdk_33_method_47_code (2 : Nat) (Option.some Jvm.ClassFile.FieldType.int)).before args0 about1 = true := code_word (m := ⟨9, 1⟩) (meth := k9m1) (c := k9c1) (by decide +kernel) rfl rfl rfl (by decide +kernel)
set_option maxRecDepth 65536 in
theorem w_c6 : (Jvm.Cond.code ({ cls := "com/example/centroute/centroute/median/TupleIndex", name := "add", desc := "([I)I" } : Jvm.MethodName) prog_50_method_2_code (3 : Nat) (Option.some Jvm.ClassFile.FieldType.int)).before args0 about1 = true := code_word (m := ⟨2, 1⟩) (meth := k2m1) (c := k2c1) (by decide +kernel) rfl rfl rfl (by decide +kernel)
set_option maxRecDepth 65536 in
theorem w_c7 : (Jvm.Cond.code ({ cls := "com/example/centroute/centroute/median/TupleIndex", name := "slot", desc := "([I)I" } : Jvm.MethodName) prog_50_method_6_code (4 : Nat) (Option.some Jvm.ClassFile.FieldType.int)).before args0 about1 = true := code_word (m := ⟨2, 4⟩) (meth := k2m4) (c := k2c4) (by decide +kernel) rfl rfl rfl (by decide +kernel)
set_option maxRecDepth 65536 in
theorem w_c8 : (Jvm.Cond.code ({ cls := "com/example/centroute/centroute/median/TupleIndex", name := "hash", desc := "([II)I" } : Jvm.MethodName) prog_50_method_9_code (5 : Nat) (Option.some Jvm.ClassFile.FieldType.int)).before args0 about1 = true := code_word (m := ⟨2, 5⟩) (meth := k2m5) (c := k2c5) (by decide +kernel) rfl rfl rfl (by decide +kernel)
set_option maxRecDepth 65536 in
theorem w_c9 : (Jvm.Cond.code ({ cls := "java/util/Arrays", name := "fill", desc := "([IIII)V" } : Jvm.MethodName) jdk_65_method_104_code (5 : Nat) (Option.none : Option Jvm.ClassFile.FieldType)).before args0 about1 = true := code_word (m := ⟨11, 2⟩) (meth := k11m2) (c := k11c2) (by decide +kernel) rfl rfl rfl (by decide +kernel)
set_option maxRecDepth 65536 in
theorem w_c10 : (Jvm.Cond.code ({ cls := "java/util/Arrays", name := "rangeCheck", desc := "(III)V" } : Jvm.MethodName) jdk_65_method_30_code (3 : Nat) (Option.none : Option Jvm.ClassFile.FieldType)).before args0 about1 = true := code_word (m := ⟨11, 1⟩) (meth := k11m1) (c := k11c1) (by decide +kernel) rfl rfl rfl (by decide +kernel)
set_option maxRecDepth 65536 in
theorem w_c11 : (Jvm.Cond.code ({ cls := "java/util/Arrays", name := "copyOf", desc := "([II)[I" } : Jvm.MethodName) jdk_65_method_123_code (3 : Nat) (Option.some (Jvm.ClassFile.FieldType.array Jvm.ClassFile.FieldType.int))).before args0 about1 = true := code_word (m := ⟨11, 3⟩) (meth := k11m3) (c := k11c3) (by decide +kernel) rfl rfl rfl (by decide +kernel)
set_option maxRecDepth 65536 in
theorem w_c12 : (Jvm.Cond.code ({ cls := "java/lang/Math", name := "min", desc := "(II)I" } : Jvm.MethodName) jdk_29_method_69_code (2 : Nat) (Option.some Jvm.ClassFile.FieldType.int)).before args0 about1 = true := code_word (m := ⟨3, 2⟩) (meth := k3m2) (c := k3c2) (by decide +kernel) rfl rfl rfl (by decide +kernel)
set_option maxRecDepth 65536 in
theorem w_c13 : (Jvm.Cond.code ({ cls := "com/example/centroute/centroute/median/TupleIndex", name := "set", desc := "(III)V" } : Jvm.MethodName) prog_50_method_5_code (4 : Nat) (Option.none : Option Jvm.ClassFile.FieldType)).before args0 about1 = true := code_word (m := ⟨2, 3⟩) (meth := k2m3) (c := k2c3) (by decide +kernel) rfl rfl rfl (by decide +kernel)
set_option maxRecDepth 65536 in
theorem w_c14 : (Jvm.Cond.code ({ cls := "com/example/centroute/centroute/median/TupleIndex", name := "get", desc := "(II)I" } : Jvm.MethodName) prog_50_method_4_code (3 : Nat) (Option.some Jvm.ClassFile.FieldType.int)).before args0 about1 = true := code_word (m := ⟨2, 2⟩) (meth := k2m2) (c := k2c2) (by decide +kernel) rfl rfl rfl (by decide +kernel)
def codes1 : List Jvm.Cond := [Jvm.Cond.code x code maxLocals ret, Jvm.Cond.code ({ cls := "com/example/centroute/centroute/median/TupleIndex", name := "<init>", desc := "(IIII)V" } : Jvm.MethodName) prog_50_method_1_code (6 : Nat) (Option.none : Option Jvm.ClassFile.FieldType), Jvm.Cond.code ({ cls := "java/lang/Object", name := "<init>", desc := "()V" } : Jvm.MethodName) object_method_1_code (1 : Nat) (Option.none : Option Jvm.ClassFile.FieldType), Jvm.Cond.code ({ cls := "java/lang/Math", name := "max", desc := "(II)I" } : Jvm.MethodName) jdk_29_method_65_code (2 : Nat) (Option.some Jvm.ClassFile.FieldType.int), Jvm.Cond.code ({ cls := "java/lang/Integer", name := "highestOneBit", desc := "(I)I" } : Jvm.MethodName) jdk_33_method_45_code (1 : Nat) (Option.some Jvm.ClassFile.FieldType.int), Jvm.Cond.code ({ cls := "java/lang/Integer", name := "numberOfLeadingZeros", desc := "(I)I" } : Jvm.MethodName) jdk_33_method_47_code (2 : Nat) (Option.some Jvm.ClassFile.FieldType.int), Jvm.Cond.code ({ cls := "com/example/centroute/centroute/median/TupleIndex", name := "add", desc := "([I)I" } : Jvm.MethodName) prog_50_method_2_code (3 : Nat) (Option.some Jvm.ClassFile.FieldType.int), Jvm.Cond.code ({ cls := "com/example/centroute/centroute/median/TupleIndex", name := "slot", desc := "([I)I" } : Jvm.MethodName) prog_50_method_6_code (4 : Nat) (Option.some Jvm.ClassFile.FieldType.int), Jvm.Cond.code ({ cls := "com/example/centroute/centroute/median/TupleIndex", name := "hash", desc := "([II)I" } : Jvm.MethodName) prog_50_method_9_code (5 : Nat) (Option.some Jvm.ClassFile.FieldType.int), Jvm.Cond.code ({ cls := "java/util/Arrays", name := "fill", desc := "([IIII)V" } : Jvm.MethodName) jdk_65_method_104_code (5 : Nat) (Option.none : Option Jvm.ClassFile.FieldType), Jvm.Cond.code ({ cls := "java/util/Arrays", name := "rangeCheck", desc := "(III)V" } : Jvm.MethodName) jdk_65_method_30_code (3 : Nat) (Option.none : Option Jvm.ClassFile.FieldType), Jvm.Cond.code ({ cls := "java/util/Arrays", name := "copyOf", desc := "([II)[I" } : Jvm.MethodName) jdk_65_method_123_code (3 : Nat) (Option.some (Jvm.ClassFile.FieldType.array Jvm.ClassFile.FieldType.int)), Jvm.Cond.code ({ cls := "java/lang/Math", name := "min", desc := "(II)I" } : Jvm.MethodName) jdk_29_method_69_code (2 : Nat) (Option.some Jvm.ClassFile.FieldType.int), Jvm.Cond.code ({ cls := "com/example/centroute/centroute/median/TupleIndex", name := "set", desc := "(III)V" } : Jvm.MethodName) prog_50_method_5_code (4 : Nat) (Option.none : Option Jvm.ClassFile.FieldType), Jvm.Cond.code ({ cls := "com/example/centroute/centroute/median/TupleIndex", name := "get", desc := "(II)I" } : Jvm.MethodName) prog_50_method_4_code (3 : Nat) (Option.some Jvm.ClassFile.FieldType.int)]
set_option maxRecDepth 65536 in
theorem codes_eq : words1.filter isCode = codes1 := rfl
theorem w_codes : ∀ c ∈ words1.filter isCode, c.before args0 about1 = true := by
  rw [codes_eq]
  intro c hc
  simp only [codes1, List.mem_cons, List.not_mem_nil, or_false] at hc
  rcases hc with rfl | rfl | rfl | rfl | rfl | rfl | rfl | rfl | rfl | rfl | rfl | rfl | rfl | rfl | rfl
  · exact w_c0
  · exact w_c1
  · exact w_c2
  · exact w_c3
  · exact w_c4
  · exact w_c5
  · exact w_c6
  · exact w_c7
  · exact w_c8
  · exact w_c9
  · exact w_c10
  · exact w_c11
  · exact w_c12
  · exact w_c13
  · exact w_c14
set_option maxRecDepth 65536 in
theorem w_t1 : (words1.take 24).all (fun c => isCode c || c.before args0 about1) = true := by decide +kernel
set_option maxRecDepth 65536 in
theorem w_t2 : ((words1.drop 24).take 24).all (fun c => isCode c || c.before args0 about1) = true := by decide +kernel
set_option maxRecDepth 65536 in
theorem w_t3 : (((words1.drop 24).drop 24).take 24).all (fun c => isCode c || c.before args0 about1) = true := by decide +kernel
set_option maxRecDepth 65536 in
theorem w_t4 : (((words1.drop 24).drop 24).drop 24).all (fun c => isCode c || c.before args0 about1) = true := by decide +kernel
theorem w_tables : (allAtoms (Jvm.Cond.code x code maxLocals ret :: tables_1)).before args0 about1 = true := by
  rw [allAtoms_all]
  show words1.all (fun c => c.before args0 about1) = true
  refine all_split ?_ w_codes
  rw [← List.take_append_drop 24 words1, List.all_append, w_t1, ← List.take_append_drop 24 (words1.drop 24), List.all_append, w_t2, ← List.take_append_drop 24 ((words1.drop 24).drop 24), List.all_append, w_t3, w_t4]
  rfl
set_option maxRecDepth 65536 in
theorem w_case : (Jvm.Cond.and given_1 narrow_1).before args0 about1 = true := by decide +kernel
theorem w_applies : (headSpec (Jvm.Cond.code x code maxLocals ret :: tables_1) room_1).applies x e0.platform about1 = true :=
  (Spec.applies_iff w_frames).mpr ⟨w_running, w_runnable, w_alone, w_named, w_hears, w_ripe, w_room, w_tables⟩
theorem atStart : AtStart classFile x code maxLocals ret World_1 tables_1 room_1 Calls_1 rest_1 Pre_1 launch0 p0 e0 about1 theMethod args0 below0 :=
  ⟨lists_1, trivial, launch0.admits_env _ _ _, launch0.least_env, fairChoices_fair.cas, fairChoices_fair.clock, w_frames, w_args, w_heap, w_applies, trivial, trivial, w_case⟩
end start1
theorem witness_1 : WitnessClaimed_1 := ⟨start1.p0, start1.e0, start1.about1, start1.theMethod, start1.args0, start1.below0, start1.atStart⟩
end Jvm.Pilot.@@N@@
