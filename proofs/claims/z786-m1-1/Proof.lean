import JvmDerived
import JvmDerived.Pilot.@@N@@Statement
import JvmDerived.Pilot.@@N@@Code
set_option linter.unusedVariables false
set_option linter.unusedSimpArgs false
namespace Jvm.Pilot.@@N@@
open Jvm Jvm.ClassFile Sem Op Lib Jvm.Free Jvm.Stand Jvm.LawKit Jvm.RoadKit Bundle Jvm.Pilot.@@N@@.Jvm.D
section OwnLayer
variable {p : Program} {l : Launch} {e : Env} {R : Room} {s : State} {m : MethodId} {args : Array Value} {below : List Frame} {meth : Method} {c : Code} {Z : State} {a0 : Array Value} {n0 : Nat} {own nm : String} {bytes : ByteArray} {ml : Nat} {rt : Option FieldType} {Q : Option Value → Heap → Prop} {h : Heap} {cells slots pc pc' pcY : Nat} {Ls Ls' : Array Slot} {st st' : List Value}
def ushr (x y : Int32) : Int32 := (x.toUInt32 >>> (y &&& 31).toUInt32).toInt32
def ushrL (x : Int64) (y : Int32) : Int64 := (x.toUInt64 >>> (y &&& 0x3f).toInt64.toUInt64).toInt64
/-- what stays the same while a body is walked -/
def OCx (p : Program) (l : Launch) (e : Env) (R : Room) (s : State) (m : MethodId) (args : Array Value) (below : List Frame) (meth : Method) (c : Code) (Z : State) (own nm : String) (bytes : ByteArray) (ml : Nat) (rt : Option FieldType) : Prop :=
  p.tables.exec = Jvm.exec ∧ c.code = bytes ∧ c.maxLocals = ml ∧ meth.sig.returnType = rt ∧ meth.name = nm ∧ meth.locks = false ∧ s.vm.findClass own = some m.cls ∧ Z.Warmed39 s.vm
theorem OCx.ex (K : OCx p l e R s m args below meth c Z own nm bytes ml rt) : p.tables.exec = Jvm.exec := K.1
theorem OCx.by (K : OCx p l e R s m args below meth c Z own nm bytes ml rt) : c.code = bytes := K.2.1
theorem OCx.hml (K : OCx p l e R s m args below meth c Z own nm bytes ml rt) : c.maxLocals = ml := K.2.2.1
theorem OCx.hrt (K : OCx p l e R s m args below meth c Z own nm bytes ml rt) : meth.sig.returnType = rt := K.2.2.2.1
theorem OCx.hnm (K : OCx p l e R s m args below meth c Z own nm bytes ml rt) : meth.name = nm := K.2.2.2.2.1
theorem OCx.lk (K : OCx p l e R s m args below meth c Z own nm bytes ml rt) : meth.locks = false := K.2.2.2.2.2.1
theorem OCx.hown (K : OCx p l e R s m args below meth c Z own nm bytes ml rt) : s.vm.findClass own = some m.cls := K.2.2.2.2.2.2.1
theorem OCx.hZ (K : OCx p l e R s m args below meth c Z own nm bytes ml rt) : Z.Warmed39 s.vm := K.2.2.2.2.2.2.2
/-- from here the body ends as Q says -/
def OGo (p : Program) (l : Launch) (e : Env) (R : Room) (s : State) (m : MethodId) (args : Array Value) (below : List Frame) (meth : Method) (c : Code) (n0 : Nat) (Q : Option Value → Heap → Prop) (h : Heap) (cells slots pc : Nat) (Ls : Array Slot) (st : List Value) : Prop :=
  ∀ (T : State) (locs : List Loc) (k n : Nat), Stand p l e R s m args below meth c T locs k n → T.heap = h → Fr n0 locs → k ≤ cells → n ≤ slots →
    ∃ (s₂ : State) (v : Option Value) (L : List Loc), Steps p.tables e below (T.setTop (mkF m pc Ls st)) s₂ ∧ s₂.status = .running ∧ Ended s₂ below (.returned v) ∧ Q v s₂.heap ∧ Fr n0 L ∧ FrameEnd s (.returned v) s₂ L R.cells R.slots
abbrev OCon (l : Launch) (Z : State) (n0 : Nat) (y : MethodName) (bytes : ByteArray) (maxL : Nat) (ret : Option FieldType) (ws : List Jvm.Cond) (rm : Room) (as' : Array Value) (h0 : Heap) (Q : Option Value → Heap → Prop) : Prop :=
  MetFree l y (head1 (Jvm.Cond.code y bytes maxL ret :: ws) rm) (fun a U => a = as' ∧ Z.Warmed39 U.vm ∧ U.heap = h0) (fun _ _ _ _ _ => True) (fun _ U o U' => ∃ v L, o = .returned v ∧ (Q v U'.heap ∧ Fr n0 L) ∧ FrameEnd U o U' L rm.cells rm.slots)
def OV (P : Value → Heap → Prop) (v : Option Value) (h : Heap) : Prop := ∃ w, v = some w ∧ P w h
def ON (P : Heap → Prop) (v : Option Value) (h : Heap) : Prop := v = none ∧ P h
def own_lay : List Value → List Slot
  | [] => []
  | v :: vs => if v.category = 2 then .val v :: .second :: own_lay vs else .val v :: own_lay vs
theorem own_lay_fold (vs : List Value) (acc : Array Slot) : vs.foldl (fun acc v => if v.category = 2 then (acc.push (.val v)).push .second else acc.push (.val v)) acc = acc ++ (own_lay vs).toArray := by
  induction vs generalizing acc with
  | nil => simp [own_lay]
  | cons v vs ih =>
    rw [List.foldl_cons, ih]
    simp only [own_lay]
    split <;> simp
theorem own_entry (m : MethodId) {vs : List Value} {n : Nat} {L : List Slot} (h : own_lay vs ++ List.replicate (n - (own_lay vs).length) .unset = L) : entryFrame m vs.toArray n = mkF m 0 L.toArray [] := by
  unfold entryFrame mkF argsToLocals
  subst h
  simp [own_lay_fold]
theorem OCon.of {y : MethodName} {maxL : Nat} {ret : Option FieldType} {ws : List Jvm.Cond} {rm : Room} {as' : Array Value} {h0 : Heap} (hpl : plainFor y = true) (hf : ∀ m, entryFrame m as' maxL = mkF m 0 Ls [])
    (body : ∀ p e s m below meth c, OCx p l e rm s m as' below meth c Z y.cls y.name bytes maxL ret → OGo p l e rm s m as' below meth c n0 Q h0 0 0 0 Ls []) : OCon l Z n0 y bytes maxL ret ws rm as' h0 Q := by
  refine MetFree.of_bodySF hpl hisR ?_
  intro p e s m args below meth c s₁ Bd hml0 hP hK
  obtain ⟨rfl, hZ, hh⟩ := hP
  have X0 : Stand p l e rm s m _ below meth c s₁ [] 0 0 := Stand.of_body Bd
  have e0 : s₁.heap = h0 := by rw [← hh, Bd.state]; rfl
  obtain ⟨s₂, v, L, h1, h2, h3, h4, h5, h6⟩ := body p e s m below meth c ⟨Bd.exec, Bd.bytes, hml0, Bd.returns, (name_of_methodNamed Bd.named Bd.method).1, BodyLoose.notSynchronized Bd, findClass_of_methodNamed Bd.named, hZ⟩ s₁ [] 0 0 X0 e0 (Fr.nil n0) (Nat.le_refl _) (Nat.le_refl _)
  exact ⟨s₂, _, castTop (hf m) h1, h2, h3, v, L, rfl, ⟨h4, h5⟩, h6⟩
theorem OCon.mono {y : MethodName} {maxL : Nat} {ret : Option FieldType} {ws : List Jvm.Cond} {rm : Room} {as' : Array Value} {h0 : Heap} {Q' : Option Value → Heap → Prop} (H : OCon l Z n0 y bytes maxL ret ws rm as' h0 Q) (k : ∀ v h, Q v h → Q' v h) : OCon l Z n0 y bytes maxL ret ws rm as' h0 Q' := by
  intro p e ha hc hk s m args below hf happ hP hK
  obtain ⟨n, o, h1, h2, h3, v, L, h4, ⟨h5, h6⟩, h7⟩ := H p e ha hc hk s m args below hf happ hP hK
  exact ⟨n, o, h1, h2, h3, v, L, h4, ⟨k _ _ h5, h6⟩, h7⟩
theorem OGo.more {cells' slots' : Nat} (r : OGo p l e R s m args below meth c n0 Q h cells' slots' pc Ls st) (hc : cells ≤ cells') (hs : slots ≤ slots') : OGo p l e R s m args below meth c n0 Q h cells slots pc Ls st :=
  fun T locs k n X e0 N h1 h2 => r T locs k n X e0 N (Nat.le_trans h1 hc) (Nat.le_trans h2 hs)
theorem OGo.plain (hs : ∀ (T t : State), At T m c below → Steps p.tables e below (T.setTop (mkF m pc' Ls' st')) t → Steps p.tables e below (T.setTop (mkF m pc Ls st)) t) (r : OGo p l e R s m args below meth c n0 Q h cells slots pc' Ls' st') : OGo p l e R s m args below meth c n0 Q h cells slots pc Ls st := by
  intro T locs k n X e0 N h1 h2
  obtain ⟨s₂, v, L, g, r'⟩ := r T locs k n X e0 N h1 h2
  exact ⟨s₂, v, L, hs T s₂ X.here g, r'⟩
theorem OGo.same (hs : ∀ (T : State) (locs : List Loc) (k n : Nat), Stand p l e R s m args below meth c T locs k n → T.heap = h → ∃ T', Stand p l e R s m args below meth c T' locs k n ∧ T'.heap = h ∧ ∀ t, Steps p.tables e below (T'.setTop (mkF m pc' Ls' st')) t → Steps p.tables e below (T.setTop (mkF m pc Ls st)) t) (r : OGo p l e R s m args below meth c n0 Q h cells slots pc' Ls' st') : OGo p l e R s m args below meth c n0 Q h cells slots pc Ls st := by
  intro T locs k n X e0 N h1 h2
  obtain ⟨T', X', e', st'⟩ := hs T locs k n X e0
  obtain ⟨s₂, v, L, g, r'⟩ := r T' locs k n X' e' N h1 h2
  exact ⟨s₂, v, L, st' _ g, r'⟩
/-- a step that writes one place a -/
theorem OGo.write {a : Addr} {sl : Nat} {v : Value} (ga : n0 ≤ a) (hs : ∀ (T : State) (locs : List Loc) (k n : Nat), Stand p l e R s m args below meth c T locs k n → T.heap = h → ∃ T' h', Stand p l e R s m args below meth c T' (locs ++ [⟨a, sl⟩]) k n ∧ T'.heap = h' ∧ Wr h h' a sl v ∧ ∀ t, Steps p.tables e below (T'.setTop (mkF m pc' Ls' st')) t → Steps p.tables e below (T.setTop (mkF m pc Ls st)) t)
    (r : ∀ h', Wr h h' a sl v → OGo p l e R s m args below meth c n0 Q h' cells slots pc' Ls' st') : OGo p l e R s m args below meth c n0 Q h cells slots pc Ls st := by
  intro T locs k n X e0 N h1 h2
  obtain ⟨T', h', X', e', W, st'⟩ := hs T locs k n X e0
  obtain ⟨s₂, v, L, g, r'⟩ := r h' W T' _ k n X' e' (Fr.snoc X' N ga) h1 h2
  exact ⟨s₂, v, L, st' _ g, r'⟩
theorem OGo.leave {w : Option Value} (K : OCx p l e R s m args below meth c Z own nm bytes ml rt) (hv : rt = none → w = none) (hs : ∀ (T : State) (locs : List Loc) (k n : Nat) (fs : List Frame), Stand p l e R s m args below meth c T locs k n → (∀ (f : JFrame) (acts : List Action), f.method = m → f.locked = none → f.entered = [] → (doReturn e (T.setTop f) acts w).1 = T.setFrames fs) → Steps p.tables e below (T.setTop (mkF m pc Ls st)) (T.setFrames fs))
    (hc : cells ≤ R.cells) (hl : slots ≤ R.slots) (q : Q w h) : OGo p l e R s m args below meth c n0 Q h cells slots pc Ls st := by
  intro T locs k n X e0 N h1 h2
  obtain ⟨fs, hr, hrun, hended, hW, hsame⟩ := X.leave (v := w) (fun x => hv (K.hrt.symm.trans x)) K.lk
  refine ⟨_, w, locs, hs T locs k n fs X hr, hrun, hended, ?_, N, ⟨_, rfl⟩, hW, hsame.mono (Nat.le_trans h1 hc) (Nat.le_trans h2 hl)⟩
  show Q w T.heap
  rw [e0]; exact q
theorem OGo.ret {w : Value} {t : FieldType} {i : Instr} {rest : List Value} (K : OCx p l e R s m args below meth c Z own nm bytes ml (some t)) (hd : decode bytes pc = .ok (i, 1)) (hn : narrow t w = w)
    (hi : (i = .ireturn ∧ (t = .int ∨ t = .boolean ∨ t = .byte ∨ t = .char ∨ t = .short) ∧ ∃ z, w = .int z) ∨ (i = .lreturn ∧ t = .long ∧ ∃ z, w = .long z) ∨ (i = .dreturn ∧ t = .double ∧ ∃ z, w = .double z) ∨ (i = .freturn ∧ t = .float ∧ ∃ z, w = .float z) ∨ (i = .areturn ∧ t.isReference = true ∧ w.isRef = true))
    (hc : cells ≤ R.cells) (hl : slots ≤ R.slots) (q : Q (some w) h) : OGo p l e R s m args below meth c n0 Q h cells slots pc Ls (w :: rest) :=
  OGo.leave K (fun x => nomatch x) (fun T locs k n fs X hr => retOut X K.ex K.hrt hn hi (hb K.by hd) hr) hc hl q
theorem OGo.iret {z : Int32} {rest : List Value} (K : OCx p l e R s m args below meth c Z own nm bytes ml (some .int)) (hd : decode bytes pc = .ok (.ireturn, 1)) (hc : cells ≤ R.cells) (hl : slots ≤ R.slots) (q : Q (some (.int z)) h) : OGo p l e R s m args below meth c n0 Q h cells slots pc Ls (.int z :: rest) :=
  OGo.ret K hd rfl (Or.inl ⟨rfl, Or.inl rfl, z, rfl⟩) hc hl q
theorem OGo.nret {z : Int32} {t : FieldType} {rest : List Value} (K : OCx p l e R s m args below meth c Z own nm bytes ml (some t)) (ht : t = .boolean ∨ t = .byte ∨ t = .char ∨ t = .short) (hd : decode bytes pc = .ok (.ireturn, 1)) (hc : cells ≤ R.cells) (hl : slots ≤ R.slots) (q : Q (some (.int (nar t z))) h) : OGo p l e R s m args below meth c n0 Q h cells slots pc Ls (.int z :: rest) :=
  OGo.leave K (fun x => nomatch x) (fun T locs k n fs X hr => retN X K.ex K.hrt ht (hb K.by hd) hr) hc hl q
theorem OGo.lret {z : Int64} {rest : List Value} (K : OCx p l e R s m args below meth c Z own nm bytes ml (some .long)) (hd : decode bytes pc = .ok (.lreturn, 1)) (hc : cells ≤ R.cells) (hl : slots ≤ R.slots) (q : Q (some (.long z)) h) : OGo p l e R s m args below meth c n0 Q h cells slots pc Ls (.long z :: rest) :=
  OGo.ret K hd rfl (Or.inr (Or.inl ⟨rfl, rfl, z, rfl⟩)) hc hl q
theorem OGo.dret {z : UInt64} {rest : List Value} (K : OCx p l e R s m args below meth c Z own nm bytes ml (some .double)) (hd : decode bytes pc = .ok (.dreturn, 1)) (hc : cells ≤ R.cells) (hl : slots ≤ R.slots) (q : Q (some (.double z)) h) : OGo p l e R s m args below meth c n0 Q h cells slots pc Ls (.double z :: rest) :=
  OGo.ret K hd rfl (Or.inr (Or.inr (Or.inl ⟨rfl, rfl, z, rfl⟩))) hc hl q
theorem OGo.aret {w : Value} {t : FieldType} {rest : List Value} (K : OCx p l e R s m args below meth c Z own nm bytes ml (some t)) (hd : decode bytes pc = .ok (.areturn, 1)) (ht : t.isReference = true) (hw : w.isRef = true) (hc : cells ≤ R.cells) (hl : slots ≤ R.slots) (q : Q (some w) h) : OGo p l e R s m args below meth c n0 Q h cells slots pc Ls (w :: rest) :=
  OGo.ret K hd (by cases t <;> first | (cases ht; done) | (cases w <;> first | (cases hw; done) | rfl)) (Or.inr (Or.inr (Or.inr (Or.inr ⟨rfl, ht, hw⟩)))) hc hl q
theorem OGo.vret (K : OCx p l e R s m args below meth c Z own nm bytes ml none) (hd : decode bytes pc = .ok (.return_, 1)) (hc : cells ≤ R.cells) (hl : slots ≤ R.slots) (q : Q none h) : OGo p l e R s m args below meth c n0 Q h cells slots pc Ls [] :=
  OGo.leave K (fun _ => rfl) (fun T locs k n fs X hr => X.returnOut K.ex K.hrt (hb K.by hd) hr) hc hl q

theorem OGo.iload (K : OCx p l e R s m args below meth c Z own nm bytes ml rt) {k : Nat} {v : Int32} (hd : decode bytes pc = .ok (.iload k, 2)) (hp : pc + 2 = pc') (hl : Ls[k]? = some (.val (.int v))) (r : OGo p l e R s m args below meth c n0 Q h cells slots pc' Ls (.int v :: st)) : OGo p l e R s m args below meth c n0 Q h cells slots pc Ls st := by
  subst hp
  exact OGo.plain (fun T t hA q => XS.iload hA K.ex rfl (hb K.by hd) hl q) r
theorem OGo.iloadN (K : OCx p l e R s m args below meth c Z own nm bytes ml rt) {k : Fin 4} {v : Int32} (hd : decode bytes pc = .ok (.iload_n k, 1)) (hp : pc + 1 = pc') (hl : Ls[k.val]? = some (.val (.int v))) (r : OGo p l e R s m args below meth c n0 Q h cells slots pc' Ls (.int v :: st)) : OGo p l e R s m args below meth c n0 Q h cells slots pc Ls st := by
  subst hp
  exact OGo.plain (fun T t hA q => XS.iloadN hA K.ex rfl (hb K.by hd) hl q) r
theorem OGo.lload (K : OCx p l e R s m args below meth c Z own nm bytes ml rt) {k : Nat} {v : Int64} (hd : decode bytes pc = .ok (.lload k, 2)) (hp : pc + 2 = pc') (hl : Ls[k]? = some (.val (.long v))) (r : OGo p l e R s m args below meth c n0 Q h cells slots pc' Ls (.long v :: st)) : OGo p l e R s m args below meth c n0 Q h cells slots pc Ls st := by
  subst hp
  exact OGo.plain (fun T t hA q => XS.lload hA K.ex rfl (hb K.by hd) hl q) r
theorem OGo.lloadN (K : OCx p l e R s m args below meth c Z own nm bytes ml rt) {k : Fin 4} {v : Int64} (hd : decode bytes pc = .ok (.lload_n k, 1)) (hp : pc + 1 = pc') (hl : Ls[k.val]? = some (.val (.long v))) (r : OGo p l e R s m args below meth c n0 Q h cells slots pc' Ls (.long v :: st)) : OGo p l e R s m args below meth c n0 Q h cells slots pc Ls st := by
  subst hp
  exact OGo.plain (fun T t hA q => XS.lloadN hA K.ex rfl (hb K.by hd) hl q) r
theorem OGo.aload (K : OCx p l e R s m args below meth c Z own nm bytes ml rt) {k : Nat} {v : Value} (hd : decode bytes pc = .ok (.aload k, 2)) (hp : pc + 2 = pc') (hl : Ls[k]? = some (.val v)) (hv : v.isRef = true) (r : OGo p l e R s m args below meth c n0 Q h cells slots pc' Ls (v :: st)) : OGo p l e R s m args below meth c n0 Q h cells slots pc Ls st := by
  subst hp
  exact OGo.plain (fun T t hA q => XS.aload hA K.ex rfl (hb K.by hd) hl hv q) r
theorem OGo.aloadN (K : OCx p l e R s m args below meth c Z own nm bytes ml rt) {k : Fin 4} {v : Value} (hd : decode bytes pc = .ok (.aload_n k, 1)) (hp : pc + 1 = pc') (hl : Ls[k.val]? = some (.val v)) (hv : v.isRef = true) (r : OGo p l e R s m args below meth c n0 Q h cells slots pc' Ls (v :: st)) : OGo p l e R s m args below meth c n0 Q h cells slots pc Ls st := by
  subst hp
  exact OGo.plain (fun T t hA q => XS.aloadN hA K.ex rfl (hb K.by hd) hl hv q) r
theorem OGo.istore (K : OCx p l e R s m args below meth c Z own nm bytes ml rt) {k : Nat} {v : Int32} (hd : decode bytes pc = .ok (.istore k, 2)) (hp : pc + 2 = pc') (hl : storeLocals Ls k (.int v) = some Ls') (r : OGo p l e R s m args below meth c n0 Q h cells slots pc' Ls' st) : OGo p l e R s m args below meth c n0 Q h cells slots pc Ls (.int v :: st) := by
  subst hp
  exact OGo.plain (fun T t hA q => XS.istore hA K.ex rfl (hb K.by hd) rfl hl q) r
theorem OGo.istoreN (K : OCx p l e R s m args below meth c Z own nm bytes ml rt) {k : Fin 4} {v : Int32} (hd : decode bytes pc = .ok (.istore_n k, 1)) (hp : pc + 1 = pc') (hl : storeLocals Ls k.val (.int v) = some Ls') (r : OGo p l e R s m args below meth c n0 Q h cells slots pc' Ls' st) : OGo p l e R s m args below meth c n0 Q h cells slots pc Ls (.int v :: st) := by
  subst hp
  exact OGo.plain (fun T t hA q => XS.istoreN hA K.ex rfl (hb K.by hd) rfl hl q) r
theorem OGo.lstore (K : OCx p l e R s m args below meth c Z own nm bytes ml rt) {k : Nat} {v : Int64} (hd : decode bytes pc = .ok (.lstore k, 2)) (hp : pc + 2 = pc') (hl : storeLocals Ls k (.long v) = some Ls') (r : OGo p l e R s m args below meth c n0 Q h cells slots pc' Ls' st) : OGo p l e R s m args below meth c n0 Q h cells slots pc Ls (.long v :: st) := by
  subst hp
  exact OGo.plain (fun T t hA q => XS.lstore hA K.ex rfl (hb K.by hd) rfl hl q) r
theorem OGo.lstoreN (K : OCx p l e R s m args below meth c Z own nm bytes ml rt) {k : Fin 4} {v : Int64} (hd : decode bytes pc = .ok (.lstore_n k, 1)) (hp : pc + 1 = pc') (hl : storeLocals Ls k.val (.long v) = some Ls') (r : OGo p l e R s m args below meth c n0 Q h cells slots pc' Ls' st) : OGo p l e R s m args below meth c n0 Q h cells slots pc Ls (.long v :: st) := by
  subst hp
  exact OGo.plain (fun T t hA q => XS.lstoreN hA K.ex rfl (hb K.by hd) rfl hl q) r
theorem OGo.astore (K : OCx p l e R s m args below meth c Z own nm bytes ml rt) {k : Nat} {v : Value} (hd : decode bytes pc = .ok (.astore k, 2)) (hp : pc + 2 = pc') (hv : v.isRef = true) (hl : storeLocals Ls k v = some Ls') (r : OGo p l e R s m args below meth c n0 Q h cells slots pc' Ls' st) : OGo p l e R s m args below meth c n0 Q h cells slots pc Ls (v :: st) := by
  subst hp
  exact OGo.plain (fun T t hA q => XS.astore hA K.ex rfl (hb K.by hd) rfl hv hl q) r
theorem OGo.astoreN (K : OCx p l e R s m args below meth c Z own nm bytes ml rt) {k : Fin 4} {v : Value} (hd : decode bytes pc = .ok (.astore_n k, 1)) (hp : pc + 1 = pc') (hv : v.isRef = true) (hl : storeLocals Ls k.val v = some Ls') (r : OGo p l e R s m args below meth c n0 Q h cells slots pc' Ls' st) : OGo p l e R s m args below meth c n0 Q h cells slots pc Ls (v :: st) := by
  subst hp
  exact OGo.plain (fun T t hA q => XS.astoreN hA K.ex rfl (hb K.by hd) rfl hv hl q) r
theorem OGo.iconst (K : OCx p l e R s m args below meth c Z own nm bytes ml rt) {i : Int} {z : Int32} (hd : decode bytes pc = .ok (.iconst i, 1)) (hp : pc + 1 = pc') (hz : Int32.ofInt i = z) (r : OGo p l e R s m args below meth c n0 Q h cells slots pc' Ls (.int z :: st)) : OGo p l e R s m args below meth c n0 Q h cells slots pc Ls st := by
  subst hp
  exact OGo.plain (fun T t hA q => XS.iconst hA K.ex rfl (hb K.by hd) (by rw [hz]; exact q)) r
theorem OGo.bipush (K : OCx p l e R s m args below meth c Z own nm bytes ml rt) {i : Int} {z : Int32} (hd : decode bytes pc = .ok (.bipush i, 2)) (hp : pc + 2 = pc') (hz : (Int8.ofInt i).toInt32 = z) (r : OGo p l e R s m args below meth c n0 Q h cells slots pc' Ls (.int z :: st)) : OGo p l e R s m args below meth c n0 Q h cells slots pc Ls st := by
  subst hp
  exact OGo.plain (fun T t hA q => XS.bipush hA K.ex rfl (hb K.by hd) (by rw [hz]; exact q)) r
theorem OGo.sipush (K : OCx p l e R s m args below meth c Z own nm bytes ml rt) {i : Int} {z : Int32} (hd : decode bytes pc = .ok (.sipush i, 3)) (hp : pc + 3 = pc') (hz : (Int16.ofInt i).toInt32 = z) (r : OGo p l e R s m args below meth c n0 Q h cells slots pc' Ls (.int z :: st)) : OGo p l e R s m args below meth c n0 Q h cells slots pc Ls st := by
  subst hp
  exact OGo.plain (fun T t hA q => XS.sipush hA K.ex rfl (hb K.by hd) (by rw [hz]; exact q)) r
theorem OGo.lconst (K : OCx p l e R s m args below meth c Z own nm bytes ml rt) {i : Fin 2} {z : Int64} (hd : decode bytes pc = .ok (.lconst i, 1)) (hp : pc + 1 = pc') (hz : Int64.ofNat i = z) (r : OGo p l e R s m args below meth c n0 Q h cells slots pc' Ls (.long z :: st)) : OGo p l e R s m args below meth c n0 Q h cells slots pc Ls st := by
  subst hp
  exact OGo.plain (fun T t hA q => XS.lconst hA K.ex rfl (hb K.by hd) (by rw [hz]; exact q)) r
theorem OGo.aconstNull (K : OCx p l e R s m args below meth c Z own nm bytes ml rt) (hd : decode bytes pc = .ok (.aconst_null, 1)) (hp : pc + 1 = pc') (r : OGo p l e R s m args below meth c n0 Q h cells slots pc' Ls (.null :: st)) : OGo p l e R s m args below meth c n0 Q h cells slots pc Ls st := by
  subst hp
  exact OGo.plain (fun T t hA q => XS.aconstNull hA K.ex rfl (hb K.by hd) q) r
theorem OGo.iadd (K : OCx p l e R s m args below meth c Z own nm bytes ml rt) {x y : Int32} (hd : decode bytes pc = .ok (.iadd, 1)) (hp : pc + 1 = pc') (r : OGo p l e R s m args below meth c n0 Q h cells slots pc' Ls (.int (x + y) :: st)) : OGo p l e R s m args below meth c n0 Q h cells slots pc Ls (.int y :: .int x :: st) := by
  subst hp
  exact OGo.plain (fun T t hA q => XS.iadd hA K.ex rfl (hb K.by hd) rfl q) r
theorem OGo.isub (K : OCx p l e R s m args below meth c Z own nm bytes ml rt) {x y : Int32} (hd : decode bytes pc = .ok (.isub, 1)) (hp : pc + 1 = pc') (r : OGo p l e R s m args below meth c n0 Q h cells slots pc' Ls (.int (x - y) :: st)) : OGo p l e R s m args below meth c n0 Q h cells slots pc Ls (.int y :: .int x :: st) := by
  subst hp
  exact OGo.plain (fun T t hA q => XS.isub hA K.ex rfl (hb K.by hd) rfl q) r
theorem OGo.imul (K : OCx p l e R s m args below meth c Z own nm bytes ml rt) {x y : Int32} (hd : decode bytes pc = .ok (.imul, 1)) (hp : pc + 1 = pc') (r : OGo p l e R s m args below meth c n0 Q h cells slots pc' Ls (.int (x * y) :: st)) : OGo p l e R s m args below meth c n0 Q h cells slots pc Ls (.int y :: .int x :: st) := by
  subst hp
  exact OGo.plain (fun T t hA q => XS.imul hA K.ex rfl (hb K.by hd) rfl q) r
theorem OGo.iand (K : OCx p l e R s m args below meth c Z own nm bytes ml rt) {x y : Int32} (hd : decode bytes pc = .ok (.iand, 1)) (hp : pc + 1 = pc') (r : OGo p l e R s m args below meth c n0 Q h cells slots pc' Ls (.int (x &&& y) :: st)) : OGo p l e R s m args below meth c n0 Q h cells slots pc Ls (.int y :: .int x :: st) := by
  subst hp
  exact OGo.plain (fun T t hA q => XS.iand hA K.ex rfl (hb K.by hd) rfl q) r
theorem OGo.ior (K : OCx p l e R s m args below meth c Z own nm bytes ml rt) {x y : Int32} (hd : decode bytes pc = .ok (.ior, 1)) (hp : pc + 1 = pc') (r : OGo p l e R s m args below meth c n0 Q h cells slots pc' Ls (.int (x ||| y) :: st)) : OGo p l e R s m args below meth c n0 Q h cells slots pc Ls (.int y :: .int x :: st) := by
  subst hp
  exact OGo.plain (fun T t hA q => XS.ior hA K.ex rfl (hb K.by hd) rfl q) r
theorem OGo.ixor (K : OCx p l e R s m args below meth c Z own nm bytes ml rt) {x y : Int32} (hd : decode bytes pc = .ok (.ixor, 1)) (hp : pc + 1 = pc') (r : OGo p l e R s m args below meth c n0 Q h cells slots pc' Ls (.int (x ^^^ y) :: st)) : OGo p l e R s m args below meth c n0 Q h cells slots pc Ls (.int y :: .int x :: st) := by
  subst hp
  exact OGo.plain (fun T t hA q => XS.ixor hA K.ex rfl (hb K.by hd) rfl q) r
theorem OGo.ladd (K : OCx p l e R s m args below meth c Z own nm bytes ml rt) {x y : Int64} (hd : decode bytes pc = .ok (.ladd, 1)) (hp : pc + 1 = pc') (r : OGo p l e R s m args below meth c n0 Q h cells slots pc' Ls (.long (x + y) :: st)) : OGo p l e R s m args below meth c n0 Q h cells slots pc Ls (.long y :: .long x :: st) := by
  subst hp
  exact OGo.plain (fun T t hA q => XS.ladd hA K.ex rfl (hb K.by hd) rfl q) r
theorem OGo.lsub (K : OCx p l e R s m args below meth c Z own nm bytes ml rt) {x y : Int64} (hd : decode bytes pc = .ok (.lsub, 1)) (hp : pc + 1 = pc') (r : OGo p l e R s m args below meth c n0 Q h cells slots pc' Ls (.long (x - y) :: st)) : OGo p l e R s m args below meth c n0 Q h cells slots pc Ls (.long y :: .long x :: st) := by
  subst hp
  exact OGo.plain (fun T t hA q => XS.lsub hA K.ex rfl (hb K.by hd) rfl q) r
theorem OGo.lmul (K : OCx p l e R s m args below meth c Z own nm bytes ml rt) {x y : Int64} (hd : decode bytes pc = .ok (.lmul, 1)) (hp : pc + 1 = pc') (r : OGo p l e R s m args below meth c n0 Q h cells slots pc' Ls (.long (x * y) :: st)) : OGo p l e R s m args below meth c n0 Q h cells slots pc Ls (.long y :: .long x :: st) := by
  subst hp
  exact OGo.plain (fun T t hA q => XS.lmul hA K.ex rfl (hb K.by hd) rfl q) r
theorem OGo.land (K : OCx p l e R s m args below meth c Z own nm bytes ml rt) {x y : Int64} (hd : decode bytes pc = .ok (.land, 1)) (hp : pc + 1 = pc') (r : OGo p l e R s m args below meth c n0 Q h cells slots pc' Ls (.long (x &&& y) :: st)) : OGo p l e R s m args below meth c n0 Q h cells slots pc Ls (.long y :: .long x :: st) := by
  subst hp
  exact OGo.plain (fun T t hA q => XS.land hA K.ex rfl (hb K.by hd) rfl q) r
theorem OGo.lor (K : OCx p l e R s m args below meth c Z own nm bytes ml rt) {x y : Int64} (hd : decode bytes pc = .ok (.lor, 1)) (hp : pc + 1 = pc') (r : OGo p l e R s m args below meth c n0 Q h cells slots pc' Ls (.long (x ||| y) :: st)) : OGo p l e R s m args below meth c n0 Q h cells slots pc Ls (.long y :: .long x :: st) := by
  subst hp
  exact OGo.plain (fun T t hA q => XS.lor hA K.ex rfl (hb K.by hd) rfl q) r
theorem OGo.lxor (K : OCx p l e R s m args below meth c Z own nm bytes ml rt) {x y : Int64} (hd : decode bytes pc = .ok (.lxor, 1)) (hp : pc + 1 = pc') (r : OGo p l e R s m args below meth c n0 Q h cells slots pc' Ls (.long (x ^^^ y) :: st)) : OGo p l e R s m args below meth c n0 Q h cells slots pc Ls (.long y :: .long x :: st) := by
  subst hp
  exact OGo.plain (fun T t hA q => XS.lxor hA K.ex rfl (hb K.by hd) rfl q) r
theorem OGo.ishl (K : OCx p l e R s m args below meth c Z own nm bytes ml rt) {x y : Int32} (hd : decode bytes pc = .ok (.ishl, 1)) (hp : pc + 1 = pc') (r : OGo p l e R s m args below meth c n0 Q h cells slots pc' Ls (.int (x <<< (y &&& 31)) :: st)) : OGo p l e R s m args below meth c n0 Q h cells slots pc Ls (.int y :: .int x :: st) := by
  subst hp
  exact OGo.plain (fun T t hA q => XS.ishl hA K.ex rfl (hb K.by hd) rfl q) r
theorem OGo.ishr (K : OCx p l e R s m args below meth c Z own nm bytes ml rt) {x y : Int32} (hd : decode bytes pc = .ok (.ishr, 1)) (hp : pc + 1 = pc') (r : OGo p l e R s m args below meth c n0 Q h cells slots pc' Ls (.int (x >>> (y &&& 31)) :: st)) : OGo p l e R s m args below meth c n0 Q h cells slots pc Ls (.int y :: .int x :: st) := by
  subst hp
  exact OGo.plain (fun T t hA q => XS.ishr hA K.ex rfl (hb K.by hd) rfl q) r
theorem OGo.iushr (K : OCx p l e R s m args below meth c Z own nm bytes ml rt) {x y : Int32} (hd : decode bytes pc = .ok (.iushr, 1)) (hp : pc + 1 = pc') (r : OGo p l e R s m args below meth c n0 Q h cells slots pc' Ls (.int (ushr x y) :: st)) : OGo p l e R s m args below meth c n0 Q h cells slots pc Ls (.int y :: .int x :: st) := by
  subst hp
  exact OGo.plain (fun T t hA q => XS.iushr hA K.ex rfl (hb K.by hd) rfl q) r
theorem OGo.lshl (K : OCx p l e R s m args below meth c Z own nm bytes ml rt) {x : Int64} {y : Int32} (hd : decode bytes pc = .ok (.lshl, 1)) (hp : pc + 1 = pc') (r : OGo p l e R s m args below meth c n0 Q h cells slots pc' Ls (.long (x <<< (y &&& 63).toInt64) :: st)) : OGo p l e R s m args below meth c n0 Q h cells slots pc Ls (.int y :: .long x :: st) := by
  subst hp
  exact OGo.plain (fun T t hA q => XS.lshl hA K.ex rfl (hb K.by hd) rfl q) r
theorem OGo.lshr (K : OCx p l e R s m args below meth c Z own nm bytes ml rt) {x : Int64} {y : Int32} (hd : decode bytes pc = .ok (.lshr, 1)) (hp : pc + 1 = pc') (r : OGo p l e R s m args below meth c n0 Q h cells slots pc' Ls (.long (x >>> (y &&& 63).toInt64) :: st)) : OGo p l e R s m args below meth c n0 Q h cells slots pc Ls (.int y :: .long x :: st) := by
  subst hp
  exact OGo.plain (fun T t hA q => XS.lshr hA K.ex rfl (hb K.by hd) rfl q) r
theorem OGo.lushr (K : OCx p l e R s m args below meth c Z own nm bytes ml rt) {x : Int64} {y : Int32} (hd : decode bytes pc = .ok (.lushr, 1)) (hp : pc + 1 = pc') (r : OGo p l e R s m args below meth c n0 Q h cells slots pc' Ls (.long (ushrL x y) :: st)) : OGo p l e R s m args below meth c n0 Q h cells slots pc Ls (.int y :: .long x :: st) := by
  subst hp
  exact OGo.plain (fun T t hA q => XS.lushr hA K.ex rfl (hb K.by hd) rfl q) r
theorem OGo.idiv (K : OCx p l e R s m args below meth c Z own nm bytes ml rt) {x y : Int32} (hd : decode bytes pc = .ok (.idiv, 1)) (hp : pc + 1 = pc') (hy : y ≠ 0) (r : OGo p l e R s m args below meth c n0 Q h cells slots pc' Ls (.int (x / y) :: st)) : OGo p l e R s m args below meth c n0 Q h cells slots pc Ls (.int y :: .int x :: st) := by
  subst hp
  exact OGo.plain (fun T t hA q => XS.idiv hA K.ex rfl (hb K.by hd) rfl hy q) r
theorem OGo.irem (K : OCx p l e R s m args below meth c Z own nm bytes ml rt) {x y : Int32} (hd : decode bytes pc = .ok (.irem, 1)) (hp : pc + 1 = pc') (hy : y ≠ 0) (r : OGo p l e R s m args below meth c n0 Q h cells slots pc' Ls (.int (x % y) :: st)) : OGo p l e R s m args below meth c n0 Q h cells slots pc Ls (.int y :: .int x :: st) := by
  subst hp
  exact OGo.plain (fun T t hA q => XS.irem hA K.ex rfl (hb K.by hd) rfl hy (by rw [show x - x / y * y = x % y from irem_eq_mod x y]; exact q)) r
theorem OGo.ldiv (K : OCx p l e R s m args below meth c Z own nm bytes ml rt) {x y : Int64} (hd : decode bytes pc = .ok (.ldiv, 1)) (hp : pc + 1 = pc') (hy : y ≠ 0) (r : OGo p l e R s m args below meth c n0 Q h cells slots pc' Ls (.long (x / y) :: st)) : OGo p l e R s m args below meth c n0 Q h cells slots pc Ls (.long y :: .long x :: st) := by
  subst hp
  exact OGo.plain (fun T t hA q => XS.ldiv hA K.ex rfl (hb K.by hd) rfl hy q) r
theorem OGo.lrem (K : OCx p l e R s m args below meth c Z own nm bytes ml rt) {x y : Int64} (hd : decode bytes pc = .ok (.lrem, 1)) (hp : pc + 1 = pc') (hy : y ≠ 0) (r : OGo p l e R s m args below meth c n0 Q h cells slots pc' Ls (.long (x - (x / y) * y) :: st)) : OGo p l e R s m args below meth c n0 Q h cells slots pc Ls (.long y :: .long x :: st) := by
  subst hp
  exact OGo.plain (fun T t hA q => XS.lrem hA K.ex rfl (hb K.by hd) rfl hy q) r
theorem OGo.ineg (K : OCx p l e R s m args below meth c Z own nm bytes ml rt) {x : Int32} (hd : decode bytes pc = .ok (.ineg, 1)) (hp : pc + 1 = pc') (r : OGo p l e R s m args below meth c n0 Q h cells slots pc' Ls (.int (-x) :: st)) : OGo p l e R s m args below meth c n0 Q h cells slots pc Ls (.int x :: st) := by
  subst hp
  exact OGo.plain (fun T t hA q => XS.ineg hA K.ex rfl (hb K.by hd) rfl q) r
theorem OGo.lneg (K : OCx p l e R s m args below meth c Z own nm bytes ml rt) {x : Int64} (hd : decode bytes pc = .ok (.lneg, 1)) (hp : pc + 1 = pc') (r : OGo p l e R s m args below meth c n0 Q h cells slots pc' Ls (.long (-x) :: st)) : OGo p l e R s m args below meth c n0 Q h cells slots pc Ls (.long x :: st) := by
  subst hp
  exact OGo.plain (fun T t hA q => XS.lneg hA K.ex rfl (hb K.by hd) rfl q) r
theorem OGo.i2l (K : OCx p l e R s m args below meth c Z own nm bytes ml rt) {x : Int32} (hd : decode bytes pc = .ok (.i2l, 1)) (hp : pc + 1 = pc') (r : OGo p l e R s m args below meth c n0 Q h cells slots pc' Ls (.long x.toInt64 :: st)) : OGo p l e R s m args below meth c n0 Q h cells slots pc Ls (.int x :: st) := by
  subst hp
  exact OGo.plain (fun T t hA q => XS.i2l hA K.ex rfl (hb K.by hd) rfl q) r
theorem OGo.l2i (K : OCx p l e R s m args below meth c Z own nm bytes ml rt) {x : Int64} (hd : decode bytes pc = .ok (.l2i, 1)) (hp : pc + 1 = pc') (r : OGo p l e R s m args below meth c n0 Q h cells slots pc' Ls (.int x.toInt32 :: st)) : OGo p l e R s m args below meth c n0 Q h cells slots pc Ls (.long x :: st) := by
  subst hp
  exact OGo.plain (fun T t hA q => XS.l2i hA K.ex rfl (hb K.by hd) rfl q) r
theorem OGo.i2b (K : OCx p l e R s m args below meth c Z own nm bytes ml rt) {x : Int32} (hd : decode bytes pc = .ok (.i2b, 1)) (hp : pc + 1 = pc') (r : OGo p l e R s m args below meth c n0 Q h cells slots pc' Ls (.int x.toInt8.toInt32 :: st)) : OGo p l e R s m args below meth c n0 Q h cells slots pc Ls (.int x :: st) := by
  subst hp
  exact OGo.plain (fun T t hA q => XS.i2b hA K.ex rfl (hb K.by hd) rfl q) r
theorem OGo.i2s (K : OCx p l e R s m args below meth c Z own nm bytes ml rt) {x : Int32} (hd : decode bytes pc = .ok (.i2s, 1)) (hp : pc + 1 = pc') (r : OGo p l e R s m args below meth c n0 Q h cells slots pc' Ls (.int x.toInt16.toInt32 :: st)) : OGo p l e R s m args below meth c n0 Q h cells slots pc Ls (.int x :: st) := by
  subst hp
  exact OGo.plain (fun T t hA q => XS.i2s hA K.ex rfl (hb K.by hd) rfl q) r
theorem OGo.i2c (K : OCx p l e R s m args below meth c Z own nm bytes ml rt) {x : Int32} (hd : decode bytes pc = .ok (.i2c, 1)) (hp : pc + 1 = pc') (r : OGo p l e R s m args below meth c n0 Q h cells slots pc' Ls (.int x.toUInt32.toUInt16.toUInt32.toInt32 :: st)) : OGo p l e R s m args below meth c n0 Q h cells slots pc Ls (.int x :: st) := by
  subst hp
  exact OGo.plain (fun T t hA q => XS.i2c hA K.ex rfl (hb K.by hd) rfl q) r
theorem OGo.iinc (K : OCx p l e R s m args below meth c Z own nm bytes ml rt) {k : Nat} {i : Int} {x z : Int32} (hd : decode bytes pc = .ok (.iinc k i, 3)) (hp : pc + 3 = pc') (hl : Ls[k]? = some (.val (.int x))) (hz : Int32.ofInt i = z) (hl' : storeLocals Ls k (.int (x + z)) = some Ls') (r : OGo p l e R s m args below meth c n0 Q h cells slots pc' Ls' st) : OGo p l e R s m args below meth c n0 Q h cells slots pc Ls st := by
  subst hp
  exact OGo.plain (fun T t hA q => XS.iinc hA K.ex rfl (hb K.by hd) hl (by rw [hz]; exact hl') q) r
theorem OGo.dup (K : OCx p l e R s m args below meth c Z own nm bytes ml rt) {v : Value} (hd : decode bytes pc = .ok (.dup, 1)) (hp : pc + 1 = pc') (hc : v.category = 1) (r : OGo p l e R s m args below meth c n0 Q h cells slots pc' Ls (v :: v :: st)) : OGo p l e R s m args below meth c n0 Q h cells slots pc Ls (v :: st) := by
  subst hp
  exact OGo.plain (fun T t hA q => XS.dup hA K.ex rfl (hb K.by hd) rfl hc q) r
theorem OGo.pop (K : OCx p l e R s m args below meth c Z own nm bytes ml rt) {v : Value} (hd : decode bytes pc = .ok (.pop, 1)) (hp : pc + 1 = pc') (hc : v.category = 1) (r : OGo p l e R s m args below meth c n0 Q h cells slots pc' Ls st) : OGo p l e R s m args below meth c n0 Q h cells slots pc Ls (v :: st) := by
  subst hp
  exact OGo.plain (fun T t hA q => XS.pop hA K.ex rfl (hb K.by hd) rfl hc q) r
theorem OGo.dupX1 (K : OCx p l e R s m args below meth c Z own nm bytes ml rt) {v w : Value} (hd : decode bytes pc = .ok (.dup_x1, 1)) (hp : pc + 1 = pc') (hc : v.category = 1) (hc' : w.category = 1) (r : OGo p l e R s m args below meth c n0 Q h cells slots pc' Ls (v :: w :: v :: st)) : OGo p l e R s m args below meth c n0 Q h cells slots pc Ls (v :: w :: st) := by
  subst hp
  exact OGo.plain (fun T t hA q => XS.dupX1 hA K.ex rfl (hb K.by hd) rfl hc hc' q) r
theorem OGo.dup2 (K : OCx p l e R s m args below meth c Z own nm bytes ml rt) {v w : Value} (hd : decode bytes pc = .ok (.dup2, 1)) (hp : pc + 1 = pc') (hc : v.category = 1) (hc' : w.category = 1) (r : OGo p l e R s m args below meth c n0 Q h cells slots pc' Ls (v :: w :: v :: w :: st)) : OGo p l e R s m args below meth c n0 Q h cells slots pc Ls (v :: w :: st) := by
  subst hp
  exact OGo.plain (fun T t hA q => XT.dup2 hA K.ex rfl (hb K.by hd) rfl hc hc' q) r
theorem OGo.dup2L (K : OCx p l e R s m args below meth c Z own nm bytes ml rt) {x : Int64} (hd : decode bytes pc = .ok (.dup2, 1)) (hp : pc + 1 = pc') (r : OGo p l e R s m args below meth c n0 Q h cells slots pc' Ls (.long x :: .long x :: st)) : OGo p l e R s m args below meth c n0 Q h cells slots pc Ls (.long x :: st) := by
  subst hp
  exact OGo.plain (fun T t hA q => XT.dup2L hA K.ex rfl (hb K.by hd) rfl q) r
theorem OGo.lcmp (K : OCx p l e R s m args below meth c Z own nm bytes ml rt) {x y : Int64} (hd : decode bytes pc = .ok (.lcmp, 1)) (hp : pc + 1 = pc') (r : OGo p l e R s m args below meth c n0 Q h cells slots pc' Ls (.int (lcmpW x y) :: st)) : OGo p l e R s m args below meth c n0 Q h cells slots pc Ls (.long y :: .long x :: st) := by
  subst hp
  exact OGo.plain (fun T t hA q => XS.lcmp hA K.ex rfl (hb K.by hd) rfl q) r
theorem OGo.dload (K : OCx p l e R s m args below meth c Z own nm bytes ml rt) {k : Nat} {v : UInt64} (hd : decode bytes pc = .ok (.dload k, 2)) (hp : pc + 2 = pc') (hl : Ls[k]? = some (.val (.double v))) (r : OGo p l e R s m args below meth c n0 Q h cells slots pc' Ls (.double v :: st)) : OGo p l e R s m args below meth c n0 Q h cells slots pc Ls st := by
  subst hp
  exact OGo.plain (fun T t hA q => XS.dload hA K.ex rfl (hb K.by hd) hl q) r
theorem OGo.dloadN (K : OCx p l e R s m args below meth c Z own nm bytes ml rt) {k : Fin 4} {v : UInt64} (hd : decode bytes pc = .ok (.dload_n k, 1)) (hp : pc + 1 = pc') (hl : Ls[k.val]? = some (.val (.double v))) (r : OGo p l e R s m args below meth c n0 Q h cells slots pc' Ls (.double v :: st)) : OGo p l e R s m args below meth c n0 Q h cells slots pc Ls st := by
  subst hp
  exact OGo.plain (fun T t hA q => XS.dloadN hA K.ex rfl (hb K.by hd) hl q) r
theorem OGo.dstore (K : OCx p l e R s m args below meth c Z own nm bytes ml rt) {k : Nat} {v : UInt64} (hd : decode bytes pc = .ok (.dstore k, 2)) (hp : pc + 2 = pc') (hl : storeLocals Ls k (.double v) = some Ls') (r : OGo p l e R s m args below meth c n0 Q h cells slots pc' Ls' st) : OGo p l e R s m args below meth c n0 Q h cells slots pc Ls (.double v :: st) := by
  subst hp
  exact OGo.plain (fun T t hA q => XS.dstore hA K.ex rfl (hb K.by hd) rfl hl q) r
theorem OGo.dstoreN (K : OCx p l e R s m args below meth c Z own nm bytes ml rt) {k : Fin 4} {v : UInt64} (hd : decode bytes pc = .ok (.dstore_n k, 1)) (hp : pc + 1 = pc') (hl : storeLocals Ls k.val (.double v) = some Ls') (r : OGo p l e R s m args below meth c n0 Q h cells slots pc' Ls' st) : OGo p l e R s m args below meth c n0 Q h cells slots pc Ls (.double v :: st) := by
  subst hp
  exact OGo.plain (fun T t hA q => XS.dstoreN hA K.ex rfl (hb K.by hd) rfl hl q) r
theorem OGo.dconst0 (K : OCx p l e R s m args below meth c Z own nm bytes ml rt) {z : UInt64} (hd : decode bytes pc = .ok (.dconst 0, 1)) (hp : pc + 1 = pc') (hz : FP.dconst0 = z) (r : OGo p l e R s m args below meth c n0 Q h cells slots pc' Ls (.double z :: st)) : OGo p l e R s m args below meth c n0 Q h cells slots pc Ls st := by
  subst hp
  exact OGo.plain (fun T t hA q => XS.dconst0 hA K.ex rfl (hb K.by hd) hz q) r
theorem OGo.dconst1 (K : OCx p l e R s m args below meth c Z own nm bytes ml rt) {z : UInt64} (hd : decode bytes pc = .ok (.dconst 1, 1)) (hp : pc + 1 = pc') (hz : FP.dconst1 = z) (r : OGo p l e R s m args below meth c n0 Q h cells slots pc' Ls (.double z :: st)) : OGo p l e R s m args below meth c n0 Q h cells slots pc Ls st := by
  subst hp
  exact OGo.plain (fun T t hA q => XS.dconst1 hA K.ex rfl (hb K.by hd) hz q) r
theorem OGo.i2d (K : OCx p l e R s m args below meth c Z own nm bytes ml rt) {x : Int32} (hd : decode bytes pc = .ok (.i2d, 1)) (hp : pc + 1 = pc') (r : OGo p l e R s m args below meth c n0 Q h cells slots pc' Ls (.double (FP.i2d x) :: st)) : OGo p l e R s m args below meth c n0 Q h cells slots pc Ls (.int x :: st) := by
  subst hp
  exact OGo.plain (fun T t hA q => XS.i2dS hA K.ex rfl (hb K.by hd) rfl rfl q) r
theorem OGo.dadd (K : OCx p l e R s m args below meth c Z own nm bytes ml rt) {x y z : UInt64} (hd : decode bytes pc = .ok (.dadd, 1)) (hp : pc + 1 = pc') (hn : Jvm.Free.Fl.NoNaN64 (FP.dadd x y)) (hz : FP.dadd x y = z) (r : OGo p l e R s m args below meth c n0 Q h cells slots pc' Ls (.double z :: st)) : OGo p l e R s m args below meth c n0 Q h cells slots pc Ls (.double y :: .double x :: st) := by
  subst hp
  exact OGo.plain (fun T t hA q => XS.daddS hA K.ex rfl (hb K.by hd) rfl hn hz q) r
theorem OGo.dsub (K : OCx p l e R s m args below meth c Z own nm bytes ml rt) {x y z : UInt64} (hd : decode bytes pc = .ok (.dsub, 1)) (hp : pc + 1 = pc') (hn : Jvm.Free.Fl.NoNaN64 (FP.dsub x y)) (hz : FP.dsub x y = z) (r : OGo p l e R s m args below meth c n0 Q h cells slots pc' Ls (.double z :: st)) : OGo p l e R s m args below meth c n0 Q h cells slots pc Ls (.double y :: .double x :: st) := by
  subst hp
  exact OGo.plain (fun T t hA q => XS.dsubS hA K.ex rfl (hb K.by hd) rfl hn hz q) r
theorem OGo.dmul (K : OCx p l e R s m args below meth c Z own nm bytes ml rt) {x y z : UInt64} (hd : decode bytes pc = .ok (.dmul, 1)) (hp : pc + 1 = pc') (hn : Jvm.Free.Fl.NoNaN64 (FP.dmul x y)) (hz : FP.dmul x y = z) (r : OGo p l e R s m args below meth c n0 Q h cells slots pc' Ls (.double z :: st)) : OGo p l e R s m args below meth c n0 Q h cells slots pc Ls (.double y :: .double x :: st) := by
  subst hp
  exact OGo.plain (fun T t hA q => XS.dmulS hA K.ex rfl (hb K.by hd) rfl hn hz q) r
theorem OGo.ddiv (K : OCx p l e R s m args below meth c Z own nm bytes ml rt) {x y z : UInt64} (hd : decode bytes pc = .ok (.ddiv, 1)) (hp : pc + 1 = pc') (hn : Jvm.Free.Fl.NoNaN64 (FP.ddiv x y)) (hz : FP.ddiv x y = z) (r : OGo p l e R s m args below meth c n0 Q h cells slots pc' Ls (.double z :: st)) : OGo p l e R s m args below meth c n0 Q h cells slots pc Ls (.double y :: .double x :: st) := by
  subst hp
  exact OGo.plain (fun T t hA q => XS.ddivS hA K.ex rfl (hb K.by hd) rfl hn hz q) r
theorem OGo.dcmp (K : OCx p l e R s m args below meth c Z own nm bytes ml rt) {o : CmpOp} {x y : UInt64} {z : Int32} (hd : decode bytes pc = .ok (.dcmp o, 1)) (hp : pc + 1 = pc') (hz : cmpValue (FP.dcmp x y) o = z) (r : OGo p l e R s m args below meth c n0 Q h cells slots pc' Ls (.int z :: st)) : OGo p l e R s m args below meth c n0 Q h cells slots pc Ls (.double y :: .double x :: st) := by
  subst hp
  exact OGo.plain (fun T t hA q => XS.dcmpS hA K.ex rfl (hb K.by hd) rfl hz q) r
theorem OGo.goto (K : OCx p l e R s m args below meth c Z own nm bytes ml rt) {o : Int} (hd : decode bytes pc = .ok (.goto o, 3)) (ho : 0 ≤ (pc : Int) + o) (hp : ((pc : Int) + o).toNat = pc') (r : OGo p l e R s m args below meth c n0 Q h cells slots pc' Ls st) : OGo p l e R s m args below meth c n0 Q h cells slots pc Ls st :=
  OGo.plain (fun T t hA q => XS.goto hA K.ex rfl rfl (hb K.by hd) ho hp q) r
theorem OGo.icmp (K : OCx p l e R s m args below meth c Z own nm bytes ml rt) {cd : ClassFile.Cond} {o : Int} {x y : Int32} (hd : decode bytes pc = .ok (.if_icmp cd o, 3)) (hp : pc + 3 = pc') (ho : 0 ≤ (pc : Int) + o) (hq : ((pc : Int) + o).toNat = pcY) (ry : if_icmp.holds cd x y = true → OGo p l e R s m args below meth c n0 Q h cells slots pcY Ls st) (rn : if_icmp.holds cd x y = false → OGo p l e R s m args below meth c n0 Q h cells slots pc' Ls st) : OGo p l e R s m args below meth c n0 Q h cells slots pc Ls (.int y :: .int x :: st) := by
  subst hp
  cases hc : if_icmp.holds cd x y
  · exact OGo.plain (fun T t hA q => XS.icmpNo hA K.ex rfl (hb K.by hd) rfl hc q) (rn hc)
  · exact OGo.plain (fun T t hA q => XS.icmpYes hA K.ex rfl rfl (hb K.by hd) rfl hc ho hq q) (ry hc)
theorem OGo.ifc (K : OCx p l e R s m args below meth c Z own nm bytes ml rt) {cd : ClassFile.Cond} {o : Int} {x : Int32} (hd : decode bytes pc = .ok (.ifCond cd o, 3)) (hp : pc + 3 = pc') (ho : 0 ≤ (pc : Int) + o) (hq : ((pc : Int) + o).toNat = pcY) (ry : if_icmp.holds cd x 0 = true → OGo p l e R s m args below meth c n0 Q h cells slots pcY Ls st) (rn : if_icmp.holds cd x 0 = false → OGo p l e R s m args below meth c n0 Q h cells slots pc' Ls st) : OGo p l e R s m args below meth c n0 Q h cells slots pc Ls (.int x :: st) := by
  subst hp
  cases hc : if_icmp.holds cd x 0
  · exact OGo.plain (fun T t hA q => XS.ifNo hA K.ex rfl (hb K.by hd) rfl ((if0 _ _).trans hc) q) (rn hc)
  · exact OGo.plain (fun T t hA q => XS.ifYes hA K.ex rfl rfl (hb K.by hd) rfl ((if0 _ _).trans hc) ho hq q) (ry hc)
theorem own_holds {cd : ClassFile.Cond} {x y : Int32} {b : Bool} (q : if_icmp.holds cd x y = b) : match cd with | .eq => (x = y) = (b = true) | .ne => (¬ x = y) = (b = true) | .lt => (x < y) = (b = true) | .ge => (¬ x < y) = (b = true) | .gt => (y < x) = (b = true) | .le => (¬ y < x) = (b = true) := by
  subst q
  cases cd
  all_goals simp only [eq_iff_iff]
  · constructor
    · intro h; exact (teq h).1
    · intro h; by_cases q : x = y
      · exact q
      · rw [(feq q).1] at h; cases h
  · constructor
    · intro h; exact (feq h).2
    · intro h q; rw [(teq q).2] at h; cases h
  · constructor
    · intro h; exact (tlt h).1
    · intro h; by_cases q : x < y
      · exact q
      · rw [(flt q).1] at h; cases h
  · constructor
    · intro h; exact (flt h).2.1
    · intro h q; rw [(tlt q).2.1] at h; cases h
  · constructor
    · intro h; exact (tlt h).2.2.1
    · intro h; by_cases q : y < x
      · exact q
      · rw [(flt q).2.2.1] at h; cases h
  · constructor
    · intro h; exact (flt h).2.2.2
    · intro h q; rw [(tlt q).2.2.2] at h; cases h
theorem OGo.icmpEq (K : OCx p l e R s m args below meth c Z own nm bytes ml rt) {o : Int} {x y : Int32} (hd : decode bytes pc = .ok (.if_icmp .eq o, 3)) (hp : pc + 3 = pc') (ho : 0 ≤ (pc : Int) + o) (hq : ((pc : Int) + o).toNat = pcY) (ry : x = y → OGo p l e R s m args below meth c n0 Q h cells slots pcY Ls st) (rn : ¬ x = y → OGo p l e R s m args below meth c n0 Q h cells slots pc' Ls st) : OGo p l e R s m args below meth c n0 Q h cells slots pc Ls (.int y :: .int x :: st) :=
  OGo.icmp K hd hp ho hq (fun q => ry ((own_holds q : _ = _).mpr rfl)) (fun q => rn (fun z => Bool.false_ne_true ((own_holds q : _ = _).mp z)))
theorem OGo.ifEq (K : OCx p l e R s m args below meth c Z own nm bytes ml rt) {o : Int} {x : Int32} (hd : decode bytes pc = .ok (.ifCond .eq o, 3)) (hp : pc + 3 = pc') (ho : 0 ≤ (pc : Int) + o) (hq : ((pc : Int) + o).toNat = pcY) (ry : x = 0 → OGo p l e R s m args below meth c n0 Q h cells slots pcY Ls st) (rn : ¬ x = 0 → OGo p l e R s m args below meth c n0 Q h cells slots pc' Ls st) : OGo p l e R s m args below meth c n0 Q h cells slots pc Ls (.int x :: st) :=
  OGo.ifc K hd hp ho hq (fun q => ry ((own_holds q : _ = _).mpr rfl)) (fun q => rn (fun z => Bool.false_ne_true ((own_holds q : _ = _).mp z)))
theorem OGo.lcmpEq (K : OCx p l e R s m args below meth c Z own nm bytes ml rt) {o : Int} {x y : Int64} {pc1 : Nat} (hd0 : decode bytes pc = .ok (.lcmp, 1)) (hp0 : pc + 1 = pc1) (hd : decode bytes pc1 = .ok (.ifCond .eq o, 3)) (hp : pc1 + 3 = pc') (ho : 0 ≤ (pc1 : Int) + o) (hq : ((pc1 : Int) + o).toNat = pcY) (ry : x = y → OGo p l e R s m args below meth c n0 Q h cells slots pcY Ls st) (rn : ¬ x = y → OGo p l e R s m args below meth c n0 Q h cells slots pc' Ls st) : OGo p l e R s m args below meth c n0 Q h cells slots pc Ls (.long y :: .long x :: st) :=
  OGo.lcmp K hd0 hp0 (OGo.ifEq K hd hp ho hq (fun q => ry ((lw_eq x y).mp q)) (fun q => rn (fun z => q ((lw_eq x y).mpr z))))
theorem OGo.icmpNe (K : OCx p l e R s m args below meth c Z own nm bytes ml rt) {o : Int} {x y : Int32} (hd : decode bytes pc = .ok (.if_icmp .ne o, 3)) (hp : pc + 3 = pc') (ho : 0 ≤ (pc : Int) + o) (hq : ((pc : Int) + o).toNat = pcY) (ry : ¬ x = y → OGo p l e R s m args below meth c n0 Q h cells slots pcY Ls st) (rn : x = y → OGo p l e R s m args below meth c n0 Q h cells slots pc' Ls st) : OGo p l e R s m args below meth c n0 Q h cells slots pc Ls (.int y :: .int x :: st) :=
  OGo.icmp K hd hp ho hq (fun q => ry ((own_holds q : _ = _).mpr rfl)) (fun q => rn (Classical.byContradiction fun z => Bool.false_ne_true ((own_holds q : _ = _).mp z)))
theorem OGo.ifNe (K : OCx p l e R s m args below meth c Z own nm bytes ml rt) {o : Int} {x : Int32} (hd : decode bytes pc = .ok (.ifCond .ne o, 3)) (hp : pc + 3 = pc') (ho : 0 ≤ (pc : Int) + o) (hq : ((pc : Int) + o).toNat = pcY) (ry : ¬ x = 0 → OGo p l e R s m args below meth c n0 Q h cells slots pcY Ls st) (rn : x = 0 → OGo p l e R s m args below meth c n0 Q h cells slots pc' Ls st) : OGo p l e R s m args below meth c n0 Q h cells slots pc Ls (.int x :: st) :=
  OGo.ifc K hd hp ho hq (fun q => ry ((own_holds q : _ = _).mpr rfl)) (fun q => rn (Classical.byContradiction fun z => Bool.false_ne_true ((own_holds q : _ = _).mp z)))
theorem OGo.lcmpNe (K : OCx p l e R s m args below meth c Z own nm bytes ml rt) {o : Int} {x y : Int64} {pc1 : Nat} (hd0 : decode bytes pc = .ok (.lcmp, 1)) (hp0 : pc + 1 = pc1) (hd : decode bytes pc1 = .ok (.ifCond .ne o, 3)) (hp : pc1 + 3 = pc') (ho : 0 ≤ (pc1 : Int) + o) (hq : ((pc1 : Int) + o).toNat = pcY) (ry : ¬ x = y → OGo p l e R s m args below meth c n0 Q h cells slots pcY Ls st) (rn : x = y → OGo p l e R s m args below meth c n0 Q h cells slots pc' Ls st) : OGo p l e R s m args below meth c n0 Q h cells slots pc Ls (.long y :: .long x :: st) :=
  OGo.lcmp K hd0 hp0 (OGo.ifNe K hd hp ho hq (fun q => ry (fun z => q ((lw_eq x y).mpr z))) (fun q => rn ((lw_eq x y).mp q)))
theorem OGo.icmpLt (K : OCx p l e R s m args below meth c Z own nm bytes ml rt) {o : Int} {x y : Int32} (hd : decode bytes pc = .ok (.if_icmp .lt o, 3)) (hp : pc + 3 = pc') (ho : 0 ≤ (pc : Int) + o) (hq : ((pc : Int) + o).toNat = pcY) (ry : x < y → OGo p l e R s m args below meth c n0 Q h cells slots pcY Ls st) (rn : ¬ x < y → OGo p l e R s m args below meth c n0 Q h cells slots pc' Ls st) : OGo p l e R s m args below meth c n0 Q h cells slots pc Ls (.int y :: .int x :: st) :=
  OGo.icmp K hd hp ho hq (fun q => ry ((own_holds q : _ = _).mpr rfl)) (fun q => rn (fun z => Bool.false_ne_true ((own_holds q : _ = _).mp z)))
theorem OGo.ifLt (K : OCx p l e R s m args below meth c Z own nm bytes ml rt) {o : Int} {x : Int32} (hd : decode bytes pc = .ok (.ifCond .lt o, 3)) (hp : pc + 3 = pc') (ho : 0 ≤ (pc : Int) + o) (hq : ((pc : Int) + o).toNat = pcY) (ry : x < 0 → OGo p l e R s m args below meth c n0 Q h cells slots pcY Ls st) (rn : ¬ x < 0 → OGo p l e R s m args below meth c n0 Q h cells slots pc' Ls st) : OGo p l e R s m args below meth c n0 Q h cells slots pc Ls (.int x :: st) :=
  OGo.ifc K hd hp ho hq (fun q => ry ((own_holds q : _ = _).mpr rfl)) (fun q => rn (fun z => Bool.false_ne_true ((own_holds q : _ = _).mp z)))
theorem OGo.lcmpLt (K : OCx p l e R s m args below meth c Z own nm bytes ml rt) {o : Int} {x y : Int64} {pc1 : Nat} (hd0 : decode bytes pc = .ok (.lcmp, 1)) (hp0 : pc + 1 = pc1) (hd : decode bytes pc1 = .ok (.ifCond .lt o, 3)) (hp : pc1 + 3 = pc') (ho : 0 ≤ (pc1 : Int) + o) (hq : ((pc1 : Int) + o).toNat = pcY) (ry : x < y → OGo p l e R s m args below meth c n0 Q h cells slots pcY Ls st) (rn : ¬ x < y → OGo p l e R s m args below meth c n0 Q h cells slots pc' Ls st) : OGo p l e R s m args below meth c n0 Q h cells slots pc Ls (.long y :: .long x :: st) :=
  OGo.lcmp K hd0 hp0 (OGo.ifLt K hd hp ho hq (fun q => ry ((lw_lt x y).mp q)) (fun q => rn (fun z => q ((lw_lt x y).mpr z))))
theorem OGo.icmpGe (K : OCx p l e R s m args below meth c Z own nm bytes ml rt) {o : Int} {x y : Int32} (hd : decode bytes pc = .ok (.if_icmp .ge o, 3)) (hp : pc + 3 = pc') (ho : 0 ≤ (pc : Int) + o) (hq : ((pc : Int) + o).toNat = pcY) (ry : ¬ x < y → OGo p l e R s m args below meth c n0 Q h cells slots pcY Ls st) (rn : x < y → OGo p l e R s m args below meth c n0 Q h cells slots pc' Ls st) : OGo p l e R s m args below meth c n0 Q h cells slots pc Ls (.int y :: .int x :: st) :=
  OGo.icmp K hd hp ho hq (fun q => ry ((own_holds q : _ = _).mpr rfl)) (fun q => rn (Classical.byContradiction fun z => Bool.false_ne_true ((own_holds q : _ = _).mp z)))
theorem OGo.ifGe (K : OCx p l e R s m args below meth c Z own nm bytes ml rt) {o : Int} {x : Int32} (hd : decode bytes pc = .ok (.ifCond .ge o, 3)) (hp : pc + 3 = pc') (ho : 0 ≤ (pc : Int) + o) (hq : ((pc : Int) + o).toNat = pcY) (ry : ¬ x < 0 → OGo p l e R s m args below meth c n0 Q h cells slots pcY Ls st) (rn : x < 0 → OGo p l e R s m args below meth c n0 Q h cells slots pc' Ls st) : OGo p l e R s m args below meth c n0 Q h cells slots pc Ls (.int x :: st) :=
  OGo.ifc K hd hp ho hq (fun q => ry ((own_holds q : _ = _).mpr rfl)) (fun q => rn (Classical.byContradiction fun z => Bool.false_ne_true ((own_holds q : _ = _).mp z)))
theorem OGo.lcmpGe (K : OCx p l e R s m args below meth c Z own nm bytes ml rt) {o : Int} {x y : Int64} {pc1 : Nat} (hd0 : decode bytes pc = .ok (.lcmp, 1)) (hp0 : pc + 1 = pc1) (hd : decode bytes pc1 = .ok (.ifCond .ge o, 3)) (hp : pc1 + 3 = pc') (ho : 0 ≤ (pc1 : Int) + o) (hq : ((pc1 : Int) + o).toNat = pcY) (ry : ¬ x < y → OGo p l e R s m args below meth c n0 Q h cells slots pcY Ls st) (rn : x < y → OGo p l e R s m args below meth c n0 Q h cells slots pc' Ls st) : OGo p l e R s m args below meth c n0 Q h cells slots pc Ls (.long y :: .long x :: st) :=
  OGo.lcmp K hd0 hp0 (OGo.ifGe K hd hp ho hq (fun q => ry (fun z => q ((lw_lt x y).mpr z))) (fun q => rn ((lw_lt x y).mp q)))
theorem OGo.icmpGt (K : OCx p l e R s m args below meth c Z own nm bytes ml rt) {o : Int} {x y : Int32} (hd : decode bytes pc = .ok (.if_icmp .gt o, 3)) (hp : pc + 3 = pc') (ho : 0 ≤ (pc : Int) + o) (hq : ((pc : Int) + o).toNat = pcY) (ry : y < x → OGo p l e R s m args below meth c n0 Q h cells slots pcY Ls st) (rn : ¬ y < x → OGo p l e R s m args below meth c n0 Q h cells slots pc' Ls st) : OGo p l e R s m args below meth c n0 Q h cells slots pc Ls (.int y :: .int x :: st) :=
  OGo.icmp K hd hp ho hq (fun q => ry ((own_holds q : _ = _).mpr rfl)) (fun q => rn (fun z => Bool.false_ne_true ((own_holds q : _ = _).mp z)))
theorem OGo.ifGt (K : OCx p l e R s m args below meth c Z own nm bytes ml rt) {o : Int} {x : Int32} (hd : decode bytes pc = .ok (.ifCond .gt o, 3)) (hp : pc + 3 = pc') (ho : 0 ≤ (pc : Int) + o) (hq : ((pc : Int) + o).toNat = pcY) (ry : 0 < x → OGo p l e R s m args below meth c n0 Q h cells slots pcY Ls st) (rn : ¬ 0 < x → OGo p l e R s m args below meth c n0 Q h cells slots pc' Ls st) : OGo p l e R s m args below meth c n0 Q h cells slots pc Ls (.int x :: st) :=
  OGo.ifc K hd hp ho hq (fun q => ry ((own_holds q : _ = _).mpr rfl)) (fun q => rn (fun z => Bool.false_ne_true ((own_holds q : _ = _).mp z)))
theorem OGo.lcmpGt (K : OCx p l e R s m args below meth c Z own nm bytes ml rt) {o : Int} {x y : Int64} {pc1 : Nat} (hd0 : decode bytes pc = .ok (.lcmp, 1)) (hp0 : pc + 1 = pc1) (hd : decode bytes pc1 = .ok (.ifCond .gt o, 3)) (hp : pc1 + 3 = pc') (ho : 0 ≤ (pc1 : Int) + o) (hq : ((pc1 : Int) + o).toNat = pcY) (ry : y < x → OGo p l e R s m args below meth c n0 Q h cells slots pcY Ls st) (rn : ¬ y < x → OGo p l e R s m args below meth c n0 Q h cells slots pc' Ls st) : OGo p l e R s m args below meth c n0 Q h cells slots pc Ls (.long y :: .long x :: st) :=
  OGo.lcmp K hd0 hp0 (OGo.ifGt K hd hp ho hq (fun q => ry ((lw_gt x y).mp q)) (fun q => rn (fun z => q ((lw_gt x y).mpr z))))
theorem OGo.icmpLe (K : OCx p l e R s m args below meth c Z own nm bytes ml rt) {o : Int} {x y : Int32} (hd : decode bytes pc = .ok (.if_icmp .le o, 3)) (hp : pc + 3 = pc') (ho : 0 ≤ (pc : Int) + o) (hq : ((pc : Int) + o).toNat = pcY) (ry : ¬ y < x → OGo p l e R s m args below meth c n0 Q h cells slots pcY Ls st) (rn : y < x → OGo p l e R s m args below meth c n0 Q h cells slots pc' Ls st) : OGo p l e R s m args below meth c n0 Q h cells slots pc Ls (.int y :: .int x :: st) :=
  OGo.icmp K hd hp ho hq (fun q => ry ((own_holds q : _ = _).mpr rfl)) (fun q => rn (Classical.byContradiction fun z => Bool.false_ne_true ((own_holds q : _ = _).mp z)))
theorem OGo.ifLe (K : OCx p l e R s m args below meth c Z own nm bytes ml rt) {o : Int} {x : Int32} (hd : decode bytes pc = .ok (.ifCond .le o, 3)) (hp : pc + 3 = pc') (ho : 0 ≤ (pc : Int) + o) (hq : ((pc : Int) + o).toNat = pcY) (ry : ¬ 0 < x → OGo p l e R s m args below meth c n0 Q h cells slots pcY Ls st) (rn : 0 < x → OGo p l e R s m args below meth c n0 Q h cells slots pc' Ls st) : OGo p l e R s m args below meth c n0 Q h cells slots pc Ls (.int x :: st) :=
  OGo.ifc K hd hp ho hq (fun q => ry ((own_holds q : _ = _).mpr rfl)) (fun q => rn (Classical.byContradiction fun z => Bool.false_ne_true ((own_holds q : _ = _).mp z)))
theorem OGo.lcmpLe (K : OCx p l e R s m args below meth c Z own nm bytes ml rt) {o : Int} {x y : Int64} {pc1 : Nat} (hd0 : decode bytes pc = .ok (.lcmp, 1)) (hp0 : pc + 1 = pc1) (hd : decode bytes pc1 = .ok (.ifCond .le o, 3)) (hp : pc1 + 3 = pc') (ho : 0 ≤ (pc1 : Int) + o) (hq : ((pc1 : Int) + o).toNat = pcY) (ry : ¬ y < x → OGo p l e R s m args below meth c n0 Q h cells slots pcY Ls st) (rn : y < x → OGo p l e R s m args below meth c n0 Q h cells slots pc' Ls st) : OGo p l e R s m args below meth c n0 Q h cells slots pc Ls (.long y :: .long x :: st) :=
  OGo.lcmp K hd0 hp0 (OGo.ifLe K hd hp ho hq (fun q => ry (fun z => q ((lw_gt x y).mpr z))) (fun q => rn ((lw_gt x y).mp q)))
theorem OGo.ifnullY (K : OCx p l e R s m args below meth c Z own nm bytes ml rt) {o : Int} (hd : decode bytes pc = .ok (.ifnull o, 3)) (ho : 0 ≤ (pc : Int) + o) (hq : ((pc : Int) + o).toNat = pc') (r : OGo p l e R s m args below meth c n0 Q h cells slots pc' Ls st) : OGo p l e R s m args below meth c n0 Q h cells slots pc Ls (.null :: st) :=
  OGo.plain (fun T t hA q => XS.ifnullYes hA K.ex rfl rfl (hb K.by hd) rfl ho hq q) r
theorem OGo.ifnullN (K : OCx p l e R s m args below meth c Z own nm bytes ml rt) {b : Addr} {o : Int} (hd : decode bytes pc = .ok (.ifnull o, 3)) (hp : pc + 3 = pc') (r : OGo p l e R s m args below meth c n0 Q h cells slots pc' Ls st) : OGo p l e R s m args below meth c n0 Q h cells slots pc Ls (.ref b :: st) := by
  subst hp
  exact OGo.plain (fun T t hA q => XS.ifnullNo hA K.ex rfl (hb K.by hd) rfl q) r
theorem OGo.ifnonnullY (K : OCx p l e R s m args below meth c Z own nm bytes ml rt) {b : Addr} {o : Int} (hd : decode bytes pc = .ok (.ifnonnull o, 3)) (ho : 0 ≤ (pc : Int) + o) (hq : ((pc : Int) + o).toNat = pc') (r : OGo p l e R s m args below meth c n0 Q h cells slots pc' Ls st) : OGo p l e R s m args below meth c n0 Q h cells slots pc Ls (.ref b :: st) :=
  OGo.plain (fun T t hA q => XS.ifnonnullYes hA K.ex rfl rfl (hb K.by hd) rfl ho hq q) r
theorem OGo.ifnonnullN (K : OCx p l e R s m args below meth c Z own nm bytes ml rt) {o : Int} (hd : decode bytes pc = .ok (.ifnonnull o, 3)) (hp : pc + 3 = pc') (r : OGo p l e R s m args below meth c n0 Q h cells slots pc' Ls st) : OGo p l e R s m args below meth c n0 Q h cells slots pc Ls (.null :: st) := by
  subst hp
  exact OGo.plain (fun T t hA q => XS.ifnonnullNo hA K.ex rfl (hb K.by hd) rfl q) r
theorem OGo.getF (K : OCx p l e R s m args below meth c Z own nm bytes ml rt) {R0 O n d host : String} {index : Nat} {a : Addr} {v : Value} (w : (Jvm.Cond.fieldLink own index R0 n d).before a0 Z = true ∨ (Jvm.Cond.fieldLinkNest own index R0 n d host).before a0 Z = true) (via : Via Z R0 O n d) (F : Fld Z h a O n d v) (hd : decode bytes pc = .ok (.getfield index, 3)) (hp : pc + 3 = pc') (r : OGo p l e R s m args below meth c n0 Q h cells slots pc' Ls (v :: st)) : OGo p l e R s m args below meth c n0 Q h cells slots pc Ls (.ref a :: st) := by
  subst hp
  exact OGo.same (fun T locs k n X e0 => RoadKit.getF X K.ex K.hZ K.hown w via e0 F (g := mkF m pc Ls (.ref a :: st)) rfl rfl (hb K.by hd)) r
theorem OGo.getS (K : OCx p l e R s m args below meth c Z own nm bytes ml rt) {R0 O n d host : String} {index : Nat} {v : Value} (w : (Jvm.Cond.fieldLink own index R0 n d).before a0 Z = true ∨ (Jvm.Cond.fieldLinkNest own index R0 n d host).before a0 Z = true) (via : Via Z R0 O n d) (F : Sta Z h O n d v) (hd : decode bytes pc = .ok (.getstatic index, 3)) (hp : pc + 3 = pc') (r : OGo p l e R s m args below meth c n0 Q h cells slots pc' Ls (v :: st)) : OGo p l e R s m args below meth c n0 Q h cells slots pc Ls st := by
  subst hp
  exact OGo.same (fun T locs k n X e0 => RoadKit.getS2 X K.ex K.hZ K.hown w via e0 F (g := mkF m pc Ls st) rfl (hb K.by hd)) r
theorem OGo.putF (K : OCx p l e R s m args below meth c Z own nm bytes ml rt) {R0 O n d host C : String} {index kk : Nat} {ty : FieldType} {a : Addr} {v old : Value} (w : (Jvm.Cond.fieldLink own index R0 n d).before a0 Z = true ∨ (Jvm.Cond.fieldLinkNest own index R0 n d host).before a0 Z = true) (via : Via Z R0 O n d) (F : Fld Z h a O n d old) (E : Exa Z h a C) (L : (Jvm.Cond.lays C O n d).before a0 Z = true ∨ ((Jvm.Cond.laysFinal C O n d).before a0 Z = true ∧ own = O ∧ nm = "<init>")) (wi : (Jvm.Cond.instantiable C kk).before a0 Z = true) (hty : parseFieldDescriptor d = some ty) (hn : narrow ty v = v) (hf : fits ty v = true) (ga : n0 ≤ a) (hd : decode bytes pc = .ok (.putfield index, 3)) (hp : pc + 3 = pc')
    (r : ∀ h', Wr h h' a (RoadKit.slotOf Z O n d) v → OGo p l e R s m args below meth c n0 Q h' cells slots pc' Ls st) : OGo p l e R s m args below meth c n0 Q h cells slots pc Ls (v :: .ref a :: st) := by
  subst hp
  exact OGo.write ga (fun T locs k n X e0 => RoadKit.putF X K.ex K.hZ K.hown w via e0 F E (L.imp id fun q => ⟨q.1, q.2.1, K.hnm.trans q.2.2⟩) wi hty hn hf (g := mkF m pc Ls (v :: .ref a :: st)) rfl rfl (hb K.by hd)) r
theorem OGo.putFN (K : OCx p l e R s m args below meth c Z own nm bytes ml rt) {R0 O n d C : String} {index kk : Nat} {ty : FieldType} {a : Addr} {v v' old : Value} (w : (Jvm.Cond.fieldLink own index R0 n d).before a0 Z = true) (via : Via Z R0 O n d) (F : Fld Z h a O n d old) (E : Exa Z h a C) (L : (Jvm.Cond.lays C O n d).before a0 Z = true ∨ ((Jvm.Cond.laysFinal C O n d).before a0 Z = true ∧ own = O ∧ nm = "<init>")) (wi : (Jvm.Cond.instantiable C kk).before a0 Z = true) (hty : parseFieldDescriptor d = some ty) (hn : narrow ty v = v') (hf : fits ty v' = true) (ga : n0 ≤ a) (hd : decode bytes pc = .ok (.putfield index, 3)) (hp : pc + 3 = pc')
    (r : ∀ h', Wr h h' a (RoadKit.slotOf Z O n d) v' → OGo p l e R s m args below meth c n0 Q h' cells slots pc' Ls st) : OGo p l e R s m args below meth c n0 Q h cells slots pc Ls (v :: .ref a :: st) := by
  subst hp
  exact OGo.write ga (fun T locs k n X e0 => RoadKit.putFN X K.ex K.hZ K.hown w via e0 F E (L.imp id fun q => ⟨q.1, q.2.1, K.hnm.trans q.2.2⟩) wi hty hn hf (g := mkF m pc Ls (v :: .ref a :: st)) rfl rfl (hb K.by hd)) r
theorem OGo.newO (K : OCx p l e R s m args below meth c Z own nm bytes ml rt) {C : String} {index n cells' slots' : Nat} (w : (Jvm.Cond.classLink own index C).before a0 Z = true) (wi : (Jvm.Cond.instantiable C n).before a0 Z = true) (wz : (Jvm.Cond.initialized C).before a0 Z = true) (hd : decode bytes pc = .ok (.new index, 3)) (hp : pc + 3 = pc') (hc : cells + 1 = cells') (hl : slots + n = slots') (hc' : cells' ≤ R.cells) (hl' : slots' ≤ R.slots)
    (r : ∀ (h' : Heap) (a : Addr), a = h.size → Ext h h' → Exa Z h' a C → (∀ {O nm d : String} {ty : FieldType}, Laid Z a0 C O nm d → parseFieldDescriptor d = some ty → Fld Z h' a O nm d (defaultValue ty)) → OGo p l e R s m args below meth c n0 Q h' cells' slots' pc' Ls (.ref a :: st)) : OGo p l e R s m args below meth c n0 Q h cells slots pc Ls st := by
  subst hp hc hl
  intro T locs k j X e0 N h1 h2
  obtain ⟨T', h', X', e', E, A, D, -, st'⟩ := RoadKit.newO X K.ex K.hZ K.hown w wi wz e0 (g := mkF m pc Ls st) rfl (hb K.by hd) (by omega) (by omega)
  obtain ⟨s₂, v, L, g, r'⟩ := r h' h.size rfl E A D T' locs _ _ X' e' N (by omega) (by omega)
  exact ⟨s₂, v, L, st' _ g, r'⟩
theorem OGo.newP (K : OCx p l e R s m args below meth c Z own nm bytes ml rt) {aty : ArrayType} {z : Int32} {cap cells' slots' : Nat} (w : (Jvm.Cond.arrayClass (newarray.typeOf aty)).before a0 Z = true) (hd : decode bytes pc = .ok (.newarray aty, 2)) (hp : pc + 2 = pc') (hz : ¬ z < 0) (hcap : z.toNatClampNeg ≤ cap) (hb' : cap * 8 ≤ 536870912) (hc : cells + 1 = cells') (hl : slots + cap = slots') (hc' : cells' ≤ R.cells) (hl' : slots' ≤ R.slots)
    (r : ∀ (h' : Heap) (a : Addr) (ca : ClassId), a = h.size → Ext h h' → Arv Z h' a ca (newarray.typeOf aty) z [] (defaultValue (newarray.typeOf aty)) → OGo p l e R s m args below meth c n0 Q h' cells' slots' pc' Ls (.ref a :: st)) : OGo p l e R s m args below meth c n0 Q h cells slots pc Ls (.int z :: st) := by
  subst hp hc hl
  intro T locs k j X e0 N h1 h2
  obtain ⟨T', h', ca, X', e', E, A, st'⟩ := RoadKit.newP X K.ex K.hZ w e0 (g := mkF m pc Ls (.int z :: st)) rfl (hb K.by hd) rfl hz (cap := cap) hcap hb' (by omega) (by omega)
  obtain ⟨s₂, v, L, g, r'⟩ := r h' h.size ca rfl E (Arv.new A hz) T' locs _ _ X' e' N (by omega) (by omega)
  exact ⟨s₂, v, L, st' _ g, r'⟩
theorem OGo.newR (K : OCx p l e R s m args below meth c Z own nm bytes ml rt) {C : String} {index : Nat} {z : Int32} {cap cells' slots' : Nat} (w1 : (Jvm.Cond.classLink own index C).before a0 Z = true) (w2 : (Jvm.Cond.arrayOver (.object C)).before a0 Z = true) (hd : decode bytes pc = .ok (.anewarray index, 3)) (hp : pc + 3 = pc') (hz : ¬ z < 0) (hcap : z.toNatClampNeg ≤ cap) (hb' : cap * 8 ≤ 536870912) (hc : cells + 1 = cells') (hl : slots + cap = slots') (hc' : cells' ≤ R.cells) (hl' : slots' ≤ R.slots)
    (r : ∀ (h' : Heap) (a : Addr) (ca : ClassId), a = h.size → Ext h h' → Arv Z h' a ca (.object C) z [] .null → Ovr Z ca C → OGo p l e R s m args below meth c n0 Q h' cells' slots' pc' Ls (.ref a :: st)) : OGo p l e R s m args below meth c n0 Q h cells slots pc Ls (.int z :: st) := by
  subst hp hc hl
  intro T locs k j X e0 N h1 h2
  obtain ⟨T', h', ca, X', e', E, A, O, st'⟩ := RoadKit.newR X K.ex K.hZ K.hown w1 w2 e0 (g := mkF m pc Ls (.int z :: st)) rfl (hb K.by hd) rfl hz (cap := cap) hcap hb' (by omega) (by omega)
  obtain ⟨s₂, v, L, g, r'⟩ := r h' h.size ca rfl E (Arv.new A hz) O T' locs _ _ X' e' N (by omega) (by omega)
  exact ⟨s₂, v, L, st' _ g, r'⟩
theorem OGo.iaload (K : OCx p l e R s m args below meth c Z own nm bytes ml rt) {a : Addr} {ca : ClassId} {z j : Int32} {vs : List Value} {dv v : Value} (A : Arv Z h a ca .int z vs dv) (hj : ¬ j < 0 ∧ j < z) (hv : vs.getD j.toNatClampNeg dv = v) (hd : decode bytes pc = .ok (.iaload, 1)) (hp : pc + 1 = pc') (r : OGo p l e R s m args below meth c n0 Q h cells slots pc' Ls (v :: st)) : OGo p l e R s m args below meth c n0 Q h cells slots pc Ls (.int j :: .ref a :: st) := by
  subst hp
  obtain ⟨cl, A, -, S, -, H, -⟩ := A
  have hin := inb_of S hj
  exact OGo.same (fun T locs k n X e0 => ⟨T, X, e0, fun t q => X.iaload K.ex (j := j) (by rw [e0]; exact A.1) (State.isArrayOf_alike K.hZ.alike A.2.1) A.2.2 hin (H.at hin hv) (g := mkF m pc Ls (.int j :: .ref a :: st)) rfl rfl (hb K.by hd) t q⟩) r
theorem OGo.laload (K : OCx p l e R s m args below meth c Z own nm bytes ml rt) {a : Addr} {ca : ClassId} {z j : Int32} {vs : List Value} {dv v : Value} (A : Arv Z h a ca .long z vs dv) (hj : ¬ j < 0 ∧ j < z) (hv : vs.getD j.toNatClampNeg dv = v) (hd : decode bytes pc = .ok (.laload, 1)) (hp : pc + 1 = pc') (r : OGo p l e R s m args below meth c n0 Q h cells slots pc' Ls (v :: st)) : OGo p l e R s m args below meth c n0 Q h cells slots pc Ls (.int j :: .ref a :: st) := by
  subst hp
  obtain ⟨cl, A, -, S, -, H, -⟩ := A
  have hin := inb_of S hj
  exact OGo.same (fun T locs k n X e0 => ⟨T, X, e0, fun t q => X.laload K.ex (j := j) (by rw [e0]; exact A.1) (State.isArrayOf_alike K.hZ.alike A.2.1) A.2.2 hin (H.at hin hv) (g := mkF m pc Ls (.int j :: .ref a :: st)) rfl rfl (hb K.by hd) t q⟩) r
theorem OGo.caload (K : OCx p l e R s m args below meth c Z own nm bytes ml rt) {a : Addr} {ca : ClassId} {z j : Int32} {vs : List Value} {dv v : Value} (A : Arv Z h a ca .char z vs dv) (hj : ¬ j < 0 ∧ j < z) (hv : vs.getD j.toNatClampNeg dv = v) (hd : decode bytes pc = .ok (.caload, 1)) (hp : pc + 1 = pc') (r : OGo p l e R s m args below meth c n0 Q h cells slots pc' Ls (v :: st)) : OGo p l e R s m args below meth c n0 Q h cells slots pc Ls (.int j :: .ref a :: st) := by
  subst hp
  obtain ⟨cl, A, -, S, -, H, -⟩ := A
  have hin := inb_of S hj
  exact OGo.same (fun T locs k n X e0 => ⟨T, X, e0, fun t q => X.caload K.ex (j := j) (by rw [e0]; exact A.1) (State.isArrayOf_alike K.hZ.alike A.2.1) A.2.2 hin (H.at hin hv) (g := mkF m pc Ls (.int j :: .ref a :: st)) rfl rfl (hb K.by hd) t q⟩) r
theorem OGo.saload (K : OCx p l e R s m args below meth c Z own nm bytes ml rt) {a : Addr} {ca : ClassId} {z j : Int32} {vs : List Value} {dv v : Value} (A : Arv Z h a ca .short z vs dv) (hj : ¬ j < 0 ∧ j < z) (hv : vs.getD j.toNatClampNeg dv = v) (hd : decode bytes pc = .ok (.saload, 1)) (hp : pc + 1 = pc') (r : OGo p l e R s m args below meth c n0 Q h cells slots pc' Ls (v :: st)) : OGo p l e R s m args below meth c n0 Q h cells slots pc Ls (.int j :: .ref a :: st) := by
  subst hp
  obtain ⟨cl, A, -, S, -, H, -⟩ := A
  have hin := inb_of S hj
  exact OGo.same (fun T locs k n X e0 => ⟨T, X, e0, fun t q => X.saload K.ex (j := j) (by rw [e0]; exact A.1) (State.isArrayOf_alike K.hZ.alike A.2.1) A.2.2 hin (H.at hin hv) (g := mkF m pc Ls (.int j :: .ref a :: st)) rfl rfl (hb K.by hd) t q⟩) r
theorem OGo.baload (K : OCx p l e R s m args below meth c Z own nm bytes ml rt) {a : Addr} {ca : ClassId} {z j : Int32} {vs : List Value} {dv v : Value} (A : Arv Z h a ca .byte z vs dv) (hj : ¬ j < 0 ∧ j < z) (hv : vs.getD j.toNatClampNeg dv = v) (hd : decode bytes pc = .ok (.baload, 1)) (hp : pc + 1 = pc') (r : OGo p l e R s m args below meth c n0 Q h cells slots pc' Ls (v :: st)) : OGo p l e R s m args below meth c n0 Q h cells slots pc Ls (.int j :: .ref a :: st) := by
  subst hp
  obtain ⟨cl, A, -, S, -, H, -⟩ := A
  have hin := inb_of S hj
  exact OGo.same (fun T locs k n X e0 => ⟨T, X, e0, fun t q => X.baloadBytes K.ex (j := j) (by rw [e0]; exact A.1) (State.isArrayOf_alike K.hZ.alike A.2.1) A.2.2 hin (H.at hin hv) (g := mkF m pc Ls (.int j :: .ref a :: st)) rfl rfl (hb K.by hd) t q⟩) r
theorem OGo.zaload (K : OCx p l e R s m args below meth c Z own nm bytes ml rt) {a : Addr} {ca : ClassId} {z j : Int32} {vs : List Value} {dv v : Value} (A : Arv Z h a ca .boolean z vs dv) (hj : ¬ j < 0 ∧ j < z) (hv : vs.getD j.toNatClampNeg dv = v) (hd : decode bytes pc = .ok (.baload, 1)) (hp : pc + 1 = pc') (r : OGo p l e R s m args below meth c n0 Q h cells slots pc' Ls (v :: st)) : OGo p l e R s m args below meth c n0 Q h cells slots pc Ls (.int j :: .ref a :: st) := by
  subst hp
  obtain ⟨cl, A, -, S, -, H, -⟩ := A
  have hin := inb_of S hj
  exact OGo.same (fun T locs k n X e0 => ⟨T, X, e0, fun t q => X.baloadBooleans K.ex (j := j) (by rw [e0]; exact A.1) (State.isArrayOf_alike K.hZ.alike A.2.1) A.2.2 hin (H.at hin hv) (g := mkF m pc Ls (.int j :: .ref a :: st)) rfl rfl (hb K.by hd) t q⟩) r
theorem OGo.aaload (K : OCx p l e R s m args below meth c Z own nm bytes ml rt) {a : Addr} {ca : ClassId} {ty : FieldType} {z j : Int32} {vs : List Value} {dv v : Value} (A : Arv Z h a ca ty z vs dv) (hty : ty.isReference = true) (hj : ¬ j < 0 ∧ j < z) (hv : vs.getD j.toNatClampNeg dv = v) (hd : decode bytes pc = .ok (.aaload, 1)) (hp : pc + 1 = pc') (r : OGo p l e R s m args below meth c n0 Q h cells slots pc' Ls (v :: st)) : OGo p l e R s m args below meth c n0 Q h cells slots pc Ls (.int j :: .ref a :: st) := by
  subst hp
  obtain ⟨cl, A, -, S, -, H, -⟩ := A
  have hin := inb_of S hj
  exact OGo.same (fun T locs k n X e0 => ⟨T, X, e0, fun t q => X.aaload K.ex (j := j) (by rw [e0]; exact A.1) (State.isArrayOf_alike K.hZ.alike A.2.1) hty A.2.2 hin (H.at hin hv) (g := mkF m pc Ls (.int j :: .ref a :: st)) rfl rfl (hb K.by hd) t q⟩) r
theorem OGo.alen (K : OCx p l e R s m args below meth c Z own nm bytes ml rt) {a : Addr} {ca : ClassId} {ty : FieldType} {z : Int32} {vs : List Value} {dv : Value} (A : Arv Z h a ca ty z vs dv) (hd : decode bytes pc = .ok (.arraylength, 1)) (hp : pc + 1 = pc') (r : OGo p l e R s m args below meth c n0 Q h cells slots pc' Ls (.int z :: st)) : OGo p l e R s m args below meth c n0 Q h cells slots pc Ls (.ref a :: st) := by
  subst hp
  obtain ⟨cl, A, -, S, hz, -, -⟩ := A
  exact OGo.same (fun T locs k n X e0 => ⟨T, X, e0, fun t q => X.arraylength K.ex (by rw [e0]; exact A.1) (State.isArrayOf_alike K.hZ.alike A.2.1) (g := mkF m pc Ls (.ref a :: st)) rfl rfl (hb K.by hd) t (by rw [len_of S hz]; exact q)⟩) r
theorem OGo.iastore (K : OCx p l e R s m args below meth c Z own nm bytes ml rt) {a : Addr} {ca : ClassId} {z j : Int32} {vs : List Value} {dv : Value} {x : Int32} (A : Arv Z h a ca .int z vs dv) (hj : ¬ j < 0 ∧ j < z) {i : Nat} (hij : j.toNatClampNeg = i) (hi : i < vs.length) (ga : n0 ≤ a) (hd : decode bytes pc = .ok (.iastore, 1)) (hp : pc + 1 = pc')
    (r : ∀ h', Wr h h' a j.toNatClampNeg (.int x) → Arv Z h' a ca .int z (vs.set i (.int x)) dv → OGo p l e R s m args below meth c n0 Q h' cells slots pc' Ls st) : OGo p l e R s m args below meth c n0 Q h cells slots pc Ls (.int x :: .int j :: .ref a :: st) := by
  subst hp
  obtain ⟨cl, A, q1, S, hz, H, G⟩ := A
  have hin := inb_of S hj
  exact OGo.write ga (fun T locs k n X e0 => RoadKit.stI X K.ex K.hZ e0 A (j := j) hin (g := mkF m pc Ls (.int x :: .int j :: .ref a :: st)) rfl rfl (hb K.by hd)) (fun h' W => r h' W (Arv.set A q1 S hz H G rfl W _ hij hi))
theorem OGo.lastore (K : OCx p l e R s m args below meth c Z own nm bytes ml rt) {a : Addr} {ca : ClassId} {z j : Int32} {vs : List Value} {dv : Value} {x : Int64} (A : Arv Z h a ca .long z vs dv) (hj : ¬ j < 0 ∧ j < z) {i : Nat} (hij : j.toNatClampNeg = i) (hi : i < vs.length) (ga : n0 ≤ a) (hd : decode bytes pc = .ok (.lastore, 1)) (hp : pc + 1 = pc')
    (r : ∀ h', Wr h h' a j.toNatClampNeg (.long x) → Arv Z h' a ca .long z (vs.set i (.long x)) dv → OGo p l e R s m args below meth c n0 Q h' cells slots pc' Ls st) : OGo p l e R s m args below meth c n0 Q h cells slots pc Ls (.long x :: .int j :: .ref a :: st) := by
  subst hp
  obtain ⟨cl, A, q1, S, hz, H, G⟩ := A
  have hin := inb_of S hj
  exact OGo.write ga (fun T locs k n X e0 => RoadKit.stJ X K.ex K.hZ e0 A (j := j) hin (g := mkF m pc Ls (.long x :: .int j :: .ref a :: st)) rfl rfl (hb K.by hd)) (fun h' W => r h' W (Arv.set A q1 S hz H G rfl W _ hij hi))
theorem OGo.castore (K : OCx p l e R s m args below meth c Z own nm bytes ml rt) {a : Addr} {ca : ClassId} {z j : Int32} {vs : List Value} {dv : Value} {x : Int32} (A : Arv Z h a ca .char z vs dv) (hj : ¬ j < 0 ∧ j < z) {i : Nat} (hij : j.toNatClampNeg = i) (hi : i < vs.length) (ga : n0 ≤ a) (hd : decode bytes pc = .ok (.castore, 1)) (hp : pc + 1 = pc')
    (r : ∀ h', Wr h h' a j.toNatClampNeg (.int (nar .char x)) → Arv Z h' a ca .char z (vs.set i (.int (nar .char x))) dv → OGo p l e R s m args below meth c n0 Q h' cells slots pc' Ls st) : OGo p l e R s m args below meth c n0 Q h cells slots pc Ls (.int x :: .int j :: .ref a :: st) := by
  subst hp
  obtain ⟨cl, A, q1, S, hz, H, G⟩ := A
  have hin := inb_of S hj
  exact OGo.write ga (fun T locs k n X e0 => RoadKit.stC X K.ex K.hZ e0 A (j := j) hin (g := mkF m pc Ls (.int x :: .int j :: .ref a :: st)) rfl rfl (hb K.by hd)) (fun h' W => r h' W (Arv.set A q1 S hz H G (fits_nar_char x) W _ hij hi))
theorem OGo.sastore (K : OCx p l e R s m args below meth c Z own nm bytes ml rt) {a : Addr} {ca : ClassId} {z j : Int32} {vs : List Value} {dv : Value} {x : Int32} (A : Arv Z h a ca .short z vs dv) (hj : ¬ j < 0 ∧ j < z) {i : Nat} (hij : j.toNatClampNeg = i) (hi : i < vs.length) (ga : n0 ≤ a) (hd : decode bytes pc = .ok (.sastore, 1)) (hp : pc + 1 = pc')
    (r : ∀ h', Wr h h' a j.toNatClampNeg (.int (nar .short x)) → Arv Z h' a ca .short z (vs.set i (.int (nar .short x))) dv → OGo p l e R s m args below meth c n0 Q h' cells slots pc' Ls st) : OGo p l e R s m args below meth c n0 Q h cells slots pc Ls (.int x :: .int j :: .ref a :: st) := by
  subst hp
  obtain ⟨cl, A, q1, S, hz, H, G⟩ := A
  have hin := inb_of S hj
  exact OGo.write ga (fun T locs k n X e0 => RoadKit.stS X K.ex K.hZ e0 A (j := j) hin (g := mkF m pc Ls (.int x :: .int j :: .ref a :: st)) rfl rfl (hb K.by hd)) (fun h' W => r h' W (Arv.set A q1 S hz H G (fits_nar_short x) W _ hij hi))
theorem OGo.bastore (K : OCx p l e R s m args below meth c Z own nm bytes ml rt) {a : Addr} {ca : ClassId} {z j : Int32} {vs : List Value} {dv : Value} {x : Int32} (A : Arv Z h a ca .byte z vs dv) (hj : ¬ j < 0 ∧ j < z) {i : Nat} (hij : j.toNatClampNeg = i) (hi : i < vs.length) (ga : n0 ≤ a) (hd : decode bytes pc = .ok (.bastore, 1)) (hp : pc + 1 = pc')
    (r : ∀ h', Wr h h' a j.toNatClampNeg (.int (nar .byte x)) → Arv Z h' a ca .byte z (vs.set i (.int (nar .byte x))) dv → OGo p l e R s m args below meth c n0 Q h' cells slots pc' Ls st) : OGo p l e R s m args below meth c n0 Q h cells slots pc Ls (.int x :: .int j :: .ref a :: st) := by
  subst hp
  obtain ⟨cl, A, q1, S, hz, H, G⟩ := A
  have hin := inb_of S hj
  exact OGo.write ga (fun T locs k n X e0 => RoadKit.stB X K.ex K.hZ e0 A (j := j) hin (g := mkF m pc Ls (.int x :: .int j :: .ref a :: st)) rfl rfl (hb K.by hd)) (fun h' W => r h' W (Arv.set A q1 S hz H G (fits_nar_byte x) W _ hij hi))
theorem OGo.zastore (K : OCx p l e R s m args below meth c Z own nm bytes ml rt) {a : Addr} {ca : ClassId} {z j : Int32} {vs : List Value} {dv : Value} {x : Int32} (A : Arv Z h a ca .boolean z vs dv) (hj : ¬ j < 0 ∧ j < z) {i : Nat} (hij : j.toNatClampNeg = i) (hi : i < vs.length) (ga : n0 ≤ a) (hd : decode bytes pc = .ok (.bastore, 1)) (hp : pc + 1 = pc')
    (r : ∀ h', Wr h h' a j.toNatClampNeg (.int (nar .boolean x)) → Arv Z h' a ca .boolean z (vs.set i (.int (nar .boolean x))) dv → OGo p l e R s m args below meth c n0 Q h' cells slots pc' Ls st) : OGo p l e R s m args below meth c n0 Q h cells slots pc Ls (.int x :: .int j :: .ref a :: st) := by
  subst hp
  obtain ⟨cl, A, q1, S, hz, H, G⟩ := A
  have hin := inb_of S hj
  exact OGo.write ga (fun T locs k n X e0 => RoadKit.stZ X K.ex K.hZ e0 A (j := j) hin (g := mkF m pc Ls (.int x :: .int j :: .ref a :: st)) rfl rfl (hb K.by hd)) (fun h' W => r h' W (Arv.set A q1 S hz H G (fits_nar_bool x) W _ hij hi))
theorem OGo.aastore (K : OCx p l e R s m args below meth c Z own nm bytes ml rt) {a : Addr} {ca : ClassId} {ty : FieldType} {z j : Int32} {vs : List Value} {dv v : Value} (A : Arv Z h a ca ty z vs dv) (hty : ty.isReference = true) (hv : v.isRef = true) (F : Sto Z h a v) (hj : ¬ j < 0 ∧ j < z) {i : Nat} (hij : j.toNatClampNeg = i) (hi : i < vs.length) (ga : n0 ≤ a) (hd : decode bytes pc = .ok (.aastore, 1)) (hp : pc + 1 = pc')
    (r : ∀ h', Wr h h' a j.toNatClampNeg v → Arv Z h' a ca ty z (vs.set i v) dv → OGo p l e R s m args below meth c n0 Q h' cells slots pc' Ls st) : OGo p l e R s m args below meth c n0 Q h cells slots pc Ls (v :: .int j :: .ref a :: st) := by
  subst hp
  obtain ⟨cl, A, q1, S, hz, H, G⟩ := A
  have hin := inb_of S hj
  exact OGo.write ga (fun T locs k n X e0 => RoadKit.stR X K.ex K.hZ e0 A (j := j) hin hty F (g := mkF m pc Ls (v :: .int j :: .ref a :: st)) rfl rfl (hb K.by hd)) (fun h' W => r h' W (Arv.set A q1 S hz H G (by cases ty <;> first | (cases hty; done) | (cases v <;> first | (cases hv; done) | rfl)) W _ hij hi))
theorem OGo.initO (K : OCx p l e R s m args below meth c Z own nm bytes ml rt) {idx W : Nat} {a : Addr} (w1 : (Jvm.Cond.methodLink own idx Lib.objectInit).before a0 Z = true) (w2 : (Jvm.Cond.instanceMethod Lib.objectInit).before a0 Z = true) (w3 : (Jvm.Cond.code Lib.objectInit ⟨#[0xb1]⟩ 1 none).before a0 Z = true) (hd : decode bytes pc = .ok (.invokespecial idx, 3)) (hp : pc + 3 = pc') (hsz : Ls.size = ml) (hW : 2 * 0 + (st.map fun v => v.category).sum ≤ W) (hf : 1 ≤ R.frames) (hl : W + 12 ≤ R.locals) (r : OGo p l e R s m args below meth c n0 Q h cells slots pc' Ls st) : OGo p l e R s m args below meth c n0 Q h cells slots pc Ls (.ref a :: st) := by
  subst hp
  exact OGo.same (fun T locs k n X e0 => RoadKit.initO X K.ex K.hZ K.hown w1 w2 w3 e0 (g := mkF m pc Ls (.ref a :: st)) rfl (hsz.trans K.hml.symm) rfl (hb K.by hd) hf hW hl) r
theorem own_private {T : State} {locs : List Loc} {cells slots : Nat} (X : Stand p l e R s m args below meth c T locs cells slots) (hexec : p.tables.exec = Jvm.exec) {own : String} {index ni : Nat} {y : MethodName} {bytes : ByteArray} {maxL : Nat} {ret : Option FieldType}
    (hown : s.vm.findClass own = some m.cls) (hlink : (Jvm.Cond.methodLink own index y).before args s = true) (hinst : (Jvm.Cond.instanceMethod y).before args s = true) (hi : (Jvm.Cond.instantiable y.cls ni).before args s = true) (hpriv : s.PrivateAt y) (hcode : (Jvm.Cond.code y bytes maxL ret).before args s = true) (hy : y.cls ≠ "java/lang/invoke/MethodHandle" ∧ y.cls ≠ "java/lang/invoke/VarHandle")
    {W : Nat} {Pre : Pt → Array Value → Prop} {Post : Pt → Array Value → Option Value → Pt → Prop} (hK : Back l R p e below s args y 3 W Pre Post) {g : JFrame} (hg : g.method = m) (hsize : g.locals.size = c.maxLocals) {a : Addr} {cell : Cell} (hcell : T.heap[a]? = some cell) (hobj : ∀ q, cell.vm ≠ .statics q)
    {argsL rest : List Value} (hlen : ∀ sig, parseMethodDescriptor y.desc = some sig → argsL.length = sig.parameters.length) (hstack : g.stack = argsL.reverse ++ .ref a :: rest) (hW : 2 * g.monitorRoom + (rest.map fun v => v.category).sum ≤ W) (hdg : decode c.code g.pc = .ok (.invokevirtual index, 3))
    (hpre : ∀ vm₁, s.WarmedH vm₁ → Pre ⟨T.setVm vm₁, locs, cells, slots⟩ (.ref a :: argsL).toArray) :
    ∃ (v : Option Value) (vm₁ : Vm) (B : Pt), s.WarmedH vm₁ ∧ Stand p l e R s m args below meth c B.U B.locs B.cells B.slots ∧ Post ⟨T.setVm vm₁, locs, cells, slots⟩ (.ref a :: argsL).toArray v B ∧ Steps p.tables e below (T.setTop g) (B.U.setTop { g with pc := g.pc + 3, stack := v.toList ++ rest }) := by
  obtain ⟨mk, mt, n1, n2, n3, n4⟩ := Cond.instanceMethod_spec hinst
  obtain ⟨mt', ct, c1, -, -, -, -, -, -, c2⟩ := Cond.code_spec n1 hcode
  obtain rfl : mt' = mt := Option.some.inj (c1.symm.trans n2)
  obtain ⟨ci, ki, i1, i2, -, i3, -⟩ := Cond.instantiable_spec hi
  have i4 : s.vm.classes[mk.cls]? = some ki := by rw [Option.some.inj ((findClass_of_methodNamed n1).symm.trans i1)]; exact i2
  have i5 : ki.isInterface = false := (Bool.or_eq_false_iff.mp i3).1
  obtain ⟨vm₁, Y, sp⟩ := X.invokevirtual hexec hown hlink n1 n2 n3 i4 i5 hy hcell hobj (selectMethod_private n2 (hpriv mk mt' n1 n2)) n2 n4 i4 i5 hg (hlen _ c2) hstack hdg
  obtain ⟨v, B, Y', P', go⟩ := hK m meth c ⟨T.setVm vm₁, locs, cells, slots⟩ { g with stack := rest } (.invokevirtual index) mk (.ref a :: argsL).toArray Y hg hsize hdg hW (Y.named n1) (hpre vm₁ Y.warmed)
  exact ⟨v, vm₁, B, Y.warmed, Y', P', (sp _ fun acts => by rw [doInvoke_state]; exact Steps.refl _).trans go⟩
theorem OGo.callSV (K : OCx p l e R s m args below meth c Z own nm bytes ml rt) {y : MethodName} {index : Nat} {bytes' : ByteArray} {maxL : Nat} {ret : Option FieldType} {rm : Room} {W cells' slots' : Nat} {argsL : List Value} {P : Value → Heap → Prop} (w1 : (Jvm.Cond.methodLink own index y).before a0 Z = true) (w2 : (Jvm.Cond.static y).before a0 Z = true) (w3 : (Jvm.Cond.initialized y.cls).before a0 Z = true) (w4 : (Jvm.Cond.code y bytes' maxL ret).before a0 Z = true) (hy : y.cls ≠ "java/lang/invoke/MethodHandle" ∧ y.cls ≠ "java/lang/invoke/VarHandle") (C : OCon l Z n0 y bytes' maxL ret [] rm (argsL.toArray) h (OV P)) (hd : decode bytes pc = .ok (.invokestatic index, 3)) (hp : pc + 3 = pc') (hsz : Ls.size = ml) (hlen : ∀ sig, parseMethodDescriptor y.desc = some sig → argsL.length = sig.parameters.length) (hW : 2 * 0 + (st.map fun v => v.category).sum ≤ W) (hf : rm.frames + 1 ≤ R.frames) (hlo : W + (maxL + 11) + rm.locals ≤ R.locals) (hc : cells + rm.cells = cells') (hl : slots + rm.slots = slots') (hc' : cells' ≤ R.cells) (hl' : slots' ≤ R.slots) (r : ∀ (w : Value) (h' : Heap), P w h' → OGo p l e R s m args below meth c n0 Q h' cells' slots' pc' Ls (w :: st))
    : OGo p l e R s m args below meth c n0 Q h cells slots pc Ls (argsL.reverse ++ st) := by
  subst hp hc hl
  intro T locs k n X e0 N h1 h2
  obtain ⟨_, _, ⟨T', L', k', n'⟩, -, X', ⟨Lc, ⟨hQ, hN⟩, l', y', z'⟩, stp⟩ := Jvm.LawKit.callS X K.ex (y := y) K.hown (mvT K.hZ w1) (mvT K.hZ w2) (mvT K.hZ w3) (mvT K.hZ w4) hy (backOf (W := W) (Q := fun v h L => (OV P) v h ∧ Fr n0 L) C K.hZ w4 w3 hf hlo) (g := mkF m pc Ls (argsL.reverse ++ st)) rfl (hsz.trans K.hml.symm) (argsL := argsL) (rest := st) hlen rfl hW (hb K.by hd) (fun _ _ => ⟨rfl, e0, (by show k + rm.cells ≤ R.cells; omega), (by show n + rm.slots ≤ R.slots; omega)⟩)
  dsimp only [Pt.U, Pt.locs, Pt.cells, Pt.slots] at X' l' y' z' stp hQ
  subst l' y' z'
  obtain ⟨w, rfl, hQ⟩ := hQ
  obtain ⟨s₂, v, L, g, r'⟩ := r w _ hQ T' _ _ _ X' rfl (Fr.app N hN) (by omega) (by omega)
  exact ⟨s₂, v, L, stp _ g, r'⟩
theorem OGo.callSN (K : OCx p l e R s m args below meth c Z own nm bytes ml rt) {y : MethodName} {index : Nat} {bytes' : ByteArray} {maxL : Nat} {ret : Option FieldType} {rm : Room} {W cells' slots' : Nat} {argsL : List Value} {P : Heap → Prop} (w1 : (Jvm.Cond.methodLink own index y).before a0 Z = true) (w2 : (Jvm.Cond.static y).before a0 Z = true) (w3 : (Jvm.Cond.initialized y.cls).before a0 Z = true) (w4 : (Jvm.Cond.code y bytes' maxL ret).before a0 Z = true) (hy : y.cls ≠ "java/lang/invoke/MethodHandle" ∧ y.cls ≠ "java/lang/invoke/VarHandle") (C : OCon l Z n0 y bytes' maxL ret [] rm (argsL.toArray) h (ON P)) (hd : decode bytes pc = .ok (.invokestatic index, 3)) (hp : pc + 3 = pc') (hsz : Ls.size = ml) (hlen : ∀ sig, parseMethodDescriptor y.desc = some sig → argsL.length = sig.parameters.length) (hW : 2 * 0 + (st.map fun v => v.category).sum ≤ W) (hf : rm.frames + 1 ≤ R.frames) (hlo : W + (maxL + 11) + rm.locals ≤ R.locals) (hc : cells + rm.cells = cells') (hl : slots + rm.slots = slots') (hc' : cells' ≤ R.cells) (hl' : slots' ≤ R.slots) (r : ∀ (h' : Heap), P h' → OGo p l e R s m args below meth c n0 Q h' cells' slots' pc' Ls st)
    : OGo p l e R s m args below meth c n0 Q h cells slots pc Ls (argsL.reverse ++ st) := by
  subst hp hc hl
  intro T locs k n X e0 N h1 h2
  obtain ⟨_, _, ⟨T', L', k', n'⟩, -, X', ⟨Lc, ⟨hQ, hN⟩, l', y', z'⟩, stp⟩ := Jvm.LawKit.callS X K.ex (y := y) K.hown (mvT K.hZ w1) (mvT K.hZ w2) (mvT K.hZ w3) (mvT K.hZ w4) hy (backOf (W := W) (Q := fun v h L => (ON P) v h ∧ Fr n0 L) C K.hZ w4 w3 hf hlo) (g := mkF m pc Ls (argsL.reverse ++ st)) rfl (hsz.trans K.hml.symm) (argsL := argsL) (rest := st) hlen rfl hW (hb K.by hd) (fun _ _ => ⟨rfl, e0, (by show k + rm.cells ≤ R.cells; omega), (by show n + rm.slots ≤ R.slots; omega)⟩)
  dsimp only [Pt.U, Pt.locs, Pt.cells, Pt.slots] at X' l' y' z' stp hQ
  subst l' y' z'
  obtain ⟨rfl, hQ⟩ := hQ
  obtain ⟨s₂, v, L, g, r'⟩ := r  _ hQ T' _ _ _ X' rfl (Fr.app N hN) (by omega) (by omega)
  exact ⟨s₂, v, L, stp _ g, r'⟩
theorem OGo.callIV (K : OCx p l e R s m args below meth c Z own nm bytes ml rt) {y : MethodName} {a : Addr} {index : Nat} {bytes' : ByteArray} {maxL : Nat} {rm : Room} {W cells' slots' : Nat} {argsL : List Value} {P : Value → Heap → Prop} (hy1 : y.name = "<init>") (w1 : (Jvm.Cond.methodLink own index y).before a0 Z = true) (w2 : (Jvm.Cond.instanceMethod y).before a0 Z = true) (w3 : (Jvm.Cond.initialized y.cls).before a0 Z = true) (w4 : (Jvm.Cond.code y bytes' maxL none).before a0 Z = true) (hy : y.cls ≠ "java/lang/invoke/MethodHandle" ∧ y.cls ≠ "java/lang/invoke/VarHandle") (C : OCon l Z n0 y bytes' maxL none [] rm ((.ref a :: argsL).toArray) h (OV P)) (hd : decode bytes pc = .ok (.invokespecial index, 3)) (hp : pc + 3 = pc') (hsz : Ls.size = ml) (hlen : ∀ sig, parseMethodDescriptor y.desc = some sig → argsL.length = sig.parameters.length) (hW : 2 * 0 + (st.map fun v => v.category).sum ≤ W) (hf : rm.frames + 1 ≤ R.frames) (hlo : W + (maxL + 11) + rm.locals ≤ R.locals) (hc : cells + rm.cells = cells') (hl : slots + rm.slots = slots') (hc' : cells' ≤ R.cells) (hl' : slots' ≤ R.slots) (r : ∀ (w : Value) (h' : Heap), P w h' → OGo p l e R s m args below meth c n0 Q h' cells' slots' pc' Ls (w :: st))
    : OGo p l e R s m args below meth c n0 Q h cells slots pc Ls (argsL.reverse ++ .ref a :: st) := by
  subst hp hc hl
  intro T locs k n X e0 N h1 h2
  obtain ⟨_, _, ⟨T', L', k', n'⟩, -, X', ⟨Lc, ⟨hQ, hN⟩, l', y', z'⟩, stp⟩ := X.specialBack K.ex (y := y) hy1 K.hown (mvT K.hZ w1) (mvT K.hZ w2) (mvT K.hZ w4) hy (backOf (W := W) (Q := fun v h L => (OV P) v h ∧ Fr n0 L) C K.hZ w4 w3 hf hlo) (g := mkF m pc Ls (argsL.reverse ++ .ref a :: st)) rfl (hsz.trans K.hml.symm) (Steps.refl _) (a := a) (argsL := argsL) (rest := st) hlen rfl hW (hb K.by hd) (fun _ _ => ⟨rfl, e0, (by show k + rm.cells ≤ R.cells; omega), (by show n + rm.slots ≤ R.slots; omega)⟩)
  dsimp only [Pt.U, Pt.locs, Pt.cells, Pt.slots] at X' l' y' z' stp hQ
  subst l' y' z'
  obtain ⟨w, rfl, hQ⟩ := hQ
  obtain ⟨s₂, v, L, g, r'⟩ := r w _ hQ T' _ _ _ X' rfl (Fr.app N hN) (by omega) (by omega)
  exact ⟨s₂, v, L, stp.trans g, r'⟩
theorem OGo.callIN (K : OCx p l e R s m args below meth c Z own nm bytes ml rt) {y : MethodName} {a : Addr} {index : Nat} {bytes' : ByteArray} {maxL : Nat} {rm : Room} {W cells' slots' : Nat} {argsL : List Value} {P : Heap → Prop} (hy1 : y.name = "<init>") (w1 : (Jvm.Cond.methodLink own index y).before a0 Z = true) (w2 : (Jvm.Cond.instanceMethod y).before a0 Z = true) (w3 : (Jvm.Cond.initialized y.cls).before a0 Z = true) (w4 : (Jvm.Cond.code y bytes' maxL none).before a0 Z = true) (hy : y.cls ≠ "java/lang/invoke/MethodHandle" ∧ y.cls ≠ "java/lang/invoke/VarHandle") (C : OCon l Z n0 y bytes' maxL none [] rm ((.ref a :: argsL).toArray) h (ON P)) (hd : decode bytes pc = .ok (.invokespecial index, 3)) (hp : pc + 3 = pc') (hsz : Ls.size = ml) (hlen : ∀ sig, parseMethodDescriptor y.desc = some sig → argsL.length = sig.parameters.length) (hW : 2 * 0 + (st.map fun v => v.category).sum ≤ W) (hf : rm.frames + 1 ≤ R.frames) (hlo : W + (maxL + 11) + rm.locals ≤ R.locals) (hc : cells + rm.cells = cells') (hl : slots + rm.slots = slots') (hc' : cells' ≤ R.cells) (hl' : slots' ≤ R.slots) (r : ∀ (h' : Heap), P h' → OGo p l e R s m args below meth c n0 Q h' cells' slots' pc' Ls st)
    : OGo p l e R s m args below meth c n0 Q h cells slots pc Ls (argsL.reverse ++ .ref a :: st) := by
  subst hp hc hl
  intro T locs k n X e0 N h1 h2
  obtain ⟨_, _, ⟨T', L', k', n'⟩, -, X', ⟨Lc, ⟨hQ, hN⟩, l', y', z'⟩, stp⟩ := X.specialBack K.ex (y := y) hy1 K.hown (mvT K.hZ w1) (mvT K.hZ w2) (mvT K.hZ w4) hy (backOf (W := W) (Q := fun v h L => (ON P) v h ∧ Fr n0 L) C K.hZ w4 w3 hf hlo) (g := mkF m pc Ls (argsL.reverse ++ .ref a :: st)) rfl (hsz.trans K.hml.symm) (Steps.refl _) (a := a) (argsL := argsL) (rest := st) hlen rfl hW (hb K.by hd) (fun _ _ => ⟨rfl, e0, (by show k + rm.cells ≤ R.cells; omega), (by show n + rm.slots ≤ R.slots; omega)⟩)
  dsimp only [Pt.U, Pt.locs, Pt.cells, Pt.slots] at X' l' y' z' stp hQ
  subst l' y' z'
  obtain ⟨rfl, hQ⟩ := hQ
  obtain ⟨s₂, v, L, g, r'⟩ := r  _ hQ T' _ _ _ X' rfl (Fr.app N hN) (by omega) (by omega)
  exact ⟨s₂, v, L, stp.trans g, r'⟩
theorem OGo.callPV (K : OCx p l e R s m args below meth c Z own nm bytes ml rt) {y : MethodName} {a : Addr} {C0 : String} {index : Nat} {bytes' : ByteArray} {maxL : Nat} {ret : Option FieldType} {rm : Room} {W cells' slots' : Nat} {argsL : List Value} {P : Value → Heap → Prop} (E : Exa Z h a C0) (w1 : (Jvm.Cond.methodLink own index y).before a0 Z = true) (w2 : (Jvm.Cond.instanceMethod y).before a0 Z = true) (w5 : (Jvm.Cond.selects y.cls y y).before a0 Z = true) (w6 : (Jvm.Cond.privateMethod y).before a0 Z = true) (w3 : (Jvm.Cond.initialized y.cls).before a0 Z = true) (w4 : (Jvm.Cond.code y bytes' maxL ret).before a0 Z = true) (hy : y.cls ≠ "java/lang/invoke/MethodHandle" ∧ y.cls ≠ "java/lang/invoke/VarHandle") (C : OCon l Z n0 y bytes' maxL ret [] rm ((.ref a :: argsL).toArray) h (OV P)) (hd : decode bytes pc = .ok (.invokevirtual index, 3)) (hp : pc + 3 = pc') (hsz : Ls.size = ml) (hlen : ∀ sig, parseMethodDescriptor y.desc = some sig → argsL.length = sig.parameters.length) (hW : 2 * 0 + (st.map fun v => v.category).sum ≤ W) (hf : rm.frames + 1 ≤ R.frames) (hlo : W + (maxL + 11) + rm.locals ≤ R.locals) (hc : cells + rm.cells = cells') (hl : slots + rm.slots = slots') (hc' : cells' ≤ R.cells) (hl' : slots' ≤ R.slots) (r : ∀ (w : Value) (h' : Heap), P w h' → OGo p l e R s m args below meth c n0 Q h' cells' slots' pc' Ls (w :: st))
    : OGo p l e R s m args below meth c n0 Q h cells slots pc Ls (argsL.reverse ++ .ref a :: st) := by
  subst hp hc hl
  intro T locs k n X e0 N h1 h2
  obtain ⟨cq, q, q'⟩ := E.cell
  obtain ⟨_, _, ⟨T', L', k', n'⟩, -, X', ⟨Lc, ⟨hQ, hN⟩, l', y', z'⟩, stp⟩ := X.privateBack K.ex (y := y) K.hown (mvT K.hZ w1) (mvT K.hZ w2) (mvT K.hZ w5) (Cond.privateMethod_at (mvP K.hZ w6 (args := #[]))) (mvT K.hZ w4) hy (backOf (W := W) (Q := fun v h L => (OV P) v h ∧ Fr n0 L) C K.hZ w4 w3 hf hlo) (g := mkF m pc Ls (argsL.reverse ++ .ref a :: st)) rfl (hsz.trans K.hml.symm) (Steps.refl _) (a := a) (by rw [e0]; exact q) q' (argsL := argsL) (rest := st) hlen rfl hW (hb K.by hd) (fun _ _ => ⟨rfl, e0, (by show k + rm.cells ≤ R.cells; omega), (by show n + rm.slots ≤ R.slots; omega)⟩)
  dsimp only [Pt.U, Pt.locs, Pt.cells, Pt.slots] at X' l' y' z' stp hQ
  subst l' y' z'
  obtain ⟨w, rfl, hQ⟩ := hQ
  obtain ⟨s₂, v, L, g, r'⟩ := r w _ hQ T' _ _ _ X' rfl (Fr.app N hN) (by omega) (by omega)
  exact ⟨s₂, v, L, stp.trans g, r'⟩
theorem OGo.callPN (K : OCx p l e R s m args below meth c Z own nm bytes ml rt) {y : MethodName} {a : Addr} {C0 : String} {index : Nat} {bytes' : ByteArray} {maxL : Nat} {ret : Option FieldType} {rm : Room} {W cells' slots' : Nat} {argsL : List Value} {P : Heap → Prop} (E : Exa Z h a C0) (w1 : (Jvm.Cond.methodLink own index y).before a0 Z = true) (w2 : (Jvm.Cond.instanceMethod y).before a0 Z = true) (w5 : (Jvm.Cond.selects y.cls y y).before a0 Z = true) (w6 : (Jvm.Cond.privateMethod y).before a0 Z = true) (w3 : (Jvm.Cond.initialized y.cls).before a0 Z = true) (w4 : (Jvm.Cond.code y bytes' maxL ret).before a0 Z = true) (hy : y.cls ≠ "java/lang/invoke/MethodHandle" ∧ y.cls ≠ "java/lang/invoke/VarHandle") (C : OCon l Z n0 y bytes' maxL ret [] rm ((.ref a :: argsL).toArray) h (ON P)) (hd : decode bytes pc = .ok (.invokevirtual index, 3)) (hp : pc + 3 = pc') (hsz : Ls.size = ml) (hlen : ∀ sig, parseMethodDescriptor y.desc = some sig → argsL.length = sig.parameters.length) (hW : 2 * 0 + (st.map fun v => v.category).sum ≤ W) (hf : rm.frames + 1 ≤ R.frames) (hlo : W + (maxL + 11) + rm.locals ≤ R.locals) (hc : cells + rm.cells = cells') (hl : slots + rm.slots = slots') (hc' : cells' ≤ R.cells) (hl' : slots' ≤ R.slots) (r : ∀ (h' : Heap), P h' → OGo p l e R s m args below meth c n0 Q h' cells' slots' pc' Ls st)
    : OGo p l e R s m args below meth c n0 Q h cells slots pc Ls (argsL.reverse ++ .ref a :: st) := by
  subst hp hc hl
  intro T locs k n X e0 N h1 h2
  obtain ⟨cq, q, q'⟩ := E.cell
  obtain ⟨_, _, ⟨T', L', k', n'⟩, -, X', ⟨Lc, ⟨hQ, hN⟩, l', y', z'⟩, stp⟩ := X.privateBack K.ex (y := y) K.hown (mvT K.hZ w1) (mvT K.hZ w2) (mvT K.hZ w5) (Cond.privateMethod_at (mvP K.hZ w6 (args := #[]))) (mvT K.hZ w4) hy (backOf (W := W) (Q := fun v h L => (ON P) v h ∧ Fr n0 L) C K.hZ w4 w3 hf hlo) (g := mkF m pc Ls (argsL.reverse ++ .ref a :: st)) rfl (hsz.trans K.hml.symm) (Steps.refl _) (a := a) (by rw [e0]; exact q) q' (argsL := argsL) (rest := st) hlen rfl hW (hb K.by hd) (fun _ _ => ⟨rfl, e0, (by show k + rm.cells ≤ R.cells; omega), (by show n + rm.slots ≤ R.slots; omega)⟩)
  dsimp only [Pt.U, Pt.locs, Pt.cells, Pt.slots] at X' l' y' z' stp hQ
  subst l' y' z'
  obtain ⟨rfl, hQ⟩ := hQ
  obtain ⟨s₂, v, L, g, r'⟩ := r  _ hQ T' _ _ _ X' rfl (Fr.app N hN) (by omega) (by omega)
  exact ⟨s₂, v, L, stp.trans g, r'⟩
theorem OGo.callVV (K : OCx p l e R s m args below meth c Z own nm bytes ml rt) {y z : MethodName} {a : Addr} {C0 : String} {index : Nat} {bytes' : ByteArray} {maxL : Nat} {ret : Option FieldType} {rm : Room} {W cells' slots' : Nat} {argsL : List Value} {P : Value → Heap → Prop} (E : Exa Z h a C0) (w1 : (Jvm.Cond.methodLink own index y).before a0 Z = true) (w2 : (Jvm.Cond.declares y).before a0 Z = true) (hnf : NotFace s y) (w5 : (Jvm.Cond.selects C0 y z).before a0 Z = true) (w6 : (Jvm.Cond.instanceMethod z).before a0 Z = true) (w3 : (Jvm.Cond.initialized z.cls).before a0 Z = true) (w4 : (Jvm.Cond.code z bytes' maxL ret).before a0 Z = true) (hy : y.cls ≠ "java/lang/invoke/MethodHandle" ∧ y.cls ≠ "java/lang/invoke/VarHandle") (C : OCon l Z n0 z bytes' maxL ret [] rm ((.ref a :: argsL).toArray) h (OV P)) (hd : decode bytes pc = .ok (.invokevirtual index, 3)) (hp : pc + 3 = pc') (hsz : Ls.size = ml) (hlen : ∀ sig, parseMethodDescriptor y.desc = some sig → argsL.length = sig.parameters.length) (hW : 2 * 0 + (st.map fun v => v.category).sum ≤ W) (hf : rm.frames + 1 ≤ R.frames) (hlo : W + (maxL + 11) + rm.locals ≤ R.locals) (hc : cells + rm.cells = cells') (hl : slots + rm.slots = slots') (hc' : cells' ≤ R.cells) (hl' : slots' ≤ R.slots) (r : ∀ (w : Value) (h' : Heap), P w h' → OGo p l e R s m args below meth c n0 Q h' cells' slots' pc' Ls (w :: st))
    : OGo p l e R s m args below meth c n0 Q h cells slots pc Ls (argsL.reverse ++ .ref a :: st) := by
  subst hp hc hl
  intro T locs k n X e0 N h1 h2
  obtain ⟨cq, kq, qa, qb, qc⟩ := isOf K.hZ e0 E
  obtain ⟨_, _, ⟨T', L', k', n'⟩, -, X', ⟨Lc, ⟨hQ, hN⟩, l', y', z'⟩, stp⟩ := X.virtualBack K.ex (y := y) (z := z) K.hown (mvT K.hZ w1) (mvT K.hZ w2) hnf (mvT K.hZ w5) (mvT K.hZ w6) hy (backOf (W := W) (Q := fun v h L => (OV P) v h ∧ Fr n0 L) C K.hZ w4 w3 hf hlo) qa qc (g := mkF m pc Ls (argsL.reverse ++ .ref a :: st)) rfl (hsz.trans K.hml.symm) (Steps.refl _) (argsL := argsL) (rest := st) hlen rfl hW (hb K.by hd) (fun _ _ => ⟨rfl, e0, (by show k + rm.cells ≤ R.cells; omega), (by show n + rm.slots ≤ R.slots; omega)⟩)
  dsimp only [Pt.U, Pt.locs, Pt.cells, Pt.slots] at X' l' y' z' stp hQ
  subst l' y' z'
  obtain ⟨w, rfl, hQ⟩ := hQ
  obtain ⟨s₂, v, L, g, r'⟩ := r w _ hQ T' _ _ _ X' rfl (Fr.app N hN) (by omega) (by omega)
  exact ⟨s₂, v, L, stp.trans g, r'⟩
theorem OGo.callVN (K : OCx p l e R s m args below meth c Z own nm bytes ml rt) {y z : MethodName} {a : Addr} {C0 : String} {index : Nat} {bytes' : ByteArray} {maxL : Nat} {ret : Option FieldType} {rm : Room} {W cells' slots' : Nat} {argsL : List Value} {P : Heap → Prop} (E : Exa Z h a C0) (w1 : (Jvm.Cond.methodLink own index y).before a0 Z = true) (w2 : (Jvm.Cond.declares y).before a0 Z = true) (hnf : NotFace s y) (w5 : (Jvm.Cond.selects C0 y z).before a0 Z = true) (w6 : (Jvm.Cond.instanceMethod z).before a0 Z = true) (w3 : (Jvm.Cond.initialized z.cls).before a0 Z = true) (w4 : (Jvm.Cond.code z bytes' maxL ret).before a0 Z = true) (hy : y.cls ≠ "java/lang/invoke/MethodHandle" ∧ y.cls ≠ "java/lang/invoke/VarHandle") (C : OCon l Z n0 z bytes' maxL ret [] rm ((.ref a :: argsL).toArray) h (ON P)) (hd : decode bytes pc = .ok (.invokevirtual index, 3)) (hp : pc + 3 = pc') (hsz : Ls.size = ml) (hlen : ∀ sig, parseMethodDescriptor y.desc = some sig → argsL.length = sig.parameters.length) (hW : 2 * 0 + (st.map fun v => v.category).sum ≤ W) (hf : rm.frames + 1 ≤ R.frames) (hlo : W + (maxL + 11) + rm.locals ≤ R.locals) (hc : cells + rm.cells = cells') (hl : slots + rm.slots = slots') (hc' : cells' ≤ R.cells) (hl' : slots' ≤ R.slots) (r : ∀ (h' : Heap), P h' → OGo p l e R s m args below meth c n0 Q h' cells' slots' pc' Ls st)
    : OGo p l e R s m args below meth c n0 Q h cells slots pc Ls (argsL.reverse ++ .ref a :: st) := by
  subst hp hc hl
  intro T locs k n X e0 N h1 h2
  obtain ⟨cq, kq, qa, qb, qc⟩ := isOf K.hZ e0 E
  obtain ⟨_, _, ⟨T', L', k', n'⟩, -, X', ⟨Lc, ⟨hQ, hN⟩, l', y', z'⟩, stp⟩ := X.virtualBack K.ex (y := y) (z := z) K.hown (mvT K.hZ w1) (mvT K.hZ w2) hnf (mvT K.hZ w5) (mvT K.hZ w6) hy (backOf (W := W) (Q := fun v h L => (ON P) v h ∧ Fr n0 L) C K.hZ w4 w3 hf hlo) qa qc (g := mkF m pc Ls (argsL.reverse ++ .ref a :: st)) rfl (hsz.trans K.hml.symm) (Steps.refl _) (argsL := argsL) (rest := st) hlen rfl hW (hb K.by hd) (fun _ _ => ⟨rfl, e0, (by show k + rm.cells ≤ R.cells; omega), (by show n + rm.slots ≤ R.slots; omega)⟩)
  dsimp only [Pt.U, Pt.locs, Pt.cells, Pt.slots] at X' l' y' z' stp hQ
  subst l' y' z'
  obtain ⟨rfl, hQ⟩ := hQ
  obtain ⟨s₂, v, L, g, r'⟩ := r  _ hQ T' _ _ _ X' rfl (Fr.app N hN) (by omega) (by omega)
  exact ⟨s₂, v, L, stp.trans g, r'⟩
theorem OGo.callFV (K : OCx p l e R s m args below meth c Z own nm bytes ml rt) {y z : MethodName} {a : Addr} {C0 : String} {cnt : Nat} {index : Nat} {bytes' : ByteArray} {maxL : Nat} {ret : Option FieldType} {rm : Room} {W cells' slots' : Nat} {argsL : List Value} {P : Value → Heap → Prop} (E : Exa Z h a C0) (w1 : (Jvm.Cond.methodLink own index y).before a0 Z = true) (w2 : (Jvm.Cond.declares y).before a0 Z = true) (w7 : (Jvm.Cond.interfaceMethod y.cls y.cls y.name y.desc).before a0 Z = true) (w5 : (Jvm.Cond.selects C0 y z).before a0 Z = true) (w6 : (Jvm.Cond.instanceMethod z).before a0 Z = true) (w8 : (Jvm.Cond.publicMethod z).before a0 Z = true) (w9 : (Jvm.Cond.unhidden C0 y.name y.desc).before a0 Z = true) (w10 : (Jvm.Cond.castable C0 y.cls).before a0 Z = true) (w3 : (Jvm.Cond.initialized z.cls).before a0 Z = true) (w4 : (Jvm.Cond.code z bytes' maxL ret).before a0 Z = true) (hy : y.cls ≠ "java/lang/invoke/MethodHandle" ∧ y.cls ≠ "java/lang/invoke/VarHandle") (C : OCon l Z n0 z bytes' maxL ret [] rm ((.ref a :: argsL).toArray) h (OV P)) (hd : decode bytes pc = .ok (.invokeinterface index cnt, 5)) (hp : pc + 5 = pc') (hsz : Ls.size = ml) (hlen : ∀ sig, parseMethodDescriptor y.desc = some sig → argsL.length = sig.parameters.length) (hW : 2 * 0 + (st.map fun v => v.category).sum ≤ W) (hf : rm.frames + 1 ≤ R.frames) (hlo : W + (maxL + 11) + rm.locals ≤ R.locals) (hc : cells + rm.cells = cells') (hl : slots + rm.slots = slots') (hc' : cells' ≤ R.cells) (hl' : slots' ≤ R.slots) (r : ∀ (w : Value) (h' : Heap), P w h' → OGo p l e R s m args below meth c n0 Q h' cells' slots' pc' Ls (w :: st))
    : OGo p l e R s m args below meth c n0 Q h cells slots pc Ls (argsL.reverse ++ .ref a :: st) := by
  subst hp hc hl
  intro T locs k n X e0 N h1 h2
  obtain ⟨cq, kq, qa, qb, qc⟩ := isOf K.hZ e0 E
  obtain ⟨_, _, ⟨T', L', k', n'⟩, -, X', ⟨Lc, ⟨hQ, hN⟩, l', y', z'⟩, stp⟩ := X.interfaceBack K.ex (xi := y) (y := z) K.hown (mvT K.hZ w1) (mvT K.hZ w2) (mvT K.hZ w7 (by simp [Cond.onTables, Cond.keepsFace, Cond.keeps, Cond.steady, Cond.faceAtom, hy.1, hy.2])) (mvT K.hZ w5) (mvT K.hZ w6) (mvT K.hZ w8) (mvT K.hZ w9) (mvT K.hZ w10) hy (backOf (W := W) (Q := fun v h L => (OV P) v h ∧ Fr n0 L) C K.hZ w4 w3 hf hlo) qa qb qc (g := mkF m pc Ls (argsL.reverse ++ .ref a :: st)) rfl (hsz.trans K.hml.symm) (Steps.refl _) (argsL := argsL) (rest := st) hlen rfl hW (hb K.by hd) (fun _ _ => ⟨rfl, e0, (by show k + rm.cells ≤ R.cells; omega), (by show n + rm.slots ≤ R.slots; omega)⟩)
  dsimp only [Pt.U, Pt.locs, Pt.cells, Pt.slots] at X' l' y' z' stp hQ
  subst l' y' z'
  obtain ⟨w, rfl, hQ⟩ := hQ
  obtain ⟨s₂, v, L, g, r'⟩ := r w _ hQ T' _ _ _ X' rfl (Fr.app N hN) (by omega) (by omega)
  exact ⟨s₂, v, L, stp.trans g, r'⟩
theorem OGo.callFN (K : OCx p l e R s m args below meth c Z own nm bytes ml rt) {y z : MethodName} {a : Addr} {C0 : String} {cnt : Nat} {index : Nat} {bytes' : ByteArray} {maxL : Nat} {ret : Option FieldType} {rm : Room} {W cells' slots' : Nat} {argsL : List Value} {P : Heap → Prop} (E : Exa Z h a C0) (w1 : (Jvm.Cond.methodLink own index y).before a0 Z = true) (w2 : (Jvm.Cond.declares y).before a0 Z = true) (w7 : (Jvm.Cond.interfaceMethod y.cls y.cls y.name y.desc).before a0 Z = true) (w5 : (Jvm.Cond.selects C0 y z).before a0 Z = true) (w6 : (Jvm.Cond.instanceMethod z).before a0 Z = true) (w8 : (Jvm.Cond.publicMethod z).before a0 Z = true) (w9 : (Jvm.Cond.unhidden C0 y.name y.desc).before a0 Z = true) (w10 : (Jvm.Cond.castable C0 y.cls).before a0 Z = true) (w3 : (Jvm.Cond.initialized z.cls).before a0 Z = true) (w4 : (Jvm.Cond.code z bytes' maxL ret).before a0 Z = true) (hy : y.cls ≠ "java/lang/invoke/MethodHandle" ∧ y.cls ≠ "java/lang/invoke/VarHandle") (C : OCon l Z n0 z bytes' maxL ret [] rm ((.ref a :: argsL).toArray) h (ON P)) (hd : decode bytes pc = .ok (.invokeinterface index cnt, 5)) (hp : pc + 5 = pc') (hsz : Ls.size = ml) (hlen : ∀ sig, parseMethodDescriptor y.desc = some sig → argsL.length = sig.parameters.length) (hW : 2 * 0 + (st.map fun v => v.category).sum ≤ W) (hf : rm.frames + 1 ≤ R.frames) (hlo : W + (maxL + 11) + rm.locals ≤ R.locals) (hc : cells + rm.cells = cells') (hl : slots + rm.slots = slots') (hc' : cells' ≤ R.cells) (hl' : slots' ≤ R.slots) (r : ∀ (h' : Heap), P h' → OGo p l e R s m args below meth c n0 Q h' cells' slots' pc' Ls st)
    : OGo p l e R s m args below meth c n0 Q h cells slots pc Ls (argsL.reverse ++ .ref a :: st) := by
  subst hp hc hl
  intro T locs k n X e0 N h1 h2
  obtain ⟨cq, kq, qa, qb, qc⟩ := isOf K.hZ e0 E
  obtain ⟨_, _, ⟨T', L', k', n'⟩, -, X', ⟨Lc, ⟨hQ, hN⟩, l', y', z'⟩, stp⟩ := X.interfaceBack K.ex (xi := y) (y := z) K.hown (mvT K.hZ w1) (mvT K.hZ w2) (mvT K.hZ w7 (by simp [Cond.onTables, Cond.keepsFace, Cond.keeps, Cond.steady, Cond.faceAtom, hy.1, hy.2])) (mvT K.hZ w5) (mvT K.hZ w6) (mvT K.hZ w8) (mvT K.hZ w9) (mvT K.hZ w10) hy (backOf (W := W) (Q := fun v h L => (ON P) v h ∧ Fr n0 L) C K.hZ w4 w3 hf hlo) qa qb qc (g := mkF m pc Ls (argsL.reverse ++ .ref a :: st)) rfl (hsz.trans K.hml.symm) (Steps.refl _) (argsL := argsL) (rest := st) hlen rfl hW (hb K.by hd) (fun _ _ => ⟨rfl, e0, (by show k + rm.cells ≤ R.cells; omega), (by show n + rm.slots ≤ R.slots; omega)⟩)
  dsimp only [Pt.U, Pt.locs, Pt.cells, Pt.slots] at X' l' y' z' stp hQ
  subst l' y' z'
  obtain ⟨rfl, hQ⟩ := hQ
  obtain ⟨s₂, v, L, g, r'⟩ := r  _ hQ T' _ _ _ X' rfl (Fr.app N hN) (by omega) (by omega)
  exact ⟨s₂, v, L, stp.trans g, r'⟩
theorem OGo.copy (K : OCx p l e R s m args below meth c Z own nm bytes ml rt) {index W : Nat} {a b : Addr} {k k' : ClassId} {ty : FieldType} {z z' sp dp nn : Int32} {vs vd us : List Value} {dv dd : Value} (w1 : (Jvm.Cond.methodLink own index Jvm.Stand.acN).before a0 Z = true) (w2 : (Jvm.Cond.native Jvm.Stand.acN).before a0 Z = true) (w3 : (Jvm.Cond.static Jvm.Stand.acN).before a0 Z = true) (w4 : (Jvm.Cond.initialized "java/lang/System").before a0 Z = true)
    (A : Arv Z h a k ty z vs dv) (B : Arv Z h b k' ty z' vd dd) (hty : refKind ty = false) (h1 : ¬ sp < 0) (h2 : ¬ dp < 0) (h3 : ¬ nn < 0) (h4 : sp.toNatClampNeg + nn.toNatClampNeg ≤ z.toNatClampNeg) (h5 : dp.toNatClampNeg + nn.toNatClampNeg ≤ z'.toNatClampNeg) (hus : us = (List.range nn.toNatClampNeg).map fun i => vs.getD (sp.toNatClampNeg + i) dv) (hl : dp.toNatClampNeg + nn.toNatClampNeg ≤ vd.length) (ge : n0 ≤ b)
    (hd : decode bytes pc = .ok (.invokestatic index, 3)) (hp : pc + 3 = pc') (hsz : Ls.size = ml) (hf : 1 ≤ R.frames) (hW : 2 * 0 + (st.map fun v => v.category).sum ≤ W) (hlo : W + (nativeFrameWords "java/lang/System" "arraycopy" 5 + 11) ≤ R.locals)
    (r : ∀ h', Keep h h' [b] → Arv Z h' b k' ty z' (vd.take dp.toNatClampNeg ++ us ++ vd.drop (dp.toNatClampNeg + nn.toNatClampNeg)) dd → OGo p l e R s m args below meth c n0 Q h' cells slots pc' Ls st) : OGo p l e R s m args below meth c n0 Q h cells slots pc Ls (.int nn :: .int dp :: .ref b :: .int sp :: .ref a :: st) := by
  subst hp
  intro T locs k n X e0 N h1' h2'
  obtain ⟨T', h', L, X', e', N', K', V', st'⟩ := RoadKit.cpA X K.ex K.hZ K.hown w1 w2 w3 w4 e0 A B (Or.inl ⟨rfl, hty⟩) h1 h2 h3 h4 h5 hus hl N ge (g := mkF m pc Ls (.int nn :: .int dp :: .ref b :: .int sp :: .ref a :: st)) rfl (hsz.trans K.hml.symm) rfl (hb K.by hd) hf hW hlo
  obtain ⟨s₂, v, L2, g, r'⟩ := r h' K' V' T' L k n X' e' N' h1' h2'
  exact ⟨s₂, v, L2, st' _ g, r'⟩
theorem OGo.callQV (K : OCx p l e R s m args below meth c Z own nm bytes ml rt) {y : MethodName} {a : Addr} {C0 : String} {ni : Nat} {index : Nat} {bytes' : ByteArray} {maxL : Nat} {ret : Option FieldType} {rm : Room} {W cells' slots' : Nat} {argsL : List Value} {P : Value → Heap → Prop} (E : Exa Z h a C0) (w1 : (Jvm.Cond.methodLink own index y).before a0 Z = true) (w2 : (Jvm.Cond.instanceMethod y).before a0 Z = true) (w5 : (Jvm.Cond.instantiable y.cls ni).before a0 Z = true) (w6 : (Jvm.Cond.privateMethod y).before a0 Z = true) (w3 : (Jvm.Cond.initialized y.cls).before a0 Z = true) (w4 : (Jvm.Cond.code y bytes' maxL ret).before a0 Z = true) (hy : y.cls ≠ "java/lang/invoke/MethodHandle" ∧ y.cls ≠ "java/lang/invoke/VarHandle") (C : OCon l Z n0 y bytes' maxL ret [] rm ((.ref a :: argsL).toArray) h (OV P)) (hd : decode bytes pc = .ok (.invokevirtual index, 3)) (hp : pc + 3 = pc') (hsz : Ls.size = ml) (hlen : ∀ sig, parseMethodDescriptor y.desc = some sig → argsL.length = sig.parameters.length) (hW : 2 * 0 + (st.map fun v => v.category).sum ≤ W) (hf : rm.frames + 1 ≤ R.frames) (hlo : W + (maxL + 11) + rm.locals ≤ R.locals) (hc : cells + rm.cells = cells') (hl : slots + rm.slots = slots') (hc' : cells' ≤ R.cells) (hl' : slots' ≤ R.slots) (r : ∀ (w : Value) (h' : Heap), P w h' → OGo p l e R s m args below meth c n0 Q h' cells' slots' pc' Ls (w :: st))
    : OGo p l e R s m args below meth c n0 Q h cells slots pc Ls (argsL.reverse ++ .ref a :: st) := by
  subst hp hc hl
  intro T locs k n X e0 N h1 h2
  obtain ⟨cq, q, q'⟩ := E.cell
  obtain ⟨_, _, ⟨T', L', k', n'⟩, -, X', ⟨Lc, ⟨hQ, hN⟩, l', y', z'⟩, stp⟩ := own_private X K.ex (y := y) K.hown (mvT K.hZ w1) (mvT K.hZ w2) (mvT K.hZ w5) (Cond.privateMethod_at (mvP K.hZ w6 (args := #[]))) (mvT K.hZ w4) hy (backOf (W := W) (Q := fun v h L => (OV P) v h ∧ Fr n0 L) C K.hZ w4 w3 hf hlo) (g := mkF m pc Ls (argsL.reverse ++ .ref a :: st)) rfl (hsz.trans K.hml.symm) (a := a) (by rw [e0]; exact q) q' (argsL := argsL) (rest := st) hlen rfl hW (hb K.by hd) (fun _ _ => ⟨rfl, e0, (by show k + rm.cells ≤ R.cells; omega), (by show n + rm.slots ≤ R.slots; omega)⟩)
  dsimp only [Pt.U, Pt.locs, Pt.cells, Pt.slots] at X' l' y' z' stp hQ
  subst l' y' z'
  obtain ⟨w, rfl, hQ⟩ := hQ
  obtain ⟨s₂, v, L, g, r'⟩ := r w _ hQ T' _ _ _ X' rfl (Fr.app N hN) (by omega) (by omega)
  exact ⟨s₂, v, L, stp.trans g, r'⟩
theorem OGo.callQN (K : OCx p l e R s m args below meth c Z own nm bytes ml rt) {y : MethodName} {a : Addr} {C0 : String} {ni : Nat} {index : Nat} {bytes' : ByteArray} {maxL : Nat} {ret : Option FieldType} {rm : Room} {W cells' slots' : Nat} {argsL : List Value} {P : Heap → Prop} (E : Exa Z h a C0) (w1 : (Jvm.Cond.methodLink own index y).before a0 Z = true) (w2 : (Jvm.Cond.instanceMethod y).before a0 Z = true) (w5 : (Jvm.Cond.instantiable y.cls ni).before a0 Z = true) (w6 : (Jvm.Cond.privateMethod y).before a0 Z = true) (w3 : (Jvm.Cond.initialized y.cls).before a0 Z = true) (w4 : (Jvm.Cond.code y bytes' maxL ret).before a0 Z = true) (hy : y.cls ≠ "java/lang/invoke/MethodHandle" ∧ y.cls ≠ "java/lang/invoke/VarHandle") (C : OCon l Z n0 y bytes' maxL ret [] rm ((.ref a :: argsL).toArray) h (ON P)) (hd : decode bytes pc = .ok (.invokevirtual index, 3)) (hp : pc + 3 = pc') (hsz : Ls.size = ml) (hlen : ∀ sig, parseMethodDescriptor y.desc = some sig → argsL.length = sig.parameters.length) (hW : 2 * 0 + (st.map fun v => v.category).sum ≤ W) (hf : rm.frames + 1 ≤ R.frames) (hlo : W + (maxL + 11) + rm.locals ≤ R.locals) (hc : cells + rm.cells = cells') (hl : slots + rm.slots = slots') (hc' : cells' ≤ R.cells) (hl' : slots' ≤ R.slots) (r : ∀ (h' : Heap), P h' → OGo p l e R s m args below meth c n0 Q h' cells' slots' pc' Ls st)
    : OGo p l e R s m args below meth c n0 Q h cells slots pc Ls (argsL.reverse ++ .ref a :: st) := by
  subst hp hc hl
  intro T locs k n X e0 N h1 h2
  obtain ⟨cq, q, q'⟩ := E.cell
  obtain ⟨_, _, ⟨T', L', k', n'⟩, -, X', ⟨Lc, ⟨hQ, hN⟩, l', y', z'⟩, stp⟩ := own_private X K.ex (y := y) K.hown (mvT K.hZ w1) (mvT K.hZ w2) (mvT K.hZ w5) (Cond.privateMethod_at (mvP K.hZ w6 (args := #[]))) (mvT K.hZ w4) hy (backOf (W := W) (Q := fun v h L => (ON P) v h ∧ Fr n0 L) C K.hZ w4 w3 hf hlo) (g := mkF m pc Ls (argsL.reverse ++ .ref a :: st)) rfl (hsz.trans K.hml.symm) (a := a) (by rw [e0]; exact q) q' (argsL := argsL) (rest := st) hlen rfl hW (hb K.by hd) (fun _ _ => ⟨rfl, e0, (by show k + rm.cells ≤ R.cells; omega), (by show n + rm.slots ≤ R.slots; omega)⟩)
  dsimp only [Pt.U, Pt.locs, Pt.cells, Pt.slots] at X' l' y' z' stp hQ
  subst l' y' z'
  obtain ⟨rfl, hQ⟩ := hQ
  obtain ⟨s₂, v, L, g, r'⟩ := r  _ hQ T' _ _ _ X' rfl (Fr.app N hN) (by omega) (by omega)
  exact ⟨s₂, v, L, stp.trans g, r'⟩
theorem OGo.acmp (K : OCx p l e R s m args below meth c Z own nm bytes ml rt) {cd : ACond} {o : Int} {x y : Value} {same : Bool} (hd : decode bytes pc = .ok (.if_acmp cd o, 3)) (h1 : x.isRef = true) (h2 : y.isRef = true) (hq : decide (x = y) = same) (ho : 0 ≤ (pc : Int) + o) (hp : pc' = if acV cd same = true then ((pc : Int) + o).toNat else pc + 3) (r : OGo p l e R s m args below meth c n0 Q h cells slots pc' Ls st) : OGo p l e R s m args below meth c n0 Q h cells slots pc Ls (y :: x :: st) :=
  OGo.same (fun T locs k n X e0 => ⟨T, X, e0, fun t q => RoadKit.acmp X K.ex (g := mkF m pc Ls (y :: x :: st)) rfl h1 h2 rfl (hb K.by hd) rfl hq ho hp q⟩) r
theorem OGo.castY (K : OCx p l e R s m args below meth c Z own nm bytes ml rt) {C : String} {index : Nat} {a : Addr} (w : (Jvm.Cond.classLink own index C).before a0 Z = true) (I : Ins Z h a C true) (hd : decode bytes pc = .ok (.checkcast index, 3)) (hp : pc + 3 = pc') (r : OGo p l e R s m args below meth c n0 Q h cells slots pc' Ls (.ref a :: st)) : OGo p l e R s m args below meth c n0 Q h cells slots pc Ls (.ref a :: st) := by
  subst hp
  exact OGo.same (fun T locs k n X e0 => RoadKit.castY X K.ex K.hZ K.hown w e0 I (g := mkF m pc Ls (.ref a :: st)) rfl rfl (hb K.by hd)) r
theorem OGo.instY (K : OCx p l e R s m args below meth c Z own nm bytes ml rt) {C : String} {index : Nat} {a : Addr} (w : (Jvm.Cond.classLink own index C).before a0 Z = true) (I : Ins Z h a C true) (hd : decode bytes pc = .ok (.instanceof index, 3)) (hp : pc + 3 = pc') (r : OGo p l e R s m args below meth c n0 Q h cells slots pc' Ls (.int 1 :: st)) : OGo p l e R s m args below meth c n0 Q h cells slots pc Ls (.ref a :: st) := by
  subst hp
  exact OGo.same (fun T locs k n X e0 => RoadKit.instY X K.ex K.hZ K.hown w e0 I (g := mkF m pc Ls (.ref a :: st)) rfl rfl (hb K.by hd)) r
theorem OGo.ldcI (K : OCx p l e R s m args below meth c Z own nm bytes ml rt) {index : Nat} {v : Int32} (w : (Jvm.Cond.constant own index v).before a0 Z = true) (hd : decode bytes pc = .ok (.ldc index, 2)) (hp : pc + 2 = pc') (r : OGo p l e R s m args below meth c n0 Q h cells slots pc' Ls (.int v :: st)) : OGo p l e R s m args below meth c n0 Q h cells slots pc Ls st := by
  subst hp
  exact OGo.same (fun T locs k n X e0 => ⟨T, X, e0, fun t q => X.ldcInt K.ex K.hown (mvT K.hZ w) (g := mkF m pc Ls st) rfl (hb K.by hd) t q⟩) r
theorem OGo.ldcwI (K : OCx p l e R s m args below meth c Z own nm bytes ml rt) {index : Nat} {v : Int32} (w : (Jvm.Cond.constant own index v).before a0 Z = true) (hd : decode bytes pc = .ok (.ldc_w index, 3)) (hp : pc + 3 = pc') (r : OGo p l e R s m args below meth c n0 Q h cells slots pc' Ls (.int v :: st)) : OGo p l e R s m args below meth c n0 Q h cells slots pc Ls st := by
  subst hp
  exact OGo.same (fun T locs k n X e0 => ⟨T, X, e0, fun t q => X.ldcwInt K.ex K.hown (mvT K.hZ w) (g := mkF m pc Ls st) rfl (hb K.by hd) t q⟩) r
theorem OGo.ldcJ (K : OCx p l e R s m args below meth c Z own nm bytes ml rt) {index : Nat} {v : Int64} (w : (Jvm.Cond.constantLong own index v).before a0 Z = true) (hd : decode bytes pc = .ok (.ldc2_w index, 3)) (hp : pc + 3 = pc') (r : OGo p l e R s m args below meth c n0 Q h cells slots pc' Ls (.long v :: st)) : OGo p l e R s m args below meth c n0 Q h cells slots pc Ls st := by
  subst hp
  exact OGo.same (fun T locs k n X e0 => ⟨T, X, e0, fun t q => X.ldc2Long K.ex K.hown (mvT K.hZ w) (g := mkF m pc Ls st) rfl (hb K.by hd) t q⟩) r
theorem OGo.ldcD (K : OCx p l e R s m args below meth c Z own nm bytes ml rt) {index : Nat} {v : UInt64} (w : (Jvm.Cond.constantDouble own index v).before a0 Z = true) (hd : decode bytes pc = .ok (.ldc2_w index, 3)) (hp : pc + 3 = pc') (r : OGo p l e R s m args below meth c n0 Q h cells slots pc' Ls (.double v :: st)) : OGo p l e R s m args below meth c n0 Q h cells slots pc Ls st := by
  subst hp
  exact OGo.same (fun T locs k n X e0 => ⟨T, X, e0, fun t q => X.ldc2DoubleC K.ex K.hown (mvT K.hZ w) (g := mkF m pc Ls st) rfl (hb K.by hd) t q⟩) r
end OwnLayer
theorem own_eqi {args : Array Value} {first s : State} {o : Option Outcome} {idx : List Nat} {a : Term} {k : Int32} (h : (Jvm.Cond.eq a (Jvm.Term.int k)).value args first o s idx = some true) : a.eval args first o idx s = some (.int k) := by
  obtain ⟨x, y, h1, h2, h3, h4⟩ := cmp_v (Or.inl h)
  have h5 : y = .int k := Option.some.inj (h2.symm.trans (Term.int_eval k))
  subst h5
  obtain ⟨z, rfl⟩ := h4
  have h6 : (Jvm.Cond.eq a (Jvm.Term.int k)).value args first o s idx = some (decide (z = k)) := by simp [Cond.value, h1, h2]
  have h7 := gotT h6 h
  rw [h1, h7]
theorem own_d1_0 : decode prog_20_method_4_code 0 = .ok (.iload_n 0, 1) := by decide +kernel
theorem own_d1_1 : decode prog_20_method_4_code 1 = .ok (.ifCond .eq 14, 3) := by decide +kernel
theorem own_d1_15 : decode prog_20_method_4_code 15 = .ok (.iload_n 0, 1) := by decide +kernel
theorem own_d1_16 : decode prog_20_method_4_code 16 = .ok (.ifCond .eq 10, 3) := by decide +kernel
theorem own_d1_26 : decode prog_20_method_4_code 26 = .ok (.iload_n 1, 1) := by decide +kernel
theorem own_d1_27 : decode prog_20_method_4_code 27 = .ok (.ifCond .eq 10, 3) := by decide +kernel
theorem own_d1_37 : decode prog_20_method_4_code 37 = .ok (.getstatic 13, 3) := by decide +kernel
theorem own_d1_40 : decode prog_20_method_4_code 40 = .ok (.astore_n 2, 1) := by decide +kernel
theorem own_d1_41 : decode prog_20_method_4_code 41 = .ok (.aload_n 2, 1) := by decide +kernel
theorem own_d1_42 : decode prog_20_method_4_code 42 = .ok (.areturn, 1) := by decide +kernel
theorem own_pn_1 : plainName "com/example/xml_fragment_index/xmlfragmentindex/maintenance/Presence" = true := by first | (simp [plainName, overriddenIn]; done) | decide +kernel
theorem own_d1_30 : decode prog_20_method_4_code 30 = .ok (.getstatic 10, 3) := by decide +kernel
theorem own_d1_33 : decode prog_20_method_4_code 33 = .ok (.astore_n 2, 1) := by decide +kernel
theorem own_d1_34 : decode prog_20_method_4_code 34 = .ok (.goto 7, 3) := by decide +kernel
theorem own_d1_4 : decode prog_20_method_4_code 4 = .ok (.iload_n 1, 1) := by decide +kernel
theorem own_d1_5 : decode prog_20_method_4_code 5 = .ok (.ifCond .eq 10, 3) := by decide +kernel
theorem own_d1_19 : decode prog_20_method_4_code 19 = .ok (.getstatic 7, 3) := by decide +kernel
theorem own_d1_22 : decode prog_20_method_4_code 22 = .ok (.astore_n 2, 1) := by decide +kernel
theorem own_d1_23 : decode prog_20_method_4_code 23 = .ok (.goto 18, 3) := by decide +kernel
theorem own_d1_8 : decode prog_20_method_4_code 8 = .ok (.getstatic 3, 3) := by decide +kernel
theorem own_d1_11 : decode prog_20_method_4_code 11 = .ok (.astore_n 2, 1) := by decide +kernel
theorem own_d1_12 : decode prog_20_method_4_code 12 = .ok (.goto 29, 3) := by decide +kernel
theorem own_d2_0 : decode prog_20_method_5_code 0 = .ok (.aload_n 0, 1) := by decide +kernel
theorem own_d2_1 : decode prog_20_method_5_code 1 = .ok (.getfield 35, 3) := by decide +kernel
theorem own_d2_4 : decode prog_20_method_5_code 4 = .ok (.ireturn, 1) := by decide +kernel
theorem own_d3_0 : decode prog_20_method_6_code 0 = .ok (.aload_n 0, 1) := by decide +kernel
theorem own_d3_1 : decode prog_20_method_6_code 1 = .ok (.getfield 39, 3) := by decide +kernel
theorem own_d3_4 : decode prog_20_method_6_code 4 = .ok (.ireturn, 1) := by decide +kernel
theorem own_pd1 : parseMethodDescriptor "(ZZ)Lcom/example/xml_fragment_index/xmlfragmentindex/maintenance/Presence;" = some ⟨[.boolean, .boolean], some (.object "com/example/xml_fragment_index/xmlfragmentindex/maintenance/Presence")⟩ := by decide +kernel
theorem own_pd2 : parseMethodDescriptor "()Z" = some ⟨[], some .boolean⟩ := by decide +kernel
theorem own_pn_0 : plainName "com/example/xml_fragment_index/xmlfragmentindex/maintenance/PresenceOfPinLaw" = true := by first | (simp [plainName, overriddenIn]; done) | decide +kernel
set_option maxRecDepth 65536 in
set_option maxHeartbeats 40000000 in
theorem own_of_00 (l : Launch) (Z : State) (a0 : Array Value) (hw : ∀ d ∈ tables_1, d.before a0 Z = true) (a : Addr) (h0 : Heap) (n0 : Nat) (Z0 : n0 ≤ h0.size) (S : Sta Z h0 "com/example/xml_fragment_index/xmlfragmentindex/maintenance/Presence" "NEITHER" "Lcom/example/xml_fragment_index/xmlfragmentindex/maintenance/Presence;" (.ref a)) :
    OCon l Z n0 (⟨"com/example/xml_fragment_index/xmlfragmentindex/maintenance/Presence", "of", "(ZZ)Lcom/example/xml_fragment_index/xmlfragmentindex/maintenance/Presence;"⟩ : MethodName) prog_20_method_4_code 3 (some (.object "com/example/xml_fragment_index/xmlfragmentindex/maintenance/Presence")) [] ({ frames := 0, cells := 0, slots := 0, locals := 0 } : Room) #[(.int 0), (.int 0)] h0 (OV fun w h => w = .ref a ∧ h = h0) := by
  refine OCon.of (Ls := #[.val (.int 0), .val (.int 0), .unset]) (plainFor_of_name own_pn_1) (fun m => own_entry m rfl) ?_
  intro p e s m below meth c K
  refine OGo.iloadN K (pc' := 1) own_d1_0 rfl rfl ?_
  refine OGo.ifEq K (pc' := 4) (pcY := 15) own_d1_1 rfl (by decide) rfl (fun hc1 => ?_) (fun hc1 => absurd (by decide : (0 : Int32) = (0 : Int32)) hc1)
  refine OGo.iloadN K (pc' := 16) own_d1_15 rfl rfl ?_
  refine OGo.ifEq K (pc' := 19) (pcY := 26) own_d1_16 rfl (by decide) rfl (fun hc16 => ?_) (fun hc16 => absurd (by decide : (0 : Int32) = (0 : Int32)) hc16)
  refine OGo.iloadN K (pc' := 27) own_d1_26 rfl rfl ?_
  refine OGo.ifEq K (pc' := 30) (pcY := 37) own_d1_27 rfl (by decide) rfl (fun hc27 => ?_) (fun hc27 => absurd (by decide : (0 : Int32) = (0 : Int32)) hc27)
  refine OGo.getS K (pc' := 40) (host := "") (Or.inl (hw _ (List.mem_of_getElem? (i := 4) rfl))) Via.refl S own_d1_37 rfl ?_
  refine OGo.astoreN K (pc' := 41) (Ls' := #[.val (.int (0 : Int32)), .val (.int (0 : Int32)), .val (.ref a)]) own_d1_40 rfl rfl rfl ?_
  refine OGo.aloadN K (pc' := 42) own_d1_41 rfl rfl rfl ?_
  exact OGo.aret K own_d1_42 rfl rfl (by decide) (by decide) ⟨_, rfl, rfl, rfl⟩
set_option maxRecDepth 65536 in
set_option maxHeartbeats 40000000 in
theorem own_of_01 (l : Launch) (Z : State) (a0 : Array Value) (hw : ∀ d ∈ tables_1, d.before a0 Z = true) (a : Addr) (h0 : Heap) (n0 : Nat) (Z0 : n0 ≤ h0.size) (S : Sta Z h0 "com/example/xml_fragment_index/xmlfragmentindex/maintenance/Presence" "WITHOUT_REGION" "Lcom/example/xml_fragment_index/xmlfragmentindex/maintenance/Presence;" (.ref a)) :
    OCon l Z n0 (⟨"com/example/xml_fragment_index/xmlfragmentindex/maintenance/Presence", "of", "(ZZ)Lcom/example/xml_fragment_index/xmlfragmentindex/maintenance/Presence;"⟩ : MethodName) prog_20_method_4_code 3 (some (.object "com/example/xml_fragment_index/xmlfragmentindex/maintenance/Presence")) [] ({ frames := 0, cells := 0, slots := 0, locals := 0 } : Room) #[(.int 0), (.int 1)] h0 (OV fun w h => w = .ref a ∧ h = h0) := by
  refine OCon.of (Ls := #[.val (.int 0), .val (.int 1), .unset]) (plainFor_of_name own_pn_1) (fun m => own_entry m rfl) ?_
  intro p e s m below meth c K
  refine OGo.iloadN K (pc' := 1) own_d1_0 rfl rfl ?_
  refine OGo.ifEq K (pc' := 4) (pcY := 15) own_d1_1 rfl (by decide) rfl (fun hc1 => ?_) (fun hc1 => absurd (by decide : (0 : Int32) = (0 : Int32)) hc1)
  refine OGo.iloadN K (pc' := 16) own_d1_15 rfl rfl ?_
  refine OGo.ifEq K (pc' := 19) (pcY := 26) own_d1_16 rfl (by decide) rfl (fun hc16 => ?_) (fun hc16 => absurd (by decide : (0 : Int32) = (0 : Int32)) hc16)
  refine OGo.iloadN K (pc' := 27) own_d1_26 rfl rfl ?_
  refine OGo.ifEq K (pc' := 30) (pcY := 37) own_d1_27 rfl (by decide) rfl (fun hc27 => absurd hc27 (by decide : ¬ (1 : Int32) = (0 : Int32))) (fun hc27 => ?_)
  refine OGo.getS K (pc' := 33) (host := "") (Or.inl (hw _ (List.mem_of_getElem? (i := 22) rfl))) Via.refl S own_d1_30 rfl ?_
  refine OGo.astoreN K (pc' := 34) (Ls' := #[.val (.int (0 : Int32)), .val (.int (1 : Int32)), .val (.ref a)]) own_d1_33 rfl rfl rfl ?_
  refine OGo.goto K (pc' := 41) own_d1_34 (by decide) rfl ?_
  refine OGo.aloadN K (pc' := 42) own_d1_41 rfl rfl rfl ?_
  exact OGo.aret K own_d1_42 rfl rfl (by decide) (by decide) ⟨_, rfl, rfl, rfl⟩
set_option maxRecDepth 65536 in
set_option maxHeartbeats 40000000 in
theorem own_of_10 (l : Launch) (Z : State) (a0 : Array Value) (hw : ∀ d ∈ tables_1, d.before a0 Z = true) (a : Addr) (h0 : Heap) (n0 : Nat) (Z0 : n0 ≤ h0.size) (S : Sta Z h0 "com/example/xml_fragment_index/xmlfragmentindex/maintenance/Presence" "WITH_REGION" "Lcom/example/xml_fragment_index/xmlfragmentindex/maintenance/Presence;" (.ref a)) :
    OCon l Z n0 (⟨"com/example/xml_fragment_index/xmlfragmentindex/maintenance/Presence", "of", "(ZZ)Lcom/example/xml_fragment_index/xmlfragmentindex/maintenance/Presence;"⟩ : MethodName) prog_20_method_4_code 3 (some (.object "com/example/xml_fragment_index/xmlfragmentindex/maintenance/Presence")) [] ({ frames := 0, cells := 0, slots := 0, locals := 0 } : Room) #[(.int 1), (.int 0)] h0 (OV fun w h => w = .ref a ∧ h = h0) := by
  refine OCon.of (Ls := #[.val (.int 1), .val (.int 0), .unset]) (plainFor_of_name own_pn_1) (fun m => own_entry m rfl) ?_
  intro p e s m below meth c K
  refine OGo.iloadN K (pc' := 1) own_d1_0 rfl rfl ?_
  refine OGo.ifEq K (pc' := 4) (pcY := 15) own_d1_1 rfl (by decide) rfl (fun hc1 => absurd hc1 (by decide : ¬ (1 : Int32) = (0 : Int32))) (fun hc1 => ?_)
  refine OGo.iloadN K (pc' := 5) own_d1_4 rfl rfl ?_
  refine OGo.ifEq K (pc' := 8) (pcY := 15) own_d1_5 rfl (by decide) rfl (fun hc5 => ?_) (fun hc5 => absurd (by decide : (0 : Int32) = (0 : Int32)) hc5)
  refine OGo.iloadN K (pc' := 16) own_d1_15 rfl rfl ?_
  refine OGo.ifEq K (pc' := 19) (pcY := 26) own_d1_16 rfl (by decide) rfl (fun hc16 => absurd hc16 (by decide : ¬ (1 : Int32) = (0 : Int32))) (fun hc16 => ?_)
  refine OGo.getS K (pc' := 22) (host := "") (Or.inl (hw _ (List.mem_of_getElem? (i := 24) rfl))) Via.refl S own_d1_19 rfl ?_
  refine OGo.astoreN K (pc' := 23) (Ls' := #[.val (.int (1 : Int32)), .val (.int (0 : Int32)), .val (.ref a)]) own_d1_22 rfl rfl rfl ?_
  refine OGo.goto K (pc' := 41) own_d1_23 (by decide) rfl ?_
  refine OGo.aloadN K (pc' := 42) own_d1_41 rfl rfl rfl ?_
  exact OGo.aret K own_d1_42 rfl rfl (by decide) (by decide) ⟨_, rfl, rfl, rfl⟩
set_option maxRecDepth 65536 in
set_option maxHeartbeats 40000000 in
theorem own_of_11 (l : Launch) (Z : State) (a0 : Array Value) (hw : ∀ d ∈ tables_1, d.before a0 Z = true) (a : Addr) (h0 : Heap) (n0 : Nat) (Z0 : n0 ≤ h0.size) (S : Sta Z h0 "com/example/xml_fragment_index/xmlfragmentindex/maintenance/Presence" "BOTH" "Lcom/example/xml_fragment_index/xmlfragmentindex/maintenance/Presence;" (.ref a)) :
    OCon l Z n0 (⟨"com/example/xml_fragment_index/xmlfragmentindex/maintenance/Presence", "of", "(ZZ)Lcom/example/xml_fragment_index/xmlfragmentindex/maintenance/Presence;"⟩ : MethodName) prog_20_method_4_code 3 (some (.object "com/example/xml_fragment_index/xmlfragmentindex/maintenance/Presence")) [] ({ frames := 0, cells := 0, slots := 0, locals := 0 } : Room) #[(.int 1), (.int 1)] h0 (OV fun w h => w = .ref a ∧ h = h0) := by
  refine OCon.of (Ls := #[.val (.int 1), .val (.int 1), .unset]) (plainFor_of_name own_pn_1) (fun m => own_entry m rfl) ?_
  intro p e s m below meth c K
  refine OGo.iloadN K (pc' := 1) own_d1_0 rfl rfl ?_
  refine OGo.ifEq K (pc' := 4) (pcY := 15) own_d1_1 rfl (by decide) rfl (fun hc1 => absurd hc1 (by decide : ¬ (1 : Int32) = (0 : Int32))) (fun hc1 => ?_)
  refine OGo.iloadN K (pc' := 5) own_d1_4 rfl rfl ?_
  refine OGo.ifEq K (pc' := 8) (pcY := 15) own_d1_5 rfl (by decide) rfl (fun hc5 => absurd hc5 (by decide : ¬ (1 : Int32) = (0 : Int32))) (fun hc5 => ?_)
  refine OGo.getS K (pc' := 11) (host := "") (Or.inl (hw _ (List.mem_of_getElem? (i := 20) rfl))) Via.refl S own_d1_8 rfl ?_
  refine OGo.astoreN K (pc' := 12) (Ls' := #[.val (.int (1 : Int32)), .val (.int (1 : Int32)), .val (.ref a)]) own_d1_11 rfl rfl rfl ?_
  refine OGo.goto K (pc' := 41) own_d1_12 (by decide) rfl ?_
  refine OGo.aloadN K (pc' := 42) own_d1_41 rfl rfl rfl ?_
  exact OGo.aret K own_d1_42 rfl rfl (by decide) (by decide) ⟨_, rfl, rfl, rfl⟩
set_option maxRecDepth 65536 in
set_option maxHeartbeats 40000000 in
theorem own_rm2 (l : Launch) (Z : State) (a0 : Array Value) (hw : ∀ d ∈ tables_1, d.before a0 Z = true) (a : Addr) (u : Int32) (h0 : Heap) (n0 : Nat) (Z0 : n0 ≤ h0.size) (F1 : Fld Z h0 a "com/example/xml_fragment_index/xmlfragmentindex/maintenance/Presence" "withRegion" "Z" (.int u)) :
    OCon l Z n0 (⟨"com/example/xml_fragment_index/xmlfragmentindex/maintenance/Presence", "withRegion", "()Z"⟩ : MethodName) prog_20_method_5_code 1 (some .boolean) [] ({ frames := 0, cells := 0, slots := 0, locals := 0 } : Room) #[(.ref a)] h0 (OV fun w h => w = .int (nar .boolean u) ∧ h = h0) := by
  refine OCon.of (Ls := #[.val (.ref a)]) (plainFor_of_name own_pn_1) (fun m => own_entry m rfl) ?_
  intro p e s m below meth c K
  refine OGo.aloadN K (pc' := 1) own_d2_0 rfl rfl rfl ?_
  refine OGo.getF K (pc' := 4) (host := "") (Or.inl (hw _ (List.mem_of_getElem? (i := 11) rfl))) Via.refl F1 own_d2_1 rfl ?_
  exact OGo.nret K (by simp) own_d2_4 (by decide) (by decide) ⟨_, rfl, rfl, rfl⟩
set_option maxRecDepth 65536 in
set_option maxHeartbeats 40000000 in
theorem own_rm3 (l : Launch) (Z : State) (a0 : Array Value) (hw : ∀ d ∈ tables_1, d.before a0 Z = true) (a : Addr) (u : Int32) (h0 : Heap) (n0 : Nat) (Z0 : n0 ≤ h0.size) (F1 : Fld Z h0 a "com/example/xml_fragment_index/xmlfragmentindex/maintenance/Presence" "withoutRegion" "Z" (.int u)) :
    OCon l Z n0 (⟨"com/example/xml_fragment_index/xmlfragmentindex/maintenance/Presence", "withoutRegion", "()Z"⟩ : MethodName) prog_20_method_6_code 1 (some .boolean) [] ({ frames := 0, cells := 0, slots := 0, locals := 0 } : Room) #[(.ref a)] h0 (OV fun w h => w = .int (nar .boolean u) ∧ h = h0) := by
  refine OCon.of (Ls := #[.val (.ref a)]) (plainFor_of_name own_pn_1) (fun m => own_entry m rfl) ?_
  intro p e s m below meth c K
  refine OGo.aloadN K (pc' := 1) own_d3_0 rfl rfl rfl ?_
  refine OGo.getF K (pc' := 4) (host := "") (Or.inl (hw _ (List.mem_of_getElem? (i := 18) rfl))) Via.refl F1 own_d3_1 rfl ?_
  exact OGo.nret K (by simp) own_d3_4 (by decide) (by decide) ⟨_, rfl, rfl, rfl⟩
set_option maxRecDepth 65536 in
set_option maxHeartbeats 40000000 in
theorem own_rm0 (l : Launch) (Z : State) (a0 : Array Value) (hw : ∀ d ∈ tables_1, d.before a0 Z = true) (ws : List Jvm.Cond) (v0 : Int32) (x_NEITHER x_BOTH x_WITHOUT_REGION x_WITH_REGION : Addr) (h0 : Heap) (n0 : Nat) (Z0 : n0 ≤ h0.size) (S_NEITHER : Sta Z h0 "com/example/xml_fragment_index/xmlfragmentindex/maintenance/Presence" "NEITHER" "Lcom/example/xml_fragment_index/xmlfragmentindex/maintenance/Presence;" (.ref x_NEITHER)) (E_NEITHER : Exa Z h0 x_NEITHER "com/example/xml_fragment_index/xmlfragmentindex/maintenance/Presence") (F_NEITHER_withRegion : Fld Z h0 x_NEITHER "com/example/xml_fragment_index/xmlfragmentindex/maintenance/Presence" "withRegion" "Z" (.int 0)) (F_NEITHER_withoutRegion : Fld Z h0 x_NEITHER "com/example/xml_fragment_index/xmlfragmentindex/maintenance/Presence" "withoutRegion" "Z" (.int 0)) (S_BOTH : Sta Z h0 "com/example/xml_fragment_index/xmlfragmentindex/maintenance/Presence" "BOTH" "Lcom/example/xml_fragment_index/xmlfragmentindex/maintenance/Presence;" (.ref x_BOTH)) (E_BOTH : Exa Z h0 x_BOTH "com/example/xml_fragment_index/xmlfragmentindex/maintenance/Presence") (F_BOTH_withRegion : Fld Z h0 x_BOTH "com/example/xml_fragment_index/xmlfragmentindex/maintenance/Presence" "withRegion" "Z" (.int 1)) (F_BOTH_withoutRegion : Fld Z h0 x_BOTH "com/example/xml_fragment_index/xmlfragmentindex/maintenance/Presence" "withoutRegion" "Z" (.int 1)) (S_WITHOUT_REGION : Sta Z h0 "com/example/xml_fragment_index/xmlfragmentindex/maintenance/Presence" "WITHOUT_REGION" "Lcom/example/xml_fragment_index/xmlfragmentindex/maintenance/Presence;" (.ref x_WITHOUT_REGION)) (E_WITHOUT_REGION : Exa Z h0 x_WITHOUT_REGION "com/example/xml_fragment_index/xmlfragmentindex/maintenance/Presence") (F_WITHOUT_REGION_withRegion : Fld Z h0 x_WITHOUT_REGION "com/example/xml_fragment_index/xmlfragmentindex/maintenance/Presence" "withRegion" "Z" (.int 0)) (F_WITHOUT_REGION_withoutRegion : Fld Z h0 x_WITHOUT_REGION "com/example/xml_fragment_index/xmlfragmentindex/maintenance/Presence" "withoutRegion" "Z" (.int 1)) (S_WITH_REGION : Sta Z h0 "com/example/xml_fragment_index/xmlfragmentindex/maintenance/Presence" "WITH_REGION" "Lcom/example/xml_fragment_index/xmlfragmentindex/maintenance/Presence;" (.ref x_WITH_REGION)) (E_WITH_REGION : Exa Z h0 x_WITH_REGION "com/example/xml_fragment_index/xmlfragmentindex/maintenance/Presence") (F_WITH_REGION_withRegion : Fld Z h0 x_WITH_REGION "com/example/xml_fragment_index/xmlfragmentindex/maintenance/Presence" "withRegion" "Z" (.int 1)) (F_WITH_REGION_withoutRegion : Fld Z h0 x_WITH_REGION "com/example/xml_fragment_index/xmlfragmentindex/maintenance/Presence" "withoutRegion" "Z" (.int 0)) :
    OCon l Z n0 x code maxLocals ret ws room_1 #[(.int v0)] h0 (OV fun w h => w = .int 1) := by
  refine OCon.of (Ls := #[.val (.int v0), .unset, .unset, .unset]) (plainFor_of_name own_pn_0) (fun m => own_entry m rfl) ?_
  intro p e s m below meth c K
  refine OGo.iloadN K (pc' := 1) at_0 rfl rfl ?_
  refine OGo.iconst K (pc' := 2) (z := 1) at_1 rfl rfl ?_
  refine OGo.iand K (pc' := 3) at_2 rfl ?_
  refine OGo.ifEq K (pc' := 6) (pcY := 10) at_3 rfl (by decide) rfl (fun hc3 => ?_) (fun hc3 => ?_)
  · skip
    refine OGo.iconst K (pc' := 11) (z := 0) at_10 rfl rfl ?_
    refine OGo.istoreN K (pc' := 12) (Ls' := #[.val (.int v0), .val (.int (0 : Int32)), .unset, .unset]) at_11 rfl rfl ?_
    refine OGo.iloadN K (pc' := 13) at_12 rfl rfl ?_
    refine OGo.iconst K (pc' := 14) (z := 2) at_13 rfl rfl ?_
    refine OGo.iand K (pc' := 15) at_14 rfl ?_
    refine OGo.ifEq K (pc' := 18) (pcY := 22) at_15 rfl (by decide) rfl (fun hc15 => ?_) (fun hc15 => ?_)
    · skip
      refine OGo.iconst K (pc' := 23) (z := 0) at_22 rfl rfl ?_
      refine OGo.istoreN K (pc' := 24) (Ls' := #[.val (.int v0), .val (.int (0 : Int32)), .val (.int (0 : Int32)), .unset]) at_23 rfl rfl ?_
      refine OGo.iloadN K (pc' := 25) at_24 rfl rfl ?_
      refine OGo.iloadN K (pc' := 26) at_25 rfl rfl ?_
      refine OGo.callSV K (pc' := 29) (y := (⟨"com/example/xml_fragment_index/xmlfragmentindex/maintenance/Presence", "of", "(ZZ)Lcom/example/xml_fragment_index/xmlfragmentindex/maintenance/Presence;"⟩ : MethodName)) (W := 0) (cells' := 0) (slots' := 0) (argsL := [(.int (0 : Int32)), (.int (0 : Int32))]) (st := []) (hw _ (List.mem_of_getElem? (i := 0) rfl)) (hw _ (List.mem_of_getElem? (i := 1) rfl)) (hw _ (List.mem_of_getElem? (i := 2) rfl)) (hw _ (List.mem_of_getElem? (i := 3) rfl)) (by decide) (own_of_00 l Z a0 hw x_NEITHER h0 n0 Z0 S_NEITHER) at_26 rfl rfl (lenOf own_pd1 rfl) (by show 2 * 0 + _ ≤ _; exact Nat.le_of_eq rfl) (by decide) (by decide) rfl rfl (by decide) (by decide) ?_
      rintro _ h1 ⟨rfl, e1⟩
      rw [e1]
      show OGo p l e _ s m _ below meth c n0 _ h0 0 0 29 #[.val (.int v0), .val (.int (0 : Int32)), .val (.int (0 : Int32)), .unset] [(.ref x_NEITHER)]
      refine OGo.astoreN K (pc' := 30) (Ls' := #[.val (.int v0), .val (.int (0 : Int32)), .val (.int (0 : Int32)), .val (.ref x_NEITHER)]) at_29 rfl rfl rfl ?_
      refine OGo.aloadN K (pc' := 31) at_30 rfl rfl rfl ?_
      refine OGo.ifnonnullY K (pc' := 36) at_31 (by decide) rfl ?_
      refine OGo.aloadN K (pc' := 37) at_36 rfl rfl rfl ?_
      refine OGo.callVV K (pc' := 40) (y := (⟨"com/example/xml_fragment_index/xmlfragmentindex/maintenance/Presence", "withRegion", "()Z"⟩ : MethodName)) (z := (⟨"com/example/xml_fragment_index/xmlfragmentindex/maintenance/Presence", "withRegion", "()Z"⟩ : MethodName)) (a := x_NEITHER) (W := 0) (cells' := 0) (slots' := 0) (argsL := []) (st := []) E_NEITHER (hw _ (List.mem_of_getElem? (i := 6) rfl)) (hw _ (List.mem_of_getElem? (i := 7) rfl)) (notFace_of_selects (args := #[]) (mvT K.hZ (hw _ (List.mem_of_getElem? (i := 9) rfl)))) (hw _ (List.mem_of_getElem? (i := 9) rfl)) (hw _ (List.mem_of_getElem? (i := 8) rfl)) (hw _ (List.mem_of_getElem? (i := 2) rfl)) (hw _ (List.mem_of_getElem? (i := 10) rfl)) (by decide) (own_rm2 l Z a0 hw x_NEITHER _ h0 n0 Z0 F_NEITHER_withRegion) at_37 rfl rfl (lenOf own_pd2 rfl) (by show 2 * 0 + _ ≤ _; exact Nat.le_of_eq rfl) (by decide) (by decide) rfl rfl (by decide) (by decide) ?_
      rintro _ h2 ⟨rfl, e2⟩
      rw [e2]
      show OGo p l e _ s m _ below meth c n0 _ h0 0 0 40 #[.val (.int v0), .val (.int (0 : Int32)), .val (.int (0 : Int32)), .val (.ref x_NEITHER)] [(.int (nar .boolean (0 : Int32)))]
      refine OGo.iloadN K (pc' := 41) at_40 rfl rfl ?_
      refine OGo.icmpNe K (pc' := 44) (pcY := 56) at_41 rfl (by decide) rfl (fun hc41 => absurd (by decide : (nar .boolean (0 : Int32)) = (0 : Int32)) hc41) (fun hc41 => ?_)
      refine OGo.aloadN K (pc' := 45) at_44 rfl rfl rfl ?_
      refine OGo.callVV K (pc' := 48) (y := (⟨"com/example/xml_fragment_index/xmlfragmentindex/maintenance/Presence", "withoutRegion", "()Z"⟩ : MethodName)) (z := (⟨"com/example/xml_fragment_index/xmlfragmentindex/maintenance/Presence", "withoutRegion", "()Z"⟩ : MethodName)) (a := x_NEITHER) (W := 0) (cells' := 0) (slots' := 0) (argsL := []) (st := []) E_NEITHER (hw _ (List.mem_of_getElem? (i := 13) rfl)) (hw _ (List.mem_of_getElem? (i := 14) rfl)) (notFace_of_selects (args := #[]) (mvT K.hZ (hw _ (List.mem_of_getElem? (i := 16) rfl)))) (hw _ (List.mem_of_getElem? (i := 16) rfl)) (hw _ (List.mem_of_getElem? (i := 15) rfl)) (hw _ (List.mem_of_getElem? (i := 2) rfl)) (hw _ (List.mem_of_getElem? (i := 17) rfl)) (by decide) (own_rm3 l Z a0 hw x_NEITHER _ h0 n0 Z0 F_NEITHER_withoutRegion) at_45 rfl rfl (lenOf own_pd2 rfl) (by show 2 * 0 + _ ≤ _; exact Nat.le_of_eq rfl) (by decide) (by decide) rfl rfl (by decide) (by decide) ?_
      rintro _ h3 ⟨rfl, e3⟩
      rw [e3]
      show OGo p l e _ s m _ below meth c n0 _ h0 0 0 48 #[.val (.int v0), .val (.int (0 : Int32)), .val (.int (0 : Int32)), .val (.ref x_NEITHER)] [(.int (nar .boolean (0 : Int32)))]
      refine OGo.iloadN K (pc' := 49) at_48 rfl rfl ?_
      refine OGo.icmpNe K (pc' := 52) (pcY := 56) at_49 rfl (by decide) rfl (fun hc49 => absurd (by decide : (nar .boolean (0 : Int32)) = (0 : Int32)) hc49) (fun hc49 => ?_)
      refine OGo.iconst K (pc' := 53) (z := 1) at_52 rfl rfl ?_
      refine OGo.goto K (pc' := 57) at_53 (by decide) rfl ?_
      exact OGo.ret K at_57 rfl (Or.inl ⟨rfl, by simp, _, rfl⟩) (by decide) (by decide) ⟨_, rfl, rfl⟩
    · skip
      refine OGo.iconst K (pc' := 19) (z := 1) at_18 rfl rfl ?_
      refine OGo.goto K (pc' := 23) at_19 (by decide) rfl ?_
      refine OGo.istoreN K (pc' := 24) (Ls' := #[.val (.int v0), .val (.int (0 : Int32)), .val (.int (1 : Int32)), .unset]) at_23 rfl rfl ?_
      refine OGo.iloadN K (pc' := 25) at_24 rfl rfl ?_
      refine OGo.iloadN K (pc' := 26) at_25 rfl rfl ?_
      refine OGo.callSV K (pc' := 29) (y := (⟨"com/example/xml_fragment_index/xmlfragmentindex/maintenance/Presence", "of", "(ZZ)Lcom/example/xml_fragment_index/xmlfragmentindex/maintenance/Presence;"⟩ : MethodName)) (W := 0) (cells' := 0) (slots' := 0) (argsL := [(.int (0 : Int32)), (.int (1 : Int32))]) (st := []) (hw _ (List.mem_of_getElem? (i := 0) rfl)) (hw _ (List.mem_of_getElem? (i := 1) rfl)) (hw _ (List.mem_of_getElem? (i := 2) rfl)) (hw _ (List.mem_of_getElem? (i := 3) rfl)) (by decide) (own_of_01 l Z a0 hw x_WITHOUT_REGION h0 n0 Z0 S_WITHOUT_REGION) at_26 rfl rfl (lenOf own_pd1 rfl) (by show 2 * 0 + _ ≤ _; exact Nat.le_of_eq rfl) (by decide) (by decide) rfl rfl (by decide) (by decide) ?_
      rintro _ h4 ⟨rfl, e4⟩
      rw [e4]
      show OGo p l e _ s m _ below meth c n0 _ h0 0 0 29 #[.val (.int v0), .val (.int (0 : Int32)), .val (.int (1 : Int32)), .unset] [(.ref x_WITHOUT_REGION)]
      refine OGo.astoreN K (pc' := 30) (Ls' := #[.val (.int v0), .val (.int (0 : Int32)), .val (.int (1 : Int32)), .val (.ref x_WITHOUT_REGION)]) at_29 rfl rfl rfl ?_
      refine OGo.aloadN K (pc' := 31) at_30 rfl rfl rfl ?_
      refine OGo.ifnonnullY K (pc' := 36) at_31 (by decide) rfl ?_
      refine OGo.aloadN K (pc' := 37) at_36 rfl rfl rfl ?_
      refine OGo.callVV K (pc' := 40) (y := (⟨"com/example/xml_fragment_index/xmlfragmentindex/maintenance/Presence", "withRegion", "()Z"⟩ : MethodName)) (z := (⟨"com/example/xml_fragment_index/xmlfragmentindex/maintenance/Presence", "withRegion", "()Z"⟩ : MethodName)) (a := x_WITHOUT_REGION) (W := 0) (cells' := 0) (slots' := 0) (argsL := []) (st := []) E_WITHOUT_REGION (hw _ (List.mem_of_getElem? (i := 6) rfl)) (hw _ (List.mem_of_getElem? (i := 7) rfl)) (notFace_of_selects (args := #[]) (mvT K.hZ (hw _ (List.mem_of_getElem? (i := 9) rfl)))) (hw _ (List.mem_of_getElem? (i := 9) rfl)) (hw _ (List.mem_of_getElem? (i := 8) rfl)) (hw _ (List.mem_of_getElem? (i := 2) rfl)) (hw _ (List.mem_of_getElem? (i := 10) rfl)) (by decide) (own_rm2 l Z a0 hw x_WITHOUT_REGION _ h0 n0 Z0 F_WITHOUT_REGION_withRegion) at_37 rfl rfl (lenOf own_pd2 rfl) (by show 2 * 0 + _ ≤ _; exact Nat.le_of_eq rfl) (by decide) (by decide) rfl rfl (by decide) (by decide) ?_
      rintro _ h5 ⟨rfl, e5⟩
      rw [e5]
      show OGo p l e _ s m _ below meth c n0 _ h0 0 0 40 #[.val (.int v0), .val (.int (0 : Int32)), .val (.int (1 : Int32)), .val (.ref x_WITHOUT_REGION)] [(.int (nar .boolean (0 : Int32)))]
      refine OGo.iloadN K (pc' := 41) at_40 rfl rfl ?_
      refine OGo.icmpNe K (pc' := 44) (pcY := 56) at_41 rfl (by decide) rfl (fun hc41 => absurd (by decide : (nar .boolean (0 : Int32)) = (0 : Int32)) hc41) (fun hc41 => ?_)
      refine OGo.aloadN K (pc' := 45) at_44 rfl rfl rfl ?_
      refine OGo.callVV K (pc' := 48) (y := (⟨"com/example/xml_fragment_index/xmlfragmentindex/maintenance/Presence", "withoutRegion", "()Z"⟩ : MethodName)) (z := (⟨"com/example/xml_fragment_index/xmlfragmentindex/maintenance/Presence", "withoutRegion", "()Z"⟩ : MethodName)) (a := x_WITHOUT_REGION) (W := 0) (cells' := 0) (slots' := 0) (argsL := []) (st := []) E_WITHOUT_REGION (hw _ (List.mem_of_getElem? (i := 13) rfl)) (hw _ (List.mem_of_getElem? (i := 14) rfl)) (notFace_of_selects (args := #[]) (mvT K.hZ (hw _ (List.mem_of_getElem? (i := 16) rfl)))) (hw _ (List.mem_of_getElem? (i := 16) rfl)) (hw _ (List.mem_of_getElem? (i := 15) rfl)) (hw _ (List.mem_of_getElem? (i := 2) rfl)) (hw _ (List.mem_of_getElem? (i := 17) rfl)) (by decide) (own_rm3 l Z a0 hw x_WITHOUT_REGION _ h0 n0 Z0 F_WITHOUT_REGION_withoutRegion) at_45 rfl rfl (lenOf own_pd2 rfl) (by show 2 * 0 + _ ≤ _; exact Nat.le_of_eq rfl) (by decide) (by decide) rfl rfl (by decide) (by decide) ?_
      rintro _ h6 ⟨rfl, e6⟩
      rw [e6]
      show OGo p l e _ s m _ below meth c n0 _ h0 0 0 48 #[.val (.int v0), .val (.int (0 : Int32)), .val (.int (1 : Int32)), .val (.ref x_WITHOUT_REGION)] [(.int (nar .boolean (1 : Int32)))]
      refine OGo.iloadN K (pc' := 49) at_48 rfl rfl ?_
      refine OGo.icmpNe K (pc' := 52) (pcY := 56) at_49 rfl (by decide) rfl (fun hc49 => absurd (by decide : (nar .boolean (1 : Int32)) = (1 : Int32)) hc49) (fun hc49 => ?_)
      refine OGo.iconst K (pc' := 53) (z := 1) at_52 rfl rfl ?_
      refine OGo.goto K (pc' := 57) at_53 (by decide) rfl ?_
      exact OGo.ret K at_57 rfl (Or.inl ⟨rfl, by simp, _, rfl⟩) (by decide) (by decide) ⟨_, rfl, rfl⟩
  · skip
    refine OGo.iconst K (pc' := 7) (z := 1) at_6 rfl rfl ?_
    refine OGo.goto K (pc' := 11) at_7 (by decide) rfl ?_
    refine OGo.istoreN K (pc' := 12) (Ls' := #[.val (.int v0), .val (.int (1 : Int32)), .unset, .unset]) at_11 rfl rfl ?_
    refine OGo.iloadN K (pc' := 13) at_12 rfl rfl ?_
    refine OGo.iconst K (pc' := 14) (z := 2) at_13 rfl rfl ?_
    refine OGo.iand K (pc' := 15) at_14 rfl ?_
    refine OGo.ifEq K (pc' := 18) (pcY := 22) at_15 rfl (by decide) rfl (fun hc15 => ?_) (fun hc15 => ?_)
    · skip
      refine OGo.iconst K (pc' := 23) (z := 0) at_22 rfl rfl ?_
      refine OGo.istoreN K (pc' := 24) (Ls' := #[.val (.int v0), .val (.int (1 : Int32)), .val (.int (0 : Int32)), .unset]) at_23 rfl rfl ?_
      refine OGo.iloadN K (pc' := 25) at_24 rfl rfl ?_
      refine OGo.iloadN K (pc' := 26) at_25 rfl rfl ?_
      refine OGo.callSV K (pc' := 29) (y := (⟨"com/example/xml_fragment_index/xmlfragmentindex/maintenance/Presence", "of", "(ZZ)Lcom/example/xml_fragment_index/xmlfragmentindex/maintenance/Presence;"⟩ : MethodName)) (W := 0) (cells' := 0) (slots' := 0) (argsL := [(.int (1 : Int32)), (.int (0 : Int32))]) (st := []) (hw _ (List.mem_of_getElem? (i := 0) rfl)) (hw _ (List.mem_of_getElem? (i := 1) rfl)) (hw _ (List.mem_of_getElem? (i := 2) rfl)) (hw _ (List.mem_of_getElem? (i := 3) rfl)) (by decide) (own_of_10 l Z a0 hw x_WITH_REGION h0 n0 Z0 S_WITH_REGION) at_26 rfl rfl (lenOf own_pd1 rfl) (by show 2 * 0 + _ ≤ _; exact Nat.le_of_eq rfl) (by decide) (by decide) rfl rfl (by decide) (by decide) ?_
      rintro _ h7 ⟨rfl, e7⟩
      rw [e7]
      show OGo p l e _ s m _ below meth c n0 _ h0 0 0 29 #[.val (.int v0), .val (.int (1 : Int32)), .val (.int (0 : Int32)), .unset] [(.ref x_WITH_REGION)]
      refine OGo.astoreN K (pc' := 30) (Ls' := #[.val (.int v0), .val (.int (1 : Int32)), .val (.int (0 : Int32)), .val (.ref x_WITH_REGION)]) at_29 rfl rfl rfl ?_
      refine OGo.aloadN K (pc' := 31) at_30 rfl rfl rfl ?_
      refine OGo.ifnonnullY K (pc' := 36) at_31 (by decide) rfl ?_
      refine OGo.aloadN K (pc' := 37) at_36 rfl rfl rfl ?_
      refine OGo.callVV K (pc' := 40) (y := (⟨"com/example/xml_fragment_index/xmlfragmentindex/maintenance/Presence", "withRegion", "()Z"⟩ : MethodName)) (z := (⟨"com/example/xml_fragment_index/xmlfragmentindex/maintenance/Presence", "withRegion", "()Z"⟩ : MethodName)) (a := x_WITH_REGION) (W := 0) (cells' := 0) (slots' := 0) (argsL := []) (st := []) E_WITH_REGION (hw _ (List.mem_of_getElem? (i := 6) rfl)) (hw _ (List.mem_of_getElem? (i := 7) rfl)) (notFace_of_selects (args := #[]) (mvT K.hZ (hw _ (List.mem_of_getElem? (i := 9) rfl)))) (hw _ (List.mem_of_getElem? (i := 9) rfl)) (hw _ (List.mem_of_getElem? (i := 8) rfl)) (hw _ (List.mem_of_getElem? (i := 2) rfl)) (hw _ (List.mem_of_getElem? (i := 10) rfl)) (by decide) (own_rm2 l Z a0 hw x_WITH_REGION _ h0 n0 Z0 F_WITH_REGION_withRegion) at_37 rfl rfl (lenOf own_pd2 rfl) (by show 2 * 0 + _ ≤ _; exact Nat.le_of_eq rfl) (by decide) (by decide) rfl rfl (by decide) (by decide) ?_
      rintro _ h8 ⟨rfl, e8⟩
      rw [e8]
      show OGo p l e _ s m _ below meth c n0 _ h0 0 0 40 #[.val (.int v0), .val (.int (1 : Int32)), .val (.int (0 : Int32)), .val (.ref x_WITH_REGION)] [(.int (nar .boolean (1 : Int32)))]
      refine OGo.iloadN K (pc' := 41) at_40 rfl rfl ?_
      refine OGo.icmpNe K (pc' := 44) (pcY := 56) at_41 rfl (by decide) rfl (fun hc41 => absurd (by decide : (nar .boolean (1 : Int32)) = (1 : Int32)) hc41) (fun hc41 => ?_)
      refine OGo.aloadN K (pc' := 45) at_44 rfl rfl rfl ?_
      refine OGo.callVV K (pc' := 48) (y := (⟨"com/example/xml_fragment_index/xmlfragmentindex/maintenance/Presence", "withoutRegion", "()Z"⟩ : MethodName)) (z := (⟨"com/example/xml_fragment_index/xmlfragmentindex/maintenance/Presence", "withoutRegion", "()Z"⟩ : MethodName)) (a := x_WITH_REGION) (W := 0) (cells' := 0) (slots' := 0) (argsL := []) (st := []) E_WITH_REGION (hw _ (List.mem_of_getElem? (i := 13) rfl)) (hw _ (List.mem_of_getElem? (i := 14) rfl)) (notFace_of_selects (args := #[]) (mvT K.hZ (hw _ (List.mem_of_getElem? (i := 16) rfl)))) (hw _ (List.mem_of_getElem? (i := 16) rfl)) (hw _ (List.mem_of_getElem? (i := 15) rfl)) (hw _ (List.mem_of_getElem? (i := 2) rfl)) (hw _ (List.mem_of_getElem? (i := 17) rfl)) (by decide) (own_rm3 l Z a0 hw x_WITH_REGION _ h0 n0 Z0 F_WITH_REGION_withoutRegion) at_45 rfl rfl (lenOf own_pd2 rfl) (by show 2 * 0 + _ ≤ _; exact Nat.le_of_eq rfl) (by decide) (by decide) rfl rfl (by decide) (by decide) ?_
      rintro _ h9 ⟨rfl, e9⟩
      rw [e9]
      show OGo p l e _ s m _ below meth c n0 _ h0 0 0 48 #[.val (.int v0), .val (.int (1 : Int32)), .val (.int (0 : Int32)), .val (.ref x_WITH_REGION)] [(.int (nar .boolean (0 : Int32)))]
      refine OGo.iloadN K (pc' := 49) at_48 rfl rfl ?_
      refine OGo.icmpNe K (pc' := 52) (pcY := 56) at_49 rfl (by decide) rfl (fun hc49 => absurd (by decide : (nar .boolean (0 : Int32)) = (0 : Int32)) hc49) (fun hc49 => ?_)
      refine OGo.iconst K (pc' := 53) (z := 1) at_52 rfl rfl ?_
      refine OGo.goto K (pc' := 57) at_53 (by decide) rfl ?_
      exact OGo.ret K at_57 rfl (Or.inl ⟨rfl, by simp, _, rfl⟩) (by decide) (by decide) ⟨_, rfl, rfl⟩
    · skip
      refine OGo.iconst K (pc' := 19) (z := 1) at_18 rfl rfl ?_
      refine OGo.goto K (pc' := 23) at_19 (by decide) rfl ?_
      refine OGo.istoreN K (pc' := 24) (Ls' := #[.val (.int v0), .val (.int (1 : Int32)), .val (.int (1 : Int32)), .unset]) at_23 rfl rfl ?_
      refine OGo.iloadN K (pc' := 25) at_24 rfl rfl ?_
      refine OGo.iloadN K (pc' := 26) at_25 rfl rfl ?_
      refine OGo.callSV K (pc' := 29) (y := (⟨"com/example/xml_fragment_index/xmlfragmentindex/maintenance/Presence", "of", "(ZZ)Lcom/example/xml_fragment_index/xmlfragmentindex/maintenance/Presence;"⟩ : MethodName)) (W := 0) (cells' := 0) (slots' := 0) (argsL := [(.int (1 : Int32)), (.int (1 : Int32))]) (st := []) (hw _ (List.mem_of_getElem? (i := 0) rfl)) (hw _ (List.mem_of_getElem? (i := 1) rfl)) (hw _ (List.mem_of_getElem? (i := 2) rfl)) (hw _ (List.mem_of_getElem? (i := 3) rfl)) (by decide) (own_of_11 l Z a0 hw x_BOTH h0 n0 Z0 S_BOTH) at_26 rfl rfl (lenOf own_pd1 rfl) (by show 2 * 0 + _ ≤ _; exact Nat.le_of_eq rfl) (by decide) (by decide) rfl rfl (by decide) (by decide) ?_
      rintro _ h10 ⟨rfl, e10⟩
      rw [e10]
      show OGo p l e _ s m _ below meth c n0 _ h0 0 0 29 #[.val (.int v0), .val (.int (1 : Int32)), .val (.int (1 : Int32)), .unset] [(.ref x_BOTH)]
      refine OGo.astoreN K (pc' := 30) (Ls' := #[.val (.int v0), .val (.int (1 : Int32)), .val (.int (1 : Int32)), .val (.ref x_BOTH)]) at_29 rfl rfl rfl ?_
      refine OGo.aloadN K (pc' := 31) at_30 rfl rfl rfl ?_
      refine OGo.ifnonnullY K (pc' := 36) at_31 (by decide) rfl ?_
      refine OGo.aloadN K (pc' := 37) at_36 rfl rfl rfl ?_
      refine OGo.callVV K (pc' := 40) (y := (⟨"com/example/xml_fragment_index/xmlfragmentindex/maintenance/Presence", "withRegion", "()Z"⟩ : MethodName)) (z := (⟨"com/example/xml_fragment_index/xmlfragmentindex/maintenance/Presence", "withRegion", "()Z"⟩ : MethodName)) (a := x_BOTH) (W := 0) (cells' := 0) (slots' := 0) (argsL := []) (st := []) E_BOTH (hw _ (List.mem_of_getElem? (i := 6) rfl)) (hw _ (List.mem_of_getElem? (i := 7) rfl)) (notFace_of_selects (args := #[]) (mvT K.hZ (hw _ (List.mem_of_getElem? (i := 9) rfl)))) (hw _ (List.mem_of_getElem? (i := 9) rfl)) (hw _ (List.mem_of_getElem? (i := 8) rfl)) (hw _ (List.mem_of_getElem? (i := 2) rfl)) (hw _ (List.mem_of_getElem? (i := 10) rfl)) (by decide) (own_rm2 l Z a0 hw x_BOTH _ h0 n0 Z0 F_BOTH_withRegion) at_37 rfl rfl (lenOf own_pd2 rfl) (by show 2 * 0 + _ ≤ _; exact Nat.le_of_eq rfl) (by decide) (by decide) rfl rfl (by decide) (by decide) ?_
      rintro _ h11 ⟨rfl, e11⟩
      rw [e11]
      show OGo p l e _ s m _ below meth c n0 _ h0 0 0 40 #[.val (.int v0), .val (.int (1 : Int32)), .val (.int (1 : Int32)), .val (.ref x_BOTH)] [(.int (nar .boolean (1 : Int32)))]
      refine OGo.iloadN K (pc' := 41) at_40 rfl rfl ?_
      refine OGo.icmpNe K (pc' := 44) (pcY := 56) at_41 rfl (by decide) rfl (fun hc41 => absurd (by decide : (nar .boolean (1 : Int32)) = (1 : Int32)) hc41) (fun hc41 => ?_)
      refine OGo.aloadN K (pc' := 45) at_44 rfl rfl rfl ?_
      refine OGo.callVV K (pc' := 48) (y := (⟨"com/example/xml_fragment_index/xmlfragmentindex/maintenance/Presence", "withoutRegion", "()Z"⟩ : MethodName)) (z := (⟨"com/example/xml_fragment_index/xmlfragmentindex/maintenance/Presence", "withoutRegion", "()Z"⟩ : MethodName)) (a := x_BOTH) (W := 0) (cells' := 0) (slots' := 0) (argsL := []) (st := []) E_BOTH (hw _ (List.mem_of_getElem? (i := 13) rfl)) (hw _ (List.mem_of_getElem? (i := 14) rfl)) (notFace_of_selects (args := #[]) (mvT K.hZ (hw _ (List.mem_of_getElem? (i := 16) rfl)))) (hw _ (List.mem_of_getElem? (i := 16) rfl)) (hw _ (List.mem_of_getElem? (i := 15) rfl)) (hw _ (List.mem_of_getElem? (i := 2) rfl)) (hw _ (List.mem_of_getElem? (i := 17) rfl)) (by decide) (own_rm3 l Z a0 hw x_BOTH _ h0 n0 Z0 F_BOTH_withoutRegion) at_45 rfl rfl (lenOf own_pd2 rfl) (by show 2 * 0 + _ ≤ _; exact Nat.le_of_eq rfl) (by decide) (by decide) rfl rfl (by decide) (by decide) ?_
      rintro _ h12 ⟨rfl, e12⟩
      rw [e12]
      show OGo p l e _ s m _ below meth c n0 _ h0 0 0 48 #[.val (.int v0), .val (.int (1 : Int32)), .val (.int (1 : Int32)), .val (.ref x_BOTH)] [(.int (nar .boolean (1 : Int32)))]
      refine OGo.iloadN K (pc' := 49) at_48 rfl rfl ?_
      refine OGo.icmpNe K (pc' := 52) (pcY := 56) at_49 rfl (by decide) rfl (fun hc49 => absurd (by decide : (nar .boolean (1 : Int32)) = (1 : Int32)) hc49) (fun hc49 => ?_)
      refine OGo.iconst K (pc' := 53) (z := 1) at_52 rfl rfl ?_
      refine OGo.goto K (pc' := 57) at_53 (by decide) rfl ?_
      exact OGo.ret K at_57 rfl (Or.inl ⟨rfl, by simp, _, rfl⟩) (by decide) (by decide) ⟨_, rfl, rfl⟩
set_option maxRecDepth 65536 in
set_option maxHeartbeats 40000000 in
theorem own_comes {Post : Tables → Env → Array Value → State → Outcome → State → Prop} (hpost : ∀ tb e args s v u, (limb_1_1.after args s (.returned v) u = true ∧ limb_1_2.after args s (.returned v) u = true ∧ True) → FrameEnd s (.returned v) u (Jvm.fieldLocs frame_1_writes args s ++ Jvm.arrayLocs frame_1_arrays args s ++ Jvm.staticLocs frame_1_statics s) 0 0 → Post tb e args s (.returned v) u) :
    ArmFor flags0 classFile x code maxLocals ret World_1 tables_1 room_1 Calls_1 rest_1 Pre_1 Post := by
  intro l hfl _ _ p e ha hc hk s m args below hf hA hF happ hP
  obtain ⟨hcalls, hrest, hpre⟩ := hP
  obtain ⟨-, -, -, hnamed, -, -, -, hat⟩ := (Spec.applies_iff hf).mp happ
  obtain ⟨hg, hn⟩ := and_e (Cond.before_iff.mp (show (Jvm.Cond.and given_1 narrow_1).before args s = true from hpre))
  obtain ⟨gg1, gg2⟩ := and_e hg
  obtain ⟨w0, rfl⟩ : ∃ w0 : Value, args = #[w0] := by
    have hs : args.size = 1 := by simpa [Cond.value, given_1] using gg1
    obtain ⟨L⟩ := args
    match L, hs with
    | [w0], _ => exact ⟨w0, rfl⟩
  have hw := fun d (hd : d ∈ tables_1) => atoms_spec (ws := Jvm.Cond.code x code maxLocals ret :: tables_1) hat d (List.mem_cons_of_mem _ hd)
  have hfit : Fit s := fun {y c} hc i hi => by
    obtain ⟨ha, rfl⟩ := Array.getElem?_eq_some_iff.mp hc
    have q := List.all_eq_true.mp ((Array.all_eq_true_iff_forall_mem.mp hF) _ (Array.getElem_mem ha)) i (List.mem_range.mpr hi)
    simpa [Array.getElem?_eq_getElem hi] using q
  obtain ⟨i0, ei0⟩ := is_v gg2
  obtain rfl : w0 = (.int i0) := Option.some.inj ei0
  obtain ⟨nn0, nr0⟩ := and_e hn
  obtain ⟨nn1, nr1⟩ := and_e nr0
  obtain ⟨nn2, nr2⟩ := and_e nr1
  obtain ⟨nn3, nr3⟩ := and_e nr2
  obtain ⟨nn4, nr4⟩ := and_e nr3
  obtain ⟨nn5, nr5⟩ := and_e nr4
  obtain ⟨nn6, nr6⟩ := and_e nr5
  obtain ⟨nn7, nr7⟩ := and_e nr6
  obtain ⟨nn8, nr8⟩ := and_e nr7
  obtain ⟨nn9, nr9⟩ := and_e nr8
  obtain ⟨nn10, nr10⟩ := and_e nr9
  obtain ⟨x_NEITHER, ev_NEITHER⟩ := exa_v nn0
  have S_NEITHER := Sta.start ev_NEITHER (Or.inr ⟨(hw _ (List.mem_of_getElem? (i := 2) rfl)), (hw _ (List.mem_of_getElem? (i := 5) rfl))⟩)
  have E_NEITHER := Exa.start ev_NEITHER nn0
  have F_NEITHER_withRegion := Fld.start ((fld_at ev_NEITHER).symm.trans (own_eqi nn1))
  have F_NEITHER_withoutRegion := Fld.start ((fld_at ev_NEITHER).symm.trans (own_eqi nn2))
  obtain ⟨x_BOTH, ev_BOTH⟩ := exa_v nn3
  have S_BOTH := Sta.start ev_BOTH (Or.inr ⟨(hw _ (List.mem_of_getElem? (i := 2) rfl)), (hw _ (List.mem_of_getElem? (i := 21) rfl))⟩)
  have E_BOTH := Exa.start ev_BOTH nn3
  have F_BOTH_withRegion := Fld.start ((fld_at ev_BOTH).symm.trans (own_eqi nn4))
  have F_BOTH_withoutRegion := Fld.start ((fld_at ev_BOTH).symm.trans (own_eqi nn5))
  obtain ⟨x_WITHOUT_REGION, ev_WITHOUT_REGION⟩ := exa_v nn6
  have S_WITHOUT_REGION := Sta.start ev_WITHOUT_REGION (Or.inr ⟨(hw _ (List.mem_of_getElem? (i := 2) rfl)), (hw _ (List.mem_of_getElem? (i := 23) rfl))⟩)
  have E_WITHOUT_REGION := Exa.start ev_WITHOUT_REGION nn6
  have F_WITHOUT_REGION_withRegion := Fld.start ((fld_at ev_WITHOUT_REGION).symm.trans (own_eqi nn7))
  have F_WITHOUT_REGION_withoutRegion := Fld.start ((fld_at ev_WITHOUT_REGION).symm.trans (own_eqi nn8))
  obtain ⟨x_WITH_REGION, ev_WITH_REGION⟩ := exa_v nn9
  have S_WITH_REGION := Sta.start ev_WITH_REGION (Or.inr ⟨(hw _ (List.mem_of_getElem? (i := 2) rfl)), (hw _ (List.mem_of_getElem? (i := 25) rfl))⟩)
  have E_WITH_REGION := Exa.start ev_WITH_REGION nn9
  have F_WITH_REGION_withRegion := Fld.start ((fld_at ev_WITH_REGION).symm.trans (own_eqi nn10))
  have F_WITH_REGION_withoutRegion := Fld.start ((fld_at ev_WITH_REGION).symm.trans (own_eqi nr10))
  obtain ⟨n, o, h1, h2, h3, _, L, rfl, ⟨⟨_, rfl, rfl⟩, N⟩, hq⟩ := own_rm0 l s _ hw tables_1 i0 x_NEITHER x_BOTH x_WITHOUT_REGION x_WITH_REGION s.heap s.heap.size (Nat.le_refl _) S_NEITHER E_NEITHER F_NEITHER_withRegion F_NEITHER_withoutRegion S_BOTH E_BOTH F_BOTH_withRegion F_BOTH_withoutRegion S_WITHOUT_REGION E_WITHOUT_REGION F_WITHOUT_REGION_withRegion F_WITHOUT_REGION_withoutRegion S_WITH_REGION E_WITH_REGION F_WITH_REGION_withRegion F_WITH_REGION_withoutRegion p e ha hc hk s m _ below hf ((Spec.applies_iff_loose hf).mp happ).1 ⟨rfl, State.Warmed39.refl s, rfl⟩ trivial
  refine ⟨n, _, h1, h2, h3, hpost _ _ _ _ _ _ ⟨Cond.after_iff.mpr rfl, Cond.after_iff.mpr (eq_i res_at (Term.int_eval (1)) rfl), trivial⟩ ⟨hq.1, hq.2.1, (hq.2.2.sift fun y hy => Or.inr (N y hy)).mono (by decide) (by decide)⟩⟩
theorem main_1_1 : Claimed_1_1 := own_comes fun _ _ _ _ _ _ h hF => ⟨h.1, hF⟩
theorem main_1_2 : Claimed_1_2 := own_comes fun _ _ _ _ _ _ h hF => ⟨h.2.1, hF⟩
end Jvm.Pilot.@@N@@
namespace Jvm.Pilot.@@N@@
open Jvm Jvm.ClassFile Sem Op Lib Jvm.Free Jvm.Stand Jvm.Pilot.@@N@@.Jvm.D
/-! MADE BY PROGRAM (witnessworld.py) out of the Statement's table words and the real class files: 12 classes; the members and pool entries that the words name. The judged class is class 1, her method 1. -/
namespace start1
open Jvm.ClassFile
def u (s : String) : CpInfo := .utf8 (stringToUtf16 s)
/-- a pool by its gaps: so many unusable entries, then the entry; so many at the end -/
def gap : Nat → List CpInfo → List CpInfo
  | 0, r => r
  | n + 1, r => .unusable :: gap n r
def poolList (es : List (Nat × CpInfo)) (last : Nat) : List CpInfo := es.foldr (fun e r => gap e.1 (e.2 :: r)) (gap last [])
def pool (es : List (Nat × CpInfo)) (last : Nat) : Array CpInfo := ⟨poolList es last⟩
def fileOf (pool : Array CpInfo) (this : Nat) (attrs : Array Attribute := #[]) (ms : Array MethodInfo := #[]) (fl : Nat := 33) (sup : Nat := 0) (ifs : Array Nat := #[]) (fds : Array FieldInfo := #[]) : ClassFile where
  minorVersion := 0
  majorVersion := 65
  constantPool := pool
  accessFlags := fl
  thisClass := this
  superClass := sup
  interfaces := ifs
  fields := fds
  methods := ms
  attributes := attrs
def plain (name : String) (sup : Option ClassId) : Class where
  name := name
  kind := .ordinary
  loader := none
  accessFlags := 33
  super := sup
  interfaces := #[]
  cf := none
  fields := #[]
  methods := #[]
  instanceTypes := #[]
  staticTypes := #[]
  resolved := #[]
  callSites := []
  init := .initialized
  statics := none
  mirror := none

def pool0 : Array CpInfo := pool [(5, u "<init>"), (0, u "()V"), (1, .class_ 10), (1, u "java/lang/Object")] 113

def k0m0 : Method := { name := "<init>", desc := "()V", sig := { parameters := [], returnType := none }, accessFlags := 1, code := none }
/-- java/lang/Object -/
def k0 : Class := { plain "java/lang/Object" none with
  accessFlags := 33
  interfaces := #[]
  cf := some (fileOf pool0 8 #[] #[{ accessFlags := 1, nameIndex := 5, descriptorIndex := 6, attributes := #[] }] 33 0 #[] #[])
  fields := #[]
  methods := #[k0m0]
  instanceTypes := #[]
  staticTypes := #[]
  resolved := Array.replicate 124 none
  statics := none }

def pool1 : Array CpInfo := pool [(2, .class_ 4), (1, u "java/lang/Object"), (0, u "<init>"), (0, u "()V"), (0, .methodref 8 9), (0, .class_ 10), (0, .nameAndType 11 12), (0, u "com/example/xml_fragment_index/xmlfragmentindex/maintenance/Presence"), (0, u "of"), (0, u "(ZZ)Lcom/example/xml_fragment_index/xmlfragmentindex/maintenance/Presence;"), (0, .methodref 8 14), (0, .nameAndType 15 16), (0, u "withRegion"), (0, u "()Z"), (0, .methodref 8 18), (0, .nameAndType 19 16), (0, u "withoutRegion"), (0, .class_ 21), (0, u "com/example/xml_fragment_index/xmlfragmentindex/maintenance/PresenceOfPinLaw"), (2, u "law"), (0, u "(I)Z")] 3

def k1m0 : Method := { name := "<init>", desc := "()V", sig := { parameters := [], returnType := none }, accessFlags := 1, code := none }
def k1c1 : Code := { maxStack := 2, maxLocals := 4, code := code, exceptionTable := #[], attributes := #[] }
def k1m1 : Method := { name := "law", desc := "(I)Z", sig := { parameters := [.int], returnType := some .boolean }, accessFlags := 9, code := some k1c1 }
/-- com/example/xml_fragment_index/xmlfragmentindex/maintenance/PresenceOfPinLaw -/
def k1 : Class := { plain "com/example/xml_fragment_index/xmlfragmentindex/maintenance/PresenceOfPinLaw" (some 0) with
  accessFlags := 49
  interfaces := #[]
  cf := some (fileOf pool1 20 #[] #[{ accessFlags := 1, nameIndex := 5, descriptorIndex := 6, attributes := #[] }, { accessFlags := 9, nameIndex := 24, descriptorIndex := 25, attributes := #[] }] 49 2 #[] #[])
  fields := #[]
  methods := #[k1m0, k1m1]
  instanceTypes := #[]
  staticTypes := #[]
  resolved := Array.replicate 29 none
  statics := none }

def pool2 : Array CpInfo := pool [(1, .class_ 2), (0, u "java/lang/constant/Constable"), (0, .class_ 4), (0, u "java/lang/Object")] 6

/-- java/lang/constant/Constable -/
def k2 : Class := { plain "java/lang/constant/Constable" (some 0) with
  accessFlags := 1537
  interfaces := #[]
  cf := some (fileOf pool2 1 #[] #[] 1537 3 #[] #[])
  fields := #[]
  methods := #[]
  instanceTypes := #[]
  staticTypes := #[]
  resolved := Array.replicate 11 none
  statics := none }

def pool3 : Array CpInfo := pool [(1, .class_ 2), (0, u "java/lang/Comparable"), (0, .class_ 4), (0, u "java/lang/Object")] 7

/-- java/lang/Comparable -/
def k3 : Class := { plain "java/lang/Comparable" (some 0) with
  accessFlags := 1537
  interfaces := #[]
  cf := some (fileOf pool3 1 #[] #[] 1537 3 #[] #[])
  fields := #[]
  methods := #[]
  instanceTypes := #[]
  staticTypes := #[]
  resolved := Array.replicate 12 none
  statics := none }

def pool4 : Array CpInfo := pool [(1, .class_ 2), (0, u "java/io/Serializable"), (0, .class_ 4), (0, u "java/lang/Object")] 2

/-- java/io/Serializable -/
def k4 : Class := { plain "java/io/Serializable" (some 0) with
  accessFlags := 1537
  interfaces := #[]
  cf := some (fileOf pool4 1 #[] #[] 1537 3 #[] #[])
  fields := #[]
  methods := #[]
  instanceTypes := #[]
  staticTypes := #[]
  resolved := Array.replicate 7 none
  statics := none }

def pool5 : Array CpInfo := pool [(2, .class_ 4), (1, u "java/lang/Enum"), (0, u "name"), (0, u "Ljava/lang/String;"), (2, u "ordinal"), (0, u "I"), (1, .class_ 14), (1, u "java/lang/Object"), (4, u "hash"), (86, .class_ 108), (1, u "java/lang/Enum$EnumDesc"), (2, .class_ 112), (0, u "java/lang/constant/Constable"), (0, .class_ 114), (0, u "java/lang/Comparable"), (0, .class_ 116), (0, u "java/io/Serializable")] 87

/-- java/lang/Enum -/
def k5 : Class := { plain "java/lang/Enum" (some 0) with
  accessFlags := 1057
  interfaces := #[2, 3, 4]
  cf := some (fileOf pool5 2 #[.nestMembers #[106]] #[] 1057 12 #[111, 113, 115] #[{ accessFlags := 18, nameIndex := 5, descriptorIndex := 6, attributes := #[] }, { accessFlags := 18, nameIndex := 9, descriptorIndex := 10, attributes := #[] }, { accessFlags := 2, nameIndex := 19, descriptorIndex := 10, attributes := #[] }])
  fields := #[{ name := "name", type := (.object "java/lang/String"), accessFlags := 18, slot := 0, constantValue := 0 }, { name := "ordinal", type := .int, accessFlags := 18, slot := 1, constantValue := 0 }, { name := "hash", type := .int, accessFlags := 2, slot := 2, constantValue := 0 }]
  methods := #[]
  instanceTypes := #[(.object "java/lang/String"), .int, .int]
  staticTypes := #[]
  resolved := Array.replicate 204 none
  statics := none }

def pool6 : Array CpInfo := pool [(1, .class_ 2), (0, u "com/example/xml_fragment_index/xmlfragmentindex/maintenance/Presence"), (0, .fieldref 1 4), (0, .nameAndType 5 6), (0, u "BOTH"), (0, u "Lcom/example/xml_fragment_index/xmlfragmentindex/maintenance/Presence;"), (0, .fieldref 1 8), (0, .nameAndType 9 6), (0, u "WITH_REGION"), (0, .fieldref 1 11), (0, .nameAndType 12 6), (0, u "WITHOUT_REGION"), (0, .fieldref 1 14), (0, .nameAndType 15 6), (0, u "NEITHER"), (2, u "$VALUES"), (0, u "[Lcom/example/xml_fragment_index/xmlfragmentindex/maintenance/Presence;"), (6, .class_ 28), (1, u "java/lang/Enum"), (6, .fieldref 1 36), (0, .nameAndType 37 38), (0, u "withRegion"), (0, u "Z"), (0, .fieldref 1 40), (0, .nameAndType 41 38), (0, u "withoutRegion"), (2, u "of"), (0, u "(ZZ)Lcom/example/xml_fragment_index/xmlfragmentindex/maintenance/Presence;"), (19, u "()Z")] 11

def k6c0 : Code := { maxStack := 1, maxLocals := 3, code := prog_20_method_4_code, exceptionTable := #[], attributes := #[] }
def k6m0 : Method := { name := "of", desc := "(ZZ)Lcom/example/xml_fragment_index/xmlfragmentindex/maintenance/Presence;", sig := { parameters := [.boolean, .boolean], returnType := some (.object "com/example/xml_fragment_index/xmlfragmentindex/maintenance/Presence") }, accessFlags := 8, code := some k6c0 }
def k6c1 : Code := { maxStack := 1, maxLocals := 1, code := prog_20_method_5_code, exceptionTable := #[], attributes := #[] }
def k6m1 : Method := { name := "withRegion", desc := "()Z", sig := { parameters := [], returnType := some .boolean }, accessFlags := 0, code := some k6c1 }
def k6c2 : Code := { maxStack := 1, maxLocals := 1, code := prog_20_method_6_code, exceptionTable := #[], attributes := #[] }
def k6m2 : Method := { name := "withoutRegion", desc := "()Z", sig := { parameters := [], returnType := some .boolean }, accessFlags := 0, code := some k6c2 }
/-- com/example/xml_fragment_index/xmlfragmentindex/maintenance/Presence -/
def k6 : Class := { plain "com/example/xml_fragment_index/xmlfragmentindex/maintenance/Presence" (some 5) with
  accessFlags := 16432
  interfaces := #[]
  cf := some (fileOf pool6 1 #[] #[{ accessFlags := 8, nameIndex := 44, descriptorIndex := 45, attributes := #[] }, { accessFlags := 0, nameIndex := 37, descriptorIndex := 65, attributes := #[] }, { accessFlags := 0, nameIndex := 41, descriptorIndex := 65, attributes := #[] }] 16432 26 #[] #[{ accessFlags := 16409, nameIndex := 5, descriptorIndex := 6, attributes := #[] }, { accessFlags := 16409, nameIndex := 9, descriptorIndex := 6, attributes := #[] }, { accessFlags := 16409, nameIndex := 12, descriptorIndex := 6, attributes := #[] }, { accessFlags := 16409, nameIndex := 15, descriptorIndex := 6, attributes := #[] }, { accessFlags := 18, nameIndex := 37, descriptorIndex := 38, attributes := #[] }, { accessFlags := 18, nameIndex := 41, descriptorIndex := 38, attributes := #[] }, { accessFlags := 4122, nameIndex := 18, descriptorIndex := 19, attributes := #[] }])
  fields := #[{ name := "BOTH", type := (.object "com/example/xml_fragment_index/xmlfragmentindex/maintenance/Presence"), accessFlags := 16409, slot := 0, constantValue := 0 }, { name := "WITH_REGION", type := (.object "com/example/xml_fragment_index/xmlfragmentindex/maintenance/Presence"), accessFlags := 16409, slot := 1, constantValue := 0 }, { name := "WITHOUT_REGION", type := (.object "com/example/xml_fragment_index/xmlfragmentindex/maintenance/Presence"), accessFlags := 16409, slot := 2, constantValue := 0 }, { name := "NEITHER", type := (.object "com/example/xml_fragment_index/xmlfragmentindex/maintenance/Presence"), accessFlags := 16409, slot := 3, constantValue := 0 }, { name := "withRegion", type := .boolean, accessFlags := 18, slot := 3, constantValue := 0 }, { name := "withoutRegion", type := .boolean, accessFlags := 18, slot := 4, constantValue := 0 }, { name := "$VALUES", type := (.array (.object "com/example/xml_fragment_index/xmlfragmentindex/maintenance/Presence")), accessFlags := 4122, slot := 4, constantValue := 0 }]
  methods := #[k6m0, k6m1, k6m2]
  instanceTypes := #[(.object "java/lang/String"), .int, .int, .boolean, .boolean]
  staticTypes := #[(.object "com/example/xml_fragment_index/xmlfragmentindex/maintenance/Presence"), (.object "com/example/xml_fragment_index/xmlfragmentindex/maintenance/Presence"), (.object "com/example/xml_fragment_index/xmlfragmentindex/maintenance/Presence"), (.object "com/example/xml_fragment_index/xmlfragmentindex/maintenance/Presence"), (.array (.object "com/example/xml_fragment_index/xmlfragmentindex/maintenance/Presence"))]
  resolved := Array.replicate 77 none
  statics := some 0 }

def pool7 : Array CpInfo := pool [(1, u "java/lang/Cloneable"), (0, .class_ 1), (0, u "java/lang/Object"), (0, .class_ 3)] 3

/-- java/lang/Cloneable -/
def k7 : Class := { plain "java/lang/Cloneable" (some 0) with
  accessFlags := 1537
  interfaces := #[]
  cf := some (fileOf pool7 2 #[] #[] 1537 4 #[] #[])
  fields := #[]
  methods := #[]
  instanceTypes := #[]
  staticTypes := #[]
  resolved := Array.replicate 8 none
  statics := none }

/-- the primitive byte -/
def k8 : Class := { plain "byte" none with kind := .primitive 'B', accessFlags := 0x411 }
/-- [B -/
def k9 : Class := { plain "[B" (some 0) with kind := .array 8 .byte, interfaces := #[7, 4], accessFlags := 1041 }

/-- the primitive int -/
def k10 : Class := { plain "int" none with kind := .primitive 'I', accessFlags := 0x411 }
/-- [I -/
def k11 : Class := { plain "[I" (some 0) with kind := .array 10 .int, interfaces := #[7, 4], accessFlags := 1041 }

def heap : Heap := #[{ cls := 6, slots := #[.ref 2, .ref 4, .ref 3, .ref 1, .null], vm := .statics 6 },
  { cls := 6, slots := #[.null, .int 0, .int 0, .int 0, .int 0], vm := .none },
  { cls := 6, slots := #[.null, .int 0, .int 0, .int 1, .int 1], vm := .none },
  { cls := 6, slots := #[.null, .int 0, .int 0, .int 0, .int 1], vm := .none },
  { cls := 6, slots := #[.null, .int 0, .int 0, .int 1, .int 0], vm := .none }]
def classes : Array Class := #[k0, k1, k2, k3, k4, k5, k6, k7, k8, k9, k10, k11]
def interned : List (Array UInt16 × Addr) := []
def slotsUsed : Nat := 25
def theMethod : MethodId := ⟨1, 1⟩
def args0 : Array Value := #[.int 5]
def aboutOver (below : List Frame) : State where
  vm := { classes := classes, interned := interned.toArray }
  heap := heap
  slotsUsed := slotsUsed
  threads := #[{ frames := .invoking theMethod args0 :: below }]
def below0 : List Frame := [.native { method := ⟨0, 0⟩, args := #[] }]
def about1 : State := aboutOver below0
def p0 : Program := .bare "" "" ""
def e0 : Env := launch0.env 0 0 0
theorem w_frames : about1.frames = Frame.invoking theMethod args0 :: below0 := rfl
set_option maxRecDepth 65536 in
theorem w_args : argsFit about1.vm theMethod args0 = true := by decide +kernel
set_option maxRecDepth 65536 in
theorem w_heap : heapFits about1 = true := by decide +kernel
set_option maxRecDepth 65536 in
theorem w_runnable : about1.curStatus? = some .runnable := by decide +kernel
set_option maxRecDepth 65536 in
theorem w_alone : about1.alone = true := by decide +kernel
set_option maxRecDepth 65536 in
theorem w_named : about1.methodNamed? x = some theMethod := by decide +kernel
set_option maxRecDepth 65536 in
theorem w_hears : about1.hears theMethod below0 = true := by decide +kernel
set_option maxRecDepth 65536 in
theorem w_ripe : about1.ripe theMethod args0 below0 = true := by decide +kernel
theorem w_running : about1.status = .running := rfl
set_option maxRecDepth 65536 in
theorem w_room : about1.hasRoom e0.platform room_1 = true :=
  launch0.hasRoom_least _ room_1 (by decide +kernel) (by decide +kernel) (by decide +kernel) (by decide +kernel) (by decide +kernel) (by decide +kernel)
theorem allAtoms_all (ts : List Jvm.Cond) (a : Array Jvm.Value) (st : Jvm.State) : (allAtoms ts).before a st = ts.all (fun c => c.before a st) := by
  induction ts with
  | nil => rfl
  | cons c t ih =>
    show (Jvm.Cond.and c (allAtoms t)).before a st = _
    rw [Jvm.Cond.before_and, ih, List.all_cons]
def words1 : List Jvm.Cond := Jvm.Cond.code x code maxLocals ret :: tables_1
/-- a 'code' word, met by the world's own term for the bytes: nothing is compared byte by byte -/
theorem code_word {y : MethodName} {bytes : ByteArray} {mx : Nat} {rt : Option FieldType} {a : Array Value} {s : State} {m : MethodId} {meth : Method} {c : Code} (h1 : s.methodNamed? y = some m) (h2 : s.vm.method? m = some meth) (h3 : meth.code = some c) (h4 : c.code = bytes)
    (h5 : (c.maxLocals == mx && c.exceptionTable.isEmpty && decide (c.maxStack ≤ mostOperands) && decide (meth.sig.returnType = rt) && !meth.locks && decide (parseMethodDescriptor y.desc = some meth.sig)) = true) : (Jvm.Cond.code y bytes mx rt).before a s = true := by
  simp only [Bool.and_eq_true, beq_iff_eq, Bool.not_eq_true', decide_eq_true_eq] at h5
  obtain ⟨⟨⟨⟨⟨g1, g2⟩, g3⟩, g4⟩, g5⟩, g6⟩ := h5
  simp [Cond.before, Cond.holds, Cond.value, h1, h2, h3, h4, g1, g2, g3, g4, g5, g6]
def isCode : Jvm.Cond → Bool
  | .code _ _ _ _ => true
  | _ => false
theorem all_split {L : List Jvm.Cond} {P : Jvm.Cond → Bool} (h1 : L.all (fun c => isCode c || P c) = true) (h2 : ∀ c ∈ L.filter isCode, P c = true) : L.all P = true := by
  refine List.all_eq_true.mpr fun c hc => ?_
  have h := List.all_eq_true.mp h1 c hc
  rcases Bool.eq_false_or_eq_true (isCode c) with hi | hi
  · exact h2 c (List.mem_filter.mpr ⟨hc, hi⟩)
  · simpa [hi] using h
set_option maxRecDepth 65536 in
theorem w_c0 : (Jvm.Cond.code x code maxLocals ret).before args0 about1 = true := code_word (m := ⟨1, 1⟩) (meth := k1m1) (c := k1c1) (by decide +kernel) rfl rfl rfl (by decide +kernel)
set_option maxRecDepth 65536 in
theorem w_c1 : (Jvm.Cond.code ({ cls := "com/example/xml_fragment_index/xmlfragmentindex/maintenance/Presence", name := "of", desc := "(ZZ)Lcom/example/xml_fragment_index/xmlfragmentindex/maintenance/Presence;" } : Jvm.MethodName) prog_20_method_4_code (3 : Nat) (Option.some (Jvm.ClassFile.FieldType.object "com/example/xml_fragment_index/xmlfragmentindex/maintenance/Presence"))).before args0 about1 = true := code_word (m := ⟨6, 0⟩) (meth := k6m0) (c := k6c0) (by decide +kernel) rfl rfl rfl (by decide +kernel)
set_option maxRecDepth 65536 in
theorem w_c2 : (Jvm.Cond.code ({ cls := "com/example/xml_fragment_index/xmlfragmentindex/maintenance/Presence", name := "withRegion", desc := "()Z" } : Jvm.MethodName) prog_20_method_5_code (1 : Nat) (Option.some Jvm.ClassFile.FieldType.boolean)).before args0 about1 = true := code_word (m := ⟨6, 1⟩) (meth := k6m1) (c := k6c1) (by decide +kernel) rfl rfl rfl (by decide +kernel)
set_option maxRecDepth 65536 in
theorem w_c3 : (Jvm.Cond.code ({ cls := "com/example/xml_fragment_index/xmlfragmentindex/maintenance/Presence", name := "withoutRegion", desc := "()Z" } : Jvm.MethodName) prog_20_method_6_code (1 : Nat) (Option.some Jvm.ClassFile.FieldType.boolean)).before args0 about1 = true := code_word (m := ⟨6, 2⟩) (meth := k6m2) (c := k6c2) (by decide +kernel) rfl rfl rfl (by decide +kernel)
def codes1 : List Jvm.Cond := [Jvm.Cond.code x code maxLocals ret, Jvm.Cond.code ({ cls := "com/example/xml_fragment_index/xmlfragmentindex/maintenance/Presence", name := "of", desc := "(ZZ)Lcom/example/xml_fragment_index/xmlfragmentindex/maintenance/Presence;" } : Jvm.MethodName) prog_20_method_4_code (3 : Nat) (Option.some (Jvm.ClassFile.FieldType.object "com/example/xml_fragment_index/xmlfragmentindex/maintenance/Presence")), Jvm.Cond.code ({ cls := "com/example/xml_fragment_index/xmlfragmentindex/maintenance/Presence", name := "withRegion", desc := "()Z" } : Jvm.MethodName) prog_20_method_5_code (1 : Nat) (Option.some Jvm.ClassFile.FieldType.boolean), Jvm.Cond.code ({ cls := "com/example/xml_fragment_index/xmlfragmentindex/maintenance/Presence", name := "withoutRegion", desc := "()Z" } : Jvm.MethodName) prog_20_method_6_code (1 : Nat) (Option.some Jvm.ClassFile.FieldType.boolean)]
set_option maxRecDepth 65536 in
theorem codes_eq : words1.filter isCode = codes1 := rfl
theorem w_codes : ∀ c ∈ words1.filter isCode, c.before args0 about1 = true := by
  rw [codes_eq]
  intro c hc
  simp only [codes1, List.mem_cons, List.not_mem_nil, or_false] at hc
  rcases hc with rfl | rfl | rfl | rfl
  · exact w_c0
  · exact w_c1
  · exact w_c2
  · exact w_c3
set_option maxRecDepth 65536 in
theorem w_t1 : (words1.take 24).all (fun c => isCode c || c.before args0 about1) = true := by decide +kernel
set_option maxRecDepth 65536 in
theorem w_t2 : (words1.drop 24).all (fun c => isCode c || c.before args0 about1) = true := by decide +kernel
theorem w_tables : (allAtoms (Jvm.Cond.code x code maxLocals ret :: tables_1)).before args0 about1 = true := by
  rw [allAtoms_all]
  show words1.all (fun c => c.before args0 about1) = true
  refine all_split ?_ w_codes
  rw [← List.take_append_drop 24 words1, List.all_append, w_t1, w_t2]
  rfl
set_option maxRecDepth 65536 in
theorem w_case : (Jvm.Cond.and given_1 narrow_1).before args0 about1 = true := by decide +kernel
theorem w_applies : (headSpec (Jvm.Cond.code x code maxLocals ret :: tables_1) room_1).applies x e0.platform about1 = true :=
  (Spec.applies_iff w_frames).mpr ⟨w_running, w_runnable, w_alone, w_named, w_hears, w_ripe, w_room, w_tables⟩
theorem atStart : AtStart classFile x code maxLocals ret World_1 tables_1 room_1 Calls_1 rest_1 Pre_1 launch0 p0 e0 about1 theMethod args0 below0 :=
  ⟨lists_1, trivial, launch0.admits_env _ _ _, launch0.least_env, fairChoices_fair.cas, fairChoices_fair.clock, w_frames, w_args, w_heap, w_applies, trivial, trivial, w_case⟩
end start1
theorem witness_1 : WitnessClaimed_1 := ⟨start1.p0, start1.e0, start1.about1, start1.theMethod, start1.args0, start1.below0, start1.atStart⟩
end Jvm.Pilot.@@N@@
