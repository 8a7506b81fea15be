import JvmDerived
import JvmDerived.Pilot.@@N@@Statement
import JvmDerived.Pilot.@@N@@Code
set_option linter.unusedVariables false
set_option linter.unusedSimpArgs false
namespace Jvm.RoadKit
open Sem ClassFile Op Lib Jvm.Stand Jvm.Free Jvm.LawKit
section Own
variable {p : Program} {l : Launch} {e : Env} {R : Room} {s : State} {m : MethodId} {args : Array Value} {below : List Frame} {meth : Method} {c : Code} {T T' : State} {Z : State} {a0 : Array Value} {h h' h0 : Heap} {ws : List Addr} {ck sk CK SK : Nat} {Q : Option Value → Heap → Prop} {bytes : ByteArray} {ml : Nat} {ret : Option FieldType} {y0 : MethodName} {tw : List Jvm.Cond} {pc pc' : Nat} {Ls Ls' : Array Slot} {S : List Value} {g g' : JFrame}
/-- Java's >>> -/
def own_ushr (x y : Int32) : Int32 := (x.toUInt32 >>> (y &&& 31).toUInt32).toInt32
def own_ushrL (x : Int64) (y : Int32) : Int64 := (x.toUInt64 >>> (y &&& 63).toInt64.toUInt64).toInt64
/-- what is known of the method that is walked -/
def OwnCtx (p : Program) (s : State) (m : MethodId) (meth : Method) (c : Code) (Z : State) (a0 : Array Value) (tw : List Jvm.Cond) (y0 : MethodName) (bytes : ByteArray) (ml : Nat) (ret : Option FieldType) : Prop :=
  p.tables.exec = Jvm.exec ∧ Z.Warmed39 s.vm ∧ (∀ d ∈ tw, d.before a0 Z = true) ∧ c.code = bytes ∧ c.maxLocals = ml ∧ s.vm.findClass y0.cls = some m.cls ∧ meth.name = y0.name ∧ meth.sig.returnType = ret ∧ meth.locks = false
/-- where the walk stands: the heap h; of the heap h0 at the entry only the cells at ws may have been written -/
def OwnPos (p : Program) (l : Launch) (e : Env) (R : Room) (s : State) (m : MethodId) (args : Array Value) (below : List Frame) (meth : Method) (c : Code) (h0 : Heap) (ws : List Addr) (T : State) (h : Heap) (ck sk : Nat) : Prop :=
  ∃ locs, Stand p l e R s m args below meth c T locs ck sk ∧ T.heap = h ∧ (∀ y ∈ locs, y.base ∈ ws ∨ h0.size ≤ y.base) ∧ Keep h0 h ws
/-- from here the method returns as Q says -/
def OwnWP (p : Program) (e : Env) (below : List Frame) (s : State) (h0 : Heap) (ws : List Addr) (Q : Option Value → Heap → Prop) (CK SK : Nat) (T : State) (g : JFrame) : Prop :=
  ∃ s₂ o, Steps p.tables e below (T.setTop g) s₂ ∧ s₂.status = .running ∧ Ended s₂ below o ∧ ∃ v L, o = .returned v ∧ ((∀ y ∈ L, y.base ∈ ws ∨ h0.size ≤ y.base) ∧ Keep h0 s₂.heap ws ∧ Q v s₂.heap) ∧ FrameEnd s o s₂ L CK SK
/-- a method's contract -/
def OwnCtr (l : Launch) (Z : State) (y : MethodName) (bytes : ByteArray) (ml : Nat) (ret : Option FieldType) (rm : Room) (as : Array Value) (h0 : Heap) (ws : List Addr) (Q : Option Value → Heap → Prop) (cs : List Jvm.Cond) : Prop :=
  MetFree l y (head1 (Jvm.Cond.code y bytes ml ret :: cs) rm) (fun a U => a = as ∧ Z.Warmed39 U.vm ∧ U.heap = h0) (fun _ _ _ _ _ => True) (fun _ U o U' => ∃ v L, o = .returned v ∧ ((∀ y ∈ L, y.base ∈ ws ∨ h0.size ≤ y.base) ∧ Keep h0 U'.heap ws ∧ Q v U'.heap) ∧ FrameEnd U o U' L rm.cells rm.slots)
theorem ow_le (A : OwnPos p l e R s m args below meth c h0 ws T h ck sk) : h0.size ≤ h.size := by obtain ⟨_, _, _, _, K⟩ := A; exact K.1
theorem ow_st (q : ∀ target, Steps p.tables e below (T'.setTop g') target → Steps p.tables e below (T.setTop g) target) (k : OwnWP p e below s h0 ws Q CK SK T' g') : OwnWP p e below s h0 ws Q CK SK T g := by
  obtain ⟨s₂, o, k1, k2⟩ := k; exact ⟨s₂, o, q _ k1, k2⟩
theorem ow_stT (q : Steps p.tables e below (T.setTop g) (T'.setTop g')) (k : OwnWP p e below s h0 ws Q CK SK T' g') : OwnWP p e below s h0 ws Q CK SK T g := by
  obtain ⟨s₂, o, k1, k2⟩ := k; exact ⟨s₂, o, q.trans k1, k2⟩
theorem ow_mono {Q' : Option Value → Heap → Prop} (q : ∀ v h, Q' v h → Q v h) (k : OwnWP p e below s h0 ws Q' CK SK T g) : OwnWP p e below s h0 ws Q CK SK T g := by
  obtain ⟨s₂, o, k1, k2, k3, v, L, k4, ⟨k5, k6, k7⟩, k8⟩ := k; exact ⟨s₂, o, k1, k2, k3, v, L, k4, ⟨k5, k6, q _ _ k7⟩, k8⟩
theorem ow_ctr {rm : Room} {as : Array Value} {cs : List Jvm.Cond} {Ls : Array Slot} (hp : plainFor y0 = true) (hw : ∀ d ∈ tw, d.before a0 Z = true) (ef : ∀ m, entryFrame m as ml = mkF m 0 Ls [])
    (body : ∀ (p : Program) (e : Env) (s : State) (m : MethodId) (below : List Frame) (meth : Method) (c : Code) (T : State), OwnCtx p s m meth c Z a0 tw y0 bytes ml ret → OwnPos p l e rm s m as below meth c h0 ws T h0 0 0 → OwnWP p e below s h0 ws Q rm.cells rm.slots T (mkF m 0 Ls [])) :
    OwnCtr l Z y0 bytes ml ret rm as h0 ws Q cs := by
  refine MetFree.of_bodySF hp hisR ?_
  intro p e s m args below meth c s₁ Bd hml0 hP hK
  obtain ⟨rfl, hZ, hh⟩ := hP
  have X0 : Stand p l e rm s m _ below meth c s₁ [] 0 0 := Stand.of_body Bd
  have e0 : s₁.heap = h0 := by rw [← hh, Bd.state]; rfl
  have hk : meth.locks = false := BodyLoose.notSynchronized Bd
  obtain ⟨s₂, o, k1, k2⟩ := body p e s m below meth c s₁ ⟨Bd.exec, hZ, hw, Bd.bytes, hml0, findClass_of_methodNamed Bd.named, (name_of_methodNamed Bd.named Bd.method).1, Bd.returns, hk⟩ ⟨[], X0, e0, (fun _ q => nomatch q), Keep.refl _ _⟩
  exact ⟨s₂, o, castTop (ef m) k1, k2⟩
theorem ow_ctr_mono {rm : Room} {as : Array Value} {cs : List Jvm.Cond} {y : MethodName} {Q' : Option Value → Heap → Prop} (M : OwnCtr l Z y bytes ml ret rm as h0 ws Q cs) (q : ∀ v h, Q v h → Q' v h) : OwnCtr l Z y bytes ml ret rm as h0 ws Q' cs := by
  intro p e ha hc hk s m args below hf happ hP hK
  obtain ⟨n, o, h1, h2, h3, v, L, h4, ⟨h5, h6, h7⟩, h8⟩ := M p e ha hc hk s m args below hf happ hP hK
  exact ⟨n, o, h1, h2, h3, v, L, h4, ⟨h5, h6, q _ _ h7⟩, h8⟩
theorem ow_done {v : Option Value} (C : OwnCtx p s m meth c Z a0 tw y0 bytes ml ret) (A : OwnPos p l e R s m args below meth c h0 ws T h ck sk) (hv : ret = none → v = none) (h1 : ck ≤ CK) (h2 : sk ≤ SK) (hq : Q v h)
    (hst : ∀ {locs : List Loc} {fs : List Frame}, Stand p l e R s m args below meth c T locs ck sk → (∀ (f : JFrame) (acts : List Action), f.method = m → f.locked = none → f.entered = [] → (doReturn e (T.setTop f) acts v).1 = T.setFrames fs) → Steps p.tables e below (T.setTop g) (T.setFrames fs)) :
    OwnWP p e below s h0 ws Q CK SK T g := by
  obtain ⟨locs, X, rfl, N, K⟩ := A
  obtain ⟨fs, hr, hrun, hended, hW, hsame⟩ := X.leave (v := v) (fun q => hv (C.2.2.2.2.2.2.2.1.symm.trans q)) C.2.2.2.2.2.2.2.2
  exact ⟨_, _, hst X hr, hrun, hended, _, _, rfl, ⟨N, K, hq⟩, ⟨_, rfl⟩, hW, hsame.mono h1 h2⟩
theorem ow_ireturn (C : OwnCtx p s m meth c Z a0 tw y0 bytes ml ret) (A : OwnPos p l e R s m args below meth c h0 ws T h ck sk) {t : FieldType} {w : Int32} (hret : ret = some t) (hn : narrow t (.int w) = .int w) (hti : t = .int ∨ t = .boolean ∨ t = .byte ∨ t = .char ∨ t = .short)
    (hd : decode bytes pc = .ok (.ireturn, 1)) (h1 : ck ≤ CK) (h2 : sk ≤ SK) (hq : Q (some (.int w)) h) : OwnWP p e below s h0 ws Q CK SK T (mkF m pc Ls [.int w]) :=
  ow_done C A (fun q => by rw [hret] at q; cases q) h1 h2 hq fun X hr => X.ireturnOut C.1 (C.2.2.2.2.2.2.2.1.trans hret) hn hti (hb C.2.2.2.1 hd) hr
theorem ow_lreturn (C : OwnCtx p s m meth c Z a0 tw y0 bytes ml ret) (A : OwnPos p l e R s m args below meth c h0 ws T h ck sk) {w : Int64} (hret : ret = some .long)
    (hd : decode bytes pc = .ok (.lreturn, 1)) (h1 : ck ≤ CK) (h2 : sk ≤ SK) (hq : Q (some (.long w)) h) : OwnWP p e below s h0 ws Q CK SK T (mkF m pc Ls [.long w]) :=
  ow_done C A (fun q => by rw [hret] at q; cases q) h1 h2 hq fun X hr => X.lreturnOut C.1 (C.2.2.2.2.2.2.2.1.trans hret) (hb C.2.2.2.1 hd) hr
theorem ow_areturn (C : OwnCtx p s m meth c Z a0 tw y0 bytes ml ret) (A : OwnPos p l e R s m args below meth c h0 ws T h ck sk) {t : FieldType} {w : Value} (hret : ret = some t) (ht : t.isReference = true) (hw : w.isRef = true)
    (hd : decode bytes pc = .ok (.areturn, 1)) (h1 : ck ≤ CK) (h2 : sk ≤ SK) (hq : Q (some w) h) : OwnWP p e below s h0 ws Q CK SK T (mkF m pc Ls [w]) :=
  ow_done C A (fun q => by rw [hret] at q; cases q) h1 h2 hq fun X hr => X.areturnOut C.1 hw (C.2.2.2.2.2.2.2.1.trans hret) ht (hb C.2.2.2.1 hd) hr
theorem ow_return (C : OwnCtx p s m meth c Z a0 tw y0 bytes ml ret) (A : OwnPos p l e R s m args below meth c h0 ws T h ck sk) (hret : ret = none)
    (hd : decode bytes pc = .ok (.return_, 1)) (h1 : ck ≤ CK) (h2 : sk ≤ SK) (hq : Q none h) : OwnWP p e below s h0 ws Q CK SK T (mkF m pc Ls []) :=
  ow_done C A (fun _ => rfl) h1 h2 hq fun X hr => X.returnOut C.1 (C.2.2.2.2.2.2.2.1.trans hret) (hb C.2.2.2.1 hd) hr
theorem ow_iadd (C : OwnCtx p s m meth c Z a0 tw y0 bytes ml ret) (A : OwnPos p l e R s m args below meth c h0 ws T h ck sk) {x y : Int32} (hd : decode bytes pc = .ok (.iadd, 1)) (hp : pc + 1 = pc') (k : OwnWP p e below s h0 ws Q CK SK T (mkF m pc' Ls (.int (x + y) :: S))) : OwnWP p e below s h0 ws Q CK SK T (mkF m pc Ls (.int y :: .int x :: S)) := by
  obtain ⟨locs, X, -⟩ := A; subst hp
  exact ow_st (fun _ k => XS.iadd X.here C.1 rfl (hb C.2.2.2.1 hd) rfl k) k
theorem ow_isub (C : OwnCtx p s m meth c Z a0 tw y0 bytes ml ret) (A : OwnPos p l e R s m args below meth c h0 ws T h ck sk) {x y : Int32} (hd : decode bytes pc = .ok (.isub, 1)) (hp : pc + 1 = pc') (k : OwnWP p e below s h0 ws Q CK SK T (mkF m pc' Ls (.int (x - y) :: S))) : OwnWP p e below s h0 ws Q CK SK T (mkF m pc Ls (.int y :: .int x :: S)) := by
  obtain ⟨locs, X, -⟩ := A; subst hp
  exact ow_st (fun _ k => XS.isub X.here C.1 rfl (hb C.2.2.2.1 hd) rfl k) k
theorem ow_imul (C : OwnCtx p s m meth c Z a0 tw y0 bytes ml ret) (A : OwnPos p l e R s m args below meth c h0 ws T h ck sk) {x y : Int32} (hd : decode bytes pc = .ok (.imul, 1)) (hp : pc + 1 = pc') (k : OwnWP p e below s h0 ws Q CK SK T (mkF m pc' Ls (.int (x * y) :: S))) : OwnWP p e below s h0 ws Q CK SK T (mkF m pc Ls (.int y :: .int x :: S)) := by
  obtain ⟨locs, X, -⟩ := A; subst hp
  exact ow_st (fun _ k => XS.imul X.here C.1 rfl (hb C.2.2.2.1 hd) rfl k) k
theorem ow_iand (C : OwnCtx p s m meth c Z a0 tw y0 bytes ml ret) (A : OwnPos p l e R s m args below meth c h0 ws T h ck sk) {x y : Int32} (hd : decode bytes pc = .ok (.iand, 1)) (hp : pc + 1 = pc') (k : OwnWP p e below s h0 ws Q CK SK T (mkF m pc' Ls (.int (x &&& y) :: S))) : OwnWP p e below s h0 ws Q CK SK T (mkF m pc Ls (.int y :: .int x :: S)) := by
  obtain ⟨locs, X, -⟩ := A; subst hp
  exact ow_st (fun _ k => XS.iand X.here C.1 rfl (hb C.2.2.2.1 hd) rfl k) k
theorem ow_ior (C : OwnCtx p s m meth c Z a0 tw y0 bytes ml ret) (A : OwnPos p l e R s m args below meth c h0 ws T h ck sk) {x y : Int32} (hd : decode bytes pc = .ok (.ior, 1)) (hp : pc + 1 = pc') (k : OwnWP p e below s h0 ws Q CK SK T (mkF m pc' Ls (.int (x ||| y) :: S))) : OwnWP p e below s h0 ws Q CK SK T (mkF m pc Ls (.int y :: .int x :: S)) := by
  obtain ⟨locs, X, -⟩ := A; subst hp
  exact ow_st (fun _ k => XS.ior X.here C.1 rfl (hb C.2.2.2.1 hd) rfl k) k
theorem ow_ixor (C : OwnCtx p s m meth c Z a0 tw y0 bytes ml ret) (A : OwnPos p l e R s m args below meth c h0 ws T h ck sk) {x y : Int32} (hd : decode bytes pc = .ok (.ixor, 1)) (hp : pc + 1 = pc') (k : OwnWP p e below s h0 ws Q CK SK T (mkF m pc' Ls (.int (x ^^^ y) :: S))) : OwnWP p e below s h0 ws Q CK SK T (mkF m pc Ls (.int y :: .int x :: S)) := by
  obtain ⟨locs, X, -⟩ := A; subst hp
  exact ow_st (fun _ k => XS.ixor X.here C.1 rfl (hb C.2.2.2.1 hd) rfl k) k
theorem ow_ishl (C : OwnCtx p s m meth c Z a0 tw y0 bytes ml ret) (A : OwnPos p l e R s m args below meth c h0 ws T h ck sk) {x y : Int32} (hd : decode bytes pc = .ok (.ishl, 1)) (hp : pc + 1 = pc') (k : OwnWP p e below s h0 ws Q CK SK T (mkF m pc' Ls (.int (x <<< (y &&& 31)) :: S))) : OwnWP p e below s h0 ws Q CK SK T (mkF m pc Ls (.int y :: .int x :: S)) := by
  obtain ⟨locs, X, -⟩ := A; subst hp
  exact ow_st (fun _ k => XS.ishl X.here C.1 rfl (hb C.2.2.2.1 hd) rfl k) k
theorem ow_ishr (C : OwnCtx p s m meth c Z a0 tw y0 bytes ml ret) (A : OwnPos p l e R s m args below meth c h0 ws T h ck sk) {x y : Int32} (hd : decode bytes pc = .ok (.ishr, 1)) (hp : pc + 1 = pc') (k : OwnWP p e below s h0 ws Q CK SK T (mkF m pc' Ls (.int (x >>> (y &&& 31)) :: S))) : OwnWP p e below s h0 ws Q CK SK T (mkF m pc Ls (.int y :: .int x :: S)) := by
  obtain ⟨locs, X, -⟩ := A; subst hp
  exact ow_st (fun _ k => XS.ishr X.here C.1 rfl (hb C.2.2.2.1 hd) rfl k) k
theorem ow_iushr (C : OwnCtx p s m meth c Z a0 tw y0 bytes ml ret) (A : OwnPos p l e R s m args below meth c h0 ws T h ck sk) {x y : Int32} (hd : decode bytes pc = .ok (.iushr, 1)) (hp : pc + 1 = pc') (k : OwnWP p e below s h0 ws Q CK SK T (mkF m pc' Ls (.int (own_ushr x y) :: S))) : OwnWP p e below s h0 ws Q CK SK T (mkF m pc Ls (.int y :: .int x :: S)) := by
  obtain ⟨locs, X, -⟩ := A; subst hp
  exact ow_st (fun _ k => XS.iushr X.here C.1 rfl (hb C.2.2.2.1 hd) rfl k) k
theorem ow_ladd (C : OwnCtx p s m meth c Z a0 tw y0 bytes ml ret) (A : OwnPos p l e R s m args below meth c h0 ws T h ck sk) {x y : Int64} (hd : decode bytes pc = .ok (.ladd, 1)) (hp : pc + 1 = pc') (k : OwnWP p e below s h0 ws Q CK SK T (mkF m pc' Ls (.long (x + y) :: S))) : OwnWP p e below s h0 ws Q CK SK T (mkF m pc Ls (.long y :: .long x :: S)) := by
  obtain ⟨locs, X, -⟩ := A; subst hp
  exact ow_st (fun _ k => XS.ladd X.here C.1 rfl (hb C.2.2.2.1 hd) rfl k) k
theorem ow_lsub (C : OwnCtx p s m meth c Z a0 tw y0 bytes ml ret) (A : OwnPos p l e R s m args below meth c h0 ws T h ck sk) {x y : Int64} (hd : decode bytes pc = .ok (.lsub, 1)) (hp : pc + 1 = pc') (k : OwnWP p e below s h0 ws Q CK SK T (mkF m pc' Ls (.long (x - y) :: S))) : OwnWP p e below s h0 ws Q CK SK T (mkF m pc Ls (.long y :: .long x :: S)) := by
  obtain ⟨locs, X, -⟩ := A; subst hp
  exact ow_st (fun _ k => XS.lsub X.here C.1 rfl (hb C.2.2.2.1 hd) rfl k) k
theorem ow_lmul (C : OwnCtx p s m meth c Z a0 tw y0 bytes ml ret) (A : OwnPos p l e R s m args below meth c h0 ws T h ck sk) {x y : Int64} (hd : decode bytes pc = .ok (.lmul, 1)) (hp : pc + 1 = pc') (k : OwnWP p e below s h0 ws Q CK SK T (mkF m pc' Ls (.long (x * y) :: S))) : OwnWP p e below s h0 ws Q CK SK T (mkF m pc Ls (.long y :: .long x :: S)) := by
  obtain ⟨locs, X, -⟩ := A; subst hp
  exact ow_st (fun _ k => XS.lmul X.here C.1 rfl (hb C.2.2.2.1 hd) rfl k) k
theorem ow_land (C : OwnCtx p s m meth c Z a0 tw y0 bytes ml ret) (A : OwnPos p l e R s m args below meth c h0 ws T h ck sk) {x y : Int64} (hd : decode bytes pc = .ok (.land, 1)) (hp : pc + 1 = pc') (k : OwnWP p e below s h0 ws Q CK SK T (mkF m pc' Ls (.long (x &&& y) :: S))) : OwnWP p e below s h0 ws Q CK SK T (mkF m pc Ls (.long y :: .long x :: S)) := by
  obtain ⟨locs, X, -⟩ := A; subst hp
  exact ow_st (fun _ k => XS.land X.here C.1 rfl (hb C.2.2.2.1 hd) rfl k) k
theorem ow_lor (C : OwnCtx p s m meth c Z a0 tw y0 bytes ml ret) (A : OwnPos p l e R s m args below meth c h0 ws T h ck sk) {x y : Int64} (hd : decode bytes pc = .ok (.lor, 1)) (hp : pc + 1 = pc') (k : OwnWP p e below s h0 ws Q CK SK T (mkF m pc' Ls (.long (x ||| y) :: S))) : OwnWP p e below s h0 ws Q CK SK T (mkF m pc Ls (.long y :: .long x :: S)) := by
  obtain ⟨locs, X, -⟩ := A; subst hp
  exact ow_st (fun _ k => XS.lor X.here C.1 rfl (hb C.2.2.2.1 hd) rfl k) k
theorem ow_lxor (C : OwnCtx p s m meth c Z a0 tw y0 bytes ml ret) (A : OwnPos p l e R s m args below meth c h0 ws T h ck sk) {x y : Int64} (hd : decode bytes pc = .ok (.lxor, 1)) (hp : pc + 1 = pc') (k : OwnWP p e below s h0 ws Q CK SK T (mkF m pc' Ls (.long (x ^^^ y) :: S))) : OwnWP p e below s h0 ws Q CK SK T (mkF m pc Ls (.long y :: .long x :: S)) := by
  obtain ⟨locs, X, -⟩ := A; subst hp
  exact ow_st (fun _ k => XS.lxor X.here C.1 rfl (hb C.2.2.2.1 hd) rfl k) k
theorem ow_lshl (C : OwnCtx p s m meth c Z a0 tw y0 bytes ml ret) (A : OwnPos p l e R s m args below meth c h0 ws T h ck sk) {x : Int64} {y : Int32} (hd : decode bytes pc = .ok (.lshl, 1)) (hp : pc + 1 = pc') (k : OwnWP p e below s h0 ws Q CK SK T (mkF m pc' Ls (.long (x <<< (y &&& 63).toInt64) :: S))) : OwnWP p e below s h0 ws Q CK SK T (mkF m pc Ls (.int y :: .long x :: S)) := by
  obtain ⟨locs, X, -⟩ := A; subst hp
  exact ow_st (fun _ k => XS.lshl X.here C.1 rfl (hb C.2.2.2.1 hd) rfl k) k
theorem ow_lshr (C : OwnCtx p s m meth c Z a0 tw y0 bytes ml ret) (A : OwnPos p l e R s m args below meth c h0 ws T h ck sk) {x : Int64} {y : Int32} (hd : decode bytes pc = .ok (.lshr, 1)) (hp : pc + 1 = pc') (k : OwnWP p e below s h0 ws Q CK SK T (mkF m pc' Ls (.long (x >>> (y &&& 63).toInt64) :: S))) : OwnWP p e below s h0 ws Q CK SK T (mkF m pc Ls (.int y :: .long x :: S)) := by
  obtain ⟨locs, X, -⟩ := A; subst hp
  exact ow_st (fun _ k => XS.lshr X.here C.1 rfl (hb C.2.2.2.1 hd) rfl k) k
theorem ow_lushr (C : OwnCtx p s m meth c Z a0 tw y0 bytes ml ret) (A : OwnPos p l e R s m args below meth c h0 ws T h ck sk) {x : Int64} {y : Int32} (hd : decode bytes pc = .ok (.lushr, 1)) (hp : pc + 1 = pc') (k : OwnWP p e below s h0 ws Q CK SK T (mkF m pc' Ls (.long (own_ushrL x y) :: S))) : OwnWP p e below s h0 ws Q CK SK T (mkF m pc Ls (.int y :: .long x :: S)) := by
  obtain ⟨locs, X, -⟩ := A; subst hp
  exact ow_st (fun _ k => XS.lushr X.here C.1 rfl (hb C.2.2.2.1 hd) rfl k) k
theorem ow_idiv (C : OwnCtx p s m meth c Z a0 tw y0 bytes ml ret) (A : OwnPos p l e R s m args below meth c h0 ws T h ck sk) {x y : Int32} (hd : decode bytes pc = .ok (.idiv, 1)) (hy : y ≠ 0) (hp : pc + 1 = pc') (k : OwnWP p e below s h0 ws Q CK SK T (mkF m pc' Ls (.int (x / y) :: S))) : OwnWP p e below s h0 ws Q CK SK T (mkF m pc Ls (.int y :: .int x :: S)) := by
  obtain ⟨locs, X, -⟩ := A; subst hp
  exact ow_st (fun _ k => XS.idiv X.here C.1 rfl (hb C.2.2.2.1 hd) rfl hy k) k
theorem ow_irem (C : OwnCtx p s m meth c Z a0 tw y0 bytes ml ret) (A : OwnPos p l e R s m args below meth c h0 ws T h ck sk) {x y : Int32} (hd : decode bytes pc = .ok (.irem, 1)) (hy : y ≠ 0) (hp : pc + 1 = pc') (k : OwnWP p e below s h0 ws Q CK SK T (mkF m pc' Ls (.int (x % y) :: S))) : OwnWP p e below s h0 ws Q CK SK T (mkF m pc Ls (.int y :: .int x :: S)) := by
  obtain ⟨locs, X, -⟩ := A; subst hp
  exact ow_st (fun _ k => iremM X C.1 rfl (hb C.2.2.2.1 hd) rfl hy k) k
theorem ow_ldiv (C : OwnCtx p s m meth c Z a0 tw y0 bytes ml ret) (A : OwnPos p l e R s m args below meth c h0 ws T h ck sk) {x y : Int64} (hd : decode bytes pc = .ok (.ldiv, 1)) (hy : y ≠ 0) (hp : pc + 1 = pc') (k : OwnWP p e below s h0 ws Q CK SK T (mkF m pc' Ls (.long (x / y) :: S))) : OwnWP p e below s h0 ws Q CK SK T (mkF m pc Ls (.long y :: .long x :: S)) := by
  obtain ⟨locs, X, -⟩ := A; subst hp
  exact ow_st (fun _ k => XS.ldiv X.here C.1 rfl (hb C.2.2.2.1 hd) rfl hy k) k
theorem ow_lrem (C : OwnCtx p s m meth c Z a0 tw y0 bytes ml ret) (A : OwnPos p l e R s m args below meth c h0 ws T h ck sk) {x y : Int64} (hd : decode bytes pc = .ok (.lrem, 1)) (hy : y ≠ 0) (hp : pc + 1 = pc') (k : OwnWP p e below s h0 ws Q CK SK T (mkF m pc' Ls (.long (x % y) :: S))) : OwnWP p e below s h0 ws Q CK SK T (mkF m pc Ls (.long y :: .long x :: S)) := by
  obtain ⟨locs, X, -⟩ := A; subst hp
  exact ow_st (fun _ k => XS.lrem X.here C.1 rfl (hb C.2.2.2.1 hd) rfl hy (by rw [lrem_mod]; exact k)) k
theorem ow_ineg (C : OwnCtx p s m meth c Z a0 tw y0 bytes ml ret) (A : OwnPos p l e R s m args below meth c h0 ws T h ck sk) {x : Int32} (hd : decode bytes pc = .ok (.ineg, 1)) (hp : pc + 1 = pc') (k : OwnWP p e below s h0 ws Q CK SK T (mkF m pc' Ls (.int (-x) :: S))) : OwnWP p e below s h0 ws Q CK SK T (mkF m pc Ls (.int x :: S)) := by
  obtain ⟨locs, X, -⟩ := A; subst hp
  exact ow_st (fun _ k => XS.ineg X.here C.1 rfl (hb C.2.2.2.1 hd) rfl k) k
theorem ow_lneg (C : OwnCtx p s m meth c Z a0 tw y0 bytes ml ret) (A : OwnPos p l e R s m args below meth c h0 ws T h ck sk) {x : Int64} (hd : decode bytes pc = .ok (.lneg, 1)) (hp : pc + 1 = pc') (k : OwnWP p e below s h0 ws Q CK SK T (mkF m pc' Ls (.long (-x) :: S))) : OwnWP p e below s h0 ws Q CK SK T (mkF m pc Ls (.long x :: S)) := by
  obtain ⟨locs, X, -⟩ := A; subst hp
  exact ow_st (fun _ k => XS.lneg X.here C.1 rfl (hb C.2.2.2.1 hd) rfl k) k
theorem ow_i2l (C : OwnCtx p s m meth c Z a0 tw y0 bytes ml ret) (A : OwnPos p l e R s m args below meth c h0 ws T h ck sk) {x : Int32} (hd : decode bytes pc = .ok (.i2l, 1)) (hp : pc + 1 = pc') (k : OwnWP p e below s h0 ws Q CK SK T (mkF m pc' Ls (.long x.toInt64 :: S))) : OwnWP p e below s h0 ws Q CK SK T (mkF m pc Ls (.int x :: S)) := by
  obtain ⟨locs, X, -⟩ := A; subst hp
  exact ow_st (fun _ k => XS.i2l X.here C.1 rfl (hb C.2.2.2.1 hd) rfl k) k
theorem ow_l2i (C : OwnCtx p s m meth c Z a0 tw y0 bytes ml ret) (A : OwnPos p l e R s m args below meth c h0 ws T h ck sk) {x : Int64} (hd : decode bytes pc = .ok (.l2i, 1)) (hp : pc + 1 = pc') (k : OwnWP p e below s h0 ws Q CK SK T (mkF m pc' Ls (.int x.toInt32 :: S))) : OwnWP p e below s h0 ws Q CK SK T (mkF m pc Ls (.long x :: S)) := by
  obtain ⟨locs, X, -⟩ := A; subst hp
  exact ow_st (fun _ k => XS.l2i X.here C.1 rfl (hb C.2.2.2.1 hd) rfl k) k
theorem ow_i2b (C : OwnCtx p s m meth c Z a0 tw y0 bytes ml ret) (A : OwnPos p l e R s m args below meth c h0 ws T h ck sk) {x : Int32} (hd : decode bytes pc = .ok (.i2b, 1)) (hp : pc + 1 = pc') (k : OwnWP p e below s h0 ws Q CK SK T (mkF m pc' Ls (.int x.toInt8.toInt32 :: S))) : OwnWP p e below s h0 ws Q CK SK T (mkF m pc Ls (.int x :: S)) := by
  obtain ⟨locs, X, -⟩ := A; subst hp
  exact ow_st (fun _ k => XS.i2b X.here C.1 rfl (hb C.2.2.2.1 hd) rfl k) k
theorem ow_i2s (C : OwnCtx p s m meth c Z a0 tw y0 bytes ml ret) (A : OwnPos p l e R s m args below meth c h0 ws T h ck sk) {x : Int32} (hd : decode bytes pc = .ok (.i2s, 1)) (hp : pc + 1 = pc') (k : OwnWP p e below s h0 ws Q CK SK T (mkF m pc' Ls (.int x.toInt16.toInt32 :: S))) : OwnWP p e below s h0 ws Q CK SK T (mkF m pc Ls (.int x :: S)) := by
  obtain ⟨locs, X, -⟩ := A; subst hp
  exact ow_st (fun _ k => XS.i2s X.here C.1 rfl (hb C.2.2.2.1 hd) rfl k) k
theorem ow_i2c (C : OwnCtx p s m meth c Z a0 tw y0 bytes ml ret) (A : OwnPos p l e R s m args below meth c h0 ws T h ck sk) {x : Int32} (hd : decode bytes pc = .ok (.i2c, 1)) (hp : pc + 1 = pc') (k : OwnWP p e below s h0 ws Q CK SK T (mkF m pc' Ls (.int x.toUInt32.toUInt16.toUInt32.toInt32 :: S))) : OwnWP p e below s h0 ws Q CK SK T (mkF m pc Ls (.int x :: S)) := by
  obtain ⟨locs, X, -⟩ := A; subst hp
  exact ow_st (fun _ k => XS.i2c X.here C.1 rfl (hb C.2.2.2.1 hd) rfl k) k
theorem ow_iconst (C : OwnCtx p s m meth c Z a0 tw y0 bytes ml ret) (A : OwnPos p l e R s m args below meth c h0 ws T h ck sk) {i : Int} {v : Int32} (hd : decode bytes pc = .ok (.iconst i, 1)) (hv : Int32.ofInt i = v) (hp : pc + 1 = pc') (k : OwnWP p e below s h0 ws Q CK SK T (mkF m pc' Ls (.int v :: S))) : OwnWP p e below s h0 ws Q CK SK T (mkF m pc Ls (S)) := by
  obtain ⟨locs, X, -⟩ := A; subst hp
  exact ow_st (fun _ k => by subst hv; exact XS.iconst X.here C.1 rfl (hb C.2.2.2.1 hd) k) k
theorem ow_bipush (C : OwnCtx p s m meth c Z a0 tw y0 bytes ml ret) (A : OwnPos p l e R s m args below meth c h0 ws T h ck sk) {i : Int} {v : Int32} (hd : decode bytes pc = .ok (.bipush i, 2)) (hv : (Int8.ofInt i).toInt32 = v) (hp : pc + 2 = pc') (k : OwnWP p e below s h0 ws Q CK SK T (mkF m pc' Ls (.int v :: S))) : OwnWP p e below s h0 ws Q CK SK T (mkF m pc Ls (S)) := by
  obtain ⟨locs, X, -⟩ := A; subst hp
  exact ow_st (fun _ k => by subst hv; exact XS.bipush X.here C.1 rfl (hb C.2.2.2.1 hd) k) k
theorem ow_sipush (C : OwnCtx p s m meth c Z a0 tw y0 bytes ml ret) (A : OwnPos p l e R s m args below meth c h0 ws T h ck sk) {i : Int} {v : Int32} (hd : decode bytes pc = .ok (.sipush i, 3)) (hv : (Int16.ofInt i).toInt32 = v) (hp : pc + 3 = pc') (k : OwnWP p e below s h0 ws Q CK SK T (mkF m pc' Ls (.int v :: S))) : OwnWP p e below s h0 ws Q CK SK T (mkF m pc Ls (S)) := by
  obtain ⟨locs, X, -⟩ := A; subst hp
  exact ow_st (fun _ k => by subst hv; exact XS.sipush X.here C.1 rfl (hb C.2.2.2.1 hd) k) k
theorem ow_lconst (C : OwnCtx p s m meth c Z a0 tw y0 bytes ml ret) (A : OwnPos p l e R s m args below meth c h0 ws T h ck sk) {i : Fin 2} {v : Int64} (hd : decode bytes pc = .ok (.lconst i, 1)) (hv : Int64.ofNat i = v) (hp : pc + 1 = pc') (k : OwnWP p e below s h0 ws Q CK SK T (mkF m pc' Ls (.long v :: S))) : OwnWP p e below s h0 ws Q CK SK T (mkF m pc Ls (S)) := by
  obtain ⟨locs, X, -⟩ := A; subst hp
  exact ow_st (fun _ k => by subst hv; exact XS.lconst X.here C.1 rfl (hb C.2.2.2.1 hd) k) k
theorem ow_aconst_null (C : OwnCtx p s m meth c Z a0 tw y0 bytes ml ret) (A : OwnPos p l e R s m args below meth c h0 ws T h ck sk)  (hd : decode bytes pc = .ok (.aconst_null, 1)) (hp : pc + 1 = pc') (k : OwnWP p e below s h0 ws Q CK SK T (mkF m pc' Ls (.null :: S))) : OwnWP p e below s h0 ws Q CK SK T (mkF m pc Ls (S)) := by
  obtain ⟨locs, X, -⟩ := A; subst hp
  exact ow_st (fun _ k => XS.aconstNull X.here C.1 rfl (hb C.2.2.2.1 hd) k) k
theorem ow_iload (C : OwnCtx p s m meth c Z a0 tw y0 bytes ml ret) (A : OwnPos p l e R s m args below meth c h0 ws T h ck sk) {j : Nat} {v : Int32} (hd : decode bytes pc = .ok (.iload j, 2)) (hl : Ls[j]? = some (.val (.int v))) (hp : pc + 2 = pc') (k : OwnWP p e below s h0 ws Q CK SK T (mkF m pc' Ls (.int v :: S))) : OwnWP p e below s h0 ws Q CK SK T (mkF m pc Ls (S)) := by
  obtain ⟨locs, X, -⟩ := A; subst hp
  exact ow_st (fun _ k => XS.iload X.here C.1 rfl (hb C.2.2.2.1 hd) hl k) k
theorem ow_iloadN (C : OwnCtx p s m meth c Z a0 tw y0 bytes ml ret) (A : OwnPos p l e R s m args below meth c h0 ws T h ck sk) {j : Fin 4} {v : Int32} (hd : decode bytes pc = .ok (.iload_n j, 1)) (hl : Ls[j.val]? = some (.val (.int v))) (hp : pc + 1 = pc') (k : OwnWP p e below s h0 ws Q CK SK T (mkF m pc' Ls (.int v :: S))) : OwnWP p e below s h0 ws Q CK SK T (mkF m pc Ls (S)) := by
  obtain ⟨locs, X, -⟩ := A; subst hp
  exact ow_st (fun _ k => XS.iloadN X.here C.1 rfl (hb C.2.2.2.1 hd) hl k) k
theorem ow_lload (C : OwnCtx p s m meth c Z a0 tw y0 bytes ml ret) (A : OwnPos p l e R s m args below meth c h0 ws T h ck sk) {j : Nat} {v : Int64} (hd : decode bytes pc = .ok (.lload j, 2)) (hl : Ls[j]? = some (.val (.long v))) (hp : pc + 2 = pc') (k : OwnWP p e below s h0 ws Q CK SK T (mkF m pc' Ls (.long v :: S))) : OwnWP p e below s h0 ws Q CK SK T (mkF m pc Ls (S)) := by
  obtain ⟨locs, X, -⟩ := A; subst hp
  exact ow_st (fun _ k => XS.lload X.here C.1 rfl (hb C.2.2.2.1 hd) hl k) k
theorem ow_lloadN (C : OwnCtx p s m meth c Z a0 tw y0 bytes ml ret) (A : OwnPos p l e R s m args below meth c h0 ws T h ck sk) {j : Fin 4} {v : Int64} (hd : decode bytes pc = .ok (.lload_n j, 1)) (hl : Ls[j.val]? = some (.val (.long v))) (hp : pc + 1 = pc') (k : OwnWP p e below s h0 ws Q CK SK T (mkF m pc' Ls (.long v :: S))) : OwnWP p e below s h0 ws Q CK SK T (mkF m pc Ls (S)) := by
  obtain ⟨locs, X, -⟩ := A; subst hp
  exact ow_st (fun _ k => XS.lloadN X.here C.1 rfl (hb C.2.2.2.1 hd) hl k) k
theorem ow_aload (C : OwnCtx p s m meth c Z a0 tw y0 bytes ml ret) (A : OwnPos p l e R s m args below meth c h0 ws T h ck sk) {j : Nat} {v : Value} (hd : decode bytes pc = .ok (.aload j, 2)) (hl : Ls[j]? = some (.val v)) (hv : v.isRef = true) (hp : pc + 2 = pc') (k : OwnWP p e below s h0 ws Q CK SK T (mkF m pc' Ls (v :: S))) : OwnWP p e below s h0 ws Q CK SK T (mkF m pc Ls (S)) := by
  obtain ⟨locs, X, -⟩ := A; subst hp
  exact ow_st (fun _ k => XS.aload X.here C.1 rfl (hb C.2.2.2.1 hd) hl hv k) k
theorem ow_aloadN (C : OwnCtx p s m meth c Z a0 tw y0 bytes ml ret) (A : OwnPos p l e R s m args below meth c h0 ws T h ck sk) {j : Fin 4} {v : Value} (hd : decode bytes pc = .ok (.aload_n j, 1)) (hl : Ls[j.val]? = some (.val v)) (hv : v.isRef = true) (hp : pc + 1 = pc') (k : OwnWP p e below s h0 ws Q CK SK T (mkF m pc' Ls (v :: S))) : OwnWP p e below s h0 ws Q CK SK T (mkF m pc Ls (S)) := by
  obtain ⟨locs, X, -⟩ := A; subst hp
  exact ow_st (fun _ k => XS.aloadN X.here C.1 rfl (hb C.2.2.2.1 hd) hl hv k) k
theorem ow_istore (C : OwnCtx p s m meth c Z a0 tw y0 bytes ml ret) (A : OwnPos p l e R s m args below meth c h0 ws T h ck sk) {j : Nat} {v : Int32} (hd : decode bytes pc = .ok (.istore j, 2)) (hl : storeLocals Ls j (.int v) = some Ls') (hp : pc + 2 = pc') (k : OwnWP p e below s h0 ws Q CK SK T (mkF m pc' Ls' (S))) : OwnWP p e below s h0 ws Q CK SK T (mkF m pc Ls (.int v :: S)) := by
  obtain ⟨locs, X, -⟩ := A; subst hp
  exact ow_st (fun _ k => XS.istore X.here C.1 rfl (hb C.2.2.2.1 hd) rfl hl k) k
theorem ow_istoreN (C : OwnCtx p s m meth c Z a0 tw y0 bytes ml ret) (A : OwnPos p l e R s m args below meth c h0 ws T h ck sk) {j : Fin 4} {v : Int32} (hd : decode bytes pc = .ok (.istore_n j, 1)) (hl : storeLocals Ls j.val (.int v) = some Ls') (hp : pc + 1 = pc') (k : OwnWP p e below s h0 ws Q CK SK T (mkF m pc' Ls' (S))) : OwnWP p e below s h0 ws Q CK SK T (mkF m pc Ls (.int v :: S)) := by
  obtain ⟨locs, X, -⟩ := A; subst hp
  exact ow_st (fun _ k => XS.istoreN X.here C.1 rfl (hb C.2.2.2.1 hd) rfl hl k) k
theorem ow_lstore (C : OwnCtx p s m meth c Z a0 tw y0 bytes ml ret) (A : OwnPos p l e R s m args below meth c h0 ws T h ck sk) {j : Nat} {v : Int64} (hd : decode bytes pc = .ok (.lstore j, 2)) (hl : storeLocals Ls j (.long v) = some Ls') (hp : pc + 2 = pc') (k : OwnWP p e below s h0 ws Q CK SK T (mkF m pc' Ls' (S))) : OwnWP p e below s h0 ws Q CK SK T (mkF m pc Ls (.long v :: S)) := by
  obtain ⟨locs, X, -⟩ := A; subst hp
  exact ow_st (fun _ k => XS.lstore X.here C.1 rfl (hb C.2.2.2.1 hd) rfl hl k) k
theorem ow_lstoreN (C : OwnCtx p s m meth c Z a0 tw y0 bytes ml ret) (A : OwnPos p l e R s m args below meth c h0 ws T h ck sk) {j : Fin 4} {v : Int64} (hd : decode bytes pc = .ok (.lstore_n j, 1)) (hl : storeLocals Ls j.val (.long v) = some Ls') (hp : pc + 1 = pc') (k : OwnWP p e below s h0 ws Q CK SK T (mkF m pc' Ls' (S))) : OwnWP p e below s h0 ws Q CK SK T (mkF m pc Ls (.long v :: S)) := by
  obtain ⟨locs, X, -⟩ := A; subst hp
  exact ow_st (fun _ k => XS.lstoreN X.here C.1 rfl (hb C.2.2.2.1 hd) rfl hl k) k
theorem ow_astore (C : OwnCtx p s m meth c Z a0 tw y0 bytes ml ret) (A : OwnPos p l e R s m args below meth c h0 ws T h ck sk) {j : Nat} {v : Value} (hd : decode bytes pc = .ok (.astore j, 2)) (hv : v.isRef = true) (hl : storeLocals Ls j v = some Ls') (hp : pc + 2 = pc') (k : OwnWP p e below s h0 ws Q CK SK T (mkF m pc' Ls' (S))) : OwnWP p e below s h0 ws Q CK SK T (mkF m pc Ls (v :: S)) := by
  obtain ⟨locs, X, -⟩ := A; subst hp
  exact ow_st (fun _ k => XS.astore X.here C.1 rfl (hb C.2.2.2.1 hd) rfl hv hl k) k
theorem ow_astoreN (C : OwnCtx p s m meth c Z a0 tw y0 bytes ml ret) (A : OwnPos p l e R s m args below meth c h0 ws T h ck sk) {j : Fin 4} {v : Value} (hd : decode bytes pc = .ok (.astore_n j, 1)) (hv : v.isRef = true) (hl : storeLocals Ls j.val v = some Ls') (hp : pc + 1 = pc') (k : OwnWP p e below s h0 ws Q CK SK T (mkF m pc' Ls' (S))) : OwnWP p e below s h0 ws Q CK SK T (mkF m pc Ls (v :: S)) := by
  obtain ⟨locs, X, -⟩ := A; subst hp
  exact ow_st (fun _ k => XS.astoreN X.here C.1 rfl (hb C.2.2.2.1 hd) rfl hv hl k) k
theorem ow_iinc (C : OwnCtx p s m meth c Z a0 tw y0 bytes ml ret) (A : OwnPos p l e R s m args below meth c h0 ws T h ck sk) {j : Nat} {cst : Int} {v : Int32} (hd : decode bytes pc = .ok (.iinc j cst, 3)) (hl : Ls[j]? = some (.val (.int v))) (hl' : storeLocals Ls j (.int (v + Int32.ofInt cst)) = some Ls') (hp : pc + 3 = pc') (k : OwnWP p e below s h0 ws Q CK SK T (mkF m pc' Ls' (S))) : OwnWP p e below s h0 ws Q CK SK T (mkF m pc Ls (S)) := by
  obtain ⟨locs, X, -⟩ := A; subst hp
  exact ow_st (fun _ k => XS.iinc X.here C.1 rfl (hb C.2.2.2.1 hd) hl hl' k) k
theorem ow_dup (C : OwnCtx p s m meth c Z a0 tw y0 bytes ml ret) (A : OwnPos p l e R s m args below meth c h0 ws T h ck sk) {v : Value} (hd : decode bytes pc = .ok (.dup, 1)) (hc : v.category = 1) (hp : pc + 1 = pc') (k : OwnWP p e below s h0 ws Q CK SK T (mkF m pc' Ls (v :: v :: S))) : OwnWP p e below s h0 ws Q CK SK T (mkF m pc Ls (v :: S)) := by
  obtain ⟨locs, X, -⟩ := A; subst hp
  exact ow_st (fun _ k => XS.dup X.here C.1 rfl (hb C.2.2.2.1 hd) rfl hc k) k
theorem ow_dup_x1 (C : OwnCtx p s m meth c Z a0 tw y0 bytes ml ret) (A : OwnPos p l e R s m args below meth c h0 ws T h ck sk) {v w : Value} (hd : decode bytes pc = .ok (.dup_x1, 1)) (hc : v.category = 1) (hc' : w.category = 1) (hp : pc + 1 = pc') (k : OwnWP p e below s h0 ws Q CK SK T (mkF m pc' Ls (v :: w :: v :: S))) : OwnWP p e below s h0 ws Q CK SK T (mkF m pc Ls (v :: w :: S)) := by
  obtain ⟨locs, X, -⟩ := A; subst hp
  exact ow_st (fun _ k => XS.dupX1 X.here C.1 rfl (hb C.2.2.2.1 hd) rfl hc hc' k) k
theorem ow_dup2 (C : OwnCtx p s m meth c Z a0 tw y0 bytes ml ret) (A : OwnPos p l e R s m args below meth c h0 ws T h ck sk) {v w : Value} (hd : decode bytes pc = .ok (.dup2, 1)) (hc : v.category = 1) (hc' : w.category = 1) (hp : pc + 1 = pc') (k : OwnWP p e below s h0 ws Q CK SK T (mkF m pc' Ls (v :: w :: v :: w :: S))) : OwnWP p e below s h0 ws Q CK SK T (mkF m pc Ls (v :: w :: S)) := by
  obtain ⟨locs, X, -⟩ := A; subst hp
  exact ow_st (fun _ k => XT.dup2 X.here C.1 rfl (hb C.2.2.2.1 hd) rfl hc hc' k) k
theorem ow_pop (C : OwnCtx p s m meth c Z a0 tw y0 bytes ml ret) (A : OwnPos p l e R s m args below meth c h0 ws T h ck sk) {v : Value} (hd : decode bytes pc = .ok (.pop, 1)) (hc : v.category = 1) (hp : pc + 1 = pc') (k : OwnWP p e below s h0 ws Q CK SK T (mkF m pc' Ls (S))) : OwnWP p e below s h0 ws Q CK SK T (mkF m pc Ls (v :: S)) := by
  obtain ⟨locs, X, -⟩ := A; subst hp
  exact ow_st (fun _ k => XS.pop X.here C.1 rfl (hb C.2.2.2.1 hd) rfl hc k) k
theorem ow_goto (C : OwnCtx p s m meth c Z a0 tw y0 bytes ml ret) (A : OwnPos p l e R s m args below meth c h0 ws T h ck sk) {o : Int} (hd : decode bytes pc = .ok (.goto o, 3)) (ho : 0 ≤ (pc : Int) + o) (hp : ((pc : Int) + o).toNat = pc') (k : OwnWP p e below s h0 ws Q CK SK T (mkF m pc' Ls S)) : OwnWP p e below s h0 ws Q CK SK T (mkF m pc Ls S) := by
  obtain ⟨locs, X, -⟩ := A
  exact ow_st (fun _ k => XS.goto X.here C.1 rfl (pc0 := pc) (pc' := pc') rfl (hb C.2.2.2.1 hd) ho hp k) k
theorem ow_icmp_lt (C : OwnCtx p s m meth c Z a0 tw y0 bytes ml ret) (A : OwnPos p l e R s m args below meth c h0 ws T h ck sk) {x y : Int32} {o : Int} {pcY pcN : Nat} (hd : decode bytes pc = .ok (.if_icmp .lt o, 3)) (ho : 0 ≤ (pc : Int) + o) (hpY : ((pc : Int) + o).toNat = pcY) (hpN : pc + 3 = pcN) (kY : x < y → OwnWP p e below s h0 ws Q CK SK T (mkF m pcY Ls S)) (kN : ¬ (x < y) → OwnWP p e below s h0 ws Q CK SK T (mkF m pcN Ls S)) : OwnWP p e below s h0 ws Q CK SK T (mkF m pc Ls (.int y :: .int x :: S)) := by
  obtain ⟨locs, X, -⟩ := A; subst hpN
  by_cases q : x < y
  · exact ow_st (fun _ k => XS.icmpYes X.here C.1 rfl (pc0 := pc) (pc' := pcY) rfl (hb C.2.2.2.1 hd) rfl (tlt q).1 ho hpY k) (kY q)
  · exact ow_st (fun _ k => XS.icmpNo X.here C.1 rfl (hb C.2.2.2.1 hd) rfl (flt q).1 k) (kN q)
theorem ow_if_lt (C : OwnCtx p s m meth c Z a0 tw y0 bytes ml ret) (A : OwnPos p l e R s m args below meth c h0 ws T h ck sk) {x : Int32} {o : Int} {pcY pcN : Nat} (hd : decode bytes pc = .ok (.ifCond .lt o, 3)) (ho : 0 ≤ (pc : Int) + o) (hpY : ((pc : Int) + o).toNat = pcY) (hpN : pc + 3 = pcN) (kY : x < 0 → OwnWP p e below s h0 ws Q CK SK T (mkF m pcY Ls S)) (kN : ¬ (x < 0) → OwnWP p e below s h0 ws Q CK SK T (mkF m pcN Ls S)) : OwnWP p e below s h0 ws Q CK SK T (mkF m pc Ls (.int x :: S)) := by
  obtain ⟨locs, X, -⟩ := A; subst hpN
  by_cases q : x < 0
  · exact ow_st (fun _ k => XS.ifYes X.here C.1 rfl (pc0 := pc) (pc' := pcY) rfl (hb C.2.2.2.1 hd) rfl ((if0 _ _).trans (tlt q).1) ho hpY k) (kY q)
  · exact ow_st (fun _ k => XS.ifNo X.here C.1 rfl (hb C.2.2.2.1 hd) rfl ((if0 _ _).trans (flt q).1) k) (kN q)
theorem ow_lcmp_lt (C : OwnCtx p s m meth c Z a0 tw y0 bytes ml ret) (A : OwnPos p l e R s m args below meth c h0 ws T h ck sk) {x y : Int64} {o : Int} {pc1 pcY pcN : Nat} (hd : decode bytes pc = .ok (.lcmp, 1)) (hp1 : pc + 1 = pc1) (hd1 : decode bytes pc1 = .ok (.ifCond .lt o, 3)) (ho : 0 ≤ (pc1 : Int) + o) (hpY : ((pc1 : Int) + o).toNat = pcY) (hpN : pc1 + 3 = pcN) (kY : x < y → OwnWP p e below s h0 ws Q CK SK T (mkF m pcY Ls S)) (kN : ¬ (x < y) → OwnWP p e below s h0 ws Q CK SK T (mkF m pcN Ls S)) : OwnWP p e below s h0 ws Q CK SK T (mkF m pc Ls (.long y :: .long x :: S)) := by
  have A' := A; obtain ⟨locs, X, -⟩ := A'; subst hp1
  refine ow_st (fun _ k => XS.lcmp X.here C.1 rfl (hb C.2.2.2.1 hd) rfl k) ?_
  show OwnWP p e below s h0 ws Q CK SK T (mkF m (pc + 1) Ls (.int (lcmpW x y) :: S))
  exact ow_if_lt C A hd1 ho hpY hpN (fun q => kY ((lw_lt x y).mp q)) (fun q => kN (fun z => q ((lw_lt x y).mpr z)))
theorem ow_icmp_ge (C : OwnCtx p s m meth c Z a0 tw y0 bytes ml ret) (A : OwnPos p l e R s m args below meth c h0 ws T h ck sk) {x y : Int32} {o : Int} {pcY pcN : Nat} (hd : decode bytes pc = .ok (.if_icmp .ge o, 3)) (ho : 0 ≤ (pc : Int) + o) (hpY : ((pc : Int) + o).toNat = pcY) (hpN : pc + 3 = pcN) (kY : ¬ (x < y) → OwnWP p e below s h0 ws Q CK SK T (mkF m pcY Ls S)) (kN : x < y → OwnWP p e below s h0 ws Q CK SK T (mkF m pcN Ls S)) : OwnWP p e below s h0 ws Q CK SK T (mkF m pc Ls (.int y :: .int x :: S)) := by
  obtain ⟨locs, X, -⟩ := A; subst hpN
  by_cases q : x < y
  · exact ow_st (fun _ k => XS.icmpNo X.here C.1 rfl (hb C.2.2.2.1 hd) rfl (tlt q).2.1 k) (kN q)
  · exact ow_st (fun _ k => XS.icmpYes X.here C.1 rfl (pc0 := pc) (pc' := pcY) rfl (hb C.2.2.2.1 hd) rfl (flt q).2.1 ho hpY k) (kY q)
theorem ow_if_ge (C : OwnCtx p s m meth c Z a0 tw y0 bytes ml ret) (A : OwnPos p l e R s m args below meth c h0 ws T h ck sk) {x : Int32} {o : Int} {pcY pcN : Nat} (hd : decode bytes pc = .ok (.ifCond .ge o, 3)) (ho : 0 ≤ (pc : Int) + o) (hpY : ((pc : Int) + o).toNat = pcY) (hpN : pc + 3 = pcN) (kY : ¬ (x < 0) → OwnWP p e below s h0 ws Q CK SK T (mkF m pcY Ls S)) (kN : x < 0 → OwnWP p e below s h0 ws Q CK SK T (mkF m pcN Ls S)) : OwnWP p e below s h0 ws Q CK SK T (mkF m pc Ls (.int x :: S)) := by
  obtain ⟨locs, X, -⟩ := A; subst hpN
  by_cases q : x < 0
  · exact ow_st (fun _ k => XS.ifNo X.here C.1 rfl (hb C.2.2.2.1 hd) rfl ((if0 _ _).trans (tlt q).2.1) k) (kN q)
  · exact ow_st (fun _ k => XS.ifYes X.here C.1 rfl (pc0 := pc) (pc' := pcY) rfl (hb C.2.2.2.1 hd) rfl ((if0 _ _).trans (flt q).2.1) ho hpY k) (kY q)
theorem ow_lcmp_ge (C : OwnCtx p s m meth c Z a0 tw y0 bytes ml ret) (A : OwnPos p l e R s m args below meth c h0 ws T h ck sk) {x y : Int64} {o : Int} {pc1 pcY pcN : Nat} (hd : decode bytes pc = .ok (.lcmp, 1)) (hp1 : pc + 1 = pc1) (hd1 : decode bytes pc1 = .ok (.ifCond .ge o, 3)) (ho : 0 ≤ (pc1 : Int) + o) (hpY : ((pc1 : Int) + o).toNat = pcY) (hpN : pc1 + 3 = pcN) (kY : ¬ (x < y) → OwnWP p e below s h0 ws Q CK SK T (mkF m pcY Ls S)) (kN : x < y → OwnWP p e below s h0 ws Q CK SK T (mkF m pcN Ls S)) : OwnWP p e below s h0 ws Q CK SK T (mkF m pc Ls (.long y :: .long x :: S)) := by
  have A' := A; obtain ⟨locs, X, -⟩ := A'; subst hp1
  refine ow_st (fun _ k => XS.lcmp X.here C.1 rfl (hb C.2.2.2.1 hd) rfl k) ?_
  show OwnWP p e below s h0 ws Q CK SK T (mkF m (pc + 1) Ls (.int (lcmpW x y) :: S))
  exact ow_if_ge C A hd1 ho hpY hpN (fun q => kY (fun z => q ((lw_lt x y).mpr z))) (fun q => kN ((lw_lt x y).mp q))
theorem ow_icmp_gt (C : OwnCtx p s m meth c Z a0 tw y0 bytes ml ret) (A : OwnPos p l e R s m args below meth c h0 ws T h ck sk) {x y : Int32} {o : Int} {pcY pcN : Nat} (hd : decode bytes pc = .ok (.if_icmp .gt o, 3)) (ho : 0 ≤ (pc : Int) + o) (hpY : ((pc : Int) + o).toNat = pcY) (hpN : pc + 3 = pcN) (kY : y < x → OwnWP p e below s h0 ws Q CK SK T (mkF m pcY Ls S)) (kN : ¬ (y < x) → OwnWP p e below s h0 ws Q CK SK T (mkF m pcN Ls S)) : OwnWP p e below s h0 ws Q CK SK T (mkF m pc Ls (.int y :: .int x :: S)) := by
  obtain ⟨locs, X, -⟩ := A; subst hpN
  by_cases q : y < x
  · exact ow_st (fun _ k => XS.icmpYes X.here C.1 rfl (pc0 := pc) (pc' := pcY) rfl (hb C.2.2.2.1 hd) rfl (tlt q).2.2.1 ho hpY k) (kY q)
  · exact ow_st (fun _ k => XS.icmpNo X.here C.1 rfl (hb C.2.2.2.1 hd) rfl (flt q).2.2.1 k) (kN q)
theorem ow_if_gt (C : OwnCtx p s m meth c Z a0 tw y0 bytes ml ret) (A : OwnPos p l e R s m args below meth c h0 ws T h ck sk) {x : Int32} {o : Int} {pcY pcN : Nat} (hd : decode bytes pc = .ok (.ifCond .gt o, 3)) (ho : 0 ≤ (pc : Int) + o) (hpY : ((pc : Int) + o).toNat = pcY) (hpN : pc + 3 = pcN) (kY : 0 < x → OwnWP p e below s h0 ws Q CK SK T (mkF m pcY Ls S)) (kN : ¬ (0 < x) → OwnWP p e below s h0 ws Q CK SK T (mkF m pcN Ls S)) : OwnWP p e below s h0 ws Q CK SK T (mkF m pc Ls (.int x :: S)) := by
  obtain ⟨locs, X, -⟩ := A; subst hpN
  by_cases q : 0 < x
  · exact ow_st (fun _ k => XS.ifYes X.here C.1 rfl (pc0 := pc) (pc' := pcY) rfl (hb C.2.2.2.1 hd) rfl ((if0 _ _).trans (tlt q).2.2.1) ho hpY k) (kY q)
  · exact ow_st (fun _ k => XS.ifNo X.here C.1 rfl (hb C.2.2.2.1 hd) rfl ((if0 _ _).trans (flt q).2.2.1) k) (kN q)
theorem ow_lcmp_gt (C : OwnCtx p s m meth c Z a0 tw y0 bytes ml ret) (A : OwnPos p l e R s m args below meth c h0 ws T h ck sk) {x y : Int64} {o : Int} {pc1 pcY pcN : Nat} (hd : decode bytes pc = .ok (.lcmp, 1)) (hp1 : pc + 1 = pc1) (hd1 : decode bytes pc1 = .ok (.ifCond .gt o, 3)) (ho : 0 ≤ (pc1 : Int) + o) (hpY : ((pc1 : Int) + o).toNat = pcY) (hpN : pc1 + 3 = pcN) (kY : y < x → OwnWP p e below s h0 ws Q CK SK T (mkF m pcY Ls S)) (kN : ¬ (y < x) → OwnWP p e below s h0 ws Q CK SK T (mkF m pcN Ls S)) : OwnWP p e below s h0 ws Q CK SK T (mkF m pc Ls (.long y :: .long x :: S)) := by
  have A' := A; obtain ⟨locs, X, -⟩ := A'; subst hp1
  refine ow_st (fun _ k => XS.lcmp X.here C.1 rfl (hb C.2.2.2.1 hd) rfl k) ?_
  show OwnWP p e below s h0 ws Q CK SK T (mkF m (pc + 1) Ls (.int (lcmpW x y) :: S))
  exact ow_if_gt C A hd1 ho hpY hpN (fun q => kY ((lw_gt x y).mp q)) (fun q => kN (fun z => q ((lw_gt x y).mpr z)))
theorem ow_icmp_le (C : OwnCtx p s m meth c Z a0 tw y0 bytes ml ret) (A : OwnPos p l e R s m args below meth c h0 ws T h ck sk) {x y : Int32} {o : Int} {pcY pcN : Nat} (hd : decode bytes pc = .ok (.if_icmp .le o, 3)) (ho : 0 ≤ (pc : Int) + o) (hpY : ((pc : Int) + o).toNat = pcY) (hpN : pc + 3 = pcN) (kY : ¬ (y < x) → OwnWP p e below s h0 ws Q CK SK T (mkF m pcY Ls S)) (kN : y < x → OwnWP p e below s h0 ws Q CK SK T (mkF m pcN Ls S)) : OwnWP p e below s h0 ws Q CK SK T (mkF m pc Ls (.int y :: .int x :: S)) := by
  obtain ⟨locs, X, -⟩ := A; subst hpN
  by_cases q : y < x
  · exact ow_st (fun _ k => XS.icmpNo X.here C.1 rfl (hb C.2.2.2.1 hd) rfl (tlt q).2.2.2 k) (kN q)
  · exact ow_st (fun _ k => XS.icmpYes X.here C.1 rfl (pc0 := pc) (pc' := pcY) rfl (hb C.2.2.2.1 hd) rfl (flt q).2.2.2 ho hpY k) (kY q)
theorem ow_if_le (C : OwnCtx p s m meth c Z a0 tw y0 bytes ml ret) (A : OwnPos p l e R s m args below meth c h0 ws T h ck sk) {x : Int32} {o : Int} {pcY pcN : Nat} (hd : decode bytes pc = .ok (.ifCond .le o, 3)) (ho : 0 ≤ (pc : Int) + o) (hpY : ((pc : Int) + o).toNat = pcY) (hpN : pc + 3 = pcN) (kY : ¬ (0 < x) → OwnWP p e below s h0 ws Q CK SK T (mkF m pcY Ls S)) (kN : 0 < x → OwnWP p e below s h0 ws Q CK SK T (mkF m pcN Ls S)) : OwnWP p e below s h0 ws Q CK SK T (mkF m pc Ls (.int x :: S)) := by
  obtain ⟨locs, X, -⟩ := A; subst hpN
  by_cases q : 0 < x
  · exact ow_st (fun _ k => XS.ifNo X.here C.1 rfl (hb C.2.2.2.1 hd) rfl ((if0 _ _).trans (tlt q).2.2.2) k) (kN q)
  · exact ow_st (fun _ k => XS.ifYes X.here C.1 rfl (pc0 := pc) (pc' := pcY) rfl (hb C.2.2.2.1 hd) rfl ((if0 _ _).trans (flt q).2.2.2) ho hpY k) (kY q)
theorem ow_lcmp_le (C : OwnCtx p s m meth c Z a0 tw y0 bytes ml ret) (A : OwnPos p l e R s m args below meth c h0 ws T h ck sk) {x y : Int64} {o : Int} {pc1 pcY pcN : Nat} (hd : decode bytes pc = .ok (.lcmp, 1)) (hp1 : pc + 1 = pc1) (hd1 : decode bytes pc1 = .ok (.ifCond .le o, 3)) (ho : 0 ≤ (pc1 : Int) + o) (hpY : ((pc1 : Int) + o).toNat = pcY) (hpN : pc1 + 3 = pcN) (kY : ¬ (y < x) → OwnWP p e below s h0 ws Q CK SK T (mkF m pcY Ls S)) (kN : y < x → OwnWP p e below s h0 ws Q CK SK T (mkF m pcN Ls S)) : OwnWP p e below s h0 ws Q CK SK T (mkF m pc Ls (.long y :: .long x :: S)) := by
  have A' := A; obtain ⟨locs, X, -⟩ := A'; subst hp1
  refine ow_st (fun _ k => XS.lcmp X.here C.1 rfl (hb C.2.2.2.1 hd) rfl k) ?_
  show OwnWP p e below s h0 ws Q CK SK T (mkF m (pc + 1) Ls (.int (lcmpW x y) :: S))
  exact ow_if_le C A hd1 ho hpY hpN (fun q => kY (fun z => q ((lw_gt x y).mpr z))) (fun q => kN ((lw_gt x y).mp q))
theorem ow_icmp_eq (C : OwnCtx p s m meth c Z a0 tw y0 bytes ml ret) (A : OwnPos p l e R s m args below meth c h0 ws T h ck sk) {x y : Int32} {o : Int} {pcY pcN : Nat} (hd : decode bytes pc = .ok (.if_icmp .eq o, 3)) (ho : 0 ≤ (pc : Int) + o) (hpY : ((pc : Int) + o).toNat = pcY) (hpN : pc + 3 = pcN) (kY : x = y → OwnWP p e below s h0 ws Q CK SK T (mkF m pcY Ls S)) (kN : ¬ (x = y) → OwnWP p e below s h0 ws Q CK SK T (mkF m pcN Ls S)) : OwnWP p e below s h0 ws Q CK SK T (mkF m pc Ls (.int y :: .int x :: S)) := by
  obtain ⟨locs, X, -⟩ := A; subst hpN
  by_cases q : x = y
  · exact ow_st (fun _ k => XS.icmpYes X.here C.1 rfl (pc0 := pc) (pc' := pcY) rfl (hb C.2.2.2.1 hd) rfl (teq q).1 ho hpY k) (kY q)
  · exact ow_st (fun _ k => XS.icmpNo X.here C.1 rfl (hb C.2.2.2.1 hd) rfl (feq q).1 k) (kN q)
theorem ow_if_eq (C : OwnCtx p s m meth c Z a0 tw y0 bytes ml ret) (A : OwnPos p l e R s m args below meth c h0 ws T h ck sk) {x : Int32} {o : Int} {pcY pcN : Nat} (hd : decode bytes pc = .ok (.ifCond .eq o, 3)) (ho : 0 ≤ (pc : Int) + o) (hpY : ((pc : Int) + o).toNat = pcY) (hpN : pc + 3 = pcN) (kY : x = 0 → OwnWP p e below s h0 ws Q CK SK T (mkF m pcY Ls S)) (kN : ¬ (x = 0) → OwnWP p e below s h0 ws Q CK SK T (mkF m pcN Ls S)) : OwnWP p e below s h0 ws Q CK SK T (mkF m pc Ls (.int x :: S)) := by
  obtain ⟨locs, X, -⟩ := A; subst hpN
  by_cases q : x = 0
  · exact ow_st (fun _ k => XS.ifYes X.here C.1 rfl (pc0 := pc) (pc' := pcY) rfl (hb C.2.2.2.1 hd) rfl ((if0 _ _).trans (teq q).1) ho hpY k) (kY q)
  · exact ow_st (fun _ k => XS.ifNo X.here C.1 rfl (hb C.2.2.2.1 hd) rfl ((if0 _ _).trans (feq q).1) k) (kN q)
theorem ow_lcmp_eq (C : OwnCtx p s m meth c Z a0 tw y0 bytes ml ret) (A : OwnPos p l e R s m args below meth c h0 ws T h ck sk) {x y : Int64} {o : Int} {pc1 pcY pcN : Nat} (hd : decode bytes pc = .ok (.lcmp, 1)) (hp1 : pc + 1 = pc1) (hd1 : decode bytes pc1 = .ok (.ifCond .eq o, 3)) (ho : 0 ≤ (pc1 : Int) + o) (hpY : ((pc1 : Int) + o).toNat = pcY) (hpN : pc1 + 3 = pcN) (kY : x = y → OwnWP p e below s h0 ws Q CK SK T (mkF m pcY Ls S)) (kN : ¬ (x = y) → OwnWP p e below s h0 ws Q CK SK T (mkF m pcN Ls S)) : OwnWP p e below s h0 ws Q CK SK T (mkF m pc Ls (.long y :: .long x :: S)) := by
  have A' := A; obtain ⟨locs, X, -⟩ := A'; subst hp1
  refine ow_st (fun _ k => XS.lcmp X.here C.1 rfl (hb C.2.2.2.1 hd) rfl k) ?_
  show OwnWP p e below s h0 ws Q CK SK T (mkF m (pc + 1) Ls (.int (lcmpW x y) :: S))
  exact ow_if_eq C A hd1 ho hpY hpN (fun q => kY ((lw_eq x y).mp q)) (fun q => kN (fun z => q ((lw_eq x y).mpr z)))
theorem ow_icmp_ne (C : OwnCtx p s m meth c Z a0 tw y0 bytes ml ret) (A : OwnPos p l e R s m args below meth c h0 ws T h ck sk) {x y : Int32} {o : Int} {pcY pcN : Nat} (hd : decode bytes pc = .ok (.if_icmp .ne o, 3)) (ho : 0 ≤ (pc : Int) + o) (hpY : ((pc : Int) + o).toNat = pcY) (hpN : pc + 3 = pcN) (kY : ¬ (x = y) → OwnWP p e below s h0 ws Q CK SK T (mkF m pcY Ls S)) (kN : x = y → OwnWP p e below s h0 ws Q CK SK T (mkF m pcN Ls S)) : OwnWP p e below s h0 ws Q CK SK T (mkF m pc Ls (.int y :: .int x :: S)) := by
  obtain ⟨locs, X, -⟩ := A; subst hpN
  by_cases q : x = y
  · exact ow_st (fun _ k => XS.icmpNo X.here C.1 rfl (hb C.2.2.2.1 hd) rfl (teq q).2 k) (kN q)
  · exact ow_st (fun _ k => XS.icmpYes X.here C.1 rfl (pc0 := pc) (pc' := pcY) rfl (hb C.2.2.2.1 hd) rfl (feq q).2 ho hpY k) (kY q)
theorem ow_if_ne (C : OwnCtx p s m meth c Z a0 tw y0 bytes ml ret) (A : OwnPos p l e R s m args below meth c h0 ws T h ck sk) {x : Int32} {o : Int} {pcY pcN : Nat} (hd : decode bytes pc = .ok (.ifCond .ne o, 3)) (ho : 0 ≤ (pc : Int) + o) (hpY : ((pc : Int) + o).toNat = pcY) (hpN : pc + 3 = pcN) (kY : ¬ (x = 0) → OwnWP p e below s h0 ws Q CK SK T (mkF m pcY Ls S)) (kN : x = 0 → OwnWP p e below s h0 ws Q CK SK T (mkF m pcN Ls S)) : OwnWP p e below s h0 ws Q CK SK T (mkF m pc Ls (.int x :: S)) := by
  obtain ⟨locs, X, -⟩ := A; subst hpN
  by_cases q : x = 0
  · exact ow_st (fun _ k => XS.ifNo X.here C.1 rfl (hb C.2.2.2.1 hd) rfl ((if0 _ _).trans (teq q).2) k) (kN q)
  · exact ow_st (fun _ k => XS.ifYes X.here C.1 rfl (pc0 := pc) (pc' := pcY) rfl (hb C.2.2.2.1 hd) rfl ((if0 _ _).trans (feq q).2) ho hpY k) (kY q)
theorem ow_lcmp_ne (C : OwnCtx p s m meth c Z a0 tw y0 bytes ml ret) (A : OwnPos p l e R s m args below meth c h0 ws T h ck sk) {x y : Int64} {o : Int} {pc1 pcY pcN : Nat} (hd : decode bytes pc = .ok (.lcmp, 1)) (hp1 : pc + 1 = pc1) (hd1 : decode bytes pc1 = .ok (.ifCond .ne o, 3)) (ho : 0 ≤ (pc1 : Int) + o) (hpY : ((pc1 : Int) + o).toNat = pcY) (hpN : pc1 + 3 = pcN) (kY : ¬ (x = y) → OwnWP p e below s h0 ws Q CK SK T (mkF m pcY Ls S)) (kN : x = y → OwnWP p e below s h0 ws Q CK SK T (mkF m pcN Ls S)) : OwnWP p e below s h0 ws Q CK SK T (mkF m pc Ls (.long y :: .long x :: S)) := by
  have A' := A; obtain ⟨locs, X, -⟩ := A'; subst hp1
  refine ow_st (fun _ k => XS.lcmp X.here C.1 rfl (hb C.2.2.2.1 hd) rfl k) ?_
  show OwnWP p e below s h0 ws Q CK SK T (mkF m (pc + 1) Ls (.int (lcmpW x y) :: S))
  exact ow_if_ne C A hd1 ho hpY hpN (fun q => kY (fun z => q ((lw_eq x y).mpr z))) (fun q => kN ((lw_eq x y).mp q))
theorem ow_ifnonnullYes (C : OwnCtx p s m meth c Z a0 tw y0 bytes ml ret) (A : OwnPos p l e R s m args below meth c h0 ws T h ck sk) {o : Int} {b : Addr} (hd : decode bytes pc = .ok (.ifnonnull o, 3)) (ho : 0 ≤ (pc : Int) + o) (hp : ((pc : Int) + o).toNat = pc') (k : OwnWP p e below s h0 ws Q CK SK T (mkF m pc' Ls S)) : OwnWP p e below s h0 ws Q CK SK T (mkF m pc Ls (.ref b :: S)) := by
  obtain ⟨locs, X, -⟩ := A
  exact ow_st (fun _ k => XS.ifnonnullYes X.here C.1 rfl (pc0 := pc) (pc' := pc') rfl (hb C.2.2.2.1 hd) rfl ho hp k) k
theorem ow_ifnonnullNo (C : OwnCtx p s m meth c Z a0 tw y0 bytes ml ret) (A : OwnPos p l e R s m args below meth c h0 ws T h ck sk) {o : Int} (hd : decode bytes pc = .ok (.ifnonnull o, 3)) (hp : pc + 3 = pc') (k : OwnWP p e below s h0 ws Q CK SK T (mkF m pc' Ls S)) : OwnWP p e below s h0 ws Q CK SK T (mkF m pc Ls (.null :: S)) := by
  obtain ⟨locs, X, -⟩ := A; subst hp
  exact ow_st (fun _ k => XS.ifnonnullNo X.here C.1 rfl (hb C.2.2.2.1 hd) rfl k) k
theorem ow_ldcInt (C : OwnCtx p s m meth c Z a0 tw y0 bytes ml ret) (A : OwnPos p l e R s m args below meth c h0 ws T h ck sk) {i : Nat} {v : Int32} (w : Jvm.Cond.constant y0.cls i v ∈ tw) (hd : decode bytes pc = .ok (.ldc i, 2)) (hp : pc + 2 = pc') (k : OwnWP p e below s h0 ws Q CK SK T (mkF m pc' Ls (.int v :: S))) : OwnWP p e below s h0 ws Q CK SK T (mkF m pc Ls S) := by
  obtain ⟨locs, X, -⟩ := A; subst hp
  exact ow_st (X.ldcInt C.1 C.2.2.2.2.2.1 (mvT C.2.1 (C.2.2.1 _ w)) (g := mkF m pc Ls S) rfl (hb C.2.2.2.1 hd)) k
theorem ow_ldc2 (C : OwnCtx p s m meth c Z a0 tw y0 bytes ml ret) (A : OwnPos p l e R s m args below meth c h0 ws T h ck sk) {i : Nat} {v : Int64} (w : Jvm.Cond.constantLong y0.cls i v ∈ tw) (hd : decode bytes pc = .ok (.ldc2_w i, 3)) (hp : pc + 3 = pc') (k : OwnWP p e below s h0 ws Q CK SK T (mkF m pc' Ls (.long v :: S))) : OwnWP p e below s h0 ws Q CK SK T (mkF m pc Ls S) := by
  obtain ⟨locs, X, -⟩ := A; subst hp
  exact ow_st (X.ldc2Long C.1 C.2.2.2.2.2.1 (mvT C.2.1 (C.2.2.1 _ w)) (g := mkF m pc Ls S) rfl (hb C.2.2.2.1 hd)) k
theorem ow_getF (C : OwnCtx p s m meth c Z a0 tw y0 bytes ml ret) (A : OwnPos p l e R s m args below meth c h0 ws T h ck sk) {i : Nat} {R0 O n d : String} {a : Addr} {v : Value} (w : Jvm.Cond.fieldLink y0.cls i R0 n d ∈ tw) (via : Via Z R0 O n d) (F : Fld Z h a O n d v) (hd : decode bytes pc = .ok (.getfield i, 3)) (hp : pc + 3 = pc') (k : ∀ T', OwnPos p l e R s m args below meth c h0 ws T' h ck sk → OwnWP p e below s h0 ws Q CK SK T' (mkF m pc' Ls (v :: S))) : OwnWP p e below s h0 ws Q CK SK T (mkF m pc Ls (.ref a :: S)) := by
  obtain ⟨locs, X, e1, N, K⟩ := A; subst hp
  obtain ⟨T', X', e', st⟩ := getF X C.1 C.2.1 C.2.2.2.2.2.1 (host := "") (Or.inl (C.2.2.1 _ w)) via e1 F (g := mkF m pc Ls (.ref a :: S)) rfl rfl (hb C.2.2.2.1 hd)
  exact ow_st st (k T' ⟨locs, X', e', N, K⟩)
theorem ow_putF (C : OwnCtx p s m meth c Z a0 tw y0 bytes ml ret) (A : OwnPos p l e R s m args below meth c h0 ws T h ck sk) {i kk : Nat} {R0 O n d D : String} {a : Addr} {v old : Value} {ty : FieldType} (w : Jvm.Cond.fieldLink y0.cls i R0 n d ∈ tw) (via : Via Z R0 O n d) (F : Fld Z h a O n d old) (E : Exa Z h a D) (wl : Jvm.Cond.lays D O n d ∈ tw) (wi : Jvm.Cond.instantiable D kk ∈ tw) (hty : parseFieldDescriptor d = some ty) (hn : narrow ty v = v) (hf : fits ty v = true) (q : a ∈ ws ∨ h0.size ≤ a) (hd : decode bytes pc = .ok (.putfield i, 3)) (hp : pc + 3 = pc') (k : ∀ T' h', Wr h h' a (slotOf Z O n d) v → OwnPos p l e R s m args below meth c h0 ws T' h' ck sk → OwnWP p e below s h0 ws Q CK SK T' (mkF m pc' Ls S)) : OwnWP p e below s h0 ws Q CK SK T (mkF m pc Ls (v :: .ref a :: S)) := by
  obtain ⟨locs, X, e1, N, K⟩ := A; subst hp
  obtain ⟨T', h', X', e', W', st⟩ := putF X C.1 C.2.1 C.2.2.2.2.2.1 (host := "") (Or.inl (C.2.2.1 _ w)) via e1 F E (Or.inl (C.2.2.1 _ wl)) (C.2.2.1 _ wi) hty hn hf (g := mkF m pc Ls (v :: .ref a :: S)) rfl rfl (hb C.2.2.2.1 hd)
  exact ow_st st (k T' h' W' ⟨_, X', e', fun y hy => (List.mem_append.mp hy).elim (N y) fun z => by cases List.mem_singleton.mp z; exact q, K.wr W' q⟩)
theorem ow_putFin (C : OwnCtx p s m meth c Z a0 tw y0 bytes ml ret) (A : OwnPos p l e R s m args below meth c h0 ws T h ck sk) {i kk : Nat} {R0 O n d D : String} {a : Addr} {v old : Value} {ty : FieldType} (w : Jvm.Cond.fieldLink y0.cls i R0 n d ∈ tw) (via : Via Z R0 O n d) (F : Fld Z h a O n d old) (E : Exa Z h a D) (wl : Jvm.Cond.laysFinal D O n d ∈ tw) (hO : y0.cls = O) (hi : y0.name = "<init>") (wi : Jvm.Cond.instantiable D kk ∈ tw) (hty : parseFieldDescriptor d = some ty) (hn : narrow ty v = v) (hf : fits ty v = true) (q : a ∈ ws ∨ h0.size ≤ a) (hd : decode bytes pc = .ok (.putfield i, 3)) (hp : pc + 3 = pc') (k : ∀ T' h', Wr h h' a (slotOf Z O n d) v → OwnPos p l e R s m args below meth c h0 ws T' h' ck sk → OwnWP p e below s h0 ws Q CK SK T' (mkF m pc' Ls S)) : OwnWP p e below s h0 ws Q CK SK T (mkF m pc Ls (v :: .ref a :: S)) := by
  obtain ⟨locs, X, e1, N, K⟩ := A; subst hp
  obtain ⟨T', h', X', e', W', st⟩ := putF X C.1 C.2.1 C.2.2.2.2.2.1 (host := "") (Or.inl (C.2.2.1 _ w)) via e1 F E (Or.inr ⟨C.2.2.1 _ wl, hO, C.2.2.2.2.2.2.1.trans hi⟩) (C.2.2.1 _ wi) hty hn hf (g := mkF m pc Ls (v :: .ref a :: S)) rfl rfl (hb C.2.2.2.1 hd)
  exact ow_st st (k T' h' W' ⟨_, X', e', fun y hy => (List.mem_append.mp hy).elim (N y) fun z => by cases List.mem_singleton.mp z; exact q, K.wr W' q⟩)
theorem ow_new (C : OwnCtx p s m meth c Z a0 tw y0 bytes ml ret) (A : OwnPos p l e R s m args below meth c h0 ws T h ck sk) {i n ck' sk' : Nat} {D : String} (w : Jvm.Cond.classLink y0.cls i D ∈ tw) (wi : Jvm.Cond.instantiable D n ∈ tw) (wz : Jvm.Cond.initialized D ∈ tw) (hd : decode bytes pc = .ok (.new i, 3)) (hp : pc + 3 = pc') (hck : ck + 1 = ck') (hsk : sk + n = sk') (hc : ck' ≤ R.cells) (hs : sk' ≤ R.slots)
    (k : ∀ T' h' b, b = h.size → Ext h h' → Exa Z h' b D → (∀ {O nm d : String} {ty : FieldType}, Laid Z a0 D O nm d → parseFieldDescriptor d = some ty → Fld Z h' b O nm d (defaultValue ty)) → OwnPos p l e R s m args below meth c h0 ws T' h' ck' sk' → OwnWP p e below s h0 ws Q CK SK T' (mkF m pc' Ls (.ref b :: S))) : OwnWP p e below s h0 ws Q CK SK T (mkF m pc Ls S) := by
  obtain ⟨locs, X, e1, N, K⟩ := A; subst hp hck hsk
  obtain ⟨T', h', X', e', E', A', D', -, st⟩ := newO X C.1 C.2.1 C.2.2.2.2.2.1 (C.2.2.1 _ w) (C.2.2.1 _ wi) (C.2.2.1 _ wz) e1 (g := mkF m pc Ls S) rfl (hb C.2.2.2.1 hd) hc hs
  exact ow_st st (k T' h' h.size rfl E' A' D' ⟨locs, X', e', N, K.ext E'⟩)
theorem ow_newA (C : OwnCtx p s m meth c Z a0 tw y0 bytes ml ret) (A : OwnPos p l e R s m args below meth c h0 ws T h ck sk) {aty : ArrayType} {ty : FieldType} {n : Int32} {cap ck' sk' : Nat} (hty : newarray.typeOf aty = ty) (w : Jvm.Cond.arrayClass ty ∈ tw) (hd : decode bytes pc = .ok (.newarray aty, 2)) (hp : pc + 2 = pc') (hn : ¬ n < 0) (hcap : n.toNatClampNeg ≤ cap) (hb8 : cap * 8 ≤ 536870912) (hck : ck + 1 = ck') (hsk : sk + cap = sk') (hc : ck' ≤ R.cells) (hs : sk' ≤ R.slots)
    (k : ∀ T' h' b kk, b = h.size → Ext h h' → Arv Z h' b kk ty n [] (defaultValue ty) → OwnPos p l e R s m args below meth c h0 ws T' h' ck' sk' → OwnWP p e below s h0 ws Q CK SK T' (mkF m pc' Ls (.ref b :: S))) : OwnWP p e below s h0 ws Q CK SK T (mkF m pc Ls (.int n :: S)) := by
  obtain ⟨locs, X, e1, N, K⟩ := A; subst hp hck hsk hty
  obtain ⟨T', h', kk, X', e', E', A', st⟩ := newP X C.1 C.2.1 (C.2.2.1 _ w) e1 (g := mkF m pc Ls (.int n :: S)) rfl (hb C.2.2.2.1 hd) rfl hn (cap := cap) hcap hb8 hc hs
  exact ow_st st (k T' h' h.size kk rfl E' (Arv.new A' hn) ⟨locs, X', e', N, K.ext E'⟩)
theorem ow_alen (C : OwnCtx p s m meth c Z a0 tw y0 bytes ml ret) (A : OwnPos p l e R s m args below meth c h0 ws T h ck sk) {a : Addr} {kk : ClassId} {ty : FieldType} {n : Int32} {vs : List Value} {dv : Value} (V : Arv Z h a kk ty n vs dv) (hd : decode bytes pc = .ok (.arraylength, 1)) (hp : pc + 1 = pc') (k : OwnWP p e below s h0 ws Q CK SK T (mkF m pc' Ls (.int n :: S))) : OwnWP p e below s h0 ws Q CK SK T (mkF m pc Ls (.ref a :: S)) := by
  obtain ⟨locs, X, rfl, -⟩ := A; subst hp
  obtain ⟨cl, Ar, -, S1, N1, -, -⟩ := V
  refine ow_st (fun t k => X.arraylength C.1 Ar.1 (State.isArrayOf_alike C.2.1.alike Ar.2.1) (g := mkF m pc Ls (.ref a :: S)) rfl rfl (hb C.2.2.2.1 hd) t k) ?_
  rw [len_of S1 N1]; exact k
theorem ow_iaload (C : OwnCtx p s m meth c Z a0 tw y0 bytes ml ret) (A : OwnPos p l e R s m args below meth c h0 ws T h ck sk) {a : Addr} {kk : ClassId} {n j : Int32} {vs : List Value} {dv v : Value} (V : Arv Z h a kk .int n vs dv) (hj : ¬ j < 0 ∧ j < n) (hv : vs.getD j.toNatClampNeg dv = v) (hd : decode bytes pc = .ok (.iaload, 1)) (hp : pc + 1 = pc') (k : OwnWP p e below s h0 ws Q CK SK T (mkF m pc' Ls (v :: S))) : OwnWP p e below s h0 ws Q CK SK T (mkF m pc Ls (.int j :: .ref a :: S)) := by
  obtain ⟨locs, X, rfl, -⟩ := A; subst hp
  obtain ⟨cl, Ar, -, S1, N1, H1, -⟩ := V
  have hin := inb_of S1 hj
  exact ow_st (fun t k => X.iaload C.1 (j := j) (v := v) Ar.1 (State.isArrayOf_alike C.2.1.alike Ar.2.1) Ar.2.2 hin (H1.at hin hv) (g := mkF m pc Ls (.int j :: .ref a :: S)) rfl rfl (hb C.2.2.2.1 hd) t k) k
theorem ow_laload (C : OwnCtx p s m meth c Z a0 tw y0 bytes ml ret) (A : OwnPos p l e R s m args below meth c h0 ws T h ck sk) {a : Addr} {kk : ClassId} {n j : Int32} {vs : List Value} {dv v : Value} (V : Arv Z h a kk .long n vs dv) (hj : ¬ j < 0 ∧ j < n) (hv : vs.getD j.toNatClampNeg dv = v) (hd : decode bytes pc = .ok (.laload, 1)) (hp : pc + 1 = pc') (k : OwnWP p e below s h0 ws Q CK SK T (mkF m pc' Ls (v :: S))) : OwnWP p e below s h0 ws Q CK SK T (mkF m pc Ls (.int j :: .ref a :: S)) := by
  obtain ⟨locs, X, rfl, -⟩ := A; subst hp
  obtain ⟨cl, Ar, -, S1, N1, H1, -⟩ := V
  have hin := inb_of S1 hj
  exact ow_st (fun t k => X.laload C.1 (j := j) (v := v) Ar.1 (State.isArrayOf_alike C.2.1.alike Ar.2.1) Ar.2.2 hin (H1.at hin hv) (g := mkF m pc Ls (.int j :: .ref a :: S)) rfl rfl (hb C.2.2.2.1 hd) t k) k
theorem ow_baload (C : OwnCtx p s m meth c Z a0 tw y0 bytes ml ret) (A : OwnPos p l e R s m args below meth c h0 ws T h ck sk) {a : Addr} {kk : ClassId} {n j : Int32} {vs : List Value} {dv v : Value} (V : Arv Z h a kk .byte n vs dv) (hj : ¬ j < 0 ∧ j < n) (hv : vs.getD j.toNatClampNeg dv = v) (hd : decode bytes pc = .ok (.baload, 1)) (hp : pc + 1 = pc') (k : OwnWP p e below s h0 ws Q CK SK T (mkF m pc' Ls (v :: S))) : OwnWP p e below s h0 ws Q CK SK T (mkF m pc Ls (.int j :: .ref a :: S)) := by
  obtain ⟨locs, X, rfl, -⟩ := A; subst hp
  obtain ⟨cl, Ar, -, S1, N1, H1, -⟩ := V
  have hin := inb_of S1 hj
  exact ow_st (fun t k => X.baloadBytes C.1 (j := j) (v := v) Ar.1 (State.isArrayOf_alike C.2.1.alike Ar.2.1) Ar.2.2 hin (H1.at hin hv) (g := mkF m pc Ls (.int j :: .ref a :: S)) rfl rfl (hb C.2.2.2.1 hd) t k) k
theorem ow_iastore (C : OwnCtx p s m meth c Z a0 tw y0 bytes ml ret) (A : OwnPos p l e R s m args below meth c h0 ws T h ck sk) {a : Addr} {kk : ClassId} {n j : Int32} {x : Int32} {vs : List Value} {dv : Value} {i : Nat} (V : Arv Z h a kk .int n vs dv) (hj : ¬ j < 0 ∧ j < n) (hi : j.toNatClampNeg = i) (hl : i < vs.length) (q : a ∈ ws ∨ h0.size ≤ a) (hd : decode bytes pc = .ok (.iastore, 1)) (hp : pc + 1 = pc')
    (k : ∀ T' h', Wr h h' a j.toNatClampNeg (.int x) → Arv Z h' a kk .int n (vs.set i (.int x)) dv → OwnPos p l e R s m args below meth c h0 ws T' h' ck sk → OwnWP p e below s h0 ws Q CK SK T' (mkF m pc' Ls S)) : OwnWP p e below s h0 ws Q CK SK T (mkF m pc Ls (.int x :: .int j :: .ref a :: S)) := by
  obtain ⟨locs, X, e1, N, K⟩ := A; subst hp
  obtain ⟨cl, Ar, q1, S1, N1, H1, G1⟩ := V
  have hin := inb_of S1 hj
  obtain ⟨T', h', X', e', W', st⟩ := stI X C.1 C.2.1 e1 Ar (j := j) hin (g := mkF m pc Ls (.int x :: .int j :: .ref a :: S)) rfl rfl (hb C.2.2.2.1 hd)
  exact ow_st st (k T' h' W' (Arv.set Ar q1 S1 N1 H1 G1 rfl W' i hi hl) ⟨_, X', e', fun y hy => (List.mem_append.mp hy).elim (N y) fun z => by cases List.mem_singleton.mp z; exact q, K.wr W' q⟩)
theorem ow_lastore (C : OwnCtx p s m meth c Z a0 tw y0 bytes ml ret) (A : OwnPos p l e R s m args below meth c h0 ws T h ck sk) {a : Addr} {kk : ClassId} {n j : Int32} {x : Int64} {vs : List Value} {dv : Value} {i : Nat} (V : Arv Z h a kk .long n vs dv) (hj : ¬ j < 0 ∧ j < n) (hi : j.toNatClampNeg = i) (hl : i < vs.length) (q : a ∈ ws ∨ h0.size ≤ a) (hd : decode bytes pc = .ok (.lastore, 1)) (hp : pc + 1 = pc')
    (k : ∀ T' h', Wr h h' a j.toNatClampNeg (.long x) → Arv Z h' a kk .long n (vs.set i (.long x)) dv → OwnPos p l e R s m args below meth c h0 ws T' h' ck sk → OwnWP p e below s h0 ws Q CK SK T' (mkF m pc' Ls S)) : OwnWP p e below s h0 ws Q CK SK T (mkF m pc Ls (.long x :: .int j :: .ref a :: S)) := by
  obtain ⟨locs, X, e1, N, K⟩ := A; subst hp
  obtain ⟨cl, Ar, q1, S1, N1, H1, G1⟩ := V
  have hin := inb_of S1 hj
  obtain ⟨T', h', X', e', W', st⟩ := stJ X C.1 C.2.1 e1 Ar (j := j) hin (g := mkF m pc Ls (.long x :: .int j :: .ref a :: S)) rfl rfl (hb C.2.2.2.1 hd)
  exact ow_st st (k T' h' W' (Arv.set Ar q1 S1 N1 H1 G1 rfl W' i hi hl) ⟨_, X', e', fun y hy => (List.mem_append.mp hy).elim (N y) fun z => by cases List.mem_singleton.mp z; exact q, K.wr W' q⟩)
theorem ow_bastore (C : OwnCtx p s m meth c Z a0 tw y0 bytes ml ret) (A : OwnPos p l e R s m args below meth c h0 ws T h ck sk) {a : Addr} {kk : ClassId} {n j : Int32} {x : Int32} {vs : List Value} {dv : Value} {i : Nat} (V : Arv Z h a kk .byte n vs dv) (hj : ¬ j < 0 ∧ j < n) (hi : j.toNatClampNeg = i) (hl : i < vs.length) (q : a ∈ ws ∨ h0.size ≤ a) (hd : decode bytes pc = .ok (.bastore, 1)) (hp : pc + 1 = pc')
    (k : ∀ T' h', Wr h h' a j.toNatClampNeg (.int x.toInt8.toInt32) → Arv Z h' a kk .byte n (vs.set i (.int x.toInt8.toInt32)) dv → OwnPos p l e R s m args below meth c h0 ws T' h' ck sk → OwnWP p e below s h0 ws Q CK SK T' (mkF m pc' Ls S)) : OwnWP p e below s h0 ws Q CK SK T (mkF m pc Ls (.int x :: .int j :: .ref a :: S)) := by
  obtain ⟨locs, X, e1, N, K⟩ := A; subst hp
  obtain ⟨cl, Ar, q1, S1, N1, H1, G1⟩ := V
  have hin := inb_of S1 hj
  obtain ⟨T', h', X', e', W', st⟩ := stB X C.1 C.2.1 e1 Ar (j := j) hin (g := mkF m pc Ls (.int x :: .int j :: .ref a :: S)) rfl rfl (hb C.2.2.2.1 hd)
  exact ow_st st (k T' h' W' (Arv.set Ar q1 S1 N1 H1 G1 (fits_nar_byte _) W' i hi hl) ⟨_, X', e', fun y hy => (List.mem_append.mp hy).elim (N y) fun z => by cases List.mem_singleton.mp z; exact q, K.wr W' q⟩)
theorem ow_initO (C : OwnCtx p s m meth c Z a0 tw y0 bytes ml ret) (A : OwnPos p l e R s m args below meth c h0 ws T h ck sk) {i W : Nat} {a : Addr} (w1 : Jvm.Cond.methodLink y0.cls i Lib.objectInit ∈ tw) (w2 : Jvm.Cond.instanceMethod Lib.objectInit ∈ tw) (w3 : Jvm.Cond.code Lib.objectInit ⟨#[0xb1]⟩ 1 none ∈ tw) (hsz : Ls.size = ml) (hd : decode bytes pc = .ok (.invokespecial i, 3)) (hp : pc + 3 = pc') (hf : 1 ≤ R.frames) (hW : 2 * 0 + (S.map fun v => v.category).sum ≤ W) (hl : W + 12 ≤ R.locals) (k : ∀ T', OwnPos p l e R s m args below meth c h0 ws T' h ck sk → OwnWP p e below s h0 ws Q CK SK T' (mkF m pc' Ls S)) : OwnWP p e below s h0 ws Q CK SK T (mkF m pc Ls (.ref a :: S)) := by
  obtain ⟨locs, X, e1, N, K⟩ := A; subst hp
  obtain ⟨T', X', e', st⟩ := initO X C.1 C.2.1 C.2.2.2.2.2.1 (C.2.2.1 _ w1) (C.2.2.1 _ w2) (C.2.2.1 _ w3) e1 (g := mkF m pc Ls (.ref a :: S)) rfl (hsz.trans C.2.2.2.2.1.symm) rfl (hb C.2.2.2.1 hd) hf (W := W) hW hl
  exact ow_st st (k T' ⟨locs, X', e', N, K⟩)
theorem ow_callS (C : OwnCtx p s m meth c Z a0 tw y0 bytes ml ret) (A : OwnPos p l e R s m args below meth c h0 ws T h ck sk) {rm : Room} {cb : ByteArray} {cm : Nat} {cr : Option FieldType} {ws' : List Addr} {Q' : Option Value → Heap → Prop} {y : MethodName} {i W ck' sk' : Nat} {argsL : List Value} (hM : OwnCtr l Z y cb cm cr rm argsL.toArray h ws' Q' []) (w1 : Jvm.Cond.methodLink y0.cls i y ∈ tw) (w2 : Jvm.Cond.static y ∈ tw) (w3 : Jvm.Cond.initialized y.cls ∈ tw) (w4 : Jvm.Cond.code y cb cm cr ∈ tw) (hy : y.cls ≠ "java/lang/invoke/MethodHandle" ∧ y.cls ≠ "java/lang/invoke/VarHandle") (hq : ∀ x ∈ ws', x ∈ ws ∨ h0.size ≤ x) (hfr : rm.frames + 1 ≤ R.frames) (hlo : W + (cm + 11) + rm.locals ≤ R.locals) (hck : ck + rm.cells = ck') (hsk : sk + rm.slots = sk') (hc : ck' ≤ R.cells) (hs : sk' ≤ R.slots) (hsz : Ls.size = ml) (hlen : ∀ sig, parseMethodDescriptor y.desc = some sig → argsL.length = sig.parameters.length) {st0 : List Value} (hst : st0 = argsL.reverse ++ S) (hW : 2 * 0 + (S.map fun v => v.category).sum ≤ W) (hd : decode bytes pc = .ok (.invokestatic i, 3)) (hp : pc + 3 = pc') (k : ∀ T' v, Keep h T'.heap ws' → Q' v T'.heap → OwnPos p l e R s m args below meth c h0 ws T' T'.heap ck' sk' → OwnWP p e below s h0 ws Q CK SK T' (mkF m pc' Ls (v.toList ++ S))) : OwnWP p e below s h0 ws Q CK SK T (mkF m pc Ls st0) := by
  obtain ⟨locs, X, e1, N, K⟩ := A; subst hp hck hsk hst
  obtain ⟨v, _, ⟨T', L', k', n'⟩, -, X', ⟨Lc, ⟨hN, hKe, hQ⟩, hl, hc', hs'⟩, st⟩ := Jvm.LawKit.callS X C.1 (y := y) C.2.2.2.2.2.1 (mvT C.2.1 (C.2.2.1 _ w1)) (mvT C.2.1 (C.2.2.1 _ w2)) (mvT C.2.1 (C.2.2.1 _ w3)) (mvT C.2.1 (C.2.2.1 _ w4)) hy (backOf (W := W) (Q := fun v hh L => ((∀ y ∈ L, y.base ∈ ws' ∨ h.size ≤ y.base) ∧ Keep h hh ws' ∧ Q' v hh)) hM C.2.1 (C.2.2.1 _ w4) (C.2.2.1 _ w3) hfr hlo) (g := mkF m pc Ls (argsL.reverse ++ S)) rfl (hsz.trans C.2.2.2.2.1.symm) (argsL := argsL) (rest := S) hlen rfl hW (hb C.2.2.2.1 hd) (fun _ _ => ⟨rfl, e1, hc, hs⟩)
  dsimp only [Pt.U, Pt.locs, Pt.cells, Pt.slots] at X' hl hc' hs' st hN hKe hQ
  subst hl hc' hs'
  exact ow_st st (k T' v hKe hQ ⟨_, X', rfl, fun y hy => (List.mem_append.mp hy).elim (N y) fun z => (hN y z).elim (fun u => hq _ u) fun u => Or.inr (Nat.le_trans K.1 u), K.trans hKe hq⟩)
theorem ow_callI (C : OwnCtx p s m meth c Z a0 tw y0 bytes ml ret) (A : OwnPos p l e R s m args below meth c h0 ws T h ck sk) {rm : Room} {cb : ByteArray} {cm : Nat} {cr : Option FieldType} {ws' : List Addr} {Q' : Option Value → Heap → Prop} {y : MethodName} {i W ck' sk' : Nat} {argsL : List Value} {a : Addr} (hM : OwnCtr l Z y cb cm none rm (.ref a :: argsL).toArray h ws' Q' []) (hy1 : y.name = "<init>") (w1 : Jvm.Cond.methodLink y0.cls i y ∈ tw) (w2 : Jvm.Cond.instanceMethod y ∈ tw) (w3 : Jvm.Cond.initialized y.cls ∈ tw) (w4 : Jvm.Cond.code y cb cm none ∈ tw) (hy : y.cls ≠ "java/lang/invoke/MethodHandle" ∧ y.cls ≠ "java/lang/invoke/VarHandle") (hq : ∀ x ∈ ws', x ∈ ws ∨ h0.size ≤ x) (hfr : rm.frames + 1 ≤ R.frames) (hlo : W + (cm + 11) + rm.locals ≤ R.locals) (hck : ck + rm.cells = ck') (hsk : sk + rm.slots = sk') (hc : ck' ≤ R.cells) (hs : sk' ≤ R.slots) (hsz : Ls.size = ml) (hlen : ∀ sig, parseMethodDescriptor y.desc = some sig → argsL.length = sig.parameters.length) {st0 : List Value} (hst : st0 = argsL.reverse ++ .ref a :: S) (hW : 2 * 0 + (S.map fun v => v.category).sum ≤ W) (hd : decode bytes pc = .ok (.invokespecial i, 3)) (hp : pc + 3 = pc') (k : ∀ T' v, Keep h T'.heap ws' → Q' v T'.heap → OwnPos p l e R s m args below meth c h0 ws T' T'.heap ck' sk' → OwnWP p e below s h0 ws Q CK SK T' (mkF m pc' Ls (v.toList ++ S))) : OwnWP p e below s h0 ws Q CK SK T (mkF m pc Ls st0) := by
  obtain ⟨locs, X, e1, N, K⟩ := A; subst hp hck hsk hst
  obtain ⟨v, _, ⟨T', L', k', n'⟩, -, X', ⟨Lc, ⟨hN, hKe, hQ⟩, hl, hc', hs'⟩, st⟩ := X.specialBack C.1 (y := y) hy1 C.2.2.2.2.2.1 (mvT C.2.1 (C.2.2.1 _ w1)) (mvT C.2.1 (C.2.2.1 _ w2)) (mvT C.2.1 (C.2.2.1 _ w4)) hy (backOf (W := W) (Q := fun v hh L => ((∀ y ∈ L, y.base ∈ ws' ∨ h.size ≤ y.base) ∧ Keep h hh ws' ∧ Q' v hh)) hM C.2.1 (C.2.2.1 _ w4) (C.2.2.1 _ w3) hfr hlo) (g := mkF m pc Ls (argsL.reverse ++ .ref a :: S)) rfl (hsz.trans C.2.2.2.2.1.symm) (Steps.refl _) (a := a) (argsL := argsL) (rest := S) hlen rfl hW (hb C.2.2.2.1 hd) (fun _ _ => ⟨rfl, e1, hc, hs⟩)
  dsimp only [Pt.U, Pt.locs, Pt.cells, Pt.slots] at X' hl hc' hs' st hN hKe hQ
  subst hl hc' hs'
  exact ow_stT st (k T' v hKe hQ ⟨_, X', rfl, fun y hy => (List.mem_append.mp hy).elim (N y) fun z => (hN y z).elim (fun u => hq _ u) fun u => Or.inr (Nat.le_trans K.1 u), K.trans hKe hq⟩)
theorem ow_callV (C : OwnCtx p s m meth c Z a0 tw y0 bytes ml ret) (A : OwnPos p l e R s m args below meth c h0 ws T h ck sk) {rm : Room} {cb : ByteArray} {cm : Nat} {cr : Option FieldType} {ws' : List Addr} {Q' : Option Value → Heap → Prop} {y : MethodName} {i W ck' sk' : Nat} {argsL : List Value} {z : MethodName} {D : String} {a : Addr} (E : Exa Z h a D) (hM : OwnCtr l Z z cb cm cr rm (.ref a :: argsL).toArray h ws' Q' []) (w1 : Jvm.Cond.methodLink y0.cls i y ∈ tw) (w5 : Jvm.Cond.declares y ∈ tw) (hnf : ∀ s : State, ∀ args : Array Value, Z.Warmed39 s.vm → NotFace s y) (w6 : Jvm.Cond.selects D y z ∈ tw) (w2 : Jvm.Cond.instanceMethod z ∈ tw) (w3 : Jvm.Cond.initialized z.cls ∈ tw) (w4 : Jvm.Cond.code z cb cm cr ∈ tw) (hy : y.cls ≠ "java/lang/invoke/MethodHandle" ∧ y.cls ≠ "java/lang/invoke/VarHandle") (hq : ∀ x ∈ ws', x ∈ ws ∨ h0.size ≤ x) (hfr : rm.frames + 1 ≤ R.frames) (hlo : W + (cm + 11) + rm.locals ≤ R.locals) (hck : ck + rm.cells = ck') (hsk : sk + rm.slots = sk') (hc : ck' ≤ R.cells) (hs : sk' ≤ R.slots) (hsz : Ls.size = ml) (hlen : ∀ sig, parseMethodDescriptor y.desc = some sig → argsL.length = sig.parameters.length) {st0 : List Value} (hst : st0 = argsL.reverse ++ .ref a :: S) (hW : 2 * 0 + (S.map fun v => v.category).sum ≤ W) (hd : decode bytes pc = .ok (.invokevirtual i, 3)) (hp : pc + 3 = pc') (k : ∀ T' v, Keep h T'.heap ws' → Q' v T'.heap → OwnPos p l e R s m args below meth c h0 ws T' T'.heap ck' sk' → OwnWP p e below s h0 ws Q CK SK T' (mkF m pc' Ls (v.toList ++ S))) : OwnWP p e below s h0 ws Q CK SK T (mkF m pc Ls st0) := by
  obtain ⟨locs, X, e1, N, K⟩ := A; subst hp hck hsk hst
  obtain ⟨cq, kq, qa, qb, qc⟩ := isOf C.2.1 e1 E
  obtain ⟨v, _, ⟨T', L', k', n'⟩, -, X', ⟨Lc, ⟨hN, hKe, hQ⟩, hl, hc', hs'⟩, st⟩ := X.virtualBack C.1 (y := y) (z := z) C.2.2.2.2.2.1 (mvT C.2.1 (C.2.2.1 _ w1)) (mvT C.2.1 (C.2.2.1 _ w5)) (hnf s #[] C.2.1) (mvT C.2.1 (C.2.2.1 _ w6)) (mvT C.2.1 (C.2.2.1 _ w2)) hy (backOf (W := W) (Q := fun v hh L => ((∀ y ∈ L, y.base ∈ ws' ∨ h.size ≤ y.base) ∧ Keep h hh ws' ∧ Q' v hh)) hM C.2.1 (C.2.2.1 _ w4) (C.2.2.1 _ w3) hfr hlo) qa qc (g := mkF m pc Ls (argsL.reverse ++ .ref a :: S)) rfl (hsz.trans C.2.2.2.2.1.symm) (Steps.refl _) (argsL := argsL) (rest := S) hlen rfl hW (hb C.2.2.2.1 hd) (fun _ _ => ⟨rfl, e1, hc, hs⟩)
  dsimp only [Pt.U, Pt.locs, Pt.cells, Pt.slots] at X' hl hc' hs' st hN hKe hQ
  subst hl hc' hs'
  exact ow_stT st (k T' v hKe hQ ⟨_, X', rfl, fun y hy => (List.mem_append.mp hy).elim (N y) fun z => (hN y z).elim (fun u => hq _ u) fun u => Or.inr (Nat.le_trans K.1 u), K.trans hKe hq⟩)
theorem ow_selP {y : MethodName} {n : Nat} (hy : y.cls ≠ "java/lang/invoke/MethodHandle" ∧ y.cls ≠ "java/lang/invoke/VarHandle") (hins : (Jvm.Cond.instantiable y.cls n).before args s = true) (hpriv : (Jvm.Cond.privateMethod y).before args s = true) (hinst : (Jvm.Cond.instanceMethod y).before args s = true) :
    (Jvm.Cond.selects y.cls y y).before args s = true := by
  obtain ⟨c, k, hc, hk, -, hniab, -, -⟩ := Cond.instantiable_spec hins
  have hni : k.isInterface = false := (Bool.or_eq_false_iff.mp hniab).1
  obtain ⟨mk, methM, hnamed, hmethM, -, -⟩ := Cond.instanceMethod_spec hinst
  have hfound : s.methodFound? y.cls y.name y.desc = some mk := State.methodFound?_of_named hnamed hy
  have hcls : mk.cls = c := Option.some.inj ((findClass_of_methodNamed hnamed).symm.trans hc)
  have hsel : selectMethod {} s.vm c mk = .method mk := selectMethod_private hmethM (Cond.privateMethod_at hpriv mk methM hnamed hmethM)
  simp only [Cond.before, Cond.holds, Cond.value, hc, hfound, hnamed, hsel, hcls, hk]
  simp; exact hni
theorem ow_callP (C : OwnCtx p s m meth c Z a0 tw y0 bytes ml ret) (A : OwnPos p l e R s m args below meth c h0 ws T h ck sk) {rm : Room} {cb : ByteArray} {cm : Nat} {cr : Option FieldType} {ws' : List Addr} {Q' : Option Value → Heap → Prop} {y : MethodName} {i W ck' sk' : Nat} {argsL : List Value} {D : String} {a : Addr} (E : Exa Z h a D) (hM : OwnCtr l Z y cb cm cr rm (.ref a :: argsL).toArray h ws' Q' []) (w1 : Jvm.Cond.methodLink y0.cls i y ∈ tw) (w5 : Jvm.Cond.privateMethod y ∈ tw) {ni : Nat} (w6 : Jvm.Cond.instantiable y.cls ni ∈ tw) (w2 : Jvm.Cond.instanceMethod y ∈ tw) (w3 : Jvm.Cond.initialized y.cls ∈ tw) (w4 : Jvm.Cond.code y cb cm cr ∈ tw) (hy : y.cls ≠ "java/lang/invoke/MethodHandle" ∧ y.cls ≠ "java/lang/invoke/VarHandle") (hq : ∀ x ∈ ws', x ∈ ws ∨ h0.size ≤ x) (hfr : rm.frames + 1 ≤ R.frames) (hlo : W + (cm + 11) + rm.locals ≤ R.locals) (hck : ck + rm.cells = ck') (hsk : sk + rm.slots = sk') (hc : ck' ≤ R.cells) (hs : sk' ≤ R.slots) (hsz : Ls.size = ml) (hlen : ∀ sig, parseMethodDescriptor y.desc = some sig → argsL.length = sig.parameters.length) {st0 : List Value} (hst : st0 = argsL.reverse ++ .ref a :: S) (hW : 2 * 0 + (S.map fun v => v.category).sum ≤ W) (hd : decode bytes pc = .ok (.invokevirtual i, 3)) (hp : pc + 3 = pc') (k : ∀ T' v, Keep h T'.heap ws' → Q' v T'.heap → OwnPos p l e R s m args below meth c h0 ws T' T'.heap ck' sk' → OwnWP p e below s h0 ws Q CK SK T' (mkF m pc' Ls (v.toList ++ S))) : OwnWP p e below s h0 ws Q CK SK T (mkF m pc Ls st0) := by
  obtain ⟨locs, X, e1, N, K⟩ := A; subst hp hck hsk hst
  obtain ⟨cq, qa, qb⟩ := E.cell
  obtain ⟨v, _, ⟨T', L', k', n'⟩, -, X', ⟨Lc, ⟨hN, hKe, hQ⟩, hl, hc', hs'⟩, st⟩ := X.privateBack C.1 (y := y) C.2.2.2.2.2.1 (mvT C.2.1 (C.2.2.1 _ w1)) (mvT C.2.1 (C.2.2.1 _ w2)) (ow_selP hy (mvT C.2.1 (C.2.2.1 _ w6)) (mvP C.2.1 (C.2.2.1 _ w5)) (mvT C.2.1 (C.2.2.1 _ w2))) (Cond.privateMethod_at (mvP C.2.1 (C.2.2.1 _ w5) (args := #[]))) (mvT C.2.1 (C.2.2.1 _ w4)) hy (backOf (W := W) (Q := fun v hh L => ((∀ y ∈ L, y.base ∈ ws' ∨ h.size ≤ y.base) ∧ Keep h hh ws' ∧ Q' v hh)) hM C.2.1 (C.2.2.1 _ w4) (C.2.2.1 _ w3) hfr hlo) (g := mkF m pc Ls (argsL.reverse ++ .ref a :: S)) rfl (hsz.trans C.2.2.2.2.1.symm) (Steps.refl _) (a := a) (by rw [e1]; exact qa) qb (argsL := argsL) (rest := S) hlen rfl hW (hb C.2.2.2.1 hd) (fun _ _ => ⟨rfl, e1, hc, hs⟩)
  dsimp only [Pt.U, Pt.locs, Pt.cells, Pt.slots] at X' hl hc' hs' st hN hKe hQ
  subst hl hc' hs'
  exact ow_stT st (k T' v hKe hQ ⟨_, X', rfl, fun y hy => (List.mem_append.mp hy).elim (N y) fun z => (hN y z).elim (fun u => hq _ u) fun u => Or.inr (Nat.le_trans K.1 u), K.trans hKe hq⟩)
theorem ow_nf {y : MethodName} {D : String} (hw : ∀ d ∈ tw, d.before a0 Z = true) (w6 : Jvm.Cond.selects D y y ∈ tw) : ∀ s : State, ∀ args : Array Value, Z.Warmed39 s.vm → NotFace s y := fun s args hZ => notFace_of_selects (args := args) (mvT hZ (hw _ w6))
end Own
end Jvm.RoadKit
namespace Jvm.Pilot.@@N@@
open Jvm Jvm.ClassFile Sem Op Lib Jvm.Free Jvm.Stand Jvm.LawKit Jvm.RoadKit Bundle Jvm.Pilot.@@N@@.Jvm.D
theorem tw_0 : (Jvm.Cond.methodLink "com/example/canonwire/canonwire/Utf8CanStartPinLaw" (7 : Nat) ({ cls := "com/example/canonwire/canonwire/Utf8", name := "canStart", desc := "(I)Z" } : Jvm.MethodName)) ∈ tables_1 := List.mem_of_getElem? (i := 0) rfl
theorem tw_1 : (Jvm.Cond.static ({ cls := "com/example/canonwire/canonwire/Utf8", name := "canStart", desc := "(I)Z" } : Jvm.MethodName)) ∈ tables_1 := List.mem_of_getElem? (i := 1) rfl
theorem tw_2 : (Jvm.Cond.initialized "com/example/canonwire/canonwire/Utf8") ∈ tables_1 := List.mem_of_getElem? (i := 2) rfl
theorem tw_3 : (Jvm.Cond.code ({ cls := "com/example/canonwire/canonwire/Utf8", name := "canStart", desc := "(I)Z" } : Jvm.MethodName) prog_47_method_4_code (1 : Nat) (Option.some Jvm.ClassFile.FieldType.boolean)) ∈ tables_1 := List.mem_of_getElem? (i := 3) rfl
theorem tw_4 : (Jvm.Cond.arrayClass Jvm.ClassFile.FieldType.byte) ∈ tables_1 := List.mem_of_getElem? (i := 4) rfl
theorem tw_5 : (Jvm.Cond.methodLink "com/example/canonwire/canonwire/Utf8CanStartPinLaw" (13 : Nat) ({ cls := "com/example/canonwire/canonwire/Utf8", name := "codePointAt", desc := "([BII)I" } : Jvm.MethodName)) ∈ tables_1 := List.mem_of_getElem? (i := 5) rfl
theorem tw_6 : (Jvm.Cond.static ({ cls := "com/example/canonwire/canonwire/Utf8", name := "codePointAt", desc := "([BII)I" } : Jvm.MethodName)) ∈ tables_1 := List.mem_of_getElem? (i := 6) rfl
theorem tw_7 : (Jvm.Cond.code ({ cls := "com/example/canonwire/canonwire/Utf8", name := "codePointAt", desc := "([BII)I" } : Jvm.MethodName) prog_47_method_2_code (11 : Nat) (Option.some Jvm.ClassFile.FieldType.int)) ∈ tables_1 := List.mem_of_getElem? (i := 7) rfl
theorem tw_8 : (Jvm.Cond.methodLink "com/example/canonwire/canonwire/Utf8" (7 : Nat) ({ cls := "java/lang/Math", name := "min", desc := "(II)I" } : Jvm.MethodName)) ∈ tables_1 := List.mem_of_getElem? (i := 8) rfl
theorem tw_9 : (Jvm.Cond.static ({ cls := "java/lang/Math", name := "min", desc := "(II)I" } : Jvm.MethodName)) ∈ tables_1 := List.mem_of_getElem? (i := 9) rfl
theorem tw_10 : (Jvm.Cond.initialized "java/lang/Math") ∈ tables_1 := List.mem_of_getElem? (i := 10) rfl
theorem tw_11 : (Jvm.Cond.code ({ cls := "java/lang/Math", name := "min", desc := "(II)I" } : Jvm.MethodName) jdk_29_method_69_code (2 : Nat) (Option.some Jvm.ClassFile.FieldType.int)) ∈ tables_1 := List.mem_of_getElem? (i := 11) rfl
theorem pd_0 : parseMethodDescriptor "(II)I" = some ⟨[.int, .int], some .int⟩ := by decide +kernel
theorem pd_1 : parseMethodDescriptor "(I)Z" = some ⟨[.int], some .boolean⟩ := by decide +kernel
theorem pd_2 : parseMethodDescriptor "([BII)I" = some ⟨[(.array .byte), .int, .int], some .int⟩ := by decide +kernel
theorem d1_0 : decode prog_47_method_4_code 0 = .ok (.iload_n 0, 1) := by decide +kernel
theorem d1_1 : decode prog_47_method_4_code 1 = .ok (.sipush 128, 3) := by decide +kernel
theorem d1_4 : decode prog_47_method_4_code 4 = .ok (.if_icmp .lt 17, 3) := by decide +kernel
theorem d1_7 : decode prog_47_method_4_code 7 = .ok (.iload_n 0, 1) := by decide +kernel
theorem d1_8 : decode prog_47_method_4_code 8 = .ok (.sipush 194, 3) := by decide +kernel
theorem d1_11 : decode prog_47_method_4_code 11 = .ok (.if_icmp .lt 14, 3) := by decide +kernel
theorem d1_14 : decode prog_47_method_4_code 14 = .ok (.iload_n 0, 1) := by decide +kernel
theorem d1_15 : decode prog_47_method_4_code 15 = .ok (.sipush 244, 3) := by decide +kernel
theorem d1_18 : decode prog_47_method_4_code 18 = .ok (.if_icmp .gt 7, 3) := by decide +kernel
theorem d1_21 : decode prog_47_method_4_code 21 = .ok (.iconst 1, 1) := by decide +kernel
theorem d1_22 : decode prog_47_method_4_code 22 = .ok (.goto 4, 3) := by decide +kernel
theorem d1_25 : decode prog_47_method_4_code 25 = .ok (.iconst 0, 1) := by decide +kernel
theorem d1_26 : decode prog_47_method_4_code 26 = .ok (.ireturn, 1) := by decide +kernel
theorem d2_0 : decode prog_47_method_2_code 0 = .ok (.aload_n 0, 1) := by decide +kernel
theorem d2_1 : decode prog_47_method_2_code 1 = .ok (.iload_n 1, 1) := by decide +kernel
theorem d2_2 : decode prog_47_method_2_code 2 = .ok (.baload, 1) := by decide +kernel
theorem d2_3 : decode prog_47_method_2_code 3 = .ok (.sipush 255, 3) := by decide +kernel
theorem d2_6 : decode prog_47_method_2_code 6 = .ok (.iand, 1) := by decide +kernel
theorem d2_7 : decode prog_47_method_2_code 7 = .ok (.istore_n 3, 1) := by decide +kernel
theorem d2_8 : decode prog_47_method_2_code 8 = .ok (.iload_n 3, 1) := by decide +kernel
theorem d2_9 : decode prog_47_method_2_code 9 = .ok (.sipush 128, 3) := by decide +kernel
theorem d2_12 : decode prog_47_method_2_code 12 = .ok (.if_icmp .ge 5, 3) := by decide +kernel
theorem d2_15 : decode prog_47_method_2_code 15 = .ok (.iload_n 3, 1) := by decide +kernel
theorem d2_16 : decode prog_47_method_2_code 16 = .ok (.ireturn, 1) := by decide +kernel
theorem d2_17 : decode prog_47_method_2_code 17 = .ok (.iload_n 3, 1) := by decide +kernel
theorem d2_18 : decode prog_47_method_2_code 18 = .ok (.sipush 194, 3) := by decide +kernel
theorem d2_21 : decode prog_47_method_2_code 21 = .ok (.if_icmp .lt 22, 3) := by decide +kernel
theorem d2_24 : decode prog_47_method_2_code 24 = .ok (.iload_n 3, 1) := by decide +kernel
theorem d2_25 : decode prog_47_method_2_code 25 = .ok (.sipush 223, 3) := by decide +kernel
theorem d2_28 : decode prog_47_method_2_code 28 = .ok (.if_icmp .gt 15, 3) := by decide +kernel
theorem d2_31 : decode prog_47_method_2_code 31 = .ok (.iconst 1, 1) := by decide +kernel
theorem d2_32 : decode prog_47_method_2_code 32 = .ok (.istore 4, 2) := by decide +kernel
theorem d2_34 : decode prog_47_method_2_code 34 = .ok (.iload_n 3, 1) := by decide +kernel
theorem d2_35 : decode prog_47_method_2_code 35 = .ok (.bipush 31, 2) := by decide +kernel
theorem d2_37 : decode prog_47_method_2_code 37 = .ok (.iand, 1) := by decide +kernel
theorem d2_38 : decode prog_47_method_2_code 38 = .ok (.istore 5, 2) := by decide +kernel
theorem d2_40 : decode prog_47_method_2_code 40 = .ok (.goto 57, 3) := by decide +kernel
theorem d2_43 : decode prog_47_method_2_code 43 = .ok (.iload_n 3, 1) := by decide +kernel
theorem d2_44 : decode prog_47_method_2_code 44 = .ok (.sipush 224, 3) := by decide +kernel
theorem d2_47 : decode prog_47_method_2_code 47 = .ok (.if_icmp .lt 22, 3) := by decide +kernel
theorem d2_50 : decode prog_47_method_2_code 50 = .ok (.iload_n 3, 1) := by decide +kernel
theorem d2_51 : decode prog_47_method_2_code 51 = .ok (.sipush 239, 3) := by decide +kernel
theorem d2_54 : decode prog_47_method_2_code 54 = .ok (.if_icmp .gt 15, 3) := by decide +kernel
theorem d2_57 : decode prog_47_method_2_code 57 = .ok (.iconst 2, 1) := by decide +kernel
theorem d2_58 : decode prog_47_method_2_code 58 = .ok (.istore 4, 2) := by decide +kernel
theorem d2_60 : decode prog_47_method_2_code 60 = .ok (.iload_n 3, 1) := by decide +kernel
theorem d2_61 : decode prog_47_method_2_code 61 = .ok (.bipush 15, 2) := by decide +kernel
theorem d2_63 : decode prog_47_method_2_code 63 = .ok (.iand, 1) := by decide +kernel
theorem d2_64 : decode prog_47_method_2_code 64 = .ok (.istore 5, 2) := by decide +kernel
theorem d2_66 : decode prog_47_method_2_code 66 = .ok (.goto 31, 3) := by decide +kernel
theorem d2_69 : decode prog_47_method_2_code 69 = .ok (.iload_n 3, 1) := by decide +kernel
theorem d2_70 : decode prog_47_method_2_code 70 = .ok (.sipush 240, 3) := by decide +kernel
theorem d2_73 : decode prog_47_method_2_code 73 = .ok (.if_icmp .lt 22, 3) := by decide +kernel
theorem d2_76 : decode prog_47_method_2_code 76 = .ok (.iload_n 3, 1) := by decide +kernel
theorem d2_77 : decode prog_47_method_2_code 77 = .ok (.sipush 244, 3) := by decide +kernel
theorem d2_80 : decode prog_47_method_2_code 80 = .ok (.if_icmp .gt 15, 3) := by decide +kernel
theorem d2_83 : decode prog_47_method_2_code 83 = .ok (.iconst 3, 1) := by decide +kernel
theorem d2_84 : decode prog_47_method_2_code 84 = .ok (.istore 4, 2) := by decide +kernel
theorem d2_86 : decode prog_47_method_2_code 86 = .ok (.iload_n 3, 1) := by decide +kernel
theorem d2_87 : decode prog_47_method_2_code 87 = .ok (.bipush 7, 2) := by decide +kernel
theorem d2_89 : decode prog_47_method_2_code 89 = .ok (.iand, 1) := by decide +kernel
theorem d2_90 : decode prog_47_method_2_code 90 = .ok (.istore 5, 2) := by decide +kernel
theorem d2_92 : decode prog_47_method_2_code 92 = .ok (.goto 5, 3) := by decide +kernel
theorem d2_95 : decode prog_47_method_2_code 95 = .ok (.iconst (-1), 1) := by decide +kernel
theorem d2_96 : decode prog_47_method_2_code 96 = .ok (.ireturn, 1) := by decide +kernel
theorem d2_97 : decode prog_47_method_2_code 97 = .ok (.iload_n 3, 1) := by decide +kernel
theorem d2_98 : decode prog_47_method_2_code 98 = .ok (.sipush 224, 3) := by decide +kernel
theorem d2_101 : decode prog_47_method_2_code 101 = .ok (.if_icmp .ne 9, 3) := by decide +kernel
theorem d2_104 : decode prog_47_method_2_code 104 = .ok (.sipush 160, 3) := by decide +kernel
theorem d2_107 : decode prog_47_method_2_code 107 = .ok (.goto 19, 3) := by decide +kernel
theorem d2_110 : decode prog_47_method_2_code 110 = .ok (.iload_n 3, 1) := by decide +kernel
theorem d2_111 : decode prog_47_method_2_code 111 = .ok (.sipush 240, 3) := by decide +kernel
theorem d2_114 : decode prog_47_method_2_code 114 = .ok (.if_icmp .ne 9, 3) := by decide +kernel
theorem d2_117 : decode prog_47_method_2_code 117 = .ok (.sipush 144, 3) := by decide +kernel
theorem d2_120 : decode prog_47_method_2_code 120 = .ok (.goto 6, 3) := by decide +kernel
theorem d2_123 : decode prog_47_method_2_code 123 = .ok (.sipush 128, 3) := by decide +kernel
theorem d2_126 : decode prog_47_method_2_code 126 = .ok (.istore 6, 2) := by decide +kernel
theorem d2_128 : decode prog_47_method_2_code 128 = .ok (.iload_n 3, 1) := by decide +kernel
theorem d2_129 : decode prog_47_method_2_code 129 = .ok (.sipush 237, 3) := by decide +kernel
theorem d2_132 : decode prog_47_method_2_code 132 = .ok (.if_icmp .ne 9, 3) := by decide +kernel
theorem d2_135 : decode prog_47_method_2_code 135 = .ok (.sipush 159, 3) := by decide +kernel
theorem d2_138 : decode prog_47_method_2_code 138 = .ok (.goto 19, 3) := by decide +kernel
theorem d2_141 : decode prog_47_method_2_code 141 = .ok (.iload_n 3, 1) := by decide +kernel
theorem d2_142 : decode prog_47_method_2_code 142 = .ok (.sipush 244, 3) := by decide +kernel
theorem d2_145 : decode prog_47_method_2_code 145 = .ok (.if_icmp .ne 9, 3) := by decide +kernel
theorem d2_148 : decode prog_47_method_2_code 148 = .ok (.sipush 143, 3) := by decide +kernel
theorem d2_151 : decode prog_47_method_2_code 151 = .ok (.goto 6, 3) := by decide +kernel
theorem d2_154 : decode prog_47_method_2_code 154 = .ok (.sipush 191, 3) := by decide +kernel
theorem d2_157 : decode prog_47_method_2_code 157 = .ok (.istore 7, 2) := by decide +kernel
theorem d2_159 : decode prog_47_method_2_code 159 = .ok (.iload_n 2, 1) := by decide +kernel
theorem d2_160 : decode prog_47_method_2_code 160 = .ok (.aload_n 0, 1) := by decide +kernel
theorem d2_161 : decode prog_47_method_2_code 161 = .ok (.arraylength, 1) := by decide +kernel
theorem d2_162 : decode prog_47_method_2_code 162 = .ok (.invokestatic 7, 3) := by decide +kernel
theorem d2_165 : decode prog_47_method_2_code 165 = .ok (.istore 8, 2) := by decide +kernel
theorem d2_167 : decode prog_47_method_2_code 167 = .ok (.iconst 1, 1) := by decide +kernel
theorem d2_168 : decode prog_47_method_2_code 168 = .ok (.istore 9, 2) := by decide +kernel
theorem d2_170 : decode prog_47_method_2_code 170 = .ok (.iload 9, 2) := by decide +kernel
theorem d2_172 : decode prog_47_method_2_code 172 = .ok (.iload 4, 2) := by decide +kernel
theorem d2_174 : decode prog_47_method_2_code 174 = .ok (.if_icmp .gt 73, 3) := by decide +kernel
theorem d2_177 : decode prog_47_method_2_code 177 = .ok (.iload_n 1, 1) := by decide +kernel
theorem d2_178 : decode prog_47_method_2_code 178 = .ok (.iload 9, 2) := by decide +kernel
theorem d2_180 : decode prog_47_method_2_code 180 = .ok (.iadd, 1) := by decide +kernel
theorem d2_181 : decode prog_47_method_2_code 181 = .ok (.iload 8, 2) := by decide +kernel
theorem d2_183 : decode prog_47_method_2_code 183 = .ok (.if_icmp .ge 16, 3) := by decide +kernel
theorem d2_186 : decode prog_47_method_2_code 186 = .ok (.aload_n 0, 1) := by decide +kernel
theorem d2_187 : decode prog_47_method_2_code 187 = .ok (.iload_n 1, 1) := by decide +kernel
theorem d2_188 : decode prog_47_method_2_code 188 = .ok (.iload 9, 2) := by decide +kernel
theorem d2_190 : decode prog_47_method_2_code 190 = .ok (.iadd, 1) := by decide +kernel
theorem d2_191 : decode prog_47_method_2_code 191 = .ok (.baload, 1) := by decide +kernel
theorem d2_192 : decode prog_47_method_2_code 192 = .ok (.sipush 255, 3) := by decide +kernel
theorem d2_195 : decode prog_47_method_2_code 195 = .ok (.iand, 1) := by decide +kernel
theorem d2_196 : decode prog_47_method_2_code 196 = .ok (.goto 4, 3) := by decide +kernel
theorem d2_200 : decode prog_47_method_2_code 200 = .ok (.istore 10, 2) := by decide +kernel
theorem d2_202 : decode prog_47_method_2_code 202 = .ok (.iload 10, 2) := by decide +kernel
theorem d2_204 : decode prog_47_method_2_code 204 = .ok (.iload 6, 2) := by decide +kernel
theorem d2_206 : decode prog_47_method_2_code 206 = .ok (.if_icmp .lt 10, 3) := by decide +kernel
theorem d2_209 : decode prog_47_method_2_code 209 = .ok (.iload 10, 2) := by decide +kernel
theorem d2_211 : decode prog_47_method_2_code 211 = .ok (.iload 7, 2) := by decide +kernel
theorem d2_213 : decode prog_47_method_2_code 213 = .ok (.if_icmp .le 5, 3) := by decide +kernel
theorem d2_218 : decode prog_47_method_2_code 218 = .ok (.iload 5, 2) := by decide +kernel
theorem d2_220 : decode prog_47_method_2_code 220 = .ok (.bipush 6, 2) := by decide +kernel
theorem d2_222 : decode prog_47_method_2_code 222 = .ok (.ishl, 1) := by decide +kernel
theorem d2_223 : decode prog_47_method_2_code 223 = .ok (.iload 10, 2) := by decide +kernel
theorem d2_225 : decode prog_47_method_2_code 225 = .ok (.bipush 63, 2) := by decide +kernel
theorem d2_227 : decode prog_47_method_2_code 227 = .ok (.iand, 1) := by decide +kernel
theorem d2_228 : decode prog_47_method_2_code 228 = .ok (.ior, 1) := by decide +kernel
theorem d2_229 : decode prog_47_method_2_code 229 = .ok (.istore 5, 2) := by decide +kernel
theorem d2_231 : decode prog_47_method_2_code 231 = .ok (.sipush 128, 3) := by decide +kernel
theorem d2_234 : decode prog_47_method_2_code 234 = .ok (.istore 6, 2) := by decide +kernel
theorem d2_236 : decode prog_47_method_2_code 236 = .ok (.sipush 191, 3) := by decide +kernel
theorem d2_239 : decode prog_47_method_2_code 239 = .ok (.istore 7, 2) := by decide +kernel
theorem d2_241 : decode prog_47_method_2_code 241 = .ok (.iinc 9 1, 3) := by decide +kernel
theorem d2_244 : decode prog_47_method_2_code 244 = .ok (.goto (-74), 3) := by decide +kernel
theorem d2_247 : decode prog_47_method_2_code 247 = .ok (.iload 5, 2) := by decide +kernel
theorem d2_249 : decode prog_47_method_2_code 249 = .ok (.ireturn, 1) := by decide +kernel
theorem d3_0 : decode jdk_29_method_69_code 0 = .ok (.iload_n 0, 1) := by decide +kernel
theorem d3_1 : decode jdk_29_method_69_code 1 = .ok (.iload_n 1, 1) := by decide +kernel
theorem d3_2 : decode jdk_29_method_69_code 2 = .ok (.if_icmp .gt 7, 3) := by decide +kernel
theorem d3_5 : decode jdk_29_method_69_code 5 = .ok (.iload_n 0, 1) := by decide +kernel
theorem d3_6 : decode jdk_29_method_69_code 6 = .ok (.goto 4, 3) := by decide +kernel
theorem d3_9 : decode jdk_29_method_69_code 9 = .ok (.iload_n 1, 1) := by decide +kernel
theorem d3_10 : decode jdk_29_method_69_code 10 = .ok (.ireturn, 1) := by decide +kernel
theorem pn_0 : plainFor x = true := plainFor_of_name (by first | (simp [plainName, overriddenIn]; done) | decide +kernel)
theorem pn_1 : plainFor (⟨"com/example/canonwire/canonwire/Utf8", "canStart", "(I)Z"⟩ : MethodName) = true := plainFor_of_name (by first | (simp [plainName, overriddenIn]; done) | decide +kernel)
theorem pn_2 : plainFor (⟨"com/example/canonwire/canonwire/Utf8", "codePointAt", "([BII)I"⟩ : MethodName) = true := plainFor_of_name (by first | (simp [plainName, overriddenIn]; done) | decide +kernel)
theorem pn_3 : plainFor (⟨"java/lang/Math", "min", "(II)I"⟩ : MethodName) = true := Jvm.Free.JP.mathPlain rfl (by decide +kernel)
theorem own_lt32 {a b : Int32} (h : a.toInt < b.toInt) : a < b := Int32.lt_iff_toInt_lt.mpr h
theorem own_nlt32 {a b : Int32} (h : ¬ a.toInt < b.toInt) : ¬ a < b := fun z => h (Int32.lt_iff_toInt_lt.mp z)
theorem own_eq32 {a b : Int32} (h : a.toInt = b.toInt) : a = b := Int32.toInt_inj.mp h
theorem own_ne32 {a b : Int32} (h : ¬ a.toInt = b.toInt) : ¬ a = b := fun z => h (congrArg Int32.toInt z)
theorem own_lt32' {a b : Int32} (h : a < b) : a.toInt < b.toInt := Int32.lt_iff_toInt_lt.mp h
theorem own_nlt32' {a b : Int32} (h : ¬ a < b) : ¬ a.toInt < b.toInt := fun z => h (Int32.lt_iff_toInt_lt.mpr z)
theorem own_eq32' {a b : Int32} (h : a = b) : a.toInt = b.toInt := congrArg Int32.toInt h
theorem own_ne32' {a b : Int32} (h : ¬ a = b) : ¬ a.toInt = b.toInt := fun z => h (Int32.toInt_inj.mp z)
theorem own_lt64 {a b : Int64} (h : a.toInt < b.toInt) : a < b := Int64.lt_iff_toInt_lt.mpr h
theorem own_nlt64 {a b : Int64} (h : ¬ a.toInt < b.toInt) : ¬ a < b := fun z => h (Int64.lt_iff_toInt_lt.mp z)
theorem own_eq64 {a b : Int64} (h : a.toInt = b.toInt) : a = b := Int64.toInt_inj.mp h
theorem own_ne64 {a b : Int64} (h : ¬ a.toInt = b.toInt) : ¬ a = b := fun z => h (congrArg Int64.toInt z)
theorem own_lt64' {a b : Int64} (h : a < b) : a.toInt < b.toInt := Int64.lt_iff_toInt_lt.mp h
theorem own_nlt64' {a b : Int64} (h : ¬ a < b) : ¬ a.toInt < b.toInt := fun z => h (Int64.lt_iff_toInt_lt.mpr z)
theorem own_eq64' {a b : Int64} (h : a = b) : a.toInt = b.toInt := congrArg Int64.toInt h
theorem own_ne64' {a b : Int64} (h : ¬ a = b) : ¬ a.toInt = b.toInt := fun z => h (Int64.toInt_inj.mp z)
def rmz : Room := { frames := 0, cells := 0, slots := 0, locals := 0 }
def rmc : Room := { frames := 1, cells := 0, slots := 0, locals := 13 }
def own_min (a b : Int32) : Int32 := if b < a then b else a
def QI (x : Int32) (h0 : Heap) (v : Option Value) (h : Heap) : Prop := v = some (.int x) ∧ h = h0
def QC (lo hi : Int) (h0 : Heap) (v : Option Value) (h : Heap) : Prop := h = h0 ∧ (v = some (.int (-1)) ∨ ∃ c : Int32, v = some (.int c) ∧ lo ≤ c.toInt ∧ c.toInt ≤ hi)
def QP (lo hi : Int) (h0 : Heap) (v : Option Value) (h : Heap) : Prop := h = h0 ∧ ∃ c : Int32, v = some (.int c) ∧ lo ≤ c.toInt ∧ c.toInt ≤ hi
def Q0 (v : Option Value) (h : Heap) : Prop := v = some (.int 1)
theorem own_p6 : ((2 ^ 6 : Nat) : Int) = 64 := rfl
theorem own_p5 : ((2 ^ 5 : Nat) : Int) = 32 := rfl
theorem own_p4 : ((2 ^ 4 : Nat) : Int) = 16 := rfl
theorem own_p3 : ((2 ^ 3 : Nat) : Int) = 8 := rfl
theorem own_p8 : ((2 ^ 8 : Nat) : Int) = 256 := rfl
theorem own_m31 (b : Int32) : (b &&& 31).toInt = b.toInt % 32 := (c_mask b 31 5 (by decide) (by decide)).trans (by rw [own_p5])
theorem own_m15 (b : Int32) : (b &&& 15).toInt = b.toInt % 16 := (c_mask b 15 4 (by decide) (by decide)).trans (by rw [own_p4])
theorem own_m7 (b : Int32) : (b &&& 7).toInt = b.toInt % 8 := (c_mask b 7 3 (by decide) (by decide)).trans (by rw [own_p3])
theorem own_m63 (b : Int32) : (b &&& 63).toInt = b.toInt % 64 := (c_mask b 63 6 (by decide) (by decide)).trans (by rw [own_p6])
theorem own_m255 (b : Int32) : (b &&& 255).toInt = b.toInt % 256 := (c_mask b 255 8 (by decide) (by decide)).trans (by rw [own_p8])
theorem own_push (acc b : Int32) (h : 0 ≤ acc.toInt ∧ acc.toInt < 1048576) (g : 128 ≤ b.toInt ∧ b.toInt ≤ 191) : ((acc <<< ((6 : Int32) &&& 31)) ||| (b &&& 63)).toInt = acc.toInt * 64 + (b.toInt - 128) := by
  have e1 := c_ishl acc 6 6 rfl
  rw [own_p6] at e1
  have e2 := own_m63 b
  have r1 := rng32 (acc <<< ((6 : Int32) &&& 31))
  have r2 := rng32 ((acc <<< ((6 : Int32) &&& 31)) ||| (b &&& 63))
  have f1 : (acc <<< ((6 : Int32) &&& 31)).toInt = acc.toInt * 64 := by omega
  have e3 := c_or (acc <<< ((6 : Int32) &&& 31)) (b &&& 63) 6 (by decide) 64 rfl (by omega) (by omega) (by omega)
  omega
theorem own_byte (z : Int32) (h : 0 ≤ z.toInt ∧ z.toInt ≤ 255) : z.toInt8.toInt32.toInt8.toInt32 &&& 255 = z := by
  have e1 := c_i2b z
  have e2 := c_i2b z.toInt8.toInt32
  apply Int32.toInt_inj.mp
  rw [own_m255]
  omega
theorem own_or (A u : Int32) (k : Nat) (hk : k ≤ 31) (P : Int) (hP : P = (2 ^ k : Nat)) (h1 : A.toInt % P = 0) (h2 : 0 ≤ A.toInt ∧ A.toInt ≤ 255) (h3 : 0 ≤ u.toInt ∧ u.toInt < P) (h4 : P ≤ 256) : (A ||| u).toInt = A.toInt + u.toInt := by
  have e := c_or A u k hk P hP h1 h3.1 h3.2
  have r := rng32 (A ||| u)
  omega
def own_cs (b : Int32) : Int32 := if b < 128 then 1 else if ¬ (b < 194) ∧ ¬ (244 < b) then 1 else 0
theorem own_cs1 (b : Int32) (h : b.toInt ≤ 127 ∨ (194 ≤ b.toInt ∧ b.toInt ≤ 244)) : own_cs b = 1 := by
  unfold own_cs
  split
  · rfl
  · rename_i g
    have g' : ¬ (b.toInt < 128) := own_nlt32' g
    rw [if_pos ⟨own_nlt32 (by show ¬ (b.toInt < 194); omega), own_nlt32 (by show ¬ (244 < b.toInt); omega)⟩]
theorem own_cs0 (b : Int32) (h : (128 ≤ b.toInt ∧ b.toInt ≤ 193) ∨ 245 ≤ b.toInt) : own_cs b = 0 := by
  unfold own_cs
  rw [if_neg (own_nlt32 (by show ¬ (b.toInt < 128); omega)), if_neg]
  rintro ⟨g1, g2⟩
  have g1' : ¬ (b.toInt < 194) := own_nlt32' g1
  have g2' : ¬ (244 < b.toInt) := own_nlt32' g2
  omega
theorem own_b255 (x : Int32) : 0 ≤ (x &&& 255).toInt ∧ (x &&& 255).toInt ≤ 255 := c_and x 255 (by decide)
set_option maxRecDepth 65536 in
set_option maxHeartbeats 40000000 in
theorem rm_min (l : Launch) (Z : State) (a0 : Array Value) (hw : ∀ d ∈ tables_1, d.before a0 Z = true) (p1 p2 : Int32) (h0 : Heap)  (cs : List Jvm.Cond) :
    OwnCtr l Z (⟨"java/lang/Math", "min", "(II)I"⟩ : MethodName) jdk_29_method_69_code 2 (some .int) rmz #[(.int p1), (.int p2)] h0 [] (QI (own_min p1 p2) h0) cs := by
  refine ow_ctr pn_3 hw (Ls := #[.val (.int p1), .val (.int p2)]) (fun m => by first | (simp [entryFrame, mkF, argsToLocals, Value.category]; done) | rfl) ?_
  intro p e s m below meth c T0 C A0
  refine ow_iloadN C A0 d3_0 rfl rfl ?_
  refine ow_iloadN C A0 d3_1 rfl rfl ?_
  refine ow_icmp_gt C A0 d3_2 (by decide) (pcY := 9) (by decide) (pcN := 5) rfl (fun hc2 => ?_) (fun hc2 => ?_)
  · skip
    refine ow_iloadN C A0 d3_9 rfl rfl ?_
    refine ow_ireturn C A0 (t := .int) rfl rfl (by simp) d3_10 (by decide) (by decide) ?_
    exact ⟨by simp [own_min, hc2], rfl⟩
  · skip
    refine ow_iloadN C A0 d3_5 rfl rfl ?_
    refine ow_goto C A0 d3_6 (by decide) (pc' := 10) (by decide) ?_
    refine ow_ireturn C A0 (t := .int) rfl rfl (by simp) d3_10 (by decide) (by decide) ?_
    exact ⟨by simp [own_min, hc2], rfl⟩
set_option maxRecDepth 65536 in
set_option maxHeartbeats 40000000 in
theorem rm_cpN1 (l : Launch) (Z : State) (a0 : Array Value) (hw : ∀ d ∈ tables_1, d.before a0 Z = true) (a : Addr) (kk : ClassId) (x0 b0 : Int32) (y1 : Value) (y2 : Value) (y3 : Value) (h0 : Heap) (Va : Arv Z h0 a kk .byte (4 : Int32) [(.int x0), y1, y2, y3] (.int (0 : Int32))) (e0 : x0 &&& 255 = b0) (hb0 : 128 ≤ b0.toInt ∧ b0.toInt ≤ 193) (cs : List Jvm.Cond) :
    OwnCtr l Z (⟨"com/example/canonwire/canonwire/Utf8", "codePointAt", "([BII)I"⟩ : MethodName) prog_47_method_2_code 11 (some .int) rmc #[(.ref a), (.int (0 : Int32)), (.int (4 : Int32))] h0 [] (QI (-1) h0) cs := by
  refine ow_ctr pn_2 hw (Ls := #[.val (.ref a), .val (.int (0 : Int32)), .val (.int (4 : Int32)), .unset, .unset, .unset, .unset, .unset, .unset, .unset, .unset]) (fun m => by first | (simp [entryFrame, mkF, argsToLocals, Value.category]; done) | rfl) ?_
  intro p e s m below meth c T0 C A0
  have hl0 := hb0.1
  have hu0 := hb0.2
  refine ow_aloadN C A0 d2_0 rfl rfl rfl ?_
  refine ow_iloadN C A0 d2_1 rfl rfl ?_
  refine ow_baload C A0 Va ⟨by decide, by decide⟩ (v := (.int x0)) rfl d2_2 rfl ?_
  refine ow_sipush C A0 d2_3 (v := 255) rfl rfl ?_
  refine ow_iand C A0 d2_6 rfl ?_
  rw [e0]
  refine ow_istoreN C A0 d2_7 (Ls' := #[.val (.ref a), .val (.int (0 : Int32)), .val (.int (4 : Int32)), .val (.int b0), .unset, .unset, .unset, .unset, .unset, .unset, .unset]) rfl rfl ?_
  refine ow_iloadN C A0 d2_8 rfl rfl ?_
  refine ow_sipush C A0 d2_9 (v := 128) rfl rfl ?_
  refine ow_icmp_ge C A0 d2_12 (by decide) (pcY := 17) (by decide) (pcN := 15) rfl (fun _ => ?_) (fun z => absurd z (own_nlt32 (by show ¬ (b0.toInt < 128); omega)))
  refine ow_iloadN C A0 d2_17 rfl rfl ?_
  refine ow_sipush C A0 d2_18 (v := 194) rfl rfl ?_
  refine ow_icmp_lt C A0 d2_21 (by decide) (pcY := 43) (by decide) (pcN := 24) rfl (fun _ => ?_) (fun z => absurd (own_lt32 (by show b0.toInt < 194; omega)) z)
  refine ow_iloadN C A0 d2_43 rfl rfl ?_
  refine ow_sipush C A0 d2_44 (v := 224) rfl rfl ?_
  refine ow_icmp_lt C A0 d2_47 (by decide) (pcY := 69) (by decide) (pcN := 50) rfl (fun _ => ?_) (fun z => absurd (own_lt32 (by show b0.toInt < 224; omega)) z)
  refine ow_iloadN C A0 d2_69 rfl rfl ?_
  refine ow_sipush C A0 d2_70 (v := 240) rfl rfl ?_
  refine ow_icmp_lt C A0 d2_73 (by decide) (pcY := 95) (by decide) (pcN := 76) rfl (fun _ => ?_) (fun z => absurd (own_lt32 (by show b0.toInt < 240; omega)) z)
  refine ow_iconst C A0 d2_95 (v := (-1)) rfl rfl ?_
  refine ow_ireturn C A0 (t := .int) rfl rfl (by simp) d2_96 (by decide) (by decide) ?_
  exact ⟨rfl, rfl⟩
set_option maxRecDepth 65536 in
set_option maxHeartbeats 40000000 in
theorem rm_cpN2 (l : Launch) (Z : State) (a0 : Array Value) (hw : ∀ d ∈ tables_1, d.before a0 Z = true) (a : Addr) (kk : ClassId) (x0 b0 : Int32) (y1 : Value) (y2 : Value) (y3 : Value) (h0 : Heap) (Va : Arv Z h0 a kk .byte (4 : Int32) [(.int x0), y1, y2, y3] (.int (0 : Int32))) (e0 : x0 &&& 255 = b0) (hb0 : 245 ≤ b0.toInt ∧ b0.toInt ≤ 255) (cs : List Jvm.Cond) :
    OwnCtr l Z (⟨"com/example/canonwire/canonwire/Utf8", "codePointAt", "([BII)I"⟩ : MethodName) prog_47_method_2_code 11 (some .int) rmc #[(.ref a), (.int (0 : Int32)), (.int (4 : Int32))] h0 [] (QI (-1) h0) cs := by
  refine ow_ctr pn_2 hw (Ls := #[.val (.ref a), .val (.int (0 : Int32)), .val (.int (4 : Int32)), .unset, .unset, .unset, .unset, .unset, .unset, .unset, .unset]) (fun m => by first | (simp [entryFrame, mkF, argsToLocals, Value.category]; done) | rfl) ?_
  intro p e s m below meth c T0 C A0
  have hl0 := hb0.1
  have hu0 := hb0.2
  refine ow_aloadN C A0 d2_0 rfl rfl rfl ?_
  refine ow_iloadN C A0 d2_1 rfl rfl ?_
  refine ow_baload C A0 Va ⟨by decide, by decide⟩ (v := (.int x0)) rfl d2_2 rfl ?_
  refine ow_sipush C A0 d2_3 (v := 255) rfl rfl ?_
  refine ow_iand C A0 d2_6 rfl ?_
  rw [e0]
  refine ow_istoreN C A0 d2_7 (Ls' := #[.val (.ref a), .val (.int (0 : Int32)), .val (.int (4 : Int32)), .val (.int b0), .unset, .unset, .unset, .unset, .unset, .unset, .unset]) rfl rfl ?_
  refine ow_iloadN C A0 d2_8 rfl rfl ?_
  refine ow_sipush C A0 d2_9 (v := 128) rfl rfl ?_
  refine ow_icmp_ge C A0 d2_12 (by decide) (pcY := 17) (by decide) (pcN := 15) rfl (fun _ => ?_) (fun z => absurd z (own_nlt32 (by show ¬ (b0.toInt < 128); omega)))
  refine ow_iloadN C A0 d2_17 rfl rfl ?_
  refine ow_sipush C A0 d2_18 (v := 194) rfl rfl ?_
  refine ow_icmp_lt C A0 d2_21 (by decide) (pcY := 43) (by decide) (pcN := 24) rfl (fun z => absurd z (own_nlt32 (by show ¬ (b0.toInt < 194); omega))) (fun _ => ?_)
  refine ow_iloadN C A0 d2_24 rfl rfl ?_
  refine ow_sipush C A0 d2_25 (v := 223) rfl rfl ?_
  refine ow_icmp_gt C A0 d2_28 (by decide) (pcY := 43) (by decide) (pcN := 31) rfl (fun _ => ?_) (fun z => absurd (own_lt32 (by show 223 < b0.toInt; omega)) z)
  refine ow_iloadN C A0 d2_43 rfl rfl ?_
  refine ow_sipush C A0 d2_44 (v := 224) rfl rfl ?_
  refine ow_icmp_lt C A0 d2_47 (by decide) (pcY := 69) (by decide) (pcN := 50) rfl (fun z => absurd z (own_nlt32 (by show ¬ (b0.toInt < 224); omega))) (fun _ => ?_)
  refine ow_iloadN C A0 d2_50 rfl rfl ?_
  refine ow_sipush C A0 d2_51 (v := 239) rfl rfl ?_
  refine ow_icmp_gt C A0 d2_54 (by decide) (pcY := 69) (by decide) (pcN := 57) rfl (fun _ => ?_) (fun z => absurd (own_lt32 (by show 239 < b0.toInt; omega)) z)
  refine ow_iloadN C A0 d2_69 rfl rfl ?_
  refine ow_sipush C A0 d2_70 (v := 240) rfl rfl ?_
  refine ow_icmp_lt C A0 d2_73 (by decide) (pcY := 95) (by decide) (pcN := 76) rfl (fun z => absurd z (own_nlt32 (by show ¬ (b0.toInt < 240); omega))) (fun _ => ?_)
  refine ow_iloadN C A0 d2_76 rfl rfl ?_
  refine ow_sipush C A0 d2_77 (v := 244) rfl rfl ?_
  refine ow_icmp_gt C A0 d2_80 (by decide) (pcY := 95) (by decide) (pcN := 83) rfl (fun _ => ?_) (fun z => absurd (own_lt32 (by show 244 < b0.toInt; omega)) z)
  refine ow_iconst C A0 d2_95 (v := (-1)) rfl rfl ?_
  refine ow_ireturn C A0 (t := .int) rfl rfl (by simp) d2_96 (by decide) (by decide) ?_
  exact ⟨rfl, rfl⟩
set_option maxRecDepth 65536 in
set_option maxHeartbeats 40000000 in
theorem rm_cpA (l : Launch) (Z : State) (a0 : Array Value) (hw : ∀ d ∈ tables_1, d.before a0 Z = true) (a : Addr) (kk : ClassId) (x0 b0 : Int32) (y1 : Value) (y2 : Value) (y3 : Value) (h0 : Heap) (Va : Arv Z h0 a kk .byte (4 : Int32) [(.int x0), y1, y2, y3] (.int (0 : Int32))) (e0 : x0 &&& 255 = b0) (hb0 : 0 ≤ b0.toInt ∧ b0.toInt ≤ 127) (cs : List Jvm.Cond) :
    OwnCtr l Z (⟨"com/example/canonwire/canonwire/Utf8", "codePointAt", "([BII)I"⟩ : MethodName) prog_47_method_2_code 11 (some .int) rmc #[(.ref a), (.int (0 : Int32)), (.int (4 : Int32))] h0 [] (QP 0 1114111 h0) cs := by
  refine ow_ctr pn_2 hw (Ls := #[.val (.ref a), .val (.int (0 : Int32)), .val (.int (4 : Int32)), .unset, .unset, .unset, .unset, .unset, .unset, .unset, .unset]) (fun m => by first | (simp [entryFrame, mkF, argsToLocals, Value.category]; done) | rfl) ?_
  intro p e s m below meth c T0 C A0
  have hl0 := hb0.1
  have hu0 := hb0.2
  refine ow_aloadN C A0 d2_0 rfl rfl rfl ?_
  refine ow_iloadN C A0 d2_1 rfl rfl ?_
  refine ow_baload C A0 Va ⟨by decide, by decide⟩ (v := (.int x0)) rfl d2_2 rfl ?_
  refine ow_sipush C A0 d2_3 (v := 255) rfl rfl ?_
  refine ow_iand C A0 d2_6 rfl ?_
  rw [e0]
  refine ow_istoreN C A0 d2_7 (Ls' := #[.val (.ref a), .val (.int (0 : Int32)), .val (.int (4 : Int32)), .val (.int b0), .unset, .unset, .unset, .unset, .unset, .unset, .unset]) rfl rfl ?_
  refine ow_iloadN C A0 d2_8 rfl rfl ?_
  refine ow_sipush C A0 d2_9 (v := 128) rfl rfl ?_
  refine ow_icmp_ge C A0 d2_12 (by decide) (pcY := 17) (by decide) (pcN := 15) rfl (fun z => absurd (own_lt32 (by show b0.toInt < 128; omega)) z) (fun _ => ?_)
  refine ow_iloadN C A0 d2_15 rfl rfl ?_
  refine ow_ireturn C A0 (t := .int) rfl rfl (by simp) d2_16 (by decide) (by decide) ?_
  exact ⟨rfl, _, rfl, by omega, by omega⟩
set_option maxRecDepth 65536 in
set_option maxHeartbeats 40000000 in
theorem rm_cpE1 (l : Launch) (Z : State) (a0 : Array Value) (hw : ∀ d ∈ tables_1, d.before a0 Z = true) (a : Addr) (kk : ClassId) (x0 b0 : Int32) (x1 : Int32) (x2 : Int32) (y3 : Value) (h0 : Heap) (Va : Arv Z h0 a kk .byte (4 : Int32) [(.int x0), (.int x1), (.int x2), y3] (.int (0 : Int32))) (e0 : x0 &&& 255 = b0) (e1 : x1 &&& 255 = 160) (e2 : x2 &&& 255 = 128) (hb0 : 224 ≤ b0.toInt ∧ b0.toInt ≤ 224) (cs : List Jvm.Cond) :
    OwnCtr l Z (⟨"com/example/canonwire/canonwire/Utf8", "codePointAt", "([BII)I"⟩ : MethodName) prog_47_method_2_code 11 (some .int) rmc #[(.ref a), (.int (0 : Int32)), (.int (4 : Int32))] h0 [] (QP 0 1114111 h0) cs := by
  refine ow_ctr pn_2 hw (Ls := #[.val (.ref a), .val (.int (0 : Int32)), .val (.int (4 : Int32)), .unset, .unset, .unset, .unset, .unset, .unset, .unset, .unset]) (fun m => by first | (simp [entryFrame, mkF, argsToLocals, Value.category]; done) | rfl) ?_
  intro p e s m below meth c T0 C A0
  have hl0 := hb0.1
  have hu0 := hb0.2
  refine ow_aloadN C A0 d2_0 rfl rfl rfl ?_
  refine ow_iloadN C A0 d2_1 rfl rfl ?_
  refine ow_baload C A0 Va ⟨by decide, by decide⟩ (v := (.int x0)) rfl d2_2 rfl ?_
  refine ow_sipush C A0 d2_3 (v := 255) rfl rfl ?_
  refine ow_iand C A0 d2_6 rfl ?_
  rw [e0]
  refine ow_istoreN C A0 d2_7 (Ls' := #[.val (.ref a), .val (.int (0 : Int32)), .val (.int (4 : Int32)), .val (.int b0), .unset, .unset, .unset, .unset, .unset, .unset, .unset]) rfl rfl ?_
  refine ow_iloadN C A0 d2_8 rfl rfl ?_
  refine ow_sipush C A0 d2_9 (v := 128) rfl rfl ?_
  refine ow_icmp_ge C A0 d2_12 (by decide) (pcY := 17) (by decide) (pcN := 15) rfl (fun _ => ?_) (fun z => absurd z (own_nlt32 (by show ¬ (b0.toInt < 128); omega)))
  refine ow_iloadN C A0 d2_17 rfl rfl ?_
  refine ow_sipush C A0 d2_18 (v := 194) rfl rfl ?_
  refine ow_icmp_lt C A0 d2_21 (by decide) (pcY := 43) (by decide) (pcN := 24) rfl (fun z => absurd z (own_nlt32 (by show ¬ (b0.toInt < 194); omega))) (fun _ => ?_)
  refine ow_iloadN C A0 d2_24 rfl rfl ?_
  refine ow_sipush C A0 d2_25 (v := 223) rfl rfl ?_
  refine ow_icmp_gt C A0 d2_28 (by decide) (pcY := 43) (by decide) (pcN := 31) rfl (fun _ => ?_) (fun z => absurd (own_lt32 (by show 223 < b0.toInt; omega)) z)
  refine ow_iloadN C A0 d2_43 rfl rfl ?_
  refine ow_sipush C A0 d2_44 (v := 224) rfl rfl ?_
  refine ow_icmp_lt C A0 d2_47 (by decide) (pcY := 69) (by decide) (pcN := 50) rfl (fun z => absurd z (own_nlt32 (by show ¬ (b0.toInt < 224); omega))) (fun _ => ?_)
  refine ow_iloadN C A0 d2_50 rfl rfl ?_
  refine ow_sipush C A0 d2_51 (v := 239) rfl rfl ?_
  refine ow_icmp_gt C A0 d2_54 (by decide) (pcY := 69) (by decide) (pcN := 57) rfl (fun z => absurd z (own_nlt32 (by show ¬ (239 < b0.toInt); omega))) (fun _ => ?_)
  refine ow_iconst C A0 d2_57 (v := 2) rfl rfl ?_
  refine ow_istore C A0 d2_58 (Ls' := #[.val (.ref a), .val (.int (0 : Int32)), .val (.int (4 : Int32)), .val (.int b0), .val (.int (2 : Int32)), .unset, .unset, .unset, .unset, .unset, .unset]) rfl rfl ?_
  refine ow_iloadN C A0 d2_60 rfl rfl ?_
  refine ow_bipush C A0 d2_61 (v := 15) rfl rfl ?_
  refine ow_iand C A0 d2_63 rfl ?_
  refine ow_istore C A0 d2_64 (Ls' := #[.val (.ref a), .val (.int (0 : Int32)), .val (.int (4 : Int32)), .val (.int b0), .val (.int (2 : Int32)), .val (.int (b0 &&& (15 : Int32))), .unset, .unset, .unset, .unset, .unset]) rfl rfl ?_
  refine ow_goto C A0 d2_66 (by decide) (pc' := 97) (by decide) ?_
  refine ow_iloadN C A0 d2_97 rfl rfl ?_
  refine ow_sipush C A0 d2_98 (v := 224) rfl rfl ?_
  refine ow_icmp_ne C A0 d2_101 (by decide) (pcY := 110) (by decide) (pcN := 104) rfl (fun z => absurd (own_eq32 (by show b0.toInt = 224; omega)) z) (fun _ => ?_)
  refine ow_sipush C A0 d2_104 (v := 160) rfl rfl ?_
  refine ow_goto C A0 d2_107 (by decide) (pc' := 126) (by decide) ?_
  refine ow_istore C A0 d2_126 (Ls' := #[.val (.ref a), .val (.int (0 : Int32)), .val (.int (4 : Int32)), .val (.int b0), .val (.int (2 : Int32)), .val (.int (b0 &&& (15 : Int32))), .val (.int (160 : Int32)), .unset, .unset, .unset, .unset]) rfl rfl ?_
  refine ow_iloadN C A0 d2_128 rfl rfl ?_
  refine ow_sipush C A0 d2_129 (v := 237) rfl rfl ?_
  refine ow_icmp_ne C A0 d2_132 (by decide) (pcY := 141) (by decide) (pcN := 135) rfl (fun _ => ?_) (fun z => absurd z (own_ne32 (by show ¬ (b0.toInt = 237); omega)))
  refine ow_iloadN C A0 d2_141 rfl rfl ?_
  refine ow_sipush C A0 d2_142 (v := 244) rfl rfl ?_
  refine ow_icmp_ne C A0 d2_145 (by decide) (pcY := 154) (by decide) (pcN := 148) rfl (fun _ => ?_) (fun z => absurd z (own_ne32 (by show ¬ (b0.toInt = 244); omega)))
  refine ow_sipush C A0 d2_154 (v := 191) rfl rfl ?_
  refine ow_istore C A0 d2_157 (Ls' := #[.val (.ref a), .val (.int (0 : Int32)), .val (.int (4 : Int32)), .val (.int b0), .val (.int (2 : Int32)), .val (.int (b0 &&& (15 : Int32))), .val (.int (160 : Int32)), .val (.int (191 : Int32)), .unset, .unset, .unset]) rfl rfl ?_
  refine ow_iloadN C A0 d2_159 rfl rfl ?_
  refine ow_aloadN C A0 d2_160 rfl rfl rfl ?_
  refine ow_alen C A0 Va d2_161 rfl ?_
  refine ow_callS C A0 (argsL := [(.int (4 : Int32)), (.int (4 : Int32))]) (rm_min l Z a0 hw (4 : Int32) (4 : Int32) h0 []) tw_8 tw_9 tw_10 tw_11 (by decide) all0 (by decide) (by decide) (ck' := 0) (sk' := 0) rfl rfl (by decide) (by decide) rfl (lenOf pd_0 rfl) (S := []) rfl (W := 0) (Nat.le_of_eq rfl) d2_162 rfl ?_
  intro T1 v1 K1 hQ1 A1
  obtain ⟨rfl, ee1⟩ := hQ1
  rw [ee1] at A1 K1
  show OwnWP _ _ _ _ _ _ _ _ _ T1 (mkF m 165 #[.val (.ref a), .val (.int (0 : Int32)), .val (.int (4 : Int32)), .val (.int b0), .val (.int (2 : Int32)), .val (.int (b0 &&& (15 : Int32))), .val (.int (160 : Int32)), .val (.int (191 : Int32)), .unset, .unset, .unset] [(.int (4 : Int32))])
  refine ow_istore C A1 d2_165 (Ls' := #[.val (.ref a), .val (.int (0 : Int32)), .val (.int (4 : Int32)), .val (.int b0), .val (.int (2 : Int32)), .val (.int (b0 &&& (15 : Int32))), .val (.int (160 : Int32)), .val (.int (191 : Int32)), .val (.int (4 : Int32)), .unset, .unset]) rfl rfl ?_
  refine ow_iconst C A1 d2_167 (v := 1) rfl rfl ?_
  refine ow_istore C A1 d2_168 (Ls' := #[.val (.ref a), .val (.int (0 : Int32)), .val (.int (4 : Int32)), .val (.int b0), .val (.int (2 : Int32)), .val (.int (b0 &&& (15 : Int32))), .val (.int (160 : Int32)), .val (.int (191 : Int32)), .val (.int (4 : Int32)), .val (.int (1 : Int32)), .unset]) rfl rfl ?_
  refine ow_iload C A1 d2_170 rfl rfl ?_
  refine ow_iload C A1 d2_172 rfl rfl ?_
  refine ow_icmp_gt C A1 d2_174 (by decide) (pcY := 247) (by decide) (pcN := 177) rfl (fun z => absurd z (by decide)) (fun _ => ?_)
  refine ow_iloadN C A1 d2_177 rfl rfl ?_
  refine ow_iload C A1 d2_178 rfl rfl ?_
  refine ow_iadd C A1 d2_180 rfl ?_
  show OwnWP _ _ _ _ _ _ _ _ _ T1 (mkF m 181 #[.val (.ref a), .val (.int (0 : Int32)), .val (.int (4 : Int32)), .val (.int b0), .val (.int (2 : Int32)), .val (.int (b0 &&& (15 : Int32))), .val (.int (160 : Int32)), .val (.int (191 : Int32)), .val (.int (4 : Int32)), .val (.int (1 : Int32)), .unset] [(.int (1 : Int32))])
  refine ow_iload C A1 d2_181 rfl rfl ?_
  refine ow_icmp_ge C A1 d2_183 (by decide) (pcY := 199) (by decide) (pcN := 186) rfl (fun z => absurd (by decide) z) (fun _ => ?_)
  refine ow_aloadN C A1 d2_186 rfl rfl rfl ?_
  refine ow_iloadN C A1 d2_187 rfl rfl ?_
  refine ow_iload C A1 d2_188 rfl rfl ?_
  refine ow_iadd C A1 d2_190 rfl ?_
  show OwnWP _ _ _ _ _ _ _ _ _ T1 (mkF m 191 #[.val (.ref a), .val (.int (0 : Int32)), .val (.int (4 : Int32)), .val (.int b0), .val (.int (2 : Int32)), .val (.int (b0 &&& (15 : Int32))), .val (.int (160 : Int32)), .val (.int (191 : Int32)), .val (.int (4 : Int32)), .val (.int (1 : Int32)), .unset] [(.int (1 : Int32)), (.ref a)])
  refine ow_baload C A1 Va ⟨by decide, by decide⟩ (v := (.int x1)) rfl d2_191 rfl ?_
  refine ow_sipush C A1 d2_192 (v := 255) rfl rfl ?_
  refine ow_iand C A1 d2_195 rfl ?_
  rw [e1]
  refine ow_goto C A1 d2_196 (by decide) (pc' := 200) (by decide) ?_
  refine ow_istore C A1 d2_200 (Ls' := #[.val (.ref a), .val (.int (0 : Int32)), .val (.int (4 : Int32)), .val (.int b0), .val (.int (2 : Int32)), .val (.int (b0 &&& (15 : Int32))), .val (.int (160 : Int32)), .val (.int (191 : Int32)), .val (.int (4 : Int32)), .val (.int (1 : Int32)), .val (.int (160 : Int32))]) rfl rfl ?_
  refine ow_iload C A1 d2_202 rfl rfl ?_
  refine ow_iload C A1 d2_204 rfl rfl ?_
  refine ow_icmp_lt C A1 d2_206 (by decide) (pcY := 216) (by decide) (pcN := 209) rfl (fun z => absurd z (by decide)) (fun _ => ?_)
  refine ow_iload C A1 d2_209 rfl rfl ?_
  refine ow_iload C A1 d2_211 rfl rfl ?_
  refine ow_icmp_le C A1 d2_213 (by decide) (pcY := 218) (by decide) (pcN := 216) rfl (fun _ => ?_) (fun z => absurd z (by decide))
  refine ow_iload C A1 d2_218 rfl rfl ?_
  refine ow_bipush C A1 d2_220 (v := 6) rfl rfl ?_
  refine ow_ishl C A1 d2_222 rfl ?_
  refine ow_iload C A1 d2_223 rfl rfl ?_
  refine ow_bipush C A1 d2_225 (v := 63) rfl rfl ?_
  refine ow_iand C A1 d2_227 rfl ?_
  show OwnWP _ _ _ _ _ _ _ _ _ T1 (mkF m 228 #[.val (.ref a), .val (.int (0 : Int32)), .val (.int (4 : Int32)), .val (.int b0), .val (.int (2 : Int32)), .val (.int (b0 &&& (15 : Int32))), .val (.int (160 : Int32)), .val (.int (191 : Int32)), .val (.int (4 : Int32)), .val (.int (1 : Int32)), .val (.int (160 : Int32))] [(.int (32 : Int32)), (.int ((b0 &&& (15 : Int32)) <<< ((6 : Int32) &&& 31)))])
  refine ow_ior C A1 d2_228 rfl ?_
  refine ow_istore C A1 d2_229 (Ls' := #[.val (.ref a), .val (.int (0 : Int32)), .val (.int (4 : Int32)), .val (.int b0), .val (.int (2 : Int32)), .val (.int (((b0 &&& (15 : Int32)) <<< ((6 : Int32) &&& 31)) ||| (32 : Int32))), .val (.int (160 : Int32)), .val (.int (191 : Int32)), .val (.int (4 : Int32)), .val (.int (1 : Int32)), .val (.int (160 : Int32))]) rfl rfl ?_
  refine ow_sipush C A1 d2_231 (v := 128) rfl rfl ?_
  refine ow_istore C A1 d2_234 (Ls' := #[.val (.ref a), .val (.int (0 : Int32)), .val (.int (4 : Int32)), .val (.int b0), .val (.int (2 : Int32)), .val (.int (((b0 &&& (15 : Int32)) <<< ((6 : Int32) &&& 31)) ||| (32 : Int32))), .val (.int (128 : Int32)), .val (.int (191 : Int32)), .val (.int (4 : Int32)), .val (.int (1 : Int32)), .val (.int (160 : Int32))]) rfl rfl ?_
  refine ow_sipush C A1 d2_236 (v := 191) rfl rfl ?_
  refine ow_istore C A1 d2_239 (Ls' := #[.val (.ref a), .val (.int (0 : Int32)), .val (.int (4 : Int32)), .val (.int b0), .val (.int (2 : Int32)), .val (.int (((b0 &&& (15 : Int32)) <<< ((6 : Int32) &&& 31)) ||| (32 : Int32))), .val (.int (128 : Int32)), .val (.int (191 : Int32)), .val (.int (4 : Int32)), .val (.int (1 : Int32)), .val (.int (160 : Int32))]) rfl rfl ?_
  refine ow_iinc C A1 d2_241 rfl (Ls' := #[.val (.ref a), .val (.int (0 : Int32)), .val (.int (4 : Int32)), .val (.int b0), .val (.int (2 : Int32)), .val (.int (((b0 &&& (15 : Int32)) <<< ((6 : Int32) &&& 31)) ||| (32 : Int32))), .val (.int (128 : Int32)), .val (.int (191 : Int32)), .val (.int (4 : Int32)), .val (.int (2 : Int32)), .val (.int (160 : Int32))]) rfl rfl ?_
  refine ow_goto C A1 d2_244 (by decide) (pc' := 170) (by decide) ?_
  refine ow_iload C A1 d2_170 rfl rfl ?_
  refine ow_iload C A1 d2_172 rfl rfl ?_
  refine ow_icmp_gt C A1 d2_174 (by decide) (pcY := 247) (by decide) (pcN := 177) rfl (fun z => absurd z (by decide)) (fun _ => ?_)
  refine ow_iloadN C A1 d2_177 rfl rfl ?_
  refine ow_iload C A1 d2_178 rfl rfl ?_
  refine ow_iadd C A1 d2_180 rfl ?_
  show OwnWP _ _ _ _ _ _ _ _ _ T1 (mkF m 181 #[.val (.ref a), .val (.int (0 : Int32)), .val (.int (4 : Int32)), .val (.int b0), .val (.int (2 : Int32)), .val (.int (((b0 &&& (15 : Int32)) <<< ((6 : Int32) &&& 31)) ||| (32 : Int32))), .val (.int (128 : Int32)), .val (.int (191 : Int32)), .val (.int (4 : Int32)), .val (.int (2 : Int32)), .val (.int (160 : Int32))] [(.int (2 : Int32))])
  refine ow_iload C A1 d2_181 rfl rfl ?_
  refine ow_icmp_ge C A1 d2_183 (by decide) (pcY := 199) (by decide) (pcN := 186) rfl (fun z => absurd (by decide) z) (fun _ => ?_)
  refine ow_aloadN C A1 d2_186 rfl rfl rfl ?_
  refine ow_iloadN C A1 d2_187 rfl rfl ?_
  refine ow_iload C A1 d2_188 rfl rfl ?_
  refine ow_iadd C A1 d2_190 rfl ?_
  show OwnWP _ _ _ _ _ _ _ _ _ T1 (mkF m 191 #[.val (.ref a), .val (.int (0 : Int32)), .val (.int (4 : Int32)), .val (.int b0), .val (.int (2 : Int32)), .val (.int (((b0 &&& (15 : Int32)) <<< ((6 : Int32) &&& 31)) ||| (32 : Int32))), .val (.int (128 : Int32)), .val (.int (191 : Int32)), .val (.int (4 : Int32)), .val (.int (2 : Int32)), .val (.int (160 : Int32))] [(.int (2 : Int32)), (.ref a)])
  refine ow_baload C A1 Va ⟨by decide, by decide⟩ (v := (.int x2)) rfl d2_191 rfl ?_
  refine ow_sipush C A1 d2_192 (v := 255) rfl rfl ?_
  refine ow_iand C A1 d2_195 rfl ?_
  rw [e2]
  refine ow_goto C A1 d2_196 (by decide) (pc' := 200) (by decide) ?_
  refine ow_istore C A1 d2_200 (Ls' := #[.val (.ref a), .val (.int (0 : Int32)), .val (.int (4 : Int32)), .val (.int b0), .val (.int (2 : Int32)), .val (.int (((b0 &&& (15 : Int32)) <<< ((6 : Int32) &&& 31)) ||| (32 : Int32))), .val (.int (128 : Int32)), .val (.int (191 : Int32)), .val (.int (4 : Int32)), .val (.int (2 : Int32)), .val (.int (128 : Int32))]) rfl rfl ?_
  refine ow_iload C A1 d2_202 rfl rfl ?_
  refine ow_iload C A1 d2_204 rfl rfl ?_
  refine ow_icmp_lt C A1 d2_206 (by decide) (pcY := 216) (by decide) (pcN := 209) rfl (fun z => absurd z (by decide)) (fun _ => ?_)
  refine ow_iload C A1 d2_209 rfl rfl ?_
  refine ow_iload C A1 d2_211 rfl rfl ?_
  refine ow_icmp_le C A1 d2_213 (by decide) (pcY := 218) (by decide) (pcN := 216) rfl (fun _ => ?_) (fun z => absurd z (by decide))
  refine ow_iload C A1 d2_218 rfl rfl ?_
  refine ow_bipush C A1 d2_220 (v := 6) rfl rfl ?_
  refine ow_ishl C A1 d2_222 rfl ?_
  refine ow_iload C A1 d2_223 rfl rfl ?_
  refine ow_bipush C A1 d2_225 (v := 63) rfl rfl ?_
  refine ow_iand C A1 d2_227 rfl ?_
  show OwnWP _ _ _ _ _ _ _ _ _ T1 (mkF m 228 #[.val (.ref a), .val (.int (0 : Int32)), .val (.int (4 : Int32)), .val (.int b0), .val (.int (2 : Int32)), .val (.int (((b0 &&& (15 : Int32)) <<< ((6 : Int32) &&& 31)) ||| (32 : Int32))), .val (.int (128 : Int32)), .val (.int (191 : Int32)), .val (.int (4 : Int32)), .val (.int (2 : Int32)), .val (.int (128 : Int32))] [(.int (0 : Int32)), (.int ((((b0 &&& (15 : Int32)) <<< ((6 : Int32) &&& 31)) ||| (32 : Int32)) <<< ((6 : Int32) &&& 31)))])
  refine ow_ior C A1 d2_228 rfl ?_
  refine ow_istore C A1 d2_229 (Ls' := #[.val (.ref a), .val (.int (0 : Int32)), .val (.int (4 : Int32)), .val (.int b0), .val (.int (2 : Int32)), .val (.int (((((b0 &&& (15 : Int32)) <<< ((6 : Int32) &&& 31)) ||| (32 : Int32)) <<< ((6 : Int32) &&& 31)) ||| (0 : Int32))), .val (.int (128 : Int32)), .val (.int (191 : Int32)), .val (.int (4 : Int32)), .val (.int (2 : Int32)), .val (.int (128 : Int32))]) rfl rfl ?_
  refine ow_sipush C A1 d2_231 (v := 128) rfl rfl ?_
  refine ow_istore C A1 d2_234 (Ls' := #[.val (.ref a), .val (.int (0 : Int32)), .val (.int (4 : Int32)), .val (.int b0), .val (.int (2 : Int32)), .val (.int (((((b0 &&& (15 : Int32)) <<< ((6 : Int32) &&& 31)) ||| (32 : Int32)) <<< ((6 : Int32) &&& 31)) ||| (0 : Int32))), .val (.int (128 : Int32)), .val (.int (191 : Int32)), .val (.int (4 : Int32)), .val (.int (2 : Int32)), .val (.int (128 : Int32))]) rfl rfl ?_
  refine ow_sipush C A1 d2_236 (v := 191) rfl rfl ?_
  refine ow_istore C A1 d2_239 (Ls' := #[.val (.ref a), .val (.int (0 : Int32)), .val (.int (4 : Int32)), .val (.int b0), .val (.int (2 : Int32)), .val (.int (((((b0 &&& (15 : Int32)) <<< ((6 : Int32) &&& 31)) ||| (32 : Int32)) <<< ((6 : Int32) &&& 31)) ||| (0 : Int32))), .val (.int (128 : Int32)), .val (.int (191 : Int32)), .val (.int (4 : Int32)), .val (.int (2 : Int32)), .val (.int (128 : Int32))]) rfl rfl ?_
  refine ow_iinc C A1 d2_241 rfl (Ls' := #[.val (.ref a), .val (.int (0 : Int32)), .val (.int (4 : Int32)), .val (.int b0), .val (.int (2 : Int32)), .val (.int (((((b0 &&& (15 : Int32)) <<< ((6 : Int32) &&& 31)) ||| (32 : Int32)) <<< ((6 : Int32) &&& 31)) ||| (0 : Int32))), .val (.int (128 : Int32)), .val (.int (191 : Int32)), .val (.int (4 : Int32)), .val (.int (3 : Int32)), .val (.int (128 : Int32))]) rfl rfl ?_
  refine ow_goto C A1 d2_244 (by decide) (pc' := 170) (by decide) ?_
  refine ow_iload C A1 d2_170 rfl rfl ?_
  refine ow_iload C A1 d2_172 rfl rfl ?_
  refine ow_icmp_gt C A1 d2_174 (by decide) (pcY := 247) (by decide) (pcN := 177) rfl (fun _ => ?_) (fun z => absurd (by decide) z)
  refine ow_iload C A1 d2_247 rfl rfl ?_
  refine ow_ireturn C A1 (t := .int) rfl rfl (by simp) d2_249 (by decide) (by decide) ?_
  have z0 := own_m15 b0
  have z1 : (((b0 &&& (15 : Int32)) <<< ((6 : Int32) &&& 31)) ||| (32 : Int32)).toInt = (b0 &&& (15 : Int32)).toInt * 64 + 32 := own_push (b0 &&& (15 : Int32)) 160 (by omega) (by decide)
  have z2 : (((((b0 &&& (15 : Int32)) <<< ((6 : Int32) &&& 31)) ||| (32 : Int32)) <<< ((6 : Int32) &&& 31)) ||| (0 : Int32)).toInt = (((b0 &&& (15 : Int32)) <<< ((6 : Int32) &&& 31)) ||| (32 : Int32)).toInt * 64 + 0 := own_push (((b0 &&& (15 : Int32)) <<< ((6 : Int32) &&& 31)) ||| (32 : Int32)) 128 (by omega) (by decide)
  exact ⟨rfl, _, rfl, by omega, by omega⟩
set_option maxRecDepth 65536 in
set_option maxHeartbeats 40000000 in
theorem rm_cpE2 (l : Launch) (Z : State) (a0 : Array Value) (hw : ∀ d ∈ tables_1, d.before a0 Z = true) (a : Addr) (kk : ClassId) (x0 b0 : Int32) (x1 : Int32) (x2 : Int32) (x3 : Int32) (h0 : Heap) (Va : Arv Z h0 a kk .byte (4 : Int32) [(.int x0), (.int x1), (.int x2), (.int x3)] (.int (0 : Int32))) (e0 : x0 &&& 255 = b0) (e1 : x1 &&& 255 = 144) (e2 : x2 &&& 255 = 128) (e3 : x3 &&& 255 = 128) (hb0 : 240 ≤ b0.toInt ∧ b0.toInt ≤ 240) (cs : List Jvm.Cond) :
    OwnCtr l Z (⟨"com/example/canonwire/canonwire/Utf8", "codePointAt", "([BII)I"⟩ : MethodName) prog_47_method_2_code 11 (some .int) rmc #[(.ref a), (.int (0 : Int32)), (.int (4 : Int32))] h0 [] (QP 0 1114111 h0) cs := by
  refine ow_ctr pn_2 hw (Ls := #[.val (.ref a), .val (.int (0 : Int32)), .val (.int (4 : Int32)), .unset, .unset, .unset, .unset, .unset, .unset, .unset, .unset]) (fun m => by first | (simp [entryFrame, mkF, argsToLocals, Value.category]; done) | rfl) ?_
  intro p e s m below meth c T0 C A0
  have hl0 := hb0.1
  have hu0 := hb0.2
  refine ow_aloadN C A0 d2_0 rfl rfl rfl ?_
  refine ow_iloadN C A0 d2_1 rfl rfl ?_
  refine ow_baload C A0 Va ⟨by decide, by decide⟩ (v := (.int x0)) rfl d2_2 rfl ?_
  refine ow_sipush C A0 d2_3 (v := 255) rfl rfl ?_
  refine ow_iand C A0 d2_6 rfl ?_
  rw [e0]
  refine ow_istoreN C A0 d2_7 (Ls' := #[.val (.ref a), .val (.int (0 : Int32)), .val (.int (4 : Int32)), .val (.int b0), .unset, .unset, .unset, .unset, .unset, .unset, .unset]) rfl rfl ?_
  refine ow_iloadN C A0 d2_8 rfl rfl ?_
  refine ow_sipush C A0 d2_9 (v := 128) rfl rfl ?_
  refine ow_icmp_ge C A0 d2_12 (by decide) (pcY := 17) (by decide) (pcN := 15) rfl (fun _ => ?_) (fun z => absurd z (own_nlt32 (by show ¬ (b0.toInt < 128); omega)))
  refine ow_iloadN C A0 d2_17 rfl rfl ?_
  refine ow_sipush C A0 d2_18 (v := 194) rfl rfl ?_
  refine ow_icmp_lt C A0 d2_21 (by decide) (pcY := 43) (by decide) (pcN := 24) rfl (fun z => absurd z (own_nlt32 (by show ¬ (b0.toInt < 194); omega))) (fun _ => ?_)
  refine ow_iloadN C A0 d2_24 rfl rfl ?_
  refine ow_sipush C A0 d2_25 (v := 223) rfl rfl ?_
  refine ow_icmp_gt C A0 d2_28 (by decide) (pcY := 43) (by decide) (pcN := 31) rfl (fun _ => ?_) (fun z => absurd (own_lt32 (by show 223 < b0.toInt; omega)) z)
  refine ow_iloadN C A0 d2_43 rfl rfl ?_
  refine ow_sipush C A0 d2_44 (v := 224) rfl rfl ?_
  refine ow_icmp_lt C A0 d2_47 (by decide) (pcY := 69) (by decide) (pcN := 50) rfl (fun z => absurd z (own_nlt32 (by show ¬ (b0.toInt < 224); omega))) (fun _ => ?_)
  refine ow_iloadN C A0 d2_50 rfl rfl ?_
  refine ow_sipush C A0 d2_51 (v := 239) rfl rfl ?_
  refine ow_icmp_gt C A0 d2_54 (by decide) (pcY := 69) (by decide) (pcN := 57) rfl (fun _ => ?_) (fun z => absurd (own_lt32 (by show 239 < b0.toInt; omega)) z)
  refine ow_iloadN C A0 d2_69 rfl rfl ?_
  refine ow_sipush C A0 d2_70 (v := 240) rfl rfl ?_
  refine ow_icmp_lt C A0 d2_73 (by decide) (pcY := 95) (by decide) (pcN := 76) rfl (fun z => absurd z (own_nlt32 (by show ¬ (b0.toInt < 240); omega))) (fun _ => ?_)
  refine ow_iloadN C A0 d2_76 rfl rfl ?_
  refine ow_sipush C A0 d2_77 (v := 244) rfl rfl ?_
  refine ow_icmp_gt C A0 d2_80 (by decide) (pcY := 95) (by decide) (pcN := 83) rfl (fun z => absurd z (own_nlt32 (by show ¬ (244 < b0.toInt); omega))) (fun _ => ?_)
  refine ow_iconst C A0 d2_83 (v := 3) rfl rfl ?_
  refine ow_istore C A0 d2_84 (Ls' := #[.val (.ref a), .val (.int (0 : Int32)), .val (.int (4 : Int32)), .val (.int b0), .val (.int (3 : Int32)), .unset, .unset, .unset, .unset, .unset, .unset]) rfl rfl ?_
  refine ow_iloadN C A0 d2_86 rfl rfl ?_
  refine ow_bipush C A0 d2_87 (v := 7) rfl rfl ?_
  refine ow_iand C A0 d2_89 rfl ?_
  refine ow_istore C A0 d2_90 (Ls' := #[.val (.ref a), .val (.int (0 : Int32)), .val (.int (4 : Int32)), .val (.int b0), .val (.int (3 : Int32)), .val (.int (b0 &&& (7 : Int32))), .unset, .unset, .unset, .unset, .unset]) rfl rfl ?_
  refine ow_goto C A0 d2_92 (by decide) (pc' := 97) (by decide) ?_
  refine ow_iloadN C A0 d2_97 rfl rfl ?_
  refine ow_sipush C A0 d2_98 (v := 224) rfl rfl ?_
  refine ow_icmp_ne C A0 d2_101 (by decide) (pcY := 110) (by decide) (pcN := 104) rfl (fun _ => ?_) (fun z => absurd z (own_ne32 (by show ¬ (b0.toInt = 224); omega)))
  refine ow_iloadN C A0 d2_110 rfl rfl ?_
  refine ow_sipush C A0 d2_111 (v := 240) rfl rfl ?_
  refine ow_icmp_ne C A0 d2_114 (by decide) (pcY := 123) (by decide) (pcN := 117) rfl (fun z => absurd (own_eq32 (by show b0.toInt = 240; omega)) z) (fun _ => ?_)
  refine ow_sipush C A0 d2_117 (v := 144) rfl rfl ?_
  refine ow_goto C A0 d2_120 (by decide) (pc' := 126) (by decide) ?_
  refine ow_istore C A0 d2_126 (Ls' := #[.val (.ref a), .val (.int (0 : Int32)), .val (.int (4 : Int32)), .val (.int b0), .val (.int (3 : Int32)), .val (.int (b0 &&& (7 : Int32))), .val (.int (144 : Int32)), .unset, .unset, .unset, .unset]) rfl rfl ?_
  refine ow_iloadN C A0 d2_128 rfl rfl ?_
  refine ow_sipush C A0 d2_129 (v := 237) rfl rfl ?_
  refine ow_icmp_ne C A0 d2_132 (by decide) (pcY := 141) (by decide) (pcN := 135) rfl (fun _ => ?_) (fun z => absurd z (own_ne32 (by show ¬ (b0.toInt = 237); omega)))
  refine ow_iloadN C A0 d2_141 rfl rfl ?_
  refine ow_sipush C A0 d2_142 (v := 244) rfl rfl ?_
  refine ow_icmp_ne C A0 d2_145 (by decide) (pcY := 154) (by decide) (pcN := 148) rfl (fun _ => ?_) (fun z => absurd z (own_ne32 (by show ¬ (b0.toInt = 244); omega)))
  refine ow_sipush C A0 d2_154 (v := 191) rfl rfl ?_
  refine ow_istore C A0 d2_157 (Ls' := #[.val (.ref a), .val (.int (0 : Int32)), .val (.int (4 : Int32)), .val (.int b0), .val (.int (3 : Int32)), .val (.int (b0 &&& (7 : Int32))), .val (.int (144 : Int32)), .val (.int (191 : Int32)), .unset, .unset, .unset]) rfl rfl ?_
  refine ow_iloadN C A0 d2_159 rfl rfl ?_
  refine ow_aloadN C A0 d2_160 rfl rfl rfl ?_
  refine ow_alen C A0 Va d2_161 rfl ?_
  refine ow_callS C A0 (argsL := [(.int (4 : Int32)), (.int (4 : Int32))]) (rm_min l Z a0 hw (4 : Int32) (4 : Int32) h0 []) tw_8 tw_9 tw_10 tw_11 (by decide) all0 (by decide) (by decide) (ck' := 0) (sk' := 0) rfl rfl (by decide) (by decide) rfl (lenOf pd_0 rfl) (S := []) rfl (W := 0) (Nat.le_of_eq rfl) d2_162 rfl ?_
  intro T1 v1 K1 hQ1 A1
  obtain ⟨rfl, ee1⟩ := hQ1
  rw [ee1] at A1 K1
  show OwnWP _ _ _ _ _ _ _ _ _ T1 (mkF m 165 #[.val (.ref a), .val (.int (0 : Int32)), .val (.int (4 : Int32)), .val (.int b0), .val (.int (3 : Int32)), .val (.int (b0 &&& (7 : Int32))), .val (.int (144 : Int32)), .val (.int (191 : Int32)), .unset, .unset, .unset] [(.int (4 : Int32))])
  refine ow_istore C A1 d2_165 (Ls' := #[.val (.ref a), .val (.int (0 : Int32)), .val (.int (4 : Int32)), .val (.int b0), .val (.int (3 : Int32)), .val (.int (b0 &&& (7 : Int32))), .val (.int (144 : Int32)), .val (.int (191 : Int32)), .val (.int (4 : Int32)), .unset, .unset]) rfl rfl ?_
  refine ow_iconst C A1 d2_167 (v := 1) rfl rfl ?_
  refine ow_istore C A1 d2_168 (Ls' := #[.val (.ref a), .val (.int (0 : Int32)), .val (.int (4 : Int32)), .val (.int b0), .val (.int (3 : Int32)), .val (.int (b0 &&& (7 : Int32))), .val (.int (144 : Int32)), .val (.int (191 : Int32)), .val (.int (4 : Int32)), .val (.int (1 : Int32)), .unset]) rfl rfl ?_
  refine ow_iload C A1 d2_170 rfl rfl ?_
  refine ow_iload C A1 d2_172 rfl rfl ?_
  refine ow_icmp_gt C A1 d2_174 (by decide) (pcY := 247) (by decide) (pcN := 177) rfl (fun z => absurd z (by decide)) (fun _ => ?_)
  refine ow_iloadN C A1 d2_177 rfl rfl ?_
  refine ow_iload C A1 d2_178 rfl rfl ?_
  refine ow_iadd C A1 d2_180 rfl ?_
  show OwnWP _ _ _ _ _ _ _ _ _ T1 (mkF m 181 #[.val (.ref a), .val (.int (0 : Int32)), .val (.int (4 : Int32)), .val (.int b0), .val (.int (3 : Int32)), .val (.int (b0 &&& (7 : Int32))), .val (.int (144 : Int32)), .val (.int (191 : Int32)), .val (.int (4 : Int32)), .val (.int (1 : Int32)), .unset] [(.int (1 : Int32))])
  refine ow_iload C A1 d2_181 rfl rfl ?_
  refine ow_icmp_ge C A1 d2_183 (by decide) (pcY := 199) (by decide) (pcN := 186) rfl (fun z => absurd (by decide) z) (fun _ => ?_)
  refine ow_aloadN C A1 d2_186 rfl rfl rfl ?_
  refine ow_iloadN C A1 d2_187 rfl rfl ?_
  refine ow_iload C A1 d2_188 rfl rfl ?_
  refine ow_iadd C A1 d2_190 rfl ?_
  show OwnWP _ _ _ _ _ _ _ _ _ T1 (mkF m 191 #[.val (.ref a), .val (.int (0 : Int32)), .val (.int (4 : Int32)), .val (.int b0), .val (.int (3 : Int32)), .val (.int (b0 &&& (7 : Int32))), .val (.int (144 : Int32)), .val (.int (191 : Int32)), .val (.int (4 : Int32)), .val (.int (1 : Int32)), .unset] [(.int (1 : Int32)), (.ref a)])
  refine ow_baload C A1 Va ⟨by decide, by decide⟩ (v := (.int x1)) rfl d2_191 rfl ?_
  refine ow_sipush C A1 d2_192 (v := 255) rfl rfl ?_
  refine ow_iand C A1 d2_195 rfl ?_
  rw [e1]
  refine ow_goto C A1 d2_196 (by decide) (pc' := 200) (by decide) ?_
  refine ow_istore C A1 d2_200 (Ls' := #[.val (.ref a), .val (.int (0 : Int32)), .val (.int (4 : Int32)), .val (.int b0), .val (.int (3 : Int32)), .val (.int (b0 &&& (7 : Int32))), .val (.int (144 : Int32)), .val (.int (191 : Int32)), .val (.int (4 : Int32)), .val (.int (1 : Int32)), .val (.int (144 : Int32))]) rfl rfl ?_
  refine ow_iload C A1 d2_202 rfl rfl ?_
  refine ow_iload C A1 d2_204 rfl rfl ?_
  refine ow_icmp_lt C A1 d2_206 (by decide) (pcY := 216) (by decide) (pcN := 209) rfl (fun z => absurd z (by decide)) (fun _ => ?_)
  refine ow_iload C A1 d2_209 rfl rfl ?_
  refine ow_iload C A1 d2_211 rfl rfl ?_
  refine ow_icmp_le C A1 d2_213 (by decide) (pcY := 218) (by decide) (pcN := 216) rfl (fun _ => ?_) (fun z => absurd z (by decide))
  refine ow_iload C A1 d2_218 rfl rfl ?_
  refine ow_bipush C A1 d2_220 (v := 6) rfl rfl ?_
  refine ow_ishl C A1 d2_222 rfl ?_
  refine ow_iload C A1 d2_223 rfl rfl ?_
  refine ow_bipush C A1 d2_225 (v := 63) rfl rfl ?_
  refine ow_iand C A1 d2_227 rfl ?_
  show OwnWP _ _ _ _ _ _ _ _ _ T1 (mkF m 228 #[.val (.ref a), .val (.int (0 : Int32)), .val (.int (4 : Int32)), .val (.int b0), .val (.int (3 : Int32)), .val (.int (b0 &&& (7 : Int32))), .val (.int (144 : Int32)), .val (.int (191 : Int32)), .val (.int (4 : Int32)), .val (.int (1 : Int32)), .val (.int (144 : Int32))] [(.int (16 : Int32)), (.int ((b0 &&& (7 : Int32)) <<< ((6 : Int32) &&& 31)))])
  refine ow_ior C A1 d2_228 rfl ?_
  refine ow_istore C A1 d2_229 (Ls' := #[.val (.ref a), .val (.int (0 : Int32)), .val (.int (4 : Int32)), .val (.int b0), .val (.int (3 : Int32)), .val (.int (((b0 &&& (7 : Int32)) <<< ((6 : Int32) &&& 31)) ||| (16 : Int32))), .val (.int (144 : Int32)), .val (.int (191 : Int32)), .val (.int (4 : Int32)), .val (.int (1 : Int32)), .val (.int (144 : Int32))]) rfl rfl ?_
  refine ow_sipush C A1 d2_231 (v := 128) rfl rfl ?_
  refine ow_istore C A1 d2_234 (Ls' := #[.val (.ref a), .val (.int (0 : Int32)), .val (.int (4 : Int32)), .val (.int b0), .val (.int (3 : Int32)), .val (.int (((b0 &&& (7 : Int32)) <<< ((6 : Int32) &&& 31)) ||| (16 : Int32))), .val (.int (128 : Int32)), .val (.int (191 : Int32)), .val (.int (4 : Int32)), .val (.int (1 : Int32)), .val (.int (144 : Int32))]) rfl rfl ?_
  refine ow_sipush C A1 d2_236 (v := 191) rfl rfl ?_
  refine ow_istore C A1 d2_239 (Ls' := #[.val (.ref a), .val (.int (0 : Int32)), .val (.int (4 : Int32)), .val (.int b0), .val (.int (3 : Int32)), .val (.int (((b0 &&& (7 : Int32)) <<< ((6 : Int32) &&& 31)) ||| (16 : Int32))), .val (.int (128 : Int32)), .val (.int (191 : Int32)), .val (.int (4 : Int32)), .val (.int (1 : Int32)), .val (.int (144 : Int32))]) rfl rfl ?_
  refine ow_iinc C A1 d2_241 rfl (Ls' := #[.val (.ref a), .val (.int (0 : Int32)), .val (.int (4 : Int32)), .val (.int b0), .val (.int (3 : Int32)), .val (.int (((b0 &&& (7 : Int32)) <<< ((6 : Int32) &&& 31)) ||| (16 : Int32))), .val (.int (128 : Int32)), .val (.int (191 : Int32)), .val (.int (4 : Int32)), .val (.int (2 : Int32)), .val (.int (144 : Int32))]) rfl rfl ?_
  refine ow_goto C A1 d2_244 (by decide) (pc' := 170) (by decide) ?_
  refine ow_iload C A1 d2_170 rfl rfl ?_
  refine ow_iload C A1 d2_172 rfl rfl ?_
  refine ow_icmp_gt C A1 d2_174 (by decide) (pcY := 247) (by decide) (pcN := 177) rfl (fun z => absurd z (by decide)) (fun _ => ?_)
  refine ow_iloadN C A1 d2_177 rfl rfl ?_
  refine ow_iload C A1 d2_178 rfl rfl ?_
  refine ow_iadd C A1 d2_180 rfl ?_
  show OwnWP _ _ _ _ _ _ _ _ _ T1 (mkF m 181 #[.val (.ref a), .val (.int (0 : Int32)), .val (.int (4 : Int32)), .val (.int b0), .val (.int (3 : Int32)), .val (.int (((b0 &&& (7 : Int32)) <<< ((6 : Int32) &&& 31)) ||| (16 : Int32))), .val (.int (128 : Int32)), .val (.int (191 : Int32)), .val (.int (4 : Int32)), .val (.int (2 : Int32)), .val (.int (144 : Int32))] [(.int (2 : Int32))])
  refine ow_iload C A1 d2_181 rfl rfl ?_
  refine ow_icmp_ge C A1 d2_183 (by decide) (pcY := 199) (by decide) (pcN := 186) rfl (fun z => absurd (by decide) z) (fun _ => ?_)
  refine ow_aloadN C A1 d2_186 rfl rfl rfl ?_
  refine ow_iloadN C A1 d2_187 rfl rfl ?_
  refine ow_iload C A1 d2_188 rfl rfl ?_
  refine ow_iadd C A1 d2_190 rfl ?_
  show OwnWP _ _ _ _ _ _ _ _ _ T1 (mkF m 191 #[.val (.ref a), .val (.int (0 : Int32)), .val (.int (4 : Int32)), .val (.int b0), .val (.int (3 : Int32)), .val (.int (((b0 &&& (7 : Int32)) <<< ((6 : Int32) &&& 31)) ||| (16 : Int32))), .val (.int (128 : Int32)), .val (.int (191 : Int32)), .val (.int (4 : Int32)), .val (.int (2 : Int32)), .val (.int (144 : Int32))] [(.int (2 : Int32)), (.ref a)])
  refine ow_baload C A1 Va ⟨by decide, by decide⟩ (v := (.int x2)) rfl d2_191 rfl ?_
  refine ow_sipush C A1 d2_192 (v := 255) rfl rfl ?_
  refine ow_iand C A1 d2_195 rfl ?_
  rw [e2]
  refine ow_goto C A1 d2_196 (by decide) (pc' := 200) (by decide) ?_
  refine ow_istore C A1 d2_200 (Ls' := #[.val (.ref a), .val (.int (0 : Int32)), .val (.int (4 : Int32)), .val (.int b0), .val (.int (3 : Int32)), .val (.int (((b0 &&& (7 : Int32)) <<< ((6 : Int32) &&& 31)) ||| (16 : Int32))), .val (.int (128 : Int32)), .val (.int (191 : Int32)), .val (.int (4 : Int32)), .val (.int (2 : Int32)), .val (.int (128 : Int32))]) rfl rfl ?_
  refine ow_iload C A1 d2_202 rfl rfl ?_
  refine ow_iload C A1 d2_204 rfl rfl ?_
  refine ow_icmp_lt C A1 d2_206 (by decide) (pcY := 216) (by decide) (pcN := 209) rfl (fun z => absurd z (by decide)) (fun _ => ?_)
  refine ow_iload C A1 d2_209 rfl rfl ?_
  refine ow_iload C A1 d2_211 rfl rfl ?_
  refine ow_icmp_le C A1 d2_213 (by decide) (pcY := 218) (by decide) (pcN := 216) rfl (fun _ => ?_) (fun z => absurd z (by decide))
  refine ow_iload C A1 d2_218 rfl rfl ?_
  refine ow_bipush C A1 d2_220 (v := 6) rfl rfl ?_
  refine ow_ishl C A1 d2_222 rfl ?_
  refine ow_iload C A1 d2_223 rfl rfl ?_
  refine ow_bipush C A1 d2_225 (v := 63) rfl rfl ?_
  refine ow_iand C A1 d2_227 rfl ?_
  show OwnWP _ _ _ _ _ _ _ _ _ T1 (mkF m 228 #[.val (.ref a), .val (.int (0 : Int32)), .val (.int (4 : Int32)), .val (.int b0), .val (.int (3 : Int32)), .val (.int (((b0 &&& (7 : Int32)) <<< ((6 : Int32) &&& 31)) ||| (16 : Int32))), .val (.int (128 : Int32)), .val (.int (191 : Int32)), .val (.int (4 : Int32)), .val (.int (2 : Int32)), .val (.int (128 : Int32))] [(.int (0 : Int32)), (.int ((((b0 &&& (7 : Int32)) <<< ((6 : Int32) &&& 31)) ||| (16 : Int32)) <<< ((6 : Int32) &&& 31)))])
  refine ow_ior C A1 d2_228 rfl ?_
  refine ow_istore C A1 d2_229 (Ls' := #[.val (.ref a), .val (.int (0 : Int32)), .val (.int (4 : Int32)), .val (.int b0), .val (.int (3 : Int32)), .val (.int (((((b0 &&& (7 : Int32)) <<< ((6 : Int32) &&& 31)) ||| (16 : Int32)) <<< ((6 : Int32) &&& 31)) ||| (0 : Int32))), .val (.int (128 : Int32)), .val (.int (191 : Int32)), .val (.int (4 : Int32)), .val (.int (2 : Int32)), .val (.int (128 : Int32))]) rfl rfl ?_
  refine ow_sipush C A1 d2_231 (v := 128) rfl rfl ?_
  refine ow_istore C A1 d2_234 (Ls' := #[.val (.ref a), .val (.int (0 : Int32)), .val (.int (4 : Int32)), .val (.int b0), .val (.int (3 : Int32)), .val (.int (((((b0 &&& (7 : Int32)) <<< ((6 : Int32) &&& 31)) ||| (16 : Int32)) <<< ((6 : Int32) &&& 31)) ||| (0 : Int32))), .val (.int (128 : Int32)), .val (.int (191 : Int32)), .val (.int (4 : Int32)), .val (.int (2 : Int32)), .val (.int (128 : Int32))]) rfl rfl ?_
  refine ow_sipush C A1 d2_236 (v := 191) rfl rfl ?_
  refine ow_istore C A1 d2_239 (Ls' := #[.val (.ref a), .val (.int (0 : Int32)), .val (.int (4 : Int32)), .val (.int b0), .val (.int (3 : Int32)), .val (.int (((((b0 &&& (7 : Int32)) <<< ((6 : Int32) &&& 31)) ||| (16 : Int32)) <<< ((6 : Int32) &&& 31)) ||| (0 : Int32))), .val (.int (128 : Int32)), .val (.int (191 : Int32)), .val (.int (4 : Int32)), .val (.int (2 : Int32)), .val (.int (128 : Int32))]) rfl rfl ?_
  refine ow_iinc C A1 d2_241 rfl (Ls' := #[.val (.ref a), .val (.int (0 : Int32)), .val (.int (4 : Int32)), .val (.int b0), .val (.int (3 : Int32)), .val (.int (((((b0 &&& (7 : Int32)) <<< ((6 : Int32) &&& 31)) ||| (16 : Int32)) <<< ((6 : Int32) &&& 31)) ||| (0 : Int32))), .val (.int (128 : Int32)), .val (.int (191 : Int32)), .val (.int (4 : Int32)), .val (.int (3 : Int32)), .val (.int (128 : Int32))]) rfl rfl ?_
  refine ow_goto C A1 d2_244 (by decide) (pc' := 170) (by decide) ?_
  refine ow_iload C A1 d2_170 rfl rfl ?_
  refine ow_iload C A1 d2_172 rfl rfl ?_
  refine ow_icmp_gt C A1 d2_174 (by decide) (pcY := 247) (by decide) (pcN := 177) rfl (fun z => absurd z (by decide)) (fun _ => ?_)
  refine ow_iloadN C A1 d2_177 rfl rfl ?_
  refine ow_iload C A1 d2_178 rfl rfl ?_
  refine ow_iadd C A1 d2_180 rfl ?_
  show OwnWP _ _ _ _ _ _ _ _ _ T1 (mkF m 181 #[.val (.ref a), .val (.int (0 : Int32)), .val (.int (4 : Int32)), .val (.int b0), .val (.int (3 : Int32)), .val (.int (((((b0 &&& (7 : Int32)) <<< ((6 : Int32) &&& 31)) ||| (16 : Int32)) <<< ((6 : Int32) &&& 31)) ||| (0 : Int32))), .val (.int (128 : Int32)), .val (.int (191 : Int32)), .val (.int (4 : Int32)), .val (.int (3 : Int32)), .val (.int (128 : Int32))] [(.int (3 : Int32))])
  refine ow_iload C A1 d2_181 rfl rfl ?_
  refine ow_icmp_ge C A1 d2_183 (by decide) (pcY := 199) (by decide) (pcN := 186) rfl (fun z => absurd (by decide) z) (fun _ => ?_)
  refine ow_aloadN C A1 d2_186 rfl rfl rfl ?_
  refine ow_iloadN C A1 d2_187 rfl rfl ?_
  refine ow_iload C A1 d2_188 rfl rfl ?_
  refine ow_iadd C A1 d2_190 rfl ?_
  show OwnWP _ _ _ _ _ _ _ _ _ T1 (mkF m 191 #[.val (.ref a), .val (.int (0 : Int32)), .val (.int (4 : Int32)), .val (.int b0), .val (.int (3 : Int32)), .val (.int (((((b0 &&& (7 : Int32)) <<< ((6 : Int32) &&& 31)) ||| (16 : Int32)) <<< ((6 : Int32) &&& 31)) ||| (0 : Int32))), .val (.int (128 : Int32)), .val (.int (191 : Int32)), .val (.int (4 : Int32)), .val (.int (3 : Int32)), .val (.int (128 : Int32))] [(.int (3 : Int32)), (.ref a)])
  refine ow_baload C A1 Va ⟨by decide, by decide⟩ (v := (.int x3)) rfl d2_191 rfl ?_
  refine ow_sipush C A1 d2_192 (v := 255) rfl rfl ?_
  refine ow_iand C A1 d2_195 rfl ?_
  rw [e3]
  refine ow_goto C A1 d2_196 (by decide) (pc' := 200) (by decide) ?_
  refine ow_istore C A1 d2_200 (Ls' := #[.val (.ref a), .val (.int (0 : Int32)), .val (.int (4 : Int32)), .val (.int b0), .val (.int (3 : Int32)), .val (.int (((((b0 &&& (7 : Int32)) <<< ((6 : Int32) &&& 31)) ||| (16 : Int32)) <<< ((6 : Int32) &&& 31)) ||| (0 : Int32))), .val (.int (128 : Int32)), .val (.int (191 : Int32)), .val (.int (4 : Int32)), .val (.int (3 : Int32)), .val (.int (128 : Int32))]) rfl rfl ?_
  refine ow_iload C A1 d2_202 rfl rfl ?_
  refine ow_iload C A1 d2_204 rfl rfl ?_
  refine ow_icmp_lt C A1 d2_206 (by decide) (pcY := 216) (by decide) (pcN := 209) rfl (fun z => absurd z (by decide)) (fun _ => ?_)
  refine ow_iload C A1 d2_209 rfl rfl ?_
  refine ow_iload C A1 d2_211 rfl rfl ?_
  refine ow_icmp_le C A1 d2_213 (by decide) (pcY := 218) (by decide) (pcN := 216) rfl (fun _ => ?_) (fun z => absurd z (by decide))
  refine ow_iload C A1 d2_218 rfl rfl ?_
  refine ow_bipush C A1 d2_220 (v := 6) rfl rfl ?_
  refine ow_ishl C A1 d2_222 rfl ?_
  refine ow_iload C A1 d2_223 rfl rfl ?_
  refine ow_bipush C A1 d2_225 (v := 63) rfl rfl ?_
  refine ow_iand C A1 d2_227 rfl ?_
  show OwnWP _ _ _ _ _ _ _ _ _ T1 (mkF m 228 #[.val (.ref a), .val (.int (0 : Int32)), .val (.int (4 : Int32)), .val (.int b0), .val (.int (3 : Int32)), .val (.int (((((b0 &&& (7 : Int32)) <<< ((6 : Int32) &&& 31)) ||| (16 : Int32)) <<< ((6 : Int32) &&& 31)) ||| (0 : Int32))), .val (.int (128 : Int32)), .val (.int (191 : Int32)), .val (.int (4 : Int32)), .val (.int (3 : Int32)), .val (.int (128 : Int32))] [(.int (0 : Int32)), (.int ((((((b0 &&& (7 : Int32)) <<< ((6 : Int32) &&& 31)) ||| (16 : Int32)) <<< ((6 : Int32) &&& 31)) ||| (0 : Int32)) <<< ((6 : Int32) &&& 31)))])
  refine ow_ior C A1 d2_228 rfl ?_
  refine ow_istore C A1 d2_229 (Ls' := #[.val (.ref a), .val (.int (0 : Int32)), .val (.int (4 : Int32)), .val (.int b0), .val (.int (3 : Int32)), .val (.int (((((((b0 &&& (7 : Int32)) <<< ((6 : Int32) &&& 31)) ||| (16 : Int32)) <<< ((6 : Int32) &&& 31)) ||| (0 : Int32)) <<< ((6 : Int32) &&& 31)) ||| (0 : Int32))), .val (.int (128 : Int32)), .val (.int (191 : Int32)), .val (.int (4 : Int32)), .val (.int (3 : Int32)), .val (.int (128 : Int32))]) rfl rfl ?_
  refine ow_sipush C A1 d2_231 (v := 128) rfl rfl ?_
  refine ow_istore C A1 d2_234 (Ls' := #[.val (.ref a), .val (.int (0 : Int32)), .val (.int (4 : Int32)), .val (.int b0), .val (.int (3 : Int32)), .val (.int (((((((b0 &&& (7 : Int32)) <<< ((6 : Int32) &&& 31)) ||| (16 : Int32)) <<< ((6 : Int32) &&& 31)) ||| (0 : Int32)) <<< ((6 : Int32) &&& 31)) ||| (0 : Int32))), .val (.int (128 : Int32)), .val (.int (191 : Int32)), .val (.int (4 : Int32)), .val (.int (3 : Int32)), .val (.int (128 : Int32))]) rfl rfl ?_
  refine ow_sipush C A1 d2_236 (v := 191) rfl rfl ?_
  refine ow_istore C A1 d2_239 (Ls' := #[.val (.ref a), .val (.int (0 : Int32)), .val (.int (4 : Int32)), .val (.int b0), .val (.int (3 : Int32)), .val (.int (((((((b0 &&& (7 : Int32)) <<< ((6 : Int32) &&& 31)) ||| (16 : Int32)) <<< ((6 : Int32) &&& 31)) ||| (0 : Int32)) <<< ((6 : Int32) &&& 31)) ||| (0 : Int32))), .val (.int (128 : Int32)), .val (.int (191 : Int32)), .val (.int (4 : Int32)), .val (.int (3 : Int32)), .val (.int (128 : Int32))]) rfl rfl ?_
  refine ow_iinc C A1 d2_241 rfl (Ls' := #[.val (.ref a), .val (.int (0 : Int32)), .val (.int (4 : Int32)), .val (.int b0), .val (.int (3 : Int32)), .val (.int (((((((b0 &&& (7 : Int32)) <<< ((6 : Int32) &&& 31)) ||| (16 : Int32)) <<< ((6 : Int32) &&& 31)) ||| (0 : Int32)) <<< ((6 : Int32) &&& 31)) ||| (0 : Int32))), .val (.int (128 : Int32)), .val (.int (191 : Int32)), .val (.int (4 : Int32)), .val (.int (4 : Int32)), .val (.int (128 : Int32))]) rfl rfl ?_
  refine ow_goto C A1 d2_244 (by decide) (pc' := 170) (by decide) ?_
  refine ow_iload C A1 d2_170 rfl rfl ?_
  refine ow_iload C A1 d2_172 rfl rfl ?_
  refine ow_icmp_gt C A1 d2_174 (by decide) (pcY := 247) (by decide) (pcN := 177) rfl (fun _ => ?_) (fun z => absurd (by decide) z)
  refine ow_iload C A1 d2_247 rfl rfl ?_
  refine ow_ireturn C A1 (t := .int) rfl rfl (by simp) d2_249 (by decide) (by decide) ?_
  have z0 := own_m7 b0
  have z1 : (((b0 &&& (7 : Int32)) <<< ((6 : Int32) &&& 31)) ||| (16 : Int32)).toInt = (b0 &&& (7 : Int32)).toInt * 64 + 16 := own_push (b0 &&& (7 : Int32)) 144 (by omega) (by decide)
  have z2 : (((((b0 &&& (7 : Int32)) <<< ((6 : Int32) &&& 31)) ||| (16 : Int32)) <<< ((6 : Int32) &&& 31)) ||| (0 : Int32)).toInt = (((b0 &&& (7 : Int32)) <<< ((6 : Int32) &&& 31)) ||| (16 : Int32)).toInt * 64 + 0 := own_push (((b0 &&& (7 : Int32)) <<< ((6 : Int32) &&& 31)) ||| (16 : Int32)) 128 (by omega) (by decide)
  have z3 : (((((((b0 &&& (7 : Int32)) <<< ((6 : Int32) &&& 31)) ||| (16 : Int32)) <<< ((6 : Int32) &&& 31)) ||| (0 : Int32)) <<< ((6 : Int32) &&& 31)) ||| (0 : Int32)).toInt = (((((b0 &&& (7 : Int32)) <<< ((6 : Int32) &&& 31)) ||| (16 : Int32)) <<< ((6 : Int32) &&& 31)) ||| (0 : Int32)).toInt * 64 + 0 := own_push (((((b0 &&& (7 : Int32)) <<< ((6 : Int32) &&& 31)) ||| (16 : Int32)) <<< ((6 : Int32) &&& 31)) ||| (0 : Int32)) 128 (by omega) (by decide)
  exact ⟨rfl, _, rfl, by omega, by omega⟩
set_option maxRecDepth 65536 in
set_option maxHeartbeats 40000000 in
theorem rm_cpE3 (l : Launch) (Z : State) (a0 : Array Value) (hw : ∀ d ∈ tables_1, d.before a0 Z = true) (a : Addr) (kk : ClassId) (x0 b0 : Int32) (x1 : Int32) (x2 : Int32) (x3 : Int32) (h0 : Heap) (Va : Arv Z h0 a kk .byte (4 : Int32) [(.int x0), (.int x1), (.int x2), (.int x3)] (.int (0 : Int32))) (e0 : x0 &&& 255 = b0) (e1 : x1 &&& 255 = 128) (e2 : x2 &&& 255 = 128) (e3 : x3 &&& 255 = 128) (hb0 : 194 ≤ b0.toInt ∧ b0.toInt ≤ 244) (hn224 : ¬ (b0 = 224)) (hn240 : ¬ (b0 = 240)) (cs : List Jvm.Cond) :
    OwnCtr l Z (⟨"com/example/canonwire/canonwire/Utf8", "codePointAt", "([BII)I"⟩ : MethodName) prog_47_method_2_code 11 (some .int) rmc #[(.ref a), (.int (0 : Int32)), (.int (4 : Int32))] h0 [] (QP 0 1114111 h0) cs := by
  refine ow_ctr pn_2 hw (Ls := #[.val (.ref a), .val (.int (0 : Int32)), .val (.int (4 : Int32)), .unset, .unset, .unset, .unset, .unset, .unset, .unset, .unset]) (fun m => by first | (simp [entryFrame, mkF, argsToLocals, Value.category]; done) | rfl) ?_
  intro p e s m below meth c T0 C A0
  have hl0 := hb0.1
  have hu0 := hb0.2
  refine ow_aloadN C A0 d2_0 rfl rfl rfl ?_
  refine ow_iloadN C A0 d2_1 rfl rfl ?_
  refine ow_baload C A0 Va ⟨by decide, by decide⟩ (v := (.int x0)) rfl d2_2 rfl ?_
  refine ow_sipush C A0 d2_3 (v := 255) rfl rfl ?_
  refine ow_iand C A0 d2_6 rfl ?_
  rw [e0]
  refine ow_istoreN C A0 d2_7 (Ls' := #[.val (.ref a), .val (.int (0 : Int32)), .val (.int (4 : Int32)), .val (.int b0), .unset, .unset, .unset, .unset, .unset, .unset, .unset]) rfl rfl ?_
  refine ow_iloadN C A0 d2_8 rfl rfl ?_
  refine ow_sipush C A0 d2_9 (v := 128) rfl rfl ?_
  refine ow_icmp_ge C A0 d2_12 (by decide) (pcY := 17) (by decide) (pcN := 15) rfl (fun _ => ?_) (fun z => absurd z (own_nlt32 (by show ¬ (b0.toInt < 128); omega)))
  refine ow_iloadN C A0 d2_17 rfl rfl ?_
  refine ow_sipush C A0 d2_18 (v := 194) rfl rfl ?_
  refine ow_icmp_lt C A0 d2_21 (by decide) (pcY := 43) (by decide) (pcN := 24) rfl (fun z => absurd z (own_nlt32 (by show ¬ (b0.toInt < 194); omega))) (fun _ => ?_)
  refine ow_iloadN C A0 d2_24 rfl rfl ?_
  refine ow_sipush C A0 d2_25 (v := 223) rfl rfl ?_
  refine ow_icmp_gt C A0 d2_28 (by decide) (pcY := 43) (by decide) (pcN := 31) rfl (fun hc28 => ?_) (fun hc28 => ?_)
  · skip
    have iv1 : 223 < b0.toInt := own_lt32' hc28
    refine ow_iloadN C A0 d2_43 rfl rfl ?_
    refine ow_sipush C A0 d2_44 (v := 224) rfl rfl ?_
    refine ow_icmp_lt C A0 d2_47 (by decide) (pcY := 69) (by decide) (pcN := 50) rfl (fun z => absurd z (own_nlt32 (by show ¬ (b0.toInt < 224); omega))) (fun _ => ?_)
    refine ow_iloadN C A0 d2_50 rfl rfl ?_
    refine ow_sipush C A0 d2_51 (v := 239) rfl rfl ?_
    refine ow_icmp_gt C A0 d2_54 (by decide) (pcY := 69) (by decide) (pcN := 57) rfl (fun hc54 => ?_) (fun hc54 => ?_)
    · skip
      have iv2 : 239 < b0.toInt := own_lt32' hc54
      refine ow_iloadN C A0 d2_69 rfl rfl ?_
      refine ow_sipush C A0 d2_70 (v := 240) rfl rfl ?_
      refine ow_icmp_lt C A0 d2_73 (by decide) (pcY := 95) (by decide) (pcN := 76) rfl (fun z => absurd z (own_nlt32 (by show ¬ (b0.toInt < 240); omega))) (fun _ => ?_)
      refine ow_iloadN C A0 d2_76 rfl rfl ?_
      refine ow_sipush C A0 d2_77 (v := 244) rfl rfl ?_
      refine ow_icmp_gt C A0 d2_80 (by decide) (pcY := 95) (by decide) (pcN := 83) rfl (fun z => absurd z (own_nlt32 (by show ¬ (244 < b0.toInt); omega))) (fun _ => ?_)
      refine ow_iconst C A0 d2_83 (v := 3) rfl rfl ?_
      refine ow_istore C A0 d2_84 (Ls' := #[.val (.ref a), .val (.int (0 : Int32)), .val (.int (4 : Int32)), .val (.int b0), .val (.int (3 : Int32)), .unset, .unset, .unset, .unset, .unset, .unset]) rfl rfl ?_
      refine ow_iloadN C A0 d2_86 rfl rfl ?_
      refine ow_bipush C A0 d2_87 (v := 7) rfl rfl ?_
      refine ow_iand C A0 d2_89 rfl ?_
      refine ow_istore C A0 d2_90 (Ls' := #[.val (.ref a), .val (.int (0 : Int32)), .val (.int (4 : Int32)), .val (.int b0), .val (.int (3 : Int32)), .val (.int (b0 &&& (7 : Int32))), .unset, .unset, .unset, .unset, .unset]) rfl rfl ?_
      refine ow_goto C A0 d2_92 (by decide) (pc' := 97) (by decide) ?_
      refine ow_iloadN C A0 d2_97 rfl rfl ?_
      refine ow_sipush C A0 d2_98 (v := 224) rfl rfl ?_
      refine ow_icmp_ne C A0 d2_101 (by decide) (pcY := 110) (by decide) (pcN := 104) rfl (fun _ => ?_) (fun z => absurd z (hn224))
      refine ow_iloadN C A0 d2_110 rfl rfl ?_
      refine ow_sipush C A0 d2_111 (v := 240) rfl rfl ?_
      refine ow_icmp_ne C A0 d2_114 (by decide) (pcY := 123) (by decide) (pcN := 117) rfl (fun _ => ?_) (fun z => absurd z (hn240))
      refine ow_sipush C A0 d2_123 (v := 128) rfl rfl ?_
      refine ow_istore C A0 d2_126 (Ls' := #[.val (.ref a), .val (.int (0 : Int32)), .val (.int (4 : Int32)), .val (.int b0), .val (.int (3 : Int32)), .val (.int (b0 &&& (7 : Int32))), .val (.int (128 : Int32)), .unset, .unset, .unset, .unset]) rfl rfl ?_
      refine ow_iloadN C A0 d2_128 rfl rfl ?_
      refine ow_sipush C A0 d2_129 (v := 237) rfl rfl ?_
      refine ow_icmp_ne C A0 d2_132 (by decide) (pcY := 141) (by decide) (pcN := 135) rfl (fun _ => ?_) (fun z => absurd z (own_ne32 (by show ¬ (b0.toInt = 237); omega)))
      refine ow_iloadN C A0 d2_141 rfl rfl ?_
      refine ow_sipush C A0 d2_142 (v := 244) rfl rfl ?_
      refine ow_icmp_ne C A0 d2_145 (by decide) (pcY := 154) (by decide) (pcN := 148) rfl (fun hc145 => ?_) (fun hc145 => ?_)
      · skip
        have iv3 : ¬ (b0.toInt = 244) := own_ne32' hc145
        refine ow_sipush C A0 d2_154 (v := 191) rfl rfl ?_
        refine ow_istore C A0 d2_157 (Ls' := #[.val (.ref a), .val (.int (0 : Int32)), .val (.int (4 : Int32)), .val (.int b0), .val (.int (3 : Int32)), .val (.int (b0 &&& (7 : Int32))), .val (.int (128 : Int32)), .val (.int (191 : Int32)), .unset, .unset, .unset]) rfl rfl ?_
        refine ow_iloadN C A0 d2_159 rfl rfl ?_
        refine ow_aloadN C A0 d2_160 rfl rfl rfl ?_
        refine ow_alen C A0 Va d2_161 rfl ?_
        refine ow_callS C A0 (argsL := [(.int (4 : Int32)), (.int (4 : Int32))]) (rm_min l Z a0 hw (4 : Int32) (4 : Int32) h0 []) tw_8 tw_9 tw_10 tw_11 (by decide) all0 (by decide) (by decide) (ck' := 0) (sk' := 0) rfl rfl (by decide) (by decide) rfl (lenOf pd_0 rfl) (S := []) rfl (W := 0) (Nat.le_of_eq rfl) d2_162 rfl ?_
        intro T4 v4 K4 hQ4 A4
        obtain ⟨rfl, ee4⟩ := hQ4
        rw [ee4] at A4 K4
        show OwnWP _ _ _ _ _ _ _ _ _ T4 (mkF m 165 #[.val (.ref a), .val (.int (0 : Int32)), .val (.int (4 : Int32)), .val (.int b0), .val (.int (3 : Int32)), .val (.int (b0 &&& (7 : Int32))), .val (.int (128 : Int32)), .val (.int (191 : Int32)), .unset, .unset, .unset] [(.int (4 : Int32))])
        refine ow_istore C A4 d2_165 (Ls' := #[.val (.ref a), .val (.int (0 : Int32)), .val (.int (4 : Int32)), .val (.int b0), .val (.int (3 : Int32)), .val (.int (b0 &&& (7 : Int32))), .val (.int (128 : Int32)), .val (.int (191 : Int32)), .val (.int (4 : Int32)), .unset, .unset]) rfl rfl ?_
        refine ow_iconst C A4 d2_167 (v := 1) rfl rfl ?_
        refine ow_istore C A4 d2_168 (Ls' := #[.val (.ref a), .val (.int (0 : Int32)), .val (.int (4 : Int32)), .val (.int b0), .val (.int (3 : Int32)), .val (.int (b0 &&& (7 : Int32))), .val (.int (128 : Int32)), .val (.int (191 : Int32)), .val (.int (4 : Int32)), .val (.int (1 : Int32)), .unset]) rfl rfl ?_
        refine ow_iload C A4 d2_170 rfl rfl ?_
        refine ow_iload C A4 d2_172 rfl rfl ?_
        refine ow_icmp_gt C A4 d2_174 (by decide) (pcY := 247) (by decide) (pcN := 177) rfl (fun z => absurd z (by decide)) (fun _ => ?_)
        refine ow_iloadN C A4 d2_177 rfl rfl ?_
        refine ow_iload C A4 d2_178 rfl rfl ?_
        refine ow_iadd C A4 d2_180 rfl ?_
        show OwnWP _ _ _ _ _ _ _ _ _ T4 (mkF m 181 #[.val (.ref a), .val (.int (0 : Int32)), .val (.int (4 : Int32)), .val (.int b0), .val (.int (3 : Int32)), .val (.int (b0 &&& (7 : Int32))), .val (.int (128 : Int32)), .val (.int (191 : Int32)), .val (.int (4 : Int32)), .val (.int (1 : Int32)), .unset] [(.int (1 : Int32))])
        refine ow_iload C A4 d2_181 rfl rfl ?_
        refine ow_icmp_ge C A4 d2_183 (by decide) (pcY := 199) (by decide) (pcN := 186) rfl (fun z => absurd (by decide) z) (fun _ => ?_)
        refine ow_aloadN C A4 d2_186 rfl rfl rfl ?_
        refine ow_iloadN C A4 d2_187 rfl rfl ?_
        refine ow_iload C A4 d2_188 rfl rfl ?_
        refine ow_iadd C A4 d2_190 rfl ?_
        show OwnWP _ _ _ _ _ _ _ _ _ T4 (mkF m 191 #[.val (.ref a), .val (.int (0 : Int32)), .val (.int (4 : Int32)), .val (.int b0), .val (.int (3 : Int32)), .val (.int (b0 &&& (7 : Int32))), .val (.int (128 : Int32)), .val (.int (191 : Int32)), .val (.int (4 : Int32)), .val (.int (1 : Int32)), .unset] [(.int (1 : Int32)), (.ref a)])
        refine ow_baload C A4 Va ⟨by decide, by decide⟩ (v := (.int x1)) rfl d2_191 rfl ?_
        refine ow_sipush C A4 d2_192 (v := 255) rfl rfl ?_
        refine ow_iand C A4 d2_195 rfl ?_
        rw [e1]
        refine ow_goto C A4 d2_196 (by decide) (pc' := 200) (by decide) ?_
        refine ow_istore C A4 d2_200 (Ls' := #[.val (.ref a), .val (.int (0 : Int32)), .val (.int (4 : Int32)), .val (.int b0), .val (.int (3 : Int32)), .val (.int (b0 &&& (7 : Int32))), .val (.int (128 : Int32)), .val (.int (191 : Int32)), .val (.int (4 : Int32)), .val (.int (1 : Int32)), .val (.int (128 : Int32))]) rfl rfl ?_
        refine ow_iload C A4 d2_202 rfl rfl ?_
        refine ow_iload C A4 d2_204 rfl rfl ?_
        refine ow_icmp_lt C A4 d2_206 (by decide) (pcY := 216) (by decide) (pcN := 209) rfl (fun z => absurd z (by decide)) (fun _ => ?_)
        refine ow_iload C A4 d2_209 rfl rfl ?_
        refine ow_iload C A4 d2_211 rfl rfl ?_
        refine ow_icmp_le C A4 d2_213 (by decide) (pcY := 218) (by decide) (pcN := 216) rfl (fun _ => ?_) (fun z => absurd z (by decide))
        refine ow_iload C A4 d2_218 rfl rfl ?_
        refine ow_bipush C A4 d2_220 (v := 6) rfl rfl ?_
        refine ow_ishl C A4 d2_222 rfl ?_
        refine ow_iload C A4 d2_223 rfl rfl ?_
        refine ow_bipush C A4 d2_225 (v := 63) rfl rfl ?_
        refine ow_iand C A4 d2_227 rfl ?_
        show OwnWP _ _ _ _ _ _ _ _ _ T4 (mkF m 228 #[.val (.ref a), .val (.int (0 : Int32)), .val (.int (4 : Int32)), .val (.int b0), .val (.int (3 : Int32)), .val (.int (b0 &&& (7 : Int32))), .val (.int (128 : Int32)), .val (.int (191 : Int32)), .val (.int (4 : Int32)), .val (.int (1 : Int32)), .val (.int (128 : Int32))] [(.int (0 : Int32)), (.int ((b0 &&& (7 : Int32)) <<< ((6 : Int32) &&& 31)))])
        refine ow_ior C A4 d2_228 rfl ?_
        refine ow_istore C A4 d2_229 (Ls' := #[.val (.ref a), .val (.int (0 : Int32)), .val (.int (4 : Int32)), .val (.int b0), .val (.int (3 : Int32)), .val (.int (((b0 &&& (7 : Int32)) <<< ((6 : Int32) &&& 31)) ||| (0 : Int32))), .val (.int (128 : Int32)), .val (.int (191 : Int32)), .val (.int (4 : Int32)), .val (.int (1 : Int32)), .val (.int (128 : Int32))]) rfl rfl ?_
        refine ow_sipush C A4 d2_231 (v := 128) rfl rfl ?_
        refine ow_istore C A4 d2_234 (Ls' := #[.val (.ref a), .val (.int (0 : Int32)), .val (.int (4 : Int32)), .val (.int b0), .val (.int (3 : Int32)), .val (.int (((b0 &&& (7 : Int32)) <<< ((6 : Int32) &&& 31)) ||| (0 : Int32))), .val (.int (128 : Int32)), .val (.int (191 : Int32)), .val (.int (4 : Int32)), .val (.int (1 : Int32)), .val (.int (128 : Int32))]) rfl rfl ?_
        refine ow_sipush C A4 d2_236 (v := 191) rfl rfl ?_
        refine ow_istore C A4 d2_239 (Ls' := #[.val (.ref a), .val (.int (0 : Int32)), .val (.int (4 : Int32)), .val (.int b0), .val (.int (3 : Int32)), .val (.int (((b0 &&& (7 : Int32)) <<< ((6 : Int32) &&& 31)) ||| (0 : Int32))), .val (.int (128 : Int32)), .val (.int (191 : Int32)), .val (.int (4 : Int32)), .val (.int (1 : Int32)), .val (.int (128 : Int32))]) rfl rfl ?_
        refine ow_iinc C A4 d2_241 rfl (Ls' := #[.val (.ref a), .val (.int (0 : Int32)), .val (.int (4 : Int32)), .val (.int b0), .val (.int (3 : Int32)), .val (.int (((b0 &&& (7 : Int32)) <<< ((6 : Int32) &&& 31)) ||| (0 : Int32))), .val (.int (128 : Int32)), .val (.int (191 : Int32)), .val (.int (4 : Int32)), .val (.int (2 : Int32)), .val (.int (128 : Int32))]) rfl rfl ?_
        refine ow_goto C A4 d2_244 (by decide) (pc' := 170) (by decide) ?_
        refine ow_iload C A4 d2_170 rfl rfl ?_
        refine ow_iload C A4 d2_172 rfl rfl ?_
        refine ow_icmp_gt C A4 d2_174 (by decide) (pcY := 247) (by decide) (pcN := 177) rfl (fun z => absurd z (by decide)) (fun _ => ?_)
        refine ow_iloadN C A4 d2_177 rfl rfl ?_
        refine ow_iload C A4 d2_178 rfl rfl ?_
        refine ow_iadd C A4 d2_180 rfl ?_
        show OwnWP _ _ _ _ _ _ _ _ _ T4 (mkF m 181 #[.val (.ref a), .val (.int (0 : Int32)), .val (.int (4 : Int32)), .val (.int b0), .val (.int (3 : Int32)), .val (.int (((b0 &&& (7 : Int32)) <<< ((6 : Int32) &&& 31)) ||| (0 : Int32))), .val (.int (128 : Int32)), .val (.int (191 : Int32)), .val (.int (4 : Int32)), .val (.int (2 : Int32)), .val (.int (128 : Int32))] [(.int (2 : Int32))])
        refine ow_iload C A4 d2_181 rfl rfl ?_
        refine ow_icmp_ge C A4 d2_183 (by decide) (pcY := 199) (by decide) (pcN := 186) rfl (fun z => absurd (by decide) z) (fun _ => ?_)
        refine ow_aloadN C A4 d2_186 rfl rfl rfl ?_
        refine ow_iloadN C A4 d2_187 rfl rfl ?_
        refine ow_iload C A4 d2_188 rfl rfl ?_
        refine ow_iadd C A4 d2_190 rfl ?_
        show OwnWP _ _ _ _ _ _ _ _ _ T4 (mkF m 191 #[.val (.ref a), .val (.int (0 : Int32)), .val (.int (4 : Int32)), .val (.int b0), .val (.int (3 : Int32)), .val (.int (((b0 &&& (7 : Int32)) <<< ((6 : Int32) &&& 31)) ||| (0 : Int32))), .val (.int (128 : Int32)), .val (.int (191 : Int32)), .val (.int (4 : Int32)), .val (.int (2 : Int32)), .val (.int (128 : Int32))] [(.int (2 : Int32)), (.ref a)])
        refine ow_baload C A4 Va ⟨by decide, by decide⟩ (v := (.int x2)) rfl d2_191 rfl ?_
        refine ow_sipush C A4 d2_192 (v := 255) rfl rfl ?_
        refine ow_iand C A4 d2_195 rfl ?_
        rw [e2]
        refine ow_goto C A4 d2_196 (by decide) (pc' := 200) (by decide) ?_
        refine ow_istore C A4 d2_200 (Ls' := #[.val (.ref a), .val (.int (0 : Int32)), .val (.int (4 : Int32)), .val (.int b0), .val (.int (3 : Int32)), .val (.int (((b0 &&& (7 : Int32)) <<< ((6 : Int32) &&& 31)) ||| (0 : Int32))), .val (.int (128 : Int32)), .val (.int (191 : Int32)), .val (.int (4 : Int32)), .val (.int (2 : Int32)), .val (.int (128 : Int32))]) rfl rfl ?_
        refine ow_iload C A4 d2_202 rfl rfl ?_
        refine ow_iload C A4 d2_204 rfl rfl ?_
        refine ow_icmp_lt C A4 d2_206 (by decide) (pcY := 216) (by decide) (pcN := 209) rfl (fun z => absurd z (by decide)) (fun _ => ?_)
        refine ow_iload C A4 d2_209 rfl rfl ?_
        refine ow_iload C A4 d2_211 rfl rfl ?_
        refine ow_icmp_le C A4 d2_213 (by decide) (pcY := 218) (by decide) (pcN := 216) rfl (fun _ => ?_) (fun z => absurd z (by decide))
        refine ow_iload C A4 d2_218 rfl rfl ?_
        refine ow_bipush C A4 d2_220 (v := 6) rfl rfl ?_
        refine ow_ishl C A4 d2_222 rfl ?_
        refine ow_iload C A4 d2_223 rfl rfl ?_
        refine ow_bipush C A4 d2_225 (v := 63) rfl rfl ?_
        refine ow_iand C A4 d2_227 rfl ?_
        show OwnWP _ _ _ _ _ _ _ _ _ T4 (mkF m 228 #[.val (.ref a), .val (.int (0 : Int32)), .val (.int (4 : Int32)), .val (.int b0), .val (.int (3 : Int32)), .val (.int (((b0 &&& (7 : Int32)) <<< ((6 : Int32) &&& 31)) ||| (0 : Int32))), .val (.int (128 : Int32)), .val (.int (191 : Int32)), .val (.int (4 : Int32)), .val (.int (2 : Int32)), .val (.int (128 : Int32))] [(.int (0 : Int32)), (.int ((((b0 &&& (7 : Int32)) <<< ((6 : Int32) &&& 31)) ||| (0 : Int32)) <<< ((6 : Int32) &&& 31)))])
        refine ow_ior C A4 d2_228 rfl ?_
        refine ow_istore C A4 d2_229 (Ls' := #[.val (.ref a), .val (.int (0 : Int32)), .val (.int (4 : Int32)), .val (.int b0), .val (.int (3 : Int32)), .val (.int (((((b0 &&& (7 : Int32)) <<< ((6 : Int32) &&& 31)) ||| (0 : Int32)) <<< ((6 : Int32) &&& 31)) ||| (0 : Int32))), .val (.int (128 : Int32)), .val (.int (191 : Int32)), .val (.int (4 : Int32)), .val (.int (2 : Int32)), .val (.int (128 : Int32))]) rfl rfl ?_
        refine ow_sipush C A4 d2_231 (v := 128) rfl rfl ?_
        refine ow_istore C A4 d2_234 (Ls' := #[.val (.ref a), .val (.int (0 : Int32)), .val (.int (4 : Int32)), .val (.int b0), .val (.int (3 : Int32)), .val (.int (((((b0 &&& (7 : Int32)) <<< ((6 : Int32) &&& 31)) ||| (0 : Int32)) <<< ((6 : Int32) &&& 31)) ||| (0 : Int32))), .val (.int (128 : Int32)), .val (.int (191 : Int32)), .val (.int (4 : Int32)), .val (.int (2 : Int32)), .val (.int (128 : Int32))]) rfl rfl ?_
        refine ow_sipush C A4 d2_236 (v := 191) rfl rfl ?_
        refine ow_istore C A4 d2_239 (Ls' := #[.val (.ref a), .val (.int (0 : Int32)), .val (.int (4 : Int32)), .val (.int b0), .val (.int (3 : Int32)), .val (.int (((((b0 &&& (7 : Int32)) <<< ((6 : Int32) &&& 31)) ||| (0 : Int32)) <<< ((6 : Int32) &&& 31)) ||| (0 : Int32))), .val (.int (128 : Int32)), .val (.int (191 : Int32)), .val (.int (4 : Int32)), .val (.int (2 : Int32)), .val (.int (128 : Int32))]) rfl rfl ?_
        refine ow_iinc C A4 d2_241 rfl (Ls' := #[.val (.ref a), .val (.int (0 : Int32)), .val (.int (4 : Int32)), .val (.int b0), .val (.int (3 : Int32)), .val (.int (((((b0 &&& (7 : Int32)) <<< ((6 : Int32) &&& 31)) ||| (0 : Int32)) <<< ((6 : Int32) &&& 31)) ||| (0 : Int32))), .val (.int (128 : Int32)), .val (.int (191 : Int32)), .val (.int (4 : Int32)), .val (.int (3 : Int32)), .val (.int (128 : Int32))]) rfl rfl ?_
        refine ow_goto C A4 d2_244 (by decide) (pc' := 170) (by decide) ?_
        refine ow_iload C A4 d2_170 rfl rfl ?_
        refine ow_iload C A4 d2_172 rfl rfl ?_
        refine ow_icmp_gt C A4 d2_174 (by decide) (pcY := 247) (by decide) (pcN := 177) rfl (fun z => absurd z (by decide)) (fun _ => ?_)
        refine ow_iloadN C A4 d2_177 rfl rfl ?_
        refine ow_iload C A4 d2_178 rfl rfl ?_
        refine ow_iadd C A4 d2_180 rfl ?_
        show OwnWP _ _ _ _ _ _ _ _ _ T4 (mkF m 181 #[.val (.ref a), .val (.int (0 : Int32)), .val (.int (4 : Int32)), .val (.int b0), .val (.int (3 : Int32)), .val (.int (((((b0 &&& (7 : Int32)) <<< ((6 : Int32) &&& 31)) ||| (0 : Int32)) <<< ((6 : Int32) &&& 31)) ||| (0 : Int32))), .val (.int (128 : Int32)), .val (.int (191 : Int32)), .val (.int (4 : Int32)), .val (.int (3 : Int32)), .val (.int (128 : Int32))] [(.int (3 : Int32))])
        refine ow_iload C A4 d2_181 rfl rfl ?_
        refine ow_icmp_ge C A4 d2_183 (by decide) (pcY := 199) (by decide) (pcN := 186) rfl (fun z => absurd (by decide) z) (fun _ => ?_)
        refine ow_aloadN C A4 d2_186 rfl rfl rfl ?_
        refine ow_iloadN C A4 d2_187 rfl rfl ?_
        refine ow_iload C A4 d2_188 rfl rfl ?_
        refine ow_iadd C A4 d2_190 rfl ?_
        show OwnWP _ _ _ _ _ _ _ _ _ T4 (mkF m 191 #[.val (.ref a), .val (.int (0 : Int32)), .val (.int (4 : Int32)), .val (.int b0), .val (.int (3 : Int32)), .val (.int (((((b0 &&& (7 : Int32)) <<< ((6 : Int32) &&& 31)) ||| (0 : Int32)) <<< ((6 : Int32) &&& 31)) ||| (0 : Int32))), .val (.int (128 : Int32)), .val (.int (191 : Int32)), .val (.int (4 : Int32)), .val (.int (3 : Int32)), .val (.int (128 : Int32))] [(.int (3 : Int32)), (.ref a)])
        refine ow_baload C A4 Va ⟨by decide, by decide⟩ (v := (.int x3)) rfl d2_191 rfl ?_
        refine ow_sipush C A4 d2_192 (v := 255) rfl rfl ?_
        refine ow_iand C A4 d2_195 rfl ?_
        rw [e3]
        refine ow_goto C A4 d2_196 (by decide) (pc' := 200) (by decide) ?_
        refine ow_istore C A4 d2_200 (Ls' := #[.val (.ref a), .val (.int (0 : Int32)), .val (.int (4 : Int32)), .val (.int b0), .val (.int (3 : Int32)), .val (.int (((((b0 &&& (7 : Int32)) <<< ((6 : Int32) &&& 31)) ||| (0 : Int32)) <<< ((6 : Int32) &&& 31)) ||| (0 : Int32))), .val (.int (128 : Int32)), .val (.int (191 : Int32)), .val (.int (4 : Int32)), .val (.int (3 : Int32)), .val (.int (128 : Int32))]) rfl rfl ?_
        refine ow_iload C A4 d2_202 rfl rfl ?_
        refine ow_iload C A4 d2_204 rfl rfl ?_
        refine ow_icmp_lt C A4 d2_206 (by decide) (pcY := 216) (by decide) (pcN := 209) rfl (fun z => absurd z (by decide)) (fun _ => ?_)
        refine ow_iload C A4 d2_209 rfl rfl ?_
        refine ow_iload C A4 d2_211 rfl rfl ?_
        refine ow_icmp_le C A4 d2_213 (by decide) (pcY := 218) (by decide) (pcN := 216) rfl (fun _ => ?_) (fun z => absurd z (by decide))
        refine ow_iload C A4 d2_218 rfl rfl ?_
        refine ow_bipush C A4 d2_220 (v := 6) rfl rfl ?_
        refine ow_ishl C A4 d2_222 rfl ?_
        refine ow_iload C A4 d2_223 rfl rfl ?_
        refine ow_bipush C A4 d2_225 (v := 63) rfl rfl ?_
        refine ow_iand C A4 d2_227 rfl ?_
        show OwnWP _ _ _ _ _ _ _ _ _ T4 (mkF m 228 #[.val (.ref a), .val (.int (0 : Int32)), .val (.int (4 : Int32)), .val (.int b0), .val (.int (3 : Int32)), .val (.int (((((b0 &&& (7 : Int32)) <<< ((6 : Int32) &&& 31)) ||| (0 : Int32)) <<< ((6 : Int32) &&& 31)) ||| (0 : Int32))), .val (.int (128 : Int32)), .val (.int (191 : Int32)), .val (.int (4 : Int32)), .val (.int (3 : Int32)), .val (.int (128 : Int32))] [(.int (0 : Int32)), (.int ((((((b0 &&& (7 : Int32)) <<< ((6 : Int32) &&& 31)) ||| (0 : Int32)) <<< ((6 : Int32) &&& 31)) ||| (0 : Int32)) <<< ((6 : Int32) &&& 31)))])
        refine ow_ior C A4 d2_228 rfl ?_
        refine ow_istore C A4 d2_229 (Ls' := #[.val (.ref a), .val (.int (0 : Int32)), .val (.int (4 : Int32)), .val (.int b0), .val (.int (3 : Int32)), .val (.int (((((((b0 &&& (7 : Int32)) <<< ((6 : Int32) &&& 31)) ||| (0 : Int32)) <<< ((6 : Int32) &&& 31)) ||| (0 : Int32)) <<< ((6 : Int32) &&& 31)) ||| (0 : Int32))), .val (.int (128 : Int32)), .val (.int (191 : Int32)), .val (.int (4 : Int32)), .val (.int (3 : Int32)), .val (.int (128 : Int32))]) rfl rfl ?_
        refine ow_sipush C A4 d2_231 (v := 128) rfl rfl ?_
        refine ow_istore C A4 d2_234 (Ls' := #[.val (.ref a), .val (.int (0 : Int32)), .val (.int (4 : Int32)), .val (.int b0), .val (.int (3 : Int32)), .val (.int (((((((b0 &&& (7 : Int32)) <<< ((6 : Int32) &&& 31)) ||| (0 : Int32)) <<< ((6 : Int32) &&& 31)) ||| (0 : Int32)) <<< ((6 : Int32) &&& 31)) ||| (0 : Int32))), .val (.int (128 : Int32)), .val (.int (191 : Int32)), .val (.int (4 : Int32)), .val (.int (3 : Int32)), .val (.int (128 : Int32))]) rfl rfl ?_
        refine ow_sipush C A4 d2_236 (v := 191) rfl rfl ?_
        refine ow_istore C A4 d2_239 (Ls' := #[.val (.ref a), .val (.int (0 : Int32)), .val (.int (4 : Int32)), .val (.int b0), .val (.int (3 : Int32)), .val (.int (((((((b0 &&& (7 : Int32)) <<< ((6 : Int32) &&& 31)) ||| (0 : Int32)) <<< ((6 : Int32) &&& 31)) ||| (0 : Int32)) <<< ((6 : Int32) &&& 31)) ||| (0 : Int32))), .val (.int (128 : Int32)), .val (.int (191 : Int32)), .val (.int (4 : Int32)), .val (.int (3 : Int32)), .val (.int (128 : Int32))]) rfl rfl ?_
        refine ow_iinc C A4 d2_241 rfl (Ls' := #[.val (.ref a), .val (.int (0 : Int32)), .val (.int (4 : Int32)), .val (.int b0), .val (.int (3 : Int32)), .val (.int (((((((b0 &&& (7 : Int32)) <<< ((6 : Int32) &&& 31)) ||| (0 : Int32)) <<< ((6 : Int32) &&& 31)) ||| (0 : Int32)) <<< ((6 : Int32) &&& 31)) ||| (0 : Int32))), .val (.int (128 : Int32)), .val (.int (191 : Int32)), .val (.int (4 : Int32)), .val (.int (4 : Int32)), .val (.int (128 : Int32))]) rfl rfl ?_
        refine ow_goto C A4 d2_244 (by decide) (pc' := 170) (by decide) ?_
        refine ow_iload C A4 d2_170 rfl rfl ?_
        refine ow_iload C A4 d2_172 rfl rfl ?_
        refine ow_icmp_gt C A4 d2_174 (by decide) (pcY := 247) (by decide) (pcN := 177) rfl (fun _ => ?_) (fun z => absurd (by decide) z)
        refine ow_iload C A4 d2_247 rfl rfl ?_
        refine ow_ireturn C A4 (t := .int) rfl rfl (by simp) d2_249 (by decide) (by decide) ?_
        have z0 := own_m7 b0
        have z1 : (((b0 &&& (7 : Int32)) <<< ((6 : Int32) &&& 31)) ||| (0 : Int32)).toInt = (b0 &&& (7 : Int32)).toInt * 64 + 0 := own_push (b0 &&& (7 : Int32)) 128 (by omega) (by decide)
        have z2 : (((((b0 &&& (7 : Int32)) <<< ((6 : Int32) &&& 31)) ||| (0 : Int32)) <<< ((6 : Int32) &&& 31)) ||| (0 : Int32)).toInt = (((b0 &&& (7 : Int32)) <<< ((6 : Int32) &&& 31)) ||| (0 : Int32)).toInt * 64 + 0 := own_push (((b0 &&& (7 : Int32)) <<< ((6 : Int32) &&& 31)) ||| (0 : Int32)) 128 (by omega) (by decide)
        have z3 : (((((((b0 &&& (7 : Int32)) <<< ((6 : Int32) &&& 31)) ||| (0 : Int32)) <<< ((6 : Int32) &&& 31)) ||| (0 : Int32)) <<< ((6 : Int32) &&& 31)) ||| (0 : Int32)).toInt = (((((b0 &&& (7 : Int32)) <<< ((6 : Int32) &&& 31)) ||| (0 : Int32)) <<< ((6 : Int32) &&& 31)) ||| (0 : Int32)).toInt * 64 + 0 := own_push (((((b0 &&& (7 : Int32)) <<< ((6 : Int32) &&& 31)) ||| (0 : Int32)) <<< ((6 : Int32) &&& 31)) ||| (0 : Int32)) 128 (by omega) (by decide)
        exact ⟨rfl, _, rfl, by omega, by omega⟩
      · skip
        have iv5 : b0.toInt = 244 := own_eq32' hc145
        refine ow_sipush C A0 d2_148 (v := 143) rfl rfl ?_
        refine ow_goto C A0 d2_151 (by decide) (pc' := 157) (by decide) ?_
        refine ow_istore C A0 d2_157 (Ls' := #[.val (.ref a), .val (.int (0 : Int32)), .val (.int (4 : Int32)), .val (.int b0), .val (.int (3 : Int32)), .val (.int (b0 &&& (7 : Int32))), .val (.int (128 : Int32)), .val (.int (143 : Int32)), .unset, .unset, .unset]) rfl rfl ?_
        refine ow_iloadN C A0 d2_159 rfl rfl ?_
        refine ow_aloadN C A0 d2_160 rfl rfl rfl ?_
        refine ow_alen C A0 Va d2_161 rfl ?_
        refine ow_callS C A0 (argsL := [(.int (4 : Int32)), (.int (4 : Int32))]) (rm_min l Z a0 hw (4 : Int32) (4 : Int32) h0 []) tw_8 tw_9 tw_10 tw_11 (by decide) all0 (by decide) (by decide) (ck' := 0) (sk' := 0) rfl rfl (by decide) (by decide) rfl (lenOf pd_0 rfl) (S := []) rfl (W := 0) (Nat.le_of_eq rfl) d2_162 rfl ?_
        intro T6 v6 K6 hQ6 A6
        obtain ⟨rfl, ee6⟩ := hQ6
        rw [ee6] at A6 K6
        show OwnWP _ _ _ _ _ _ _ _ _ T6 (mkF m 165 #[.val (.ref a), .val (.int (0 : Int32)), .val (.int (4 : Int32)), .val (.int b0), .val (.int (3 : Int32)), .val (.int (b0 &&& (7 : Int32))), .val (.int (128 : Int32)), .val (.int (143 : Int32)), .unset, .unset, .unset] [(.int (4 : Int32))])
        refine ow_istore C A6 d2_165 (Ls' := #[.val (.ref a), .val (.int (0 : Int32)), .val (.int (4 : Int32)), .val (.int b0), .val (.int (3 : Int32)), .val (.int (b0 &&& (7 : Int32))), .val (.int (128 : Int32)), .val (.int (143 : Int32)), .val (.int (4 : Int32)), .unset, .unset]) rfl rfl ?_
        refine ow_iconst C A6 d2_167 (v := 1) rfl rfl ?_
        refine ow_istore C A6 d2_168 (Ls' := #[.val (.ref a), .val (.int (0 : Int32)), .val (.int (4 : Int32)), .val (.int b0), .val (.int (3 : Int32)), .val (.int (b0 &&& (7 : Int32))), .val (.int (128 : Int32)), .val (.int (143 : Int32)), .val (.int (4 : Int32)), .val (.int (1 : Int32)), .unset]) rfl rfl ?_
        refine ow_iload C A6 d2_170 rfl rfl ?_
        refine ow_iload C A6 d2_172 rfl rfl ?_
        refine ow_icmp_gt C A6 d2_174 (by decide) (pcY := 247) (by decide) (pcN := 177) rfl (fun z => absurd z (by decide)) (fun _ => ?_)
        refine ow_iloadN C A6 d2_177 rfl rfl ?_
        refine ow_iload C A6 d2_178 rfl rfl ?_
        refine ow_iadd C A6 d2_180 rfl ?_
        show OwnWP _ _ _ _ _ _ _ _ _ T6 (mkF m 181 #[.val (.ref a), .val (.int (0 : Int32)), .val (.int (4 : Int32)), .val (.int b0), .val (.int (3 : Int32)), .val (.int (b0 &&& (7 : Int32))), .val (.int (128 : Int32)), .val (.int (143 : Int32)), .val (.int (4 : Int32)), .val (.int (1 : Int32)), .unset] [(.int (1 : Int32))])
        refine ow_iload C A6 d2_181 rfl rfl ?_
        refine ow_icmp_ge C A6 d2_183 (by decide) (pcY := 199) (by decide) (pcN := 186) rfl (fun z => absurd (by decide) z) (fun _ => ?_)
        refine ow_aloadN C A6 d2_186 rfl rfl rfl ?_
        refine ow_iloadN C A6 d2_187 rfl rfl ?_
        refine ow_iload C A6 d2_188 rfl rfl ?_
        refine ow_iadd C A6 d2_190 rfl ?_
        show OwnWP _ _ _ _ _ _ _ _ _ T6 (mkF m 191 #[.val (.ref a), .val (.int (0 : Int32)), .val (.int (4 : Int32)), .val (.int b0), .val (.int (3 : Int32)), .val (.int (b0 &&& (7 : Int32))), .val (.int (128 : Int32)), .val (.int (143 : Int32)), .val (.int (4 : Int32)), .val (.int (1 : Int32)), .unset] [(.int (1 : Int32)), (.ref a)])
        refine ow_baload C A6 Va ⟨by decide, by decide⟩ (v := (.int x1)) rfl d2_191 rfl ?_
        refine ow_sipush C A6 d2_192 (v := 255) rfl rfl ?_
        refine ow_iand C A6 d2_195 rfl ?_
        rw [e1]
        refine ow_goto C A6 d2_196 (by decide) (pc' := 200) (by decide) ?_
        refine ow_istore C A6 d2_200 (Ls' := #[.val (.ref a), .val (.int (0 : Int32)), .val (.int (4 : Int32)), .val (.int b0), .val (.int (3 : Int32)), .val (.int (b0 &&& (7 : Int32))), .val (.int (128 : Int32)), .val (.int (143 : Int32)), .val (.int (4 : Int32)), .val (.int (1 : Int32)), .val (.int (128 : Int32))]) rfl rfl ?_
        refine ow_iload C A6 d2_202 rfl rfl ?_
        refine ow_iload C A6 d2_204 rfl rfl ?_
        refine ow_icmp_lt C A6 d2_206 (by decide) (pcY := 216) (by decide) (pcN := 209) rfl (fun z => absurd z (by decide)) (fun _ => ?_)
        refine ow_iload C A6 d2_209 rfl rfl ?_
        refine ow_iload C A6 d2_211 rfl rfl ?_
        refine ow_icmp_le C A6 d2_213 (by decide) (pcY := 218) (by decide) (pcN := 216) rfl (fun _ => ?_) (fun z => absurd z (by decide))
        refine ow_iload C A6 d2_218 rfl rfl ?_
        refine ow_bipush C A6 d2_220 (v := 6) rfl rfl ?_
        refine ow_ishl C A6 d2_222 rfl ?_
        refine ow_iload C A6 d2_223 rfl rfl ?_
        refine ow_bipush C A6 d2_225 (v := 63) rfl rfl ?_
        refine ow_iand C A6 d2_227 rfl ?_
        show OwnWP _ _ _ _ _ _ _ _ _ T6 (mkF m 228 #[.val (.ref a), .val (.int (0 : Int32)), .val (.int (4 : Int32)), .val (.int b0), .val (.int (3 : Int32)), .val (.int (b0 &&& (7 : Int32))), .val (.int (128 : Int32)), .val (.int (143 : Int32)), .val (.int (4 : Int32)), .val (.int (1 : Int32)), .val (.int (128 : Int32))] [(.int (0 : Int32)), (.int ((b0 &&& (7 : Int32)) <<< ((6 : Int32) &&& 31)))])
        refine ow_ior C A6 d2_228 rfl ?_
        refine ow_istore C A6 d2_229 (Ls' := #[.val (.ref a), .val (.int (0 : Int32)), .val (.int (4 : Int32)), .val (.int b0), .val (.int (3 : Int32)), .val (.int (((b0 &&& (7 : Int32)) <<< ((6 : Int32) &&& 31)) ||| (0 : Int32))), .val (.int (128 : Int32)), .val (.int (143 : Int32)), .val (.int (4 : Int32)), .val (.int (1 : Int32)), .val (.int (128 : Int32))]) rfl rfl ?_
        refine ow_sipush C A6 d2_231 (v := 128) rfl rfl ?_
        refine ow_istore C A6 d2_234 (Ls' := #[.val (.ref a), .val (.int (0 : Int32)), .val (.int (4 : Int32)), .val (.int b0), .val (.int (3 : Int32)), .val (.int (((b0 &&& (7 : Int32)) <<< ((6 : Int32) &&& 31)) ||| (0 : Int32))), .val (.int (128 : Int32)), .val (.int (143 : Int32)), .val (.int (4 : Int32)), .val (.int (1 : Int32)), .val (.int (128 : Int32))]) rfl rfl ?_
        refine ow_sipush C A6 d2_236 (v := 191) rfl rfl ?_
        refine ow_istore C A6 d2_239 (Ls' := #[.val (.ref a), .val (.int (0 : Int32)), .val (.int (4 : Int32)), .val (.int b0), .val (.int (3 : Int32)), .val (.int (((b0 &&& (7 : Int32)) <<< ((6 : Int32) &&& 31)) ||| (0 : Int32))), .val (.int (128 : Int32)), .val (.int (191 : Int32)), .val (.int (4 : Int32)), .val (.int (1 : Int32)), .val (.int (128 : Int32))]) rfl rfl ?_
        refine ow_iinc C A6 d2_241 rfl (Ls' := #[.val (.ref a), .val (.int (0 : Int32)), .val (.int (4 : Int32)), .val (.int b0), .val (.int (3 : Int32)), .val (.int (((b0 &&& (7 : Int32)) <<< ((6 : Int32) &&& 31)) ||| (0 : Int32))), .val (.int (128 : Int32)), .val (.int (191 : Int32)), .val (.int (4 : Int32)), .val (.int (2 : Int32)), .val (.int (128 : Int32))]) rfl rfl ?_
        refine ow_goto C A6 d2_244 (by decide) (pc' := 170) (by decide) ?_
        refine ow_iload C A6 d2_170 rfl rfl ?_
        refine ow_iload C A6 d2_172 rfl rfl ?_
        refine ow_icmp_gt C A6 d2_174 (by decide) (pcY := 247) (by decide) (pcN := 177) rfl (fun z => absurd z (by decide)) (fun _ => ?_)
        refine ow_iloadN C A6 d2_177 rfl rfl ?_
        refine ow_iload C A6 d2_178 rfl rfl ?_
        refine ow_iadd C A6 d2_180 rfl ?_
        show OwnWP _ _ _ _ _ _ _ _ _ T6 (mkF m 181 #[.val (.ref a), .val (.int (0 : Int32)), .val (.int (4 : Int32)), .val (.int b0), .val (.int (3 : Int32)), .val (.int (((b0 &&& (7 : Int32)) <<< ((6 : Int32) &&& 31)) ||| (0 : Int32))), .val (.int (128 : Int32)), .val (.int (191 : Int32)), .val (.int (4 : Int32)), .val (.int (2 : Int32)), .val (.int (128 : Int32))] [(.int (2 : Int32))])
        refine ow_iload C A6 d2_181 rfl rfl ?_
        refine ow_icmp_ge C A6 d2_183 (by decide) (pcY := 199) (by decide) (pcN := 186) rfl (fun z => absurd (by decide) z) (fun _ => ?_)
        refine ow_aloadN C A6 d2_186 rfl rfl rfl ?_
        refine ow_iloadN C A6 d2_187 rfl rfl ?_
        refine ow_iload C A6 d2_188 rfl rfl ?_
        refine ow_iadd C A6 d2_190 rfl ?_
        show OwnWP _ _ _ _ _ _ _ _ _ T6 (mkF m 191 #[.val (.ref a), .val (.int (0 : Int32)), .val (.int (4 : Int32)), .val (.int b0), .val (.int (3 : Int32)), .val (.int (((b0 &&& (7 : Int32)) <<< ((6 : Int32) &&& 31)) ||| (0 : Int32))), .val (.int (128 : Int32)), .val (.int (191 : Int32)), .val (.int (4 : Int32)), .val (.int (2 : Int32)), .val (.int (128 : Int32))] [(.int (2 : Int32)), (.ref a)])
        refine ow_baload C A6 Va ⟨by decide, by decide⟩ (v := (.int x2)) rfl d2_191 rfl ?_
        refine ow_sipush C A6 d2_192 (v := 255) rfl rfl ?_
        refine ow_iand C A6 d2_195 rfl ?_
        rw [e2]
        refine ow_goto C A6 d2_196 (by decide) (pc' := 200) (by decide) ?_
        refine ow_istore C A6 d2_200 (Ls' := #[.val (.ref a), .val (.int (0 : Int32)), .val (.int (4 : Int32)), .val (.int b0), .val (.int (3 : Int32)), .val (.int (((b0 &&& (7 : Int32)) <<< ((6 : Int32) &&& 31)) ||| (0 : Int32))), .val (.int (128 : Int32)), .val (.int (191 : Int32)), .val (.int (4 : Int32)), .val (.int (2 : Int32)), .val (.int (128 : Int32))]) rfl rfl ?_
        refine ow_iload C A6 d2_202 rfl rfl ?_
        refine ow_iload C A6 d2_204 rfl rfl ?_
        refine ow_icmp_lt C A6 d2_206 (by decide) (pcY := 216) (by decide) (pcN := 209) rfl (fun z => absurd z (by decide)) (fun _ => ?_)
        refine ow_iload C A6 d2_209 rfl rfl ?_
        refine ow_iload C A6 d2_211 rfl rfl ?_
        refine ow_icmp_le C A6 d2_213 (by decide) (pcY := 218) (by decide) (pcN := 216) rfl (fun _ => ?_) (fun z => absurd z (by decide))
        refine ow_iload C A6 d2_218 rfl rfl ?_
        refine ow_bipush C A6 d2_220 (v := 6) rfl rfl ?_
        refine ow_ishl C A6 d2_222 rfl ?_
        refine ow_iload C A6 d2_223 rfl rfl ?_
        refine ow_bipush C A6 d2_225 (v := 63) rfl rfl ?_
        refine ow_iand C A6 d2_227 rfl ?_
        show OwnWP _ _ _ _ _ _ _ _ _ T6 (mkF m 228 #[.val (.ref a), .val (.int (0 : Int32)), .val (.int (4 : Int32)), .val (.int b0), .val (.int (3 : Int32)), .val (.int (((b0 &&& (7 : Int32)) <<< ((6 : Int32) &&& 31)) ||| (0 : Int32))), .val (.int (128 : Int32)), .val (.int (191 : Int32)), .val (.int (4 : Int32)), .val (.int (2 : Int32)), .val (.int (128 : Int32))] [(.int (0 : Int32)), (.int ((((b0 &&& (7 : Int32)) <<< ((6 : Int32) &&& 31)) ||| (0 : Int32)) <<< ((6 : Int32) &&& 31)))])
        refine ow_ior C A6 d2_228 rfl ?_
        refine ow_istore C A6 d2_229 (Ls' := #[.val (.ref a), .val (.int (0 : Int32)), .val (.int (4 : Int32)), .val (.int b0), .val (.int (3 : Int32)), .val (.int (((((b0 &&& (7 : Int32)) <<< ((6 : Int32) &&& 31)) ||| (0 : Int32)) <<< ((6 : Int32) &&& 31)) ||| (0 : Int32))), .val (.int (128 : Int32)), .val (.int (191 : Int32)), .val (.int (4 : Int32)), .val (.int (2 : Int32)), .val (.int (128 : Int32))]) rfl rfl ?_
        refine ow_sipush C A6 d2_231 (v := 128) rfl rfl ?_
        refine ow_istore C A6 d2_234 (Ls' := #[.val (.ref a), .val (.int (0 : Int32)), .val (.int (4 : Int32)), .val (.int b0), .val (.int (3 : Int32)), .val (.int (((((b0 &&& (7 : Int32)) <<< ((6 : Int32) &&& 31)) ||| (0 : Int32)) <<< ((6 : Int32) &&& 31)) ||| (0 : Int32))), .val (.int (128 : Int32)), .val (.int (191 : Int32)), .val (.int (4 : Int32)), .val (.int (2 : Int32)), .val (.int (128 : Int32))]) rfl rfl ?_
        refine ow_sipush C A6 d2_236 (v := 191) rfl rfl ?_
        refine ow_istore C A6 d2_239 (Ls' := #[.val (.ref a), .val (.int (0 : Int32)), .val (.int (4 : Int32)), .val (.int b0), .val (.int (3 : Int32)), .val (.int (((((b0 &&& (7 : Int32)) <<< ((6 : Int32) &&& 31)) ||| (0 : Int32)) <<< ((6 : Int32) &&& 31)) ||| (0 : Int32))), .val (.int (128 : Int32)), .val (.int (191 : Int32)), .val (.int (4 : Int32)), .val (.int (2 : Int32)), .val (.int (128 : Int32))]) rfl rfl ?_
        refine ow_iinc C A6 d2_241 rfl (Ls' := #[.val (.ref a), .val (.int (0 : Int32)), .val (.int (4 : Int32)), .val (.int b0), .val (.int (3 : Int32)), .val (.int (((((b0 &&& (7 : Int32)) <<< ((6 : Int32) &&& 31)) ||| (0 : Int32)) <<< ((6 : Int32) &&& 31)) ||| (0 : Int32))), .val (.int (128 : Int32)), .val (.int (191 : Int32)), .val (.int (4 : Int32)), .val (.int (3 : Int32)), .val (.int (128 : Int32))]) rfl rfl ?_
        refine ow_goto C A6 d2_244 (by decide) (pc' := 170) (by decide) ?_
        refine ow_iload C A6 d2_170 rfl rfl ?_
        refine ow_iload C A6 d2_172 rfl rfl ?_
        refine ow_icmp_gt C A6 d2_174 (by decide) (pcY := 247) (by decide) (pcN := 177) rfl (fun z => absurd z (by decide)) (fun _ => ?_)
        refine ow_iloadN C A6 d2_177 rfl rfl ?_
        refine ow_iload C A6 d2_178 rfl rfl ?_
        refine ow_iadd C A6 d2_180 rfl ?_
        show OwnWP _ _ _ _ _ _ _ _ _ T6 (mkF m 181 #[.val (.ref a), .val (.int (0 : Int32)), .val (.int (4 : Int32)), .val (.int b0), .val (.int (3 : Int32)), .val (.int (((((b0 &&& (7 : Int32)) <<< ((6 : Int32) &&& 31)) ||| (0 : Int32)) <<< ((6 : Int32) &&& 31)) ||| (0 : Int32))), .val (.int (128 : Int32)), .val (.int (191 : Int32)), .val (.int (4 : Int32)), .val (.int (3 : Int32)), .val (.int (128 : Int32))] [(.int (3 : Int32))])
        refine ow_iload C A6 d2_181 rfl rfl ?_
        refine ow_icmp_ge C A6 d2_183 (by decide) (pcY := 199) (by decide) (pcN := 186) rfl (fun z => absurd (by decide) z) (fun _ => ?_)
        refine ow_aloadN C A6 d2_186 rfl rfl rfl ?_
        refine ow_iloadN C A6 d2_187 rfl rfl ?_
        refine ow_iload C A6 d2_188 rfl rfl ?_
        refine ow_iadd C A6 d2_190 rfl ?_
        show OwnWP _ _ _ _ _ _ _ _ _ T6 (mkF m 191 #[.val (.ref a), .val (.int (0 : Int32)), .val (.int (4 : Int32)), .val (.int b0), .val (.int (3 : Int32)), .val (.int (((((b0 &&& (7 : Int32)) <<< ((6 : Int32) &&& 31)) ||| (0 : Int32)) <<< ((6 : Int32) &&& 31)) ||| (0 : Int32))), .val (.int (128 : Int32)), .val (.int (191 : Int32)), .val (.int (4 : Int32)), .val (.int (3 : Int32)), .val (.int (128 : Int32))] [(.int (3 : Int32)), (.ref a)])
        refine ow_baload C A6 Va ⟨by decide, by decide⟩ (v := (.int x3)) rfl d2_191 rfl ?_
        refine ow_sipush C A6 d2_192 (v := 255) rfl rfl ?_
        refine ow_iand C A6 d2_195 rfl ?_
        rw [e3]
        refine ow_goto C A6 d2_196 (by decide) (pc' := 200) (by decide) ?_
        refine ow_istore C A6 d2_200 (Ls' := #[.val (.ref a), .val (.int (0 : Int32)), .val (.int (4 : Int32)), .val (.int b0), .val (.int (3 : Int32)), .val (.int (((((b0 &&& (7 : Int32)) <<< ((6 : Int32) &&& 31)) ||| (0 : Int32)) <<< ((6 : Int32) &&& 31)) ||| (0 : Int32))), .val (.int (128 : Int32)), .val (.int (191 : Int32)), .val (.int (4 : Int32)), .val (.int (3 : Int32)), .val (.int (128 : Int32))]) rfl rfl ?_
        refine ow_iload C A6 d2_202 rfl rfl ?_
        refine ow_iload C A6 d2_204 rfl rfl ?_
        refine ow_icmp_lt C A6 d2_206 (by decide) (pcY := 216) (by decide) (pcN := 209) rfl (fun z => absurd z (by decide)) (fun _ => ?_)
        refine ow_iload C A6 d2_209 rfl rfl ?_
        refine ow_iload C A6 d2_211 rfl rfl ?_
        refine ow_icmp_le C A6 d2_213 (by decide) (pcY := 218) (by decide) (pcN := 216) rfl (fun _ => ?_) (fun z => absurd z (by decide))
        refine ow_iload C A6 d2_218 rfl rfl ?_
        refine ow_bipush C A6 d2_220 (v := 6) rfl rfl ?_
        refine ow_ishl C A6 d2_222 rfl ?_
        refine ow_iload C A6 d2_223 rfl rfl ?_
        refine ow_bipush C A6 d2_225 (v := 63) rfl rfl ?_
        refine ow_iand C A6 d2_227 rfl ?_
        show OwnWP _ _ _ _ _ _ _ _ _ T6 (mkF m 228 #[.val (.ref a), .val (.int (0 : Int32)), .val (.int (4 : Int32)), .val (.int b0), .val (.int (3 : Int32)), .val (.int (((((b0 &&& (7 : Int32)) <<< ((6 : Int32) &&& 31)) ||| (0 : Int32)) <<< ((6 : Int32) &&& 31)) ||| (0 : Int32))), .val (.int (128 : Int32)), .val (.int (191 : Int32)), .val (.int (4 : Int32)), .val (.int (3 : Int32)), .val (.int (128 : Int32))] [(.int (0 : Int32)), (.int ((((((b0 &&& (7 : Int32)) <<< ((6 : Int32) &&& 31)) ||| (0 : Int32)) <<< ((6 : Int32) &&& 31)) ||| (0 : Int32)) <<< ((6 : Int32) &&& 31)))])
        refine ow_ior C A6 d2_228 rfl ?_
        refine ow_istore C A6 d2_229 (Ls' := #[.val (.ref a), .val (.int (0 : Int32)), .val (.int (4 : Int32)), .val (.int b0), .val (.int (3 : Int32)), .val (.int (((((((b0 &&& (7 : Int32)) <<< ((6 : Int32) &&& 31)) ||| (0 : Int32)) <<< ((6 : Int32) &&& 31)) ||| (0 : Int32)) <<< ((6 : Int32) &&& 31)) ||| (0 : Int32))), .val (.int (128 : Int32)), .val (.int (191 : Int32)), .val (.int (4 : Int32)), .val (.int (3 : Int32)), .val (.int (128 : Int32))]) rfl rfl ?_
        refine ow_sipush C A6 d2_231 (v := 128) rfl rfl ?_
        refine ow_istore C A6 d2_234 (Ls' := #[.val (.ref a), .val (.int (0 : Int32)), .val (.int (4 : Int32)), .val (.int b0), .val (.int (3 : Int32)), .val (.int (((((((b0 &&& (7 : Int32)) <<< ((6 : Int32) &&& 31)) ||| (0 : Int32)) <<< ((6 : Int32) &&& 31)) ||| (0 : Int32)) <<< ((6 : Int32) &&& 31)) ||| (0 : Int32))), .val (.int (128 : Int32)), .val (.int (191 : Int32)), .val (.int (4 : Int32)), .val (.int (3 : Int32)), .val (.int (128 : Int32))]) rfl rfl ?_
        refine ow_sipush C A6 d2_236 (v := 191) rfl rfl ?_
        refine ow_istore C A6 d2_239 (Ls' := #[.val (.ref a), .val (.int (0 : Int32)), .val (.int (4 : Int32)), .val (.int b0), .val (.int (3 : Int32)), .val (.int (((((((b0 &&& (7 : Int32)) <<< ((6 : Int32) &&& 31)) ||| (0 : Int32)) <<< ((6 : Int32) &&& 31)) ||| (0 : Int32)) <<< ((6 : Int32) &&& 31)) ||| (0 : Int32))), .val (.int (128 : Int32)), .val (.int (191 : Int32)), .val (.int (4 : Int32)), .val (.int (3 : Int32)), .val (.int (128 : Int32))]) rfl rfl ?_
        refine ow_iinc C A6 d2_241 rfl (Ls' := #[.val (.ref a), .val (.int (0 : Int32)), .val (.int (4 : Int32)), .val (.int b0), .val (.int (3 : Int32)), .val (.int (((((((b0 &&& (7 : Int32)) <<< ((6 : Int32) &&& 31)) ||| (0 : Int32)) <<< ((6 : Int32) &&& 31)) ||| (0 : Int32)) <<< ((6 : Int32) &&& 31)) ||| (0 : Int32))), .val (.int (128 : Int32)), .val (.int (191 : Int32)), .val (.int (4 : Int32)), .val (.int (4 : Int32)), .val (.int (128 : Int32))]) rfl rfl ?_
        refine ow_goto C A6 d2_244 (by decide) (pc' := 170) (by decide) ?_
        refine ow_iload C A6 d2_170 rfl rfl ?_
        refine ow_iload C A6 d2_172 rfl rfl ?_
        refine ow_icmp_gt C A6 d2_174 (by decide) (pcY := 247) (by decide) (pcN := 177) rfl (fun _ => ?_) (fun z => absurd (by decide) z)
        refine ow_iload C A6 d2_247 rfl rfl ?_
        refine ow_ireturn C A6 (t := .int) rfl rfl (by simp) d2_249 (by decide) (by decide) ?_
        have z0 := own_m7 b0
        have z1 : (((b0 &&& (7 : Int32)) <<< ((6 : Int32) &&& 31)) ||| (0 : Int32)).toInt = (b0 &&& (7 : Int32)).toInt * 64 + 0 := own_push (b0 &&& (7 : Int32)) 128 (by omega) (by decide)
        have z2 : (((((b0 &&& (7 : Int32)) <<< ((6 : Int32) &&& 31)) ||| (0 : Int32)) <<< ((6 : Int32) &&& 31)) ||| (0 : Int32)).toInt = (((b0 &&& (7 : Int32)) <<< ((6 : Int32) &&& 31)) ||| (0 : Int32)).toInt * 64 + 0 := own_push (((b0 &&& (7 : Int32)) <<< ((6 : Int32) &&& 31)) ||| (0 : Int32)) 128 (by omega) (by decide)
        have z3 : (((((((b0 &&& (7 : Int32)) <<< ((6 : Int32) &&& 31)) ||| (0 : Int32)) <<< ((6 : Int32) &&& 31)) ||| (0 : Int32)) <<< ((6 : Int32) &&& 31)) ||| (0 : Int32)).toInt = (((((b0 &&& (7 : Int32)) <<< ((6 : Int32) &&& 31)) ||| (0 : Int32)) <<< ((6 : Int32) &&& 31)) ||| (0 : Int32)).toInt * 64 + 0 := own_push (((((b0 &&& (7 : Int32)) <<< ((6 : Int32) &&& 31)) ||| (0 : Int32)) <<< ((6 : Int32) &&& 31)) ||| (0 : Int32)) 128 (by omega) (by decide)
        exact ⟨rfl, _, rfl, by omega, by omega⟩
    · skip
      have iv7 : ¬ (239 < b0.toInt) := own_nlt32' hc54
      refine ow_iconst C A0 d2_57 (v := 2) rfl rfl ?_
      refine ow_istore C A0 d2_58 (Ls' := #[.val (.ref a), .val (.int (0 : Int32)), .val (.int (4 : Int32)), .val (.int b0), .val (.int (2 : Int32)), .unset, .unset, .unset, .unset, .unset, .unset]) rfl rfl ?_
      refine ow_iloadN C A0 d2_60 rfl rfl ?_
      refine ow_bipush C A0 d2_61 (v := 15) rfl rfl ?_
      refine ow_iand C A0 d2_63 rfl ?_
      refine ow_istore C A0 d2_64 (Ls' := #[.val (.ref a), .val (.int (0 : Int32)), .val (.int (4 : Int32)), .val (.int b0), .val (.int (2 : Int32)), .val (.int (b0 &&& (15 : Int32))), .unset, .unset, .unset, .unset, .unset]) rfl rfl ?_
      refine ow_goto C A0 d2_66 (by decide) (pc' := 97) (by decide) ?_
      refine ow_iloadN C A0 d2_97 rfl rfl ?_
      refine ow_sipush C A0 d2_98 (v := 224) rfl rfl ?_
      refine ow_icmp_ne C A0 d2_101 (by decide) (pcY := 110) (by decide) (pcN := 104) rfl (fun _ => ?_) (fun z => absurd z (hn224))
      refine ow_iloadN C A0 d2_110 rfl rfl ?_
      refine ow_sipush C A0 d2_111 (v := 240) rfl rfl ?_
      refine ow_icmp_ne C A0 d2_114 (by decide) (pcY := 123) (by decide) (pcN := 117) rfl (fun _ => ?_) (fun z => absurd z (hn240))
      refine ow_sipush C A0 d2_123 (v := 128) rfl rfl ?_
      refine ow_istore C A0 d2_126 (Ls' := #[.val (.ref a), .val (.int (0 : Int32)), .val (.int (4 : Int32)), .val (.int b0), .val (.int (2 : Int32)), .val (.int (b0 &&& (15 : Int32))), .val (.int (128 : Int32)), .unset, .unset, .unset, .unset]) rfl rfl ?_
      refine ow_iloadN C A0 d2_128 rfl rfl ?_
      refine ow_sipush C A0 d2_129 (v := 237) rfl rfl ?_
      refine ow_icmp_ne C A0 d2_132 (by decide) (pcY := 141) (by decide) (pcN := 135) rfl (fun hc132 => ?_) (fun hc132 => ?_)
      · skip
        have iv8 : ¬ (b0.toInt = 237) := own_ne32' hc132
        refine ow_iloadN C A0 d2_141 rfl rfl ?_
        refine ow_sipush C A0 d2_142 (v := 244) rfl rfl ?_
        refine ow_icmp_ne C A0 d2_145 (by decide) (pcY := 154) (by decide) (pcN := 148) rfl (fun _ => ?_) (fun z => absurd z (own_ne32 (by show ¬ (b0.toInt = 244); omega)))
        refine ow_sipush C A0 d2_154 (v := 191) rfl rfl ?_
        refine ow_istore C A0 d2_157 (Ls' := #[.val (.ref a), .val (.int (0 : Int32)), .val (.int (4 : Int32)), .val (.int b0), .val (.int (2 : Int32)), .val (.int (b0 &&& (15 : Int32))), .val (.int (128 : Int32)), .val (.int (191 : Int32)), .unset, .unset, .unset]) rfl rfl ?_
        refine ow_iloadN C A0 d2_159 rfl rfl ?_
        refine ow_aloadN C A0 d2_160 rfl rfl rfl ?_
        refine ow_alen C A0 Va d2_161 rfl ?_
        refine ow_callS C A0 (argsL := [(.int (4 : Int32)), (.int (4 : Int32))]) (rm_min l Z a0 hw (4 : Int32) (4 : Int32) h0 []) tw_8 tw_9 tw_10 tw_11 (by decide) all0 (by decide) (by decide) (ck' := 0) (sk' := 0) rfl rfl (by decide) (by decide) rfl (lenOf pd_0 rfl) (S := []) rfl (W := 0) (Nat.le_of_eq rfl) d2_162 rfl ?_
        intro T9 v9 K9 hQ9 A9
        obtain ⟨rfl, ee9⟩ := hQ9
        rw [ee9] at A9 K9
        show OwnWP _ _ _ _ _ _ _ _ _ T9 (mkF m 165 #[.val (.ref a), .val (.int (0 : Int32)), .val (.int (4 : Int32)), .val (.int b0), .val (.int (2 : Int32)), .val (.int (b0 &&& (15 : Int32))), .val (.int (128 : Int32)), .val (.int (191 : Int32)), .unset, .unset, .unset] [(.int (4 : Int32))])
        refine ow_istore C A9 d2_165 (Ls' := #[.val (.ref a), .val (.int (0 : Int32)), .val (.int (4 : Int32)), .val (.int b0), .val (.int (2 : Int32)), .val (.int (b0 &&& (15 : Int32))), .val (.int (128 : Int32)), .val (.int (191 : Int32)), .val (.int (4 : Int32)), .unset, .unset]) rfl rfl ?_
        refine ow_iconst C A9 d2_167 (v := 1) rfl rfl ?_
        refine ow_istore C A9 d2_168 (Ls' := #[.val (.ref a), .val (.int (0 : Int32)), .val (.int (4 : Int32)), .val (.int b0), .val (.int (2 : Int32)), .val (.int (b0 &&& (15 : Int32))), .val (.int (128 : Int32)), .val (.int (191 : Int32)), .val (.int (4 : Int32)), .val (.int (1 : Int32)), .unset]) rfl rfl ?_
        refine ow_iload C A9 d2_170 rfl rfl ?_
        refine ow_iload C A9 d2_172 rfl rfl ?_
        refine ow_icmp_gt C A9 d2_174 (by decide) (pcY := 247) (by decide) (pcN := 177) rfl (fun z => absurd z (by decide)) (fun _ => ?_)
        refine ow_iloadN C A9 d2_177 rfl rfl ?_
        refine ow_iload C A9 d2_178 rfl rfl ?_
        refine ow_iadd C A9 d2_180 rfl ?_
        show OwnWP _ _ _ _ _ _ _ _ _ T9 (mkF m 181 #[.val (.ref a), .val (.int (0 : Int32)), .val (.int (4 : Int32)), .val (.int b0), .val (.int (2 : Int32)), .val (.int (b0 &&& (15 : Int32))), .val (.int (128 : Int32)), .val (.int (191 : Int32)), .val (.int (4 : Int32)), .val (.int (1 : Int32)), .unset] [(.int (1 : Int32))])
        refine ow_iload C A9 d2_181 rfl rfl ?_
        refine ow_icmp_ge C A9 d2_183 (by decide) (pcY := 199) (by decide) (pcN := 186) rfl (fun z => absurd (by decide) z) (fun _ => ?_)
        refine ow_aloadN C A9 d2_186 rfl rfl rfl ?_
        refine ow_iloadN C A9 d2_187 rfl rfl ?_
        refine ow_iload C A9 d2_188 rfl rfl ?_
        refine ow_iadd C A9 d2_190 rfl ?_
        show OwnWP _ _ _ _ _ _ _ _ _ T9 (mkF m 191 #[.val (.ref a), .val (.int (0 : Int32)), .val (.int (4 : Int32)), .val (.int b0), .val (.int (2 : Int32)), .val (.int (b0 &&& (15 : Int32))), .val (.int (128 : Int32)), .val (.int (191 : Int32)), .val (.int (4 : Int32)), .val (.int (1 : Int32)), .unset] [(.int (1 : Int32)), (.ref a)])
        refine ow_baload C A9 Va ⟨by decide, by decide⟩ (v := (.int x1)) rfl d2_191 rfl ?_
        refine ow_sipush C A9 d2_192 (v := 255) rfl rfl ?_
        refine ow_iand C A9 d2_195 rfl ?_
        rw [e1]
        refine ow_goto C A9 d2_196 (by decide) (pc' := 200) (by decide) ?_
        refine ow_istore C A9 d2_200 (Ls' := #[.val (.ref a), .val (.int (0 : Int32)), .val (.int (4 : Int32)), .val (.int b0), .val (.int (2 : Int32)), .val (.int (b0 &&& (15 : Int32))), .val (.int (128 : Int32)), .val (.int (191 : Int32)), .val (.int (4 : Int32)), .val (.int (1 : Int32)), .val (.int (128 : Int32))]) rfl rfl ?_
        refine ow_iload C A9 d2_202 rfl rfl ?_
        refine ow_iload C A9 d2_204 rfl rfl ?_
        refine ow_icmp_lt C A9 d2_206 (by decide) (pcY := 216) (by decide) (pcN := 209) rfl (fun z => absurd z (by decide)) (fun _ => ?_)
        refine ow_iload C A9 d2_209 rfl rfl ?_
        refine ow_iload C A9 d2_211 rfl rfl ?_
        refine ow_icmp_le C A9 d2_213 (by decide) (pcY := 218) (by decide) (pcN := 216) rfl (fun _ => ?_) (fun z => absurd z (by decide))
        refine ow_iload C A9 d2_218 rfl rfl ?_
        refine ow_bipush C A9 d2_220 (v := 6) rfl rfl ?_
        refine ow_ishl C A9 d2_222 rfl ?_
        refine ow_iload C A9 d2_223 rfl rfl ?_
        refine ow_bipush C A9 d2_225 (v := 63) rfl rfl ?_
        refine ow_iand C A9 d2_227 rfl ?_
        show OwnWP _ _ _ _ _ _ _ _ _ T9 (mkF m 228 #[.val (.ref a), .val (.int (0 : Int32)), .val (.int (4 : Int32)), .val (.int b0), .val (.int (2 : Int32)), .val (.int (b0 &&& (15 : Int32))), .val (.int (128 : Int32)), .val (.int (191 : Int32)), .val (.int (4 : Int32)), .val (.int (1 : Int32)), .val (.int (128 : Int32))] [(.int (0 : Int32)), (.int ((b0 &&& (15 : Int32)) <<< ((6 : Int32) &&& 31)))])
        refine ow_ior C A9 d2_228 rfl ?_
        refine ow_istore C A9 d2_229 (Ls' := #[.val (.ref a), .val (.int (0 : Int32)), .val (.int (4 : Int32)), .val (.int b0), .val (.int (2 : Int32)), .val (.int (((b0 &&& (15 : Int32)) <<< ((6 : Int32) &&& 31)) ||| (0 : Int32))), .val (.int (128 : Int32)), .val (.int (191 : Int32)), .val (.int (4 : Int32)), .val (.int (1 : Int32)), .val (.int (128 : Int32))]) rfl rfl ?_
        refine ow_sipush C A9 d2_231 (v := 128) rfl rfl ?_
        refine ow_istore C A9 d2_234 (Ls' := #[.val (.ref a), .val (.int (0 : Int32)), .val (.int (4 : Int32)), .val (.int b0), .val (.int (2 : Int32)), .val (.int (((b0 &&& (15 : Int32)) <<< ((6 : Int32) &&& 31)) ||| (0 : Int32))), .val (.int (128 : Int32)), .val (.int (191 : Int32)), .val (.int (4 : Int32)), .val (.int (1 : Int32)), .val (.int (128 : Int32))]) rfl rfl ?_
        refine ow_sipush C A9 d2_236 (v := 191) rfl rfl ?_
        refine ow_istore C A9 d2_239 (Ls' := #[.val (.ref a), .val (.int (0 : Int32)), .val (.int (4 : Int32)), .val (.int b0), .val (.int (2 : Int32)), .val (.int (((b0 &&& (15 : Int32)) <<< ((6 : Int32) &&& 31)) ||| (0 : Int32))), .val (.int (128 : Int32)), .val (.int (191 : Int32)), .val (.int (4 : Int32)), .val (.int (1 : Int32)), .val (.int (128 : Int32))]) rfl rfl ?_
        refine ow_iinc C A9 d2_241 rfl (Ls' := #[.val (.ref a), .val (.int (0 : Int32)), .val (.int (4 : Int32)), .val (.int b0), .val (.int (2 : Int32)), .val (.int (((b0 &&& (15 : Int32)) <<< ((6 : Int32) &&& 31)) ||| (0 : Int32))), .val (.int (128 : Int32)), .val (.int (191 : Int32)), .val (.int (4 : Int32)), .val (.int (2 : Int32)), .val (.int (128 : Int32))]) rfl rfl ?_
        refine ow_goto C A9 d2_244 (by decide) (pc' := 170) (by decide) ?_
        refine ow_iload C A9 d2_170 rfl rfl ?_
        refine ow_iload C A9 d2_172 rfl rfl ?_
        refine ow_icmp_gt C A9 d2_174 (by decide) (pcY := 247) (by decide) (pcN := 177) rfl (fun z => absurd z (by decide)) (fun _ => ?_)
        refine ow_iloadN C A9 d2_177 rfl rfl ?_
        refine ow_iload C A9 d2_178 rfl rfl ?_
        refine ow_iadd C A9 d2_180 rfl ?_
        show OwnWP _ _ _ _ _ _ _ _ _ T9 (mkF m 181 #[.val (.ref a), .val (.int (0 : Int32)), .val (.int (4 : Int32)), .val (.int b0), .val (.int (2 : Int32)), .val (.int (((b0 &&& (15 : Int32)) <<< ((6 : Int32) &&& 31)) ||| (0 : Int32))), .val (.int (128 : Int32)), .val (.int (191 : Int32)), .val (.int (4 : Int32)), .val (.int (2 : Int32)), .val (.int (128 : Int32))] [(.int (2 : Int32))])
        refine ow_iload C A9 d2_181 rfl rfl ?_
        refine ow_icmp_ge C A9 d2_183 (by decide) (pcY := 199) (by decide) (pcN := 186) rfl (fun z => absurd (by decide) z) (fun _ => ?_)
        refine ow_aloadN C A9 d2_186 rfl rfl rfl ?_
        refine ow_iloadN C A9 d2_187 rfl rfl ?_
        refine ow_iload C A9 d2_188 rfl rfl ?_
        refine ow_iadd C A9 d2_190 rfl ?_
        show OwnWP _ _ _ _ _ _ _ _ _ T9 (mkF m 191 #[.val (.ref a), .val (.int (0 : Int32)), .val (.int (4 : Int32)), .val (.int b0), .val (.int (2 : Int32)), .val (.int (((b0 &&& (15 : Int32)) <<< ((6 : Int32) &&& 31)) ||| (0 : Int32))), .val (.int (128 : Int32)), .val (.int (191 : Int32)), .val (.int (4 : Int32)), .val (.int (2 : Int32)), .val (.int (128 : Int32))] [(.int (2 : Int32)), (.ref a)])
        refine ow_baload C A9 Va ⟨by decide, by decide⟩ (v := (.int x2)) rfl d2_191 rfl ?_
        refine ow_sipush C A9 d2_192 (v := 255) rfl rfl ?_
        refine ow_iand C A9 d2_195 rfl ?_
        rw [e2]
        refine ow_goto C A9 d2_196 (by decide) (pc' := 200) (by decide) ?_
        refine ow_istore C A9 d2_200 (Ls' := #[.val (.ref a), .val (.int (0 : Int32)), .val (.int (4 : Int32)), .val (.int b0), .val (.int (2 : Int32)), .val (.int (((b0 &&& (15 : Int32)) <<< ((6 : Int32) &&& 31)) ||| (0 : Int32))), .val (.int (128 : Int32)), .val (.int (191 : Int32)), .val (.int (4 : Int32)), .val (.int (2 : Int32)), .val (.int (128 : Int32))]) rfl rfl ?_
        refine ow_iload C A9 d2_202 rfl rfl ?_
        refine ow_iload C A9 d2_204 rfl rfl ?_
        refine ow_icmp_lt C A9 d2_206 (by decide) (pcY := 216) (by decide) (pcN := 209) rfl (fun z => absurd z (by decide)) (fun _ => ?_)
        refine ow_iload C A9 d2_209 rfl rfl ?_
        refine ow_iload C A9 d2_211 rfl rfl ?_
        refine ow_icmp_le C A9 d2_213 (by decide) (pcY := 218) (by decide) (pcN := 216) rfl (fun _ => ?_) (fun z => absurd z (by decide))
        refine ow_iload C A9 d2_218 rfl rfl ?_
        refine ow_bipush C A9 d2_220 (v := 6) rfl rfl ?_
        refine ow_ishl C A9 d2_222 rfl ?_
        refine ow_iload C A9 d2_223 rfl rfl ?_
        refine ow_bipush C A9 d2_225 (v := 63) rfl rfl ?_
        refine ow_iand C A9 d2_227 rfl ?_
        show OwnWP _ _ _ _ _ _ _ _ _ T9 (mkF m 228 #[.val (.ref a), .val (.int (0 : Int32)), .val (.int (4 : Int32)), .val (.int b0), .val (.int (2 : Int32)), .val (.int (((b0 &&& (15 : Int32)) <<< ((6 : Int32) &&& 31)) ||| (0 : Int32))), .val (.int (128 : Int32)), .val (.int (191 : Int32)), .val (.int (4 : Int32)), .val (.int (2 : Int32)), .val (.int (128 : Int32))] [(.int (0 : Int32)), (.int ((((b0 &&& (15 : Int32)) <<< ((6 : Int32) &&& 31)) ||| (0 : Int32)) <<< ((6 : Int32) &&& 31)))])
        refine ow_ior C A9 d2_228 rfl ?_
        refine ow_istore C A9 d2_229 (Ls' := #[.val (.ref a), .val (.int (0 : Int32)), .val (.int (4 : Int32)), .val (.int b0), .val (.int (2 : Int32)), .val (.int (((((b0 &&& (15 : Int32)) <<< ((6 : Int32) &&& 31)) ||| (0 : Int32)) <<< ((6 : Int32) &&& 31)) ||| (0 : Int32))), .val (.int (128 : Int32)), .val (.int (191 : Int32)), .val (.int (4 : Int32)), .val (.int (2 : Int32)), .val (.int (128 : Int32))]) rfl rfl ?_
        refine ow_sipush C A9 d2_231 (v := 128) rfl rfl ?_
        refine ow_istore C A9 d2_234 (Ls' := #[.val (.ref a), .val (.int (0 : Int32)), .val (.int (4 : Int32)), .val (.int b0), .val (.int (2 : Int32)), .val (.int (((((b0 &&& (15 : Int32)) <<< ((6 : Int32) &&& 31)) ||| (0 : Int32)) <<< ((6 : Int32) &&& 31)) ||| (0 : Int32))), .val (.int (128 : Int32)), .val (.int (191 : Int32)), .val (.int (4 : Int32)), .val (.int (2 : Int32)), .val (.int (128 : Int32))]) rfl rfl ?_
        refine ow_sipush C A9 d2_236 (v := 191) rfl rfl ?_
        refine ow_istore C A9 d2_239 (Ls' := #[.val (.ref a), .val (.int (0 : Int32)), .val (.int (4 : Int32)), .val (.int b0), .val (.int (2 : Int32)), .val (.int (((((b0 &&& (15 : Int32)) <<< ((6 : Int32) &&& 31)) ||| (0 : Int32)) <<< ((6 : Int32) &&& 31)) ||| (0 : Int32))), .val (.int (128 : Int32)), .val (.int (191 : Int32)), .val (.int (4 : Int32)), .val (.int (2 : Int32)), .val (.int (128 : Int32))]) rfl rfl ?_
        refine ow_iinc C A9 d2_241 rfl (Ls' := #[.val (.ref a), .val (.int (0 : Int32)), .val (.int (4 : Int32)), .val (.int b0), .val (.int (2 : Int32)), .val (.int (((((b0 &&& (15 : Int32)) <<< ((6 : Int32) &&& 31)) ||| (0 : Int32)) <<< ((6 : Int32) &&& 31)) ||| (0 : Int32))), .val (.int (128 : Int32)), .val (.int (191 : Int32)), .val (.int (4 : Int32)), .val (.int (3 : Int32)), .val (.int (128 : Int32))]) rfl rfl ?_
        refine ow_goto C A9 d2_244 (by decide) (pc' := 170) (by decide) ?_
        refine ow_iload C A9 d2_170 rfl rfl ?_
        refine ow_iload C A9 d2_172 rfl rfl ?_
        refine ow_icmp_gt C A9 d2_174 (by decide) (pcY := 247) (by decide) (pcN := 177) rfl (fun _ => ?_) (fun z => absurd (by decide) z)
        refine ow_iload C A9 d2_247 rfl rfl ?_
        refine ow_ireturn C A9 (t := .int) rfl rfl (by simp) d2_249 (by decide) (by decide) ?_
        have z0 := own_m15 b0
        have z1 : (((b0 &&& (15 : Int32)) <<< ((6 : Int32) &&& 31)) ||| (0 : Int32)).toInt = (b0 &&& (15 : Int32)).toInt * 64 + 0 := own_push (b0 &&& (15 : Int32)) 128 (by omega) (by decide)
        have z2 : (((((b0 &&& (15 : Int32)) <<< ((6 : Int32) &&& 31)) ||| (0 : Int32)) <<< ((6 : Int32) &&& 31)) ||| (0 : Int32)).toInt = (((b0 &&& (15 : Int32)) <<< ((6 : Int32) &&& 31)) ||| (0 : Int32)).toInt * 64 + 0 := own_push (((b0 &&& (15 : Int32)) <<< ((6 : Int32) &&& 31)) ||| (0 : Int32)) 128 (by omega) (by decide)
        exact ⟨rfl, _, rfl, by omega, by omega⟩
      · skip
        have iv10 : b0.toInt = 237 := own_eq32' hc132
        refine ow_sipush C A0 d2_135 (v := 159) rfl rfl ?_
        refine ow_goto C A0 d2_138 (by decide) (pc' := 157) (by decide) ?_
        refine ow_istore C A0 d2_157 (Ls' := #[.val (.ref a), .val (.int (0 : Int32)), .val (.int (4 : Int32)), .val (.int b0), .val (.int (2 : Int32)), .val (.int (b0 &&& (15 : Int32))), .val (.int (128 : Int32)), .val (.int (159 : Int32)), .unset, .unset, .unset]) rfl rfl ?_
        refine ow_iloadN C A0 d2_159 rfl rfl ?_
        refine ow_aloadN C A0 d2_160 rfl rfl rfl ?_
        refine ow_alen C A0 Va d2_161 rfl ?_
        refine ow_callS C A0 (argsL := [(.int (4 : Int32)), (.int (4 : Int32))]) (rm_min l Z a0 hw (4 : Int32) (4 : Int32) h0 []) tw_8 tw_9 tw_10 tw_11 (by decide) all0 (by decide) (by decide) (ck' := 0) (sk' := 0) rfl rfl (by decide) (by decide) rfl (lenOf pd_0 rfl) (S := []) rfl (W := 0) (Nat.le_of_eq rfl) d2_162 rfl ?_
        intro T11 v11 K11 hQ11 A11
        obtain ⟨rfl, ee11⟩ := hQ11
        rw [ee11] at A11 K11
        show OwnWP _ _ _ _ _ _ _ _ _ T11 (mkF m 165 #[.val (.ref a), .val (.int (0 : Int32)), .val (.int (4 : Int32)), .val (.int b0), .val (.int (2 : Int32)), .val (.int (b0 &&& (15 : Int32))), .val (.int (128 : Int32)), .val (.int (159 : Int32)), .unset, .unset, .unset] [(.int (4 : Int32))])
        refine ow_istore C A11 d2_165 (Ls' := #[.val (.ref a), .val (.int (0 : Int32)), .val (.int (4 : Int32)), .val (.int b0), .val (.int (2 : Int32)), .val (.int (b0 &&& (15 : Int32))), .val (.int (128 : Int32)), .val (.int (159 : Int32)), .val (.int (4 : Int32)), .unset, .unset]) rfl rfl ?_
        refine ow_iconst C A11 d2_167 (v := 1) rfl rfl ?_
        refine ow_istore C A11 d2_168 (Ls' := #[.val (.ref a), .val (.int (0 : Int32)), .val (.int (4 : Int32)), .val (.int b0), .val (.int (2 : Int32)), .val (.int (b0 &&& (15 : Int32))), .val (.int (128 : Int32)), .val (.int (159 : Int32)), .val (.int (4 : Int32)), .val (.int (1 : Int32)), .unset]) rfl rfl ?_
        refine ow_iload C A11 d2_170 rfl rfl ?_
        refine ow_iload C A11 d2_172 rfl rfl ?_
        refine ow_icmp_gt C A11 d2_174 (by decide) (pcY := 247) (by decide) (pcN := 177) rfl (fun z => absurd z (by decide)) (fun _ => ?_)
        refine ow_iloadN C A11 d2_177 rfl rfl ?_
        refine ow_iload C A11 d2_178 rfl rfl ?_
        refine ow_iadd C A11 d2_180 rfl ?_
        show OwnWP _ _ _ _ _ _ _ _ _ T11 (mkF m 181 #[.val (.ref a), .val (.int (0 : Int32)), .val (.int (4 : Int32)), .val (.int b0), .val (.int (2 : Int32)), .val (.int (b0 &&& (15 : Int32))), .val (.int (128 : Int32)), .val (.int (159 : Int32)), .val (.int (4 : Int32)), .val (.int (1 : Int32)), .unset] [(.int (1 : Int32))])
        refine ow_iload C A11 d2_181 rfl rfl ?_
        refine ow_icmp_ge C A11 d2_183 (by decide) (pcY := 199) (by decide) (pcN := 186) rfl (fun z => absurd (by decide) z) (fun _ => ?_)
        refine ow_aloadN C A11 d2_186 rfl rfl rfl ?_
        refine ow_iloadN C A11 d2_187 rfl rfl ?_
        refine ow_iload C A11 d2_188 rfl rfl ?_
        refine ow_iadd C A11 d2_190 rfl ?_
        show OwnWP _ _ _ _ _ _ _ _ _ T11 (mkF m 191 #[.val (.ref a), .val (.int (0 : Int32)), .val (.int (4 : Int32)), .val (.int b0), .val (.int (2 : Int32)), .val (.int (b0 &&& (15 : Int32))), .val (.int (128 : Int32)), .val (.int (159 : Int32)), .val (.int (4 : Int32)), .val (.int (1 : Int32)), .unset] [(.int (1 : Int32)), (.ref a)])
        refine ow_baload C A11 Va ⟨by decide, by decide⟩ (v := (.int x1)) rfl d2_191 rfl ?_
        refine ow_sipush C A11 d2_192 (v := 255) rfl rfl ?_
        refine ow_iand C A11 d2_195 rfl ?_
        rw [e1]
        refine ow_goto C A11 d2_196 (by decide) (pc' := 200) (by decide) ?_
        refine ow_istore C A11 d2_200 (Ls' := #[.val (.ref a), .val (.int (0 : Int32)), .val (.int (4 : Int32)), .val (.int b0), .val (.int (2 : Int32)), .val (.int (b0 &&& (15 : Int32))), .val (.int (128 : Int32)), .val (.int (159 : Int32)), .val (.int (4 : Int32)), .val (.int (1 : Int32)), .val (.int (128 : Int32))]) rfl rfl ?_
        refine ow_iload C A11 d2_202 rfl rfl ?_
        refine ow_iload C A11 d2_204 rfl rfl ?_
        refine ow_icmp_lt C A11 d2_206 (by decide) (pcY := 216) (by decide) (pcN := 209) rfl (fun z => absurd z (by decide)) (fun _ => ?_)
        refine ow_iload C A11 d2_209 rfl rfl ?_
        refine ow_iload C A11 d2_211 rfl rfl ?_
        refine ow_icmp_le C A11 d2_213 (by decide) (pcY := 218) (by decide) (pcN := 216) rfl (fun _ => ?_) (fun z => absurd z (by decide))
        refine ow_iload C A11 d2_218 rfl rfl ?_
        refine ow_bipush C A11 d2_220 (v := 6) rfl rfl ?_
        refine ow_ishl C A11 d2_222 rfl ?_
        refine ow_iload C A11 d2_223 rfl rfl ?_
        refine ow_bipush C A11 d2_225 (v := 63) rfl rfl ?_
        refine ow_iand C A11 d2_227 rfl ?_
        show OwnWP _ _ _ _ _ _ _ _ _ T11 (mkF m 228 #[.val (.ref a), .val (.int (0 : Int32)), .val (.int (4 : Int32)), .val (.int b0), .val (.int (2 : Int32)), .val (.int (b0 &&& (15 : Int32))), .val (.int (128 : Int32)), .val (.int (159 : Int32)), .val (.int (4 : Int32)), .val (.int (1 : Int32)), .val (.int (128 : Int32))] [(.int (0 : Int32)), (.int ((b0 &&& (15 : Int32)) <<< ((6 : Int32) &&& 31)))])
        refine ow_ior C A11 d2_228 rfl ?_
        refine ow_istore C A11 d2_229 (Ls' := #[.val (.ref a), .val (.int (0 : Int32)), .val (.int (4 : Int32)), .val (.int b0), .val (.int (2 : Int32)), .val (.int (((b0 &&& (15 : Int32)) <<< ((6 : Int32) &&& 31)) ||| (0 : Int32))), .val (.int (128 : Int32)), .val (.int (159 : Int32)), .val (.int (4 : Int32)), .val (.int (1 : Int32)), .val (.int (128 : Int32))]) rfl rfl ?_
        refine ow_sipush C A11 d2_231 (v := 128) rfl rfl ?_
        refine ow_istore C A11 d2_234 (Ls' := #[.val (.ref a), .val (.int (0 : Int32)), .val (.int (4 : Int32)), .val (.int b0), .val (.int (2 : Int32)), .val (.int (((b0 &&& (15 : Int32)) <<< ((6 : Int32) &&& 31)) ||| (0 : Int32))), .val (.int (128 : Int32)), .val (.int (159 : Int32)), .val (.int (4 : Int32)), .val (.int (1 : Int32)), .val (.int (128 : Int32))]) rfl rfl ?_
        refine ow_sipush C A11 d2_236 (v := 191) rfl rfl ?_
        refine ow_istore C A11 d2_239 (Ls' := #[.val (.ref a), .val (.int (0 : Int32)), .val (.int (4 : Int32)), .val (.int b0), .val (.int (2 : Int32)), .val (.int (((b0 &&& (15 : Int32)) <<< ((6 : Int32) &&& 31)) ||| (0 : Int32))), .val (.int (128 : Int32)), .val (.int (191 : Int32)), .val (.int (4 : Int32)), .val (.int (1 : Int32)), .val (.int (128 : Int32))]) rfl rfl ?_
        refine ow_iinc C A11 d2_241 rfl (Ls' := #[.val (.ref a), .val (.int (0 : Int32)), .val (.int (4 : Int32)), .val (.int b0), .val (.int (2 : Int32)), .val (.int (((b0 &&& (15 : Int32)) <<< ((6 : Int32) &&& 31)) ||| (0 : Int32))), .val (.int (128 : Int32)), .val (.int (191 : Int32)), .val (.int (4 : Int32)), .val (.int (2 : Int32)), .val (.int (128 : Int32))]) rfl rfl ?_
        refine ow_goto C A11 d2_244 (by decide) (pc' := 170) (by decide) ?_
        refine ow_iload C A11 d2_170 rfl rfl ?_
        refine ow_iload C A11 d2_172 rfl rfl ?_
        refine ow_icmp_gt C A11 d2_174 (by decide) (pcY := 247) (by decide) (pcN := 177) rfl (fun z => absurd z (by decide)) (fun _ => ?_)
        refine ow_iloadN C A11 d2_177 rfl rfl ?_
        refine ow_iload C A11 d2_178 rfl rfl ?_
        refine ow_iadd C A11 d2_180 rfl ?_
        show OwnWP _ _ _ _ _ _ _ _ _ T11 (mkF m 181 #[.val (.ref a), .val (.int (0 : Int32)), .val (.int (4 : Int32)), .val (.int b0), .val (.int (2 : Int32)), .val (.int (((b0 &&& (15 : Int32)) <<< ((6 : Int32) &&& 31)) ||| (0 : Int32))), .val (.int (128 : Int32)), .val (.int (191 : Int32)), .val (.int (4 : Int32)), .val (.int (2 : Int32)), .val (.int (128 : Int32))] [(.int (2 : Int32))])
        refine ow_iload C A11 d2_181 rfl rfl ?_
        refine ow_icmp_ge C A11 d2_183 (by decide) (pcY := 199) (by decide) (pcN := 186) rfl (fun z => absurd (by decide) z) (fun _ => ?_)
        refine ow_aloadN C A11 d2_186 rfl rfl rfl ?_
        refine ow_iloadN C A11 d2_187 rfl rfl ?_
        refine ow_iload C A11 d2_188 rfl rfl ?_
        refine ow_iadd C A11 d2_190 rfl ?_
        show OwnWP _ _ _ _ _ _ _ _ _ T11 (mkF m 191 #[.val (.ref a), .val (.int (0 : Int32)), .val (.int (4 : Int32)), .val (.int b0), .val (.int (2 : Int32)), .val (.int (((b0 &&& (15 : Int32)) <<< ((6 : Int32) &&& 31)) ||| (0 : Int32))), .val (.int (128 : Int32)), .val (.int (191 : Int32)), .val (.int (4 : Int32)), .val (.int (2 : Int32)), .val (.int (128 : Int32))] [(.int (2 : Int32)), (.ref a)])
        refine ow_baload C A11 Va ⟨by decide, by decide⟩ (v := (.int x2)) rfl d2_191 rfl ?_
        refine ow_sipush C A11 d2_192 (v := 255) rfl rfl ?_
        refine ow_iand C A11 d2_195 rfl ?_
        rw [e2]
        refine ow_goto C A11 d2_196 (by decide) (pc' := 200) (by decide) ?_
        refine ow_istore C A11 d2_200 (Ls' := #[.val (.ref a), .val (.int (0 : Int32)), .val (.int (4 : Int32)), .val (.int b0), .val (.int (2 : Int32)), .val (.int (((b0 &&& (15 : Int32)) <<< ((6 : Int32) &&& 31)) ||| (0 : Int32))), .val (.int (128 : Int32)), .val (.int (191 : Int32)), .val (.int (4 : Int32)), .val (.int (2 : Int32)), .val (.int (128 : Int32))]) rfl rfl ?_
        refine ow_iload C A11 d2_202 rfl rfl ?_
        refine ow_iload C A11 d2_204 rfl rfl ?_
        refine ow_icmp_lt C A11 d2_206 (by decide) (pcY := 216) (by decide) (pcN := 209) rfl (fun z => absurd z (by decide)) (fun _ => ?_)
        refine ow_iload C A11 d2_209 rfl rfl ?_
        refine ow_iload C A11 d2_211 rfl rfl ?_
        refine ow_icmp_le C A11 d2_213 (by decide) (pcY := 218) (by decide) (pcN := 216) rfl (fun _ => ?_) (fun z => absurd z (by decide))
        refine ow_iload C A11 d2_218 rfl rfl ?_
        refine ow_bipush C A11 d2_220 (v := 6) rfl rfl ?_
        refine ow_ishl C A11 d2_222 rfl ?_
        refine ow_iload C A11 d2_223 rfl rfl ?_
        refine ow_bipush C A11 d2_225 (v := 63) rfl rfl ?_
        refine ow_iand C A11 d2_227 rfl ?_
        show OwnWP _ _ _ _ _ _ _ _ _ T11 (mkF m 228 #[.val (.ref a), .val (.int (0 : Int32)), .val (.int (4 : Int32)), .val (.int b0), .val (.int (2 : Int32)), .val (.int (((b0 &&& (15 : Int32)) <<< ((6 : Int32) &&& 31)) ||| (0 : Int32))), .val (.int (128 : Int32)), .val (.int (191 : Int32)), .val (.int (4 : Int32)), .val (.int (2 : Int32)), .val (.int (128 : Int32))] [(.int (0 : Int32)), (.int ((((b0 &&& (15 : Int32)) <<< ((6 : Int32) &&& 31)) ||| (0 : Int32)) <<< ((6 : Int32) &&& 31)))])
        refine ow_ior C A11 d2_228 rfl ?_
        refine ow_istore C A11 d2_229 (Ls' := #[.val (.ref a), .val (.int (0 : Int32)), .val (.int (4 : Int32)), .val (.int b0), .val (.int (2 : Int32)), .val (.int (((((b0 &&& (15 : Int32)) <<< ((6 : Int32) &&& 31)) ||| (0 : Int32)) <<< ((6 : Int32) &&& 31)) ||| (0 : Int32))), .val (.int (128 : Int32)), .val (.int (191 : Int32)), .val (.int (4 : Int32)), .val (.int (2 : Int32)), .val (.int (128 : Int32))]) rfl rfl ?_
        refine ow_sipush C A11 d2_231 (v := 128) rfl rfl ?_
        refine ow_istore C A11 d2_234 (Ls' := #[.val (.ref a), .val (.int (0 : Int32)), .val (.int (4 : Int32)), .val (.int b0), .val (.int (2 : Int32)), .val (.int (((((b0 &&& (15 : Int32)) <<< ((6 : Int32) &&& 31)) ||| (0 : Int32)) <<< ((6 : Int32) &&& 31)) ||| (0 : Int32))), .val (.int (128 : Int32)), .val (.int (191 : Int32)), .val (.int (4 : Int32)), .val (.int (2 : Int32)), .val (.int (128 : Int32))]) rfl rfl ?_
        refine ow_sipush C A11 d2_236 (v := 191) rfl rfl ?_
        refine ow_istore C A11 d2_239 (Ls' := #[.val (.ref a), .val (.int (0 : Int32)), .val (.int (4 : Int32)), .val (.int b0), .val (.int (2 : Int32)), .val (.int (((((b0 &&& (15 : Int32)) <<< ((6 : Int32) &&& 31)) ||| (0 : Int32)) <<< ((6 : Int32) &&& 31)) ||| (0 : Int32))), .val (.int (128 : Int32)), .val (.int (191 : Int32)), .val (.int (4 : Int32)), .val (.int (2 : Int32)), .val (.int (128 : Int32))]) rfl rfl ?_
        refine ow_iinc C A11 d2_241 rfl (Ls' := #[.val (.ref a), .val (.int (0 : Int32)), .val (.int (4 : Int32)), .val (.int b0), .val (.int (2 : Int32)), .val (.int (((((b0 &&& (15 : Int32)) <<< ((6 : Int32) &&& 31)) ||| (0 : Int32)) <<< ((6 : Int32) &&& 31)) ||| (0 : Int32))), .val (.int (128 : Int32)), .val (.int (191 : Int32)), .val (.int (4 : Int32)), .val (.int (3 : Int32)), .val (.int (128 : Int32))]) rfl rfl ?_
        refine ow_goto C A11 d2_244 (by decide) (pc' := 170) (by decide) ?_
        refine ow_iload C A11 d2_170 rfl rfl ?_
        refine ow_iload C A11 d2_172 rfl rfl ?_
        refine ow_icmp_gt C A11 d2_174 (by decide) (pcY := 247) (by decide) (pcN := 177) rfl (fun _ => ?_) (fun z => absurd (by decide) z)
        refine ow_iload C A11 d2_247 rfl rfl ?_
        refine ow_ireturn C A11 (t := .int) rfl rfl (by simp) d2_249 (by decide) (by decide) ?_
        have z0 := own_m15 b0
        have z1 : (((b0 &&& (15 : Int32)) <<< ((6 : Int32) &&& 31)) ||| (0 : Int32)).toInt = (b0 &&& (15 : Int32)).toInt * 64 + 0 := own_push (b0 &&& (15 : Int32)) 128 (by omega) (by decide)
        have z2 : (((((b0 &&& (15 : Int32)) <<< ((6 : Int32) &&& 31)) ||| (0 : Int32)) <<< ((6 : Int32) &&& 31)) ||| (0 : Int32)).toInt = (((b0 &&& (15 : Int32)) <<< ((6 : Int32) &&& 31)) ||| (0 : Int32)).toInt * 64 + 0 := own_push (((b0 &&& (15 : Int32)) <<< ((6 : Int32) &&& 31)) ||| (0 : Int32)) 128 (by omega) (by decide)
        exact ⟨rfl, _, rfl, by omega, by omega⟩
  · skip
    have iv12 : ¬ (223 < b0.toInt) := own_nlt32' hc28
    refine ow_iconst C A0 d2_31 (v := 1) rfl rfl ?_
    refine ow_istore C A0 d2_32 (Ls' := #[.val (.ref a), .val (.int (0 : Int32)), .val (.int (4 : Int32)), .val (.int b0), .val (.int (1 : Int32)), .unset, .unset, .unset, .unset, .unset, .unset]) rfl rfl ?_
    refine ow_iloadN C A0 d2_34 rfl rfl ?_
    refine ow_bipush C A0 d2_35 (v := 31) rfl rfl ?_
    refine ow_iand C A0 d2_37 rfl ?_
    refine ow_istore C A0 d2_38 (Ls' := #[.val (.ref a), .val (.int (0 : Int32)), .val (.int (4 : Int32)), .val (.int b0), .val (.int (1 : Int32)), .val (.int (b0 &&& (31 : Int32))), .unset, .unset, .unset, .unset, .unset]) rfl rfl ?_
    refine ow_goto C A0 d2_40 (by decide) (pc' := 97) (by decide) ?_
    refine ow_iloadN C A0 d2_97 rfl rfl ?_
    refine ow_sipush C A0 d2_98 (v := 224) rfl rfl ?_
    refine ow_icmp_ne C A0 d2_101 (by decide) (pcY := 110) (by decide) (pcN := 104) rfl (fun _ => ?_) (fun z => absurd z (hn224))
    refine ow_iloadN C A0 d2_110 rfl rfl ?_
    refine ow_sipush C A0 d2_111 (v := 240) rfl rfl ?_
    refine ow_icmp_ne C A0 d2_114 (by decide) (pcY := 123) (by decide) (pcN := 117) rfl (fun _ => ?_) (fun z => absurd z (hn240))
    refine ow_sipush C A0 d2_123 (v := 128) rfl rfl ?_
    refine ow_istore C A0 d2_126 (Ls' := #[.val (.ref a), .val (.int (0 : Int32)), .val (.int (4 : Int32)), .val (.int b0), .val (.int (1 : Int32)), .val (.int (b0 &&& (31 : Int32))), .val (.int (128 : Int32)), .unset, .unset, .unset, .unset]) rfl rfl ?_
    refine ow_iloadN C A0 d2_128 rfl rfl ?_
    refine ow_sipush C A0 d2_129 (v := 237) rfl rfl ?_
    refine ow_icmp_ne C A0 d2_132 (by decide) (pcY := 141) (by decide) (pcN := 135) rfl (fun _ => ?_) (fun z => absurd z (own_ne32 (by show ¬ (b0.toInt = 237); omega)))
    refine ow_iloadN C A0 d2_141 rfl rfl ?_
    refine ow_sipush C A0 d2_142 (v := 244) rfl rfl ?_
    refine ow_icmp_ne C A0 d2_145 (by decide) (pcY := 154) (by decide) (pcN := 148) rfl (fun _ => ?_) (fun z => absurd z (own_ne32 (by show ¬ (b0.toInt = 244); omega)))
    refine ow_sipush C A0 d2_154 (v := 191) rfl rfl ?_
    refine ow_istore C A0 d2_157 (Ls' := #[.val (.ref a), .val (.int (0 : Int32)), .val (.int (4 : Int32)), .val (.int b0), .val (.int (1 : Int32)), .val (.int (b0 &&& (31 : Int32))), .val (.int (128 : Int32)), .val (.int (191 : Int32)), .unset, .unset, .unset]) rfl rfl ?_
    refine ow_iloadN C A0 d2_159 rfl rfl ?_
    refine ow_aloadN C A0 d2_160 rfl rfl rfl ?_
    refine ow_alen C A0 Va d2_161 rfl ?_
    refine ow_callS C A0 (argsL := [(.int (4 : Int32)), (.int (4 : Int32))]) (rm_min l Z a0 hw (4 : Int32) (4 : Int32) h0 []) tw_8 tw_9 tw_10 tw_11 (by decide) all0 (by decide) (by decide) (ck' := 0) (sk' := 0) rfl rfl (by decide) (by decide) rfl (lenOf pd_0 rfl) (S := []) rfl (W := 0) (Nat.le_of_eq rfl) d2_162 rfl ?_
    intro T13 v13 K13 hQ13 A13
    obtain ⟨rfl, ee13⟩ := hQ13
    rw [ee13] at A13 K13
    show OwnWP _ _ _ _ _ _ _ _ _ T13 (mkF m 165 #[.val (.ref a), .val (.int (0 : Int32)), .val (.int (4 : Int32)), .val (.int b0), .val (.int (1 : Int32)), .val (.int (b0 &&& (31 : Int32))), .val (.int (128 : Int32)), .val (.int (191 : Int32)), .unset, .unset, .unset] [(.int (4 : Int32))])
    refine ow_istore C A13 d2_165 (Ls' := #[.val (.ref a), .val (.int (0 : Int32)), .val (.int (4 : Int32)), .val (.int b0), .val (.int (1 : Int32)), .val (.int (b0 &&& (31 : Int32))), .val (.int (128 : Int32)), .val (.int (191 : Int32)), .val (.int (4 : Int32)), .unset, .unset]) rfl rfl ?_
    refine ow_iconst C A13 d2_167 (v := 1) rfl rfl ?_
    refine ow_istore C A13 d2_168 (Ls' := #[.val (.ref a), .val (.int (0 : Int32)), .val (.int (4 : Int32)), .val (.int b0), .val (.int (1 : Int32)), .val (.int (b0 &&& (31 : Int32))), .val (.int (128 : Int32)), .val (.int (191 : Int32)), .val (.int (4 : Int32)), .val (.int (1 : Int32)), .unset]) rfl rfl ?_
    refine ow_iload C A13 d2_170 rfl rfl ?_
    refine ow_iload C A13 d2_172 rfl rfl ?_
    refine ow_icmp_gt C A13 d2_174 (by decide) (pcY := 247) (by decide) (pcN := 177) rfl (fun z => absurd z (by decide)) (fun _ => ?_)
    refine ow_iloadN C A13 d2_177 rfl rfl ?_
    refine ow_iload C A13 d2_178 rfl rfl ?_
    refine ow_iadd C A13 d2_180 rfl ?_
    show OwnWP _ _ _ _ _ _ _ _ _ T13 (mkF m 181 #[.val (.ref a), .val (.int (0 : Int32)), .val (.int (4 : Int32)), .val (.int b0), .val (.int (1 : Int32)), .val (.int (b0 &&& (31 : Int32))), .val (.int (128 : Int32)), .val (.int (191 : Int32)), .val (.int (4 : Int32)), .val (.int (1 : Int32)), .unset] [(.int (1 : Int32))])
    refine ow_iload C A13 d2_181 rfl rfl ?_
    refine ow_icmp_ge C A13 d2_183 (by decide) (pcY := 199) (by decide) (pcN := 186) rfl (fun z => absurd (by decide) z) (fun _ => ?_)
    refine ow_aloadN C A13 d2_186 rfl rfl rfl ?_
    refine ow_iloadN C A13 d2_187 rfl rfl ?_
    refine ow_iload C A13 d2_188 rfl rfl ?_
    refine ow_iadd C A13 d2_190 rfl ?_
    show OwnWP _ _ _ _ _ _ _ _ _ T13 (mkF m 191 #[.val (.ref a), .val (.int (0 : Int32)), .val (.int (4 : Int32)), .val (.int b0), .val (.int (1 : Int32)), .val (.int (b0 &&& (31 : Int32))), .val (.int (128 : Int32)), .val (.int (191 : Int32)), .val (.int (4 : Int32)), .val (.int (1 : Int32)), .unset] [(.int (1 : Int32)), (.ref a)])
    refine ow_baload C A13 Va ⟨by decide, by decide⟩ (v := (.int x1)) rfl d2_191 rfl ?_
    refine ow_sipush C A13 d2_192 (v := 255) rfl rfl ?_
    refine ow_iand C A13 d2_195 rfl ?_
    rw [e1]
    refine ow_goto C A13 d2_196 (by decide) (pc' := 200) (by decide) ?_
    refine ow_istore C A13 d2_200 (Ls' := #[.val (.ref a), .val (.int (0 : Int32)), .val (.int (4 : Int32)), .val (.int b0), .val (.int (1 : Int32)), .val (.int (b0 &&& (31 : Int32))), .val (.int (128 : Int32)), .val (.int (191 : Int32)), .val (.int (4 : Int32)), .val (.int (1 : Int32)), .val (.int (128 : Int32))]) rfl rfl ?_
    refine ow_iload C A13 d2_202 rfl rfl ?_
    refine ow_iload C A13 d2_204 rfl rfl ?_
    refine ow_icmp_lt C A13 d2_206 (by decide) (pcY := 216) (by decide) (pcN := 209) rfl (fun z => absurd z (by decide)) (fun _ => ?_)
    refine ow_iload C A13 d2_209 rfl rfl ?_
    refine ow_iload C A13 d2_211 rfl rfl ?_
    refine ow_icmp_le C A13 d2_213 (by decide) (pcY := 218) (by decide) (pcN := 216) rfl (fun _ => ?_) (fun z => absurd z (by decide))
    refine ow_iload C A13 d2_218 rfl rfl ?_
    refine ow_bipush C A13 d2_220 (v := 6) rfl rfl ?_
    refine ow_ishl C A13 d2_222 rfl ?_
    refine ow_iload C A13 d2_223 rfl rfl ?_
    refine ow_bipush C A13 d2_225 (v := 63) rfl rfl ?_
    refine ow_iand C A13 d2_227 rfl ?_
    show OwnWP _ _ _ _ _ _ _ _ _ T13 (mkF m 228 #[.val (.ref a), .val (.int (0 : Int32)), .val (.int (4 : Int32)), .val (.int b0), .val (.int (1 : Int32)), .val (.int (b0 &&& (31 : Int32))), .val (.int (128 : Int32)), .val (.int (191 : Int32)), .val (.int (4 : Int32)), .val (.int (1 : Int32)), .val (.int (128 : Int32))] [(.int (0 : Int32)), (.int ((b0 &&& (31 : Int32)) <<< ((6 : Int32) &&& 31)))])
    refine ow_ior C A13 d2_228 rfl ?_
    refine ow_istore C A13 d2_229 (Ls' := #[.val (.ref a), .val (.int (0 : Int32)), .val (.int (4 : Int32)), .val (.int b0), .val (.int (1 : Int32)), .val (.int (((b0 &&& (31 : Int32)) <<< ((6 : Int32) &&& 31)) ||| (0 : Int32))), .val (.int (128 : Int32)), .val (.int (191 : Int32)), .val (.int (4 : Int32)), .val (.int (1 : Int32)), .val (.int (128 : Int32))]) rfl rfl ?_
    refine ow_sipush C A13 d2_231 (v := 128) rfl rfl ?_
    refine ow_istore C A13 d2_234 (Ls' := #[.val (.ref a), .val (.int (0 : Int32)), .val (.int (4 : Int32)), .val (.int b0), .val (.int (1 : Int32)), .val (.int (((b0 &&& (31 : Int32)) <<< ((6 : Int32) &&& 31)) ||| (0 : Int32))), .val (.int (128 : Int32)), .val (.int (191 : Int32)), .val (.int (4 : Int32)), .val (.int (1 : Int32)), .val (.int (128 : Int32))]) rfl rfl ?_
    refine ow_sipush C A13 d2_236 (v := 191) rfl rfl ?_
    refine ow_istore C A13 d2_239 (Ls' := #[.val (.ref a), .val (.int (0 : Int32)), .val (.int (4 : Int32)), .val (.int b0), .val (.int (1 : Int32)), .val (.int (((b0 &&& (31 : Int32)) <<< ((6 : Int32) &&& 31)) ||| (0 : Int32))), .val (.int (128 : Int32)), .val (.int (191 : Int32)), .val (.int (4 : Int32)), .val (.int (1 : Int32)), .val (.int (128 : Int32))]) rfl rfl ?_
    refine ow_iinc C A13 d2_241 rfl (Ls' := #[.val (.ref a), .val (.int (0 : Int32)), .val (.int (4 : Int32)), .val (.int b0), .val (.int (1 : Int32)), .val (.int (((b0 &&& (31 : Int32)) <<< ((6 : Int32) &&& 31)) ||| (0 : Int32))), .val (.int (128 : Int32)), .val (.int (191 : Int32)), .val (.int (4 : Int32)), .val (.int (2 : Int32)), .val (.int (128 : Int32))]) rfl rfl ?_
    refine ow_goto C A13 d2_244 (by decide) (pc' := 170) (by decide) ?_
    refine ow_iload C A13 d2_170 rfl rfl ?_
    refine ow_iload C A13 d2_172 rfl rfl ?_
    refine ow_icmp_gt C A13 d2_174 (by decide) (pcY := 247) (by decide) (pcN := 177) rfl (fun _ => ?_) (fun z => absurd (by decide) z)
    refine ow_iload C A13 d2_247 rfl rfl ?_
    refine ow_ireturn C A13 (t := .int) rfl rfl (by simp) d2_249 (by decide) (by decide) ?_
    have z0 := own_m31 b0
    have z1 : (((b0 &&& (31 : Int32)) <<< ((6 : Int32) &&& 31)) ||| (0 : Int32)).toInt = (b0 &&& (31 : Int32)).toInt * 64 + 0 := own_push (b0 &&& (31 : Int32)) 128 (by omega) (by decide)
    exact ⟨rfl, _, rfl, by omega, by omega⟩
set_option maxRecDepth 65536 in
set_option maxHeartbeats 40000000 in
theorem rm_cs (l : Launch) (Z : State) (a0 : Array Value) (hw : ∀ d ∈ tables_1, d.before a0 Z = true) (p1 : Int32) (h0 : Heap)  (cs : List Jvm.Cond) :
    OwnCtr l Z (⟨"com/example/canonwire/canonwire/Utf8", "canStart", "(I)Z"⟩ : MethodName) prog_47_method_4_code 1 (some .boolean) rmz #[(.int p1)] h0 [] (QI (own_cs p1) h0) cs := by
  refine ow_ctr pn_1 hw (Ls := #[.val (.int p1)]) (fun m => by first | (simp [entryFrame, mkF, argsToLocals, Value.category]; done) | rfl) ?_
  intro p e s m below meth c T0 C A0
  refine ow_iloadN C A0 d1_0 rfl rfl ?_
  refine ow_sipush C A0 d1_1 (v := 128) rfl rfl ?_
  refine ow_icmp_lt C A0 d1_4 (by decide) (pcY := 21) (by decide) (pcN := 7) rfl (fun hc4 => ?_) (fun hc4 => ?_)
  · skip
    refine ow_iconst C A0 d1_21 (v := 1) rfl rfl ?_
    refine ow_goto C A0 d1_22 (by decide) (pc' := 26) (by decide) ?_
    refine ow_ireturn C A0 (t := .boolean) rfl rfl (by simp) d1_26 (by decide) (by decide) ?_
    exact ⟨by simp [own_cs, hc4], rfl⟩
  · skip
    refine ow_iloadN C A0 d1_7 rfl rfl ?_
    refine ow_sipush C A0 d1_8 (v := 194) rfl rfl ?_
    refine ow_icmp_lt C A0 d1_11 (by decide) (pcY := 25) (by decide) (pcN := 14) rfl (fun hc11 => ?_) (fun hc11 => ?_)
    · skip
      refine ow_iconst C A0 d1_25 (v := 0) rfl rfl ?_
      refine ow_ireturn C A0 (t := .boolean) rfl rfl (by simp) d1_26 (by decide) (by decide) ?_
      exact ⟨by simp [own_cs, hc4, hc11], rfl⟩
    · skip
      refine ow_iloadN C A0 d1_14 rfl rfl ?_
      refine ow_sipush C A0 d1_15 (v := 244) rfl rfl ?_
      refine ow_icmp_gt C A0 d1_18 (by decide) (pcY := 25) (by decide) (pcN := 21) rfl (fun hc18 => ?_) (fun hc18 => ?_)
      · skip
        refine ow_iconst C A0 d1_25 (v := 0) rfl rfl ?_
        refine ow_ireturn C A0 (t := .boolean) rfl rfl (by simp) d1_26 (by decide) (by decide) ?_
        exact ⟨by simp [own_cs, hc4, hc11, hc18], rfl⟩
      · skip
        refine ow_iconst C A0 d1_21 (v := 1) rfl rfl ?_
        refine ow_goto C A0 d1_22 (by decide) (pc' := 26) (by decide) ?_
        refine ow_ireturn C A0 (t := .boolean) rfl rfl (by simp) d1_26 (by decide) (by decide) ?_
        exact ⟨by simp [own_cs, hc4, hc11, hc18], rfl⟩
set_option maxRecDepth 65536 in
set_option maxHeartbeats 40000000 in
theorem rm0 (l : Launch) (Z : State) (a0 : Array Value) (hw : ∀ d ∈ tables_1, d.before a0 Z = true) (p1 p2 p3 p4 : Int32) (h0 : Heap)  (cs : List Jvm.Cond) :
    OwnCtr l Z x code maxLocals ret room_1 #[(.int p1), (.int p2), (.int p3), (.int p4)] h0 [] Q0 cs := by
  refine ow_ctr pn_0 hw (Ls := #[.val (.int p1), .val (.int p2), .val (.int p3), .val (.int p4), .unset, .unset, .unset, .unset, .unset, .unset, .unset, .unset]) (fun m => by first | (simp [entryFrame, mkF, argsToLocals, Value.category, maxLocals]; done) | rfl) ?_
  intro p e s m below meth c T0 C A0
  refine ow_iloadN C A0 at_0 rfl rfl ?_
  refine ow_sipush C A0 at_1 (v := 255) rfl rfl ?_
  refine ow_iand C A0 at_4 rfl ?_
  have hb255 := own_b255 p1
  generalize p1 &&& (255 : Int32) = b at *
  have hbl := hb255.1
  have hbu := hb255.2
  refine ow_istore C A0 at_5 (Ls' := #[.val (.int p1), .val (.int p2), .val (.int p3), .val (.int p4), .val (.int b), .unset, .unset, .unset, .unset, .unset, .unset, .unset]) rfl rfl ?_
  refine ow_iload C A0 at_7 rfl rfl ?_
  refine ow_sipush C A0 at_9 (v := 128) rfl rfl ?_
  refine ow_icmp_lt C A0 at_12 (by decide) (pcY := 27) (by decide) (pcN := 15) rfl (fun hc12 => ?_) (fun hc12 => ?_)
  · skip
    have iv1 : b.toInt < 128 := own_lt32' hc12
    refine ow_iconst C A0 at_27 (v := 0) rfl rfl ?_
    refine ow_istore C A0 at_28 (Ls' := #[.val (.int p1), .val (.int p2), .val (.int p3), .val (.int p4), .val (.int b), .val (.int (0 : Int32)), .unset, .unset, .unset, .unset, .unset, .unset]) rfl rfl ?_
    refine ow_iload C A0 at_30 rfl rfl ?_
    refine ow_sipush C A0 at_32 (v := 192) rfl rfl ?_
    refine ow_icmp_eq C A0 at_35 (by decide) (pcY := 46) (by decide) (pcN := 38) rfl (fun z => absurd z (own_ne32 (by show ¬ (b.toInt = 192); omega))) (fun _ => ?_)
    refine ow_iload C A0 at_38 rfl rfl ?_
    refine ow_sipush C A0 at_40 (v := 193) rfl rfl ?_
    refine ow_icmp_ne C A0 at_43 (by decide) (pcY := 50) (by decide) (pcN := 46) rfl (fun _ => ?_) (fun z => absurd z (own_ne32 (by show ¬ (b.toInt = 193); omega)))
    refine ow_iconst C A0 at_50 (v := 0) rfl rfl ?_
    refine ow_istore C A0 at_51 (Ls' := #[.val (.int p1), .val (.int p2), .val (.int p3), .val (.int p4), .val (.int b), .val (.int (0 : Int32)), .val (.int (0 : Int32)), .unset, .unset, .unset, .unset, .unset]) rfl rfl ?_
    refine ow_iload C A0 at_53 rfl rfl ?_
    refine ow_sipush C A0 at_55 (v := 244) rfl rfl ?_
    refine ow_icmp_le C A0 at_58 (by decide) (pcY := 65) (by decide) (pcN := 61) rfl (fun _ => ?_) (fun z => absurd z (own_nlt32 (by show ¬ (244 < b.toInt); omega)))
    refine ow_iconst C A0 at_65 (v := 0) rfl rfl ?_
    refine ow_istore C A0 at_66 (Ls' := #[.val (.int p1), .val (.int p2), .val (.int p3), .val (.int p4), .val (.int b), .val (.int (0 : Int32)), .val (.int (0 : Int32)), .val (.int (0 : Int32)), .unset, .unset, .unset, .unset]) rfl rfl ?_
    refine ow_iload C A0 at_68 rfl rfl ?_
    refine ow_if_ne C A0 at_70 (by decide) (pcY := 87) (by decide) (pcN := 73) rfl (fun z => absurd (by decide) z) (fun _ => ?_)
    refine ow_iload C A0 at_73 rfl rfl ?_
    refine ow_if_ne C A0 at_75 (by decide) (pcY := 87) (by decide) (pcN := 78) rfl (fun z => absurd (by decide) z) (fun _ => ?_)
    refine ow_iload C A0 at_78 rfl rfl ?_
    refine ow_if_ne C A0 at_80 (by decide) (pcY := 87) (by decide) (pcN := 83) rfl (fun z => absurd (by decide) z) (fun _ => ?_)
    refine ow_iconst C A0 at_83 (v := 1) rfl rfl ?_
    refine ow_goto C A0 at_84 (by decide) (pc' := 88) (by decide) ?_
    refine ow_istore C A0 at_88 (Ls' := #[.val (.int p1), .val (.int p2), .val (.int p3), .val (.int p4), .val (.int b), .val (.int (0 : Int32)), .val (.int (0 : Int32)), .val (.int (0 : Int32)), .val (.int (1 : Int32)), .unset, .unset, .unset]) rfl rfl ?_
    refine ow_iload C A0 at_90 rfl rfl ?_
    refine ow_callS C A0 (argsL := [(.int b)]) (rm_cs l Z a0 hw b h0 []) tw_0 tw_1 tw_2 tw_3 (by decide) all0 (by decide) (by decide) (ck' := 0) (sk' := 0) rfl rfl (by decide) (by decide) rfl (lenOf pd_1 rfl) (S := []) rfl (W := 0) (Nat.le_of_eq rfl) at_92 rfl ?_
    intro T2 v2 K2 hQ2 A2
    obtain ⟨rfl, ee2⟩ := hQ2
    rw [ee2] at A2 K2
    show OwnWP _ _ _ _ _ _ _ _ _ T2 (mkF m 95 #[.val (.int p1), .val (.int p2), .val (.int p3), .val (.int p4), .val (.int b), .val (.int (0 : Int32)), .val (.int (0 : Int32)), .val (.int (0 : Int32)), .val (.int (1 : Int32)), .unset, .unset, .unset] [(.int (own_cs b))])
    rw [own_cs1 b (by omega)]
    refine ow_istore C A2 at_95 (Ls' := #[.val (.int p1), .val (.int p2), .val (.int p3), .val (.int p4), .val (.int b), .val (.int (0 : Int32)), .val (.int (0 : Int32)), .val (.int (0 : Int32)), .val (.int (1 : Int32)), .val (.int (1 : Int32)), .unset, .unset]) rfl rfl ?_
    refine ow_iload C A2 at_97 rfl rfl ?_
    refine ow_iload C A2 at_99 rfl rfl ?_
    refine ow_icmp_eq C A2 at_101 (by decide) (pcY := 106) (by decide) (pcN := 104) rfl (fun _ => ?_) (fun z => absurd (by decide) z)
    refine ow_iload C A2 at_106 rfl rfl ?_
    refine ow_if_ne C A2 at_108 (by decide) (pcY := 154) (by decide) (pcN := 111) rfl (fun _ => ?_) (fun z => absurd z (by decide))
    refine ow_iload C A2 at_154 rfl rfl ?_
    refine ow_sipush C A2 at_156 (v := 224) rfl rfl ?_
    refine ow_icmp_ne C A2 at_159 (by decide) (pcY := 168) (by decide) (pcN := 162) rfl (fun _ => ?_) (fun z => absurd z (own_ne32 (by show ¬ (b.toInt = 224); omega)))
    refine ow_iload C A2 at_168 rfl rfl ?_
    refine ow_sipush C A2 at_170 (v := 240) rfl rfl ?_
    refine ow_icmp_ne C A2 at_173 (by decide) (pcY := 182) (by decide) (pcN := 176) rfl (fun _ => ?_) (fun z => absurd z (own_ne32 (by show ¬ (b.toInt = 240); omega)))
    refine ow_sipush C A2 at_182 (v := 128) rfl rfl ?_
    refine ow_istore C A2 at_185 (Ls' := #[.val (.int p1), .val (.int p2), .val (.int p3), .val (.int p4), .val (.int b), .val (.int (0 : Int32)), .val (.int (0 : Int32)), .val (.int (0 : Int32)), .val (.int (1 : Int32)), .val (.int (1 : Int32)), .val (.int (128 : Int32)), .unset]) rfl rfl ?_
    refine ow_iconst C A2 at_187 (v := 4) rfl rfl ?_
    refine ow_newA C A2 (ty := .byte) rfl tw_4 at_188 rfl (by decide) (cap := 4) (by decide) (by decide) (ck' := 1) (sk' := 4) rfl rfl (by decide) (by decide) ?_
    intro T3 h5 b6 kk7 g8 E9 V10 A4
    have ows_b6 : b6 ∈ ([] : List Addr) ∨ h0.size ≤ b6 := Or.inr (Nat.le_trans (ow_le A2) (Nat.le_of_eq g8.symm))
    have V11 : Arv Z h5 b6 kk7 .byte (4 : Int32) [(.int (0 : Int32)), (.int (0 : Int32)), (.int (0 : Int32)), (.int (0 : Int32))] (.int (0 : Int32)) := V10.pad (pad_rep [] (.int (0 : Int32)) 4)
    refine ow_dup C A4 at_190 rfl rfl ?_
    refine ow_iconst C A4 at_191 (v := 0) rfl rfl ?_
    refine ow_iload C A4 at_192 rfl rfl ?_
    refine ow_i2b C A4 at_194 rfl ?_
    refine ow_bastore C A4 V11 ⟨by decide, by decide⟩ (i := 0) rfl (Nat.le_of_ble_eq_true rfl) ows_b6 at_195 rfl ?_
    intro T12 h14 W15 V16 A13
    have V17 : Arv Z h14 b6 kk7 .byte (4 : Int32) [(.int b.toInt8.toInt32.toInt8.toInt32), (.int (0 : Int32)), (.int (0 : Int32)), (.int (0 : Int32))] (.int (0 : Int32)) := V16
    refine ow_dup C A13 at_196 rfl rfl ?_
    refine ow_iconst C A13 at_197 (v := 1) rfl rfl ?_
    refine ow_iload C A13 at_198 rfl rfl ?_
    refine ow_i2b C A13 at_200 rfl ?_
    refine ow_bastore C A13 V17 ⟨by decide, by decide⟩ (i := 1) rfl (Nat.le_of_ble_eq_true rfl) ows_b6 at_201 rfl ?_
    intro T18 h20 W21 V22 A19
    have V23 : Arv Z h20 b6 kk7 .byte (4 : Int32) [(.int b.toInt8.toInt32.toInt8.toInt32), (.int (128 : Int32).toInt8.toInt32.toInt8.toInt32), (.int (0 : Int32)), (.int (0 : Int32))] (.int (0 : Int32)) := V22
    refine ow_dup C A19 at_202 rfl rfl ?_
    refine ow_iconst C A19 at_203 (v := 2) rfl rfl ?_
    refine ow_bipush C A19 at_204 (v := (-128)) rfl rfl ?_
    refine ow_bastore C A19 V23 ⟨by decide, by decide⟩ (i := 2) rfl (Nat.le_of_ble_eq_true rfl) ows_b6 at_206 rfl ?_
    intro T24 h26 W27 V28 A25
    have V29 : Arv Z h26 b6 kk7 .byte (4 : Int32) [(.int b.toInt8.toInt32.toInt8.toInt32), (.int (128 : Int32).toInt8.toInt32.toInt8.toInt32), (.int (-128 : Int32).toInt8.toInt32), (.int (0 : Int32))] (.int (0 : Int32)) := V28
    refine ow_dup C A25 at_207 rfl rfl ?_
    refine ow_iconst C A25 at_208 (v := 3) rfl rfl ?_
    refine ow_bipush C A25 at_209 (v := (-128)) rfl rfl ?_
    refine ow_bastore C A25 V29 ⟨by decide, by decide⟩ (i := 3) rfl (Nat.le_of_ble_eq_true rfl) ows_b6 at_211 rfl ?_
    intro T30 h32 W33 V34 A31
    have V35 : Arv Z h32 b6 kk7 .byte (4 : Int32) [(.int b.toInt8.toInt32.toInt8.toInt32), (.int (128 : Int32).toInt8.toInt32.toInt8.toInt32), (.int (-128 : Int32).toInt8.toInt32), (.int (-128 : Int32).toInt8.toInt32)] (.int (0 : Int32)) := V34
    refine ow_astore C A31 at_212 rfl (Ls' := #[.val (.int p1), .val (.int p2), .val (.int p3), .val (.int p4), .val (.int b), .val (.int (0 : Int32)), .val (.int (0 : Int32)), .val (.int (0 : Int32)), .val (.int (1 : Int32)), .val (.int (1 : Int32)), .val (.int (128 : Int32)), .val (.ref b6)]) rfl rfl ?_
    refine ow_aload C A31 at_214 rfl rfl rfl ?_
    refine ow_iconst C A31 at_216 (v := 0) rfl rfl ?_
    refine ow_iconst C A31 at_217 (v := 4) rfl rfl ?_
    refine ow_callS C A31 (argsL := [(.ref b6), (.int (0 : Int32)), (.int (4 : Int32))]) (rm_cpA l Z a0 hw b6 kk7 b.toInt8.toInt32.toInt8.toInt32 b (.int (128 : Int32).toInt8.toInt32.toInt8.toInt32) (.int (-128 : Int32).toInt8.toInt32) (.int (-128 : Int32).toInt8.toInt32) h32 V35 (own_byte b ⟨by omega, by omega⟩) ⟨by omega, by omega⟩ []) tw_5 tw_6 tw_2 tw_7 (by decide) all0 (by decide) (by decide) (ck' := 1) (sk' := 4) rfl rfl (by decide) (by decide) rfl (lenOf pd_2 rfl) (S := []) rfl (W := 0) (Nat.le_of_eq rfl) at_218 rfl ?_
    intro T36 v36 K36 hQ36 A36
    obtain ⟨ee36, cc36, rfl, hl36, hu36⟩ := hQ36
    rw [ee36] at A36 K36
    show OwnWP _ _ _ _ _ _ _ _ _ T36 (mkF m 221 #[.val (.int p1), .val (.int p2), .val (.int p3), .val (.int p4), .val (.int b), .val (.int (0 : Int32)), .val (.int (0 : Int32)), .val (.int (0 : Int32)), .val (.int (1 : Int32)), .val (.int (1 : Int32)), .val (.int (128 : Int32)), .val (.ref b6)] [(.int cc36)])
    refine ow_if_lt C A36 at_221 (by decide) (pcY := 228) (by decide) (pcN := 224) rfl (fun z => absurd z (own_nlt32 (by show ¬ (cc36.toInt < 0); omega))) (fun _ => ?_)
    refine ow_iconst C A36 at_224 (v := 1) rfl rfl ?_
    refine ow_goto C A36 at_225 (by decide) (pc' := 229) (by decide) ?_
    refine ow_ireturn C A36 (t := .boolean) rfl rfl (by simp) at_229 (by decide) (by decide) ?_
    exact rfl
  · skip
    have iv37 : ¬ (b.toInt < 128) := own_nlt32' hc12
    refine ow_iload C A0 at_15 rfl rfl ?_
    refine ow_sipush C A0 at_17 (v := 191) rfl rfl ?_
    refine ow_icmp_gt C A0 at_20 (by decide) (pcY := 27) (by decide) (pcN := 23) rfl (fun hc20 => ?_) (fun hc20 => ?_)
    · skip
      have iv38 : 191 < b.toInt := own_lt32' hc20
      refine ow_iconst C A0 at_27 (v := 0) rfl rfl ?_
      refine ow_istore C A0 at_28 (Ls' := #[.val (.int p1), .val (.int p2), .val (.int p3), .val (.int p4), .val (.int b), .val (.int (0 : Int32)), .unset, .unset, .unset, .unset, .unset, .unset]) rfl rfl ?_
      refine ow_iload C A0 at_30 rfl rfl ?_
      refine ow_sipush C A0 at_32 (v := 192) rfl rfl ?_
      refine ow_icmp_eq C A0 at_35 (by decide) (pcY := 46) (by decide) (pcN := 38) rfl (fun hc35 => ?_) (fun hc35 => ?_)
      · skip
        have iv39 : b.toInt = 192 := own_eq32' hc35
        refine ow_iconst C A0 at_46 (v := 1) rfl rfl ?_
        refine ow_goto C A0 at_47 (by decide) (pc' := 51) (by decide) ?_
        refine ow_istore C A0 at_51 (Ls' := #[.val (.int p1), .val (.int p2), .val (.int p3), .val (.int p4), .val (.int b), .val (.int (0 : Int32)), .val (.int (1 : Int32)), .unset, .unset, .unset, .unset, .unset]) rfl rfl ?_
        refine ow_iload C A0 at_53 rfl rfl ?_
        refine ow_sipush C A0 at_55 (v := 244) rfl rfl ?_
        refine ow_icmp_le C A0 at_58 (by decide) (pcY := 65) (by decide) (pcN := 61) rfl (fun _ => ?_) (fun z => absurd z (own_nlt32 (by show ¬ (244 < b.toInt); omega)))
        refine ow_iconst C A0 at_65 (v := 0) rfl rfl ?_
        refine ow_istore C A0 at_66 (Ls' := #[.val (.int p1), .val (.int p2), .val (.int p3), .val (.int p4), .val (.int b), .val (.int (0 : Int32)), .val (.int (1 : Int32)), .val (.int (0 : Int32)), .unset, .unset, .unset, .unset]) rfl rfl ?_
        refine ow_iload C A0 at_68 rfl rfl ?_
        refine ow_if_ne C A0 at_70 (by decide) (pcY := 87) (by decide) (pcN := 73) rfl (fun z => absurd (by decide) z) (fun _ => ?_)
        refine ow_iload C A0 at_73 rfl rfl ?_
        refine ow_if_ne C A0 at_75 (by decide) (pcY := 87) (by decide) (pcN := 78) rfl (fun _ => ?_) (fun z => absurd z (by decide))
        refine ow_iconst C A0 at_87 (v := 0) rfl rfl ?_
        refine ow_istore C A0 at_88 (Ls' := #[.val (.int p1), .val (.int p2), .val (.int p3), .val (.int p4), .val (.int b), .val (.int (0 : Int32)), .val (.int (1 : Int32)), .val (.int (0 : Int32)), .val (.int (0 : Int32)), .unset, .unset, .unset]) rfl rfl ?_
        refine ow_iload C A0 at_90 rfl rfl ?_
        refine ow_callS C A0 (argsL := [(.int b)]) (rm_cs l Z a0 hw b h0 []) tw_0 tw_1 tw_2 tw_3 (by decide) all0 (by decide) (by decide) (ck' := 0) (sk' := 0) rfl rfl (by decide) (by decide) rfl (lenOf pd_1 rfl) (S := []) rfl (W := 0) (Nat.le_of_eq rfl) at_92 rfl ?_
        intro T40 v40 K40 hQ40 A40
        obtain ⟨rfl, ee40⟩ := hQ40
        rw [ee40] at A40 K40
        show OwnWP _ _ _ _ _ _ _ _ _ T40 (mkF m 95 #[.val (.int p1), .val (.int p2), .val (.int p3), .val (.int p4), .val (.int b), .val (.int (0 : Int32)), .val (.int (1 : Int32)), .val (.int (0 : Int32)), .val (.int (0 : Int32)), .unset, .unset, .unset] [(.int (own_cs b))])
        rw [own_cs0 b (by omega)]
        refine ow_istore C A40 at_95 (Ls' := #[.val (.int p1), .val (.int p2), .val (.int p3), .val (.int p4), .val (.int b), .val (.int (0 : Int32)), .val (.int (1 : Int32)), .val (.int (0 : Int32)), .val (.int (0 : Int32)), .val (.int (0 : Int32)), .unset, .unset]) rfl rfl ?_
        refine ow_iload C A40 at_97 rfl rfl ?_
        refine ow_iload C A40 at_99 rfl rfl ?_
        refine ow_icmp_eq C A40 at_101 (by decide) (pcY := 106) (by decide) (pcN := 104) rfl (fun _ => ?_) (fun z => absurd (by decide) z)
        refine ow_iload C A40 at_106 rfl rfl ?_
        refine ow_if_ne C A40 at_108 (by decide) (pcY := 154) (by decide) (pcN := 111) rfl (fun z => absurd (by decide) z) (fun _ => ?_)
        refine ow_iconst C A40 at_111 (v := 4) rfl rfl ?_
        refine ow_newA C A40 (ty := .byte) rfl tw_4 at_112 rfl (by decide) (cap := 4) (by decide) (by decide) (ck' := 1) (sk' := 4) rfl rfl (by decide) (by decide) ?_
        intro T41 h43 b44 kk45 g46 E47 V48 A42
        have ows_b44 : b44 ∈ ([] : List Addr) ∨ h0.size ≤ b44 := Or.inr (Nat.le_trans (ow_le A40) (Nat.le_of_eq g46.symm))
        have V49 : Arv Z h43 b44 kk45 .byte (4 : Int32) [(.int (0 : Int32)), (.int (0 : Int32)), (.int (0 : Int32)), (.int (0 : Int32))] (.int (0 : Int32)) := V48.pad (pad_rep [] (.int (0 : Int32)) 4)
        refine ow_dup C A42 at_114 rfl rfl ?_
        refine ow_iconst C A42 at_115 (v := 0) rfl rfl ?_
        refine ow_iload C A42 at_116 rfl rfl ?_
        refine ow_i2b C A42 at_118 rfl ?_
        refine ow_bastore C A42 V49 ⟨by decide, by decide⟩ (i := 0) rfl (Nat.le_of_ble_eq_true rfl) ows_b44 at_119 rfl ?_
        intro T50 h52 W53 V54 A51
        have V55 : Arv Z h52 b44 kk45 .byte (4 : Int32) [(.int b.toInt8.toInt32.toInt8.toInt32), (.int (0 : Int32)), (.int (0 : Int32)), (.int (0 : Int32))] (.int (0 : Int32)) := V54
        refine ow_dup C A51 at_120 rfl rfl ?_
        refine ow_iconst C A51 at_121 (v := 1) rfl rfl ?_
        refine ow_iloadN C A51 at_122 rfl rfl ?_
        refine ow_i2b C A51 at_123 rfl ?_
        refine ow_bastore C A51 V55 ⟨by decide, by decide⟩ (i := 1) rfl (Nat.le_of_ble_eq_true rfl) ows_b44 at_124 rfl ?_
        intro T56 h58 W59 V60 A57
        have V61 : Arv Z h58 b44 kk45 .byte (4 : Int32) [(.int b.toInt8.toInt32.toInt8.toInt32), (.int p2.toInt8.toInt32.toInt8.toInt32), (.int (0 : Int32)), (.int (0 : Int32))] (.int (0 : Int32)) := V60
        refine ow_dup C A57 at_125 rfl rfl ?_
        refine ow_iconst C A57 at_126 (v := 2) rfl rfl ?_
        refine ow_iloadN C A57 at_127 rfl rfl ?_
        refine ow_i2b C A57 at_128 rfl ?_
        refine ow_bastore C A57 V61 ⟨by decide, by decide⟩ (i := 2) rfl (Nat.le_of_ble_eq_true rfl) ows_b44 at_129 rfl ?_
        intro T62 h64 W65 V66 A63
        have V67 : Arv Z h64 b44 kk45 .byte (4 : Int32) [(.int b.toInt8.toInt32.toInt8.toInt32), (.int p2.toInt8.toInt32.toInt8.toInt32), (.int p3.toInt8.toInt32.toInt8.toInt32), (.int (0 : Int32))] (.int (0 : Int32)) := V66
        refine ow_dup C A63 at_130 rfl rfl ?_
        refine ow_iconst C A63 at_131 (v := 3) rfl rfl ?_
        refine ow_iloadN C A63 at_132 rfl rfl ?_
        refine ow_i2b C A63 at_133 rfl ?_
        refine ow_bastore C A63 V67 ⟨by decide, by decide⟩ (i := 3) rfl (Nat.le_of_ble_eq_true rfl) ows_b44 at_134 rfl ?_
        intro T68 h70 W71 V72 A69
        have V73 : Arv Z h70 b44 kk45 .byte (4 : Int32) [(.int b.toInt8.toInt32.toInt8.toInt32), (.int p2.toInt8.toInt32.toInt8.toInt32), (.int p3.toInt8.toInt32.toInt8.toInt32), (.int p4.toInt8.toInt32.toInt8.toInt32)] (.int (0 : Int32)) := V72
        refine ow_astore C A69 at_135 rfl (Ls' := #[.val (.int p1), .val (.int p2), .val (.int p3), .val (.int p4), .val (.int b), .val (.int (0 : Int32)), .val (.int (1 : Int32)), .val (.int (0 : Int32)), .val (.int (0 : Int32)), .val (.int (0 : Int32)), .val (.ref b44), .unset]) rfl rfl ?_
        refine ow_aload C A69 at_137 rfl rfl rfl ?_
        refine ow_iconst C A69 at_139 (v := 0) rfl rfl ?_
        refine ow_iconst C A69 at_140 (v := 4) rfl rfl ?_
        refine ow_callS C A69 (argsL := [(.ref b44), (.int (0 : Int32)), (.int (4 : Int32))]) (rm_cpN1 l Z a0 hw b44 kk45 b.toInt8.toInt32.toInt8.toInt32 b (.int p2.toInt8.toInt32.toInt8.toInt32) (.int p3.toInt8.toInt32.toInt8.toInt32) (.int p4.toInt8.toInt32.toInt8.toInt32) h70 V73 (own_byte b ⟨by omega, by omega⟩) ⟨by omega, by omega⟩ []) tw_5 tw_6 tw_2 tw_7 (by decide) all0 (by decide) (by decide) (ck' := 1) (sk' := 4) rfl rfl (by decide) (by decide) rfl (lenOf pd_2 rfl) (S := []) rfl (W := 0) (Nat.le_of_eq rfl) at_141 rfl ?_
        intro T74 v74 K74 hQ74 A74
        obtain ⟨rfl, ee74⟩ := hQ74
        rw [ee74] at A74 K74
        show OwnWP _ _ _ _ _ _ _ _ _ T74 (mkF m 144 #[.val (.int p1), .val (.int p2), .val (.int p3), .val (.int p4), .val (.int b), .val (.int (0 : Int32)), .val (.int (1 : Int32)), .val (.int (0 : Int32)), .val (.int (0 : Int32)), .val (.int (0 : Int32)), .val (.ref b44), .unset] [(.int (-1 : Int32))])
        refine ow_iconst C A74 at_144 (v := (-1)) rfl rfl ?_
        refine ow_icmp_ne C A74 at_145 (by decide) (pcY := 152) (by decide) (pcN := 148) rfl (fun z => absurd (by decide) z) (fun _ => ?_)
        refine ow_iconst C A74 at_148 (v := 1) rfl rfl ?_
        refine ow_goto C A74 at_149 (by decide) (pc' := 153) (by decide) ?_
        refine ow_ireturn C A74 (t := .boolean) rfl rfl (by simp) at_153 (by decide) (by decide) ?_
        exact rfl
      · skip
        have iv75 : ¬ (b.toInt = 192) := own_ne32' hc35
        refine ow_iload C A0 at_38 rfl rfl ?_
        refine ow_sipush C A0 at_40 (v := 193) rfl rfl ?_
        refine ow_icmp_ne C A0 at_43 (by decide) (pcY := 50) (by decide) (pcN := 46) rfl (fun hc43 => ?_) (fun hc43 => ?_)
        · skip
          have iv76 : ¬ (b.toInt = 193) := own_ne32' hc43
          refine ow_iconst C A0 at_50 (v := 0) rfl rfl ?_
          refine ow_istore C A0 at_51 (Ls' := #[.val (.int p1), .val (.int p2), .val (.int p3), .val (.int p4), .val (.int b), .val (.int (0 : Int32)), .val (.int (0 : Int32)), .unset, .unset, .unset, .unset, .unset]) rfl rfl ?_
          refine ow_iload C A0 at_53 rfl rfl ?_
          refine ow_sipush C A0 at_55 (v := 244) rfl rfl ?_
          refine ow_icmp_le C A0 at_58 (by decide) (pcY := 65) (by decide) (pcN := 61) rfl (fun hc58 => ?_) (fun hc58 => ?_)
          · skip
            have iv77 : ¬ (244 < b.toInt) := own_nlt32' hc58
            refine ow_iconst C A0 at_65 (v := 0) rfl rfl ?_
            refine ow_istore C A0 at_66 (Ls' := #[.val (.int p1), .val (.int p2), .val (.int p3), .val (.int p4), .val (.int b), .val (.int (0 : Int32)), .val (.int (0 : Int32)), .val (.int (0 : Int32)), .unset, .unset, .unset, .unset]) rfl rfl ?_
            refine ow_iload C A0 at_68 rfl rfl ?_
            refine ow_if_ne C A0 at_70 (by decide) (pcY := 87) (by decide) (pcN := 73) rfl (fun z => absurd (by decide) z) (fun _ => ?_)
            refine ow_iload C A0 at_73 rfl rfl ?_
            refine ow_if_ne C A0 at_75 (by decide) (pcY := 87) (by decide) (pcN := 78) rfl (fun z => absurd (by decide) z) (fun _ => ?_)
            refine ow_iload C A0 at_78 rfl rfl ?_
            refine ow_if_ne C A0 at_80 (by decide) (pcY := 87) (by decide) (pcN := 83) rfl (fun z => absurd (by decide) z) (fun _ => ?_)
            refine ow_iconst C A0 at_83 (v := 1) rfl rfl ?_
            refine ow_goto C A0 at_84 (by decide) (pc' := 88) (by decide) ?_
            refine ow_istore C A0 at_88 (Ls' := #[.val (.int p1), .val (.int p2), .val (.int p3), .val (.int p4), .val (.int b), .val (.int (0 : Int32)), .val (.int (0 : Int32)), .val (.int (0 : Int32)), .val (.int (1 : Int32)), .unset, .unset, .unset]) rfl rfl ?_
            refine ow_iload C A0 at_90 rfl rfl ?_
            refine ow_callS C A0 (argsL := [(.int b)]) (rm_cs l Z a0 hw b h0 []) tw_0 tw_1 tw_2 tw_3 (by decide) all0 (by decide) (by decide) (ck' := 0) (sk' := 0) rfl rfl (by decide) (by decide) rfl (lenOf pd_1 rfl) (S := []) rfl (W := 0) (Nat.le_of_eq rfl) at_92 rfl ?_
            intro T78 v78 K78 hQ78 A78
            obtain ⟨rfl, ee78⟩ := hQ78
            rw [ee78] at A78 K78
            show OwnWP _ _ _ _ _ _ _ _ _ T78 (mkF m 95 #[.val (.int p1), .val (.int p2), .val (.int p3), .val (.int p4), .val (.int b), .val (.int (0 : Int32)), .val (.int (0 : Int32)), .val (.int (0 : Int32)), .val (.int (1 : Int32)), .unset, .unset, .unset] [(.int (own_cs b))])
            rw [own_cs1 b (by omega)]
            refine ow_istore C A78 at_95 (Ls' := #[.val (.int p1), .val (.int p2), .val (.int p3), .val (.int p4), .val (.int b), .val (.int (0 : Int32)), .val (.int (0 : Int32)), .val (.int (0 : Int32)), .val (.int (1 : Int32)), .val (.int (1 : Int32)), .unset, .unset]) rfl rfl ?_
            refine ow_iload C A78 at_97 rfl rfl ?_
            refine ow_iload C A78 at_99 rfl rfl ?_
            refine ow_icmp_eq C A78 at_101 (by decide) (pcY := 106) (by decide) (pcN := 104) rfl (fun _ => ?_) (fun z => absurd (by decide) z)
            refine ow_iload C A78 at_106 rfl rfl ?_
            refine ow_if_ne C A78 at_108 (by decide) (pcY := 154) (by decide) (pcN := 111) rfl (fun _ => ?_) (fun z => absurd z (by decide))
            refine ow_iload C A78 at_154 rfl rfl ?_
            refine ow_sipush C A78 at_156 (v := 224) rfl rfl ?_
            refine ow_icmp_ne C A78 at_159 (by decide) (pcY := 168) (by decide) (pcN := 162) rfl (fun hc159 => ?_) (fun hc159 => ?_)
            · skip
              have iv79 : ¬ (b.toInt = 224) := own_ne32' hc159
              have hn224 : ¬ (b = 224) := hc159
              refine ow_iload C A78 at_168 rfl rfl ?_
              refine ow_sipush C A78 at_170 (v := 240) rfl rfl ?_
              refine ow_icmp_ne C A78 at_173 (by decide) (pcY := 182) (by decide) (pcN := 176) rfl (fun hc173 => ?_) (fun hc173 => ?_)
              · skip
                have iv80 : ¬ (b.toInt = 240) := own_ne32' hc173
                have hn240 : ¬ (b = 240) := hc173
                refine ow_sipush C A78 at_182 (v := 128) rfl rfl ?_
                refine ow_istore C A78 at_185 (Ls' := #[.val (.int p1), .val (.int p2), .val (.int p3), .val (.int p4), .val (.int b), .val (.int (0 : Int32)), .val (.int (0 : Int32)), .val (.int (0 : Int32)), .val (.int (1 : Int32)), .val (.int (1 : Int32)), .val (.int (128 : Int32)), .unset]) rfl rfl ?_
                refine ow_iconst C A78 at_187 (v := 4) rfl rfl ?_
                refine ow_newA C A78 (ty := .byte) rfl tw_4 at_188 rfl (by decide) (cap := 4) (by decide) (by decide) (ck' := 1) (sk' := 4) rfl rfl (by decide) (by decide) ?_
                intro T81 h83 b84 kk85 g86 E87 V88 A82
                have ows_b84 : b84 ∈ ([] : List Addr) ∨ h0.size ≤ b84 := Or.inr (Nat.le_trans (ow_le A78) (Nat.le_of_eq g86.symm))
                have V89 : Arv Z h83 b84 kk85 .byte (4 : Int32) [(.int (0 : Int32)), (.int (0 : Int32)), (.int (0 : Int32)), (.int (0 : Int32))] (.int (0 : Int32)) := V88.pad (pad_rep [] (.int (0 : Int32)) 4)
                refine ow_dup C A82 at_190 rfl rfl ?_
                refine ow_iconst C A82 at_191 (v := 0) rfl rfl ?_
                refine ow_iload C A82 at_192 rfl rfl ?_
                refine ow_i2b C A82 at_194 rfl ?_
                refine ow_bastore C A82 V89 ⟨by decide, by decide⟩ (i := 0) rfl (Nat.le_of_ble_eq_true rfl) ows_b84 at_195 rfl ?_
                intro T90 h92 W93 V94 A91
                have V95 : Arv Z h92 b84 kk85 .byte (4 : Int32) [(.int b.toInt8.toInt32.toInt8.toInt32), (.int (0 : Int32)), (.int (0 : Int32)), (.int (0 : Int32))] (.int (0 : Int32)) := V94
                refine ow_dup C A91 at_196 rfl rfl ?_
                refine ow_iconst C A91 at_197 (v := 1) rfl rfl ?_
                refine ow_iload C A91 at_198 rfl rfl ?_
                refine ow_i2b C A91 at_200 rfl ?_
                refine ow_bastore C A91 V95 ⟨by decide, by decide⟩ (i := 1) rfl (Nat.le_of_ble_eq_true rfl) ows_b84 at_201 rfl ?_
                intro T96 h98 W99 V100 A97
                have V101 : Arv Z h98 b84 kk85 .byte (4 : Int32) [(.int b.toInt8.toInt32.toInt8.toInt32), (.int (128 : Int32).toInt8.toInt32.toInt8.toInt32), (.int (0 : Int32)), (.int (0 : Int32))] (.int (0 : Int32)) := V100
                refine ow_dup C A97 at_202 rfl rfl ?_
                refine ow_iconst C A97 at_203 (v := 2) rfl rfl ?_
                refine ow_bipush C A97 at_204 (v := (-128)) rfl rfl ?_
                refine ow_bastore C A97 V101 ⟨by decide, by decide⟩ (i := 2) rfl (Nat.le_of_ble_eq_true rfl) ows_b84 at_206 rfl ?_
                intro T102 h104 W105 V106 A103
                have V107 : Arv Z h104 b84 kk85 .byte (4 : Int32) [(.int b.toInt8.toInt32.toInt8.toInt32), (.int (128 : Int32).toInt8.toInt32.toInt8.toInt32), (.int (-128 : Int32).toInt8.toInt32), (.int (0 : Int32))] (.int (0 : Int32)) := V106
                refine ow_dup C A103 at_207 rfl rfl ?_
                refine ow_iconst C A103 at_208 (v := 3) rfl rfl ?_
                refine ow_bipush C A103 at_209 (v := (-128)) rfl rfl ?_
                refine ow_bastore C A103 V107 ⟨by decide, by decide⟩ (i := 3) rfl (Nat.le_of_ble_eq_true rfl) ows_b84 at_211 rfl ?_
                intro T108 h110 W111 V112 A109
                have V113 : Arv Z h110 b84 kk85 .byte (4 : Int32) [(.int b.toInt8.toInt32.toInt8.toInt32), (.int (128 : Int32).toInt8.toInt32.toInt8.toInt32), (.int (-128 : Int32).toInt8.toInt32), (.int (-128 : Int32).toInt8.toInt32)] (.int (0 : Int32)) := V112
                refine ow_astore C A109 at_212 rfl (Ls' := #[.val (.int p1), .val (.int p2), .val (.int p3), .val (.int p4), .val (.int b), .val (.int (0 : Int32)), .val (.int (0 : Int32)), .val (.int (0 : Int32)), .val (.int (1 : Int32)), .val (.int (1 : Int32)), .val (.int (128 : Int32)), .val (.ref b84)]) rfl rfl ?_
                refine ow_aload C A109 at_214 rfl rfl rfl ?_
                refine ow_iconst C A109 at_216 (v := 0) rfl rfl ?_
                refine ow_iconst C A109 at_217 (v := 4) rfl rfl ?_
                refine ow_callS C A109 (argsL := [(.ref b84), (.int (0 : Int32)), (.int (4 : Int32))]) (rm_cpE3 l Z a0 hw b84 kk85 b.toInt8.toInt32.toInt8.toInt32 b (128 : Int32).toInt8.toInt32.toInt8.toInt32 (-128 : Int32).toInt8.toInt32 (-128 : Int32).toInt8.toInt32  h110 V113 (own_byte b ⟨by omega, by omega⟩) (by decide) (by decide) (by decide) ⟨by omega, by omega⟩ hn224 hn240 []) tw_5 tw_6 tw_2 tw_7 (by decide) all0 (by decide) (by decide) (ck' := 1) (sk' := 4) rfl rfl (by decide) (by decide) rfl (lenOf pd_2 rfl) (S := []) rfl (W := 0) (Nat.le_of_eq rfl) at_218 rfl ?_
                intro T114 v114 K114 hQ114 A114
                obtain ⟨ee114, cc114, rfl, hl114, hu114⟩ := hQ114
                rw [ee114] at A114 K114
                show OwnWP _ _ _ _ _ _ _ _ _ T114 (mkF m 221 #[.val (.int p1), .val (.int p2), .val (.int p3), .val (.int p4), .val (.int b), .val (.int (0 : Int32)), .val (.int (0 : Int32)), .val (.int (0 : Int32)), .val (.int (1 : Int32)), .val (.int (1 : Int32)), .val (.int (128 : Int32)), .val (.ref b84)] [(.int cc114)])
                refine ow_if_lt C A114 at_221 (by decide) (pcY := 228) (by decide) (pcN := 224) rfl (fun z => absurd z (own_nlt32 (by show ¬ (cc114.toInt < 0); omega))) (fun _ => ?_)
                refine ow_iconst C A114 at_224 (v := 1) rfl rfl ?_
                refine ow_goto C A114 at_225 (by decide) (pc' := 229) (by decide) ?_
                refine ow_ireturn C A114 (t := .boolean) rfl rfl (by simp) at_229 (by decide) (by decide) ?_
                exact rfl
              · skip
                have iv115 : b.toInt = 240 := own_eq32' hc173
                refine ow_sipush C A78 at_176 (v := 144) rfl rfl ?_
                refine ow_goto C A78 at_179 (by decide) (pc' := 185) (by decide) ?_
                refine ow_istore C A78 at_185 (Ls' := #[.val (.int p1), .val (.int p2), .val (.int p3), .val (.int p4), .val (.int b), .val (.int (0 : Int32)), .val (.int (0 : Int32)), .val (.int (0 : Int32)), .val (.int (1 : Int32)), .val (.int (1 : Int32)), .val (.int (144 : Int32)), .unset]) rfl rfl ?_
                refine ow_iconst C A78 at_187 (v := 4) rfl rfl ?_
                refine ow_newA C A78 (ty := .byte) rfl tw_4 at_188 rfl (by decide) (cap := 4) (by decide) (by decide) (ck' := 1) (sk' := 4) rfl rfl (by decide) (by decide) ?_
                intro T116 h118 b119 kk120 g121 E122 V123 A117
                have ows_b119 : b119 ∈ ([] : List Addr) ∨ h0.size ≤ b119 := Or.inr (Nat.le_trans (ow_le A78) (Nat.le_of_eq g121.symm))
                have V124 : Arv Z h118 b119 kk120 .byte (4 : Int32) [(.int (0 : Int32)), (.int (0 : Int32)), (.int (0 : Int32)), (.int (0 : Int32))] (.int (0 : Int32)) := V123.pad (pad_rep [] (.int (0 : Int32)) 4)
                refine ow_dup C A117 at_190 rfl rfl ?_
                refine ow_iconst C A117 at_191 (v := 0) rfl rfl ?_
                refine ow_iload C A117 at_192 rfl rfl ?_
                refine ow_i2b C A117 at_194 rfl ?_
                refine ow_bastore C A117 V124 ⟨by decide, by decide⟩ (i := 0) rfl (Nat.le_of_ble_eq_true rfl) ows_b119 at_195 rfl ?_
                intro T125 h127 W128 V129 A126
                have V130 : Arv Z h127 b119 kk120 .byte (4 : Int32) [(.int b.toInt8.toInt32.toInt8.toInt32), (.int (0 : Int32)), (.int (0 : Int32)), (.int (0 : Int32))] (.int (0 : Int32)) := V129
                refine ow_dup C A126 at_196 rfl rfl ?_
                refine ow_iconst C A126 at_197 (v := 1) rfl rfl ?_
                refine ow_iload C A126 at_198 rfl rfl ?_
                refine ow_i2b C A126 at_200 rfl ?_
                refine ow_bastore C A126 V130 ⟨by decide, by decide⟩ (i := 1) rfl (Nat.le_of_ble_eq_true rfl) ows_b119 at_201 rfl ?_
                intro T131 h133 W134 V135 A132
                have V136 : Arv Z h133 b119 kk120 .byte (4 : Int32) [(.int b.toInt8.toInt32.toInt8.toInt32), (.int (144 : Int32).toInt8.toInt32.toInt8.toInt32), (.int (0 : Int32)), (.int (0 : Int32))] (.int (0 : Int32)) := V135
                refine ow_dup C A132 at_202 rfl rfl ?_
                refine ow_iconst C A132 at_203 (v := 2) rfl rfl ?_
                refine ow_bipush C A132 at_204 (v := (-128)) rfl rfl ?_
                refine ow_bastore C A132 V136 ⟨by decide, by decide⟩ (i := 2) rfl (Nat.le_of_ble_eq_true rfl) ows_b119 at_206 rfl ?_
                intro T137 h139 W140 V141 A138
                have V142 : Arv Z h139 b119 kk120 .byte (4 : Int32) [(.int b.toInt8.toInt32.toInt8.toInt32), (.int (144 : Int32).toInt8.toInt32.toInt8.toInt32), (.int (-128 : Int32).toInt8.toInt32), (.int (0 : Int32))] (.int (0 : Int32)) := V141
                refine ow_dup C A138 at_207 rfl rfl ?_
                refine ow_iconst C A138 at_208 (v := 3) rfl rfl ?_
                refine ow_bipush C A138 at_209 (v := (-128)) rfl rfl ?_
                refine ow_bastore C A138 V142 ⟨by decide, by decide⟩ (i := 3) rfl (Nat.le_of_ble_eq_true rfl) ows_b119 at_211 rfl ?_
                intro T143 h145 W146 V147 A144
                have V148 : Arv Z h145 b119 kk120 .byte (4 : Int32) [(.int b.toInt8.toInt32.toInt8.toInt32), (.int (144 : Int32).toInt8.toInt32.toInt8.toInt32), (.int (-128 : Int32).toInt8.toInt32), (.int (-128 : Int32).toInt8.toInt32)] (.int (0 : Int32)) := V147
                refine ow_astore C A144 at_212 rfl (Ls' := #[.val (.int p1), .val (.int p2), .val (.int p3), .val (.int p4), .val (.int b), .val (.int (0 : Int32)), .val (.int (0 : Int32)), .val (.int (0 : Int32)), .val (.int (1 : Int32)), .val (.int (1 : Int32)), .val (.int (144 : Int32)), .val (.ref b119)]) rfl rfl ?_
                refine ow_aload C A144 at_214 rfl rfl rfl ?_
                refine ow_iconst C A144 at_216 (v := 0) rfl rfl ?_
                refine ow_iconst C A144 at_217 (v := 4) rfl rfl ?_
                refine ow_callS C A144 (argsL := [(.ref b119), (.int (0 : Int32)), (.int (4 : Int32))]) (rm_cpE2 l Z a0 hw b119 kk120 b.toInt8.toInt32.toInt8.toInt32 b (144 : Int32).toInt8.toInt32.toInt8.toInt32 (-128 : Int32).toInt8.toInt32 (-128 : Int32).toInt8.toInt32  h145 V148 (own_byte b ⟨by omega, by omega⟩) (by decide) (by decide) (by decide) ⟨by omega, by omega⟩  []) tw_5 tw_6 tw_2 tw_7 (by decide) all0 (by decide) (by decide) (ck' := 1) (sk' := 4) rfl rfl (by decide) (by decide) rfl (lenOf pd_2 rfl) (S := []) rfl (W := 0) (Nat.le_of_eq rfl) at_218 rfl ?_
                intro T149 v149 K149 hQ149 A149
                obtain ⟨ee149, cc149, rfl, hl149, hu149⟩ := hQ149
                rw [ee149] at A149 K149
                show OwnWP _ _ _ _ _ _ _ _ _ T149 (mkF m 221 #[.val (.int p1), .val (.int p2), .val (.int p3), .val (.int p4), .val (.int b), .val (.int (0 : Int32)), .val (.int (0 : Int32)), .val (.int (0 : Int32)), .val (.int (1 : Int32)), .val (.int (1 : Int32)), .val (.int (144 : Int32)), .val (.ref b119)] [(.int cc149)])
                refine ow_if_lt C A149 at_221 (by decide) (pcY := 228) (by decide) (pcN := 224) rfl (fun z => absurd z (own_nlt32 (by show ¬ (cc149.toInt < 0); omega))) (fun _ => ?_)
                refine ow_iconst C A149 at_224 (v := 1) rfl rfl ?_
                refine ow_goto C A149 at_225 (by decide) (pc' := 229) (by decide) ?_
                refine ow_ireturn C A149 (t := .boolean) rfl rfl (by simp) at_229 (by decide) (by decide) ?_
                exact rfl
            · skip
              have iv150 : b.toInt = 224 := own_eq32' hc159
              refine ow_sipush C A78 at_162 (v := 160) rfl rfl ?_
              refine ow_goto C A78 at_165 (by decide) (pc' := 185) (by decide) ?_
              refine ow_istore C A78 at_185 (Ls' := #[.val (.int p1), .val (.int p2), .val (.int p3), .val (.int p4), .val (.int b), .val (.int (0 : Int32)), .val (.int (0 : Int32)), .val (.int (0 : Int32)), .val (.int (1 : Int32)), .val (.int (1 : Int32)), .val (.int (160 : Int32)), .unset]) rfl rfl ?_
              refine ow_iconst C A78 at_187 (v := 4) rfl rfl ?_
              refine ow_newA C A78 (ty := .byte) rfl tw_4 at_188 rfl (by decide) (cap := 4) (by decide) (by decide) (ck' := 1) (sk' := 4) rfl rfl (by decide) (by decide) ?_
              intro T151 h153 b154 kk155 g156 E157 V158 A152
              have ows_b154 : b154 ∈ ([] : List Addr) ∨ h0.size ≤ b154 := Or.inr (Nat.le_trans (ow_le A78) (Nat.le_of_eq g156.symm))
              have V159 : Arv Z h153 b154 kk155 .byte (4 : Int32) [(.int (0 : Int32)), (.int (0 : Int32)), (.int (0 : Int32)), (.int (0 : Int32))] (.int (0 : Int32)) := V158.pad (pad_rep [] (.int (0 : Int32)) 4)
              refine ow_dup C A152 at_190 rfl rfl ?_
              refine ow_iconst C A152 at_191 (v := 0) rfl rfl ?_
              refine ow_iload C A152 at_192 rfl rfl ?_
              refine ow_i2b C A152 at_194 rfl ?_
              refine ow_bastore C A152 V159 ⟨by decide, by decide⟩ (i := 0) rfl (Nat.le_of_ble_eq_true rfl) ows_b154 at_195 rfl ?_
              intro T160 h162 W163 V164 A161
              have V165 : Arv Z h162 b154 kk155 .byte (4 : Int32) [(.int b.toInt8.toInt32.toInt8.toInt32), (.int (0 : Int32)), (.int (0 : Int32)), (.int (0 : Int32))] (.int (0 : Int32)) := V164
              refine ow_dup C A161 at_196 rfl rfl ?_
              refine ow_iconst C A161 at_197 (v := 1) rfl rfl ?_
              refine ow_iload C A161 at_198 rfl rfl ?_
              refine ow_i2b C A161 at_200 rfl ?_
              refine ow_bastore C A161 V165 ⟨by decide, by decide⟩ (i := 1) rfl (Nat.le_of_ble_eq_true rfl) ows_b154 at_201 rfl ?_
              intro T166 h168 W169 V170 A167
              have V171 : Arv Z h168 b154 kk155 .byte (4 : Int32) [(.int b.toInt8.toInt32.toInt8.toInt32), (.int (160 : Int32).toInt8.toInt32.toInt8.toInt32), (.int (0 : Int32)), (.int (0 : Int32))] (.int (0 : Int32)) := V170
              refine ow_dup C A167 at_202 rfl rfl ?_
              refine ow_iconst C A167 at_203 (v := 2) rfl rfl ?_
              refine ow_bipush C A167 at_204 (v := (-128)) rfl rfl ?_
              refine ow_bastore C A167 V171 ⟨by decide, by decide⟩ (i := 2) rfl (Nat.le_of_ble_eq_true rfl) ows_b154 at_206 rfl ?_
              intro T172 h174 W175 V176 A173
              have V177 : Arv Z h174 b154 kk155 .byte (4 : Int32) [(.int b.toInt8.toInt32.toInt8.toInt32), (.int (160 : Int32).toInt8.toInt32.toInt8.toInt32), (.int (-128 : Int32).toInt8.toInt32), (.int (0 : Int32))] (.int (0 : Int32)) := V176
              refine ow_dup C A173 at_207 rfl rfl ?_
              refine ow_iconst C A173 at_208 (v := 3) rfl rfl ?_
              refine ow_bipush C A173 at_209 (v := (-128)) rfl rfl ?_
              refine ow_bastore C A173 V177 ⟨by decide, by decide⟩ (i := 3) rfl (Nat.le_of_ble_eq_true rfl) ows_b154 at_211 rfl ?_
              intro T178 h180 W181 V182 A179
              have V183 : Arv Z h180 b154 kk155 .byte (4 : Int32) [(.int b.toInt8.toInt32.toInt8.toInt32), (.int (160 : Int32).toInt8.toInt32.toInt8.toInt32), (.int (-128 : Int32).toInt8.toInt32), (.int (-128 : Int32).toInt8.toInt32)] (.int (0 : Int32)) := V182
              refine ow_astore C A179 at_212 rfl (Ls' := #[.val (.int p1), .val (.int p2), .val (.int p3), .val (.int p4), .val (.int b), .val (.int (0 : Int32)), .val (.int (0 : Int32)), .val (.int (0 : Int32)), .val (.int (1 : Int32)), .val (.int (1 : Int32)), .val (.int (160 : Int32)), .val (.ref b154)]) rfl rfl ?_
              refine ow_aload C A179 at_214 rfl rfl rfl ?_
              refine ow_iconst C A179 at_216 (v := 0) rfl rfl ?_
              refine ow_iconst C A179 at_217 (v := 4) rfl rfl ?_
              refine ow_callS C A179 (argsL := [(.ref b154), (.int (0 : Int32)), (.int (4 : Int32))]) (rm_cpE1 l Z a0 hw b154 kk155 b.toInt8.toInt32.toInt8.toInt32 b (160 : Int32).toInt8.toInt32.toInt8.toInt32 (-128 : Int32).toInt8.toInt32 (.int (-128 : Int32).toInt8.toInt32) h180 V183 (own_byte b ⟨by omega, by omega⟩) (by decide) (by decide) ⟨by omega, by omega⟩  []) tw_5 tw_6 tw_2 tw_7 (by decide) all0 (by decide) (by decide) (ck' := 1) (sk' := 4) rfl rfl (by decide) (by decide) rfl (lenOf pd_2 rfl) (S := []) rfl (W := 0) (Nat.le_of_eq rfl) at_218 rfl ?_
              intro T184 v184 K184 hQ184 A184
              obtain ⟨ee184, cc184, rfl, hl184, hu184⟩ := hQ184
              rw [ee184] at A184 K184
              show OwnWP _ _ _ _ _ _ _ _ _ T184 (mkF m 221 #[.val (.int p1), .val (.int p2), .val (.int p3), .val (.int p4), .val (.int b), .val (.int (0 : Int32)), .val (.int (0 : Int32)), .val (.int (0 : Int32)), .val (.int (1 : Int32)), .val (.int (1 : Int32)), .val (.int (160 : Int32)), .val (.ref b154)] [(.int cc184)])
              refine ow_if_lt C A184 at_221 (by decide) (pcY := 228) (by decide) (pcN := 224) rfl (fun z => absurd z (own_nlt32 (by show ¬ (cc184.toInt < 0); omega))) (fun _ => ?_)
              refine ow_iconst C A184 at_224 (v := 1) rfl rfl ?_
              refine ow_goto C A184 at_225 (by decide) (pc' := 229) (by decide) ?_
              refine ow_ireturn C A184 (t := .boolean) rfl rfl (by simp) at_229 (by decide) (by decide) ?_
              exact rfl
          · skip
            have iv185 : 244 < b.toInt := own_lt32' hc58
            refine ow_iconst C A0 at_61 (v := 1) rfl rfl ?_
            refine ow_goto C A0 at_62 (by decide) (pc' := 66) (by decide) ?_
            refine ow_istore C A0 at_66 (Ls' := #[.val (.int p1), .val (.int p2), .val (.int p3), .val (.int p4), .val (.int b), .val (.int (0 : Int32)), .val (.int (0 : Int32)), .val (.int (1 : Int32)), .unset, .unset, .unset, .unset]) rfl rfl ?_
            refine ow_iload C A0 at_68 rfl rfl ?_
            refine ow_if_ne C A0 at_70 (by decide) (pcY := 87) (by decide) (pcN := 73) rfl (fun z => absurd (by decide) z) (fun _ => ?_)
            refine ow_iload C A0 at_73 rfl rfl ?_
            refine ow_if_ne C A0 at_75 (by decide) (pcY := 87) (by decide) (pcN := 78) rfl (fun z => absurd (by decide) z) (fun _ => ?_)
            refine ow_iload C A0 at_78 rfl rfl ?_
            refine ow_if_ne C A0 at_80 (by decide) (pcY := 87) (by decide) (pcN := 83) rfl (fun _ => ?_) (fun z => absurd z (by decide))
            refine ow_iconst C A0 at_87 (v := 0) rfl rfl ?_
            refine ow_istore C A0 at_88 (Ls' := #[.val (.int p1), .val (.int p2), .val (.int p3), .val (.int p4), .val (.int b), .val (.int (0 : Int32)), .val (.int (0 : Int32)), .val (.int (1 : Int32)), .val (.int (0 : Int32)), .unset, .unset, .unset]) rfl rfl ?_
            refine ow_iload C A0 at_90 rfl rfl ?_
            refine ow_callS C A0 (argsL := [(.int b)]) (rm_cs l Z a0 hw b h0 []) tw_0 tw_1 tw_2 tw_3 (by decide) all0 (by decide) (by decide) (ck' := 0) (sk' := 0) rfl rfl (by decide) (by decide) rfl (lenOf pd_1 rfl) (S := []) rfl (W := 0) (Nat.le_of_eq rfl) at_92 rfl ?_
            intro T186 v186 K186 hQ186 A186
            obtain ⟨rfl, ee186⟩ := hQ186
            rw [ee186] at A186 K186
            show OwnWP _ _ _ _ _ _ _ _ _ T186 (mkF m 95 #[.val (.int p1), .val (.int p2), .val (.int p3), .val (.int p4), .val (.int b), .val (.int (0 : Int32)), .val (.int (0 : Int32)), .val (.int (1 : Int32)), .val (.int (0 : Int32)), .unset, .unset, .unset] [(.int (own_cs b))])
            rw [own_cs0 b (by omega)]
            refine ow_istore C A186 at_95 (Ls' := #[.val (.int p1), .val (.int p2), .val (.int p3), .val (.int p4), .val (.int b), .val (.int (0 : Int32)), .val (.int (0 : Int32)), .val (.int (1 : Int32)), .val (.int (0 : Int32)), .val (.int (0 : Int32)), .unset, .unset]) rfl rfl ?_
            refine ow_iload C A186 at_97 rfl rfl ?_
            refine ow_iload C A186 at_99 rfl rfl ?_
            refine ow_icmp_eq C A186 at_101 (by decide) (pcY := 106) (by decide) (pcN := 104) rfl (fun _ => ?_) (fun z => absurd (by decide) z)
            refine ow_iload C A186 at_106 rfl rfl ?_
            refine ow_if_ne C A186 at_108 (by decide) (pcY := 154) (by decide) (pcN := 111) rfl (fun z => absurd (by decide) z) (fun _ => ?_)
            refine ow_iconst C A186 at_111 (v := 4) rfl rfl ?_
            refine ow_newA C A186 (ty := .byte) rfl tw_4 at_112 rfl (by decide) (cap := 4) (by decide) (by decide) (ck' := 1) (sk' := 4) rfl rfl (by decide) (by decide) ?_
            intro T187 h189 b190 kk191 g192 E193 V194 A188
            have ows_b190 : b190 ∈ ([] : List Addr) ∨ h0.size ≤ b190 := Or.inr (Nat.le_trans (ow_le A186) (Nat.le_of_eq g192.symm))
            have V195 : Arv Z h189 b190 kk191 .byte (4 : Int32) [(.int (0 : Int32)), (.int (0 : Int32)), (.int (0 : Int32)), (.int (0 : Int32))] (.int (0 : Int32)) := V194.pad (pad_rep [] (.int (0 : Int32)) 4)
            refine ow_dup C A188 at_114 rfl rfl ?_
            refine ow_iconst C A188 at_115 (v := 0) rfl rfl ?_
            refine ow_iload C A188 at_116 rfl rfl ?_
            refine ow_i2b C A188 at_118 rfl ?_
            refine ow_bastore C A188 V195 ⟨by decide, by decide⟩ (i := 0) rfl (Nat.le_of_ble_eq_true rfl) ows_b190 at_119 rfl ?_
            intro T196 h198 W199 V200 A197
            have V201 : Arv Z h198 b190 kk191 .byte (4 : Int32) [(.int b.toInt8.toInt32.toInt8.toInt32), (.int (0 : Int32)), (.int (0 : Int32)), (.int (0 : Int32))] (.int (0 : Int32)) := V200
            refine ow_dup C A197 at_120 rfl rfl ?_
            refine ow_iconst C A197 at_121 (v := 1) rfl rfl ?_
            refine ow_iloadN C A197 at_122 rfl rfl ?_
            refine ow_i2b C A197 at_123 rfl ?_
            refine ow_bastore C A197 V201 ⟨by decide, by decide⟩ (i := 1) rfl (Nat.le_of_ble_eq_true rfl) ows_b190 at_124 rfl ?_
            intro T202 h204 W205 V206 A203
            have V207 : Arv Z h204 b190 kk191 .byte (4 : Int32) [(.int b.toInt8.toInt32.toInt8.toInt32), (.int p2.toInt8.toInt32.toInt8.toInt32), (.int (0 : Int32)), (.int (0 : Int32))] (.int (0 : Int32)) := V206
            refine ow_dup C A203 at_125 rfl rfl ?_
            refine ow_iconst C A203 at_126 (v := 2) rfl rfl ?_
            refine ow_iloadN C A203 at_127 rfl rfl ?_
            refine ow_i2b C A203 at_128 rfl ?_
            refine ow_bastore C A203 V207 ⟨by decide, by decide⟩ (i := 2) rfl (Nat.le_of_ble_eq_true rfl) ows_b190 at_129 rfl ?_
            intro T208 h210 W211 V212 A209
            have V213 : Arv Z h210 b190 kk191 .byte (4 : Int32) [(.int b.toInt8.toInt32.toInt8.toInt32), (.int p2.toInt8.toInt32.toInt8.toInt32), (.int p3.toInt8.toInt32.toInt8.toInt32), (.int (0 : Int32))] (.int (0 : Int32)) := V212
            refine ow_dup C A209 at_130 rfl rfl ?_
            refine ow_iconst C A209 at_131 (v := 3) rfl rfl ?_
            refine ow_iloadN C A209 at_132 rfl rfl ?_
            refine ow_i2b C A209 at_133 rfl ?_
            refine ow_bastore C A209 V213 ⟨by decide, by decide⟩ (i := 3) rfl (Nat.le_of_ble_eq_true rfl) ows_b190 at_134 rfl ?_
            intro T214 h216 W217 V218 A215
            have V219 : Arv Z h216 b190 kk191 .byte (4 : Int32) [(.int b.toInt8.toInt32.toInt8.toInt32), (.int p2.toInt8.toInt32.toInt8.toInt32), (.int p3.toInt8.toInt32.toInt8.toInt32), (.int p4.toInt8.toInt32.toInt8.toInt32)] (.int (0 : Int32)) := V218
            refine ow_astore C A215 at_135 rfl (Ls' := #[.val (.int p1), .val (.int p2), .val (.int p3), .val (.int p4), .val (.int b), .val (.int (0 : Int32)), .val (.int (0 : Int32)), .val (.int (1 : Int32)), .val (.int (0 : Int32)), .val (.int (0 : Int32)), .val (.ref b190), .unset]) rfl rfl ?_
            refine ow_aload C A215 at_137 rfl rfl rfl ?_
            refine ow_iconst C A215 at_139 (v := 0) rfl rfl ?_
            refine ow_iconst C A215 at_140 (v := 4) rfl rfl ?_
            refine ow_callS C A215 (argsL := [(.ref b190), (.int (0 : Int32)), (.int (4 : Int32))]) (rm_cpN2 l Z a0 hw b190 kk191 b.toInt8.toInt32.toInt8.toInt32 b (.int p2.toInt8.toInt32.toInt8.toInt32) (.int p3.toInt8.toInt32.toInt8.toInt32) (.int p4.toInt8.toInt32.toInt8.toInt32) h216 V219 (own_byte b ⟨by omega, by omega⟩) ⟨by omega, by omega⟩ []) tw_5 tw_6 tw_2 tw_7 (by decide) all0 (by decide) (by decide) (ck' := 1) (sk' := 4) rfl rfl (by decide) (by decide) rfl (lenOf pd_2 rfl) (S := []) rfl (W := 0) (Nat.le_of_eq rfl) at_141 rfl ?_
            intro T220 v220 K220 hQ220 A220
            obtain ⟨rfl, ee220⟩ := hQ220
            rw [ee220] at A220 K220
            show OwnWP _ _ _ _ _ _ _ _ _ T220 (mkF m 144 #[.val (.int p1), .val (.int p2), .val (.int p3), .val (.int p4), .val (.int b), .val (.int (0 : Int32)), .val (.int (0 : Int32)), .val (.int (1 : Int32)), .val (.int (0 : Int32)), .val (.int (0 : Int32)), .val (.ref b190), .unset] [(.int (-1 : Int32))])
            refine ow_iconst C A220 at_144 (v := (-1)) rfl rfl ?_
            refine ow_icmp_ne C A220 at_145 (by decide) (pcY := 152) (by decide) (pcN := 148) rfl (fun z => absurd (by decide) z) (fun _ => ?_)
            refine ow_iconst C A220 at_148 (v := 1) rfl rfl ?_
            refine ow_goto C A220 at_149 (by decide) (pc' := 153) (by decide) ?_
            refine ow_ireturn C A220 (t := .boolean) rfl rfl (by simp) at_153 (by decide) (by decide) ?_
            exact rfl
        · skip
          have iv221 : b.toInt = 193 := own_eq32' hc43
          refine ow_iconst C A0 at_46 (v := 1) rfl rfl ?_
          refine ow_goto C A0 at_47 (by decide) (pc' := 51) (by decide) ?_
          refine ow_istore C A0 at_51 (Ls' := #[.val (.int p1), .val (.int p2), .val (.int p3), .val (.int p4), .val (.int b), .val (.int (0 : Int32)), .val (.int (1 : Int32)), .unset, .unset, .unset, .unset, .unset]) rfl rfl ?_
          refine ow_iload C A0 at_53 rfl rfl ?_
          refine ow_sipush C A0 at_55 (v := 244) rfl rfl ?_
          refine ow_icmp_le C A0 at_58 (by decide) (pcY := 65) (by decide) (pcN := 61) rfl (fun _ => ?_) (fun z => absurd z (own_nlt32 (by show ¬ (244 < b.toInt); omega)))
          refine ow_iconst C A0 at_65 (v := 0) rfl rfl ?_
          refine ow_istore C A0 at_66 (Ls' := #[.val (.int p1), .val (.int p2), .val (.int p3), .val (.int p4), .val (.int b), .val (.int (0 : Int32)), .val (.int (1 : Int32)), .val (.int (0 : Int32)), .unset, .unset, .unset, .unset]) rfl rfl ?_
          refine ow_iload C A0 at_68 rfl rfl ?_
          refine ow_if_ne C A0 at_70 (by decide) (pcY := 87) (by decide) (pcN := 73) rfl (fun z => absurd (by decide) z) (fun _ => ?_)
          refine ow_iload C A0 at_73 rfl rfl ?_
          refine ow_if_ne C A0 at_75 (by decide) (pcY := 87) (by decide) (pcN := 78) rfl (fun _ => ?_) (fun z => absurd z (by decide))
          refine ow_iconst C A0 at_87 (v := 0) rfl rfl ?_
          refine ow_istore C A0 at_88 (Ls' := #[.val (.int p1), .val (.int p2), .val (.int p3), .val (.int p4), .val (.int b), .val (.int (0 : Int32)), .val (.int (1 : Int32)), .val (.int (0 : Int32)), .val (.int (0 : Int32)), .unset, .unset, .unset]) rfl rfl ?_
          refine ow_iload C A0 at_90 rfl rfl ?_
          refine ow_callS C A0 (argsL := [(.int b)]) (rm_cs l Z a0 hw b h0 []) tw_0 tw_1 tw_2 tw_3 (by decide) all0 (by decide) (by decide) (ck' := 0) (sk' := 0) rfl rfl (by decide) (by decide) rfl (lenOf pd_1 rfl) (S := []) rfl (W := 0) (Nat.le_of_eq rfl) at_92 rfl ?_
          intro T222 v222 K222 hQ222 A222
          obtain ⟨rfl, ee222⟩ := hQ222
          rw [ee222] at A222 K222
          show OwnWP _ _ _ _ _ _ _ _ _ T222 (mkF m 95 #[.val (.int p1), .val (.int p2), .val (.int p3), .val (.int p4), .val (.int b), .val (.int (0 : Int32)), .val (.int (1 : Int32)), .val (.int (0 : Int32)), .val (.int (0 : Int32)), .unset, .unset, .unset] [(.int (own_cs b))])
          rw [own_cs0 b (by omega)]
          refine ow_istore C A222 at_95 (Ls' := #[.val (.int p1), .val (.int p2), .val (.int p3), .val (.int p4), .val (.int b), .val (.int (0 : Int32)), .val (.int (1 : Int32)), .val (.int (0 : Int32)), .val (.int (0 : Int32)), .val (.int (0 : Int32)), .unset, .unset]) rfl rfl ?_
          refine ow_iload C A222 at_97 rfl rfl ?_
          refine ow_iload C A222 at_99 rfl rfl ?_
          refine ow_icmp_eq C A222 at_101 (by decide) (pcY := 106) (by decide) (pcN := 104) rfl (fun _ => ?_) (fun z => absurd (by decide) z)
          refine ow_iload C A222 at_106 rfl rfl ?_
          refine ow_if_ne C A222 at_108 (by decide) (pcY := 154) (by decide) (pcN := 111) rfl (fun z => absurd (by decide) z) (fun _ => ?_)
          refine ow_iconst C A222 at_111 (v := 4) rfl rfl ?_
          refine ow_newA C A222 (ty := .byte) rfl tw_4 at_112 rfl (by decide) (cap := 4) (by decide) (by decide) (ck' := 1) (sk' := 4) rfl rfl (by decide) (by decide) ?_
          intro T223 h225 b226 kk227 g228 E229 V230 A224
          have ows_b226 : b226 ∈ ([] : List Addr) ∨ h0.size ≤ b226 := Or.inr (Nat.le_trans (ow_le A222) (Nat.le_of_eq g228.symm))
          have V231 : Arv Z h225 b226 kk227 .byte (4 : Int32) [(.int (0 : Int32)), (.int (0 : Int32)), (.int (0 : Int32)), (.int (0 : Int32))] (.int (0 : Int32)) := V230.pad (pad_rep [] (.int (0 : Int32)) 4)
          refine ow_dup C A224 at_114 rfl rfl ?_
          refine ow_iconst C A224 at_115 (v := 0) rfl rfl ?_
          refine ow_iload C A224 at_116 rfl rfl ?_
          refine ow_i2b C A224 at_118 rfl ?_
          refine ow_bastore C A224 V231 ⟨by decide, by decide⟩ (i := 0) rfl (Nat.le_of_ble_eq_true rfl) ows_b226 at_119 rfl ?_
          intro T232 h234 W235 V236 A233
          have V237 : Arv Z h234 b226 kk227 .byte (4 : Int32) [(.int b.toInt8.toInt32.toInt8.toInt32), (.int (0 : Int32)), (.int (0 : Int32)), (.int (0 : Int32))] (.int (0 : Int32)) := V236
          refine ow_dup C A233 at_120 rfl rfl ?_
          refine ow_iconst C A233 at_121 (v := 1) rfl rfl ?_
          refine ow_iloadN C A233 at_122 rfl rfl ?_
          refine ow_i2b C A233 at_123 rfl ?_
          refine ow_bastore C A233 V237 ⟨by decide, by decide⟩ (i := 1) rfl (Nat.le_of_ble_eq_true rfl) ows_b226 at_124 rfl ?_
          intro T238 h240 W241 V242 A239
          have V243 : Arv Z h240 b226 kk227 .byte (4 : Int32) [(.int b.toInt8.toInt32.toInt8.toInt32), (.int p2.toInt8.toInt32.toInt8.toInt32), (.int (0 : Int32)), (.int (0 : Int32))] (.int (0 : Int32)) := V242
          refine ow_dup C A239 at_125 rfl rfl ?_
          refine ow_iconst C A239 at_126 (v := 2) rfl rfl ?_
          refine ow_iloadN C A239 at_127 rfl rfl ?_
          refine ow_i2b C A239 at_128 rfl ?_
          refine ow_bastore C A239 V243 ⟨by decide, by decide⟩ (i := 2) rfl (Nat.le_of_ble_eq_true rfl) ows_b226 at_129 rfl ?_
          intro T244 h246 W247 V248 A245
          have V249 : Arv Z h246 b226 kk227 .byte (4 : Int32) [(.int b.toInt8.toInt32.toInt8.toInt32), (.int p2.toInt8.toInt32.toInt8.toInt32), (.int p3.toInt8.toInt32.toInt8.toInt32), (.int (0 : Int32))] (.int (0 : Int32)) := V248
          refine ow_dup C A245 at_130 rfl rfl ?_
          refine ow_iconst C A245 at_131 (v := 3) rfl rfl ?_
          refine ow_iloadN C A245 at_132 rfl rfl ?_
          refine ow_i2b C A245 at_133 rfl ?_
          refine ow_bastore C A245 V249 ⟨by decide, by decide⟩ (i := 3) rfl (Nat.le_of_ble_eq_true rfl) ows_b226 at_134 rfl ?_
          intro T250 h252 W253 V254 A251
          have V255 : Arv Z h252 b226 kk227 .byte (4 : Int32) [(.int b.toInt8.toInt32.toInt8.toInt32), (.int p2.toInt8.toInt32.toInt8.toInt32), (.int p3.toInt8.toInt32.toInt8.toInt32), (.int p4.toInt8.toInt32.toInt8.toInt32)] (.int (0 : Int32)) := V254
          refine ow_astore C A251 at_135 rfl (Ls' := #[.val (.int p1), .val (.int p2), .val (.int p3), .val (.int p4), .val (.int b), .val (.int (0 : Int32)), .val (.int (1 : Int32)), .val (.int (0 : Int32)), .val (.int (0 : Int32)), .val (.int (0 : Int32)), .val (.ref b226), .unset]) rfl rfl ?_
          refine ow_aload C A251 at_137 rfl rfl rfl ?_
          refine ow_iconst C A251 at_139 (v := 0) rfl rfl ?_
          refine ow_iconst C A251 at_140 (v := 4) rfl rfl ?_
          refine ow_callS C A251 (argsL := [(.ref b226), (.int (0 : Int32)), (.int (4 : Int32))]) (rm_cpN1 l Z a0 hw b226 kk227 b.toInt8.toInt32.toInt8.toInt32 b (.int p2.toInt8.toInt32.toInt8.toInt32) (.int p3.toInt8.toInt32.toInt8.toInt32) (.int p4.toInt8.toInt32.toInt8.toInt32) h252 V255 (own_byte b ⟨by omega, by omega⟩) ⟨by omega, by omega⟩ []) tw_5 tw_6 tw_2 tw_7 (by decide) all0 (by decide) (by decide) (ck' := 1) (sk' := 4) rfl rfl (by decide) (by decide) rfl (lenOf pd_2 rfl) (S := []) rfl (W := 0) (Nat.le_of_eq rfl) at_141 rfl ?_
          intro T256 v256 K256 hQ256 A256
          obtain ⟨rfl, ee256⟩ := hQ256
          rw [ee256] at A256 K256
          show OwnWP _ _ _ _ _ _ _ _ _ T256 (mkF m 144 #[.val (.int p1), .val (.int p2), .val (.int p3), .val (.int p4), .val (.int b), .val (.int (0 : Int32)), .val (.int (1 : Int32)), .val (.int (0 : Int32)), .val (.int (0 : Int32)), .val (.int (0 : Int32)), .val (.ref b226), .unset] [(.int (-1 : Int32))])
          refine ow_iconst C A256 at_144 (v := (-1)) rfl rfl ?_
          refine ow_icmp_ne C A256 at_145 (by decide) (pcY := 152) (by decide) (pcN := 148) rfl (fun z => absurd (by decide) z) (fun _ => ?_)
          refine ow_iconst C A256 at_148 (v := 1) rfl rfl ?_
          refine ow_goto C A256 at_149 (by decide) (pc' := 153) (by decide) ?_
          refine ow_ireturn C A256 (t := .boolean) rfl rfl (by simp) at_153 (by decide) (by decide) ?_
          exact rfl
    · skip
      have iv257 : ¬ (191 < b.toInt) := own_nlt32' hc20
      refine ow_iconst C A0 at_23 (v := 1) rfl rfl ?_
      refine ow_goto C A0 at_24 (by decide) (pc' := 28) (by decide) ?_
      refine ow_istore C A0 at_28 (Ls' := #[.val (.int p1), .val (.int p2), .val (.int p3), .val (.int p4), .val (.int b), .val (.int (1 : Int32)), .unset, .unset, .unset, .unset, .unset, .unset]) rfl rfl ?_
      refine ow_iload C A0 at_30 rfl rfl ?_
      refine ow_sipush C A0 at_32 (v := 192) rfl rfl ?_
      refine ow_icmp_eq C A0 at_35 (by decide) (pcY := 46) (by decide) (pcN := 38) rfl (fun z => absurd z (own_ne32 (by show ¬ (b.toInt = 192); omega))) (fun _ => ?_)
      refine ow_iload C A0 at_38 rfl rfl ?_
      refine ow_sipush C A0 at_40 (v := 193) rfl rfl ?_
      refine ow_icmp_ne C A0 at_43 (by decide) (pcY := 50) (by decide) (pcN := 46) rfl (fun _ => ?_) (fun z => absurd z (own_ne32 (by show ¬ (b.toInt = 193); omega)))
      refine ow_iconst C A0 at_50 (v := 0) rfl rfl ?_
      refine ow_istore C A0 at_51 (Ls' := #[.val (.int p1), .val (.int p2), .val (.int p3), .val (.int p4), .val (.int b), .val (.int (1 : Int32)), .val (.int (0 : Int32)), .unset, .unset, .unset, .unset, .unset]) rfl rfl ?_
      refine ow_iload C A0 at_53 rfl rfl ?_
      refine ow_sipush C A0 at_55 (v := 244) rfl rfl ?_
      refine ow_icmp_le C A0 at_58 (by decide) (pcY := 65) (by decide) (pcN := 61) rfl (fun _ => ?_) (fun z => absurd z (own_nlt32 (by show ¬ (244 < b.toInt); omega)))
      refine ow_iconst C A0 at_65 (v := 0) rfl rfl ?_
      refine ow_istore C A0 at_66 (Ls' := #[.val (.int p1), .val (.int p2), .val (.int p3), .val (.int p4), .val (.int b), .val (.int (1 : Int32)), .val (.int (0 : Int32)), .val (.int (0 : Int32)), .unset, .unset, .unset, .unset]) rfl rfl ?_
      refine ow_iload C A0 at_68 rfl rfl ?_
      refine ow_if_ne C A0 at_70 (by decide) (pcY := 87) (by decide) (pcN := 73) rfl (fun _ => ?_) (fun z => absurd z (by decide))
      refine ow_iconst C A0 at_87 (v := 0) rfl rfl ?_
      refine ow_istore C A0 at_88 (Ls' := #[.val (.int p1), .val (.int p2), .val (.int p3), .val (.int p4), .val (.int b), .val (.int (1 : Int32)), .val (.int (0 : Int32)), .val (.int (0 : Int32)), .val (.int (0 : Int32)), .unset, .unset, .unset]) rfl rfl ?_
      refine ow_iload C A0 at_90 rfl rfl ?_
      refine ow_callS C A0 (argsL := [(.int b)]) (rm_cs l Z a0 hw b h0 []) tw_0 tw_1 tw_2 tw_3 (by decide) all0 (by decide) (by decide) (ck' := 0) (sk' := 0) rfl rfl (by decide) (by decide) rfl (lenOf pd_1 rfl) (S := []) rfl (W := 0) (Nat.le_of_eq rfl) at_92 rfl ?_
      intro T258 v258 K258 hQ258 A258
      obtain ⟨rfl, ee258⟩ := hQ258
      rw [ee258] at A258 K258
      show OwnWP _ _ _ _ _ _ _ _ _ T258 (mkF m 95 #[.val (.int p1), .val (.int p2), .val (.int p3), .val (.int p4), .val (.int b), .val (.int (1 : Int32)), .val (.int (0 : Int32)), .val (.int (0 : Int32)), .val (.int (0 : Int32)), .unset, .unset, .unset] [(.int (own_cs b))])
      rw [own_cs0 b (by omega)]
      refine ow_istore C A258 at_95 (Ls' := #[.val (.int p1), .val (.int p2), .val (.int p3), .val (.int p4), .val (.int b), .val (.int (1 : Int32)), .val (.int (0 : Int32)), .val (.int (0 : Int32)), .val (.int (0 : Int32)), .val (.int (0 : Int32)), .unset, .unset]) rfl rfl ?_
      refine ow_iload C A258 at_97 rfl rfl ?_
      refine ow_iload C A258 at_99 rfl rfl ?_
      refine ow_icmp_eq C A258 at_101 (by decide) (pcY := 106) (by decide) (pcN := 104) rfl (fun _ => ?_) (fun z => absurd (by decide) z)
      refine ow_iload C A258 at_106 rfl rfl ?_
      refine ow_if_ne C A258 at_108 (by decide) (pcY := 154) (by decide) (pcN := 111) rfl (fun z => absurd (by decide) z) (fun _ => ?_)
      refine ow_iconst C A258 at_111 (v := 4) rfl rfl ?_
      refine ow_newA C A258 (ty := .byte) rfl tw_4 at_112 rfl (by decide) (cap := 4) (by decide) (by decide) (ck' := 1) (sk' := 4) rfl rfl (by decide) (by decide) ?_
      intro T259 h261 b262 kk263 g264 E265 V266 A260
      have ows_b262 : b262 ∈ ([] : List Addr) ∨ h0.size ≤ b262 := Or.inr (Nat.le_trans (ow_le A258) (Nat.le_of_eq g264.symm))
      have V267 : Arv Z h261 b262 kk263 .byte (4 : Int32) [(.int (0 : Int32)), (.int (0 : Int32)), (.int (0 : Int32)), (.int (0 : Int32))] (.int (0 : Int32)) := V266.pad (pad_rep [] (.int (0 : Int32)) 4)
      refine ow_dup C A260 at_114 rfl rfl ?_
      refine ow_iconst C A260 at_115 (v := 0) rfl rfl ?_
      refine ow_iload C A260 at_116 rfl rfl ?_
      refine ow_i2b C A260 at_118 rfl ?_
      refine ow_bastore C A260 V267 ⟨by decide, by decide⟩ (i := 0) rfl (Nat.le_of_ble_eq_true rfl) ows_b262 at_119 rfl ?_
      intro T268 h270 W271 V272 A269
      have V273 : Arv Z h270 b262 kk263 .byte (4 : Int32) [(.int b.toInt8.toInt32.toInt8.toInt32), (.int (0 : Int32)), (.int (0 : Int32)), (.int (0 : Int32))] (.int (0 : Int32)) := V272
      refine ow_dup C A269 at_120 rfl rfl ?_
      refine ow_iconst C A269 at_121 (v := 1) rfl rfl ?_
      refine ow_iloadN C A269 at_122 rfl rfl ?_
      refine ow_i2b C A269 at_123 rfl ?_
      refine ow_bastore C A269 V273 ⟨by decide, by decide⟩ (i := 1) rfl (Nat.le_of_ble_eq_true rfl) ows_b262 at_124 rfl ?_
      intro T274 h276 W277 V278 A275
      have V279 : Arv Z h276 b262 kk263 .byte (4 : Int32) [(.int b.toInt8.toInt32.toInt8.toInt32), (.int p2.toInt8.toInt32.toInt8.toInt32), (.int (0 : Int32)), (.int (0 : Int32))] (.int (0 : Int32)) := V278
      refine ow_dup C A275 at_125 rfl rfl ?_
      refine ow_iconst C A275 at_126 (v := 2) rfl rfl ?_
      refine ow_iloadN C A275 at_127 rfl rfl ?_
      refine ow_i2b C A275 at_128 rfl ?_
      refine ow_bastore C A275 V279 ⟨by decide, by decide⟩ (i := 2) rfl (Nat.le_of_ble_eq_true rfl) ows_b262 at_129 rfl ?_
      intro T280 h282 W283 V284 A281
      have V285 : Arv Z h282 b262 kk263 .byte (4 : Int32) [(.int b.toInt8.toInt32.toInt8.toInt32), (.int p2.toInt8.toInt32.toInt8.toInt32), (.int p3.toInt8.toInt32.toInt8.toInt32), (.int (0 : Int32))] (.int (0 : Int32)) := V284
      refine ow_dup C A281 at_130 rfl rfl ?_
      refine ow_iconst C A281 at_131 (v := 3) rfl rfl ?_
      refine ow_iloadN C A281 at_132 rfl rfl ?_
      refine ow_i2b C A281 at_133 rfl ?_
      refine ow_bastore C A281 V285 ⟨by decide, by decide⟩ (i := 3) rfl (Nat.le_of_ble_eq_true rfl) ows_b262 at_134 rfl ?_
      intro T286 h288 W289 V290 A287
      have V291 : Arv Z h288 b262 kk263 .byte (4 : Int32) [(.int b.toInt8.toInt32.toInt8.toInt32), (.int p2.toInt8.toInt32.toInt8.toInt32), (.int p3.toInt8.toInt32.toInt8.toInt32), (.int p4.toInt8.toInt32.toInt8.toInt32)] (.int (0 : Int32)) := V290
      refine ow_astore C A287 at_135 rfl (Ls' := #[.val (.int p1), .val (.int p2), .val (.int p3), .val (.int p4), .val (.int b), .val (.int (1 : Int32)), .val (.int (0 : Int32)), .val (.int (0 : Int32)), .val (.int (0 : Int32)), .val (.int (0 : Int32)), .val (.ref b262), .unset]) rfl rfl ?_
      refine ow_aload C A287 at_137 rfl rfl rfl ?_
      refine ow_iconst C A287 at_139 (v := 0) rfl rfl ?_
      refine ow_iconst C A287 at_140 (v := 4) rfl rfl ?_
      refine ow_callS C A287 (argsL := [(.ref b262), (.int (0 : Int32)), (.int (4 : Int32))]) (rm_cpN1 l Z a0 hw b262 kk263 b.toInt8.toInt32.toInt8.toInt32 b (.int p2.toInt8.toInt32.toInt8.toInt32) (.int p3.toInt8.toInt32.toInt8.toInt32) (.int p4.toInt8.toInt32.toInt8.toInt32) h288 V291 (own_byte b ⟨by omega, by omega⟩) ⟨by omega, by omega⟩ []) tw_5 tw_6 tw_2 tw_7 (by decide) all0 (by decide) (by decide) (ck' := 1) (sk' := 4) rfl rfl (by decide) (by decide) rfl (lenOf pd_2 rfl) (S := []) rfl (W := 0) (Nat.le_of_eq rfl) at_141 rfl ?_
      intro T292 v292 K292 hQ292 A292
      obtain ⟨rfl, ee292⟩ := hQ292
      rw [ee292] at A292 K292
      show OwnWP _ _ _ _ _ _ _ _ _ T292 (mkF m 144 #[.val (.int p1), .val (.int p2), .val (.int p3), .val (.int p4), .val (.int b), .val (.int (1 : Int32)), .val (.int (0 : Int32)), .val (.int (0 : Int32)), .val (.int (0 : Int32)), .val (.int (0 : Int32)), .val (.ref b262), .unset] [(.int (-1 : Int32))])
      refine ow_iconst C A292 at_144 (v := (-1)) rfl rfl ?_
      refine ow_icmp_ne C A292 at_145 (by decide) (pcY := 152) (by decide) (pcN := 148) rfl (fun z => absurd (by decide) z) (fun _ => ?_)
      refine ow_iconst C A292 at_148 (v := 1) rfl rfl ?_
      refine ow_goto C A292 at_149 (by decide) (pc' := 153) (by decide) ?_
      refine ow_ireturn C A292 (t := .boolean) rfl rfl (by simp) at_153 (by decide) (by decide) ?_
      exact rfl
set_option maxRecDepth 65536 in
set_option maxHeartbeats 40000000 in
theorem comes_1 {Post : Tables → Env → Array Value → State → Outcome → State → Prop} (hpost : ∀ tb e args s v u, (limb_1_1.after args s (.returned v) u = true ∧ limb_1_2.after args s (.returned v) u = true ∧ True) → FrameEnd s (.returned v) u (Jvm.fieldLocs frame_1_writes args s ++ Jvm.arrayLocs frame_1_arrays args s ++ Jvm.staticLocs frame_1_statics s) 16 128 → Post tb e args s (.returned v) u) :
    ArmFor flags0 classFile x code maxLocals ret World_1 tables_1 room_1 Calls_1 rest_1 Pre_1 Post := by
  intro l hfl _ _ p e ha hc hk s m args below hf hA hF happ hP
  obtain ⟨hcalls, hrest, hpre⟩ := hP
  obtain ⟨-, -, -, hnamed, -, -, -, hat⟩ := (Spec.applies_iff hf).mp happ
  obtain ⟨hg, hn⟩ := and_e (Cond.before_iff.mp (show (Jvm.Cond.and given_1 narrow_1).before args s = true from hpre))
  obtain ⟨gg1, gg2⟩ := and_e hg
  obtain ⟨gg3, gg4⟩ := and_e gg2
  obtain ⟨gg5, gg6⟩ := and_e gg4
  obtain ⟨gg7, gg8⟩ := and_e gg6
  obtain ⟨w0, w1, w2, w3, rfl⟩ : ∃ w0 w1 w2 w3 : Value, args = #[w0, w1, w2, w3] := by
    have hs : args.size = 4 := by simpa [Cond.value, given_1] using gg1
    obtain ⟨L⟩ := args
    match L, hs with
    | [w0, w1, w2, w3], _ => exact ⟨w0, w1, w2, w3, rfl⟩
  have hw := fun d (hd : d ∈ tables_1) => atoms_spec (ws := Jvm.Cond.code x code maxLocals ret :: tables_1) hat d (List.mem_cons_of_mem _ hd)
  have hfit : Fit s := fun {y c} hc i hi => by
    obtain ⟨ha, rfl⟩ := Array.getElem?_eq_some_iff.mp hc
    have q := List.all_eq_true.mp ((Array.all_eq_true_iff_forall_mem.mp hF) _ (Array.getElem_mem ha)) i (List.mem_range.mpr hi)
    simpa [Array.getElem?_eq_getElem hi] using q
  obtain ⟨i0, ei0⟩ := is_v gg3
  obtain rfl : w0 = (.int i0) := Option.some.inj ei0
  obtain ⟨i1, ei1⟩ := is_v gg5
  obtain rfl : w1 = (.int i1) := Option.some.inj ei1
  obtain ⟨i2, ei2⟩ := is_v gg7
  obtain rfl : w2 = (.int i2) := Option.some.inj ei2
  obtain ⟨i3, ei3⟩ := is_v gg8
  obtain rfl : w3 = (.int i3) := Option.some.inj ei3
  obtain ⟨n, o, h1, h2, h3, _, L, rfl, ⟨N, -, rfl⟩, hq⟩ := rm0 l s _ hw i0 i1 i2 i3 s.heap  tables_1 p e ha hc hk s m _ below hf ((Spec.applies_iff_loose hf).mp happ).1 ⟨rfl, State.Warmed39.refl s, rfl⟩ trivial
  refine ⟨n, _, h1, h2, h3, hpost _ _ _ _ _ _ ⟨Cond.after_iff.mpr rfl, Cond.after_iff.mpr (eq_i res_at (Term.int_eval (1)) rfl), trivial⟩ ⟨hq.1, hq.2.1, (hq.2.2.sift fun y hy => Or.inr ((N y hy).elim (fun q => nomatch q) id)).mono (by decide) (by decide)⟩⟩
theorem main_1_1 : Claimed_1_1 := comes_1 fun _ _ _ _ _ _ h hF => ⟨h.1, hF⟩
theorem main_1_2 : Claimed_1_2 := comes_1 fun _ _ _ _ _ _ h hF => ⟨h.2.1, hF⟩
end Jvm.Pilot.@@N@@
namespace Jvm.Pilot.@@N@@
open Jvm Jvm.ClassFile Sem Op Lib Jvm.Free Jvm.Stand Jvm.Pilot.@@N@@.Jvm.D
/-! MADE BY PROGRAM (witnessworld.py) out of the Statement's table words and the real class files: 10 classes; the members and pool entries that the words name. The judged class is class 1, her method 1. -/
namespace start1
open Jvm.ClassFile
def u (s : String) : CpInfo := .utf8 (stringToUtf16 s)
/-- a pool by its gaps: so many unusable entries, then the entry; so many at the end -/
def gap : Nat → List CpInfo → List CpInfo
  | 0, r => r
  | n + 1, r => .unusable :: gap n r
def poolList (es : List (Nat × CpInfo)) (last : Nat) : List CpInfo := es.foldr (fun e r => gap e.1 (e.2 :: r)) (gap last [])
def pool (es : List (Nat × CpInfo)) (last : Nat) : Array CpInfo := ⟨poolList es last⟩
def fileOf (pool : Array CpInfo) (this : Nat) (attrs : Array Attribute := #[]) (ms : Array MethodInfo := #[]) (fl : Nat := 33) (sup : Nat := 0) (ifs : Array Nat := #[]) (fds : Array FieldInfo := #[]) : ClassFile where
  minorVersion := 0
  majorVersion := 65
  constantPool := pool
  accessFlags := fl
  thisClass := this
  superClass := sup
  interfaces := ifs
  fields := fds
  methods := ms
  attributes := attrs
def plain (name : String) (sup : Option ClassId) : Class where
  name := name
  kind := .ordinary
  loader := none
  accessFlags := 33
  super := sup
  interfaces := #[]
  cf := none
  fields := #[]
  methods := #[]
  instanceTypes := #[]
  staticTypes := #[]
  resolved := #[]
  callSites := []
  init := .initialized
  statics := none
  mirror := none

def pool0 : Array CpInfo := pool [(5, u "<init>"), (0, u "()V"), (1, .class_ 10), (1, u "java/lang/Object")] 113

def k0m0 : Method := { name := "<init>", desc := "()V", sig := { parameters := [], returnType := none }, accessFlags := 1, code := none }
/-- java/lang/Object -/
def k0 : Class := { plain "java/lang/Object" none with
  accessFlags := 33
  interfaces := #[]
  cf := some (fileOf pool0 8 #[] #[{ accessFlags := 1, nameIndex := 5, descriptorIndex := 6, attributes := #[] }] 33 0 #[] #[])
  fields := #[]
  methods := #[k0m0]
  instanceTypes := #[]
  staticTypes := #[]
  resolved := Array.replicate 124 none
  statics := none }

def pool1 : Array CpInfo := pool [(2, .class_ 4), (1, u "java/lang/Object"), (0, u "<init>"), (0, u "()V"), (0, .methodref 8 9), (0, .class_ 10), (0, .nameAndType 11 12), (0, u "com/example/canonwire/canonwire/Utf8"), (0, u "canStart"), (0, u "(I)Z"), (0, .methodref 8 14), (0, .nameAndType 15 16), (0, u "codePointAt"), (0, u "([BII)I"), (0, .class_ 18), (0, u "com/example/canonwire/canonwire/Utf8CanStartPinLaw"), (2, u "law"), (0, u "(IIII)Z")] 5

def k1m0 : Method := { name := "<init>", desc := "()V", sig := { parameters := [], returnType := none }, accessFlags := 2, code := none }
def k1c1 : Code := { maxStack := 4, maxLocals := 12, code := code, exceptionTable := #[], attributes := #[] }
def k1m1 : Method := { name := "law", desc := "(IIII)Z", sig := { parameters := [.int, .int, .int, .int], returnType := some .boolean }, accessFlags := 9, code := some k1c1 }
/-- com/example/canonwire/canonwire/Utf8CanStartPinLaw -/
def k1 : Class := { plain "com/example/canonwire/canonwire/Utf8CanStartPinLaw" (some 0) with
  accessFlags := 49
  interfaces := #[]
  cf := some (fileOf pool1 17 #[] #[{ accessFlags := 2, nameIndex := 5, descriptorIndex := 6, attributes := #[] }, { accessFlags := 9, nameIndex := 21, descriptorIndex := 22, attributes := #[] }] 49 2 #[] #[])
  fields := #[]
  methods := #[k1m0, k1m1]
  instanceTypes := #[]
  staticTypes := #[]
  resolved := Array.replicate 28 none
  statics := none }

def pool2 : Array CpInfo := pool [(2, .class_ 4), (1, u "java/lang/Object"), (0, u "<init>"), (0, u "()V"), (0, .methodref 8 9), (0, .class_ 10), (0, .nameAndType 11 12), (0, u "java/lang/Math"), (0, u "min"), (0, u "(II)I"), (1, .class_ 16), (1, u "com/example/canonwire/canonwire/Utf8"), (0, u "codePointAt"), (0, u "([BII)I"), (9, u "canStart"), (0, u "(I)Z")] 2

def k2m0 : Method := { name := "<init>", desc := "()V", sig := { parameters := [], returnType := none }, accessFlags := 2, code := none }
def k2c1 : Code := { maxStack := 3, maxLocals := 11, code := prog_47_method_2_code, exceptionTable := #[], attributes := #[] }
def k2m1 : Method := { name := "codePointAt", desc := "([BII)I", sig := { parameters := [(.array .byte), .int, .int], returnType := some .int }, accessFlags := 8, code := some k2c1 }
def k2c2 : Code := { maxStack := 2, maxLocals := 1, code := prog_47_method_4_code, exceptionTable := #[], attributes := #[] }
def k2m2 : Method := { name := "canStart", desc := "(I)Z", sig := { parameters := [.int], returnType := some .boolean }, accessFlags := 8, code := some k2c2 }
/-- com/example/canonwire/canonwire/Utf8 -/
def k2 : Class := { plain "com/example/canonwire/canonwire/Utf8" (some 0) with
  accessFlags := 48
  interfaces := #[]
  cf := some (fileOf pool2 14 #[] #[{ accessFlags := 2, nameIndex := 5, descriptorIndex := 6, attributes := #[] }, { accessFlags := 8, nameIndex := 17, descriptorIndex := 18, attributes := #[] }, { accessFlags := 8, nameIndex := 28, descriptorIndex := 29, attributes := #[] }] 48 2 #[] #[])
  fields := #[]
  methods := #[k2m0, k2m1, k2m2]
  instanceTypes := #[]
  staticTypes := #[]
  resolved := Array.replicate 32 none
  statics := none }

def pool3 : Array CpInfo := pool [(1, .class_ 2), (0, u "java/lang/Math"), (1, .class_ 6), (1, u "java/lang/Object"), (0, u "<init>"), (0, u "()V"), (89, .class_ 100), (1, u "java/lang/Math$RandomNumberGeneratorHolder"), (71, u "negativeZeroFloatBits"), (0, u "J"), (2, u "negativeZeroDoubleBits"), (24, u "min"), (43, u "$assertionsDisabled"), (0, u "Z"), (88, u "(II)I"), (2, u "twoToTheDoubleScaleDown"), (0, u "D"), (4, u "twoToTheDoubleScaleUp"), (9, u "E"), (3, u "PI"), (2, u "TAU"), (2, u "DEGREES_TO_RADIANS"), (0, u "RADIANS_TO_DEGREES")] 94

def k3m0 : Method := { name := "<init>", desc := "()V", sig := { parameters := [], returnType := none }, accessFlags := 2, code := none }
def k3c1 : Code := { maxStack := 2, maxLocals := 2, code := jdk_29_method_69_code, exceptionTable := #[], attributes := #[] }
def k3m1 : Method := { name := "min", desc := "(II)I", sig := { parameters := [.int, .int], returnType := some .int }, accessFlags := 9, code := some k3c1 }
/-- java/lang/Math -/
def k3 : Class := { plain "java/lang/Math" (some 0) with
  accessFlags := 49
  interfaces := #[]
  cf := some (fileOf pool3 1 #[.nestMembers #[98]] #[{ accessFlags := 2, nameIndex := 7, descriptorIndex := 8, attributes := #[] }, { accessFlags := 9, nameIndex := 201, descriptorIndex := 335, attributes := #[] }] 49 4 #[] #[{ accessFlags := 25, nameIndex := 354, descriptorIndex := 339, attributes := #[] }, { accessFlags := 25, nameIndex := 358, descriptorIndex := 339, attributes := #[] }, { accessFlags := 25, nameIndex := 361, descriptorIndex := 339, attributes := #[] }, { accessFlags := 26, nameIndex := 364, descriptorIndex := 339, attributes := #[] }, { accessFlags := 26, nameIndex := 365, descriptorIndex := 339, attributes := #[] }, { accessFlags := 26, nameIndex := 172, descriptorIndex := 173, attributes := #[] }, { accessFlags := 26, nameIndex := 176, descriptorIndex := 173, attributes := #[] }, { accessFlags := 8, nameIndex := 344, descriptorIndex := 339, attributes := #[] }, { accessFlags := 8, nameIndex := 338, descriptorIndex := 339, attributes := #[] }, { accessFlags := 4120, nameIndex := 245, descriptorIndex := 246, attributes := #[] }])
  fields := #[{ name := "E", type := .double, accessFlags := 25, slot := 0, constantValue := 0 }, { name := "PI", type := .double, accessFlags := 25, slot := 1, constantValue := 0 }, { name := "TAU", type := .double, accessFlags := 25, slot := 2, constantValue := 0 }, { name := "DEGREES_TO_RADIANS", type := .double, accessFlags := 26, slot := 3, constantValue := 0 }, { name := "RADIANS_TO_DEGREES", type := .double, accessFlags := 26, slot := 4, constantValue := 0 }, { name := "negativeZeroFloatBits", type := .long, accessFlags := 26, slot := 5, constantValue := 0 }, { name := "negativeZeroDoubleBits", type := .long, accessFlags := 26, slot := 6, constantValue := 0 }, { name := "twoToTheDoubleScaleUp", type := .double, accessFlags := 8, slot := 7, constantValue := 0 }, { name := "twoToTheDoubleScaleDown", type := .double, accessFlags := 8, slot := 8, constantValue := 0 }, { name := "$assertionsDisabled", type := .boolean, accessFlags := 4120, slot := 9, constantValue := 0 }]
  methods := #[k3m0, k3m1]
  instanceTypes := #[]
  staticTypes := #[.double, .double, .double, .double, .double, .long, .long, .double, .double, .boolean]
  resolved := Array.replicate 460 none
  statics := none }

def pool4 : Array CpInfo := pool [(1, u "java/lang/Cloneable"), (0, .class_ 1), (0, u "java/lang/Object"), (0, .class_ 3)] 3

/-- java/lang/Cloneable -/
def k4 : Class := { plain "java/lang/Cloneable" (some 0) with
  accessFlags := 1537
  interfaces := #[]
  cf := some (fileOf pool4 2 #[] #[] 1537 4 #[] #[])
  fields := #[]
  methods := #[]
  instanceTypes := #[]
  staticTypes := #[]
  resolved := Array.replicate 8 none
  statics := none }

def pool5 : Array CpInfo := pool [(1, u "java/io/Serializable"), (0, .class_ 1), (0, u "java/lang/Object"), (0, .class_ 3)] 3

/-- java/io/Serializable -/
def k5 : Class := { plain "java/io/Serializable" (some 0) with
  accessFlags := 1537
  interfaces := #[]
  cf := some (fileOf pool5 2 #[] #[] 1537 4 #[] #[])
  fields := #[]
  methods := #[]
  instanceTypes := #[]
  staticTypes := #[]
  resolved := Array.replicate 8 none
  statics := none }

/-- the primitive byte -/
def k6 : Class := { plain "byte" none with kind := .primitive 'B', accessFlags := 0x411 }
/-- [B -/
def k7 : Class := { plain "[B" (some 0) with kind := .array 6 .byte, interfaces := #[4, 5], accessFlags := 1041 }

/-- the primitive int -/
def k8 : Class := { plain "int" none with kind := .primitive 'I', accessFlags := 0x411 }
/-- [I -/
def k9 : Class := { plain "[I" (some 0) with kind := .array 8 .int, interfaces := #[4, 5], accessFlags := 1041 }

def heap : Heap := #[]
def classes : Array Class := #[k0, k1, k2, k3, k4, k5, k6, k7, k8, k9]
def interned : List (Array UInt16 × Addr) := []
def slotsUsed : Nat := 0
def theMethod : MethodId := ⟨1, 1⟩
def args0 : Array Value := #[.int 5, .int 5, .int 5, .int 5]
def aboutOver (below : List Frame) : State where
  vm := { classes := classes, interned := interned.toArray }
  heap := heap
  slotsUsed := slotsUsed
  threads := #[{ frames := .invoking theMethod args0 :: below }]
def below0 : List Frame := [.native { method := ⟨0, 0⟩, args := #[] }]
def about1 : State := aboutOver below0
def p0 : Program := .bare "" "" ""
def e0 : Env := launch0.env 0 0 0
theorem w_frames : about1.frames = Frame.invoking theMethod args0 :: below0 := rfl
set_option maxRecDepth 65536 in
theorem w_args : argsFit about1.vm theMethod args0 = true := by decide +kernel
set_option maxRecDepth 65536 in
theorem w_heap : heapFits about1 = true := by decide +kernel
set_option maxRecDepth 65536 in
theorem w_runnable : about1.curStatus? = some .runnable := by decide +kernel
set_option maxRecDepth 65536 in
theorem w_alone : about1.alone = true := by decide +kernel
set_option maxRecDepth 65536 in
theorem w_named : about1.methodNamed? x = some theMethod := by decide +kernel
set_option maxRecDepth 65536 in
theorem w_hears : about1.hears theMethod below0 = true := by decide +kernel
set_option maxRecDepth 65536 in
theorem w_ripe : about1.ripe theMethod args0 below0 = true := by decide +kernel
theorem w_running : about1.status = .running := rfl
set_option maxRecDepth 65536 in
theorem w_room : about1.hasRoom e0.platform room_1 = true :=
  launch0.hasRoom_least _ room_1 (by decide +kernel) (by decide +kernel) (by decide +kernel) (by decide +kernel) (by decide +kernel) (by decide +kernel)
theorem allAtoms_all (ts : List Jvm.Cond) (a : Array Jvm.Value) (st : Jvm.State) : (allAtoms ts).before a st = ts.all (fun c => c.before a st) := by
  induction ts with
  | nil => rfl
  | cons c t ih =>
    show (Jvm.Cond.and c (allAtoms t)).before a st = _
    rw [Jvm.Cond.before_and, ih, List.all_cons]
def words1 : List Jvm.Cond := Jvm.Cond.code x code maxLocals ret :: tables_1
/-- a 'code' word, met by the world's own term for the bytes: nothing is compared byte by byte -/
theorem code_word {y : MethodName} {bytes : ByteArray} {mx : Nat} {rt : Option FieldType} {a : Array Value} {s : State} {m : MethodId} {meth : Method} {c : Code} (h1 : s.methodNamed? y = some m) (h2 : s.vm.method? m = some meth) (h3 : meth.code = some c) (h4 : c.code = bytes)
    (h5 : (c.maxLocals == mx && c.exceptionTable.isEmpty && decide (c.maxStack ≤ mostOperands) && decide (meth.sig.returnType = rt) && !meth.locks && decide (parseMethodDescriptor y.desc = some meth.sig)) = true) : (Jvm.Cond.code y bytes mx rt).before a s = true := by
  simp only [Bool.and_eq_true, beq_iff_eq, Bool.not_eq_true', decide_eq_true_eq] at h5
  obtain ⟨⟨⟨⟨⟨g1, g2⟩, g3⟩, g4⟩, g5⟩, g6⟩ := h5
  simp [Cond.before, Cond.holds, Cond.value, h1, h2, h3, h4, g1, g2, g3, g4, g5, g6]
def isCode : Jvm.Cond → Bool
  | .code _ _ _ _ => true
  | _ => false
theorem all_split {L : List Jvm.Cond} {P : Jvm.Cond → Bool} (h1 : L.all (fun c => isCode c || P c) = true) (h2 : ∀ c ∈ L.filter isCode, P c = true) : L.all P = true := by
  refine List.all_eq_true.mpr fun c hc => ?_
  have h := List.all_eq_true.mp h1 c hc
  rcases Bool.eq_false_or_eq_true (isCode c) with hi | hi
  · exact h2 c (List.mem_filter.mpr ⟨hc, hi⟩)
  · simpa [hi] using h
set_option maxRecDepth 65536 in
theorem w_c0 : (Jvm.Cond.code x code maxLocals ret).before args0 about1 = true := code_word (m := ⟨1, 1⟩) (meth := k1m1) (c := k1c1) (by decide +kernel) rfl rfl rfl (by decide +kernel)
set_option maxRecDepth 65536 in
theorem w_c1 : (Jvm.Cond.code ({ cls := "com/example/canonwire/canonwire/Utf8", name := "canStart", desc := "(I)Z" } : Jvm.MethodName) prog_47_method_4_code (1 : Nat) (Option.some Jvm.ClassFile.FieldType.boolean)).before args0 about1 = true := code_word (m := ⟨2, 2⟩) (meth := k2m2) (c := k2c2) (by decide +kernel) rfl rfl rfl (by decide +kernel)
set_option maxRecDepth 65536 in
theorem w_c2 : (Jvm.Cond.code ({ cls := "com/example/canonwire/canonwire/Utf8", name := "codePointAt", desc := "([BII)I" } : Jvm.MethodName) prog_47_method_2_code (11 : Nat) (Option.some Jvm.ClassFile.FieldType.int)).before args0 about1 = true := code_word (m := ⟨2, 1⟩) (meth := k2m1) (c := k2c1) (by decide +kernel) rfl rfl rfl (by decide +kernel)
set_option maxRecDepth 65536 in
theorem w_c3 : (Jvm.Cond.code ({ cls := "java/lang/Math", name := "min", desc := "(II)I" } : Jvm.MethodName) jdk_29_method_69_code (2 : Nat) (Option.some Jvm.ClassFile.FieldType.int)).before args0 about1 = true := code_word (m := ⟨3, 1⟩) (meth := k3m1) (c := k3c1) (by decide +kernel) rfl rfl rfl (by decide +kernel)
def codes1 : List Jvm.Cond := [Jvm.Cond.code x code maxLocals ret, Jvm.Cond.code ({ cls := "com/example/canonwire/canonwire/Utf8", name := "canStart", desc := "(I)Z" } : Jvm.MethodName) prog_47_method_4_code (1 : Nat) (Option.some Jvm.ClassFile.FieldType.boolean), Jvm.Cond.code ({ cls := "com/example/canonwire/canonwire/Utf8", name := "codePointAt", desc := "([BII)I" } : Jvm.MethodName) prog_47_method_2_code (11 : Nat) (Option.some Jvm.ClassFile.FieldType.int), Jvm.Cond.code ({ cls := "java/lang/Math", name := "min", desc := "(II)I" } : Jvm.MethodName) jdk_29_method_69_code (2 : Nat) (Option.some Jvm.ClassFile.FieldType.int)]
set_option maxRecDepth 65536 in
theorem codes_eq : words1.filter isCode = codes1 := rfl
theorem w_codes : ∀ c ∈ words1.filter isCode, c.before args0 about1 = true := by
  rw [codes_eq]
  intro c hc
  simp only [codes1, List.mem_cons, List.not_mem_nil, or_false] at hc
  rcases hc with rfl | rfl | rfl | rfl
  · exact w_c0
  · exact w_c1
  · exact w_c2
  · exact w_c3
set_option maxRecDepth 65536 in
theorem w_t1 : words1.all (fun c => isCode c || c.before args0 about1) = true := by decide +kernel
theorem w_tables : (allAtoms (Jvm.Cond.code x code maxLocals ret :: tables_1)).before args0 about1 = true := by
  rw [allAtoms_all]
  show words1.all (fun c => c.before args0 about1) = true
  refine all_split ?_ w_codes
  rw [w_t1]
set_option maxRecDepth 65536 in
theorem w_case : (Jvm.Cond.and given_1 narrow_1).before args0 about1 = true := by decide +kernel
theorem w_applies : (headSpec (Jvm.Cond.code x code maxLocals ret :: tables_1) room_1).applies x e0.platform about1 = true :=
  (Spec.applies_iff w_frames).mpr ⟨w_running, w_runnable, w_alone, w_named, w_hears, w_ripe, w_room, w_tables⟩
theorem atStart : AtStart classFile x code maxLocals ret World_1 tables_1 room_1 Calls_1 rest_1 Pre_1 launch0 p0 e0 about1 theMethod args0 below0 :=
  ⟨lists_1, trivial, launch0.admits_env _ _ _, launch0.least_env, fairChoices_fair.cas, fairChoices_fair.clock, w_frames, w_args, w_heap, w_applies, trivial, trivial, w_case⟩
end start1
theorem witness_1 : WitnessClaimed_1 := ⟨start1.p0, start1.e0, start1.about1, start1.theMethod, start1.args0, start1.below0, start1.atStart⟩
end Jvm.Pilot.@@N@@
