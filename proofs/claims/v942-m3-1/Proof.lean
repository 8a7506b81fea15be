import JvmDerived
import JvmDerived.Pilot.@@N@@Statement
import JvmDerived.Pilot.@@N@@Code
set_option linter.unusedVariables false
set_option linter.unusedSimpArgs false
namespace Jvm.RoadKit
open Sem ClassFile Op Lib Jvm.Stand Jvm.Free Jvm.LawKit
section Own
variable {p : Program} {l : Launch} {e : Env} {R : Room} {s : State} {m : MethodId} {args : Array Value} {below : List Frame} {meth : Method} {c : Code} {T T' : State} {Z : State} {a0 : Array Value} {h h' h0 : Heap} {ws : List Addr} {ck sk CK SK : Nat} {Q : Option Value → Heap → Prop} {bytes : ByteArray} {ml : Nat} {ret : Option FieldType} {y0 : MethodName} {tw : List Jvm.Cond} {pc pc' : Nat} {Ls Ls' : Array Slot} {S : List Value} {g g' : JFrame}
/-- Java's >>> -/
def own_ushr (x y : Int32) : Int32 := (x.toUInt32 >>> (y &&& 31).toUInt32).toInt32
def own_ushrL (x : Int64) (y : Int32) : Int64 := (x.toUInt64 >>> (y &&& 63).toInt64.toUInt64).toInt64
/-- what is known of the method that is walked -/
def OwnCtx (p : Program) (s : State) (m : MethodId) (meth : Method) (c : Code) (Z : State) (a0 : Array Value) (tw : List Jvm.Cond) (y0 : MethodName) (bytes : ByteArray) (ml : Nat) (ret : Option FieldType) : Prop :=
  p.tables.exec = Jvm.exec ∧ Z.Warmed39 s.vm ∧ (∀ d ∈ tw, d.before a0 Z = true) ∧ c.code = bytes ∧ c.maxLocals = ml ∧ s.vm.findClass y0.cls = some m.cls ∧ meth.name = y0.name ∧ meth.sig.returnType = ret ∧ meth.locks = false
/-- where the walk stands: the heap h; of the heap h0 at the entry only the cells at ws may have been written -/
def OwnPos (p : Program) (l : Launch) (e : Env) (R : Room) (s : State) (m : MethodId) (args : Array Value) (below : List Frame) (meth : Method) (c : Code) (h0 : Heap) (ws : List Addr) (T : State) (h : Heap) (ck sk : Nat) : Prop :=
  ∃ locs, Stand p l e R s m args below meth c T locs ck sk ∧ T.heap = h ∧ (∀ y ∈ locs, y.base ∈ ws ∨ h0.size ≤ y.base) ∧ Keep h0 h ws
/-- from here the method returns as Q says -/
def OwnWP (p : Program) (e : Env) (below : List Frame) (s : State) (h0 : Heap) (ws : List Addr) (Q : Option Value → Heap → Prop) (CK SK : Nat) (T : State) (g : JFrame) : Prop :=
  ∃ s₂ o, Steps p.tables e below (T.setTop g) s₂ ∧ s₂.status = .running ∧ Ended s₂ below o ∧ ∃ v L, o = .returned v ∧ ((∀ y ∈ L, y.base ∈ ws ∨ h0.size ≤ y.base) ∧ Keep h0 s₂.heap ws ∧ Q v s₂.heap) ∧ FrameEnd s o s₂ L CK SK
/-- a method's contract -/
def OwnCtr (l : Launch) (Z : State) (y : MethodName) (bytes : ByteArray) (ml : Nat) (ret : Option FieldType) (rm : Room) (as : Array Value) (h0 : Heap) (ws : List Addr) (Q : Option Value → Heap → Prop) (cs : List Jvm.Cond) : Prop :=
  MetFree l y (head1 (Jvm.Cond.code y bytes ml ret :: cs) rm) (fun a U => a = as ∧ Z.Warmed39 U.vm ∧ U.heap = h0) (fun _ _ _ _ _ => True) (fun _ U o U' => ∃ v L, o = .returned v ∧ ((∀ y ∈ L, y.base ∈ ws ∨ h0.size ≤ y.base) ∧ Keep h0 U'.heap ws ∧ Q v U'.heap) ∧ FrameEnd U o U' L rm.cells rm.slots)
theorem ow_le (A : OwnPos p l e R s m args below meth c h0 ws T h ck sk) : h0.size ≤ h.size := by obtain ⟨_, _, _, _, K⟩ := A; exact K.1
theorem ow_st (q : ∀ target, Steps p.tables e below (T'.setTop g') target → Steps p.tables e below (T.setTop g) target) (k : OwnWP p e below s h0 ws Q CK SK T' g') : OwnWP p e below s h0 ws Q CK SK T g := by
  obtain ⟨s₂, o, k1, k2⟩ := k; exact ⟨s₂, o, q _ k1, k2⟩
theorem ow_stT (q : Steps p.tables e below (T.setTop g) (T'.setTop g')) (k : OwnWP p e below s h0 ws Q CK SK T' g') : OwnWP p e below s h0 ws Q CK SK T g := by
  obtain ⟨s₂, o, k1, k2⟩ := k; exact ⟨s₂, o, q.trans k1, k2⟩
theorem ow_mono {Q' : Option Value → Heap → Prop} (q : ∀ v h, Q' v h → Q v h) (k : OwnWP p e below s h0 ws Q' CK SK T g) : OwnWP p e below s h0 ws Q CK SK T g := by
  obtain ⟨s₂, o, k1, k2, k3, v, L, k4, ⟨k5, k6, k7⟩, k8⟩ := k; exact ⟨s₂, o, k1, k2, k3, v, L, k4, ⟨k5, k6, q _ _ k7⟩, k8⟩
theorem ow_ctr {rm : Room} {as : Array Value} {cs : List Jvm.Cond} {Ls : Array Slot} (hp : plainFor y0 = true) (hw : ∀ d ∈ tw, d.before a0 Z = true) (ef : ∀ m, entryFrame m as ml = mkF m 0 Ls [])
    (body : ∀ (p : Program) (e : Env) (s : State) (m : MethodId) (below : List Frame) (meth : Method) (c : Code) (T : State), OwnCtx p s m meth c Z a0 tw y0 bytes ml ret → OwnPos p l e rm s m as below meth c h0 ws T h0 0 0 → OwnWP p e below s h0 ws Q rm.cells rm.slots T (mkF m 0 Ls [])) :
    OwnCtr l Z y0 bytes ml ret rm as h0 ws Q cs := by
  refine MetFree.of_bodySF hp hisR ?_
  intro p e s m args below meth c s₁ Bd hml0 hP hK
  obtain ⟨rfl, hZ, hh⟩ := hP
  have X0 : Stand p l e rm s m _ below meth c s₁ [] 0 0 := Stand.of_body Bd
  have e0 : s₁.heap = h0 := by rw [← hh, Bd.state]; rfl
  have hk : meth.locks = false := BodyLoose.notSynchronized Bd
  obtain ⟨s₂, o, k1, k2⟩ := body p e s m below meth c s₁ ⟨Bd.exec, hZ, hw, Bd.bytes, hml0, findClass_of_methodNamed Bd.named, (name_of_methodNamed Bd.named Bd.method).1, Bd.returns, hk⟩ ⟨[], X0, e0, (fun _ q => nomatch q), Keep.refl _ _⟩
  exact ⟨s₂, o, castTop (ef m) k1, k2⟩
theorem ow_ctr_mono {rm : Room} {as : Array Value} {cs : List Jvm.Cond} {y : MethodName} {Q' : Option Value → Heap → Prop} (M : OwnCtr l Z y bytes ml ret rm as h0 ws Q cs) (q : ∀ v h, Q v h → Q' v h) : OwnCtr l Z y bytes ml ret rm as h0 ws Q' cs := by
  intro p e ha hc hk s m args below hf happ hP hK
  obtain ⟨n, o, h1, h2, h3, v, L, h4, ⟨h5, h6, h7⟩, h8⟩ := M p e ha hc hk s m args below hf happ hP hK
  exact ⟨n, o, h1, h2, h3, v, L, h4, ⟨h5, h6, q _ _ h7⟩, h8⟩
theorem ow_done {v : Option Value} (C : OwnCtx p s m meth c Z a0 tw y0 bytes ml ret) (A : OwnPos p l e R s m args below meth c h0 ws T h ck sk) (hv : ret = none → v = none) (h1 : ck ≤ CK) (h2 : sk ≤ SK) (hq : Q v h)
    (hst : ∀ {locs : List Loc} {fs : List Frame}, Stand p l e R s m args below meth c T locs ck sk → (∀ (f : JFrame) (acts : List Action), f.method = m → f.locked = none → f.entered = [] → (doReturn e (T.setTop f) acts v).1 = T.setFrames fs) → Steps p.tables e below (T.setTop g) (T.setFrames fs)) :
    OwnWP p e below s h0 ws Q CK SK T g := by
  obtain ⟨locs, X, rfl, N, K⟩ := A
  obtain ⟨fs, hr, hrun, hended, hW, hsame⟩ := X.leave (v := v) (fun q => hv (C.2.2.2.2.2.2.2.1.symm.trans q)) C.2.2.2.2.2.2.2.2
  exact ⟨_, _, hst X hr, hrun, hended, _, _, rfl, ⟨N, K, hq⟩, ⟨_, rfl⟩, hW, hsame.mono h1 h2⟩
theorem ow_ireturn (C : OwnCtx p s m meth c Z a0 tw y0 bytes ml ret) (A : OwnPos p l e R s m args below meth c h0 ws T h ck sk) {t : FieldType} {w : Int32} (hret : ret = some t) (hn : narrow t (.int w) = .int w) (hti : t = .int ∨ t = .boolean ∨ t = .byte ∨ t = .char ∨ t = .short)
    (hd : decode bytes pc = .ok (.ireturn, 1)) (h1 : ck ≤ CK) (h2 : sk ≤ SK) (hq : Q (some (.int w)) h) : OwnWP p e below s h0 ws Q CK SK T (mkF m pc Ls [.int w]) :=
  ow_done C A (fun q => by rw [hret] at q; cases q) h1 h2 hq fun X hr => X.ireturnOut C.1 (C.2.2.2.2.2.2.2.1.trans hret) hn hti (hb C.2.2.2.1 hd) hr
theorem ow_lreturn (C : OwnCtx p s m meth c Z a0 tw y0 bytes ml ret) (A : OwnPos p l e R s m args below meth c h0 ws T h ck sk) {w : Int64} (hret : ret = some .long)
    (hd : decode bytes pc = .ok (.lreturn, 1)) (h1 : ck ≤ CK) (h2 : sk ≤ SK) (hq : Q (some (.long w)) h) : OwnWP p e below s h0 ws Q CK SK T (mkF m pc Ls [.long w]) :=
  ow_done C A (fun q => by rw [hret] at q; cases q) h1 h2 hq fun X hr => X.lreturnOut C.1 (C.2.2.2.2.2.2.2.1.trans hret) (hb C.2.2.2.1 hd) hr
theorem ow_areturn (C : OwnCtx p s m meth c Z a0 tw y0 bytes ml ret) (A : OwnPos p l e R s m args below meth c h0 ws T h ck sk) {t : FieldType} {w : Value} (hret : ret = some t) (ht : t.isReference = true) (hw : w.isRef = true)
    (hd : decode bytes pc = .ok (.areturn, 1)) (h1 : ck ≤ CK) (h2 : sk ≤ SK) (hq : Q (some w) h) : OwnWP p e below s h0 ws Q CK SK T (mkF m pc Ls [w]) :=
  ow_done C A (fun q => by rw [hret] at q; cases q) h1 h2 hq fun X hr => X.areturnOut C.1 hw (C.2.2.2.2.2.2.2.1.trans hret) ht (hb C.2.2.2.1 hd) hr
theorem ow_return (C : OwnCtx p s m meth c Z a0 tw y0 bytes ml ret) (A : OwnPos p l e R s m args below meth c h0 ws T h ck sk) (hret : ret = none)
    (hd : decode bytes pc = .ok (.return_, 1)) (h1 : ck ≤ CK) (h2 : sk ≤ SK) (hq : Q none h) : OwnWP p e below s h0 ws Q CK SK T (mkF m pc Ls []) :=
  ow_done C A (fun _ => rfl) h1 h2 hq fun X hr => X.returnOut C.1 (C.2.2.2.2.2.2.2.1.trans hret) (hb C.2.2.2.1 hd) hr
theorem ow_iadd (C : OwnCtx p s m meth c Z a0 tw y0 bytes ml ret) (A : OwnPos p l e R s m args below meth c h0 ws T h ck sk) {x y : Int32} (hd : decode bytes pc = .ok (.iadd, 1)) (hp : pc + 1 = pc') (k : OwnWP p e below s h0 ws Q CK SK T (mkF m pc' Ls (.int (x + y) :: S))) : OwnWP p e below s h0 ws Q CK SK T (mkF m pc Ls (.int y :: .int x :: S)) := by
  obtain ⟨locs, X, -⟩ := A; subst hp
  exact ow_st (fun _ k => XS.iadd X.here C.1 rfl (hb C.2.2.2.1 hd) rfl k) k
theorem ow_isub (C : OwnCtx p s m meth c Z a0 tw y0 bytes ml ret) (A : OwnPos p l e R s m args below meth c h0 ws T h ck sk) {x y : Int32} (hd : decode bytes pc = .ok (.isub, 1)) (hp : pc + 1 = pc') (k : OwnWP p e below s h0 ws Q CK SK T (mkF m pc' Ls (.int (x - y) :: S))) : OwnWP p e below s h0 ws Q CK SK T (mkF m pc Ls (.int y :: .int x :: S)) := by
  obtain ⟨locs, X, -⟩ := A; subst hp
  exact ow_st (fun _ k => XS.isub X.here C.1 rfl (hb C.2.2.2.1 hd) rfl k) k
theorem ow_imul (C : OwnCtx p s m meth c Z a0 tw y0 bytes ml ret) (A : OwnPos p l e R s m args below meth c h0 ws T h ck sk) {x y : Int32} (hd : decode bytes pc = .ok (.imul, 1)) (hp : pc + 1 = pc') (k : OwnWP p e below s h0 ws Q CK SK T (mkF m pc' Ls (.int (x * y) :: S))) : OwnWP p e below s h0 ws Q CK SK T (mkF m pc Ls (.int y :: .int x :: S)) := by
  obtain ⟨locs, X, -⟩ := A; subst hp
  exact ow_st (fun _ k => XS.imul X.here C.1 rfl (hb C.2.2.2.1 hd) rfl k) k
theorem ow_iand (C : OwnCtx p s m meth c Z a0 tw y0 bytes ml ret) (A : OwnPos p l e R s m args below meth c h0 ws T h ck sk) {x y : Int32} (hd : decode bytes pc = .ok (.iand, 1)) (hp : pc + 1 = pc') (k : OwnWP p e below s h0 ws Q CK SK T (mkF m pc' Ls (.int (x &&& y) :: S))) : OwnWP p e below s h0 ws Q CK SK T (mkF m pc Ls (.int y :: .int x :: S)) := by
  obtain ⟨locs, X, -⟩ := A; subst hp
  exact ow_st (fun _ k => XS.iand X.here C.1 rfl (hb C.2.2.2.1 hd) rfl k) k
theorem ow_ior (C : OwnCtx p s m meth c Z a0 tw y0 bytes ml ret) (A : OwnPos p l e R s m args below meth c h0 ws T h ck sk) {x y : Int32} (hd : decode bytes pc = .ok (.ior, 1)) (hp : pc + 1 = pc') (k : OwnWP p e below s h0 ws Q CK SK T (mkF m pc' Ls (.int (x ||| y) :: S))) : OwnWP p e below s h0 ws Q CK SK T (mkF m pc Ls (.int y :: .int x :: S)) := by
  obtain ⟨locs, X, -⟩ := A; subst hp
  exact ow_st (fun _ k => XS.ior X.here C.1 rfl (hb C.2.2.2.1 hd) rfl k) k
theorem ow_ixor (C : OwnCtx p s m meth c Z a0 tw y0 bytes ml ret) (A : OwnPos p l e R s m args below meth c h0 ws T h ck sk) {x y : Int32} (hd : decode bytes pc = .ok (.ixor, 1)) (hp : pc + 1 = pc') (k : OwnWP p e below s h0 ws Q CK SK T (mkF m pc' Ls (.int (x ^^^ y) :: S))) : OwnWP p e below s h0 ws Q CK SK T (mkF m pc Ls (.int y :: .int x :: S)) := by
  obtain ⟨locs, X, -⟩ := A; subst hp
  exact ow_st (fun _ k => XS.ixor X.here C.1 rfl (hb C.2.2.2.1 hd) rfl k) k
theorem ow_ishl (C : OwnCtx p s m meth c Z a0 tw y0 bytes ml ret) (A : OwnPos p l e R s m args below meth c h0 ws T h ck sk) {x y : Int32} (hd : decode bytes pc = .ok (.ishl, 1)) (hp : pc + 1 = pc') (k : OwnWP p e below s h0 ws Q CK SK T (mkF m pc' Ls (.int (x <<< (y &&& 31)) :: S))) : OwnWP p e below s h0 ws Q CK SK T (mkF m pc Ls (.int y :: .int x :: S)) := by
  obtain ⟨locs, X, -⟩ := A; subst hp
  exact ow_st (fun _ k => XS.ishl X.here C.1 rfl (hb C.2.2.2.1 hd) rfl k) k
theorem ow_ishr (C : OwnCtx p s m meth c Z a0 tw y0 bytes ml ret) (A : OwnPos p l e R s m args below meth c h0 ws T h ck sk) {x y : Int32} (hd : decode bytes pc = .ok (.ishr, 1)) (hp : pc + 1 = pc') (k : OwnWP p e below s h0 ws Q CK SK T (mkF m pc' Ls (.int (x >>> (y &&& 31)) :: S))) : OwnWP p e below s h0 ws Q CK SK T (mkF m pc Ls (.int y :: .int x :: S)) := by
  obtain ⟨locs, X, -⟩ := A; subst hp
  exact ow_st (fun _ k => XS.ishr X.here C.1 rfl (hb C.2.2.2.1 hd) rfl k) k
theorem ow_iushr (C : OwnCtx p s m meth c Z a0 tw y0 bytes ml ret) (A : OwnPos p l e R s m args below meth c h0 ws T h ck sk) {x y : Int32} (hd : decode bytes pc = .ok (.iushr, 1)) (hp : pc + 1 = pc') (k : OwnWP p e below s h0 ws Q CK SK T (mkF m pc' Ls (.int (own_ushr x y) :: S))) : OwnWP p e below s h0 ws Q CK SK T (mkF m pc Ls (.int y :: .int x :: S)) := by
  obtain ⟨locs, X, -⟩ := A; subst hp
  exact ow_st (fun _ k => XS.iushr X.here C.1 rfl (hb C.2.2.2.1 hd) rfl k) k
theorem ow_ladd (C : OwnCtx p s m meth c Z a0 tw y0 bytes ml ret) (A : OwnPos p l e R s m args below meth c h0 ws T h ck sk) {x y : Int64} (hd : decode bytes pc = .ok (.ladd, 1)) (hp : pc + 1 = pc') (k : OwnWP p e below s h0 ws Q CK SK T (mkF m pc' Ls (.long (x + y) :: S))) : OwnWP p e below s h0 ws Q CK SK T (mkF m pc Ls (.long y :: .long x :: S)) := by
  obtain ⟨locs, X, -⟩ := A; subst hp
  exact ow_st (fun _ k => XS.ladd X.here C.1 rfl (hb C.2.2.2.1 hd) rfl k) k
theorem ow_lsub (C : OwnCtx p s m meth c Z a0 tw y0 bytes ml ret) (A : OwnPos p l e R s m args below meth c h0 ws T h ck sk) {x y : Int64} (hd : decode bytes pc = .ok (.lsub, 1)) (hp : pc + 1 = pc') (k : OwnWP p e below s h0 ws Q CK SK T (mkF m pc' Ls (.long (x - y) :: S))) : OwnWP p e below s h0 ws Q CK SK T (mkF m pc Ls (.long y :: .long x :: S)) := by
  obtain ⟨locs, X, -⟩ := A; subst hp
  exact ow_st (fun _ k => XS.lsub X.here C.1 rfl (hb C.2.2.2.1 hd) rfl k) k
theorem ow_lmul (C : OwnCtx p s m meth c Z a0 tw y0 bytes ml ret) (A : OwnPos p l e R s m args below meth c h0 ws T h ck sk) {x y : Int64} (hd : decode bytes pc = .ok (.lmul, 1)) (hp : pc + 1 = pc') (k : OwnWP p e below s h0 ws Q CK SK T (mkF m pc' Ls (.long (x * y) :: S))) : OwnWP p e below s h0 ws Q CK SK T (mkF m pc Ls (.long y :: .long x :: S)) := by
  obtain ⟨locs, X, -⟩ := A; subst hp
  exact ow_st (fun _ k => XS.lmul X.here C.1 rfl (hb C.2.2.2.1 hd) rfl k) k
theorem ow_land (C : OwnCtx p s m meth c Z a0 tw y0 bytes ml ret) (A : OwnPos p l e R s m args below meth c h0 ws T h ck sk) {x y : Int64} (hd : decode bytes pc = .ok (.land, 1)) (hp : pc + 1 = pc') (k : OwnWP p e below s h0 ws Q CK SK T (mkF m pc' Ls (.long (x &&& y) :: S))) : OwnWP p e below s h0 ws Q CK SK T (mkF m pc Ls (.long y :: .long x :: S)) := by
  obtain ⟨locs, X, -⟩ := A; subst hp
  exact ow_st (fun _ k => XS.land X.here C.1 rfl (hb C.2.2.2.1 hd) rfl k) k
theorem ow_lor (C : OwnCtx p s m meth c Z a0 tw y0 bytes ml ret) (A : OwnPos p l e R s m args below meth c h0 ws T h ck sk) {x y : Int64} (hd : decode bytes pc = .ok (.lor, 1)) (hp : pc + 1 = pc') (k : OwnWP p e below s h0 ws Q CK SK T (mkF m pc' Ls (.long (x ||| y) :: S))) : OwnWP p e below s h0 ws Q CK SK T (mkF m pc Ls (.long y :: .long x :: S)) := by
  obtain ⟨locs, X, -⟩ := A; subst hp
  exact ow_st (fun _ k => XS.lor X.here C.1 rfl (hb C.2.2.2.1 hd) rfl k) k
theorem ow_lxor (C : OwnCtx p s m meth c Z a0 tw y0 bytes ml ret) (A : OwnPos p l e R s m args below meth c h0 ws T h ck sk) {x y : Int64} (hd : decode bytes pc = .ok (.lxor, 1)) (hp : pc + 1 = pc') (k : OwnWP p e below s h0 ws Q CK SK T (mkF m pc' Ls (.long (x ^^^ y) :: S))) : OwnWP p e below s h0 ws Q CK SK T (mkF m pc Ls (.long y :: .long x :: S)) := by
  obtain ⟨locs, X, -⟩ := A; subst hp
  exact ow_st (fun _ k => XS.lxor X.here C.1 rfl (hb C.2.2.2.1 hd) rfl k) k
theorem ow_lshl (C : OwnCtx p s m meth c Z a0 tw y0 bytes ml ret) (A : OwnPos p l e R s m args below meth c h0 ws T h ck sk) {x : Int64} {y : Int32} (hd : decode bytes pc = .ok (.lshl, 1)) (hp : pc + 1 = pc') (k : OwnWP p e below s h0 ws Q CK SK T (mkF m pc' Ls (.long (x <<< (y &&& 63).toInt64) :: S))) : OwnWP p e below s h0 ws Q CK SK T (mkF m pc Ls (.int y :: .long x :: S)) := by
  obtain ⟨locs, X, -⟩ := A; subst hp
  exact ow_st (fun _ k => XS.lshl X.here C.1 rfl (hb C.2.2.2.1 hd) rfl k) k
theorem ow_lshr (C : OwnCtx p s m meth c Z a0 tw y0 bytes ml ret) (A : OwnPos p l e R s m args below meth c h0 ws T h ck sk) {x : Int64} {y : Int32} (hd : decode bytes pc = .ok (.lshr, 1)) (hp : pc + 1 = pc') (k : OwnWP p e below s h0 ws Q CK SK T (mkF m pc' Ls (.long (x >>> (y &&& 63).toInt64) :: S))) : OwnWP p e below s h0 ws Q CK SK T (mkF m pc Ls (.int y :: .long x :: S)) := by
  obtain ⟨locs, X, -⟩ := A; subst hp
  exact ow_st (fun _ k => XS.lshr X.here C.1 rfl (hb C.2.2.2.1 hd) rfl k) k
theorem ow_lushr (C : OwnCtx p s m meth c Z a0 tw y0 bytes ml ret) (A : OwnPos p l e R s m args below meth c h0 ws T h ck sk) {x : Int64} {y : Int32} (hd : decode bytes pc = .ok (.lushr, 1)) (hp : pc + 1 = pc') (k : OwnWP p e below s h0 ws Q CK SK T (mkF m pc' Ls (.long (own_ushrL x y) :: S))) : OwnWP p e below s h0 ws Q CK SK T (mkF m pc Ls (.int y :: .long x :: S)) := by
  obtain ⟨locs, X, -⟩ := A; subst hp
  exact ow_st (fun _ k => XS.lushr X.here C.1 rfl (hb C.2.2.2.1 hd) rfl k) k
theorem ow_idiv (C : OwnCtx p s m meth c Z a0 tw y0 bytes ml ret) (A : OwnPos p l e R s m args below meth c h0 ws T h ck sk) {x y : Int32} (hd : decode bytes pc = .ok (.idiv, 1)) (hy : y ≠ 0) (hp : pc + 1 = pc') (k : OwnWP p e below s h0 ws Q CK SK T (mkF m pc' Ls (.int (x / y) :: S))) : OwnWP p e below s h0 ws Q CK SK T (mkF m pc Ls (.int y :: .int x :: S)) := by
  obtain ⟨locs, X, -⟩ := A; subst hp
  exact ow_st (fun _ k => XS.idiv X.here C.1 rfl (hb C.2.2.2.1 hd) rfl hy k) k
theorem ow_irem (C : OwnCtx p s m meth c Z a0 tw y0 bytes ml ret) (A : OwnPos p l e R s m args below meth c h0 ws T h ck sk) {x y : Int32} (hd : decode bytes pc = .ok (.irem, 1)) (hy : y ≠ 0) (hp : pc + 1 = pc') (k : OwnWP p e below s h0 ws Q CK SK T (mkF m pc' Ls (.int (x % y) :: S))) : OwnWP p e below s h0 ws Q CK SK T (mkF m pc Ls (.int y :: .int x :: S)) := by
  obtain ⟨locs, X, -⟩ := A; subst hp
  exact ow_st (fun _ k => iremM X C.1 rfl (hb C.2.2.2.1 hd) rfl hy k) k
theorem ow_ldiv (C : OwnCtx p s m meth c Z a0 tw y0 bytes ml ret) (A : OwnPos p l e R s m args below meth c h0 ws T h ck sk) {x y : Int64} (hd : decode bytes pc = .ok (.ldiv, 1)) (hy : y ≠ 0) (hp : pc + 1 = pc') (k : OwnWP p e below s h0 ws Q CK SK T (mkF m pc' Ls (.long (x / y) :: S))) : OwnWP p e below s h0 ws Q CK SK T (mkF m pc Ls (.long y :: .long x :: S)) := by
  obtain ⟨locs, X, -⟩ := A; subst hp
  exact ow_st (fun _ k => XS.ldiv X.here C.1 rfl (hb C.2.2.2.1 hd) rfl hy k) k
theorem ow_lrem (C : OwnCtx p s m meth c Z a0 tw y0 bytes ml ret) (A : OwnPos p l e R s m args below meth c h0 ws T h ck sk) {x y : Int64} (hd : decode bytes pc = .ok (.lrem, 1)) (hy : y ≠ 0) (hp : pc + 1 = pc') (k : OwnWP p e below s h0 ws Q CK SK T (mkF m pc' Ls (.long (x % y) :: S))) : OwnWP p e below s h0 ws Q CK SK T (mkF m pc Ls (.long y :: .long x :: S)) := by
  obtain ⟨locs, X, -⟩ := A; subst hp
  exact ow_st (fun _ k => XS.lrem X.here C.1 rfl (hb C.2.2.2.1 hd) rfl hy (by rw [lrem_mod]; exact k)) k
theorem ow_ineg (C : OwnCtx p s m meth c Z a0 tw y0 bytes ml ret) (A : OwnPos p l e R s m args below meth c h0 ws T h ck sk) {x : Int32} (hd : decode bytes pc = .ok (.ineg, 1)) (hp : pc + 1 = pc') (k : OwnWP p e below s h0 ws Q CK SK T (mkF m pc' Ls (.int (-x) :: S))) : OwnWP p e below s h0 ws Q CK SK T (mkF m pc Ls (.int x :: S)) := by
  obtain ⟨locs, X, -⟩ := A; subst hp
  exact ow_st (fun _ k => XS.ineg X.here C.1 rfl (hb C.2.2.2.1 hd) rfl k) k
theorem ow_lneg (C : OwnCtx p s m meth c Z a0 tw y0 bytes ml ret) (A : OwnPos p l e R s m args below meth c h0 ws T h ck sk) {x : Int64} (hd : decode bytes pc = .ok (.lneg, 1)) (hp : pc + 1 = pc') (k : OwnWP p e below s h0 ws Q CK SK T (mkF m pc' Ls (.long (-x) :: S))) : OwnWP p e below s h0 ws Q CK SK T (mkF m pc Ls (.long x :: S)) := by
  obtain ⟨locs, X, -⟩ := A; subst hp
  exact ow_st (fun _ k => XS.lneg X.here C.1 rfl (hb C.2.2.2.1 hd) rfl k) k
theorem ow_i2l (C : OwnCtx p s m meth c Z a0 tw y0 bytes ml ret) (A : OwnPos p l e R s m args below meth c h0 ws T h ck sk) {x : Int32} (hd : decode bytes pc = .ok (.i2l, 1)) (hp : pc + 1 = pc') (k : OwnWP p e below s h0 ws Q CK SK T (mkF m pc' Ls (.long x.toInt64 :: S))) : OwnWP p e below s h0 ws Q CK SK T (mkF m pc Ls (.int x :: S)) := by
  obtain ⟨locs, X, -⟩ := A; subst hp
  exact ow_st (fun _ k => XS.i2l X.here C.1 rfl (hb C.2.2.2.1 hd) rfl k) k
theorem ow_l2i (C : OwnCtx p s m meth c Z a0 tw y0 bytes ml ret) (A : OwnPos p l e R s m args below meth c h0 ws T h ck sk) {x : Int64} (hd : decode bytes pc = .ok (.l2i, 1)) (hp : pc + 1 = pc') (k : OwnWP p e below s h0 ws Q CK SK T (mkF m pc' Ls (.int x.toInt32 :: S))) : OwnWP p e below s h0 ws Q CK SK T (mkF m pc Ls (.long x :: S)) := by
  obtain ⟨locs, X, -⟩ := A; subst hp
  exact ow_st (fun _ k => XS.l2i X.here C.1 rfl (hb C.2.2.2.1 hd) rfl k) k
theorem ow_i2b (C : OwnCtx p s m meth c Z a0 tw y0 bytes ml ret) (A : OwnPos p l e R s m args below meth c h0 ws T h ck sk) {x : Int32} (hd : decode bytes pc = .ok (.i2b, 1)) (hp : pc + 1 = pc') (k : OwnWP p e below s h0 ws Q CK SK T (mkF m pc' Ls (.int x.toInt8.toInt32 :: S))) : OwnWP p e below s h0 ws Q CK SK T (mkF m pc Ls (.int x :: S)) := by
  obtain ⟨locs, X, -⟩ := A; subst hp
  exact ow_st (fun _ k => XS.i2b X.here C.1 rfl (hb C.2.2.2.1 hd) rfl k) k
theorem ow_i2s (C : OwnCtx p s m meth c Z a0 tw y0 bytes ml ret) (A : OwnPos p l e R s m args below meth c h0 ws T h ck sk) {x : Int32} (hd : decode bytes pc = .ok (.i2s, 1)) (hp : pc + 1 = pc') (k : OwnWP p e below s h0 ws Q CK SK T (mkF m pc' Ls (.int x.toInt16.toInt32 :: S))) : OwnWP p e below s h0 ws Q CK SK T (mkF m pc Ls (.int x :: S)) := by
  obtain ⟨locs, X, -⟩ := A; subst hp
  exact ow_st (fun _ k => XS.i2s X.here C.1 rfl (hb C.2.2.2.1 hd) rfl k) k
theorem ow_i2c (C : OwnCtx p s m meth c Z a0 tw y0 bytes ml ret) (A : OwnPos p l e R s m args below meth c h0 ws T h ck sk) {x : Int32} (hd : decode bytes pc = .ok (.i2c, 1)) (hp : pc + 1 = pc') (k : OwnWP p e below s h0 ws Q CK SK T (mkF m pc' Ls (.int x.toUInt32.toUInt16.toUInt32.toInt32 :: S))) : OwnWP p e below s h0 ws Q CK SK T (mkF m pc Ls (.int x :: S)) := by
  obtain ⟨locs, X, -⟩ := A; subst hp
  exact ow_st (fun _ k => XS.i2c X.here C.1 rfl (hb C.2.2.2.1 hd) rfl k) k
theorem ow_iconst (C : OwnCtx p s m meth c Z a0 tw y0 bytes ml ret) (A : OwnPos p l e R s m args below meth c h0 ws T h ck sk) {i : Int} {v : Int32} (hd : decode bytes pc = .ok (.iconst i, 1)) (hv : Int32.ofInt i = v) (hp : pc + 1 = pc') (k : OwnWP p e below s h0 ws Q CK SK T (mkF m pc' Ls (.int v :: S))) : OwnWP p e below s h0 ws Q CK SK T (mkF m pc Ls (S)) := by
  obtain ⟨locs, X, -⟩ := A; subst hp
  exact ow_st (fun _ k => by subst hv; exact XS.iconst X.here C.1 rfl (hb C.2.2.2.1 hd) k) k
theorem ow_bipush (C : OwnCtx p s m meth c Z a0 tw y0 bytes ml ret) (A : OwnPos p l e R s m args below meth c h0 ws T h ck sk) {i : Int} {v : Int32} (hd : decode bytes pc = .ok (.bipush i, 2)) (hv : (Int8.ofInt i).toInt32 = v) (hp : pc + 2 = pc') (k : OwnWP p e below s h0 ws Q CK SK T (mkF m pc' Ls (.int v :: S))) : OwnWP p e below s h0 ws Q CK SK T (mkF m pc Ls (S)) := by
  obtain ⟨locs, X, -⟩ := A; subst hp
  exact ow_st (fun _ k => by subst hv; exact XS.bipush X.here C.1 rfl (hb C.2.2.2.1 hd) k) k
theorem ow_sipush (C : OwnCtx p s m meth c Z a0 tw y0 bytes ml ret) (A : OwnPos p l e R s m args below meth c h0 ws T h ck sk) {i : Int} {v : Int32} (hd : decode bytes pc = .ok (.sipush i, 3)) (hv : (Int16.ofInt i).toInt32 = v) (hp : pc + 3 = pc') (k : OwnWP p e below s h0 ws Q CK SK T (mkF m pc' Ls (.int v :: S))) : OwnWP p e below s h0 ws Q CK SK T (mkF m pc Ls (S)) := by
  obtain ⟨locs, X, -⟩ := A; subst hp
  exact ow_st (fun _ k => by subst hv; exact XS.sipush X.here C.1 rfl (hb C.2.2.2.1 hd) k) k
theorem ow_lconst (C : OwnCtx p s m meth c Z a0 tw y0 bytes ml ret) (A : OwnPos p l e R s m args below meth c h0 ws T h ck sk) {i : Fin 2} {v : Int64} (hd : decode bytes pc = .ok (.lconst i, 1)) (hv : Int64.ofNat i = v) (hp : pc + 1 = pc') (k : OwnWP p e below s h0 ws Q CK SK T (mkF m pc' Ls (.long v :: S))) : OwnWP p e below s h0 ws Q CK SK T (mkF m pc Ls (S)) := by
  obtain ⟨locs, X, -⟩ := A; subst hp
  exact ow_st (fun _ k => by subst hv; exact XS.lconst X.here C.1 rfl (hb C.2.2.2.1 hd) k) k
theorem ow_aconst_null (C : OwnCtx p s m meth c Z a0 tw y0 bytes ml ret) (A : OwnPos p l e R s m args below meth c h0 ws T h ck sk)  (hd : decode bytes pc = .ok (.aconst_null, 1)) (hp : pc + 1 = pc') (k : OwnWP p e below s h0 ws Q CK SK T (mkF m pc' Ls (.null :: S))) : OwnWP p e below s h0 ws Q CK SK T (mkF m pc Ls (S)) := by
  obtain ⟨locs, X, -⟩ := A; subst hp
  exact ow_st (fun _ k => XS.aconstNull X.here C.1 rfl (hb C.2.2.2.1 hd) k) k
theorem ow_iload (C : OwnCtx p s m meth c Z a0 tw y0 bytes ml ret) (A : OwnPos p l e R s m args below meth c h0 ws T h ck sk) {j : Nat} {v : Int32} (hd : decode bytes pc = .ok (.iload j, 2)) (hl : Ls[j]? = some (.val (.int v))) (hp : pc + 2 = pc') (k : OwnWP p e below s h0 ws Q CK SK T (mkF m pc' Ls (.int v :: S))) : OwnWP p e below s h0 ws Q CK SK T (mkF m pc Ls (S)) := by
  obtain ⟨locs, X, -⟩ := A; subst hp
  exact ow_st (fun _ k => XS.iload X.here C.1 rfl (hb C.2.2.2.1 hd) hl k) k
theorem ow_iloadN (C : OwnCtx p s m meth c Z a0 tw y0 bytes ml ret) (A : OwnPos p l e R s m args below meth c h0 ws T h ck sk) {j : Fin 4} {v : Int32} (hd : decode bytes pc = .ok (.iload_n j, 1)) (hl : Ls[j.val]? = some (.val (.int v))) (hp : pc + 1 = pc') (k : OwnWP p e below s h0 ws Q CK SK T (mkF m pc' Ls (.int v :: S))) : OwnWP p e below s h0 ws Q CK SK T (mkF m pc Ls (S)) := by
  obtain ⟨locs, X, -⟩ := A; subst hp
  exact ow_st (fun _ k => XS.iloadN X.here C.1 rfl (hb C.2.2.2.1 hd) hl k) k
theorem ow_lload (C : OwnCtx p s m meth c Z a0 tw y0 bytes ml ret) (A : OwnPos p l e R s m args below meth c h0 ws T h ck sk) {j : Nat} {v : Int64} (hd : decode bytes pc = .ok (.lload j, 2)) (hl : Ls[j]? = some (.val (.long v))) (hp : pc + 2 = pc') (k : OwnWP p e below s h0 ws Q CK SK T (mkF m pc' Ls (.long v :: S))) : OwnWP p e below s h0 ws Q CK SK T (mkF m pc Ls (S)) := by
  obtain ⟨locs, X, -⟩ := A; subst hp
  exact ow_st (fun _ k => XS.lload X.here C.1 rfl (hb C.2.2.2.1 hd) hl k) k
theorem ow_lloadN (C : OwnCtx p s m meth c Z a0 tw y0 bytes ml ret) (A : OwnPos p l e R s m args below meth c h0 ws T h ck sk) {j : Fin 4} {v : Int64} (hd : decode bytes pc = .ok (.lload_n j, 1)) (hl : Ls[j.val]? = some (.val (.long v))) (hp : pc + 1 = pc') (k : OwnWP p e below s h0 ws Q CK SK T (mkF m pc' Ls (.long v :: S))) : OwnWP p e below s h0 ws Q CK SK T (mkF m pc Ls (S)) := by
  obtain ⟨locs, X, -⟩ := A; subst hp
  exact ow_st (fun _ k => XS.lloadN X.here C.1 rfl (hb C.2.2.2.1 hd) hl k) k
theorem ow_aload (C : OwnCtx p s m meth c Z a0 tw y0 bytes ml ret) (A : OwnPos p l e R s m args below meth c h0 ws T h ck sk) {j : Nat} {v : Value} (hd : decode bytes pc = .ok (.aload j, 2)) (hl : Ls[j]? = some (.val v)) (hv : v.isRef = true) (hp : pc + 2 = pc') (k : OwnWP p e below s h0 ws Q CK SK T (mkF m pc' Ls (v :: S))) : OwnWP p e below s h0 ws Q CK SK T (mkF m pc Ls (S)) := by
  obtain ⟨locs, X, -⟩ := A; subst hp
  exact ow_st (fun _ k => XS.aload X.here C.1 rfl (hb C.2.2.2.1 hd) hl hv k) k
theorem ow_aloadN (C : OwnCtx p s m meth c Z a0 tw y0 bytes ml ret) (A : OwnPos p l e R s m args below meth c h0 ws T h ck sk) {j : Fin 4} {v : Value} (hd : decode bytes pc = .ok (.aload_n j, 1)) (hl : Ls[j.val]? = some (.val v)) (hv : v.isRef = true) (hp : pc + 1 = pc') (k : OwnWP p e below s h0 ws Q CK SK T (mkF m pc' Ls (v :: S))) : OwnWP p e below s h0 ws Q CK SK T (mkF m pc Ls (S)) := by
  obtain ⟨locs, X, -⟩ := A; subst hp
  exact ow_st (fun _ k => XS.aloadN X.here C.1 rfl (hb C.2.2.2.1 hd) hl hv k) k
theorem ow_istore (C : OwnCtx p s m meth c Z a0 tw y0 bytes ml ret) (A : OwnPos p l e R s m args below meth c h0 ws T h ck sk) {j : Nat} {v : Int32} (hd : decode bytes pc = .ok (.istore j, 2)) (hl : storeLocals Ls j (.int v) = some Ls') (hp : pc + 2 = pc') (k : OwnWP p e below s h0 ws Q CK SK T (mkF m pc' Ls' (S))) : OwnWP p e below s h0 ws Q CK SK T (mkF m pc Ls (.int v :: S)) := by
  obtain ⟨locs, X, -⟩ := A; subst hp
  exact ow_st (fun _ k => XS.istore X.here C.1 rfl (hb C.2.2.2.1 hd) rfl hl k) k
theorem ow_istoreN (C : OwnCtx p s m meth c Z a0 tw y0 bytes ml ret) (A : OwnPos p l e R s m args below meth c h0 ws T h ck sk) {j : Fin 4} {v : Int32} (hd : decode bytes pc = .ok (.istore_n j, 1)) (hl : storeLocals Ls j.val (.int v) = some Ls') (hp : pc + 1 = pc') (k : OwnWP p e below s h0 ws Q CK SK T (mkF m pc' Ls' (S))) : OwnWP p e below s h0 ws Q CK SK T (mkF m pc Ls (.int v :: S)) := by
  obtain ⟨locs, X, -⟩ := A; subst hp
  exact ow_st (fun _ k => XS.istoreN X.here C.1 rfl (hb C.2.2.2.1 hd) rfl hl k) k
theorem ow_lstore (C : OwnCtx p s m meth c Z a0 tw y0 bytes ml ret) (A : OwnPos p l e R s m args below meth c h0 ws T h ck sk) {j : Nat} {v : Int64} (hd : decode bytes pc = .ok (.lstore j, 2)) (hl : storeLocals Ls j (.long v) = some Ls') (hp : pc + 2 = pc') (k : OwnWP p e below s h0 ws Q CK SK T (mkF m pc' Ls' (S))) : OwnWP p e below s h0 ws Q CK SK T (mkF m pc Ls (.long v :: S)) := by
  obtain ⟨locs, X, -⟩ := A; subst hp
  exact ow_st (fun _ k => XS.lstore X.here C.1 rfl (hb C.2.2.2.1 hd) rfl hl k) k
theorem ow_lstoreN (C : OwnCtx p s m meth c Z a0 tw y0 bytes ml ret) (A : OwnPos p l e R s m args below meth c h0 ws T h ck sk) {j : Fin 4} {v : Int64} (hd : decode bytes pc = .ok (.lstore_n j, 1)) (hl : storeLocals Ls j.val (.long v) = some Ls') (hp : pc + 1 = pc') (k : OwnWP p e below s h0 ws Q CK SK T (mkF m pc' Ls' (S))) : OwnWP p e below s h0 ws Q CK SK T (mkF m pc Ls (.long v :: S)) := by
  obtain ⟨locs, X, -⟩ := A; subst hp
  exact ow_st (fun _ k => XS.lstoreN X.here C.1 rfl (hb C.2.2.2.1 hd) rfl hl k) k
theorem ow_astore (C : OwnCtx p s m meth c Z a0 tw y0 bytes ml ret) (A : OwnPos p l e R s m args below meth c h0 ws T h ck sk) {j : Nat} {v : Value} (hd : decode bytes pc = .ok (.astore j, 2)) (hv : v.isRef = true) (hl : storeLocals Ls j v = some Ls') (hp : pc + 2 = pc') (k : OwnWP p e below s h0 ws Q CK SK T (mkF m pc' Ls' (S))) : OwnWP p e below s h0 ws Q CK SK T (mkF m pc Ls (v :: S)) := by
  obtain ⟨locs, X, -⟩ := A; subst hp
  exact ow_st (fun _ k => XS.astore X.here C.1 rfl (hb C.2.2.2.1 hd) rfl hv hl k) k
theorem ow_astoreN (C : OwnCtx p s m meth c Z a0 tw y0 bytes ml ret) (A : OwnPos p l e R s m args below meth c h0 ws T h ck sk) {j : Fin 4} {v : Value} (hd : decode bytes pc = .ok (.astore_n j, 1)) (hv : v.isRef = true) (hl : storeLocals Ls j.val v = some Ls') (hp : pc + 1 = pc') (k : OwnWP p e below s h0 ws Q CK SK T (mkF m pc' Ls' (S))) : OwnWP p e below s h0 ws Q CK SK T (mkF m pc Ls (v :: S)) := by
  obtain ⟨locs, X, -⟩ := A; subst hp
  exact ow_st (fun _ k => XS.astoreN X.here C.1 rfl (hb C.2.2.2.1 hd) rfl hv hl k) k
theorem ow_iinc (C : OwnCtx p s m meth c Z a0 tw y0 bytes ml ret) (A : OwnPos p l e R s m args below meth c h0 ws T h ck sk) {j : Nat} {cst : Int} {v : Int32} (hd : decode bytes pc = .ok (.iinc j cst, 3)) (hl : Ls[j]? = some (.val (.int v))) (hl' : storeLocals Ls j (.int (v + Int32.ofInt cst)) = some Ls') (hp : pc + 3 = pc') (k : OwnWP p e below s h0 ws Q CK SK T (mkF m pc' Ls' (S))) : OwnWP p e below s h0 ws Q CK SK T (mkF m pc Ls (S)) := by
  obtain ⟨locs, X, -⟩ := A; subst hp
  exact ow_st (fun _ k => XS.iinc X.here C.1 rfl (hb C.2.2.2.1 hd) hl hl' k) k
theorem ow_dup (C : OwnCtx p s m meth c Z a0 tw y0 bytes ml ret) (A : OwnPos p l e R s m args below meth c h0 ws T h ck sk) {v : Value} (hd : decode bytes pc = .ok (.dup, 1)) (hc : v.category = 1) (hp : pc + 1 = pc') (k : OwnWP p e below s h0 ws Q CK SK T (mkF m pc' Ls (v :: v :: S))) : OwnWP p e below s h0 ws Q CK SK T (mkF m pc Ls (v :: S)) := by
  obtain ⟨locs, X, -⟩ := A; subst hp
  exact ow_st (fun _ k => XS.dup X.here C.1 rfl (hb C.2.2.2.1 hd) rfl hc k) k
theorem ow_dup_x1 (C : OwnCtx p s m meth c Z a0 tw y0 bytes ml ret) (A : OwnPos p l e R s m args below meth c h0 ws T h ck sk) {v w : Value} (hd : decode bytes pc = .ok (.dup_x1, 1)) (hc : v.category = 1) (hc' : w.category = 1) (hp : pc + 1 = pc') (k : OwnWP p e below s h0 ws Q CK SK T (mkF m pc' Ls (v :: w :: v :: S))) : OwnWP p e below s h0 ws Q CK SK T (mkF m pc Ls (v :: w :: S)) := by
  obtain ⟨locs, X, -⟩ := A; subst hp
  exact ow_st (fun _ k => XS.dupX1 X.here C.1 rfl (hb C.2.2.2.1 hd) rfl hc hc' k) k
theorem ow_dup2 (C : OwnCtx p s m meth c Z a0 tw y0 bytes ml ret) (A : OwnPos p l e R s m args below meth c h0 ws T h ck sk) {v w : Value} (hd : decode bytes pc = .ok (.dup2, 1)) (hc : v.category = 1) (hc' : w.category = 1) (hp : pc + 1 = pc') (k : OwnWP p e below s h0 ws Q CK SK T (mkF m pc' Ls (v :: w :: v :: w :: S))) : OwnWP p e below s h0 ws Q CK SK T (mkF m pc Ls (v :: w :: S)) := by
  obtain ⟨locs, X, -⟩ := A; subst hp
  exact ow_st (fun _ k => XT.dup2 X.here C.1 rfl (hb C.2.2.2.1 hd) rfl hc hc' k) k
theorem ow_pop (C : OwnCtx p s m meth c Z a0 tw y0 bytes ml ret) (A : OwnPos p l e R s m args below meth c h0 ws T h ck sk) {v : Value} (hd : decode bytes pc = .ok (.pop, 1)) (hc : v.category = 1) (hp : pc + 1 = pc') (k : OwnWP p e below s h0 ws Q CK SK T (mkF m pc' Ls (S))) : OwnWP p e below s h0 ws Q CK SK T (mkF m pc Ls (v :: S)) := by
  obtain ⟨locs, X, -⟩ := A; subst hp
  exact ow_st (fun _ k => XS.pop X.here C.1 rfl (hb C.2.2.2.1 hd) rfl hc k) k
theorem ow_goto (C : OwnCtx p s m meth c Z a0 tw y0 bytes ml ret) (A : OwnPos p l e R s m args below meth c h0 ws T h ck sk) {o : Int} (hd : decode bytes pc = .ok (.goto o, 3)) (ho : 0 ≤ (pc : Int) + o) (hp : ((pc : Int) + o).toNat = pc') (k : OwnWP p e below s h0 ws Q CK SK T (mkF m pc' Ls S)) : OwnWP p e below s h0 ws Q CK SK T (mkF m pc Ls S) := by
  obtain ⟨locs, X, -⟩ := A
  exact ow_st (fun _ k => XS.goto X.here C.1 rfl (pc0 := pc) (pc' := pc') rfl (hb C.2.2.2.1 hd) ho hp k) k
theorem ow_icmp_lt (C : OwnCtx p s m meth c Z a0 tw y0 bytes ml ret) (A : OwnPos p l e R s m args below meth c h0 ws T h ck sk) {x y : Int32} {o : Int} {pcY pcN : Nat} (hd : decode bytes pc = .ok (.if_icmp .lt o, 3)) (ho : 0 ≤ (pc : Int) + o) (hpY : ((pc : Int) + o).toNat = pcY) (hpN : pc + 3 = pcN) (kY : x < y → OwnWP p e below s h0 ws Q CK SK T (mkF m pcY Ls S)) (kN : ¬ (x < y) → OwnWP p e below s h0 ws Q CK SK T (mkF m pcN Ls S)) : OwnWP p e below s h0 ws Q CK SK T (mkF m pc Ls (.int y :: .int x :: S)) := by
  obtain ⟨locs, X, -⟩ := A; subst hpN
  by_cases q : x < y
  · exact ow_st (fun _ k => XS.icmpYes X.here C.1 rfl (pc0 := pc) (pc' := pcY) rfl (hb C.2.2.2.1 hd) rfl (tlt q).1 ho hpY k) (kY q)
  · exact ow_st (fun _ k => XS.icmpNo X.here C.1 rfl (hb C.2.2.2.1 hd) rfl (flt q).1 k) (kN q)
theorem ow_if_lt (C : OwnCtx p s m meth c Z a0 tw y0 bytes ml ret) (A : OwnPos p l e R s m args below meth c h0 ws T h ck sk) {x : Int32} {o : Int} {pcY pcN : Nat} (hd : decode bytes pc = .ok (.ifCond .lt o, 3)) (ho : 0 ≤ (pc : Int) + o) (hpY : ((pc : Int) + o).toNat = pcY) (hpN : pc + 3 = pcN) (kY : x < 0 → OwnWP p e below s h0 ws Q CK SK T (mkF m pcY Ls S)) (kN : ¬ (x < 0) → OwnWP p e below s h0 ws Q CK SK T (mkF m pcN Ls S)) : OwnWP p e below s h0 ws Q CK SK T (mkF m pc Ls (.int x :: S)) := by
  obtain ⟨locs, X, -⟩ := A; subst hpN
  by_cases q : x < 0
  · exact ow_st (fun _ k => XS.ifYes X.here C.1 rfl (pc0 := pc) (pc' := pcY) rfl (hb C.2.2.2.1 hd) rfl ((if0 _ _).trans (tlt q).1) ho hpY k) (kY q)
  · exact ow_st (fun _ k => XS.ifNo X.here C.1 rfl (hb C.2.2.2.1 hd) rfl ((if0 _ _).trans (flt q).1) k) (kN q)
theorem ow_lcmp_lt (C : OwnCtx p s m meth c Z a0 tw y0 bytes ml ret) (A : OwnPos p l e R s m args below meth c h0 ws T h ck sk) {x y : Int64} {o : Int} {pc1 pcY pcN : Nat} (hd : decode bytes pc = .ok (.lcmp, 1)) (hp1 : pc + 1 = pc1) (hd1 : decode bytes pc1 = .ok (.ifCond .lt o, 3)) (ho : 0 ≤ (pc1 : Int) + o) (hpY : ((pc1 : Int) + o).toNat = pcY) (hpN : pc1 + 3 = pcN) (kY : x < y → OwnWP p e below s h0 ws Q CK SK T (mkF m pcY Ls S)) (kN : ¬ (x < y) → OwnWP p e below s h0 ws Q CK SK T (mkF m pcN Ls S)) : OwnWP p e below s h0 ws Q CK SK T (mkF m pc Ls (.long y :: .long x :: S)) := by
  have A' := A; obtain ⟨locs, X, -⟩ := A'; subst hp1
  refine ow_st (fun _ k => XS.lcmp X.here C.1 rfl (hb C.2.2.2.1 hd) rfl k) ?_
  show OwnWP p e below s h0 ws Q CK SK T (mkF m (pc + 1) Ls (.int (lcmpW x y) :: S))
  exact ow_if_lt C A hd1 ho hpY hpN (fun q => kY ((lw_lt x y).mp q)) (fun q => kN (fun z => q ((lw_lt x y).mpr z)))
theorem ow_icmp_ge (C : OwnCtx p s m meth c Z a0 tw y0 bytes ml ret) (A : OwnPos p l e R s m args below meth c h0 ws T h ck sk) {x y : Int32} {o : Int} {pcY pcN : Nat} (hd : decode bytes pc = .ok (.if_icmp .ge o, 3)) (ho : 0 ≤ (pc : Int) + o) (hpY : ((pc : Int) + o).toNat = pcY) (hpN : pc + 3 = pcN) (kY : ¬ (x < y) → OwnWP p e below s h0 ws Q CK SK T (mkF m pcY Ls S)) (kN : x < y → OwnWP p e below s h0 ws Q CK SK T (mkF m pcN Ls S)) : OwnWP p e below s h0 ws Q CK SK T (mkF m pc Ls (.int y :: .int x :: S)) := by
  obtain ⟨locs, X, -⟩ := A; subst hpN
  by_cases q : x < y
  · exact ow_st (fun _ k => XS.icmpNo X.here C.1 rfl (hb C.2.2.2.1 hd) rfl (tlt q).2.1 k) (kN q)
  · exact ow_st (fun _ k => XS.icmpYes X.here C.1 rfl (pc0 := pc) (pc' := pcY) rfl (hb C.2.2.2.1 hd) rfl (flt q).2.1 ho hpY k) (kY q)
theorem ow_if_ge (C : OwnCtx p s m meth c Z a0 tw y0 bytes ml ret) (A : OwnPos p l e R s m args below meth c h0 ws T h ck sk) {x : Int32} {o : Int} {pcY pcN : Nat} (hd : decode bytes pc = .ok (.ifCond .ge o, 3)) (ho : 0 ≤ (pc : Int) + o) (hpY : ((pc : Int) + o).toNat = pcY) (hpN : pc + 3 = pcN) (kY : ¬ (x < 0) → OwnWP p e below s h0 ws Q CK SK T (mkF m pcY Ls S)) (kN : x < 0 → OwnWP p e below s h0 ws Q CK SK T (mkF m pcN Ls S)) : OwnWP p e below s h0 ws Q CK SK T (mkF m pc Ls (.int x :: S)) := by
  obtain ⟨locs, X, -⟩ := A; subst hpN
  by_cases q : x < 0
  · exact ow_st (fun _ k => XS.ifNo X.here C.1 rfl (hb C.2.2.2.1 hd) rfl ((if0 _ _).trans (tlt q).2.1) k) (kN q)
  · exact ow_st (fun _ k => XS.ifYes X.here C.1 rfl (pc0 := pc) (pc' := pcY) rfl (hb C.2.2.2.1 hd) rfl ((if0 _ _).trans (flt q).2.1) ho hpY k) (kY q)
theorem ow_lcmp_ge (C : OwnCtx p s m meth c Z a0 tw y0 bytes ml ret) (A : OwnPos p l e R s m args below meth c h0 ws T h ck sk) {x y : Int64} {o : Int} {pc1 pcY pcN : Nat} (hd : decode bytes pc = .ok (.lcmp, 1)) (hp1 : pc + 1 = pc1) (hd1 : decode bytes pc1 = .ok (.ifCond .ge o, 3)) (ho : 0 ≤ (pc1 : Int) + o) (hpY : ((pc1 : Int) + o).toNat = pcY) (hpN : pc1 + 3 = pcN) (kY : ¬ (x < y) → OwnWP p e below s h0 ws Q CK SK T (mkF m pcY Ls S)) (kN : x < y → OwnWP p e below s h0 ws Q CK SK T (mkF m pcN Ls S)) : OwnWP p e below s h0 ws Q CK SK T (mkF m pc Ls (.long y :: .long x :: S)) := by
  have A' := A; obtain ⟨locs, X, -⟩ := A'; subst hp1
  refine ow_st (fun _ k => XS.lcmp X.here C.1 rfl (hb C.2.2.2.1 hd) rfl k) ?_
  show OwnWP p e below s h0 ws Q CK SK T (mkF m (pc + 1) Ls (.int (lcmpW x y) :: S))
  exact ow_if_ge C A hd1 ho hpY hpN (fun q => kY (fun z => q ((lw_lt x y).mpr z))) (fun q => kN ((lw_lt x y).mp q))
theorem ow_icmp_gt (C : OwnCtx p s m meth c Z a0 tw y0 bytes ml ret) (A : OwnPos p l e R s m args below meth c h0 ws T h ck sk) {x y : Int32} {o : Int} {pcY pcN : Nat} (hd : decode bytes pc = .ok (.if_icmp .gt o, 3)) (ho : 0 ≤ (pc : Int) + o) (hpY : ((pc : Int) + o).toNat = pcY) (hpN : pc + 3 = pcN) (kY : y < x → OwnWP p e below s h0 ws Q CK SK T (mkF m pcY Ls S)) (kN : ¬ (y < x) → OwnWP p e below s h0 ws Q CK SK T (mkF m pcN Ls S)) : OwnWP p e below s h0 ws Q CK SK T (mkF m pc Ls (.int y :: .int x :: S)) := by
  obtain ⟨locs, X, -⟩ := A; subst hpN
  by_cases q : y < x
  · exact ow_st (fun _ k => XS.icmpYes X.here C.1 rfl (pc0 := pc) (pc' := pcY) rfl (hb C.2.2.2.1 hd) rfl (tlt q).2.2.1 ho hpY k) (kY q)
  · exact ow_st (fun _ k => XS.icmpNo X.here C.1 rfl (hb C.2.2.2.1 hd) rfl (flt q).2.2.1 k) (kN q)
theorem ow_if_gt (C : OwnCtx p s m meth c Z a0 tw y0 bytes ml ret) (A : OwnPos p l e R s m args below meth c h0 ws T h ck sk) {x : Int32} {o : Int} {pcY pcN : Nat} (hd : decode bytes pc = .ok (.ifCond .gt o, 3)) (ho : 0 ≤ (pc : Int) + o) (hpY : ((pc : Int) + o).toNat = pcY) (hpN : pc + 3 = pcN) (kY : 0 < x → OwnWP p e below s h0 ws Q CK SK T (mkF m pcY Ls S)) (kN : ¬ (0 < x) → OwnWP p e below s h0 ws Q CK SK T (mkF m pcN Ls S)) : OwnWP p e below s h0 ws Q CK SK T (mkF m pc Ls (.int x :: S)) := by
  obtain ⟨locs, X, -⟩ := A; subst hpN
  by_cases q : 0 < x
  · exact ow_st (fun _ k => XS.ifYes X.here C.1 rfl (pc0 := pc) (pc' := pcY) rfl (hb C.2.2.2.1 hd) rfl ((if0 _ _).trans (tlt q).2.2.1) ho hpY k) (kY q)
  · exact ow_st (fun _ k => XS.ifNo X.here C.1 rfl (hb C.2.2.2.1 hd) rfl ((if0 _ _).trans (flt q).2.2.1) k) (kN q)
theorem ow_lcmp_gt (C : OwnCtx p s m meth c Z a0 tw y0 bytes ml ret) (A : OwnPos p l e R s m args below meth c h0 ws T h ck sk) {x y : Int64} {o : Int} {pc1 pcY pcN : Nat} (hd : decode bytes pc = .ok (.lcmp, 1)) (hp1 : pc + 1 = pc1) (hd1 : decode bytes pc1 = .ok (.ifCond .gt o, 3)) (ho : 0 ≤ (pc1 : Int) + o) (hpY : ((pc1 : Int) + o).toNat = pcY) (hpN : pc1 + 3 = pcN) (kY : y < x → OwnWP p e below s h0 ws Q CK SK T (mkF m pcY Ls S)) (kN : ¬ (y < x) → OwnWP p e below s h0 ws Q CK SK T (mkF m pcN Ls S)) : OwnWP p e below s h0 ws Q CK SK T (mkF m pc Ls (.long y :: .long x :: S)) := by
  have A' := A; obtain ⟨locs, X, -⟩ := A'; subst hp1
  refine ow_st (fun _ k => XS.lcmp X.here C.1 rfl (hb C.2.2.2.1 hd) rfl k) ?_
  show OwnWP p e below s h0 ws Q CK SK T (mkF m (pc + 1) Ls (.int (lcmpW x y) :: S))
  exact ow_if_gt C A hd1 ho hpY hpN (fun q => kY ((lw_gt x y).mp q)) (fun q => kN (fun z => q ((lw_gt x y).mpr z)))
theorem ow_icmp_le (C : OwnCtx p s m meth c Z a0 tw y0 bytes ml ret) (A : OwnPos p l e R s m args below meth c h0 ws T h ck sk) {x y : Int32} {o : Int} {pcY pcN : Nat} (hd : decode bytes pc = .ok (.if_icmp .le o, 3)) (ho : 0 ≤ (pc : Int) + o) (hpY : ((pc : Int) + o).toNat = pcY) (hpN : pc + 3 = pcN) (kY : ¬ (y < x) → OwnWP p e below s h0 ws Q CK SK T (mkF m pcY Ls S)) (kN : y < x → OwnWP p e below s h0 ws Q CK SK T (mkF m pcN Ls S)) : OwnWP p e below s h0 ws Q CK SK T (mkF m pc Ls (.int y :: .int x :: S)) := by
  obtain ⟨locs, X, -⟩ := A; subst hpN
  by_cases q : y < x
  · exact ow_st (fun _ k => XS.icmpNo X.here C.1 rfl (hb C.2.2.2.1 hd) rfl (tlt q).2.2.2 k) (kN q)
  · exact ow_st (fun _ k => XS.icmpYes X.here C.1 rfl (pc0 := pc) (pc' := pcY) rfl (hb C.2.2.2.1 hd) rfl (flt q).2.2.2 ho hpY k) (kY q)
theorem ow_if_le (C : OwnCtx p s m meth c Z a0 tw y0 bytes ml ret) (A : OwnPos p l e R s m args below meth c h0 ws T h ck sk) {x : Int32} {o : Int} {pcY pcN : Nat} (hd : decode bytes pc = .ok (.ifCond .le o, 3)) (ho : 0 ≤ (pc : Int) + o) (hpY : ((pc : Int) + o).toNat = pcY) (hpN : pc + 3 = pcN) (kY : ¬ (0 < x) → OwnWP p e below s h0 ws Q CK SK T (mkF m pcY Ls S)) (kN : 0 < x → OwnWP p e below s h0 ws Q CK SK T (mkF m pcN Ls S)) : OwnWP p e below s h0 ws Q CK SK T (mkF m pc Ls (.int x :: S)) := by
  obtain ⟨locs, X, -⟩ := A; subst hpN
  by_cases q : 0 < x
  · exact ow_st (fun _ k => XS.ifNo X.here C.1 rfl (hb C.2.2.2.1 hd) rfl ((if0 _ _).trans (tlt q).2.2.2) k) (kN q)
  · exact ow_st (fun _ k => XS.ifYes X.here C.1 rfl (pc0 := pc) (pc' := pcY) rfl (hb C.2.2.2.1 hd) rfl ((if0 _ _).trans (flt q).2.2.2) ho hpY k) (kY q)
theorem ow_lcmp_le (C : OwnCtx p s m meth c Z a0 tw y0 bytes ml ret) (A : OwnPos p l e R s m args below meth c h0 ws T h ck sk) {x y : Int64} {o : Int} {pc1 pcY pcN : Nat} (hd : decode bytes pc = .ok (.lcmp, 1)) (hp1 : pc + 1 = pc1) (hd1 : decode bytes pc1 = .ok (.ifCond .le o, 3)) (ho : 0 ≤ (pc1 : Int) + o) (hpY : ((pc1 : Int) + o).toNat = pcY) (hpN : pc1 + 3 = pcN) (kY : ¬ (y < x) → OwnWP p e below s h0 ws Q CK SK T (mkF m pcY Ls S)) (kN : y < x → OwnWP p e below s h0 ws Q CK SK T (mkF m pcN Ls S)) : OwnWP p e below s h0 ws Q CK SK T (mkF m pc Ls (.long y :: .long x :: S)) := by
  have A' := A; obtain ⟨locs, X, -⟩ := A'; subst hp1
  refine ow_st (fun _ k => XS.lcmp X.here C.1 rfl (hb C.2.2.2.1 hd) rfl k) ?_
  show OwnWP p e below s h0 ws Q CK SK T (mkF m (pc + 1) Ls (.int (lcmpW x y) :: S))
  exact ow_if_le C A hd1 ho hpY hpN (fun q => kY (fun z => q ((lw_gt x y).mpr z))) (fun q => kN ((lw_gt x y).mp q))
theorem ow_icmp_eq (C : OwnCtx p s m meth c Z a0 tw y0 bytes ml ret) (A : OwnPos p l e R s m args below meth c h0 ws T h ck sk) {x y : Int32} {o : Int} {pcY pcN : Nat} (hd : decode bytes pc = .ok (.if_icmp .eq o, 3)) (ho : 0 ≤ (pc : Int) + o) (hpY : ((pc : Int) + o).toNat = pcY) (hpN : pc + 3 = pcN) (kY : x = y → OwnWP p e below s h0 ws Q CK SK T (mkF m pcY Ls S)) (kN : ¬ (x = y) → OwnWP p e below s h0 ws Q CK SK T (mkF m pcN Ls S)) : OwnWP p e below s h0 ws Q CK SK T (mkF m pc Ls (.int y :: .int x :: S)) := by
  obtain ⟨locs, X, -⟩ := A; subst hpN
  by_cases q : x = y
  · exact ow_st (fun _ k => XS.icmpYes X.here C.1 rfl (pc0 := pc) (pc' := pcY) rfl (hb C.2.2.2.1 hd) rfl (teq q).1 ho hpY k) (kY q)
  · exact ow_st (fun _ k => XS.icmpNo X.here C.1 rfl (hb C.2.2.2.1 hd) rfl (feq q).1 k) (kN q)
theorem ow_if_eq (C : OwnCtx p s m meth c Z a0 tw y0 bytes ml ret) (A : OwnPos p l e R s m args below meth c h0 ws T h ck sk) {x : Int32} {o : Int} {pcY pcN : Nat} (hd : decode bytes pc = .ok (.ifCond .eq o, 3)) (ho : 0 ≤ (pc : Int) + o) (hpY : ((pc : Int) + o).toNat = pcY) (hpN : pc + 3 = pcN) (kY : x = 0 → OwnWP p e below s h0 ws Q CK SK T (mkF m pcY Ls S)) (kN : ¬ (x = 0) → OwnWP p e below s h0 ws Q CK SK T (mkF m pcN Ls S)) : OwnWP p e below s h0 ws Q CK SK T (mkF m pc Ls (.int x :: S)) := by
  obtain ⟨locs, X, -⟩ := A; subst hpN
  by_cases q : x = 0
  · exact ow_st (fun _ k => XS.ifYes X.here C.1 rfl (pc0 := pc) (pc' := pcY) rfl (hb C.2.2.2.1 hd) rfl ((if0 _ _).trans (teq q).1) ho hpY k) (kY q)
  · exact ow_st (fun _ k => XS.ifNo X.here C.1 rfl (hb C.2.2.2.1 hd) rfl ((if0 _ _).trans (feq q).1) k) (kN q)
theorem ow_lcmp_eq (C : OwnCtx p s m meth c Z a0 tw y0 bytes ml ret) (A : OwnPos p l e R s m args below meth c h0 ws T h ck sk) {x y : Int64} {o : Int} {pc1 pcY pcN : Nat} (hd : decode bytes pc = .ok (.lcmp, 1)) (hp1 : pc + 1 = pc1) (hd1 : decode bytes pc1 = .ok (.ifCond .eq o, 3)) (ho : 0 ≤ (pc1 : Int) + o) (hpY : ((pc1 : Int) + o).toNat = pcY) (hpN : pc1 + 3 = pcN) (kY : x = y → OwnWP p e below s h0 ws Q CK SK T (mkF m pcY Ls S)) (kN : ¬ (x = y) → OwnWP p e below s h0 ws Q CK SK T (mkF m pcN Ls S)) : OwnWP p e below s h0 ws Q CK SK T (mkF m pc Ls (.long y :: .long x :: S)) := by
  have A' := A; obtain ⟨locs, X, -⟩ := A'; subst hp1
  refine ow_st (fun _ k => XS.lcmp X.here C.1 rfl (hb C.2.2.2.1 hd) rfl k) ?_
  show OwnWP p e below s h0 ws Q CK SK T (mkF m (pc + 1) Ls (.int (lcmpW x y) :: S))
  exact ow_if_eq C A hd1 ho hpY hpN (fun q => kY ((lw_eq x y).mp q)) (fun q => kN (fun z => q ((lw_eq x y).mpr z)))
theorem ow_icmp_ne (C : OwnCtx p s m meth c Z a0 tw y0 bytes ml ret) (A : OwnPos p l e R s m args below meth c h0 ws T h ck sk) {x y : Int32} {o : Int} {pcY pcN : Nat} (hd : decode bytes pc = .ok (.if_icmp .ne o, 3)) (ho : 0 ≤ (pc : Int) + o) (hpY : ((pc : Int) + o).toNat = pcY) (hpN : pc + 3 = pcN) (kY : ¬ (x = y) → OwnWP p e below s h0 ws Q CK SK T (mkF m pcY Ls S)) (kN : x = y → OwnWP p e below s h0 ws Q CK SK T (mkF m pcN Ls S)) : OwnWP p e below s h0 ws Q CK SK T (mkF m pc Ls (.int y :: .int x :: S)) := by
  obtain ⟨locs, X, -⟩ := A; subst hpN
  by_cases q : x = y
  · exact ow_st (fun _ k => XS.icmpNo X.here C.1 rfl (hb C.2.2.2.1 hd) rfl (teq q).2 k) (kN q)
  · exact ow_st (fun _ k => XS.icmpYes X.here C.1 rfl (pc0 := pc) (pc' := pcY) rfl (hb C.2.2.2.1 hd) rfl (feq q).2 ho hpY k) (kY q)
theorem ow_if_ne (C : OwnCtx p s m meth c Z a0 tw y0 bytes ml ret) (A : OwnPos p l e R s m args below meth c h0 ws T h ck sk) {x : Int32} {o : Int} {pcY pcN : Nat} (hd : decode bytes pc = .ok (.ifCond .ne o, 3)) (ho : 0 ≤ (pc : Int) + o) (hpY : ((pc : Int) + o).toNat = pcY) (hpN : pc + 3 = pcN) (kY : ¬ (x = 0) → OwnWP p e below s h0 ws Q CK SK T (mkF m pcY Ls S)) (kN : x = 0 → OwnWP p e below s h0 ws Q CK SK T (mkF m pcN Ls S)) : OwnWP p e below s h0 ws Q CK SK T (mkF m pc Ls (.int x :: S)) := by
  obtain ⟨locs, X, -⟩ := A; subst hpN
  by_cases q : x = 0
  · exact ow_st (fun _ k => XS.ifNo X.here C.1 rfl (hb C.2.2.2.1 hd) rfl ((if0 _ _).trans (teq q).2) k) (kN q)
  · exact ow_st (fun _ k => XS.ifYes X.here C.1 rfl (pc0 := pc) (pc' := pcY) rfl (hb C.2.2.2.1 hd) rfl ((if0 _ _).trans (feq q).2) ho hpY k) (kY q)
theorem ow_lcmp_ne (C : OwnCtx p s m meth c Z a0 tw y0 bytes ml ret) (A : OwnPos p l e R s m args below meth c h0 ws T h ck sk) {x y : Int64} {o : Int} {pc1 pcY pcN : Nat} (hd : decode bytes pc = .ok (.lcmp, 1)) (hp1 : pc + 1 = pc1) (hd1 : decode bytes pc1 = .ok (.ifCond .ne o, 3)) (ho : 0 ≤ (pc1 : Int) + o) (hpY : ((pc1 : Int) + o).toNat = pcY) (hpN : pc1 + 3 = pcN) (kY : ¬ (x = y) → OwnWP p e below s h0 ws Q CK SK T (mkF m pcY Ls S)) (kN : x = y → OwnWP p e below s h0 ws Q CK SK T (mkF m pcN Ls S)) : OwnWP p e below s h0 ws Q CK SK T (mkF m pc Ls (.long y :: .long x :: S)) := by
  have A' := A; obtain ⟨locs, X, -⟩ := A'; subst hp1
  refine ow_st (fun _ k => XS.lcmp X.here C.1 rfl (hb C.2.2.2.1 hd) rfl k) ?_
  show OwnWP p e below s h0 ws Q CK SK T (mkF m (pc + 1) Ls (.int (lcmpW x y) :: S))
  exact ow_if_ne C A hd1 ho hpY hpN (fun q => kY (fun z => q ((lw_eq x y).mpr z))) (fun q => kN ((lw_eq x y).mp q))
theorem ow_ifnonnullYes (C : OwnCtx p s m meth c Z a0 tw y0 bytes ml ret) (A : OwnPos p l e R s m args below meth c h0 ws T h ck sk) {o : Int} {b : Addr} (hd : decode bytes pc = .ok (.ifnonnull o, 3)) (ho : 0 ≤ (pc : Int) + o) (hp : ((pc : Int) + o).toNat = pc') (k : OwnWP p e below s h0 ws Q CK SK T (mkF m pc' Ls S)) : OwnWP p e below s h0 ws Q CK SK T (mkF m pc Ls (.ref b :: S)) := by
  obtain ⟨locs, X, -⟩ := A
  exact ow_st (fun _ k => XS.ifnonnullYes X.here C.1 rfl (pc0 := pc) (pc' := pc') rfl (hb C.2.2.2.1 hd) rfl ho hp k) k
theorem ow_ifnonnullNo (C : OwnCtx p s m meth c Z a0 tw y0 bytes ml ret) (A : OwnPos p l e R s m args below meth c h0 ws T h ck sk) {o : Int} (hd : decode bytes pc = .ok (.ifnonnull o, 3)) (hp : pc + 3 = pc') (k : OwnWP p e below s h0 ws Q CK SK T (mkF m pc' Ls S)) : OwnWP p e below s h0 ws Q CK SK T (mkF m pc Ls (.null :: S)) := by
  obtain ⟨locs, X, -⟩ := A; subst hp
  exact ow_st (fun _ k => XS.ifnonnullNo X.here C.1 rfl (hb C.2.2.2.1 hd) rfl k) k
theorem ow_ldcInt (C : OwnCtx p s m meth c Z a0 tw y0 bytes ml ret) (A : OwnPos p l e R s m args below meth c h0 ws T h ck sk) {i : Nat} {v : Int32} (w : Jvm.Cond.constant y0.cls i v ∈ tw) (hd : decode bytes pc = .ok (.ldc i, 2)) (hp : pc + 2 = pc') (k : OwnWP p e below s h0 ws Q CK SK T (mkF m pc' Ls (.int v :: S))) : OwnWP p e below s h0 ws Q CK SK T (mkF m pc Ls S) := by
  obtain ⟨locs, X, -⟩ := A; subst hp
  exact ow_st (X.ldcInt C.1 C.2.2.2.2.2.1 (mvT C.2.1 (C.2.2.1 _ w)) (g := mkF m pc Ls S) rfl (hb C.2.2.2.1 hd)) k
theorem ow_ldc2 (C : OwnCtx p s m meth c Z a0 tw y0 bytes ml ret) (A : OwnPos p l e R s m args below meth c h0 ws T h ck sk) {i : Nat} {v : Int64} (w : Jvm.Cond.constantLong y0.cls i v ∈ tw) (hd : decode bytes pc = .ok (.ldc2_w i, 3)) (hp : pc + 3 = pc') (k : OwnWP p e below s h0 ws Q CK SK T (mkF m pc' Ls (.long v :: S))) : OwnWP p e below s h0 ws Q CK SK T (mkF m pc Ls S) := by
  obtain ⟨locs, X, -⟩ := A; subst hp
  exact ow_st (X.ldc2Long C.1 C.2.2.2.2.2.1 (mvT C.2.1 (C.2.2.1 _ w)) (g := mkF m pc Ls S) rfl (hb C.2.2.2.1 hd)) k
theorem ow_getF (C : OwnCtx p s m meth c Z a0 tw y0 bytes ml ret) (A : OwnPos p l e R s m args below meth c h0 ws T h ck sk) {i : Nat} {R0 O n d : String} {a : Addr} {v : Value} (w : Jvm.Cond.fieldLink y0.cls i R0 n d ∈ tw) (via : Via Z R0 O n d) (F : Fld Z h a O n d v) (hd : decode bytes pc = .ok (.getfield i, 3)) (hp : pc + 3 = pc') (k : ∀ T', OwnPos p l e R s m args below meth c h0 ws T' h ck sk → OwnWP p e below s h0 ws Q CK SK T' (mkF m pc' Ls (v :: S))) : OwnWP p e below s h0 ws Q CK SK T (mkF m pc Ls (.ref a :: S)) := by
  obtain ⟨locs, X, e1, N, K⟩ := A; subst hp
  obtain ⟨T', X', e', st⟩ := getF X C.1 C.2.1 C.2.2.2.2.2.1 (host := "") (Or.inl (C.2.2.1 _ w)) via e1 F (g := mkF m pc Ls (.ref a :: S)) rfl rfl (hb C.2.2.2.1 hd)
  exact ow_st st (k T' ⟨locs, X', e', N, K⟩)
theorem ow_putF (C : OwnCtx p s m meth c Z a0 tw y0 bytes ml ret) (A : OwnPos p l e R s m args below meth c h0 ws T h ck sk) {i kk : Nat} {R0 O n d D : String} {a : Addr} {v old : Value} {ty : FieldType} (w : Jvm.Cond.fieldLink y0.cls i R0 n d ∈ tw) (via : Via Z R0 O n d) (F : Fld Z h a O n d old) (E : Exa Z h a D) (wl : Jvm.Cond.lays D O n d ∈ tw) (wi : Jvm.Cond.instantiable D kk ∈ tw) (hty : parseFieldDescriptor d = some ty) (hn : narrow ty v = v) (hf : fits ty v = true) (q : a ∈ ws ∨ h0.size ≤ a) (hd : decode bytes pc = .ok (.putfield i, 3)) (hp : pc + 3 = pc') (k : ∀ T' h', Wr h h' a (slotOf Z O n d) v → OwnPos p l e R s m args below meth c h0 ws T' h' ck sk → OwnWP p e below s h0 ws Q CK SK T' (mkF m pc' Ls S)) : OwnWP p e below s h0 ws Q CK SK T (mkF m pc Ls (v :: .ref a :: S)) := by
  obtain ⟨locs, X, e1, N, K⟩ := A; subst hp
  obtain ⟨T', h', X', e', W', st⟩ := putF X C.1 C.2.1 C.2.2.2.2.2.1 (host := "") (Or.inl (C.2.2.1 _ w)) via e1 F E (Or.inl (C.2.2.1 _ wl)) (C.2.2.1 _ wi) hty hn hf (g := mkF m pc Ls (v :: .ref a :: S)) rfl rfl (hb C.2.2.2.1 hd)
  exact ow_st st (k T' h' W' ⟨_, X', e', fun y hy => (List.mem_append.mp hy).elim (N y) fun z => by cases List.mem_singleton.mp z; exact q, K.wr W' q⟩)
theorem ow_putFin (C : OwnCtx p s m meth c Z a0 tw y0 bytes ml ret) (A : OwnPos p l e R s m args below meth c h0 ws T h ck sk) {i kk : Nat} {R0 O n d D : String} {a : Addr} {v old : Value} {ty : FieldType} (w : Jvm.Cond.fieldLink y0.cls i R0 n d ∈ tw) (via : Via Z R0 O n d) (F : Fld Z h a O n d old) (E : Exa Z h a D) (wl : Jvm.Cond.laysFinal D O n d ∈ tw) (hO : y0.cls = O) (hi : y0.name = "<init>") (wi : Jvm.Cond.instantiable D kk ∈ tw) (hty : parseFieldDescriptor d = some ty) (hn : narrow ty v = v) (hf : fits ty v = true) (q : a ∈ ws ∨ h0.size ≤ a) (hd : decode bytes pc = .ok (.putfield i, 3)) (hp : pc + 3 = pc') (k : ∀ T' h', Wr h h' a (slotOf Z O n d) v → OwnPos p l e R s m args below meth c h0 ws T' h' ck sk → OwnWP p e below s h0 ws Q CK SK T' (mkF m pc' Ls S)) : OwnWP p e below s h0 ws Q CK SK T (mkF m pc Ls (v :: .ref a :: S)) := by
  obtain ⟨locs, X, e1, N, K⟩ := A; subst hp
  obtain ⟨T', h', X', e', W', st⟩ := putF X C.1 C.2.1 C.2.2.2.2.2.1 (host := "") (Or.inl (C.2.2.1 _ w)) via e1 F E (Or.inr ⟨C.2.2.1 _ wl, hO, C.2.2.2.2.2.2.1.trans hi⟩) (C.2.2.1 _ wi) hty hn hf (g := mkF m pc Ls (v :: .ref a :: S)) rfl rfl (hb C.2.2.2.1 hd)
  exact ow_st st (k T' h' W' ⟨_, X', e', fun y hy => (List.mem_append.mp hy).elim (N y) fun z => by cases List.mem_singleton.mp z; exact q, K.wr W' q⟩)
theorem ow_new (C : OwnCtx p s m meth c Z a0 tw y0 bytes ml ret) (A : OwnPos p l e R s m args below meth c h0 ws T h ck sk) {i n ck' sk' : Nat} {D : String} (w : Jvm.Cond.classLink y0.cls i D ∈ tw) (wi : Jvm.Cond.instantiable D n ∈ tw) (wz : Jvm.Cond.initialized D ∈ tw) (hd : decode bytes pc = .ok (.new i, 3)) (hp : pc + 3 = pc') (hck : ck + 1 = ck') (hsk : sk + n = sk') (hc : ck' ≤ R.cells) (hs : sk' ≤ R.slots)
    (k : ∀ T' h' b, b = h.size → Ext h h' → Exa Z h' b D → (∀ {O nm d : String} {ty : FieldType}, Laid Z a0 D O nm d → parseFieldDescriptor d = some ty → Fld Z h' b O nm d (defaultValue ty)) → OwnPos p l e R s m args below meth c h0 ws T' h' ck' sk' → OwnWP p e below s h0 ws Q CK SK T' (mkF m pc' Ls (.ref b :: S))) : OwnWP p e below s h0 ws Q CK SK T (mkF m pc Ls S) := by
  obtain ⟨locs, X, e1, N, K⟩ := A; subst hp hck hsk
  obtain ⟨T', h', X', e', E', A', D', -, st⟩ := newO X C.1 C.2.1 C.2.2.2.2.2.1 (C.2.2.1 _ w) (C.2.2.1 _ wi) (C.2.2.1 _ wz) e1 (g := mkF m pc Ls S) rfl (hb C.2.2.2.1 hd) hc hs
  exact ow_st st (k T' h' h.size rfl E' A' D' ⟨locs, X', e', N, K.ext E'⟩)
theorem ow_newA (C : OwnCtx p s m meth c Z a0 tw y0 bytes ml ret) (A : OwnPos p l e R s m args below meth c h0 ws T h ck sk) {aty : ArrayType} {ty : FieldType} {n : Int32} {cap ck' sk' : Nat} (hty : newarray.typeOf aty = ty) (w : Jvm.Cond.arrayClass ty ∈ tw) (hd : decode bytes pc = .ok (.newarray aty, 2)) (hp : pc + 2 = pc') (hn : ¬ n < 0) (hcap : n.toNatClampNeg ≤ cap) (hb8 : cap * 8 ≤ 536870912) (hck : ck + 1 = ck') (hsk : sk + cap = sk') (hc : ck' ≤ R.cells) (hs : sk' ≤ R.slots)
    (k : ∀ T' h' b kk, b = h.size → Ext h h' → Arv Z h' b kk ty n [] (defaultValue ty) → OwnPos p l e R s m args below meth c h0 ws T' h' ck' sk' → OwnWP p e below s h0 ws Q CK SK T' (mkF m pc' Ls (.ref b :: S))) : OwnWP p e below s h0 ws Q CK SK T (mkF m pc Ls (.int n :: S)) := by
  obtain ⟨locs, X, e1, N, K⟩ := A; subst hp hck hsk hty
  obtain ⟨T', h', kk, X', e', E', A', st⟩ := newP X C.1 C.2.1 (C.2.2.1 _ w) e1 (g := mkF m pc Ls (.int n :: S)) rfl (hb C.2.2.2.1 hd) rfl hn (cap := cap) hcap hb8 hc hs
  exact ow_st st (k T' h' h.size kk rfl E' (Arv.new A' hn) ⟨locs, X', e', N, K.ext E'⟩)
theorem ow_alen (C : OwnCtx p s m meth c Z a0 tw y0 bytes ml ret) (A : OwnPos p l e R s m args below meth c h0 ws T h ck sk) {a : Addr} {kk : ClassId} {ty : FieldType} {n : Int32} {vs : List Value} {dv : Value} (V : Arv Z h a kk ty n vs dv) (hd : decode bytes pc = .ok (.arraylength, 1)) (hp : pc + 1 = pc') (k : OwnWP p e below s h0 ws Q CK SK T (mkF m pc' Ls (.int n :: S))) : OwnWP p e below s h0 ws Q CK SK T (mkF m pc Ls (.ref a :: S)) := by
  obtain ⟨locs, X, rfl, -⟩ := A; subst hp
  obtain ⟨cl, Ar, -, S1, N1, -, -⟩ := V
  refine ow_st (fun t k => X.arraylength C.1 Ar.1 (State.isArrayOf_alike C.2.1.alike Ar.2.1) (g := mkF m pc Ls (.ref a :: S)) rfl rfl (hb C.2.2.2.1 hd) t k) ?_
  rw [len_of S1 N1]; exact k
theorem ow_iaload (C : OwnCtx p s m meth c Z a0 tw y0 bytes ml ret) (A : OwnPos p l e R s m args below meth c h0 ws T h ck sk) {a : Addr} {kk : ClassId} {n j : Int32} {vs : List Value} {dv v : Value} (V : Arv Z h a kk .int n vs dv) (hj : ¬ j < 0 ∧ j < n) (hv : vs.getD j.toNatClampNeg dv = v) (hd : decode bytes pc = .ok (.iaload, 1)) (hp : pc + 1 = pc') (k : OwnWP p e below s h0 ws Q CK SK T (mkF m pc' Ls (v :: S))) : OwnWP p e below s h0 ws Q CK SK T (mkF m pc Ls (.int j :: .ref a :: S)) := by
  obtain ⟨locs, X, rfl, -⟩ := A; subst hp
  obtain ⟨cl, Ar, -, S1, N1, H1, -⟩ := V
  have hin := inb_of S1 hj
  exact ow_st (fun t k => X.iaload C.1 (j := j) (v := v) Ar.1 (State.isArrayOf_alike C.2.1.alike Ar.2.1) Ar.2.2 hin (H1.at hin hv) (g := mkF m pc Ls (.int j :: .ref a :: S)) rfl rfl (hb C.2.2.2.1 hd) t k) k
theorem ow_laload (C : OwnCtx p s m meth c Z a0 tw y0 bytes ml ret) (A : OwnPos p l e R s m args below meth c h0 ws T h ck sk) {a : Addr} {kk : ClassId} {n j : Int32} {vs : List Value} {dv v : Value} (V : Arv Z h a kk .long n vs dv) (hj : ¬ j < 0 ∧ j < n) (hv : vs.getD j.toNatClampNeg dv = v) (hd : decode bytes pc = .ok (.laload, 1)) (hp : pc + 1 = pc') (k : OwnWP p e below s h0 ws Q CK SK T (mkF m pc' Ls (v :: S))) : OwnWP p e below s h0 ws Q CK SK T (mkF m pc Ls (.int j :: .ref a :: S)) := by
  obtain ⟨locs, X, rfl, -⟩ := A; subst hp
  obtain ⟨cl, Ar, -, S1, N1, H1, -⟩ := V
  have hin := inb_of S1 hj
  exact ow_st (fun t k => X.laload C.1 (j := j) (v := v) Ar.1 (State.isArrayOf_alike C.2.1.alike Ar.2.1) Ar.2.2 hin (H1.at hin hv) (g := mkF m pc Ls (.int j :: .ref a :: S)) rfl rfl (hb C.2.2.2.1 hd) t k) k
theorem ow_baload (C : OwnCtx p s m meth c Z a0 tw y0 bytes ml ret) (A : OwnPos p l e R s m args below meth c h0 ws T h ck sk) {a : Addr} {kk : ClassId} {n j : Int32} {vs : List Value} {dv v : Value} (V : Arv Z h a kk .byte n vs dv) (hj : ¬ j < 0 ∧ j < n) (hv : vs.getD j.toNatClampNeg dv = v) (hd : decode bytes pc = .ok (.baload, 1)) (hp : pc + 1 = pc') (k : OwnWP p e below s h0 ws Q CK SK T (mkF m pc' Ls (v :: S))) : OwnWP p e below s h0 ws Q CK SK T (mkF m pc Ls (.int j :: .ref a :: S)) := by
  obtain ⟨locs, X, rfl, -⟩ := A; subst hp
  obtain ⟨cl, Ar, -, S1, N1, H1, -⟩ := V
  have hin := inb_of S1 hj
  exact ow_st (fun t k => X.baloadBytes C.1 (j := j) (v := v) Ar.1 (State.isArrayOf_alike C.2.1.alike Ar.2.1) Ar.2.2 hin (H1.at hin hv) (g := mkF m pc Ls (.int j :: .ref a :: S)) rfl rfl (hb C.2.2.2.1 hd) t k) k
theorem ow_iastore (C : OwnCtx p s m meth c Z a0 tw y0 bytes ml ret) (A : OwnPos p l e R s m args below meth c h0 ws T h ck sk) {a : Addr} {kk : ClassId} {n j : Int32} {x : Int32} {vs : List Value} {dv : Value} {i : Nat} (V : Arv Z h a kk .int n vs dv) (hj : ¬ j < 0 ∧ j < n) (hi : j.toNatClampNeg = i) (hl : i < vs.length) (q : a ∈ ws ∨ h0.size ≤ a) (hd : decode bytes pc = .ok (.iastore, 1)) (hp : pc + 1 = pc')
    (k : ∀ T' h', Wr h h' a j.toNatClampNeg (.int x) → Arv Z h' a kk .int n (vs.set i (.int x)) dv → OwnPos p l e R s m args below meth c h0 ws T' h' ck sk → OwnWP p e below s h0 ws Q CK SK T' (mkF m pc' Ls S)) : OwnWP p e below s h0 ws Q CK SK T (mkF m pc Ls (.int x :: .int j :: .ref a :: S)) := by
  obtain ⟨locs, X, e1, N, K⟩ := A; subst hp
  obtain ⟨cl, Ar, q1, S1, N1, H1, G1⟩ := V
  have hin := inb_of S1 hj
  obtain ⟨T', h', X', e', W', st⟩ := stI X C.1 C.2.1 e1 Ar (j := j) hin (g := mkF m pc Ls (.int x :: .int j :: .ref a :: S)) rfl rfl (hb C.2.2.2.1 hd)
  exact ow_st st (k T' h' W' (Arv.set Ar q1 S1 N1 H1 G1 rfl W' i hi hl) ⟨_, X', e', fun y hy => (List.mem_append.mp hy).elim (N y) fun z => by cases List.mem_singleton.mp z; exact q, K.wr W' q⟩)
theorem ow_lastore (C : OwnCtx p s m meth c Z a0 tw y0 bytes ml ret) (A : OwnPos p l e R s m args below meth c h0 ws T h ck sk) {a : Addr} {kk : ClassId} {n j : Int32} {x : Int64} {vs : List Value} {dv : Value} {i : Nat} (V : Arv Z h a kk .long n vs dv) (hj : ¬ j < 0 ∧ j < n) (hi : j.toNatClampNeg = i) (hl : i < vs.length) (q : a ∈ ws ∨ h0.size ≤ a) (hd : decode bytes pc = .ok (.lastore, 1)) (hp : pc + 1 = pc')
    (k : ∀ T' h', Wr h h' a j.toNatClampNeg (.long x) → Arv Z h' a kk .long n (vs.set i (.long x)) dv → OwnPos p l e R s m args below meth c h0 ws T' h' ck sk → OwnWP p e below s h0 ws Q CK SK T' (mkF m pc' Ls S)) : OwnWP p e below s h0 ws Q CK SK T (mkF m pc Ls (.long x :: .int j :: .ref a :: S)) := by
  obtain ⟨locs, X, e1, N, K⟩ := A; subst hp
  obtain ⟨cl, Ar, q1, S1, N1, H1, G1⟩ := V
  have hin := inb_of S1 hj
  obtain ⟨T', h', X', e', W', st⟩ := stJ X C.1 C.2.1 e1 Ar (j := j) hin (g := mkF m pc Ls (.long x :: .int j :: .ref a :: S)) rfl rfl (hb C.2.2.2.1 hd)
  exact ow_st st (k T' h' W' (Arv.set Ar q1 S1 N1 H1 G1 rfl W' i hi hl) ⟨_, X', e', fun y hy => (List.mem_append.mp hy).elim (N y) fun z => by cases List.mem_singleton.mp z; exact q, K.wr W' q⟩)
theorem ow_bastore (C : OwnCtx p s m meth c Z a0 tw y0 bytes ml ret) (A : OwnPos p l e R s m args below meth c h0 ws T h ck sk) {a : Addr} {kk : ClassId} {n j : Int32} {x : Int32} {vs : List Value} {dv : Value} {i : Nat} (V : Arv Z h a kk .byte n vs dv) (hj : ¬ j < 0 ∧ j < n) (hi : j.toNatClampNeg = i) (hl : i < vs.length) (q : a ∈ ws ∨ h0.size ≤ a) (hd : decode bytes pc = .ok (.bastore, 1)) (hp : pc + 1 = pc')
    (k : ∀ T' h', Wr h h' a j.toNatClampNeg (.int x.toInt8.toInt32) → Arv Z h' a kk .byte n (vs.set i (.int x.toInt8.toInt32)) dv → OwnPos p l e R s m args below meth c h0 ws T' h' ck sk → OwnWP p e below s h0 ws Q CK SK T' (mkF m pc' Ls S)) : OwnWP p e below s h0 ws Q CK SK T (mkF m pc Ls (.int x :: .int j :: .ref a :: S)) := by
  obtain ⟨locs, X, e1, N, K⟩ := A; subst hp
  obtain ⟨cl, Ar, q1, S1, N1, H1, G1⟩ := V
  have hin := inb_of S1 hj
  obtain ⟨T', h', X', e', W', st⟩ := stB X C.1 C.2.1 e1 Ar (j := j) hin (g := mkF m pc Ls (.int x :: .int j :: .ref a :: S)) rfl rfl (hb C.2.2.2.1 hd)
  exact ow_st st (k T' h' W' (Arv.set Ar q1 S1 N1 H1 G1 (fits_nar_byte _) W' i hi hl) ⟨_, X', e', fun y hy => (List.mem_append.mp hy).elim (N y) fun z => by cases List.mem_singleton.mp z; exact q, K.wr W' q⟩)
theorem ow_initO (C : OwnCtx p s m meth c Z a0 tw y0 bytes ml ret) (A : OwnPos p l e R s m args below meth c h0 ws T h ck sk) {i W : Nat} {a : Addr} (w1 : Jvm.Cond.methodLink y0.cls i Lib.objectInit ∈ tw) (w2 : Jvm.Cond.instanceMethod Lib.objectInit ∈ tw) (w3 : Jvm.Cond.code Lib.objectInit ⟨#[0xb1]⟩ 1 none ∈ tw) (hsz : Ls.size = ml) (hd : decode bytes pc = .ok (.invokespecial i, 3)) (hp : pc + 3 = pc') (hf : 1 ≤ R.frames) (hW : 2 * 0 + (S.map fun v => v.category).sum ≤ W) (hl : W + 12 ≤ R.locals) (k : ∀ T', OwnPos p l e R s m args below meth c h0 ws T' h ck sk → OwnWP p e below s h0 ws Q CK SK T' (mkF m pc' Ls S)) : OwnWP p e below s h0 ws Q CK SK T (mkF m pc Ls (.ref a :: S)) := by
  obtain ⟨locs, X, e1, N, K⟩ := A; subst hp
  obtain ⟨T', X', e', st⟩ := initO X C.1 C.2.1 C.2.2.2.2.2.1 (C.2.2.1 _ w1) (C.2.2.1 _ w2) (C.2.2.1 _ w3) e1 (g := mkF m pc Ls (.ref a :: S)) rfl (hsz.trans C.2.2.2.2.1.symm) rfl (hb C.2.2.2.1 hd) hf (W := W) hW hl
  exact ow_st st (k T' ⟨locs, X', e', N, K⟩)
theorem ow_callS (C : OwnCtx p s m meth c Z a0 tw y0 bytes ml ret) (A : OwnPos p l e R s m args below meth c h0 ws T h ck sk) {rm : Room} {cb : ByteArray} {cm : Nat} {cr : Option FieldType} {ws' : List Addr} {Q' : Option Value → Heap → Prop} {y : MethodName} {i W ck' sk' : Nat} {argsL : List Value} (hM : OwnCtr l Z y cb cm cr rm argsL.toArray h ws' Q' []) (w1 : Jvm.Cond.methodLink y0.cls i y ∈ tw) (w2 : Jvm.Cond.static y ∈ tw) (w3 : Jvm.Cond.initialized y.cls ∈ tw) (w4 : Jvm.Cond.code y cb cm cr ∈ tw) (hy : y.cls ≠ "java/lang/invoke/MethodHandle" ∧ y.cls ≠ "java/lang/invoke/VarHandle") (hq : ∀ x ∈ ws', x ∈ ws ∨ h0.size ≤ x) (hfr : rm.frames + 1 ≤ R.frames) (hlo : W + (cm + 11) + rm.locals ≤ R.locals) (hck : ck + rm.cells = ck') (hsk : sk + rm.slots = sk') (hc : ck' ≤ R.cells) (hs : sk' ≤ R.slots) (hsz : Ls.size = ml) (hlen : ∀ sig, parseMethodDescriptor y.desc = some sig → argsL.length = sig.parameters.length) {st0 : List Value} (hst : st0 = argsL.reverse ++ S) (hW : 2 * 0 + (S.map fun v => v.category).sum ≤ W) (hd : decode bytes pc = .ok (.invokestatic i, 3)) (hp : pc + 3 = pc') (k : ∀ T' v, Keep h T'.heap ws' → Q' v T'.heap → OwnPos p l e R s m args below meth c h0 ws T' T'.heap ck' sk' → OwnWP p e below s h0 ws Q CK SK T' (mkF m pc' Ls (v.toList ++ S))) : OwnWP p e below s h0 ws Q CK SK T (mkF m pc Ls st0) := by
  obtain ⟨locs, X, e1, N, K⟩ := A; subst hp hck hsk hst
  obtain ⟨v, _, ⟨T', L', k', n'⟩, -, X', ⟨Lc, ⟨hN, hKe, hQ⟩, hl, hc', hs'⟩, st⟩ := Jvm.LawKit.callS X C.1 (y := y) C.2.2.2.2.2.1 (mvT C.2.1 (C.2.2.1 _ w1)) (mvT C.2.1 (C.2.2.1 _ w2)) (mvT C.2.1 (C.2.2.1 _ w3)) (mvT C.2.1 (C.2.2.1 _ w4)) hy (backOf (W := W) (Q := fun v hh L => ((∀ y ∈ L, y.base ∈ ws' ∨ h.size ≤ y.base) ∧ Keep h hh ws' ∧ Q' v hh)) hM C.2.1 (C.2.2.1 _ w4) (C.2.2.1 _ w3) hfr hlo) (g := mkF m pc Ls (argsL.reverse ++ S)) rfl (hsz.trans C.2.2.2.2.1.symm) (argsL := argsL) (rest := S) hlen rfl hW (hb C.2.2.2.1 hd) (fun _ _ => ⟨rfl, e1, hc, hs⟩)
  dsimp only [Pt.U, Pt.locs, Pt.cells, Pt.slots] at X' hl hc' hs' st hN hKe hQ
  subst hl hc' hs'
  exact ow_st st (k T' v hKe hQ ⟨_, X', rfl, fun y hy => (List.mem_append.mp hy).elim (N y) fun z => (hN y z).elim (fun u => hq _ u) fun u => Or.inr (Nat.le_trans K.1 u), K.trans hKe hq⟩)
theorem ow_callI (C : OwnCtx p s m meth c Z a0 tw y0 bytes ml ret) (A : OwnPos p l e R s m args below meth c h0 ws T h ck sk) {rm : Room} {cb : ByteArray} {cm : Nat} {ws' : List Addr} {Q' : Option Value → Heap → Prop} {y : MethodName} {i W ck' sk' : Nat} {argsL : List Value} {a : Addr} (hM : OwnCtr l Z y cb cm none rm (.ref a :: argsL).toArray h ws' Q' []) (hy1 : y.name = "<init>") (w1 : Jvm.Cond.methodLink y0.cls i y ∈ tw) (w2 : Jvm.Cond.instanceMethod y ∈ tw) (w3 : Jvm.Cond.initialized y.cls ∈ tw) (w4 : Jvm.Cond.code y cb cm none ∈ tw) (hy : y.cls ≠ "java/lang/invoke/MethodHandle" ∧ y.cls ≠ "java/lang/invoke/VarHandle") (hq : ∀ x ∈ ws', x ∈ ws ∨ h0.size ≤ x) (hfr : rm.frames + 1 ≤ R.frames) (hlo : W + (cm + 11) + rm.locals ≤ R.locals) (hck : ck + rm.cells = ck') (hsk : sk + rm.slots = sk') (hc : ck' ≤ R.cells) (hs : sk' ≤ R.slots) (hsz : Ls.size = ml) (hlen : ∀ sig, parseMethodDescriptor y.desc = some sig → argsL.length = sig.parameters.length) {st0 : List Value} (hst : st0 = argsL.reverse ++ .ref a :: S) (hW : 2 * 0 + (S.map fun v => v.category).sum ≤ W) (hd : decode bytes pc = .ok (.invokespecial i, 3)) (hp : pc + 3 = pc') (k : ∀ T' v, Keep h T'.heap ws' → Q' v T'.heap → OwnPos p l e R s m args below meth c h0 ws T' T'.heap ck' sk' → OwnWP p e below s h0 ws Q CK SK T' (mkF m pc' Ls (v.toList ++ S))) : OwnWP p e below s h0 ws Q CK SK T (mkF m pc Ls st0) := by
  obtain ⟨locs, X, e1, N, K⟩ := A; subst hp hck hsk hst
  obtain ⟨v, _, ⟨T', L', k', n'⟩, -, X', ⟨Lc, ⟨hN, hKe, hQ⟩, hl, hc', hs'⟩, st⟩ := X.specialBack C.1 (y := y) hy1 C.2.2.2.2.2.1 (mvT C.2.1 (C.2.2.1 _ w1)) (mvT C.2.1 (C.2.2.1 _ w2)) (mvT C.2.1 (C.2.2.1 _ w4)) hy (backOf (W := W) (Q := fun v hh L => ((∀ y ∈ L, y.base ∈ ws' ∨ h.size ≤ y.base) ∧ Keep h hh ws' ∧ Q' v hh)) hM C.2.1 (C.2.2.1 _ w4) (C.2.2.1 _ w3) hfr hlo) (g := mkF m pc Ls (argsL.reverse ++ .ref a :: S)) rfl (hsz.trans C.2.2.2.2.1.symm) (Steps.refl _) (a := a) (argsL := argsL) (rest := S) hlen rfl hW (hb C.2.2.2.1 hd) (fun _ _ => ⟨rfl, e1, hc, hs⟩)
  dsimp only [Pt.U, Pt.locs, Pt.cells, Pt.slots] at X' hl hc' hs' st hN hKe hQ
  subst hl hc' hs'
  exact ow_stT st (k T' v hKe hQ ⟨_, X', rfl, fun y hy => (List.mem_append.mp hy).elim (N y) fun z => (hN y z).elim (fun u => hq _ u) fun u => Or.inr (Nat.le_trans K.1 u), K.trans hKe hq⟩)
theorem ow_callV (C : OwnCtx p s m meth c Z a0 tw y0 bytes ml ret) (A : OwnPos p l e R s m args below meth c h0 ws T h ck sk) {rm : Room} {cb : ByteArray} {cm : Nat} {cr : Option FieldType} {ws' : List Addr} {Q' : Option Value → Heap → Prop} {y : MethodName} {i W ck' sk' : Nat} {argsL : List Value} {z : MethodName} {D : String} {a : Addr} (E : Exa Z h a D) (hM : OwnCtr l Z z cb cm cr rm (.ref a :: argsL).toArray h ws' Q' []) (w1 : Jvm.Cond.methodLink y0.cls i y ∈ tw) (w5 : Jvm.Cond.declares y ∈ tw) (hnf : ∀ s : State, ∀ args : Array Value, Z.Warmed39 s.vm → NotFace s y) (w6 : Jvm.Cond.selects D y z ∈ tw) (w2 : Jvm.Cond.instanceMethod z ∈ tw) (w3 : Jvm.Cond.initialized z.cls ∈ tw) (w4 : Jvm.Cond.code z cb cm cr ∈ tw) (hy : y.cls ≠ "java/lang/invoke/MethodHandle" ∧ y.cls ≠ "java/lang/invoke/VarHandle") (hq : ∀ x ∈ ws', x ∈ ws ∨ h0.size ≤ x) (hfr : rm.frames + 1 ≤ R.frames) (hlo : W + (cm + 11) + rm.locals ≤ R.locals) (hck : ck + rm.cells = ck') (hsk : sk + rm.slots = sk') (hc : ck' ≤ R.cells) (hs : sk' ≤ R.slots) (hsz : Ls.size = ml) (hlen : ∀ sig, parseMethodDescriptor y.desc = some sig → argsL.length = sig.parameters.length) {st0 : List Value} (hst : st0 = argsL.reverse ++ .ref a :: S) (hW : 2 * 0 + (S.map fun v => v.category).sum ≤ W) (hd : decode bytes pc = .ok (.invokevirtual i, 3)) (hp : pc + 3 = pc') (k : ∀ T' v, Keep h T'.heap ws' → Q' v T'.heap → OwnPos p l e R s m args below meth c h0 ws T' T'.heap ck' sk' → OwnWP p e below s h0 ws Q CK SK T' (mkF m pc' Ls (v.toList ++ S))) : OwnWP p e below s h0 ws Q CK SK T (mkF m pc Ls st0) := by
  obtain ⟨locs, X, e1, N, K⟩ := A; subst hp hck hsk hst
  obtain ⟨cq, kq, qa, qb, qc⟩ := isOf C.2.1 e1 E
  obtain ⟨v, _, ⟨T', L', k', n'⟩, -, X', ⟨Lc, ⟨hN, hKe, hQ⟩, hl, hc', hs'⟩, st⟩ := X.virtualBack C.1 (y := y) (z := z) C.2.2.2.2.2.1 (mvT C.2.1 (C.2.2.1 _ w1)) (mvT C.2.1 (C.2.2.1 _ w5)) (hnf s #[] C.2.1) (mvT C.2.1 (C.2.2.1 _ w6)) (mvT C.2.1 (C.2.2.1 _ w2)) hy (backOf (W := W) (Q := fun v hh L => ((∀ y ∈ L, y.base ∈ ws' ∨ h.size ≤ y.base) ∧ Keep h hh ws' ∧ Q' v hh)) hM C.2.1 (C.2.2.1 _ w4) (C.2.2.1 _ w3) hfr hlo) qa qc (g := mkF m pc Ls (argsL.reverse ++ .ref a :: S)) rfl (hsz.trans C.2.2.2.2.1.symm) (Steps.refl _) (argsL := argsL) (rest := S) hlen rfl hW (hb C.2.2.2.1 hd) (fun _ _ => ⟨rfl, e1, hc, hs⟩)
  dsimp only [Pt.U, Pt.locs, Pt.cells, Pt.slots] at X' hl hc' hs' st hN hKe hQ
  subst hl hc' hs'
  exact ow_stT st (k T' v hKe hQ ⟨_, X', rfl, fun y hy => (List.mem_append.mp hy).elim (N y) fun z => (hN y z).elim (fun u => hq _ u) fun u => Or.inr (Nat.le_trans K.1 u), K.trans hKe hq⟩)
theorem ow_selP {y : MethodName} {n : Nat} (hy : y.cls ≠ "java/lang/invoke/MethodHandle" ∧ y.cls ≠ "java/lang/invoke/VarHandle") (hins : (Jvm.Cond.instantiable y.cls n).before args s = true) (hpriv : (Jvm.Cond.privateMethod y).before args s = true) (hinst : (Jvm.Cond.instanceMethod y).before args s = true) :
    (Jvm.Cond.selects y.cls y y).before args s = true := by
  obtain ⟨c, k, hc, hk, -, hniab, -, -⟩ := Cond.instantiable_spec hins
  have hni : k.isInterface = false := (Bool.or_eq_false_iff.mp hniab).1
  obtain ⟨mk, methM, hnamed, hmethM, -, -⟩ := Cond.instanceMethod_spec hinst
  have hfound : s.methodFound? y.cls y.name y.desc = some mk := State.methodFound?_of_named hnamed hy
  have hcls : mk.cls = c := Option.some.inj ((findClass_of_methodNamed hnamed).symm.trans hc)
  have hsel : selectMethod {} s.vm c mk = .method mk := selectMethod_private hmethM (Cond.privateMethod_at hpriv mk methM hnamed hmethM)
  simp only [Cond.before, Cond.holds, Cond.value, hc, hfound, hnamed, hsel, hcls, hk]
  simp; exact hni
theorem ow_callP (C : OwnCtx p s m meth c Z a0 tw y0 bytes ml ret) (A : OwnPos p l e R s m args below meth c h0 ws T h ck sk) {rm : Room} {cb : ByteArray} {cm : Nat} {cr : Option FieldType} {ws' : List Addr} {Q' : Option Value → Heap → Prop} {y : MethodName} {i W ck' sk' : Nat} {argsL : List Value} {D : String} {a : Addr} (E : Exa Z h a D) (hM : OwnCtr l Z y cb cm cr rm (.ref a :: argsL).toArray h ws' Q' []) (w1 : Jvm.Cond.methodLink y0.cls i y ∈ tw) (w5 : Jvm.Cond.privateMethod y ∈ tw) {ni : Nat} (w6 : Jvm.Cond.instantiable y.cls ni ∈ tw) (w2 : Jvm.Cond.instanceMethod y ∈ tw) (w3 : Jvm.Cond.initialized y.cls ∈ tw) (w4 : Jvm.Cond.code y cb cm cr ∈ tw) (hy : y.cls ≠ "java/lang/invoke/MethodHandle" ∧ y.cls ≠ "java/lang/invoke/VarHandle") (hq : ∀ x ∈ ws', x ∈ ws ∨ h0.size ≤ x) (hfr : rm.frames + 1 ≤ R.frames) (hlo : W + (cm + 11) + rm.locals ≤ R.locals) (hck : ck + rm.cells = ck') (hsk : sk + rm.slots = sk') (hc : ck' ≤ R.cells) (hs : sk' ≤ R.slots) (hsz : Ls.size = ml) (hlen : ∀ sig, parseMethodDescriptor y.desc = some sig → argsL.length = sig.parameters.length) {st0 : List Value} (hst : st0 = argsL.reverse ++ .ref a :: S) (hW : 2 * 0 + (S.map fun v => v.category).sum ≤ W) (hd : decode bytes pc = .ok (.invokevirtual i, 3)) (hp : pc + 3 = pc') (k : ∀ T' v, Keep h T'.heap ws' → Q' v T'.heap → OwnPos p l e R s m args below meth c h0 ws T' T'.heap ck' sk' → OwnWP p e below s h0 ws Q CK SK T' (mkF m pc' Ls (v.toList ++ S))) : OwnWP p e below s h0 ws Q CK SK T (mkF m pc Ls st0) := by
  obtain ⟨locs, X, e1, N, K⟩ := A; subst hp hck hsk hst
  obtain ⟨cq, qa, qb⟩ := E.cell
  obtain ⟨v, _, ⟨T', L', k', n'⟩, -, X', ⟨Lc, ⟨hN, hKe, hQ⟩, hl, hc', hs'⟩, st⟩ := X.privateBack C.1 (y := y) C.2.2.2.2.2.1 (mvT C.2.1 (C.2.2.1 _ w1)) (mvT C.2.1 (C.2.2.1 _ w2)) (ow_selP hy (mvT C.2.1 (C.2.2.1 _ w6)) (mvP C.2.1 (C.2.2.1 _ w5)) (mvT C.2.1 (C.2.2.1 _ w2))) (Cond.privateMethod_at (mvP C.2.1 (C.2.2.1 _ w5) (args := #[]))) (mvT C.2.1 (C.2.2.1 _ w4)) hy (backOf (W := W) (Q := fun v hh L => ((∀ y ∈ L, y.base ∈ ws' ∨ h.size ≤ y.base) ∧ Keep h hh ws' ∧ Q' v hh)) hM C.2.1 (C.2.2.1 _ w4) (C.2.2.1 _ w3) hfr hlo) (g := mkF m pc Ls (argsL.reverse ++ .ref a :: S)) rfl (hsz.trans C.2.2.2.2.1.symm) (Steps.refl _) (a := a) (by rw [e1]; exact qa) qb (argsL := argsL) (rest := S) hlen rfl hW (hb C.2.2.2.1 hd) (fun _ _ => ⟨rfl, e1, hc, hs⟩)
  dsimp only [Pt.U, Pt.locs, Pt.cells, Pt.slots] at X' hl hc' hs' st hN hKe hQ
  subst hl hc' hs'
  exact ow_stT st (k T' v hKe hQ ⟨_, X', rfl, fun y hy => (List.mem_append.mp hy).elim (N y) fun z => (hN y z).elim (fun u => hq _ u) fun u => Or.inr (Nat.le_trans K.1 u), K.trans hKe hq⟩)
theorem ow_nf {y : MethodName} {D : String} (hw : ∀ d ∈ tw, d.before a0 Z = true) (w6 : Jvm.Cond.selects D y y ∈ tw) : ∀ s : State, ∀ args : Array Value, Z.Warmed39 s.vm → NotFace s y := fun s args hZ => notFace_of_selects (args := args) (mvT hZ (hw _ w6))
end Own
end Jvm.RoadKit
namespace Jvm.Pilot.@@N@@
open Jvm Jvm.ClassFile Sem Op Lib Jvm.Free Jvm.Stand Jvm.LawKit Jvm.RoadKit Bundle Jvm.Pilot.@@N@@.Jvm.D
theorem tw_0 : (Jvm.Cond.classLink "com/example/tahan/tahan/TallyWithdrawPinLaw" (7 : Nat) "com/example/tahan/tahan/WindowBucket$Tally") ∈ tables_1 := List.mem_of_getElem? (i := 0) rfl
theorem tw_1 : (Jvm.Cond.instantiable "com/example/tahan/tahan/WindowBucket$Tally" (4 : Nat)) ∈ tables_1 := List.mem_of_getElem? (i := 1) rfl
theorem tw_2 : (Jvm.Cond.initialized "com/example/tahan/tahan/WindowBucket$Tally") ∈ tables_1 := List.mem_of_getElem? (i := 2) rfl
theorem tw_3 : (Jvm.Cond.methodLink "com/example/tahan/tahan/TallyWithdrawPinLaw" (9 : Nat) ({ cls := "com/example/tahan/tahan/WindowBucket$Tally", name := "<init>", desc := "(J)V" } : Jvm.MethodName)) ∈ tables_1 := List.mem_of_getElem? (i := 3) rfl
theorem tw_4 : (Jvm.Cond.instanceMethod ({ cls := "com/example/tahan/tahan/WindowBucket$Tally", name := "<init>", desc := "(J)V" } : Jvm.MethodName)) ∈ tables_1 := List.mem_of_getElem? (i := 4) rfl
theorem tw_5 : (Jvm.Cond.code ({ cls := "com/example/tahan/tahan/WindowBucket$Tally", name := "<init>", desc := "(J)V" } : Jvm.MethodName) prog_87_method_1_code (3 : Nat) (Option.none : Option Jvm.ClassFile.FieldType)) ∈ tables_1 := List.mem_of_getElem? (i := 5) rfl
theorem tw_6 : (Jvm.Cond.methodLink "com/example/tahan/tahan/WindowBucket$Tally" (1 : Nat) ({ cls := "java/lang/Object", name := "<init>", desc := "()V" } : Jvm.MethodName)) ∈ tables_1 := List.mem_of_getElem? (i := 6) rfl
theorem tw_7 : (Jvm.Cond.instanceMethod ({ cls := "java/lang/Object", name := "<init>", desc := "()V" } : Jvm.MethodName)) ∈ tables_1 := List.mem_of_getElem? (i := 7) rfl
theorem tw_8 : (Jvm.Cond.code ({ cls := "java/lang/Object", name := "<init>", desc := "()V" } : Jvm.MethodName) object_method_1_code (1 : Nat) (Option.none : Option Jvm.ClassFile.FieldType)) ∈ tables_1 := List.mem_of_getElem? (i := 8) rfl
theorem tw_9 : (Jvm.Cond.fieldLink "com/example/tahan/tahan/WindowBucket$Tally" (7 : Nat) "com/example/tahan/tahan/WindowBucket$Tally" "start" "J") ∈ tables_1 := List.mem_of_getElem? (i := 9) rfl
theorem tw_10 : (Jvm.Cond.laysFinal "com/example/tahan/tahan/WindowBucket$Tally" "com/example/tahan/tahan/WindowBucket$Tally" "start" "J") ∈ tables_1 := List.mem_of_getElem? (i := 10) rfl
theorem tw_11 : (Jvm.Cond.methodLink "com/example/tahan/tahan/TallyWithdrawPinLaw" (12 : Nat) ({ cls := "com/example/tahan/tahan/WindowBucket$Tally", name := "withdraw", desc := "()V" } : Jvm.MethodName)) ∈ tables_1 := List.mem_of_getElem? (i := 11) rfl
theorem tw_12 : (Jvm.Cond.declares ({ cls := "com/example/tahan/tahan/WindowBucket$Tally", name := "withdraw", desc := "()V" } : Jvm.MethodName)) ∈ tables_1 := List.mem_of_getElem? (i := 12) rfl
theorem tw_13 : (Jvm.Cond.instanceMethod ({ cls := "com/example/tahan/tahan/WindowBucket$Tally", name := "withdraw", desc := "()V" } : Jvm.MethodName)) ∈ tables_1 := List.mem_of_getElem? (i := 13) rfl
theorem tw_14 : (Jvm.Cond.selects "com/example/tahan/tahan/WindowBucket$Tally" ({ cls := "com/example/tahan/tahan/WindowBucket$Tally", name := "withdraw", desc := "()V" } : Jvm.MethodName) ({ cls := "com/example/tahan/tahan/WindowBucket$Tally", name := "withdraw", desc := "()V" } : Jvm.MethodName)) ∈ tables_1 := List.mem_of_getElem? (i := 14) rfl
theorem tw_15 : (Jvm.Cond.code ({ cls := "com/example/tahan/tahan/WindowBucket$Tally", name := "withdraw", desc := "()V" } : Jvm.MethodName) prog_87_method_7_code (1 : Nat) (Option.none : Option Jvm.ClassFile.FieldType)) ∈ tables_1 := List.mem_of_getElem? (i := 15) rfl
theorem tw_16 : (Jvm.Cond.fieldLink "com/example/tahan/tahan/WindowBucket$Tally" (13 : Nat) "com/example/tahan/tahan/WindowBucket$Tally" "admitted" "J") ∈ tables_1 := List.mem_of_getElem? (i := 16) rfl
theorem tw_17 : (Jvm.Cond.lays "com/example/tahan/tahan/WindowBucket$Tally" "com/example/tahan/tahan/WindowBucket$Tally" "admitted" "J") ∈ tables_1 := List.mem_of_getElem? (i := 17) rfl
theorem tw_18 : (Jvm.Cond.fieldLink "com/example/tahan/tahan/WindowBucket$Tally" (16 : Nat) "com/example/tahan/tahan/WindowBucket$Tally" "blocked" "J") ∈ tables_1 := List.mem_of_getElem? (i := 18) rfl
theorem tw_19 : (Jvm.Cond.lays "com/example/tahan/tahan/WindowBucket$Tally" "com/example/tahan/tahan/WindowBucket$Tally" "blocked" "J") ∈ tables_1 := List.mem_of_getElem? (i := 19) rfl
theorem tw_20 : (Jvm.Cond.methodLink "com/example/tahan/tahan/TallyWithdrawPinLaw" (15 : Nat) ({ cls := "com/example/tahan/tahan/WindowBucket$Tally", name := "admitted", desc := "()J" } : Jvm.MethodName)) ∈ tables_1 := List.mem_of_getElem? (i := 20) rfl
theorem tw_21 : (Jvm.Cond.declares ({ cls := "com/example/tahan/tahan/WindowBucket$Tally", name := "admitted", desc := "()J" } : Jvm.MethodName)) ∈ tables_1 := List.mem_of_getElem? (i := 21) rfl
theorem tw_22 : (Jvm.Cond.instanceMethod ({ cls := "com/example/tahan/tahan/WindowBucket$Tally", name := "admitted", desc := "()J" } : Jvm.MethodName)) ∈ tables_1 := List.mem_of_getElem? (i := 22) rfl
theorem tw_23 : (Jvm.Cond.selects "com/example/tahan/tahan/WindowBucket$Tally" ({ cls := "com/example/tahan/tahan/WindowBucket$Tally", name := "admitted", desc := "()J" } : Jvm.MethodName) ({ cls := "com/example/tahan/tahan/WindowBucket$Tally", name := "admitted", desc := "()J" } : Jvm.MethodName)) ∈ tables_1 := List.mem_of_getElem? (i := 23) rfl
theorem tw_24 : (Jvm.Cond.code ({ cls := "com/example/tahan/tahan/WindowBucket$Tally", name := "admitted", desc := "()J" } : Jvm.MethodName) prog_87_method_3_code (1 : Nat) (Option.some Jvm.ClassFile.FieldType.long)) ∈ tables_1 := List.mem_of_getElem? (i := 24) rfl
theorem tw_25 : (Jvm.Cond.methodLink "com/example/tahan/tahan/TallyWithdrawPinLaw" (19 : Nat) ({ cls := "com/example/tahan/tahan/WindowBucket$Tally", name := "blocked", desc := "()J" } : Jvm.MethodName)) ∈ tables_1 := List.mem_of_getElem? (i := 25) rfl
theorem tw_26 : (Jvm.Cond.declares ({ cls := "com/example/tahan/tahan/WindowBucket$Tally", name := "blocked", desc := "()J" } : Jvm.MethodName)) ∈ tables_1 := List.mem_of_getElem? (i := 26) rfl
theorem tw_27 : (Jvm.Cond.instanceMethod ({ cls := "com/example/tahan/tahan/WindowBucket$Tally", name := "blocked", desc := "()J" } : Jvm.MethodName)) ∈ tables_1 := List.mem_of_getElem? (i := 27) rfl
theorem tw_28 : (Jvm.Cond.selects "com/example/tahan/tahan/WindowBucket$Tally" ({ cls := "com/example/tahan/tahan/WindowBucket$Tally", name := "blocked", desc := "()J" } : Jvm.MethodName) ({ cls := "com/example/tahan/tahan/WindowBucket$Tally", name := "blocked", desc := "()J" } : Jvm.MethodName)) ∈ tables_1 := List.mem_of_getElem? (i := 28) rfl
theorem tw_29 : (Jvm.Cond.code ({ cls := "com/example/tahan/tahan/WindowBucket$Tally", name := "blocked", desc := "()J" } : Jvm.MethodName) prog_87_method_4_code (1 : Nat) (Option.some Jvm.ClassFile.FieldType.long)) ∈ tables_1 := List.mem_of_getElem? (i := 29) rfl
theorem tw_30 : (Jvm.Cond.methodLink "com/example/tahan/tahan/TallyWithdrawPinLaw" (22 : Nat) ({ cls := "com/example/tahan/tahan/WindowBucket$Tally", name := "start", desc := "()J" } : Jvm.MethodName)) ∈ tables_1 := List.mem_of_getElem? (i := 30) rfl
theorem tw_31 : (Jvm.Cond.declares ({ cls := "com/example/tahan/tahan/WindowBucket$Tally", name := "start", desc := "()J" } : Jvm.MethodName)) ∈ tables_1 := List.mem_of_getElem? (i := 31) rfl
theorem tw_32 : (Jvm.Cond.instanceMethod ({ cls := "com/example/tahan/tahan/WindowBucket$Tally", name := "start", desc := "()J" } : Jvm.MethodName)) ∈ tables_1 := List.mem_of_getElem? (i := 32) rfl
theorem tw_33 : (Jvm.Cond.selects "com/example/tahan/tahan/WindowBucket$Tally" ({ cls := "com/example/tahan/tahan/WindowBucket$Tally", name := "start", desc := "()J" } : Jvm.MethodName) ({ cls := "com/example/tahan/tahan/WindowBucket$Tally", name := "start", desc := "()J" } : Jvm.MethodName)) ∈ tables_1 := List.mem_of_getElem? (i := 33) rfl
theorem tw_34 : (Jvm.Cond.code ({ cls := "com/example/tahan/tahan/WindowBucket$Tally", name := "start", desc := "()J" } : Jvm.MethodName) prog_87_method_2_code (1 : Nat) (Option.some Jvm.ClassFile.FieldType.long)) ∈ tables_1 := List.mem_of_getElem? (i := 34) rfl
theorem tw_35 : (Jvm.Cond.methodLink "com/example/tahan/tahan/TallyWithdrawPinLaw" (25 : Nat) ({ cls := "com/example/tahan/tahan/WindowBucket$Tally", name := "former", desc := "()Lcom/example/tahan/tahan/WindowBucket$Tally;" } : Jvm.MethodName)) ∈ tables_1 := List.mem_of_getElem? (i := 35) rfl
theorem tw_36 : (Jvm.Cond.declares ({ cls := "com/example/tahan/tahan/WindowBucket$Tally", name := "former", desc := "()Lcom/example/tahan/tahan/WindowBucket$Tally;" } : Jvm.MethodName)) ∈ tables_1 := List.mem_of_getElem? (i := 36) rfl
theorem tw_37 : (Jvm.Cond.instanceMethod ({ cls := "com/example/tahan/tahan/WindowBucket$Tally", name := "former", desc := "()Lcom/example/tahan/tahan/WindowBucket$Tally;" } : Jvm.MethodName)) ∈ tables_1 := List.mem_of_getElem? (i := 37) rfl
theorem tw_38 : (Jvm.Cond.selects "com/example/tahan/tahan/WindowBucket$Tally" ({ cls := "com/example/tahan/tahan/WindowBucket$Tally", name := "former", desc := "()Lcom/example/tahan/tahan/WindowBucket$Tally;" } : Jvm.MethodName) ({ cls := "com/example/tahan/tahan/WindowBucket$Tally", name := "former", desc := "()Lcom/example/tahan/tahan/WindowBucket$Tally;" } : Jvm.MethodName)) ∈ tables_1 := List.mem_of_getElem? (i := 38) rfl
theorem tw_39 : (Jvm.Cond.code ({ cls := "com/example/tahan/tahan/WindowBucket$Tally", name := "former", desc := "()Lcom/example/tahan/tahan/WindowBucket$Tally;" } : Jvm.MethodName) prog_87_method_5_code (1 : Nat) (Option.some (Jvm.ClassFile.FieldType.object "com/example/tahan/tahan/WindowBucket$Tally"))) ∈ tables_1 := List.mem_of_getElem? (i := 39) rfl
theorem tw_40 : (Jvm.Cond.fieldLink "com/example/tahan/tahan/WindowBucket$Tally" (19 : Nat) "com/example/tahan/tahan/WindowBucket$Tally" "former" "Lcom/example/tahan/tahan/WindowBucket$Tally;") ∈ tables_1 := List.mem_of_getElem? (i := 40) rfl
theorem tw_41 : (Jvm.Cond.lays "com/example/tahan/tahan/WindowBucket$Tally" "com/example/tahan/tahan/WindowBucket$Tally" "former" "Lcom/example/tahan/tahan/WindowBucket$Tally;") ∈ tables_1 := List.mem_of_getElem? (i := 41) rfl
theorem sn_0 {Z : State} {a0 : Array Value} (hw : ∀ d ∈ tables_1, d.before a0 Z = true) : Jvm.RoadKit.slotOf Z "com/example/tahan/tahan/WindowBucket$Tally" "admitted" "J" ≠ Jvm.RoadKit.slotOf Z "com/example/tahan/tahan/WindowBucket$Tally" "start" "J" := Jvm.RoadKit.slot_ne (Or.inl (hw _ tw_17)) (Or.inr (hw _ tw_10)) (by decide) (t := .long) (t' := .long) (by decide) (by decide)
theorem sn_1 {Z : State} {a0 : Array Value} (hw : ∀ d ∈ tables_1, d.before a0 Z = true) : Jvm.RoadKit.slotOf Z "com/example/tahan/tahan/WindowBucket$Tally" "blocked" "J" ≠ Jvm.RoadKit.slotOf Z "com/example/tahan/tahan/WindowBucket$Tally" "start" "J" := Jvm.RoadKit.slot_ne (Or.inl (hw _ tw_19)) (Or.inr (hw _ tw_10)) (by decide) (t := .long) (t' := .long) (by decide) (by decide)
theorem sn_2 {Z : State} {a0 : Array Value} (hw : ∀ d ∈ tables_1, d.before a0 Z = true) : Jvm.RoadKit.slotOf Z "com/example/tahan/tahan/WindowBucket$Tally" "former" "Lcom/example/tahan/tahan/WindowBucket$Tally;" ≠ Jvm.RoadKit.slotOf Z "com/example/tahan/tahan/WindowBucket$Tally" "start" "J" := Jvm.RoadKit.slot_ne (Or.inl (hw _ tw_41)) (Or.inr (hw _ tw_10)) (by decide) (t := (.object "com/example/tahan/tahan/WindowBucket$Tally")) (t' := .long) (by decide) (by decide)
theorem sn_3 {Z : State} {a0 : Array Value} (hw : ∀ d ∈ tables_1, d.before a0 Z = true) : Jvm.RoadKit.slotOf Z "com/example/tahan/tahan/WindowBucket$Tally" "blocked" "J" ≠ Jvm.RoadKit.slotOf Z "com/example/tahan/tahan/WindowBucket$Tally" "admitted" "J" := Jvm.RoadKit.slot_ne (Or.inl (hw _ tw_19)) (Or.inl (hw _ tw_17)) (by decide) (t := .long) (t' := .long) (by decide) (by decide)
theorem sn_4 {Z : State} {a0 : Array Value} (hw : ∀ d ∈ tables_1, d.before a0 Z = true) : Jvm.RoadKit.slotOf Z "com/example/tahan/tahan/WindowBucket$Tally" "start" "J" ≠ Jvm.RoadKit.slotOf Z "com/example/tahan/tahan/WindowBucket$Tally" "admitted" "J" := Jvm.RoadKit.slot_ne (Or.inr (hw _ tw_10)) (Or.inl (hw _ tw_17)) (by decide) (t := .long) (t' := .long) (by decide) (by decide)
theorem sn_5 {Z : State} {a0 : Array Value} (hw : ∀ d ∈ tables_1, d.before a0 Z = true) : Jvm.RoadKit.slotOf Z "com/example/tahan/tahan/WindowBucket$Tally" "start" "J" ≠ Jvm.RoadKit.slotOf Z "com/example/tahan/tahan/WindowBucket$Tally" "blocked" "J" := Jvm.RoadKit.slot_ne (Or.inr (hw _ tw_10)) (Or.inl (hw _ tw_19)) (by decide) (t := .long) (t' := .long) (by decide) (by decide)
theorem sn_6 {Z : State} {a0 : Array Value} (hw : ∀ d ∈ tables_1, d.before a0 Z = true) : Jvm.RoadKit.slotOf Z "com/example/tahan/tahan/WindowBucket$Tally" "admitted" "J" ≠ Jvm.RoadKit.slotOf Z "com/example/tahan/tahan/WindowBucket$Tally" "blocked" "J" := Jvm.RoadKit.slot_ne (Or.inl (hw _ tw_17)) (Or.inl (hw _ tw_19)) (by decide) (t := .long) (t' := .long) (by decide) (by decide)
theorem sn_7 {Z : State} {a0 : Array Value} (hw : ∀ d ∈ tables_1, d.before a0 Z = true) : Jvm.RoadKit.slotOf Z "com/example/tahan/tahan/WindowBucket$Tally" "former" "Lcom/example/tahan/tahan/WindowBucket$Tally;" ≠ Jvm.RoadKit.slotOf Z "com/example/tahan/tahan/WindowBucket$Tally" "admitted" "J" := Jvm.RoadKit.slot_ne (Or.inl (hw _ tw_41)) (Or.inl (hw _ tw_17)) (by decide) (t := (.object "com/example/tahan/tahan/WindowBucket$Tally")) (t' := .long) (by decide) (by decide)
theorem sn_8 {Z : State} {a0 : Array Value} (hw : ∀ d ∈ tables_1, d.before a0 Z = true) : Jvm.RoadKit.slotOf Z "com/example/tahan/tahan/WindowBucket$Tally" "former" "Lcom/example/tahan/tahan/WindowBucket$Tally;" ≠ Jvm.RoadKit.slotOf Z "com/example/tahan/tahan/WindowBucket$Tally" "blocked" "J" := Jvm.RoadKit.slot_ne (Or.inl (hw _ tw_41)) (Or.inl (hw _ tw_19)) (by decide) (t := (.object "com/example/tahan/tahan/WindowBucket$Tally")) (t' := .long) (by decide) (by decide)
theorem pd_0 : parseMethodDescriptor "(J)V" = some ⟨[.long], none⟩ := by decide +kernel
theorem pd_1 : parseMethodDescriptor "()J" = some ⟨[], some .long⟩ := by decide +kernel
theorem pd_2 : parseMethodDescriptor "()Lcom/example/tahan/tahan/WindowBucket$Tally;" = some ⟨[], some (.object "com/example/tahan/tahan/WindowBucket$Tally")⟩ := by decide +kernel
theorem pd_3 : parseMethodDescriptor "()V" = some ⟨[], none⟩ := by decide +kernel
theorem d1_0 : decode prog_87_method_1_code 0 = .ok (.aload_n 0, 1) := by decide +kernel
theorem d1_1 : decode prog_87_method_1_code 1 = .ok (.invokespecial 1, 3) := by decide +kernel
theorem d1_4 : decode prog_87_method_1_code 4 = .ok (.aload_n 0, 1) := by decide +kernel
theorem d1_5 : decode prog_87_method_1_code 5 = .ok (.lload_n 1, 1) := by decide +kernel
theorem d1_6 : decode prog_87_method_1_code 6 = .ok (.putfield 7, 3) := by decide +kernel
theorem d1_9 : decode prog_87_method_1_code 9 = .ok (.return_, 1) := by decide +kernel
theorem d3_0 : decode prog_87_method_7_code 0 = .ok (.aload_n 0, 1) := by decide +kernel
theorem d3_1 : decode prog_87_method_7_code 1 = .ok (.dup, 1) := by decide +kernel
theorem d3_2 : decode prog_87_method_7_code 2 = .ok (.getfield 13, 3) := by decide +kernel
theorem d3_5 : decode prog_87_method_7_code 5 = .ok (.lconst 1, 1) := by decide +kernel
theorem d3_6 : decode prog_87_method_7_code 6 = .ok (.lsub, 1) := by decide +kernel
theorem d3_7 : decode prog_87_method_7_code 7 = .ok (.putfield 13, 3) := by decide +kernel
theorem d3_10 : decode prog_87_method_7_code 10 = .ok (.aload_n 0, 1) := by decide +kernel
theorem d3_11 : decode prog_87_method_7_code 11 = .ok (.dup, 1) := by decide +kernel
theorem d3_12 : decode prog_87_method_7_code 12 = .ok (.getfield 16, 3) := by decide +kernel
theorem d3_15 : decode prog_87_method_7_code 15 = .ok (.lconst 1, 1) := by decide +kernel
theorem d3_16 : decode prog_87_method_7_code 16 = .ok (.ladd, 1) := by decide +kernel
theorem d3_17 : decode prog_87_method_7_code 17 = .ok (.putfield 16, 3) := by decide +kernel
theorem d3_20 : decode prog_87_method_7_code 20 = .ok (.return_, 1) := by decide +kernel
theorem d4_0 : decode prog_87_method_3_code 0 = .ok (.aload_n 0, 1) := by decide +kernel
theorem d4_1 : decode prog_87_method_3_code 1 = .ok (.getfield 13, 3) := by decide +kernel
theorem d4_4 : decode prog_87_method_3_code 4 = .ok (.lreturn, 1) := by decide +kernel
theorem d5_0 : decode prog_87_method_4_code 0 = .ok (.aload_n 0, 1) := by decide +kernel
theorem d5_1 : decode prog_87_method_4_code 1 = .ok (.getfield 16, 3) := by decide +kernel
theorem d5_4 : decode prog_87_method_4_code 4 = .ok (.lreturn, 1) := by decide +kernel
theorem d6_0 : decode prog_87_method_2_code 0 = .ok (.aload_n 0, 1) := by decide +kernel
theorem d6_1 : decode prog_87_method_2_code 1 = .ok (.getfield 7, 3) := by decide +kernel
theorem d6_4 : decode prog_87_method_2_code 4 = .ok (.lreturn, 1) := by decide +kernel
theorem d7_0 : decode prog_87_method_5_code 0 = .ok (.aload_n 0, 1) := by decide +kernel
theorem d7_1 : decode prog_87_method_5_code 1 = .ok (.getfield 19, 3) := by decide +kernel
theorem d7_4 : decode prog_87_method_5_code 4 = .ok (.areturn, 1) := by decide +kernel
theorem pn_0 : plainFor x = true := plainFor_of_name (by first | (simp [plainName, overriddenIn]; done) | decide +kernel)
theorem pn_1 : plainFor (⟨"com/example/tahan/tahan/WindowBucket$Tally", "<init>", "(J)V"⟩ : MethodName) = true := plainFor_of_name (by first | (simp [plainName, overriddenIn]; done) | decide +kernel)
theorem pn_3 : plainFor (⟨"com/example/tahan/tahan/WindowBucket$Tally", "withdraw", "()V"⟩ : MethodName) = true := plainFor_of_name (by first | (simp [plainName, overriddenIn]; done) | decide +kernel)
theorem pn_4 : plainFor (⟨"com/example/tahan/tahan/WindowBucket$Tally", "admitted", "()J"⟩ : MethodName) = true := plainFor_of_name (by first | (simp [plainName, overriddenIn]; done) | decide +kernel)
theorem pn_5 : plainFor (⟨"com/example/tahan/tahan/WindowBucket$Tally", "blocked", "()J"⟩ : MethodName) = true := plainFor_of_name (by first | (simp [plainName, overriddenIn]; done) | decide +kernel)
theorem pn_6 : plainFor (⟨"com/example/tahan/tahan/WindowBucket$Tally", "start", "()J"⟩ : MethodName) = true := plainFor_of_name (by first | (simp [plainName, overriddenIn]; done) | decide +kernel)
theorem pn_7 : plainFor (⟨"com/example/tahan/tahan/WindowBucket$Tally", "former", "()Lcom/example/tahan/tahan/WindowBucket$Tally;"⟩ : MethodName) = true := plainFor_of_name (by first | (simp [plainName, overriddenIn]; done) | decide +kernel)
def rmz : Room := { frames := 0, cells := 0, slots := 0, locals := 0 }
def rmi : Room := { frames := 1, cells := 0, slots := 0, locals := 12 }
def Tal (Z : State) (h : Heap) (a : Addr) (st ad bl : Int64) : Prop := Exa Z h a "com/example/tahan/tahan/WindowBucket$Tally" ∧ Fld Z h a "com/example/tahan/tahan/WindowBucket$Tally" "start" "J" (.long st) ∧ Fld Z h a "com/example/tahan/tahan/WindowBucket$Tally" "admitted" "J" (.long ad) ∧ Fld Z h a "com/example/tahan/tahan/WindowBucket$Tally" "blocked" "J" (.long bl) ∧ Fld Z h a "com/example/tahan/tahan/WindowBucket$Tally" "former" "Lcom/example/tahan/tahan/WindowBucket$Tally;" .null
def Q1 (Z : State) (a : Addr) (st ad bl : Int64) (v : Option Value) (h : Heap) : Prop := v = none ∧ Tal Z h a st ad bl
def QJ (x : Int64) (h0 : Heap) (v : Option Value) (h : Heap) : Prop := v = some (.long x) ∧ h = h0
def QN (h0 : Heap) (v : Option Value) (h : Heap) : Prop := v = some .null ∧ h = h0
def Q0 (v : Option Value) (h : Heap) : Prop := v = some (.int 1)
theorem own_and3 (x : Int32) : x &&& 3 = 0 ∨ x &&& 3 = 1 ∨ x &&& 3 = 2 ∨ x &&& 3 = 3 := by
  have e : (x &&& 3).toInt = x.toInt % 4 := c_mask x 3 2 (by decide) (by decide)
  have k : ∀ d : Int32, x &&& 3 = d ↔ (x &&& 3).toInt = d.toInt := fun d => Int32.toInt_inj.symm
  have k0 : (0 : Int32).toInt = 0 := rfl
  have k1 : (1 : Int32).toInt = 1 := rfl
  have k2 : (2 : Int32).toInt = 2 := rfl
  have k3 : (3 : Int32).toInt = 3 := rfl
  simp only [k, k0, k1, k2, k3]
  omega
set_option maxRecDepth 65536 in
set_option maxHeartbeats 40000000 in
theorem rm_init (l : Launch) (Z : State) (a0 : Array Value) (hw : ∀ d ∈ tables_1, d.before a0 Z = true) (a : Addr) (q : Int64) (h0 : Heap) (O : Tal Z h0 a 0 0 0) (cs : List Jvm.Cond) :
    OwnCtr l Z (⟨"com/example/tahan/tahan/WindowBucket$Tally", "<init>", "(J)V"⟩ : MethodName) prog_87_method_1_code 3 none rmi #[(.ref a), (.long q)] h0 [a] (Q1 Z a q 0 0) cs := by
  refine ow_ctr pn_1 hw (Ls := #[.val (.ref a), .val (.long q), .second]) (fun m => by first | (simp [entryFrame, mkF, argsToLocals, Value.category]; done) | rfl) ?_
  intro p e s m below meth c T0 C A0
  obtain ⟨xE1, xS1, xA1, xB1, xF1⟩ := O
  refine ow_aloadN C A0 d1_0 rfl rfl rfl ?_
  refine ow_initO C A0 tw_6 tw_7 tw_8 rfl d1_1 rfl (by decide) (W := 0) (Nat.le_of_eq rfl) (by decide) ?_
  intro T2 A3
  refine ow_aloadN C A3 d1_4 rfl rfl rfl ?_
  refine ow_lloadN C A3 d1_5 rfl rfl ?_
  refine ow_putFin C A3 tw_9 Via.refl xS1 xE1 tw_10 rfl rfl tw_1 (ty := .long) (by decide) rfl rfl (Or.inl (List.mem_singleton.mpr rfl)) d1_6 rfl ?_
  intro T4 h6 W7 A5
  have f8 := xS1.same W7
  have f9 := (xE1.wr W7)
  have f10 := (xA1.other W7 (Or.inr (sn_0 hw)))
  have f11 := (xB1.other W7 (Or.inr (sn_1 hw)))
  have f12 := (xF1.other W7 (Or.inr (sn_2 hw)))
  refine ow_return C A5 rfl d1_9 (by decide) (by decide) ?_
  exact ⟨rfl, ⟨f9, f8, f10, f11, f12⟩⟩
set_option maxRecDepth 65536 in
set_option maxHeartbeats 40000000 in
theorem rm_withdraw (l : Launch) (Z : State) (a0 : Array Value) (hw : ∀ d ∈ tables_1, d.before a0 Z = true) (a : Addr) (st ad bl : Int64) (h0 : Heap) (O : Tal Z h0 a st ad bl) (cs : List Jvm.Cond) :
    OwnCtr l Z (⟨"com/example/tahan/tahan/WindowBucket$Tally", "withdraw", "()V"⟩ : MethodName) prog_87_method_7_code 1 none rmz #[(.ref a)] h0 [a] (Q1 Z a st (ad - 1) (bl + 1)) cs := by
  refine ow_ctr pn_3 hw (Ls := #[.val (.ref a)]) (fun m => by first | (simp [entryFrame, mkF, argsToLocals, Value.category]; done) | rfl) ?_
  intro p e s m below meth c T0 C A0
  obtain ⟨xE1, xS1, xA1, xB1, xF1⟩ := O
  refine ow_aloadN C A0 d3_0 rfl rfl rfl ?_
  refine ow_dup C A0 d3_1 rfl rfl ?_
  refine ow_getF C A0 tw_16 Via.refl xA1 d3_2 rfl ?_
  intro T2 A3
  refine ow_lconst C A3 d3_5 (v := 1) rfl rfl ?_
  refine ow_lsub C A3 d3_6 rfl ?_
  refine ow_putF C A3 tw_16 Via.refl xA1 xE1 tw_17 tw_1 (ty := .long) (by decide) rfl rfl (Or.inl (List.mem_singleton.mpr rfl)) d3_7 rfl ?_
  intro T4 h6 W7 A5
  have f8 := xA1.same W7
  refine ow_aloadN C A5 d3_10 rfl rfl rfl ?_
  refine ow_dup C A5 d3_11 rfl rfl ?_
  have f9 := (xB1.other W7 (Or.inr (sn_3 hw)))
  refine ow_getF C A5 tw_18 Via.refl f9 d3_12 rfl ?_
  intro T10 A11
  refine ow_lconst C A11 d3_15 (v := 1) rfl rfl ?_
  refine ow_ladd C A11 d3_16 rfl ?_
  have f12 := (xE1.wr W7)
  refine ow_putF C A11 tw_18 Via.refl f9 f12 tw_19 tw_1 (ty := .long) (by decide) rfl rfl (Or.inl (List.mem_singleton.mpr rfl)) d3_17 rfl ?_
  intro T13 h15 W16 A14
  have f17 := f9.same W16
  have f18 := (f12.wr W16)
  have f19 := ((xS1.other W7 (Or.inr (sn_4 hw))).other W16 (Or.inr (sn_5 hw)))
  have f20 := (f8.other W16 (Or.inr (sn_6 hw)))
  have f21 := ((xF1.other W7 (Or.inr (sn_7 hw))).other W16 (Or.inr (sn_8 hw)))
  refine ow_return C A14 rfl d3_20 (by decide) (by decide) ?_
  exact ⟨rfl, ⟨f18, f19, f20, f17, f21⟩⟩
set_option maxRecDepth 65536 in
set_option maxHeartbeats 40000000 in
theorem rm_admitted (l : Launch) (Z : State) (a0 : Array Value) (hw : ∀ d ∈ tables_1, d.before a0 Z = true) (a : Addr) (st ad bl : Int64) (h0 : Heap) (O : Tal Z h0 a st ad bl) (cs : List Jvm.Cond) :
    OwnCtr l Z (⟨"com/example/tahan/tahan/WindowBucket$Tally", "admitted", "()J"⟩ : MethodName) prog_87_method_3_code 1 (some .long) rmz #[(.ref a)] h0 [] (QJ ad h0) cs := by
  refine ow_ctr pn_4 hw (Ls := #[.val (.ref a)]) (fun m => by first | (simp [entryFrame, mkF, argsToLocals, Value.category]; done) | rfl) ?_
  intro p e s m below meth c T0 C A0
  obtain ⟨xE1, xS1, xA1, xB1, xF1⟩ := O
  refine ow_aloadN C A0 d4_0 rfl rfl rfl ?_
  refine ow_getF C A0 tw_16 Via.refl xA1 d4_1 rfl ?_
  intro T2 A3
  refine ow_lreturn C A3 rfl d4_4 (by decide) (by decide) ?_
  exact ⟨rfl, rfl⟩
set_option maxRecDepth 65536 in
set_option maxHeartbeats 40000000 in
theorem rm_blocked (l : Launch) (Z : State) (a0 : Array Value) (hw : ∀ d ∈ tables_1, d.before a0 Z = true) (a : Addr) (st ad bl : Int64) (h0 : Heap) (O : Tal Z h0 a st ad bl) (cs : List Jvm.Cond) :
    OwnCtr l Z (⟨"com/example/tahan/tahan/WindowBucket$Tally", "blocked", "()J"⟩ : MethodName) prog_87_method_4_code 1 (some .long) rmz #[(.ref a)] h0 [] (QJ bl h0) cs := by
  refine ow_ctr pn_5 hw (Ls := #[.val (.ref a)]) (fun m => by first | (simp [entryFrame, mkF, argsToLocals, Value.category]; done) | rfl) ?_
  intro p e s m below meth c T0 C A0
  obtain ⟨xE1, xS1, xA1, xB1, xF1⟩ := O
  refine ow_aloadN C A0 d5_0 rfl rfl rfl ?_
  refine ow_getF C A0 tw_18 Via.refl xB1 d5_1 rfl ?_
  intro T2 A3
  refine ow_lreturn C A3 rfl d5_4 (by decide) (by decide) ?_
  exact ⟨rfl, rfl⟩
set_option maxRecDepth 65536 in
set_option maxHeartbeats 40000000 in
theorem rm_start (l : Launch) (Z : State) (a0 : Array Value) (hw : ∀ d ∈ tables_1, d.before a0 Z = true) (a : Addr) (st ad bl : Int64) (h0 : Heap) (O : Tal Z h0 a st ad bl) (cs : List Jvm.Cond) :
    OwnCtr l Z (⟨"com/example/tahan/tahan/WindowBucket$Tally", "start", "()J"⟩ : MethodName) prog_87_method_2_code 1 (some .long) rmz #[(.ref a)] h0 [] (QJ st h0) cs := by
  refine ow_ctr pn_6 hw (Ls := #[.val (.ref a)]) (fun m => by first | (simp [entryFrame, mkF, argsToLocals, Value.category]; done) | rfl) ?_
  intro p e s m below meth c T0 C A0
  obtain ⟨xE1, xS1, xA1, xB1, xF1⟩ := O
  refine ow_aloadN C A0 d6_0 rfl rfl rfl ?_
  refine ow_getF C A0 tw_9 Via.refl xS1 d6_1 rfl ?_
  intro T2 A3
  refine ow_lreturn C A3 rfl d6_4 (by decide) (by decide) ?_
  exact ⟨rfl, rfl⟩
set_option maxRecDepth 65536 in
set_option maxHeartbeats 40000000 in
theorem rm_former (l : Launch) (Z : State) (a0 : Array Value) (hw : ∀ d ∈ tables_1, d.before a0 Z = true) (a : Addr) (st ad bl : Int64) (h0 : Heap) (O : Tal Z h0 a st ad bl) (cs : List Jvm.Cond) :
    OwnCtr l Z (⟨"com/example/tahan/tahan/WindowBucket$Tally", "former", "()Lcom/example/tahan/tahan/WindowBucket$Tally;"⟩ : MethodName) prog_87_method_5_code 1 (some (.object "com/example/tahan/tahan/WindowBucket$Tally")) rmz #[(.ref a)] h0 [] (QN h0) cs := by
  refine ow_ctr pn_7 hw (Ls := #[.val (.ref a)]) (fun m => by first | (simp [entryFrame, mkF, argsToLocals, Value.category]; done) | rfl) ?_
  intro p e s m below meth c T0 C A0
  obtain ⟨xE1, xS1, xA1, xB1, xF1⟩ := O
  refine ow_aloadN C A0 d7_0 rfl rfl rfl ?_
  refine ow_getF C A0 tw_40 Via.refl xF1 d7_1 rfl ?_
  intro T2 A3
  refine ow_areturn C A3 (t := (.object "com/example/tahan/tahan/WindowBucket$Tally")) rfl rfl rfl d7_4 (by decide) (by decide) ?_
  exact ⟨rfl, rfl⟩
set_option maxRecDepth 65536 in
set_option maxHeartbeats 40000000 in
theorem rm0 (l : Launch) (Z : State) (a0 : Array Value) (hw : ∀ d ∈ tables_1, d.before a0 Z = true) (q1 : Int64) (p3 : Int32) (q4 : Int64) (h0 : Heap)  (cs : List Jvm.Cond) :
    OwnCtr l Z x code maxLocals ret room_1 #[(.long q1), (.int p3), (.long q4)] h0 [] Q0 cs := by
  refine ow_ctr pn_0 hw (Ls := #[.val (.long q1), .second, .val (.int p3), .val (.long q4), .second, .unset, .unset, .unset, .unset, .unset, .unset, .unset]) (fun m => by first | (simp [entryFrame, mkF, argsToLocals, Value.category, maxLocals]; done) | rfl) ?_
  intro p e s m below meth c T0 C A0
  refine ow_new C A0 tw_0 tw_1 tw_2 at_0 rfl (ck' := 1) (sk' := 4) rfl rfl (by decide) (by decide) ?_
  intro T1 h3 b4 g5 E6 X7 D8 A2
  have ows_b4 : b4 ∈ ([] : List Addr) ∨ h0.size ≤ b4 := Or.inr (Nat.le_trans (ow_le A0) (Nat.le_of_eq g5.symm))
  have f9 : Fld Z h3 b4 "com/example/tahan/tahan/WindowBucket$Tally" "start" "J" (.long (0 : Int64)) := D8 (Or.inr (hw _ tw_10)) (ty := .long) (by decide)
  have f10 : Fld Z h3 b4 "com/example/tahan/tahan/WindowBucket$Tally" "admitted" "J" (.long (0 : Int64)) := D8 (Or.inl (hw _ tw_17)) (ty := .long) (by decide)
  have f11 : Fld Z h3 b4 "com/example/tahan/tahan/WindowBucket$Tally" "blocked" "J" (.long (0 : Int64)) := D8 (Or.inl (hw _ tw_19)) (ty := .long) (by decide)
  have f12 : Fld Z h3 b4 "com/example/tahan/tahan/WindowBucket$Tally" "former" "Lcom/example/tahan/tahan/WindowBucket$Tally;" .null := D8 (Or.inl (hw _ tw_41)) (ty := (.object "com/example/tahan/tahan/WindowBucket$Tally")) (by decide)
  refine ow_dup C A2 at_3 rfl rfl ?_
  refine ow_lloadN C A2 at_4 rfl rfl ?_
  refine ow_callI C A2 (argsL := [(.long q1)]) (a := b4) (rm_init l Z a0 hw b4 q1 h3 ⟨X7, f9, f10, f11, f12⟩ []) rfl tw_3 tw_4 tw_2 tw_5 (by decide) (allS ows_b4 all0) (by decide) (by decide) (ck' := 1) (sk' := 4) rfl rfl (by decide) (by decide) rfl (lenOf pd_0 rfl) (S := [(.ref b4)]) rfl (W := 1) (Nat.le_of_eq rfl) at_5 rfl ?_
  intro T13 v13 K13 hQ13 A13
  obtain ⟨rfl, O13⟩ := hQ13
  show OwnWP _ _ _ _ _ _ _ _ _ T13 (mkF m 8 #[.val (.long q1), .second, .val (.int p3), .val (.long q4), .second, .unset, .unset, .unset, .unset, .unset, .unset, .unset] [(.ref b4)])
  obtain ⟨xE14, xS14, xA14, xB14, xF14⟩ := O13
  refine ow_astore C A13 at_8 rfl (Ls' := #[.val (.long q1), .second, .val (.int p3), .val (.long q4), .second, .val (.ref b4), .unset, .unset, .unset, .unset, .unset, .unset]) rfl rfl ?_
  refine ow_new C A13 tw_0 tw_1 tw_2 at_10 rfl (ck' := 2) (sk' := 8) rfl rfl (by decide) (by decide) ?_
  intro T15 h17 b18 g19 E20 X21 D22 A16
  have ne23 : b4 ≠ b18 := Nat.ne_of_lt (Nat.lt_of_lt_of_le xE14.lt (Nat.le_of_eq g19.symm))
  have ows_b18 : b18 ∈ ([] : List Addr) ∨ h0.size ≤ b18 := Or.inr (Nat.le_trans (ow_le A13) (Nat.le_of_eq g19.symm))
  have f24 : Fld Z h17 b18 "com/example/tahan/tahan/WindowBucket$Tally" "start" "J" (.long (0 : Int64)) := D22 (Or.inr (hw _ tw_10)) (ty := .long) (by decide)
  have f25 : Fld Z h17 b18 "com/example/tahan/tahan/WindowBucket$Tally" "admitted" "J" (.long (0 : Int64)) := D22 (Or.inl (hw _ tw_17)) (ty := .long) (by decide)
  have f26 : Fld Z h17 b18 "com/example/tahan/tahan/WindowBucket$Tally" "blocked" "J" (.long (0 : Int64)) := D22 (Or.inl (hw _ tw_19)) (ty := .long) (by decide)
  have f27 : Fld Z h17 b18 "com/example/tahan/tahan/WindowBucket$Tally" "former" "Lcom/example/tahan/tahan/WindowBucket$Tally;" .null := D22 (Or.inl (hw _ tw_41)) (ty := (.object "com/example/tahan/tahan/WindowBucket$Tally")) (by decide)
  refine ow_dup C A16 at_13 rfl rfl ?_
  refine ow_lloadN C A16 at_14 rfl rfl ?_
  refine ow_callI C A16 (argsL := [(.long q4)]) (a := b18) (rm_init l Z a0 hw b18 q4 h17 ⟨X21, f24, f25, f26, f27⟩ []) rfl tw_3 tw_4 tw_2 tw_5 (by decide) (allS ows_b18 all0) (by decide) (by decide) (ck' := 2) (sk' := 8) rfl rfl (by decide) (by decide) rfl (lenOf pd_0 rfl) (S := [(.ref b18)]) rfl (W := 1) (Nat.le_of_eq rfl) at_15 rfl ?_
  intro T28 v28 K28 hQ28 A28
  obtain ⟨rfl, O28⟩ := hQ28
  show OwnWP _ _ _ _ _ _ _ _ _ T28 (mkF m 18 #[.val (.long q1), .second, .val (.int p3), .val (.long q4), .second, .val (.ref b4), .unset, .unset, .unset, .unset, .unset, .unset] [(.ref b18)])
  obtain ⟨xE29, xS29, xA29, xB29, xF29⟩ := O28
  refine ow_astore C A28 at_18 rfl (Ls' := #[.val (.long q1), .second, .val (.int p3), .val (.long q4), .second, .val (.ref b4), .val (.ref b18), .unset, .unset, .unset, .unset, .unset]) rfl rfl ?_
  refine ow_iloadN C A28 at_20 rfl rfl ?_
  refine ow_iconst C A28 at_21 (v := 3) rfl rfl ?_
  refine ow_iand C A28 at_22 rfl ?_
  rcases own_and3 p3 with hn | hn | hn | hn
  · rw [hn]
    refine ow_istore C A28 at_23 (Ls' := #[.val (.long q1), .second, .val (.int p3), .val (.long q4), .second, .val (.ref b4), .val (.ref b18), .val (.int (0 : Int32)), .unset, .unset, .unset, .unset]) rfl rfl ?_
    refine ow_iload C A28 at_25 rfl rfl ?_
    refine ow_iconst C A28 at_27 (v := 1) rfl rfl ?_
    refine ow_icmp_lt C A28 at_28 (by decide) (pcY := 36) (by decide) (pcN := 31) rfl (fun _ => ?_) (fun z => absurd (by decide) z)
    refine ow_iload C A28 at_36 rfl rfl ?_
    refine ow_iconst C A28 at_38 (v := 2) rfl rfl ?_
    refine ow_icmp_lt C A28 at_39 (by decide) (pcY := 47) (by decide) (pcN := 42) rfl (fun _ => ?_) (fun z => absurd (by decide) z)
    refine ow_iload C A28 at_47 rfl rfl ?_
    refine ow_iconst C A28 at_49 (v := 3) rfl rfl ?_
    refine ow_icmp_lt C A28 at_50 (by decide) (pcY := 58) (by decide) (pcN := 53) rfl (fun _ => ?_) (fun z => absurd (by decide) z)
    refine ow_iload C A28 at_58 rfl rfl ?_
    refine ow_ineg C A28 at_60 rfl ?_
    refine ow_i2l C A28 at_61 rfl ?_
    refine ow_lstore C A28 at_62 (Ls' := #[.val (.long q1), .second, .val (.int p3), .val (.long q4), .second, .val (.ref b4), .val (.ref b18), .val (.int (0 : Int32)), .val (.long (-(0 : Int32)).toInt64), .second, .unset, .unset]) rfl rfl ?_
    refine ow_iload C A28 at_64 rfl rfl ?_
    refine ow_i2l C A28 at_66 rfl ?_
    refine ow_lstore C A28 at_67 (Ls' := #[.val (.long q1), .second, .val (.int p3), .val (.long q4), .second, .val (.ref b4), .val (.ref b18), .val (.int (0 : Int32)), .val (.long (-(0 : Int32)).toInt64), .second, .val (.long (0 : Int32).toInt64), .second]) rfl rfl ?_
    refine ow_aload C A28 at_69 rfl rfl rfl ?_
    have f30 := ((xE14.ext E20).keep K28)
    have f31 := ((xS14.ext E20).keep K28 (ninS ne23 nin0))
    have f32 := ((xA14.ext E20).keep K28 (ninS ne23 nin0))
    have f33 := ((xB14.ext E20).keep K28 (ninS ne23 nin0))
    have f34 := ((xF14.ext E20).keep K28 (ninS ne23 nin0))
    refine ow_callV C A28 (argsL := []) f30 (rm_admitted l Z a0 hw b4 q1 0 0 T28.heap ⟨f30, f31, f32, f33, f34⟩ []) tw_20 tw_21 (ow_nf hw tw_23) tw_23 tw_22 tw_2 tw_24 (by decide) all0 (by decide) (by decide) (ck' := 2) (sk' := 8) rfl rfl (by decide) (by decide) rfl (lenOf pd_1 rfl) (S := []) rfl (W := 0) (Nat.le_of_eq rfl) at_71 rfl ?_
    intro T35 v35 K35 hQ35 A35
    obtain ⟨rfl, e35⟩ := hQ35
    rw [e35] at A35 K35
    show OwnWP _ _ _ _ _ _ _ _ _ T35 (mkF m 74 #[.val (.long q1), .second, .val (.int p3), .val (.long q4), .second, .val (.ref b4), .val (.ref b18), .val (.int (0 : Int32)), .val (.long (-(0 : Int32)).toInt64), .second, .val (.long (0 : Int32).toInt64), .second] [(.long 0)])
    refine ow_lload C A35 at_74 rfl rfl ?_
    refine ow_lcmp_ne C A35 at_76 rfl at_77 (by decide) (pcY := 143) (by decide) (pcN := 80) rfl (fun z => absurd (by decide) z) (fun _ => ?_)
    refine ow_aload C A35 at_80 rfl rfl rfl ?_
    refine ow_callV C A35 (argsL := []) f30 (rm_blocked l Z a0 hw b4 q1 0 0 T28.heap ⟨f30, f31, f32, f33, f34⟩ []) tw_25 tw_26 (ow_nf hw tw_28) tw_28 tw_27 tw_2 tw_29 (by decide) all0 (by decide) (by decide) (ck' := 2) (sk' := 8) rfl rfl (by decide) (by decide) rfl (lenOf pd_1 rfl) (S := []) rfl (W := 0) (Nat.le_of_eq rfl) at_82 rfl ?_
    intro T36 v36 K36 hQ36 A36
    obtain ⟨rfl, e36⟩ := hQ36
    rw [e36] at A36 K36
    show OwnWP _ _ _ _ _ _ _ _ _ T36 (mkF m 85 #[.val (.long q1), .second, .val (.int p3), .val (.long q4), .second, .val (.ref b4), .val (.ref b18), .val (.int (0 : Int32)), .val (.long (-(0 : Int32)).toInt64), .second, .val (.long (0 : Int32).toInt64), .second] [(.long 0)])
    refine ow_lload C A36 at_85 rfl rfl ?_
    refine ow_lcmp_ne C A36 at_87 rfl at_88 (by decide) (pcY := 143) (by decide) (pcN := 91) rfl (fun z => absurd (by decide) z) (fun _ => ?_)
    refine ow_aload C A36 at_91 rfl rfl rfl ?_
    refine ow_callV C A36 (argsL := []) f30 (rm_start l Z a0 hw b4 q1 0 0 T28.heap ⟨f30, f31, f32, f33, f34⟩ []) tw_30 tw_31 (ow_nf hw tw_33) tw_33 tw_32 tw_2 tw_34 (by decide) all0 (by decide) (by decide) (ck' := 2) (sk' := 8) rfl rfl (by decide) (by decide) rfl (lenOf pd_1 rfl) (S := []) rfl (W := 0) (Nat.le_of_eq rfl) at_93 rfl ?_
    intro T37 v37 K37 hQ37 A37
    obtain ⟨rfl, e37⟩ := hQ37
    rw [e37] at A37 K37
    show OwnWP _ _ _ _ _ _ _ _ _ T37 (mkF m 96 #[.val (.long q1), .second, .val (.int p3), .val (.long q4), .second, .val (.ref b4), .val (.ref b18), .val (.int (0 : Int32)), .val (.long (-(0 : Int32)).toInt64), .second, .val (.long (0 : Int32).toInt64), .second] [(.long q1)])
    refine ow_lloadN C A37 at_96 rfl rfl ?_
    refine ow_lcmp_ne C A37 at_97 rfl at_98 (by decide) (pcY := 143) (by decide) (pcN := 101) rfl (fun z => absurd (rfl) z) (fun _ => ?_)
    refine ow_aload C A37 at_101 rfl rfl rfl ?_
    refine ow_callV C A37 (argsL := []) f30 (rm_former l Z a0 hw b4 q1 0 0 T28.heap ⟨f30, f31, f32, f33, f34⟩ []) tw_35 tw_36 (ow_nf hw tw_38) tw_38 tw_37 tw_2 tw_39 (by decide) all0 (by decide) (by decide) (ck' := 2) (sk' := 8) rfl rfl (by decide) (by decide) rfl (lenOf pd_2 rfl) (S := []) rfl (W := 0) (Nat.le_of_eq rfl) at_103 rfl ?_
    intro T38 v38 K38 hQ38 A38
    obtain ⟨rfl, e38⟩ := hQ38
    rw [e38] at A38 K38
    show OwnWP _ _ _ _ _ _ _ _ _ T38 (mkF m 106 #[.val (.long q1), .second, .val (.int p3), .val (.long q4), .second, .val (.ref b4), .val (.ref b18), .val (.int (0 : Int32)), .val (.long (-(0 : Int32)).toInt64), .second, .val (.long (0 : Int32).toInt64), .second] [.null])
    refine ow_ifnonnullNo C A38 at_106 rfl ?_
    refine ow_aload C A38 at_109 rfl rfl rfl ?_
    refine ow_callV C A38 (argsL := []) xE29 (rm_admitted l Z a0 hw b18 q4 0 0 T28.heap ⟨xE29, xS29, xA29, xB29, xF29⟩ []) tw_20 tw_21 (ow_nf hw tw_23) tw_23 tw_22 tw_2 tw_24 (by decide) all0 (by decide) (by decide) (ck' := 2) (sk' := 8) rfl rfl (by decide) (by decide) rfl (lenOf pd_1 rfl) (S := []) rfl (W := 0) (Nat.le_of_eq rfl) at_111 rfl ?_
    intro T39 v39 K39 hQ39 A39
    obtain ⟨rfl, e39⟩ := hQ39
    rw [e39] at A39 K39
    show OwnWP _ _ _ _ _ _ _ _ _ T39 (mkF m 114 #[.val (.long q1), .second, .val (.int p3), .val (.long q4), .second, .val (.ref b4), .val (.ref b18), .val (.int (0 : Int32)), .val (.long (-(0 : Int32)).toInt64), .second, .val (.long (0 : Int32).toInt64), .second] [(.long 0)])
    refine ow_lconst C A39 at_114 (v := 0) rfl rfl ?_
    refine ow_lcmp_ne C A39 at_115 rfl at_116 (by decide) (pcY := 143) (by decide) (pcN := 119) rfl (fun z => absurd (rfl) z) (fun _ => ?_)
    refine ow_aload C A39 at_119 rfl rfl rfl ?_
    refine ow_callV C A39 (argsL := []) xE29 (rm_blocked l Z a0 hw b18 q4 0 0 T28.heap ⟨xE29, xS29, xA29, xB29, xF29⟩ []) tw_25 tw_26 (ow_nf hw tw_28) tw_28 tw_27 tw_2 tw_29 (by decide) all0 (by decide) (by decide) (ck' := 2) (sk' := 8) rfl rfl (by decide) (by decide) rfl (lenOf pd_1 rfl) (S := []) rfl (W := 0) (Nat.le_of_eq rfl) at_121 rfl ?_
    intro T40 v40 K40 hQ40 A40
    obtain ⟨rfl, e40⟩ := hQ40
    rw [e40] at A40 K40
    show OwnWP _ _ _ _ _ _ _ _ _ T40 (mkF m 124 #[.val (.long q1), .second, .val (.int p3), .val (.long q4), .second, .val (.ref b4), .val (.ref b18), .val (.int (0 : Int32)), .val (.long (-(0 : Int32)).toInt64), .second, .val (.long (0 : Int32).toInt64), .second] [(.long 0)])
    refine ow_lconst C A40 at_124 (v := 0) rfl rfl ?_
    refine ow_lcmp_ne C A40 at_125 rfl at_126 (by decide) (pcY := 143) (by decide) (pcN := 129) rfl (fun z => absurd (rfl) z) (fun _ => ?_)
    refine ow_aload C A40 at_129 rfl rfl rfl ?_
    refine ow_callV C A40 (argsL := []) xE29 (rm_start l Z a0 hw b18 q4 0 0 T28.heap ⟨xE29, xS29, xA29, xB29, xF29⟩ []) tw_30 tw_31 (ow_nf hw tw_33) tw_33 tw_32 tw_2 tw_34 (by decide) all0 (by decide) (by decide) (ck' := 2) (sk' := 8) rfl rfl (by decide) (by decide) rfl (lenOf pd_1 rfl) (S := []) rfl (W := 0) (Nat.le_of_eq rfl) at_131 rfl ?_
    intro T41 v41 K41 hQ41 A41
    obtain ⟨rfl, e41⟩ := hQ41
    rw [e41] at A41 K41
    show OwnWP _ _ _ _ _ _ _ _ _ T41 (mkF m 134 #[.val (.long q1), .second, .val (.int p3), .val (.long q4), .second, .val (.ref b4), .val (.ref b18), .val (.int (0 : Int32)), .val (.long (-(0 : Int32)).toInt64), .second, .val (.long (0 : Int32).toInt64), .second] [(.long q4)])
    refine ow_lloadN C A41 at_134 rfl rfl ?_
    refine ow_lcmp_ne C A41 at_135 rfl at_136 (by decide) (pcY := 143) (by decide) (pcN := 139) rfl (fun z => absurd (rfl) z) (fun _ => ?_)
    refine ow_iconst C A41 at_139 (v := 1) rfl rfl ?_
    refine ow_goto C A41 at_140 (by decide) (pc' := 144) (by decide) ?_
    refine ow_ireturn C A41 (t := .boolean) rfl rfl (by simp) at_144 (by decide) (by decide) ?_
    exact rfl
  · rw [hn]
    refine ow_istore C A28 at_23 (Ls' := #[.val (.long q1), .second, .val (.int p3), .val (.long q4), .second, .val (.ref b4), .val (.ref b18), .val (.int (1 : Int32)), .unset, .unset, .unset, .unset]) rfl rfl ?_
    refine ow_iload C A28 at_25 rfl rfl ?_
    refine ow_iconst C A28 at_27 (v := 1) rfl rfl ?_
    refine ow_icmp_lt C A28 at_28 (by decide) (pcY := 36) (by decide) (pcN := 31) rfl (fun z => absurd z (by decide)) (fun _ => ?_)
    refine ow_aload C A28 at_31 rfl rfl rfl ?_
    have f42 := ((xE14.ext E20).keep K28)
    have f43 := ((xS14.ext E20).keep K28 (ninS ne23 nin0))
    have f44 := ((xA14.ext E20).keep K28 (ninS ne23 nin0))
    have f45 := ((xB14.ext E20).keep K28 (ninS ne23 nin0))
    have f46 := ((xF14.ext E20).keep K28 (ninS ne23 nin0))
    refine ow_callV C A28 (argsL := []) f42 (rm_withdraw l Z a0 hw b4 q1 0 0 T28.heap ⟨f42, f43, f44, f45, f46⟩ []) tw_11 tw_12 (ow_nf hw tw_14) tw_14 tw_13 tw_2 tw_15 (by decide) (allS ows_b4 all0) (by decide) (by decide) (ck' := 2) (sk' := 8) rfl rfl (by decide) (by decide) rfl (lenOf pd_3 rfl) (S := []) rfl (W := 0) (Nat.le_of_eq rfl) at_33 rfl ?_
    intro T47 v47 K47 hQ47 A47
    obtain ⟨rfl, O47⟩ := hQ47
    show OwnWP _ _ _ _ _ _ _ _ _ T47 (mkF m 36 #[.val (.long q1), .second, .val (.int p3), .val (.long q4), .second, .val (.ref b4), .val (.ref b18), .val (.int (1 : Int32)), .unset, .unset, .unset, .unset] [])
    obtain ⟨xE48, xS48, xA48, xB48, xF48⟩ := O47
    refine ow_iload C A47 at_36 rfl rfl ?_
    refine ow_iconst C A47 at_38 (v := 2) rfl rfl ?_
    refine ow_icmp_lt C A47 at_39 (by decide) (pcY := 47) (by decide) (pcN := 42) rfl (fun _ => ?_) (fun z => absurd (by decide) z)
    refine ow_iload C A47 at_47 rfl rfl ?_
    refine ow_iconst C A47 at_49 (v := 3) rfl rfl ?_
    refine ow_icmp_lt C A47 at_50 (by decide) (pcY := 58) (by decide) (pcN := 53) rfl (fun _ => ?_) (fun z => absurd (by decide) z)
    refine ow_iload C A47 at_58 rfl rfl ?_
    refine ow_ineg C A47 at_60 rfl ?_
    refine ow_i2l C A47 at_61 rfl ?_
    refine ow_lstore C A47 at_62 (Ls' := #[.val (.long q1), .second, .val (.int p3), .val (.long q4), .second, .val (.ref b4), .val (.ref b18), .val (.int (1 : Int32)), .val (.long (-(1 : Int32)).toInt64), .second, .unset, .unset]) rfl rfl ?_
    refine ow_iload C A47 at_64 rfl rfl ?_
    refine ow_i2l C A47 at_66 rfl ?_
    refine ow_lstore C A47 at_67 (Ls' := #[.val (.long q1), .second, .val (.int p3), .val (.long q4), .second, .val (.ref b4), .val (.ref b18), .val (.int (1 : Int32)), .val (.long (-(1 : Int32)).toInt64), .second, .val (.long (1 : Int32).toInt64), .second]) rfl rfl ?_
    refine ow_aload C A47 at_69 rfl rfl rfl ?_
    refine ow_callV C A47 (argsL := []) xE48 (rm_admitted l Z a0 hw b4 q1 (0 - 1) (0 + 1) T47.heap ⟨xE48, xS48, xA48, xB48, xF48⟩ []) tw_20 tw_21 (ow_nf hw tw_23) tw_23 tw_22 tw_2 tw_24 (by decide) all0 (by decide) (by decide) (ck' := 2) (sk' := 8) rfl rfl (by decide) (by decide) rfl (lenOf pd_1 rfl) (S := []) rfl (W := 0) (Nat.le_of_eq rfl) at_71 rfl ?_
    intro T49 v49 K49 hQ49 A49
    obtain ⟨rfl, e49⟩ := hQ49
    rw [e49] at A49 K49
    show OwnWP _ _ _ _ _ _ _ _ _ T49 (mkF m 74 #[.val (.long q1), .second, .val (.int p3), .val (.long q4), .second, .val (.ref b4), .val (.ref b18), .val (.int (1 : Int32)), .val (.long (-(1 : Int32)).toInt64), .second, .val (.long (1 : Int32).toInt64), .second] [(.long (0 - 1))])
    refine ow_lload C A49 at_74 rfl rfl ?_
    refine ow_lcmp_ne C A49 at_76 rfl at_77 (by decide) (pcY := 143) (by decide) (pcN := 80) rfl (fun z => absurd (by decide) z) (fun _ => ?_)
    refine ow_aload C A49 at_80 rfl rfl rfl ?_
    refine ow_callV C A49 (argsL := []) xE48 (rm_blocked l Z a0 hw b4 q1 (0 - 1) (0 + 1) T47.heap ⟨xE48, xS48, xA48, xB48, xF48⟩ []) tw_25 tw_26 (ow_nf hw tw_28) tw_28 tw_27 tw_2 tw_29 (by decide) all0 (by decide) (by decide) (ck' := 2) (sk' := 8) rfl rfl (by decide) (by decide) rfl (lenOf pd_1 rfl) (S := []) rfl (W := 0) (Nat.le_of_eq rfl) at_82 rfl ?_
    intro T50 v50 K50 hQ50 A50
    obtain ⟨rfl, e50⟩ := hQ50
    rw [e50] at A50 K50
    show OwnWP _ _ _ _ _ _ _ _ _ T50 (mkF m 85 #[.val (.long q1), .second, .val (.int p3), .val (.long q4), .second, .val (.ref b4), .val (.ref b18), .val (.int (1 : Int32)), .val (.long (-(1 : Int32)).toInt64), .second, .val (.long (1 : Int32).toInt64), .second] [(.long (0 + 1))])
    refine ow_lload C A50 at_85 rfl rfl ?_
    refine ow_lcmp_ne C A50 at_87 rfl at_88 (by decide) (pcY := 143) (by decide) (pcN := 91) rfl (fun z => absurd (by decide) z) (fun _ => ?_)
    refine ow_aload C A50 at_91 rfl rfl rfl ?_
    refine ow_callV C A50 (argsL := []) xE48 (rm_start l Z a0 hw b4 q1 (0 - 1) (0 + 1) T47.heap ⟨xE48, xS48, xA48, xB48, xF48⟩ []) tw_30 tw_31 (ow_nf hw tw_33) tw_33 tw_32 tw_2 tw_34 (by decide) all0 (by decide) (by decide) (ck' := 2) (sk' := 8) rfl rfl (by decide) (by decide) rfl (lenOf pd_1 rfl) (S := []) rfl (W := 0) (Nat.le_of_eq rfl) at_93 rfl ?_
    intro T51 v51 K51 hQ51 A51
    obtain ⟨rfl, e51⟩ := hQ51
    rw [e51] at A51 K51
    show OwnWP _ _ _ _ _ _ _ _ _ T51 (mkF m 96 #[.val (.long q1), .second, .val (.int p3), .val (.long q4), .second, .val (.ref b4), .val (.ref b18), .val (.int (1 : Int32)), .val (.long (-(1 : Int32)).toInt64), .second, .val (.long (1 : Int32).toInt64), .second] [(.long q1)])
    refine ow_lloadN C A51 at_96 rfl rfl ?_
    refine ow_lcmp_ne C A51 at_97 rfl at_98 (by decide) (pcY := 143) (by decide) (pcN := 101) rfl (fun z => absurd (rfl) z) (fun _ => ?_)
    refine ow_aload C A51 at_101 rfl rfl rfl ?_
    refine ow_callV C A51 (argsL := []) xE48 (rm_former l Z a0 hw b4 q1 (0 - 1) (0 + 1) T47.heap ⟨xE48, xS48, xA48, xB48, xF48⟩ []) tw_35 tw_36 (ow_nf hw tw_38) tw_38 tw_37 tw_2 tw_39 (by decide) all0 (by decide) (by decide) (ck' := 2) (sk' := 8) rfl rfl (by decide) (by decide) rfl (lenOf pd_2 rfl) (S := []) rfl (W := 0) (Nat.le_of_eq rfl) at_103 rfl ?_
    intro T52 v52 K52 hQ52 A52
    obtain ⟨rfl, e52⟩ := hQ52
    rw [e52] at A52 K52
    show OwnWP _ _ _ _ _ _ _ _ _ T52 (mkF m 106 #[.val (.long q1), .second, .val (.int p3), .val (.long q4), .second, .val (.ref b4), .val (.ref b18), .val (.int (1 : Int32)), .val (.long (-(1 : Int32)).toInt64), .second, .val (.long (1 : Int32).toInt64), .second] [.null])
    refine ow_ifnonnullNo C A52 at_106 rfl ?_
    refine ow_aload C A52 at_109 rfl rfl rfl ?_
    have f53 := (xE29.keep K47)
    have f54 := (xS29.keep K47 (ninS (Ne.symm ne23) nin0))
    have f55 := (xA29.keep K47 (ninS (Ne.symm ne23) nin0))
    have f56 := (xB29.keep K47 (ninS (Ne.symm ne23) nin0))
    have f57 := (xF29.keep K47 (ninS (Ne.symm ne23) nin0))
    refine ow_callV C A52 (argsL := []) f53 (rm_admitted l Z a0 hw b18 q4 0 0 T47.heap ⟨f53, f54, f55, f56, f57⟩ []) tw_20 tw_21 (ow_nf hw tw_23) tw_23 tw_22 tw_2 tw_24 (by decide) all0 (by decide) (by decide) (ck' := 2) (sk' := 8) rfl rfl (by decide) (by decide) rfl (lenOf pd_1 rfl) (S := []) rfl (W := 0) (Nat.le_of_eq rfl) at_111 rfl ?_
    intro T58 v58 K58 hQ58 A58
    obtain ⟨rfl, e58⟩ := hQ58
    rw [e58] at A58 K58
    show OwnWP _ _ _ _ _ _ _ _ _ T58 (mkF m 114 #[.val (.long q1), .second, .val (.int p3), .val (.long q4), .second, .val (.ref b4), .val (.ref b18), .val (.int (1 : Int32)), .val (.long (-(1 : Int32)).toInt64), .second, .val (.long (1 : Int32).toInt64), .second] [(.long 0)])
    refine ow_lconst C A58 at_114 (v := 0) rfl rfl ?_
    refine ow_lcmp_ne C A58 at_115 rfl at_116 (by decide) (pcY := 143) (by decide) (pcN := 119) rfl (fun z => absurd (rfl) z) (fun _ => ?_)
    refine ow_aload C A58 at_119 rfl rfl rfl ?_
    refine ow_callV C A58 (argsL := []) f53 (rm_blocked l Z a0 hw b18 q4 0 0 T47.heap ⟨f53, f54, f55, f56, f57⟩ []) tw_25 tw_26 (ow_nf hw tw_28) tw_28 tw_27 tw_2 tw_29 (by decide) all0 (by decide) (by decide) (ck' := 2) (sk' := 8) rfl rfl (by decide) (by decide) rfl (lenOf pd_1 rfl) (S := []) rfl (W := 0) (Nat.le_of_eq rfl) at_121 rfl ?_
    intro T59 v59 K59 hQ59 A59
    obtain ⟨rfl, e59⟩ := hQ59
    rw [e59] at A59 K59
    show OwnWP _ _ _ _ _ _ _ _ _ T59 (mkF m 124 #[.val (.long q1), .second, .val (.int p3), .val (.long q4), .second, .val (.ref b4), .val (.ref b18), .val (.int (1 : Int32)), .val (.long (-(1 : Int32)).toInt64), .second, .val (.long (1 : Int32).toInt64), .second] [(.long 0)])
    refine ow_lconst C A59 at_124 (v := 0) rfl rfl ?_
    refine ow_lcmp_ne C A59 at_125 rfl at_126 (by decide) (pcY := 143) (by decide) (pcN := 129) rfl (fun z => absurd (rfl) z) (fun _ => ?_)
    refine ow_aload C A59 at_129 rfl rfl rfl ?_
    refine ow_callV C A59 (argsL := []) f53 (rm_start l Z a0 hw b18 q4 0 0 T47.heap ⟨f53, f54, f55, f56, f57⟩ []) tw_30 tw_31 (ow_nf hw tw_33) tw_33 tw_32 tw_2 tw_34 (by decide) all0 (by decide) (by decide) (ck' := 2) (sk' := 8) rfl rfl (by decide) (by decide) rfl (lenOf pd_1 rfl) (S := []) rfl (W := 0) (Nat.le_of_eq rfl) at_131 rfl ?_
    intro T60 v60 K60 hQ60 A60
    obtain ⟨rfl, e60⟩ := hQ60
    rw [e60] at A60 K60
    show OwnWP _ _ _ _ _ _ _ _ _ T60 (mkF m 134 #[.val (.long q1), .second, .val (.int p3), .val (.long q4), .second, .val (.ref b4), .val (.ref b18), .val (.int (1 : Int32)), .val (.long (-(1 : Int32)).toInt64), .second, .val (.long (1 : Int32).toInt64), .second] [(.long q4)])
    refine ow_lloadN C A60 at_134 rfl rfl ?_
    refine ow_lcmp_ne C A60 at_135 rfl at_136 (by decide) (pcY := 143) (by decide) (pcN := 139) rfl (fun z => absurd (rfl) z) (fun _ => ?_)
    refine ow_iconst C A60 at_139 (v := 1) rfl rfl ?_
    refine ow_goto C A60 at_140 (by decide) (pc' := 144) (by decide) ?_
    refine ow_ireturn C A60 (t := .boolean) rfl rfl (by simp) at_144 (by decide) (by decide) ?_
    exact rfl
  · rw [hn]
    refine ow_istore C A28 at_23 (Ls' := #[.val (.long q1), .second, .val (.int p3), .val (.long q4), .second, .val (.ref b4), .val (.ref b18), .val (.int (2 : Int32)), .unset, .unset, .unset, .unset]) rfl rfl ?_
    refine ow_iload C A28 at_25 rfl rfl ?_
    refine ow_iconst C A28 at_27 (v := 1) rfl rfl ?_
    refine ow_icmp_lt C A28 at_28 (by decide) (pcY := 36) (by decide) (pcN := 31) rfl (fun z => absurd z (by decide)) (fun _ => ?_)
    refine ow_aload C A28 at_31 rfl rfl rfl ?_
    have f61 := ((xE14.ext E20).keep K28)
    have f62 := ((xS14.ext E20).keep K28 (ninS ne23 nin0))
    have f63 := ((xA14.ext E20).keep K28 (ninS ne23 nin0))
    have f64 := ((xB14.ext E20).keep K28 (ninS ne23 nin0))
    have f65 := ((xF14.ext E20).keep K28 (ninS ne23 nin0))
    refine ow_callV C A28 (argsL := []) f61 (rm_withdraw l Z a0 hw b4 q1 0 0 T28.heap ⟨f61, f62, f63, f64, f65⟩ []) tw_11 tw_12 (ow_nf hw tw_14) tw_14 tw_13 tw_2 tw_15 (by decide) (allS ows_b4 all0) (by decide) (by decide) (ck' := 2) (sk' := 8) rfl rfl (by decide) (by decide) rfl (lenOf pd_3 rfl) (S := []) rfl (W := 0) (Nat.le_of_eq rfl) at_33 rfl ?_
    intro T66 v66 K66 hQ66 A66
    obtain ⟨rfl, O66⟩ := hQ66
    show OwnWP _ _ _ _ _ _ _ _ _ T66 (mkF m 36 #[.val (.long q1), .second, .val (.int p3), .val (.long q4), .second, .val (.ref b4), .val (.ref b18), .val (.int (2 : Int32)), .unset, .unset, .unset, .unset] [])
    obtain ⟨xE67, xS67, xA67, xB67, xF67⟩ := O66
    refine ow_iload C A66 at_36 rfl rfl ?_
    refine ow_iconst C A66 at_38 (v := 2) rfl rfl ?_
    refine ow_icmp_lt C A66 at_39 (by decide) (pcY := 47) (by decide) (pcN := 42) rfl (fun z => absurd z (by decide)) (fun _ => ?_)
    refine ow_aload C A66 at_42 rfl rfl rfl ?_
    refine ow_callV C A66 (argsL := []) xE67 (rm_withdraw l Z a0 hw b4 q1 (0 - 1) (0 + 1) T66.heap ⟨xE67, xS67, xA67, xB67, xF67⟩ []) tw_11 tw_12 (ow_nf hw tw_14) tw_14 tw_13 tw_2 tw_15 (by decide) (allS ows_b4 all0) (by decide) (by decide) (ck' := 2) (sk' := 8) rfl rfl (by decide) (by decide) rfl (lenOf pd_3 rfl) (S := []) rfl (W := 0) (Nat.le_of_eq rfl) at_44 rfl ?_
    intro T68 v68 K68 hQ68 A68
    obtain ⟨rfl, O68⟩ := hQ68
    show OwnWP _ _ _ _ _ _ _ _ _ T68 (mkF m 47 #[.val (.long q1), .second, .val (.int p3), .val (.long q4), .second, .val (.ref b4), .val (.ref b18), .val (.int (2 : Int32)), .unset, .unset, .unset, .unset] [])
    obtain ⟨xE69, xS69, xA69, xB69, xF69⟩ := O68
    refine ow_iload C A68 at_47 rfl rfl ?_
    refine ow_iconst C A68 at_49 (v := 3) rfl rfl ?_
    refine ow_icmp_lt C A68 at_50 (by decide) (pcY := 58) (by decide) (pcN := 53) rfl (fun _ => ?_) (fun z => absurd (by decide) z)
    refine ow_iload C A68 at_58 rfl rfl ?_
    refine ow_ineg C A68 at_60 rfl ?_
    refine ow_i2l C A68 at_61 rfl ?_
    refine ow_lstore C A68 at_62 (Ls' := #[.val (.long q1), .second, .val (.int p3), .val (.long q4), .second, .val (.ref b4), .val (.ref b18), .val (.int (2 : Int32)), .val (.long (-(2 : Int32)).toInt64), .second, .unset, .unset]) rfl rfl ?_
    refine ow_iload C A68 at_64 rfl rfl ?_
    refine ow_i2l C A68 at_66 rfl ?_
    refine ow_lstore C A68 at_67 (Ls' := #[.val (.long q1), .second, .val (.int p3), .val (.long q4), .second, .val (.ref b4), .val (.ref b18), .val (.int (2 : Int32)), .val (.long (-(2 : Int32)).toInt64), .second, .val (.long (2 : Int32).toInt64), .second]) rfl rfl ?_
    refine ow_aload C A68 at_69 rfl rfl rfl ?_
    refine ow_callV C A68 (argsL := []) xE69 (rm_admitted l Z a0 hw b4 q1 ((0 - 1) - 1) ((0 + 1) + 1) T68.heap ⟨xE69, xS69, xA69, xB69, xF69⟩ []) tw_20 tw_21 (ow_nf hw tw_23) tw_23 tw_22 tw_2 tw_24 (by decide) all0 (by decide) (by decide) (ck' := 2) (sk' := 8) rfl rfl (by decide) (by decide) rfl (lenOf pd_1 rfl) (S := []) rfl (W := 0) (Nat.le_of_eq rfl) at_71 rfl ?_
    intro T70 v70 K70 hQ70 A70
    obtain ⟨rfl, e70⟩ := hQ70
    rw [e70] at A70 K70
    show OwnWP _ _ _ _ _ _ _ _ _ T70 (mkF m 74 #[.val (.long q1), .second, .val (.int p3), .val (.long q4), .second, .val (.ref b4), .val (.ref b18), .val (.int (2 : Int32)), .val (.long (-(2 : Int32)).toInt64), .second, .val (.long (2 : Int32).toInt64), .second] [(.long ((0 - 1) - 1))])
    refine ow_lload C A70 at_74 rfl rfl ?_
    refine ow_lcmp_ne C A70 at_76 rfl at_77 (by decide) (pcY := 143) (by decide) (pcN := 80) rfl (fun z => absurd (by decide) z) (fun _ => ?_)
    refine ow_aload C A70 at_80 rfl rfl rfl ?_
    refine ow_callV C A70 (argsL := []) xE69 (rm_blocked l Z a0 hw b4 q1 ((0 - 1) - 1) ((0 + 1) + 1) T68.heap ⟨xE69, xS69, xA69, xB69, xF69⟩ []) tw_25 tw_26 (ow_nf hw tw_28) tw_28 tw_27 tw_2 tw_29 (by decide) all0 (by decide) (by decide) (ck' := 2) (sk' := 8) rfl rfl (by decide) (by decide) rfl (lenOf pd_1 rfl) (S := []) rfl (W := 0) (Nat.le_of_eq rfl) at_82 rfl ?_
    intro T71 v71 K71 hQ71 A71
    obtain ⟨rfl, e71⟩ := hQ71
    rw [e71] at A71 K71
    show OwnWP _ _ _ _ _ _ _ _ _ T71 (mkF m 85 #[.val (.long q1), .second, .val (.int p3), .val (.long q4), .second, .val (.ref b4), .val (.ref b18), .val (.int (2 : Int32)), .val (.long (-(2 : Int32)).toInt64), .second, .val (.long (2 : Int32).toInt64), .second] [(.long ((0 + 1) + 1))])
    refine ow_lload C A71 at_85 rfl rfl ?_
    refine ow_lcmp_ne C A71 at_87 rfl at_88 (by decide) (pcY := 143) (by decide) (pcN := 91) rfl (fun z => absurd (by decide) z) (fun _ => ?_)
    refine ow_aload C A71 at_91 rfl rfl rfl ?_
    refine ow_callV C A71 (argsL := []) xE69 (rm_start l Z a0 hw b4 q1 ((0 - 1) - 1) ((0 + 1) + 1) T68.heap ⟨xE69, xS69, xA69, xB69, xF69⟩ []) tw_30 tw_31 (ow_nf hw tw_33) tw_33 tw_32 tw_2 tw_34 (by decide) all0 (by decide) (by decide) (ck' := 2) (sk' := 8) rfl rfl (by decide) (by decide) rfl (lenOf pd_1 rfl) (S := []) rfl (W := 0) (Nat.le_of_eq rfl) at_93 rfl ?_
    intro T72 v72 K72 hQ72 A72
    obtain ⟨rfl, e72⟩ := hQ72
    rw [e72] at A72 K72
    show OwnWP _ _ _ _ _ _ _ _ _ T72 (mkF m 96 #[.val (.long q1), .second, .val (.int p3), .val (.long q4), .second, .val (.ref b4), .val (.ref b18), .val (.int (2 : Int32)), .val (.long (-(2 : Int32)).toInt64), .second, .val (.long (2 : Int32).toInt64), .second] [(.long q1)])
    refine ow_lloadN C A72 at_96 rfl rfl ?_
    refine ow_lcmp_ne C A72 at_97 rfl at_98 (by decide) (pcY := 143) (by decide) (pcN := 101) rfl (fun z => absurd (rfl) z) (fun _ => ?_)
    refine ow_aload C A72 at_101 rfl rfl rfl ?_
    refine ow_callV C A72 (argsL := []) xE69 (rm_former l Z a0 hw b4 q1 ((0 - 1) - 1) ((0 + 1) + 1) T68.heap ⟨xE69, xS69, xA69, xB69, xF69⟩ []) tw_35 tw_36 (ow_nf hw tw_38) tw_38 tw_37 tw_2 tw_39 (by decide) all0 (by decide) (by decide) (ck' := 2) (sk' := 8) rfl rfl (by decide) (by decide) rfl (lenOf pd_2 rfl) (S := []) rfl (W := 0) (Nat.le_of_eq rfl) at_103 rfl ?_
    intro T73 v73 K73 hQ73 A73
    obtain ⟨rfl, e73⟩ := hQ73
    rw [e73] at A73 K73
    show OwnWP _ _ _ _ _ _ _ _ _ T73 (mkF m 106 #[.val (.long q1), .second, .val (.int p3), .val (.long q4), .second, .val (.ref b4), .val (.ref b18), .val (.int (2 : Int32)), .val (.long (-(2 : Int32)).toInt64), .second, .val (.long (2 : Int32).toInt64), .second] [.null])
    refine ow_ifnonnullNo C A73 at_106 rfl ?_
    refine ow_aload C A73 at_109 rfl rfl rfl ?_
    have f74 := ((xE29.keep K66).keep K68)
    have f75 := ((xS29.keep K66 (ninS (Ne.symm ne23) nin0)).keep K68 (ninS (Ne.symm ne23) nin0))
    have f76 := ((xA29.keep K66 (ninS (Ne.symm ne23) nin0)).keep K68 (ninS (Ne.symm ne23) nin0))
    have f77 := ((xB29.keep K66 (ninS (Ne.symm ne23) nin0)).keep K68 (ninS (Ne.symm ne23) nin0))
    have f78 := ((xF29.keep K66 (ninS (Ne.symm ne23) nin0)).keep K68 (ninS (Ne.symm ne23) nin0))
    refine ow_callV C A73 (argsL := []) f74 (rm_admitted l Z a0 hw b18 q4 0 0 T68.heap ⟨f74, f75, f76, f77, f78⟩ []) tw_20 tw_21 (ow_nf hw tw_23) tw_23 tw_22 tw_2 tw_24 (by decide) all0 (by decide) (by decide) (ck' := 2) (sk' := 8) rfl rfl (by decide) (by decide) rfl (lenOf pd_1 rfl) (S := []) rfl (W := 0) (Nat.le_of_eq rfl) at_111 rfl ?_
    intro T79 v79 K79 hQ79 A79
    obtain ⟨rfl, e79⟩ := hQ79
    rw [e79] at A79 K79
    show OwnWP _ _ _ _ _ _ _ _ _ T79 (mkF m 114 #[.val (.long q1), .second, .val (.int p3), .val (.long q4), .second, .val (.ref b4), .val (.ref b18), .val (.int (2 : Int32)), .val (.long (-(2 : Int32)).toInt64), .second, .val (.long (2 : Int32).toInt64), .second] [(.long 0)])
    refine ow_lconst C A79 at_114 (v := 0) rfl rfl ?_
    refine ow_lcmp_ne C A79 at_115 rfl at_116 (by decide) (pcY := 143) (by decide) (pcN := 119) rfl (fun z => absurd (rfl) z) (fun _ => ?_)
    refine ow_aload C A79 at_119 rfl rfl rfl ?_
    refine ow_callV C A79 (argsL := []) f74 (rm_blocked l Z a0 hw b18 q4 0 0 T68.heap ⟨f74, f75, f76, f77, f78⟩ []) tw_25 tw_26 (ow_nf hw tw_28) tw_28 tw_27 tw_2 tw_29 (by decide) all0 (by decide) (by decide) (ck' := 2) (sk' := 8) rfl rfl (by decide) (by decide) rfl (lenOf pd_1 rfl) (S := []) rfl (W := 0) (Nat.le_of_eq rfl) at_121 rfl ?_
    intro T80 v80 K80 hQ80 A80
    obtain ⟨rfl, e80⟩ := hQ80
    rw [e80] at A80 K80
    show OwnWP _ _ _ _ _ _ _ _ _ T80 (mkF m 124 #[.val (.long q1), .second, .val (.int p3), .val (.long q4), .second, .val (.ref b4), .val (.ref b18), .val (.int (2 : Int32)), .val (.long (-(2 : Int32)).toInt64), .second, .val (.long (2 : Int32).toInt64), .second] [(.long 0)])
    refine ow_lconst C A80 at_124 (v := 0) rfl rfl ?_
    refine ow_lcmp_ne C A80 at_125 rfl at_126 (by decide) (pcY := 143) (by decide) (pcN := 129) rfl (fun z => absurd (rfl) z) (fun _ => ?_)
    refine ow_aload C A80 at_129 rfl rfl rfl ?_
    refine ow_callV C A80 (argsL := []) f74 (rm_start l Z a0 hw b18 q4 0 0 T68.heap ⟨f74, f75, f76, f77, f78⟩ []) tw_30 tw_31 (ow_nf hw tw_33) tw_33 tw_32 tw_2 tw_34 (by decide) all0 (by decide) (by decide) (ck' := 2) (sk' := 8) rfl rfl (by decide) (by decide) rfl (lenOf pd_1 rfl) (S := []) rfl (W := 0) (Nat.le_of_eq rfl) at_131 rfl ?_
    intro T81 v81 K81 hQ81 A81
    obtain ⟨rfl, e81⟩ := hQ81
    rw [e81] at A81 K81
    show OwnWP _ _ _ _ _ _ _ _ _ T81 (mkF m 134 #[.val (.long q1), .second, .val (.int p3), .val (.long q4), .second, .val (.ref b4), .val (.ref b18), .val (.int (2 : Int32)), .val (.long (-(2 : Int32)).toInt64), .second, .val (.long (2 : Int32).toInt64), .second] [(.long q4)])
    refine ow_lloadN C A81 at_134 rfl rfl ?_
    refine ow_lcmp_ne C A81 at_135 rfl at_136 (by decide) (pcY := 143) (by decide) (pcN := 139) rfl (fun z => absurd (rfl) z) (fun _ => ?_)
    refine ow_iconst C A81 at_139 (v := 1) rfl rfl ?_
    refine ow_goto C A81 at_140 (by decide) (pc' := 144) (by decide) ?_
    refine ow_ireturn C A81 (t := .boolean) rfl rfl (by simp) at_144 (by decide) (by decide) ?_
    exact rfl
  · rw [hn]
    refine ow_istore C A28 at_23 (Ls' := #[.val (.long q1), .second, .val (.int p3), .val (.long q4), .second, .val (.ref b4), .val (.ref b18), .val (.int (3 : Int32)), .unset, .unset, .unset, .unset]) rfl rfl ?_
    refine ow_iload C A28 at_25 rfl rfl ?_
    refine ow_iconst C A28 at_27 (v := 1) rfl rfl ?_
    refine ow_icmp_lt C A28 at_28 (by decide) (pcY := 36) (by decide) (pcN := 31) rfl (fun z => absurd z (by decide)) (fun _ => ?_)
    refine ow_aload C A28 at_31 rfl rfl rfl ?_
    have f82 := ((xE14.ext E20).keep K28)
    have f83 := ((xS14.ext E20).keep K28 (ninS ne23 nin0))
    have f84 := ((xA14.ext E20).keep K28 (ninS ne23 nin0))
    have f85 := ((xB14.ext E20).keep K28 (ninS ne23 nin0))
    have f86 := ((xF14.ext E20).keep K28 (ninS ne23 nin0))
    refine ow_callV C A28 (argsL := []) f82 (rm_withdraw l Z a0 hw b4 q1 0 0 T28.heap ⟨f82, f83, f84, f85, f86⟩ []) tw_11 tw_12 (ow_nf hw tw_14) tw_14 tw_13 tw_2 tw_15 (by decide) (allS ows_b4 all0) (by decide) (by decide) (ck' := 2) (sk' := 8) rfl rfl (by decide) (by decide) rfl (lenOf pd_3 rfl) (S := []) rfl (W := 0) (Nat.le_of_eq rfl) at_33 rfl ?_
    intro T87 v87 K87 hQ87 A87
    obtain ⟨rfl, O87⟩ := hQ87
    show OwnWP _ _ _ _ _ _ _ _ _ T87 (mkF m 36 #[.val (.long q1), .second, .val (.int p3), .val (.long q4), .second, .val (.ref b4), .val (.ref b18), .val (.int (3 : Int32)), .unset, .unset, .unset, .unset] [])
    obtain ⟨xE88, xS88, xA88, xB88, xF88⟩ := O87
    refine ow_iload C A87 at_36 rfl rfl ?_
    refine ow_iconst C A87 at_38 (v := 2) rfl rfl ?_
    refine ow_icmp_lt C A87 at_39 (by decide) (pcY := 47) (by decide) (pcN := 42) rfl (fun z => absurd z (by decide)) (fun _ => ?_)
    refine ow_aload C A87 at_42 rfl rfl rfl ?_
    refine ow_callV C A87 (argsL := []) xE88 (rm_withdraw l Z a0 hw b4 q1 (0 - 1) (0 + 1) T87.heap ⟨xE88, xS88, xA88, xB88, xF88⟩ []) tw_11 tw_12 (ow_nf hw tw_14) tw_14 tw_13 tw_2 tw_15 (by decide) (allS ows_b4 all0) (by decide) (by decide) (ck' := 2) (sk' := 8) rfl rfl (by decide) (by decide) rfl (lenOf pd_3 rfl) (S := []) rfl (W := 0) (Nat.le_of_eq rfl) at_44 rfl ?_
    intro T89 v89 K89 hQ89 A89
    obtain ⟨rfl, O89⟩ := hQ89
    show OwnWP _ _ _ _ _ _ _ _ _ T89 (mkF m 47 #[.val (.long q1), .second, .val (.int p3), .val (.long q4), .second, .val (.ref b4), .val (.ref b18), .val (.int (3 : Int32)), .unset, .unset, .unset, .unset] [])
    obtain ⟨xE90, xS90, xA90, xB90, xF90⟩ := O89
    refine ow_iload C A89 at_47 rfl rfl ?_
    refine ow_iconst C A89 at_49 (v := 3) rfl rfl ?_
    refine ow_icmp_lt C A89 at_50 (by decide) (pcY := 58) (by decide) (pcN := 53) rfl (fun z => absurd z (by decide)) (fun _ => ?_)
    refine ow_aload C A89 at_53 rfl rfl rfl ?_
    refine ow_callV C A89 (argsL := []) xE90 (rm_withdraw l Z a0 hw b4 q1 ((0 - 1) - 1) ((0 + 1) + 1) T89.heap ⟨xE90, xS90, xA90, xB90, xF90⟩ []) tw_11 tw_12 (ow_nf hw tw_14) tw_14 tw_13 tw_2 tw_15 (by decide) (allS ows_b4 all0) (by decide) (by decide) (ck' := 2) (sk' := 8) rfl rfl (by decide) (by decide) rfl (lenOf pd_3 rfl) (S := []) rfl (W := 0) (Nat.le_of_eq rfl) at_55 rfl ?_
    intro T91 v91 K91 hQ91 A91
    obtain ⟨rfl, O91⟩ := hQ91
    show OwnWP _ _ _ _ _ _ _ _ _ T91 (mkF m 58 #[.val (.long q1), .second, .val (.int p3), .val (.long q4), .second, .val (.ref b4), .val (.ref b18), .val (.int (3 : Int32)), .unset, .unset, .unset, .unset] [])
    obtain ⟨xE92, xS92, xA92, xB92, xF92⟩ := O91
    refine ow_iload C A91 at_58 rfl rfl ?_
    refine ow_ineg C A91 at_60 rfl ?_
    refine ow_i2l C A91 at_61 rfl ?_
    refine ow_lstore C A91 at_62 (Ls' := #[.val (.long q1), .second, .val (.int p3), .val (.long q4), .second, .val (.ref b4), .val (.ref b18), .val (.int (3 : Int32)), .val (.long (-(3 : Int32)).toInt64), .second, .unset, .unset]) rfl rfl ?_
    refine ow_iload C A91 at_64 rfl rfl ?_
    refine ow_i2l C A91 at_66 rfl ?_
    refine ow_lstore C A91 at_67 (Ls' := #[.val (.long q1), .second, .val (.int p3), .val (.long q4), .second, .val (.ref b4), .val (.ref b18), .val (.int (3 : Int32)), .val (.long (-(3 : Int32)).toInt64), .second, .val (.long (3 : Int32).toInt64), .second]) rfl rfl ?_
    refine ow_aload C A91 at_69 rfl rfl rfl ?_
    refine ow_callV C A91 (argsL := []) xE92 (rm_admitted l Z a0 hw b4 q1 (((0 - 1) - 1) - 1) (((0 + 1) + 1) + 1) T91.heap ⟨xE92, xS92, xA92, xB92, xF92⟩ []) tw_20 tw_21 (ow_nf hw tw_23) tw_23 tw_22 tw_2 tw_24 (by decide) all0 (by decide) (by decide) (ck' := 2) (sk' := 8) rfl rfl (by decide) (by decide) rfl (lenOf pd_1 rfl) (S := []) rfl (W := 0) (Nat.le_of_eq rfl) at_71 rfl ?_
    intro T93 v93 K93 hQ93 A93
    obtain ⟨rfl, e93⟩ := hQ93
    rw [e93] at A93 K93
    show OwnWP _ _ _ _ _ _ _ _ _ T93 (mkF m 74 #[.val (.long q1), .second, .val (.int p3), .val (.long q4), .second, .val (.ref b4), .val (.ref b18), .val (.int (3 : Int32)), .val (.long (-(3 : Int32)).toInt64), .second, .val (.long (3 : Int32).toInt64), .second] [(.long (((0 - 1) - 1) - 1))])
    refine ow_lload C A93 at_74 rfl rfl ?_
    refine ow_lcmp_ne C A93 at_76 rfl at_77 (by decide) (pcY := 143) (by decide) (pcN := 80) rfl (fun z => absurd (by decide) z) (fun _ => ?_)
    refine ow_aload C A93 at_80 rfl rfl rfl ?_
    refine ow_callV C A93 (argsL := []) xE92 (rm_blocked l Z a0 hw b4 q1 (((0 - 1) - 1) - 1) (((0 + 1) + 1) + 1) T91.heap ⟨xE92, xS92, xA92, xB92, xF92⟩ []) tw_25 tw_26 (ow_nf hw tw_28) tw_28 tw_27 tw_2 tw_29 (by decide) all0 (by decide) (by decide) (ck' := 2) (sk' := 8) rfl rfl (by decide) (by decide) rfl (lenOf pd_1 rfl) (S := []) rfl (W := 0) (Nat.le_of_eq rfl) at_82 rfl ?_
    intro T94 v94 K94 hQ94 A94
    obtain ⟨rfl, e94⟩ := hQ94
    rw [e94] at A94 K94
    show OwnWP _ _ _ _ _ _ _ _ _ T94 (mkF m 85 #[.val (.long q1), .second, .val (.int p3), .val (.long q4), .second, .val (.ref b4), .val (.ref b18), .val (.int (3 : Int32)), .val (.long (-(3 : Int32)).toInt64), .second, .val (.long (3 : Int32).toInt64), .second] [(.long (((0 + 1) + 1) + 1))])
    refine ow_lload C A94 at_85 rfl rfl ?_
    refine ow_lcmp_ne C A94 at_87 rfl at_88 (by decide) (pcY := 143) (by decide) (pcN := 91) rfl (fun z => absurd (by decide) z) (fun _ => ?_)
    refine ow_aload C A94 at_91 rfl rfl rfl ?_
    refine ow_callV C A94 (argsL := []) xE92 (rm_start l Z a0 hw b4 q1 (((0 - 1) - 1) - 1) (((0 + 1) + 1) + 1) T91.heap ⟨xE92, xS92, xA92, xB92, xF92⟩ []) tw_30 tw_31 (ow_nf hw tw_33) tw_33 tw_32 tw_2 tw_34 (by decide) all0 (by decide) (by decide) (ck' := 2) (sk' := 8) rfl rfl (by decide) (by decide) rfl (lenOf pd_1 rfl) (S := []) rfl (W := 0) (Nat.le_of_eq rfl) at_93 rfl ?_
    intro T95 v95 K95 hQ95 A95
    obtain ⟨rfl, e95⟩ := hQ95
    rw [e95] at A95 K95
    show OwnWP _ _ _ _ _ _ _ _ _ T95 (mkF m 96 #[.val (.long q1), .second, .val (.int p3), .val (.long q4), .second, .val (.ref b4), .val (.ref b18), .val (.int (3 : Int32)), .val (.long (-(3 : Int32)).toInt64), .second, .val (.long (3 : Int32).toInt64), .second] [(.long q1)])
    refine ow_lloadN C A95 at_96 rfl rfl ?_
    refine ow_lcmp_ne C A95 at_97 rfl at_98 (by decide) (pcY := 143) (by decide) (pcN := 101) rfl (fun z => absurd (rfl) z) (fun _ => ?_)
    refine ow_aload C A95 at_101 rfl rfl rfl ?_
    refine ow_callV C A95 (argsL := []) xE92 (rm_former l Z a0 hw b4 q1 (((0 - 1) - 1) - 1) (((0 + 1) + 1) + 1) T91.heap ⟨xE92, xS92, xA92, xB92, xF92⟩ []) tw_35 tw_36 (ow_nf hw tw_38) tw_38 tw_37 tw_2 tw_39 (by decide) all0 (by decide) (by decide) (ck' := 2) (sk' := 8) rfl rfl (by decide) (by decide) rfl (lenOf pd_2 rfl) (S := []) rfl (W := 0) (Nat.le_of_eq rfl) at_103 rfl ?_
    intro T96 v96 K96 hQ96 A96
    obtain ⟨rfl, e96⟩ := hQ96
    rw [e96] at A96 K96
    show OwnWP _ _ _ _ _ _ _ _ _ T96 (mkF m 106 #[.val (.long q1), .second, .val (.int p3), .val (.long q4), .second, .val (.ref b4), .val (.ref b18), .val (.int (3 : Int32)), .val (.long (-(3 : Int32)).toInt64), .second, .val (.long (3 : Int32).toInt64), .second] [.null])
    refine ow_ifnonnullNo C A96 at_106 rfl ?_
    refine ow_aload C A96 at_109 rfl rfl rfl ?_
    have f97 := (((xE29.keep K87).keep K89).keep K91)
    have f98 := (((xS29.keep K87 (ninS (Ne.symm ne23) nin0)).keep K89 (ninS (Ne.symm ne23) nin0)).keep K91 (ninS (Ne.symm ne23) nin0))
    have f99 := (((xA29.keep K87 (ninS (Ne.symm ne23) nin0)).keep K89 (ninS (Ne.symm ne23) nin0)).keep K91 (ninS (Ne.symm ne23) nin0))
    have f100 := (((xB29.keep K87 (ninS (Ne.symm ne23) nin0)).keep K89 (ninS (Ne.symm ne23) nin0)).keep K91 (ninS (Ne.symm ne23) nin0))
    have f101 := (((xF29.keep K87 (ninS (Ne.symm ne23) nin0)).keep K89 (ninS (Ne.symm ne23) nin0)).keep K91 (ninS (Ne.symm ne23) nin0))
    refine ow_callV C A96 (argsL := []) f97 (rm_admitted l Z a0 hw b18 q4 0 0 T91.heap ⟨f97, f98, f99, f100, f101⟩ []) tw_20 tw_21 (ow_nf hw tw_23) tw_23 tw_22 tw_2 tw_24 (by decide) all0 (by decide) (by decide) (ck' := 2) (sk' := 8) rfl rfl (by decide) (by decide) rfl (lenOf pd_1 rfl) (S := []) rfl (W := 0) (Nat.le_of_eq rfl) at_111 rfl ?_
    intro T102 v102 K102 hQ102 A102
    obtain ⟨rfl, e102⟩ := hQ102
    rw [e102] at A102 K102
    show OwnWP _ _ _ _ _ _ _ _ _ T102 (mkF m 114 #[.val (.long q1), .second, .val (.int p3), .val (.long q4), .second, .val (.ref b4), .val (.ref b18), .val (.int (3 : Int32)), .val (.long (-(3 : Int32)).toInt64), .second, .val (.long (3 : Int32).toInt64), .second] [(.long 0)])
    refine ow_lconst C A102 at_114 (v := 0) rfl rfl ?_
    refine ow_lcmp_ne C A102 at_115 rfl at_116 (by decide) (pcY := 143) (by decide) (pcN := 119) rfl (fun z => absurd (rfl) z) (fun _ => ?_)
    refine ow_aload C A102 at_119 rfl rfl rfl ?_
    refine ow_callV C A102 (argsL := []) f97 (rm_blocked l Z a0 hw b18 q4 0 0 T91.heap ⟨f97, f98, f99, f100, f101⟩ []) tw_25 tw_26 (ow_nf hw tw_28) tw_28 tw_27 tw_2 tw_29 (by decide) all0 (by decide) (by decide) (ck' := 2) (sk' := 8) rfl rfl (by decide) (by decide) rfl (lenOf pd_1 rfl) (S := []) rfl (W := 0) (Nat.le_of_eq rfl) at_121 rfl ?_
    intro T103 v103 K103 hQ103 A103
    obtain ⟨rfl, e103⟩ := hQ103
    rw [e103] at A103 K103
    show OwnWP _ _ _ _ _ _ _ _ _ T103 (mkF m 124 #[.val (.long q1), .second, .val (.int p3), .val (.long q4), .second, .val (.ref b4), .val (.ref b18), .val (.int (3 : Int32)), .val (.long (-(3 : Int32)).toInt64), .second, .val (.long (3 : Int32).toInt64), .second] [(.long 0)])
    refine ow_lconst C A103 at_124 (v := 0) rfl rfl ?_
    refine ow_lcmp_ne C A103 at_125 rfl at_126 (by decide) (pcY := 143) (by decide) (pcN := 129) rfl (fun z => absurd (rfl) z) (fun _ => ?_)
    refine ow_aload C A103 at_129 rfl rfl rfl ?_
    refine ow_callV C A103 (argsL := []) f97 (rm_start l Z a0 hw b18 q4 0 0 T91.heap ⟨f97, f98, f99, f100, f101⟩ []) tw_30 tw_31 (ow_nf hw tw_33) tw_33 tw_32 tw_2 tw_34 (by decide) all0 (by decide) (by decide) (ck' := 2) (sk' := 8) rfl rfl (by decide) (by decide) rfl (lenOf pd_1 rfl) (S := []) rfl (W := 0) (Nat.le_of_eq rfl) at_131 rfl ?_
    intro T104 v104 K104 hQ104 A104
    obtain ⟨rfl, e104⟩ := hQ104
    rw [e104] at A104 K104
    show OwnWP _ _ _ _ _ _ _ _ _ T104 (mkF m 134 #[.val (.long q1), .second, .val (.int p3), .val (.long q4), .second, .val (.ref b4), .val (.ref b18), .val (.int (3 : Int32)), .val (.long (-(3 : Int32)).toInt64), .second, .val (.long (3 : Int32).toInt64), .second] [(.long q4)])
    refine ow_lloadN C A104 at_134 rfl rfl ?_
    refine ow_lcmp_ne C A104 at_135 rfl at_136 (by decide) (pcY := 143) (by decide) (pcN := 139) rfl (fun z => absurd (rfl) z) (fun _ => ?_)
    refine ow_iconst C A104 at_139 (v := 1) rfl rfl ?_
    refine ow_goto C A104 at_140 (by decide) (pc' := 144) (by decide) ?_
    refine ow_ireturn C A104 (t := .boolean) rfl rfl (by simp) at_144 (by decide) (by decide) ?_
    exact rfl
set_option maxRecDepth 65536 in
set_option maxHeartbeats 40000000 in
theorem comes_1 {Post : Tables → Env → Array Value → State → Outcome → State → Prop} (hpost : ∀ tb e args s v u, (limb_1_1.after args s (.returned v) u = true ∧ limb_1_2.after args s (.returned v) u = true ∧ True) → FrameEnd s (.returned v) u (Jvm.fieldLocs frame_1_writes args s ++ Jvm.arrayLocs frame_1_arrays args s ++ Jvm.staticLocs frame_1_statics s) 16 128 → Post tb e args s (.returned v) u) :
    ArmFor flags0 classFile x code maxLocals ret World_1 tables_1 room_1 Calls_1 rest_1 Pre_1 Post := by
  intro l hfl _ _ p e ha hc hk s m args below hf hA hF happ hP
  obtain ⟨hcalls, hrest, hpre⟩ := hP
  obtain ⟨-, -, -, hnamed, -, -, -, hat⟩ := (Spec.applies_iff hf).mp happ
  obtain ⟨hg, hn⟩ := and_e (Cond.before_iff.mp (show (Jvm.Cond.and given_1 narrow_1).before args s = true from hpre))
  obtain ⟨gg1, gg2⟩ := and_e hg
  obtain ⟨gg3, gg4⟩ := and_e gg2
  obtain ⟨gg5, gg6⟩ := and_e gg4
  obtain ⟨w0, w1, w2, rfl⟩ : ∃ w0 w1 w2 : Value, args = #[w0, w1, w2] := by
    have hs : args.size = 3 := by simpa [Cond.value, given_1] using gg1
    obtain ⟨L⟩ := args
    match L, hs with
    | [w0, w1, w2], _ => exact ⟨w0, w1, w2, rfl⟩
  have hw := fun d (hd : d ∈ tables_1) => atoms_spec (ws := Jvm.Cond.code x code maxLocals ret :: tables_1) hat d (List.mem_cons_of_mem _ hd)
  have hfit : Fit s := fun {y c} hc i hi => by
    obtain ⟨ha, rfl⟩ := Array.getElem?_eq_some_iff.mp hc
    have q := List.all_eq_true.mp ((Array.all_eq_true_iff_forall_mem.mp hF) _ (Array.getElem_mem ha)) i (List.mem_range.mpr hi)
    simpa [Array.getElem?_eq_getElem hi] using q
  obtain ⟨i0, ei0⟩ := isL_v gg3
  obtain rfl : w0 = (.long i0) := Option.some.inj ei0
  obtain ⟨i1, ei1⟩ := is_v gg5
  obtain rfl : w1 = (.int i1) := Option.some.inj ei1
  obtain ⟨i2, ei2⟩ := isL_v gg6
  obtain rfl : w2 = (.long i2) := Option.some.inj ei2
  obtain ⟨n, o, h1, h2, h3, _, L, rfl, ⟨N, -, rfl⟩, hq⟩ := rm0 l s _ hw i0 i1 i2 s.heap  tables_1 p e ha hc hk s m _ below hf ((Spec.applies_iff_loose hf).mp happ).1 ⟨rfl, State.Warmed39.refl s, rfl⟩ trivial
  refine ⟨n, _, h1, h2, h3, hpost _ _ _ _ _ _ ⟨Cond.after_iff.mpr rfl, Cond.after_iff.mpr (eq_i res_at (Term.int_eval (1)) rfl), trivial⟩ ⟨hq.1, hq.2.1, (hq.2.2.sift fun y hy => Or.inr ((N y hy).elim (fun q => nomatch q) id)).mono (by decide) (by decide)⟩⟩
theorem main_1_1 : Claimed_1_1 := comes_1 fun _ _ _ _ _ _ h hF => ⟨h.1, hF⟩
theorem main_1_2 : Claimed_1_2 := comes_1 fun _ _ _ _ _ _ h hF => ⟨h.2.1, hF⟩
end Jvm.Pilot.@@N@@
namespace Jvm.Pilot.@@N@@
open Jvm Jvm.ClassFile Sem Op Lib Jvm.Free Jvm.Stand Jvm.Pilot.@@N@@.Jvm.D
/-! MADE BY PROGRAM (witnessworld.py) out of the Statement's table words and the real class files: 9 classes; the members and pool entries that the words name. The judged class is class 1, her method 1. -/
namespace start1
open Jvm.ClassFile
def u (s : String) : CpInfo := .utf8 (stringToUtf16 s)
/-- a pool by its gaps: so many unusable entries, then the entry; so many at the end -/
def gap : Nat → List CpInfo → List CpInfo
  | 0, r => r
  | n + 1, r => .unusable :: gap n r
def poolList (es : List (Nat × CpInfo)) (last : Nat) : List CpInfo := es.foldr (fun e r => gap e.1 (e.2 :: r)) (gap last [])
def pool (es : List (Nat × CpInfo)) (last : Nat) : Array CpInfo := ⟨poolList es last⟩
def fileOf (pool : Array CpInfo) (this : Nat) (attrs : Array Attribute := #[]) (ms : Array MethodInfo := #[]) (fl : Nat := 33) (sup : Nat := 0) (ifs : Array Nat := #[]) (fds : Array FieldInfo := #[]) : ClassFile where
  minorVersion := 0
  majorVersion := 65
  constantPool := pool
  accessFlags := fl
  thisClass := this
  superClass := sup
  interfaces := ifs
  fields := fds
  methods := ms
  attributes := attrs
def plain (name : String) (sup : Option ClassId) : Class where
  name := name
  kind := .ordinary
  loader := none
  accessFlags := 33
  super := sup
  interfaces := #[]
  cf := none
  fields := #[]
  methods := #[]
  instanceTypes := #[]
  staticTypes := #[]
  resolved := #[]
  callSites := []
  init := .initialized
  statics := none
  mirror := none

def pool0 : Array CpInfo := pool [(5, u "<init>"), (0, u "()V"), (1, .class_ 10), (1, u "java/lang/Object")] 113

def k0c0 : Code := { maxStack := 0, maxLocals := 1, code := object_method_1_code, exceptionTable := #[], attributes := #[] }
def k0m0 : Method := { name := "<init>", desc := "()V", sig := { parameters := [], returnType := none }, accessFlags := 1, code := some k0c0 }
/-- java/lang/Object -/
def k0 : Class := { plain "java/lang/Object" none with
  accessFlags := 33
  interfaces := #[]
  cf := some (fileOf pool0 8 #[] #[{ accessFlags := 1, nameIndex := 5, descriptorIndex := 6, attributes := #[] }] 33 0 #[] #[])
  fields := #[]
  methods := #[k0m0]
  instanceTypes := #[]
  staticTypes := #[]
  resolved := Array.replicate 124 none
  statics := none }

def pool1 : Array CpInfo := pool [(2, .class_ 4), (1, u "java/lang/Object"), (0, u "<init>"), (0, u "()V"), (0, .class_ 8), (0, u "com/example/tahan/tahan/WindowBucket$Tally"), (0, .methodref 7 10), (0, .nameAndType 5 11), (0, u "(J)V"), (0, .methodref 7 13), (0, .nameAndType 14 6), (0, u "withdraw"), (0, .methodref 7 16), (0, .nameAndType 17 18), (0, u "admitted"), (0, u "()J"), (0, .methodref 7 20), (0, .nameAndType 21 18), (0, u "blocked"), (0, .methodref 7 23), (0, .nameAndType 24 18), (0, u "start"), (0, .methodref 7 26), (0, .nameAndType 27 28), (0, u "former"), (0, u "()Lcom/example/tahan/tahan/WindowBucket$Tally;"), (0, .class_ 30), (0, u "com/example/tahan/tahan/TallyWithdrawPinLaw"), (2, u "law"), (0, u "(JIJ)Z")] 7

def k1m0 : Method := { name := "<init>", desc := "()V", sig := { parameters := [], returnType := none }, accessFlags := 1, code := none }
def k1c1 : Code := { maxStack := 4, maxLocals := 12, code := code, exceptionTable := #[], attributes := #[] }
def k1m1 : Method := { name := "law", desc := "(JIJ)Z", sig := { parameters := [.long, .int, .long], returnType := some .boolean }, accessFlags := 9, code := some k1c1 }
/-- com/example/tahan/tahan/TallyWithdrawPinLaw -/
def k1 : Class := { plain "com/example/tahan/tahan/TallyWithdrawPinLaw" (some 0) with
  accessFlags := 49
  interfaces := #[]
  cf := some (fileOf pool1 29 #[] #[{ accessFlags := 1, nameIndex := 5, descriptorIndex := 6, attributes := #[] }, { accessFlags := 9, nameIndex := 33, descriptorIndex := 34, attributes := #[] }] 49 2 #[] #[])
  fields := #[]
  methods := #[k1m0, k1m1]
  instanceTypes := #[]
  staticTypes := #[]
  resolved := Array.replicate 42 none
  statics := none }

def pool2 : Array CpInfo := pool [(1, .methodref 2 3), (0, .class_ 4), (0, .nameAndType 5 6), (0, u "java/lang/Object"), (0, u "<init>"), (0, u "()V"), (0, .fieldref 8 9), (0, .class_ 10), (0, .nameAndType 11 12), (0, u "com/example/tahan/tahan/WindowBucket$Tally"), (0, u "start"), (0, u "J"), (0, .fieldref 8 14), (0, .nameAndType 15 12), (0, u "admitted"), (0, .fieldref 8 17), (0, .nameAndType 18 12), (0, u "blocked"), (0, .fieldref 8 20), (0, .nameAndType 21 22), (0, u "former"), (0, u "Lcom/example/tahan/tahan/WindowBucket$Tally;"), (0, u "(J)V"), (2, u "()J"), (0, u "()Lcom/example/tahan/tahan/WindowBucket$Tally;"), (2, u "withdraw"), (3, .class_ 35), (0, u "com/example/tahan/tahan/WindowBucket")] 2

def k2c0 : Code := { maxStack := 3, maxLocals := 3, code := prog_87_method_1_code, exceptionTable := #[], attributes := #[] }
def k2m0 : Method := { name := "<init>", desc := "(J)V", sig := { parameters := [.long], returnType := none }, accessFlags := 0, code := some k2c0 }
def k2c1 : Code := { maxStack := 2, maxLocals := 1, code := prog_87_method_2_code, exceptionTable := #[], attributes := #[] }
def k2m1 : Method := { name := "start", desc := "()J", sig := { parameters := [], returnType := some .long }, accessFlags := 0, code := some k2c1 }
def k2c2 : Code := { maxStack := 2, maxLocals := 1, code := prog_87_method_3_code, exceptionTable := #[], attributes := #[] }
def k2m2 : Method := { name := "admitted", desc := "()J", sig := { parameters := [], returnType := some .long }, accessFlags := 0, code := some k2c2 }
def k2c3 : Code := { maxStack := 2, maxLocals := 1, code := prog_87_method_4_code, exceptionTable := #[], attributes := #[] }
def k2m3 : Method := { name := "blocked", desc := "()J", sig := { parameters := [], returnType := some .long }, accessFlags := 0, code := some k2c3 }
def k2c4 : Code := { maxStack := 1, maxLocals := 1, code := prog_87_method_5_code, exceptionTable := #[], attributes := #[] }
def k2m4 : Method := { name := "former", desc := "()Lcom/example/tahan/tahan/WindowBucket$Tally;", sig := { parameters := [], returnType := some (.object "com/example/tahan/tahan/WindowBucket$Tally") }, accessFlags := 0, code := some k2c4 }
def k2c5 : Code := { maxStack := 5, maxLocals := 1, code := prog_87_method_7_code, exceptionTable := #[], attributes := #[] }
def k2m5 : Method := { name := "withdraw", desc := "()V", sig := { parameters := [], returnType := none }, accessFlags := 0, code := some k2c5 }
/-- com/example/tahan/tahan/WindowBucket$Tally -/
def k2 : Class := { plain "com/example/tahan/tahan/WindowBucket$Tally" (some 0) with
  accessFlags := 48
  interfaces := #[]
  cf := some (fileOf pool2 8 #[.nestHost 34] #[{ accessFlags := 0, nameIndex := 5, descriptorIndex := 23, attributes := #[] }, { accessFlags := 0, nameIndex := 11, descriptorIndex := 26, attributes := #[] }, { accessFlags := 0, nameIndex := 15, descriptorIndex := 26, attributes := #[] }, { accessFlags := 0, nameIndex := 18, descriptorIndex := 26, attributes := #[] }, { accessFlags := 0, nameIndex := 21, descriptorIndex := 27, attributes := #[] }, { accessFlags := 0, nameIndex := 30, descriptorIndex := 6, attributes := #[] }] 48 2 #[] #[{ accessFlags := 18, nameIndex := 11, descriptorIndex := 12, attributes := #[] }, { accessFlags := 2, nameIndex := 15, descriptorIndex := 12, attributes := #[] }, { accessFlags := 2, nameIndex := 18, descriptorIndex := 12, attributes := #[] }, { accessFlags := 2, nameIndex := 21, descriptorIndex := 22, attributes := #[] }])
  fields := #[{ name := "start", type := .long, accessFlags := 18, slot := 0, constantValue := 0 }, { name := "admitted", type := .long, accessFlags := 2, slot := 1, constantValue := 0 }, { name := "blocked", type := .long, accessFlags := 2, slot := 2, constantValue := 0 }, { name := "former", type := (.object "com/example/tahan/tahan/WindowBucket$Tally"), accessFlags := 2, slot := 3, constantValue := 0 }]
  methods := #[k2m0, k2m1, k2m2, k2m3, k2m4, k2m5]
  instanceTypes := #[.long, .long, .long, (.object "com/example/tahan/tahan/WindowBucket$Tally")]
  staticTypes := #[]
  resolved := Array.replicate 38 none
  statics := none }

def pool3 : Array CpInfo := pool [(1, u "java/lang/Cloneable"), (0, .class_ 1), (0, u "java/lang/Object"), (0, .class_ 3)] 3

/-- java/lang/Cloneable -/
def k3 : Class := { plain "java/lang/Cloneable" (some 0) with
  accessFlags := 1537
  interfaces := #[]
  cf := some (fileOf pool3 2 #[] #[] 1537 4 #[] #[])
  fields := #[]
  methods := #[]
  instanceTypes := #[]
  staticTypes := #[]
  resolved := Array.replicate 8 none
  statics := none }

def pool4 : Array CpInfo := pool [(1, u "java/io/Serializable"), (0, .class_ 1), (0, u "java/lang/Object"), (0, .class_ 3)] 3

/-- java/io/Serializable -/
def k4 : Class := { plain "java/io/Serializable" (some 0) with
  accessFlags := 1537
  interfaces := #[]
  cf := some (fileOf pool4 2 #[] #[] 1537 4 #[] #[])
  fields := #[]
  methods := #[]
  instanceTypes := #[]
  staticTypes := #[]
  resolved := Array.replicate 8 none
  statics := none }

/-- the primitive byte -/
def k5 : Class := { plain "byte" none with kind := .primitive 'B', accessFlags := 0x411 }
/-- [B -/
def k6 : Class := { plain "[B" (some 0) with kind := .array 5 .byte, interfaces := #[3, 4], accessFlags := 1041 }

/-- the primitive int -/
def k7 : Class := { plain "int" none with kind := .primitive 'I', accessFlags := 0x411 }
/-- [I -/
def k8 : Class := { plain "[I" (some 0) with kind := .array 7 .int, interfaces := #[3, 4], accessFlags := 1041 }

def heap : Heap := #[]
def classes : Array Class := #[k0, k1, k2, k3, k4, k5, k6, k7, k8]
def interned : List (Array UInt16 × Addr) := []
def slotsUsed : Nat := 0
def theMethod : MethodId := ⟨1, 1⟩
def args0 : Array Value := #[.long 5, .int 5, .long 5]
def aboutOver (below : List Frame) : State where
  vm := { classes := classes, interned := interned.toArray }
  heap := heap
  slotsUsed := slotsUsed
  threads := #[{ frames := .invoking theMethod args0 :: below }]
def below0 : List Frame := [.native { method := ⟨0, 0⟩, args := #[] }]
def about1 : State := aboutOver below0
def p0 : Program := .bare "" "" ""
def e0 : Env := launch0.env 0 0 0
theorem w_frames : about1.frames = Frame.invoking theMethod args0 :: below0 := rfl
set_option maxRecDepth 65536 in
theorem w_args : argsFit about1.vm theMethod args0 = true := by decide +kernel
set_option maxRecDepth 65536 in
theorem w_heap : heapFits about1 = true := by decide +kernel
set_option maxRecDepth 65536 in
theorem w_runnable : about1.curStatus? = some .runnable := by decide +kernel
set_option maxRecDepth 65536 in
theorem w_alone : about1.alone = true := by decide +kernel
set_option maxRecDepth 65536 in
theorem w_named : about1.methodNamed? x = some theMethod := by decide +kernel
set_option maxRecDepth 65536 in
theorem w_hears : about1.hears theMethod below0 = true := by decide +kernel
set_option maxRecDepth 65536 in
theorem w_ripe : about1.ripe theMethod args0 below0 = true := by decide +kernel
theorem w_running : about1.status = .running := rfl
set_option maxRecDepth 65536 in
theorem w_room : about1.hasRoom e0.platform room_1 = true :=
  launch0.hasRoom_least _ room_1 (by decide +kernel) (by decide +kernel) (by decide +kernel) (by decide +kernel) (by decide +kernel) (by decide +kernel)
theorem allAtoms_all (ts : List Jvm.Cond) (a : Array Jvm.Value) (st : Jvm.State) : (allAtoms ts).before a st = ts.all (fun c => c.before a st) := by
  induction ts with
  | nil => rfl
  | cons c t ih =>
    show (Jvm.Cond.and c (allAtoms t)).before a st = _
    rw [Jvm.Cond.before_and, ih, List.all_cons]
def words1 : List Jvm.Cond := Jvm.Cond.code x code maxLocals ret :: tables_1
/-- a 'code' word, met by the world's own term for the bytes: nothing is compared byte by byte -/
theorem code_word {y : MethodName} {bytes : ByteArray} {mx : Nat} {rt : Option FieldType} {a : Array Value} {s : State} {m : MethodId} {meth : Method} {c : Code} (h1 : s.methodNamed? y = some m) (h2 : s.vm.method? m = some meth) (h3 : meth.code = some c) (h4 : c.code = bytes)
    (h5 : (c.maxLocals == mx && c.exceptionTable.isEmpty && decide (c.maxStack ≤ mostOperands) && decide (meth.sig.returnType = rt) && !meth.locks && decide (parseMethodDescriptor y.desc = some meth.sig)) = true) : (Jvm.Cond.code y bytes mx rt).before a s = true := by
  simp only [Bool.and_eq_true, beq_iff_eq, Bool.not_eq_true', decide_eq_true_eq] at h5
  obtain ⟨⟨⟨⟨⟨g1, g2⟩, g3⟩, g4⟩, g5⟩, g6⟩ := h5
  simp [Cond.before, Cond.holds, Cond.value, h1, h2, h3, h4, g1, g2, g3, g4, g5, g6]
def isCode : Jvm.Cond → Bool
  | .code _ _ _ _ => true
  | _ => false
theorem all_split {L : List Jvm.Cond} {P : Jvm.Cond → Bool} (h1 : L.all (fun c => isCode c || P c) = true) (h2 : ∀ c ∈ L.filter isCode, P c = true) : L.all P = true := by
  refine List.all_eq_true.mpr fun c hc => ?_
  have h := List.all_eq_true.mp h1 c hc
  rcases Bool.eq_false_or_eq_true (isCode c) with hi | hi
  · exact h2 c (List.mem_filter.mpr ⟨hc, hi⟩)
  · simpa [hi] using h
set_option maxRecDepth 65536 in
theorem w_c0 : (Jvm.Cond.code x code maxLocals ret).before args0 about1 = true := code_word (m := ⟨1, 1⟩) (meth := k1m1) (c := k1c1) (by decide +kernel) rfl rfl rfl (by decide +kernel)
set_option maxRecDepth 65536 in
theorem w_c1 : (Jvm.Cond.code ({ cls := "com/example/tahan/tahan/WindowBucket$Tally", name := "<init>", desc := "(J)V" } : Jvm.MethodName) prog_87_method_1_code (3 : Nat) (Option.none : Option Jvm.ClassFile.FieldType)).before args0 about1 = true := code_word (m := ⟨2, 0⟩) (meth := k2m0) (c := k2c0) (by decide +kernel) rfl rfl rfl (by decide +kernel)
set_option maxRecDepth 65536 in
theorem w_c2 : (Jvm.Cond.code ({ cls := "java/lang/Object", name := "<init>", desc := "()V" } : Jvm.MethodName) object_method_1_code (1 : Nat) (Option.none : Option Jvm.ClassFile.FieldType)).before args0 about1 = true := code_word (m := ⟨0, 0⟩) (meth := k0m0) (c := k0c0) (by decide +kernel) rfl rfl rfl (by decide +kernel)
set_option maxRecDepth 65536 in
theorem w_c3 : (Jvm.Cond.code ({ cls := "com/example/tahan/tahan/WindowBucket$Tally", name := "withdraw", desc := "()V" } : Jvm.MethodName) prog_87_method_7_code (1 : Nat) (Option.none : Option Jvm.ClassFile.FieldType)).before args0 about1 = true := code_word (m := ⟨2, 5⟩) (meth := k2m5) (c := k2c5) (by decide +kernel) rfl rfl rfl (by decide +kernel)
set_option maxRecDepth 65536 in
theorem w_c4 : (Jvm.Cond.code ({ cls := "com/example/tahan/tahan/WindowBucket$Tally", name := "admitted", desc := "()J" } : Jvm.MethodName) prog_87_method_3_code (1 : Nat) (Option.some Jvm.ClassFile.FieldType.long)).before args0 about1 = true := code_word (m := ⟨2, 2⟩) (meth := k2m2) (c := k2c2) (by decide +kernel) rfl rfl rfl (by decide +kernel)
set_option maxRecDepth 65536 in
theorem w_c5 : (Jvm.Cond.code ({ cls := "com/example/tahan/tahan/WindowBucket$Tally", name := "blocked", desc := "()J" } : Jvm.MethodName) prog_87_method_4_code (1 : Nat) (Option.some Jvm.ClassFile.FieldType.long)).before args0 about1 = true := code_word (m := ⟨2, 3⟩) (meth := k2m3) (c := k2c3) (by decide +kernel) rfl rfl rfl (by decide +kernel)
set_option maxRecDepth 65536 in
theorem w_c6 : (Jvm.Cond.code ({ cls := "com/example/tahan/tahan/WindowBucket$Tally", name := "start", desc := "()J" } : Jvm.MethodName) prog_87_method_2_code (1 : Nat) (Option.some Jvm.ClassFile.FieldType.long)).before args0 about1 = true := code_word (m := ⟨2, 1⟩) (meth := k2m1) (c := k2c1) (by decide +kernel) rfl rfl rfl (by decide +kernel)
set_option maxRecDepth 65536 in
theorem w_c7 : (Jvm.Cond.code ({ cls := "com/example/tahan/tahan/WindowBucket$Tally", name := "former", desc := "()Lcom/example/tahan/tahan/WindowBucket$Tally;" } : Jvm.MethodName) prog_87_method_5_code (1 : Nat) (Option.some (Jvm.ClassFile.FieldType.object "com/example/tahan/tahan/WindowBucket$Tally"))).before args0 about1 = true := code_word (m := ⟨2, 4⟩) (meth := k2m4) (c := k2c4) (by decide +kernel) rfl rfl rfl (by decide +kernel)
def codes1 : List Jvm.Cond := [Jvm.Cond.code x code maxLocals ret, Jvm.Cond.code ({ cls := "com/example/tahan/tahan/WindowBucket$Tally", name := "<init>", desc := "(J)V" } : Jvm.MethodName) prog_87_method_1_code (3 : Nat) (Option.none : Option Jvm.ClassFile.FieldType), Jvm.Cond.code ({ cls := "java/lang/Object", name := "<init>", desc := "()V" } : Jvm.MethodName) object_method_1_code (1 : Nat) (Option.none : Option Jvm.ClassFile.FieldType), Jvm.Cond.code ({ cls := "com/example/tahan/tahan/WindowBucket$Tally", name := "withdraw", desc := "()V" } : Jvm.MethodName) prog_87_method_7_code (1 : Nat) (Option.none : Option Jvm.ClassFile.FieldType), Jvm.Cond.code ({ cls := "com/example/tahan/tahan/WindowBucket$Tally", name := "admitted", desc := "()J" } : Jvm.MethodName) prog_87_method_3_code (1 : Nat) (Option.some Jvm.ClassFile.FieldType.long), Jvm.Cond.code ({ cls := "com/example/tahan/tahan/WindowBucket$Tally", name := "blocked", desc := "()J" } : Jvm.MethodName) prog_87_method_4_code (1 : Nat) (Option.some Jvm.ClassFile.FieldType.long), Jvm.Cond.code ({ cls := "com/example/tahan/tahan/WindowBucket$Tally", name := "start", desc := "()J" } : Jvm.MethodName) prog_87_method_2_code (1 : Nat) (Option.some Jvm.ClassFile.FieldType.long), Jvm.Cond.code ({ cls := "com/example/tahan/tahan/WindowBucket$Tally", name := "former", desc := "()Lcom/example/tahan/tahan/WindowBucket$Tally;" } : Jvm.MethodName) prog_87_method_5_code (1 : Nat) (Option.some (Jvm.ClassFile.FieldType.object "com/example/tahan/tahan/WindowBucket$Tally"))]
set_option maxRecDepth 65536 in
theorem codes_eq : words1.filter isCode = codes1 := rfl
theorem w_codes : ∀ c ∈ words1.filter isCode, c.before args0 about1 = true := by
  rw [codes_eq]
  intro c hc
  simp only [codes1, List.mem_cons, List.not_mem_nil, or_false] at hc
  rcases hc with rfl | rfl | rfl | rfl | rfl | rfl | rfl | rfl
  · exact w_c0
  · exact w_c1
  · exact w_c2
  · exact w_c3
  · exact w_c4
  · exact w_c5
  · exact w_c6
  · exact w_c7
set_option maxRecDepth 65536 in
theorem w_t1 : (words1.take 24).all (fun c => isCode c || c.before args0 about1) = true := by decide +kernel
set_option maxRecDepth 65536 in
theorem w_t2 : (words1.drop 24).all (fun c => isCode c || c.before args0 about1) = true := by decide +kernel
theorem w_tables : (allAtoms (Jvm.Cond.code x code maxLocals ret :: tables_1)).before args0 about1 = true := by
  rw [allAtoms_all]
  show words1.all (fun c => c.before args0 about1) = true
  refine all_split ?_ w_codes
  rw [← List.take_append_drop 24 words1, List.all_append, w_t1, w_t2]
  rfl
set_option maxRecDepth 65536 in
theorem w_case : (Jvm.Cond.and given_1 narrow_1).before args0 about1 = true := by decide +kernel
theorem w_applies : (headSpec (Jvm.Cond.code x code maxLocals ret :: tables_1) room_1).applies x e0.platform about1 = true :=
  (Spec.applies_iff w_frames).mpr ⟨w_running, w_runnable, w_alone, w_named, w_hears, w_ripe, w_room, w_tables⟩
theorem atStart : AtStart classFile x code maxLocals ret World_1 tables_1 room_1 Calls_1 rest_1 Pre_1 launch0 p0 e0 about1 theMethod args0 below0 :=
  ⟨lists_1, trivial, launch0.admits_env _ _ _, launch0.least_env, fairChoices_fair.cas, fairChoices_fair.clock, w_frames, w_args, w_heap, w_applies, trivial, trivial, w_case⟩
end start1
theorem witness_1 : WitnessClaimed_1 := ⟨start1.p0, start1.e0, start1.about1, start1.theMethod, start1.args0, start1.below0, start1.atStart⟩
end Jvm.Pilot.@@N@@
