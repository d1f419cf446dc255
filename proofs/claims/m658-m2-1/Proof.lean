import JvmDerived
import JvmDerived.Pilot.@@N@@Statement
import JvmDerived.Pilot.@@N@@Code
set_option linter.unusedVariables false
set_option linter.unusedSimpArgs false
namespace Jvm.Pilot.@@N@@
open Jvm Jvm.ClassFile Sem Op Lib Jvm.Free Jvm.Stand Jvm.LawKit Jvm.RoadKit Bundle Jvm.Pilot.@@N@@.Jvm.D
def own_G (p : Program) (e : Env) (below : List Frame) (s : State) (Q : Option Value → Heap → List Loc → Prop) (k n : Nat) (A : State) : Prop :=
  ∃ s₂ o, Steps p.tables e below A s₂ ∧ s₂.status = .running ∧ Ended s₂ below o ∧ ∃ v L, o = .returned v ∧ Q v s₂.heap L ∧ FrameEnd s o s₂ L k n
theorem own_st {p : Program} {e : Env} {below : List Frame} {s : State} {Q : Option Value → Heap → List Loc → Prop} {k n : Nat} {A B : State} (f : ∀ t, Steps p.tables e below B t → Steps p.tables e below A t) (h : own_G p e below s Q k n B) : own_G p e below s Q k n A := by
  obtain ⟨t, o, h1, h2⟩ := h; exact ⟨t, o, f t h1, h2⟩
theorem own_tr {p : Program} {e : Env} {below : List Frame} {s : State} {Q : Option Value → Heap → List Loc → Prop} {k n : Nat} {A B : State} (f : Steps p.tables e below A B) (h : own_G p e below s Q k n B) : own_G p e below s Q k n A := own_st (fun _ => f.trans) h
theorem own_cast {p : Program} {e : Env} {below : List Frame} {s T : State} {Q : Option Value → Heap → List Loc → Prop} {k n : Nat} {g g' : JFrame} (q : g = g') (h : own_G p e below s Q k n (T.setTop g')) : own_G p e below s Q k n (T.setTop g) := q ▸ h
section OwnSteps
variable {p : Program} {l : Launch} {e : Env} {R : Room} {s : State} {m : MethodId} {args : Array Value} {below : List Frame} {meth : Method} {c : Code} {T : State} {locs : List Loc} {cells slots : Nat} {Q : Option Value → Heap → List Loc → Prop} {k n : Nat} {code : ByteArray} {pc : Nat} {Ls : Array Slot} {st : List Value} {Z : State} {a0 : Array Value} {h : Heap}
theorem own_retI (X : Stand p l e R s m args below meth c T locs cells slots) (hx : p.tables.exec = Jvm.exec) (hby : c.code = code) (hlk : meth.locks = false) (hret : meth.sig.returnType = some .int) {z : Int32} (hd : decode code pc = .ok (.ireturn, 1)) (hk : cells ≤ k) (hn : slots ≤ n) (hQ : Q (some (.int z)) T.heap locs) : own_G p e below s Q k n (T.setTop (mkF m pc Ls (.int z :: st))) := by
  obtain ⟨fs, hr, hrun, hended, hW, hsame⟩ := X.leave (v := some (.int z)) (fun h => by rw [hret] at h; cases h) hlk
  exact ⟨_, _, retOut X hx (t := .int) hret rfl (Or.inl ⟨rfl, Or.inl rfl, z, rfl⟩) (hb hby hd) hr, hrun, hended, _, _, rfl, hQ, ⟨_, rfl⟩, hW, hsame.mono hk hn⟩
theorem own_retJ (X : Stand p l e R s m args below meth c T locs cells slots) (hx : p.tables.exec = Jvm.exec) (hby : c.code = code) (hlk : meth.locks = false) (hret : meth.sig.returnType = some .long) {z : Int64} (hd : decode code pc = .ok (.lreturn, 1)) (hk : cells ≤ k) (hn : slots ≤ n) (hQ : Q (some (.long z)) T.heap locs) : own_G p e below s Q k n (T.setTop (mkF m pc Ls (.long z :: st))) := by
  obtain ⟨fs, hr, hrun, hended, hW, hsame⟩ := X.leave (v := some (.long z)) (fun h => by rw [hret] at h; cases h) hlk
  exact ⟨_, _, retOut X hx (t := .long) hret rfl (Or.inr (Or.inl ⟨rfl, rfl, z, rfl⟩)) (hb hby hd) hr, hrun, hended, _, _, rfl, hQ, ⟨_, rfl⟩, hW, hsame.mono hk hn⟩
theorem own_retD (X : Stand p l e R s m args below meth c T locs cells slots) (hx : p.tables.exec = Jvm.exec) (hby : c.code = code) (hlk : meth.locks = false) (hret : meth.sig.returnType = some .double) {z : UInt64} (hd : decode code pc = .ok (.dreturn, 1)) (hk : cells ≤ k) (hn : slots ≤ n) (hQ : Q (some (.double z)) T.heap locs) : own_G p e below s Q k n (T.setTop (mkF m pc Ls (.double z :: st))) := by
  obtain ⟨fs, hr, hrun, hended, hW, hsame⟩ := X.leave (v := some (.double z)) (fun h => by rw [hret] at h; cases h) hlk
  exact ⟨_, _, retOut X hx (t := .double) hret rfl (Or.inr (Or.inr (Or.inl ⟨rfl, rfl, z, rfl⟩))) (hb hby hd) hr, hrun, hended, _, _, rfl, hQ, ⟨_, rfl⟩, hW, hsame.mono hk hn⟩
theorem own_retA (X : Stand p l e R s m args below meth c T locs cells slots) (hx : p.tables.exec = Jvm.exec) (hby : c.code = code) (hlk : meth.locks = false) {ty : FieldType} (hret : meth.sig.returnType = some ty) (hty : ty.isReference = true) {z : Value} (hz : z.isRef = true) (hnz : narrow ty z = z) (hd : decode code pc = .ok (.areturn, 1)) (hk : cells ≤ k) (hn : slots ≤ n) (hQ : Q (some z) T.heap locs) : own_G p e below s Q k n (T.setTop (mkF m pc Ls (z :: st))) := by
  obtain ⟨fs, hr, hrun, hended, hW, hsame⟩ := X.leave (v := some z) (fun h => by rw [hret] at h; cases h) hlk
  exact ⟨_, _, retOut X hx (t := ty) hret hnz (Or.inr (Or.inr (Or.inr (Or.inr ⟨rfl, hty, hz⟩)))) (hb hby hd) hr, hrun, hended, _, _, rfl, hQ, ⟨_, rfl⟩, hW, hsame.mono hk hn⟩
theorem own_retN (X : Stand p l e R s m args below meth c T locs cells slots) (hx : p.tables.exec = Jvm.exec) (hby : c.code = code) (hlk : meth.locks = false) {t : FieldType} (hret : meth.sig.returnType = some t) (ht : t = .boolean ∨ t = .byte ∨ t = .char ∨ t = .short) {z : Int32} (hd : decode code pc = .ok (.ireturn, 1)) (hk : cells ≤ k) (hn : slots ≤ n) (hQ : Q (some (.int (nar t z))) T.heap locs) : own_G p e below s Q k n (T.setTop (mkF m pc Ls (.int z :: st))) := by
  obtain ⟨fs, hr, hrun, hended, hW, hsame⟩ := X.leave (v := some (.int (nar t z))) (fun h => by rw [hret] at h; cases h) hlk
  exact ⟨_, _, retN X hx (t := t) hret ht (hb hby hd) hr, hrun, hended, _, _, rfl, hQ, ⟨_, rfl⟩, hW, hsame.mono hk hn⟩
theorem own_ret0 (X : Stand p l e R s m args below meth c T locs cells slots) (hx : p.tables.exec = Jvm.exec) (hby : c.code = code) (hlk : meth.locks = false) (hret : meth.sig.returnType = none) (hd : decode code pc = .ok (.return_, 1)) (hk : cells ≤ k) (hn : slots ≤ n) (hQ : Q none T.heap locs) : own_G p e below s Q k n (T.setTop (mkF m pc Ls [])) := by
  obtain ⟨fs, hr, hrun, hended, hW, hsame⟩ := X.leave (v := none) (fun _ => rfl) hlk
  exact ⟨_, _, X.returnOut hx hret (hb hby hd) hr, hrun, hended, _, _, rfl, hQ, ⟨_, rfl⟩, hW, hsame.mono hk hn⟩
theorem own_iloadN (X : Stand p l e R s m args below meth c T locs cells slots) (hx : p.tables.exec = Jvm.exec) (hby : c.code = code) {kk : Fin 4} {v : Int32} (hd : decode code pc = .ok (.iload_n kk, 1)) (hl : Ls[kk.val]? = some (.val (.int v))) (h : own_G p e below s Q k n (T.setTop (mkF m (pc + 1) Ls (.int v :: st)))) : own_G p e below s Q k n (T.setTop (mkF m pc Ls st)) := own_st (fun _ => XS.iloadN X.here hx rfl (hb hby hd) hl) h
theorem own_iload (X : Stand p l e R s m args below meth c T locs cells slots) (hx : p.tables.exec = Jvm.exec) (hby : c.code = code) {kk : Nat} {v : Int32} (hd : decode code pc = .ok (.iload kk, 2)) (hl : Ls[kk]? = some (.val (.int v))) (h : own_G p e below s Q k n (T.setTop (mkF m (pc + 2) Ls (.int v :: st)))) : own_G p e below s Q k n (T.setTop (mkF m pc Ls st)) := own_st (fun _ => XS.iload X.here hx rfl (hb hby hd) hl) h
theorem own_lloadN (X : Stand p l e R s m args below meth c T locs cells slots) (hx : p.tables.exec = Jvm.exec) (hby : c.code = code) {kk : Fin 4} {v : Int64} (hd : decode code pc = .ok (.lload_n kk, 1)) (hl : Ls[kk.val]? = some (.val (.long v))) (h : own_G p e below s Q k n (T.setTop (mkF m (pc + 1) Ls (.long v :: st)))) : own_G p e below s Q k n (T.setTop (mkF m pc Ls st)) := own_st (fun _ => XS.lloadN X.here hx rfl (hb hby hd) hl) h
theorem own_lload (X : Stand p l e R s m args below meth c T locs cells slots) (hx : p.tables.exec = Jvm.exec) (hby : c.code = code) {kk : Nat} {v : Int64} (hd : decode code pc = .ok (.lload kk, 2)) (hl : Ls[kk]? = some (.val (.long v))) (h : own_G p e below s Q k n (T.setTop (mkF m (pc + 2) Ls (.long v :: st)))) : own_G p e below s Q k n (T.setTop (mkF m pc Ls st)) := own_st (fun _ => XS.lload X.here hx rfl (hb hby hd) hl) h
theorem own_dloadN (X : Stand p l e R s m args below meth c T locs cells slots) (hx : p.tables.exec = Jvm.exec) (hby : c.code = code) {kk : Fin 4} {v : UInt64} (hd : decode code pc = .ok (.dload_n kk, 1)) (hl : Ls[kk.val]? = some (.val (.double v))) (h : own_G p e below s Q k n (T.setTop (mkF m (pc + 1) Ls (.double v :: st)))) : own_G p e below s Q k n (T.setTop (mkF m pc Ls st)) := own_st (fun _ => XS.dloadN X.here hx rfl (hb hby hd) hl) h
theorem own_dload (X : Stand p l e R s m args below meth c T locs cells slots) (hx : p.tables.exec = Jvm.exec) (hby : c.code = code) {kk : Nat} {v : UInt64} (hd : decode code pc = .ok (.dload kk, 2)) (hl : Ls[kk]? = some (.val (.double v))) (h : own_G p e below s Q k n (T.setTop (mkF m (pc + 2) Ls (.double v :: st)))) : own_G p e below s Q k n (T.setTop (mkF m pc Ls st)) := own_st (fun _ => XS.dload X.here hx rfl (hb hby hd) hl) h
theorem own_aloadN (X : Stand p l e R s m args below meth c T locs cells slots) (hx : p.tables.exec = Jvm.exec) (hby : c.code = code) {kk : Fin 4} {v : Value} (hd : decode code pc = .ok (.aload_n kk, 1)) (hl : Ls[kk.val]? = some (.val v)) (hv : v.isRef = true) (h : own_G p e below s Q k n (T.setTop (mkF m (pc + 1) Ls (v :: st)))) : own_G p e below s Q k n (T.setTop (mkF m pc Ls st)) := own_st (fun _ => XS.aloadN X.here hx rfl (hb hby hd) hl hv) h
theorem own_aload (X : Stand p l e R s m args below meth c T locs cells slots) (hx : p.tables.exec = Jvm.exec) (hby : c.code = code) {kk : Nat} {v : Value} (hd : decode code pc = .ok (.aload kk, 2)) (hl : Ls[kk]? = some (.val v)) (hv : v.isRef = true) (h : own_G p e below s Q k n (T.setTop (mkF m (pc + 2) Ls (v :: st)))) : own_G p e below s Q k n (T.setTop (mkF m pc Ls st)) := own_st (fun _ => XS.aload X.here hx rfl (hb hby hd) hl hv) h
theorem own_istoreN (X : Stand p l e R s m args below meth c T locs cells slots) (hx : p.tables.exec = Jvm.exec) (hby : c.code = code) {kk : Fin 4} {v : Int32} {l' : Array Slot} (hd : decode code pc = .ok (.istore_n kk, 1)) (hl : storeLocals Ls kk.val (.int v) = some l') (h : own_G p e below s Q k n (T.setTop (mkF m (pc + 1) l' st))) : own_G p e below s Q k n (T.setTop (mkF m pc Ls (.int v :: st))) := own_st (fun _ => XS.istoreN X.here hx rfl (hb hby hd) rfl hl) h
theorem own_istore (X : Stand p l e R s m args below meth c T locs cells slots) (hx : p.tables.exec = Jvm.exec) (hby : c.code = code) {kk : Nat} {v : Int32} {l' : Array Slot} (hd : decode code pc = .ok (.istore kk, 2)) (hl : storeLocals Ls kk (.int v) = some l') (h : own_G p e below s Q k n (T.setTop (mkF m (pc + 2) l' st))) : own_G p e below s Q k n (T.setTop (mkF m pc Ls (.int v :: st))) := own_st (fun _ => XS.istore X.here hx rfl (hb hby hd) rfl hl) h
theorem own_lstoreN (X : Stand p l e R s m args below meth c T locs cells slots) (hx : p.tables.exec = Jvm.exec) (hby : c.code = code) {kk : Fin 4} {v : Int64} {l' : Array Slot} (hd : decode code pc = .ok (.lstore_n kk, 1)) (hl : storeLocals Ls kk.val (.long v) = some l') (h : own_G p e below s Q k n (T.setTop (mkF m (pc + 1) l' st))) : own_G p e below s Q k n (T.setTop (mkF m pc Ls (.long v :: st))) := own_st (fun _ => XS.lstoreN X.here hx rfl (hb hby hd) rfl hl) h
theorem own_lstore (X : Stand p l e R s m args below meth c T locs cells slots) (hx : p.tables.exec = Jvm.exec) (hby : c.code = code) {kk : Nat} {v : Int64} {l' : Array Slot} (hd : decode code pc = .ok (.lstore kk, 2)) (hl : storeLocals Ls kk (.long v) = some l') (h : own_G p e below s Q k n (T.setTop (mkF m (pc + 2) l' st))) : own_G p e below s Q k n (T.setTop (mkF m pc Ls (.long v :: st))) := own_st (fun _ => XS.lstore X.here hx rfl (hb hby hd) rfl hl) h
theorem own_dstoreN (X : Stand p l e R s m args below meth c T locs cells slots) (hx : p.tables.exec = Jvm.exec) (hby : c.code = code) {kk : Fin 4} {v : UInt64} {l' : Array Slot} (hd : decode code pc = .ok (.dstore_n kk, 1)) (hl : storeLocals Ls kk.val (.double v) = some l') (h : own_G p e below s Q k n (T.setTop (mkF m (pc + 1) l' st))) : own_G p e below s Q k n (T.setTop (mkF m pc Ls (.double v :: st))) := own_st (fun _ => XS.dstoreN X.here hx rfl (hb hby hd) rfl hl) h
theorem own_dstore (X : Stand p l e R s m args below meth c T locs cells slots) (hx : p.tables.exec = Jvm.exec) (hby : c.code = code) {kk : Nat} {v : UInt64} {l' : Array Slot} (hd : decode code pc = .ok (.dstore kk, 2)) (hl : storeLocals Ls kk (.double v) = some l') (h : own_G p e below s Q k n (T.setTop (mkF m (pc + 2) l' st))) : own_G p e below s Q k n (T.setTop (mkF m pc Ls (.double v :: st))) := own_st (fun _ => XS.dstore X.here hx rfl (hb hby hd) rfl hl) h
theorem own_astoreN (X : Stand p l e R s m args below meth c T locs cells slots) (hx : p.tables.exec = Jvm.exec) (hby : c.code = code) {kk : Fin 4} {v : Value} {l' : Array Slot} (hd : decode code pc = .ok (.astore_n kk, 1)) (hv : v.isRef = true) (hl : storeLocals Ls kk.val v = some l') (h : own_G p e below s Q k n (T.setTop (mkF m (pc + 1) l' st))) : own_G p e below s Q k n (T.setTop (mkF m pc Ls (v :: st))) := own_st (fun _ => XS.astoreN X.here hx rfl (hb hby hd) rfl hv hl) h
theorem own_astore (X : Stand p l e R s m args below meth c T locs cells slots) (hx : p.tables.exec = Jvm.exec) (hby : c.code = code) {kk : Nat} {v : Value} {l' : Array Slot} (hd : decode code pc = .ok (.astore kk, 2)) (hv : v.isRef = true) (hl : storeLocals Ls kk v = some l') (h : own_G p e below s Q k n (T.setTop (mkF m (pc + 2) l' st))) : own_G p e below s Q k n (T.setTop (mkF m pc Ls (v :: st))) := own_st (fun _ => XS.astore X.here hx rfl (hb hby hd) rfl hv hl) h
theorem own_iconst (X : Stand p l e R s m args below meth c T locs cells slots) (hx : p.tables.exec = Jvm.exec) (hby : c.code = code) {i : Int} (hd : decode code pc = .ok (.iconst i, 1))  (h : own_G p e below s Q k n (T.setTop (mkF m (pc + 1) Ls (.int (Int32.ofInt i) :: st)))) : own_G p e below s Q k n (T.setTop (mkF m pc Ls st)) := own_st (fun _ => XS.iconst X.here hx rfl (hb hby hd)) h
theorem own_bipush (X : Stand p l e R s m args below meth c T locs cells slots) (hx : p.tables.exec = Jvm.exec) (hby : c.code = code) {i : Int} (hd : decode code pc = .ok (.bipush i, 2))  (h : own_G p e below s Q k n (T.setTop (mkF m (pc + 2) Ls (.int (Int8.ofInt i).toInt32 :: st)))) : own_G p e below s Q k n (T.setTop (mkF m pc Ls st)) := own_st (fun _ => XS.bipush X.here hx rfl (hb hby hd)) h
theorem own_sipush (X : Stand p l e R s m args below meth c T locs cells slots) (hx : p.tables.exec = Jvm.exec) (hby : c.code = code) {i : Int} (hd : decode code pc = .ok (.sipush i, 3))  (h : own_G p e below s Q k n (T.setTop (mkF m (pc + 3) Ls (.int (Int16.ofInt i).toInt32 :: st)))) : own_G p e below s Q k n (T.setTop (mkF m pc Ls st)) := own_st (fun _ => XS.sipush X.here hx rfl (hb hby hd)) h
theorem own_lconst (X : Stand p l e R s m args below meth c T locs cells slots) (hx : p.tables.exec = Jvm.exec) (hby : c.code = code) {i : Fin 2} (hd : decode code pc = .ok (.lconst i, 1))  (h : own_G p e below s Q k n (T.setTop (mkF m (pc + 1) Ls (.long (Int64.ofNat i) :: st)))) : own_G p e below s Q k n (T.setTop (mkF m pc Ls st)) := own_st (fun _ => XS.lconst X.here hx rfl (hb hby hd)) h
theorem own_aconst_null (X : Stand p l e R s m args below meth c T locs cells slots) (hx : p.tables.exec = Jvm.exec) (hby : c.code = code)  (hd : decode code pc = .ok (.aconst_null, 1))  (h : own_G p e below s Q k n (T.setTop (mkF m (pc + 1) Ls (.null :: st)))) : own_G p e below s Q k n (T.setTop (mkF m pc Ls st)) := own_st (fun _ => XS.aconstNull X.here hx rfl (hb hby hd)) h
theorem own_iadd (X : Stand p l e R s m args below meth c T locs cells slots) (hx : p.tables.exec = Jvm.exec) (hby : c.code = code) {x y : Int32} (hd : decode code pc = .ok (.iadd, 1))  (h : own_G p e below s Q k n (T.setTop (mkF m (pc + 1) Ls (.int (x + y) :: st)))) : own_G p e below s Q k n (T.setTop (mkF m pc Ls (.int y :: .int x :: st))) := own_st (fun _ => XS.iadd X.here hx rfl (hb hby hd) rfl) h
theorem own_isub (X : Stand p l e R s m args below meth c T locs cells slots) (hx : p.tables.exec = Jvm.exec) (hby : c.code = code) {x y : Int32} (hd : decode code pc = .ok (.isub, 1))  (h : own_G p e below s Q k n (T.setTop (mkF m (pc + 1) Ls (.int (x - y) :: st)))) : own_G p e below s Q k n (T.setTop (mkF m pc Ls (.int y :: .int x :: st))) := own_st (fun _ => XS.isub X.here hx rfl (hb hby hd) rfl) h
theorem own_imul (X : Stand p l e R s m args below meth c T locs cells slots) (hx : p.tables.exec = Jvm.exec) (hby : c.code = code) {x y : Int32} (hd : decode code pc = .ok (.imul, 1))  (h : own_G p e below s Q k n (T.setTop (mkF m (pc + 1) Ls (.int (x * y) :: st)))) : own_G p e below s Q k n (T.setTop (mkF m pc Ls (.int y :: .int x :: st))) := own_st (fun _ => XS.imul X.here hx rfl (hb hby hd) rfl) h
theorem own_iand (X : Stand p l e R s m args below meth c T locs cells slots) (hx : p.tables.exec = Jvm.exec) (hby : c.code = code) {x y : Int32} (hd : decode code pc = .ok (.iand, 1))  (h : own_G p e below s Q k n (T.setTop (mkF m (pc + 1) Ls (.int (x &&& y) :: st)))) : own_G p e below s Q k n (T.setTop (mkF m pc Ls (.int y :: .int x :: st))) := own_st (fun _ => XS.iand X.here hx rfl (hb hby hd) rfl) h
theorem own_ior (X : Stand p l e R s m args below meth c T locs cells slots) (hx : p.tables.exec = Jvm.exec) (hby : c.code = code) {x y : Int32} (hd : decode code pc = .ok (.ior, 1))  (h : own_G p e below s Q k n (T.setTop (mkF m (pc + 1) Ls (.int (x ||| y) :: st)))) : own_G p e below s Q k n (T.setTop (mkF m pc Ls (.int y :: .int x :: st))) := own_st (fun _ => XS.ior X.here hx rfl (hb hby hd) rfl) h
theorem own_ixor (X : Stand p l e R s m args below meth c T locs cells slots) (hx : p.tables.exec = Jvm.exec) (hby : c.code = code) {x y : Int32} (hd : decode code pc = .ok (.ixor, 1))  (h : own_G p e below s Q k n (T.setTop (mkF m (pc + 1) Ls (.int (x ^^^ y) :: st)))) : own_G p e below s Q k n (T.setTop (mkF m pc Ls (.int y :: .int x :: st))) := own_st (fun _ => XS.ixor X.here hx rfl (hb hby hd) rfl) h
theorem own_ishl (X : Stand p l e R s m args below meth c T locs cells slots) (hx : p.tables.exec = Jvm.exec) (hby : c.code = code) {x y : Int32} (hd : decode code pc = .ok (.ishl, 1))  (h : own_G p e below s Q k n (T.setTop (mkF m (pc + 1) Ls (.int (x <<< (y &&& 31)) :: st)))) : own_G p e below s Q k n (T.setTop (mkF m pc Ls (.int y :: .int x :: st))) := own_st (fun _ => XS.ishl X.here hx rfl (hb hby hd) rfl) h
theorem own_ishr (X : Stand p l e R s m args below meth c T locs cells slots) (hx : p.tables.exec = Jvm.exec) (hby : c.code = code) {x y : Int32} (hd : decode code pc = .ok (.ishr, 1))  (h : own_G p e below s Q k n (T.setTop (mkF m (pc + 1) Ls (.int (x >>> (y &&& 31)) :: st)))) : own_G p e below s Q k n (T.setTop (mkF m pc Ls (.int y :: .int x :: st))) := own_st (fun _ => XS.ishr X.here hx rfl (hb hby hd) rfl) h
theorem own_iushr (X : Stand p l e R s m args below meth c T locs cells slots) (hx : p.tables.exec = Jvm.exec) (hby : c.code = code) {x y : Int32} (hd : decode code pc = .ok (.iushr, 1))  (h : own_G p e below s Q k n (T.setTop (mkF m (pc + 1) Ls (.int ((x.toUInt32 >>> (y &&& 31).toUInt32).toInt32) :: st)))) : own_G p e below s Q k n (T.setTop (mkF m pc Ls (.int y :: .int x :: st))) := own_st (fun _ => XS.iushr X.here hx rfl (hb hby hd) rfl) h
theorem own_ladd (X : Stand p l e R s m args below meth c T locs cells slots) (hx : p.tables.exec = Jvm.exec) (hby : c.code = code) {x y : Int64} (hd : decode code pc = .ok (.ladd, 1))  (h : own_G p e below s Q k n (T.setTop (mkF m (pc + 1) Ls (.long (x + y) :: st)))) : own_G p e below s Q k n (T.setTop (mkF m pc Ls (.long y :: .long x :: st))) := own_st (fun _ => XS.ladd X.here hx rfl (hb hby hd) rfl) h
theorem own_lsub (X : Stand p l e R s m args below meth c T locs cells slots) (hx : p.tables.exec = Jvm.exec) (hby : c.code = code) {x y : Int64} (hd : decode code pc = .ok (.lsub, 1))  (h : own_G p e below s Q k n (T.setTop (mkF m (pc + 1) Ls (.long (x - y) :: st)))) : own_G p e below s Q k n (T.setTop (mkF m pc Ls (.long y :: .long x :: st))) := own_st (fun _ => XS.lsub X.here hx rfl (hb hby hd) rfl) h
theorem own_lmul (X : Stand p l e R s m args below meth c T locs cells slots) (hx : p.tables.exec = Jvm.exec) (hby : c.code = code) {x y : Int64} (hd : decode code pc = .ok (.lmul, 1))  (h : own_G p e below s Q k n (T.setTop (mkF m (pc + 1) Ls (.long (x * y) :: st)))) : own_G p e below s Q k n (T.setTop (mkF m pc Ls (.long y :: .long x :: st))) := own_st (fun _ => XS.lmul X.here hx rfl (hb hby hd) rfl) h
theorem own_land (X : Stand p l e R s m args below meth c T locs cells slots) (hx : p.tables.exec = Jvm.exec) (hby : c.code = code) {x y : Int64} (hd : decode code pc = .ok (.land, 1))  (h : own_G p e below s Q k n (T.setTop (mkF m (pc + 1) Ls (.long (x &&& y) :: st)))) : own_G p e below s Q k n (T.setTop (mkF m pc Ls (.long y :: .long x :: st))) := own_st (fun _ => XS.land X.here hx rfl (hb hby hd) rfl) h
theorem own_lor (X : Stand p l e R s m args below meth c T locs cells slots) (hx : p.tables.exec = Jvm.exec) (hby : c.code = code) {x y : Int64} (hd : decode code pc = .ok (.lor, 1))  (h : own_G p e below s Q k n (T.setTop (mkF m (pc + 1) Ls (.long (x ||| y) :: st)))) : own_G p e below s Q k n (T.setTop (mkF m pc Ls (.long y :: .long x :: st))) := own_st (fun _ => XS.lor X.here hx rfl (hb hby hd) rfl) h
theorem own_lxor (X : Stand p l e R s m args below meth c T locs cells slots) (hx : p.tables.exec = Jvm.exec) (hby : c.code = code) {x y : Int64} (hd : decode code pc = .ok (.lxor, 1))  (h : own_G p e below s Q k n (T.setTop (mkF m (pc + 1) Ls (.long (x ^^^ y) :: st)))) : own_G p e below s Q k n (T.setTop (mkF m pc Ls (.long y :: .long x :: st))) := own_st (fun _ => XS.lxor X.here hx rfl (hb hby hd) rfl) h
theorem own_lshl (X : Stand p l e R s m args below meth c T locs cells slots) (hx : p.tables.exec = Jvm.exec) (hby : c.code = code) {x : Int64} {y : Int32} (hd : decode code pc = .ok (.lshl, 1))  (h : own_G p e below s Q k n (T.setTop (mkF m (pc + 1) Ls (.long (x <<< (y &&& 0x3f).toInt64) :: st)))) : own_G p e below s Q k n (T.setTop (mkF m pc Ls (.int y :: .long x :: st))) := own_st (fun _ => XS.lshl X.here hx rfl (hb hby hd) rfl) h
theorem own_lshr (X : Stand p l e R s m args below meth c T locs cells slots) (hx : p.tables.exec = Jvm.exec) (hby : c.code = code) {x : Int64} {y : Int32} (hd : decode code pc = .ok (.lshr, 1))  (h : own_G p e below s Q k n (T.setTop (mkF m (pc + 1) Ls (.long (x >>> (y &&& 0x3f).toInt64) :: st)))) : own_G p e below s Q k n (T.setTop (mkF m pc Ls (.int y :: .long x :: st))) := own_st (fun _ => XS.lshr X.here hx rfl (hb hby hd) rfl) h
theorem own_lushr (X : Stand p l e R s m args below meth c T locs cells slots) (hx : p.tables.exec = Jvm.exec) (hby : c.code = code) {x : Int64} {y : Int32} (hd : decode code pc = .ok (.lushr, 1))  (h : own_G p e below s Q k n (T.setTop (mkF m (pc + 1) Ls (.long ((x.toUInt64 >>> (y &&& 0x3f).toInt64.toUInt64).toInt64) :: st)))) : own_G p e below s Q k n (T.setTop (mkF m pc Ls (.int y :: .long x :: st))) := own_st (fun _ => XS.lushr X.here hx rfl (hb hby hd) rfl) h
theorem own_idiv (X : Stand p l e R s m args below meth c T locs cells slots) (hx : p.tables.exec = Jvm.exec) (hby : c.code = code) {x y : Int32} (hd : decode code pc = .ok (.idiv, 1)) (hy : y ≠ 0) (h : own_G p e below s Q k n (T.setTop (mkF m (pc + 1) Ls (.int (x / y) :: st)))) : own_G p e below s Q k n (T.setTop (mkF m pc Ls (.int y :: .int x :: st))) := own_st (fun _ => XS.idiv X.here hx rfl (hb hby hd) rfl hy) h
theorem own_irem (X : Stand p l e R s m args below meth c T locs cells slots) (hx : p.tables.exec = Jvm.exec) (hby : c.code = code) {x y : Int32} (hd : decode code pc = .ok (.irem, 1)) (hy : y ≠ 0) (h : own_G p e below s Q k n (T.setTop (mkF m (pc + 1) Ls (.int (x % y) :: st)))) : own_G p e below s Q k n (T.setTop (mkF m pc Ls (.int y :: .int x :: st))) := own_st (fun _ => iremM X hx rfl (hb hby hd) rfl hy) h
theorem own_ldiv (X : Stand p l e R s m args below meth c T locs cells slots) (hx : p.tables.exec = Jvm.exec) (hby : c.code = code) {x y : Int64} (hd : decode code pc = .ok (.ldiv, 1)) (hy : y ≠ 0) (h : own_G p e below s Q k n (T.setTop (mkF m (pc + 1) Ls (.long (x / y) :: st)))) : own_G p e below s Q k n (T.setTop (mkF m pc Ls (.long y :: .long x :: st))) := own_st (fun _ => XS.ldiv X.here hx rfl (hb hby hd) rfl hy) h
theorem own_lrem (X : Stand p l e R s m args below meth c T locs cells slots) (hx : p.tables.exec = Jvm.exec) (hby : c.code = code) {x y : Int64} (hd : decode code pc = .ok (.lrem, 1)) (hy : y ≠ 0) (h : own_G p e below s Q k n (T.setTop (mkF m (pc + 1) Ls (.long (x % y) :: st)))) : own_G p e below s Q k n (T.setTop (mkF m pc Ls (.long y :: .long x :: st))) := own_st (fun _ hr => XS.lrem X.here hx rfl (hb hby hd) rfl hy (by rw [lrem_mod]; exact hr)) h
theorem own_ineg (X : Stand p l e R s m args below meth c T locs cells slots) (hx : p.tables.exec = Jvm.exec) (hby : c.code = code) {x : Int32} (hd : decode code pc = .ok (.ineg, 1))  (h : own_G p e below s Q k n (T.setTop (mkF m (pc + 1) Ls (.int (-x) :: st)))) : own_G p e below s Q k n (T.setTop (mkF m pc Ls (.int x :: st))) := own_st (fun _ => XS.ineg X.here hx rfl (hb hby hd) rfl) h
theorem own_lneg (X : Stand p l e R s m args below meth c T locs cells slots) (hx : p.tables.exec = Jvm.exec) (hby : c.code = code) {x : Int64} (hd : decode code pc = .ok (.lneg, 1))  (h : own_G p e below s Q k n (T.setTop (mkF m (pc + 1) Ls (.long (-x) :: st)))) : own_G p e below s Q k n (T.setTop (mkF m pc Ls (.long x :: st))) := own_st (fun _ => XS.lneg X.here hx rfl (hb hby hd) rfl) h
theorem own_i2l (X : Stand p l e R s m args below meth c T locs cells slots) (hx : p.tables.exec = Jvm.exec) (hby : c.code = code) {x : Int32} (hd : decode code pc = .ok (.i2l, 1))  (h : own_G p e below s Q k n (T.setTop (mkF m (pc + 1) Ls (.long (x.toInt64) :: st)))) : own_G p e below s Q k n (T.setTop (mkF m pc Ls (.int x :: st))) := own_st (fun _ => XS.i2l X.here hx rfl (hb hby hd) rfl) h
theorem own_l2i (X : Stand p l e R s m args below meth c T locs cells slots) (hx : p.tables.exec = Jvm.exec) (hby : c.code = code) {x : Int64} (hd : decode code pc = .ok (.l2i, 1))  (h : own_G p e below s Q k n (T.setTop (mkF m (pc + 1) Ls (.int (x.toInt32) :: st)))) : own_G p e below s Q k n (T.setTop (mkF m pc Ls (.long x :: st))) := own_st (fun _ => XS.l2i X.here hx rfl (hb hby hd) rfl) h
theorem own_i2b (X : Stand p l e R s m args below meth c T locs cells slots) (hx : p.tables.exec = Jvm.exec) (hby : c.code = code) {x : Int32} (hd : decode code pc = .ok (.i2b, 1))  (h : own_G p e below s Q k n (T.setTop (mkF m (pc + 1) Ls (.int (x.toInt8.toInt32) :: st)))) : own_G p e below s Q k n (T.setTop (mkF m pc Ls (.int x :: st))) := own_st (fun _ => XS.i2b X.here hx rfl (hb hby hd) rfl) h
theorem own_i2s (X : Stand p l e R s m args below meth c T locs cells slots) (hx : p.tables.exec = Jvm.exec) (hby : c.code = code) {x : Int32} (hd : decode code pc = .ok (.i2s, 1))  (h : own_G p e below s Q k n (T.setTop (mkF m (pc + 1) Ls (.int (x.toInt16.toInt32) :: st)))) : own_G p e below s Q k n (T.setTop (mkF m pc Ls (.int x :: st))) := own_st (fun _ => XS.i2s X.here hx rfl (hb hby hd) rfl) h
theorem own_i2c (X : Stand p l e R s m args below meth c T locs cells slots) (hx : p.tables.exec = Jvm.exec) (hby : c.code = code) {x : Int32} (hd : decode code pc = .ok (.i2c, 1))  (h : own_G p e below s Q k n (T.setTop (mkF m (pc + 1) Ls (.int (x.toUInt32.toUInt16.toUInt32.toInt32) :: st)))) : own_G p e below s Q k n (T.setTop (mkF m pc Ls (.int x :: st))) := own_st (fun _ => XS.i2c X.here hx rfl (hb hby hd) rfl) h
theorem own_dup (X : Stand p l e R s m args below meth c T locs cells slots) (hx : p.tables.exec = Jvm.exec) (hby : c.code = code) {v : Value} (hd : decode code pc = .ok (.dup, 1)) (hc : v.category = 1) (h : own_G p e below s Q k n (T.setTop (mkF m (pc + 1) Ls (v :: v :: st)))) : own_G p e below s Q k n (T.setTop (mkF m pc Ls (v :: st))) := own_st (fun _ => XS.dup X.here hx rfl (hb hby hd) rfl hc) h
theorem own_dup_x1 (X : Stand p l e R s m args below meth c T locs cells slots) (hx : p.tables.exec = Jvm.exec) (hby : c.code = code) {v w : Value} (hd : decode code pc = .ok (.dup_x1, 1)) (hc : v.category = 1) (hc' : w.category = 1) (h : own_G p e below s Q k n (T.setTop (mkF m (pc + 1) Ls (v :: w :: v :: st)))) : own_G p e below s Q k n (T.setTop (mkF m pc Ls (v :: w :: st))) := own_st (fun _ => XS.dupX1 X.here hx rfl (hb hby hd) rfl hc hc') h
theorem own_dup2 (X : Stand p l e R s m args below meth c T locs cells slots) (hx : p.tables.exec = Jvm.exec) (hby : c.code = code) {v w : Value} (hd : decode code pc = .ok (.dup2, 1)) (hc : v.category = 1) (hc' : w.category = 1) (h : own_G p e below s Q k n (T.setTop (mkF m (pc + 1) Ls (v :: w :: v :: w :: st)))) : own_G p e below s Q k n (T.setTop (mkF m pc Ls (v :: w :: st))) := own_st (fun _ => Jvm.Free.XT.dup2 X.here hx rfl (hb hby hd) rfl hc hc') h
theorem own_dup2L (X : Stand p l e R s m args below meth c T locs cells slots) (hx : p.tables.exec = Jvm.exec) (hby : c.code = code) {v : Int64} (hd : decode code pc = .ok (.dup2, 1))  (h : own_G p e below s Q k n (T.setTop (mkF m (pc + 1) Ls (.long v :: .long v :: st)))) : own_G p e below s Q k n (T.setTop (mkF m pc Ls (.long v :: st))) := own_st (fun _ => Jvm.Free.XT.dup2L X.here hx rfl (hb hby hd) rfl) h
theorem own_pop (X : Stand p l e R s m args below meth c T locs cells slots) (hx : p.tables.exec = Jvm.exec) (hby : c.code = code) {v : Value} (hd : decode code pc = .ok (.pop, 1)) (hc : v.category = 1) (h : own_G p e below s Q k n (T.setTop (mkF m (pc + 1) Ls st))) : own_G p e below s Q k n (T.setTop (mkF m pc Ls (v :: st))) := own_st (fun _ => XS.pop X.here hx rfl (hb hby hd) rfl hc) h
theorem own_iinc (X : Stand p l e R s m args below meth c T locs cells slots) (hx : p.tables.exec = Jvm.exec) (hby : c.code = code) {kk : Nat} {cst : Int} {x : Int32} {l' : Array Slot} (hd : decode code pc = .ok (.iinc kk cst, 3)) (hl : Ls[kk]? = some (.val (.int x))) (hl' : storeLocals Ls kk (.int (x + Int32.ofInt cst)) = some l') (h : own_G p e below s Q k n (T.setTop (mkF m (pc + 3) l' st))) : own_G p e below s Q k n (T.setTop (mkF m pc Ls st)) := own_st (fun _ => XS.iinc X.here hx rfl (hb hby hd) hl hl') h
theorem own_goto (X : Stand p l e R s m args below meth c T locs cells slots) (hx : p.tables.exec = Jvm.exec) (hby : c.code = code) {o : Int} {pc' : Nat} (hd : decode code pc = .ok (.goto o, 3)) (ho : 0 ≤ (pc : Int) + o) (hp : ((pc : Int) + o).toNat = pc') (h : own_G p e below s Q k n (T.setTop (mkF m pc' Ls st))) : own_G p e below s Q k n (T.setTop (mkF m pc Ls st)) := own_st (fun _ => XS.goto X.here hx rfl rfl (hb hby hd) ho hp) h
theorem own_icmp_eq (X : Stand p l e R s m args below meth c T locs cells slots) (hx : p.tables.exec = Jvm.exec) (hby : c.code = code) {x y : Int32} {o : Int} {pc' : Nat} (hd : decode code pc = .ok (.if_icmp .eq o, 3)) (ho : 0 ≤ (pc : Int) + o) (hp : ((pc : Int) + o).toNat = pc') (hY : x = y → own_G p e below s Q k n (T.setTop (mkF m pc' Ls st))) (hN : ¬ x = y → own_G p e below s Q k n (T.setTop (mkF m (pc + 3) Ls st))) : own_G p e below s Q k n (T.setTop (mkF m pc Ls (.int y :: .int x :: st))) := by
  by_cases q : x = y
  · exact own_st (fun _ => XS.icmpYes X.here hx rfl rfl (hb hby hd) rfl (teq q).1 ho hp) (hY q)
  · exact own_st (fun _ => XS.icmpNo X.here hx rfl (hb hby hd) rfl (feq q).1) (hN q)
theorem own_if_eq (X : Stand p l e R s m args below meth c T locs cells slots) (hx : p.tables.exec = Jvm.exec) (hby : c.code = code) {x : Int32} {o : Int} {pc' : Nat} (hd : decode code pc = .ok (.ifCond .eq o, 3)) (ho : 0 ≤ (pc : Int) + o) (hp : ((pc : Int) + o).toNat = pc') (hY : x = 0 → own_G p e below s Q k n (T.setTop (mkF m pc' Ls st))) (hN : ¬ x = 0 → own_G p e below s Q k n (T.setTop (mkF m (pc + 3) Ls st))) : own_G p e below s Q k n (T.setTop (mkF m pc Ls (.int x :: st))) := by
  by_cases q : x = 0
  · exact own_st (fun _ => XS.ifYes X.here hx rfl rfl (hb hby hd) rfl ((if0 _ _).trans (teq q).1) ho hp) (hY q)
  · exact own_st (fun _ => XS.ifNo X.here hx rfl (hb hby hd) rfl ((if0 _ _).trans (feq q).1)) (hN q)
theorem own_lcmp_eq (X : Stand p l e R s m args below meth c T locs cells slots) (hx : p.tables.exec = Jvm.exec) (hby : c.code = code) {x y : Int64} {o : Int} {pc' : Nat} (hd : decode code pc = .ok (.lcmp, 1)) (hd2 : decode code (pc + 1) = .ok (.ifCond .eq o, 3)) (ho : 0 ≤ ((pc + 1 : Nat) : Int) + o) (hp : (((pc + 1 : Nat) : Int) + o).toNat = pc') (hY : x = y → own_G p e below s Q k n (T.setTop (mkF m pc' Ls st))) (hN : ¬ x = y → own_G p e below s Q k n (T.setTop (mkF m (pc + 4) Ls st))) : own_G p e below s Q k n (T.setTop (mkF m pc Ls (.long y :: .long x :: st))) := by
  refine own_st (fun _ => XS.lcmp X.here hx rfl (hb hby hd) rfl) ?_
  exact own_if_eq (x := lcmpW x y) X hx hby hd2 ho hp (fun q => hY ((lw_eq x y).mp q)) (fun q => hN (fun z => q ((lw_eq x y).mpr z)))
theorem own_icmp_ne (X : Stand p l e R s m args below meth c T locs cells slots) (hx : p.tables.exec = Jvm.exec) (hby : c.code = code) {x y : Int32} {o : Int} {pc' : Nat} (hd : decode code pc = .ok (.if_icmp .ne o, 3)) (ho : 0 ≤ (pc : Int) + o) (hp : ((pc : Int) + o).toNat = pc') (hY : ¬ x = y → own_G p e below s Q k n (T.setTop (mkF m pc' Ls st))) (hN : x = y → own_G p e below s Q k n (T.setTop (mkF m (pc + 3) Ls st))) : own_G p e below s Q k n (T.setTop (mkF m pc Ls (.int y :: .int x :: st))) := by
  by_cases q : x = y
  · exact own_st (fun _ => XS.icmpNo X.here hx rfl (hb hby hd) rfl (teq q).2) (hN q)
  · exact own_st (fun _ => XS.icmpYes X.here hx rfl rfl (hb hby hd) rfl (feq q).2 ho hp) (hY q)
theorem own_if_ne (X : Stand p l e R s m args below meth c T locs cells slots) (hx : p.tables.exec = Jvm.exec) (hby : c.code = code) {x : Int32} {o : Int} {pc' : Nat} (hd : decode code pc = .ok (.ifCond .ne o, 3)) (ho : 0 ≤ (pc : Int) + o) (hp : ((pc : Int) + o).toNat = pc') (hY : ¬ x = 0 → own_G p e below s Q k n (T.setTop (mkF m pc' Ls st))) (hN : x = 0 → own_G p e below s Q k n (T.setTop (mkF m (pc + 3) Ls st))) : own_G p e below s Q k n (T.setTop (mkF m pc Ls (.int x :: st))) := by
  by_cases q : x = 0
  · exact own_st (fun _ => XS.ifNo X.here hx rfl (hb hby hd) rfl ((if0 _ _).trans (teq q).2)) (hN q)
  · exact own_st (fun _ => XS.ifYes X.here hx rfl rfl (hb hby hd) rfl ((if0 _ _).trans (feq q).2) ho hp) (hY q)
theorem own_lcmp_ne (X : Stand p l e R s m args below meth c T locs cells slots) (hx : p.tables.exec = Jvm.exec) (hby : c.code = code) {x y : Int64} {o : Int} {pc' : Nat} (hd : decode code pc = .ok (.lcmp, 1)) (hd2 : decode code (pc + 1) = .ok (.ifCond .ne o, 3)) (ho : 0 ≤ ((pc + 1 : Nat) : Int) + o) (hp : (((pc + 1 : Nat) : Int) + o).toNat = pc') (hY : ¬ x = y → own_G p e below s Q k n (T.setTop (mkF m pc' Ls st))) (hN : x = y → own_G p e below s Q k n (T.setTop (mkF m (pc + 4) Ls st))) : own_G p e below s Q k n (T.setTop (mkF m pc Ls (.long y :: .long x :: st))) := by
  refine own_st (fun _ => XS.lcmp X.here hx rfl (hb hby hd) rfl) ?_
  exact own_if_ne (x := lcmpW x y) X hx hby hd2 ho hp (fun q => hY (fun z => q ((lw_eq x y).mpr z))) (fun q => hN ((lw_eq x y).mp q))
theorem own_icmp_lt (X : Stand p l e R s m args below meth c T locs cells slots) (hx : p.tables.exec = Jvm.exec) (hby : c.code = code) {x y : Int32} {o : Int} {pc' : Nat} (hd : decode code pc = .ok (.if_icmp .lt o, 3)) (ho : 0 ≤ (pc : Int) + o) (hp : ((pc : Int) + o).toNat = pc') (hY : x < y → own_G p e below s Q k n (T.setTop (mkF m pc' Ls st))) (hN : ¬ x < y → own_G p e below s Q k n (T.setTop (mkF m (pc + 3) Ls st))) : own_G p e below s Q k n (T.setTop (mkF m pc Ls (.int y :: .int x :: st))) := by
  by_cases q : x < y
  · exact own_st (fun _ => XS.icmpYes X.here hx rfl rfl (hb hby hd) rfl (tlt q).1 ho hp) (hY q)
  · exact own_st (fun _ => XS.icmpNo X.here hx rfl (hb hby hd) rfl (flt q).1) (hN q)
theorem own_if_lt (X : Stand p l e R s m args below meth c T locs cells slots) (hx : p.tables.exec = Jvm.exec) (hby : c.code = code) {x : Int32} {o : Int} {pc' : Nat} (hd : decode code pc = .ok (.ifCond .lt o, 3)) (ho : 0 ≤ (pc : Int) + o) (hp : ((pc : Int) + o).toNat = pc') (hY : x < 0 → own_G p e below s Q k n (T.setTop (mkF m pc' Ls st))) (hN : ¬ x < 0 → own_G p e below s Q k n (T.setTop (mkF m (pc + 3) Ls st))) : own_G p e below s Q k n (T.setTop (mkF m pc Ls (.int x :: st))) := by
  by_cases q : x < 0
  · exact own_st (fun _ => XS.ifYes X.here hx rfl rfl (hb hby hd) rfl ((if0 _ _).trans (tlt q).1) ho hp) (hY q)
  · exact own_st (fun _ => XS.ifNo X.here hx rfl (hb hby hd) rfl ((if0 _ _).trans (flt q).1)) (hN q)
theorem own_lcmp_lt (X : Stand p l e R s m args below meth c T locs cells slots) (hx : p.tables.exec = Jvm.exec) (hby : c.code = code) {x y : Int64} {o : Int} {pc' : Nat} (hd : decode code pc = .ok (.lcmp, 1)) (hd2 : decode code (pc + 1) = .ok (.ifCond .lt o, 3)) (ho : 0 ≤ ((pc + 1 : Nat) : Int) + o) (hp : (((pc + 1 : Nat) : Int) + o).toNat = pc') (hY : x < y → own_G p e below s Q k n (T.setTop (mkF m pc' Ls st))) (hN : ¬ x < y → own_G p e below s Q k n (T.setTop (mkF m (pc + 4) Ls st))) : own_G p e below s Q k n (T.setTop (mkF m pc Ls (.long y :: .long x :: st))) := by
  refine own_st (fun _ => XS.lcmp X.here hx rfl (hb hby hd) rfl) ?_
  exact own_if_lt (x := lcmpW x y) X hx hby hd2 ho hp (fun q => hY ((lw_lt x y).mp q)) (fun q => hN (fun z => q ((lw_lt x y).mpr z)))
theorem own_icmp_ge (X : Stand p l e R s m args below meth c T locs cells slots) (hx : p.tables.exec = Jvm.exec) (hby : c.code = code) {x y : Int32} {o : Int} {pc' : Nat} (hd : decode code pc = .ok (.if_icmp .ge o, 3)) (ho : 0 ≤ (pc : Int) + o) (hp : ((pc : Int) + o).toNat = pc') (hY : ¬ x < y → own_G p e below s Q k n (T.setTop (mkF m pc' Ls st))) (hN : x < y → own_G p e below s Q k n (T.setTop (mkF m (pc + 3) Ls st))) : own_G p e below s Q k n (T.setTop (mkF m pc Ls (.int y :: .int x :: st))) := by
  by_cases q : x < y
  · exact own_st (fun _ => XS.icmpNo X.here hx rfl (hb hby hd) rfl (tlt q).2.1) (hN q)
  · exact own_st (fun _ => XS.icmpYes X.here hx rfl rfl (hb hby hd) rfl (flt q).2.1 ho hp) (hY q)
theorem own_if_ge (X : Stand p l e R s m args below meth c T locs cells slots) (hx : p.tables.exec = Jvm.exec) (hby : c.code = code) {x : Int32} {o : Int} {pc' : Nat} (hd : decode code pc = .ok (.ifCond .ge o, 3)) (ho : 0 ≤ (pc : Int) + o) (hp : ((pc : Int) + o).toNat = pc') (hY : ¬ x < 0 → own_G p e below s Q k n (T.setTop (mkF m pc' Ls st))) (hN : x < 0 → own_G p e below s Q k n (T.setTop (mkF m (pc + 3) Ls st))) : own_G p e below s Q k n (T.setTop (mkF m pc Ls (.int x :: st))) := by
  by_cases q : x < 0
  · exact own_st (fun _ => XS.ifNo X.here hx rfl (hb hby hd) rfl ((if0 _ _).trans (tlt q).2.1)) (hN q)
  · exact own_st (fun _ => XS.ifYes X.here hx rfl rfl (hb hby hd) rfl ((if0 _ _).trans (flt q).2.1) ho hp) (hY q)
theorem own_lcmp_ge (X : Stand p l e R s m args below meth c T locs cells slots) (hx : p.tables.exec = Jvm.exec) (hby : c.code = code) {x y : Int64} {o : Int} {pc' : Nat} (hd : decode code pc = .ok (.lcmp, 1)) (hd2 : decode code (pc + 1) = .ok (.ifCond .ge o, 3)) (ho : 0 ≤ ((pc + 1 : Nat) : Int) + o) (hp : (((pc + 1 : Nat) : Int) + o).toNat = pc') (hY : ¬ x < y → own_G p e below s Q k n (T.setTop (mkF m pc' Ls st))) (hN : x < y → own_G p e below s Q k n (T.setTop (mkF m (pc + 4) Ls st))) : own_G p e below s Q k n (T.setTop (mkF m pc Ls (.long y :: .long x :: st))) := by
  refine own_st (fun _ => XS.lcmp X.here hx rfl (hb hby hd) rfl) ?_
  exact own_if_ge (x := lcmpW x y) X hx hby hd2 ho hp (fun q => hY (fun z => q ((lw_lt x y).mpr z))) (fun q => hN ((lw_lt x y).mp q))
theorem own_icmp_gt (X : Stand p l e R s m args below meth c T locs cells slots) (hx : p.tables.exec = Jvm.exec) (hby : c.code = code) {x y : Int32} {o : Int} {pc' : Nat} (hd : decode code pc = .ok (.if_icmp .gt o, 3)) (ho : 0 ≤ (pc : Int) + o) (hp : ((pc : Int) + o).toNat = pc') (hY : y < x → own_G p e below s Q k n (T.setTop (mkF m pc' Ls st))) (hN : ¬ y < x → own_G p e below s Q k n (T.setTop (mkF m (pc + 3) Ls st))) : own_G p e below s Q k n (T.setTop (mkF m pc Ls (.int y :: .int x :: st))) := by
  by_cases q : y < x
  · exact own_st (fun _ => XS.icmpYes X.here hx rfl rfl (hb hby hd) rfl (tlt q).2.2.1 ho hp) (hY q)
  · exact own_st (fun _ => XS.icmpNo X.here hx rfl (hb hby hd) rfl (flt q).2.2.1) (hN q)
theorem own_if_gt (X : Stand p l e R s m args below meth c T locs cells slots) (hx : p.tables.exec = Jvm.exec) (hby : c.code = code) {x : Int32} {o : Int} {pc' : Nat} (hd : decode code pc = .ok (.ifCond .gt o, 3)) (ho : 0 ≤ (pc : Int) + o) (hp : ((pc : Int) + o).toNat = pc') (hY : 0 < x → own_G p e below s Q k n (T.setTop (mkF m pc' Ls st))) (hN : ¬ 0 < x → own_G p e below s Q k n (T.setTop (mkF m (pc + 3) Ls st))) : own_G p e below s Q k n (T.setTop (mkF m pc Ls (.int x :: st))) := by
  by_cases q : 0 < x
  · exact own_st (fun _ => XS.ifYes X.here hx rfl rfl (hb hby hd) rfl ((if0 _ _).trans (tlt q).2.2.1) ho hp) (hY q)
  · exact own_st (fun _ => XS.ifNo X.here hx rfl (hb hby hd) rfl ((if0 _ _).trans (flt q).2.2.1)) (hN q)
theorem own_lcmp_gt (X : Stand p l e R s m args below meth c T locs cells slots) (hx : p.tables.exec = Jvm.exec) (hby : c.code = code) {x y : Int64} {o : Int} {pc' : Nat} (hd : decode code pc = .ok (.lcmp, 1)) (hd2 : decode code (pc + 1) = .ok (.ifCond .gt o, 3)) (ho : 0 ≤ ((pc + 1 : Nat) : Int) + o) (hp : (((pc + 1 : Nat) : Int) + o).toNat = pc') (hY : y < x → own_G p e below s Q k n (T.setTop (mkF m pc' Ls st))) (hN : ¬ y < x → own_G p e below s Q k n (T.setTop (mkF m (pc + 4) Ls st))) : own_G p e below s Q k n (T.setTop (mkF m pc Ls (.long y :: .long x :: st))) := by
  refine own_st (fun _ => XS.lcmp X.here hx rfl (hb hby hd) rfl) ?_
  exact own_if_gt (x := lcmpW x y) X hx hby hd2 ho hp (fun q => hY ((lw_gt x y).mp q)) (fun q => hN (fun z => q ((lw_gt x y).mpr z)))
theorem own_icmp_le (X : Stand p l e R s m args below meth c T locs cells slots) (hx : p.tables.exec = Jvm.exec) (hby : c.code = code) {x y : Int32} {o : Int} {pc' : Nat} (hd : decode code pc = .ok (.if_icmp .le o, 3)) (ho : 0 ≤ (pc : Int) + o) (hp : ((pc : Int) + o).toNat = pc') (hY : ¬ y < x → own_G p e below s Q k n (T.setTop (mkF m pc' Ls st))) (hN : y < x → own_G p e below s Q k n (T.setTop (mkF m (pc + 3) Ls st))) : own_G p e below s Q k n (T.setTop (mkF m pc Ls (.int y :: .int x :: st))) := by
  by_cases q : y < x
  · exact own_st (fun _ => XS.icmpNo X.here hx rfl (hb hby hd) rfl (tlt q).2.2.2) (hN q)
  · exact own_st (fun _ => XS.icmpYes X.here hx rfl rfl (hb hby hd) rfl (flt q).2.2.2 ho hp) (hY q)
theorem own_if_le (X : Stand p l e R s m args below meth c T locs cells slots) (hx : p.tables.exec = Jvm.exec) (hby : c.code = code) {x : Int32} {o : Int} {pc' : Nat} (hd : decode code pc = .ok (.ifCond .le o, 3)) (ho : 0 ≤ (pc : Int) + o) (hp : ((pc : Int) + o).toNat = pc') (hY : ¬ 0 < x → own_G p e below s Q k n (T.setTop (mkF m pc' Ls st))) (hN : 0 < x → own_G p e below s Q k n (T.setTop (mkF m (pc + 3) Ls st))) : own_G p e below s Q k n (T.setTop (mkF m pc Ls (.int x :: st))) := by
  by_cases q : 0 < x
  · exact own_st (fun _ => XS.ifNo X.here hx rfl (hb hby hd) rfl ((if0 _ _).trans (tlt q).2.2.2)) (hN q)
  · exact own_st (fun _ => XS.ifYes X.here hx rfl rfl (hb hby hd) rfl ((if0 _ _).trans (flt q).2.2.2) ho hp) (hY q)
theorem own_lcmp_le (X : Stand p l e R s m args below meth c T locs cells slots) (hx : p.tables.exec = Jvm.exec) (hby : c.code = code) {x y : Int64} {o : Int} {pc' : Nat} (hd : decode code pc = .ok (.lcmp, 1)) (hd2 : decode code (pc + 1) = .ok (.ifCond .le o, 3)) (ho : 0 ≤ ((pc + 1 : Nat) : Int) + o) (hp : (((pc + 1 : Nat) : Int) + o).toNat = pc') (hY : ¬ y < x → own_G p e below s Q k n (T.setTop (mkF m pc' Ls st))) (hN : y < x → own_G p e below s Q k n (T.setTop (mkF m (pc + 4) Ls st))) : own_G p e below s Q k n (T.setTop (mkF m pc Ls (.long y :: .long x :: st))) := by
  refine own_st (fun _ => XS.lcmp X.here hx rfl (hb hby hd) rfl) ?_
  exact own_if_le (x := lcmpW x y) X hx hby hd2 ho hp (fun q => hY (fun z => q ((lw_gt x y).mpr z))) (fun q => hN ((lw_gt x y).mp q))
theorem own_acmp_eq (X : Stand p l e R s m args below meth c T locs cells slots) (hx : p.tables.exec = Jvm.exec) (hby : c.code = code) {x y : Value} {o : Int} {pc' : Nat} (hx1 : x.isRef = true) (hy1 : y.isRef = true) (hd : decode code pc = .ok (.if_acmp .eq o, 3)) (ho : 0 ≤ (pc : Int) + o) (hp : ((pc : Int) + o).toNat = pc') (hY : x = y → own_G p e below s Q k n (T.setTop (mkF m pc' Ls st))) (hN : ¬ x = y → own_G p e below s Q k n (T.setTop (mkF m (pc + 3) Ls st))) : own_G p e below s Q k n (T.setTop (mkF m pc Ls (y :: x :: st))) := by
  by_cases q : x = y
  · exact own_st (fun _ => Jvm.Free.XT.acmpYes X.here hx rfl rfl (hb hby hd) rfl hx1 hy1 (decide_eq_true q) ho hp) (hY q)
  · exact own_st (fun _ => Jvm.Free.XT.acmpNo X.here hx rfl (hb hby hd) rfl hx1 hy1 (decide_eq_false q)) (hN q)
theorem own_acmp_ne (X : Stand p l e R s m args below meth c T locs cells slots) (hx : p.tables.exec = Jvm.exec) (hby : c.code = code) {x y : Value} {o : Int} {pc' : Nat} (hx1 : x.isRef = true) (hy1 : y.isRef = true) (hd : decode code pc = .ok (.if_acmp .ne o, 3)) (ho : 0 ≤ (pc : Int) + o) (hp : ((pc : Int) + o).toNat = pc') (hY : ¬ x = y → own_G p e below s Q k n (T.setTop (mkF m pc' Ls st))) (hN : x = y → own_G p e below s Q k n (T.setTop (mkF m (pc + 3) Ls st))) : own_G p e below s Q k n (T.setTop (mkF m pc Ls (y :: x :: st))) := by
  by_cases q : x = y
  · exact own_st (fun _ => Jvm.Free.XT.acmpNo X.here hx rfl (hb hby hd) rfl hx1 hy1 (decide_eq_false (fun z => z q))) (hN q)
  · exact own_st (fun _ => Jvm.Free.XT.acmpYes X.here hx rfl rfl (hb hby hd) rfl hx1 hy1 (decide_eq_true q) ho hp) (hY q)
theorem own_ifnullY (X : Stand p l e R s m args below meth c T locs cells slots) (hx : p.tables.exec = Jvm.exec) (hby : c.code = code) {o : Int} {pc' : Nat} (hd : decode code pc = .ok (.ifnull o, 3)) (ho : 0 ≤ (pc : Int) + o) (hp : ((pc : Int) + o).toNat = pc') (h : own_G p e below s Q k n (T.setTop (mkF m pc' Ls st))) : own_G p e below s Q k n (T.setTop (mkF m pc Ls (.null :: st))) := own_st (fun _ => XS.ifnullYes X.here hx rfl rfl (hb hby hd) rfl ho hp) h
theorem own_ifnullN (X : Stand p l e R s m args below meth c T locs cells slots) (hx : p.tables.exec = Jvm.exec) (hby : c.code = code) {o : Int} {b : Addr} (hd : decode code pc = .ok (.ifnull o, 3)) (h : own_G p e below s Q k n (T.setTop (mkF m (pc + 3) Ls st))) : own_G p e below s Q k n (T.setTop (mkF m pc Ls (.ref b :: st))) := own_st (fun _ => XS.ifnullNo X.here hx rfl (hb hby hd) rfl) h
theorem own_ifnonnullY (X : Stand p l e R s m args below meth c T locs cells slots) (hx : p.tables.exec = Jvm.exec) (hby : c.code = code) {o : Int} {b : Addr} {pc' : Nat} (hd : decode code pc = .ok (.ifnonnull o, 3)) (ho : 0 ≤ (pc : Int) + o) (hp : ((pc : Int) + o).toNat = pc') (h : own_G p e below s Q k n (T.setTop (mkF m pc' Ls st))) : own_G p e below s Q k n (T.setTop (mkF m pc Ls (.ref b :: st))) := own_st (fun _ => XS.ifnonnullYes X.here hx rfl rfl (hb hby hd) rfl ho hp) h
theorem own_ifnonnullN (X : Stand p l e R s m args below meth c T locs cells slots) (hx : p.tables.exec = Jvm.exec) (hby : c.code = code) {o : Int} (hd : decode code pc = .ok (.ifnonnull o, 3)) (h : own_G p e below s Q k n (T.setTop (mkF m (pc + 3) Ls st))) : own_G p e below s Q k n (T.setTop (mkF m pc Ls (.null :: st))) := own_st (fun _ => XS.ifnonnullNo X.here hx rfl (hb hby hd) rfl) h
theorem own_tswIn (X : Stand p l e R s m args below meth c T locs cells slots) (hx : p.tables.exec = Jvm.exec) (hby : c.code = code) {dflt low high : Int} {offs : Array Int} {len : Nat} {o : Int} {pc' : Nat} {i : Int32} (hd : decode code pc = .ok (.tableswitch dflt low high offs, len)) (hin : ¬ (i.toInt < low ∨ i.toInt > high)) (hoff : offs[(i.toInt - low).toNat]? = some o) (ho : 0 ≤ (pc : Int) + o) (hp : ((pc : Int) + o).toNat = pc') (h : own_G p e below s Q k n (T.setTop (mkF m pc' Ls st))) : own_G p e below s Q k n (T.setTop (mkF m pc Ls (.int i :: st))) := own_st (fun _ => XS.tswIn (g := mkF m pc Ls (.int i :: st)) (pc0 := pc) X.here hx rfl rfl (hb hby hd) rfl hin hoff ho hp) h
theorem own_ldcI (X : Stand p l e R s m args below meth c T locs cells slots) (hx : p.tables.exec = Jvm.exec) (hby : c.code = code) (hZ : Z.Warmed39 s.vm) {own : String} {i : Nat} {v : Int32} (hown : s.vm.findClass own = some m.cls) (w : (Cond.constant own i v).before a0 Z = true) (hd : decode code pc = .ok (.ldc i, 2)) (h : own_G p e below s Q k n (T.setTop (mkF m (pc + 2) Ls (.int v :: st)))) : own_G p e below s Q k n (T.setTop (mkF m pc Ls st)) := own_st (X.ldcInt hx hown (mvT hZ w) rfl (hb hby hd)) h
theorem own_ldcJ (X : Stand p l e R s m args below meth c T locs cells slots) (hx : p.tables.exec = Jvm.exec) (hby : c.code = code) (hZ : Z.Warmed39 s.vm) {own : String} {i : Nat} {v : Int64} (hown : s.vm.findClass own = some m.cls) (w : (Cond.constantLong own i v).before a0 Z = true) (hd : decode code pc = .ok (.ldc2_w i, 3)) (h : own_G p e below s Q k n (T.setTop (mkF m (pc + 3) Ls (.long v :: st)))) : own_G p e below s Q k n (T.setTop (mkF m pc Ls st)) := own_st (X.ldc2Long hx hown (mvT hZ w) rfl (hb hby hd)) h
theorem own_instNull (X : Stand p l e R s m args below meth c T locs cells slots) (hx : p.tables.exec = Jvm.exec) (hby : c.code = code) {i : Nat} (hd : decode code pc = .ok (.instanceof i, 3)) (h : own_G p e below s Q k n (T.setTop (mkF m (pc + 3) Ls (.int 0 :: st)))) : own_G p e below s Q k n (T.setTop (mkF m pc Ls (.null :: st))) := own_st (X.instanceofNull hx rfl rfl (hb hby hd)) h
theorem own_castNull (X : Stand p l e R s m args below meth c T locs cells slots) (hx : p.tables.exec = Jvm.exec) (hby : c.code = code) {i : Nat} (hd : decode code pc = .ok (.checkcast i, 3)) (h : own_G p e below s Q k n (T.setTop (mkF m (pc + 3) Ls (.null :: st)))) : own_G p e below s Q k n (T.setTop (mkF m pc Ls (.null :: st))) := own_st (X.checkcastNull hx rfl rfl (hb hby hd)) h
def own_Ar (Z : State) (h : Heap) (a : Addr) (ty : FieldType) (n : Nat) (f : Nat → Value) : Prop := ∃ c : Cell, Arr Z h a c ty ∧ c.slots.size = n ∧ n < 2 ^ 31 ∧ ∀ j, j < n → c.slots[j]? = some (f j)
def own_set (f : Nat → Value) (j : Nat) (v : Value) : Nat → Value := fun i => if i = j then v else f i
theorem own_set_same (f : Nat → Value) (j : Nat) (v : Value) : own_set f j v j = v := if_pos rfl
theorem own_set_ne (f : Nat → Value) {i j : Nat} (v : Value) (q : i ≠ j) : own_set f j v i = f i := if_neg q
theorem own_Ar.lt {a : Addr} {ty : FieldType} {N : Nat} {f : Nat → Value} (F : own_Ar Z h a ty N f) : a < h.size := by obtain ⟨c, A, -⟩ := F; exact A.lt
theorem own_Ar.small {a : Addr} {ty : FieldType} {N : Nat} {f : Nat → Value} (F : own_Ar Z h a ty N f) : N < 2 ^ 31 := by obtain ⟨c, -, -, q, -⟩ := F; exact q
theorem own_Ar.ext {h' : Heap} {a : Addr} {ty : FieldType} {N : Nat} {f : Nat → Value} (F : own_Ar Z h a ty N f) (E : Ext h h') : own_Ar Z h' a ty N f := by obtain ⟨c, A, r⟩ := F; exact ⟨c, A.ext E, r⟩
theorem own_Ar.other {h' : Heap} {a b : Addr} {sl : Nat} {v : Value} {ty : FieldType} {N : Nat} {f : Nat → Value} (F : own_Ar Z h b ty N f) (W : Wr h h' a sl v) (q : b ≠ a) : own_Ar Z h' b ty N f := by obtain ⟨c, A, r⟩ := F; exact ⟨c, A.other W q, r⟩
theorem own_Ar.keep {h' : Heap} {a : Addr} {ws : List Addr} {ty : FieldType} {N : Nat} {f : Nat → Value} (F : own_Ar Z h a ty N f) (K : Keep h h' ws) (q : a ∉ ws) : own_Ar Z h' a ty N f := by obtain ⟨c, A, r⟩ := F; exact ⟨c, ⟨K.2.1 a c A.1 q, A.2⟩, r⟩
theorem own_Ar.fn {a : Addr} {ty : FieldType} {N : Nat} {f g : Nat → Value} (F : own_Ar Z h a ty N f) (q : ∀ j, j < N → f j = g j) : own_Ar Z h a ty N g := by obtain ⟨c, A, r1, r2, r3⟩ := F; exact ⟨c, A, r1, r2, fun j hj => by rw [r3 j hj, q j hj]⟩
theorem own_Ar.store {h' : Heap} {a : Addr} {c : Cell} {ty : FieldType} {N j : Nat} {f : Nat → Value} {v : Value} (A : Arr Z h a c ty) (r1 : c.slots.size = N) (r2 : N < 2 ^ 31) (r3 : ∀ j, j < N → c.slots[j]? = some (f j)) (W : Wr h h' a j v) : own_Ar Z h' a ty N (own_set f j v) := by
  refine ⟨_, A.same W, by rw [sz_set]; exact r1, r2, fun i hi => ?_⟩
  by_cases e : i = j
  · subst e; rw [own_set_same]; simp [Cell.setSlot, r1, hi]
  · rw [own_set_ne _ _ e, ← r3 i hi]; exact Array.getElem?_setIfInBounds_ne (fun q => e q.symm)
theorem own_Ar.new {a : Addr} {ty : FieldType} {kc : ClassId} {z : Int32} (A : Arr Z h a (newA kc ty z) ty) (q : ¬ z < 0) : own_Ar Z h a ty z.toNatClampNeg (fun _ => defaultValue ty) :=
  ⟨_, A, sz_new _ _ _, (back32 q).2, fun j hj => by simp [newA, hj]⟩
theorem own_inb {N : Nat} {j : Int32} {i : Nat} (hj : j.toInt = i) (hi : i < N) : ¬ (j < 0 ∨ N ≤ j.toNatClampNeg) ∧ j.toNatClampNeg = i := by
  have q : j.toNatClampNeg = i := by simp only [Int32.toNatClampNeg, hj]; omega
  refine ⟨?_, q⟩
  rw [q]; simp only [Int32.lt_iff_toInt_lt, hj, Int32.reduceToInt]; omega
def own_Ov (Z : State) (h : Heap) (a : Addr) (C : String) : Prop := ∃ cell : Cell, h[a]? = some cell ∧ Ovr Z cell.cls C
theorem own_Ov.ext {h' : Heap} {a : Addr} {C : String} (F : own_Ov Z h a C) (E : Ext h h') : own_Ov Z h' a C := by obtain ⟨c, h1, h2⟩ := F; exact ⟨c, E.2 _ _ h1, h2⟩
theorem own_Ov.wr {h' : Heap} {a b : Addr} {sl : Nat} {v : Value} {C : String} (F : own_Ov Z h a C) (W : Wr h h' b sl v) : own_Ov Z h' a C := by obtain ⟨c, h1, h2⟩ := F; obtain ⟨c', e1, e2, -⟩ := wr_at W h1; exact ⟨c', e1, by rw [e2]; exact h2⟩
theorem own_Ov.keep {h' : Heap} {a : Addr} {ws : List Addr} {C : String} (F : own_Ov Z h a C) (K : Keep h h' ws) : own_Ov Z h' a C := by obtain ⟨c, h1, h2⟩ := F; obtain ⟨c', e1, e2, -⟩ := K.2.2 _ _ h1; exact ⟨c', e1, by rw [e2]; exact h2⟩
theorem own_sto {a y : Addr} {ty : FieldType} {N : Nat} {f : Nat → Value} {C : String} (F : own_Ar Z h a ty N f) (V : own_Ov Z h a C) (I : Ins Z h y C true) : Sto Z h a (.ref y) := by
  obtain ⟨c, A, -⟩ := F; obtain ⟨c', h1, h2⟩ := V; cases A.1.symm.trans h1; exact Sto.of A h2 I
theorem own_alen (X : Stand p l e R s m args below meth c T locs cells slots) (hx : p.tables.exec = Jvm.exec) (hby : c.code = code) (hZ : Z.Warmed39 s.vm) (eT : T.heap = h) {a : Addr} {ty : FieldType} {N : Nat} {f : Nat → Value} (F : own_Ar Z h a ty N f) (hd : decode code pc = .ok (.arraylength, 1)) (h2 : own_G p e below s Q k n (T.setTop (mkF m (pc + 1) Ls (.int N.toInt32 :: st)))) : own_G p e below s Q k n (T.setTop (mkF m pc Ls (.ref a :: st))) := by
  obtain ⟨cl, A, r1, r2, r3⟩ := F
  refine own_st (fun _ => X.arraylength hx (by rw [eT]; exact A.1) (State.isArrayOf_alike hZ.alike A.2.1) (g := mkF m pc Ls (.ref a :: st)) rfl rfl (hb hby hd) _) ?_
  rw [r1]; exact h2
theorem own_iaload (X : Stand p l e R s m args below meth c T locs cells slots) (hx : p.tables.exec = Jvm.exec) (hby : c.code = code) (hZ : Z.Warmed39 s.vm) (eT : T.heap = h) {a : Addr} {N : Nat} {f : Nat → Value} (F : own_Ar Z h a .int N f) {j : Int32} {i : Nat} (hj : j.toInt = i) (hi : i < N) (hd : decode code pc = .ok (.iaload, 1)) (h2 : own_G p e below s Q k n (T.setTop (mkF m (pc + 1) Ls (f i :: st)))) : own_G p e below s Q k n (T.setTop (mkF m pc Ls (.int j :: .ref a :: st))) := by
  obtain ⟨cl, A, r1, r2, r3⟩ := F
  obtain ⟨q1, q2⟩ := own_inb hj hi
  exact own_st (fun _ => X.iaload hx (v := f i) (by rw [eT]; exact A.1) (State.isArrayOf_alike hZ.alike A.2.1) A.2.2 (j := j) (by rw [r1]; exact q1) (by rw [q2]; exact r3 i hi) (g := mkF m pc Ls (.int j :: .ref a :: st)) rfl rfl (hb hby hd) _) h2
theorem own_laload (X : Stand p l e R s m args below meth c T locs cells slots) (hx : p.tables.exec = Jvm.exec) (hby : c.code = code) (hZ : Z.Warmed39 s.vm) (eT : T.heap = h) {a : Addr} {N : Nat} {f : Nat → Value} (F : own_Ar Z h a .long N f) {j : Int32} {i : Nat} (hj : j.toInt = i) (hi : i < N) (hd : decode code pc = .ok (.laload, 1)) (h2 : own_G p e below s Q k n (T.setTop (mkF m (pc + 1) Ls (f i :: st)))) : own_G p e below s Q k n (T.setTop (mkF m pc Ls (.int j :: .ref a :: st))) := by
  obtain ⟨cl, A, r1, r2, r3⟩ := F
  obtain ⟨q1, q2⟩ := own_inb hj hi
  exact own_st (fun _ => X.laload hx (v := f i) (by rw [eT]; exact A.1) (State.isArrayOf_alike hZ.alike A.2.1) A.2.2 (j := j) (by rw [r1]; exact q1) (by rw [q2]; exact r3 i hi) (g := mkF m pc Ls (.int j :: .ref a :: st)) rfl rfl (hb hby hd) _) h2
theorem own_baload (X : Stand p l e R s m args below meth c T locs cells slots) (hx : p.tables.exec = Jvm.exec) (hby : c.code = code) (hZ : Z.Warmed39 s.vm) (eT : T.heap = h) {a : Addr} {N : Nat} {f : Nat → Value} (F : own_Ar Z h a .byte N f) {j : Int32} {i : Nat} (hj : j.toInt = i) (hi : i < N) (hd : decode code pc = .ok (.baload, 1)) (h2 : own_G p e below s Q k n (T.setTop (mkF m (pc + 1) Ls (f i :: st)))) : own_G p e below s Q k n (T.setTop (mkF m pc Ls (.int j :: .ref a :: st))) := by
  obtain ⟨cl, A, r1, r2, r3⟩ := F
  obtain ⟨q1, q2⟩ := own_inb hj hi
  exact own_st (fun _ => X.baloadBytes hx (v := f i) (by rw [eT]; exact A.1) (State.isArrayOf_alike hZ.alike A.2.1) A.2.2 (j := j) (by rw [r1]; exact q1) (by rw [q2]; exact r3 i hi) (g := mkF m pc Ls (.int j :: .ref a :: st)) rfl rfl (hb hby hd) _) h2
theorem own_caload (X : Stand p l e R s m args below meth c T locs cells slots) (hx : p.tables.exec = Jvm.exec) (hby : c.code = code) (hZ : Z.Warmed39 s.vm) (eT : T.heap = h) {a : Addr} {N : Nat} {f : Nat → Value} (F : own_Ar Z h a .char N f) {j : Int32} {i : Nat} (hj : j.toInt = i) (hi : i < N) (hd : decode code pc = .ok (.caload, 1)) (h2 : own_G p e below s Q k n (T.setTop (mkF m (pc + 1) Ls (f i :: st)))) : own_G p e below s Q k n (T.setTop (mkF m pc Ls (.int j :: .ref a :: st))) := by
  obtain ⟨cl, A, r1, r2, r3⟩ := F
  obtain ⟨q1, q2⟩ := own_inb hj hi
  exact own_st (fun _ => X.caload hx (v := f i) (by rw [eT]; exact A.1) (State.isArrayOf_alike hZ.alike A.2.1) A.2.2 (j := j) (by rw [r1]; exact q1) (by rw [q2]; exact r3 i hi) (g := mkF m pc Ls (.int j :: .ref a :: st)) rfl rfl (hb hby hd) _) h2
theorem own_aaload (X : Stand p l e R s m args below meth c T locs cells slots) (hx : p.tables.exec = Jvm.exec) (hby : c.code = code) (hZ : Z.Warmed39 s.vm) (eT : T.heap = h) {a : Addr} {ty : FieldType} {N : Nat} {f : Nat → Value} (F : own_Ar Z h a ty N f) (hty : ty.isReference = true) {j : Int32} {i : Nat} (hj : j.toInt = i) (hi : i < N) (hd : decode code pc = .ok (.aaload, 1)) (h2 : own_G p e below s Q k n (T.setTop (mkF m (pc + 1) Ls (f i :: st)))) : own_G p e below s Q k n (T.setTop (mkF m pc Ls (.int j :: .ref a :: st))) := by
  obtain ⟨cl, A, r1, r2, r3⟩ := F
  obtain ⟨q1, q2⟩ := own_inb hj hi
  exact own_st (fun _ => X.aaload hx (v := f i) (by rw [eT]; exact A.1) (State.isArrayOf_alike hZ.alike A.2.1) hty A.2.2 (j := j) (by rw [r1]; exact q1) (by rw [q2]; exact r3 i hi) (g := mkF m pc Ls (.int j :: .ref a :: st)) rfl rfl (hb hby hd) _) h2
theorem own_iastore (X : Stand p l e R s m args below meth c T locs cells slots) (hx : p.tables.exec = Jvm.exec) (hby : c.code = code) (hZ : Z.Warmed39 s.vm) (eT : T.heap = h) {a : Addr} {N : Nat} {f : Nat → Value} (F : own_Ar Z h a .int N f) {j : Int32} {i : Nat} (hj : j.toInt = i) (hi : i < N) {x : Int32} (hd : decode code pc = .ok (.iastore, 1)) : ∃ T' h', Stand p l e R s m args below meth c T' (locs ++ [⟨a, i⟩]) cells slots ∧ T'.heap = h' ∧ Wr h h' a i (.int x) ∧ own_Ar Z h' a .int N (own_set f i (.int x)) ∧ ∀ target, Steps p.tables e below (T'.setTop (mkF m (pc + 1) Ls st)) target → Steps p.tables e below (T.setTop (mkF m pc Ls (.int x :: .int j :: .ref a :: st))) target := by
  obtain ⟨cl, A, r1, r2, r3⟩ := F
  obtain ⟨q1, q2⟩ := own_inb hj hi
  obtain ⟨T', h', X', e', W, stp⟩ := stI X hx hZ eT A (j := j) (by rw [r1]; exact q1) (g := mkF m pc Ls (.int x :: .int j :: .ref a :: st)) rfl rfl (hb hby hd)
  rw [q2] at X' W
  exact ⟨T', h', X', e', W, own_Ar.store A r1 r2 r3 W, stp⟩
theorem own_lastore (X : Stand p l e R s m args below meth c T locs cells slots) (hx : p.tables.exec = Jvm.exec) (hby : c.code = code) (hZ : Z.Warmed39 s.vm) (eT : T.heap = h) {a : Addr} {N : Nat} {f : Nat → Value} (F : own_Ar Z h a .long N f) {j : Int32} {i : Nat} (hj : j.toInt = i) (hi : i < N) {x : Int64} (hd : decode code pc = .ok (.lastore, 1)) : ∃ T' h', Stand p l e R s m args below meth c T' (locs ++ [⟨a, i⟩]) cells slots ∧ T'.heap = h' ∧ Wr h h' a i (.long x) ∧ own_Ar Z h' a .long N (own_set f i (.long x)) ∧ ∀ target, Steps p.tables e below (T'.setTop (mkF m (pc + 1) Ls st)) target → Steps p.tables e below (T.setTop (mkF m pc Ls (.long x :: .int j :: .ref a :: st))) target := by
  obtain ⟨cl, A, r1, r2, r3⟩ := F
  obtain ⟨q1, q2⟩ := own_inb hj hi
  obtain ⟨T', h', X', e', W, stp⟩ := stJ X hx hZ eT A (j := j) (by rw [r1]; exact q1) (g := mkF m pc Ls (.long x :: .int j :: .ref a :: st)) rfl rfl (hb hby hd)
  rw [q2] at X' W
  exact ⟨T', h', X', e', W, own_Ar.store A r1 r2 r3 W, stp⟩
theorem own_bastore (X : Stand p l e R s m args below meth c T locs cells slots) (hx : p.tables.exec = Jvm.exec) (hby : c.code = code) (hZ : Z.Warmed39 s.vm) (eT : T.heap = h) {a : Addr} {N : Nat} {f : Nat → Value} (F : own_Ar Z h a .byte N f) {j : Int32} {i : Nat} (hj : j.toInt = i) (hi : i < N) {x : Int32} (hd : decode code pc = .ok (.bastore, 1)) : ∃ T' h', Stand p l e R s m args below meth c T' (locs ++ [⟨a, i⟩]) cells slots ∧ T'.heap = h' ∧ Wr h h' a i (.int (nar .byte x)) ∧ own_Ar Z h' a .byte N (own_set f i (.int (nar .byte x))) ∧ ∀ target, Steps p.tables e below (T'.setTop (mkF m (pc + 1) Ls st)) target → Steps p.tables e below (T.setTop (mkF m pc Ls (.int x :: .int j :: .ref a :: st))) target := by
  obtain ⟨cl, A, r1, r2, r3⟩ := F
  obtain ⟨q1, q2⟩ := own_inb hj hi
  obtain ⟨T', h', X', e', W, stp⟩ := stB X hx hZ eT A (j := j) (by rw [r1]; exact q1) (g := mkF m pc Ls (.int x :: .int j :: .ref a :: st)) rfl rfl (hb hby hd)
  rw [q2] at X' W
  exact ⟨T', h', X', e', W, own_Ar.store A r1 r2 r3 W, stp⟩
theorem own_castore (X : Stand p l e R s m args below meth c T locs cells slots) (hx : p.tables.exec = Jvm.exec) (hby : c.code = code) (hZ : Z.Warmed39 s.vm) (eT : T.heap = h) {a : Addr} {N : Nat} {f : Nat → Value} (F : own_Ar Z h a .char N f) {j : Int32} {i : Nat} (hj : j.toInt = i) (hi : i < N) {x : Int32} (hd : decode code pc = .ok (.castore, 1)) : ∃ T' h', Stand p l e R s m args below meth c T' (locs ++ [⟨a, i⟩]) cells slots ∧ T'.heap = h' ∧ Wr h h' a i (.int (nar .char x)) ∧ own_Ar Z h' a .char N (own_set f i (.int (nar .char x))) ∧ ∀ target, Steps p.tables e below (T'.setTop (mkF m (pc + 1) Ls st)) target → Steps p.tables e below (T.setTop (mkF m pc Ls (.int x :: .int j :: .ref a :: st))) target := by
  obtain ⟨cl, A, r1, r2, r3⟩ := F
  obtain ⟨q1, q2⟩ := own_inb hj hi
  obtain ⟨T', h', X', e', W, stp⟩ := stC X hx hZ eT A (j := j) (by rw [r1]; exact q1) (g := mkF m pc Ls (.int x :: .int j :: .ref a :: st)) rfl rfl (hb hby hd)
  rw [q2] at X' W
  exact ⟨T', h', X', e', W, own_Ar.store A r1 r2 r3 W, stp⟩
theorem own_dastore (X : Stand p l e R s m args below meth c T locs cells slots) (hx : p.tables.exec = Jvm.exec) (hby : c.code = code) (hZ : Z.Warmed39 s.vm) (eT : T.heap = h) {a : Addr} {N : Nat} {f : Nat → Value} (F : own_Ar Z h a .double N f) {j : Int32} {i : Nat} (hj : j.toInt = i) (hi : i < N) {x : UInt64} (hd : decode code pc = .ok (.dastore, 1)) : ∃ T' h', Stand p l e R s m args below meth c T' (locs ++ [⟨a, i⟩]) cells slots ∧ T'.heap = h' ∧ Wr h h' a i (.double x) ∧ own_Ar Z h' a .double N (own_set f i (.double x)) ∧ ∀ target, Steps p.tables e below (T'.setTop (mkF m (pc + 1) Ls st)) target → Steps p.tables e below (T.setTop (mkF m pc Ls (.double x :: .int j :: .ref a :: st))) target := by
  obtain ⟨cl, A, r1, r2, r3⟩ := F
  obtain ⟨q1, q2⟩ := own_inb hj hi
  obtain ⟨T', h', X', e', W, stp⟩ := stD X hx hZ eT A (j := j) (by rw [r1]; exact q1) (g := mkF m pc Ls (.double x :: .int j :: .ref a :: st)) rfl rfl (hb hby hd)
  rw [q2] at X' W
  exact ⟨T', h', X', e', W, own_Ar.store A r1 r2 r3 W, stp⟩
theorem own_aastore (X : Stand p l e R s m args below meth c T locs cells slots) (hx : p.tables.exec = Jvm.exec) (hby : c.code = code) (hZ : Z.Warmed39 s.vm) (eT : T.heap = h) {a : Addr} {ty : FieldType} {N : Nat} {f : Nat → Value} (F : own_Ar Z h a ty N f) (hty : ty.isReference = true) {j : Int32} {i : Nat} (hj : j.toInt = i) (hi : i < N) {v : Value} (S : Sto Z h a v) (hd : decode code pc = .ok (.aastore, 1)) : ∃ T' h', Stand p l e R s m args below meth c T' (locs ++ [⟨a, i⟩]) cells slots ∧ T'.heap = h' ∧ Wr h h' a i v ∧ own_Ar Z h' a ty N (own_set f i v) ∧ ∀ target, Steps p.tables e below (T'.setTop (mkF m (pc + 1) Ls st)) target → Steps p.tables e below (T.setTop (mkF m pc Ls (v :: .int j :: .ref a :: st))) target := by
  obtain ⟨cl, A, r1, r2, r3⟩ := F
  obtain ⟨q1, q2⟩ := own_inb hj hi
  obtain ⟨T', h', X', e', W, stp⟩ := stR X hx hZ eT A (j := j) (by rw [r1]; exact q1) hty S (g := mkF m pc Ls (v :: .int j :: .ref a :: st)) rfl rfl (hb hby hd)
  rw [q2] at X' W
  exact ⟨T', h', X', e', W, own_Ar.store A r1 r2 r3 W, stp⟩
end OwnSteps
theorem own_narR {C : String} {v : Value} (h : v.isRef = true) : narrow (.object C) v = v := by rcases ref_cases h with rfl | ⟨z, rfl⟩ <;> rfl
theorem own_fitR {C : String} {v : Value} (h : v.isRef = true) : fits (.object C) v = true := by rcases ref_cases h with rfl | ⟨z, rfl⟩ <;> rfl
theorem own_irr {x : Int32} : ¬ x < x := by rw [Int32.lt_iff_toInt_lt]; omega
theorem own_irrL {x : Int64} : ¬ x < x := by rw [Int64.lt_iff_toInt_lt]; omega
theorem own_w0 {Z : State} {a0 : Array Value} (hw : ∀ d ∈ tables_1, d.before a0 Z = true) : (Jvm.Cond.classLink "com/example/gazetteer/gazetteer/partitions/OperatorBoundsAbovePinLaw" (7 : Nat) "com/example/gazetteer/gazetteer/partitions/Condition$Operator").before a0 Z = true := hw _ (List.mem_of_getElem? (i := 0) rfl)
theorem own_w1 {Z : State} {a0 : Array Value} (hw : ∀ d ∈ tables_1, d.before a0 Z = true) : (Jvm.Cond.arrayOver (Jvm.ClassFile.FieldType.object "com/example/gazetteer/gazetteer/partitions/Condition$Operator")).before a0 Z = true := hw _ (List.mem_of_getElem? (i := 1) rfl)
theorem own_w2 {Z : State} {a0 : Array Value} (hw : ∀ d ∈ tables_1, d.before a0 Z = true) : (Jvm.Cond.fieldLink "com/example/gazetteer/gazetteer/partitions/OperatorBoundsAbovePinLaw" (9 : Nat) "com/example/gazetteer/gazetteer/partitions/Condition$Operator" "EQUAL" "Lcom/example/gazetteer/gazetteer/partitions/Condition$Operator;").before a0 Z = true := hw _ (List.mem_of_getElem? (i := 2) rfl)
theorem own_w3 {Z : State} {a0 : Array Value} (hw : ∀ d ∈ tables_1, d.before a0 Z = true) : (Jvm.Cond.initialized "com/example/gazetteer/gazetteer/partitions/Condition$Operator").before a0 Z = true := hw _ (List.mem_of_getElem? (i := 3) rfl)
theorem own_w4 {Z : State} {a0 : Array Value} (hw : ∀ d ∈ tables_1, d.before a0 Z = true) : (Jvm.Cond.laysStatic "com/example/gazetteer/gazetteer/partitions/Condition$Operator" "EQUAL" "Lcom/example/gazetteer/gazetteer/partitions/Condition$Operator;").before a0 Z = true := hw _ (List.mem_of_getElem? (i := 4) rfl)
theorem own_w6 {Z : State} {a0 : Array Value} (hw : ∀ d ∈ tables_1, d.before a0 Z = true) : (Jvm.Cond.fieldLink "com/example/gazetteer/gazetteer/partitions/OperatorBoundsAbovePinLaw" (13 : Nat) "com/example/gazetteer/gazetteer/partitions/Condition$Operator" "NOT_EQUAL" "Lcom/example/gazetteer/gazetteer/partitions/Condition$Operator;").before a0 Z = true := hw _ (List.mem_of_getElem? (i := 6) rfl)
theorem own_w7 {Z : State} {a0 : Array Value} (hw : ∀ d ∈ tables_1, d.before a0 Z = true) : (Jvm.Cond.laysStatic "com/example/gazetteer/gazetteer/partitions/Condition$Operator" "NOT_EQUAL" "Lcom/example/gazetteer/gazetteer/partitions/Condition$Operator;").before a0 Z = true := hw _ (List.mem_of_getElem? (i := 7) rfl)
theorem own_w8 {Z : State} {a0 : Array Value} (hw : ∀ d ∈ tables_1, d.before a0 Z = true) : (Jvm.Cond.fieldLink "com/example/gazetteer/gazetteer/partitions/OperatorBoundsAbovePinLaw" (16 : Nat) "com/example/gazetteer/gazetteer/partitions/Condition$Operator" "LESS" "Lcom/example/gazetteer/gazetteer/partitions/Condition$Operator;").before a0 Z = true := hw _ (List.mem_of_getElem? (i := 8) rfl)
theorem own_w9 {Z : State} {a0 : Array Value} (hw : ∀ d ∈ tables_1, d.before a0 Z = true) : (Jvm.Cond.laysStatic "com/example/gazetteer/gazetteer/partitions/Condition$Operator" "LESS" "Lcom/example/gazetteer/gazetteer/partitions/Condition$Operator;").before a0 Z = true := hw _ (List.mem_of_getElem? (i := 9) rfl)
theorem own_w10 {Z : State} {a0 : Array Value} (hw : ∀ d ∈ tables_1, d.before a0 Z = true) : (Jvm.Cond.fieldLink "com/example/gazetteer/gazetteer/partitions/OperatorBoundsAbovePinLaw" (19 : Nat) "com/example/gazetteer/gazetteer/partitions/Condition$Operator" "LESS_OR_EQUAL" "Lcom/example/gazetteer/gazetteer/partitions/Condition$Operator;").before a0 Z = true := hw _ (List.mem_of_getElem? (i := 10) rfl)
theorem own_w11 {Z : State} {a0 : Array Value} (hw : ∀ d ∈ tables_1, d.before a0 Z = true) : (Jvm.Cond.laysStatic "com/example/gazetteer/gazetteer/partitions/Condition$Operator" "LESS_OR_EQUAL" "Lcom/example/gazetteer/gazetteer/partitions/Condition$Operator;").before a0 Z = true := hw _ (List.mem_of_getElem? (i := 11) rfl)
theorem own_w12 {Z : State} {a0 : Array Value} (hw : ∀ d ∈ tables_1, d.before a0 Z = true) : (Jvm.Cond.fieldLink "com/example/gazetteer/gazetteer/partitions/OperatorBoundsAbovePinLaw" (22 : Nat) "com/example/gazetteer/gazetteer/partitions/Condition$Operator" "GREATER" "Lcom/example/gazetteer/gazetteer/partitions/Condition$Operator;").before a0 Z = true := hw _ (List.mem_of_getElem? (i := 12) rfl)
theorem own_w13 {Z : State} {a0 : Array Value} (hw : ∀ d ∈ tables_1, d.before a0 Z = true) : (Jvm.Cond.laysStatic "com/example/gazetteer/gazetteer/partitions/Condition$Operator" "GREATER" "Lcom/example/gazetteer/gazetteer/partitions/Condition$Operator;").before a0 Z = true := hw _ (List.mem_of_getElem? (i := 13) rfl)
theorem own_w14 {Z : State} {a0 : Array Value} (hw : ∀ d ∈ tables_1, d.before a0 Z = true) : (Jvm.Cond.fieldLink "com/example/gazetteer/gazetteer/partitions/OperatorBoundsAbovePinLaw" (25 : Nat) "com/example/gazetteer/gazetteer/partitions/Condition$Operator" "GREATER_OR_EQUAL" "Lcom/example/gazetteer/gazetteer/partitions/Condition$Operator;").before a0 Z = true := hw _ (List.mem_of_getElem? (i := 14) rfl)
theorem own_w15 {Z : State} {a0 : Array Value} (hw : ∀ d ∈ tables_1, d.before a0 Z = true) : (Jvm.Cond.laysStatic "com/example/gazetteer/gazetteer/partitions/Condition$Operator" "GREATER_OR_EQUAL" "Lcom/example/gazetteer/gazetteer/partitions/Condition$Operator;").before a0 Z = true := hw _ (List.mem_of_getElem? (i := 15) rfl)
theorem own_w16 {Z : State} {a0 : Array Value} (hw : ∀ d ∈ tables_1, d.before a0 Z = true) : (Jvm.Cond.constant "com/example/gazetteer/gazetteer/partitions/OperatorBoundsAbovePinLaw" (28 : Nat) (2147483647 : Int32)).before a0 Z = true := hw _ (List.mem_of_getElem? (i := 16) rfl)
theorem own_w17 {Z : State} {a0 : Array Value} (hw : ∀ d ∈ tables_1, d.before a0 Z = true) : (Jvm.Cond.methodLink "com/example/gazetteer/gazetteer/partitions/OperatorBoundsAbovePinLaw" (29 : Nat) ({ cls := "com/example/gazetteer/gazetteer/partitions/Condition$Operator", name := "boundsAbove", desc := "()Z" } : Jvm.MethodName)).before a0 Z = true := hw _ (List.mem_of_getElem? (i := 17) rfl)
theorem own_w18 {Z : State} {a0 : Array Value} (hw : ∀ d ∈ tables_1, d.before a0 Z = true) : (Jvm.Cond.declares ({ cls := "com/example/gazetteer/gazetteer/partitions/Condition$Operator", name := "boundsAbove", desc := "()Z" } : Jvm.MethodName)).before a0 Z = true := hw _ (List.mem_of_getElem? (i := 18) rfl)
theorem own_w19 {Z : State} {a0 : Array Value} (hw : ∀ d ∈ tables_1, d.before a0 Z = true) : (Jvm.Cond.instanceMethod ({ cls := "com/example/gazetteer/gazetteer/partitions/Condition$Operator", name := "boundsAbove", desc := "()Z" } : Jvm.MethodName)).before a0 Z = true := hw _ (List.mem_of_getElem? (i := 19) rfl)
theorem own_w20 {Z : State} {a0 : Array Value} (hw : ∀ d ∈ tables_1, d.before a0 Z = true) : (Jvm.Cond.selects "com/example/gazetteer/gazetteer/partitions/Condition$Operator" ({ cls := "com/example/gazetteer/gazetteer/partitions/Condition$Operator", name := "boundsAbove", desc := "()Z" } : Jvm.MethodName) ({ cls := "com/example/gazetteer/gazetteer/partitions/Condition$Operator", name := "boundsAbove", desc := "()Z" } : Jvm.MethodName)).before a0 Z = true := hw _ (List.mem_of_getElem? (i := 20) rfl)
theorem own_w21 {Z : State} {a0 : Array Value} (hw : ∀ d ∈ tables_1, d.before a0 Z = true) : (Jvm.Cond.code ({ cls := "com/example/gazetteer/gazetteer/partitions/Condition$Operator", name := "boundsAbove", desc := "()Z" } : Jvm.MethodName) prog_69_method_6_code (1 : Nat) (Option.some Jvm.ClassFile.FieldType.boolean)).before a0 Z = true := hw _ (List.mem_of_getElem? (i := 21) rfl)
theorem own_w22 {Z : State} {a0 : Array Value} (hw : ∀ d ∈ tables_1, d.before a0 Z = true) : (Jvm.Cond.fieldLink "com/example/gazetteer/gazetteer/partitions/Condition$Operator" (3 : Nat) "com/example/gazetteer/gazetteer/partitions/Condition$Operator" "EQUAL" "Lcom/example/gazetteer/gazetteer/partitions/Condition$Operator;").before a0 Z = true := hw _ (List.mem_of_getElem? (i := 22) rfl)
theorem own_w23 {Z : State} {a0 : Array Value} (hw : ∀ d ∈ tables_1, d.before a0 Z = true) : (Jvm.Cond.methodLink "com/example/gazetteer/gazetteer/partitions/OperatorBoundsAbovePinLaw" (33 : Nat) ({ cls := "com/example/gazetteer/gazetteer/partitions/Condition$Operator", name := "holds", desc := "(I)Z" } : Jvm.MethodName)).before a0 Z = true := hw _ (List.mem_of_getElem? (i := 23) rfl)
theorem own_w24 {Z : State} {a0 : Array Value} (hw : ∀ d ∈ tables_1, d.before a0 Z = true) : (Jvm.Cond.declares ({ cls := "com/example/gazetteer/gazetteer/partitions/Condition$Operator", name := "holds", desc := "(I)Z" } : Jvm.MethodName)).before a0 Z = true := hw _ (List.mem_of_getElem? (i := 24) rfl)
theorem own_w25 {Z : State} {a0 : Array Value} (hw : ∀ d ∈ tables_1, d.before a0 Z = true) : (Jvm.Cond.instanceMethod ({ cls := "com/example/gazetteer/gazetteer/partitions/Condition$Operator", name := "holds", desc := "(I)Z" } : Jvm.MethodName)).before a0 Z = true := hw _ (List.mem_of_getElem? (i := 25) rfl)
theorem own_w26 {Z : State} {a0 : Array Value} (hw : ∀ d ∈ tables_1, d.before a0 Z = true) : (Jvm.Cond.selects "com/example/gazetteer/gazetteer/partitions/Condition$Operator" ({ cls := "com/example/gazetteer/gazetteer/partitions/Condition$Operator", name := "holds", desc := "(I)Z" } : Jvm.MethodName) ({ cls := "com/example/gazetteer/gazetteer/partitions/Condition$Operator", name := "holds", desc := "(I)Z" } : Jvm.MethodName)).before a0 Z = true := hw _ (List.mem_of_getElem? (i := 26) rfl)
theorem own_w27 {Z : State} {a0 : Array Value} (hw : ∀ d ∈ tables_1, d.before a0 Z = true) : (Jvm.Cond.code ({ cls := "com/example/gazetteer/gazetteer/partitions/Condition$Operator", name := "holds", desc := "(I)Z" } : Jvm.MethodName) prog_69_method_4_code (2 : Nat) (Option.some Jvm.ClassFile.FieldType.boolean)).before a0 Z = true := hw _ (List.mem_of_getElem? (i := 27) rfl)
theorem own_w28 {Z : State} {a0 : Array Value} (hw : ∀ d ∈ tables_1, d.before a0 Z = true) : (Jvm.Cond.methodLink "com/example/gazetteer/gazetteer/partitions/Condition$Operator" (41 : Nat) ({ cls := "com/example/gazetteer/gazetteer/partitions/Condition$Operator", name := "ordinal", desc := "()I" } : Jvm.MethodName)).before a0 Z = true := hw _ (List.mem_of_getElem? (i := 28) rfl)
theorem own_w29 {Z : State} {a0 : Array Value} (hw : ∀ d ∈ tables_1, d.before a0 Z = true) : (Jvm.Cond.sameMethod "com/example/gazetteer/gazetteer/partitions/Condition$Operator" "java/lang/Enum" "ordinal" "()I").before a0 Z = true := hw _ (List.mem_of_getElem? (i := 29) rfl)
theorem own_w30 {Z : State} {a0 : Array Value} (hw : ∀ d ∈ tables_1, d.before a0 Z = true) : (Jvm.Cond.declares ({ cls := "java/lang/Enum", name := "ordinal", desc := "()I" } : Jvm.MethodName)).before a0 Z = true := hw _ (List.mem_of_getElem? (i := 30) rfl)
theorem own_w31 {Z : State} {a0 : Array Value} (hw : ∀ d ∈ tables_1, d.before a0 Z = true) : (Jvm.Cond.instanceMethod ({ cls := "java/lang/Enum", name := "ordinal", desc := "()I" } : Jvm.MethodName)).before a0 Z = true := hw _ (List.mem_of_getElem? (i := 31) rfl)
theorem own_w32 {Z : State} {a0 : Array Value} (hw : ∀ d ∈ tables_1, d.before a0 Z = true) : (Jvm.Cond.selects "com/example/gazetteer/gazetteer/partitions/Condition$Operator" ({ cls := "com/example/gazetteer/gazetteer/partitions/Condition$Operator", name := "ordinal", desc := "()I" } : Jvm.MethodName) ({ cls := "java/lang/Enum", name := "ordinal", desc := "()I" } : Jvm.MethodName)).before a0 Z = true := hw _ (List.mem_of_getElem? (i := 32) rfl)
theorem own_w33 {Z : State} {a0 : Array Value} (hw : ∀ d ∈ tables_1, d.before a0 Z = true) : (Jvm.Cond.initialized "java/lang/Enum").before a0 Z = true := hw _ (List.mem_of_getElem? (i := 33) rfl)
theorem own_w34 {Z : State} {a0 : Array Value} (hw : ∀ d ∈ tables_1, d.before a0 Z = true) : (Jvm.Cond.code ({ cls := "java/lang/Enum", name := "ordinal", desc := "()I" } : Jvm.MethodName) jdk_37_method_2_code (1 : Nat) (Option.some Jvm.ClassFile.FieldType.int)).before a0 Z = true := hw _ (List.mem_of_getElem? (i := 34) rfl)
theorem own_w35 {Z : State} {a0 : Array Value} (hw : ∀ d ∈ tables_1, d.before a0 Z = true) : (Jvm.Cond.fieldLink "java/lang/Enum" (7 : Nat) "java/lang/Enum" "ordinal" "I").before a0 Z = true := hw _ (List.mem_of_getElem? (i := 35) rfl)
theorem own_w37 {Z : State} {a0 : Array Value} (hw : ∀ d ∈ tables_1, d.before a0 Z = true) : (Jvm.Cond.fieldLink "com/example/gazetteer/gazetteer/partitions/Condition$Operator" (10 : Nat) "com/example/gazetteer/gazetteer/partitions/Condition$Operator" "LESS" "Lcom/example/gazetteer/gazetteer/partitions/Condition$Operator;").before a0 Z = true := hw _ (List.mem_of_getElem? (i := 37) rfl)
theorem own_w38 {Z : State} {a0 : Array Value} (hw : ∀ d ∈ tables_1, d.before a0 Z = true) : (Jvm.Cond.fieldLink "com/example/gazetteer/gazetteer/partitions/Condition$Operator" (13 : Nat) "com/example/gazetteer/gazetteer/partitions/Condition$Operator" "LESS_OR_EQUAL" "Lcom/example/gazetteer/gazetteer/partitions/Condition$Operator;").before a0 Z = true := hw _ (List.mem_of_getElem? (i := 38) rfl)
theorem own_d1_0 : decode prog_69_method_6_code 0 = .ok (.aload_n 0, 1) := by decide +kernel
theorem own_d1_1 : decode prog_69_method_6_code 1 = .ok (.getstatic 3, 3) := by decide +kernel
theorem own_d1_4 : decode prog_69_method_6_code 4 = .ok (.if_acmp .eq 17, 3) := by decide +kernel
theorem own_d1_7 : decode prog_69_method_6_code 7 = .ok (.aload_n 0, 1) := by decide +kernel
theorem own_d1_8 : decode prog_69_method_6_code 8 = .ok (.getstatic 10, 3) := by decide +kernel
theorem own_d1_11 : decode prog_69_method_6_code 11 = .ok (.if_acmp .eq 10, 3) := by decide +kernel
theorem own_d1_14 : decode prog_69_method_6_code 14 = .ok (.aload_n 0, 1) := by decide +kernel
theorem own_d1_15 : decode prog_69_method_6_code 15 = .ok (.getstatic 13, 3) := by decide +kernel
theorem own_d1_18 : decode prog_69_method_6_code 18 = .ok (.if_acmp .ne 7, 3) := by decide +kernel
theorem own_d1_21 : decode prog_69_method_6_code 21 = .ok (.iconst 1, 1) := by decide +kernel
theorem own_d1_22 : decode prog_69_method_6_code 22 = .ok (.goto 4, 3) := by decide +kernel
theorem own_d1_25 : decode prog_69_method_6_code 25 = .ok (.iconst 0, 1) := by decide +kernel
theorem own_d1_26 : decode prog_69_method_6_code 26 = .ok (.ireturn, 1) := by decide +kernel
theorem own_d2_0 : decode prog_69_method_4_code 0 = .ok (.aload_n 0, 1) := by decide +kernel
theorem own_d2_1 : decode prog_69_method_4_code 1 = .ok (.invokevirtual 41, 3) := by decide +kernel
theorem own_d2_4 : decode prog_69_method_4_code 4 = .ok (.tableswitch 40 0 5 #[50, 62, 74, 86, 98, 110], 40) := by decide +kernel
theorem own_d2_54 : decode prog_69_method_4_code 54 = .ok (.iload_n 1, 1) := by decide +kernel
theorem own_d2_55 : decode prog_69_method_4_code 55 = .ok (.ifCond .ne 7, 3) := by decide +kernel
theorem own_d2_58 : decode prog_69_method_4_code 58 = .ok (.iconst 1, 1) := by decide +kernel
theorem own_d2_59 : decode prog_69_method_4_code 59 = .ok (.goto 64, 3) := by decide +kernel
theorem own_d2_62 : decode prog_69_method_4_code 62 = .ok (.iconst 0, 1) := by decide +kernel
theorem own_d2_63 : decode prog_69_method_4_code 63 = .ok (.goto 60, 3) := by decide +kernel
theorem own_d2_66 : decode prog_69_method_4_code 66 = .ok (.iload_n 1, 1) := by decide +kernel
theorem own_d2_67 : decode prog_69_method_4_code 67 = .ok (.ifCond .eq 7, 3) := by decide +kernel
theorem own_d2_70 : decode prog_69_method_4_code 70 = .ok (.iconst 1, 1) := by decide +kernel
theorem own_d2_71 : decode prog_69_method_4_code 71 = .ok (.goto 52, 3) := by decide +kernel
theorem own_d2_74 : decode prog_69_method_4_code 74 = .ok (.iconst 0, 1) := by decide +kernel
theorem own_d2_75 : decode prog_69_method_4_code 75 = .ok (.goto 48, 3) := by decide +kernel
theorem own_d2_78 : decode prog_69_method_4_code 78 = .ok (.iload_n 1, 1) := by decide +kernel
theorem own_d2_79 : decode prog_69_method_4_code 79 = .ok (.ifCond .ge 7, 3) := by decide +kernel
theorem own_d2_82 : decode prog_69_method_4_code 82 = .ok (.iconst 1, 1) := by decide +kernel
theorem own_d2_83 : decode prog_69_method_4_code 83 = .ok (.goto 40, 3) := by decide +kernel
theorem own_d2_86 : decode prog_69_method_4_code 86 = .ok (.iconst 0, 1) := by decide +kernel
theorem own_d2_87 : decode prog_69_method_4_code 87 = .ok (.goto 36, 3) := by decide +kernel
theorem own_d2_90 : decode prog_69_method_4_code 90 = .ok (.iload_n 1, 1) := by decide +kernel
theorem own_d2_91 : decode prog_69_method_4_code 91 = .ok (.ifCond .gt 7, 3) := by decide +kernel
theorem own_d2_94 : decode prog_69_method_4_code 94 = .ok (.iconst 1, 1) := by decide +kernel
theorem own_d2_95 : decode prog_69_method_4_code 95 = .ok (.goto 28, 3) := by decide +kernel
theorem own_d2_98 : decode prog_69_method_4_code 98 = .ok (.iconst 0, 1) := by decide +kernel
theorem own_d2_99 : decode prog_69_method_4_code 99 = .ok (.goto 24, 3) := by decide +kernel
theorem own_d2_102 : decode prog_69_method_4_code 102 = .ok (.iload_n 1, 1) := by decide +kernel
theorem own_d2_103 : decode prog_69_method_4_code 103 = .ok (.ifCond .le 7, 3) := by decide +kernel
theorem own_d2_106 : decode prog_69_method_4_code 106 = .ok (.iconst 1, 1) := by decide +kernel
theorem own_d2_107 : decode prog_69_method_4_code 107 = .ok (.goto 16, 3) := by decide +kernel
theorem own_d2_110 : decode prog_69_method_4_code 110 = .ok (.iconst 0, 1) := by decide +kernel
theorem own_d2_111 : decode prog_69_method_4_code 111 = .ok (.goto 12, 3) := by decide +kernel
theorem own_d2_114 : decode prog_69_method_4_code 114 = .ok (.iload_n 1, 1) := by decide +kernel
theorem own_d2_115 : decode prog_69_method_4_code 115 = .ok (.ifCond .lt 7, 3) := by decide +kernel
theorem own_d2_118 : decode prog_69_method_4_code 118 = .ok (.iconst 1, 1) := by decide +kernel
theorem own_d2_119 : decode prog_69_method_4_code 119 = .ok (.goto 4, 3) := by decide +kernel
theorem own_d2_122 : decode prog_69_method_4_code 122 = .ok (.iconst 0, 1) := by decide +kernel
theorem own_d2_123 : decode prog_69_method_4_code 123 = .ok (.ireturn, 1) := by decide +kernel
theorem own_d3_0 : decode jdk_37_method_2_code 0 = .ok (.aload_n 0, 1) := by decide +kernel
theorem own_d3_1 : decode jdk_37_method_2_code 1 = .ok (.getfield 7, 3) := by decide +kernel
theorem own_d3_4 : decode jdk_37_method_2_code 4 = .ok (.ireturn, 1) := by decide +kernel
theorem own_pd0 : parseMethodDescriptor "()I" = some ⟨[], some .int⟩ := by decide +kernel
theorem own_pd1 : parseMethodDescriptor "()Z" = some ⟨[], some .boolean⟩ := by decide +kernel
theorem own_pd2 : parseMethodDescriptor "(I)Z" = some ⟨[.int], some .boolean⟩ := by decide +kernel
theorem own_pn0 : plainName "com/example/gazetteer/gazetteer/partitions/Condition$Operator" = true := by first | (simp [plainName, overriddenIn]; done) | decide +kernel
theorem own_pn1 : plainName "java/lang/Enum" = true := by first | (simp [plainName, overriddenIn]; done) | decide +kernel
theorem own_pn2 : plainName "com/example/gazetteer/gazetteer/partitions/OperatorBoundsAbovePinLaw" = true := by first | (simp [plainName, overriddenIn]; done) | decide +kernel
def own_En (Z : State) (C f d : String) (a : Addr) (k : Int32) : Prop := Sta Z Z.heap C f d (.ref a) ∧ Exa Z Z.heap a C ∧ Fld Z Z.heap a "java/lang/Enum" "ordinal" "I" (.int k)
theorem own_enum {args : Array Value} {s : State} {C f d : String} {k : Int32} (hx : (Cond.exactly (.static C f d) C).value args s none s [] = some true) (ho : (Cond.eq (.field (.static C f d) "java/lang/Enum" "ordinal" "I") (.int k)).value args s none s [] = some true) (hi : (Cond.initialized C).before args s = true) (hl : (Cond.laysStatic C f d).before args s = true) : ∃ a, own_En s C f d a k := by
  obtain ⟨a, ev⟩ := exa_v hx
  obtain ⟨x, y, e1, e2, k1, k2⟩ := cmp_v (Or.inl ho)
  cases (show some (Value.int k) = some y from e2)
  obtain ⟨z, rfl⟩ := k2
  have q : z = k := by simp only [Cond.value] at ho; rw [e1, e2] at ho; simpa using ho
  subst q
  exact ⟨a, Sta.start ev (Or.inr ⟨hi, hl⟩), Exa.start ev hx, Fld.start ((fld_at ev).symm.trans e1)⟩
def own_pick (i : Int32) (a_EQUAL a_NOT_EQUAL a_LESS a_LESS_OR_EQUAL a_GREATER a_GREATER_OR_EQUAL : Addr) : Addr := if i = (0 : Int32) then a_EQUAL else if i = (1 : Int32) then a_NOT_EQUAL else if i = (2 : Int32) then a_LESS else if i = (3 : Int32) then a_LESS_OR_EQUAL else if i = (4 : Int32) then a_GREATER else a_GREATER_OR_EQUAL
def own_inc (a b c d : Addr) : Int32 := if Value.ref a = Value.ref b then 1 else if Value.ref a = Value.ref c then 1 else if Value.ref a = Value.ref d then 1 else 0
theorem own_ne_ref {a b : Addr} (h : a ≠ b) : ¬ Value.ref a = Value.ref b := fun q => h (Value.ref.inj q)
def own_holds (o c : Int32) : Int32 := if o = (0 : Int32) then (if c = (0 : Int32) then 1 else 0) else if o = (1 : Int32) then (if c = (0 : Int32) then 0 else 1) else if o = (2 : Int32) then (if c < (0 : Int32) then 1 else 0) else if o = (3 : Int32) then (if (0 : Int32) < c then 0 else 1) else if o = (4 : Int32) then (if (0 : Int32) < c then 1 else 0) else (if c < (0 : Int32) then 0 else 1)
theorem own_holds_neg {c : Int32} (h : c < 0) : own_holds 0 c = 0 ∧ own_holds 1 c = 1 ∧ own_holds 2 c = 1 ∧ own_holds 3 c = 1 ∧ own_holds 4 c = 0 ∧ own_holds 5 c = 0 := by
  have h1 : ¬ c = 0 := fun q => by subst q; exact absurd h (by decide)
  have h2 : ¬ (0 : Int32) < c := fun q => by simp only [Int32.lt_iff_toInt_lt] at h q; omega
  simp [own_holds, h, h1, h2]
theorem own_holds_pos {c : Int32} (h : 0 < c) : own_holds 0 c = 0 ∧ own_holds 1 c = 1 ∧ own_holds 2 c = 0 ∧ own_holds 3 c = 0 ∧ own_holds 4 c = 1 ∧ own_holds 5 c = 1 := by
  have h1 : ¬ c = 0 := fun q => by subst q; exact absurd h (by decide)
  have h2 : ¬ c < (0 : Int32) := fun q => by simp only [Int32.lt_iff_toInt_lt] at h q; omega
  simp [own_holds, h, h1, h2]
theorem own_mod6 (x : Int32) : (x &&& (2147483647 : Int32)) % (6 : Int32) = 0 ∨ (x &&& (2147483647 : Int32)) % (6 : Int32) = 1 ∨ (x &&& (2147483647 : Int32)) % (6 : Int32) = 2 ∨ (x &&& (2147483647 : Int32)) % (6 : Int32) = 3 ∨ (x &&& (2147483647 : Int32)) % (6 : Int32) = 4 ∨ (x &&& (2147483647 : Int32)) % (6 : Int32) = 5 := by
  have h := c_and x (2147483647 : Int32) (by decide)
  have h2 := (c_irem (x &&& (2147483647 : Int32)) 6 6 (by decide)).1 h.1
  simp only [← Int32.toInt_inj, h2, Int32.reduceToInt]
  omega
theorem own_negOr (c : Int32) : (c ||| (-2147483648 : Int32)) < 0 := by
  rw [Int32.lt_iff_toInt_lt]; exact (c_orS c (-2147483648 : Int32)).2.2 (by decide)
theorem own_posAnd {x : Int32} (h : ¬ (x &&& (2147483647 : Int32)) = 0) : 0 < (x &&& (2147483647 : Int32)) := by
  have q := (c_and x (2147483647 : Int32) (by decide)).1
  have h' : ¬ (x &&& (2147483647 : Int32)).toInt = 0 := fun z => h (Int32.toInt_inj.mp z)
  rw [Int32.lt_iff_toInt_lt]; simp only [Int32.reduceToInt]; omega

def own_rm1_Q (Z : State) (a : Addr) (a_EQUAL a_NOT_EQUAL a_LESS a_LESS_OR_EQUAL a_GREATER a_GREATER_OR_EQUAL : Addr) (h0 : Heap) (n0 : Nat) : Option Value → Heap → List Loc → Prop := fun v h L => v = some (Value.int (own_inc a a_EQUAL a_LESS a_LESS_OR_EQUAL)) ∧ h = h0 ∧ Fr n0 L
theorem own_rm1_ef (m : MethodId) (a : Addr)  : entryFrame m #[(Value.ref a)] 1 = mkF m 0 #[.val (Value.ref a)] [] := by first | (simp [entryFrame, mkF, argsToLocals, Value.category]; done) | rfl
set_option maxRecDepth 65536 in
set_option maxHeartbeats 40000000 in
theorem own_rm1 (l : Launch) (Z : State) (a0 : Array Value) (hw : ∀ d ∈ tables_1, d.before a0 Z = true) (ws : List Jvm.Cond) (a : Addr) (a_EQUAL a_NOT_EQUAL a_LESS a_LESS_OR_EQUAL a_GREATER a_GREATER_OR_EQUAL : Addr) (h0 : Heap) (n0 : Nat) (O0 : Old Z n0 h0) (En_EQUAL : own_En Z "com/example/gazetteer/gazetteer/partitions/Condition$Operator" "EQUAL" "Lcom/example/gazetteer/gazetteer/partitions/Condition$Operator;" a_EQUAL 0) (En_NOT_EQUAL : own_En Z "com/example/gazetteer/gazetteer/partitions/Condition$Operator" "NOT_EQUAL" "Lcom/example/gazetteer/gazetteer/partitions/Condition$Operator;" a_NOT_EQUAL 1) (En_LESS : own_En Z "com/example/gazetteer/gazetteer/partitions/Condition$Operator" "LESS" "Lcom/example/gazetteer/gazetteer/partitions/Condition$Operator;" a_LESS 2) (En_LESS_OR_EQUAL : own_En Z "com/example/gazetteer/gazetteer/partitions/Condition$Operator" "LESS_OR_EQUAL" "Lcom/example/gazetteer/gazetteer/partitions/Condition$Operator;" a_LESS_OR_EQUAL 3) (En_GREATER : own_En Z "com/example/gazetteer/gazetteer/partitions/Condition$Operator" "GREATER" "Lcom/example/gazetteer/gazetteer/partitions/Condition$Operator;" a_GREATER 4) (En_GREATER_OR_EQUAL : own_En Z "com/example/gazetteer/gazetteer/partitions/Condition$Operator" "GREATER_OR_EQUAL" "Lcom/example/gazetteer/gazetteer/partitions/Condition$Operator;" a_GREATER_OR_EQUAL 5) :
    MetFree l (⟨"com/example/gazetteer/gazetteer/partitions/Condition$Operator", "boundsAbove", "()Z"⟩ : MethodName) (head1 (Jvm.Cond.code (⟨"com/example/gazetteer/gazetteer/partitions/Condition$Operator", "boundsAbove", "()Z"⟩ : MethodName) prog_69_method_6_code 1 (some .boolean) :: ws) ({ frames := 0, cells := 0, slots := 0, locals := 0 } : Room)) (fun aa_ U => aa_ = #[(Value.ref a)] ∧ Z.Warmed39 U.vm ∧ U.heap = h0) (fun _ _ _ _ _ => True) (fun _ UU_ oo_ UX_ => ∃ vv_ LL_, oo_ = .returned vv_ ∧ (own_rm1_Q Z a a_EQUAL a_NOT_EQUAL a_LESS a_LESS_OR_EQUAL a_GREATER a_GREATER_OR_EQUAL h0 n0) vv_ UX_.heap LL_ ∧ FrameEnd UU_ oo_ UX_ LL_ ({ frames := 0, cells := 0, slots := 0, locals := 0 } : Room).cells ({ frames := 0, cells := 0, slots := 0, locals := 0 } : Room).slots) := by
  refine MetFree.of_bodySF (plainFor_of_name own_pn0) hisR ?_
  intro p e s m args below meth c s₁ Bd hml0 hP hK
  obtain ⟨rfl, hZ, hh⟩ := hP
  have hx := Bd.exec
  have hby := Bd.bytes
  have hml : c.maxLocals = 1 := hml0
  have hown : s.vm.findClass "com/example/gazetteer/gazetteer/partitions/Condition$Operator" = some m.cls := findClass_of_methodNamed Bd.named
  have hnm := (name_of_methodNamed Bd.named Bd.method).1
  have hlk : meth.locks = false := BodyLoose.notSynchronized Bd
  have X0 : Stand p l e ({ frames := 0, cells := 0, slots := 0, locals := 0 } : Room) s m #[(Value.ref a)] below meth c s₁ [] 0 0 := Stand.of_body Bd
  have e0 : s₁.heap = h0 := by rw [← hh, Bd.state]; rfl
  have N0 := Fr.nil n0
  show own_G p e below s (own_rm1_Q Z a a_EQUAL a_NOT_EQUAL a_LESS a_LESS_OR_EQUAL a_GREATER a_GREATER_OR_EQUAL h0 n0) ({ frames := 0, cells := 0, slots := 0, locals := 0 } : Room).cells ({ frames := 0, cells := 0, slots := 0, locals := 0 } : Room).slots (s₁.setTop (entryFrame m #[(Value.ref a)] 1))
  refine own_cast (own_rm1_ef m a ) ?_
  show own_G p e below s _ _ _ (s₁.setTop (mkF m 0 #[.val (Value.ref a)] []))
  refine own_aloadN X0 hx hby own_d1_0 rfl rfl ?_
  show own_G p e below s _ _ _ (s₁.setTop (mkF m 1 #[.val (Value.ref a)] [(Value.ref a)]))
  obtain ⟨T1, X1, e1, st1⟩ := getS2 X0 hx hZ hown (host := "") (Or.inl (own_w22 hw)) Via.refl e0 (Sta.ext O0.2 En_EQUAL.1) (g := (mkF m 1 #[.val (Value.ref a)] [(Value.ref a)])) rfl (hb hby own_d1_1)
  refine own_st st1 ?_
  show own_G p e below s _ _ _ (T1.setTop (mkF m 4 #[.val (Value.ref a)] [(Value.ref a_EQUAL), (Value.ref a)]))
  refine own_acmp_eq X1 hx hby rfl rfl own_d1_4 (pc' := 21) (by decide) (by decide) (fun hb2 => ?_) (fun hb2 => ?_)
  · show own_G p e below s _ _ _ (T1.setTop (mkF m 21 #[.val (Value.ref a)] []))
    refine own_iconst X1 hx hby own_d1_21 ?_
    show own_G p e below s _ _ _ (T1.setTop (mkF m 22 #[.val (Value.ref a)] [(Value.int (1 : Int32))]))
    refine own_goto X1 hx hby own_d1_22 (pc' := 26) (by decide) (by decide) ?_
    show own_G p e below s _ _ _ (T1.setTop (mkF m 26 #[.val (Value.ref a)] [(Value.int (1 : Int32))]))
    refine own_retN X1 hx hby hlk (t := .boolean) Bd.returns (by simp) own_d1_26 (by decide) (by decide) ?_
    refine ⟨?_, e1, N0⟩
    show some (Value.int (1 : Int32)) = _
    simp only [own_inc, if_pos hb2]
  · show own_G p e below s _ _ _ (T1.setTop (mkF m 7 #[.val (Value.ref a)] []))
    refine own_aloadN X1 hx hby own_d1_7 rfl rfl ?_
    show own_G p e below s _ _ _ (T1.setTop (mkF m 8 #[.val (Value.ref a)] [(Value.ref a)]))
    obtain ⟨T3, X3, e3, st3⟩ := getS2 X1 hx hZ hown (host := "") (Or.inl (own_w37 hw)) Via.refl e1 (Sta.ext O0.2 En_LESS.1) (g := (mkF m 8 #[.val (Value.ref a)] [(Value.ref a)])) rfl (hb hby own_d1_8)
    refine own_st st3 ?_
    show own_G p e below s _ _ _ (T3.setTop (mkF m 11 #[.val (Value.ref a)] [(Value.ref a_LESS), (Value.ref a)]))
    refine own_acmp_eq X3 hx hby rfl rfl own_d1_11 (pc' := 21) (by decide) (by decide) (fun hb4 => ?_) (fun hb4 => ?_)
    · show own_G p e below s _ _ _ (T3.setTop (mkF m 21 #[.val (Value.ref a)] []))
      refine own_iconst X3 hx hby own_d1_21 ?_
      show own_G p e below s _ _ _ (T3.setTop (mkF m 22 #[.val (Value.ref a)] [(Value.int (1 : Int32))]))
      refine own_goto X3 hx hby own_d1_22 (pc' := 26) (by decide) (by decide) ?_
      show own_G p e below s _ _ _ (T3.setTop (mkF m 26 #[.val (Value.ref a)] [(Value.int (1 : Int32))]))
      refine own_retN X3 hx hby hlk (t := .boolean) Bd.returns (by simp) own_d1_26 (by decide) (by decide) ?_
      refine ⟨?_, e3, N0⟩
      show some (Value.int (1 : Int32)) = _
      simp only [own_inc, if_neg hb2, if_pos hb4]
    · show own_G p e below s _ _ _ (T3.setTop (mkF m 14 #[.val (Value.ref a)] []))
      refine own_aloadN X3 hx hby own_d1_14 rfl rfl ?_
      show own_G p e below s _ _ _ (T3.setTop (mkF m 15 #[.val (Value.ref a)] [(Value.ref a)]))
      obtain ⟨T5, X5, e5, st5⟩ := getS2 X3 hx hZ hown (host := "") (Or.inl (own_w38 hw)) Via.refl e3 (Sta.ext O0.2 En_LESS_OR_EQUAL.1) (g := (mkF m 15 #[.val (Value.ref a)] [(Value.ref a)])) rfl (hb hby own_d1_15)
      refine own_st st5 ?_
      show own_G p e below s _ _ _ (T5.setTop (mkF m 18 #[.val (Value.ref a)] [(Value.ref a_LESS_OR_EQUAL), (Value.ref a)]))
      refine own_acmp_ne X5 hx hby rfl rfl own_d1_18 (pc' := 25) (by decide) (by decide) (fun hb6 => ?_) (fun hb6 => ?_)
      · show own_G p e below s _ _ _ (T5.setTop (mkF m 25 #[.val (Value.ref a)] []))
        refine own_iconst X5 hx hby own_d1_25 ?_
        show own_G p e below s _ _ _ (T5.setTop (mkF m 26 #[.val (Value.ref a)] [(Value.int (0 : Int32))]))
        refine own_retN X5 hx hby hlk (t := .boolean) Bd.returns (by simp) own_d1_26 (by decide) (by decide) ?_
        refine ⟨?_, e5, N0⟩
        show some (Value.int (0 : Int32)) = _
        simp only [own_inc, if_neg hb2, if_neg hb4, if_neg hb6]
      · show own_G p e below s _ _ _ (T5.setTop (mkF m 21 #[.val (Value.ref a)] []))
        refine own_iconst X5 hx hby own_d1_21 ?_
        show own_G p e below s _ _ _ (T5.setTop (mkF m 22 #[.val (Value.ref a)] [(Value.int (1 : Int32))]))
        refine own_goto X5 hx hby own_d1_22 (pc' := 26) (by decide) (by decide) ?_
        show own_G p e below s _ _ _ (T5.setTop (mkF m 26 #[.val (Value.ref a)] [(Value.int (1 : Int32))]))
        refine own_retN X5 hx hby hlk (t := .boolean) Bd.returns (by simp) own_d1_26 (by decide) (by decide) ?_
        refine ⟨?_, e5, N0⟩
        show some (Value.int (1 : Int32)) = _
        simp only [own_inc, if_neg hb2, if_neg hb4, if_pos hb6]
def own_rm3_Q (Z : State) (a : Addr) (o : Int32) (h0 : Heap) (n0 : Nat) : Option Value → Heap → List Loc → Prop := fun v h L => v = some (Value.int o) ∧ h = h0 ∧ Fr n0 L
theorem own_rm3_ef (m : MethodId) (a : Addr)  : entryFrame m #[(Value.ref a)] 1 = mkF m 0 #[.val (Value.ref a)] [] := by first | (simp [entryFrame, mkF, argsToLocals, Value.category]; done) | rfl
set_option maxRecDepth 65536 in
set_option maxHeartbeats 40000000 in
theorem own_rm3 (l : Launch) (Z : State) (a0 : Array Value) (hw : ∀ d ∈ tables_1, d.before a0 Z = true) (ws : List Jvm.Cond) (a : Addr) (o : Int32) (h0 : Heap) (n0 : Nat) (O0 : Old Z n0 h0) (F_a_ordinal : Fld Z h0 a "java/lang/Enum" "ordinal" "I" (Value.int o))  :
    MetFree l (⟨"java/lang/Enum", "ordinal", "()I"⟩ : MethodName) (head1 (Jvm.Cond.code (⟨"java/lang/Enum", "ordinal", "()I"⟩ : MethodName) jdk_37_method_2_code 1 (some .int) :: ws) ({ frames := 0, cells := 0, slots := 0, locals := 0 } : Room)) (fun aa_ U => aa_ = #[(Value.ref a)] ∧ Z.Warmed39 U.vm ∧ U.heap = h0) (fun _ _ _ _ _ => True) (fun _ UU_ oo_ UX_ => ∃ vv_ LL_, oo_ = .returned vv_ ∧ (own_rm3_Q Z a o h0 n0) vv_ UX_.heap LL_ ∧ FrameEnd UU_ oo_ UX_ LL_ ({ frames := 0, cells := 0, slots := 0, locals := 0 } : Room).cells ({ frames := 0, cells := 0, slots := 0, locals := 0 } : Room).slots) := by
  refine MetFree.of_bodySF (plainFor_of_name own_pn1) hisR ?_
  intro p e s m args below meth c s₁ Bd hml0 hP hK
  obtain ⟨rfl, hZ, hh⟩ := hP
  have hx := Bd.exec
  have hby := Bd.bytes
  have hml : c.maxLocals = 1 := hml0
  have hown : s.vm.findClass "java/lang/Enum" = some m.cls := findClass_of_methodNamed Bd.named
  have hnm := (name_of_methodNamed Bd.named Bd.method).1
  have hlk : meth.locks = false := BodyLoose.notSynchronized Bd
  have X0 : Stand p l e ({ frames := 0, cells := 0, slots := 0, locals := 0 } : Room) s m #[(Value.ref a)] below meth c s₁ [] 0 0 := Stand.of_body Bd
  have e0 : s₁.heap = h0 := by rw [← hh, Bd.state]; rfl
  have N0 := Fr.nil n0
  show own_G p e below s (own_rm3_Q Z a o h0 n0) ({ frames := 0, cells := 0, slots := 0, locals := 0 } : Room).cells ({ frames := 0, cells := 0, slots := 0, locals := 0 } : Room).slots (s₁.setTop (entryFrame m #[(Value.ref a)] 1))
  refine own_cast (own_rm3_ef m a ) ?_
  show own_G p e below s _ _ _ (s₁.setTop (mkF m 0 #[.val (Value.ref a)] []))
  refine own_aloadN X0 hx hby own_d3_0 rfl rfl ?_
  show own_G p e below s _ _ _ (s₁.setTop (mkF m 1 #[.val (Value.ref a)] [(Value.ref a)]))
  obtain ⟨T1, X1, e1, st1⟩ := getF X0 hx hZ hown (host := "") (Or.inl (own_w35 hw)) Via.refl e0 F_a_ordinal (g := (mkF m 1 #[.val (Value.ref a)] [(Value.ref a)])) rfl rfl (hb hby own_d3_1)
  refine own_st st1 ?_
  show own_G p e below s _ _ _ (T1.setTop (mkF m 4 #[.val (Value.ref a)] [(Value.int o)]))
  refine own_retI X1 hx hby hlk Bd.returns own_d3_4 (by decide) (by decide) ?_
  refine ⟨?_, e1, N0⟩
  show some (Value.int o) = _
  rfl
def own_rm2_Q (Z : State) (a : Addr) (x1 : Int32) (o : Int32) (h0 : Heap) (n0 : Nat) : Option Value → Heap → List Loc → Prop := fun v h L => v = some (Value.int (own_holds o x1)) ∧ h = h0 ∧ Fr n0 L
theorem own_rm2_ef (m : MethodId) (a : Addr) (x1 : Int32)  : entryFrame m #[(Value.ref a), (Value.int x1)] 2 = mkF m 0 #[.val (Value.ref a), .val (Value.int x1)] [] := by first | (simp [entryFrame, mkF, argsToLocals, Value.category]; done) | rfl
set_option maxRecDepth 65536 in
set_option maxHeartbeats 40000000 in
theorem own_rm2 (l : Launch) (Z : State) (a0 : Array Value) (hw : ∀ d ∈ tables_1, d.before a0 Z = true) (ws : List Jvm.Cond) (a : Addr) (x1 : Int32) (o : Int32) (h0 : Heap) (n0 : Nat) (O0 : Old Z n0 h0) (E_a : Exa Z h0 a "com/example/gazetteer/gazetteer/partitions/Condition$Operator") (F_a_ordinal : Fld Z h0 a "java/lang/Enum" "ordinal" "I" (Value.int o)) (ho : o = 0 ∨ o = 1 ∨ o = 2 ∨ o = 3 ∨ o = 4 ∨ o = 5) :
    MetFree l (⟨"com/example/gazetteer/gazetteer/partitions/Condition$Operator", "holds", "(I)Z"⟩ : MethodName) (head1 (Jvm.Cond.code (⟨"com/example/gazetteer/gazetteer/partitions/Condition$Operator", "holds", "(I)Z"⟩ : MethodName) prog_69_method_4_code 2 (some .boolean) :: ws) ({ frames := 1, cells := 0, slots := 0, locals := 12 } : Room)) (fun aa_ U => aa_ = #[(Value.ref a), (Value.int x1)] ∧ Z.Warmed39 U.vm ∧ U.heap = h0) (fun _ _ _ _ _ => True) (fun _ UU_ oo_ UX_ => ∃ vv_ LL_, oo_ = .returned vv_ ∧ (own_rm2_Q Z a x1 o h0 n0) vv_ UX_.heap LL_ ∧ FrameEnd UU_ oo_ UX_ LL_ ({ frames := 1, cells := 0, slots := 0, locals := 12 } : Room).cells ({ frames := 1, cells := 0, slots := 0, locals := 12 } : Room).slots) := by
  refine MetFree.of_bodySF (plainFor_of_name own_pn0) hisR ?_
  intro p e s m args below meth c s₁ Bd hml0 hP hK
  obtain ⟨rfl, hZ, hh⟩ := hP
  have hx := Bd.exec
  have hby := Bd.bytes
  have hml : c.maxLocals = 2 := hml0
  have hown : s.vm.findClass "com/example/gazetteer/gazetteer/partitions/Condition$Operator" = some m.cls := findClass_of_methodNamed Bd.named
  have hnm := (name_of_methodNamed Bd.named Bd.method).1
  have hlk : meth.locks = false := BodyLoose.notSynchronized Bd
  have X0 : Stand p l e ({ frames := 1, cells := 0, slots := 0, locals := 12 } : Room) s m #[(Value.ref a), (Value.int x1)] below meth c s₁ [] 0 0 := Stand.of_body Bd
  have e0 : s₁.heap = h0 := by rw [← hh, Bd.state]; rfl
  have N0 := Fr.nil n0
  show own_G p e below s (own_rm2_Q Z a x1 o h0 n0) ({ frames := 1, cells := 0, slots := 0, locals := 12 } : Room).cells ({ frames := 1, cells := 0, slots := 0, locals := 12 } : Room).slots (s₁.setTop (entryFrame m #[(Value.ref a), (Value.int x1)] 2))
  refine own_cast (own_rm2_ef m a x1 ) ?_
  show own_G p e below s _ _ _ (s₁.setTop (mkF m 0 #[.val (Value.ref a), .val (Value.int x1)] []))
  refine own_aloadN X0 hx hby own_d2_0 rfl rfl ?_
  show own_G p e below s _ _ _ (s₁.setTop (mkF m 1 #[.val (Value.ref a), .val (Value.int x1)] [(Value.ref a)]))
  obtain ⟨cq1, kq1, q1a, q1b, q1c⟩ := isOf (T := s₁) hZ e0 E_a
  obtain ⟨_, _, ⟨T1, L1, k1, n1⟩, -, X1, ⟨Lc1, hQ1, l1, y1, z1⟩, st1⟩ := X0.virtualBackUp hx (x := (⟨"com/example/gazetteer/gazetteer/partitions/Condition$Operator", "ordinal", "()I"⟩ : MethodName)) (y := (⟨"java/lang/Enum", "ordinal", "()I"⟩ : MethodName)) (owner := "java/lang/Enum") hown (mvT hZ (own_w28 hw)) (mvT hZ (own_w29 hw)) (mvT hZ (own_w30 hw)) (by decide) (mvT hZ (own_w32 hw)) (mvT hZ (own_w31 hw)) (backOf (W := 0) (own_rm3 l Z a0 hw [] a o h0 n0 O0  F_a_ordinal) hZ (own_w34 hw) (own_w33 hw) (by decide) (by decide)) q1a q1c (g := (mkF m 1 #[.val (Value.ref a), .val (Value.int x1)] [(Value.ref a)])) rfl (by rw [hml]; rfl) (Steps.refl _) (argsL := []) (rest := []) (lenOf own_pd0 rfl) rfl (by show 2 * 0 + _ ≤ _; exact Nat.le_of_eq rfl) (hb hby own_d2_1) (fun _ _ => ⟨rfl, e0, (by decide : (0 : Nat) + 0 ≤ _), (by decide : (0 : Nat) + 0 ≤ _)⟩)
  dsimp only [Pt.U, Pt.locs, Pt.cells, Pt.slots] at X1 l1 y1 z1 st1 hQ1
  subst l1 y1 z1
  obtain ⟨rfl, e1, Nq1⟩ := hQ1
  have N1 := Fr.app N0 Nq1
  refine own_tr st1 ?_
  show own_G p e below s _ _ _ (T1.setTop (mkF m 4 #[.val (Value.ref a), .val (Value.int x1)] [(Value.int o)]))
  rcases ho with rfl | rfl | rfl | rfl | rfl | rfl
  · show own_G p e below s _ _ _ (T1.setTop (mkF m 4 #[.val (Value.ref a), .val (Value.int x1)] [(Value.int (0 : Int32))]))
    refine own_tswIn X1 hx hby own_d2_4 (o := 50) (pc' := 54) (by decide) (by decide) (by decide) (by decide) ?_
    show own_G p e below s _ _ _ (T1.setTop (mkF m 54 #[.val (Value.ref a), .val (Value.int x1)] []))
    refine own_iloadN X1 hx hby own_d2_54 rfl ?_
    show own_G p e below s _ _ _ (T1.setTop (mkF m 55 #[.val (Value.ref a), .val (Value.int x1)] [(Value.int x1)]))
    refine own_if_ne X1 hx hby own_d2_55 (pc' := 62) (by decide) (by decide) (fun hb2 => ?_) (fun hb2 => ?_)
    · show own_G p e below s _ _ _ (T1.setTop (mkF m 62 #[.val (Value.ref a), .val (Value.int x1)] []))
      refine own_iconst X1 hx hby own_d2_62 ?_
      show own_G p e below s _ _ _ (T1.setTop (mkF m 63 #[.val (Value.ref a), .val (Value.int x1)] [(Value.int (0 : Int32))]))
      refine own_goto X1 hx hby own_d2_63 (pc' := 123) (by decide) (by decide) ?_
      show own_G p e below s _ _ _ (T1.setTop (mkF m 123 #[.val (Value.ref a), .val (Value.int x1)] [(Value.int (0 : Int32))]))
      refine own_retN X1 hx hby hlk (t := .boolean) Bd.returns (by simp) own_d2_123 (by decide) (by decide) ?_
      refine ⟨?_, e1, N1⟩
      show some (Value.int (0 : Int32)) = _
      simp [own_holds, hb2]
    · show own_G p e below s _ _ _ (T1.setTop (mkF m 58 #[.val (Value.ref a), .val (Value.int x1)] []))
      refine own_iconst X1 hx hby own_d2_58 ?_
      show own_G p e below s _ _ _ (T1.setTop (mkF m 59 #[.val (Value.ref a), .val (Value.int x1)] [(Value.int (1 : Int32))]))
      refine own_goto X1 hx hby own_d2_59 (pc' := 123) (by decide) (by decide) ?_
      show own_G p e below s _ _ _ (T1.setTop (mkF m 123 #[.val (Value.ref a), .val (Value.int x1)] [(Value.int (1 : Int32))]))
      refine own_retN X1 hx hby hlk (t := .boolean) Bd.returns (by simp) own_d2_123 (by decide) (by decide) ?_
      refine ⟨?_, e1, N1⟩
      show some (Value.int (1 : Int32)) = _
      simp [own_holds, hb2]
  · show own_G p e below s _ _ _ (T1.setTop (mkF m 4 #[.val (Value.ref a), .val (Value.int x1)] [(Value.int (1 : Int32))]))
    refine own_tswIn X1 hx hby own_d2_4 (o := 62) (pc' := 66) (by decide) (by decide) (by decide) (by decide) ?_
    show own_G p e below s _ _ _ (T1.setTop (mkF m 66 #[.val (Value.ref a), .val (Value.int x1)] []))
    refine own_iloadN X1 hx hby own_d2_66 rfl ?_
    show own_G p e below s _ _ _ (T1.setTop (mkF m 67 #[.val (Value.ref a), .val (Value.int x1)] [(Value.int x1)]))
    refine own_if_eq X1 hx hby own_d2_67 (pc' := 74) (by decide) (by decide) (fun hb3 => ?_) (fun hb3 => ?_)
    · show own_G p e below s _ _ _ (T1.setTop (mkF m 74 #[.val (Value.ref a), .val (Value.int x1)] []))
      refine own_iconst X1 hx hby own_d2_74 ?_
      show own_G p e below s _ _ _ (T1.setTop (mkF m 75 #[.val (Value.ref a), .val (Value.int x1)] [(Value.int (0 : Int32))]))
      refine own_goto X1 hx hby own_d2_75 (pc' := 123) (by decide) (by decide) ?_
      show own_G p e below s _ _ _ (T1.setTop (mkF m 123 #[.val (Value.ref a), .val (Value.int x1)] [(Value.int (0 : Int32))]))
      refine own_retN X1 hx hby hlk (t := .boolean) Bd.returns (by simp) own_d2_123 (by decide) (by decide) ?_
      refine ⟨?_, e1, N1⟩
      show some (Value.int (0 : Int32)) = _
      simp [own_holds, hb3]
    · show own_G p e below s _ _ _ (T1.setTop (mkF m 70 #[.val (Value.ref a), .val (Value.int x1)] []))
      refine own_iconst X1 hx hby own_d2_70 ?_
      show own_G p e below s _ _ _ (T1.setTop (mkF m 71 #[.val (Value.ref a), .val (Value.int x1)] [(Value.int (1 : Int32))]))
      refine own_goto X1 hx hby own_d2_71 (pc' := 123) (by decide) (by decide) ?_
      show own_G p e below s _ _ _ (T1.setTop (mkF m 123 #[.val (Value.ref a), .val (Value.int x1)] [(Value.int (1 : Int32))]))
      refine own_retN X1 hx hby hlk (t := .boolean) Bd.returns (by simp) own_d2_123 (by decide) (by decide) ?_
      refine ⟨?_, e1, N1⟩
      show some (Value.int (1 : Int32)) = _
      simp [own_holds, hb3]
  · show own_G p e below s _ _ _ (T1.setTop (mkF m 4 #[.val (Value.ref a), .val (Value.int x1)] [(Value.int (2 : Int32))]))
    refine own_tswIn X1 hx hby own_d2_4 (o := 74) (pc' := 78) (by decide) (by decide) (by decide) (by decide) ?_
    show own_G p e below s _ _ _ (T1.setTop (mkF m 78 #[.val (Value.ref a), .val (Value.int x1)] []))
    refine own_iloadN X1 hx hby own_d2_78 rfl ?_
    show own_G p e below s _ _ _ (T1.setTop (mkF m 79 #[.val (Value.ref a), .val (Value.int x1)] [(Value.int x1)]))
    refine own_if_ge X1 hx hby own_d2_79 (pc' := 86) (by decide) (by decide) (fun hb4 => ?_) (fun hb4 => ?_)
    · show own_G p e below s _ _ _ (T1.setTop (mkF m 86 #[.val (Value.ref a), .val (Value.int x1)] []))
      refine own_iconst X1 hx hby own_d2_86 ?_
      show own_G p e below s _ _ _ (T1.setTop (mkF m 87 #[.val (Value.ref a), .val (Value.int x1)] [(Value.int (0 : Int32))]))
      refine own_goto X1 hx hby own_d2_87 (pc' := 123) (by decide) (by decide) ?_
      show own_G p e below s _ _ _ (T1.setTop (mkF m 123 #[.val (Value.ref a), .val (Value.int x1)] [(Value.int (0 : Int32))]))
      refine own_retN X1 hx hby hlk (t := .boolean) Bd.returns (by simp) own_d2_123 (by decide) (by decide) ?_
      refine ⟨?_, e1, N1⟩
      show some (Value.int (0 : Int32)) = _
      simp [own_holds, hb4]
    · show own_G p e below s _ _ _ (T1.setTop (mkF m 82 #[.val (Value.ref a), .val (Value.int x1)] []))
      refine own_iconst X1 hx hby own_d2_82 ?_
      show own_G p e below s _ _ _ (T1.setTop (mkF m 83 #[.val (Value.ref a), .val (Value.int x1)] [(Value.int (1 : Int32))]))
      refine own_goto X1 hx hby own_d2_83 (pc' := 123) (by decide) (by decide) ?_
      show own_G p e below s _ _ _ (T1.setTop (mkF m 123 #[.val (Value.ref a), .val (Value.int x1)] [(Value.int (1 : Int32))]))
      refine own_retN X1 hx hby hlk (t := .boolean) Bd.returns (by simp) own_d2_123 (by decide) (by decide) ?_
      refine ⟨?_, e1, N1⟩
      show some (Value.int (1 : Int32)) = _
      simp [own_holds, hb4]
  · show own_G p e below s _ _ _ (T1.setTop (mkF m 4 #[.val (Value.ref a), .val (Value.int x1)] [(Value.int (3 : Int32))]))
    refine own_tswIn X1 hx hby own_d2_4 (o := 86) (pc' := 90) (by decide) (by decide) (by decide) (by decide) ?_
    show own_G p e below s _ _ _ (T1.setTop (mkF m 90 #[.val (Value.ref a), .val (Value.int x1)] []))
    refine own_iloadN X1 hx hby own_d2_90 rfl ?_
    show own_G p e below s _ _ _ (T1.setTop (mkF m 91 #[.val (Value.ref a), .val (Value.int x1)] [(Value.int x1)]))
    refine own_if_gt X1 hx hby own_d2_91 (pc' := 98) (by decide) (by decide) (fun hb5 => ?_) (fun hb5 => ?_)
    · show own_G p e below s _ _ _ (T1.setTop (mkF m 98 #[.val (Value.ref a), .val (Value.int x1)] []))
      refine own_iconst X1 hx hby own_d2_98 ?_
      show own_G p e below s _ _ _ (T1.setTop (mkF m 99 #[.val (Value.ref a), .val (Value.int x1)] [(Value.int (0 : Int32))]))
      refine own_goto X1 hx hby own_d2_99 (pc' := 123) (by decide) (by decide) ?_
      show own_G p e below s _ _ _ (T1.setTop (mkF m 123 #[.val (Value.ref a), .val (Value.int x1)] [(Value.int (0 : Int32))]))
      refine own_retN X1 hx hby hlk (t := .boolean) Bd.returns (by simp) own_d2_123 (by decide) (by decide) ?_
      refine ⟨?_, e1, N1⟩
      show some (Value.int (0 : Int32)) = _
      simp [own_holds, hb5]
    · show own_G p e below s _ _ _ (T1.setTop (mkF m 94 #[.val (Value.ref a), .val (Value.int x1)] []))
      refine own_iconst X1 hx hby own_d2_94 ?_
      show own_G p e below s _ _ _ (T1.setTop (mkF m 95 #[.val (Value.ref a), .val (Value.int x1)] [(Value.int (1 : Int32))]))
      refine own_goto X1 hx hby own_d2_95 (pc' := 123) (by decide) (by decide) ?_
      show own_G p e below s _ _ _ (T1.setTop (mkF m 123 #[.val (Value.ref a), .val (Value.int x1)] [(Value.int (1 : Int32))]))
      refine own_retN X1 hx hby hlk (t := .boolean) Bd.returns (by simp) own_d2_123 (by decide) (by decide) ?_
      refine ⟨?_, e1, N1⟩
      show some (Value.int (1 : Int32)) = _
      simp [own_holds, hb5]
  · show own_G p e below s _ _ _ (T1.setTop (mkF m 4 #[.val (Value.ref a), .val (Value.int x1)] [(Value.int (4 : Int32))]))
    refine own_tswIn X1 hx hby own_d2_4 (o := 98) (pc' := 102) (by decide) (by decide) (by decide) (by decide) ?_
    show own_G p e below s _ _ _ (T1.setTop (mkF m 102 #[.val (Value.ref a), .val (Value.int x1)] []))
    refine own_iloadN X1 hx hby own_d2_102 rfl ?_
    show own_G p e below s _ _ _ (T1.setTop (mkF m 103 #[.val (Value.ref a), .val (Value.int x1)] [(Value.int x1)]))
    refine own_if_le X1 hx hby own_d2_103 (pc' := 110) (by decide) (by decide) (fun hb6 => ?_) (fun hb6 => ?_)
    · show own_G p e below s _ _ _ (T1.setTop (mkF m 110 #[.val (Value.ref a), .val (Value.int x1)] []))
      refine own_iconst X1 hx hby own_d2_110 ?_
      show own_G p e below s _ _ _ (T1.setTop (mkF m 111 #[.val (Value.ref a), .val (Value.int x1)] [(Value.int (0 : Int32))]))
      refine own_goto X1 hx hby own_d2_111 (pc' := 123) (by decide) (by decide) ?_
      show own_G p e below s _ _ _ (T1.setTop (mkF m 123 #[.val (Value.ref a), .val (Value.int x1)] [(Value.int (0 : Int32))]))
      refine own_retN X1 hx hby hlk (t := .boolean) Bd.returns (by simp) own_d2_123 (by decide) (by decide) ?_
      refine ⟨?_, e1, N1⟩
      show some (Value.int (0 : Int32)) = _
      simp [own_holds, hb6]
    · show own_G p e below s _ _ _ (T1.setTop (mkF m 106 #[.val (Value.ref a), .val (Value.int x1)] []))
      refine own_iconst X1 hx hby own_d2_106 ?_
      show own_G p e below s _ _ _ (T1.setTop (mkF m 107 #[.val (Value.ref a), .val (Value.int x1)] [(Value.int (1 : Int32))]))
      refine own_goto X1 hx hby own_d2_107 (pc' := 123) (by decide) (by decide) ?_
      show own_G p e below s _ _ _ (T1.setTop (mkF m 123 #[.val (Value.ref a), .val (Value.int x1)] [(Value.int (1 : Int32))]))
      refine own_retN X1 hx hby hlk (t := .boolean) Bd.returns (by simp) own_d2_123 (by decide) (by decide) ?_
      refine ⟨?_, e1, N1⟩
      show some (Value.int (1 : Int32)) = _
      simp [own_holds, hb6]
  · show own_G p e below s _ _ _ (T1.setTop (mkF m 4 #[.val (Value.ref a), .val (Value.int x1)] [(Value.int (5 : Int32))]))
    refine own_tswIn X1 hx hby own_d2_4 (o := 110) (pc' := 114) (by decide) (by decide) (by decide) (by decide) ?_
    show own_G p e below s _ _ _ (T1.setTop (mkF m 114 #[.val (Value.ref a), .val (Value.int x1)] []))
    refine own_iloadN X1 hx hby own_d2_114 rfl ?_
    show own_G p e below s _ _ _ (T1.setTop (mkF m 115 #[.val (Value.ref a), .val (Value.int x1)] [(Value.int x1)]))
    refine own_if_lt X1 hx hby own_d2_115 (pc' := 122) (by decide) (by decide) (fun hb7 => ?_) (fun hb7 => ?_)
    · show own_G p e below s _ _ _ (T1.setTop (mkF m 122 #[.val (Value.ref a), .val (Value.int x1)] []))
      refine own_iconst X1 hx hby own_d2_122 ?_
      show own_G p e below s _ _ _ (T1.setTop (mkF m 123 #[.val (Value.ref a), .val (Value.int x1)] [(Value.int (0 : Int32))]))
      refine own_retN X1 hx hby hlk (t := .boolean) Bd.returns (by simp) own_d2_123 (by decide) (by decide) ?_
      refine ⟨?_, e1, N1⟩
      show some (Value.int (0 : Int32)) = _
      simp [own_holds, hb7]
    · show own_G p e below s _ _ _ (T1.setTop (mkF m 118 #[.val (Value.ref a), .val (Value.int x1)] []))
      refine own_iconst X1 hx hby own_d2_118 ?_
      show own_G p e below s _ _ _ (T1.setTop (mkF m 119 #[.val (Value.ref a), .val (Value.int x1)] [(Value.int (1 : Int32))]))
      refine own_goto X1 hx hby own_d2_119 (pc' := 123) (by decide) (by decide) ?_
      show own_G p e below s _ _ _ (T1.setTop (mkF m 123 #[.val (Value.ref a), .val (Value.int x1)] [(Value.int (1 : Int32))]))
      refine own_retN X1 hx hby hlk (t := .boolean) Bd.returns (by simp) own_d2_123 (by decide) (by decide) ?_
      refine ⟨?_, e1, N1⟩
      show some (Value.int (1 : Int32)) = _
      simp [own_holds, hb7]
def own_rm0_Q (Z : State) (x0 : Int32) (x1 : Int32) (a_EQUAL a_NOT_EQUAL a_LESS a_LESS_OR_EQUAL a_GREATER a_GREATER_OR_EQUAL : Addr) (h0 : Heap) (n0 : Nat) : Option Value → Heap → List Loc → Prop := fun v h L => v = some (.int 1) ∧ Fr n0 L
theorem own_rm0_ef (m : MethodId) (x0 : Int32) (x1 : Int32)  : entryFrame m #[(Value.int x0), (Value.int x1)] maxLocals = mkF m 0 #[.val (Value.int x0), .val (Value.int x1), .unset, .unset, .unset, .unset, .unset, .unset, .unset] [] := by first | (simp [entryFrame, mkF, argsToLocals, Value.category, maxLocals]; done) | rfl
set_option maxRecDepth 65536 in
set_option maxHeartbeats 40000000 in
theorem own_rm0 (l : Launch) (Z : State) (a0 : Array Value) (hw : ∀ d ∈ tables_1, d.before a0 Z = true) (ws : List Jvm.Cond) (x0 : Int32) (x1 : Int32) (a_EQUAL a_NOT_EQUAL a_LESS a_LESS_OR_EQUAL a_GREATER a_GREATER_OR_EQUAL : Addr) (h0 : Heap) (n0 : Nat) (O0 : Old Z n0 h0) (En_EQUAL : own_En Z "com/example/gazetteer/gazetteer/partitions/Condition$Operator" "EQUAL" "Lcom/example/gazetteer/gazetteer/partitions/Condition$Operator;" a_EQUAL 0) (En_NOT_EQUAL : own_En Z "com/example/gazetteer/gazetteer/partitions/Condition$Operator" "NOT_EQUAL" "Lcom/example/gazetteer/gazetteer/partitions/Condition$Operator;" a_NOT_EQUAL 1) (En_LESS : own_En Z "com/example/gazetteer/gazetteer/partitions/Condition$Operator" "LESS" "Lcom/example/gazetteer/gazetteer/partitions/Condition$Operator;" a_LESS 2) (En_LESS_OR_EQUAL : own_En Z "com/example/gazetteer/gazetteer/partitions/Condition$Operator" "LESS_OR_EQUAL" "Lcom/example/gazetteer/gazetteer/partitions/Condition$Operator;" a_LESS_OR_EQUAL 3) (En_GREATER : own_En Z "com/example/gazetteer/gazetteer/partitions/Condition$Operator" "GREATER" "Lcom/example/gazetteer/gazetteer/partitions/Condition$Operator;" a_GREATER 4) (En_GREATER_OR_EQUAL : own_En Z "com/example/gazetteer/gazetteer/partitions/Condition$Operator" "GREATER_OR_EQUAL" "Lcom/example/gazetteer/gazetteer/partitions/Condition$Operator;" a_GREATER_OR_EQUAL 5) :
    MetFree l x (head1 (Jvm.Cond.code x code maxLocals ret :: ws) room_1) (fun aa_ U => aa_ = #[(Value.int x0), (Value.int x1)] ∧ Z.Warmed39 U.vm ∧ U.heap = h0) (fun _ _ _ _ _ => True) (fun _ UU_ oo_ UX_ => ∃ vv_ LL_, oo_ = .returned vv_ ∧ (own_rm0_Q Z x0 x1 a_EQUAL a_NOT_EQUAL a_LESS a_LESS_OR_EQUAL a_GREATER a_GREATER_OR_EQUAL h0 n0) vv_ UX_.heap LL_ ∧ FrameEnd UU_ oo_ UX_ LL_ 16 128) := by
  refine MetFree.of_bodySF (plainFor_of_name own_pn2) hisR ?_
  intro p e s m args below meth c s₁ Bd hml0 hP hK
  obtain ⟨rfl, hZ, hh⟩ := hP
  have hx := Bd.exec
  have hby := Bd.bytes
  have hml : c.maxLocals = 9 := hml0
  have hown : s.vm.findClass "com/example/gazetteer/gazetteer/partitions/OperatorBoundsAbovePinLaw" = some m.cls := findClass_of_methodNamed Bd.named
  have hnm := (name_of_methodNamed Bd.named Bd.method).1
  have hlk : meth.locks = false := BodyLoose.notSynchronized Bd
  have X0 : Stand p l e room_1 s m #[(Value.int x0), (Value.int x1)] below meth c s₁ [] 0 0 := Stand.of_body Bd
  have e0 : s₁.heap = h0 := by rw [← hh, Bd.state]; rfl
  have N0 := Fr.nil n0
  show own_G p e below s (own_rm0_Q Z x0 x1 a_EQUAL a_NOT_EQUAL a_LESS a_LESS_OR_EQUAL a_GREATER a_GREATER_OR_EQUAL h0 n0) 16 128 (s₁.setTop (entryFrame m #[(Value.int x0), (Value.int x1)] maxLocals))
  refine own_cast (own_rm0_ef m x0 x1 ) ?_
  show own_G p e below s _ _ _ (s₁.setTop (mkF m 0 #[.val (Value.int x0), .val (Value.int x1), .unset, .unset, .unset, .unset, .unset, .unset, .unset] []))
  refine own_bipush X0 hx hby at_0 ?_
  show own_G p e below s _ _ _ (s₁.setTop (mkF m 2 #[.val (Value.int x0), .val (Value.int x1), .unset, .unset, .unset, .unset, .unset, .unset, .unset] [(Value.int (6 : Int32))]))
  obtain ⟨T1, h1, k1, X1, e1, E1, A1, V1, st1⟩ := newR X0 hx hZ hown (own_w0 hw) (own_w1 hw) e0 (g := (mkF m 2 #[.val (Value.int x0), .val (Value.int x1), .unset, .unset, .unset, .unset, .unset, .unset, .unset] [(Value.int (6 : Int32))])) rfl (hb hby at_2) rfl (by decide) (cap := 6) (by decide) (by decide) (by decide) (by decide)
  obtain ⟨b1, g1⟩ : ∃ z, z = h0.size := ⟨_, rfl⟩
  rw [← g1] at A1 st1
  have O2 := Old.ext O0 E1
  have g1n : n0 ≤ b1 := by rw [g1]; exact O0.1 ▸ O0.2.1
  have A1v : own_Ar Z h1 b1 (.object "com/example/gazetteer/gazetteer/partitions/Condition$Operator") 6 (fun _ => .null) := own_Ar.new A1 (by decide)
  have V1v : own_Ov Z h1 b1 "com/example/gazetteer/gazetteer/partitions/Condition$Operator" := ⟨_, A1.1, V1⟩
  refine own_st st1 ?_
  show own_G p e below s _ _ _ (T1.setTop (mkF m 5 #[.val (Value.int x0), .val (Value.int x1), .unset, .unset, .unset, .unset, .unset, .unset, .unset] [(Value.ref b1)]))
  refine own_dup X1 hx hby at_5 rfl ?_
  show own_G p e below s _ _ _ (T1.setTop (mkF m 6 #[.val (Value.int x0), .val (Value.int x1), .unset, .unset, .unset, .unset, .unset, .unset, .unset] [(Value.ref b1), (Value.ref b1)]))
  refine own_iconst X1 hx hby at_6 ?_
  show own_G p e below s _ _ _ (T1.setTop (mkF m 7 #[.val (Value.int x0), .val (Value.int x1), .unset, .unset, .unset, .unset, .unset, .unset, .unset] [(Value.int (0 : Int32)), (Value.ref b1), (Value.ref b1)]))
  obtain ⟨T3, X3, e3, st3⟩ := getS2 X1 hx hZ hown (host := "") (Or.inl (own_w2 hw)) Via.refl e1 (Sta.ext O2.2 En_EQUAL.1) (g := (mkF m 7 #[.val (Value.int x0), .val (Value.int x1), .unset, .unset, .unset, .unset, .unset, .unset, .unset] [(Value.int (0 : Int32)), (Value.ref b1), (Value.ref b1)])) rfl (hb hby at_7)
  refine own_st st3 ?_
  show own_G p e below s _ _ _ (T3.setTop (mkF m 10 #[.val (Value.int x0), .val (Value.int x1), .unset, .unset, .unset, .unset, .unset, .unset, .unset] [(Value.ref a_EQUAL), (Value.int (0 : Int32)), (Value.ref b1), (Value.ref b1)]))
  obtain ⟨T4, h4, X4, e4, W4, A4, st4⟩ := own_aastore X3 hx hby hZ e3 A1v rfl (j := (0 : Int32)) (i := 0) (by decide) (by decide) (own_sto A1v V1v (Ins.self (Exa.ext O2.2 En_EQUAL.2.1))) at_10 (Ls := #[.val (Value.int x0), .val (Value.int x1), .unset, .unset, .unset, .unset, .unset, .unset, .unset]) (st := [(Value.ref b1)])
  have V5_b1 := own_Ov.wr V1v W4
  have O5 := Old.wr O2 W4 g1n
  have N4 := Fr.snoc X4 N0 g1n
  refine own_st st4 ?_
  show own_G p e below s _ _ _ (T4.setTop (mkF m 11 #[.val (Value.int x0), .val (Value.int x1), .unset, .unset, .unset, .unset, .unset, .unset, .unset] [(Value.ref b1)]))
  refine own_dup X4 hx hby at_11 rfl ?_
  show own_G p e below s _ _ _ (T4.setTop (mkF m 12 #[.val (Value.int x0), .val (Value.int x1), .unset, .unset, .unset, .unset, .unset, .unset, .unset] [(Value.ref b1), (Value.ref b1)]))
  refine own_iconst X4 hx hby at_12 ?_
  show own_G p e below s _ _ _ (T4.setTop (mkF m 13 #[.val (Value.int x0), .val (Value.int x1), .unset, .unset, .unset, .unset, .unset, .unset, .unset] [(Value.int (1 : Int32)), (Value.ref b1), (Value.ref b1)]))
  obtain ⟨T6, X6, e6, st6⟩ := getS2 X4 hx hZ hown (host := "") (Or.inl (own_w6 hw)) Via.refl e4 (Sta.ext O5.2 En_NOT_EQUAL.1) (g := (mkF m 13 #[.val (Value.int x0), .val (Value.int x1), .unset, .unset, .unset, .unset, .unset, .unset, .unset] [(Value.int (1 : Int32)), (Value.ref b1), (Value.ref b1)])) rfl (hb hby at_13)
  refine own_st st6 ?_
  show own_G p e below s _ _ _ (T6.setTop (mkF m 16 #[.val (Value.int x0), .val (Value.int x1), .unset, .unset, .unset, .unset, .unset, .unset, .unset] [(Value.ref a_NOT_EQUAL), (Value.int (1 : Int32)), (Value.ref b1), (Value.ref b1)]))
  obtain ⟨T7, h7, X7, e7, W7, A7, st7⟩ := own_aastore X6 hx hby hZ e6 A4 rfl (j := (1 : Int32)) (i := 1) (by decide) (by decide) (own_sto A4 V5_b1 (Ins.self (Exa.ext O5.2 En_NOT_EQUAL.2.1))) at_16 (Ls := #[.val (Value.int x0), .val (Value.int x1), .unset, .unset, .unset, .unset, .unset, .unset, .unset]) (st := [(Value.ref b1)])
  have V8_b1 := own_Ov.wr V5_b1 W7
  have O8 := Old.wr O5 W7 g1n
  have N7 := Fr.snoc X7 N4 g1n
  refine own_st st7 ?_
  show own_G p e below s _ _ _ (T7.setTop (mkF m 17 #[.val (Value.int x0), .val (Value.int x1), .unset, .unset, .unset, .unset, .unset, .unset, .unset] [(Value.ref b1)]))
  refine own_dup X7 hx hby at_17 rfl ?_
  show own_G p e below s _ _ _ (T7.setTop (mkF m 18 #[.val (Value.int x0), .val (Value.int x1), .unset, .unset, .unset, .unset, .unset, .unset, .unset] [(Value.ref b1), (Value.ref b1)]))
  refine own_iconst X7 hx hby at_18 ?_
  show own_G p e below s _ _ _ (T7.setTop (mkF m 19 #[.val (Value.int x0), .val (Value.int x1), .unset, .unset, .unset, .unset, .unset, .unset, .unset] [(Value.int (2 : Int32)), (Value.ref b1), (Value.ref b1)]))
  obtain ⟨T9, X9, e9, st9⟩ := getS2 X7 hx hZ hown (host := "") (Or.inl (own_w8 hw)) Via.refl e7 (Sta.ext O8.2 En_LESS.1) (g := (mkF m 19 #[.val (Value.int x0), .val (Value.int x1), .unset, .unset, .unset, .unset, .unset, .unset, .unset] [(Value.int (2 : Int32)), (Value.ref b1), (Value.ref b1)])) rfl (hb hby at_19)
  refine own_st st9 ?_
  show own_G p e below s _ _ _ (T9.setTop (mkF m 22 #[.val (Value.int x0), .val (Value.int x1), .unset, .unset, .unset, .unset, .unset, .unset, .unset] [(Value.ref a_LESS), (Value.int (2 : Int32)), (Value.ref b1), (Value.ref b1)]))
  obtain ⟨T10, h10, X10, e10, W10, A10, st10⟩ := own_aastore X9 hx hby hZ e9 A7 rfl (j := (2 : Int32)) (i := 2) (by decide) (by decide) (own_sto A7 V8_b1 (Ins.self (Exa.ext O8.2 En_LESS.2.1))) at_22 (Ls := #[.val (Value.int x0), .val (Value.int x1), .unset, .unset, .unset, .unset, .unset, .unset, .unset]) (st := [(Value.ref b1)])
  have V11_b1 := own_Ov.wr V8_b1 W10
  have O11 := Old.wr O8 W10 g1n
  have N10 := Fr.snoc X10 N7 g1n
  refine own_st st10 ?_
  show own_G p e below s _ _ _ (T10.setTop (mkF m 23 #[.val (Value.int x0), .val (Value.int x1), .unset, .unset, .unset, .unset, .unset, .unset, .unset] [(Value.ref b1)]))
  refine own_dup X10 hx hby at_23 rfl ?_
  show own_G p e below s _ _ _ (T10.setTop (mkF m 24 #[.val (Value.int x0), .val (Value.int x1), .unset, .unset, .unset, .unset, .unset, .unset, .unset] [(Value.ref b1), (Value.ref b1)]))
  refine own_iconst X10 hx hby at_24 ?_
  show own_G p e below s _ _ _ (T10.setTop (mkF m 25 #[.val (Value.int x0), .val (Value.int x1), .unset, .unset, .unset, .unset, .unset, .unset, .unset] [(Value.int (3 : Int32)), (Value.ref b1), (Value.ref b1)]))
  obtain ⟨T12, X12, e12, st12⟩ := getS2 X10 hx hZ hown (host := "") (Or.inl (own_w10 hw)) Via.refl e10 (Sta.ext O11.2 En_LESS_OR_EQUAL.1) (g := (mkF m 25 #[.val (Value.int x0), .val (Value.int x1), .unset, .unset, .unset, .unset, .unset, .unset, .unset] [(Value.int (3 : Int32)), (Value.ref b1), (Value.ref b1)])) rfl (hb hby at_25)
  refine own_st st12 ?_
  show own_G p e below s _ _ _ (T12.setTop (mkF m 28 #[.val (Value.int x0), .val (Value.int x1), .unset, .unset, .unset, .unset, .unset, .unset, .unset] [(Value.ref a_LESS_OR_EQUAL), (Value.int (3 : Int32)), (Value.ref b1), (Value.ref b1)]))
  obtain ⟨T13, h13, X13, e13, W13, A13, st13⟩ := own_aastore X12 hx hby hZ e12 A10 rfl (j := (3 : Int32)) (i := 3) (by decide) (by decide) (own_sto A10 V11_b1 (Ins.self (Exa.ext O11.2 En_LESS_OR_EQUAL.2.1))) at_28 (Ls := #[.val (Value.int x0), .val (Value.int x1), .unset, .unset, .unset, .unset, .unset, .unset, .unset]) (st := [(Value.ref b1)])
  have V14_b1 := own_Ov.wr V11_b1 W13
  have O14 := Old.wr O11 W13 g1n
  have N13 := Fr.snoc X13 N10 g1n
  refine own_st st13 ?_
  show own_G p e below s _ _ _ (T13.setTop (mkF m 29 #[.val (Value.int x0), .val (Value.int x1), .unset, .unset, .unset, .unset, .unset, .unset, .unset] [(Value.ref b1)]))
  refine own_dup X13 hx hby at_29 rfl ?_
  show own_G p e below s _ _ _ (T13.setTop (mkF m 30 #[.val (Value.int x0), .val (Value.int x1), .unset, .unset, .unset, .unset, .unset, .unset, .unset] [(Value.ref b1), (Value.ref b1)]))
  refine own_iconst X13 hx hby at_30 ?_
  show own_G p e below s _ _ _ (T13.setTop (mkF m 31 #[.val (Value.int x0), .val (Value.int x1), .unset, .unset, .unset, .unset, .unset, .unset, .unset] [(Value.int (4 : Int32)), (Value.ref b1), (Value.ref b1)]))
  obtain ⟨T15, X15, e15, st15⟩ := getS2 X13 hx hZ hown (host := "") (Or.inl (own_w12 hw)) Via.refl e13 (Sta.ext O14.2 En_GREATER.1) (g := (mkF m 31 #[.val (Value.int x0), .val (Value.int x1), .unset, .unset, .unset, .unset, .unset, .unset, .unset] [(Value.int (4 : Int32)), (Value.ref b1), (Value.ref b1)])) rfl (hb hby at_31)
  refine own_st st15 ?_
  show own_G p e below s _ _ _ (T15.setTop (mkF m 34 #[.val (Value.int x0), .val (Value.int x1), .unset, .unset, .unset, .unset, .unset, .unset, .unset] [(Value.ref a_GREATER), (Value.int (4 : Int32)), (Value.ref b1), (Value.ref b1)]))
  obtain ⟨T16, h16, X16, e16, W16, A16, st16⟩ := own_aastore X15 hx hby hZ e15 A13 rfl (j := (4 : Int32)) (i := 4) (by decide) (by decide) (own_sto A13 V14_b1 (Ins.self (Exa.ext O14.2 En_GREATER.2.1))) at_34 (Ls := #[.val (Value.int x0), .val (Value.int x1), .unset, .unset, .unset, .unset, .unset, .unset, .unset]) (st := [(Value.ref b1)])
  have V17_b1 := own_Ov.wr V14_b1 W16
  have O17 := Old.wr O14 W16 g1n
  have N16 := Fr.snoc X16 N13 g1n
  refine own_st st16 ?_
  show own_G p e below s _ _ _ (T16.setTop (mkF m 35 #[.val (Value.int x0), .val (Value.int x1), .unset, .unset, .unset, .unset, .unset, .unset, .unset] [(Value.ref b1)]))
  refine own_dup X16 hx hby at_35 rfl ?_
  show own_G p e below s _ _ _ (T16.setTop (mkF m 36 #[.val (Value.int x0), .val (Value.int x1), .unset, .unset, .unset, .unset, .unset, .unset, .unset] [(Value.ref b1), (Value.ref b1)]))
  refine own_iconst X16 hx hby at_36 ?_
  show own_G p e below s _ _ _ (T16.setTop (mkF m 37 #[.val (Value.int x0), .val (Value.int x1), .unset, .unset, .unset, .unset, .unset, .unset, .unset] [(Value.int (5 : Int32)), (Value.ref b1), (Value.ref b1)]))
  obtain ⟨T18, X18, e18, st18⟩ := getS2 X16 hx hZ hown (host := "") (Or.inl (own_w14 hw)) Via.refl e16 (Sta.ext O17.2 En_GREATER_OR_EQUAL.1) (g := (mkF m 37 #[.val (Value.int x0), .val (Value.int x1), .unset, .unset, .unset, .unset, .unset, .unset, .unset] [(Value.int (5 : Int32)), (Value.ref b1), (Value.ref b1)])) rfl (hb hby at_37)
  refine own_st st18 ?_
  show own_G p e below s _ _ _ (T18.setTop (mkF m 40 #[.val (Value.int x0), .val (Value.int x1), .unset, .unset, .unset, .unset, .unset, .unset, .unset] [(Value.ref a_GREATER_OR_EQUAL), (Value.int (5 : Int32)), (Value.ref b1), (Value.ref b1)]))
  obtain ⟨T19, h19, X19, e19, W19, A19, st19⟩ := own_aastore X18 hx hby hZ e18 A16 rfl (j := (5 : Int32)) (i := 5) (by decide) (by decide) (own_sto A16 V17_b1 (Ins.self (Exa.ext O17.2 En_GREATER_OR_EQUAL.2.1))) at_40 (Ls := #[.val (Value.int x0), .val (Value.int x1), .unset, .unset, .unset, .unset, .unset, .unset, .unset]) (st := [(Value.ref b1)])
  have V20_b1 := own_Ov.wr V17_b1 W19
  have O20 := Old.wr O17 W19 g1n
  have N19 := Fr.snoc X19 N16 g1n
  refine own_st st19 ?_
  show own_G p e below s _ _ _ (T19.setTop (mkF m 41 #[.val (Value.int x0), .val (Value.int x1), .unset, .unset, .unset, .unset, .unset, .unset, .unset] [(Value.ref b1)]))
  refine own_astoreN X19 hx hby at_41 rfl (l' := #[.val (Value.int x0), .val (Value.int x1), .val (Value.ref b1), .unset, .unset, .unset, .unset, .unset, .unset]) rfl ?_
  show own_G p e below s _ _ _ (T19.setTop (mkF m 42 #[.val (Value.int x0), .val (Value.int x1), .val (Value.ref b1), .unset, .unset, .unset, .unset, .unset, .unset] []))
  refine own_iloadN X19 hx hby at_42 rfl ?_
  show own_G p e below s _ _ _ (T19.setTop (mkF m 43 #[.val (Value.int x0), .val (Value.int x1), .val (Value.ref b1), .unset, .unset, .unset, .unset, .unset, .unset] [(Value.int x0)]))
  refine own_ldcI X19 hx hby hZ hown (own_w16 hw) at_43 ?_
  show own_G p e below s _ _ _ (T19.setTop (mkF m 45 #[.val (Value.int x0), .val (Value.int x1), .val (Value.ref b1), .unset, .unset, .unset, .unset, .unset, .unset] [(Value.int (2147483647 : Int32)), (Value.int x0)]))
  refine own_iand X19 hx hby at_45 ?_
  show own_G p e below s _ _ _ (T19.setTop (mkF m 46 #[.val (Value.int x0), .val (Value.int x1), .val (Value.ref b1), .unset, .unset, .unset, .unset, .unset, .unset] [(Value.int (x0 &&& (2147483647 : Int32)))]))
  refine own_bipush X19 hx hby at_46 ?_
  show own_G p e below s _ _ _ (T19.setTop (mkF m 48 #[.val (Value.int x0), .val (Value.int x1), .val (Value.ref b1), .unset, .unset, .unset, .unset, .unset, .unset] [(Value.int (6 : Int32)), (Value.int (x0 &&& (2147483647 : Int32)))]))
  refine own_irem X19 hx hby at_48 (by decide) ?_
  show own_G p e below s _ _ _ (T19.setTop (mkF m 49 #[.val (Value.int x0), .val (Value.int x1), .val (Value.ref b1), .unset, .unset, .unset, .unset, .unset, .unset] [(Value.int ((x0 &&& (2147483647 : Int32)) % (6 : Int32)))]))
  rcases own_mod6 x0 with hk | hk | hk | hk | hk | hk
  · rw [hk]
    show own_G p e below s _ _ _ (T19.setTop (mkF m 49 #[.val (Value.int x0), .val (Value.int x1), .val (Value.ref b1), .unset, .unset, .unset, .unset, .unset, .unset] [(Value.int (0 : Int32))]))
    refine own_istoreN X19 hx hby at_49 (l' := #[.val (Value.int x0), .val (Value.int x1), .val (Value.ref b1), .val (Value.int (0 : Int32)), .unset, .unset, .unset, .unset, .unset]) rfl ?_
    show own_G p e below s _ _ _ (T19.setTop (mkF m 50 #[.val (Value.int x0), .val (Value.int x1), .val (Value.ref b1), .val (Value.int (0 : Int32)), .unset, .unset, .unset, .unset, .unset] []))
    refine own_aloadN X19 hx hby at_50 rfl rfl ?_
    show own_G p e below s _ _ _ (T19.setTop (mkF m 51 #[.val (Value.int x0), .val (Value.int x1), .val (Value.ref b1), .val (Value.int (0 : Int32)), .unset, .unset, .unset, .unset, .unset] [(Value.ref b1)]))
    refine own_iloadN X19 hx hby at_51 rfl ?_
    show own_G p e below s _ _ _ (T19.setTop (mkF m 52 #[.val (Value.int x0), .val (Value.int x1), .val (Value.ref b1), .val (Value.int (0 : Int32)), .unset, .unset, .unset, .unset, .unset] [(Value.int (0 : Int32)), (Value.ref b1)]))
    refine own_aaload X19 hx hby hZ e19 A19 rfl (j := (0 : Int32)) (i := 0) (by decide) (by decide) at_52 ?_
    show own_G p e below s _ _ _ (T19.setTop (mkF m 53 #[.val (Value.int x0), .val (Value.int x1), .val (Value.ref b1), .val (Value.int (0 : Int32)), .unset, .unset, .unset, .unset, .unset] [(Value.ref a_EQUAL)]))
    refine own_astore X19 hx hby at_53 rfl (l' := #[.val (Value.int x0), .val (Value.int x1), .val (Value.ref b1), .val (Value.int (0 : Int32)), .val (Value.ref a_EQUAL), .unset, .unset, .unset, .unset]) rfl ?_
    show own_G p e below s _ _ _ (T19.setTop (mkF m 55 #[.val (Value.int x0), .val (Value.int x1), .val (Value.ref b1), .val (Value.int (0 : Int32)), .val (Value.ref a_EQUAL), .unset, .unset, .unset, .unset] []))
    refine own_iloadN X19 hx hby at_55 rfl ?_
    show own_G p e below s _ _ _ (T19.setTop (mkF m 56 #[.val (Value.int x0), .val (Value.int x1), .val (Value.ref b1), .val (Value.int (0 : Int32)), .val (Value.ref a_EQUAL), .unset, .unset, .unset, .unset] [(Value.int x1)]))
    refine own_ldcI X19 hx hby hZ hown (own_w16 hw) at_56 ?_
    show own_G p e below s _ _ _ (T19.setTop (mkF m 58 #[.val (Value.int x0), .val (Value.int x1), .val (Value.ref b1), .val (Value.int (0 : Int32)), .val (Value.ref a_EQUAL), .unset, .unset, .unset, .unset] [(Value.int (2147483647 : Int32)), (Value.int x1)]))
    refine own_iand X19 hx hby at_58 ?_
    show own_G p e below s _ _ _ (T19.setTop (mkF m 59 #[.val (Value.int x0), .val (Value.int x1), .val (Value.ref b1), .val (Value.int (0 : Int32)), .val (Value.ref a_EQUAL), .unset, .unset, .unset, .unset] [(Value.int (x1 &&& (2147483647 : Int32)))]))
    refine own_istore X19 hx hby at_59 (l' := #[.val (Value.int x0), .val (Value.int x1), .val (Value.ref b1), .val (Value.int (0 : Int32)), .val (Value.ref a_EQUAL), .val (Value.int (x1 &&& (2147483647 : Int32))), .unset, .unset, .unset]) rfl ?_
    show own_G p e below s _ _ _ (T19.setTop (mkF m 61 #[.val (Value.int x0), .val (Value.int x1), .val (Value.ref b1), .val (Value.int (0 : Int32)), .val (Value.ref a_EQUAL), .val (Value.int (x1 &&& (2147483647 : Int32))), .unset, .unset, .unset] []))
    refine own_iload X19 hx hby at_61 rfl ?_
    show own_G p e below s _ _ _ (T19.setTop (mkF m 63 #[.val (Value.int x0), .val (Value.int x1), .val (Value.ref b1), .val (Value.int (0 : Int32)), .val (Value.ref a_EQUAL), .val (Value.int (x1 &&& (2147483647 : Int32))), .unset, .unset, .unset] [(Value.int (x1 &&& (2147483647 : Int32)))]))
    refine own_if_ne X19 hx hby at_63 (pc' := 69) (by decide) (by decide) (fun hb21 => ?_) (fun hb21 => ?_)
    · show own_G p e below s _ _ _ (T19.setTop (mkF m 69 #[.val (Value.int x0), .val (Value.int x1), .val (Value.ref b1), .val (Value.int (0 : Int32)), .val (Value.ref a_EQUAL), .val (Value.int (x1 &&& (2147483647 : Int32))), .unset, .unset, .unset] []))
      refine own_iloadN X19 hx hby at_69 rfl ?_
      show own_G p e below s _ _ _ (T19.setTop (mkF m 70 #[.val (Value.int x0), .val (Value.int x1), .val (Value.ref b1), .val (Value.int (0 : Int32)), .val (Value.ref a_EQUAL), .val (Value.int (x1 &&& (2147483647 : Int32))), .unset, .unset, .unset] [(Value.int (0 : Int32))]))
      refine own_if_eq X19 hx hby at_70 (pc' := 83) (by decide) (by decide) (fun hb22 => ?_) (fun hb22 => by exfalso; revert hb22; decide)
      show own_G p e below s _ _ _ (T19.setTop (mkF m 83 #[.val (Value.int x0), .val (Value.int x1), .val (Value.ref b1), .val (Value.int (0 : Int32)), .val (Value.ref a_EQUAL), .val (Value.int (x1 &&& (2147483647 : Int32))), .unset, .unset, .unset] []))
      refine own_iconst X19 hx hby at_83 ?_
      show own_G p e below s _ _ _ (T19.setTop (mkF m 84 #[.val (Value.int x0), .val (Value.int x1), .val (Value.ref b1), .val (Value.int (0 : Int32)), .val (Value.ref a_EQUAL), .val (Value.int (x1 &&& (2147483647 : Int32))), .unset, .unset, .unset] [(Value.int (1 : Int32))]))
      refine own_goto X19 hx hby at_84 (pc' := 88) (by decide) (by decide) ?_
      show own_G p e below s _ _ _ (T19.setTop (mkF m 88 #[.val (Value.int x0), .val (Value.int x1), .val (Value.ref b1), .val (Value.int (0 : Int32)), .val (Value.ref a_EQUAL), .val (Value.int (x1 &&& (2147483647 : Int32))), .unset, .unset, .unset] [(Value.int (1 : Int32))]))
      refine own_istore X19 hx hby at_88 (l' := #[.val (Value.int x0), .val (Value.int x1), .val (Value.ref b1), .val (Value.int (0 : Int32)), .val (Value.ref a_EQUAL), .val (Value.int (x1 &&& (2147483647 : Int32))), .val (Value.int (1 : Int32)), .unset, .unset]) rfl ?_
      show own_G p e below s _ _ _ (T19.setTop (mkF m 90 #[.val (Value.int x0), .val (Value.int x1), .val (Value.ref b1), .val (Value.int (0 : Int32)), .val (Value.ref a_EQUAL), .val (Value.int (x1 &&& (2147483647 : Int32))), .val (Value.int (1 : Int32)), .unset, .unset] []))
      refine own_aload X19 hx hby at_90 rfl rfl ?_
      show own_G p e below s _ _ _ (T19.setTop (mkF m 92 #[.val (Value.int x0), .val (Value.int x1), .val (Value.ref b1), .val (Value.int (0 : Int32)), .val (Value.ref a_EQUAL), .val (Value.int (x1 &&& (2147483647 : Int32))), .val (Value.int (1 : Int32)), .unset, .unset] [(Value.ref a_EQUAL)]))
      obtain ⟨cq23, kq23, q23a, q23b, q23c⟩ := isOf (T := T19) hZ e19 (Exa.ext O20.2 En_EQUAL.2.1)
      obtain ⟨_, _, ⟨T23, L23, k23, n23⟩, -, X23, ⟨Lc23, hQ23, l23, y23, z23⟩, st23⟩ := X19.virtualBack hx (y := (⟨"com/example/gazetteer/gazetteer/partitions/Condition$Operator", "boundsAbove", "()Z"⟩ : MethodName)) (z := (⟨"com/example/gazetteer/gazetteer/partitions/Condition$Operator", "boundsAbove", "()Z"⟩ : MethodName)) hown (mvT hZ (own_w17 hw)) (mvT hZ (own_w18 hw)) (notFace_of_selects (args := #[]) (mvT hZ (own_w20 hw))) (mvT hZ (own_w20 hw)) (mvT hZ (own_w19 hw)) (by decide) (backOf (W := 0) (own_rm1 l Z a0 hw [] a_EQUAL a_EQUAL a_NOT_EQUAL a_LESS a_LESS_OR_EQUAL a_GREATER a_GREATER_OR_EQUAL h19 n0 O20  En_EQUAL En_NOT_EQUAL En_LESS En_LESS_OR_EQUAL En_GREATER En_GREATER_OR_EQUAL) hZ (own_w21 hw) (own_w3 hw) (by decide) (by decide)) q23a q23c (g := (mkF m 92 #[.val (Value.int x0), .val (Value.int x1), .val (Value.ref b1), .val (Value.int (0 : Int32)), .val (Value.ref a_EQUAL), .val (Value.int (x1 &&& (2147483647 : Int32))), .val (Value.int (1 : Int32)), .unset, .unset] [(Value.ref a_EQUAL)])) rfl (by rw [hml]; rfl) (Steps.refl _) (argsL := []) (rest := []) (lenOf own_pd1 rfl) rfl (by show 2 * 0 + _ ≤ _; exact Nat.le_of_eq rfl) (hb hby at_92) (fun _ _ => ⟨rfl, e19, (by decide : (1 : Nat) + 0 ≤ _), (by decide : (6 : Nat) + 0 ≤ _)⟩)
      dsimp only [Pt.U, Pt.locs, Pt.cells, Pt.slots] at X23 l23 y23 z23 st23 hQ23
      subst l23 y23 z23
      obtain ⟨rfl, e23, Nq23⟩ := hQ23
      have N23 := Fr.app N19 Nq23
      refine own_tr st23 ?_
      show own_G p e below s _ _ _ (T23.setTop (mkF m 95 #[.val (Value.int x0), .val (Value.int x1), .val (Value.ref b1), .val (Value.int (0 : Int32)), .val (Value.ref a_EQUAL), .val (Value.int (x1 &&& (2147483647 : Int32))), .val (Value.int (1 : Int32)), .unset, .unset] [(Value.int (own_inc a_EQUAL a_EQUAL a_LESS a_LESS_OR_EQUAL))]))
      rw [show ((own_inc a_EQUAL a_EQUAL a_LESS a_LESS_OR_EQUAL) : Int32) = (1 : Int32) from by simp [own_inc, own_ne_ref (Fld.ne En_EQUAL.2.2 En_LESS.2.2 (by decide)), own_ne_ref (Fld.ne En_EQUAL.2.2 En_LESS_OR_EQUAL.2.2 (by decide))]]
      refine own_istore X23 hx hby at_95 (l' := #[.val (Value.int x0), .val (Value.int x1), .val (Value.ref b1), .val (Value.int (0 : Int32)), .val (Value.ref a_EQUAL), .val (Value.int (x1 &&& (2147483647 : Int32))), .val (Value.int (1 : Int32)), .val (Value.int (1 : Int32)), .unset]) rfl ?_
      show own_G p e below s _ _ _ (T23.setTop (mkF m 97 #[.val (Value.int x0), .val (Value.int x1), .val (Value.ref b1), .val (Value.int (0 : Int32)), .val (Value.ref a_EQUAL), .val (Value.int (x1 &&& (2147483647 : Int32))), .val (Value.int (1 : Int32)), .val (Value.int (1 : Int32)), .unset] []))
      refine own_aload X23 hx hby at_97 rfl rfl ?_
      show own_G p e below s _ _ _ (T23.setTop (mkF m 99 #[.val (Value.int x0), .val (Value.int x1), .val (Value.ref b1), .val (Value.int (0 : Int32)), .val (Value.ref a_EQUAL), .val (Value.int (x1 &&& (2147483647 : Int32))), .val (Value.int (1 : Int32)), .val (Value.int (1 : Int32)), .unset] [(Value.ref a_EQUAL)]))
      refine own_iload X23 hx hby at_99 rfl ?_
      show own_G p e below s _ _ _ (T23.setTop (mkF m 101 #[.val (Value.int x0), .val (Value.int x1), .val (Value.ref b1), .val (Value.int (0 : Int32)), .val (Value.ref a_EQUAL), .val (Value.int (x1 &&& (2147483647 : Int32))), .val (Value.int (1 : Int32)), .val (Value.int (1 : Int32)), .unset] [(Value.int (x1 &&& (2147483647 : Int32))), (Value.ref a_EQUAL)]))
      obtain ⟨cq24, kq24, q24a, q24b, q24c⟩ := isOf (T := T23) hZ e23 (Exa.ext O20.2 En_EQUAL.2.1)
      obtain ⟨_, _, ⟨T24, L24, k24, n24⟩, -, X24, ⟨Lc24, hQ24, l24, y24, z24⟩, st24⟩ := X23.virtualBack hx (y := (⟨"com/example/gazetteer/gazetteer/partitions/Condition$Operator", "holds", "(I)Z"⟩ : MethodName)) (z := (⟨"com/example/gazetteer/gazetteer/partitions/Condition$Operator", "holds", "(I)Z"⟩ : MethodName)) hown (mvT hZ (own_w23 hw)) (mvT hZ (own_w24 hw)) (notFace_of_selects (args := #[]) (mvT hZ (own_w26 hw))) (mvT hZ (own_w26 hw)) (mvT hZ (own_w25 hw)) (by decide) (backOf (W := 0) (own_rm2 l Z a0 hw [] a_EQUAL (x1 &&& (2147483647 : Int32)) (0 : Int32) h19 n0 O20  (Exa.ext O20.2 En_EQUAL.2.1) (Fld.ext O20.2 En_EQUAL.2.2) (by decide)) hZ (own_w27 hw) (own_w3 hw) (by decide) (by decide)) q24a q24c (g := (mkF m 101 #[.val (Value.int x0), .val (Value.int x1), .val (Value.ref b1), .val (Value.int (0 : Int32)), .val (Value.ref a_EQUAL), .val (Value.int (x1 &&& (2147483647 : Int32))), .val (Value.int (1 : Int32)), .val (Value.int (1 : Int32)), .unset] [(Value.int (x1 &&& (2147483647 : Int32))), (Value.ref a_EQUAL)])) rfl (by rw [hml]; rfl) (Steps.refl _) (argsL := [(Value.int (x1 &&& (2147483647 : Int32)))]) (rest := []) (lenOf own_pd2 rfl) rfl (by show 2 * 0 + _ ≤ _; exact Nat.le_of_eq rfl) (hb hby at_101) (fun _ _ => ⟨rfl, e23, (by decide : (1 : Nat) + 0 ≤ _), (by decide : (6 : Nat) + 0 ≤ _)⟩)
      dsimp only [Pt.U, Pt.locs, Pt.cells, Pt.slots] at X24 l24 y24 z24 st24 hQ24
      subst l24 y24 z24
      obtain ⟨rfl, e24, Nq24⟩ := hQ24
      have N24 := Fr.app N23 Nq24
      refine own_tr st24 ?_
      show own_G p e below s _ _ _ (T24.setTop (mkF m 104 #[.val (Value.int x0), .val (Value.int x1), .val (Value.ref b1), .val (Value.int (0 : Int32)), .val (Value.ref a_EQUAL), .val (Value.int (x1 &&& (2147483647 : Int32))), .val (Value.int (1 : Int32)), .val (Value.int (1 : Int32)), .unset] [(Value.int (own_holds (0 : Int32) (x1 &&& (2147483647 : Int32))))]))
      rw [show ((own_holds (0 : Int32) (x1 &&& (2147483647 : Int32))) : Int32) = (0 : Int32) from (own_holds_pos (own_posAnd hb21)).1]
      refine own_istore X24 hx hby at_104 (l' := #[.val (Value.int x0), .val (Value.int x1), .val (Value.ref b1), .val (Value.int (0 : Int32)), .val (Value.ref a_EQUAL), .val (Value.int (x1 &&& (2147483647 : Int32))), .val (Value.int (1 : Int32)), .val (Value.int (1 : Int32)), .val (Value.int (0 : Int32))]) rfl ?_
      show own_G p e below s _ _ _ (T24.setTop (mkF m 106 #[.val (Value.int x0), .val (Value.int x1), .val (Value.ref b1), .val (Value.int (0 : Int32)), .val (Value.ref a_EQUAL), .val (Value.int (x1 &&& (2147483647 : Int32))), .val (Value.int (1 : Int32)), .val (Value.int (1 : Int32)), .val (Value.int (0 : Int32))] []))
      refine own_iload X24 hx hby at_106 rfl ?_
      show own_G p e below s _ _ _ (T24.setTop (mkF m 108 #[.val (Value.int x0), .val (Value.int x1), .val (Value.ref b1), .val (Value.int (0 : Int32)), .val (Value.ref a_EQUAL), .val (Value.int (x1 &&& (2147483647 : Int32))), .val (Value.int (1 : Int32)), .val (Value.int (1 : Int32)), .val (Value.int (0 : Int32))] [(Value.int (1 : Int32))]))
      refine own_iload X24 hx hby at_108 rfl ?_
      show own_G p e below s _ _ _ (T24.setTop (mkF m 110 #[.val (Value.int x0), .val (Value.int x1), .val (Value.ref b1), .val (Value.int (0 : Int32)), .val (Value.ref a_EQUAL), .val (Value.int (x1 &&& (2147483647 : Int32))), .val (Value.int (1 : Int32)), .val (Value.int (1 : Int32)), .val (Value.int (0 : Int32))] [(Value.int (1 : Int32)), (Value.int (1 : Int32))]))
      refine own_icmp_ne X24 hx hby at_110 (pc' := 132) (by decide) (by decide) (fun hb25 => by exfalso; revert hb25; decide) (fun hb25 => ?_)
      show own_G p e below s _ _ _ (T24.setTop (mkF m 113 #[.val (Value.int x0), .val (Value.int x1), .val (Value.ref b1), .val (Value.int (0 : Int32)), .val (Value.ref a_EQUAL), .val (Value.int (x1 &&& (2147483647 : Int32))), .val (Value.int (1 : Int32)), .val (Value.int (1 : Int32)), .val (Value.int (0 : Int32))] []))
      refine own_iload X24 hx hby at_113 rfl ?_
      show own_G p e below s _ _ _ (T24.setTop (mkF m 115 #[.val (Value.int x0), .val (Value.int x1), .val (Value.ref b1), .val (Value.int (0 : Int32)), .val (Value.ref a_EQUAL), .val (Value.int (x1 &&& (2147483647 : Int32))), .val (Value.int (1 : Int32)), .val (Value.int (1 : Int32)), .val (Value.int (0 : Int32))] [(Value.int (1 : Int32))]))
      refine own_iload X24 hx hby at_115 rfl ?_
      show own_G p e below s _ _ _ (T24.setTop (mkF m 117 #[.val (Value.int x0), .val (Value.int x1), .val (Value.ref b1), .val (Value.int (0 : Int32)), .val (Value.ref a_EQUAL), .val (Value.int (x1 &&& (2147483647 : Int32))), .val (Value.int (1 : Int32)), .val (Value.int (1 : Int32)), .val (Value.int (0 : Int32))] [(Value.int (0 : Int32)), (Value.int (1 : Int32))]))
      refine own_if_ne X24 hx hby at_117 (pc' := 124) (by decide) (by decide) (fun hb26 => by exfalso; revert hb26; decide) (fun hb26 => ?_)
      show own_G p e below s _ _ _ (T24.setTop (mkF m 120 #[.val (Value.int x0), .val (Value.int x1), .val (Value.ref b1), .val (Value.int (0 : Int32)), .val (Value.ref a_EQUAL), .val (Value.int (x1 &&& (2147483647 : Int32))), .val (Value.int (1 : Int32)), .val (Value.int (1 : Int32)), .val (Value.int (0 : Int32))] [(Value.int (1 : Int32))]))
      refine own_iconst X24 hx hby at_120 ?_
      show own_G p e below s _ _ _ (T24.setTop (mkF m 121 #[.val (Value.int x0), .val (Value.int x1), .val (Value.ref b1), .val (Value.int (0 : Int32)), .val (Value.ref a_EQUAL), .val (Value.int (x1 &&& (2147483647 : Int32))), .val (Value.int (1 : Int32)), .val (Value.int (1 : Int32)), .val (Value.int (0 : Int32))] [(Value.int (1 : Int32)), (Value.int (1 : Int32))]))
      refine own_goto X24 hx hby at_121 (pc' := 125) (by decide) (by decide) ?_
      show own_G p e below s _ _ _ (T24.setTop (mkF m 125 #[.val (Value.int x0), .val (Value.int x1), .val (Value.ref b1), .val (Value.int (0 : Int32)), .val (Value.ref a_EQUAL), .val (Value.int (x1 &&& (2147483647 : Int32))), .val (Value.int (1 : Int32)), .val (Value.int (1 : Int32)), .val (Value.int (0 : Int32))] [(Value.int (1 : Int32)), (Value.int (1 : Int32))]))
      refine own_icmp_ne X24 hx hby at_125 (pc' := 132) (by decide) (by decide) (fun hb27 => by exfalso; revert hb27; decide) (fun hb27 => ?_)
      show own_G p e below s _ _ _ (T24.setTop (mkF m 128 #[.val (Value.int x0), .val (Value.int x1), .val (Value.ref b1), .val (Value.int (0 : Int32)), .val (Value.ref a_EQUAL), .val (Value.int (x1 &&& (2147483647 : Int32))), .val (Value.int (1 : Int32)), .val (Value.int (1 : Int32)), .val (Value.int (0 : Int32))] []))
      refine own_iconst X24 hx hby at_128 ?_
      show own_G p e below s _ _ _ (T24.setTop (mkF m 129 #[.val (Value.int x0), .val (Value.int x1), .val (Value.ref b1), .val (Value.int (0 : Int32)), .val (Value.ref a_EQUAL), .val (Value.int (x1 &&& (2147483647 : Int32))), .val (Value.int (1 : Int32)), .val (Value.int (1 : Int32)), .val (Value.int (0 : Int32))] [(Value.int (1 : Int32))]))
      refine own_goto X24 hx hby at_129 (pc' := 133) (by decide) (by decide) ?_
      show own_G p e below s _ _ _ (T24.setTop (mkF m 133 #[.val (Value.int x0), .val (Value.int x1), .val (Value.ref b1), .val (Value.int (0 : Int32)), .val (Value.ref a_EQUAL), .val (Value.int (x1 &&& (2147483647 : Int32))), .val (Value.int (1 : Int32)), .val (Value.int (1 : Int32)), .val (Value.int (0 : Int32))] [(Value.int (1 : Int32))]))
      refine own_retN X24 hx hby hlk (t := .boolean) Bd.returns (by simp) at_133 (by decide) (by decide) ?_
      exact ⟨rfl, N24⟩
    · show own_G p e below s _ _ _ (T19.setTop (mkF m 66 #[.val (Value.int x0), .val (Value.int x1), .val (Value.ref b1), .val (Value.int (0 : Int32)), .val (Value.ref a_EQUAL), .val (Value.int (x1 &&& (2147483647 : Int32))), .unset, .unset, .unset] []))
      refine own_iconst X19 hx hby at_66 ?_
      show own_G p e below s _ _ _ (T19.setTop (mkF m 67 #[.val (Value.int x0), .val (Value.int x1), .val (Value.ref b1), .val (Value.int (0 : Int32)), .val (Value.ref a_EQUAL), .val (Value.int (x1 &&& (2147483647 : Int32))), .unset, .unset, .unset] [(Value.int (1 : Int32))]))
      refine own_istore X19 hx hby at_67 (l' := #[.val (Value.int x0), .val (Value.int x1), .val (Value.ref b1), .val (Value.int (0 : Int32)), .val (Value.ref a_EQUAL), .val (Value.int (1 : Int32)), .unset, .unset, .unset]) rfl ?_
      show own_G p e below s _ _ _ (T19.setTop (mkF m 69 #[.val (Value.int x0), .val (Value.int x1), .val (Value.ref b1), .val (Value.int (0 : Int32)), .val (Value.ref a_EQUAL), .val (Value.int (1 : Int32)), .unset, .unset, .unset] []))
      refine own_iloadN X19 hx hby at_69 rfl ?_
      show own_G p e below s _ _ _ (T19.setTop (mkF m 70 #[.val (Value.int x0), .val (Value.int x1), .val (Value.ref b1), .val (Value.int (0 : Int32)), .val (Value.ref a_EQUAL), .val (Value.int (1 : Int32)), .unset, .unset, .unset] [(Value.int (0 : Int32))]))
      refine own_if_eq X19 hx hby at_70 (pc' := 83) (by decide) (by decide) (fun hb28 => ?_) (fun hb28 => by exfalso; revert hb28; decide)
      show own_G p e below s _ _ _ (T19.setTop (mkF m 83 #[.val (Value.int x0), .val (Value.int x1), .val (Value.ref b1), .val (Value.int (0 : Int32)), .val (Value.ref a_EQUAL), .val (Value.int (1 : Int32)), .unset, .unset, .unset] []))
      refine own_iconst X19 hx hby at_83 ?_
      show own_G p e below s _ _ _ (T19.setTop (mkF m 84 #[.val (Value.int x0), .val (Value.int x1), .val (Value.ref b1), .val (Value.int (0 : Int32)), .val (Value.ref a_EQUAL), .val (Value.int (1 : Int32)), .unset, .unset, .unset] [(Value.int (1 : Int32))]))
      refine own_goto X19 hx hby at_84 (pc' := 88) (by decide) (by decide) ?_
      show own_G p e below s _ _ _ (T19.setTop (mkF m 88 #[.val (Value.int x0), .val (Value.int x1), .val (Value.ref b1), .val (Value.int (0 : Int32)), .val (Value.ref a_EQUAL), .val (Value.int (1 : Int32)), .unset, .unset, .unset] [(Value.int (1 : Int32))]))
      refine own_istore X19 hx hby at_88 (l' := #[.val (Value.int x0), .val (Value.int x1), .val (Value.ref b1), .val (Value.int (0 : Int32)), .val (Value.ref a_EQUAL), .val (Value.int (1 : Int32)), .val (Value.int (1 : Int32)), .unset, .unset]) rfl ?_
      show own_G p e below s _ _ _ (T19.setTop (mkF m 90 #[.val (Value.int x0), .val (Value.int x1), .val (Value.ref b1), .val (Value.int (0 : Int32)), .val (Value.ref a_EQUAL), .val (Value.int (1 : Int32)), .val (Value.int (1 : Int32)), .unset, .unset] []))
      refine own_aload X19 hx hby at_90 rfl rfl ?_
      show own_G p e below s _ _ _ (T19.setTop (mkF m 92 #[.val (Value.int x0), .val (Value.int x1), .val (Value.ref b1), .val (Value.int (0 : Int32)), .val (Value.ref a_EQUAL), .val (Value.int (1 : Int32)), .val (Value.int (1 : Int32)), .unset, .unset] [(Value.ref a_EQUAL)]))
      obtain ⟨cq29, kq29, q29a, q29b, q29c⟩ := isOf (T := T19) hZ e19 (Exa.ext O20.2 En_EQUAL.2.1)
      obtain ⟨_, _, ⟨T29, L29, k29, n29⟩, -, X29, ⟨Lc29, hQ29, l29, y29, z29⟩, st29⟩ := X19.virtualBack hx (y := (⟨"com/example/gazetteer/gazetteer/partitions/Condition$Operator", "boundsAbove", "()Z"⟩ : MethodName)) (z := (⟨"com/example/gazetteer/gazetteer/partitions/Condition$Operator", "boundsAbove", "()Z"⟩ : MethodName)) hown (mvT hZ (own_w17 hw)) (mvT hZ (own_w18 hw)) (notFace_of_selects (args := #[]) (mvT hZ (own_w20 hw))) (mvT hZ (own_w20 hw)) (mvT hZ (own_w19 hw)) (by decide) (backOf (W := 0) (own_rm1 l Z a0 hw [] a_EQUAL a_EQUAL a_NOT_EQUAL a_LESS a_LESS_OR_EQUAL a_GREATER a_GREATER_OR_EQUAL h19 n0 O20  En_EQUAL En_NOT_EQUAL En_LESS En_LESS_OR_EQUAL En_GREATER En_GREATER_OR_EQUAL) hZ (own_w21 hw) (own_w3 hw) (by decide) (by decide)) q29a q29c (g := (mkF m 92 #[.val (Value.int x0), .val (Value.int x1), .val (Value.ref b1), .val (Value.int (0 : Int32)), .val (Value.ref a_EQUAL), .val (Value.int (1 : Int32)), .val (Value.int (1 : Int32)), .unset, .unset] [(Value.ref a_EQUAL)])) rfl (by rw [hml]; rfl) (Steps.refl _) (argsL := []) (rest := []) (lenOf own_pd1 rfl) rfl (by show 2 * 0 + _ ≤ _; exact Nat.le_of_eq rfl) (hb hby at_92) (fun _ _ => ⟨rfl, e19, (by decide : (1 : Nat) + 0 ≤ _), (by decide : (6 : Nat) + 0 ≤ _)⟩)
      dsimp only [Pt.U, Pt.locs, Pt.cells, Pt.slots] at X29 l29 y29 z29 st29 hQ29
      subst l29 y29 z29
      obtain ⟨rfl, e29, Nq29⟩ := hQ29
      have N29 := Fr.app N19 Nq29
      refine own_tr st29 ?_
      show own_G p e below s _ _ _ (T29.setTop (mkF m 95 #[.val (Value.int x0), .val (Value.int x1), .val (Value.ref b1), .val (Value.int (0 : Int32)), .val (Value.ref a_EQUAL), .val (Value.int (1 : Int32)), .val (Value.int (1 : Int32)), .unset, .unset] [(Value.int (own_inc a_EQUAL a_EQUAL a_LESS a_LESS_OR_EQUAL))]))
      rw [show ((own_inc a_EQUAL a_EQUAL a_LESS a_LESS_OR_EQUAL) : Int32) = (1 : Int32) from by simp [own_inc, own_ne_ref (Fld.ne En_EQUAL.2.2 En_LESS.2.2 (by decide)), own_ne_ref (Fld.ne En_EQUAL.2.2 En_LESS_OR_EQUAL.2.2 (by decide))]]
      refine own_istore X29 hx hby at_95 (l' := #[.val (Value.int x0), .val (Value.int x1), .val (Value.ref b1), .val (Value.int (0 : Int32)), .val (Value.ref a_EQUAL), .val (Value.int (1 : Int32)), .val (Value.int (1 : Int32)), .val (Value.int (1 : Int32)), .unset]) rfl ?_
      show own_G p e below s _ _ _ (T29.setTop (mkF m 97 #[.val (Value.int x0), .val (Value.int x1), .val (Value.ref b1), .val (Value.int (0 : Int32)), .val (Value.ref a_EQUAL), .val (Value.int (1 : Int32)), .val (Value.int (1 : Int32)), .val (Value.int (1 : Int32)), .unset] []))
      refine own_aload X29 hx hby at_97 rfl rfl ?_
      show own_G p e below s _ _ _ (T29.setTop (mkF m 99 #[.val (Value.int x0), .val (Value.int x1), .val (Value.ref b1), .val (Value.int (0 : Int32)), .val (Value.ref a_EQUAL), .val (Value.int (1 : Int32)), .val (Value.int (1 : Int32)), .val (Value.int (1 : Int32)), .unset] [(Value.ref a_EQUAL)]))
      refine own_iload X29 hx hby at_99 rfl ?_
      show own_G p e below s _ _ _ (T29.setTop (mkF m 101 #[.val (Value.int x0), .val (Value.int x1), .val (Value.ref b1), .val (Value.int (0 : Int32)), .val (Value.ref a_EQUAL), .val (Value.int (1 : Int32)), .val (Value.int (1 : Int32)), .val (Value.int (1 : Int32)), .unset] [(Value.int (1 : Int32)), (Value.ref a_EQUAL)]))
      obtain ⟨cq30, kq30, q30a, q30b, q30c⟩ := isOf (T := T29) hZ e29 (Exa.ext O20.2 En_EQUAL.2.1)
      obtain ⟨_, _, ⟨T30, L30, k30, n30⟩, -, X30, ⟨Lc30, hQ30, l30, y30, z30⟩, st30⟩ := X29.virtualBack hx (y := (⟨"com/example/gazetteer/gazetteer/partitions/Condition$Operator", "holds", "(I)Z"⟩ : MethodName)) (z := (⟨"com/example/gazetteer/gazetteer/partitions/Condition$Operator", "holds", "(I)Z"⟩ : MethodName)) hown (mvT hZ (own_w23 hw)) (mvT hZ (own_w24 hw)) (notFace_of_selects (args := #[]) (mvT hZ (own_w26 hw))) (mvT hZ (own_w26 hw)) (mvT hZ (own_w25 hw)) (by decide) (backOf (W := 0) (own_rm2 l Z a0 hw [] a_EQUAL (1 : Int32) (0 : Int32) h19 n0 O20  (Exa.ext O20.2 En_EQUAL.2.1) (Fld.ext O20.2 En_EQUAL.2.2) (by decide)) hZ (own_w27 hw) (own_w3 hw) (by decide) (by decide)) q30a q30c (g := (mkF m 101 #[.val (Value.int x0), .val (Value.int x1), .val (Value.ref b1), .val (Value.int (0 : Int32)), .val (Value.ref a_EQUAL), .val (Value.int (1 : Int32)), .val (Value.int (1 : Int32)), .val (Value.int (1 : Int32)), .unset] [(Value.int (1 : Int32)), (Value.ref a_EQUAL)])) rfl (by rw [hml]; rfl) (Steps.refl _) (argsL := [(Value.int (1 : Int32))]) (rest := []) (lenOf own_pd2 rfl) rfl (by show 2 * 0 + _ ≤ _; exact Nat.le_of_eq rfl) (hb hby at_101) (fun _ _ => ⟨rfl, e29, (by decide : (1 : Nat) + 0 ≤ _), (by decide : (6 : Nat) + 0 ≤ _)⟩)
      dsimp only [Pt.U, Pt.locs, Pt.cells, Pt.slots] at X30 l30 y30 z30 st30 hQ30
      subst l30 y30 z30
      obtain ⟨rfl, e30, Nq30⟩ := hQ30
      have N30 := Fr.app N29 Nq30
      refine own_tr st30 ?_
      show own_G p e below s _ _ _ (T30.setTop (mkF m 104 #[.val (Value.int x0), .val (Value.int x1), .val (Value.ref b1), .val (Value.int (0 : Int32)), .val (Value.ref a_EQUAL), .val (Value.int (1 : Int32)), .val (Value.int (1 : Int32)), .val (Value.int (1 : Int32)), .unset] [(Value.int (own_holds (0 : Int32) (1 : Int32)))]))
      rw [show ((own_holds (0 : Int32) (1 : Int32)) : Int32) = (0 : Int32) from (own_holds_pos (by decide)).1]
      refine own_istore X30 hx hby at_104 (l' := #[.val (Value.int x0), .val (Value.int x1), .val (Value.ref b1), .val (Value.int (0 : Int32)), .val (Value.ref a_EQUAL), .val (Value.int (1 : Int32)), .val (Value.int (1 : Int32)), .val (Value.int (1 : Int32)), .val (Value.int (0 : Int32))]) rfl ?_
      show own_G p e below s _ _ _ (T30.setTop (mkF m 106 #[.val (Value.int x0), .val (Value.int x1), .val (Value.ref b1), .val (Value.int (0 : Int32)), .val (Value.ref a_EQUAL), .val (Value.int (1 : Int32)), .val (Value.int (1 : Int32)), .val (Value.int (1 : Int32)), .val (Value.int (0 : Int32))] []))
      refine own_iload X30 hx hby at_106 rfl ?_
      show own_G p e below s _ _ _ (T30.setTop (mkF m 108 #[.val (Value.int x0), .val (Value.int x1), .val (Value.ref b1), .val (Value.int (0 : Int32)), .val (Value.ref a_EQUAL), .val (Value.int (1 : Int32)), .val (Value.int (1 : Int32)), .val (Value.int (1 : Int32)), .val (Value.int (0 : Int32))] [(Value.int (1 : Int32))]))
      refine own_iload X30 hx hby at_108 rfl ?_
      show own_G p e below s _ _ _ (T30.setTop (mkF m 110 #[.val (Value.int x0), .val (Value.int x1), .val (Value.ref b1), .val (Value.int (0 : Int32)), .val (Value.ref a_EQUAL), .val (Value.int (1 : Int32)), .val (Value.int (1 : Int32)), .val (Value.int (1 : Int32)), .val (Value.int (0 : Int32))] [(Value.int (1 : Int32)), (Value.int (1 : Int32))]))
      refine own_icmp_ne X30 hx hby at_110 (pc' := 132) (by decide) (by decide) (fun hb31 => by exfalso; revert hb31; decide) (fun hb31 => ?_)
      show own_G p e below s _ _ _ (T30.setTop (mkF m 113 #[.val (Value.int x0), .val (Value.int x1), .val (Value.ref b1), .val (Value.int (0 : Int32)), .val (Value.ref a_EQUAL), .val (Value.int (1 : Int32)), .val (Value.int (1 : Int32)), .val (Value.int (1 : Int32)), .val (Value.int (0 : Int32))] []))
      refine own_iload X30 hx hby at_113 rfl ?_
      show own_G p e below s _ _ _ (T30.setTop (mkF m 115 #[.val (Value.int x0), .val (Value.int x1), .val (Value.ref b1), .val (Value.int (0 : Int32)), .val (Value.ref a_EQUAL), .val (Value.int (1 : Int32)), .val (Value.int (1 : Int32)), .val (Value.int (1 : Int32)), .val (Value.int (0 : Int32))] [(Value.int (1 : Int32))]))
      refine own_iload X30 hx hby at_115 rfl ?_
      show own_G p e below s _ _ _ (T30.setTop (mkF m 117 #[.val (Value.int x0), .val (Value.int x1), .val (Value.ref b1), .val (Value.int (0 : Int32)), .val (Value.ref a_EQUAL), .val (Value.int (1 : Int32)), .val (Value.int (1 : Int32)), .val (Value.int (1 : Int32)), .val (Value.int (0 : Int32))] [(Value.int (0 : Int32)), (Value.int (1 : Int32))]))
      refine own_if_ne X30 hx hby at_117 (pc' := 124) (by decide) (by decide) (fun hb32 => by exfalso; revert hb32; decide) (fun hb32 => ?_)
      show own_G p e below s _ _ _ (T30.setTop (mkF m 120 #[.val (Value.int x0), .val (Value.int x1), .val (Value.ref b1), .val (Value.int (0 : Int32)), .val (Value.ref a_EQUAL), .val (Value.int (1 : Int32)), .val (Value.int (1 : Int32)), .val (Value.int (1 : Int32)), .val (Value.int (0 : Int32))] [(Value.int (1 : Int32))]))
      refine own_iconst X30 hx hby at_120 ?_
      show own_G p e below s _ _ _ (T30.setTop (mkF m 121 #[.val (Value.int x0), .val (Value.int x1), .val (Value.ref b1), .val (Value.int (0 : Int32)), .val (Value.ref a_EQUAL), .val (Value.int (1 : Int32)), .val (Value.int (1 : Int32)), .val (Value.int (1 : Int32)), .val (Value.int (0 : Int32))] [(Value.int (1 : Int32)), (Value.int (1 : Int32))]))
      refine own_goto X30 hx hby at_121 (pc' := 125) (by decide) (by decide) ?_
      show own_G p e below s _ _ _ (T30.setTop (mkF m 125 #[.val (Value.int x0), .val (Value.int x1), .val (Value.ref b1), .val (Value.int (0 : Int32)), .val (Value.ref a_EQUAL), .val (Value.int (1 : Int32)), .val (Value.int (1 : Int32)), .val (Value.int (1 : Int32)), .val (Value.int (0 : Int32))] [(Value.int (1 : Int32)), (Value.int (1 : Int32))]))
      refine own_icmp_ne X30 hx hby at_125 (pc' := 132) (by decide) (by decide) (fun hb33 => by exfalso; revert hb33; decide) (fun hb33 => ?_)
      show own_G p e below s _ _ _ (T30.setTop (mkF m 128 #[.val (Value.int x0), .val (Value.int x1), .val (Value.ref b1), .val (Value.int (0 : Int32)), .val (Value.ref a_EQUAL), .val (Value.int (1 : Int32)), .val (Value.int (1 : Int32)), .val (Value.int (1 : Int32)), .val (Value.int (0 : Int32))] []))
      refine own_iconst X30 hx hby at_128 ?_
      show own_G p e below s _ _ _ (T30.setTop (mkF m 129 #[.val (Value.int x0), .val (Value.int x1), .val (Value.ref b1), .val (Value.int (0 : Int32)), .val (Value.ref a_EQUAL), .val (Value.int (1 : Int32)), .val (Value.int (1 : Int32)), .val (Value.int (1 : Int32)), .val (Value.int (0 : Int32))] [(Value.int (1 : Int32))]))
      refine own_goto X30 hx hby at_129 (pc' := 133) (by decide) (by decide) ?_
      show own_G p e below s _ _ _ (T30.setTop (mkF m 133 #[.val (Value.int x0), .val (Value.int x1), .val (Value.ref b1), .val (Value.int (0 : Int32)), .val (Value.ref a_EQUAL), .val (Value.int (1 : Int32)), .val (Value.int (1 : Int32)), .val (Value.int (1 : Int32)), .val (Value.int (0 : Int32))] [(Value.int (1 : Int32))]))
      refine own_retN X30 hx hby hlk (t := .boolean) Bd.returns (by simp) at_133 (by decide) (by decide) ?_
      exact ⟨rfl, N30⟩
  · rw [hk]
    show own_G p e below s _ _ _ (T19.setTop (mkF m 49 #[.val (Value.int x0), .val (Value.int x1), .val (Value.ref b1), .unset, .unset, .unset, .unset, .unset, .unset] [(Value.int (1 : Int32))]))
    refine own_istoreN X19 hx hby at_49 (l' := #[.val (Value.int x0), .val (Value.int x1), .val (Value.ref b1), .val (Value.int (1 : Int32)), .unset, .unset, .unset, .unset, .unset]) rfl ?_
    show own_G p e below s _ _ _ (T19.setTop (mkF m 50 #[.val (Value.int x0), .val (Value.int x1), .val (Value.ref b1), .val (Value.int (1 : Int32)), .unset, .unset, .unset, .unset, .unset] []))
    refine own_aloadN X19 hx hby at_50 rfl rfl ?_
    show own_G p e below s _ _ _ (T19.setTop (mkF m 51 #[.val (Value.int x0), .val (Value.int x1), .val (Value.ref b1), .val (Value.int (1 : Int32)), .unset, .unset, .unset, .unset, .unset] [(Value.ref b1)]))
    refine own_iloadN X19 hx hby at_51 rfl ?_
    show own_G p e below s _ _ _ (T19.setTop (mkF m 52 #[.val (Value.int x0), .val (Value.int x1), .val (Value.ref b1), .val (Value.int (1 : Int32)), .unset, .unset, .unset, .unset, .unset] [(Value.int (1 : Int32)), (Value.ref b1)]))
    refine own_aaload X19 hx hby hZ e19 A19 rfl (j := (1 : Int32)) (i := 1) (by decide) (by decide) at_52 ?_
    show own_G p e below s _ _ _ (T19.setTop (mkF m 53 #[.val (Value.int x0), .val (Value.int x1), .val (Value.ref b1), .val (Value.int (1 : Int32)), .unset, .unset, .unset, .unset, .unset] [(Value.ref a_NOT_EQUAL)]))
    refine own_astore X19 hx hby at_53 rfl (l' := #[.val (Value.int x0), .val (Value.int x1), .val (Value.ref b1), .val (Value.int (1 : Int32)), .val (Value.ref a_NOT_EQUAL), .unset, .unset, .unset, .unset]) rfl ?_
    show own_G p e below s _ _ _ (T19.setTop (mkF m 55 #[.val (Value.int x0), .val (Value.int x1), .val (Value.ref b1), .val (Value.int (1 : Int32)), .val (Value.ref a_NOT_EQUAL), .unset, .unset, .unset, .unset] []))
    refine own_iloadN X19 hx hby at_55 rfl ?_
    show own_G p e below s _ _ _ (T19.setTop (mkF m 56 #[.val (Value.int x0), .val (Value.int x1), .val (Value.ref b1), .val (Value.int (1 : Int32)), .val (Value.ref a_NOT_EQUAL), .unset, .unset, .unset, .unset] [(Value.int x1)]))
    refine own_ldcI X19 hx hby hZ hown (own_w16 hw) at_56 ?_
    show own_G p e below s _ _ _ (T19.setTop (mkF m 58 #[.val (Value.int x0), .val (Value.int x1), .val (Value.ref b1), .val (Value.int (1 : Int32)), .val (Value.ref a_NOT_EQUAL), .unset, .unset, .unset, .unset] [(Value.int (2147483647 : Int32)), (Value.int x1)]))
    refine own_iand X19 hx hby at_58 ?_
    show own_G p e below s _ _ _ (T19.setTop (mkF m 59 #[.val (Value.int x0), .val (Value.int x1), .val (Value.ref b1), .val (Value.int (1 : Int32)), .val (Value.ref a_NOT_EQUAL), .unset, .unset, .unset, .unset] [(Value.int (x1 &&& (2147483647 : Int32)))]))
    refine own_istore X19 hx hby at_59 (l' := #[.val (Value.int x0), .val (Value.int x1), .val (Value.ref b1), .val (Value.int (1 : Int32)), .val (Value.ref a_NOT_EQUAL), .val (Value.int (x1 &&& (2147483647 : Int32))), .unset, .unset, .unset]) rfl ?_
    show own_G p e below s _ _ _ (T19.setTop (mkF m 61 #[.val (Value.int x0), .val (Value.int x1), .val (Value.ref b1), .val (Value.int (1 : Int32)), .val (Value.ref a_NOT_EQUAL), .val (Value.int (x1 &&& (2147483647 : Int32))), .unset, .unset, .unset] []))
    refine own_iload X19 hx hby at_61 rfl ?_
    show own_G p e below s _ _ _ (T19.setTop (mkF m 63 #[.val (Value.int x0), .val (Value.int x1), .val (Value.ref b1), .val (Value.int (1 : Int32)), .val (Value.ref a_NOT_EQUAL), .val (Value.int (x1 &&& (2147483647 : Int32))), .unset, .unset, .unset] [(Value.int (x1 &&& (2147483647 : Int32)))]))
    refine own_if_ne X19 hx hby at_63 (pc' := 69) (by decide) (by decide) (fun hb34 => ?_) (fun hb34 => ?_)
    · show own_G p e below s _ _ _ (T19.setTop (mkF m 69 #[.val (Value.int x0), .val (Value.int x1), .val (Value.ref b1), .val (Value.int (1 : Int32)), .val (Value.ref a_NOT_EQUAL), .val (Value.int (x1 &&& (2147483647 : Int32))), .unset, .unset, .unset] []))
      refine own_iloadN X19 hx hby at_69 rfl ?_
      show own_G p e below s _ _ _ (T19.setTop (mkF m 70 #[.val (Value.int x0), .val (Value.int x1), .val (Value.ref b1), .val (Value.int (1 : Int32)), .val (Value.ref a_NOT_EQUAL), .val (Value.int (x1 &&& (2147483647 : Int32))), .unset, .unset, .unset] [(Value.int (1 : Int32))]))
      refine own_if_eq X19 hx hby at_70 (pc' := 83) (by decide) (by decide) (fun hb35 => by exfalso; revert hb35; decide) (fun hb35 => ?_)
      show own_G p e below s _ _ _ (T19.setTop (mkF m 73 #[.val (Value.int x0), .val (Value.int x1), .val (Value.ref b1), .val (Value.int (1 : Int32)), .val (Value.ref a_NOT_EQUAL), .val (Value.int (x1 &&& (2147483647 : Int32))), .unset, .unset, .unset] []))
      refine own_iloadN X19 hx hby at_73 rfl ?_
      show own_G p e below s _ _ _ (T19.setTop (mkF m 74 #[.val (Value.int x0), .val (Value.int x1), .val (Value.ref b1), .val (Value.int (1 : Int32)), .val (Value.ref a_NOT_EQUAL), .val (Value.int (x1 &&& (2147483647 : Int32))), .unset, .unset, .unset] [(Value.int (1 : Int32))]))
      refine own_iconst X19 hx hby at_74 ?_
      show own_G p e below s _ _ _ (T19.setTop (mkF m 75 #[.val (Value.int x0), .val (Value.int x1), .val (Value.ref b1), .val (Value.int (1 : Int32)), .val (Value.ref a_NOT_EQUAL), .val (Value.int (x1 &&& (2147483647 : Int32))), .unset, .unset, .unset] [(Value.int (2 : Int32)), (Value.int (1 : Int32))]))
      refine own_icmp_eq X19 hx hby at_75 (pc' := 83) (by decide) (by decide) (fun hb36 => by exfalso; revert hb36; decide) (fun hb36 => ?_)
      show own_G p e below s _ _ _ (T19.setTop (mkF m 78 #[.val (Value.int x0), .val (Value.int x1), .val (Value.ref b1), .val (Value.int (1 : Int32)), .val (Value.ref a_NOT_EQUAL), .val (Value.int (x1 &&& (2147483647 : Int32))), .unset, .unset, .unset] []))
      refine own_iloadN X19 hx hby at_78 rfl ?_
      show own_G p e below s _ _ _ (T19.setTop (mkF m 79 #[.val (Value.int x0), .val (Value.int x1), .val (Value.ref b1), .val (Value.int (1 : Int32)), .val (Value.ref a_NOT_EQUAL), .val (Value.int (x1 &&& (2147483647 : Int32))), .unset, .unset, .unset] [(Value.int (1 : Int32))]))
      refine own_iconst X19 hx hby at_79 ?_
      show own_G p e below s _ _ _ (T19.setTop (mkF m 80 #[.val (Value.int x0), .val (Value.int x1), .val (Value.ref b1), .val (Value.int (1 : Int32)), .val (Value.ref a_NOT_EQUAL), .val (Value.int (x1 &&& (2147483647 : Int32))), .unset, .unset, .unset] [(Value.int (3 : Int32)), (Value.int (1 : Int32))]))
      refine own_icmp_ne X19 hx hby at_80 (pc' := 87) (by decide) (by decide) (fun hb37 => ?_) (fun hb37 => by exfalso; revert hb37; decide)
      show own_G p e below s _ _ _ (T19.setTop (mkF m 87 #[.val (Value.int x0), .val (Value.int x1), .val (Value.ref b1), .val (Value.int (1 : Int32)), .val (Value.ref a_NOT_EQUAL), .val (Value.int (x1 &&& (2147483647 : Int32))), .unset, .unset, .unset] []))
      refine own_iconst X19 hx hby at_87 ?_
      show own_G p e below s _ _ _ (T19.setTop (mkF m 88 #[.val (Value.int x0), .val (Value.int x1), .val (Value.ref b1), .val (Value.int (1 : Int32)), .val (Value.ref a_NOT_EQUAL), .val (Value.int (x1 &&& (2147483647 : Int32))), .unset, .unset, .unset] [(Value.int (0 : Int32))]))
      refine own_istore X19 hx hby at_88 (l' := #[.val (Value.int x0), .val (Value.int x1), .val (Value.ref b1), .val (Value.int (1 : Int32)), .val (Value.ref a_NOT_EQUAL), .val (Value.int (x1 &&& (2147483647 : Int32))), .val (Value.int (0 : Int32)), .unset, .unset]) rfl ?_
      show own_G p e below s _ _ _ (T19.setTop (mkF m 90 #[.val (Value.int x0), .val (Value.int x1), .val (Value.ref b1), .val (Value.int (1 : Int32)), .val (Value.ref a_NOT_EQUAL), .val (Value.int (x1 &&& (2147483647 : Int32))), .val (Value.int (0 : Int32)), .unset, .unset] []))
      refine own_aload X19 hx hby at_90 rfl rfl ?_
      show own_G p e below s _ _ _ (T19.setTop (mkF m 92 #[.val (Value.int x0), .val (Value.int x1), .val (Value.ref b1), .val (Value.int (1 : Int32)), .val (Value.ref a_NOT_EQUAL), .val (Value.int (x1 &&& (2147483647 : Int32))), .val (Value.int (0 : Int32)), .unset, .unset] [(Value.ref a_NOT_EQUAL)]))
      obtain ⟨cq38, kq38, q38a, q38b, q38c⟩ := isOf (T := T19) hZ e19 (Exa.ext O20.2 En_NOT_EQUAL.2.1)
      obtain ⟨_, _, ⟨T38, L38, k38, n38⟩, -, X38, ⟨Lc38, hQ38, l38, y38, z38⟩, st38⟩ := X19.virtualBack hx (y := (⟨"com/example/gazetteer/gazetteer/partitions/Condition$Operator", "boundsAbove", "()Z"⟩ : MethodName)) (z := (⟨"com/example/gazetteer/gazetteer/partitions/Condition$Operator", "boundsAbove", "()Z"⟩ : MethodName)) hown (mvT hZ (own_w17 hw)) (mvT hZ (own_w18 hw)) (notFace_of_selects (args := #[]) (mvT hZ (own_w20 hw))) (mvT hZ (own_w20 hw)) (mvT hZ (own_w19 hw)) (by decide) (backOf (W := 0) (own_rm1 l Z a0 hw [] a_NOT_EQUAL a_EQUAL a_NOT_EQUAL a_LESS a_LESS_OR_EQUAL a_GREATER a_GREATER_OR_EQUAL h19 n0 O20  En_EQUAL En_NOT_EQUAL En_LESS En_LESS_OR_EQUAL En_GREATER En_GREATER_OR_EQUAL) hZ (own_w21 hw) (own_w3 hw) (by decide) (by decide)) q38a q38c (g := (mkF m 92 #[.val (Value.int x0), .val (Value.int x1), .val (Value.ref b1), .val (Value.int (1 : Int32)), .val (Value.ref a_NOT_EQUAL), .val (Value.int (x1 &&& (2147483647 : Int32))), .val (Value.int (0 : Int32)), .unset, .unset] [(Value.ref a_NOT_EQUAL)])) rfl (by rw [hml]; rfl) (Steps.refl _) (argsL := []) (rest := []) (lenOf own_pd1 rfl) rfl (by show 2 * 0 + _ ≤ _; exact Nat.le_of_eq rfl) (hb hby at_92) (fun _ _ => ⟨rfl, e19, (by decide : (1 : Nat) + 0 ≤ _), (by decide : (6 : Nat) + 0 ≤ _)⟩)
      dsimp only [Pt.U, Pt.locs, Pt.cells, Pt.slots] at X38 l38 y38 z38 st38 hQ38
      subst l38 y38 z38
      obtain ⟨rfl, e38, Nq38⟩ := hQ38
      have N38 := Fr.app N19 Nq38
      refine own_tr st38 ?_
      show own_G p e below s _ _ _ (T38.setTop (mkF m 95 #[.val (Value.int x0), .val (Value.int x1), .val (Value.ref b1), .val (Value.int (1 : Int32)), .val (Value.ref a_NOT_EQUAL), .val (Value.int (x1 &&& (2147483647 : Int32))), .val (Value.int (0 : Int32)), .unset, .unset] [(Value.int (own_inc a_NOT_EQUAL a_EQUAL a_LESS a_LESS_OR_EQUAL))]))
      rw [show ((own_inc a_NOT_EQUAL a_EQUAL a_LESS a_LESS_OR_EQUAL) : Int32) = (0 : Int32) from by simp [own_inc, own_ne_ref (Fld.ne En_NOT_EQUAL.2.2 En_EQUAL.2.2 (by decide)), own_ne_ref (Fld.ne En_NOT_EQUAL.2.2 En_LESS.2.2 (by decide)), own_ne_ref (Fld.ne En_NOT_EQUAL.2.2 En_LESS_OR_EQUAL.2.2 (by decide))]]
      refine own_istore X38 hx hby at_95 (l' := #[.val (Value.int x0), .val (Value.int x1), .val (Value.ref b1), .val (Value.int (1 : Int32)), .val (Value.ref a_NOT_EQUAL), .val (Value.int (x1 &&& (2147483647 : Int32))), .val (Value.int (0 : Int32)), .val (Value.int (0 : Int32)), .unset]) rfl ?_
      show own_G p e below s _ _ _ (T38.setTop (mkF m 97 #[.val (Value.int x0), .val (Value.int x1), .val (Value.ref b1), .val (Value.int (1 : Int32)), .val (Value.ref a_NOT_EQUAL), .val (Value.int (x1 &&& (2147483647 : Int32))), .val (Value.int (0 : Int32)), .val (Value.int (0 : Int32)), .unset] []))
      refine own_aload X38 hx hby at_97 rfl rfl ?_
      show own_G p e below s _ _ _ (T38.setTop (mkF m 99 #[.val (Value.int x0), .val (Value.int x1), .val (Value.ref b1), .val (Value.int (1 : Int32)), .val (Value.ref a_NOT_EQUAL), .val (Value.int (x1 &&& (2147483647 : Int32))), .val (Value.int (0 : Int32)), .val (Value.int (0 : Int32)), .unset] [(Value.ref a_NOT_EQUAL)]))
      refine own_iload X38 hx hby at_99 rfl ?_
      show own_G p e below s _ _ _ (T38.setTop (mkF m 101 #[.val (Value.int x0), .val (Value.int x1), .val (Value.ref b1), .val (Value.int (1 : Int32)), .val (Value.ref a_NOT_EQUAL), .val (Value.int (x1 &&& (2147483647 : Int32))), .val (Value.int (0 : Int32)), .val (Value.int (0 : Int32)), .unset] [(Value.int (x1 &&& (2147483647 : Int32))), (Value.ref a_NOT_EQUAL)]))
      obtain ⟨cq39, kq39, q39a, q39b, q39c⟩ := isOf (T := T38) hZ e38 (Exa.ext O20.2 En_NOT_EQUAL.2.1)
      obtain ⟨_, _, ⟨T39, L39, k39, n39⟩, -, X39, ⟨Lc39, hQ39, l39, y39, z39⟩, st39⟩ := X38.virtualBack hx (y := (⟨"com/example/gazetteer/gazetteer/partitions/Condition$Operator", "holds", "(I)Z"⟩ : MethodName)) (z := (⟨"com/example/gazetteer/gazetteer/partitions/Condition$Operator", "holds", "(I)Z"⟩ : MethodName)) hown (mvT hZ (own_w23 hw)) (mvT hZ (own_w24 hw)) (notFace_of_selects (args := #[]) (mvT hZ (own_w26 hw))) (mvT hZ (own_w26 hw)) (mvT hZ (own_w25 hw)) (by decide) (backOf (W := 0) (own_rm2 l Z a0 hw [] a_NOT_EQUAL (x1 &&& (2147483647 : Int32)) (1 : Int32) h19 n0 O20  (Exa.ext O20.2 En_NOT_EQUAL.2.1) (Fld.ext O20.2 En_NOT_EQUAL.2.2) (by decide)) hZ (own_w27 hw) (own_w3 hw) (by decide) (by decide)) q39a q39c (g := (mkF m 101 #[.val (Value.int x0), .val (Value.int x1), .val (Value.ref b1), .val (Value.int (1 : Int32)), .val (Value.ref a_NOT_EQUAL), .val (Value.int (x1 &&& (2147483647 : Int32))), .val (Value.int (0 : Int32)), .val (Value.int (0 : Int32)), .unset] [(Value.int (x1 &&& (2147483647 : Int32))), (Value.ref a_NOT_EQUAL)])) rfl (by rw [hml]; rfl) (Steps.refl _) (argsL := [(Value.int (x1 &&& (2147483647 : Int32)))]) (rest := []) (lenOf own_pd2 rfl) rfl (by show 2 * 0 + _ ≤ _; exact Nat.le_of_eq rfl) (hb hby at_101) (fun _ _ => ⟨rfl, e38, (by decide : (1 : Nat) + 0 ≤ _), (by decide : (6 : Nat) + 0 ≤ _)⟩)
      dsimp only [Pt.U, Pt.locs, Pt.cells, Pt.slots] at X39 l39 y39 z39 st39 hQ39
      subst l39 y39 z39
      obtain ⟨rfl, e39, Nq39⟩ := hQ39
      have N39 := Fr.app N38 Nq39
      refine own_tr st39 ?_
      show own_G p e below s _ _ _ (T39.setTop (mkF m 104 #[.val (Value.int x0), .val (Value.int x1), .val (Value.ref b1), .val (Value.int (1 : Int32)), .val (Value.ref a_NOT_EQUAL), .val (Value.int (x1 &&& (2147483647 : Int32))), .val (Value.int (0 : Int32)), .val (Value.int (0 : Int32)), .unset] [(Value.int (own_holds (1 : Int32) (x1 &&& (2147483647 : Int32))))]))
      rw [show ((own_holds (1 : Int32) (x1 &&& (2147483647 : Int32))) : Int32) = (1 : Int32) from (own_holds_pos (own_posAnd hb34)).2.1]
      refine own_istore X39 hx hby at_104 (l' := #[.val (Value.int x0), .val (Value.int x1), .val (Value.ref b1), .val (Value.int (1 : Int32)), .val (Value.ref a_NOT_EQUAL), .val (Value.int (x1 &&& (2147483647 : Int32))), .val (Value.int (0 : Int32)), .val (Value.int (0 : Int32)), .val (Value.int (1 : Int32))]) rfl ?_
      show own_G p e below s _ _ _ (T39.setTop (mkF m 106 #[.val (Value.int x0), .val (Value.int x1), .val (Value.ref b1), .val (Value.int (1 : Int32)), .val (Value.ref a_NOT_EQUAL), .val (Value.int (x1 &&& (2147483647 : Int32))), .val (Value.int (0 : Int32)), .val (Value.int (0 : Int32)), .val (Value.int (1 : Int32))] []))
      refine own_iload X39 hx hby at_106 rfl ?_
      show own_G p e below s _ _ _ (T39.setTop (mkF m 108 #[.val (Value.int x0), .val (Value.int x1), .val (Value.ref b1), .val (Value.int (1 : Int32)), .val (Value.ref a_NOT_EQUAL), .val (Value.int (x1 &&& (2147483647 : Int32))), .val (Value.int (0 : Int32)), .val (Value.int (0 : Int32)), .val (Value.int (1 : Int32))] [(Value.int (0 : Int32))]))
      refine own_iload X39 hx hby at_108 rfl ?_
      show own_G p e below s _ _ _ (T39.setTop (mkF m 110 #[.val (Value.int x0), .val (Value.int x1), .val (Value.ref b1), .val (Value.int (1 : Int32)), .val (Value.ref a_NOT_EQUAL), .val (Value.int (x1 &&& (2147483647 : Int32))), .val (Value.int (0 : Int32)), .val (Value.int (0 : Int32)), .val (Value.int (1 : Int32))] [(Value.int (0 : Int32)), (Value.int (0 : Int32))]))
      refine own_icmp_ne X39 hx hby at_110 (pc' := 132) (by decide) (by decide) (fun hb40 => by exfalso; revert hb40; decide) (fun hb40 => ?_)
      show own_G p e below s _ _ _ (T39.setTop (mkF m 113 #[.val (Value.int x0), .val (Value.int x1), .val (Value.ref b1), .val (Value.int (1 : Int32)), .val (Value.ref a_NOT_EQUAL), .val (Value.int (x1 &&& (2147483647 : Int32))), .val (Value.int (0 : Int32)), .val (Value.int (0 : Int32)), .val (Value.int (1 : Int32))] []))
      refine own_iload X39 hx hby at_113 rfl ?_
      show own_G p e below s _ _ _ (T39.setTop (mkF m 115 #[.val (Value.int x0), .val (Value.int x1), .val (Value.ref b1), .val (Value.int (1 : Int32)), .val (Value.ref a_NOT_EQUAL), .val (Value.int (x1 &&& (2147483647 : Int32))), .val (Value.int (0 : Int32)), .val (Value.int (0 : Int32)), .val (Value.int (1 : Int32))] [(Value.int (0 : Int32))]))
      refine own_iload X39 hx hby at_115 rfl ?_
      show own_G p e below s _ _ _ (T39.setTop (mkF m 117 #[.val (Value.int x0), .val (Value.int x1), .val (Value.ref b1), .val (Value.int (1 : Int32)), .val (Value.ref a_NOT_EQUAL), .val (Value.int (x1 &&& (2147483647 : Int32))), .val (Value.int (0 : Int32)), .val (Value.int (0 : Int32)), .val (Value.int (1 : Int32))] [(Value.int (1 : Int32)), (Value.int (0 : Int32))]))
      refine own_if_ne X39 hx hby at_117 (pc' := 124) (by decide) (by decide) (fun hb41 => ?_) (fun hb41 => by exfalso; revert hb41; decide)
      show own_G p e below s _ _ _ (T39.setTop (mkF m 124 #[.val (Value.int x0), .val (Value.int x1), .val (Value.ref b1), .val (Value.int (1 : Int32)), .val (Value.ref a_NOT_EQUAL), .val (Value.int (x1 &&& (2147483647 : Int32))), .val (Value.int (0 : Int32)), .val (Value.int (0 : Int32)), .val (Value.int (1 : Int32))] [(Value.int (0 : Int32))]))
      refine own_iconst X39 hx hby at_124 ?_
      show own_G p e below s _ _ _ (T39.setTop (mkF m 125 #[.val (Value.int x0), .val (Value.int x1), .val (Value.ref b1), .val (Value.int (1 : Int32)), .val (Value.ref a_NOT_EQUAL), .val (Value.int (x1 &&& (2147483647 : Int32))), .val (Value.int (0 : Int32)), .val (Value.int (0 : Int32)), .val (Value.int (1 : Int32))] [(Value.int (0 : Int32)), (Value.int (0 : Int32))]))
      refine own_icmp_ne X39 hx hby at_125 (pc' := 132) (by decide) (by decide) (fun hb42 => by exfalso; revert hb42; decide) (fun hb42 => ?_)
      show own_G p e below s _ _ _ (T39.setTop (mkF m 128 #[.val (Value.int x0), .val (Value.int x1), .val (Value.ref b1), .val (Value.int (1 : Int32)), .val (Value.ref a_NOT_EQUAL), .val (Value.int (x1 &&& (2147483647 : Int32))), .val (Value.int (0 : Int32)), .val (Value.int (0 : Int32)), .val (Value.int (1 : Int32))] []))
      refine own_iconst X39 hx hby at_128 ?_
      show own_G p e below s _ _ _ (T39.setTop (mkF m 129 #[.val (Value.int x0), .val (Value.int x1), .val (Value.ref b1), .val (Value.int (1 : Int32)), .val (Value.ref a_NOT_EQUAL), .val (Value.int (x1 &&& (2147483647 : Int32))), .val (Value.int (0 : Int32)), .val (Value.int (0 : Int32)), .val (Value.int (1 : Int32))] [(Value.int (1 : Int32))]))
      refine own_goto X39 hx hby at_129 (pc' := 133) (by decide) (by decide) ?_
      show own_G p e below s _ _ _ (T39.setTop (mkF m 133 #[.val (Value.int x0), .val (Value.int x1), .val (Value.ref b1), .val (Value.int (1 : Int32)), .val (Value.ref a_NOT_EQUAL), .val (Value.int (x1 &&& (2147483647 : Int32))), .val (Value.int (0 : Int32)), .val (Value.int (0 : Int32)), .val (Value.int (1 : Int32))] [(Value.int (1 : Int32))]))
      refine own_retN X39 hx hby hlk (t := .boolean) Bd.returns (by simp) at_133 (by decide) (by decide) ?_
      exact ⟨rfl, N39⟩
    · show own_G p e below s _ _ _ (T19.setTop (mkF m 66 #[.val (Value.int x0), .val (Value.int x1), .val (Value.ref b1), .val (Value.int (1 : Int32)), .val (Value.ref a_NOT_EQUAL), .val (Value.int (x1 &&& (2147483647 : Int32))), .unset, .unset, .unset] []))
      refine own_iconst X19 hx hby at_66 ?_
      show own_G p e below s _ _ _ (T19.setTop (mkF m 67 #[.val (Value.int x0), .val (Value.int x1), .val (Value.ref b1), .val (Value.int (1 : Int32)), .val (Value.ref a_NOT_EQUAL), .val (Value.int (x1 &&& (2147483647 : Int32))), .unset, .unset, .unset] [(Value.int (1 : Int32))]))
      refine own_istore X19 hx hby at_67 (l' := #[.val (Value.int x0), .val (Value.int x1), .val (Value.ref b1), .val (Value.int (1 : Int32)), .val (Value.ref a_NOT_EQUAL), .val (Value.int (1 : Int32)), .unset, .unset, .unset]) rfl ?_
      show own_G p e below s _ _ _ (T19.setTop (mkF m 69 #[.val (Value.int x0), .val (Value.int x1), .val (Value.ref b1), .val (Value.int (1 : Int32)), .val (Value.ref a_NOT_EQUAL), .val (Value.int (1 : Int32)), .unset, .unset, .unset] []))
      refine own_iloadN X19 hx hby at_69 rfl ?_
      show own_G p e below s _ _ _ (T19.setTop (mkF m 70 #[.val (Value.int x0), .val (Value.int x1), .val (Value.ref b1), .val (Value.int (1 : Int32)), .val (Value.ref a_NOT_EQUAL), .val (Value.int (1 : Int32)), .unset, .unset, .unset] [(Value.int (1 : Int32))]))
      refine own_if_eq X19 hx hby at_70 (pc' := 83) (by decide) (by decide) (fun hb43 => by exfalso; revert hb43; decide) (fun hb43 => ?_)
      show own_G p e below s _ _ _ (T19.setTop (mkF m 73 #[.val (Value.int x0), .val (Value.int x1), .val (Value.ref b1), .val (Value.int (1 : Int32)), .val (Value.ref a_NOT_EQUAL), .val (Value.int (1 : Int32)), .unset, .unset, .unset] []))
      refine own_iloadN X19 hx hby at_73 rfl ?_
      show own_G p e below s _ _ _ (T19.setTop (mkF m 74 #[.val (Value.int x0), .val (Value.int x1), .val (Value.ref b1), .val (Value.int (1 : Int32)), .val (Value.ref a_NOT_EQUAL), .val (Value.int (1 : Int32)), .unset, .unset, .unset] [(Value.int (1 : Int32))]))
      refine own_iconst X19 hx hby at_74 ?_
      show own_G p e below s _ _ _ (T19.setTop (mkF m 75 #[.val (Value.int x0), .val (Value.int x1), .val (Value.ref b1), .val (Value.int (1 : Int32)), .val (Value.ref a_NOT_EQUAL), .val (Value.int (1 : Int32)), .unset, .unset, .unset] [(Value.int (2 : Int32)), (Value.int (1 : Int32))]))
      refine own_icmp_eq X19 hx hby at_75 (pc' := 83) (by decide) (by decide) (fun hb44 => by exfalso; revert hb44; decide) (fun hb44 => ?_)
      show own_G p e below s _ _ _ (T19.setTop (mkF m 78 #[.val (Value.int x0), .val (Value.int x1), .val (Value.ref b1), .val (Value.int (1 : Int32)), .val (Value.ref a_NOT_EQUAL), .val (Value.int (1 : Int32)), .unset, .unset, .unset] []))
      refine own_iloadN X19 hx hby at_78 rfl ?_
      show own_G p e below s _ _ _ (T19.setTop (mkF m 79 #[.val (Value.int x0), .val (Value.int x1), .val (Value.ref b1), .val (Value.int (1 : Int32)), .val (Value.ref a_NOT_EQUAL), .val (Value.int (1 : Int32)), .unset, .unset, .unset] [(Value.int (1 : Int32))]))
      refine own_iconst X19 hx hby at_79 ?_
      show own_G p e below s _ _ _ (T19.setTop (mkF m 80 #[.val (Value.int x0), .val (Value.int x1), .val (Value.ref b1), .val (Value.int (1 : Int32)), .val (Value.ref a_NOT_EQUAL), .val (Value.int (1 : Int32)), .unset, .unset, .unset] [(Value.int (3 : Int32)), (Value.int (1 : Int32))]))
      refine own_icmp_ne X19 hx hby at_80 (pc' := 87) (by decide) (by decide) (fun hb45 => ?_) (fun hb45 => by exfalso; revert hb45; decide)
      show own_G p e below s _ _ _ (T19.setTop (mkF m 87 #[.val (Value.int x0), .val (Value.int x1), .val (Value.ref b1), .val (Value.int (1 : Int32)), .val (Value.ref a_NOT_EQUAL), .val (Value.int (1 : Int32)), .unset, .unset, .unset] []))
      refine own_iconst X19 hx hby at_87 ?_
      show own_G p e below s _ _ _ (T19.setTop (mkF m 88 #[.val (Value.int x0), .val (Value.int x1), .val (Value.ref b1), .val (Value.int (1 : Int32)), .val (Value.ref a_NOT_EQUAL), .val (Value.int (1 : Int32)), .unset, .unset, .unset] [(Value.int (0 : Int32))]))
      refine own_istore X19 hx hby at_88 (l' := #[.val (Value.int x0), .val (Value.int x1), .val (Value.ref b1), .val (Value.int (1 : Int32)), .val (Value.ref a_NOT_EQUAL), .val (Value.int (1 : Int32)), .val (Value.int (0 : Int32)), .unset, .unset]) rfl ?_
      show own_G p e below s _ _ _ (T19.setTop (mkF m 90 #[.val (Value.int x0), .val (Value.int x1), .val (Value.ref b1), .val (Value.int (1 : Int32)), .val (Value.ref a_NOT_EQUAL), .val (Value.int (1 : Int32)), .val (Value.int (0 : Int32)), .unset, .unset] []))
      refine own_aload X19 hx hby at_90 rfl rfl ?_
      show own_G p e below s _ _ _ (T19.setTop (mkF m 92 #[.val (Value.int x0), .val (Value.int x1), .val (Value.ref b1), .val (Value.int (1 : Int32)), .val (Value.ref a_NOT_EQUAL), .val (Value.int (1 : Int32)), .val (Value.int (0 : Int32)), .unset, .unset] [(Value.ref a_NOT_EQUAL)]))
      obtain ⟨cq46, kq46, q46a, q46b, q46c⟩ := isOf (T := T19) hZ e19 (Exa.ext O20.2 En_NOT_EQUAL.2.1)
      obtain ⟨_, _, ⟨T46, L46, k46, n46⟩, -, X46, ⟨Lc46, hQ46, l46, y46, z46⟩, st46⟩ := X19.virtualBack hx (y := (⟨"com/example/gazetteer/gazetteer/partitions/Condition$Operator", "boundsAbove", "()Z"⟩ : MethodName)) (z := (⟨"com/example/gazetteer/gazetteer/partitions/Condition$Operator", "boundsAbove", "()Z"⟩ : MethodName)) hown (mvT hZ (own_w17 hw)) (mvT hZ (own_w18 hw)) (notFace_of_selects (args := #[]) (mvT hZ (own_w20 hw))) (mvT hZ (own_w20 hw)) (mvT hZ (own_w19 hw)) (by decide) (backOf (W := 0) (own_rm1 l Z a0 hw [] a_NOT_EQUAL a_EQUAL a_NOT_EQUAL a_LESS a_LESS_OR_EQUAL a_GREATER a_GREATER_OR_EQUAL h19 n0 O20  En_EQUAL En_NOT_EQUAL En_LESS En_LESS_OR_EQUAL En_GREATER En_GREATER_OR_EQUAL) hZ (own_w21 hw) (own_w3 hw) (by decide) (by decide)) q46a q46c (g := (mkF m 92 #[.val (Value.int x0), .val (Value.int x1), .val (Value.ref b1), .val (Value.int (1 : Int32)), .val (Value.ref a_NOT_EQUAL), .val (Value.int (1 : Int32)), .val (Value.int (0 : Int32)), .unset, .unset] [(Value.ref a_NOT_EQUAL)])) rfl (by rw [hml]; rfl) (Steps.refl _) (argsL := []) (rest := []) (lenOf own_pd1 rfl) rfl (by show 2 * 0 + _ ≤ _; exact Nat.le_of_eq rfl) (hb hby at_92) (fun _ _ => ⟨rfl, e19, (by decide : (1 : Nat) + 0 ≤ _), (by decide : (6 : Nat) + 0 ≤ _)⟩)
      dsimp only [Pt.U, Pt.locs, Pt.cells, Pt.slots] at X46 l46 y46 z46 st46 hQ46
      subst l46 y46 z46
      obtain ⟨rfl, e46, Nq46⟩ := hQ46
      have N46 := Fr.app N19 Nq46
      refine own_tr st46 ?_
      show own_G p e below s _ _ _ (T46.setTop (mkF m 95 #[.val (Value.int x0), .val (Value.int x1), .val (Value.ref b1), .val (Value.int (1 : Int32)), .val (Value.ref a_NOT_EQUAL), .val (Value.int (1 : Int32)), .val (Value.int (0 : Int32)), .unset, .unset] [(Value.int (own_inc a_NOT_EQUAL a_EQUAL a_LESS a_LESS_OR_EQUAL))]))
      rw [show ((own_inc a_NOT_EQUAL a_EQUAL a_LESS a_LESS_OR_EQUAL) : Int32) = (0 : Int32) from by simp [own_inc, own_ne_ref (Fld.ne En_NOT_EQUAL.2.2 En_EQUAL.2.2 (by decide)), own_ne_ref (Fld.ne En_NOT_EQUAL.2.2 En_LESS.2.2 (by decide)), own_ne_ref (Fld.ne En_NOT_EQUAL.2.2 En_LESS_OR_EQUAL.2.2 (by decide))]]
      refine own_istore X46 hx hby at_95 (l' := #[.val (Value.int x0), .val (Value.int x1), .val (Value.ref b1), .val (Value.int (1 : Int32)), .val (Value.ref a_NOT_EQUAL), .val (Value.int (1 : Int32)), .val (Value.int (0 : Int32)), .val (Value.int (0 : Int32)), .unset]) rfl ?_
      show own_G p e below s _ _ _ (T46.setTop (mkF m 97 #[.val (Value.int x0), .val (Value.int x1), .val (Value.ref b1), .val (Value.int (1 : Int32)), .val (Value.ref a_NOT_EQUAL), .val (Value.int (1 : Int32)), .val (Value.int (0 : Int32)), .val (Value.int (0 : Int32)), .unset] []))
      refine own_aload X46 hx hby at_97 rfl rfl ?_
      show own_G p e below s _ _ _ (T46.setTop (mkF m 99 #[.val (Value.int x0), .val (Value.int x1), .val (Value.ref b1), .val (Value.int (1 : Int32)), .val (Value.ref a_NOT_EQUAL), .val (Value.int (1 : Int32)), .val (Value.int (0 : Int32)), .val (Value.int (0 : Int32)), .unset] [(Value.ref a_NOT_EQUAL)]))
      refine own_iload X46 hx hby at_99 rfl ?_
      show own_G p e below s _ _ _ (T46.setTop (mkF m 101 #[.val (Value.int x0), .val (Value.int x1), .val (Value.ref b1), .val (Value.int (1 : Int32)), .val (Value.ref a_NOT_EQUAL), .val (Value.int (1 : Int32)), .val (Value.int (0 : Int32)), .val (Value.int (0 : Int32)), .unset] [(Value.int (1 : Int32)), (Value.ref a_NOT_EQUAL)]))
      obtain ⟨cq47, kq47, q47a, q47b, q47c⟩ := isOf (T := T46) hZ e46 (Exa.ext O20.2 En_NOT_EQUAL.2.1)
      obtain ⟨_, _, ⟨T47, L47, k47, n47⟩, -, X47, ⟨Lc47, hQ47, l47, y47, z47⟩, st47⟩ := X46.virtualBack hx (y := (⟨"com/example/gazetteer/gazetteer/partitions/Condition$Operator", "holds", "(I)Z"⟩ : MethodName)) (z := (⟨"com/example/gazetteer/gazetteer/partitions/Condition$Operator", "holds", "(I)Z"⟩ : MethodName)) hown (mvT hZ (own_w23 hw)) (mvT hZ (own_w24 hw)) (notFace_of_selects (args := #[]) (mvT hZ (own_w26 hw))) (mvT hZ (own_w26 hw)) (mvT hZ (own_w25 hw)) (by decide) (backOf (W := 0) (own_rm2 l Z a0 hw [] a_NOT_EQUAL (1 : Int32) (1 : Int32) h19 n0 O20  (Exa.ext O20.2 En_NOT_EQUAL.2.1) (Fld.ext O20.2 En_NOT_EQUAL.2.2) (by decide)) hZ (own_w27 hw) (own_w3 hw) (by decide) (by decide)) q47a q47c (g := (mkF m 101 #[.val (Value.int x0), .val (Value.int x1), .val (Value.ref b1), .val (Value.int (1 : Int32)), .val (Value.ref a_NOT_EQUAL), .val (Value.int (1 : Int32)), .val (Value.int (0 : Int32)), .val (Value.int (0 : Int32)), .unset] [(Value.int (1 : Int32)), (Value.ref a_NOT_EQUAL)])) rfl (by rw [hml]; rfl) (Steps.refl _) (argsL := [(Value.int (1 : Int32))]) (rest := []) (lenOf own_pd2 rfl) rfl (by show 2 * 0 + _ ≤ _; exact Nat.le_of_eq rfl) (hb hby at_101) (fun _ _ => ⟨rfl, e46, (by decide : (1 : Nat) + 0 ≤ _), (by decide : (6 : Nat) + 0 ≤ _)⟩)
      dsimp only [Pt.U, Pt.locs, Pt.cells, Pt.slots] at X47 l47 y47 z47 st47 hQ47
      subst l47 y47 z47
      obtain ⟨rfl, e47, Nq47⟩ := hQ47
      have N47 := Fr.app N46 Nq47
      refine own_tr st47 ?_
      show own_G p e below s _ _ _ (T47.setTop (mkF m 104 #[.val (Value.int x0), .val (Value.int x1), .val (Value.ref b1), .val (Value.int (1 : Int32)), .val (Value.ref a_NOT_EQUAL), .val (Value.int (1 : Int32)), .val (Value.int (0 : Int32)), .val (Value.int (0 : Int32)), .unset] [(Value.int (own_holds (1 : Int32) (1 : Int32)))]))
      rw [show ((own_holds (1 : Int32) (1 : Int32)) : Int32) = (1 : Int32) from (own_holds_pos (by decide)).2.1]
      refine own_istore X47 hx hby at_104 (l' := #[.val (Value.int x0), .val (Value.int x1), .val (Value.ref b1), .val (Value.int (1 : Int32)), .val (Value.ref a_NOT_EQUAL), .val (Value.int (1 : Int32)), .val (Value.int (0 : Int32)), .val (Value.int (0 : Int32)), .val (Value.int (1 : Int32))]) rfl ?_
      show own_G p e below s _ _ _ (T47.setTop (mkF m 106 #[.val (Value.int x0), .val (Value.int x1), .val (Value.ref b1), .val (Value.int (1 : Int32)), .val (Value.ref a_NOT_EQUAL), .val (Value.int (1 : Int32)), .val (Value.int (0 : Int32)), .val (Value.int (0 : Int32)), .val (Value.int (1 : Int32))] []))
      refine own_iload X47 hx hby at_106 rfl ?_
      show own_G p e below s _ _ _ (T47.setTop (mkF m 108 #[.val (Value.int x0), .val (Value.int x1), .val (Value.ref b1), .val (Value.int (1 : Int32)), .val (Value.ref a_NOT_EQUAL), .val (Value.int (1 : Int32)), .val (Value.int (0 : Int32)), .val (Value.int (0 : Int32)), .val (Value.int (1 : Int32))] [(Value.int (0 : Int32))]))
      refine own_iload X47 hx hby at_108 rfl ?_
      show own_G p e below s _ _ _ (T47.setTop (mkF m 110 #[.val (Value.int x0), .val (Value.int x1), .val (Value.ref b1), .val (Value.int (1 : Int32)), .val (Value.ref a_NOT_EQUAL), .val (Value.int (1 : Int32)), .val (Value.int (0 : Int32)), .val (Value.int (0 : Int32)), .val (Value.int (1 : Int32))] [(Value.int (0 : Int32)), (Value.int (0 : Int32))]))
      refine own_icmp_ne X47 hx hby at_110 (pc' := 132) (by decide) (by decide) (fun hb48 => by exfalso; revert hb48; decide) (fun hb48 => ?_)
      show own_G p e below s _ _ _ (T47.setTop (mkF m 113 #[.val (Value.int x0), .val (Value.int x1), .val (Value.ref b1), .val (Value.int (1 : Int32)), .val (Value.ref a_NOT_EQUAL), .val (Value.int (1 : Int32)), .val (Value.int (0 : Int32)), .val (Value.int (0 : Int32)), .val (Value.int (1 : Int32))] []))
      refine own_iload X47 hx hby at_113 rfl ?_
      show own_G p e below s _ _ _ (T47.setTop (mkF m 115 #[.val (Value.int x0), .val (Value.int x1), .val (Value.ref b1), .val (Value.int (1 : Int32)), .val (Value.ref a_NOT_EQUAL), .val (Value.int (1 : Int32)), .val (Value.int (0 : Int32)), .val (Value.int (0 : Int32)), .val (Value.int (1 : Int32))] [(Value.int (0 : Int32))]))
      refine own_iload X47 hx hby at_115 rfl ?_
      show own_G p e below s _ _ _ (T47.setTop (mkF m 117 #[.val (Value.int x0), .val (Value.int x1), .val (Value.ref b1), .val (Value.int (1 : Int32)), .val (Value.ref a_NOT_EQUAL), .val (Value.int (1 : Int32)), .val (Value.int (0 : Int32)), .val (Value.int (0 : Int32)), .val (Value.int (1 : Int32))] [(Value.int (1 : Int32)), (Value.int (0 : Int32))]))
      refine own_if_ne X47 hx hby at_117 (pc' := 124) (by decide) (by decide) (fun hb49 => ?_) (fun hb49 => by exfalso; revert hb49; decide)
      show own_G p e below s _ _ _ (T47.setTop (mkF m 124 #[.val (Value.int x0), .val (Value.int x1), .val (Value.ref b1), .val (Value.int (1 : Int32)), .val (Value.ref a_NOT_EQUAL), .val (Value.int (1 : Int32)), .val (Value.int (0 : Int32)), .val (Value.int (0 : Int32)), .val (Value.int (1 : Int32))] [(Value.int (0 : Int32))]))
      refine own_iconst X47 hx hby at_124 ?_
      show own_G p e below s _ _ _ (T47.setTop (mkF m 125 #[.val (Value.int x0), .val (Value.int x1), .val (Value.ref b1), .val (Value.int (1 : Int32)), .val (Value.ref a_NOT_EQUAL), .val (Value.int (1 : Int32)), .val (Value.int (0 : Int32)), .val (Value.int (0 : Int32)), .val (Value.int (1 : Int32))] [(Value.int (0 : Int32)), (Value.int (0 : Int32))]))
      refine own_icmp_ne X47 hx hby at_125 (pc' := 132) (by decide) (by decide) (fun hb50 => by exfalso; revert hb50; decide) (fun hb50 => ?_)
      show own_G p e below s _ _ _ (T47.setTop (mkF m 128 #[.val (Value.int x0), .val (Value.int x1), .val (Value.ref b1), .val (Value.int (1 : Int32)), .val (Value.ref a_NOT_EQUAL), .val (Value.int (1 : Int32)), .val (Value.int (0 : Int32)), .val (Value.int (0 : Int32)), .val (Value.int (1 : Int32))] []))
      refine own_iconst X47 hx hby at_128 ?_
      show own_G p e below s _ _ _ (T47.setTop (mkF m 129 #[.val (Value.int x0), .val (Value.int x1), .val (Value.ref b1), .val (Value.int (1 : Int32)), .val (Value.ref a_NOT_EQUAL), .val (Value.int (1 : Int32)), .val (Value.int (0 : Int32)), .val (Value.int (0 : Int32)), .val (Value.int (1 : Int32))] [(Value.int (1 : Int32))]))
      refine own_goto X47 hx hby at_129 (pc' := 133) (by decide) (by decide) ?_
      show own_G p e below s _ _ _ (T47.setTop (mkF m 133 #[.val (Value.int x0), .val (Value.int x1), .val (Value.ref b1), .val (Value.int (1 : Int32)), .val (Value.ref a_NOT_EQUAL), .val (Value.int (1 : Int32)), .val (Value.int (0 : Int32)), .val (Value.int (0 : Int32)), .val (Value.int (1 : Int32))] [(Value.int (1 : Int32))]))
      refine own_retN X47 hx hby hlk (t := .boolean) Bd.returns (by simp) at_133 (by decide) (by decide) ?_
      exact ⟨rfl, N47⟩
  · rw [hk]
    show own_G p e below s _ _ _ (T19.setTop (mkF m 49 #[.val (Value.int x0), .val (Value.int x1), .val (Value.ref b1), .unset, .unset, .unset, .unset, .unset, .unset] [(Value.int (2 : Int32))]))
    refine own_istoreN X19 hx hby at_49 (l' := #[.val (Value.int x0), .val (Value.int x1), .val (Value.ref b1), .val (Value.int (2 : Int32)), .unset, .unset, .unset, .unset, .unset]) rfl ?_
    show own_G p e below s _ _ _ (T19.setTop (mkF m 50 #[.val (Value.int x0), .val (Value.int x1), .val (Value.ref b1), .val (Value.int (2 : Int32)), .unset, .unset, .unset, .unset, .unset] []))
    refine own_aloadN X19 hx hby at_50 rfl rfl ?_
    show own_G p e below s _ _ _ (T19.setTop (mkF m 51 #[.val (Value.int x0), .val (Value.int x1), .val (Value.ref b1), .val (Value.int (2 : Int32)), .unset, .unset, .unset, .unset, .unset] [(Value.ref b1)]))
    refine own_iloadN X19 hx hby at_51 rfl ?_
    show own_G p e below s _ _ _ (T19.setTop (mkF m 52 #[.val (Value.int x0), .val (Value.int x1), .val (Value.ref b1), .val (Value.int (2 : Int32)), .unset, .unset, .unset, .unset, .unset] [(Value.int (2 : Int32)), (Value.ref b1)]))
    refine own_aaload X19 hx hby hZ e19 A19 rfl (j := (2 : Int32)) (i := 2) (by decide) (by decide) at_52 ?_
    show own_G p e below s _ _ _ (T19.setTop (mkF m 53 #[.val (Value.int x0), .val (Value.int x1), .val (Value.ref b1), .val (Value.int (2 : Int32)), .unset, .unset, .unset, .unset, .unset] [(Value.ref a_LESS)]))
    refine own_astore X19 hx hby at_53 rfl (l' := #[.val (Value.int x0), .val (Value.int x1), .val (Value.ref b1), .val (Value.int (2 : Int32)), .val (Value.ref a_LESS), .unset, .unset, .unset, .unset]) rfl ?_
    show own_G p e below s _ _ _ (T19.setTop (mkF m 55 #[.val (Value.int x0), .val (Value.int x1), .val (Value.ref b1), .val (Value.int (2 : Int32)), .val (Value.ref a_LESS), .unset, .unset, .unset, .unset] []))
    refine own_iloadN X19 hx hby at_55 rfl ?_
    show own_G p e below s _ _ _ (T19.setTop (mkF m 56 #[.val (Value.int x0), .val (Value.int x1), .val (Value.ref b1), .val (Value.int (2 : Int32)), .val (Value.ref a_LESS), .unset, .unset, .unset, .unset] [(Value.int x1)]))
    refine own_ldcI X19 hx hby hZ hown (own_w16 hw) at_56 ?_
    show own_G p e below s _ _ _ (T19.setTop (mkF m 58 #[.val (Value.int x0), .val (Value.int x1), .val (Value.ref b1), .val (Value.int (2 : Int32)), .val (Value.ref a_LESS), .unset, .unset, .unset, .unset] [(Value.int (2147483647 : Int32)), (Value.int x1)]))
    refine own_iand X19 hx hby at_58 ?_
    show own_G p e below s _ _ _ (T19.setTop (mkF m 59 #[.val (Value.int x0), .val (Value.int x1), .val (Value.ref b1), .val (Value.int (2 : Int32)), .val (Value.ref a_LESS), .unset, .unset, .unset, .unset] [(Value.int (x1 &&& (2147483647 : Int32)))]))
    refine own_istore X19 hx hby at_59 (l' := #[.val (Value.int x0), .val (Value.int x1), .val (Value.ref b1), .val (Value.int (2 : Int32)), .val (Value.ref a_LESS), .val (Value.int (x1 &&& (2147483647 : Int32))), .unset, .unset, .unset]) rfl ?_
    show own_G p e below s _ _ _ (T19.setTop (mkF m 61 #[.val (Value.int x0), .val (Value.int x1), .val (Value.ref b1), .val (Value.int (2 : Int32)), .val (Value.ref a_LESS), .val (Value.int (x1 &&& (2147483647 : Int32))), .unset, .unset, .unset] []))
    refine own_iload X19 hx hby at_61 rfl ?_
    show own_G p e below s _ _ _ (T19.setTop (mkF m 63 #[.val (Value.int x0), .val (Value.int x1), .val (Value.ref b1), .val (Value.int (2 : Int32)), .val (Value.ref a_LESS), .val (Value.int (x1 &&& (2147483647 : Int32))), .unset, .unset, .unset] [(Value.int (x1 &&& (2147483647 : Int32)))]))
    refine own_if_ne X19 hx hby at_63 (pc' := 69) (by decide) (by decide) (fun hb51 => ?_) (fun hb51 => ?_)
    · show own_G p e below s _ _ _ (T19.setTop (mkF m 69 #[.val (Value.int x0), .val (Value.int x1), .val (Value.ref b1), .val (Value.int (2 : Int32)), .val (Value.ref a_LESS), .val (Value.int (x1 &&& (2147483647 : Int32))), .unset, .unset, .unset] []))
      refine own_iloadN X19 hx hby at_69 rfl ?_
      show own_G p e below s _ _ _ (T19.setTop (mkF m 70 #[.val (Value.int x0), .val (Value.int x1), .val (Value.ref b1), .val (Value.int (2 : Int32)), .val (Value.ref a_LESS), .val (Value.int (x1 &&& (2147483647 : Int32))), .unset, .unset, .unset] [(Value.int (2 : Int32))]))
      refine own_if_eq X19 hx hby at_70 (pc' := 83) (by decide) (by decide) (fun hb52 => by exfalso; revert hb52; decide) (fun hb52 => ?_)
      show own_G p e below s _ _ _ (T19.setTop (mkF m 73 #[.val (Value.int x0), .val (Value.int x1), .val (Value.ref b1), .val (Value.int (2 : Int32)), .val (Value.ref a_LESS), .val (Value.int (x1 &&& (2147483647 : Int32))), .unset, .unset, .unset] []))
      refine own_iloadN X19 hx hby at_73 rfl ?_
      show own_G p e below s _ _ _ (T19.setTop (mkF m 74 #[.val (Value.int x0), .val (Value.int x1), .val (Value.ref b1), .val (Value.int (2 : Int32)), .val (Value.ref a_LESS), .val (Value.int (x1 &&& (2147483647 : Int32))), .unset, .unset, .unset] [(Value.int (2 : Int32))]))
      refine own_iconst X19 hx hby at_74 ?_
      show own_G p e below s _ _ _ (T19.setTop (mkF m 75 #[.val (Value.int x0), .val (Value.int x1), .val (Value.ref b1), .val (Value.int (2 : Int32)), .val (Value.ref a_LESS), .val (Value.int (x1 &&& (2147483647 : Int32))), .unset, .unset, .unset] [(Value.int (2 : Int32)), (Value.int (2 : Int32))]))
      refine own_icmp_eq X19 hx hby at_75 (pc' := 83) (by decide) (by decide) (fun hb53 => ?_) (fun hb53 => by exfalso; revert hb53; decide)
      show own_G p e below s _ _ _ (T19.setTop (mkF m 83 #[.val (Value.int x0), .val (Value.int x1), .val (Value.ref b1), .val (Value.int (2 : Int32)), .val (Value.ref a_LESS), .val (Value.int (x1 &&& (2147483647 : Int32))), .unset, .unset, .unset] []))
      refine own_iconst X19 hx hby at_83 ?_
      show own_G p e below s _ _ _ (T19.setTop (mkF m 84 #[.val (Value.int x0), .val (Value.int x1), .val (Value.ref b1), .val (Value.int (2 : Int32)), .val (Value.ref a_LESS), .val (Value.int (x1 &&& (2147483647 : Int32))), .unset, .unset, .unset] [(Value.int (1 : Int32))]))
      refine own_goto X19 hx hby at_84 (pc' := 88) (by decide) (by decide) ?_
      show own_G p e below s _ _ _ (T19.setTop (mkF m 88 #[.val (Value.int x0), .val (Value.int x1), .val (Value.ref b1), .val (Value.int (2 : Int32)), .val (Value.ref a_LESS), .val (Value.int (x1 &&& (2147483647 : Int32))), .unset, .unset, .unset] [(Value.int (1 : Int32))]))
      refine own_istore X19 hx hby at_88 (l' := #[.val (Value.int x0), .val (Value.int x1), .val (Value.ref b1), .val (Value.int (2 : Int32)), .val (Value.ref a_LESS), .val (Value.int (x1 &&& (2147483647 : Int32))), .val (Value.int (1 : Int32)), .unset, .unset]) rfl ?_
      show own_G p e below s _ _ _ (T19.setTop (mkF m 90 #[.val (Value.int x0), .val (Value.int x1), .val (Value.ref b1), .val (Value.int (2 : Int32)), .val (Value.ref a_LESS), .val (Value.int (x1 &&& (2147483647 : Int32))), .val (Value.int (1 : Int32)), .unset, .unset] []))
      refine own_aload X19 hx hby at_90 rfl rfl ?_
      show own_G p e below s _ _ _ (T19.setTop (mkF m 92 #[.val (Value.int x0), .val (Value.int x1), .val (Value.ref b1), .val (Value.int (2 : Int32)), .val (Value.ref a_LESS), .val (Value.int (x1 &&& (2147483647 : Int32))), .val (Value.int (1 : Int32)), .unset, .unset] [(Value.ref a_LESS)]))
      obtain ⟨cq54, kq54, q54a, q54b, q54c⟩ := isOf (T := T19) hZ e19 (Exa.ext O20.2 En_LESS.2.1)
      obtain ⟨_, _, ⟨T54, L54, k54, n54⟩, -, X54, ⟨Lc54, hQ54, l54, y54, z54⟩, st54⟩ := X19.virtualBack hx (y := (⟨"com/example/gazetteer/gazetteer/partitions/Condition$Operator", "boundsAbove", "()Z"⟩ : MethodName)) (z := (⟨"com/example/gazetteer/gazetteer/partitions/Condition$Operator", "boundsAbove", "()Z"⟩ : MethodName)) hown (mvT hZ (own_w17 hw)) (mvT hZ (own_w18 hw)) (notFace_of_selects (args := #[]) (mvT hZ (own_w20 hw))) (mvT hZ (own_w20 hw)) (mvT hZ (own_w19 hw)) (by decide) (backOf (W := 0) (own_rm1 l Z a0 hw [] a_LESS a_EQUAL a_NOT_EQUAL a_LESS a_LESS_OR_EQUAL a_GREATER a_GREATER_OR_EQUAL h19 n0 O20  En_EQUAL En_NOT_EQUAL En_LESS En_LESS_OR_EQUAL En_GREATER En_GREATER_OR_EQUAL) hZ (own_w21 hw) (own_w3 hw) (by decide) (by decide)) q54a q54c (g := (mkF m 92 #[.val (Value.int x0), .val (Value.int x1), .val (Value.ref b1), .val (Value.int (2 : Int32)), .val (Value.ref a_LESS), .val (Value.int (x1 &&& (2147483647 : Int32))), .val (Value.int (1 : Int32)), .unset, .unset] [(Value.ref a_LESS)])) rfl (by rw [hml]; rfl) (Steps.refl _) (argsL := []) (rest := []) (lenOf own_pd1 rfl) rfl (by show 2 * 0 + _ ≤ _; exact Nat.le_of_eq rfl) (hb hby at_92) (fun _ _ => ⟨rfl, e19, (by decide : (1 : Nat) + 0 ≤ _), (by decide : (6 : Nat) + 0 ≤ _)⟩)
      dsimp only [Pt.U, Pt.locs, Pt.cells, Pt.slots] at X54 l54 y54 z54 st54 hQ54
      subst l54 y54 z54
      obtain ⟨rfl, e54, Nq54⟩ := hQ54
      have N54 := Fr.app N19 Nq54
      refine own_tr st54 ?_
      show own_G p e below s _ _ _ (T54.setTop (mkF m 95 #[.val (Value.int x0), .val (Value.int x1), .val (Value.ref b1), .val (Value.int (2 : Int32)), .val (Value.ref a_LESS), .val (Value.int (x1 &&& (2147483647 : Int32))), .val (Value.int (1 : Int32)), .unset, .unset] [(Value.int (own_inc a_LESS a_EQUAL a_LESS a_LESS_OR_EQUAL))]))
      rw [show ((own_inc a_LESS a_EQUAL a_LESS a_LESS_OR_EQUAL) : Int32) = (1 : Int32) from by simp [own_inc, own_ne_ref (Fld.ne En_LESS.2.2 En_EQUAL.2.2 (by decide)), own_ne_ref (Fld.ne En_LESS.2.2 En_LESS_OR_EQUAL.2.2 (by decide))]]
      refine own_istore X54 hx hby at_95 (l' := #[.val (Value.int x0), .val (Value.int x1), .val (Value.ref b1), .val (Value.int (2 : Int32)), .val (Value.ref a_LESS), .val (Value.int (x1 &&& (2147483647 : Int32))), .val (Value.int (1 : Int32)), .val (Value.int (1 : Int32)), .unset]) rfl ?_
      show own_G p e below s _ _ _ (T54.setTop (mkF m 97 #[.val (Value.int x0), .val (Value.int x1), .val (Value.ref b1), .val (Value.int (2 : Int32)), .val (Value.ref a_LESS), .val (Value.int (x1 &&& (2147483647 : Int32))), .val (Value.int (1 : Int32)), .val (Value.int (1 : Int32)), .unset] []))
      refine own_aload X54 hx hby at_97 rfl rfl ?_
      show own_G p e below s _ _ _ (T54.setTop (mkF m 99 #[.val (Value.int x0), .val (Value.int x1), .val (Value.ref b1), .val (Value.int (2 : Int32)), .val (Value.ref a_LESS), .val (Value.int (x1 &&& (2147483647 : Int32))), .val (Value.int (1 : Int32)), .val (Value.int (1 : Int32)), .unset] [(Value.ref a_LESS)]))
      refine own_iload X54 hx hby at_99 rfl ?_
      show own_G p e below s _ _ _ (T54.setTop (mkF m 101 #[.val (Value.int x0), .val (Value.int x1), .val (Value.ref b1), .val (Value.int (2 : Int32)), .val (Value.ref a_LESS), .val (Value.int (x1 &&& (2147483647 : Int32))), .val (Value.int (1 : Int32)), .val (Value.int (1 : Int32)), .unset] [(Value.int (x1 &&& (2147483647 : Int32))), (Value.ref a_LESS)]))
      obtain ⟨cq55, kq55, q55a, q55b, q55c⟩ := isOf (T := T54) hZ e54 (Exa.ext O20.2 En_LESS.2.1)
      obtain ⟨_, _, ⟨T55, L55, k55, n55⟩, -, X55, ⟨Lc55, hQ55, l55, y55, z55⟩, st55⟩ := X54.virtualBack hx (y := (⟨"com/example/gazetteer/gazetteer/partitions/Condition$Operator", "holds", "(I)Z"⟩ : MethodName)) (z := (⟨"com/example/gazetteer/gazetteer/partitions/Condition$Operator", "holds", "(I)Z"⟩ : MethodName)) hown (mvT hZ (own_w23 hw)) (mvT hZ (own_w24 hw)) (notFace_of_selects (args := #[]) (mvT hZ (own_w26 hw))) (mvT hZ (own_w26 hw)) (mvT hZ (own_w25 hw)) (by decide) (backOf (W := 0) (own_rm2 l Z a0 hw [] a_LESS (x1 &&& (2147483647 : Int32)) (2 : Int32) h19 n0 O20  (Exa.ext O20.2 En_LESS.2.1) (Fld.ext O20.2 En_LESS.2.2) (by decide)) hZ (own_w27 hw) (own_w3 hw) (by decide) (by decide)) q55a q55c (g := (mkF m 101 #[.val (Value.int x0), .val (Value.int x1), .val (Value.ref b1), .val (Value.int (2 : Int32)), .val (Value.ref a_LESS), .val (Value.int (x1 &&& (2147483647 : Int32))), .val (Value.int (1 : Int32)), .val (Value.int (1 : Int32)), .unset] [(Value.int (x1 &&& (2147483647 : Int32))), (Value.ref a_LESS)])) rfl (by rw [hml]; rfl) (Steps.refl _) (argsL := [(Value.int (x1 &&& (2147483647 : Int32)))]) (rest := []) (lenOf own_pd2 rfl) rfl (by show 2 * 0 + _ ≤ _; exact Nat.le_of_eq rfl) (hb hby at_101) (fun _ _ => ⟨rfl, e54, (by decide : (1 : Nat) + 0 ≤ _), (by decide : (6 : Nat) + 0 ≤ _)⟩)
      dsimp only [Pt.U, Pt.locs, Pt.cells, Pt.slots] at X55 l55 y55 z55 st55 hQ55
      subst l55 y55 z55
      obtain ⟨rfl, e55, Nq55⟩ := hQ55
      have N55 := Fr.app N54 Nq55
      refine own_tr st55 ?_
      show own_G p e below s _ _ _ (T55.setTop (mkF m 104 #[.val (Value.int x0), .val (Value.int x1), .val (Value.ref b1), .val (Value.int (2 : Int32)), .val (Value.ref a_LESS), .val (Value.int (x1 &&& (2147483647 : Int32))), .val (Value.int (1 : Int32)), .val (Value.int (1 : Int32)), .unset] [(Value.int (own_holds (2 : Int32) (x1 &&& (2147483647 : Int32))))]))
      rw [show ((own_holds (2 : Int32) (x1 &&& (2147483647 : Int32))) : Int32) = (0 : Int32) from (own_holds_pos (own_posAnd hb51)).2.2.1]
      refine own_istore X55 hx hby at_104 (l' := #[.val (Value.int x0), .val (Value.int x1), .val (Value.ref b1), .val (Value.int (2 : Int32)), .val (Value.ref a_LESS), .val (Value.int (x1 &&& (2147483647 : Int32))), .val (Value.int (1 : Int32)), .val (Value.int (1 : Int32)), .val (Value.int (0 : Int32))]) rfl ?_
      show own_G p e below s _ _ _ (T55.setTop (mkF m 106 #[.val (Value.int x0), .val (Value.int x1), .val (Value.ref b1), .val (Value.int (2 : Int32)), .val (Value.ref a_LESS), .val (Value.int (x1 &&& (2147483647 : Int32))), .val (Value.int (1 : Int32)), .val (Value.int (1 : Int32)), .val (Value.int (0 : Int32))] []))
      refine own_iload X55 hx hby at_106 rfl ?_
      show own_G p e below s _ _ _ (T55.setTop (mkF m 108 #[.val (Value.int x0), .val (Value.int x1), .val (Value.ref b1), .val (Value.int (2 : Int32)), .val (Value.ref a_LESS), .val (Value.int (x1 &&& (2147483647 : Int32))), .val (Value.int (1 : Int32)), .val (Value.int (1 : Int32)), .val (Value.int (0 : Int32))] [(Value.int (1 : Int32))]))
      refine own_iload X55 hx hby at_108 rfl ?_
      show own_G p e below s _ _ _ (T55.setTop (mkF m 110 #[.val (Value.int x0), .val (Value.int x1), .val (Value.ref b1), .val (Value.int (2 : Int32)), .val (Value.ref a_LESS), .val (Value.int (x1 &&& (2147483647 : Int32))), .val (Value.int (1 : Int32)), .val (Value.int (1 : Int32)), .val (Value.int (0 : Int32))] [(Value.int (1 : Int32)), (Value.int (1 : Int32))]))
      refine own_icmp_ne X55 hx hby at_110 (pc' := 132) (by decide) (by decide) (fun hb56 => by exfalso; revert hb56; decide) (fun hb56 => ?_)
      show own_G p e below s _ _ _ (T55.setTop (mkF m 113 #[.val (Value.int x0), .val (Value.int x1), .val (Value.ref b1), .val (Value.int (2 : Int32)), .val (Value.ref a_LESS), .val (Value.int (x1 &&& (2147483647 : Int32))), .val (Value.int (1 : Int32)), .val (Value.int (1 : Int32)), .val (Value.int (0 : Int32))] []))
      refine own_iload X55 hx hby at_113 rfl ?_
      show own_G p e below s _ _ _ (T55.setTop (mkF m 115 #[.val (Value.int x0), .val (Value.int x1), .val (Value.ref b1), .val (Value.int (2 : Int32)), .val (Value.ref a_LESS), .val (Value.int (x1 &&& (2147483647 : Int32))), .val (Value.int (1 : Int32)), .val (Value.int (1 : Int32)), .val (Value.int (0 : Int32))] [(Value.int (1 : Int32))]))
      refine own_iload X55 hx hby at_115 rfl ?_
      show own_G p e below s _ _ _ (T55.setTop (mkF m 117 #[.val (Value.int x0), .val (Value.int x1), .val (Value.ref b1), .val (Value.int (2 : Int32)), .val (Value.ref a_LESS), .val (Value.int (x1 &&& (2147483647 : Int32))), .val (Value.int (1 : Int32)), .val (Value.int (1 : Int32)), .val (Value.int (0 : Int32))] [(Value.int (0 : Int32)), (Value.int (1 : Int32))]))
      refine own_if_ne X55 hx hby at_117 (pc' := 124) (by decide) (by decide) (fun hb57 => by exfalso; revert hb57; decide) (fun hb57 => ?_)
      show own_G p e below s _ _ _ (T55.setTop (mkF m 120 #[.val (Value.int x0), .val (Value.int x1), .val (Value.ref b1), .val (Value.int (2 : Int32)), .val (Value.ref a_LESS), .val (Value.int (x1 &&& (2147483647 : Int32))), .val (Value.int (1 : Int32)), .val (Value.int (1 : Int32)), .val (Value.int (0 : Int32))] [(Value.int (1 : Int32))]))
      refine own_iconst X55 hx hby at_120 ?_
      show own_G p e below s _ _ _ (T55.setTop (mkF m 121 #[.val (Value.int x0), .val (Value.int x1), .val (Value.ref b1), .val (Value.int (2 : Int32)), .val (Value.ref a_LESS), .val (Value.int (x1 &&& (2147483647 : Int32))), .val (Value.int (1 : Int32)), .val (Value.int (1 : Int32)), .val (Value.int (0 : Int32))] [(Value.int (1 : Int32)), (Value.int (1 : Int32))]))
      refine own_goto X55 hx hby at_121 (pc' := 125) (by decide) (by decide) ?_
      show own_G p e below s _ _ _ (T55.setTop (mkF m 125 #[.val (Value.int x0), .val (Value.int x1), .val (Value.ref b1), .val (Value.int (2 : Int32)), .val (Value.ref a_LESS), .val (Value.int (x1 &&& (2147483647 : Int32))), .val (Value.int (1 : Int32)), .val (Value.int (1 : Int32)), .val (Value.int (0 : Int32))] [(Value.int (1 : Int32)), (Value.int (1 : Int32))]))
      refine own_icmp_ne X55 hx hby at_125 (pc' := 132) (by decide) (by decide) (fun hb58 => by exfalso; revert hb58; decide) (fun hb58 => ?_)
      show own_G p e below s _ _ _ (T55.setTop (mkF m 128 #[.val (Value.int x0), .val (Value.int x1), .val (Value.ref b1), .val (Value.int (2 : Int32)), .val (Value.ref a_LESS), .val (Value.int (x1 &&& (2147483647 : Int32))), .val (Value.int (1 : Int32)), .val (Value.int (1 : Int32)), .val (Value.int (0 : Int32))] []))
      refine own_iconst X55 hx hby at_128 ?_
      show own_G p e below s _ _ _ (T55.setTop (mkF m 129 #[.val (Value.int x0), .val (Value.int x1), .val (Value.ref b1), .val (Value.int (2 : Int32)), .val (Value.ref a_LESS), .val (Value.int (x1 &&& (2147483647 : Int32))), .val (Value.int (1 : Int32)), .val (Value.int (1 : Int32)), .val (Value.int (0 : Int32))] [(Value.int (1 : Int32))]))
      refine own_goto X55 hx hby at_129 (pc' := 133) (by decide) (by decide) ?_
      show own_G p e below s _ _ _ (T55.setTop (mkF m 133 #[.val (Value.int x0), .val (Value.int x1), .val (Value.ref b1), .val (Value.int (2 : Int32)), .val (Value.ref a_LESS), .val (Value.int (x1 &&& (2147483647 : Int32))), .val (Value.int (1 : Int32)), .val (Value.int (1 : Int32)), .val (Value.int (0 : Int32))] [(Value.int (1 : Int32))]))
      refine own_retN X55 hx hby hlk (t := .boolean) Bd.returns (by simp) at_133 (by decide) (by decide) ?_
      exact ⟨rfl, N55⟩
    · show own_G p e below s _ _ _ (T19.setTop (mkF m 66 #[.val (Value.int x0), .val (Value.int x1), .val (Value.ref b1), .val (Value.int (2 : Int32)), .val (Value.ref a_LESS), .val (Value.int (x1 &&& (2147483647 : Int32))), .unset, .unset, .unset] []))
      refine own_iconst X19 hx hby at_66 ?_
      show own_G p e below s _ _ _ (T19.setTop (mkF m 67 #[.val (Value.int x0), .val (Value.int x1), .val (Value.ref b1), .val (Value.int (2 : Int32)), .val (Value.ref a_LESS), .val (Value.int (x1 &&& (2147483647 : Int32))), .unset, .unset, .unset] [(Value.int (1 : Int32))]))
      refine own_istore X19 hx hby at_67 (l' := #[.val (Value.int x0), .val (Value.int x1), .val (Value.ref b1), .val (Value.int (2 : Int32)), .val (Value.ref a_LESS), .val (Value.int (1 : Int32)), .unset, .unset, .unset]) rfl ?_
      show own_G p e below s _ _ _ (T19.setTop (mkF m 69 #[.val (Value.int x0), .val (Value.int x1), .val (Value.ref b1), .val (Value.int (2 : Int32)), .val (Value.ref a_LESS), .val (Value.int (1 : Int32)), .unset, .unset, .unset] []))
      refine own_iloadN X19 hx hby at_69 rfl ?_
      show own_G p e below s _ _ _ (T19.setTop (mkF m 70 #[.val (Value.int x0), .val (Value.int x1), .val (Value.ref b1), .val (Value.int (2 : Int32)), .val (Value.ref a_LESS), .val (Value.int (1 : Int32)), .unset, .unset, .unset] [(Value.int (2 : Int32))]))
      refine own_if_eq X19 hx hby at_70 (pc' := 83) (by decide) (by decide) (fun hb59 => by exfalso; revert hb59; decide) (fun hb59 => ?_)
      show own_G p e below s _ _ _ (T19.setTop (mkF m 73 #[.val (Value.int x0), .val (Value.int x1), .val (Value.ref b1), .val (Value.int (2 : Int32)), .val (Value.ref a_LESS), .val (Value.int (1 : Int32)), .unset, .unset, .unset] []))
      refine own_iloadN X19 hx hby at_73 rfl ?_
      show own_G p e below s _ _ _ (T19.setTop (mkF m 74 #[.val (Value.int x0), .val (Value.int x1), .val (Value.ref b1), .val (Value.int (2 : Int32)), .val (Value.ref a_LESS), .val (Value.int (1 : Int32)), .unset, .unset, .unset] [(Value.int (2 : Int32))]))
      refine own_iconst X19 hx hby at_74 ?_
      show own_G p e below s _ _ _ (T19.setTop (mkF m 75 #[.val (Value.int x0), .val (Value.int x1), .val (Value.ref b1), .val (Value.int (2 : Int32)), .val (Value.ref a_LESS), .val (Value.int (1 : Int32)), .unset, .unset, .unset] [(Value.int (2 : Int32)), (Value.int (2 : Int32))]))
      refine own_icmp_eq X19 hx hby at_75 (pc' := 83) (by decide) (by decide) (fun hb60 => ?_) (fun hb60 => by exfalso; revert hb60; decide)
      show own_G p e below s _ _ _ (T19.setTop (mkF m 83 #[.val (Value.int x0), .val (Value.int x1), .val (Value.ref b1), .val (Value.int (2 : Int32)), .val (Value.ref a_LESS), .val (Value.int (1 : Int32)), .unset, .unset, .unset] []))
      refine own_iconst X19 hx hby at_83 ?_
      show own_G p e below s _ _ _ (T19.setTop (mkF m 84 #[.val (Value.int x0), .val (Value.int x1), .val (Value.ref b1), .val (Value.int (2 : Int32)), .val (Value.ref a_LESS), .val (Value.int (1 : Int32)), .unset, .unset, .unset] [(Value.int (1 : Int32))]))
      refine own_goto X19 hx hby at_84 (pc' := 88) (by decide) (by decide) ?_
      show own_G p e below s _ _ _ (T19.setTop (mkF m 88 #[.val (Value.int x0), .val (Value.int x1), .val (Value.ref b1), .val (Value.int (2 : Int32)), .val (Value.ref a_LESS), .val (Value.int (1 : Int32)), .unset, .unset, .unset] [(Value.int (1 : Int32))]))
      refine own_istore X19 hx hby at_88 (l' := #[.val (Value.int x0), .val (Value.int x1), .val (Value.ref b1), .val (Value.int (2 : Int32)), .val (Value.ref a_LESS), .val (Value.int (1 : Int32)), .val (Value.int (1 : Int32)), .unset, .unset]) rfl ?_
      show own_G p e below s _ _ _ (T19.setTop (mkF m 90 #[.val (Value.int x0), .val (Value.int x1), .val (Value.ref b1), .val (Value.int (2 : Int32)), .val (Value.ref a_LESS), .val (Value.int (1 : Int32)), .val (Value.int (1 : Int32)), .unset, .unset] []))
      refine own_aload X19 hx hby at_90 rfl rfl ?_
      show own_G p e below s _ _ _ (T19.setTop (mkF m 92 #[.val (Value.int x0), .val (Value.int x1), .val (Value.ref b1), .val (Value.int (2 : Int32)), .val (Value.ref a_LESS), .val (Value.int (1 : Int32)), .val (Value.int (1 : Int32)), .unset, .unset] [(Value.ref a_LESS)]))
      obtain ⟨cq61, kq61, q61a, q61b, q61c⟩ := isOf (T := T19) hZ e19 (Exa.ext O20.2 En_LESS.2.1)
      obtain ⟨_, _, ⟨T61, L61, k61, n61⟩, -, X61, ⟨Lc61, hQ61, l61, y61, z61⟩, st61⟩ := X19.virtualBack hx (y := (⟨"com/example/gazetteer/gazetteer/partitions/Condition$Operator", "boundsAbove", "()Z"⟩ : MethodName)) (z := (⟨"com/example/gazetteer/gazetteer/partitions/Condition$Operator", "boundsAbove", "()Z"⟩ : MethodName)) hown (mvT hZ (own_w17 hw)) (mvT hZ (own_w18 hw)) (notFace_of_selects (args := #[]) (mvT hZ (own_w20 hw))) (mvT hZ (own_w20 hw)) (mvT hZ (own_w19 hw)) (by decide) (backOf (W := 0) (own_rm1 l Z a0 hw [] a_LESS a_EQUAL a_NOT_EQUAL a_LESS a_LESS_OR_EQUAL a_GREATER a_GREATER_OR_EQUAL h19 n0 O20  En_EQUAL En_NOT_EQUAL En_LESS En_LESS_OR_EQUAL En_GREATER En_GREATER_OR_EQUAL) hZ (own_w21 hw) (own_w3 hw) (by decide) (by decide)) q61a q61c (g := (mkF m 92 #[.val (Value.int x0), .val (Value.int x1), .val (Value.ref b1), .val (Value.int (2 : Int32)), .val (Value.ref a_LESS), .val (Value.int (1 : Int32)), .val (Value.int (1 : Int32)), .unset, .unset] [(Value.ref a_LESS)])) rfl (by rw [hml]; rfl) (Steps.refl _) (argsL := []) (rest := []) (lenOf own_pd1 rfl) rfl (by show 2 * 0 + _ ≤ _; exact Nat.le_of_eq rfl) (hb hby at_92) (fun _ _ => ⟨rfl, e19, (by decide : (1 : Nat) + 0 ≤ _), (by decide : (6 : Nat) + 0 ≤ _)⟩)
      dsimp only [Pt.U, Pt.locs, Pt.cells, Pt.slots] at X61 l61 y61 z61 st61 hQ61
      subst l61 y61 z61
      obtain ⟨rfl, e61, Nq61⟩ := hQ61
      have N61 := Fr.app N19 Nq61
      refine own_tr st61 ?_
      show own_G p e below s _ _ _ (T61.setTop (mkF m 95 #[.val (Value.int x0), .val (Value.int x1), .val (Value.ref b1), .val (Value.int (2 : Int32)), .val (Value.ref a_LESS), .val (Value.int (1 : Int32)), .val (Value.int (1 : Int32)), .unset, .unset] [(Value.int (own_inc a_LESS a_EQUAL a_LESS a_LESS_OR_EQUAL))]))
      rw [show ((own_inc a_LESS a_EQUAL a_LESS a_LESS_OR_EQUAL) : Int32) = (1 : Int32) from by simp [own_inc, own_ne_ref (Fld.ne En_LESS.2.2 En_EQUAL.2.2 (by decide)), own_ne_ref (Fld.ne En_LESS.2.2 En_LESS_OR_EQUAL.2.2 (by decide))]]
      refine own_istore X61 hx hby at_95 (l' := #[.val (Value.int x0), .val (Value.int x1), .val (Value.ref b1), .val (Value.int (2 : Int32)), .val (Value.ref a_LESS), .val (Value.int (1 : Int32)), .val (Value.int (1 : Int32)), .val (Value.int (1 : Int32)), .unset]) rfl ?_
      show own_G p e below s _ _ _ (T61.setTop (mkF m 97 #[.val (Value.int x0), .val (Value.int x1), .val (Value.ref b1), .val (Value.int (2 : Int32)), .val (Value.ref a_LESS), .val (Value.int (1 : Int32)), .val (Value.int (1 : Int32)), .val (Value.int (1 : Int32)), .unset] []))
      refine own_aload X61 hx hby at_97 rfl rfl ?_
      show own_G p e below s _ _ _ (T61.setTop (mkF m 99 #[.val (Value.int x0), .val (Value.int x1), .val (Value.ref b1), .val (Value.int (2 : Int32)), .val (Value.ref a_LESS), .val (Value.int (1 : Int32)), .val (Value.int (1 : Int32)), .val (Value.int (1 : Int32)), .unset] [(Value.ref a_LESS)]))
      refine own_iload X61 hx hby at_99 rfl ?_
      show own_G p e below s _ _ _ (T61.setTop (mkF m 101 #[.val (Value.int x0), .val (Value.int x1), .val (Value.ref b1), .val (Value.int (2 : Int32)), .val (Value.ref a_LESS), .val (Value.int (1 : Int32)), .val (Value.int (1 : Int32)), .val (Value.int (1 : Int32)), .unset] [(Value.int (1 : Int32)), (Value.ref a_LESS)]))
      obtain ⟨cq62, kq62, q62a, q62b, q62c⟩ := isOf (T := T61) hZ e61 (Exa.ext O20.2 En_LESS.2.1)
      obtain ⟨_, _, ⟨T62, L62, k62, n62⟩, -, X62, ⟨Lc62, hQ62, l62, y62, z62⟩, st62⟩ := X61.virtualBack hx (y := (⟨"com/example/gazetteer/gazetteer/partitions/Condition$Operator", "holds", "(I)Z"⟩ : MethodName)) (z := (⟨"com/example/gazetteer/gazetteer/partitions/Condition$Operator", "holds", "(I)Z"⟩ : MethodName)) hown (mvT hZ (own_w23 hw)) (mvT hZ (own_w24 hw)) (notFace_of_selects (args := #[]) (mvT hZ (own_w26 hw))) (mvT hZ (own_w26 hw)) (mvT hZ (own_w25 hw)) (by decide) (backOf (W := 0) (own_rm2 l Z a0 hw [] a_LESS (1 : Int32) (2 : Int32) h19 n0 O20  (Exa.ext O20.2 En_LESS.2.1) (Fld.ext O20.2 En_LESS.2.2) (by decide)) hZ (own_w27 hw) (own_w3 hw) (by decide) (by decide)) q62a q62c (g := (mkF m 101 #[.val (Value.int x0), .val (Value.int x1), .val (Value.ref b1), .val (Value.int (2 : Int32)), .val (Value.ref a_LESS), .val (Value.int (1 : Int32)), .val (Value.int (1 : Int32)), .val (Value.int (1 : Int32)), .unset] [(Value.int (1 : Int32)), (Value.ref a_LESS)])) rfl (by rw [hml]; rfl) (Steps.refl _) (argsL := [(Value.int (1 : Int32))]) (rest := []) (lenOf own_pd2 rfl) rfl (by show 2 * 0 + _ ≤ _; exact Nat.le_of_eq rfl) (hb hby at_101) (fun _ _ => ⟨rfl, e61, (by decide : (1 : Nat) + 0 ≤ _), (by decide : (6 : Nat) + 0 ≤ _)⟩)
      dsimp only [Pt.U, Pt.locs, Pt.cells, Pt.slots] at X62 l62 y62 z62 st62 hQ62
      subst l62 y62 z62
      obtain ⟨rfl, e62, Nq62⟩ := hQ62
      have N62 := Fr.app N61 Nq62
      refine own_tr st62 ?_
      show own_G p e below s _ _ _ (T62.setTop (mkF m 104 #[.val (Value.int x0), .val (Value.int x1), .val (Value.ref b1), .val (Value.int (2 : Int32)), .val (Value.ref a_LESS), .val (Value.int (1 : Int32)), .val (Value.int (1 : Int32)), .val (Value.int (1 : Int32)), .unset] [(Value.int (own_holds (2 : Int32) (1 : Int32)))]))
      rw [show ((own_holds (2 : Int32) (1 : Int32)) : Int32) = (0 : Int32) from (own_holds_pos (by decide)).2.2.1]
      refine own_istore X62 hx hby at_104 (l' := #[.val (Value.int x0), .val (Value.int x1), .val (Value.ref b1), .val (Value.int (2 : Int32)), .val (Value.ref a_LESS), .val (Value.int (1 : Int32)), .val (Value.int (1 : Int32)), .val (Value.int (1 : Int32)), .val (Value.int (0 : Int32))]) rfl ?_
      show own_G p e below s _ _ _ (T62.setTop (mkF m 106 #[.val (Value.int x0), .val (Value.int x1), .val (Value.ref b1), .val (Value.int (2 : Int32)), .val (Value.ref a_LESS), .val (Value.int (1 : Int32)), .val (Value.int (1 : Int32)), .val (Value.int (1 : Int32)), .val (Value.int (0 : Int32))] []))
      refine own_iload X62 hx hby at_106 rfl ?_
      show own_G p e below s _ _ _ (T62.setTop (mkF m 108 #[.val (Value.int x0), .val (Value.int x1), .val (Value.ref b1), .val (Value.int (2 : Int32)), .val (Value.ref a_LESS), .val (Value.int (1 : Int32)), .val (Value.int (1 : Int32)), .val (Value.int (1 : Int32)), .val (Value.int (0 : Int32))] [(Value.int (1 : Int32))]))
      refine own_iload X62 hx hby at_108 rfl ?_
      show own_G p e below s _ _ _ (T62.setTop (mkF m 110 #[.val (Value.int x0), .val (Value.int x1), .val (Value.ref b1), .val (Value.int (2 : Int32)), .val (Value.ref a_LESS), .val (Value.int (1 : Int32)), .val (Value.int (1 : Int32)), .val (Value.int (1 : Int32)), .val (Value.int (0 : Int32))] [(Value.int (1 : Int32)), (Value.int (1 : Int32))]))
      refine own_icmp_ne X62 hx hby at_110 (pc' := 132) (by decide) (by decide) (fun hb63 => by exfalso; revert hb63; decide) (fun hb63 => ?_)
      show own_G p e below s _ _ _ (T62.setTop (mkF m 113 #[.val (Value.int x0), .val (Value.int x1), .val (Value.ref b1), .val (Value.int (2 : Int32)), .val (Value.ref a_LESS), .val (Value.int (1 : Int32)), .val (Value.int (1 : Int32)), .val (Value.int (1 : Int32)), .val (Value.int (0 : Int32))] []))
      refine own_iload X62 hx hby at_113 rfl ?_
      show own_G p e below s _ _ _ (T62.setTop (mkF m 115 #[.val (Value.int x0), .val (Value.int x1), .val (Value.ref b1), .val (Value.int (2 : Int32)), .val (Value.ref a_LESS), .val (Value.int (1 : Int32)), .val (Value.int (1 : Int32)), .val (Value.int (1 : Int32)), .val (Value.int (0 : Int32))] [(Value.int (1 : Int32))]))
      refine own_iload X62 hx hby at_115 rfl ?_
      show own_G p e below s _ _ _ (T62.setTop (mkF m 117 #[.val (Value.int x0), .val (Value.int x1), .val (Value.ref b1), .val (Value.int (2 : Int32)), .val (Value.ref a_LESS), .val (Value.int (1 : Int32)), .val (Value.int (1 : Int32)), .val (Value.int (1 : Int32)), .val (Value.int (0 : Int32))] [(Value.int (0 : Int32)), (Value.int (1 : Int32))]))
      refine own_if_ne X62 hx hby at_117 (pc' := 124) (by decide) (by decide) (fun hb64 => by exfalso; revert hb64; decide) (fun hb64 => ?_)
      show own_G p e below s _ _ _ (T62.setTop (mkF m 120 #[.val (Value.int x0), .val (Value.int x1), .val (Value.ref b1), .val (Value.int (2 : Int32)), .val (Value.ref a_LESS), .val (Value.int (1 : Int32)), .val (Value.int (1 : Int32)), .val (Value.int (1 : Int32)), .val (Value.int (0 : Int32))] [(Value.int (1 : Int32))]))
      refine own_iconst X62 hx hby at_120 ?_
      show own_G p e below s _ _ _ (T62.setTop (mkF m 121 #[.val (Value.int x0), .val (Value.int x1), .val (Value.ref b1), .val (Value.int (2 : Int32)), .val (Value.ref a_LESS), .val (Value.int (1 : Int32)), .val (Value.int (1 : Int32)), .val (Value.int (1 : Int32)), .val (Value.int (0 : Int32))] [(Value.int (1 : Int32)), (Value.int (1 : Int32))]))
      refine own_goto X62 hx hby at_121 (pc' := 125) (by decide) (by decide) ?_
      show own_G p e below s _ _ _ (T62.setTop (mkF m 125 #[.val (Value.int x0), .val (Value.int x1), .val (Value.ref b1), .val (Value.int (2 : Int32)), .val (Value.ref a_LESS), .val (Value.int (1 : Int32)), .val (Value.int (1 : Int32)), .val (Value.int (1 : Int32)), .val (Value.int (0 : Int32))] [(Value.int (1 : Int32)), (Value.int (1 : Int32))]))
      refine own_icmp_ne X62 hx hby at_125 (pc' := 132) (by decide) (by decide) (fun hb65 => by exfalso; revert hb65; decide) (fun hb65 => ?_)
      show own_G p e below s _ _ _ (T62.setTop (mkF m 128 #[.val (Value.int x0), .val (Value.int x1), .val (Value.ref b1), .val (Value.int (2 : Int32)), .val (Value.ref a_LESS), .val (Value.int (1 : Int32)), .val (Value.int (1 : Int32)), .val (Value.int (1 : Int32)), .val (Value.int (0 : Int32))] []))
      refine own_iconst X62 hx hby at_128 ?_
      show own_G p e below s _ _ _ (T62.setTop (mkF m 129 #[.val (Value.int x0), .val (Value.int x1), .val (Value.ref b1), .val (Value.int (2 : Int32)), .val (Value.ref a_LESS), .val (Value.int (1 : Int32)), .val (Value.int (1 : Int32)), .val (Value.int (1 : Int32)), .val (Value.int (0 : Int32))] [(Value.int (1 : Int32))]))
      refine own_goto X62 hx hby at_129 (pc' := 133) (by decide) (by decide) ?_
      show own_G p e below s _ _ _ (T62.setTop (mkF m 133 #[.val (Value.int x0), .val (Value.int x1), .val (Value.ref b1), .val (Value.int (2 : Int32)), .val (Value.ref a_LESS), .val (Value.int (1 : Int32)), .val (Value.int (1 : Int32)), .val (Value.int (1 : Int32)), .val (Value.int (0 : Int32))] [(Value.int (1 : Int32))]))
      refine own_retN X62 hx hby hlk (t := .boolean) Bd.returns (by simp) at_133 (by decide) (by decide) ?_
      exact ⟨rfl, N62⟩
  · rw [hk]
    show own_G p e below s _ _ _ (T19.setTop (mkF m 49 #[.val (Value.int x0), .val (Value.int x1), .val (Value.ref b1), .unset, .unset, .unset, .unset, .unset, .unset] [(Value.int (3 : Int32))]))
    refine own_istoreN X19 hx hby at_49 (l' := #[.val (Value.int x0), .val (Value.int x1), .val (Value.ref b1), .val (Value.int (3 : Int32)), .unset, .unset, .unset, .unset, .unset]) rfl ?_
    show own_G p e below s _ _ _ (T19.setTop (mkF m 50 #[.val (Value.int x0), .val (Value.int x1), .val (Value.ref b1), .val (Value.int (3 : Int32)), .unset, .unset, .unset, .unset, .unset] []))
    refine own_aloadN X19 hx hby at_50 rfl rfl ?_
    show own_G p e below s _ _ _ (T19.setTop (mkF m 51 #[.val (Value.int x0), .val (Value.int x1), .val (Value.ref b1), .val (Value.int (3 : Int32)), .unset, .unset, .unset, .unset, .unset] [(Value.ref b1)]))
    refine own_iloadN X19 hx hby at_51 rfl ?_
    show own_G p e below s _ _ _ (T19.setTop (mkF m 52 #[.val (Value.int x0), .val (Value.int x1), .val (Value.ref b1), .val (Value.int (3 : Int32)), .unset, .unset, .unset, .unset, .unset] [(Value.int (3 : Int32)), (Value.ref b1)]))
    refine own_aaload X19 hx hby hZ e19 A19 rfl (j := (3 : Int32)) (i := 3) (by decide) (by decide) at_52 ?_
    show own_G p e below s _ _ _ (T19.setTop (mkF m 53 #[.val (Value.int x0), .val (Value.int x1), .val (Value.ref b1), .val (Value.int (3 : Int32)), .unset, .unset, .unset, .unset, .unset] [(Value.ref a_LESS_OR_EQUAL)]))
    refine own_astore X19 hx hby at_53 rfl (l' := #[.val (Value.int x0), .val (Value.int x1), .val (Value.ref b1), .val (Value.int (3 : Int32)), .val (Value.ref a_LESS_OR_EQUAL), .unset, .unset, .unset, .unset]) rfl ?_
    show own_G p e below s _ _ _ (T19.setTop (mkF m 55 #[.val (Value.int x0), .val (Value.int x1), .val (Value.ref b1), .val (Value.int (3 : Int32)), .val (Value.ref a_LESS_OR_EQUAL), .unset, .unset, .unset, .unset] []))
    refine own_iloadN X19 hx hby at_55 rfl ?_
    show own_G p e below s _ _ _ (T19.setTop (mkF m 56 #[.val (Value.int x0), .val (Value.int x1), .val (Value.ref b1), .val (Value.int (3 : Int32)), .val (Value.ref a_LESS_OR_EQUAL), .unset, .unset, .unset, .unset] [(Value.int x1)]))
    refine own_ldcI X19 hx hby hZ hown (own_w16 hw) at_56 ?_
    show own_G p e below s _ _ _ (T19.setTop (mkF m 58 #[.val (Value.int x0), .val (Value.int x1), .val (Value.ref b1), .val (Value.int (3 : Int32)), .val (Value.ref a_LESS_OR_EQUAL), .unset, .unset, .unset, .unset] [(Value.int (2147483647 : Int32)), (Value.int x1)]))
    refine own_iand X19 hx hby at_58 ?_
    show own_G p e below s _ _ _ (T19.setTop (mkF m 59 #[.val (Value.int x0), .val (Value.int x1), .val (Value.ref b1), .val (Value.int (3 : Int32)), .val (Value.ref a_LESS_OR_EQUAL), .unset, .unset, .unset, .unset] [(Value.int (x1 &&& (2147483647 : Int32)))]))
    refine own_istore X19 hx hby at_59 (l' := #[.val (Value.int x0), .val (Value.int x1), .val (Value.ref b1), .val (Value.int (3 : Int32)), .val (Value.ref a_LESS_OR_EQUAL), .val (Value.int (x1 &&& (2147483647 : Int32))), .unset, .unset, .unset]) rfl ?_
    show own_G p e below s _ _ _ (T19.setTop (mkF m 61 #[.val (Value.int x0), .val (Value.int x1), .val (Value.ref b1), .val (Value.int (3 : Int32)), .val (Value.ref a_LESS_OR_EQUAL), .val (Value.int (x1 &&& (2147483647 : Int32))), .unset, .unset, .unset] []))
    refine own_iload X19 hx hby at_61 rfl ?_
    show own_G p e below s _ _ _ (T19.setTop (mkF m 63 #[.val (Value.int x0), .val (Value.int x1), .val (Value.ref b1), .val (Value.int (3 : Int32)), .val (Value.ref a_LESS_OR_EQUAL), .val (Value.int (x1 &&& (2147483647 : Int32))), .unset, .unset, .unset] [(Value.int (x1 &&& (2147483647 : Int32)))]))
    refine own_if_ne X19 hx hby at_63 (pc' := 69) (by decide) (by decide) (fun hb66 => ?_) (fun hb66 => ?_)
    · show own_G p e below s _ _ _ (T19.setTop (mkF m 69 #[.val (Value.int x0), .val (Value.int x1), .val (Value.ref b1), .val (Value.int (3 : Int32)), .val (Value.ref a_LESS_OR_EQUAL), .val (Value.int (x1 &&& (2147483647 : Int32))), .unset, .unset, .unset] []))
      refine own_iloadN X19 hx hby at_69 rfl ?_
      show own_G p e below s _ _ _ (T19.setTop (mkF m 70 #[.val (Value.int x0), .val (Value.int x1), .val (Value.ref b1), .val (Value.int (3 : Int32)), .val (Value.ref a_LESS_OR_EQUAL), .val (Value.int (x1 &&& (2147483647 : Int32))), .unset, .unset, .unset] [(Value.int (3 : Int32))]))
      refine own_if_eq X19 hx hby at_70 (pc' := 83) (by decide) (by decide) (fun hb67 => by exfalso; revert hb67; decide) (fun hb67 => ?_)
      show own_G p e below s _ _ _ (T19.setTop (mkF m 73 #[.val (Value.int x0), .val (Value.int x1), .val (Value.ref b1), .val (Value.int (3 : Int32)), .val (Value.ref a_LESS_OR_EQUAL), .val (Value.int (x1 &&& (2147483647 : Int32))), .unset, .unset, .unset] []))
      refine own_iloadN X19 hx hby at_73 rfl ?_
      show own_G p e below s _ _ _ (T19.setTop (mkF m 74 #[.val (Value.int x0), .val (Value.int x1), .val (Value.ref b1), .val (Value.int (3 : Int32)), .val (Value.ref a_LESS_OR_EQUAL), .val (Value.int (x1 &&& (2147483647 : Int32))), .unset, .unset, .unset] [(Value.int (3 : Int32))]))
      refine own_iconst X19 hx hby at_74 ?_
      show own_G p e below s _ _ _ (T19.setTop (mkF m 75 #[.val (Value.int x0), .val (Value.int x1), .val (Value.ref b1), .val (Value.int (3 : Int32)), .val (Value.ref a_LESS_OR_EQUAL), .val (Value.int (x1 &&& (2147483647 : Int32))), .unset, .unset, .unset] [(Value.int (2 : Int32)), (Value.int (3 : Int32))]))
      refine own_icmp_eq X19 hx hby at_75 (pc' := 83) (by decide) (by decide) (fun hb68 => by exfalso; revert hb68; decide) (fun hb68 => ?_)
      show own_G p e below s _ _ _ (T19.setTop (mkF m 78 #[.val (Value.int x0), .val (Value.int x1), .val (Value.ref b1), .val (Value.int (3 : Int32)), .val (Value.ref a_LESS_OR_EQUAL), .val (Value.int (x1 &&& (2147483647 : Int32))), .unset, .unset, .unset] []))
      refine own_iloadN X19 hx hby at_78 rfl ?_
      show own_G p e below s _ _ _ (T19.setTop (mkF m 79 #[.val (Value.int x0), .val (Value.int x1), .val (Value.ref b1), .val (Value.int (3 : Int32)), .val (Value.ref a_LESS_OR_EQUAL), .val (Value.int (x1 &&& (2147483647 : Int32))), .unset, .unset, .unset] [(Value.int (3 : Int32))]))
      refine own_iconst X19 hx hby at_79 ?_
      show own_G p e below s _ _ _ (T19.setTop (mkF m 80 #[.val (Value.int x0), .val (Value.int x1), .val (Value.ref b1), .val (Value.int (3 : Int32)), .val (Value.ref a_LESS_OR_EQUAL), .val (Value.int (x1 &&& (2147483647 : Int32))), .unset, .unset, .unset] [(Value.int (3 : Int32)), (Value.int (3 : Int32))]))
      refine own_icmp_ne X19 hx hby at_80 (pc' := 87) (by decide) (by decide) (fun hb69 => by exfalso; revert hb69; decide) (fun hb69 => ?_)
      show own_G p e below s _ _ _ (T19.setTop (mkF m 83 #[.val (Value.int x0), .val (Value.int x1), .val (Value.ref b1), .val (Value.int (3 : Int32)), .val (Value.ref a_LESS_OR_EQUAL), .val (Value.int (x1 &&& (2147483647 : Int32))), .unset, .unset, .unset] []))
      refine own_iconst X19 hx hby at_83 ?_
      show own_G p e below s _ _ _ (T19.setTop (mkF m 84 #[.val (Value.int x0), .val (Value.int x1), .val (Value.ref b1), .val (Value.int (3 : Int32)), .val (Value.ref a_LESS_OR_EQUAL), .val (Value.int (x1 &&& (2147483647 : Int32))), .unset, .unset, .unset] [(Value.int (1 : Int32))]))
      refine own_goto X19 hx hby at_84 (pc' := 88) (by decide) (by decide) ?_
      show own_G p e below s _ _ _ (T19.setTop (mkF m 88 #[.val (Value.int x0), .val (Value.int x1), .val (Value.ref b1), .val (Value.int (3 : Int32)), .val (Value.ref a_LESS_OR_EQUAL), .val (Value.int (x1 &&& (2147483647 : Int32))), .unset, .unset, .unset] [(Value.int (1 : Int32))]))
      refine own_istore X19 hx hby at_88 (l' := #[.val (Value.int x0), .val (Value.int x1), .val (Value.ref b1), .val (Value.int (3 : Int32)), .val (Value.ref a_LESS_OR_EQUAL), .val (Value.int (x1 &&& (2147483647 : Int32))), .val (Value.int (1 : Int32)), .unset, .unset]) rfl ?_
      show own_G p e below s _ _ _ (T19.setTop (mkF m 90 #[.val (Value.int x0), .val (Value.int x1), .val (Value.ref b1), .val (Value.int (3 : Int32)), .val (Value.ref a_LESS_OR_EQUAL), .val (Value.int (x1 &&& (2147483647 : Int32))), .val (Value.int (1 : Int32)), .unset, .unset] []))
      refine own_aload X19 hx hby at_90 rfl rfl ?_
      show own_G p e below s _ _ _ (T19.setTop (mkF m 92 #[.val (Value.int x0), .val (Value.int x1), .val (Value.ref b1), .val (Value.int (3 : Int32)), .val (Value.ref a_LESS_OR_EQUAL), .val (Value.int (x1 &&& (2147483647 : Int32))), .val (Value.int (1 : Int32)), .unset, .unset] [(Value.ref a_LESS_OR_EQUAL)]))
      obtain ⟨cq70, kq70, q70a, q70b, q70c⟩ := isOf (T := T19) hZ e19 (Exa.ext O20.2 En_LESS_OR_EQUAL.2.1)
      obtain ⟨_, _, ⟨T70, L70, k70, n70⟩, -, X70, ⟨Lc70, hQ70, l70, y70, z70⟩, st70⟩ := X19.virtualBack hx (y := (⟨"com/example/gazetteer/gazetteer/partitions/Condition$Operator", "boundsAbove", "()Z"⟩ : MethodName)) (z := (⟨"com/example/gazetteer/gazetteer/partitions/Condition$Operator", "boundsAbove", "()Z"⟩ : MethodName)) hown (mvT hZ (own_w17 hw)) (mvT hZ (own_w18 hw)) (notFace_of_selects (args := #[]) (mvT hZ (own_w20 hw))) (mvT hZ (own_w20 hw)) (mvT hZ (own_w19 hw)) (by decide) (backOf (W := 0) (own_rm1 l Z a0 hw [] a_LESS_OR_EQUAL a_EQUAL a_NOT_EQUAL a_LESS a_LESS_OR_EQUAL a_GREATER a_GREATER_OR_EQUAL h19 n0 O20  En_EQUAL En_NOT_EQUAL En_LESS En_LESS_OR_EQUAL En_GREATER En_GREATER_OR_EQUAL) hZ (own_w21 hw) (own_w3 hw) (by decide) (by decide)) q70a q70c (g := (mkF m 92 #[.val (Value.int x0), .val (Value.int x1), .val (Value.ref b1), .val (Value.int (3 : Int32)), .val (Value.ref a_LESS_OR_EQUAL), .val (Value.int (x1 &&& (2147483647 : Int32))), .val (Value.int (1 : Int32)), .unset, .unset] [(Value.ref a_LESS_OR_EQUAL)])) rfl (by rw [hml]; rfl) (Steps.refl _) (argsL := []) (rest := []) (lenOf own_pd1 rfl) rfl (by show 2 * 0 + _ ≤ _; exact Nat.le_of_eq rfl) (hb hby at_92) (fun _ _ => ⟨rfl, e19, (by decide : (1 : Nat) + 0 ≤ _), (by decide : (6 : Nat) + 0 ≤ _)⟩)
      dsimp only [Pt.U, Pt.locs, Pt.cells, Pt.slots] at X70 l70 y70 z70 st70 hQ70
      subst l70 y70 z70
      obtain ⟨rfl, e70, Nq70⟩ := hQ70
      have N70 := Fr.app N19 Nq70
      refine own_tr st70 ?_
      show own_G p e below s _ _ _ (T70.setTop (mkF m 95 #[.val (Value.int x0), .val (Value.int x1), .val (Value.ref b1), .val (Value.int (3 : Int32)), .val (Value.ref a_LESS_OR_EQUAL), .val (Value.int (x1 &&& (2147483647 : Int32))), .val (Value.int (1 : Int32)), .unset, .unset] [(Value.int (own_inc a_LESS_OR_EQUAL a_EQUAL a_LESS a_LESS_OR_EQUAL))]))
      rw [show ((own_inc a_LESS_OR_EQUAL a_EQUAL a_LESS a_LESS_OR_EQUAL) : Int32) = (1 : Int32) from by simp [own_inc, own_ne_ref (Fld.ne En_LESS_OR_EQUAL.2.2 En_EQUAL.2.2 (by decide)), own_ne_ref (Fld.ne En_LESS_OR_EQUAL.2.2 En_LESS.2.2 (by decide))]]
      refine own_istore X70 hx hby at_95 (l' := #[.val (Value.int x0), .val (Value.int x1), .val (Value.ref b1), .val (Value.int (3 : Int32)), .val (Value.ref a_LESS_OR_EQUAL), .val (Value.int (x1 &&& (2147483647 : Int32))), .val (Value.int (1 : Int32)), .val (Value.int (1 : Int32)), .unset]) rfl ?_
      show own_G p e below s _ _ _ (T70.setTop (mkF m 97 #[.val (Value.int x0), .val (Value.int x1), .val (Value.ref b1), .val (Value.int (3 : Int32)), .val (Value.ref a_LESS_OR_EQUAL), .val (Value.int (x1 &&& (2147483647 : Int32))), .val (Value.int (1 : Int32)), .val (Value.int (1 : Int32)), .unset] []))
      refine own_aload X70 hx hby at_97 rfl rfl ?_
      show own_G p e below s _ _ _ (T70.setTop (mkF m 99 #[.val (Value.int x0), .val (Value.int x1), .val (Value.ref b1), .val (Value.int (3 : Int32)), .val (Value.ref a_LESS_OR_EQUAL), .val (Value.int (x1 &&& (2147483647 : Int32))), .val (Value.int (1 : Int32)), .val (Value.int (1 : Int32)), .unset] [(Value.ref a_LESS_OR_EQUAL)]))
      refine own_iload X70 hx hby at_99 rfl ?_
      show own_G p e below s _ _ _ (T70.setTop (mkF m 101 #[.val (Value.int x0), .val (Value.int x1), .val (Value.ref b1), .val (Value.int (3 : Int32)), .val (Value.ref a_LESS_OR_EQUAL), .val (Value.int (x1 &&& (2147483647 : Int32))), .val (Value.int (1 : Int32)), .val (Value.int (1 : Int32)), .unset] [(Value.int (x1 &&& (2147483647 : Int32))), (Value.ref a_LESS_OR_EQUAL)]))
      obtain ⟨cq71, kq71, q71a, q71b, q71c⟩ := isOf (T := T70) hZ e70 (Exa.ext O20.2 En_LESS_OR_EQUAL.2.1)
      obtain ⟨_, _, ⟨T71, L71, k71, n71⟩, -, X71, ⟨Lc71, hQ71, l71, y71, z71⟩, st71⟩ := X70.virtualBack hx (y := (⟨"com/example/gazetteer/gazetteer/partitions/Condition$Operator", "holds", "(I)Z"⟩ : MethodName)) (z := (⟨"com/example/gazetteer/gazetteer/partitions/Condition$Operator", "holds", "(I)Z"⟩ : MethodName)) hown (mvT hZ (own_w23 hw)) (mvT hZ (own_w24 hw)) (notFace_of_selects (args := #[]) (mvT hZ (own_w26 hw))) (mvT hZ (own_w26 hw)) (mvT hZ (own_w25 hw)) (by decide) (backOf (W := 0) (own_rm2 l Z a0 hw [] a_LESS_OR_EQUAL (x1 &&& (2147483647 : Int32)) (3 : Int32) h19 n0 O20  (Exa.ext O20.2 En_LESS_OR_EQUAL.2.1) (Fld.ext O20.2 En_LESS_OR_EQUAL.2.2) (by decide)) hZ (own_w27 hw) (own_w3 hw) (by decide) (by decide)) q71a q71c (g := (mkF m 101 #[.val (Value.int x0), .val (Value.int x1), .val (Value.ref b1), .val (Value.int (3 : Int32)), .val (Value.ref a_LESS_OR_EQUAL), .val (Value.int (x1 &&& (2147483647 : Int32))), .val (Value.int (1 : Int32)), .val (Value.int (1 : Int32)), .unset] [(Value.int (x1 &&& (2147483647 : Int32))), (Value.ref a_LESS_OR_EQUAL)])) rfl (by rw [hml]; rfl) (Steps.refl _) (argsL := [(Value.int (x1 &&& (2147483647 : Int32)))]) (rest := []) (lenOf own_pd2 rfl) rfl (by show 2 * 0 + _ ≤ _; exact Nat.le_of_eq rfl) (hb hby at_101) (fun _ _ => ⟨rfl, e70, (by decide : (1 : Nat) + 0 ≤ _), (by decide : (6 : Nat) + 0 ≤ _)⟩)
      dsimp only [Pt.U, Pt.locs, Pt.cells, Pt.slots] at X71 l71 y71 z71 st71 hQ71
      subst l71 y71 z71
      obtain ⟨rfl, e71, Nq71⟩ := hQ71
      have N71 := Fr.app N70 Nq71
      refine own_tr st71 ?_
      show own_G p e below s _ _ _ (T71.setTop (mkF m 104 #[.val (Value.int x0), .val (Value.int x1), .val (Value.ref b1), .val (Value.int (3 : Int32)), .val (Value.ref a_LESS_OR_EQUAL), .val (Value.int (x1 &&& (2147483647 : Int32))), .val (Value.int (1 : Int32)), .val (Value.int (1 : Int32)), .unset] [(Value.int (own_holds (3 : Int32) (x1 &&& (2147483647 : Int32))))]))
      rw [show ((own_holds (3 : Int32) (x1 &&& (2147483647 : Int32))) : Int32) = (0 : Int32) from (own_holds_pos (own_posAnd hb66)).2.2.2.1]
      refine own_istore X71 hx hby at_104 (l' := #[.val (Value.int x0), .val (Value.int x1), .val (Value.ref b1), .val (Value.int (3 : Int32)), .val (Value.ref a_LESS_OR_EQUAL), .val (Value.int (x1 &&& (2147483647 : Int32))), .val (Value.int (1 : Int32)), .val (Value.int (1 : Int32)), .val (Value.int (0 : Int32))]) rfl ?_
      show own_G p e below s _ _ _ (T71.setTop (mkF m 106 #[.val (Value.int x0), .val (Value.int x1), .val (Value.ref b1), .val (Value.int (3 : Int32)), .val (Value.ref a_LESS_OR_EQUAL), .val (Value.int (x1 &&& (2147483647 : Int32))), .val (Value.int (1 : Int32)), .val (Value.int (1 : Int32)), .val (Value.int (0 : Int32))] []))
      refine own_iload X71 hx hby at_106 rfl ?_
      show own_G p e below s _ _ _ (T71.setTop (mkF m 108 #[.val (Value.int x0), .val (Value.int x1), .val (Value.ref b1), .val (Value.int (3 : Int32)), .val (Value.ref a_LESS_OR_EQUAL), .val (Value.int (x1 &&& (2147483647 : Int32))), .val (Value.int (1 : Int32)), .val (Value.int (1 : Int32)), .val (Value.int (0 : Int32))] [(Value.int (1 : Int32))]))
      refine own_iload X71 hx hby at_108 rfl ?_
      show own_G p e below s _ _ _ (T71.setTop (mkF m 110 #[.val (Value.int x0), .val (Value.int x1), .val (Value.ref b1), .val (Value.int (3 : Int32)), .val (Value.ref a_LESS_OR_EQUAL), .val (Value.int (x1 &&& (2147483647 : Int32))), .val (Value.int (1 : Int32)), .val (Value.int (1 : Int32)), .val (Value.int (0 : Int32))] [(Value.int (1 : Int32)), (Value.int (1 : Int32))]))
      refine own_icmp_ne X71 hx hby at_110 (pc' := 132) (by decide) (by decide) (fun hb72 => by exfalso; revert hb72; decide) (fun hb72 => ?_)
      show own_G p e below s _ _ _ (T71.setTop (mkF m 113 #[.val (Value.int x0), .val (Value.int x1), .val (Value.ref b1), .val (Value.int (3 : Int32)), .val (Value.ref a_LESS_OR_EQUAL), .val (Value.int (x1 &&& (2147483647 : Int32))), .val (Value.int (1 : Int32)), .val (Value.int (1 : Int32)), .val (Value.int (0 : Int32))] []))
      refine own_iload X71 hx hby at_113 rfl ?_
      show own_G p e below s _ _ _ (T71.setTop (mkF m 115 #[.val (Value.int x0), .val (Value.int x1), .val (Value.ref b1), .val (Value.int (3 : Int32)), .val (Value.ref a_LESS_OR_EQUAL), .val (Value.int (x1 &&& (2147483647 : Int32))), .val (Value.int (1 : Int32)), .val (Value.int (1 : Int32)), .val (Value.int (0 : Int32))] [(Value.int (1 : Int32))]))
      refine own_iload X71 hx hby at_115 rfl ?_
      show own_G p e below s _ _ _ (T71.setTop (mkF m 117 #[.val (Value.int x0), .val (Value.int x1), .val (Value.ref b1), .val (Value.int (3 : Int32)), .val (Value.ref a_LESS_OR_EQUAL), .val (Value.int (x1 &&& (2147483647 : Int32))), .val (Value.int (1 : Int32)), .val (Value.int (1 : Int32)), .val (Value.int (0 : Int32))] [(Value.int (0 : Int32)), (Value.int (1 : Int32))]))
      refine own_if_ne X71 hx hby at_117 (pc' := 124) (by decide) (by decide) (fun hb73 => by exfalso; revert hb73; decide) (fun hb73 => ?_)
      show own_G p e below s _ _ _ (T71.setTop (mkF m 120 #[.val (Value.int x0), .val (Value.int x1), .val (Value.ref b1), .val (Value.int (3 : Int32)), .val (Value.ref a_LESS_OR_EQUAL), .val (Value.int (x1 &&& (2147483647 : Int32))), .val (Value.int (1 : Int32)), .val (Value.int (1 : Int32)), .val (Value.int (0 : Int32))] [(Value.int (1 : Int32))]))
      refine own_iconst X71 hx hby at_120 ?_
      show own_G p e below s _ _ _ (T71.setTop (mkF m 121 #[.val (Value.int x0), .val (Value.int x1), .val (Value.ref b1), .val (Value.int (3 : Int32)), .val (Value.ref a_LESS_OR_EQUAL), .val (Value.int (x1 &&& (2147483647 : Int32))), .val (Value.int (1 : Int32)), .val (Value.int (1 : Int32)), .val (Value.int (0 : Int32))] [(Value.int (1 : Int32)), (Value.int (1 : Int32))]))
      refine own_goto X71 hx hby at_121 (pc' := 125) (by decide) (by decide) ?_
      show own_G p e below s _ _ _ (T71.setTop (mkF m 125 #[.val (Value.int x0), .val (Value.int x1), .val (Value.ref b1), .val (Value.int (3 : Int32)), .val (Value.ref a_LESS_OR_EQUAL), .val (Value.int (x1 &&& (2147483647 : Int32))), .val (Value.int (1 : Int32)), .val (Value.int (1 : Int32)), .val (Value.int (0 : Int32))] [(Value.int (1 : Int32)), (Value.int (1 : Int32))]))
      refine own_icmp_ne X71 hx hby at_125 (pc' := 132) (by decide) (by decide) (fun hb74 => by exfalso; revert hb74; decide) (fun hb74 => ?_)
      show own_G p e below s _ _ _ (T71.setTop (mkF m 128 #[.val (Value.int x0), .val (Value.int x1), .val (Value.ref b1), .val (Value.int (3 : Int32)), .val (Value.ref a_LESS_OR_EQUAL), .val (Value.int (x1 &&& (2147483647 : Int32))), .val (Value.int (1 : Int32)), .val (Value.int (1 : Int32)), .val (Value.int (0 : Int32))] []))
      refine own_iconst X71 hx hby at_128 ?_
      show own_G p e below s _ _ _ (T71.setTop (mkF m 129 #[.val (Value.int x0), .val (Value.int x1), .val (Value.ref b1), .val (Value.int (3 : Int32)), .val (Value.ref a_LESS_OR_EQUAL), .val (Value.int (x1 &&& (2147483647 : Int32))), .val (Value.int (1 : Int32)), .val (Value.int (1 : Int32)), .val (Value.int (0 : Int32))] [(Value.int (1 : Int32))]))
      refine own_goto X71 hx hby at_129 (pc' := 133) (by decide) (by decide) ?_
      show own_G p e below s _ _ _ (T71.setTop (mkF m 133 #[.val (Value.int x0), .val (Value.int x1), .val (Value.ref b1), .val (Value.int (3 : Int32)), .val (Value.ref a_LESS_OR_EQUAL), .val (Value.int (x1 &&& (2147483647 : Int32))), .val (Value.int (1 : Int32)), .val (Value.int (1 : Int32)), .val (Value.int (0 : Int32))] [(Value.int (1 : Int32))]))
      refine own_retN X71 hx hby hlk (t := .boolean) Bd.returns (by simp) at_133 (by decide) (by decide) ?_
      exact ⟨rfl, N71⟩
    · show own_G p e below s _ _ _ (T19.setTop (mkF m 66 #[.val (Value.int x0), .val (Value.int x1), .val (Value.ref b1), .val (Value.int (3 : Int32)), .val (Value.ref a_LESS_OR_EQUAL), .val (Value.int (x1 &&& (2147483647 : Int32))), .unset, .unset, .unset] []))
      refine own_iconst X19 hx hby at_66 ?_
      show own_G p e below s _ _ _ (T19.setTop (mkF m 67 #[.val (Value.int x0), .val (Value.int x1), .val (Value.ref b1), .val (Value.int (3 : Int32)), .val (Value.ref a_LESS_OR_EQUAL), .val (Value.int (x1 &&& (2147483647 : Int32))), .unset, .unset, .unset] [(Value.int (1 : Int32))]))
      refine own_istore X19 hx hby at_67 (l' := #[.val (Value.int x0), .val (Value.int x1), .val (Value.ref b1), .val (Value.int (3 : Int32)), .val (Value.ref a_LESS_OR_EQUAL), .val (Value.int (1 : Int32)), .unset, .unset, .unset]) rfl ?_
      show own_G p e below s _ _ _ (T19.setTop (mkF m 69 #[.val (Value.int x0), .val (Value.int x1), .val (Value.ref b1), .val (Value.int (3 : Int32)), .val (Value.ref a_LESS_OR_EQUAL), .val (Value.int (1 : Int32)), .unset, .unset, .unset] []))
      refine own_iloadN X19 hx hby at_69 rfl ?_
      show own_G p e below s _ _ _ (T19.setTop (mkF m 70 #[.val (Value.int x0), .val (Value.int x1), .val (Value.ref b1), .val (Value.int (3 : Int32)), .val (Value.ref a_LESS_OR_EQUAL), .val (Value.int (1 : Int32)), .unset, .unset, .unset] [(Value.int (3 : Int32))]))
      refine own_if_eq X19 hx hby at_70 (pc' := 83) (by decide) (by decide) (fun hb75 => by exfalso; revert hb75; decide) (fun hb75 => ?_)
      show own_G p e below s _ _ _ (T19.setTop (mkF m 73 #[.val (Value.int x0), .val (Value.int x1), .val (Value.ref b1), .val (Value.int (3 : Int32)), .val (Value.ref a_LESS_OR_EQUAL), .val (Value.int (1 : Int32)), .unset, .unset, .unset] []))
      refine own_iloadN X19 hx hby at_73 rfl ?_
      show own_G p e below s _ _ _ (T19.setTop (mkF m 74 #[.val (Value.int x0), .val (Value.int x1), .val (Value.ref b1), .val (Value.int (3 : Int32)), .val (Value.ref a_LESS_OR_EQUAL), .val (Value.int (1 : Int32)), .unset, .unset, .unset] [(Value.int (3 : Int32))]))
      refine own_iconst X19 hx hby at_74 ?_
      show own_G p e below s _ _ _ (T19.setTop (mkF m 75 #[.val (Value.int x0), .val (Value.int x1), .val (Value.ref b1), .val (Value.int (3 : Int32)), .val (Value.ref a_LESS_OR_EQUAL), .val (Value.int (1 : Int32)), .unset, .unset, .unset] [(Value.int (2 : Int32)), (Value.int (3 : Int32))]))
      refine own_icmp_eq X19 hx hby at_75 (pc' := 83) (by decide) (by decide) (fun hb76 => by exfalso; revert hb76; decide) (fun hb76 => ?_)
      show own_G p e below s _ _ _ (T19.setTop (mkF m 78 #[.val (Value.int x0), .val (Value.int x1), .val (Value.ref b1), .val (Value.int (3 : Int32)), .val (Value.ref a_LESS_OR_EQUAL), .val (Value.int (1 : Int32)), .unset, .unset, .unset] []))
      refine own_iloadN X19 hx hby at_78 rfl ?_
      show own_G p e below s _ _ _ (T19.setTop (mkF m 79 #[.val (Value.int x0), .val (Value.int x1), .val (Value.ref b1), .val (Value.int (3 : Int32)), .val (Value.ref a_LESS_OR_EQUAL), .val (Value.int (1 : Int32)), .unset, .unset, .unset] [(Value.int (3 : Int32))]))
      refine own_iconst X19 hx hby at_79 ?_
      show own_G p e below s _ _ _ (T19.setTop (mkF m 80 #[.val (Value.int x0), .val (Value.int x1), .val (Value.ref b1), .val (Value.int (3 : Int32)), .val (Value.ref a_LESS_OR_EQUAL), .val (Value.int (1 : Int32)), .unset, .unset, .unset] [(Value.int (3 : Int32)), (Value.int (3 : Int32))]))
      refine own_icmp_ne X19 hx hby at_80 (pc' := 87) (by decide) (by decide) (fun hb77 => by exfalso; revert hb77; decide) (fun hb77 => ?_)
      show own_G p e below s _ _ _ (T19.setTop (mkF m 83 #[.val (Value.int x0), .val (Value.int x1), .val (Value.ref b1), .val (Value.int (3 : Int32)), .val (Value.ref a_LESS_OR_EQUAL), .val (Value.int (1 : Int32)), .unset, .unset, .unset] []))
      refine own_iconst X19 hx hby at_83 ?_
      show own_G p e below s _ _ _ (T19.setTop (mkF m 84 #[.val (Value.int x0), .val (Value.int x1), .val (Value.ref b1), .val (Value.int (3 : Int32)), .val (Value.ref a_LESS_OR_EQUAL), .val (Value.int (1 : Int32)), .unset, .unset, .unset] [(Value.int (1 : Int32))]))
      refine own_goto X19 hx hby at_84 (pc' := 88) (by decide) (by decide) ?_
      show own_G p e below s _ _ _ (T19.setTop (mkF m 88 #[.val (Value.int x0), .val (Value.int x1), .val (Value.ref b1), .val (Value.int (3 : Int32)), .val (Value.ref a_LESS_OR_EQUAL), .val (Value.int (1 : Int32)), .unset, .unset, .unset] [(Value.int (1 : Int32))]))
      refine own_istore X19 hx hby at_88 (l' := #[.val (Value.int x0), .val (Value.int x1), .val (Value.ref b1), .val (Value.int (3 : Int32)), .val (Value.ref a_LESS_OR_EQUAL), .val (Value.int (1 : Int32)), .val (Value.int (1 : Int32)), .unset, .unset]) rfl ?_
      show own_G p e below s _ _ _ (T19.setTop (mkF m 90 #[.val (Value.int x0), .val (Value.int x1), .val (Value.ref b1), .val (Value.int (3 : Int32)), .val (Value.ref a_LESS_OR_EQUAL), .val (Value.int (1 : Int32)), .val (Value.int (1 : Int32)), .unset, .unset] []))
      refine own_aload X19 hx hby at_90 rfl rfl ?_
      show own_G p e below s _ _ _ (T19.setTop (mkF m 92 #[.val (Value.int x0), .val (Value.int x1), .val (Value.ref b1), .val (Value.int (3 : Int32)), .val (Value.ref a_LESS_OR_EQUAL), .val (Value.int (1 : Int32)), .val (Value.int (1 : Int32)), .unset, .unset] [(Value.ref a_LESS_OR_EQUAL)]))
      obtain ⟨cq78, kq78, q78a, q78b, q78c⟩ := isOf (T := T19) hZ e19 (Exa.ext O20.2 En_LESS_OR_EQUAL.2.1)
      obtain ⟨_, _, ⟨T78, L78, k78, n78⟩, -, X78, ⟨Lc78, hQ78, l78, y78, z78⟩, st78⟩ := X19.virtualBack hx (y := (⟨"com/example/gazetteer/gazetteer/partitions/Condition$Operator", "boundsAbove", "()Z"⟩ : MethodName)) (z := (⟨"com/example/gazetteer/gazetteer/partitions/Condition$Operator", "boundsAbove", "()Z"⟩ : MethodName)) hown (mvT hZ (own_w17 hw)) (mvT hZ (own_w18 hw)) (notFace_of_selects (args := #[]) (mvT hZ (own_w20 hw))) (mvT hZ (own_w20 hw)) (mvT hZ (own_w19 hw)) (by decide) (backOf (W := 0) (own_rm1 l Z a0 hw [] a_LESS_OR_EQUAL a_EQUAL a_NOT_EQUAL a_LESS a_LESS_OR_EQUAL a_GREATER a_GREATER_OR_EQUAL h19 n0 O20  En_EQUAL En_NOT_EQUAL En_LESS En_LESS_OR_EQUAL En_GREATER En_GREATER_OR_EQUAL) hZ (own_w21 hw) (own_w3 hw) (by decide) (by decide)) q78a q78c (g := (mkF m 92 #[.val (Value.int x0), .val (Value.int x1), .val (Value.ref b1), .val (Value.int (3 : Int32)), .val (Value.ref a_LESS_OR_EQUAL), .val (Value.int (1 : Int32)), .val (Value.int (1 : Int32)), .unset, .unset] [(Value.ref a_LESS_OR_EQUAL)])) rfl (by rw [hml]; rfl) (Steps.refl _) (argsL := []) (rest := []) (lenOf own_pd1 rfl) rfl (by show 2 * 0 + _ ≤ _; exact Nat.le_of_eq rfl) (hb hby at_92) (fun _ _ => ⟨rfl, e19, (by decide : (1 : Nat) + 0 ≤ _), (by decide : (6 : Nat) + 0 ≤ _)⟩)
      dsimp only [Pt.U, Pt.locs, Pt.cells, Pt.slots] at X78 l78 y78 z78 st78 hQ78
      subst l78 y78 z78
      obtain ⟨rfl, e78, Nq78⟩ := hQ78
      have N78 := Fr.app N19 Nq78
      refine own_tr st78 ?_
      show own_G p e below s _ _ _ (T78.setTop (mkF m 95 #[.val (Value.int x0), .val (Value.int x1), .val (Value.ref b1), .val (Value.int (3 : Int32)), .val (Value.ref a_LESS_OR_EQUAL), .val (Value.int (1 : Int32)), .val (Value.int (1 : Int32)), .unset, .unset] [(Value.int (own_inc a_LESS_OR_EQUAL a_EQUAL a_LESS a_LESS_OR_EQUAL))]))
      rw [show ((own_inc a_LESS_OR_EQUAL a_EQUAL a_LESS a_LESS_OR_EQUAL) : Int32) = (1 : Int32) from by simp [own_inc, own_ne_ref (Fld.ne En_LESS_OR_EQUAL.2.2 En_EQUAL.2.2 (by decide)), own_ne_ref (Fld.ne En_LESS_OR_EQUAL.2.2 En_LESS.2.2 (by decide))]]
      refine own_istore X78 hx hby at_95 (l' := #[.val (Value.int x0), .val (Value.int x1), .val (Value.ref b1), .val (Value.int (3 : Int32)), .val (Value.ref a_LESS_OR_EQUAL), .val (Value.int (1 : Int32)), .val (Value.int (1 : Int32)), .val (Value.int (1 : Int32)), .unset]) rfl ?_
      show own_G p e below s _ _ _ (T78.setTop (mkF m 97 #[.val (Value.int x0), .val (Value.int x1), .val (Value.ref b1), .val (Value.int (3 : Int32)), .val (Value.ref a_LESS_OR_EQUAL), .val (Value.int (1 : Int32)), .val (Value.int (1 : Int32)), .val (Value.int (1 : Int32)), .unset] []))
      refine own_aload X78 hx hby at_97 rfl rfl ?_
      show own_G p e below s _ _ _ (T78.setTop (mkF m 99 #[.val (Value.int x0), .val (Value.int x1), .val (Value.ref b1), .val (Value.int (3 : Int32)), .val (Value.ref a_LESS_OR_EQUAL), .val (Value.int (1 : Int32)), .val (Value.int (1 : Int32)), .val (Value.int (1 : Int32)), .unset] [(Value.ref a_LESS_OR_EQUAL)]))
      refine own_iload X78 hx hby at_99 rfl ?_
      show own_G p e below s _ _ _ (T78.setTop (mkF m 101 #[.val (Value.int x0), .val (Value.int x1), .val (Value.ref b1), .val (Value.int (3 : Int32)), .val (Value.ref a_LESS_OR_EQUAL), .val (Value.int (1 : Int32)), .val (Value.int (1 : Int32)), .val (Value.int (1 : Int32)), .unset] [(Value.int (1 : Int32)), (Value.ref a_LESS_OR_EQUAL)]))
      obtain ⟨cq79, kq79, q79a, q79b, q79c⟩ := isOf (T := T78) hZ e78 (Exa.ext O20.2 En_LESS_OR_EQUAL.2.1)
      obtain ⟨_, _, ⟨T79, L79, k79, n79⟩, -, X79, ⟨Lc79, hQ79, l79, y79, z79⟩, st79⟩ := X78.virtualBack hx (y := (⟨"com/example/gazetteer/gazetteer/partitions/Condition$Operator", "holds", "(I)Z"⟩ : MethodName)) (z := (⟨"com/example/gazetteer/gazetteer/partitions/Condition$Operator", "holds", "(I)Z"⟩ : MethodName)) hown (mvT hZ (own_w23 hw)) (mvT hZ (own_w24 hw)) (notFace_of_selects (args := #[]) (mvT hZ (own_w26 hw))) (mvT hZ (own_w26 hw)) (mvT hZ (own_w25 hw)) (by decide) (backOf (W := 0) (own_rm2 l Z a0 hw [] a_LESS_OR_EQUAL (1 : Int32) (3 : Int32) h19 n0 O20  (Exa.ext O20.2 En_LESS_OR_EQUAL.2.1) (Fld.ext O20.2 En_LESS_OR_EQUAL.2.2) (by decide)) hZ (own_w27 hw) (own_w3 hw) (by decide) (by decide)) q79a q79c (g := (mkF m 101 #[.val (Value.int x0), .val (Value.int x1), .val (Value.ref b1), .val (Value.int (3 : Int32)), .val (Value.ref a_LESS_OR_EQUAL), .val (Value.int (1 : Int32)), .val (Value.int (1 : Int32)), .val (Value.int (1 : Int32)), .unset] [(Value.int (1 : Int32)), (Value.ref a_LESS_OR_EQUAL)])) rfl (by rw [hml]; rfl) (Steps.refl _) (argsL := [(Value.int (1 : Int32))]) (rest := []) (lenOf own_pd2 rfl) rfl (by show 2 * 0 + _ ≤ _; exact Nat.le_of_eq rfl) (hb hby at_101) (fun _ _ => ⟨rfl, e78, (by decide : (1 : Nat) + 0 ≤ _), (by decide : (6 : Nat) + 0 ≤ _)⟩)
      dsimp only [Pt.U, Pt.locs, Pt.cells, Pt.slots] at X79 l79 y79 z79 st79 hQ79
      subst l79 y79 z79
      obtain ⟨rfl, e79, Nq79⟩ := hQ79
      have N79 := Fr.app N78 Nq79
      refine own_tr st79 ?_
      show own_G p e below s _ _ _ (T79.setTop (mkF m 104 #[.val (Value.int x0), .val (Value.int x1), .val (Value.ref b1), .val (Value.int (3 : Int32)), .val (Value.ref a_LESS_OR_EQUAL), .val (Value.int (1 : Int32)), .val (Value.int (1 : Int32)), .val (Value.int (1 : Int32)), .unset] [(Value.int (own_holds (3 : Int32) (1 : Int32)))]))
      rw [show ((own_holds (3 : Int32) (1 : Int32)) : Int32) = (0 : Int32) from (own_holds_pos (by decide)).2.2.2.1]
      refine own_istore X79 hx hby at_104 (l' := #[.val (Value.int x0), .val (Value.int x1), .val (Value.ref b1), .val (Value.int (3 : Int32)), .val (Value.ref a_LESS_OR_EQUAL), .val (Value.int (1 : Int32)), .val (Value.int (1 : Int32)), .val (Value.int (1 : Int32)), .val (Value.int (0 : Int32))]) rfl ?_
      show own_G p e below s _ _ _ (T79.setTop (mkF m 106 #[.val (Value.int x0), .val (Value.int x1), .val (Value.ref b1), .val (Value.int (3 : Int32)), .val (Value.ref a_LESS_OR_EQUAL), .val (Value.int (1 : Int32)), .val (Value.int (1 : Int32)), .val (Value.int (1 : Int32)), .val (Value.int (0 : Int32))] []))
      refine own_iload X79 hx hby at_106 rfl ?_
      show own_G p e below s _ _ _ (T79.setTop (mkF m 108 #[.val (Value.int x0), .val (Value.int x1), .val (Value.ref b1), .val (Value.int (3 : Int32)), .val (Value.ref a_LESS_OR_EQUAL), .val (Value.int (1 : Int32)), .val (Value.int (1 : Int32)), .val (Value.int (1 : Int32)), .val (Value.int (0 : Int32))] [(Value.int (1 : Int32))]))
      refine own_iload X79 hx hby at_108 rfl ?_
      show own_G p e below s _ _ _ (T79.setTop (mkF m 110 #[.val (Value.int x0), .val (Value.int x1), .val (Value.ref b1), .val (Value.int (3 : Int32)), .val (Value.ref a_LESS_OR_EQUAL), .val (Value.int (1 : Int32)), .val (Value.int (1 : Int32)), .val (Value.int (1 : Int32)), .val (Value.int (0 : Int32))] [(Value.int (1 : Int32)), (Value.int (1 : Int32))]))
      refine own_icmp_ne X79 hx hby at_110 (pc' := 132) (by decide) (by decide) (fun hb80 => by exfalso; revert hb80; decide) (fun hb80 => ?_)
      show own_G p e below s _ _ _ (T79.setTop (mkF m 113 #[.val (Value.int x0), .val (Value.int x1), .val (Value.ref b1), .val (Value.int (3 : Int32)), .val (Value.ref a_LESS_OR_EQUAL), .val (Value.int (1 : Int32)), .val (Value.int (1 : Int32)), .val (Value.int (1 : Int32)), .val (Value.int (0 : Int32))] []))
      refine own_iload X79 hx hby at_113 rfl ?_
      show own_G p e below s _ _ _ (T79.setTop (mkF m 115 #[.val (Value.int x0), .val (Value.int x1), .val (Value.ref b1), .val (Value.int (3 : Int32)), .val (Value.ref a_LESS_OR_EQUAL), .val (Value.int (1 : Int32)), .val (Value.int (1 : Int32)), .val (Value.int (1 : Int32)), .val (Value.int (0 : Int32))] [(Value.int (1 : Int32))]))
      refine own_iload X79 hx hby at_115 rfl ?_
      show own_G p e below s _ _ _ (T79.setTop (mkF m 117 #[.val (Value.int x0), .val (Value.int x1), .val (Value.ref b1), .val (Value.int (3 : Int32)), .val (Value.ref a_LESS_OR_EQUAL), .val (Value.int (1 : Int32)), .val (Value.int (1 : Int32)), .val (Value.int (1 : Int32)), .val (Value.int (0 : Int32))] [(Value.int (0 : Int32)), (Value.int (1 : Int32))]))
      refine own_if_ne X79 hx hby at_117 (pc' := 124) (by decide) (by decide) (fun hb81 => by exfalso; revert hb81; decide) (fun hb81 => ?_)
      show own_G p e below s _ _ _ (T79.setTop (mkF m 120 #[.val (Value.int x0), .val (Value.int x1), .val (Value.ref b1), .val (Value.int (3 : Int32)), .val (Value.ref a_LESS_OR_EQUAL), .val (Value.int (1 : Int32)), .val (Value.int (1 : Int32)), .val (Value.int (1 : Int32)), .val (Value.int (0 : Int32))] [(Value.int (1 : Int32))]))
      refine own_iconst X79 hx hby at_120 ?_
      show own_G p e below s _ _ _ (T79.setTop (mkF m 121 #[.val (Value.int x0), .val (Value.int x1), .val (Value.ref b1), .val (Value.int (3 : Int32)), .val (Value.ref a_LESS_OR_EQUAL), .val (Value.int (1 : Int32)), .val (Value.int (1 : Int32)), .val (Value.int (1 : Int32)), .val (Value.int (0 : Int32))] [(Value.int (1 : Int32)), (Value.int (1 : Int32))]))
      refine own_goto X79 hx hby at_121 (pc' := 125) (by decide) (by decide) ?_
      show own_G p e below s _ _ _ (T79.setTop (mkF m 125 #[.val (Value.int x0), .val (Value.int x1), .val (Value.ref b1), .val (Value.int (3 : Int32)), .val (Value.ref a_LESS_OR_EQUAL), .val (Value.int (1 : Int32)), .val (Value.int (1 : Int32)), .val (Value.int (1 : Int32)), .val (Value.int (0 : Int32))] [(Value.int (1 : Int32)), (Value.int (1 : Int32))]))
      refine own_icmp_ne X79 hx hby at_125 (pc' := 132) (by decide) (by decide) (fun hb82 => by exfalso; revert hb82; decide) (fun hb82 => ?_)
      show own_G p e below s _ _ _ (T79.setTop (mkF m 128 #[.val (Value.int x0), .val (Value.int x1), .val (Value.ref b1), .val (Value.int (3 : Int32)), .val (Value.ref a_LESS_OR_EQUAL), .val (Value.int (1 : Int32)), .val (Value.int (1 : Int32)), .val (Value.int (1 : Int32)), .val (Value.int (0 : Int32))] []))
      refine own_iconst X79 hx hby at_128 ?_
      show own_G p e below s _ _ _ (T79.setTop (mkF m 129 #[.val (Value.int x0), .val (Value.int x1), .val (Value.ref b1), .val (Value.int (3 : Int32)), .val (Value.ref a_LESS_OR_EQUAL), .val (Value.int (1 : Int32)), .val (Value.int (1 : Int32)), .val (Value.int (1 : Int32)), .val (Value.int (0 : Int32))] [(Value.int (1 : Int32))]))
      refine own_goto X79 hx hby at_129 (pc' := 133) (by decide) (by decide) ?_
      show own_G p e below s _ _ _ (T79.setTop (mkF m 133 #[.val (Value.int x0), .val (Value.int x1), .val (Value.ref b1), .val (Value.int (3 : Int32)), .val (Value.ref a_LESS_OR_EQUAL), .val (Value.int (1 : Int32)), .val (Value.int (1 : Int32)), .val (Value.int (1 : Int32)), .val (Value.int (0 : Int32))] [(Value.int (1 : Int32))]))
      refine own_retN X79 hx hby hlk (t := .boolean) Bd.returns (by simp) at_133 (by decide) (by decide) ?_
      exact ⟨rfl, N79⟩
  · rw [hk]
    show own_G p e below s _ _ _ (T19.setTop (mkF m 49 #[.val (Value.int x0), .val (Value.int x1), .val (Value.ref b1), .unset, .unset, .unset, .unset, .unset, .unset] [(Value.int (4 : Int32))]))
    refine own_istoreN X19 hx hby at_49 (l' := #[.val (Value.int x0), .val (Value.int x1), .val (Value.ref b1), .val (Value.int (4 : Int32)), .unset, .unset, .unset, .unset, .unset]) rfl ?_
    show own_G p e below s _ _ _ (T19.setTop (mkF m 50 #[.val (Value.int x0), .val (Value.int x1), .val (Value.ref b1), .val (Value.int (4 : Int32)), .unset, .unset, .unset, .unset, .unset] []))
    refine own_aloadN X19 hx hby at_50 rfl rfl ?_
    show own_G p e below s _ _ _ (T19.setTop (mkF m 51 #[.val (Value.int x0), .val (Value.int x1), .val (Value.ref b1), .val (Value.int (4 : Int32)), .unset, .unset, .unset, .unset, .unset] [(Value.ref b1)]))
    refine own_iloadN X19 hx hby at_51 rfl ?_
    show own_G p e below s _ _ _ (T19.setTop (mkF m 52 #[.val (Value.int x0), .val (Value.int x1), .val (Value.ref b1), .val (Value.int (4 : Int32)), .unset, .unset, .unset, .unset, .unset] [(Value.int (4 : Int32)), (Value.ref b1)]))
    refine own_aaload X19 hx hby hZ e19 A19 rfl (j := (4 : Int32)) (i := 4) (by decide) (by decide) at_52 ?_
    show own_G p e below s _ _ _ (T19.setTop (mkF m 53 #[.val (Value.int x0), .val (Value.int x1), .val (Value.ref b1), .val (Value.int (4 : Int32)), .unset, .unset, .unset, .unset, .unset] [(Value.ref a_GREATER)]))
    refine own_astore X19 hx hby at_53 rfl (l' := #[.val (Value.int x0), .val (Value.int x1), .val (Value.ref b1), .val (Value.int (4 : Int32)), .val (Value.ref a_GREATER), .unset, .unset, .unset, .unset]) rfl ?_
    show own_G p e below s _ _ _ (T19.setTop (mkF m 55 #[.val (Value.int x0), .val (Value.int x1), .val (Value.ref b1), .val (Value.int (4 : Int32)), .val (Value.ref a_GREATER), .unset, .unset, .unset, .unset] []))
    refine own_iloadN X19 hx hby at_55 rfl ?_
    show own_G p e below s _ _ _ (T19.setTop (mkF m 56 #[.val (Value.int x0), .val (Value.int x1), .val (Value.ref b1), .val (Value.int (4 : Int32)), .val (Value.ref a_GREATER), .unset, .unset, .unset, .unset] [(Value.int x1)]))
    refine own_ldcI X19 hx hby hZ hown (own_w16 hw) at_56 ?_
    show own_G p e below s _ _ _ (T19.setTop (mkF m 58 #[.val (Value.int x0), .val (Value.int x1), .val (Value.ref b1), .val (Value.int (4 : Int32)), .val (Value.ref a_GREATER), .unset, .unset, .unset, .unset] [(Value.int (2147483647 : Int32)), (Value.int x1)]))
    refine own_iand X19 hx hby at_58 ?_
    show own_G p e below s _ _ _ (T19.setTop (mkF m 59 #[.val (Value.int x0), .val (Value.int x1), .val (Value.ref b1), .val (Value.int (4 : Int32)), .val (Value.ref a_GREATER), .unset, .unset, .unset, .unset] [(Value.int (x1 &&& (2147483647 : Int32)))]))
    refine own_istore X19 hx hby at_59 (l' := #[.val (Value.int x0), .val (Value.int x1), .val (Value.ref b1), .val (Value.int (4 : Int32)), .val (Value.ref a_GREATER), .val (Value.int (x1 &&& (2147483647 : Int32))), .unset, .unset, .unset]) rfl ?_
    show own_G p e below s _ _ _ (T19.setTop (mkF m 61 #[.val (Value.int x0), .val (Value.int x1), .val (Value.ref b1), .val (Value.int (4 : Int32)), .val (Value.ref a_GREATER), .val (Value.int (x1 &&& (2147483647 : Int32))), .unset, .unset, .unset] []))
    refine own_iload X19 hx hby at_61 rfl ?_
    show own_G p e below s _ _ _ (T19.setTop (mkF m 63 #[.val (Value.int x0), .val (Value.int x1), .val (Value.ref b1), .val (Value.int (4 : Int32)), .val (Value.ref a_GREATER), .val (Value.int (x1 &&& (2147483647 : Int32))), .unset, .unset, .unset] [(Value.int (x1 &&& (2147483647 : Int32)))]))
    refine own_if_ne X19 hx hby at_63 (pc' := 69) (by decide) (by decide) (fun hb83 => ?_) (fun hb83 => ?_)
    · show own_G p e below s _ _ _ (T19.setTop (mkF m 69 #[.val (Value.int x0), .val (Value.int x1), .val (Value.ref b1), .val (Value.int (4 : Int32)), .val (Value.ref a_GREATER), .val (Value.int (x1 &&& (2147483647 : Int32))), .unset, .unset, .unset] []))
      refine own_iloadN X19 hx hby at_69 rfl ?_
      show own_G p e below s _ _ _ (T19.setTop (mkF m 70 #[.val (Value.int x0), .val (Value.int x1), .val (Value.ref b1), .val (Value.int (4 : Int32)), .val (Value.ref a_GREATER), .val (Value.int (x1 &&& (2147483647 : Int32))), .unset, .unset, .unset] [(Value.int (4 : Int32))]))
      refine own_if_eq X19 hx hby at_70 (pc' := 83) (by decide) (by decide) (fun hb84 => by exfalso; revert hb84; decide) (fun hb84 => ?_)
      show own_G p e below s _ _ _ (T19.setTop (mkF m 73 #[.val (Value.int x0), .val (Value.int x1), .val (Value.ref b1), .val (Value.int (4 : Int32)), .val (Value.ref a_GREATER), .val (Value.int (x1 &&& (2147483647 : Int32))), .unset, .unset, .unset] []))
      refine own_iloadN X19 hx hby at_73 rfl ?_
      show own_G p e below s _ _ _ (T19.setTop (mkF m 74 #[.val (Value.int x0), .val (Value.int x1), .val (Value.ref b1), .val (Value.int (4 : Int32)), .val (Value.ref a_GREATER), .val (Value.int (x1 &&& (2147483647 : Int32))), .unset, .unset, .unset] [(Value.int (4 : Int32))]))
      refine own_iconst X19 hx hby at_74 ?_
      show own_G p e below s _ _ _ (T19.setTop (mkF m 75 #[.val (Value.int x0), .val (Value.int x1), .val (Value.ref b1), .val (Value.int (4 : Int32)), .val (Value.ref a_GREATER), .val (Value.int (x1 &&& (2147483647 : Int32))), .unset, .unset, .unset] [(Value.int (2 : Int32)), (Value.int (4 : Int32))]))
      refine own_icmp_eq X19 hx hby at_75 (pc' := 83) (by decide) (by decide) (fun hb85 => by exfalso; revert hb85; decide) (fun hb85 => ?_)
      show own_G p e below s _ _ _ (T19.setTop (mkF m 78 #[.val (Value.int x0), .val (Value.int x1), .val (Value.ref b1), .val (Value.int (4 : Int32)), .val (Value.ref a_GREATER), .val (Value.int (x1 &&& (2147483647 : Int32))), .unset, .unset, .unset] []))
      refine own_iloadN X19 hx hby at_78 rfl ?_
      show own_G p e below s _ _ _ (T19.setTop (mkF m 79 #[.val (Value.int x0), .val (Value.int x1), .val (Value.ref b1), .val (Value.int (4 : Int32)), .val (Value.ref a_GREATER), .val (Value.int (x1 &&& (2147483647 : Int32))), .unset, .unset, .unset] [(Value.int (4 : Int32))]))
      refine own_iconst X19 hx hby at_79 ?_
      show own_G p e below s _ _ _ (T19.setTop (mkF m 80 #[.val (Value.int x0), .val (Value.int x1), .val (Value.ref b1), .val (Value.int (4 : Int32)), .val (Value.ref a_GREATER), .val (Value.int (x1 &&& (2147483647 : Int32))), .unset, .unset, .unset] [(Value.int (3 : Int32)), (Value.int (4 : Int32))]))
      refine own_icmp_ne X19 hx hby at_80 (pc' := 87) (by decide) (by decide) (fun hb86 => ?_) (fun hb86 => by exfalso; revert hb86; decide)
      show own_G p e below s _ _ _ (T19.setTop (mkF m 87 #[.val (Value.int x0), .val (Value.int x1), .val (Value.ref b1), .val (Value.int (4 : Int32)), .val (Value.ref a_GREATER), .val (Value.int (x1 &&& (2147483647 : Int32))), .unset, .unset, .unset] []))
      refine own_iconst X19 hx hby at_87 ?_
      show own_G p e below s _ _ _ (T19.setTop (mkF m 88 #[.val (Value.int x0), .val (Value.int x1), .val (Value.ref b1), .val (Value.int (4 : Int32)), .val (Value.ref a_GREATER), .val (Value.int (x1 &&& (2147483647 : Int32))), .unset, .unset, .unset] [(Value.int (0 : Int32))]))
      refine own_istore X19 hx hby at_88 (l' := #[.val (Value.int x0), .val (Value.int x1), .val (Value.ref b1), .val (Value.int (4 : Int32)), .val (Value.ref a_GREATER), .val (Value.int (x1 &&& (2147483647 : Int32))), .val (Value.int (0 : Int32)), .unset, .unset]) rfl ?_
      show own_G p e below s _ _ _ (T19.setTop (mkF m 90 #[.val (Value.int x0), .val (Value.int x1), .val (Value.ref b1), .val (Value.int (4 : Int32)), .val (Value.ref a_GREATER), .val (Value.int (x1 &&& (2147483647 : Int32))), .val (Value.int (0 : Int32)), .unset, .unset] []))
      refine own_aload X19 hx hby at_90 rfl rfl ?_
      show own_G p e below s _ _ _ (T19.setTop (mkF m 92 #[.val (Value.int x0), .val (Value.int x1), .val (Value.ref b1), .val (Value.int (4 : Int32)), .val (Value.ref a_GREATER), .val (Value.int (x1 &&& (2147483647 : Int32))), .val (Value.int (0 : Int32)), .unset, .unset] [(Value.ref a_GREATER)]))
      obtain ⟨cq87, kq87, q87a, q87b, q87c⟩ := isOf (T := T19) hZ e19 (Exa.ext O20.2 En_GREATER.2.1)
      obtain ⟨_, _, ⟨T87, L87, k87, n87⟩, -, X87, ⟨Lc87, hQ87, l87, y87, z87⟩, st87⟩ := X19.virtualBack hx (y := (⟨"com/example/gazetteer/gazetteer/partitions/Condition$Operator", "boundsAbove", "()Z"⟩ : MethodName)) (z := (⟨"com/example/gazetteer/gazetteer/partitions/Condition$Operator", "boundsAbove", "()Z"⟩ : MethodName)) hown (mvT hZ (own_w17 hw)) (mvT hZ (own_w18 hw)) (notFace_of_selects (args := #[]) (mvT hZ (own_w20 hw))) (mvT hZ (own_w20 hw)) (mvT hZ (own_w19 hw)) (by decide) (backOf (W := 0) (own_rm1 l Z a0 hw [] a_GREATER a_EQUAL a_NOT_EQUAL a_LESS a_LESS_OR_EQUAL a_GREATER a_GREATER_OR_EQUAL h19 n0 O20  En_EQUAL En_NOT_EQUAL En_LESS En_LESS_OR_EQUAL En_GREATER En_GREATER_OR_EQUAL) hZ (own_w21 hw) (own_w3 hw) (by decide) (by decide)) q87a q87c (g := (mkF m 92 #[.val (Value.int x0), .val (Value.int x1), .val (Value.ref b1), .val (Value.int (4 : Int32)), .val (Value.ref a_GREATER), .val (Value.int (x1 &&& (2147483647 : Int32))), .val (Value.int (0 : Int32)), .unset, .unset] [(Value.ref a_GREATER)])) rfl (by rw [hml]; rfl) (Steps.refl _) (argsL := []) (rest := []) (lenOf own_pd1 rfl) rfl (by show 2 * 0 + _ ≤ _; exact Nat.le_of_eq rfl) (hb hby at_92) (fun _ _ => ⟨rfl, e19, (by decide : (1 : Nat) + 0 ≤ _), (by decide : (6 : Nat) + 0 ≤ _)⟩)
      dsimp only [Pt.U, Pt.locs, Pt.cells, Pt.slots] at X87 l87 y87 z87 st87 hQ87
      subst l87 y87 z87
      obtain ⟨rfl, e87, Nq87⟩ := hQ87
      have N87 := Fr.app N19 Nq87
      refine own_tr st87 ?_
      show own_G p e below s _ _ _ (T87.setTop (mkF m 95 #[.val (Value.int x0), .val (Value.int x1), .val (Value.ref b1), .val (Value.int (4 : Int32)), .val (Value.ref a_GREATER), .val (Value.int (x1 &&& (2147483647 : Int32))), .val (Value.int (0 : Int32)), .unset, .unset] [(Value.int (own_inc a_GREATER a_EQUAL a_LESS a_LESS_OR_EQUAL))]))
      rw [show ((own_inc a_GREATER a_EQUAL a_LESS a_LESS_OR_EQUAL) : Int32) = (0 : Int32) from by simp [own_inc, own_ne_ref (Fld.ne En_GREATER.2.2 En_EQUAL.2.2 (by decide)), own_ne_ref (Fld.ne En_GREATER.2.2 En_LESS.2.2 (by decide)), own_ne_ref (Fld.ne En_GREATER.2.2 En_LESS_OR_EQUAL.2.2 (by decide))]]
      refine own_istore X87 hx hby at_95 (l' := #[.val (Value.int x0), .val (Value.int x1), .val (Value.ref b1), .val (Value.int (4 : Int32)), .val (Value.ref a_GREATER), .val (Value.int (x1 &&& (2147483647 : Int32))), .val (Value.int (0 : Int32)), .val (Value.int (0 : Int32)), .unset]) rfl ?_
      show own_G p e below s _ _ _ (T87.setTop (mkF m 97 #[.val (Value.int x0), .val (Value.int x1), .val (Value.ref b1), .val (Value.int (4 : Int32)), .val (Value.ref a_GREATER), .val (Value.int (x1 &&& (2147483647 : Int32))), .val (Value.int (0 : Int32)), .val (Value.int (0 : Int32)), .unset] []))
      refine own_aload X87 hx hby at_97 rfl rfl ?_
      show own_G p e below s _ _ _ (T87.setTop (mkF m 99 #[.val (Value.int x0), .val (Value.int x1), .val (Value.ref b1), .val (Value.int (4 : Int32)), .val (Value.ref a_GREATER), .val (Value.int (x1 &&& (2147483647 : Int32))), .val (Value.int (0 : Int32)), .val (Value.int (0 : Int32)), .unset] [(Value.ref a_GREATER)]))
      refine own_iload X87 hx hby at_99 rfl ?_
      show own_G p e below s _ _ _ (T87.setTop (mkF m 101 #[.val (Value.int x0), .val (Value.int x1), .val (Value.ref b1), .val (Value.int (4 : Int32)), .val (Value.ref a_GREATER), .val (Value.int (x1 &&& (2147483647 : Int32))), .val (Value.int (0 : Int32)), .val (Value.int (0 : Int32)), .unset] [(Value.int (x1 &&& (2147483647 : Int32))), (Value.ref a_GREATER)]))
      obtain ⟨cq88, kq88, q88a, q88b, q88c⟩ := isOf (T := T87) hZ e87 (Exa.ext O20.2 En_GREATER.2.1)
      obtain ⟨_, _, ⟨T88, L88, k88, n88⟩, -, X88, ⟨Lc88, hQ88, l88, y88, z88⟩, st88⟩ := X87.virtualBack hx (y := (⟨"com/example/gazetteer/gazetteer/partitions/Condition$Operator", "holds", "(I)Z"⟩ : MethodName)) (z := (⟨"com/example/gazetteer/gazetteer/partitions/Condition$Operator", "holds", "(I)Z"⟩ : MethodName)) hown (mvT hZ (own_w23 hw)) (mvT hZ (own_w24 hw)) (notFace_of_selects (args := #[]) (mvT hZ (own_w26 hw))) (mvT hZ (own_w26 hw)) (mvT hZ (own_w25 hw)) (by decide) (backOf (W := 0) (own_rm2 l Z a0 hw [] a_GREATER (x1 &&& (2147483647 : Int32)) (4 : Int32) h19 n0 O20  (Exa.ext O20.2 En_GREATER.2.1) (Fld.ext O20.2 En_GREATER.2.2) (by decide)) hZ (own_w27 hw) (own_w3 hw) (by decide) (by decide)) q88a q88c (g := (mkF m 101 #[.val (Value.int x0), .val (Value.int x1), .val (Value.ref b1), .val (Value.int (4 : Int32)), .val (Value.ref a_GREATER), .val (Value.int (x1 &&& (2147483647 : Int32))), .val (Value.int (0 : Int32)), .val (Value.int (0 : Int32)), .unset] [(Value.int (x1 &&& (2147483647 : Int32))), (Value.ref a_GREATER)])) rfl (by rw [hml]; rfl) (Steps.refl _) (argsL := [(Value.int (x1 &&& (2147483647 : Int32)))]) (rest := []) (lenOf own_pd2 rfl) rfl (by show 2 * 0 + _ ≤ _; exact Nat.le_of_eq rfl) (hb hby at_101) (fun _ _ => ⟨rfl, e87, (by decide : (1 : Nat) + 0 ≤ _), (by decide : (6 : Nat) + 0 ≤ _)⟩)
      dsimp only [Pt.U, Pt.locs, Pt.cells, Pt.slots] at X88 l88 y88 z88 st88 hQ88
      subst l88 y88 z88
      obtain ⟨rfl, e88, Nq88⟩ := hQ88
      have N88 := Fr.app N87 Nq88
      refine own_tr st88 ?_
      show own_G p e below s _ _ _ (T88.setTop (mkF m 104 #[.val (Value.int x0), .val (Value.int x1), .val (Value.ref b1), .val (Value.int (4 : Int32)), .val (Value.ref a_GREATER), .val (Value.int (x1 &&& (2147483647 : Int32))), .val (Value.int (0 : Int32)), .val (Value.int (0 : Int32)), .unset] [(Value.int (own_holds (4 : Int32) (x1 &&& (2147483647 : Int32))))]))
      rw [show ((own_holds (4 : Int32) (x1 &&& (2147483647 : Int32))) : Int32) = (1 : Int32) from (own_holds_pos (own_posAnd hb83)).2.2.2.2.1]
      refine own_istore X88 hx hby at_104 (l' := #[.val (Value.int x0), .val (Value.int x1), .val (Value.ref b1), .val (Value.int (4 : Int32)), .val (Value.ref a_GREATER), .val (Value.int (x1 &&& (2147483647 : Int32))), .val (Value.int (0 : Int32)), .val (Value.int (0 : Int32)), .val (Value.int (1 : Int32))]) rfl ?_
      show own_G p e below s _ _ _ (T88.setTop (mkF m 106 #[.val (Value.int x0), .val (Value.int x1), .val (Value.ref b1), .val (Value.int (4 : Int32)), .val (Value.ref a_GREATER), .val (Value.int (x1 &&& (2147483647 : Int32))), .val (Value.int (0 : Int32)), .val (Value.int (0 : Int32)), .val (Value.int (1 : Int32))] []))
      refine own_iload X88 hx hby at_106 rfl ?_
      show own_G p e below s _ _ _ (T88.setTop (mkF m 108 #[.val (Value.int x0), .val (Value.int x1), .val (Value.ref b1), .val (Value.int (4 : Int32)), .val (Value.ref a_GREATER), .val (Value.int (x1 &&& (2147483647 : Int32))), .val (Value.int (0 : Int32)), .val (Value.int (0 : Int32)), .val (Value.int (1 : Int32))] [(Value.int (0 : Int32))]))
      refine own_iload X88 hx hby at_108 rfl ?_
      show own_G p e below s _ _ _ (T88.setTop (mkF m 110 #[.val (Value.int x0), .val (Value.int x1), .val (Value.ref b1), .val (Value.int (4 : Int32)), .val (Value.ref a_GREATER), .val (Value.int (x1 &&& (2147483647 : Int32))), .val (Value.int (0 : Int32)), .val (Value.int (0 : Int32)), .val (Value.int (1 : Int32))] [(Value.int (0 : Int32)), (Value.int (0 : Int32))]))
      refine own_icmp_ne X88 hx hby at_110 (pc' := 132) (by decide) (by decide) (fun hb89 => by exfalso; revert hb89; decide) (fun hb89 => ?_)
      show own_G p e below s _ _ _ (T88.setTop (mkF m 113 #[.val (Value.int x0), .val (Value.int x1), .val (Value.ref b1), .val (Value.int (4 : Int32)), .val (Value.ref a_GREATER), .val (Value.int (x1 &&& (2147483647 : Int32))), .val (Value.int (0 : Int32)), .val (Value.int (0 : Int32)), .val (Value.int (1 : Int32))] []))
      refine own_iload X88 hx hby at_113 rfl ?_
      show own_G p e below s _ _ _ (T88.setTop (mkF m 115 #[.val (Value.int x0), .val (Value.int x1), .val (Value.ref b1), .val (Value.int (4 : Int32)), .val (Value.ref a_GREATER), .val (Value.int (x1 &&& (2147483647 : Int32))), .val (Value.int (0 : Int32)), .val (Value.int (0 : Int32)), .val (Value.int (1 : Int32))] [(Value.int (0 : Int32))]))
      refine own_iload X88 hx hby at_115 rfl ?_
      show own_G p e below s _ _ _ (T88.setTop (mkF m 117 #[.val (Value.int x0), .val (Value.int x1), .val (Value.ref b1), .val (Value.int (4 : Int32)), .val (Value.ref a_GREATER), .val (Value.int (x1 &&& (2147483647 : Int32))), .val (Value.int (0 : Int32)), .val (Value.int (0 : Int32)), .val (Value.int (1 : Int32))] [(Value.int (1 : Int32)), (Value.int (0 : Int32))]))
      refine own_if_ne X88 hx hby at_117 (pc' := 124) (by decide) (by decide) (fun hb90 => ?_) (fun hb90 => by exfalso; revert hb90; decide)
      show own_G p e below s _ _ _ (T88.setTop (mkF m 124 #[.val (Value.int x0), .val (Value.int x1), .val (Value.ref b1), .val (Value.int (4 : Int32)), .val (Value.ref a_GREATER), .val (Value.int (x1 &&& (2147483647 : Int32))), .val (Value.int (0 : Int32)), .val (Value.int (0 : Int32)), .val (Value.int (1 : Int32))] [(Value.int (0 : Int32))]))
      refine own_iconst X88 hx hby at_124 ?_
      show own_G p e below s _ _ _ (T88.setTop (mkF m 125 #[.val (Value.int x0), .val (Value.int x1), .val (Value.ref b1), .val (Value.int (4 : Int32)), .val (Value.ref a_GREATER), .val (Value.int (x1 &&& (2147483647 : Int32))), .val (Value.int (0 : Int32)), .val (Value.int (0 : Int32)), .val (Value.int (1 : Int32))] [(Value.int (0 : Int32)), (Value.int (0 : Int32))]))
      refine own_icmp_ne X88 hx hby at_125 (pc' := 132) (by decide) (by decide) (fun hb91 => by exfalso; revert hb91; decide) (fun hb91 => ?_)
      show own_G p e below s _ _ _ (T88.setTop (mkF m 128 #[.val (Value.int x0), .val (Value.int x1), .val (Value.ref b1), .val (Value.int (4 : Int32)), .val (Value.ref a_GREATER), .val (Value.int (x1 &&& (2147483647 : Int32))), .val (Value.int (0 : Int32)), .val (Value.int (0 : Int32)), .val (Value.int (1 : Int32))] []))
      refine own_iconst X88 hx hby at_128 ?_
      show own_G p e below s _ _ _ (T88.setTop (mkF m 129 #[.val (Value.int x0), .val (Value.int x1), .val (Value.ref b1), .val (Value.int (4 : Int32)), .val (Value.ref a_GREATER), .val (Value.int (x1 &&& (2147483647 : Int32))), .val (Value.int (0 : Int32)), .val (Value.int (0 : Int32)), .val (Value.int (1 : Int32))] [(Value.int (1 : Int32))]))
      refine own_goto X88 hx hby at_129 (pc' := 133) (by decide) (by decide) ?_
      show own_G p e below s _ _ _ (T88.setTop (mkF m 133 #[.val (Value.int x0), .val (Value.int x1), .val (Value.ref b1), .val (Value.int (4 : Int32)), .val (Value.ref a_GREATER), .val (Value.int (x1 &&& (2147483647 : Int32))), .val (Value.int (0 : Int32)), .val (Value.int (0 : Int32)), .val (Value.int (1 : Int32))] [(Value.int (1 : Int32))]))
      refine own_retN X88 hx hby hlk (t := .boolean) Bd.returns (by simp) at_133 (by decide) (by decide) ?_
      exact ⟨rfl, N88⟩
    · show own_G p e below s _ _ _ (T19.setTop (mkF m 66 #[.val (Value.int x0), .val (Value.int x1), .val (Value.ref b1), .val (Value.int (4 : Int32)), .val (Value.ref a_GREATER), .val (Value.int (x1 &&& (2147483647 : Int32))), .unset, .unset, .unset] []))
      refine own_iconst X19 hx hby at_66 ?_
      show own_G p e below s _ _ _ (T19.setTop (mkF m 67 #[.val (Value.int x0), .val (Value.int x1), .val (Value.ref b1), .val (Value.int (4 : Int32)), .val (Value.ref a_GREATER), .val (Value.int (x1 &&& (2147483647 : Int32))), .unset, .unset, .unset] [(Value.int (1 : Int32))]))
      refine own_istore X19 hx hby at_67 (l' := #[.val (Value.int x0), .val (Value.int x1), .val (Value.ref b1), .val (Value.int (4 : Int32)), .val (Value.ref a_GREATER), .val (Value.int (1 : Int32)), .unset, .unset, .unset]) rfl ?_
      show own_G p e below s _ _ _ (T19.setTop (mkF m 69 #[.val (Value.int x0), .val (Value.int x1), .val (Value.ref b1), .val (Value.int (4 : Int32)), .val (Value.ref a_GREATER), .val (Value.int (1 : Int32)), .unset, .unset, .unset] []))
      refine own_iloadN X19 hx hby at_69 rfl ?_
      show own_G p e below s _ _ _ (T19.setTop (mkF m 70 #[.val (Value.int x0), .val (Value.int x1), .val (Value.ref b1), .val (Value.int (4 : Int32)), .val (Value.ref a_GREATER), .val (Value.int (1 : Int32)), .unset, .unset, .unset] [(Value.int (4 : Int32))]))
      refine own_if_eq X19 hx hby at_70 (pc' := 83) (by decide) (by decide) (fun hb92 => by exfalso; revert hb92; decide) (fun hb92 => ?_)
      show own_G p e below s _ _ _ (T19.setTop (mkF m 73 #[.val (Value.int x0), .val (Value.int x1), .val (Value.ref b1), .val (Value.int (4 : Int32)), .val (Value.ref a_GREATER), .val (Value.int (1 : Int32)), .unset, .unset, .unset] []))
      refine own_iloadN X19 hx hby at_73 rfl ?_
      show own_G p e below s _ _ _ (T19.setTop (mkF m 74 #[.val (Value.int x0), .val (Value.int x1), .val (Value.ref b1), .val (Value.int (4 : Int32)), .val (Value.ref a_GREATER), .val (Value.int (1 : Int32)), .unset, .unset, .unset] [(Value.int (4 : Int32))]))
      refine own_iconst X19 hx hby at_74 ?_
      show own_G p e below s _ _ _ (T19.setTop (mkF m 75 #[.val (Value.int x0), .val (Value.int x1), .val (Value.ref b1), .val (Value.int (4 : Int32)), .val (Value.ref a_GREATER), .val (Value.int (1 : Int32)), .unset, .unset, .unset] [(Value.int (2 : Int32)), (Value.int (4 : Int32))]))
      refine own_icmp_eq X19 hx hby at_75 (pc' := 83) (by decide) (by decide) (fun hb93 => by exfalso; revert hb93; decide) (fun hb93 => ?_)
      show own_G p e below s _ _ _ (T19.setTop (mkF m 78 #[.val (Value.int x0), .val (Value.int x1), .val (Value.ref b1), .val (Value.int (4 : Int32)), .val (Value.ref a_GREATER), .val (Value.int (1 : Int32)), .unset, .unset, .unset] []))
      refine own_iloadN X19 hx hby at_78 rfl ?_
      show own_G p e below s _ _ _ (T19.setTop (mkF m 79 #[.val (Value.int x0), .val (Value.int x1), .val (Value.ref b1), .val (Value.int (4 : Int32)), .val (Value.ref a_GREATER), .val (Value.int (1 : Int32)), .unset, .unset, .unset] [(Value.int (4 : Int32))]))
      refine own_iconst X19 hx hby at_79 ?_
      show own_G p e below s _ _ _ (T19.setTop (mkF m 80 #[.val (Value.int x0), .val (Value.int x1), .val (Value.ref b1), .val (Value.int (4 : Int32)), .val (Value.ref a_GREATER), .val (Value.int (1 : Int32)), .unset, .unset, .unset] [(Value.int (3 : Int32)), (Value.int (4 : Int32))]))
      refine own_icmp_ne X19 hx hby at_80 (pc' := 87) (by decide) (by decide) (fun hb94 => ?_) (fun hb94 => by exfalso; revert hb94; decide)
      show own_G p e below s _ _ _ (T19.setTop (mkF m 87 #[.val (Value.int x0), .val (Value.int x1), .val (Value.ref b1), .val (Value.int (4 : Int32)), .val (Value.ref a_GREATER), .val (Value.int (1 : Int32)), .unset, .unset, .unset] []))
      refine own_iconst X19 hx hby at_87 ?_
      show own_G p e below s _ _ _ (T19.setTop (mkF m 88 #[.val (Value.int x0), .val (Value.int x1), .val (Value.ref b1), .val (Value.int (4 : Int32)), .val (Value.ref a_GREATER), .val (Value.int (1 : Int32)), .unset, .unset, .unset] [(Value.int (0 : Int32))]))
      refine own_istore X19 hx hby at_88 (l' := #[.val (Value.int x0), .val (Value.int x1), .val (Value.ref b1), .val (Value.int (4 : Int32)), .val (Value.ref a_GREATER), .val (Value.int (1 : Int32)), .val (Value.int (0 : Int32)), .unset, .unset]) rfl ?_
      show own_G p e below s _ _ _ (T19.setTop (mkF m 90 #[.val (Value.int x0), .val (Value.int x1), .val (Value.ref b1), .val (Value.int (4 : Int32)), .val (Value.ref a_GREATER), .val (Value.int (1 : Int32)), .val (Value.int (0 : Int32)), .unset, .unset] []))
      refine own_aload X19 hx hby at_90 rfl rfl ?_
      show own_G p e below s _ _ _ (T19.setTop (mkF m 92 #[.val (Value.int x0), .val (Value.int x1), .val (Value.ref b1), .val (Value.int (4 : Int32)), .val (Value.ref a_GREATER), .val (Value.int (1 : Int32)), .val (Value.int (0 : Int32)), .unset, .unset] [(Value.ref a_GREATER)]))
      obtain ⟨cq95, kq95, q95a, q95b, q95c⟩ := isOf (T := T19) hZ e19 (Exa.ext O20.2 En_GREATER.2.1)
      obtain ⟨_, _, ⟨T95, L95, k95, n95⟩, -, X95, ⟨Lc95, hQ95, l95, y95, z95⟩, st95⟩ := X19.virtualBack hx (y := (⟨"com/example/gazetteer/gazetteer/partitions/Condition$Operator", "boundsAbove", "()Z"⟩ : MethodName)) (z := (⟨"com/example/gazetteer/gazetteer/partitions/Condition$Operator", "boundsAbove", "()Z"⟩ : MethodName)) hown (mvT hZ (own_w17 hw)) (mvT hZ (own_w18 hw)) (notFace_of_selects (args := #[]) (mvT hZ (own_w20 hw))) (mvT hZ (own_w20 hw)) (mvT hZ (own_w19 hw)) (by decide) (backOf (W := 0) (own_rm1 l Z a0 hw [] a_GREATER a_EQUAL a_NOT_EQUAL a_LESS a_LESS_OR_EQUAL a_GREATER a_GREATER_OR_EQUAL h19 n0 O20  En_EQUAL En_NOT_EQUAL En_LESS En_LESS_OR_EQUAL En_GREATER En_GREATER_OR_EQUAL) hZ (own_w21 hw) (own_w3 hw) (by decide) (by decide)) q95a q95c (g := (mkF m 92 #[.val (Value.int x0), .val (Value.int x1), .val (Value.ref b1), .val (Value.int (4 : Int32)), .val (Value.ref a_GREATER), .val (Value.int (1 : Int32)), .val (Value.int (0 : Int32)), .unset, .unset] [(Value.ref a_GREATER)])) rfl (by rw [hml]; rfl) (Steps.refl _) (argsL := []) (rest := []) (lenOf own_pd1 rfl) rfl (by show 2 * 0 + _ ≤ _; exact Nat.le_of_eq rfl) (hb hby at_92) (fun _ _ => ⟨rfl, e19, (by decide : (1 : Nat) + 0 ≤ _), (by decide : (6 : Nat) + 0 ≤ _)⟩)
      dsimp only [Pt.U, Pt.locs, Pt.cells, Pt.slots] at X95 l95 y95 z95 st95 hQ95
      subst l95 y95 z95
      obtain ⟨rfl, e95, Nq95⟩ := hQ95
      have N95 := Fr.app N19 Nq95
      refine own_tr st95 ?_
      show own_G p e below s _ _ _ (T95.setTop (mkF m 95 #[.val (Value.int x0), .val (Value.int x1), .val (Value.ref b1), .val (Value.int (4 : Int32)), .val (Value.ref a_GREATER), .val (Value.int (1 : Int32)), .val (Value.int (0 : Int32)), .unset, .unset] [(Value.int (own_inc a_GREATER a_EQUAL a_LESS a_LESS_OR_EQUAL))]))
      rw [show ((own_inc a_GREATER a_EQUAL a_LESS a_LESS_OR_EQUAL) : Int32) = (0 : Int32) from by simp [own_inc, own_ne_ref (Fld.ne En_GREATER.2.2 En_EQUAL.2.2 (by decide)), own_ne_ref (Fld.ne En_GREATER.2.2 En_LESS.2.2 (by decide)), own_ne_ref (Fld.ne En_GREATER.2.2 En_LESS_OR_EQUAL.2.2 (by decide))]]
      refine own_istore X95 hx hby at_95 (l' := #[.val (Value.int x0), .val (Value.int x1), .val (Value.ref b1), .val (Value.int (4 : Int32)), .val (Value.ref a_GREATER), .val (Value.int (1 : Int32)), .val (Value.int (0 : Int32)), .val (Value.int (0 : Int32)), .unset]) rfl ?_
      show own_G p e below s _ _ _ (T95.setTop (mkF m 97 #[.val (Value.int x0), .val (Value.int x1), .val (Value.ref b1), .val (Value.int (4 : Int32)), .val (Value.ref a_GREATER), .val (Value.int (1 : Int32)), .val (Value.int (0 : Int32)), .val (Value.int (0 : Int32)), .unset] []))
      refine own_aload X95 hx hby at_97 rfl rfl ?_
      show own_G p e below s _ _ _ (T95.setTop (mkF m 99 #[.val (Value.int x0), .val (Value.int x1), .val (Value.ref b1), .val (Value.int (4 : Int32)), .val (Value.ref a_GREATER), .val (Value.int (1 : Int32)), .val (Value.int (0 : Int32)), .val (Value.int (0 : Int32)), .unset] [(Value.ref a_GREATER)]))
      refine own_iload X95 hx hby at_99 rfl ?_
      show own_G p e below s _ _ _ (T95.setTop (mkF m 101 #[.val (Value.int x0), .val (Value.int x1), .val (Value.ref b1), .val (Value.int (4 : Int32)), .val (Value.ref a_GREATER), .val (Value.int (1 : Int32)), .val (Value.int (0 : Int32)), .val (Value.int (0 : Int32)), .unset] [(Value.int (1 : Int32)), (Value.ref a_GREATER)]))
      obtain ⟨cq96, kq96, q96a, q96b, q96c⟩ := isOf (T := T95) hZ e95 (Exa.ext O20.2 En_GREATER.2.1)
      obtain ⟨_, _, ⟨T96, L96, k96, n96⟩, -, X96, ⟨Lc96, hQ96, l96, y96, z96⟩, st96⟩ := X95.virtualBack hx (y := (⟨"com/example/gazetteer/gazetteer/partitions/Condition$Operator", "holds", "(I)Z"⟩ : MethodName)) (z := (⟨"com/example/gazetteer/gazetteer/partitions/Condition$Operator", "holds", "(I)Z"⟩ : MethodName)) hown (mvT hZ (own_w23 hw)) (mvT hZ (own_w24 hw)) (notFace_of_selects (args := #[]) (mvT hZ (own_w26 hw))) (mvT hZ (own_w26 hw)) (mvT hZ (own_w25 hw)) (by decide) (backOf (W := 0) (own_rm2 l Z a0 hw [] a_GREATER (1 : Int32) (4 : Int32) h19 n0 O20  (Exa.ext O20.2 En_GREATER.2.1) (Fld.ext O20.2 En_GREATER.2.2) (by decide)) hZ (own_w27 hw) (own_w3 hw) (by decide) (by decide)) q96a q96c (g := (mkF m 101 #[.val (Value.int x0), .val (Value.int x1), .val (Value.ref b1), .val (Value.int (4 : Int32)), .val (Value.ref a_GREATER), .val (Value.int (1 : Int32)), .val (Value.int (0 : Int32)), .val (Value.int (0 : Int32)), .unset] [(Value.int (1 : Int32)), (Value.ref a_GREATER)])) rfl (by rw [hml]; rfl) (Steps.refl _) (argsL := [(Value.int (1 : Int32))]) (rest := []) (lenOf own_pd2 rfl) rfl (by show 2 * 0 + _ ≤ _; exact Nat.le_of_eq rfl) (hb hby at_101) (fun _ _ => ⟨rfl, e95, (by decide : (1 : Nat) + 0 ≤ _), (by decide : (6 : Nat) + 0 ≤ _)⟩)
      dsimp only [Pt.U, Pt.locs, Pt.cells, Pt.slots] at X96 l96 y96 z96 st96 hQ96
      subst l96 y96 z96
      obtain ⟨rfl, e96, Nq96⟩ := hQ96
      have N96 := Fr.app N95 Nq96
      refine own_tr st96 ?_
      show own_G p e below s _ _ _ (T96.setTop (mkF m 104 #[.val (Value.int x0), .val (Value.int x1), .val (Value.ref b1), .val (Value.int (4 : Int32)), .val (Value.ref a_GREATER), .val (Value.int (1 : Int32)), .val (Value.int (0 : Int32)), .val (Value.int (0 : Int32)), .unset] [(Value.int (own_holds (4 : Int32) (1 : Int32)))]))
      rw [show ((own_holds (4 : Int32) (1 : Int32)) : Int32) = (1 : Int32) from (own_holds_pos (by decide)).2.2.2.2.1]
      refine own_istore X96 hx hby at_104 (l' := #[.val (Value.int x0), .val (Value.int x1), .val (Value.ref b1), .val (Value.int (4 : Int32)), .val (Value.ref a_GREATER), .val (Value.int (1 : Int32)), .val (Value.int (0 : Int32)), .val (Value.int (0 : Int32)), .val (Value.int (1 : Int32))]) rfl ?_
      show own_G p e below s _ _ _ (T96.setTop (mkF m 106 #[.val (Value.int x0), .val (Value.int x1), .val (Value.ref b1), .val (Value.int (4 : Int32)), .val (Value.ref a_GREATER), .val (Value.int (1 : Int32)), .val (Value.int (0 : Int32)), .val (Value.int (0 : Int32)), .val (Value.int (1 : Int32))] []))
      refine own_iload X96 hx hby at_106 rfl ?_
      show own_G p e below s _ _ _ (T96.setTop (mkF m 108 #[.val (Value.int x0), .val (Value.int x1), .val (Value.ref b1), .val (Value.int (4 : Int32)), .val (Value.ref a_GREATER), .val (Value.int (1 : Int32)), .val (Value.int (0 : Int32)), .val (Value.int (0 : Int32)), .val (Value.int (1 : Int32))] [(Value.int (0 : Int32))]))
      refine own_iload X96 hx hby at_108 rfl ?_
      show own_G p e below s _ _ _ (T96.setTop (mkF m 110 #[.val (Value.int x0), .val (Value.int x1), .val (Value.ref b1), .val (Value.int (4 : Int32)), .val (Value.ref a_GREATER), .val (Value.int (1 : Int32)), .val (Value.int (0 : Int32)), .val (Value.int (0 : Int32)), .val (Value.int (1 : Int32))] [(Value.int (0 : Int32)), (Value.int (0 : Int32))]))
      refine own_icmp_ne X96 hx hby at_110 (pc' := 132) (by decide) (by decide) (fun hb97 => by exfalso; revert hb97; decide) (fun hb97 => ?_)
      show own_G p e below s _ _ _ (T96.setTop (mkF m 113 #[.val (Value.int x0), .val (Value.int x1), .val (Value.ref b1), .val (Value.int (4 : Int32)), .val (Value.ref a_GREATER), .val (Value.int (1 : Int32)), .val (Value.int (0 : Int32)), .val (Value.int (0 : Int32)), .val (Value.int (1 : Int32))] []))
      refine own_iload X96 hx hby at_113 rfl ?_
      show own_G p e below s _ _ _ (T96.setTop (mkF m 115 #[.val (Value.int x0), .val (Value.int x1), .val (Value.ref b1), .val (Value.int (4 : Int32)), .val (Value.ref a_GREATER), .val (Value.int (1 : Int32)), .val (Value.int (0 : Int32)), .val (Value.int (0 : Int32)), .val (Value.int (1 : Int32))] [(Value.int (0 : Int32))]))
      refine own_iload X96 hx hby at_115 rfl ?_
      show own_G p e below s _ _ _ (T96.setTop (mkF m 117 #[.val (Value.int x0), .val (Value.int x1), .val (Value.ref b1), .val (Value.int (4 : Int32)), .val (Value.ref a_GREATER), .val (Value.int (1 : Int32)), .val (Value.int (0 : Int32)), .val (Value.int (0 : Int32)), .val (Value.int (1 : Int32))] [(Value.int (1 : Int32)), (Value.int (0 : Int32))]))
      refine own_if_ne X96 hx hby at_117 (pc' := 124) (by decide) (by decide) (fun hb98 => ?_) (fun hb98 => by exfalso; revert hb98; decide)
      show own_G p e below s _ _ _ (T96.setTop (mkF m 124 #[.val (Value.int x0), .val (Value.int x1), .val (Value.ref b1), .val (Value.int (4 : Int32)), .val (Value.ref a_GREATER), .val (Value.int (1 : Int32)), .val (Value.int (0 : Int32)), .val (Value.int (0 : Int32)), .val (Value.int (1 : Int32))] [(Value.int (0 : Int32))]))
      refine own_iconst X96 hx hby at_124 ?_
      show own_G p e below s _ _ _ (T96.setTop (mkF m 125 #[.val (Value.int x0), .val (Value.int x1), .val (Value.ref b1), .val (Value.int (4 : Int32)), .val (Value.ref a_GREATER), .val (Value.int (1 : Int32)), .val (Value.int (0 : Int32)), .val (Value.int (0 : Int32)), .val (Value.int (1 : Int32))] [(Value.int (0 : Int32)), (Value.int (0 : Int32))]))
      refine own_icmp_ne X96 hx hby at_125 (pc' := 132) (by decide) (by decide) (fun hb99 => by exfalso; revert hb99; decide) (fun hb99 => ?_)
      show own_G p e below s _ _ _ (T96.setTop (mkF m 128 #[.val (Value.int x0), .val (Value.int x1), .val (Value.ref b1), .val (Value.int (4 : Int32)), .val (Value.ref a_GREATER), .val (Value.int (1 : Int32)), .val (Value.int (0 : Int32)), .val (Value.int (0 : Int32)), .val (Value.int (1 : Int32))] []))
      refine own_iconst X96 hx hby at_128 ?_
      show own_G p e below s _ _ _ (T96.setTop (mkF m 129 #[.val (Value.int x0), .val (Value.int x1), .val (Value.ref b1), .val (Value.int (4 : Int32)), .val (Value.ref a_GREATER), .val (Value.int (1 : Int32)), .val (Value.int (0 : Int32)), .val (Value.int (0 : Int32)), .val (Value.int (1 : Int32))] [(Value.int (1 : Int32))]))
      refine own_goto X96 hx hby at_129 (pc' := 133) (by decide) (by decide) ?_
      show own_G p e below s _ _ _ (T96.setTop (mkF m 133 #[.val (Value.int x0), .val (Value.int x1), .val (Value.ref b1), .val (Value.int (4 : Int32)), .val (Value.ref a_GREATER), .val (Value.int (1 : Int32)), .val (Value.int (0 : Int32)), .val (Value.int (0 : Int32)), .val (Value.int (1 : Int32))] [(Value.int (1 : Int32))]))
      refine own_retN X96 hx hby hlk (t := .boolean) Bd.returns (by simp) at_133 (by decide) (by decide) ?_
      exact ⟨rfl, N96⟩
  · rw [hk]
    show own_G p e below s _ _ _ (T19.setTop (mkF m 49 #[.val (Value.int x0), .val (Value.int x1), .val (Value.ref b1), .unset, .unset, .unset, .unset, .unset, .unset] [(Value.int (5 : Int32))]))
    refine own_istoreN X19 hx hby at_49 (l' := #[.val (Value.int x0), .val (Value.int x1), .val (Value.ref b1), .val (Value.int (5 : Int32)), .unset, .unset, .unset, .unset, .unset]) rfl ?_
    show own_G p e below s _ _ _ (T19.setTop (mkF m 50 #[.val (Value.int x0), .val (Value.int x1), .val (Value.ref b1), .val (Value.int (5 : Int32)), .unset, .unset, .unset, .unset, .unset] []))
    refine own_aloadN X19 hx hby at_50 rfl rfl ?_
    show own_G p e below s _ _ _ (T19.setTop (mkF m 51 #[.val (Value.int x0), .val (Value.int x1), .val (Value.ref b1), .val (Value.int (5 : Int32)), .unset, .unset, .unset, .unset, .unset] [(Value.ref b1)]))
    refine own_iloadN X19 hx hby at_51 rfl ?_
    show own_G p e below s _ _ _ (T19.setTop (mkF m 52 #[.val (Value.int x0), .val (Value.int x1), .val (Value.ref b1), .val (Value.int (5 : Int32)), .unset, .unset, .unset, .unset, .unset] [(Value.int (5 : Int32)), (Value.ref b1)]))
    refine own_aaload X19 hx hby hZ e19 A19 rfl (j := (5 : Int32)) (i := 5) (by decide) (by decide) at_52 ?_
    show own_G p e below s _ _ _ (T19.setTop (mkF m 53 #[.val (Value.int x0), .val (Value.int x1), .val (Value.ref b1), .val (Value.int (5 : Int32)), .unset, .unset, .unset, .unset, .unset] [(Value.ref a_GREATER_OR_EQUAL)]))
    refine own_astore X19 hx hby at_53 rfl (l' := #[.val (Value.int x0), .val (Value.int x1), .val (Value.ref b1), .val (Value.int (5 : Int32)), .val (Value.ref a_GREATER_OR_EQUAL), .unset, .unset, .unset, .unset]) rfl ?_
    show own_G p e below s _ _ _ (T19.setTop (mkF m 55 #[.val (Value.int x0), .val (Value.int x1), .val (Value.ref b1), .val (Value.int (5 : Int32)), .val (Value.ref a_GREATER_OR_EQUAL), .unset, .unset, .unset, .unset] []))
    refine own_iloadN X19 hx hby at_55 rfl ?_
    show own_G p e below s _ _ _ (T19.setTop (mkF m 56 #[.val (Value.int x0), .val (Value.int x1), .val (Value.ref b1), .val (Value.int (5 : Int32)), .val (Value.ref a_GREATER_OR_EQUAL), .unset, .unset, .unset, .unset] [(Value.int x1)]))
    refine own_ldcI X19 hx hby hZ hown (own_w16 hw) at_56 ?_
    show own_G p e below s _ _ _ (T19.setTop (mkF m 58 #[.val (Value.int x0), .val (Value.int x1), .val (Value.ref b1), .val (Value.int (5 : Int32)), .val (Value.ref a_GREATER_OR_EQUAL), .unset, .unset, .unset, .unset] [(Value.int (2147483647 : Int32)), (Value.int x1)]))
    refine own_iand X19 hx hby at_58 ?_
    show own_G p e below s _ _ _ (T19.setTop (mkF m 59 #[.val (Value.int x0), .val (Value.int x1), .val (Value.ref b1), .val (Value.int (5 : Int32)), .val (Value.ref a_GREATER_OR_EQUAL), .unset, .unset, .unset, .unset] [(Value.int (x1 &&& (2147483647 : Int32)))]))
    refine own_istore X19 hx hby at_59 (l' := #[.val (Value.int x0), .val (Value.int x1), .val (Value.ref b1), .val (Value.int (5 : Int32)), .val (Value.ref a_GREATER_OR_EQUAL), .val (Value.int (x1 &&& (2147483647 : Int32))), .unset, .unset, .unset]) rfl ?_
    show own_G p e below s _ _ _ (T19.setTop (mkF m 61 #[.val (Value.int x0), .val (Value.int x1), .val (Value.ref b1), .val (Value.int (5 : Int32)), .val (Value.ref a_GREATER_OR_EQUAL), .val (Value.int (x1 &&& (2147483647 : Int32))), .unset, .unset, .unset] []))
    refine own_iload X19 hx hby at_61 rfl ?_
    show own_G p e below s _ _ _ (T19.setTop (mkF m 63 #[.val (Value.int x0), .val (Value.int x1), .val (Value.ref b1), .val (Value.int (5 : Int32)), .val (Value.ref a_GREATER_OR_EQUAL), .val (Value.int (x1 &&& (2147483647 : Int32))), .unset, .unset, .unset] [(Value.int (x1 &&& (2147483647 : Int32)))]))
    refine own_if_ne X19 hx hby at_63 (pc' := 69) (by decide) (by decide) (fun hb100 => ?_) (fun hb100 => ?_)
    · show own_G p e below s _ _ _ (T19.setTop (mkF m 69 #[.val (Value.int x0), .val (Value.int x1), .val (Value.ref b1), .val (Value.int (5 : Int32)), .val (Value.ref a_GREATER_OR_EQUAL), .val (Value.int (x1 &&& (2147483647 : Int32))), .unset, .unset, .unset] []))
      refine own_iloadN X19 hx hby at_69 rfl ?_
      show own_G p e below s _ _ _ (T19.setTop (mkF m 70 #[.val (Value.int x0), .val (Value.int x1), .val (Value.ref b1), .val (Value.int (5 : Int32)), .val (Value.ref a_GREATER_OR_EQUAL), .val (Value.int (x1 &&& (2147483647 : Int32))), .unset, .unset, .unset] [(Value.int (5 : Int32))]))
      refine own_if_eq X19 hx hby at_70 (pc' := 83) (by decide) (by decide) (fun hb101 => by exfalso; revert hb101; decide) (fun hb101 => ?_)
      show own_G p e below s _ _ _ (T19.setTop (mkF m 73 #[.val (Value.int x0), .val (Value.int x1), .val (Value.ref b1), .val (Value.int (5 : Int32)), .val (Value.ref a_GREATER_OR_EQUAL), .val (Value.int (x1 &&& (2147483647 : Int32))), .unset, .unset, .unset] []))
      refine own_iloadN X19 hx hby at_73 rfl ?_
      show own_G p e below s _ _ _ (T19.setTop (mkF m 74 #[.val (Value.int x0), .val (Value.int x1), .val (Value.ref b1), .val (Value.int (5 : Int32)), .val (Value.ref a_GREATER_OR_EQUAL), .val (Value.int (x1 &&& (2147483647 : Int32))), .unset, .unset, .unset] [(Value.int (5 : Int32))]))
      refine own_iconst X19 hx hby at_74 ?_
      show own_G p e below s _ _ _ (T19.setTop (mkF m 75 #[.val (Value.int x0), .val (Value.int x1), .val (Value.ref b1), .val (Value.int (5 : Int32)), .val (Value.ref a_GREATER_OR_EQUAL), .val (Value.int (x1 &&& (2147483647 : Int32))), .unset, .unset, .unset] [(Value.int (2 : Int32)), (Value.int (5 : Int32))]))
      refine own_icmp_eq X19 hx hby at_75 (pc' := 83) (by decide) (by decide) (fun hb102 => by exfalso; revert hb102; decide) (fun hb102 => ?_)
      show own_G p e below s _ _ _ (T19.setTop (mkF m 78 #[.val (Value.int x0), .val (Value.int x1), .val (Value.ref b1), .val (Value.int (5 : Int32)), .val (Value.ref a_GREATER_OR_EQUAL), .val (Value.int (x1 &&& (2147483647 : Int32))), .unset, .unset, .unset] []))
      refine own_iloadN X19 hx hby at_78 rfl ?_
      show own_G p e below s _ _ _ (T19.setTop (mkF m 79 #[.val (Value.int x0), .val (Value.int x1), .val (Value.ref b1), .val (Value.int (5 : Int32)), .val (Value.ref a_GREATER_OR_EQUAL), .val (Value.int (x1 &&& (2147483647 : Int32))), .unset, .unset, .unset] [(Value.int (5 : Int32))]))
      refine own_iconst X19 hx hby at_79 ?_
      show own_G p e below s _ _ _ (T19.setTop (mkF m 80 #[.val (Value.int x0), .val (Value.int x1), .val (Value.ref b1), .val (Value.int (5 : Int32)), .val (Value.ref a_GREATER_OR_EQUAL), .val (Value.int (x1 &&& (2147483647 : Int32))), .unset, .unset, .unset] [(Value.int (3 : Int32)), (Value.int (5 : Int32))]))
      refine own_icmp_ne X19 hx hby at_80 (pc' := 87) (by decide) (by decide) (fun hb103 => ?_) (fun hb103 => by exfalso; revert hb103; decide)
      show own_G p e below s _ _ _ (T19.setTop (mkF m 87 #[.val (Value.int x0), .val (Value.int x1), .val (Value.ref b1), .val (Value.int (5 : Int32)), .val (Value.ref a_GREATER_OR_EQUAL), .val (Value.int (x1 &&& (2147483647 : Int32))), .unset, .unset, .unset] []))
      refine own_iconst X19 hx hby at_87 ?_
      show own_G p e below s _ _ _ (T19.setTop (mkF m 88 #[.val (Value.int x0), .val (Value.int x1), .val (Value.ref b1), .val (Value.int (5 : Int32)), .val (Value.ref a_GREATER_OR_EQUAL), .val (Value.int (x1 &&& (2147483647 : Int32))), .unset, .unset, .unset] [(Value.int (0 : Int32))]))
      refine own_istore X19 hx hby at_88 (l' := #[.val (Value.int x0), .val (Value.int x1), .val (Value.ref b1), .val (Value.int (5 : Int32)), .val (Value.ref a_GREATER_OR_EQUAL), .val (Value.int (x1 &&& (2147483647 : Int32))), .val (Value.int (0 : Int32)), .unset, .unset]) rfl ?_
      show own_G p e below s _ _ _ (T19.setTop (mkF m 90 #[.val (Value.int x0), .val (Value.int x1), .val (Value.ref b1), .val (Value.int (5 : Int32)), .val (Value.ref a_GREATER_OR_EQUAL), .val (Value.int (x1 &&& (2147483647 : Int32))), .val (Value.int (0 : Int32)), .unset, .unset] []))
      refine own_aload X19 hx hby at_90 rfl rfl ?_
      show own_G p e below s _ _ _ (T19.setTop (mkF m 92 #[.val (Value.int x0), .val (Value.int x1), .val (Value.ref b1), .val (Value.int (5 : Int32)), .val (Value.ref a_GREATER_OR_EQUAL), .val (Value.int (x1 &&& (2147483647 : Int32))), .val (Value.int (0 : Int32)), .unset, .unset] [(Value.ref a_GREATER_OR_EQUAL)]))
      obtain ⟨cq104, kq104, q104a, q104b, q104c⟩ := isOf (T := T19) hZ e19 (Exa.ext O20.2 En_GREATER_OR_EQUAL.2.1)
      obtain ⟨_, _, ⟨T104, L104, k104, n104⟩, -, X104, ⟨Lc104, hQ104, l104, y104, z104⟩, st104⟩ := X19.virtualBack hx (y := (⟨"com/example/gazetteer/gazetteer/partitions/Condition$Operator", "boundsAbove", "()Z"⟩ : MethodName)) (z := (⟨"com/example/gazetteer/gazetteer/partitions/Condition$Operator", "boundsAbove", "()Z"⟩ : MethodName)) hown (mvT hZ (own_w17 hw)) (mvT hZ (own_w18 hw)) (notFace_of_selects (args := #[]) (mvT hZ (own_w20 hw))) (mvT hZ (own_w20 hw)) (mvT hZ (own_w19 hw)) (by decide) (backOf (W := 0) (own_rm1 l Z a0 hw [] a_GREATER_OR_EQUAL a_EQUAL a_NOT_EQUAL a_LESS a_LESS_OR_EQUAL a_GREATER a_GREATER_OR_EQUAL h19 n0 O20  En_EQUAL En_NOT_EQUAL En_LESS En_LESS_OR_EQUAL En_GREATER En_GREATER_OR_EQUAL) hZ (own_w21 hw) (own_w3 hw) (by decide) (by decide)) q104a q104c (g := (mkF m 92 #[.val (Value.int x0), .val (Value.int x1), .val (Value.ref b1), .val (Value.int (5 : Int32)), .val (Value.ref a_GREATER_OR_EQUAL), .val (Value.int (x1 &&& (2147483647 : Int32))), .val (Value.int (0 : Int32)), .unset, .unset] [(Value.ref a_GREATER_OR_EQUAL)])) rfl (by rw [hml]; rfl) (Steps.refl _) (argsL := []) (rest := []) (lenOf own_pd1 rfl) rfl (by show 2 * 0 + _ ≤ _; exact Nat.le_of_eq rfl) (hb hby at_92) (fun _ _ => ⟨rfl, e19, (by decide : (1 : Nat) + 0 ≤ _), (by decide : (6 : Nat) + 0 ≤ _)⟩)
      dsimp only [Pt.U, Pt.locs, Pt.cells, Pt.slots] at X104 l104 y104 z104 st104 hQ104
      subst l104 y104 z104
      obtain ⟨rfl, e104, Nq104⟩ := hQ104
      have N104 := Fr.app N19 Nq104
      refine own_tr st104 ?_
      show own_G p e below s _ _ _ (T104.setTop (mkF m 95 #[.val (Value.int x0), .val (Value.int x1), .val (Value.ref b1), .val (Value.int (5 : Int32)), .val (Value.ref a_GREATER_OR_EQUAL), .val (Value.int (x1 &&& (2147483647 : Int32))), .val (Value.int (0 : Int32)), .unset, .unset] [(Value.int (own_inc a_GREATER_OR_EQUAL a_EQUAL a_LESS a_LESS_OR_EQUAL))]))
      rw [show ((own_inc a_GREATER_OR_EQUAL a_EQUAL a_LESS a_LESS_OR_EQUAL) : Int32) = (0 : Int32) from by simp [own_inc, own_ne_ref (Fld.ne En_GREATER_OR_EQUAL.2.2 En_EQUAL.2.2 (by decide)), own_ne_ref (Fld.ne En_GREATER_OR_EQUAL.2.2 En_LESS.2.2 (by decide)), own_ne_ref (Fld.ne En_GREATER_OR_EQUAL.2.2 En_LESS_OR_EQUAL.2.2 (by decide))]]
      refine own_istore X104 hx hby at_95 (l' := #[.val (Value.int x0), .val (Value.int x1), .val (Value.ref b1), .val (Value.int (5 : Int32)), .val (Value.ref a_GREATER_OR_EQUAL), .val (Value.int (x1 &&& (2147483647 : Int32))), .val (Value.int (0 : Int32)), .val (Value.int (0 : Int32)), .unset]) rfl ?_
      show own_G p e below s _ _ _ (T104.setTop (mkF m 97 #[.val (Value.int x0), .val (Value.int x1), .val (Value.ref b1), .val (Value.int (5 : Int32)), .val (Value.ref a_GREATER_OR_EQUAL), .val (Value.int (x1 &&& (2147483647 : Int32))), .val (Value.int (0 : Int32)), .val (Value.int (0 : Int32)), .unset] []))
      refine own_aload X104 hx hby at_97 rfl rfl ?_
      show own_G p e below s _ _ _ (T104.setTop (mkF m 99 #[.val (Value.int x0), .val (Value.int x1), .val (Value.ref b1), .val (Value.int (5 : Int32)), .val (Value.ref a_GREATER_OR_EQUAL), .val (Value.int (x1 &&& (2147483647 : Int32))), .val (Value.int (0 : Int32)), .val (Value.int (0 : Int32)), .unset] [(Value.ref a_GREATER_OR_EQUAL)]))
      refine own_iload X104 hx hby at_99 rfl ?_
      show own_G p e below s _ _ _ (T104.setTop (mkF m 101 #[.val (Value.int x0), .val (Value.int x1), .val (Value.ref b1), .val (Value.int (5 : Int32)), .val (Value.ref a_GREATER_OR_EQUAL), .val (Value.int (x1 &&& (2147483647 : Int32))), .val (Value.int (0 : Int32)), .val (Value.int (0 : Int32)), .unset] [(Value.int (x1 &&& (2147483647 : Int32))), (Value.ref a_GREATER_OR_EQUAL)]))
      obtain ⟨cq105, kq105, q105a, q105b, q105c⟩ := isOf (T := T104) hZ e104 (Exa.ext O20.2 En_GREATER_OR_EQUAL.2.1)
      obtain ⟨_, _, ⟨T105, L105, k105, n105⟩, -, X105, ⟨Lc105, hQ105, l105, y105, z105⟩, st105⟩ := X104.virtualBack hx (y := (⟨"com/example/gazetteer/gazetteer/partitions/Condition$Operator", "holds", "(I)Z"⟩ : MethodName)) (z := (⟨"com/example/gazetteer/gazetteer/partitions/Condition$Operator", "holds", "(I)Z"⟩ : MethodName)) hown (mvT hZ (own_w23 hw)) (mvT hZ (own_w24 hw)) (notFace_of_selects (args := #[]) (mvT hZ (own_w26 hw))) (mvT hZ (own_w26 hw)) (mvT hZ (own_w25 hw)) (by decide) (backOf (W := 0) (own_rm2 l Z a0 hw [] a_GREATER_OR_EQUAL (x1 &&& (2147483647 : Int32)) (5 : Int32) h19 n0 O20  (Exa.ext O20.2 En_GREATER_OR_EQUAL.2.1) (Fld.ext O20.2 En_GREATER_OR_EQUAL.2.2) (by decide)) hZ (own_w27 hw) (own_w3 hw) (by decide) (by decide)) q105a q105c (g := (mkF m 101 #[.val (Value.int x0), .val (Value.int x1), .val (Value.ref b1), .val (Value.int (5 : Int32)), .val (Value.ref a_GREATER_OR_EQUAL), .val (Value.int (x1 &&& (2147483647 : Int32))), .val (Value.int (0 : Int32)), .val (Value.int (0 : Int32)), .unset] [(Value.int (x1 &&& (2147483647 : Int32))), (Value.ref a_GREATER_OR_EQUAL)])) rfl (by rw [hml]; rfl) (Steps.refl _) (argsL := [(Value.int (x1 &&& (2147483647 : Int32)))]) (rest := []) (lenOf own_pd2 rfl) rfl (by show 2 * 0 + _ ≤ _; exact Nat.le_of_eq rfl) (hb hby at_101) (fun _ _ => ⟨rfl, e104, (by decide : (1 : Nat) + 0 ≤ _), (by decide : (6 : Nat) + 0 ≤ _)⟩)
      dsimp only [Pt.U, Pt.locs, Pt.cells, Pt.slots] at X105 l105 y105 z105 st105 hQ105
      subst l105 y105 z105
      obtain ⟨rfl, e105, Nq105⟩ := hQ105
      have N105 := Fr.app N104 Nq105
      refine own_tr st105 ?_
      show own_G p e below s _ _ _ (T105.setTop (mkF m 104 #[.val (Value.int x0), .val (Value.int x1), .val (Value.ref b1), .val (Value.int (5 : Int32)), .val (Value.ref a_GREATER_OR_EQUAL), .val (Value.int (x1 &&& (2147483647 : Int32))), .val (Value.int (0 : Int32)), .val (Value.int (0 : Int32)), .unset] [(Value.int (own_holds (5 : Int32) (x1 &&& (2147483647 : Int32))))]))
      rw [show ((own_holds (5 : Int32) (x1 &&& (2147483647 : Int32))) : Int32) = (1 : Int32) from (own_holds_pos (own_posAnd hb100)).2.2.2.2.2]
      refine own_istore X105 hx hby at_104 (l' := #[.val (Value.int x0), .val (Value.int x1), .val (Value.ref b1), .val (Value.int (5 : Int32)), .val (Value.ref a_GREATER_OR_EQUAL), .val (Value.int (x1 &&& (2147483647 : Int32))), .val (Value.int (0 : Int32)), .val (Value.int (0 : Int32)), .val (Value.int (1 : Int32))]) rfl ?_
      show own_G p e below s _ _ _ (T105.setTop (mkF m 106 #[.val (Value.int x0), .val (Value.int x1), .val (Value.ref b1), .val (Value.int (5 : Int32)), .val (Value.ref a_GREATER_OR_EQUAL), .val (Value.int (x1 &&& (2147483647 : Int32))), .val (Value.int (0 : Int32)), .val (Value.int (0 : Int32)), .val (Value.int (1 : Int32))] []))
      refine own_iload X105 hx hby at_106 rfl ?_
      show own_G p e below s _ _ _ (T105.setTop (mkF m 108 #[.val (Value.int x0), .val (Value.int x1), .val (Value.ref b1), .val (Value.int (5 : Int32)), .val (Value.ref a_GREATER_OR_EQUAL), .val (Value.int (x1 &&& (2147483647 : Int32))), .val (Value.int (0 : Int32)), .val (Value.int (0 : Int32)), .val (Value.int (1 : Int32))] [(Value.int (0 : Int32))]))
      refine own_iload X105 hx hby at_108 rfl ?_
      show own_G p e below s _ _ _ (T105.setTop (mkF m 110 #[.val (Value.int x0), .val (Value.int x1), .val (Value.ref b1), .val (Value.int (5 : Int32)), .val (Value.ref a_GREATER_OR_EQUAL), .val (Value.int (x1 &&& (2147483647 : Int32))), .val (Value.int (0 : Int32)), .val (Value.int (0 : Int32)), .val (Value.int (1 : Int32))] [(Value.int (0 : Int32)), (Value.int (0 : Int32))]))
      refine own_icmp_ne X105 hx hby at_110 (pc' := 132) (by decide) (by decide) (fun hb106 => by exfalso; revert hb106; decide) (fun hb106 => ?_)
      show own_G p e below s _ _ _ (T105.setTop (mkF m 113 #[.val (Value.int x0), .val (Value.int x1), .val (Value.ref b1), .val (Value.int (5 : Int32)), .val (Value.ref a_GREATER_OR_EQUAL), .val (Value.int (x1 &&& (2147483647 : Int32))), .val (Value.int (0 : Int32)), .val (Value.int (0 : Int32)), .val (Value.int (1 : Int32))] []))
      refine own_iload X105 hx hby at_113 rfl ?_
      show own_G p e below s _ _ _ (T105.setTop (mkF m 115 #[.val (Value.int x0), .val (Value.int x1), .val (Value.ref b1), .val (Value.int (5 : Int32)), .val (Value.ref a_GREATER_OR_EQUAL), .val (Value.int (x1 &&& (2147483647 : Int32))), .val (Value.int (0 : Int32)), .val (Value.int (0 : Int32)), .val (Value.int (1 : Int32))] [(Value.int (0 : Int32))]))
      refine own_iload X105 hx hby at_115 rfl ?_
      show own_G p e below s _ _ _ (T105.setTop (mkF m 117 #[.val (Value.int x0), .val (Value.int x1), .val (Value.ref b1), .val (Value.int (5 : Int32)), .val (Value.ref a_GREATER_OR_EQUAL), .val (Value.int (x1 &&& (2147483647 : Int32))), .val (Value.int (0 : Int32)), .val (Value.int (0 : Int32)), .val (Value.int (1 : Int32))] [(Value.int (1 : Int32)), (Value.int (0 : Int32))]))
      refine own_if_ne X105 hx hby at_117 (pc' := 124) (by decide) (by decide) (fun hb107 => ?_) (fun hb107 => by exfalso; revert hb107; decide)
      show own_G p e below s _ _ _ (T105.setTop (mkF m 124 #[.val (Value.int x0), .val (Value.int x1), .val (Value.ref b1), .val (Value.int (5 : Int32)), .val (Value.ref a_GREATER_OR_EQUAL), .val (Value.int (x1 &&& (2147483647 : Int32))), .val (Value.int (0 : Int32)), .val (Value.int (0 : Int32)), .val (Value.int (1 : Int32))] [(Value.int (0 : Int32))]))
      refine own_iconst X105 hx hby at_124 ?_
      show own_G p e below s _ _ _ (T105.setTop (mkF m 125 #[.val (Value.int x0), .val (Value.int x1), .val (Value.ref b1), .val (Value.int (5 : Int32)), .val (Value.ref a_GREATER_OR_EQUAL), .val (Value.int (x1 &&& (2147483647 : Int32))), .val (Value.int (0 : Int32)), .val (Value.int (0 : Int32)), .val (Value.int (1 : Int32))] [(Value.int (0 : Int32)), (Value.int (0 : Int32))]))
      refine own_icmp_ne X105 hx hby at_125 (pc' := 132) (by decide) (by decide) (fun hb108 => by exfalso; revert hb108; decide) (fun hb108 => ?_)
      show own_G p e below s _ _ _ (T105.setTop (mkF m 128 #[.val (Value.int x0), .val (Value.int x1), .val (Value.ref b1), .val (Value.int (5 : Int32)), .val (Value.ref a_GREATER_OR_EQUAL), .val (Value.int (x1 &&& (2147483647 : Int32))), .val (Value.int (0 : Int32)), .val (Value.int (0 : Int32)), .val (Value.int (1 : Int32))] []))
      refine own_iconst X105 hx hby at_128 ?_
      show own_G p e below s _ _ _ (T105.setTop (mkF m 129 #[.val (Value.int x0), .val (Value.int x1), .val (Value.ref b1), .val (Value.int (5 : Int32)), .val (Value.ref a_GREATER_OR_EQUAL), .val (Value.int (x1 &&& (2147483647 : Int32))), .val (Value.int (0 : Int32)), .val (Value.int (0 : Int32)), .val (Value.int (1 : Int32))] [(Value.int (1 : Int32))]))
      refine own_goto X105 hx hby at_129 (pc' := 133) (by decide) (by decide) ?_
      show own_G p e below s _ _ _ (T105.setTop (mkF m 133 #[.val (Value.int x0), .val (Value.int x1), .val (Value.ref b1), .val (Value.int (5 : Int32)), .val (Value.ref a_GREATER_OR_EQUAL), .val (Value.int (x1 &&& (2147483647 : Int32))), .val (Value.int (0 : Int32)), .val (Value.int (0 : Int32)), .val (Value.int (1 : Int32))] [(Value.int (1 : Int32))]))
      refine own_retN X105 hx hby hlk (t := .boolean) Bd.returns (by simp) at_133 (by decide) (by decide) ?_
      exact ⟨rfl, N105⟩
    · show own_G p e below s _ _ _ (T19.setTop (mkF m 66 #[.val (Value.int x0), .val (Value.int x1), .val (Value.ref b1), .val (Value.int (5 : Int32)), .val (Value.ref a_GREATER_OR_EQUAL), .val (Value.int (x1 &&& (2147483647 : Int32))), .unset, .unset, .unset] []))
      refine own_iconst X19 hx hby at_66 ?_
      show own_G p e below s _ _ _ (T19.setTop (mkF m 67 #[.val (Value.int x0), .val (Value.int x1), .val (Value.ref b1), .val (Value.int (5 : Int32)), .val (Value.ref a_GREATER_OR_EQUAL), .val (Value.int (x1 &&& (2147483647 : Int32))), .unset, .unset, .unset] [(Value.int (1 : Int32))]))
      refine own_istore X19 hx hby at_67 (l' := #[.val (Value.int x0), .val (Value.int x1), .val (Value.ref b1), .val (Value.int (5 : Int32)), .val (Value.ref a_GREATER_OR_EQUAL), .val (Value.int (1 : Int32)), .unset, .unset, .unset]) rfl ?_
      show own_G p e below s _ _ _ (T19.setTop (mkF m 69 #[.val (Value.int x0), .val (Value.int x1), .val (Value.ref b1), .val (Value.int (5 : Int32)), .val (Value.ref a_GREATER_OR_EQUAL), .val (Value.int (1 : Int32)), .unset, .unset, .unset] []))
      refine own_iloadN X19 hx hby at_69 rfl ?_
      show own_G p e below s _ _ _ (T19.setTop (mkF m 70 #[.val (Value.int x0), .val (Value.int x1), .val (Value.ref b1), .val (Value.int (5 : Int32)), .val (Value.ref a_GREATER_OR_EQUAL), .val (Value.int (1 : Int32)), .unset, .unset, .unset] [(Value.int (5 : Int32))]))
      refine own_if_eq X19 hx hby at_70 (pc' := 83) (by decide) (by decide) (fun hb109 => by exfalso; revert hb109; decide) (fun hb109 => ?_)
      show own_G p e below s _ _ _ (T19.setTop (mkF m 73 #[.val (Value.int x0), .val (Value.int x1), .val (Value.ref b1), .val (Value.int (5 : Int32)), .val (Value.ref a_GREATER_OR_EQUAL), .val (Value.int (1 : Int32)), .unset, .unset, .unset] []))
      refine own_iloadN X19 hx hby at_73 rfl ?_
      show own_G p e below s _ _ _ (T19.setTop (mkF m 74 #[.val (Value.int x0), .val (Value.int x1), .val (Value.ref b1), .val (Value.int (5 : Int32)), .val (Value.ref a_GREATER_OR_EQUAL), .val (Value.int (1 : Int32)), .unset, .unset, .unset] [(Value.int (5 : Int32))]))
      refine own_iconst X19 hx hby at_74 ?_
      show own_G p e below s _ _ _ (T19.setTop (mkF m 75 #[.val (Value.int x0), .val (Value.int x1), .val (Value.ref b1), .val (Value.int (5 : Int32)), .val (Value.ref a_GREATER_OR_EQUAL), .val (Value.int (1 : Int32)), .unset, .unset, .unset] [(Value.int (2 : Int32)), (Value.int (5 : Int32))]))
      refine own_icmp_eq X19 hx hby at_75 (pc' := 83) (by decide) (by decide) (fun hb110 => by exfalso; revert hb110; decide) (fun hb110 => ?_)
      show own_G p e below s _ _ _ (T19.setTop (mkF m 78 #[.val (Value.int x0), .val (Value.int x1), .val (Value.ref b1), .val (Value.int (5 : Int32)), .val (Value.ref a_GREATER_OR_EQUAL), .val (Value.int (1 : Int32)), .unset, .unset, .unset] []))
      refine own_iloadN X19 hx hby at_78 rfl ?_
      show own_G p e below s _ _ _ (T19.setTop (mkF m 79 #[.val (Value.int x0), .val (Value.int x1), .val (Value.ref b1), .val (Value.int (5 : Int32)), .val (Value.ref a_GREATER_OR_EQUAL), .val (Value.int (1 : Int32)), .unset, .unset, .unset] [(Value.int (5 : Int32))]))
      refine own_iconst X19 hx hby at_79 ?_
      show own_G p e below s _ _ _ (T19.setTop (mkF m 80 #[.val (Value.int x0), .val (Value.int x1), .val (Value.ref b1), .val (Value.int (5 : Int32)), .val (Value.ref a_GREATER_OR_EQUAL), .val (Value.int (1 : Int32)), .unset, .unset, .unset] [(Value.int (3 : Int32)), (Value.int (5 : Int32))]))
      refine own_icmp_ne X19 hx hby at_80 (pc' := 87) (by decide) (by decide) (fun hb111 => ?_) (fun hb111 => by exfalso; revert hb111; decide)
      show own_G p e below s _ _ _ (T19.setTop (mkF m 87 #[.val (Value.int x0), .val (Value.int x1), .val (Value.ref b1), .val (Value.int (5 : Int32)), .val (Value.ref a_GREATER_OR_EQUAL), .val (Value.int (1 : Int32)), .unset, .unset, .unset] []))
      refine own_iconst X19 hx hby at_87 ?_
      show own_G p e below s _ _ _ (T19.setTop (mkF m 88 #[.val (Value.int x0), .val (Value.int x1), .val (Value.ref b1), .val (Value.int (5 : Int32)), .val (Value.ref a_GREATER_OR_EQUAL), .val (Value.int (1 : Int32)), .unset, .unset, .unset] [(Value.int (0 : Int32))]))
      refine own_istore X19 hx hby at_88 (l' := #[.val (Value.int x0), .val (Value.int x1), .val (Value.ref b1), .val (Value.int (5 : Int32)), .val (Value.ref a_GREATER_OR_EQUAL), .val (Value.int (1 : Int32)), .val (Value.int (0 : Int32)), .unset, .unset]) rfl ?_
      show own_G p e below s _ _ _ (T19.setTop (mkF m 90 #[.val (Value.int x0), .val (Value.int x1), .val (Value.ref b1), .val (Value.int (5 : Int32)), .val (Value.ref a_GREATER_OR_EQUAL), .val (Value.int (1 : Int32)), .val (Value.int (0 : Int32)), .unset, .unset] []))
      refine own_aload X19 hx hby at_90 rfl rfl ?_
      show own_G p e below s _ _ _ (T19.setTop (mkF m 92 #[.val (Value.int x0), .val (Value.int x1), .val (Value.ref b1), .val (Value.int (5 : Int32)), .val (Value.ref a_GREATER_OR_EQUAL), .val (Value.int (1 : Int32)), .val (Value.int (0 : Int32)), .unset, .unset] [(Value.ref a_GREATER_OR_EQUAL)]))
      obtain ⟨cq112, kq112, q112a, q112b, q112c⟩ := isOf (T := T19) hZ e19 (Exa.ext O20.2 En_GREATER_OR_EQUAL.2.1)
      obtain ⟨_, _, ⟨T112, L112, k112, n112⟩, -, X112, ⟨Lc112, hQ112, l112, y112, z112⟩, st112⟩ := X19.virtualBack hx (y := (⟨"com/example/gazetteer/gazetteer/partitions/Condition$Operator", "boundsAbove", "()Z"⟩ : MethodName)) (z := (⟨"com/example/gazetteer/gazetteer/partitions/Condition$Operator", "boundsAbove", "()Z"⟩ : MethodName)) hown (mvT hZ (own_w17 hw)) (mvT hZ (own_w18 hw)) (notFace_of_selects (args := #[]) (mvT hZ (own_w20 hw))) (mvT hZ (own_w20 hw)) (mvT hZ (own_w19 hw)) (by decide) (backOf (W := 0) (own_rm1 l Z a0 hw [] a_GREATER_OR_EQUAL a_EQUAL a_NOT_EQUAL a_LESS a_LESS_OR_EQUAL a_GREATER a_GREATER_OR_EQUAL h19 n0 O20  En_EQUAL En_NOT_EQUAL En_LESS En_LESS_OR_EQUAL En_GREATER En_GREATER_OR_EQUAL) hZ (own_w21 hw) (own_w3 hw) (by decide) (by decide)) q112a q112c (g := (mkF m 92 #[.val (Value.int x0), .val (Value.int x1), .val (Value.ref b1), .val (Value.int (5 : Int32)), .val (Value.ref a_GREATER_OR_EQUAL), .val (Value.int (1 : Int32)), .val (Value.int (0 : Int32)), .unset, .unset] [(Value.ref a_GREATER_OR_EQUAL)])) rfl (by rw [hml]; rfl) (Steps.refl _) (argsL := []) (rest := []) (lenOf own_pd1 rfl) rfl (by show 2 * 0 + _ ≤ _; exact Nat.le_of_eq rfl) (hb hby at_92) (fun _ _ => ⟨rfl, e19, (by decide : (1 : Nat) + 0 ≤ _), (by decide : (6 : Nat) + 0 ≤ _)⟩)
      dsimp only [Pt.U, Pt.locs, Pt.cells, Pt.slots] at X112 l112 y112 z112 st112 hQ112
      subst l112 y112 z112
      obtain ⟨rfl, e112, Nq112⟩ := hQ112
      have N112 := Fr.app N19 Nq112
      refine own_tr st112 ?_
      show own_G p e below s _ _ _ (T112.setTop (mkF m 95 #[.val (Value.int x0), .val (Value.int x1), .val (Value.ref b1), .val (Value.int (5 : Int32)), .val (Value.ref a_GREATER_OR_EQUAL), .val (Value.int (1 : Int32)), .val (Value.int (0 : Int32)), .unset, .unset] [(Value.int (own_inc a_GREATER_OR_EQUAL a_EQUAL a_LESS a_LESS_OR_EQUAL))]))
      rw [show ((own_inc a_GREATER_OR_EQUAL a_EQUAL a_LESS a_LESS_OR_EQUAL) : Int32) = (0 : Int32) from by simp [own_inc, own_ne_ref (Fld.ne En_GREATER_OR_EQUAL.2.2 En_EQUAL.2.2 (by decide)), own_ne_ref (Fld.ne En_GREATER_OR_EQUAL.2.2 En_LESS.2.2 (by decide)), own_ne_ref (Fld.ne En_GREATER_OR_EQUAL.2.2 En_LESS_OR_EQUAL.2.2 (by decide))]]
      refine own_istore X112 hx hby at_95 (l' := #[.val (Value.int x0), .val (Value.int x1), .val (Value.ref b1), .val (Value.int (5 : Int32)), .val (Value.ref a_GREATER_OR_EQUAL), .val (Value.int (1 : Int32)), .val (Value.int (0 : Int32)), .val (Value.int (0 : Int32)), .unset]) rfl ?_
      show own_G p e below s _ _ _ (T112.setTop (mkF m 97 #[.val (Value.int x0), .val (Value.int x1), .val (Value.ref b1), .val (Value.int (5 : Int32)), .val (Value.ref a_GREATER_OR_EQUAL), .val (Value.int (1 : Int32)), .val (Value.int (0 : Int32)), .val (Value.int (0 : Int32)), .unset] []))
      refine own_aload X112 hx hby at_97 rfl rfl ?_
      show own_G p e below s _ _ _ (T112.setTop (mkF m 99 #[.val (Value.int x0), .val (Value.int x1), .val (Value.ref b1), .val (Value.int (5 : Int32)), .val (Value.ref a_GREATER_OR_EQUAL), .val (Value.int (1 : Int32)), .val (Value.int (0 : Int32)), .val (Value.int (0 : Int32)), .unset] [(Value.ref a_GREATER_OR_EQUAL)]))
      refine own_iload X112 hx hby at_99 rfl ?_
      show own_G p e below s _ _ _ (T112.setTop (mkF m 101 #[.val (Value.int x0), .val (Value.int x1), .val (Value.ref b1), .val (Value.int (5 : Int32)), .val (Value.ref a_GREATER_OR_EQUAL), .val (Value.int (1 : Int32)), .val (Value.int (0 : Int32)), .val (Value.int (0 : Int32)), .unset] [(Value.int (1 : Int32)), (Value.ref a_GREATER_OR_EQUAL)]))
      obtain ⟨cq113, kq113, q113a, q113b, q113c⟩ := isOf (T := T112) hZ e112 (Exa.ext O20.2 En_GREATER_OR_EQUAL.2.1)
      obtain ⟨_, _, ⟨T113, L113, k113, n113⟩, -, X113, ⟨Lc113, hQ113, l113, y113, z113⟩, st113⟩ := X112.virtualBack hx (y := (⟨"com/example/gazetteer/gazetteer/partitions/Condition$Operator", "holds", "(I)Z"⟩ : MethodName)) (z := (⟨"com/example/gazetteer/gazetteer/partitions/Condition$Operator", "holds", "(I)Z"⟩ : MethodName)) hown (mvT hZ (own_w23 hw)) (mvT hZ (own_w24 hw)) (notFace_of_selects (args := #[]) (mvT hZ (own_w26 hw))) (mvT hZ (own_w26 hw)) (mvT hZ (own_w25 hw)) (by decide) (backOf (W := 0) (own_rm2 l Z a0 hw [] a_GREATER_OR_EQUAL (1 : Int32) (5 : Int32) h19 n0 O20  (Exa.ext O20.2 En_GREATER_OR_EQUAL.2.1) (Fld.ext O20.2 En_GREATER_OR_EQUAL.2.2) (by decide)) hZ (own_w27 hw) (own_w3 hw) (by decide) (by decide)) q113a q113c (g := (mkF m 101 #[.val (Value.int x0), .val (Value.int x1), .val (Value.ref b1), .val (Value.int (5 : Int32)), .val (Value.ref a_GREATER_OR_EQUAL), .val (Value.int (1 : Int32)), .val (Value.int (0 : Int32)), .val (Value.int (0 : Int32)), .unset] [(Value.int (1 : Int32)), (Value.ref a_GREATER_OR_EQUAL)])) rfl (by rw [hml]; rfl) (Steps.refl _) (argsL := [(Value.int (1 : Int32))]) (rest := []) (lenOf own_pd2 rfl) rfl (by show 2 * 0 + _ ≤ _; exact Nat.le_of_eq rfl) (hb hby at_101) (fun _ _ => ⟨rfl, e112, (by decide : (1 : Nat) + 0 ≤ _), (by decide : (6 : Nat) + 0 ≤ _)⟩)
      dsimp only [Pt.U, Pt.locs, Pt.cells, Pt.slots] at X113 l113 y113 z113 st113 hQ113
      subst l113 y113 z113
      obtain ⟨rfl, e113, Nq113⟩ := hQ113
      have N113 := Fr.app N112 Nq113
      refine own_tr st113 ?_
      show own_G p e below s _ _ _ (T113.setTop (mkF m 104 #[.val (Value.int x0), .val (Value.int x1), .val (Value.ref b1), .val (Value.int (5 : Int32)), .val (Value.ref a_GREATER_OR_EQUAL), .val (Value.int (1 : Int32)), .val (Value.int (0 : Int32)), .val (Value.int (0 : Int32)), .unset] [(Value.int (own_holds (5 : Int32) (1 : Int32)))]))
      rw [show ((own_holds (5 : Int32) (1 : Int32)) : Int32) = (1 : Int32) from (own_holds_pos (by decide)).2.2.2.2.2]
      refine own_istore X113 hx hby at_104 (l' := #[.val (Value.int x0), .val (Value.int x1), .val (Value.ref b1), .val (Value.int (5 : Int32)), .val (Value.ref a_GREATER_OR_EQUAL), .val (Value.int (1 : Int32)), .val (Value.int (0 : Int32)), .val (Value.int (0 : Int32)), .val (Value.int (1 : Int32))]) rfl ?_
      show own_G p e below s _ _ _ (T113.setTop (mkF m 106 #[.val (Value.int x0), .val (Value.int x1), .val (Value.ref b1), .val (Value.int (5 : Int32)), .val (Value.ref a_GREATER_OR_EQUAL), .val (Value.int (1 : Int32)), .val (Value.int (0 : Int32)), .val (Value.int (0 : Int32)), .val (Value.int (1 : Int32))] []))
      refine own_iload X113 hx hby at_106 rfl ?_
      show own_G p e below s _ _ _ (T113.setTop (mkF m 108 #[.val (Value.int x0), .val (Value.int x1), .val (Value.ref b1), .val (Value.int (5 : Int32)), .val (Value.ref a_GREATER_OR_EQUAL), .val (Value.int (1 : Int32)), .val (Value.int (0 : Int32)), .val (Value.int (0 : Int32)), .val (Value.int (1 : Int32))] [(Value.int (0 : Int32))]))
      refine own_iload X113 hx hby at_108 rfl ?_
      show own_G p e below s _ _ _ (T113.setTop (mkF m 110 #[.val (Value.int x0), .val (Value.int x1), .val (Value.ref b1), .val (Value.int (5 : Int32)), .val (Value.ref a_GREATER_OR_EQUAL), .val (Value.int (1 : Int32)), .val (Value.int (0 : Int32)), .val (Value.int (0 : Int32)), .val (Value.int (1 : Int32))] [(Value.int (0 : Int32)), (Value.int (0 : Int32))]))
      refine own_icmp_ne X113 hx hby at_110 (pc' := 132) (by decide) (by decide) (fun hb114 => by exfalso; revert hb114; decide) (fun hb114 => ?_)
      show own_G p e below s _ _ _ (T113.setTop (mkF m 113 #[.val (Value.int x0), .val (Value.int x1), .val (Value.ref b1), .val (Value.int (5 : Int32)), .val (Value.ref a_GREATER_OR_EQUAL), .val (Value.int (1 : Int32)), .val (Value.int (0 : Int32)), .val (Value.int (0 : Int32)), .val (Value.int (1 : Int32))] []))
      refine own_iload X113 hx hby at_113 rfl ?_
      show own_G p e below s _ _ _ (T113.setTop (mkF m 115 #[.val (Value.int x0), .val (Value.int x1), .val (Value.ref b1), .val (Value.int (5 : Int32)), .val (Value.ref a_GREATER_OR_EQUAL), .val (Value.int (1 : Int32)), .val (Value.int (0 : Int32)), .val (Value.int (0 : Int32)), .val (Value.int (1 : Int32))] [(Value.int (0 : Int32))]))
      refine own_iload X113 hx hby at_115 rfl ?_
      show own_G p e below s _ _ _ (T113.setTop (mkF m 117 #[.val (Value.int x0), .val (Value.int x1), .val (Value.ref b1), .val (Value.int (5 : Int32)), .val (Value.ref a_GREATER_OR_EQUAL), .val (Value.int (1 : Int32)), .val (Value.int (0 : Int32)), .val (Value.int (0 : Int32)), .val (Value.int (1 : Int32))] [(Value.int (1 : Int32)), (Value.int (0 : Int32))]))
      refine own_if_ne X113 hx hby at_117 (pc' := 124) (by decide) (by decide) (fun hb115 => ?_) (fun hb115 => by exfalso; revert hb115; decide)
      show own_G p e below s _ _ _ (T113.setTop (mkF m 124 #[.val (Value.int x0), .val (Value.int x1), .val (Value.ref b1), .val (Value.int (5 : Int32)), .val (Value.ref a_GREATER_OR_EQUAL), .val (Value.int (1 : Int32)), .val (Value.int (0 : Int32)), .val (Value.int (0 : Int32)), .val (Value.int (1 : Int32))] [(Value.int (0 : Int32))]))
      refine own_iconst X113 hx hby at_124 ?_
      show own_G p e below s _ _ _ (T113.setTop (mkF m 125 #[.val (Value.int x0), .val (Value.int x1), .val (Value.ref b1), .val (Value.int (5 : Int32)), .val (Value.ref a_GREATER_OR_EQUAL), .val (Value.int (1 : Int32)), .val (Value.int (0 : Int32)), .val (Value.int (0 : Int32)), .val (Value.int (1 : Int32))] [(Value.int (0 : Int32)), (Value.int (0 : Int32))]))
      refine own_icmp_ne X113 hx hby at_125 (pc' := 132) (by decide) (by decide) (fun hb116 => by exfalso; revert hb116; decide) (fun hb116 => ?_)
      show own_G p e below s _ _ _ (T113.setTop (mkF m 128 #[.val (Value.int x0), .val (Value.int x1), .val (Value.ref b1), .val (Value.int (5 : Int32)), .val (Value.ref a_GREATER_OR_EQUAL), .val (Value.int (1 : Int32)), .val (Value.int (0 : Int32)), .val (Value.int (0 : Int32)), .val (Value.int (1 : Int32))] []))
      refine own_iconst X113 hx hby at_128 ?_
      show own_G p e below s _ _ _ (T113.setTop (mkF m 129 #[.val (Value.int x0), .val (Value.int x1), .val (Value.ref b1), .val (Value.int (5 : Int32)), .val (Value.ref a_GREATER_OR_EQUAL), .val (Value.int (1 : Int32)), .val (Value.int (0 : Int32)), .val (Value.int (0 : Int32)), .val (Value.int (1 : Int32))] [(Value.int (1 : Int32))]))
      refine own_goto X113 hx hby at_129 (pc' := 133) (by decide) (by decide) ?_
      show own_G p e below s _ _ _ (T113.setTop (mkF m 133 #[.val (Value.int x0), .val (Value.int x1), .val (Value.ref b1), .val (Value.int (5 : Int32)), .val (Value.ref a_GREATER_OR_EQUAL), .val (Value.int (1 : Int32)), .val (Value.int (0 : Int32)), .val (Value.int (0 : Int32)), .val (Value.int (1 : Int32))] [(Value.int (1 : Int32))]))
      refine own_retN X113 hx hby hlk (t := .boolean) Bd.returns (by simp) at_133 (by decide) (by decide) ?_
      exact ⟨rfl, N113⟩
set_option maxRecDepth 65536 in
set_option maxHeartbeats 40000000 in
theorem comes_1 {Post : Tables → Env → Array Value → State → Outcome → State → Prop} (hpost : ∀ tb e args s v u, (limb_1_1.after args s (.returned v) u = true ∧ limb_1_2.after args s (.returned v) u = true ∧ True) → FrameEnd s (.returned v) u (Jvm.fieldLocs frame_1_writes args s ++ Jvm.arrayLocs frame_1_arrays args s ++ Jvm.staticLocs frame_1_statics s) 16 128 → Post tb e args s (.returned v) u) :
    ArmFor flags0 classFile x code maxLocals ret World_1 tables_1 room_1 Calls_1 rest_1 Pre_1 Post := by
  intro l hfl _ _ p e ha hc hk s m args below hf hA hF happ hP
  obtain ⟨hcalls, hrest, hpre⟩ := hP
  obtain ⟨-, -, -, hnamed, -, -, -, hat⟩ := (Spec.applies_iff hf).mp happ
  obtain ⟨hg, hn⟩ := and_e (Cond.before_iff.mp (show (Jvm.Cond.and given_1 narrow_1).before args s = true from hpre))
  obtain ⟨hgc, hgr0⟩ := and_e hg
  obtain ⟨hga0, hgr1⟩ := and_e hgr0
  have hga1 := hgr1
  obtain ⟨w0, w1, rfl⟩ : ∃ w0 w1 : Value, args = #[w0, w1] := by
    have hs : args.size = 2 := by simpa [Cond.value, given_1] using hgc
    obtain ⟨L⟩ := args
    match L, hs with
    | [w0, w1], _ => exact ⟨w0, w1, rfl⟩
  have hw := fun d (hd : d ∈ tables_1) => atoms_spec (ws := Jvm.Cond.code x code maxLocals ret :: tables_1) hat d (List.mem_cons_of_mem _ hd)
  have hfit : Fit s := fun {y c} hc i hi => by
    obtain ⟨ha, rfl⟩ := Array.getElem?_eq_some_iff.mp hc
    have q := List.all_eq_true.mp ((Array.all_eq_true_iff_forall_mem.mp hF) _ (Array.getElem_mem ha)) i (List.mem_range.mpr hi)
    simpa [Array.getElem?_eq_getElem hi] using q
  obtain ⟨i0, ei0⟩ := is_v hga0
  obtain rfl : w0 = (.int i0) := Option.some.inj ei0
  obtain ⟨i1, ei1⟩ := is_v hga1
  obtain rfl : w1 = (.int i1) := Option.some.inj ei1
  obtain ⟨hn1a, hn1b⟩ := and_e hn
  obtain ⟨hn2a, hn2b⟩ := and_e hn1b
  obtain ⟨hn3a, hn3b⟩ := and_e hn2b
  obtain ⟨hn4a, hn4b⟩ := and_e hn3b
  obtain ⟨hn5a, hn5b⟩ := and_e hn4b
  obtain ⟨hn6a, hn6b⟩ := and_e hn5b
  obtain ⟨hn7a, hn7b⟩ := and_e hn6b
  obtain ⟨hn8a, hn8b⟩ := and_e hn7b
  obtain ⟨hn9a, hn9b⟩ := and_e hn8b
  obtain ⟨hn10a, hn10b⟩ := and_e hn9b
  obtain ⟨hn11a, hn11b⟩ := and_e hn10b
  obtain ⟨a_EQUAL, En_EQUAL⟩ := own_enum hn1a hn7a (own_w3 hw) (own_w4 hw)
  obtain ⟨a_NOT_EQUAL, En_NOT_EQUAL⟩ := own_enum hn2a hn11a (own_w3 hw) (own_w7 hw)
  obtain ⟨a_LESS, En_LESS⟩ := own_enum hn3a hn8a (own_w3 hw) (own_w9 hw)
  obtain ⟨a_LESS_OR_EQUAL, En_LESS_OR_EQUAL⟩ := own_enum hn4a hn10a (own_w3 hw) (own_w11 hw)
  obtain ⟨a_GREATER, En_GREATER⟩ := own_enum hn5a hn9a (own_w3 hw) (own_w13 hw)
  obtain ⟨a_GREATER_OR_EQUAL, En_GREATER_OR_EQUAL⟩ := own_enum hn6a hn11b (own_w3 hw) (own_w15 hw)
  obtain ⟨n, o, h1, h2, h3, _, L, rfl, ⟨rfl, N⟩, hq⟩ := own_rm0 l s _ hw tables_1 i0 i1 a_EQUAL a_NOT_EQUAL a_LESS a_LESS_OR_EQUAL a_GREATER a_GREATER_OR_EQUAL s.heap s.heap.size (Old.start s) En_EQUAL En_NOT_EQUAL En_LESS En_LESS_OR_EQUAL En_GREATER En_GREATER_OR_EQUAL p e ha hc hk s m _ below hf ((Spec.applies_iff_loose hf).mp happ).1 ⟨rfl, State.Warmed39.refl s, rfl⟩ trivial
  refine ⟨n, _, h1, h2, h3, hpost _ _ _ _ _ _ ⟨Cond.after_iff.mpr rfl, Cond.after_iff.mpr (eq_i res_at (Term.int_eval (1)) rfl), trivial⟩ ⟨hq.1, hq.2.1, (hq.2.2.sift fun y hy => Or.inr (N y hy)).mono (by decide) (by decide)⟩⟩
theorem main_1_1 : Claimed_1_1 := comes_1 fun _ _ _ _ _ _ h hF => ⟨h.1, hF⟩
theorem main_1_2 : Claimed_1_2 := comes_1 fun _ _ _ _ _ _ h hF => ⟨h.2.1, hF⟩
end Jvm.Pilot.@@N@@
namespace Jvm.Pilot.@@N@@
open Jvm Jvm.ClassFile Sem Op Lib Jvm.Free Jvm.Stand Jvm.Pilot.@@N@@.Jvm.D
/-! MADE BY PROGRAM (witnessworld.py) out of the Statement's table words and the real class files: 13 classes; the members and pool entries that the words name. The judged class is class 1, her method 1. -/
namespace start1
open Jvm.ClassFile
def u (s : String) : CpInfo := .utf8 (stringToUtf16 s)
/-- a pool by its gaps: so many unusable entries, then the entry; so many at the end -/
def gap : Nat → List CpInfo → List CpInfo
  | 0, r => r
  | n + 1, r => .unusable :: gap n r
def poolList (es : List (Nat × CpInfo)) (last : Nat) : List CpInfo := es.foldr (fun e r => gap e.1 (e.2 :: r)) (gap last [])
def pool (es : List (Nat × CpInfo)) (last : Nat) : Array CpInfo := ⟨poolList es last⟩
def fileOf (pool : Array CpInfo) (this : Nat) (attrs : Array Attribute := #[]) (ms : Array MethodInfo := #[]) (fl : Nat := 33) (sup : Nat := 0) (ifs : Array Nat := #[]) (fds : Array FieldInfo := #[]) : ClassFile where
  minorVersion := 0
  majorVersion := 65
  constantPool := pool
  accessFlags := fl
  thisClass := this
  superClass := sup
  interfaces := ifs
  fields := fds
  methods := ms
  attributes := attrs
def plain (name : String) (sup : Option ClassId) : Class where
  name := name
  kind := .ordinary
  loader := none
  accessFlags := 33
  super := sup
  interfaces := #[]
  cf := none
  fields := #[]
  methods := #[]
  instanceTypes := #[]
  staticTypes := #[]
  resolved := #[]
  callSites := []
  init := .initialized
  statics := none
  mirror := none

def pool0 : Array CpInfo := pool [(5, u "<init>"), (0, u "()V"), (1, .class_ 10), (1, u "java/lang/Object")] 113

def k0m0 : Method := { name := "<init>", desc := "()V", sig := { parameters := [], returnType := none }, accessFlags := 1, code := none }
/-- java/lang/Object -/
def k0 : Class := { plain "java/lang/Object" none with
  accessFlags := 33
  interfaces := #[]
  cf := some (fileOf pool0 8 #[] #[{ accessFlags := 1, nameIndex := 5, descriptorIndex := 6, attributes := #[] }] 33 0 #[] #[])
  fields := #[]
  methods := #[k0m0]
  instanceTypes := #[]
  staticTypes := #[]
  resolved := Array.replicate 124 none
  statics := none }

def pool1 : Array CpInfo := pool [(2, .class_ 4), (1, u "java/lang/Object"), (0, u "<init>"), (0, u "()V"), (0, .class_ 8), (0, u "com/example/gazetteer/gazetteer/partitions/Condition$Operator"), (0, .fieldref 7 10), (0, .nameAndType 11 12), (0, u "EQUAL"), (0, u "Lcom/example/gazetteer/gazetteer/partitions/Condition$Operator;"), (0, .fieldref 7 14), (0, .nameAndType 15 12), (0, u "NOT_EQUAL"), (0, .fieldref 7 17), (0, .nameAndType 18 12), (0, u "LESS"), (0, .fieldref 7 20), (0, .nameAndType 21 12), (0, u "LESS_OR_EQUAL"), (0, .fieldref 7 23), (0, .nameAndType 24 12), (0, u "GREATER"), (0, .fieldref 7 26), (0, .nameAndType 27 12), (0, u "GREATER_OR_EQUAL"), (0, .integer 2147483647), (0, .methodref 7 30), (0, .nameAndType 31 32), (0, u "boundsAbove"), (0, u "()Z"), (0, .methodref 7 34), (0, .nameAndType 35 36), (0, u "holds"), (0, u "(I)Z"), (0, .class_ 38), (0, u "com/example/gazetteer/gazetteer/partitions/OperatorBoundsAbovePinLaw"), (2, u "law"), (0, u "(II)Z")] 9

def k1m0 : Method := { name := "<init>", desc := "()V", sig := { parameters := [], returnType := none }, accessFlags := 1, code := none }
def k1c1 : Code := { maxStack := 4, maxLocals := 9, code := code, exceptionTable := #[], attributes := #[] }
def k1m1 : Method := { name := "law", desc := "(II)Z", sig := { parameters := [.int, .int], returnType := some .boolean }, accessFlags := 9, code := some k1c1 }
/-- com/example/gazetteer/gazetteer/partitions/OperatorBoundsAbovePinLaw -/
def k1 : Class := { plain "com/example/gazetteer/gazetteer/partitions/OperatorBoundsAbovePinLaw" (some 0) with
  accessFlags := 49
  interfaces := #[]
  cf := some (fileOf pool1 37 #[] #[{ accessFlags := 1, nameIndex := 5, descriptorIndex := 6, attributes := #[] }, { accessFlags := 9, nameIndex := 41, descriptorIndex := 42, attributes := #[] }] 49 2 #[] #[])
  fields := #[]
  methods := #[k1m0, k1m1]
  instanceTypes := #[]
  staticTypes := #[]
  resolved := Array.replicate 52 none
  statics := none }

def pool2 : Array CpInfo := pool [(1, .class_ 2), (0, u "java/lang/constant/Constable"), (0, .class_ 4), (0, u "java/lang/Object")] 6

/-- java/lang/constant/Constable -/
def k2 : Class := { plain "java/lang/constant/Constable" (some 0) with
  accessFlags := 1537
  interfaces := #[]
  cf := some (fileOf pool2 1 #[] #[] 1537 3 #[] #[])
  fields := #[]
  methods := #[]
  instanceTypes := #[]
  staticTypes := #[]
  resolved := Array.replicate 11 none
  statics := none }

def pool3 : Array CpInfo := pool [(1, .class_ 2), (0, u "java/lang/Comparable"), (0, .class_ 4), (0, u "java/lang/Object")] 7

/-- java/lang/Comparable -/
def k3 : Class := { plain "java/lang/Comparable" (some 0) with
  accessFlags := 1537
  interfaces := #[]
  cf := some (fileOf pool3 1 #[] #[] 1537 3 #[] #[])
  fields := #[]
  methods := #[]
  instanceTypes := #[]
  staticTypes := #[]
  resolved := Array.replicate 12 none
  statics := none }

def pool4 : Array CpInfo := pool [(1, .class_ 2), (0, u "java/io/Serializable"), (0, .class_ 4), (0, u "java/lang/Object")] 2

/-- java/io/Serializable -/
def k4 : Class := { plain "java/io/Serializable" (some 0) with
  accessFlags := 1537
  interfaces := #[]
  cf := some (fileOf pool4 1 #[] #[] 1537 3 #[] #[])
  fields := #[]
  methods := #[]
  instanceTypes := #[]
  staticTypes := #[]
  resolved := Array.replicate 7 none
  statics := none }

def pool5 : Array CpInfo := pool [(2, .class_ 4), (1, u "java/lang/Enum"), (0, u "name"), (0, u "Ljava/lang/String;"), (0, .fieldref 2 8), (0, .nameAndType 9 10), (0, u "ordinal"), (0, u "I"), (1, .class_ 14), (1, u "java/lang/Object"), (4, u "hash"), (86, .class_ 108), (1, u "java/lang/Enum$EnumDesc"), (2, .class_ 112), (0, u "java/lang/constant/Constable"), (0, .class_ 114), (0, u "java/lang/Comparable"), (0, .class_ 116), (0, u "java/io/Serializable"), (9, u "()I")] 77

def k5c0 : Code := { maxStack := 1, maxLocals := 1, code := jdk_37_method_2_code, exceptionTable := #[], attributes := #[] }
def k5m0 : Method := { name := "ordinal", desc := "()I", sig := { parameters := [], returnType := some .int }, accessFlags := 17, code := some k5c0 }
/-- java/lang/Enum -/
def k5 : Class := { plain "java/lang/Enum" (some 0) with
  accessFlags := 1057
  interfaces := #[2, 3, 4]
  cf := some (fileOf pool5 2 #[.nestMembers #[106]] #[{ accessFlags := 17, nameIndex := 9, descriptorIndex := 126, attributes := #[] }] 1057 12 #[111, 113, 115] #[{ accessFlags := 18, nameIndex := 5, descriptorIndex := 6, attributes := #[] }, { accessFlags := 18, nameIndex := 9, descriptorIndex := 10, attributes := #[] }, { accessFlags := 2, nameIndex := 19, descriptorIndex := 10, attributes := #[] }])
  fields := #[{ name := "name", type := (.object "java/lang/String"), accessFlags := 18, slot := 0, constantValue := 0 }, { name := "ordinal", type := .int, accessFlags := 18, slot := 1, constantValue := 0 }, { name := "hash", type := .int, accessFlags := 2, slot := 2, constantValue := 0 }]
  methods := #[k5m0]
  instanceTypes := #[(.object "java/lang/String"), .int, .int]
  staticTypes := #[]
  resolved := Array.replicate 204 none
  statics := none }

def pool6 : Array CpInfo := pool [(1, .class_ 2), (0, u "com/example/gazetteer/gazetteer/partitions/Condition$Operator"), (0, .fieldref 1 4), (0, .nameAndType 5 6), (0, u "EQUAL"), (0, u "Lcom/example/gazetteer/gazetteer/partitions/Condition$Operator;"), (2, u "NOT_EQUAL"), (0, .fieldref 1 11), (0, .nameAndType 12 6), (0, u "LESS"), (0, .fieldref 1 14), (0, .nameAndType 15 6), (0, u "LESS_OR_EQUAL"), (2, u "GREATER"), (2, u "GREATER_OR_EQUAL"), (2, u "$VALUES"), (0, u "[Lcom/example/gazetteer/gazetteer/partitions/Condition$Operator;"), (6, .class_ 34), (1, u "java/lang/Enum"), (6, .methodref 1 42), (0, .nameAndType 43 44), (0, u "ordinal"), (0, u "()I"), (23, u "holds"), (0, u "(I)Z"), (2, u "()Z"), (0, u "boundsAbove"), (5, .class_ 80), (0, u "com/example/gazetteer/gazetteer/partitions/Condition")] 2

def k6c0 : Code := { maxStack := 4, maxLocals := 2, code := prog_69_method_4_code, exceptionTable := #[], attributes := #[] }
def k6m0 : Method := { name := "holds", desc := "(I)Z", sig := { parameters := [.int], returnType := some .boolean }, accessFlags := 0, code := some k6c0 }
def k6c1 : Code := { maxStack := 2, maxLocals := 1, code := prog_69_method_6_code, exceptionTable := #[], attributes := #[] }
def k6m1 : Method := { name := "boundsAbove", desc := "()Z", sig := { parameters := [], returnType := some .boolean }, accessFlags := 0, code := some k6c1 }
/-- com/example/gazetteer/gazetteer/partitions/Condition$Operator -/
def k6 : Class := { plain "com/example/gazetteer/gazetteer/partitions/Condition$Operator" (some 5) with
  accessFlags := 16433
  interfaces := #[]
  cf := some (fileOf pool6 1 #[.nestHost 79] #[{ accessFlags := 0, nameIndex := 68, descriptorIndex := 69, attributes := #[] }, { accessFlags := 0, nameIndex := 73, descriptorIndex := 72, attributes := #[] }] 16433 32 #[] #[{ accessFlags := 16409, nameIndex := 5, descriptorIndex := 6, attributes := #[] }, { accessFlags := 16409, nameIndex := 9, descriptorIndex := 6, attributes := #[] }, { accessFlags := 16409, nameIndex := 12, descriptorIndex := 6, attributes := #[] }, { accessFlags := 16409, nameIndex := 15, descriptorIndex := 6, attributes := #[] }, { accessFlags := 16409, nameIndex := 18, descriptorIndex := 6, attributes := #[] }, { accessFlags := 16409, nameIndex := 21, descriptorIndex := 6, attributes := #[] }, { accessFlags := 4122, nameIndex := 24, descriptorIndex := 25, attributes := #[] }])
  fields := #[{ name := "EQUAL", type := (.object "com/example/gazetteer/gazetteer/partitions/Condition$Operator"), accessFlags := 16409, slot := 0, constantValue := 0 }, { name := "NOT_EQUAL", type := (.object "com/example/gazetteer/gazetteer/partitions/Condition$Operator"), accessFlags := 16409, slot := 1, constantValue := 0 }, { name := "LESS", type := (.object "com/example/gazetteer/gazetteer/partitions/Condition$Operator"), accessFlags := 16409, slot := 2, constantValue := 0 }, { name := "LESS_OR_EQUAL", type := (.object "com/example/gazetteer/gazetteer/partitions/Condition$Operator"), accessFlags := 16409, slot := 3, constantValue := 0 }, { name := "GREATER", type := (.object "com/example/gazetteer/gazetteer/partitions/Condition$Operator"), accessFlags := 16409, slot := 4, constantValue := 0 }, { name := "GREATER_OR_EQUAL", type := (.object "com/example/gazetteer/gazetteer/partitions/Condition$Operator"), accessFlags := 16409, slot := 5, constantValue := 0 }, { name := "$VALUES", type := (.array (.object "com/example/gazetteer/gazetteer/partitions/Condition$Operator")), accessFlags := 4122, slot := 6, constantValue := 0 }]
  methods := #[k6m0, k6m1]
  instanceTypes := #[(.object "java/lang/String"), .int, .int]
  staticTypes := #[(.object "com/example/gazetteer/gazetteer/partitions/Condition$Operator"), (.object "com/example/gazetteer/gazetteer/partitions/Condition$Operator"), (.object "com/example/gazetteer/gazetteer/partitions/Condition$Operator"), (.object "com/example/gazetteer/gazetteer/partitions/Condition$Operator"), (.object "com/example/gazetteer/gazetteer/partitions/Condition$Operator"), (.object "com/example/gazetteer/gazetteer/partitions/Condition$Operator"), (.array (.object "com/example/gazetteer/gazetteer/partitions/Condition$Operator"))]
  resolved := Array.replicate 83 none
  statics := some 0 }

def pool7 : Array CpInfo := pool [(1, u "java/lang/Cloneable"), (0, .class_ 1), (0, u "java/lang/Object"), (0, .class_ 3)] 3

/-- java/lang/Cloneable -/
def k7 : Class := { plain "java/lang/Cloneable" (some 0) with
  accessFlags := 1537
  interfaces := #[]
  cf := some (fileOf pool7 2 #[] #[] 1537 4 #[] #[])
  fields := #[]
  methods := #[]
  instanceTypes := #[]
  staticTypes := #[]
  resolved := Array.replicate 8 none
  statics := none }

/-- the primitive byte -/
def k8 : Class := { plain "byte" none with kind := .primitive 'B', accessFlags := 0x411 }
/-- [B -/
def k9 : Class := { plain "[B" (some 0) with kind := .array 8 .byte, interfaces := #[7, 4], accessFlags := 1041 }

/-- the primitive int -/
def k10 : Class := { plain "int" none with kind := .primitive 'I', accessFlags := 0x411 }
/-- [I -/
def k11 : Class := { plain "[I" (some 0) with kind := .array 10 .int, interfaces := #[7, 4], accessFlags := 1041 }

/-- [Lcom/example/gazetteer/gazetteer/partitions/Condition$Operator; -/
def k12 : Class := { plain "[Lcom/example/gazetteer/gazetteer/partitions/Condition$Operator;" (some 0) with kind := .array 6 (.object "com/example/gazetteer/gazetteer/partitions/Condition$Operator"), interfaces := #[7, 4], accessFlags := 1041 }

def heap : Heap := #[{ cls := 6, slots := #[.ref 1, .ref 2, .ref 3, .ref 4, .ref 5, .ref 6, .null], vm := .statics 6 },
  { cls := 6, slots := #[.null, .int 0, .int 0], vm := .none },
  { cls := 6, slots := #[.null, .int 1, .int 0], vm := .none },
  { cls := 6, slots := #[.null, .int 2, .int 0], vm := .none },
  { cls := 6, slots := #[.null, .int 3, .int 0], vm := .none },
  { cls := 6, slots := #[.null, .int 4, .int 0], vm := .none },
  { cls := 6, slots := #[.null, .int 5, .int 0], vm := .none }]
def classes : Array Class := #[k0, k1, k2, k3, k4, k5, k6, k7, k8, k9, k10, k11, k12]
def interned : List (Array UInt16 × Addr) := []
def slotsUsed : Nat := 25
def theMethod : MethodId := ⟨1, 1⟩
def args0 : Array Value := #[.int 1, .int 5]
def aboutOver (below : List Frame) : State where
  vm := { classes := classes, interned := interned.toArray }
  heap := heap
  slotsUsed := slotsUsed
  threads := #[{ frames := .invoking theMethod args0 :: below }]
def below0 : List Frame := [.native { method := ⟨0, 0⟩, args := #[] }]
def about1 : State := aboutOver below0
def p0 : Program := .bare "" "" ""
def e0 : Env := launch0.env 0 0 0
theorem w_frames : about1.frames = Frame.invoking theMethod args0 :: below0 := rfl
set_option maxRecDepth 65536 in
theorem w_args : argsFit about1.vm theMethod args0 = true := by decide +kernel
set_option maxRecDepth 65536 in
theorem w_heap : heapFits about1 = true := by decide +kernel
set_option maxRecDepth 65536 in
theorem w_runnable : about1.curStatus? = some .runnable := by decide +kernel
set_option maxRecDepth 65536 in
theorem w_alone : about1.alone = true := by decide +kernel
set_option maxRecDepth 65536 in
theorem w_named : about1.methodNamed? x = some theMethod := by decide +kernel
set_option maxRecDepth 65536 in
theorem w_hears : about1.hears theMethod below0 = true := by decide +kernel
set_option maxRecDepth 65536 in
theorem w_ripe : about1.ripe theMethod args0 below0 = true := by decide +kernel
theorem w_running : about1.status = .running := rfl
set_option maxRecDepth 65536 in
theorem w_room : about1.hasRoom e0.platform room_1 = true :=
  launch0.hasRoom_least _ room_1 (by decide +kernel) (by decide +kernel) (by decide +kernel) (by decide +kernel) (by decide +kernel) (by decide +kernel)
theorem allAtoms_all (ts : List Jvm.Cond) (a : Array Jvm.Value) (st : Jvm.State) : (allAtoms ts).before a st = ts.all (fun c => c.before a st) := by
  induction ts with
  | nil => rfl
  | cons c t ih =>
    show (Jvm.Cond.and c (allAtoms t)).before a st = _
    rw [Jvm.Cond.before_and, ih, List.all_cons]
def words1 : List Jvm.Cond := Jvm.Cond.code x code maxLocals ret :: tables_1
/-- a 'code' word, met by the world's own term for the bytes: nothing is compared byte by byte -/
theorem code_word {y : MethodName} {bytes : ByteArray} {mx : Nat} {rt : Option FieldType} {a : Array Value} {s : State} {m : MethodId} {meth : Method} {c : Code} (h1 : s.methodNamed? y = some m) (h2 : s.vm.method? m = some meth) (h3 : meth.code = some c) (h4 : c.code = bytes)
    (h5 : (c.maxLocals == mx && c.exceptionTable.isEmpty && decide (c.maxStack ≤ mostOperands) && decide (meth.sig.returnType = rt) && !meth.locks && decide (parseMethodDescriptor y.desc = some meth.sig)) = true) : (Jvm.Cond.code y bytes mx rt).before a s = true := by
  simp only [Bool.and_eq_true, beq_iff_eq, Bool.not_eq_true', decide_eq_true_eq] at h5
  obtain ⟨⟨⟨⟨⟨g1, g2⟩, g3⟩, g4⟩, g5⟩, g6⟩ := h5
  simp [Cond.before, Cond.holds, Cond.value, h1, h2, h3, h4, g1, g2, g3, g4, g5, g6]
def isCode : Jvm.Cond → Bool
  | .code _ _ _ _ => true
  | _ => false
theorem all_split {L : List Jvm.Cond} {P : Jvm.Cond → Bool} (h1 : L.all (fun c => isCode c || P c) = true) (h2 : ∀ c ∈ L.filter isCode, P c = true) : L.all P = true := by
  refine List.all_eq_true.mpr fun c hc => ?_
  have h := List.all_eq_true.mp h1 c hc
  rcases Bool.eq_false_or_eq_true (isCode c) with hi | hi
  · exact h2 c (List.mem_filter.mpr ⟨hc, hi⟩)
  · simpa [hi] using h
set_option maxRecDepth 65536 in
theorem w_c0 : (Jvm.Cond.code x code maxLocals ret).before args0 about1 = true := code_word (m := ⟨1, 1⟩) (meth := k1m1) (c := k1c1) (by decide +kernel) rfl rfl rfl (by decide +kernel)
set_option maxRecDepth 65536 in
theorem w_c1 : (Jvm.Cond.code ({ cls := "com/example/gazetteer/gazetteer/partitions/Condition$Operator", name := "boundsAbove", desc := "()Z" } : Jvm.MethodName) prog_69_method_6_code (1 : Nat) (Option.some Jvm.ClassFile.FieldType.boolean)).before args0 about1 = true := code_word (m := ⟨6, 1⟩) (meth := k6m1) (c := k6c1) (by decide +kernel) rfl rfl rfl (by decide +kernel)
set_option maxRecDepth 65536 in
theorem w_c2 : (Jvm.Cond.code ({ cls := "com/example/gazetteer/gazetteer/partitions/Condition$Operator", name := "holds", desc := "(I)Z" } : Jvm.MethodName) prog_69_method_4_code (2 : Nat) (Option.some Jvm.ClassFile.FieldType.boolean)).before args0 about1 = true := code_word (m := ⟨6, 0⟩) (meth := k6m0) (c := k6c0) (by decide +kernel) rfl rfl rfl (by decide +kernel)
set_option maxRecDepth 65536 in
theorem w_c3 : (Jvm.Cond.code ({ cls := "java/lang/Enum", name := "ordinal", desc := "()I" } : Jvm.MethodName) jdk_37_method_2_code (1 : Nat) (Option.some Jvm.ClassFile.FieldType.int)).before args0 about1 = true := code_word (m := ⟨5, 0⟩) (meth := k5m0) (c := k5c0) (by decide +kernel) rfl rfl rfl (by decide +kernel)
def codes1 : List Jvm.Cond := [Jvm.Cond.code x code maxLocals ret, Jvm.Cond.code ({ cls := "com/example/gazetteer/gazetteer/partitions/Condition$Operator", name := "boundsAbove", desc := "()Z" } : Jvm.MethodName) prog_69_method_6_code (1 : Nat) (Option.some Jvm.ClassFile.FieldType.boolean), Jvm.Cond.code ({ cls := "com/example/gazetteer/gazetteer/partitions/Condition$Operator", name := "holds", desc := "(I)Z" } : Jvm.MethodName) prog_69_method_4_code (2 : Nat) (Option.some Jvm.ClassFile.FieldType.boolean), Jvm.Cond.code ({ cls := "java/lang/Enum", name := "ordinal", desc := "()I" } : Jvm.MethodName) jdk_37_method_2_code (1 : Nat) (Option.some Jvm.ClassFile.FieldType.int)]
set_option maxRecDepth 65536 in
theorem codes_eq : words1.filter isCode = codes1 := rfl
theorem w_codes : ∀ c ∈ words1.filter isCode, c.before args0 about1 = true := by
  rw [codes_eq]
  intro c hc
  simp only [codes1, List.mem_cons, List.not_mem_nil, or_false] at hc
  rcases hc with rfl | rfl | rfl | rfl
  · exact w_c0
  · exact w_c1
  · exact w_c2
  · exact w_c3
set_option maxRecDepth 65536 in
theorem w_t1 : (words1.take 24).all (fun c => isCode c || c.before args0 about1) = true := by decide +kernel
set_option maxRecDepth 65536 in
theorem w_t2 : (words1.drop 24).all (fun c => isCode c || c.before args0 about1) = true := by decide +kernel
theorem w_tables : (allAtoms (Jvm.Cond.code x code maxLocals ret :: tables_1)).before args0 about1 = true := by
  rw [allAtoms_all]
  show words1.all (fun c => c.before args0 about1) = true
  refine all_split ?_ w_codes
  rw [← List.take_append_drop 24 words1, List.all_append, w_t1, w_t2]
  rfl
set_option maxRecDepth 65536 in
theorem w_case : (Jvm.Cond.and given_1 narrow_1).before args0 about1 = true := by decide +kernel
theorem w_applies : (headSpec (Jvm.Cond.code x code maxLocals ret :: tables_1) room_1).applies x e0.platform about1 = true :=
  (Spec.applies_iff w_frames).mpr ⟨w_running, w_runnable, w_alone, w_named, w_hears, w_ripe, w_room, w_tables⟩
theorem atStart : AtStart classFile x code maxLocals ret World_1 tables_1 room_1 Calls_1 rest_1 Pre_1 launch0 p0 e0 about1 theMethod args0 below0 :=
  ⟨lists_1, trivial, launch0.admits_env _ _ _, launch0.least_env, fairChoices_fair.cas, fairChoices_fair.clock, w_frames, w_args, w_heap, w_applies, trivial, trivial, w_case⟩
end start1
theorem witness_1 : WitnessClaimed_1 := ⟨start1.p0, start1.e0, start1.about1, start1.theMethod, start1.args0, start1.below0, start1.atStart⟩
end Jvm.Pilot.@@N@@
