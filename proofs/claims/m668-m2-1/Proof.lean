import JvmDerived
import JvmDerived.Pilot.@@N@@Statement
import JvmDerived.Pilot.@@N@@Code
set_option linter.unusedVariables false
set_option linter.unusedSimpArgs false
namespace Jvm.Pilot.@@N@@
open Jvm Jvm.ClassFile Sem Op Lib Jvm.Free Jvm.Stand Jvm.LawKit Jvm.RoadKit Bundle Jvm.Pilot.@@N@@.Jvm.D
def own_G (p : Program) (e : Env) (below : List Frame) (s : State) (Q : Option Value → Heap → List Loc → Prop) (k n : Nat) (A : State) : Prop :=
  ∃ s₂ o, Steps p.tables e below A s₂ ∧ s₂.status = .running ∧ Ended s₂ below o ∧ ∃ v L, o = .returned v ∧ Q v s₂.heap L ∧ FrameEnd s o s₂ L k n
theorem own_st {p : Program} {e : Env} {below : List Frame} {s : State} {Q : Option Value → Heap → List Loc → Prop} {k n : Nat} {A B : State} (f : ∀ t, Steps p.tables e below B t → Steps p.tables e below A t) (h : own_G p e below s Q k n B) : own_G p e below s Q k n A := by
  obtain ⟨t, o, h1, h2⟩ := h; exact ⟨t, o, f t h1, h2⟩
theorem own_tr {p : Program} {e : Env} {below : List Frame} {s : State} {Q : Option Value → Heap → List Loc → Prop} {k n : Nat} {A B : State} (f : Steps p.tables e below A B) (h : own_G p e below s Q k n B) : own_G p e below s Q k n A := own_st (fun _ => f.trans) h
theorem own_cast {p : Program} {e : Env} {below : List Frame} {s T : State} {Q : Option Value → Heap → List Loc → Prop} {k n : Nat} {g g' : JFrame} (q : g = g') (h : own_G p e below s Q k n (T.setTop g')) : own_G p e below s Q k n (T.setTop g) := q ▸ h
section OwnSteps
variable {p : Program} {l : Launch} {e : Env} {R : Room} {s : State} {m : MethodId} {args : Array Value} {below : List Frame} {meth : Method} {c : Code} {T : State} {locs : List Loc} {cells slots : Nat} {Q : Option Value → Heap → List Loc → Prop} {k n : Nat} {code : ByteArray} {pc : Nat} {Ls : Array Slot} {st : List Value} {Z : State} {a0 : Array Value} {h : Heap}
theorem own_retI (X : Stand p l e R s m args below meth c T locs cells slots) (hx : p.tables.exec = Jvm.exec) (hby : c.code = code) (hlk : meth.locks = false) (hret : meth.sig.returnType = some .int) {z : Int32} (hd : decode code pc = .ok (.ireturn, 1)) (hk : cells ≤ k) (hn : slots ≤ n) (hQ : Q (some (.int z)) T.heap locs) : own_G p e below s Q k n (T.setTop (mkF m pc Ls (.int z :: st))) := by
  obtain ⟨fs, hr, hrun, hended, hW, hsame⟩ := X.leave (v := some (.int z)) (fun h => by rw [hret] at h; cases h) hlk
  exact ⟨_, _, retOut X hx (t := .int) hret rfl (Or.inl ⟨rfl, Or.inl rfl, z, rfl⟩) (hb hby hd) hr, hrun, hended, _, _, rfl, hQ, ⟨_, rfl⟩, hW, hsame.mono hk hn⟩
theorem own_retJ (X : Stand p l e R s m args below meth c T locs cells slots) (hx : p.tables.exec = Jvm.exec) (hby : c.code = code) (hlk : meth.locks = false) (hret : meth.sig.returnType = some .long) {z : Int64} (hd : decode code pc = .ok (.lreturn, 1)) (hk : cells ≤ k) (hn : slots ≤ n) (hQ : Q (some (.long z)) T.heap locs) : own_G p e below s Q k n (T.setTop (mkF m pc Ls (.long z :: st))) := by
  obtain ⟨fs, hr, hrun, hended, hW, hsame⟩ := X.leave (v := some (.long z)) (fun h => by rw [hret] at h; cases h) hlk
  exact ⟨_, _, retOut X hx (t := .long) hret rfl (Or.inr (Or.inl ⟨rfl, rfl, z, rfl⟩)) (hb hby hd) hr, hrun, hended, _, _, rfl, hQ, ⟨_, rfl⟩, hW, hsame.mono hk hn⟩
theorem own_retD (X : Stand p l e R s m args below meth c T locs cells slots) (hx : p.tables.exec = Jvm.exec) (hby : c.code = code) (hlk : meth.locks = false) (hret : meth.sig.returnType = some .double) {z : UInt64} (hd : decode code pc = .ok (.dreturn, 1)) (hk : cells ≤ k) (hn : slots ≤ n) (hQ : Q (some (.double z)) T.heap locs) : own_G p e below s Q k n (T.setTop (mkF m pc Ls (.double z :: st))) := by
  obtain ⟨fs, hr, hrun, hended, hW, hsame⟩ := X.leave (v := some (.double z)) (fun h => by rw [hret] at h; cases h) hlk
  exact ⟨_, _, retOut X hx (t := .double) hret rfl (Or.inr (Or.inr (Or.inl ⟨rfl, rfl, z, rfl⟩))) (hb hby hd) hr, hrun, hended, _, _, rfl, hQ, ⟨_, rfl⟩, hW, hsame.mono hk hn⟩
theorem own_retA (X : Stand p l e R s m args below meth c T locs cells slots) (hx : p.tables.exec = Jvm.exec) (hby : c.code = code) (hlk : meth.locks = false) {ty : FieldType} (hret : meth.sig.returnType = some ty) (hty : ty.isReference = true) {z : Value} (hz : z.isRef = true) (hnz : narrow ty z = z) (hd : decode code pc = .ok (.areturn, 1)) (hk : cells ≤ k) (hn : slots ≤ n) (hQ : Q (some z) T.heap locs) : own_G p e below s Q k n (T.setTop (mkF m pc Ls (z :: st))) := by
  obtain ⟨fs, hr, hrun, hended, hW, hsame⟩ := X.leave (v := some z) (fun h => by rw [hret] at h; cases h) hlk
  exact ⟨_, _, retOut X hx (t := ty) hret hnz (Or.inr (Or.inr (Or.inr (Or.inr ⟨rfl, hty, hz⟩)))) (hb hby hd) hr, hrun, hended, _, _, rfl, hQ, ⟨_, rfl⟩, hW, hsame.mono hk hn⟩
theorem own_retN (X : Stand p l e R s m args below meth c T locs cells slots) (hx : p.tables.exec = Jvm.exec) (hby : c.code = code) (hlk : meth.locks = false) {t : FieldType} (hret : meth.sig.returnType = some t) (ht : t = .boolean ∨ t = .byte ∨ t = .char ∨ t = .short) {z : Int32} (hd : decode code pc = .ok (.ireturn, 1)) (hk : cells ≤ k) (hn : slots ≤ n) (hQ : Q (some (.int (nar t z))) T.heap locs) : own_G p e below s Q k n (T.setTop (mkF m pc Ls (.int z :: st))) := by
  obtain ⟨fs, hr, hrun, hended, hW, hsame⟩ := X.leave (v := some (.int (nar t z))) (fun h => by rw [hret] at h; cases h) hlk
  exact ⟨_, _, retN X hx (t := t) hret ht (hb hby hd) hr, hrun, hended, _, _, rfl, hQ, ⟨_, rfl⟩, hW, hsame.mono hk hn⟩
theorem own_ret0 (X : Stand p l e R s m args below meth c T locs cells slots) (hx : p.tables.exec = Jvm.exec) (hby : c.code = code) (hlk : meth.locks = false) (hret : meth.sig.returnType = none) (hd : decode code pc = .ok (.return_, 1)) (hk : cells ≤ k) (hn : slots ≤ n) (hQ : Q none T.heap locs) : own_G p e below s Q k n (T.setTop (mkF m pc Ls [])) := by
  obtain ⟨fs, hr, hrun, hended, hW, hsame⟩ := X.leave (v := none) (fun _ => rfl) hlk
  exact ⟨_, _, X.returnOut hx hret (hb hby hd) hr, hrun, hended, _, _, rfl, hQ, ⟨_, rfl⟩, hW, hsame.mono hk hn⟩
theorem own_iloadN (X : Stand p l e R s m args below meth c T locs cells slots) (hx : p.tables.exec = Jvm.exec) (hby : c.code = code) {kk : Fin 4} {v : Int32} (hd : decode code pc = .ok (.iload_n kk, 1)) (hl : Ls[kk.val]? = some (.val (.int v))) (h : own_G p e below s Q k n (T.setTop (mkF m (pc + 1) Ls (.int v :: st)))) : own_G p e below s Q k n (T.setTop (mkF m pc Ls st)) := own_st (fun _ => XS.iloadN X.here hx rfl (hb hby hd) hl) h
theorem own_iload (X : Stand p l e R s m args below meth c T locs cells slots) (hx : p.tables.exec = Jvm.exec) (hby : c.code = code) {kk : Nat} {v : Int32} (hd : decode code pc = .ok (.iload kk, 2)) (hl : Ls[kk]? = some (.val (.int v))) (h : own_G p e below s Q k n (T.setTop (mkF m (pc + 2) Ls (.int v :: st)))) : own_G p e below s Q k n (T.setTop (mkF m pc Ls st)) := own_st (fun _ => XS.iload X.here hx rfl (hb hby hd) hl) h
theorem own_lloadN (X : Stand p l e R s m args below meth c T locs cells slots) (hx : p.tables.exec = Jvm.exec) (hby : c.code = code) {kk : Fin 4} {v : Int64} (hd : decode code pc = .ok (.lload_n kk, 1)) (hl : Ls[kk.val]? = some (.val (.long v))) (h : own_G p e below s Q k n (T.setTop (mkF m (pc + 1) Ls (.long v :: st)))) : own_G p e below s Q k n (T.setTop (mkF m pc Ls st)) := own_st (fun _ => XS.lloadN X.here hx rfl (hb hby hd) hl) h
theorem own_lload (X : Stand p l e R s m args below meth c T locs cells slots) (hx : p.tables.exec = Jvm.exec) (hby : c.code = code) {kk : Nat} {v : Int64} (hd : decode code pc = .ok (.lload kk, 2)) (hl : Ls[kk]? = some (.val (.long v))) (h : own_G p e below s Q k n (T.setTop (mkF m (pc + 2) Ls (.long v :: st)))) : own_G p e below s Q k n (T.setTop (mkF m pc Ls st)) := own_st (fun _ => XS.lload X.here hx rfl (hb hby hd) hl) h
theorem own_dloadN (X : Stand p l e R s m args below meth c T locs cells slots) (hx : p.tables.exec = Jvm.exec) (hby : c.code = code) {kk : Fin 4} {v : UInt64} (hd : decode code pc = .ok (.dload_n kk, 1)) (hl : Ls[kk.val]? = some (.val (.double v))) (h : own_G p e below s Q k n (T.setTop (mkF m (pc + 1) Ls (.double v :: st)))) : own_G p e below s Q k n (T.setTop (mkF m pc Ls st)) := own_st (fun _ => XS.dloadN X.here hx rfl (hb hby hd) hl) h
theorem own_dload (X : Stand p l e R s m args below meth c T locs cells slots) (hx : p.tables.exec = Jvm.exec) (hby : c.code = code) {kk : Nat} {v : UInt64} (hd : decode code pc = .ok (.dload kk, 2)) (hl : Ls[kk]? = some (.val (.double v))) (h : own_G p e below s Q k n (T.setTop (mkF m (pc + 2) Ls (.double v :: st)))) : own_G p e below s Q k n (T.setTop (mkF m pc Ls st)) := own_st (fun _ => XS.dload X.here hx rfl (hb hby hd) hl) h
theorem own_aloadN (X : Stand p l e R s m args below meth c T locs cells slots) (hx : p.tables.exec = Jvm.exec) (hby : c.code = code) {kk : Fin 4} {v : Value} (hd : decode code pc = .ok (.aload_n kk, 1)) (hl : Ls[kk.val]? = some (.val v)) (hv : v.isRef = true) (h : own_G p e below s Q k n (T.setTop (mkF m (pc + 1) Ls (v :: st)))) : own_G p e below s Q k n (T.setTop (mkF m pc Ls st)) := own_st (fun _ => XS.aloadN X.here hx rfl (hb hby hd) hl hv) h
theorem own_aload (X : Stand p l e R s m args below meth c T locs cells slots) (hx : p.tables.exec = Jvm.exec) (hby : c.code = code) {kk : Nat} {v : Value} (hd : decode code pc = .ok (.aload kk, 2)) (hl : Ls[kk]? = some (.val v)) (hv : v.isRef = true) (h : own_G p e below s Q k n (T.setTop (mkF m (pc + 2) Ls (v :: st)))) : own_G p e below s Q k n (T.setTop (mkF m pc Ls st)) := own_st (fun _ => XS.aload X.here hx rfl (hb hby hd) hl hv) h
theorem own_istoreN (X : Stand p l e R s m args below meth c T locs cells slots) (hx : p.tables.exec = Jvm.exec) (hby : c.code = code) {kk : Fin 4} {v : Int32} {l' : Array Slot} (hd : decode code pc = .ok (.istore_n kk, 1)) (hl : storeLocals Ls kk.val (.int v) = some l') (h : own_G p e below s Q k n (T.setTop (mkF m (pc + 1) l' st))) : own_G p e below s Q k n (T.setTop (mkF m pc Ls (.int v :: st))) := own_st (fun _ => XS.istoreN X.here hx rfl (hb hby hd) rfl hl) h
theorem own_istore (X : Stand p l e R s m args below meth c T locs cells slots) (hx : p.tables.exec = Jvm.exec) (hby : c.code = code) {kk : Nat} {v : Int32} {l' : Array Slot} (hd : decode code pc = .ok (.istore kk, 2)) (hl : storeLocals Ls kk (.int v) = some l') (h : own_G p e below s Q k n (T.setTop (mkF m (pc + 2) l' st))) : own_G p e below s Q k n (T.setTop (mkF m pc Ls (.int v :: st))) := own_st (fun _ => XS.istore X.here hx rfl (hb hby hd) rfl hl) h
theorem own_lstoreN (X : Stand p l e R s m args below meth c T locs cells slots) (hx : p.tables.exec = Jvm.exec) (hby : c.code = code) {kk : Fin 4} {v : Int64} {l' : Array Slot} (hd : decode code pc = .ok (.lstore_n kk, 1)) (hl : storeLocals Ls kk.val (.long v) = some l') (h : own_G p e below s Q k n (T.setTop (mkF m (pc + 1) l' st))) : own_G p e below s Q k n (T.setTop (mkF m pc Ls (.long v :: st))) := own_st (fun _ => XS.lstoreN X.here hx rfl (hb hby hd) rfl hl) h
theorem own_lstore (X : Stand p l e R s m args below meth c T locs cells slots) (hx : p.tables.exec = Jvm.exec) (hby : c.code = code) {kk : Nat} {v : Int64} {l' : Array Slot} (hd : decode code pc = .ok (.lstore kk, 2)) (hl : storeLocals Ls kk (.long v) = some l') (h : own_G p e below s Q k n (T.setTop (mkF m (pc + 2) l' st))) : own_G p e below s Q k n (T.setTop (mkF m pc Ls (.long v :: st))) := own_st (fun _ => XS.lstore X.here hx rfl (hb hby hd) rfl hl) h
theorem own_dstoreN (X : Stand p l e R s m args below meth c T locs cells slots) (hx : p.tables.exec = Jvm.exec) (hby : c.code = code) {kk : Fin 4} {v : UInt64} {l' : Array Slot} (hd : decode code pc = .ok (.dstore_n kk, 1)) (hl : storeLocals Ls kk.val (.double v) = some l') (h : own_G p e below s Q k n (T.setTop (mkF m (pc + 1) l' st))) : own_G p e below s Q k n (T.setTop (mkF m pc Ls (.double v :: st))) := own_st (fun _ => XS.dstoreN X.here hx rfl (hb hby hd) rfl hl) h
theorem own_dstore (X : Stand p l e R s m args below meth c T locs cells slots) (hx : p.tables.exec = Jvm.exec) (hby : c.code = code) {kk : Nat} {v : UInt64} {l' : Array Slot} (hd : decode code pc = .ok (.dstore kk, 2)) (hl : storeLocals Ls kk (.double v) = some l') (h : own_G p e below s Q k n (T.setTop (mkF m (pc + 2) l' st))) : own_G p e below s Q k n (T.setTop (mkF m pc Ls (.double v :: st))) := own_st (fun _ => XS.dstore X.here hx rfl (hb hby hd) rfl hl) h
theorem own_astoreN (X : Stand p l e R s m args below meth c T locs cells slots) (hx : p.tables.exec = Jvm.exec) (hby : c.code = code) {kk : Fin 4} {v : Value} {l' : Array Slot} (hd : decode code pc = .ok (.astore_n kk, 1)) (hv : v.isRef = true) (hl : storeLocals Ls kk.val v = some l') (h : own_G p e below s Q k n (T.setTop (mkF m (pc + 1) l' st))) : own_G p e below s Q k n (T.setTop (mkF m pc Ls (v :: st))) := own_st (fun _ => XS.astoreN X.here hx rfl (hb hby hd) rfl hv hl) h
theorem own_astore (X : Stand p l e R s m args below meth c T locs cells slots) (hx : p.tables.exec = Jvm.exec) (hby : c.code = code) {kk : Nat} {v : Value} {l' : Array Slot} (hd : decode code pc = .ok (.astore kk, 2)) (hv : v.isRef = true) (hl : storeLocals Ls kk v = some l') (h : own_G p e below s Q k n (T.setTop (mkF m (pc + 2) l' st))) : own_G p e below s Q k n (T.setTop (mkF m pc Ls (v :: st))) := own_st (fun _ => XS.astore X.here hx rfl (hb hby hd) rfl hv hl) h
theorem own_iconst (X : Stand p l e R s m args below meth c T locs cells slots) (hx : p.tables.exec = Jvm.exec) (hby : c.code = code) {i : Int} (hd : decode code pc = .ok (.iconst i, 1))  (h : own_G p e below s Q k n (T.setTop (mkF m (pc + 1) Ls (.int (Int32.ofInt i) :: st)))) : own_G p e below s Q k n (T.setTop (mkF m pc Ls st)) := own_st (fun _ => XS.iconst X.here hx rfl (hb hby hd)) h
theorem own_bipush (X : Stand p l e R s m args below meth c T locs cells slots) (hx : p.tables.exec = Jvm.exec) (hby : c.code = code) {i : Int} (hd : decode code pc = .ok (.bipush i, 2))  (h : own_G p e below s Q k n (T.setTop (mkF m (pc + 2) Ls (.int (Int8.ofInt i).toInt32 :: st)))) : own_G p e below s Q k n (T.setTop (mkF m pc Ls st)) := own_st (fun _ => XS.bipush X.here hx rfl (hb hby hd)) h
theorem own_sipush (X : Stand p l e R s m args below meth c T locs cells slots) (hx : p.tables.exec = Jvm.exec) (hby : c.code = code) {i : Int} (hd : decode code pc = .ok (.sipush i, 3))  (h : own_G p e below s Q k n (T.setTop (mkF m (pc + 3) Ls (.int (Int16.ofInt i).toInt32 :: st)))) : own_G p e below s Q k n (T.setTop (mkF m pc Ls st)) := own_st (fun _ => XS.sipush X.here hx rfl (hb hby hd)) h
theorem own_lconst (X : Stand p l e R s m args below meth c T locs cells slots) (hx : p.tables.exec = Jvm.exec) (hby : c.code = code) {i : Fin 2} (hd : decode code pc = .ok (.lconst i, 1))  (h : own_G p e below s Q k n (T.setTop (mkF m (pc + 1) Ls (.long (Int64.ofNat i) :: st)))) : own_G p e below s Q k n (T.setTop (mkF m pc Ls st)) := own_st (fun _ => XS.lconst X.here hx rfl (hb hby hd)) h
theorem own_aconst_null (X : Stand p l e R s m args below meth c T locs cells slots) (hx : p.tables.exec = Jvm.exec) (hby : c.code = code)  (hd : decode code pc = .ok (.aconst_null, 1))  (h : own_G p e below s Q k n (T.setTop (mkF m (pc + 1) Ls (.null :: st)))) : own_G p e below s Q k n (T.setTop (mkF m pc Ls st)) := own_st (fun _ => XS.aconstNull X.here hx rfl (hb hby hd)) h
theorem own_iadd (X : Stand p l e R s m args below meth c T locs cells slots) (hx : p.tables.exec = Jvm.exec) (hby : c.code = code) {x y : Int32} (hd : decode code pc = .ok (.iadd, 1))  (h : own_G p e below s Q k n (T.setTop (mkF m (pc + 1) Ls (.int (x + y) :: st)))) : own_G p e below s Q k n (T.setTop (mkF m pc Ls (.int y :: .int x :: st))) := own_st (fun _ => XS.iadd X.here hx rfl (hb hby hd) rfl) h
theorem own_isub (X : Stand p l e R s m args below meth c T locs cells slots) (hx : p.tables.exec = Jvm.exec) (hby : c.code = code) {x y : Int32} (hd : decode code pc = .ok (.isub, 1))  (h : own_G p e below s Q k n (T.setTop (mkF m (pc + 1) Ls (.int (x - y) :: st)))) : own_G p e below s Q k n (T.setTop (mkF m pc Ls (.int y :: .int x :: st))) := own_st (fun _ => XS.isub X.here hx rfl (hb hby hd) rfl) h
theorem own_imul (X : Stand p l e R s m args below meth c T locs cells slots) (hx : p.tables.exec = Jvm.exec) (hby : c.code = code) {x y : Int32} (hd : decode code pc = .ok (.imul, 1))  (h : own_G p e below s Q k n (T.setTop (mkF m (pc + 1) Ls (.int (x * y) :: st)))) : own_G p e below s Q k n (T.setTop (mkF m pc Ls (.int y :: .int x :: st))) := own_st (fun _ => XS.imul X.here hx rfl (hb hby hd) rfl) h
theorem own_iand (X : Stand p l e R s m args below meth c T locs cells slots) (hx : p.tables.exec = Jvm.exec) (hby : c.code = code) {x y : Int32} (hd : decode code pc = .ok (.iand, 1))  (h : own_G p e below s Q k n (T.setTop (mkF m (pc + 1) Ls (.int (x &&& y) :: st)))) : own_G p e below s Q k n (T.setTop (mkF m pc Ls (.int y :: .int x :: st))) := own_st (fun _ => XS.iand X.here hx rfl (hb hby hd) rfl) h
theorem own_ior (X : Stand p l e R s m args below meth c T locs cells slots) (hx : p.tables.exec = Jvm.exec) (hby : c.code = code) {x y : Int32} (hd : decode code pc = .ok (.ior, 1))  (h : own_G p e below s Q k n (T.setTop (mkF m (pc + 1) Ls (.int (x ||| y) :: st)))) : own_G p e below s Q k n (T.setTop (mkF m pc Ls (.int y :: .int x :: st))) := own_st (fun _ => XS.ior X.here hx rfl (hb hby hd) rfl) h
theorem own_ixor (X : Stand p l e R s m args below meth c T locs cells slots) (hx : p.tables.exec = Jvm.exec) (hby : c.code = code) {x y : Int32} (hd : decode code pc = .ok (.ixor, 1))  (h : own_G p e below s Q k n (T.setTop (mkF m (pc + 1) Ls (.int (x ^^^ y) :: st)))) : own_G p e below s Q k n (T.setTop (mkF m pc Ls (.int y :: .int x :: st))) := own_st (fun _ => XS.ixor X.here hx rfl (hb hby hd) rfl) h
theorem own_ishl (X : Stand p l e R s m args below meth c T locs cells slots) (hx : p.tables.exec = Jvm.exec) (hby : c.code = code) {x y : Int32} (hd : decode code pc = .ok (.ishl, 1))  (h : own_G p e below s Q k n (T.setTop (mkF m (pc + 1) Ls (.int (x <<< (y &&& 31)) :: st)))) : own_G p e below s Q k n (T.setTop (mkF m pc Ls (.int y :: .int x :: st))) := own_st (fun _ => XS.ishl X.here hx rfl (hb hby hd) rfl) h
theorem own_ishr (X : Stand p l e R s m args below meth c T locs cells slots) (hx : p.tables.exec = Jvm.exec) (hby : c.code = code) {x y : Int32} (hd : decode code pc = .ok (.ishr, 1))  (h : own_G p e below s Q k n (T.setTop (mkF m (pc + 1) Ls (.int (x >>> (y &&& 31)) :: st)))) : own_G p e below s Q k n (T.setTop (mkF m pc Ls (.int y :: .int x :: st))) := own_st (fun _ => XS.ishr X.here hx rfl (hb hby hd) rfl) h
theorem own_iushr (X : Stand p l e R s m args below meth c T locs cells slots) (hx : p.tables.exec = Jvm.exec) (hby : c.code = code) {x y : Int32} (hd : decode code pc = .ok (.iushr, 1))  (h : own_G p e below s Q k n (T.setTop (mkF m (pc + 1) Ls (.int ((x.toUInt32 >>> (y &&& 31).toUInt32).toInt32) :: st)))) : own_G p e below s Q k n (T.setTop (mkF m pc Ls (.int y :: .int x :: st))) := own_st (fun _ => XS.iushr X.here hx rfl (hb hby hd) rfl) h
theorem own_ladd (X : Stand p l e R s m args below meth c T locs cells slots) (hx : p.tables.exec = Jvm.exec) (hby : c.code = code) {x y : Int64} (hd : decode code pc = .ok (.ladd, 1))  (h : own_G p e below s Q k n (T.setTop (mkF m (pc + 1) Ls (.long (x + y) :: st)))) : own_G p e below s Q k n (T.setTop (mkF m pc Ls (.long y :: .long x :: st))) := own_st (fun _ => XS.ladd X.here hx rfl (hb hby hd) rfl) h
theorem own_lsub (X : Stand p l e R s m args below meth c T locs cells slots) (hx : p.tables.exec = Jvm.exec) (hby : c.code = code) {x y : Int64} (hd : decode code pc = .ok (.lsub, 1))  (h : own_G p e below s Q k n (T.setTop (mkF m (pc + 1) Ls (.long (x - y) :: st)))) : own_G p e below s Q k n (T.setTop (mkF m pc Ls (.long y :: .long x :: st))) := own_st (fun _ => XS.lsub X.here hx rfl (hb hby hd) rfl) h
theorem own_lmul (X : Stand p l e R s m args below meth c T locs cells slots) (hx : p.tables.exec = Jvm.exec) (hby : c.code = code) {x y : Int64} (hd : decode code pc = .ok (.lmul, 1))  (h : own_G p e below s Q k n (T.setTop (mkF m (pc + 1) Ls (.long (x * y) :: st)))) : own_G p e below s Q k n (T.setTop (mkF m pc Ls (.long y :: .long x :: st))) := own_st (fun _ => XS.lmul X.here hx rfl (hb hby hd) rfl) h
theorem own_land (X : Stand p l e R s m args below meth c T locs cells slots) (hx : p.tables.exec = Jvm.exec) (hby : c.code = code) {x y : Int64} (hd : decode code pc = .ok (.land, 1))  (h : own_G p e below s Q k n (T.setTop (mkF m (pc + 1) Ls (.long (x &&& y) :: st)))) : own_G p e below s Q k n (T.setTop (mkF m pc Ls (.long y :: .long x :: st))) := own_st (fun _ => XS.land X.here hx rfl (hb hby hd) rfl) h
theorem own_lor (X : Stand p l e R s m args below meth c T locs cells slots) (hx : p.tables.exec = Jvm.exec) (hby : c.code = code) {x y : Int64} (hd : decode code pc = .ok (.lor, 1))  (h : own_G p e below s Q k n (T.setTop (mkF m (pc + 1) Ls (.long (x ||| y) :: st)))) : own_G p e below s Q k n (T.setTop (mkF m pc Ls (.long y :: .long x :: st))) := own_st (fun _ => XS.lor X.here hx rfl (hb hby hd) rfl) h
theorem own_lxor (X : Stand p l e R s m args below meth c T locs cells slots) (hx : p.tables.exec = Jvm.exec) (hby : c.code = code) {x y : Int64} (hd : decode code pc = .ok (.lxor, 1))  (h : own_G p e below s Q k n (T.setTop (mkF m (pc + 1) Ls (.long (x ^^^ y) :: st)))) : own_G p e below s Q k n (T.setTop (mkF m pc Ls (.long y :: .long x :: st))) := own_st (fun _ => XS.lxor X.here hx rfl (hb hby hd) rfl) h
theorem own_lshl (X : Stand p l e R s m args below meth c T locs cells slots) (hx : p.tables.exec = Jvm.exec) (hby : c.code = code) {x : Int64} {y : Int32} (hd : decode code pc = .ok (.lshl, 1))  (h : own_G p e below s Q k n (T.setTop (mkF m (pc + 1) Ls (.long (x <<< (y &&& 0x3f).toInt64) :: st)))) : own_G p e below s Q k n (T.setTop (mkF m pc Ls (.int y :: .long x :: st))) := own_st (fun _ => XS.lshl X.here hx rfl (hb hby hd) rfl) h
theorem own_lshr (X : Stand p l e R s m args below meth c T locs cells slots) (hx : p.tables.exec = Jvm.exec) (hby : c.code = code) {x : Int64} {y : Int32} (hd : decode code pc = .ok (.lshr, 1))  (h : own_G p e below s Q k n (T.setTop (mkF m (pc + 1) Ls (.long (x >>> (y &&& 0x3f).toInt64) :: st)))) : own_G p e below s Q k n (T.setTop (mkF m pc Ls (.int y :: .long x :: st))) := own_st (fun _ => XS.lshr X.here hx rfl (hb hby hd) rfl) h
theorem own_lushr (X : Stand p l e R s m args below meth c T locs cells slots) (hx : p.tables.exec = Jvm.exec) (hby : c.code = code) {x : Int64} {y : Int32} (hd : decode code pc = .ok (.lushr, 1))  (h : own_G p e below s Q k n (T.setTop (mkF m (pc + 1) Ls (.long ((x.toUInt64 >>> (y &&& 0x3f).toInt64.toUInt64).toInt64) :: st)))) : own_G p e below s Q k n (T.setTop (mkF m pc Ls (.int y :: .long x :: st))) := own_st (fun _ => XS.lushr X.here hx rfl (hb hby hd) rfl) h
theorem own_idiv (X : Stand p l e R s m args below meth c T locs cells slots) (hx : p.tables.exec = Jvm.exec) (hby : c.code = code) {x y : Int32} (hd : decode code pc = .ok (.idiv, 1)) (hy : y ≠ 0) (h : own_G p e below s Q k n (T.setTop (mkF m (pc + 1) Ls (.int (x / y) :: st)))) : own_G p e below s Q k n (T.setTop (mkF m pc Ls (.int y :: .int x :: st))) := own_st (fun _ => XS.idiv X.here hx rfl (hb hby hd) rfl hy) h
theorem own_irem (X : Stand p l e R s m args below meth c T locs cells slots) (hx : p.tables.exec = Jvm.exec) (hby : c.code = code) {x y : Int32} (hd : decode code pc = .ok (.irem, 1)) (hy : y ≠ 0) (h : own_G p e below s Q k n (T.setTop (mkF m (pc + 1) Ls (.int (x % y) :: st)))) : own_G p e below s Q k n (T.setTop (mkF m pc Ls (.int y :: .int x :: st))) := own_st (fun _ => iremM X hx rfl (hb hby hd) rfl hy) h
theorem own_ldiv (X : Stand p l e R s m args below meth c T locs cells slots) (hx : p.tables.exec = Jvm.exec) (hby : c.code = code) {x y : Int64} (hd : decode code pc = .ok (.ldiv, 1)) (hy : y ≠ 0) (h : own_G p e below s Q k n (T.setTop (mkF m (pc + 1) Ls (.long (x / y) :: st)))) : own_G p e below s Q k n (T.setTop (mkF m pc Ls (.long y :: .long x :: st))) := own_st (fun _ => XS.ldiv X.here hx rfl (hb hby hd) rfl hy) h
theorem own_lrem (X : Stand p l e R s m args below meth c T locs cells slots) (hx : p.tables.exec = Jvm.exec) (hby : c.code = code) {x y : Int64} (hd : decode code pc = .ok (.lrem, 1)) (hy : y ≠ 0) (h : own_G p e below s Q k n (T.setTop (mkF m (pc + 1) Ls (.long (x % y) :: st)))) : own_G p e below s Q k n (T.setTop (mkF m pc Ls (.long y :: .long x :: st))) := own_st (fun _ hr => XS.lrem X.here hx rfl (hb hby hd) rfl hy (by rw [lrem_mod]; exact hr)) h
theorem own_ineg (X : Stand p l e R s m args below meth c T locs cells slots) (hx : p.tables.exec = Jvm.exec) (hby : c.code = code) {x : Int32} (hd : decode code pc = .ok (.ineg, 1))  (h : own_G p e below s Q k n (T.setTop (mkF m (pc + 1) Ls (.int (-x) :: st)))) : own_G p e below s Q k n (T.setTop (mkF m pc Ls (.int x :: st))) := own_st (fun _ => XS.ineg X.here hx rfl (hb hby hd) rfl) h
theorem own_lneg (X : Stand p l e R s m args below meth c T locs cells slots) (hx : p.tables.exec = Jvm.exec) (hby : c.code = code) {x : Int64} (hd : decode code pc = .ok (.lneg, 1))  (h : own_G p e below s Q k n (T.setTop (mkF m (pc + 1) Ls (.long (-x) :: st)))) : own_G p e below s Q k n (T.setTop (mkF m pc Ls (.long x :: st))) := own_st (fun _ => XS.lneg X.here hx rfl (hb hby hd) rfl) h
theorem own_i2l (X : Stand p l e R s m args below meth c T locs cells slots) (hx : p.tables.exec = Jvm.exec) (hby : c.code = code) {x : Int32} (hd : decode code pc = .ok (.i2l, 1))  (h : own_G p e below s Q k n (T.setTop (mkF m (pc + 1) Ls (.long (x.toInt64) :: st)))) : own_G p e below s Q k n (T.setTop (mkF m pc Ls (.int x :: st))) := own_st (fun _ => XS.i2l X.here hx rfl (hb hby hd) rfl) h
theorem own_l2i (X : Stand p l e R s m args below meth c T locs cells slots) (hx : p.tables.exec = Jvm.exec) (hby : c.code = code) {x : Int64} (hd : decode code pc = .ok (.l2i, 1))  (h : own_G p e below s Q k n (T.setTop (mkF m (pc + 1) Ls (.int (x.toInt32) :: st)))) : own_G p e below s Q k n (T.setTop (mkF m pc Ls (.long x :: st))) := own_st (fun _ => XS.l2i X.here hx rfl (hb hby hd) rfl) h
theorem own_i2b (X : Stand p l e R s m args below meth c T locs cells slots) (hx : p.tables.exec = Jvm.exec) (hby : c.code = code) {x : Int32} (hd : decode code pc = .ok (.i2b, 1))  (h : own_G p e below s Q k n (T.setTop (mkF m (pc + 1) Ls (.int (x.toInt8.toInt32) :: st)))) : own_G p e below s Q k n (T.setTop (mkF m pc Ls (.int x :: st))) := own_st (fun _ => XS.i2b X.here hx rfl (hb hby hd) rfl) h
theorem own_i2s (X : Stand p l e R s m args below meth c T locs cells slots) (hx : p.tables.exec = Jvm.exec) (hby : c.code = code) {x : Int32} (hd : decode code pc = .ok (.i2s, 1))  (h : own_G p e below s Q k n (T.setTop (mkF m (pc + 1) Ls (.int (x.toInt16.toInt32) :: st)))) : own_G p e below s Q k n (T.setTop (mkF m pc Ls (.int x :: st))) := own_st (fun _ => XS.i2s X.here hx rfl (hb hby hd) rfl) h
theorem own_i2c (X : Stand p l e R s m args below meth c T locs cells slots) (hx : p.tables.exec = Jvm.exec) (hby : c.code = code) {x : Int32} (hd : decode code pc = .ok (.i2c, 1))  (h : own_G p e below s Q k n (T.setTop (mkF m (pc + 1) Ls (.int (x.toUInt32.toUInt16.toUInt32.toInt32) :: st)))) : own_G p e below s Q k n (T.setTop (mkF m pc Ls (.int x :: st))) := own_st (fun _ => XS.i2c X.here hx rfl (hb hby hd) rfl) h
theorem own_dup (X : Stand p l e R s m args below meth c T locs cells slots) (hx : p.tables.exec = Jvm.exec) (hby : c.code = code) {v : Value} (hd : decode code pc = .ok (.dup, 1)) (hc : v.category = 1) (h : own_G p e below s Q k n (T.setTop (mkF m (pc + 1) Ls (v :: v :: st)))) : own_G p e below s Q k n (T.setTop (mkF m pc Ls (v :: st))) := own_st (fun _ => XS.dup X.here hx rfl (hb hby hd) rfl hc) h
theorem own_dup_x1 (X : Stand p l e R s m args below meth c T locs cells slots) (hx : p.tables.exec = Jvm.exec) (hby : c.code = code) {v w : Value} (hd : decode code pc = .ok (.dup_x1, 1)) (hc : v.category = 1) (hc' : w.category = 1) (h : own_G p e below s Q k n (T.setTop (mkF m (pc + 1) Ls (v :: w :: v :: st)))) : own_G p e below s Q k n (T.setTop (mkF m pc Ls (v :: w :: st))) := own_st (fun _ => XS.dupX1 X.here hx rfl (hb hby hd) rfl hc hc') h
theorem own_dup2 (X : Stand p l e R s m args below meth c T locs cells slots) (hx : p.tables.exec = Jvm.exec) (hby : c.code = code) {v w : Value} (hd : decode code pc = .ok (.dup2, 1)) (hc : v.category = 1) (hc' : w.category = 1) (h : own_G p e below s Q k n (T.setTop (mkF m (pc + 1) Ls (v :: w :: v :: w :: st)))) : own_G p e below s Q k n (T.setTop (mkF m pc Ls (v :: w :: st))) := own_st (fun _ => Jvm.Free.XT.dup2 X.here hx rfl (hb hby hd) rfl hc hc') h
theorem own_dup2L (X : Stand p l e R s m args below meth c T locs cells slots) (hx : p.tables.exec = Jvm.exec) (hby : c.code = code) {v : Int64} (hd : decode code pc = .ok (.dup2, 1))  (h : own_G p e below s Q k n (T.setTop (mkF m (pc + 1) Ls (.long v :: .long v :: st)))) : own_G p e below s Q k n (T.setTop (mkF m pc Ls (.long v :: st))) := own_st (fun _ => Jvm.Free.XT.dup2L X.here hx rfl (hb hby hd) rfl) h
theorem own_pop (X : Stand p l e R s m args below meth c T locs cells slots) (hx : p.tables.exec = Jvm.exec) (hby : c.code = code) {v : Value} (hd : decode code pc = .ok (.pop, 1)) (hc : v.category = 1) (h : own_G p e below s Q k n (T.setTop (mkF m (pc + 1) Ls st))) : own_G p e below s Q k n (T.setTop (mkF m pc Ls (v :: st))) := own_st (fun _ => XS.pop X.here hx rfl (hb hby hd) rfl hc) h
theorem own_iinc (X : Stand p l e R s m args below meth c T locs cells slots) (hx : p.tables.exec = Jvm.exec) (hby : c.code = code) {kk : Nat} {cst : Int} {x : Int32} {l' : Array Slot} (hd : decode code pc = .ok (.iinc kk cst, 3)) (hl : Ls[kk]? = some (.val (.int x))) (hl' : storeLocals Ls kk (.int (x + Int32.ofInt cst)) = some l') (h : own_G p e below s Q k n (T.setTop (mkF m (pc + 3) l' st))) : own_G p e below s Q k n (T.setTop (mkF m pc Ls st)) := own_st (fun _ => XS.iinc X.here hx rfl (hb hby hd) hl hl') h
theorem own_goto (X : Stand p l e R s m args below meth c T locs cells slots) (hx : p.tables.exec = Jvm.exec) (hby : c.code = code) {o : Int} {pc' : Nat} (hd : decode code pc = .ok (.goto o, 3)) (ho : 0 ≤ (pc : Int) + o) (hp : ((pc : Int) + o).toNat = pc') (h : own_G p e below s Q k n (T.setTop (mkF m pc' Ls st))) : own_G p e below s Q k n (T.setTop (mkF m pc Ls st)) := own_st (fun _ => XS.goto X.here hx rfl rfl (hb hby hd) ho hp) h
theorem own_icmp_eq (X : Stand p l e R s m args below meth c T locs cells slots) (hx : p.tables.exec = Jvm.exec) (hby : c.code = code) {x y : Int32} {o : Int} {pc' : Nat} (hd : decode code pc = .ok (.if_icmp .eq o, 3)) (ho : 0 ≤ (pc : Int) + o) (hp : ((pc : Int) + o).toNat = pc') (hY : x = y → own_G p e below s Q k n (T.setTop (mkF m pc' Ls st))) (hN : ¬ x = y → own_G p e below s Q k n (T.setTop (mkF m (pc + 3) Ls st))) : own_G p e below s Q k n (T.setTop (mkF m pc Ls (.int y :: .int x :: st))) := by
  by_cases q : x = y
  · exact own_st (fun _ => XS.icmpYes X.here hx rfl rfl (hb hby hd) rfl (teq q).1 ho hp) (hY q)
  · exact own_st (fun _ => XS.icmpNo X.here hx rfl (hb hby hd) rfl (feq q).1) (hN q)
theorem own_if_eq (X : Stand p l e R s m args below meth c T locs cells slots) (hx : p.tables.exec = Jvm.exec) (hby : c.code = code) {x : Int32} {o : Int} {pc' : Nat} (hd : decode code pc = .ok (.ifCond .eq o, 3)) (ho : 0 ≤ (pc : Int) + o) (hp : ((pc : Int) + o).toNat = pc') (hY : x = 0 → own_G p e below s Q k n (T.setTop (mkF m pc' Ls st))) (hN : ¬ x = 0 → own_G p e below s Q k n (T.setTop (mkF m (pc + 3) Ls st))) : own_G p e below s Q k n (T.setTop (mkF m pc Ls (.int x :: st))) := by
  by_cases q : x = 0
  · exact own_st (fun _ => XS.ifYes X.here hx rfl rfl (hb hby hd) rfl ((if0 _ _).trans (teq q).1) ho hp) (hY q)
  · exact own_st (fun _ => XS.ifNo X.here hx rfl (hb hby hd) rfl ((if0 _ _).trans (feq q).1)) (hN q)
theorem own_lcmp_eq (X : Stand p l e R s m args below meth c T locs cells slots) (hx : p.tables.exec = Jvm.exec) (hby : c.code = code) {x y : Int64} {o : Int} {pc' : Nat} (hd : decode code pc = .ok (.lcmp, 1)) (hd2 : decode code (pc + 1) = .ok (.ifCond .eq o, 3)) (ho : 0 ≤ ((pc + 1 : Nat) : Int) + o) (hp : (((pc + 1 : Nat) : Int) + o).toNat = pc') (hY : x = y → own_G p e below s Q k n (T.setTop (mkF m pc' Ls st))) (hN : ¬ x = y → own_G p e below s Q k n (T.setTop (mkF m (pc + 4) Ls st))) : own_G p e below s Q k n (T.setTop (mkF m pc Ls (.long y :: .long x :: st))) := by
  refine own_st (fun _ => XS.lcmp X.here hx rfl (hb hby hd) rfl) ?_
  exact own_if_eq (x := lcmpW x y) X hx hby hd2 ho hp (fun q => hY ((lw_eq x y).mp q)) (fun q => hN (fun z => q ((lw_eq x y).mpr z)))
theorem own_icmp_ne (X : Stand p l e R s m args below meth c T locs cells slots) (hx : p.tables.exec = Jvm.exec) (hby : c.code = code) {x y : Int32} {o : Int} {pc' : Nat} (hd : decode code pc = .ok (.if_icmp .ne o, 3)) (ho : 0 ≤ (pc : Int) + o) (hp : ((pc : Int) + o).toNat = pc') (hY : ¬ x = y → own_G p e below s Q k n (T.setTop (mkF m pc' Ls st))) (hN : x = y → own_G p e below s Q k n (T.setTop (mkF m (pc + 3) Ls st))) : own_G p e below s Q k n (T.setTop (mkF m pc Ls (.int y :: .int x :: st))) := by
  by_cases q : x = y
  · exact own_st (fun _ => XS.icmpNo X.here hx rfl (hb hby hd) rfl (teq q).2) (hN q)
  · exact own_st (fun _ => XS.icmpYes X.here hx rfl rfl (hb hby hd) rfl (feq q).2 ho hp) (hY q)
theorem own_if_ne (X : Stand p l e R s m args below meth c T locs cells slots) (hx : p.tables.exec = Jvm.exec) (hby : c.code = code) {x : Int32} {o : Int} {pc' : Nat} (hd : decode code pc = .ok (.ifCond .ne o, 3)) (ho : 0 ≤ (pc : Int) + o) (hp : ((pc : Int) + o).toNat = pc') (hY : ¬ x = 0 → own_G p e below s Q k n (T.setTop (mkF m pc' Ls st))) (hN : x = 0 → own_G p e below s Q k n (T.setTop (mkF m (pc + 3) Ls st))) : own_G p e below s Q k n (T.setTop (mkF m pc Ls (.int x :: st))) := by
  by_cases q : x = 0
  · exact own_st (fun _ => XS.ifNo X.here hx rfl (hb hby hd) rfl ((if0 _ _).trans (teq q).2)) (hN q)
  · exact own_st (fun _ => XS.ifYes X.here hx rfl rfl (hb hby hd) rfl ((if0 _ _).trans (feq q).2) ho hp) (hY q)
theorem own_lcmp_ne (X : Stand p l e R s m args below meth c T locs cells slots) (hx : p.tables.exec = Jvm.exec) (hby : c.code = code) {x y : Int64} {o : Int} {pc' : Nat} (hd : decode code pc = .ok (.lcmp, 1)) (hd2 : decode code (pc + 1) = .ok (.ifCond .ne o, 3)) (ho : 0 ≤ ((pc + 1 : Nat) : Int) + o) (hp : (((pc + 1 : Nat) : Int) + o).toNat = pc') (hY : ¬ x = y → own_G p e below s Q k n (T.setTop (mkF m pc' Ls st))) (hN : x = y → own_G p e below s Q k n (T.setTop (mkF m (pc + 4) Ls st))) : own_G p e below s Q k n (T.setTop (mkF m pc Ls (.long y :: .long x :: st))) := by
  refine own_st (fun _ => XS.lcmp X.here hx rfl (hb hby hd) rfl) ?_
  exact own_if_ne (x := lcmpW x y) X hx hby hd2 ho hp (fun q => hY (fun z => q ((lw_eq x y).mpr z))) (fun q => hN ((lw_eq x y).mp q))
theorem own_icmp_lt (X : Stand p l e R s m args below meth c T locs cells slots) (hx : p.tables.exec = Jvm.exec) (hby : c.code = code) {x y : Int32} {o : Int} {pc' : Nat} (hd : decode code pc = .ok (.if_icmp .lt o, 3)) (ho : 0 ≤ (pc : Int) + o) (hp : ((pc : Int) + o).toNat = pc') (hY : x < y → own_G p e below s Q k n (T.setTop (mkF m pc' Ls st))) (hN : ¬ x < y → own_G p e below s Q k n (T.setTop (mkF m (pc + 3) Ls st))) : own_G p e below s Q k n (T.setTop (mkF m pc Ls (.int y :: .int x :: st))) := by
  by_cases q : x < y
  · exact own_st (fun _ => XS.icmpYes X.here hx rfl rfl (hb hby hd) rfl (tlt q).1 ho hp) (hY q)
  · exact own_st (fun _ => XS.icmpNo X.here hx rfl (hb hby hd) rfl (flt q).1) (hN q)
theorem own_if_lt (X : Stand p l e R s m args below meth c T locs cells slots) (hx : p.tables.exec = Jvm.exec) (hby : c.code = code) {x : Int32} {o : Int} {pc' : Nat} (hd : decode code pc = .ok (.ifCond .lt o, 3)) (ho : 0 ≤ (pc : Int) + o) (hp : ((pc : Int) + o).toNat = pc') (hY : x < 0 → own_G p e below s Q k n (T.setTop (mkF m pc' Ls st))) (hN : ¬ x < 0 → own_G p e below s Q k n (T.setTop (mkF m (pc + 3) Ls st))) : own_G p e below s Q k n (T.setTop (mkF m pc Ls (.int x :: st))) := by
  by_cases q : x < 0
  · exact own_st (fun _ => XS.ifYes X.here hx rfl rfl (hb hby hd) rfl ((if0 _ _).trans (tlt q).1) ho hp) (hY q)
  · exact own_st (fun _ => XS.ifNo X.here hx rfl (hb hby hd) rfl ((if0 _ _).trans (flt q).1)) (hN q)
theorem own_lcmp_lt (X : Stand p l e R s m args below meth c T locs cells slots) (hx : p.tables.exec = Jvm.exec) (hby : c.code = code) {x y : Int64} {o : Int} {pc' : Nat} (hd : decode code pc = .ok (.lcmp, 1)) (hd2 : decode code (pc + 1) = .ok (.ifCond .lt o, 3)) (ho : 0 ≤ ((pc + 1 : Nat) : Int) + o) (hp : (((pc + 1 : Nat) : Int) + o).toNat = pc') (hY : x < y → own_G p e below s Q k n (T.setTop (mkF m pc' Ls st))) (hN : ¬ x < y → own_G p e below s Q k n (T.setTop (mkF m (pc + 4) Ls st))) : own_G p e below s Q k n (T.setTop (mkF m pc Ls (.long y :: .long x :: st))) := by
  refine own_st (fun _ => XS.lcmp X.here hx rfl (hb hby hd) rfl) ?_
  exact own_if_lt (x := lcmpW x y) X hx hby hd2 ho hp (fun q => hY ((lw_lt x y).mp q)) (fun q => hN (fun z => q ((lw_lt x y).mpr z)))
theorem own_icmp_ge (X : Stand p l e R s m args below meth c T locs cells slots) (hx : p.tables.exec = Jvm.exec) (hby : c.code = code) {x y : Int32} {o : Int} {pc' : Nat} (hd : decode code pc = .ok (.if_icmp .ge o, 3)) (ho : 0 ≤ (pc : Int) + o) (hp : ((pc : Int) + o).toNat = pc') (hY : ¬ x < y → own_G p e below s Q k n (T.setTop (mkF m pc' Ls st))) (hN : x < y → own_G p e below s Q k n (T.setTop (mkF m (pc + 3) Ls st))) : own_G p e below s Q k n (T.setTop (mkF m pc Ls (.int y :: .int x :: st))) := by
  by_cases q : x < y
  · exact own_st (fun _ => XS.icmpNo X.here hx rfl (hb hby hd) rfl (tlt q).2.1) (hN q)
  · exact own_st (fun _ => XS.icmpYes X.here hx rfl rfl (hb hby hd) rfl (flt q).2.1 ho hp) (hY q)
theorem own_if_ge (X : Stand p l e R s m args below meth c T locs cells slots) (hx : p.tables.exec = Jvm.exec) (hby : c.code = code) {x : Int32} {o : Int} {pc' : Nat} (hd : decode code pc = .ok (.ifCond .ge o, 3)) (ho : 0 ≤ (pc : Int) + o) (hp : ((pc : Int) + o).toNat = pc') (hY : ¬ x < 0 → own_G p e below s Q k n (T.setTop (mkF m pc' Ls st))) (hN : x < 0 → own_G p e below s Q k n (T.setTop (mkF m (pc + 3) Ls st))) : own_G p e below s Q k n (T.setTop (mkF m pc Ls (.int x :: st))) := by
  by_cases q : x < 0
  · exact own_st (fun _ => XS.ifNo X.here hx rfl (hb hby hd) rfl ((if0 _ _).trans (tlt q).2.1)) (hN q)
  · exact own_st (fun _ => XS.ifYes X.here hx rfl rfl (hb hby hd) rfl ((if0 _ _).trans (flt q).2.1) ho hp) (hY q)
theorem own_lcmp_ge (X : Stand p l e R s m args below meth c T locs cells slots) (hx : p.tables.exec = Jvm.exec) (hby : c.code = code) {x y : Int64} {o : Int} {pc' : Nat} (hd : decode code pc = .ok (.lcmp, 1)) (hd2 : decode code (pc + 1) = .ok (.ifCond .ge o, 3)) (ho : 0 ≤ ((pc + 1 : Nat) : Int) + o) (hp : (((pc + 1 : Nat) : Int) + o).toNat = pc') (hY : ¬ x < y → own_G p e below s Q k n (T.setTop (mkF m pc' Ls st))) (hN : x < y → own_G p e below s Q k n (T.setTop (mkF m (pc + 4) Ls st))) : own_G p e below s Q k n (T.setTop (mkF m pc Ls (.long y :: .long x :: st))) := by
  refine own_st (fun _ => XS.lcmp X.here hx rfl (hb hby hd) rfl) ?_
  exact own_if_ge (x := lcmpW x y) X hx hby hd2 ho hp (fun q => hY (fun z => q ((lw_lt x y).mpr z))) (fun q => hN ((lw_lt x y).mp q))
theorem own_icmp_gt (X : Stand p l e R s m args below meth c T locs cells slots) (hx : p.tables.exec = Jvm.exec) (hby : c.code = code) {x y : Int32} {o : Int} {pc' : Nat} (hd : decode code pc = .ok (.if_icmp .gt o, 3)) (ho : 0 ≤ (pc : Int) + o) (hp : ((pc : Int) + o).toNat = pc') (hY : y < x → own_G p e below s Q k n (T.setTop (mkF m pc' Ls st))) (hN : ¬ y < x → own_G p e below s Q k n (T.setTop (mkF m (pc + 3) Ls st))) : own_G p e below s Q k n (T.setTop (mkF m pc Ls (.int y :: .int x :: st))) := by
  by_cases q : y < x
  · exact own_st (fun _ => XS.icmpYes X.here hx rfl rfl (hb hby hd) rfl (tlt q).2.2.1 ho hp) (hY q)
  · exact own_st (fun _ => XS.icmpNo X.here hx rfl (hb hby hd) rfl (flt q).2.2.1) (hN q)
theorem own_if_gt (X : Stand p l e R s m args below meth c T locs cells slots) (hx : p.tables.exec = Jvm.exec) (hby : c.code = code) {x : Int32} {o : Int} {pc' : Nat} (hd : decode code pc = .ok (.ifCond .gt o, 3)) (ho : 0 ≤ (pc : Int) + o) (hp : ((pc : Int) + o).toNat = pc') (hY : 0 < x → own_G p e below s Q k n (T.setTop (mkF m pc' Ls st))) (hN : ¬ 0 < x → own_G p e below s Q k n (T.setTop (mkF m (pc + 3) Ls st))) : own_G p e below s Q k n (T.setTop (mkF m pc Ls (.int x :: st))) := by
  by_cases q : 0 < x
  · exact own_st (fun _ => XS.ifYes X.here hx rfl rfl (hb hby hd) rfl ((if0 _ _).trans (tlt q).2.2.1) ho hp) (hY q)
  · exact own_st (fun _ => XS.ifNo X.here hx rfl (hb hby hd) rfl ((if0 _ _).trans (flt q).2.2.1)) (hN q)
theorem own_lcmp_gt (X : Stand p l e R s m args below meth c T locs cells slots) (hx : p.tables.exec = Jvm.exec) (hby : c.code = code) {x y : Int64} {o : Int} {pc' : Nat} (hd : decode code pc = .ok (.lcmp, 1)) (hd2 : decode code (pc + 1) = .ok (.ifCond .gt o, 3)) (ho : 0 ≤ ((pc + 1 : Nat) : Int) + o) (hp : (((pc + 1 : Nat) : Int) + o).toNat = pc') (hY : y < x → own_G p e below s Q k n (T.setTop (mkF m pc' Ls st))) (hN : ¬ y < x → own_G p e below s Q k n (T.setTop (mkF m (pc + 4) Ls st))) : own_G p e below s Q k n (T.setTop (mkF m pc Ls (.long y :: .long x :: st))) := by
  refine own_st (fun _ => XS.lcmp X.here hx rfl (hb hby hd) rfl) ?_
  exact own_if_gt (x := lcmpW x y) X hx hby hd2 ho hp (fun q => hY ((lw_gt x y).mp q)) (fun q => hN (fun z => q ((lw_gt x y).mpr z)))
theorem own_icmp_le (X : Stand p l e R s m args below meth c T locs cells slots) (hx : p.tables.exec = Jvm.exec) (hby : c.code = code) {x y : Int32} {o : Int} {pc' : Nat} (hd : decode code pc = .ok (.if_icmp .le o, 3)) (ho : 0 ≤ (pc : Int) + o) (hp : ((pc : Int) + o).toNat = pc') (hY : ¬ y < x → own_G p e below s Q k n (T.setTop (mkF m pc' Ls st))) (hN : y < x → own_G p e below s Q k n (T.setTop (mkF m (pc + 3) Ls st))) : own_G p e below s Q k n (T.setTop (mkF m pc Ls (.int y :: .int x :: st))) := by
  by_cases q : y < x
  · exact own_st (fun _ => XS.icmpNo X.here hx rfl (hb hby hd) rfl (tlt q).2.2.2) (hN q)
  · exact own_st (fun _ => XS.icmpYes X.here hx rfl rfl (hb hby hd) rfl (flt q).2.2.2 ho hp) (hY q)
theorem own_if_le (X : Stand p l e R s m args below meth c T locs cells slots) (hx : p.tables.exec = Jvm.exec) (hby : c.code = code) {x : Int32} {o : Int} {pc' : Nat} (hd : decode code pc = .ok (.ifCond .le o, 3)) (ho : 0 ≤ (pc : Int) + o) (hp : ((pc : Int) + o).toNat = pc') (hY : ¬ 0 < x → own_G p e below s Q k n (T.setTop (mkF m pc' Ls st))) (hN : 0 < x → own_G p e below s Q k n (T.setTop (mkF m (pc + 3) Ls st))) : own_G p e below s Q k n (T.setTop (mkF m pc Ls (.int x :: st))) := by
  by_cases q : 0 < x
  · exact own_st (fun _ => XS.ifNo X.here hx rfl (hb hby hd) rfl ((if0 _ _).trans (tlt q).2.2.2)) (hN q)
  · exact own_st (fun _ => XS.ifYes X.here hx rfl rfl (hb hby hd) rfl ((if0 _ _).trans (flt q).2.2.2) ho hp) (hY q)
theorem own_lcmp_le (X : Stand p l e R s m args below meth c T locs cells slots) (hx : p.tables.exec = Jvm.exec) (hby : c.code = code) {x y : Int64} {o : Int} {pc' : Nat} (hd : decode code pc = .ok (.lcmp, 1)) (hd2 : decode code (pc + 1) = .ok (.ifCond .le o, 3)) (ho : 0 ≤ ((pc + 1 : Nat) : Int) + o) (hp : (((pc + 1 : Nat) : Int) + o).toNat = pc') (hY : ¬ y < x → own_G p e below s Q k n (T.setTop (mkF m pc' Ls st))) (hN : y < x → own_G p e below s Q k n (T.setTop (mkF m (pc + 4) Ls st))) : own_G p e below s Q k n (T.setTop (mkF m pc Ls (.long y :: .long x :: st))) := by
  refine own_st (fun _ => XS.lcmp X.here hx rfl (hb hby hd) rfl) ?_
  exact own_if_le (x := lcmpW x y) X hx hby hd2 ho hp (fun q => hY (fun z => q ((lw_gt x y).mpr z))) (fun q => hN ((lw_gt x y).mp q))
theorem own_acmp_eq (X : Stand p l e R s m args below meth c T locs cells slots) (hx : p.tables.exec = Jvm.exec) (hby : c.code = code) {x y : Value} {o : Int} {pc' : Nat} (hx1 : x.isRef = true) (hy1 : y.isRef = true) (hd : decode code pc = .ok (.if_acmp .eq o, 3)) (ho : 0 ≤ (pc : Int) + o) (hp : ((pc : Int) + o).toNat = pc') (hY : x = y → own_G p e below s Q k n (T.setTop (mkF m pc' Ls st))) (hN : ¬ x = y → own_G p e below s Q k n (T.setTop (mkF m (pc + 3) Ls st))) : own_G p e below s Q k n (T.setTop (mkF m pc Ls (y :: x :: st))) := by
  by_cases q : x = y
  · exact own_st (fun _ => Jvm.Free.XT.acmpYes X.here hx rfl rfl (hb hby hd) rfl hx1 hy1 (decide_eq_true q) ho hp) (hY q)
  · exact own_st (fun _ => Jvm.Free.XT.acmpNo X.here hx rfl (hb hby hd) rfl hx1 hy1 (decide_eq_false q)) (hN q)
theorem own_acmp_ne (X : Stand p l e R s m args below meth c T locs cells slots) (hx : p.tables.exec = Jvm.exec) (hby : c.code = code) {x y : Value} {o : Int} {pc' : Nat} (hx1 : x.isRef = true) (hy1 : y.isRef = true) (hd : decode code pc = .ok (.if_acmp .ne o, 3)) (ho : 0 ≤ (pc : Int) + o) (hp : ((pc : Int) + o).toNat = pc') (hY : ¬ x = y → own_G p e below s Q k n (T.setTop (mkF m pc' Ls st))) (hN : x = y → own_G p e below s Q k n (T.setTop (mkF m (pc + 3) Ls st))) : own_G p e below s Q k n (T.setTop (mkF m pc Ls (y :: x :: st))) := by
  by_cases q : x = y
  · exact own_st (fun _ => Jvm.Free.XT.acmpNo X.here hx rfl (hb hby hd) rfl hx1 hy1 (decide_eq_false (fun z => z q))) (hN q)
  · exact own_st (fun _ => Jvm.Free.XT.acmpYes X.here hx rfl rfl (hb hby hd) rfl hx1 hy1 (decide_eq_true q) ho hp) (hY q)
theorem own_ifnullY (X : Stand p l e R s m args below meth c T locs cells slots) (hx : p.tables.exec = Jvm.exec) (hby : c.code = code) {o : Int} {pc' : Nat} (hd : decode code pc = .ok (.ifnull o, 3)) (ho : 0 ≤ (pc : Int) + o) (hp : ((pc : Int) + o).toNat = pc') (h : own_G p e below s Q k n (T.setTop (mkF m pc' Ls st))) : own_G p e below s Q k n (T.setTop (mkF m pc Ls (.null :: st))) := own_st (fun _ => XS.ifnullYes X.here hx rfl rfl (hb hby hd) rfl ho hp) h
theorem own_ifnullN (X : Stand p l e R s m args below meth c T locs cells slots) (hx : p.tables.exec = Jvm.exec) (hby : c.code = code) {o : Int} {b : Addr} (hd : decode code pc = .ok (.ifnull o, 3)) (h : own_G p e below s Q k n (T.setTop (mkF m (pc + 3) Ls st))) : own_G p e below s Q k n (T.setTop (mkF m pc Ls (.ref b :: st))) := own_st (fun _ => XS.ifnullNo X.here hx rfl (hb hby hd) rfl) h
theorem own_ifnonnullY (X : Stand p l e R s m args below meth c T locs cells slots) (hx : p.tables.exec = Jvm.exec) (hby : c.code = code) {o : Int} {b : Addr} {pc' : Nat} (hd : decode code pc = .ok (.ifnonnull o, 3)) (ho : 0 ≤ (pc : Int) + o) (hp : ((pc : Int) + o).toNat = pc') (h : own_G p e below s Q k n (T.setTop (mkF m pc' Ls st))) : own_G p e below s Q k n (T.setTop (mkF m pc Ls (.ref b :: st))) := own_st (fun _ => XS.ifnonnullYes X.here hx rfl rfl (hb hby hd) rfl ho hp) h
theorem own_ifnonnullN (X : Stand p l e R s m args below meth c T locs cells slots) (hx : p.tables.exec = Jvm.exec) (hby : c.code = code) {o : Int} (hd : decode code pc = .ok (.ifnonnull o, 3)) (h : own_G p e below s Q k n (T.setTop (mkF m (pc + 3) Ls st))) : own_G p e below s Q k n (T.setTop (mkF m pc Ls (.null :: st))) := own_st (fun _ => XS.ifnonnullNo X.here hx rfl (hb hby hd) rfl) h
theorem own_tswIn (X : Stand p l e R s m args below meth c T locs cells slots) (hx : p.tables.exec = Jvm.exec) (hby : c.code = code) {dflt low high : Int} {offs : Array Int} {len : Nat} {o : Int} {pc' : Nat} {i : Int32} (hd : decode code pc = .ok (.tableswitch dflt low high offs, len)) (hin : ¬ (i.toInt < low ∨ i.toInt > high)) (hoff : offs[(i.toInt - low).toNat]? = some o) (ho : 0 ≤ (pc : Int) + o) (hp : ((pc : Int) + o).toNat = pc') (h : own_G p e below s Q k n (T.setTop (mkF m pc' Ls st))) : own_G p e below s Q k n (T.setTop (mkF m pc Ls (.int i :: st))) := own_st (fun _ => XS.tswIn (g := mkF m pc Ls (.int i :: st)) (pc0 := pc) X.here hx rfl rfl (hb hby hd) rfl hin hoff ho hp) h
theorem own_ldcI (X : Stand p l e R s m args below meth c T locs cells slots) (hx : p.tables.exec = Jvm.exec) (hby : c.code = code) (hZ : Z.Warmed39 s.vm) {own : String} {i : Nat} {v : Int32} (hown : s.vm.findClass own = some m.cls) (w : (Cond.constant own i v).before a0 Z = true) (hd : decode code pc = .ok (.ldc i, 2)) (h : own_G p e below s Q k n (T.setTop (mkF m (pc + 2) Ls (.int v :: st)))) : own_G p e below s Q k n (T.setTop (mkF m pc Ls st)) := own_st (X.ldcInt hx hown (mvT hZ w) rfl (hb hby hd)) h
theorem own_ldcJ (X : Stand p l e R s m args below meth c T locs cells slots) (hx : p.tables.exec = Jvm.exec) (hby : c.code = code) (hZ : Z.Warmed39 s.vm) {own : String} {i : Nat} {v : Int64} (hown : s.vm.findClass own = some m.cls) (w : (Cond.constantLong own i v).before a0 Z = true) (hd : decode code pc = .ok (.ldc2_w i, 3)) (h : own_G p e below s Q k n (T.setTop (mkF m (pc + 3) Ls (.long v :: st)))) : own_G p e below s Q k n (T.setTop (mkF m pc Ls st)) := own_st (X.ldc2Long hx hown (mvT hZ w) rfl (hb hby hd)) h
theorem own_instNull (X : Stand p l e R s m args below meth c T locs cells slots) (hx : p.tables.exec = Jvm.exec) (hby : c.code = code) {i : Nat} (hd : decode code pc = .ok (.instanceof i, 3)) (h : own_G p e below s Q k n (T.setTop (mkF m (pc + 3) Ls (.int 0 :: st)))) : own_G p e below s Q k n (T.setTop (mkF m pc Ls (.null :: st))) := own_st (X.instanceofNull hx rfl rfl (hb hby hd)) h
theorem own_castNull (X : Stand p l e R s m args below meth c T locs cells slots) (hx : p.tables.exec = Jvm.exec) (hby : c.code = code) {i : Nat} (hd : decode code pc = .ok (.checkcast i, 3)) (h : own_G p e below s Q k n (T.setTop (mkF m (pc + 3) Ls (.null :: st)))) : own_G p e below s Q k n (T.setTop (mkF m pc Ls (.null :: st))) := own_st (X.checkcastNull hx rfl rfl (hb hby hd)) h
def own_Ar (Z : State) (h : Heap) (a : Addr) (ty : FieldType) (n : Nat) (f : Nat → Value) : Prop := ∃ c : Cell, Arr Z h a c ty ∧ c.slots.size = n ∧ n < 2 ^ 31 ∧ ∀ j, j < n → c.slots[j]? = some (f j)
def own_set (f : Nat → Value) (j : Nat) (v : Value) : Nat → Value := fun i => if i = j then v else f i
theorem own_set_same (f : Nat → Value) (j : Nat) (v : Value) : own_set f j v j = v := if_pos rfl
theorem own_set_ne (f : Nat → Value) {i j : Nat} (v : Value) (q : i ≠ j) : own_set f j v i = f i := if_neg q
theorem own_Ar.lt {a : Addr} {ty : FieldType} {N : Nat} {f : Nat → Value} (F : own_Ar Z h a ty N f) : a < h.size := by obtain ⟨c, A, -⟩ := F; exact A.lt
theorem own_Ar.small {a : Addr} {ty : FieldType} {N : Nat} {f : Nat → Value} (F : own_Ar Z h a ty N f) : N < 2 ^ 31 := by obtain ⟨c, -, -, q, -⟩ := F; exact q
theorem own_Ar.ext {h' : Heap} {a : Addr} {ty : FieldType} {N : Nat} {f : Nat → Value} (F : own_Ar Z h a ty N f) (E : Ext h h') : own_Ar Z h' a ty N f := by obtain ⟨c, A, r⟩ := F; exact ⟨c, A.ext E, r⟩
theorem own_Ar.other {h' : Heap} {a b : Addr} {sl : Nat} {v : Value} {ty : FieldType} {N : Nat} {f : Nat → Value} (F : own_Ar Z h b ty N f) (W : Wr h h' a sl v) (q : b ≠ a) : own_Ar Z h' b ty N f := by obtain ⟨c, A, r⟩ := F; exact ⟨c, A.other W q, r⟩
theorem own_Ar.keep {h' : Heap} {a : Addr} {ws : List Addr} {ty : FieldType} {N : Nat} {f : Nat → Value} (F : own_Ar Z h a ty N f) (K : Keep h h' ws) (q : a ∉ ws) : own_Ar Z h' a ty N f := by obtain ⟨c, A, r⟩ := F; exact ⟨c, ⟨K.2.1 a c A.1 q, A.2⟩, r⟩
theorem own_Ar.fn {a : Addr} {ty : FieldType} {N : Nat} {f g : Nat → Value} (F : own_Ar Z h a ty N f) (q : ∀ j, j < N → f j = g j) : own_Ar Z h a ty N g := by obtain ⟨c, A, r1, r2, r3⟩ := F; exact ⟨c, A, r1, r2, fun j hj => by rw [r3 j hj, q j hj]⟩
theorem own_Ar.store {h' : Heap} {a : Addr} {c : Cell} {ty : FieldType} {N j : Nat} {f : Nat → Value} {v : Value} (A : Arr Z h a c ty) (r1 : c.slots.size = N) (r2 : N < 2 ^ 31) (r3 : ∀ j, j < N → c.slots[j]? = some (f j)) (W : Wr h h' a j v) : own_Ar Z h' a ty N (own_set f j v) := by
  refine ⟨_, A.same W, by rw [sz_set]; exact r1, r2, fun i hi => ?_⟩
  by_cases e : i = j
  · subst e; rw [own_set_same]; simp [Cell.setSlot, r1, hi]
  · rw [own_set_ne _ _ e, ← r3 i hi]; exact Array.getElem?_setIfInBounds_ne (fun q => e q.symm)
theorem own_Ar.new {a : Addr} {ty : FieldType} {kc : ClassId} {z : Int32} (A : Arr Z h a (newA kc ty z) ty) (q : ¬ z < 0) : own_Ar Z h a ty z.toNatClampNeg (fun _ => defaultValue ty) :=
  ⟨_, A, sz_new _ _ _, (back32 q).2, fun j hj => by simp [newA, hj]⟩
theorem own_inb {N : Nat} {j : Int32} {i : Nat} (hj : j.toInt = i) (hi : i < N) : ¬ (j < 0 ∨ N ≤ j.toNatClampNeg) ∧ j.toNatClampNeg = i := by
  have q : j.toNatClampNeg = i := by simp only [Int32.toNatClampNeg, hj]; omega
  refine ⟨?_, q⟩
  rw [q]; simp only [Int32.lt_iff_toInt_lt, hj, Int32.reduceToInt]; omega
def own_Ov (Z : State) (h : Heap) (a : Addr) (C : String) : Prop := ∃ cell : Cell, h[a]? = some cell ∧ Ovr Z cell.cls C
theorem own_Ov.ext {h' : Heap} {a : Addr} {C : String} (F : own_Ov Z h a C) (E : Ext h h') : own_Ov Z h' a C := by obtain ⟨c, h1, h2⟩ := F; exact ⟨c, E.2 _ _ h1, h2⟩
theorem own_Ov.wr {h' : Heap} {a b : Addr} {sl : Nat} {v : Value} {C : String} (F : own_Ov Z h a C) (W : Wr h h' b sl v) : own_Ov Z h' a C := by obtain ⟨c, h1, h2⟩ := F; obtain ⟨c', e1, e2, -⟩ := wr_at W h1; exact ⟨c', e1, by rw [e2]; exact h2⟩
theorem own_Ov.keep {h' : Heap} {a : Addr} {ws : List Addr} {C : String} (F : own_Ov Z h a C) (K : Keep h h' ws) : own_Ov Z h' a C := by obtain ⟨c, h1, h2⟩ := F; obtain ⟨c', e1, e2, -⟩ := K.2.2 _ _ h1; exact ⟨c', e1, by rw [e2]; exact h2⟩
theorem own_sto {a y : Addr} {ty : FieldType} {N : Nat} {f : Nat → Value} {C : String} (F : own_Ar Z h a ty N f) (V : own_Ov Z h a C) (I : Ins Z h y C true) : Sto Z h a (.ref y) := by
  obtain ⟨c, A, -⟩ := F; obtain ⟨c', h1, h2⟩ := V; cases A.1.symm.trans h1; exact Sto.of A h2 I
theorem own_alen (X : Stand p l e R s m args below meth c T locs cells slots) (hx : p.tables.exec = Jvm.exec) (hby : c.code = code) (hZ : Z.Warmed39 s.vm) (eT : T.heap = h) {a : Addr} {ty : FieldType} {N : Nat} {f : Nat → Value} (F : own_Ar Z h a ty N f) (hd : decode code pc = .ok (.arraylength, 1)) (h2 : own_G p e below s Q k n (T.setTop (mkF m (pc + 1) Ls (.int N.toInt32 :: st)))) : own_G p e below s Q k n (T.setTop (mkF m pc Ls (.ref a :: st))) := by
  obtain ⟨cl, A, r1, r2, r3⟩ := F
  refine own_st (fun _ => X.arraylength hx (by rw [eT]; exact A.1) (State.isArrayOf_alike hZ.alike A.2.1) (g := mkF m pc Ls (.ref a :: st)) rfl rfl (hb hby hd) _) ?_
  rw [r1]; exact h2
theorem own_iaload (X : Stand p l e R s m args below meth c T locs cells slots) (hx : p.tables.exec = Jvm.exec) (hby : c.code = code) (hZ : Z.Warmed39 s.vm) (eT : T.heap = h) {a : Addr} {N : Nat} {f : Nat → Value} (F : own_Ar Z h a .int N f) {j : Int32} {i : Nat} (hj : j.toInt = i) (hi : i < N) (hd : decode code pc = .ok (.iaload, 1)) (h2 : own_G p e below s Q k n (T.setTop (mkF m (pc + 1) Ls (f i :: st)))) : own_G p e below s Q k n (T.setTop (mkF m pc Ls (.int j :: .ref a :: st))) := by
  obtain ⟨cl, A, r1, r2, r3⟩ := F
  obtain ⟨q1, q2⟩ := own_inb hj hi
  exact own_st (fun _ => X.iaload hx (v := f i) (by rw [eT]; exact A.1) (State.isArrayOf_alike hZ.alike A.2.1) A.2.2 (j := j) (by rw [r1]; exact q1) (by rw [q2]; exact r3 i hi) (g := mkF m pc Ls (.int j :: .ref a :: st)) rfl rfl (hb hby hd) _) h2
theorem own_laload (X : Stand p l e R s m args below meth c T locs cells slots) (hx : p.tables.exec = Jvm.exec) (hby : c.code = code) (hZ : Z.Warmed39 s.vm) (eT : T.heap = h) {a : Addr} {N : Nat} {f : Nat → Value} (F : own_Ar Z h a .long N f) {j : Int32} {i : Nat} (hj : j.toInt = i) (hi : i < N) (hd : decode code pc = .ok (.laload, 1)) (h2 : own_G p e below s Q k n (T.setTop (mkF m (pc + 1) Ls (f i :: st)))) : own_G p e below s Q k n (T.setTop (mkF m pc Ls (.int j :: .ref a :: st))) := by
  obtain ⟨cl, A, r1, r2, r3⟩ := F
  obtain ⟨q1, q2⟩ := own_inb hj hi
  exact own_st (fun _ => X.laload hx (v := f i) (by rw [eT]; exact A.1) (State.isArrayOf_alike hZ.alike A.2.1) A.2.2 (j := j) (by rw [r1]; exact q1) (by rw [q2]; exact r3 i hi) (g := mkF m pc Ls (.int j :: .ref a :: st)) rfl rfl (hb hby hd) _) h2
theorem own_baload (X : Stand p l e R s m args below meth c T locs cells slots) (hx : p.tables.exec = Jvm.exec) (hby : c.code = code) (hZ : Z.Warmed39 s.vm) (eT : T.heap = h) {a : Addr} {N : Nat} {f : Nat → Value} (F : own_Ar Z h a .byte N f) {j : Int32} {i : Nat} (hj : j.toInt = i) (hi : i < N) (hd : decode code pc = .ok (.baload, 1)) (h2 : own_G p e below s Q k n (T.setTop (mkF m (pc + 1) Ls (f i :: st)))) : own_G p e below s Q k n (T.setTop (mkF m pc Ls (.int j :: .ref a :: st))) := by
  obtain ⟨cl, A, r1, r2, r3⟩ := F
  obtain ⟨q1, q2⟩ := own_inb hj hi
  exact own_st (fun _ => X.baloadBytes hx (v := f i) (by rw [eT]; exact A.1) (State.isArrayOf_alike hZ.alike A.2.1) A.2.2 (j := j) (by rw [r1]; exact q1) (by rw [q2]; exact r3 i hi) (g := mkF m pc Ls (.int j :: .ref a :: st)) rfl rfl (hb hby hd) _) h2
theorem own_caload (X : Stand p l e R s m args below meth c T locs cells slots) (hx : p.tables.exec = Jvm.exec) (hby : c.code = code) (hZ : Z.Warmed39 s.vm) (eT : T.heap = h) {a : Addr} {N : Nat} {f : Nat → Value} (F : own_Ar Z h a .char N f) {j : Int32} {i : Nat} (hj : j.toInt = i) (hi : i < N) (hd : decode code pc = .ok (.caload, 1)) (h2 : own_G p e below s Q k n (T.setTop (mkF m (pc + 1) Ls (f i :: st)))) : own_G p e below s Q k n (T.setTop (mkF m pc Ls (.int j :: .ref a :: st))) := by
  obtain ⟨cl, A, r1, r2, r3⟩ := F
  obtain ⟨q1, q2⟩ := own_inb hj hi
  exact own_st (fun _ => X.caload hx (v := f i) (by rw [eT]; exact A.1) (State.isArrayOf_alike hZ.alike A.2.1) A.2.2 (j := j) (by rw [r1]; exact q1) (by rw [q2]; exact r3 i hi) (g := mkF m pc Ls (.int j :: .ref a :: st)) rfl rfl (hb hby hd) _) h2
theorem own_aaload (X : Stand p l e R s m args below meth c T locs cells slots) (hx : p.tables.exec = Jvm.exec) (hby : c.code = code) (hZ : Z.Warmed39 s.vm) (eT : T.heap = h) {a : Addr} {ty : FieldType} {N : Nat} {f : Nat → Value} (F : own_Ar Z h a ty N f) (hty : ty.isReference = true) {j : Int32} {i : Nat} (hj : j.toInt = i) (hi : i < N) (hd : decode code pc = .ok (.aaload, 1)) (h2 : own_G p e below s Q k n (T.setTop (mkF m (pc + 1) Ls (f i :: st)))) : own_G p e below s Q k n (T.setTop (mkF m pc Ls (.int j :: .ref a :: st))) := by
  obtain ⟨cl, A, r1, r2, r3⟩ := F
  obtain ⟨q1, q2⟩ := own_inb hj hi
  exact own_st (fun _ => X.aaload hx (v := f i) (by rw [eT]; exact A.1) (State.isArrayOf_alike hZ.alike A.2.1) hty A.2.2 (j := j) (by rw [r1]; exact q1) (by rw [q2]; exact r3 i hi) (g := mkF m pc Ls (.int j :: .ref a :: st)) rfl rfl (hb hby hd) _) h2
theorem own_iastore (X : Stand p l e R s m args below meth c T locs cells slots) (hx : p.tables.exec = Jvm.exec) (hby : c.code = code) (hZ : Z.Warmed39 s.vm) (eT : T.heap = h) {a : Addr} {N : Nat} {f : Nat → Value} (F : own_Ar Z h a .int N f) {j : Int32} {i : Nat} (hj : j.toInt = i) (hi : i < N) {x : Int32} (hd : decode code pc = .ok (.iastore, 1)) : ∃ T' h', Stand p l e R s m args below meth c T' (locs ++ [⟨a, i⟩]) cells slots ∧ T'.heap = h' ∧ Wr h h' a i (.int x) ∧ own_Ar Z h' a .int N (own_set f i (.int x)) ∧ ∀ target, Steps p.tables e below (T'.setTop (mkF m (pc + 1) Ls st)) target → Steps p.tables e below (T.setTop (mkF m pc Ls (.int x :: .int j :: .ref a :: st))) target := by
  obtain ⟨cl, A, r1, r2, r3⟩ := F
  obtain ⟨q1, q2⟩ := own_inb hj hi
  obtain ⟨T', h', X', e', W, stp⟩ := stI X hx hZ eT A (j := j) (by rw [r1]; exact q1) (g := mkF m pc Ls (.int x :: .int j :: .ref a :: st)) rfl rfl (hb hby hd)
  rw [q2] at X' W
  exact ⟨T', h', X', e', W, own_Ar.store A r1 r2 r3 W, stp⟩
theorem own_lastore (X : Stand p l e R s m args below meth c T locs cells slots) (hx : p.tables.exec = Jvm.exec) (hby : c.code = code) (hZ : Z.Warmed39 s.vm) (eT : T.heap = h) {a : Addr} {N : Nat} {f : Nat → Value} (F : own_Ar Z h a .long N f) {j : Int32} {i : Nat} (hj : j.toInt = i) (hi : i < N) {x : Int64} (hd : decode code pc = .ok (.lastore, 1)) : ∃ T' h', Stand p l e R s m args below meth c T' (locs ++ [⟨a, i⟩]) cells slots ∧ T'.heap = h' ∧ Wr h h' a i (.long x) ∧ own_Ar Z h' a .long N (own_set f i (.long x)) ∧ ∀ target, Steps p.tables e below (T'.setTop (mkF m (pc + 1) Ls st)) target → Steps p.tables e below (T.setTop (mkF m pc Ls (.long x :: .int j :: .ref a :: st))) target := by
  obtain ⟨cl, A, r1, r2, r3⟩ := F
  obtain ⟨q1, q2⟩ := own_inb hj hi
  obtain ⟨T', h', X', e', W, stp⟩ := stJ X hx hZ eT A (j := j) (by rw [r1]; exact q1) (g := mkF m pc Ls (.long x :: .int j :: .ref a :: st)) rfl rfl (hb hby hd)
  rw [q2] at X' W
  exact ⟨T', h', X', e', W, own_Ar.store A r1 r2 r3 W, stp⟩
theorem own_bastore (X : Stand p l e R s m args below meth c T locs cells slots) (hx : p.tables.exec = Jvm.exec) (hby : c.code = code) (hZ : Z.Warmed39 s.vm) (eT : T.heap = h) {a : Addr} {N : Nat} {f : Nat → Value} (F : own_Ar Z h a .byte N f) {j : Int32} {i : Nat} (hj : j.toInt = i) (hi : i < N) {x : Int32} (hd : decode code pc = .ok (.bastore, 1)) : ∃ T' h', Stand p l e R s m args below meth c T' (locs ++ [⟨a, i⟩]) cells slots ∧ T'.heap = h' ∧ Wr h h' a i (.int (nar .byte x)) ∧ own_Ar Z h' a .byte N (own_set f i (.int (nar .byte x))) ∧ ∀ target, Steps p.tables e below (T'.setTop (mkF m (pc + 1) Ls st)) target → Steps p.tables e below (T.setTop (mkF m pc Ls (.int x :: .int j :: .ref a :: st))) target := by
  obtain ⟨cl, A, r1, r2, r3⟩ := F
  obtain ⟨q1, q2⟩ := own_inb hj hi
  obtain ⟨T', h', X', e', W, stp⟩ := stB X hx hZ eT A (j := j) (by rw [r1]; exact q1) (g := mkF m pc Ls (.int x :: .int j :: .ref a :: st)) rfl rfl (hb hby hd)
  rw [q2] at X' W
  exact ⟨T', h', X', e', W, own_Ar.store A r1 r2 r3 W, stp⟩
theorem own_castore (X : Stand p l e R s m args below meth c T locs cells slots) (hx : p.tables.exec = Jvm.exec) (hby : c.code = code) (hZ : Z.Warmed39 s.vm) (eT : T.heap = h) {a : Addr} {N : Nat} {f : Nat → Value} (F : own_Ar Z h a .char N f) {j : Int32} {i : Nat} (hj : j.toInt = i) (hi : i < N) {x : Int32} (hd : decode code pc = .ok (.castore, 1)) : ∃ T' h', Stand p l e R s m args below meth c T' (locs ++ [⟨a, i⟩]) cells slots ∧ T'.heap = h' ∧ Wr h h' a i (.int (nar .char x)) ∧ own_Ar Z h' a .char N (own_set f i (.int (nar .char x))) ∧ ∀ target, Steps p.tables e below (T'.setTop (mkF m (pc + 1) Ls st)) target → Steps p.tables e below (T.setTop (mkF m pc Ls (.int x :: .int j :: .ref a :: st))) target := by
  obtain ⟨cl, A, r1, r2, r3⟩ := F
  obtain ⟨q1, q2⟩ := own_inb hj hi
  obtain ⟨T', h', X', e', W, stp⟩ := stC X hx hZ eT A (j := j) (by rw [r1]; exact q1) (g := mkF m pc Ls (.int x :: .int j :: .ref a :: st)) rfl rfl (hb hby hd)
  rw [q2] at X' W
  exact ⟨T', h', X', e', W, own_Ar.store A r1 r2 r3 W, stp⟩
theorem own_dastore (X : Stand p l e R s m args below meth c T locs cells slots) (hx : p.tables.exec = Jvm.exec) (hby : c.code = code) (hZ : Z.Warmed39 s.vm) (eT : T.heap = h) {a : Addr} {N : Nat} {f : Nat → Value} (F : own_Ar Z h a .double N f) {j : Int32} {i : Nat} (hj : j.toInt = i) (hi : i < N) {x : UInt64} (hd : decode code pc = .ok (.dastore, 1)) : ∃ T' h', Stand p l e R s m args below meth c T' (locs ++ [⟨a, i⟩]) cells slots ∧ T'.heap = h' ∧ Wr h h' a i (.double x) ∧ own_Ar Z h' a .double N (own_set f i (.double x)) ∧ ∀ target, Steps p.tables e below (T'.setTop (mkF m (pc + 1) Ls st)) target → Steps p.tables e below (T.setTop (mkF m pc Ls (.double x :: .int j :: .ref a :: st))) target := by
  obtain ⟨cl, A, r1, r2, r3⟩ := F
  obtain ⟨q1, q2⟩ := own_inb hj hi
  obtain ⟨T', h', X', e', W, stp⟩ := stD X hx hZ eT A (j := j) (by rw [r1]; exact q1) (g := mkF m pc Ls (.double x :: .int j :: .ref a :: st)) rfl rfl (hb hby hd)
  rw [q2] at X' W
  exact ⟨T', h', X', e', W, own_Ar.store A r1 r2 r3 W, stp⟩
theorem own_aastore (X : Stand p l e R s m args below meth c T locs cells slots) (hx : p.tables.exec = Jvm.exec) (hby : c.code = code) (hZ : Z.Warmed39 s.vm) (eT : T.heap = h) {a : Addr} {ty : FieldType} {N : Nat} {f : Nat → Value} (F : own_Ar Z h a ty N f) (hty : ty.isReference = true) {j : Int32} {i : Nat} (hj : j.toInt = i) (hi : i < N) {v : Value} (S : Sto Z h a v) (hd : decode code pc = .ok (.aastore, 1)) : ∃ T' h', Stand p l e R s m args below meth c T' (locs ++ [⟨a, i⟩]) cells slots ∧ T'.heap = h' ∧ Wr h h' a i v ∧ own_Ar Z h' a ty N (own_set f i v) ∧ ∀ target, Steps p.tables e below (T'.setTop (mkF m (pc + 1) Ls st)) target → Steps p.tables e below (T.setTop (mkF m pc Ls (v :: .int j :: .ref a :: st))) target := by
  obtain ⟨cl, A, r1, r2, r3⟩ := F
  obtain ⟨q1, q2⟩ := own_inb hj hi
  obtain ⟨T', h', X', e', W, stp⟩ := stR X hx hZ eT A (j := j) (by rw [r1]; exact q1) hty S (g := mkF m pc Ls (v :: .int j :: .ref a :: st)) rfl rfl (hb hby hd)
  rw [q2] at X' W
  exact ⟨T', h', X', e', W, own_Ar.store A r1 r2 r3 W, stp⟩
end OwnSteps
theorem own_narR {C : String} {v : Value} (h : v.isRef = true) : narrow (.object C) v = v := by rcases ref_cases h with rfl | ⟨z, rfl⟩ <;> rfl
theorem own_fitR {C : String} {v : Value} (h : v.isRef = true) : fits (.object C) v = true := by rcases ref_cases h with rfl | ⟨z, rfl⟩ <;> rfl
theorem own_irr {x : Int32} : ¬ x < x := by rw [Int32.lt_iff_toInt_lt]; omega
theorem own_irrL {x : Int64} : ¬ x < x := by rw [Int64.lt_iff_toInt_lt]; omega
theorem own_w0 {Z : State} {a0 : Array Value} (hw : ∀ d ∈ tables_1, d.before a0 Z = true) : (Jvm.Cond.constant "com/example/inchworm/inchworm/query/AxisIncludesSelfPinLaw" (46 : Nat) (2147483647 : Int32)).before a0 Z = true := hw _ (List.mem_of_getElem? (i := 0) rfl)
theorem own_w1 {Z : State} {a0 : Array Value} (hw : ∀ d ∈ tables_1, d.before a0 Z = true) : (Jvm.Cond.methodLink "com/example/inchworm/inchworm/query/AxisIncludesSelfPinLaw" (47 : Nat) ({ cls := "com/example/inchworm/inchworm/query/AxisIncludesSelfPinLaw", name := "axisAt", desc := "(I)Lcom/example/inchworm/inchworm/query/Axis;" } : Jvm.MethodName)).before a0 Z = true := hw _ (List.mem_of_getElem? (i := 1) rfl)
theorem own_w2 {Z : State} {a0 : Array Value} (hw : ∀ d ∈ tables_1, d.before a0 Z = true) : (Jvm.Cond.static ({ cls := "com/example/inchworm/inchworm/query/AxisIncludesSelfPinLaw", name := "axisAt", desc := "(I)Lcom/example/inchworm/inchworm/query/Axis;" } : Jvm.MethodName)).before a0 Z = true := hw _ (List.mem_of_getElem? (i := 2) rfl)
theorem own_w3 {Z : State} {a0 : Array Value} (hw : ∀ d ∈ tables_1, d.before a0 Z = true) : (Jvm.Cond.initialized "com/example/inchworm/inchworm/query/AxisIncludesSelfPinLaw").before a0 Z = true := hw _ (List.mem_of_getElem? (i := 3) rfl)
theorem own_w4 {Z : State} {a0 : Array Value} (hw : ∀ d ∈ tables_1, d.before a0 Z = true) : (Jvm.Cond.code ({ cls := "com/example/inchworm/inchworm/query/AxisIncludesSelfPinLaw", name := "axisAt", desc := "(I)Lcom/example/inchworm/inchworm/query/Axis;" } : Jvm.MethodName) method_2_code (1 : Nat) (Option.some (Jvm.ClassFile.FieldType.object "com/example/inchworm/inchworm/query/Axis"))).before a0 Z = true := hw _ (List.mem_of_getElem? (i := 4) rfl)
theorem own_w5 {Z : State} {a0 : Array Value} (hw : ∀ d ∈ tables_1, d.before a0 Z = true) : (Jvm.Cond.fieldLink "com/example/inchworm/inchworm/query/AxisIncludesSelfPinLaw" (7 : Nat) "com/example/inchworm/inchworm/query/Axis" "CHILD" "Lcom/example/inchworm/inchworm/query/Axis;").before a0 Z = true := hw _ (List.mem_of_getElem? (i := 5) rfl)
theorem own_w6 {Z : State} {a0 : Array Value} (hw : ∀ d ∈ tables_1, d.before a0 Z = true) : (Jvm.Cond.initialized "com/example/inchworm/inchworm/query/Axis").before a0 Z = true := hw _ (List.mem_of_getElem? (i := 6) rfl)
theorem own_w7 {Z : State} {a0 : Array Value} (hw : ∀ d ∈ tables_1, d.before a0 Z = true) : (Jvm.Cond.laysStatic "com/example/inchworm/inchworm/query/Axis" "CHILD" "Lcom/example/inchworm/inchworm/query/Axis;").before a0 Z = true := hw _ (List.mem_of_getElem? (i := 7) rfl)
theorem own_w8 {Z : State} {a0 : Array Value} (hw : ∀ d ∈ tables_1, d.before a0 Z = true) : (Jvm.Cond.methodLink "com/example/inchworm/inchworm/query/AxisIncludesSelfPinLaw" (53 : Nat) ({ cls := "com/example/inchworm/inchworm/query/Axis", name := "includesSelf", desc := "()Z" } : Jvm.MethodName)).before a0 Z = true := hw _ (List.mem_of_getElem? (i := 8) rfl)
theorem own_w9 {Z : State} {a0 : Array Value} (hw : ∀ d ∈ tables_1, d.before a0 Z = true) : (Jvm.Cond.declares ({ cls := "com/example/inchworm/inchworm/query/Axis", name := "includesSelf", desc := "()Z" } : Jvm.MethodName)).before a0 Z = true := hw _ (List.mem_of_getElem? (i := 9) rfl)
theorem own_w10 {Z : State} {a0 : Array Value} (hw : ∀ d ∈ tables_1, d.before a0 Z = true) : (Jvm.Cond.instanceMethod ({ cls := "com/example/inchworm/inchworm/query/Axis", name := "includesSelf", desc := "()Z" } : Jvm.MethodName)).before a0 Z = true := hw _ (List.mem_of_getElem? (i := 10) rfl)
theorem own_w11 {Z : State} {a0 : Array Value} (hw : ∀ d ∈ tables_1, d.before a0 Z = true) : (Jvm.Cond.selects "com/example/inchworm/inchworm/query/Axis" ({ cls := "com/example/inchworm/inchworm/query/Axis", name := "includesSelf", desc := "()Z" } : Jvm.MethodName) ({ cls := "com/example/inchworm/inchworm/query/Axis", name := "includesSelf", desc := "()Z" } : Jvm.MethodName)).before a0 Z = true := hw _ (List.mem_of_getElem? (i := 11) rfl)
theorem own_w12 {Z : State} {a0 : Array Value} (hw : ∀ d ∈ tables_1, d.before a0 Z = true) : (Jvm.Cond.code ({ cls := "com/example/inchworm/inchworm/query/Axis", name := "includesSelf", desc := "()Z" } : Jvm.MethodName) prog_48_method_5_code (1 : Nat) (Option.some Jvm.ClassFile.FieldType.boolean)).before a0 Z = true := hw _ (List.mem_of_getElem? (i := 12) rfl)
theorem own_w13 {Z : State} {a0 : Array Value} (hw : ∀ d ∈ tables_1, d.before a0 Z = true) : (Jvm.Cond.fieldLink "com/example/inchworm/inchworm/query/Axis" (13 : Nat) "com/example/inchworm/inchworm/query/Axis" "SELF" "Lcom/example/inchworm/inchworm/query/Axis;").before a0 Z = true := hw _ (List.mem_of_getElem? (i := 13) rfl)
theorem own_w14 {Z : State} {a0 : Array Value} (hw : ∀ d ∈ tables_1, d.before a0 Z = true) : (Jvm.Cond.laysStatic "com/example/inchworm/inchworm/query/Axis" "SELF" "Lcom/example/inchworm/inchworm/query/Axis;").before a0 Z = true := hw _ (List.mem_of_getElem? (i := 14) rfl)
theorem own_w15 {Z : State} {a0 : Array Value} (hw : ∀ d ∈ tables_1, d.before a0 Z = true) : (Jvm.Cond.fieldLink "com/example/inchworm/inchworm/query/Axis" (10 : Nat) "com/example/inchworm/inchworm/query/Axis" "DESCENDANT_OR_SELF" "Lcom/example/inchworm/inchworm/query/Axis;").before a0 Z = true := hw _ (List.mem_of_getElem? (i := 15) rfl)
theorem own_w16 {Z : State} {a0 : Array Value} (hw : ∀ d ∈ tables_1, d.before a0 Z = true) : (Jvm.Cond.laysStatic "com/example/inchworm/inchworm/query/Axis" "DESCENDANT_OR_SELF" "Lcom/example/inchworm/inchworm/query/Axis;").before a0 Z = true := hw _ (List.mem_of_getElem? (i := 16) rfl)
theorem own_w17 {Z : State} {a0 : Array Value} (hw : ∀ d ∈ tables_1, d.before a0 Z = true) : (Jvm.Cond.fieldLink "com/example/inchworm/inchworm/query/Axis" (25 : Nat) "com/example/inchworm/inchworm/query/Axis" "ANCESTOR_OR_SELF" "Lcom/example/inchworm/inchworm/query/Axis;").before a0 Z = true := hw _ (List.mem_of_getElem? (i := 17) rfl)
theorem own_w18 {Z : State} {a0 : Array Value} (hw : ∀ d ∈ tables_1, d.before a0 Z = true) : (Jvm.Cond.laysStatic "com/example/inchworm/inchworm/query/Axis" "ANCESTOR_OR_SELF" "Lcom/example/inchworm/inchworm/query/Axis;").before a0 Z = true := hw _ (List.mem_of_getElem? (i := 18) rfl)
theorem own_w19 {Z : State} {a0 : Array Value} (hw : ∀ d ∈ tables_1, d.before a0 Z = true) : (Jvm.Cond.methodLink "com/example/inchworm/inchworm/query/AxisIncludesSelfPinLaw" (57 : Nat) ({ cls := "com/example/inchworm/inchworm/query/AxisIncludesSelfPinLaw", name := "expected", desc := "(I)Z" } : Jvm.MethodName)).before a0 Z = true := hw _ (List.mem_of_getElem? (i := 19) rfl)
theorem own_w20 {Z : State} {a0 : Array Value} (hw : ∀ d ∈ tables_1, d.before a0 Z = true) : (Jvm.Cond.static ({ cls := "com/example/inchworm/inchworm/query/AxisIncludesSelfPinLaw", name := "expected", desc := "(I)Z" } : Jvm.MethodName)).before a0 Z = true := hw _ (List.mem_of_getElem? (i := 20) rfl)
theorem own_w21 {Z : State} {a0 : Array Value} (hw : ∀ d ∈ tables_1, d.before a0 Z = true) : (Jvm.Cond.code ({ cls := "com/example/inchworm/inchworm/query/AxisIncludesSelfPinLaw", name := "expected", desc := "(I)Z" } : Jvm.MethodName) method_3_code (1 : Nat) (Option.some Jvm.ClassFile.FieldType.boolean)).before a0 Z = true := hw _ (List.mem_of_getElem? (i := 21) rfl)
theorem own_w22 {Z : State} {a0 : Array Value} (hw : ∀ d ∈ tables_1, d.before a0 Z = true) : (Jvm.Cond.fieldLink "com/example/inchworm/inchworm/query/AxisIncludesSelfPinLaw" (19 : Nat) "com/example/inchworm/inchworm/query/Axis" "SELF" "Lcom/example/inchworm/inchworm/query/Axis;").before a0 Z = true := hw _ (List.mem_of_getElem? (i := 22) rfl)
theorem own_w23 {Z : State} {a0 : Array Value} (hw : ∀ d ∈ tables_1, d.before a0 Z = true) : (Jvm.Cond.fieldLink "com/example/inchworm/inchworm/query/AxisIncludesSelfPinLaw" (16 : Nat) "com/example/inchworm/inchworm/query/Axis" "DESCENDANT_OR_SELF" "Lcom/example/inchworm/inchworm/query/Axis;").before a0 Z = true := hw _ (List.mem_of_getElem? (i := 23) rfl)
theorem own_w24 {Z : State} {a0 : Array Value} (hw : ∀ d ∈ tables_1, d.before a0 Z = true) : (Jvm.Cond.fieldLink "com/example/inchworm/inchworm/query/AxisIncludesSelfPinLaw" (31 : Nat) "com/example/inchworm/inchworm/query/Axis" "ANCESTOR_OR_SELF" "Lcom/example/inchworm/inchworm/query/Axis;").before a0 Z = true := hw _ (List.mem_of_getElem? (i := 24) rfl)
theorem own_w25 {Z : State} {a0 : Array Value} (hw : ∀ d ∈ tables_1, d.before a0 Z = true) : (Jvm.Cond.fieldLink "com/example/inchworm/inchworm/query/AxisIncludesSelfPinLaw" (43 : Nat) "com/example/inchworm/inchworm/query/Axis" "PRECEDING" "Lcom/example/inchworm/inchworm/query/Axis;").before a0 Z = true := hw _ (List.mem_of_getElem? (i := 25) rfl)
theorem own_w26 {Z : State} {a0 : Array Value} (hw : ∀ d ∈ tables_1, d.before a0 Z = true) : (Jvm.Cond.laysStatic "com/example/inchworm/inchworm/query/Axis" "PRECEDING" "Lcom/example/inchworm/inchworm/query/Axis;").before a0 Z = true := hw _ (List.mem_of_getElem? (i := 26) rfl)
theorem own_w27 {Z : State} {a0 : Array Value} (hw : ∀ d ∈ tables_1, d.before a0 Z = true) : (Jvm.Cond.fieldLink "com/example/inchworm/inchworm/query/AxisIncludesSelfPinLaw" (22 : Nat) "com/example/inchworm/inchworm/query/Axis" "ATTRIBUTE" "Lcom/example/inchworm/inchworm/query/Axis;").before a0 Z = true := hw _ (List.mem_of_getElem? (i := 27) rfl)
theorem own_w28 {Z : State} {a0 : Array Value} (hw : ∀ d ∈ tables_1, d.before a0 Z = true) : (Jvm.Cond.laysStatic "com/example/inchworm/inchworm/query/Axis" "ATTRIBUTE" "Lcom/example/inchworm/inchworm/query/Axis;").before a0 Z = true := hw _ (List.mem_of_getElem? (i := 28) rfl)
theorem own_w29 {Z : State} {a0 : Array Value} (hw : ∀ d ∈ tables_1, d.before a0 Z = true) : (Jvm.Cond.fieldLink "com/example/inchworm/inchworm/query/AxisIncludesSelfPinLaw" (34 : Nat) "com/example/inchworm/inchworm/query/Axis" "FOLLOWING_SIBLING" "Lcom/example/inchworm/inchworm/query/Axis;").before a0 Z = true := hw _ (List.mem_of_getElem? (i := 29) rfl)
theorem own_w30 {Z : State} {a0 : Array Value} (hw : ∀ d ∈ tables_1, d.before a0 Z = true) : (Jvm.Cond.laysStatic "com/example/inchworm/inchworm/query/Axis" "FOLLOWING_SIBLING" "Lcom/example/inchworm/inchworm/query/Axis;").before a0 Z = true := hw _ (List.mem_of_getElem? (i := 30) rfl)
theorem own_w31 {Z : State} {a0 : Array Value} (hw : ∀ d ∈ tables_1, d.before a0 Z = true) : (Jvm.Cond.fieldLink "com/example/inchworm/inchworm/query/AxisIncludesSelfPinLaw" (13 : Nat) "com/example/inchworm/inchworm/query/Axis" "DESCENDANT" "Lcom/example/inchworm/inchworm/query/Axis;").before a0 Z = true := hw _ (List.mem_of_getElem? (i := 31) rfl)
theorem own_w32 {Z : State} {a0 : Array Value} (hw : ∀ d ∈ tables_1, d.before a0 Z = true) : (Jvm.Cond.laysStatic "com/example/inchworm/inchworm/query/Axis" "DESCENDANT" "Lcom/example/inchworm/inchworm/query/Axis;").before a0 Z = true := hw _ (List.mem_of_getElem? (i := 32) rfl)
theorem own_w33 {Z : State} {a0 : Array Value} (hw : ∀ d ∈ tables_1, d.before a0 Z = true) : (Jvm.Cond.fieldLink "com/example/inchworm/inchworm/query/AxisIncludesSelfPinLaw" (40 : Nat) "com/example/inchworm/inchworm/query/Axis" "FOLLOWING" "Lcom/example/inchworm/inchworm/query/Axis;").before a0 Z = true := hw _ (List.mem_of_getElem? (i := 33) rfl)
theorem own_w34 {Z : State} {a0 : Array Value} (hw : ∀ d ∈ tables_1, d.before a0 Z = true) : (Jvm.Cond.laysStatic "com/example/inchworm/inchworm/query/Axis" "FOLLOWING" "Lcom/example/inchworm/inchworm/query/Axis;").before a0 Z = true := hw _ (List.mem_of_getElem? (i := 34) rfl)
theorem own_w35 {Z : State} {a0 : Array Value} (hw : ∀ d ∈ tables_1, d.before a0 Z = true) : (Jvm.Cond.fieldLink "com/example/inchworm/inchworm/query/AxisIncludesSelfPinLaw" (37 : Nat) "com/example/inchworm/inchworm/query/Axis" "PRECEDING_SIBLING" "Lcom/example/inchworm/inchworm/query/Axis;").before a0 Z = true := hw _ (List.mem_of_getElem? (i := 35) rfl)
theorem own_w36 {Z : State} {a0 : Array Value} (hw : ∀ d ∈ tables_1, d.before a0 Z = true) : (Jvm.Cond.laysStatic "com/example/inchworm/inchworm/query/Axis" "PRECEDING_SIBLING" "Lcom/example/inchworm/inchworm/query/Axis;").before a0 Z = true := hw _ (List.mem_of_getElem? (i := 36) rfl)
theorem own_w37 {Z : State} {a0 : Array Value} (hw : ∀ d ∈ tables_1, d.before a0 Z = true) : (Jvm.Cond.fieldLink "com/example/inchworm/inchworm/query/AxisIncludesSelfPinLaw" (28 : Nat) "com/example/inchworm/inchworm/query/Axis" "ANCESTOR" "Lcom/example/inchworm/inchworm/query/Axis;").before a0 Z = true := hw _ (List.mem_of_getElem? (i := 37) rfl)
theorem own_w38 {Z : State} {a0 : Array Value} (hw : ∀ d ∈ tables_1, d.before a0 Z = true) : (Jvm.Cond.laysStatic "com/example/inchworm/inchworm/query/Axis" "ANCESTOR" "Lcom/example/inchworm/inchworm/query/Axis;").before a0 Z = true := hw _ (List.mem_of_getElem? (i := 38) rfl)
theorem own_w39 {Z : State} {a0 : Array Value} (hw : ∀ d ∈ tables_1, d.before a0 Z = true) : (Jvm.Cond.fieldLink "com/example/inchworm/inchworm/query/AxisIncludesSelfPinLaw" (25 : Nat) "com/example/inchworm/inchworm/query/Axis" "PARENT" "Lcom/example/inchworm/inchworm/query/Axis;").before a0 Z = true := hw _ (List.mem_of_getElem? (i := 39) rfl)
theorem own_w40 {Z : State} {a0 : Array Value} (hw : ∀ d ∈ tables_1, d.before a0 Z = true) : (Jvm.Cond.laysStatic "com/example/inchworm/inchworm/query/Axis" "PARENT" "Lcom/example/inchworm/inchworm/query/Axis;").before a0 Z = true := hw _ (List.mem_of_getElem? (i := 40) rfl)
theorem own_d1_0 : decode method_2_code 0 = .ok (.iload_n 0, 1) := by decide +kernel
theorem own_d1_1 : decode method_2_code 1 = .ok (.ifCond .ne 7, 3) := by decide +kernel
theorem own_d1_4 : decode method_2_code 4 = .ok (.getstatic 7, 3) := by decide +kernel
theorem own_d1_7 : decode method_2_code 7 = .ok (.areturn, 1) := by decide +kernel
theorem own_d1_8 : decode method_2_code 8 = .ok (.iload_n 0, 1) := by decide +kernel
theorem own_d1_9 : decode method_2_code 9 = .ok (.iconst 1, 1) := by decide +kernel
theorem own_d1_10 : decode method_2_code 10 = .ok (.if_icmp .ne 7, 3) := by decide +kernel
theorem own_d1_13 : decode method_2_code 13 = .ok (.getstatic 13, 3) := by decide +kernel
theorem own_d1_16 : decode method_2_code 16 = .ok (.areturn, 1) := by decide +kernel
theorem own_d1_17 : decode method_2_code 17 = .ok (.iload_n 0, 1) := by decide +kernel
theorem own_d1_18 : decode method_2_code 18 = .ok (.iconst 2, 1) := by decide +kernel
theorem own_d1_19 : decode method_2_code 19 = .ok (.if_icmp .ne 7, 3) := by decide +kernel
theorem own_d1_22 : decode method_2_code 22 = .ok (.getstatic 16, 3) := by decide +kernel
theorem own_d1_25 : decode method_2_code 25 = .ok (.areturn, 1) := by decide +kernel
theorem own_d1_26 : decode method_2_code 26 = .ok (.iload_n 0, 1) := by decide +kernel
theorem own_d1_27 : decode method_2_code 27 = .ok (.iconst 3, 1) := by decide +kernel
theorem own_d1_28 : decode method_2_code 28 = .ok (.if_icmp .ne 7, 3) := by decide +kernel
theorem own_d1_31 : decode method_2_code 31 = .ok (.getstatic 19, 3) := by decide +kernel
theorem own_d1_34 : decode method_2_code 34 = .ok (.areturn, 1) := by decide +kernel
theorem own_d1_35 : decode method_2_code 35 = .ok (.iload_n 0, 1) := by decide +kernel
theorem own_d1_36 : decode method_2_code 36 = .ok (.iconst 4, 1) := by decide +kernel
theorem own_d1_37 : decode method_2_code 37 = .ok (.if_icmp .ne 7, 3) := by decide +kernel
theorem own_d1_40 : decode method_2_code 40 = .ok (.getstatic 22, 3) := by decide +kernel
theorem own_d1_43 : decode method_2_code 43 = .ok (.areturn, 1) := by decide +kernel
theorem own_d1_44 : decode method_2_code 44 = .ok (.iload_n 0, 1) := by decide +kernel
theorem own_d1_45 : decode method_2_code 45 = .ok (.iconst 5, 1) := by decide +kernel
theorem own_d1_46 : decode method_2_code 46 = .ok (.if_icmp .ne 7, 3) := by decide +kernel
theorem own_d1_49 : decode method_2_code 49 = .ok (.getstatic 25, 3) := by decide +kernel
theorem own_d1_52 : decode method_2_code 52 = .ok (.areturn, 1) := by decide +kernel
theorem own_d1_53 : decode method_2_code 53 = .ok (.iload_n 0, 1) := by decide +kernel
theorem own_d1_54 : decode method_2_code 54 = .ok (.bipush 6, 2) := by decide +kernel
theorem own_d1_56 : decode method_2_code 56 = .ok (.if_icmp .ne 7, 3) := by decide +kernel
theorem own_d1_59 : decode method_2_code 59 = .ok (.getstatic 28, 3) := by decide +kernel
theorem own_d1_62 : decode method_2_code 62 = .ok (.areturn, 1) := by decide +kernel
theorem own_d1_63 : decode method_2_code 63 = .ok (.iload_n 0, 1) := by decide +kernel
theorem own_d1_64 : decode method_2_code 64 = .ok (.bipush 7, 2) := by decide +kernel
theorem own_d1_66 : decode method_2_code 66 = .ok (.if_icmp .ne 7, 3) := by decide +kernel
theorem own_d1_69 : decode method_2_code 69 = .ok (.getstatic 31, 3) := by decide +kernel
theorem own_d1_72 : decode method_2_code 72 = .ok (.areturn, 1) := by decide +kernel
theorem own_d1_73 : decode method_2_code 73 = .ok (.iload_n 0, 1) := by decide +kernel
theorem own_d1_74 : decode method_2_code 74 = .ok (.bipush 8, 2) := by decide +kernel
theorem own_d1_76 : decode method_2_code 76 = .ok (.if_icmp .ne 7, 3) := by decide +kernel
theorem own_d1_79 : decode method_2_code 79 = .ok (.getstatic 34, 3) := by decide +kernel
theorem own_d1_82 : decode method_2_code 82 = .ok (.areturn, 1) := by decide +kernel
theorem own_d1_83 : decode method_2_code 83 = .ok (.iload_n 0, 1) := by decide +kernel
theorem own_d1_84 : decode method_2_code 84 = .ok (.bipush 9, 2) := by decide +kernel
theorem own_d1_86 : decode method_2_code 86 = .ok (.if_icmp .ne 7, 3) := by decide +kernel
theorem own_d1_89 : decode method_2_code 89 = .ok (.getstatic 37, 3) := by decide +kernel
theorem own_d1_92 : decode method_2_code 92 = .ok (.areturn, 1) := by decide +kernel
theorem own_d1_93 : decode method_2_code 93 = .ok (.iload_n 0, 1) := by decide +kernel
theorem own_d1_94 : decode method_2_code 94 = .ok (.bipush 10, 2) := by decide +kernel
theorem own_d1_96 : decode method_2_code 96 = .ok (.if_icmp .ne 7, 3) := by decide +kernel
theorem own_d1_99 : decode method_2_code 99 = .ok (.getstatic 40, 3) := by decide +kernel
theorem own_d1_102 : decode method_2_code 102 = .ok (.areturn, 1) := by decide +kernel
theorem own_d1_103 : decode method_2_code 103 = .ok (.getstatic 43, 3) := by decide +kernel
theorem own_d1_106 : decode method_2_code 106 = .ok (.areturn, 1) := by decide +kernel
theorem own_d2_0 : decode prog_48_method_5_code 0 = .ok (.aload_n 0, 1) := by decide +kernel
theorem own_d2_1 : decode prog_48_method_5_code 1 = .ok (.getstatic 13, 3) := by decide +kernel
theorem own_d2_4 : decode prog_48_method_5_code 4 = .ok (.if_acmp .eq 17, 3) := by decide +kernel
theorem own_d2_7 : decode prog_48_method_5_code 7 = .ok (.aload_n 0, 1) := by decide +kernel
theorem own_d2_8 : decode prog_48_method_5_code 8 = .ok (.getstatic 10, 3) := by decide +kernel
theorem own_d2_11 : decode prog_48_method_5_code 11 = .ok (.if_acmp .eq 10, 3) := by decide +kernel
theorem own_d2_14 : decode prog_48_method_5_code 14 = .ok (.aload_n 0, 1) := by decide +kernel
theorem own_d2_15 : decode prog_48_method_5_code 15 = .ok (.getstatic 25, 3) := by decide +kernel
theorem own_d2_18 : decode prog_48_method_5_code 18 = .ok (.if_acmp .ne 7, 3) := by decide +kernel
theorem own_d2_21 : decode prog_48_method_5_code 21 = .ok (.iconst 1, 1) := by decide +kernel
theorem own_d2_22 : decode prog_48_method_5_code 22 = .ok (.goto 4, 3) := by decide +kernel
theorem own_d2_25 : decode prog_48_method_5_code 25 = .ok (.iconst 0, 1) := by decide +kernel
theorem own_d2_26 : decode prog_48_method_5_code 26 = .ok (.ireturn, 1) := by decide +kernel
theorem own_d3_0 : decode method_3_code 0 = .ok (.iload_n 0, 1) := by decide +kernel
theorem own_d3_1 : decode method_3_code 1 = .ok (.iconst 2, 1) := by decide +kernel
theorem own_d3_2 : decode method_3_code 2 = .ok (.if_icmp .ne 5, 3) := by decide +kernel
theorem own_d3_5 : decode method_3_code 5 = .ok (.iconst 1, 1) := by decide +kernel
theorem own_d3_6 : decode method_3_code 6 = .ok (.ireturn, 1) := by decide +kernel
theorem own_d3_7 : decode method_3_code 7 = .ok (.iload_n 0, 1) := by decide +kernel
theorem own_d3_8 : decode method_3_code 8 = .ok (.iconst 3, 1) := by decide +kernel
theorem own_d3_9 : decode method_3_code 9 = .ok (.if_icmp .ne 5, 3) := by decide +kernel
theorem own_d3_12 : decode method_3_code 12 = .ok (.iconst 1, 1) := by decide +kernel
theorem own_d3_13 : decode method_3_code 13 = .ok (.ireturn, 1) := by decide +kernel
theorem own_d3_14 : decode method_3_code 14 = .ok (.iload_n 0, 1) := by decide +kernel
theorem own_d3_15 : decode method_3_code 15 = .ok (.bipush 7, 2) := by decide +kernel
theorem own_d3_17 : decode method_3_code 17 = .ok (.if_icmp .ne 5, 3) := by decide +kernel
theorem own_d3_20 : decode method_3_code 20 = .ok (.iconst 1, 1) := by decide +kernel
theorem own_d3_21 : decode method_3_code 21 = .ok (.ireturn, 1) := by decide +kernel
theorem own_d3_22 : decode method_3_code 22 = .ok (.iconst 0, 1) := by decide +kernel
theorem own_d3_23 : decode method_3_code 23 = .ok (.ireturn, 1) := by decide +kernel
theorem own_pd0 : parseMethodDescriptor "(I)Lcom/example/inchworm/inchworm/query/Axis;" = some ⟨[.int], some (.object "com/example/inchworm/inchworm/query/Axis")⟩ := by decide +kernel
theorem own_pd1 : parseMethodDescriptor "()Z" = some ⟨[], some .boolean⟩ := by decide +kernel
theorem own_pd2 : parseMethodDescriptor "(I)Z" = some ⟨[.int], some .boolean⟩ := by decide +kernel
theorem own_pn0 : plainName "com/example/inchworm/inchworm/query/AxisIncludesSelfPinLaw" = true := by first | (simp [plainName, overriddenIn]; done) | decide +kernel
theorem own_pn1 : plainName "com/example/inchworm/inchworm/query/Axis" = true := by first | (simp [plainName, overriddenIn]; done) | decide +kernel
def own_En (Z : State) (C f d : String) (a : Addr) (k : Int32) : Prop := Sta Z Z.heap C f d (.ref a) ∧ Exa Z Z.heap a C ∧ Fld Z Z.heap a "java/lang/Enum" "ordinal" "I" (.int k)
theorem own_enum {args : Array Value} {s : State} {C f d : String} {k : Int32} (hx : (Cond.exactly (.static C f d) C).value args s none s [] = some true) (ho : (Cond.eq (.field (.static C f d) "java/lang/Enum" "ordinal" "I") (.int k)).value args s none s [] = some true) (hi : (Cond.initialized C).before args s = true) (hl : (Cond.laysStatic C f d).before args s = true) : ∃ a, own_En s C f d a k := by
  obtain ⟨a, ev⟩ := exa_v hx
  obtain ⟨x, y, e1, e2, k1, k2⟩ := cmp_v (Or.inl ho)
  cases (show some (Value.int k) = some y from e2)
  obtain ⟨z, rfl⟩ := k2
  have q : z = k := by simp only [Cond.value] at ho; rw [e1, e2] at ho; simpa using ho
  subst q
  exact ⟨a, Sta.start ev (Or.inr ⟨hi, hl⟩), Exa.start ev hx, Fld.start ((fld_at ev).symm.trans e1)⟩
def own_axis (i : Int32) (a_CHILD a_DESCENDANT a_DESCENDANT_OR_SELF a_SELF a_ATTRIBUTE a_PARENT a_ANCESTOR a_ANCESTOR_OR_SELF a_FOLLOWING_SIBLING a_PRECEDING_SIBLING a_FOLLOWING a_PRECEDING : Addr) : Addr := if i = (0 : Int32) then a_CHILD else if i = (1 : Int32) then a_DESCENDANT else if i = (2 : Int32) then a_DESCENDANT_OR_SELF else if i = (3 : Int32) then a_SELF else if i = (4 : Int32) then a_ATTRIBUTE else if i = (5 : Int32) then a_PARENT else if i = (6 : Int32) then a_ANCESTOR else if i = (7 : Int32) then a_ANCESTOR_OR_SELF else if i = (8 : Int32) then a_FOLLOWING_SIBLING else if i = (9 : Int32) then a_PRECEDING_SIBLING else if i = (10 : Int32) then a_FOLLOWING else a_PRECEDING
theorem own_ite {P : Addr → Prop} {c : Prop} [Decidable c] {a b : Addr} (h1 : P a) (h2 : P b) : P (if c then a else b) := by by_cases q : c <;> simp [q, h1, h2]
def own_inc (a b c d : Addr) : Int32 := if Value.ref a = Value.ref b then 1 else if Value.ref a = Value.ref c then 1 else if Value.ref a = Value.ref d then 1 else 0
def own_exp (i : Int32) : Int32 := if i = (2 : Int32) then 1 else if i = (3 : Int32) then 1 else if i = (7 : Int32) then 1 else 0
theorem own_axis_exa {Z : State} {h : Heap} (i : Int32) {a_CHILD a_DESCENDANT a_DESCENDANT_OR_SELF a_SELF a_ATTRIBUTE a_PARENT a_ANCESTOR a_ANCESTOR_OR_SELF a_FOLLOWING_SIBLING a_PRECEDING_SIBLING a_FOLLOWING a_PRECEDING : Addr} (E_CHILD : Exa Z h a_CHILD "com/example/inchworm/inchworm/query/Axis") (E_DESCENDANT : Exa Z h a_DESCENDANT "com/example/inchworm/inchworm/query/Axis") (E_DESCENDANT_OR_SELF : Exa Z h a_DESCENDANT_OR_SELF "com/example/inchworm/inchworm/query/Axis") (E_SELF : Exa Z h a_SELF "com/example/inchworm/inchworm/query/Axis") (E_ATTRIBUTE : Exa Z h a_ATTRIBUTE "com/example/inchworm/inchworm/query/Axis") (E_PARENT : Exa Z h a_PARENT "com/example/inchworm/inchworm/query/Axis") (E_ANCESTOR : Exa Z h a_ANCESTOR "com/example/inchworm/inchworm/query/Axis") (E_ANCESTOR_OR_SELF : Exa Z h a_ANCESTOR_OR_SELF "com/example/inchworm/inchworm/query/Axis") (E_FOLLOWING_SIBLING : Exa Z h a_FOLLOWING_SIBLING "com/example/inchworm/inchworm/query/Axis") (E_PRECEDING_SIBLING : Exa Z h a_PRECEDING_SIBLING "com/example/inchworm/inchworm/query/Axis") (E_FOLLOWING : Exa Z h a_FOLLOWING "com/example/inchworm/inchworm/query/Axis") (E_PRECEDING : Exa Z h a_PRECEDING "com/example/inchworm/inchworm/query/Axis") : Exa Z h (own_axis i a_CHILD a_DESCENDANT a_DESCENDANT_OR_SELF a_SELF a_ATTRIBUTE a_PARENT a_ANCESTOR a_ANCESTOR_OR_SELF a_FOLLOWING_SIBLING a_PRECEDING_SIBLING a_FOLLOWING a_PRECEDING) "com/example/inchworm/inchworm/query/Axis" := by
  exact own_ite (P := fun a => Exa Z h a "com/example/inchworm/inchworm/query/Axis") E_CHILD (own_ite (P := fun a => Exa Z h a "com/example/inchworm/inchworm/query/Axis") E_DESCENDANT (own_ite (P := fun a => Exa Z h a "com/example/inchworm/inchworm/query/Axis") E_DESCENDANT_OR_SELF (own_ite (P := fun a => Exa Z h a "com/example/inchworm/inchworm/query/Axis") E_SELF (own_ite (P := fun a => Exa Z h a "com/example/inchworm/inchworm/query/Axis") E_ATTRIBUTE (own_ite (P := fun a => Exa Z h a "com/example/inchworm/inchworm/query/Axis") E_PARENT (own_ite (P := fun a => Exa Z h a "com/example/inchworm/inchworm/query/Axis") E_ANCESTOR (own_ite (P := fun a => Exa Z h a "com/example/inchworm/inchworm/query/Axis") E_ANCESTOR_OR_SELF (own_ite (P := fun a => Exa Z h a "com/example/inchworm/inchworm/query/Axis") E_FOLLOWING_SIBLING (own_ite (P := fun a => Exa Z h a "com/example/inchworm/inchworm/query/Axis") E_PRECEDING_SIBLING (own_ite (P := fun a => Exa Z h a "com/example/inchworm/inchworm/query/Axis") E_FOLLOWING (E_PRECEDING)))))))))))
theorem own_ne_ref {a b : Addr} (h : a ≠ b) : ¬ Value.ref a = Value.ref b := fun q => h (Value.ref.inj q)
theorem own_law (i : Int32) (a_CHILD a_DESCENDANT a_DESCENDANT_OR_SELF a_SELF a_ATTRIBUTE a_PARENT a_ANCESTOR a_ANCESTOR_OR_SELF a_FOLLOWING_SIBLING a_PRECEDING_SIBLING a_FOLLOWING a_PRECEDING : Addr) (n_CHILD_SELF : a_CHILD ≠ a_SELF) (n_CHILD_DESCENDANT_OR_SELF : a_CHILD ≠ a_DESCENDANT_OR_SELF) (n_CHILD_ANCESTOR_OR_SELF : a_CHILD ≠ a_ANCESTOR_OR_SELF) (n_DESCENDANT_SELF : a_DESCENDANT ≠ a_SELF) (n_DESCENDANT_DESCENDANT_OR_SELF : a_DESCENDANT ≠ a_DESCENDANT_OR_SELF) (n_DESCENDANT_ANCESTOR_OR_SELF : a_DESCENDANT ≠ a_ANCESTOR_OR_SELF) (n_DESCENDANT_OR_SELF_SELF : a_DESCENDANT_OR_SELF ≠ a_SELF) (n_DESCENDANT_OR_SELF_ANCESTOR_OR_SELF : a_DESCENDANT_OR_SELF ≠ a_ANCESTOR_OR_SELF) (n_SELF_DESCENDANT_OR_SELF : a_SELF ≠ a_DESCENDANT_OR_SELF) (n_SELF_ANCESTOR_OR_SELF : a_SELF ≠ a_ANCESTOR_OR_SELF) (n_ATTRIBUTE_SELF : a_ATTRIBUTE ≠ a_SELF) (n_ATTRIBUTE_DESCENDANT_OR_SELF : a_ATTRIBUTE ≠ a_DESCENDANT_OR_SELF) (n_ATTRIBUTE_ANCESTOR_OR_SELF : a_ATTRIBUTE ≠ a_ANCESTOR_OR_SELF) (n_PARENT_SELF : a_PARENT ≠ a_SELF) (n_PARENT_DESCENDANT_OR_SELF : a_PARENT ≠ a_DESCENDANT_OR_SELF) (n_PARENT_ANCESTOR_OR_SELF : a_PARENT ≠ a_ANCESTOR_OR_SELF) (n_ANCESTOR_SELF : a_ANCESTOR ≠ a_SELF) (n_ANCESTOR_DESCENDANT_OR_SELF : a_ANCESTOR ≠ a_DESCENDANT_OR_SELF) (n_ANCESTOR_ANCESTOR_OR_SELF : a_ANCESTOR ≠ a_ANCESTOR_OR_SELF) (n_ANCESTOR_OR_SELF_SELF : a_ANCESTOR_OR_SELF ≠ a_SELF) (n_ANCESTOR_OR_SELF_DESCENDANT_OR_SELF : a_ANCESTOR_OR_SELF ≠ a_DESCENDANT_OR_SELF) (n_FOLLOWING_SIBLING_SELF : a_FOLLOWING_SIBLING ≠ a_SELF) (n_FOLLOWING_SIBLING_DESCENDANT_OR_SELF : a_FOLLOWING_SIBLING ≠ a_DESCENDANT_OR_SELF) (n_FOLLOWING_SIBLING_ANCESTOR_OR_SELF : a_FOLLOWING_SIBLING ≠ a_ANCESTOR_OR_SELF) (n_PRECEDING_SIBLING_SELF : a_PRECEDING_SIBLING ≠ a_SELF) (n_PRECEDING_SIBLING_DESCENDANT_OR_SELF : a_PRECEDING_SIBLING ≠ a_DESCENDANT_OR_SELF) (n_PRECEDING_SIBLING_ANCESTOR_OR_SELF : a_PRECEDING_SIBLING ≠ a_ANCESTOR_OR_SELF) (n_FOLLOWING_SELF : a_FOLLOWING ≠ a_SELF) (n_FOLLOWING_DESCENDANT_OR_SELF : a_FOLLOWING ≠ a_DESCENDANT_OR_SELF) (n_FOLLOWING_ANCESTOR_OR_SELF : a_FOLLOWING ≠ a_ANCESTOR_OR_SELF) (n_PRECEDING_SELF : a_PRECEDING ≠ a_SELF) (n_PRECEDING_DESCENDANT_OR_SELF : a_PRECEDING ≠ a_DESCENDANT_OR_SELF) (n_PRECEDING_ANCESTOR_OR_SELF : a_PRECEDING ≠ a_ANCESTOR_OR_SELF) : own_inc (own_axis i a_CHILD a_DESCENDANT a_DESCENDANT_OR_SELF a_SELF a_ATTRIBUTE a_PARENT a_ANCESTOR a_ANCESTOR_OR_SELF a_FOLLOWING_SIBLING a_PRECEDING_SIBLING a_FOLLOWING a_PRECEDING) a_SELF a_DESCENDANT_OR_SELF a_ANCESTOR_OR_SELF = own_exp i := by
  by_cases h0 : i = (0 : Int32)
  · subst h0; simp [own_axis, own_inc, own_exp, n_CHILD_SELF, n_CHILD_DESCENDANT_OR_SELF, n_CHILD_ANCESTOR_OR_SELF]
  by_cases h1 : i = (1 : Int32)
  · subst h1; simp [own_axis, own_inc, own_exp, n_DESCENDANT_SELF, n_DESCENDANT_DESCENDANT_OR_SELF, n_DESCENDANT_ANCESTOR_OR_SELF]
  by_cases h2 : i = (2 : Int32)
  · subst h2; simp [own_axis, own_inc, own_exp, n_DESCENDANT_OR_SELF_SELF, n_DESCENDANT_OR_SELF_ANCESTOR_OR_SELF]
  by_cases h3 : i = (3 : Int32)
  · subst h3; simp [own_axis, own_inc, own_exp, n_SELF_DESCENDANT_OR_SELF, n_SELF_ANCESTOR_OR_SELF]
  by_cases h4 : i = (4 : Int32)
  · subst h4; simp [own_axis, own_inc, own_exp, n_ATTRIBUTE_SELF, n_ATTRIBUTE_DESCENDANT_OR_SELF, n_ATTRIBUTE_ANCESTOR_OR_SELF]
  by_cases h5 : i = (5 : Int32)
  · subst h5; simp [own_axis, own_inc, own_exp, n_PARENT_SELF, n_PARENT_DESCENDANT_OR_SELF, n_PARENT_ANCESTOR_OR_SELF]
  by_cases h6 : i = (6 : Int32)
  · subst h6; simp [own_axis, own_inc, own_exp, n_ANCESTOR_SELF, n_ANCESTOR_DESCENDANT_OR_SELF, n_ANCESTOR_ANCESTOR_OR_SELF]
  by_cases h7 : i = (7 : Int32)
  · subst h7; simp [own_axis, own_inc, own_exp, n_ANCESTOR_OR_SELF_SELF, n_ANCESTOR_OR_SELF_DESCENDANT_OR_SELF]
  by_cases h8 : i = (8 : Int32)
  · subst h8; simp [own_axis, own_inc, own_exp, n_FOLLOWING_SIBLING_SELF, n_FOLLOWING_SIBLING_DESCENDANT_OR_SELF, n_FOLLOWING_SIBLING_ANCESTOR_OR_SELF]
  by_cases h9 : i = (9 : Int32)
  · subst h9; simp [own_axis, own_inc, own_exp, n_PRECEDING_SIBLING_SELF, n_PRECEDING_SIBLING_DESCENDANT_OR_SELF, n_PRECEDING_SIBLING_ANCESTOR_OR_SELF]
  by_cases h10 : i = (10 : Int32)
  · subst h10; simp [own_axis, own_inc, own_exp, n_FOLLOWING_SELF, n_FOLLOWING_DESCENDANT_OR_SELF, n_FOLLOWING_ANCESTOR_OR_SELF]
  simp [own_axis, own_inc, own_exp, h0, h1, h2, h3, h4, h5, h6, h7, h8, h9, h10, n_PRECEDING_SELF, n_PRECEDING_DESCENDANT_OR_SELF, n_PRECEDING_ANCESTOR_OR_SELF]

def own_rm1_Q (Z : State) (i : Int32) (a_CHILD a_DESCENDANT a_DESCENDANT_OR_SELF a_SELF a_ATTRIBUTE a_PARENT a_ANCESTOR a_ANCESTOR_OR_SELF a_FOLLOWING_SIBLING a_PRECEDING_SIBLING a_FOLLOWING a_PRECEDING : Addr) (h0 : Heap) (n0 : Nat) : Option Value → Heap → List Loc → Prop := fun v h L => v = some (Value.ref (own_axis i a_CHILD a_DESCENDANT a_DESCENDANT_OR_SELF a_SELF a_ATTRIBUTE a_PARENT a_ANCESTOR a_ANCESTOR_OR_SELF a_FOLLOWING_SIBLING a_PRECEDING_SIBLING a_FOLLOWING a_PRECEDING)) ∧ h = h0 ∧ Fr n0 L
theorem own_rm1_ef (m : MethodId) (i : Int32)  : entryFrame m #[(Value.int i)] 1 = mkF m 0 #[.val (Value.int i)] [] := by first | (simp [entryFrame, mkF, argsToLocals, Value.category]; done) | rfl
set_option maxRecDepth 65536 in
set_option maxHeartbeats 40000000 in
theorem own_rm1 (l : Launch) (Z : State) (a0 : Array Value) (hw : ∀ d ∈ tables_1, d.before a0 Z = true) (ws : List Jvm.Cond) (i : Int32) (a_CHILD a_DESCENDANT a_DESCENDANT_OR_SELF a_SELF a_ATTRIBUTE a_PARENT a_ANCESTOR a_ANCESTOR_OR_SELF a_FOLLOWING_SIBLING a_PRECEDING_SIBLING a_FOLLOWING a_PRECEDING : Addr) (h0 : Heap) (n0 : Nat) (O0 : Old Z n0 h0) (En_CHILD : own_En Z "com/example/inchworm/inchworm/query/Axis" "CHILD" "Lcom/example/inchworm/inchworm/query/Axis;" a_CHILD 0) (En_DESCENDANT : own_En Z "com/example/inchworm/inchworm/query/Axis" "DESCENDANT" "Lcom/example/inchworm/inchworm/query/Axis;" a_DESCENDANT 1) (En_DESCENDANT_OR_SELF : own_En Z "com/example/inchworm/inchworm/query/Axis" "DESCENDANT_OR_SELF" "Lcom/example/inchworm/inchworm/query/Axis;" a_DESCENDANT_OR_SELF 2) (En_SELF : own_En Z "com/example/inchworm/inchworm/query/Axis" "SELF" "Lcom/example/inchworm/inchworm/query/Axis;" a_SELF 3) (En_ATTRIBUTE : own_En Z "com/example/inchworm/inchworm/query/Axis" "ATTRIBUTE" "Lcom/example/inchworm/inchworm/query/Axis;" a_ATTRIBUTE 4) (En_PARENT : own_En Z "com/example/inchworm/inchworm/query/Axis" "PARENT" "Lcom/example/inchworm/inchworm/query/Axis;" a_PARENT 5) (En_ANCESTOR : own_En Z "com/example/inchworm/inchworm/query/Axis" "ANCESTOR" "Lcom/example/inchworm/inchworm/query/Axis;" a_ANCESTOR 6) (En_ANCESTOR_OR_SELF : own_En Z "com/example/inchworm/inchworm/query/Axis" "ANCESTOR_OR_SELF" "Lcom/example/inchworm/inchworm/query/Axis;" a_ANCESTOR_OR_SELF 7) (En_FOLLOWING_SIBLING : own_En Z "com/example/inchworm/inchworm/query/Axis" "FOLLOWING_SIBLING" "Lcom/example/inchworm/inchworm/query/Axis;" a_FOLLOWING_SIBLING 8) (En_PRECEDING_SIBLING : own_En Z "com/example/inchworm/inchworm/query/Axis" "PRECEDING_SIBLING" "Lcom/example/inchworm/inchworm/query/Axis;" a_PRECEDING_SIBLING 9) (En_FOLLOWING : own_En Z "com/example/inchworm/inchworm/query/Axis" "FOLLOWING" "Lcom/example/inchworm/inchworm/query/Axis;" a_FOLLOWING 10) (En_PRECEDING : own_En Z "com/example/inchworm/inchworm/query/Axis" "PRECEDING" "Lcom/example/inchworm/inchworm/query/Axis;" a_PRECEDING 11) :
    MetFree l (⟨"com/example/inchworm/inchworm/query/AxisIncludesSelfPinLaw", "axisAt", "(I)Lcom/example/inchworm/inchworm/query/Axis;"⟩ : MethodName) (head1 (Jvm.Cond.code (⟨"com/example/inchworm/inchworm/query/AxisIncludesSelfPinLaw", "axisAt", "(I)Lcom/example/inchworm/inchworm/query/Axis;"⟩ : MethodName) method_2_code 1 (some (.object "com/example/inchworm/inchworm/query/Axis")) :: ws) ({ frames := 0, cells := 0, slots := 0, locals := 0 } : Room)) (fun aa_ U => aa_ = #[(Value.int i)] ∧ Z.Warmed39 U.vm ∧ U.heap = h0) (fun _ _ _ _ _ => True) (fun _ UU_ oo_ UX_ => ∃ vv_ LL_, oo_ = .returned vv_ ∧ (own_rm1_Q Z i a_CHILD a_DESCENDANT a_DESCENDANT_OR_SELF a_SELF a_ATTRIBUTE a_PARENT a_ANCESTOR a_ANCESTOR_OR_SELF a_FOLLOWING_SIBLING a_PRECEDING_SIBLING a_FOLLOWING a_PRECEDING h0 n0) vv_ UX_.heap LL_ ∧ FrameEnd UU_ oo_ UX_ LL_ ({ frames := 0, cells := 0, slots := 0, locals := 0 } : Room).cells ({ frames := 0, cells := 0, slots := 0, locals := 0 } : Room).slots) := by
  refine MetFree.of_bodySF (plainFor_of_name own_pn0) hisR ?_
  intro p e s m args below meth c s₁ Bd hml0 hP hK
  obtain ⟨rfl, hZ, hh⟩ := hP
  have hx := Bd.exec
  have hby := Bd.bytes
  have hml : c.maxLocals = 1 := hml0
  have hown : s.vm.findClass "com/example/inchworm/inchworm/query/AxisIncludesSelfPinLaw" = some m.cls := findClass_of_methodNamed Bd.named
  have hnm := (name_of_methodNamed Bd.named Bd.method).1
  have hlk : meth.locks = false := BodyLoose.notSynchronized Bd
  have X0 : Stand p l e ({ frames := 0, cells := 0, slots := 0, locals := 0 } : Room) s m #[(Value.int i)] below meth c s₁ [] 0 0 := Stand.of_body Bd
  have e0 : s₁.heap = h0 := by rw [← hh, Bd.state]; rfl
  have N0 := Fr.nil n0
  show own_G p e below s (own_rm1_Q Z i a_CHILD a_DESCENDANT a_DESCENDANT_OR_SELF a_SELF a_ATTRIBUTE a_PARENT a_ANCESTOR a_ANCESTOR_OR_SELF a_FOLLOWING_SIBLING a_PRECEDING_SIBLING a_FOLLOWING a_PRECEDING h0 n0) ({ frames := 0, cells := 0, slots := 0, locals := 0 } : Room).cells ({ frames := 0, cells := 0, slots := 0, locals := 0 } : Room).slots (s₁.setTop (entryFrame m #[(Value.int i)] 1))
  refine own_cast (own_rm1_ef m i ) ?_
  show own_G p e below s _ _ _ (s₁.setTop (mkF m 0 #[.val (Value.int i)] []))
  refine own_iloadN X0 hx hby own_d1_0 rfl ?_
  show own_G p e below s _ _ _ (s₁.setTop (mkF m 1 #[.val (Value.int i)] [(Value.int i)]))
  refine own_if_ne X0 hx hby own_d1_1 (pc' := 8) (by decide) (by decide) (fun hb1 => ?_) (fun hb1 => ?_)
  · show own_G p e below s _ _ _ (s₁.setTop (mkF m 8 #[.val (Value.int i)] []))
    refine own_iloadN X0 hx hby own_d1_8 rfl ?_
    show own_G p e below s _ _ _ (s₁.setTop (mkF m 9 #[.val (Value.int i)] [(Value.int i)]))
    refine own_iconst X0 hx hby own_d1_9 ?_
    show own_G p e below s _ _ _ (s₁.setTop (mkF m 10 #[.val (Value.int i)] [(Value.int (1 : Int32)), (Value.int i)]))
    refine own_icmp_ne X0 hx hby own_d1_10 (pc' := 17) (by decide) (by decide) (fun hb2 => ?_) (fun hb2 => ?_)
    · show own_G p e below s _ _ _ (s₁.setTop (mkF m 17 #[.val (Value.int i)] []))
      refine own_iloadN X0 hx hby own_d1_17 rfl ?_
      show own_G p e below s _ _ _ (s₁.setTop (mkF m 18 #[.val (Value.int i)] [(Value.int i)]))
      refine own_iconst X0 hx hby own_d1_18 ?_
      show own_G p e below s _ _ _ (s₁.setTop (mkF m 19 #[.val (Value.int i)] [(Value.int (2 : Int32)), (Value.int i)]))
      refine own_icmp_ne X0 hx hby own_d1_19 (pc' := 26) (by decide) (by decide) (fun hb3 => ?_) (fun hb3 => ?_)
      · show own_G p e below s _ _ _ (s₁.setTop (mkF m 26 #[.val (Value.int i)] []))
        refine own_iloadN X0 hx hby own_d1_26 rfl ?_
        show own_G p e below s _ _ _ (s₁.setTop (mkF m 27 #[.val (Value.int i)] [(Value.int i)]))
        refine own_iconst X0 hx hby own_d1_27 ?_
        show own_G p e below s _ _ _ (s₁.setTop (mkF m 28 #[.val (Value.int i)] [(Value.int (3 : Int32)), (Value.int i)]))
        refine own_icmp_ne X0 hx hby own_d1_28 (pc' := 35) (by decide) (by decide) (fun hb4 => ?_) (fun hb4 => ?_)
        · show own_G p e below s _ _ _ (s₁.setTop (mkF m 35 #[.val (Value.int i)] []))
          refine own_iloadN X0 hx hby own_d1_35 rfl ?_
          show own_G p e below s _ _ _ (s₁.setTop (mkF m 36 #[.val (Value.int i)] [(Value.int i)]))
          refine own_iconst X0 hx hby own_d1_36 ?_
          show own_G p e below s _ _ _ (s₁.setTop (mkF m 37 #[.val (Value.int i)] [(Value.int (4 : Int32)), (Value.int i)]))
          refine own_icmp_ne X0 hx hby own_d1_37 (pc' := 44) (by decide) (by decide) (fun hb5 => ?_) (fun hb5 => ?_)
          · show own_G p e below s _ _ _ (s₁.setTop (mkF m 44 #[.val (Value.int i)] []))
            refine own_iloadN X0 hx hby own_d1_44 rfl ?_
            show own_G p e below s _ _ _ (s₁.setTop (mkF m 45 #[.val (Value.int i)] [(Value.int i)]))
            refine own_iconst X0 hx hby own_d1_45 ?_
            show own_G p e below s _ _ _ (s₁.setTop (mkF m 46 #[.val (Value.int i)] [(Value.int (5 : Int32)), (Value.int i)]))
            refine own_icmp_ne X0 hx hby own_d1_46 (pc' := 53) (by decide) (by decide) (fun hb6 => ?_) (fun hb6 => ?_)
            · show own_G p e below s _ _ _ (s₁.setTop (mkF m 53 #[.val (Value.int i)] []))
              refine own_iloadN X0 hx hby own_d1_53 rfl ?_
              show own_G p e below s _ _ _ (s₁.setTop (mkF m 54 #[.val (Value.int i)] [(Value.int i)]))
              refine own_bipush X0 hx hby own_d1_54 ?_
              show own_G p e below s _ _ _ (s₁.setTop (mkF m 56 #[.val (Value.int i)] [(Value.int (6 : Int32)), (Value.int i)]))
              refine own_icmp_ne X0 hx hby own_d1_56 (pc' := 63) (by decide) (by decide) (fun hb7 => ?_) (fun hb7 => ?_)
              · show own_G p e below s _ _ _ (s₁.setTop (mkF m 63 #[.val (Value.int i)] []))
                refine own_iloadN X0 hx hby own_d1_63 rfl ?_
                show own_G p e below s _ _ _ (s₁.setTop (mkF m 64 #[.val (Value.int i)] [(Value.int i)]))
                refine own_bipush X0 hx hby own_d1_64 ?_
                show own_G p e below s _ _ _ (s₁.setTop (mkF m 66 #[.val (Value.int i)] [(Value.int (7 : Int32)), (Value.int i)]))
                refine own_icmp_ne X0 hx hby own_d1_66 (pc' := 73) (by decide) (by decide) (fun hb8 => ?_) (fun hb8 => ?_)
                · show own_G p e below s _ _ _ (s₁.setTop (mkF m 73 #[.val (Value.int i)] []))
                  refine own_iloadN X0 hx hby own_d1_73 rfl ?_
                  show own_G p e below s _ _ _ (s₁.setTop (mkF m 74 #[.val (Value.int i)] [(Value.int i)]))
                  refine own_bipush X0 hx hby own_d1_74 ?_
                  show own_G p e below s _ _ _ (s₁.setTop (mkF m 76 #[.val (Value.int i)] [(Value.int (8 : Int32)), (Value.int i)]))
                  refine own_icmp_ne X0 hx hby own_d1_76 (pc' := 83) (by decide) (by decide) (fun hb9 => ?_) (fun hb9 => ?_)
                  · show own_G p e below s _ _ _ (s₁.setTop (mkF m 83 #[.val (Value.int i)] []))
                    refine own_iloadN X0 hx hby own_d1_83 rfl ?_
                    show own_G p e below s _ _ _ (s₁.setTop (mkF m 84 #[.val (Value.int i)] [(Value.int i)]))
                    refine own_bipush X0 hx hby own_d1_84 ?_
                    show own_G p e below s _ _ _ (s₁.setTop (mkF m 86 #[.val (Value.int i)] [(Value.int (9 : Int32)), (Value.int i)]))
                    refine own_icmp_ne X0 hx hby own_d1_86 (pc' := 93) (by decide) (by decide) (fun hb10 => ?_) (fun hb10 => ?_)
                    · show own_G p e below s _ _ _ (s₁.setTop (mkF m 93 #[.val (Value.int i)] []))
                      refine own_iloadN X0 hx hby own_d1_93 rfl ?_
                      show own_G p e below s _ _ _ (s₁.setTop (mkF m 94 #[.val (Value.int i)] [(Value.int i)]))
                      refine own_bipush X0 hx hby own_d1_94 ?_
                      show own_G p e below s _ _ _ (s₁.setTop (mkF m 96 #[.val (Value.int i)] [(Value.int (10 : Int32)), (Value.int i)]))
                      refine own_icmp_ne X0 hx hby own_d1_96 (pc' := 103) (by decide) (by decide) (fun hb11 => ?_) (fun hb11 => ?_)
                      · show own_G p e below s _ _ _ (s₁.setTop (mkF m 103 #[.val (Value.int i)] []))
                        obtain ⟨T12, X12, e12, st12⟩ := getS2 X0 hx hZ hown (host := "") (Or.inl (own_w25 hw)) Via.refl e0 (Sta.ext O0.2 En_PRECEDING.1) (g := (mkF m 103 #[.val (Value.int i)] [])) rfl (hb hby own_d1_103)
                        refine own_st st12 ?_
                        show own_G p e below s _ _ _ (T12.setTop (mkF m 106 #[.val (Value.int i)] [(Value.ref a_PRECEDING)]))
                        refine own_retA X12 hx hby hlk Bd.returns rfl rfl rfl own_d1_106 (by decide) (by decide) ?_
                        refine ⟨?_, e12, N0⟩
                        show some (Value.ref a_PRECEDING) = _
                        simp only [own_axis, if_neg hb1, if_neg hb2, if_neg hb3, if_neg hb4, if_neg hb5, if_neg hb6, if_neg hb7, if_neg hb8, if_neg hb9, if_neg hb10, if_neg hb11]
                      · show own_G p e below s _ _ _ (s₁.setTop (mkF m 99 #[.val (Value.int i)] []))
                        obtain ⟨T13, X13, e13, st13⟩ := getS2 X0 hx hZ hown (host := "") (Or.inl (own_w33 hw)) Via.refl e0 (Sta.ext O0.2 En_FOLLOWING.1) (g := (mkF m 99 #[.val (Value.int i)] [])) rfl (hb hby own_d1_99)
                        refine own_st st13 ?_
                        show own_G p e below s _ _ _ (T13.setTop (mkF m 102 #[.val (Value.int i)] [(Value.ref a_FOLLOWING)]))
                        refine own_retA X13 hx hby hlk Bd.returns rfl rfl rfl own_d1_102 (by decide) (by decide) ?_
                        refine ⟨?_, e13, N0⟩
                        show some (Value.ref a_FOLLOWING) = _
                        simp only [own_axis, if_neg hb1, if_neg hb2, if_neg hb3, if_neg hb4, if_neg hb5, if_neg hb6, if_neg hb7, if_neg hb8, if_neg hb9, if_neg hb10, if_pos hb11]
                    · show own_G p e below s _ _ _ (s₁.setTop (mkF m 89 #[.val (Value.int i)] []))
                      obtain ⟨T14, X14, e14, st14⟩ := getS2 X0 hx hZ hown (host := "") (Or.inl (own_w35 hw)) Via.refl e0 (Sta.ext O0.2 En_PRECEDING_SIBLING.1) (g := (mkF m 89 #[.val (Value.int i)] [])) rfl (hb hby own_d1_89)
                      refine own_st st14 ?_
                      show own_G p e below s _ _ _ (T14.setTop (mkF m 92 #[.val (Value.int i)] [(Value.ref a_PRECEDING_SIBLING)]))
                      refine own_retA X14 hx hby hlk Bd.returns rfl rfl rfl own_d1_92 (by decide) (by decide) ?_
                      refine ⟨?_, e14, N0⟩
                      show some (Value.ref a_PRECEDING_SIBLING) = _
                      simp only [own_axis, if_neg hb1, if_neg hb2, if_neg hb3, if_neg hb4, if_neg hb5, if_neg hb6, if_neg hb7, if_neg hb8, if_neg hb9, if_pos hb10]
                  · show own_G p e below s _ _ _ (s₁.setTop (mkF m 79 #[.val (Value.int i)] []))
                    obtain ⟨T15, X15, e15, st15⟩ := getS2 X0 hx hZ hown (host := "") (Or.inl (own_w29 hw)) Via.refl e0 (Sta.ext O0.2 En_FOLLOWING_SIBLING.1) (g := (mkF m 79 #[.val (Value.int i)] [])) rfl (hb hby own_d1_79)
                    refine own_st st15 ?_
                    show own_G p e below s _ _ _ (T15.setTop (mkF m 82 #[.val (Value.int i)] [(Value.ref a_FOLLOWING_SIBLING)]))
                    refine own_retA X15 hx hby hlk Bd.returns rfl rfl rfl own_d1_82 (by decide) (by decide) ?_
                    refine ⟨?_, e15, N0⟩
                    show some (Value.ref a_FOLLOWING_SIBLING) = _
                    simp only [own_axis, if_neg hb1, if_neg hb2, if_neg hb3, if_neg hb4, if_neg hb5, if_neg hb6, if_neg hb7, if_neg hb8, if_pos hb9]
                · show own_G p e below s _ _ _ (s₁.setTop (mkF m 69 #[.val (Value.int i)] []))
                  obtain ⟨T16, X16, e16, st16⟩ := getS2 X0 hx hZ hown (host := "") (Or.inl (own_w24 hw)) Via.refl e0 (Sta.ext O0.2 En_ANCESTOR_OR_SELF.1) (g := (mkF m 69 #[.val (Value.int i)] [])) rfl (hb hby own_d1_69)
                  refine own_st st16 ?_
                  show own_G p e below s _ _ _ (T16.setTop (mkF m 72 #[.val (Value.int i)] [(Value.ref a_ANCESTOR_OR_SELF)]))
                  refine own_retA X16 hx hby hlk Bd.returns rfl rfl rfl own_d1_72 (by decide) (by decide) ?_
                  refine ⟨?_, e16, N0⟩
                  show some (Value.ref a_ANCESTOR_OR_SELF) = _
                  simp only [own_axis, if_neg hb1, if_neg hb2, if_neg hb3, if_neg hb4, if_neg hb5, if_neg hb6, if_neg hb7, if_pos hb8]
              · show own_G p e below s _ _ _ (s₁.setTop (mkF m 59 #[.val (Value.int i)] []))
                obtain ⟨T17, X17, e17, st17⟩ := getS2 X0 hx hZ hown (host := "") (Or.inl (own_w37 hw)) Via.refl e0 (Sta.ext O0.2 En_ANCESTOR.1) (g := (mkF m 59 #[.val (Value.int i)] [])) rfl (hb hby own_d1_59)
                refine own_st st17 ?_
                show own_G p e below s _ _ _ (T17.setTop (mkF m 62 #[.val (Value.int i)] [(Value.ref a_ANCESTOR)]))
                refine own_retA X17 hx hby hlk Bd.returns rfl rfl rfl own_d1_62 (by decide) (by decide) ?_
                refine ⟨?_, e17, N0⟩
                show some (Value.ref a_ANCESTOR) = _
                simp only [own_axis, if_neg hb1, if_neg hb2, if_neg hb3, if_neg hb4, if_neg hb5, if_neg hb6, if_pos hb7]
            · show own_G p e below s _ _ _ (s₁.setTop (mkF m 49 #[.val (Value.int i)] []))
              obtain ⟨T18, X18, e18, st18⟩ := getS2 X0 hx hZ hown (host := "") (Or.inl (own_w39 hw)) Via.refl e0 (Sta.ext O0.2 En_PARENT.1) (g := (mkF m 49 #[.val (Value.int i)] [])) rfl (hb hby own_d1_49)
              refine own_st st18 ?_
              show own_G p e below s _ _ _ (T18.setTop (mkF m 52 #[.val (Value.int i)] [(Value.ref a_PARENT)]))
              refine own_retA X18 hx hby hlk Bd.returns rfl rfl rfl own_d1_52 (by decide) (by decide) ?_
              refine ⟨?_, e18, N0⟩
              show some (Value.ref a_PARENT) = _
              simp only [own_axis, if_neg hb1, if_neg hb2, if_neg hb3, if_neg hb4, if_neg hb5, if_pos hb6]
          · show own_G p e below s _ _ _ (s₁.setTop (mkF m 40 #[.val (Value.int i)] []))
            obtain ⟨T19, X19, e19, st19⟩ := getS2 X0 hx hZ hown (host := "") (Or.inl (own_w27 hw)) Via.refl e0 (Sta.ext O0.2 En_ATTRIBUTE.1) (g := (mkF m 40 #[.val (Value.int i)] [])) rfl (hb hby own_d1_40)
            refine own_st st19 ?_
            show own_G p e below s _ _ _ (T19.setTop (mkF m 43 #[.val (Value.int i)] [(Value.ref a_ATTRIBUTE)]))
            refine own_retA X19 hx hby hlk Bd.returns rfl rfl rfl own_d1_43 (by decide) (by decide) ?_
            refine ⟨?_, e19, N0⟩
            show some (Value.ref a_ATTRIBUTE) = _
            simp only [own_axis, if_neg hb1, if_neg hb2, if_neg hb3, if_neg hb4, if_pos hb5]
        · show own_G p e below s _ _ _ (s₁.setTop (mkF m 31 #[.val (Value.int i)] []))
          obtain ⟨T20, X20, e20, st20⟩ := getS2 X0 hx hZ hown (host := "") (Or.inl (own_w22 hw)) Via.refl e0 (Sta.ext O0.2 En_SELF.1) (g := (mkF m 31 #[.val (Value.int i)] [])) rfl (hb hby own_d1_31)
          refine own_st st20 ?_
          show own_G p e below s _ _ _ (T20.setTop (mkF m 34 #[.val (Value.int i)] [(Value.ref a_SELF)]))
          refine own_retA X20 hx hby hlk Bd.returns rfl rfl rfl own_d1_34 (by decide) (by decide) ?_
          refine ⟨?_, e20, N0⟩
          show some (Value.ref a_SELF) = _
          simp only [own_axis, if_neg hb1, if_neg hb2, if_neg hb3, if_pos hb4]
      · show own_G p e below s _ _ _ (s₁.setTop (mkF m 22 #[.val (Value.int i)] []))
        obtain ⟨T21, X21, e21, st21⟩ := getS2 X0 hx hZ hown (host := "") (Or.inl (own_w23 hw)) Via.refl e0 (Sta.ext O0.2 En_DESCENDANT_OR_SELF.1) (g := (mkF m 22 #[.val (Value.int i)] [])) rfl (hb hby own_d1_22)
        refine own_st st21 ?_
        show own_G p e below s _ _ _ (T21.setTop (mkF m 25 #[.val (Value.int i)] [(Value.ref a_DESCENDANT_OR_SELF)]))
        refine own_retA X21 hx hby hlk Bd.returns rfl rfl rfl own_d1_25 (by decide) (by decide) ?_
        refine ⟨?_, e21, N0⟩
        show some (Value.ref a_DESCENDANT_OR_SELF) = _
        simp only [own_axis, if_neg hb1, if_neg hb2, if_pos hb3]
    · show own_G p e below s _ _ _ (s₁.setTop (mkF m 13 #[.val (Value.int i)] []))
      obtain ⟨T22, X22, e22, st22⟩ := getS2 X0 hx hZ hown (host := "") (Or.inl (own_w31 hw)) Via.refl e0 (Sta.ext O0.2 En_DESCENDANT.1) (g := (mkF m 13 #[.val (Value.int i)] [])) rfl (hb hby own_d1_13)
      refine own_st st22 ?_
      show own_G p e below s _ _ _ (T22.setTop (mkF m 16 #[.val (Value.int i)] [(Value.ref a_DESCENDANT)]))
      refine own_retA X22 hx hby hlk Bd.returns rfl rfl rfl own_d1_16 (by decide) (by decide) ?_
      refine ⟨?_, e22, N0⟩
      show some (Value.ref a_DESCENDANT) = _
      simp only [own_axis, if_neg hb1, if_pos hb2]
  · show own_G p e below s _ _ _ (s₁.setTop (mkF m 4 #[.val (Value.int i)] []))
    obtain ⟨T23, X23, e23, st23⟩ := getS2 X0 hx hZ hown (host := "") (Or.inl (own_w5 hw)) Via.refl e0 (Sta.ext O0.2 En_CHILD.1) (g := (mkF m 4 #[.val (Value.int i)] [])) rfl (hb hby own_d1_4)
    refine own_st st23 ?_
    show own_G p e below s _ _ _ (T23.setTop (mkF m 7 #[.val (Value.int i)] [(Value.ref a_CHILD)]))
    refine own_retA X23 hx hby hlk Bd.returns rfl rfl rfl own_d1_7 (by decide) (by decide) ?_
    refine ⟨?_, e23, N0⟩
    show some (Value.ref a_CHILD) = _
    simp only [own_axis, if_pos hb1]
def own_rm2_Q (Z : State) (a : Addr) (a_CHILD a_DESCENDANT a_DESCENDANT_OR_SELF a_SELF a_ATTRIBUTE a_PARENT a_ANCESTOR a_ANCESTOR_OR_SELF a_FOLLOWING_SIBLING a_PRECEDING_SIBLING a_FOLLOWING a_PRECEDING : Addr) (h0 : Heap) (n0 : Nat) : Option Value → Heap → List Loc → Prop := fun v h L => v = some (Value.int (own_inc a a_SELF a_DESCENDANT_OR_SELF a_ANCESTOR_OR_SELF)) ∧ h = h0 ∧ Fr n0 L
theorem own_rm2_ef (m : MethodId) (a : Addr)  : entryFrame m #[(Value.ref a)] 1 = mkF m 0 #[.val (Value.ref a)] [] := by first | (simp [entryFrame, mkF, argsToLocals, Value.category]; done) | rfl
set_option maxRecDepth 65536 in
set_option maxHeartbeats 40000000 in
theorem own_rm2 (l : Launch) (Z : State) (a0 : Array Value) (hw : ∀ d ∈ tables_1, d.before a0 Z = true) (ws : List Jvm.Cond) (a : Addr) (a_CHILD a_DESCENDANT a_DESCENDANT_OR_SELF a_SELF a_ATTRIBUTE a_PARENT a_ANCESTOR a_ANCESTOR_OR_SELF a_FOLLOWING_SIBLING a_PRECEDING_SIBLING a_FOLLOWING a_PRECEDING : Addr) (h0 : Heap) (n0 : Nat) (O0 : Old Z n0 h0) (En_CHILD : own_En Z "com/example/inchworm/inchworm/query/Axis" "CHILD" "Lcom/example/inchworm/inchworm/query/Axis;" a_CHILD 0) (En_DESCENDANT : own_En Z "com/example/inchworm/inchworm/query/Axis" "DESCENDANT" "Lcom/example/inchworm/inchworm/query/Axis;" a_DESCENDANT 1) (En_DESCENDANT_OR_SELF : own_En Z "com/example/inchworm/inchworm/query/Axis" "DESCENDANT_OR_SELF" "Lcom/example/inchworm/inchworm/query/Axis;" a_DESCENDANT_OR_SELF 2) (En_SELF : own_En Z "com/example/inchworm/inchworm/query/Axis" "SELF" "Lcom/example/inchworm/inchworm/query/Axis;" a_SELF 3) (En_ATTRIBUTE : own_En Z "com/example/inchworm/inchworm/query/Axis" "ATTRIBUTE" "Lcom/example/inchworm/inchworm/query/Axis;" a_ATTRIBUTE 4) (En_PARENT : own_En Z "com/example/inchworm/inchworm/query/Axis" "PARENT" "Lcom/example/inchworm/inchworm/query/Axis;" a_PARENT 5) (En_ANCESTOR : own_En Z "com/example/inchworm/inchworm/query/Axis" "ANCESTOR" "Lcom/example/inchworm/inchworm/query/Axis;" a_ANCESTOR 6) (En_ANCESTOR_OR_SELF : own_En Z "com/example/inchworm/inchworm/query/Axis" "ANCESTOR_OR_SELF" "Lcom/example/inchworm/inchworm/query/Axis;" a_ANCESTOR_OR_SELF 7) (En_FOLLOWING_SIBLING : own_En Z "com/example/inchworm/inchworm/query/Axis" "FOLLOWING_SIBLING" "Lcom/example/inchworm/inchworm/query/Axis;" a_FOLLOWING_SIBLING 8) (En_PRECEDING_SIBLING : own_En Z "com/example/inchworm/inchworm/query/Axis" "PRECEDING_SIBLING" "Lcom/example/inchworm/inchworm/query/Axis;" a_PRECEDING_SIBLING 9) (En_FOLLOWING : own_En Z "com/example/inchworm/inchworm/query/Axis" "FOLLOWING" "Lcom/example/inchworm/inchworm/query/Axis;" a_FOLLOWING 10) (En_PRECEDING : own_En Z "com/example/inchworm/inchworm/query/Axis" "PRECEDING" "Lcom/example/inchworm/inchworm/query/Axis;" a_PRECEDING 11) :
    MetFree l (⟨"com/example/inchworm/inchworm/query/Axis", "includesSelf", "()Z"⟩ : MethodName) (head1 (Jvm.Cond.code (⟨"com/example/inchworm/inchworm/query/Axis", "includesSelf", "()Z"⟩ : MethodName) prog_48_method_5_code 1 (some .boolean) :: ws) ({ frames := 0, cells := 0, slots := 0, locals := 0 } : Room)) (fun aa_ U => aa_ = #[(Value.ref a)] ∧ Z.Warmed39 U.vm ∧ U.heap = h0) (fun _ _ _ _ _ => True) (fun _ UU_ oo_ UX_ => ∃ vv_ LL_, oo_ = .returned vv_ ∧ (own_rm2_Q Z a a_CHILD a_DESCENDANT a_DESCENDANT_OR_SELF a_SELF a_ATTRIBUTE a_PARENT a_ANCESTOR a_ANCESTOR_OR_SELF a_FOLLOWING_SIBLING a_PRECEDING_SIBLING a_FOLLOWING a_PRECEDING h0 n0) vv_ UX_.heap LL_ ∧ FrameEnd UU_ oo_ UX_ LL_ ({ frames := 0, cells := 0, slots := 0, locals := 0 } : Room).cells ({ frames := 0, cells := 0, slots := 0, locals := 0 } : Room).slots) := by
  refine MetFree.of_bodySF (plainFor_of_name own_pn1) hisR ?_
  intro p e s m args below meth c s₁ Bd hml0 hP hK
  obtain ⟨rfl, hZ, hh⟩ := hP
  have hx := Bd.exec
  have hby := Bd.bytes
  have hml : c.maxLocals = 1 := hml0
  have hown : s.vm.findClass "com/example/inchworm/inchworm/query/Axis" = some m.cls := findClass_of_methodNamed Bd.named
  have hnm := (name_of_methodNamed Bd.named Bd.method).1
  have hlk : meth.locks = false := BodyLoose.notSynchronized Bd
  have X0 : Stand p l e ({ frames := 0, cells := 0, slots := 0, locals := 0 } : Room) s m #[(Value.ref a)] below meth c s₁ [] 0 0 := Stand.of_body Bd
  have e0 : s₁.heap = h0 := by rw [← hh, Bd.state]; rfl
  have N0 := Fr.nil n0
  show own_G p e below s (own_rm2_Q Z a a_CHILD a_DESCENDANT a_DESCENDANT_OR_SELF a_SELF a_ATTRIBUTE a_PARENT a_ANCESTOR a_ANCESTOR_OR_SELF a_FOLLOWING_SIBLING a_PRECEDING_SIBLING a_FOLLOWING a_PRECEDING h0 n0) ({ frames := 0, cells := 0, slots := 0, locals := 0 } : Room).cells ({ frames := 0, cells := 0, slots := 0, locals := 0 } : Room).slots (s₁.setTop (entryFrame m #[(Value.ref a)] 1))
  refine own_cast (own_rm2_ef m a ) ?_
  show own_G p e below s _ _ _ (s₁.setTop (mkF m 0 #[.val (Value.ref a)] []))
  refine own_aloadN X0 hx hby own_d2_0 rfl rfl ?_
  show own_G p e below s _ _ _ (s₁.setTop (mkF m 1 #[.val (Value.ref a)] [(Value.ref a)]))
  obtain ⟨T1, X1, e1, st1⟩ := getS2 X0 hx hZ hown (host := "") (Or.inl (own_w13 hw)) Via.refl e0 (Sta.ext O0.2 En_SELF.1) (g := (mkF m 1 #[.val (Value.ref a)] [(Value.ref a)])) rfl (hb hby own_d2_1)
  refine own_st st1 ?_
  show own_G p e below s _ _ _ (T1.setTop (mkF m 4 #[.val (Value.ref a)] [(Value.ref a_SELF), (Value.ref a)]))
  refine own_acmp_eq X1 hx hby rfl rfl own_d2_4 (pc' := 21) (by decide) (by decide) (fun hb2 => ?_) (fun hb2 => ?_)
  · show own_G p e below s _ _ _ (T1.setTop (mkF m 21 #[.val (Value.ref a)] []))
    refine own_iconst X1 hx hby own_d2_21 ?_
    show own_G p e below s _ _ _ (T1.setTop (mkF m 22 #[.val (Value.ref a)] [(Value.int (1 : Int32))]))
    refine own_goto X1 hx hby own_d2_22 (pc' := 26) (by decide) (by decide) ?_
    show own_G p e below s _ _ _ (T1.setTop (mkF m 26 #[.val (Value.ref a)] [(Value.int (1 : Int32))]))
    refine own_retN X1 hx hby hlk (t := .boolean) Bd.returns (by simp) own_d2_26 (by decide) (by decide) ?_
    refine ⟨?_, e1, N0⟩
    show some (Value.int (1 : Int32)) = _
    simp only [own_inc, if_pos hb2]
  · show own_G p e below s _ _ _ (T1.setTop (mkF m 7 #[.val (Value.ref a)] []))
    refine own_aloadN X1 hx hby own_d2_7 rfl rfl ?_
    show own_G p e below s _ _ _ (T1.setTop (mkF m 8 #[.val (Value.ref a)] [(Value.ref a)]))
    obtain ⟨T3, X3, e3, st3⟩ := getS2 X1 hx hZ hown (host := "") (Or.inl (own_w15 hw)) Via.refl e1 (Sta.ext O0.2 En_DESCENDANT_OR_SELF.1) (g := (mkF m 8 #[.val (Value.ref a)] [(Value.ref a)])) rfl (hb hby own_d2_8)
    refine own_st st3 ?_
    show own_G p e below s _ _ _ (T3.setTop (mkF m 11 #[.val (Value.ref a)] [(Value.ref a_DESCENDANT_OR_SELF), (Value.ref a)]))
    refine own_acmp_eq X3 hx hby rfl rfl own_d2_11 (pc' := 21) (by decide) (by decide) (fun hb4 => ?_) (fun hb4 => ?_)
    · show own_G p e below s _ _ _ (T3.setTop (mkF m 21 #[.val (Value.ref a)] []))
      refine own_iconst X3 hx hby own_d2_21 ?_
      show own_G p e below s _ _ _ (T3.setTop (mkF m 22 #[.val (Value.ref a)] [(Value.int (1 : Int32))]))
      refine own_goto X3 hx hby own_d2_22 (pc' := 26) (by decide) (by decide) ?_
      show own_G p e below s _ _ _ (T3.setTop (mkF m 26 #[.val (Value.ref a)] [(Value.int (1 : Int32))]))
      refine own_retN X3 hx hby hlk (t := .boolean) Bd.returns (by simp) own_d2_26 (by decide) (by decide) ?_
      refine ⟨?_, e3, N0⟩
      show some (Value.int (1 : Int32)) = _
      simp only [own_inc, if_neg hb2, if_pos hb4]
    · show own_G p e below s _ _ _ (T3.setTop (mkF m 14 #[.val (Value.ref a)] []))
      refine own_aloadN X3 hx hby own_d2_14 rfl rfl ?_
      show own_G p e below s _ _ _ (T3.setTop (mkF m 15 #[.val (Value.ref a)] [(Value.ref a)]))
      obtain ⟨T5, X5, e5, st5⟩ := getS2 X3 hx hZ hown (host := "") (Or.inl (own_w17 hw)) Via.refl e3 (Sta.ext O0.2 En_ANCESTOR_OR_SELF.1) (g := (mkF m 15 #[.val (Value.ref a)] [(Value.ref a)])) rfl (hb hby own_d2_15)
      refine own_st st5 ?_
      show own_G p e below s _ _ _ (T5.setTop (mkF m 18 #[.val (Value.ref a)] [(Value.ref a_ANCESTOR_OR_SELF), (Value.ref a)]))
      refine own_acmp_ne X5 hx hby rfl rfl own_d2_18 (pc' := 25) (by decide) (by decide) (fun hb6 => ?_) (fun hb6 => ?_)
      · show own_G p e below s _ _ _ (T5.setTop (mkF m 25 #[.val (Value.ref a)] []))
        refine own_iconst X5 hx hby own_d2_25 ?_
        show own_G p e below s _ _ _ (T5.setTop (mkF m 26 #[.val (Value.ref a)] [(Value.int (0 : Int32))]))
        refine own_retN X5 hx hby hlk (t := .boolean) Bd.returns (by simp) own_d2_26 (by decide) (by decide) ?_
        refine ⟨?_, e5, N0⟩
        show some (Value.int (0 : Int32)) = _
        simp only [own_inc, if_neg hb2, if_neg hb4, if_neg hb6]
      · show own_G p e below s _ _ _ (T5.setTop (mkF m 21 #[.val (Value.ref a)] []))
        refine own_iconst X5 hx hby own_d2_21 ?_
        show own_G p e below s _ _ _ (T5.setTop (mkF m 22 #[.val (Value.ref a)] [(Value.int (1 : Int32))]))
        refine own_goto X5 hx hby own_d2_22 (pc' := 26) (by decide) (by decide) ?_
        show own_G p e below s _ _ _ (T5.setTop (mkF m 26 #[.val (Value.ref a)] [(Value.int (1 : Int32))]))
        refine own_retN X5 hx hby hlk (t := .boolean) Bd.returns (by simp) own_d2_26 (by decide) (by decide) ?_
        refine ⟨?_, e5, N0⟩
        show some (Value.int (1 : Int32)) = _
        simp only [own_inc, if_neg hb2, if_neg hb4, if_pos hb6]
def own_rm3_Q (Z : State) (i : Int32)  (h0 : Heap) (n0 : Nat) : Option Value → Heap → List Loc → Prop := fun v h L => v = some (Value.int (own_exp i)) ∧ h = h0 ∧ Fr n0 L
theorem own_rm3_ef (m : MethodId) (i : Int32)  : entryFrame m #[(Value.int i)] 1 = mkF m 0 #[.val (Value.int i)] [] := by first | (simp [entryFrame, mkF, argsToLocals, Value.category]; done) | rfl
set_option maxRecDepth 65536 in
set_option maxHeartbeats 40000000 in
theorem own_rm3 (l : Launch) (Z : State) (a0 : Array Value) (hw : ∀ d ∈ tables_1, d.before a0 Z = true) (ws : List Jvm.Cond) (i : Int32)  (h0 : Heap) (n0 : Nat) (O0 : Old Z n0 h0)  :
    MetFree l (⟨"com/example/inchworm/inchworm/query/AxisIncludesSelfPinLaw", "expected", "(I)Z"⟩ : MethodName) (head1 (Jvm.Cond.code (⟨"com/example/inchworm/inchworm/query/AxisIncludesSelfPinLaw", "expected", "(I)Z"⟩ : MethodName) method_3_code 1 (some .boolean) :: ws) ({ frames := 0, cells := 0, slots := 0, locals := 0 } : Room)) (fun aa_ U => aa_ = #[(Value.int i)] ∧ Z.Warmed39 U.vm ∧ U.heap = h0) (fun _ _ _ _ _ => True) (fun _ UU_ oo_ UX_ => ∃ vv_ LL_, oo_ = .returned vv_ ∧ (own_rm3_Q Z i h0 n0) vv_ UX_.heap LL_ ∧ FrameEnd UU_ oo_ UX_ LL_ ({ frames := 0, cells := 0, slots := 0, locals := 0 } : Room).cells ({ frames := 0, cells := 0, slots := 0, locals := 0 } : Room).slots) := by
  refine MetFree.of_bodySF (plainFor_of_name own_pn0) hisR ?_
  intro p e s m args below meth c s₁ Bd hml0 hP hK
  obtain ⟨rfl, hZ, hh⟩ := hP
  have hx := Bd.exec
  have hby := Bd.bytes
  have hml : c.maxLocals = 1 := hml0
  have hown : s.vm.findClass "com/example/inchworm/inchworm/query/AxisIncludesSelfPinLaw" = some m.cls := findClass_of_methodNamed Bd.named
  have hnm := (name_of_methodNamed Bd.named Bd.method).1
  have hlk : meth.locks = false := BodyLoose.notSynchronized Bd
  have X0 : Stand p l e ({ frames := 0, cells := 0, slots := 0, locals := 0 } : Room) s m #[(Value.int i)] below meth c s₁ [] 0 0 := Stand.of_body Bd
  have e0 : s₁.heap = h0 := by rw [← hh, Bd.state]; rfl
  have N0 := Fr.nil n0
  show own_G p e below s (own_rm3_Q Z i h0 n0) ({ frames := 0, cells := 0, slots := 0, locals := 0 } : Room).cells ({ frames := 0, cells := 0, slots := 0, locals := 0 } : Room).slots (s₁.setTop (entryFrame m #[(Value.int i)] 1))
  refine own_cast (own_rm3_ef m i ) ?_
  show own_G p e below s _ _ _ (s₁.setTop (mkF m 0 #[.val (Value.int i)] []))
  refine own_iloadN X0 hx hby own_d3_0 rfl ?_
  show own_G p e below s _ _ _ (s₁.setTop (mkF m 1 #[.val (Value.int i)] [(Value.int i)]))
  refine own_iconst X0 hx hby own_d3_1 ?_
  show own_G p e below s _ _ _ (s₁.setTop (mkF m 2 #[.val (Value.int i)] [(Value.int (2 : Int32)), (Value.int i)]))
  refine own_icmp_ne X0 hx hby own_d3_2 (pc' := 7) (by decide) (by decide) (fun hb1 => ?_) (fun hb1 => ?_)
  · show own_G p e below s _ _ _ (s₁.setTop (mkF m 7 #[.val (Value.int i)] []))
    refine own_iloadN X0 hx hby own_d3_7 rfl ?_
    show own_G p e below s _ _ _ (s₁.setTop (mkF m 8 #[.val (Value.int i)] [(Value.int i)]))
    refine own_iconst X0 hx hby own_d3_8 ?_
    show own_G p e below s _ _ _ (s₁.setTop (mkF m 9 #[.val (Value.int i)] [(Value.int (3 : Int32)), (Value.int i)]))
    refine own_icmp_ne X0 hx hby own_d3_9 (pc' := 14) (by decide) (by decide) (fun hb2 => ?_) (fun hb2 => ?_)
    · show own_G p e below s _ _ _ (s₁.setTop (mkF m 14 #[.val (Value.int i)] []))
      refine own_iloadN X0 hx hby own_d3_14 rfl ?_
      show own_G p e below s _ _ _ (s₁.setTop (mkF m 15 #[.val (Value.int i)] [(Value.int i)]))
      refine own_bipush X0 hx hby own_d3_15 ?_
      show own_G p e below s _ _ _ (s₁.setTop (mkF m 17 #[.val (Value.int i)] [(Value.int (7 : Int32)), (Value.int i)]))
      refine own_icmp_ne X0 hx hby own_d3_17 (pc' := 22) (by decide) (by decide) (fun hb3 => ?_) (fun hb3 => ?_)
      · show own_G p e below s _ _ _ (s₁.setTop (mkF m 22 #[.val (Value.int i)] []))
        refine own_iconst X0 hx hby own_d3_22 ?_
        show own_G p e below s _ _ _ (s₁.setTop (mkF m 23 #[.val (Value.int i)] [(Value.int (0 : Int32))]))
        refine own_retN X0 hx hby hlk (t := .boolean) Bd.returns (by simp) own_d3_23 (by decide) (by decide) ?_
        refine ⟨?_, e0, N0⟩
        show some (Value.int (0 : Int32)) = _
        simp only [own_exp, if_neg hb1, if_neg hb2, if_neg hb3]
      · show own_G p e below s _ _ _ (s₁.setTop (mkF m 20 #[.val (Value.int i)] []))
        refine own_iconst X0 hx hby own_d3_20 ?_
        show own_G p e below s _ _ _ (s₁.setTop (mkF m 21 #[.val (Value.int i)] [(Value.int (1 : Int32))]))
        refine own_retN X0 hx hby hlk (t := .boolean) Bd.returns (by simp) own_d3_21 (by decide) (by decide) ?_
        refine ⟨?_, e0, N0⟩
        show some (Value.int (1 : Int32)) = _
        simp only [own_exp, if_neg hb1, if_neg hb2, if_pos hb3]
    · show own_G p e below s _ _ _ (s₁.setTop (mkF m 12 #[.val (Value.int i)] []))
      refine own_iconst X0 hx hby own_d3_12 ?_
      show own_G p e below s _ _ _ (s₁.setTop (mkF m 13 #[.val (Value.int i)] [(Value.int (1 : Int32))]))
      refine own_retN X0 hx hby hlk (t := .boolean) Bd.returns (by simp) own_d3_13 (by decide) (by decide) ?_
      refine ⟨?_, e0, N0⟩
      show some (Value.int (1 : Int32)) = _
      simp only [own_exp, if_neg hb1, if_pos hb2]
  · show own_G p e below s _ _ _ (s₁.setTop (mkF m 5 #[.val (Value.int i)] []))
    refine own_iconst X0 hx hby own_d3_5 ?_
    show own_G p e below s _ _ _ (s₁.setTop (mkF m 6 #[.val (Value.int i)] [(Value.int (1 : Int32))]))
    refine own_retN X0 hx hby hlk (t := .boolean) Bd.returns (by simp) own_d3_6 (by decide) (by decide) ?_
    refine ⟨?_, e0, N0⟩
    show some (Value.int (1 : Int32)) = _
    simp only [own_exp, if_pos hb1]
def own_rm0_Q (Z : State) (x0 : Int32) (a_CHILD a_DESCENDANT a_DESCENDANT_OR_SELF a_SELF a_ATTRIBUTE a_PARENT a_ANCESTOR a_ANCESTOR_OR_SELF a_FOLLOWING_SIBLING a_PRECEDING_SIBLING a_FOLLOWING a_PRECEDING : Addr) (h0 : Heap) (n0 : Nat) : Option Value → Heap → List Loc → Prop := fun v h L => v = some (.int 1) ∧ Fr n0 L
theorem own_rm0_ef (m : MethodId) (x0 : Int32)  : entryFrame m #[(Value.int x0)] maxLocals = mkF m 0 #[.val (Value.int x0), .unset, .unset] [] := by first | (simp [entryFrame, mkF, argsToLocals, Value.category, maxLocals]; done) | rfl
set_option maxRecDepth 65536 in
set_option maxHeartbeats 40000000 in
theorem own_rm0 (l : Launch) (Z : State) (a0 : Array Value) (hw : ∀ d ∈ tables_1, d.before a0 Z = true) (ws : List Jvm.Cond) (x0 : Int32) (a_CHILD a_DESCENDANT a_DESCENDANT_OR_SELF a_SELF a_ATTRIBUTE a_PARENT a_ANCESTOR a_ANCESTOR_OR_SELF a_FOLLOWING_SIBLING a_PRECEDING_SIBLING a_FOLLOWING a_PRECEDING : Addr) (h0 : Heap) (n0 : Nat) (O0 : Old Z n0 h0) (En_CHILD : own_En Z "com/example/inchworm/inchworm/query/Axis" "CHILD" "Lcom/example/inchworm/inchworm/query/Axis;" a_CHILD 0) (En_DESCENDANT : own_En Z "com/example/inchworm/inchworm/query/Axis" "DESCENDANT" "Lcom/example/inchworm/inchworm/query/Axis;" a_DESCENDANT 1) (En_DESCENDANT_OR_SELF : own_En Z "com/example/inchworm/inchworm/query/Axis" "DESCENDANT_OR_SELF" "Lcom/example/inchworm/inchworm/query/Axis;" a_DESCENDANT_OR_SELF 2) (En_SELF : own_En Z "com/example/inchworm/inchworm/query/Axis" "SELF" "Lcom/example/inchworm/inchworm/query/Axis;" a_SELF 3) (En_ATTRIBUTE : own_En Z "com/example/inchworm/inchworm/query/Axis" "ATTRIBUTE" "Lcom/example/inchworm/inchworm/query/Axis;" a_ATTRIBUTE 4) (En_PARENT : own_En Z "com/example/inchworm/inchworm/query/Axis" "PARENT" "Lcom/example/inchworm/inchworm/query/Axis;" a_PARENT 5) (En_ANCESTOR : own_En Z "com/example/inchworm/inchworm/query/Axis" "ANCESTOR" "Lcom/example/inchworm/inchworm/query/Axis;" a_ANCESTOR 6) (En_ANCESTOR_OR_SELF : own_En Z "com/example/inchworm/inchworm/query/Axis" "ANCESTOR_OR_SELF" "Lcom/example/inchworm/inchworm/query/Axis;" a_ANCESTOR_OR_SELF 7) (En_FOLLOWING_SIBLING : own_En Z "com/example/inchworm/inchworm/query/Axis" "FOLLOWING_SIBLING" "Lcom/example/inchworm/inchworm/query/Axis;" a_FOLLOWING_SIBLING 8) (En_PRECEDING_SIBLING : own_En Z "com/example/inchworm/inchworm/query/Axis" "PRECEDING_SIBLING" "Lcom/example/inchworm/inchworm/query/Axis;" a_PRECEDING_SIBLING 9) (En_FOLLOWING : own_En Z "com/example/inchworm/inchworm/query/Axis" "FOLLOWING" "Lcom/example/inchworm/inchworm/query/Axis;" a_FOLLOWING 10) (En_PRECEDING : own_En Z "com/example/inchworm/inchworm/query/Axis" "PRECEDING" "Lcom/example/inchworm/inchworm/query/Axis;" a_PRECEDING 11) :
    MetFree l x (head1 (Jvm.Cond.code x code maxLocals ret :: ws) room_1) (fun aa_ U => aa_ = #[(Value.int x0)] ∧ Z.Warmed39 U.vm ∧ U.heap = h0) (fun _ _ _ _ _ => True) (fun _ UU_ oo_ UX_ => ∃ vv_ LL_, oo_ = .returned vv_ ∧ (own_rm0_Q Z x0 a_CHILD a_DESCENDANT a_DESCENDANT_OR_SELF a_SELF a_ATTRIBUTE a_PARENT a_ANCESTOR a_ANCESTOR_OR_SELF a_FOLLOWING_SIBLING a_PRECEDING_SIBLING a_FOLLOWING a_PRECEDING h0 n0) vv_ UX_.heap LL_ ∧ FrameEnd UU_ oo_ UX_ LL_ 0 0) := by
  refine MetFree.of_bodySF (plainFor_of_name own_pn0) hisR ?_
  intro p e s m args below meth c s₁ Bd hml0 hP hK
  obtain ⟨rfl, hZ, hh⟩ := hP
  have hx := Bd.exec
  have hby := Bd.bytes
  have hml : c.maxLocals = 3 := hml0
  have hown : s.vm.findClass "com/example/inchworm/inchworm/query/AxisIncludesSelfPinLaw" = some m.cls := findClass_of_methodNamed Bd.named
  have hnm := (name_of_methodNamed Bd.named Bd.method).1
  have hlk : meth.locks = false := BodyLoose.notSynchronized Bd
  have X0 : Stand p l e room_1 s m #[(Value.int x0)] below meth c s₁ [] 0 0 := Stand.of_body Bd
  have e0 : s₁.heap = h0 := by rw [← hh, Bd.state]; rfl
  have N0 := Fr.nil n0
  show own_G p e below s (own_rm0_Q Z x0 a_CHILD a_DESCENDANT a_DESCENDANT_OR_SELF a_SELF a_ATTRIBUTE a_PARENT a_ANCESTOR a_ANCESTOR_OR_SELF a_FOLLOWING_SIBLING a_PRECEDING_SIBLING a_FOLLOWING a_PRECEDING h0 n0) 0 0 (s₁.setTop (entryFrame m #[(Value.int x0)] maxLocals))
  refine own_cast (own_rm0_ef m x0 ) ?_
  show own_G p e below s _ _ _ (s₁.setTop (mkF m 0 #[.val (Value.int x0), .unset, .unset] []))
  refine own_iloadN X0 hx hby at_0 rfl ?_
  show own_G p e below s _ _ _ (s₁.setTop (mkF m 1 #[.val (Value.int x0), .unset, .unset] [(Value.int x0)]))
  refine own_ldcI X0 hx hby hZ hown (own_w0 hw) at_1 ?_
  show own_G p e below s _ _ _ (s₁.setTop (mkF m 3 #[.val (Value.int x0), .unset, .unset] [(Value.int (2147483647 : Int32)), (Value.int x0)]))
  refine own_iand X0 hx hby at_3 ?_
  show own_G p e below s _ _ _ (s₁.setTop (mkF m 4 #[.val (Value.int x0), .unset, .unset] [(Value.int (x0 &&& (2147483647 : Int32)))]))
  refine own_bipush X0 hx hby at_4 ?_
  show own_G p e below s _ _ _ (s₁.setTop (mkF m 6 #[.val (Value.int x0), .unset, .unset] [(Value.int (12 : Int32)), (Value.int (x0 &&& (2147483647 : Int32)))]))
  refine own_irem X0 hx hby at_6 (by decide) ?_
  show own_G p e below s _ _ _ (s₁.setTop (mkF m 7 #[.val (Value.int x0), .unset, .unset] [(Value.int ((x0 &&& (2147483647 : Int32)) % (12 : Int32)))]))
  refine own_istoreN X0 hx hby at_7 (l' := #[.val (Value.int x0), .val (Value.int ((x0 &&& (2147483647 : Int32)) % (12 : Int32))), .unset]) rfl ?_
  show own_G p e below s _ _ _ (s₁.setTop (mkF m 8 #[.val (Value.int x0), .val (Value.int ((x0 &&& (2147483647 : Int32)) % (12 : Int32))), .unset] []))
  refine own_iloadN X0 hx hby at_8 rfl ?_
  show own_G p e below s _ _ _ (s₁.setTop (mkF m 9 #[.val (Value.int x0), .val (Value.int ((x0 &&& (2147483647 : Int32)) % (12 : Int32))), .unset] [(Value.int ((x0 &&& (2147483647 : Int32)) % (12 : Int32)))]))
  obtain ⟨_, _, ⟨T1, L1, k1, n1⟩, -, X1, ⟨Lc1, hQ1, l1, y1, z1⟩, st1⟩ := Jvm.LawKit.callS X0 hx (y := (⟨"com/example/inchworm/inchworm/query/AxisIncludesSelfPinLaw", "axisAt", "(I)Lcom/example/inchworm/inchworm/query/Axis;"⟩ : MethodName)) hown (mvT hZ (own_w1 hw)) (mvT hZ (own_w2 hw)) (mvT hZ (own_w3 hw)) (mvT hZ (own_w4 hw)) (by decide) (backOf (W := 0) (own_rm1 l Z a0 hw [] ((x0 &&& (2147483647 : Int32)) % (12 : Int32)) a_CHILD a_DESCENDANT a_DESCENDANT_OR_SELF a_SELF a_ATTRIBUTE a_PARENT a_ANCESTOR a_ANCESTOR_OR_SELF a_FOLLOWING_SIBLING a_PRECEDING_SIBLING a_FOLLOWING a_PRECEDING h0 n0 O0  En_CHILD En_DESCENDANT En_DESCENDANT_OR_SELF En_SELF En_ATTRIBUTE En_PARENT En_ANCESTOR En_ANCESTOR_OR_SELF En_FOLLOWING_SIBLING En_PRECEDING_SIBLING En_FOLLOWING En_PRECEDING) hZ (own_w4 hw) (own_w3 hw) (by decide) (by decide)) (g := (mkF m 9 #[.val (Value.int x0), .val (Value.int ((x0 &&& (2147483647 : Int32)) % (12 : Int32))), .unset] [(Value.int ((x0 &&& (2147483647 : Int32)) % (12 : Int32)))])) rfl (by rw [hml]; rfl) (argsL := [(Value.int ((x0 &&& (2147483647 : Int32)) % (12 : Int32)))]) (rest := []) (lenOf own_pd0 rfl) rfl (by show 2 * 0 + _ ≤ _; exact Nat.le_of_eq rfl) (hb hby at_9) (fun _ _ => ⟨rfl, e0, (by decide : (0 : Nat) + 0 ≤ _), (by decide : (0 : Nat) + 0 ≤ _)⟩)
  dsimp only [Pt.U, Pt.locs, Pt.cells, Pt.slots] at X1 l1 y1 z1 st1 hQ1
  subst l1 y1 z1
  obtain ⟨rfl, e1, Nq1⟩ := hQ1
  have N1 := Fr.app N0 Nq1
  refine own_st st1 ?_
  show own_G p e below s _ _ _ (T1.setTop (mkF m 12 #[.val (Value.int x0), .val (Value.int ((x0 &&& (2147483647 : Int32)) % (12 : Int32))), .unset] [(Value.ref (own_axis ((x0 &&& (2147483647 : Int32)) % (12 : Int32)) a_CHILD a_DESCENDANT a_DESCENDANT_OR_SELF a_SELF a_ATTRIBUTE a_PARENT a_ANCESTOR a_ANCESTOR_OR_SELF a_FOLLOWING_SIBLING a_PRECEDING_SIBLING a_FOLLOWING a_PRECEDING))]))
  refine own_astoreN X1 hx hby at_12 rfl (l' := #[.val (Value.int x0), .val (Value.int ((x0 &&& (2147483647 : Int32)) % (12 : Int32))), .val (Value.ref (own_axis ((x0 &&& (2147483647 : Int32)) % (12 : Int32)) a_CHILD a_DESCENDANT a_DESCENDANT_OR_SELF a_SELF a_ATTRIBUTE a_PARENT a_ANCESTOR a_ANCESTOR_OR_SELF a_FOLLOWING_SIBLING a_PRECEDING_SIBLING a_FOLLOWING a_PRECEDING))]) rfl ?_
  show own_G p e below s _ _ _ (T1.setTop (mkF m 13 #[.val (Value.int x0), .val (Value.int ((x0 &&& (2147483647 : Int32)) % (12 : Int32))), .val (Value.ref (own_axis ((x0 &&& (2147483647 : Int32)) % (12 : Int32)) a_CHILD a_DESCENDANT a_DESCENDANT_OR_SELF a_SELF a_ATTRIBUTE a_PARENT a_ANCESTOR a_ANCESTOR_OR_SELF a_FOLLOWING_SIBLING a_PRECEDING_SIBLING a_FOLLOWING a_PRECEDING))] []))
  refine own_aloadN X1 hx hby at_13 rfl rfl ?_
  show own_G p e below s _ _ _ (T1.setTop (mkF m 14 #[.val (Value.int x0), .val (Value.int ((x0 &&& (2147483647 : Int32)) % (12 : Int32))), .val (Value.ref (own_axis ((x0 &&& (2147483647 : Int32)) % (12 : Int32)) a_CHILD a_DESCENDANT a_DESCENDANT_OR_SELF a_SELF a_ATTRIBUTE a_PARENT a_ANCESTOR a_ANCESTOR_OR_SELF a_FOLLOWING_SIBLING a_PRECEDING_SIBLING a_FOLLOWING a_PRECEDING))] [(Value.ref (own_axis ((x0 &&& (2147483647 : Int32)) % (12 : Int32)) a_CHILD a_DESCENDANT a_DESCENDANT_OR_SELF a_SELF a_ATTRIBUTE a_PARENT a_ANCESTOR a_ANCESTOR_OR_SELF a_FOLLOWING_SIBLING a_PRECEDING_SIBLING a_FOLLOWING a_PRECEDING))]))
  obtain ⟨cq2, kq2, q2a, q2b, q2c⟩ := isOf (T := T1) hZ e1 (own_axis_exa _ (Exa.ext O0.2 En_CHILD.2.1) (Exa.ext O0.2 En_DESCENDANT.2.1) (Exa.ext O0.2 En_DESCENDANT_OR_SELF.2.1) (Exa.ext O0.2 En_SELF.2.1) (Exa.ext O0.2 En_ATTRIBUTE.2.1) (Exa.ext O0.2 En_PARENT.2.1) (Exa.ext O0.2 En_ANCESTOR.2.1) (Exa.ext O0.2 En_ANCESTOR_OR_SELF.2.1) (Exa.ext O0.2 En_FOLLOWING_SIBLING.2.1) (Exa.ext O0.2 En_PRECEDING_SIBLING.2.1) (Exa.ext O0.2 En_FOLLOWING.2.1) (Exa.ext O0.2 En_PRECEDING.2.1))
  obtain ⟨_, _, ⟨T2, L2, k2, n2⟩, -, X2, ⟨Lc2, hQ2, l2, y2, z2⟩, st2⟩ := X1.virtualBack hx (y := (⟨"com/example/inchworm/inchworm/query/Axis", "includesSelf", "()Z"⟩ : MethodName)) (z := (⟨"com/example/inchworm/inchworm/query/Axis", "includesSelf", "()Z"⟩ : MethodName)) hown (mvT hZ (own_w8 hw)) (mvT hZ (own_w9 hw)) (notFace_of_selects (args := #[]) (mvT hZ (own_w11 hw))) (mvT hZ (own_w11 hw)) (mvT hZ (own_w10 hw)) (by decide) (backOf (W := 0) (own_rm2 l Z a0 hw [] (own_axis ((x0 &&& (2147483647 : Int32)) % (12 : Int32)) a_CHILD a_DESCENDANT a_DESCENDANT_OR_SELF a_SELF a_ATTRIBUTE a_PARENT a_ANCESTOR a_ANCESTOR_OR_SELF a_FOLLOWING_SIBLING a_PRECEDING_SIBLING a_FOLLOWING a_PRECEDING) a_CHILD a_DESCENDANT a_DESCENDANT_OR_SELF a_SELF a_ATTRIBUTE a_PARENT a_ANCESTOR a_ANCESTOR_OR_SELF a_FOLLOWING_SIBLING a_PRECEDING_SIBLING a_FOLLOWING a_PRECEDING h0 n0 O0  En_CHILD En_DESCENDANT En_DESCENDANT_OR_SELF En_SELF En_ATTRIBUTE En_PARENT En_ANCESTOR En_ANCESTOR_OR_SELF En_FOLLOWING_SIBLING En_PRECEDING_SIBLING En_FOLLOWING En_PRECEDING) hZ (own_w12 hw) (own_w6 hw) (by decide) (by decide)) q2a q2c (g := (mkF m 14 #[.val (Value.int x0), .val (Value.int ((x0 &&& (2147483647 : Int32)) % (12 : Int32))), .val (Value.ref (own_axis ((x0 &&& (2147483647 : Int32)) % (12 : Int32)) a_CHILD a_DESCENDANT a_DESCENDANT_OR_SELF a_SELF a_ATTRIBUTE a_PARENT a_ANCESTOR a_ANCESTOR_OR_SELF a_FOLLOWING_SIBLING a_PRECEDING_SIBLING a_FOLLOWING a_PRECEDING))] [(Value.ref (own_axis ((x0 &&& (2147483647 : Int32)) % (12 : Int32)) a_CHILD a_DESCENDANT a_DESCENDANT_OR_SELF a_SELF a_ATTRIBUTE a_PARENT a_ANCESTOR a_ANCESTOR_OR_SELF a_FOLLOWING_SIBLING a_PRECEDING_SIBLING a_FOLLOWING a_PRECEDING))])) rfl (by rw [hml]; rfl) (Steps.refl _) (argsL := []) (rest := []) (lenOf own_pd1 rfl) rfl (by show 2 * 0 + _ ≤ _; exact Nat.le_of_eq rfl) (hb hby at_14) (fun _ _ => ⟨rfl, e1, (by decide : (0 : Nat) + 0 ≤ _), (by decide : (0 : Nat) + 0 ≤ _)⟩)
  dsimp only [Pt.U, Pt.locs, Pt.cells, Pt.slots] at X2 l2 y2 z2 st2 hQ2
  subst l2 y2 z2
  obtain ⟨rfl, e2, Nq2⟩ := hQ2
  have N2 := Fr.app N1 Nq2
  refine own_tr st2 ?_
  show own_G p e below s _ _ _ (T2.setTop (mkF m 17 #[.val (Value.int x0), .val (Value.int ((x0 &&& (2147483647 : Int32)) % (12 : Int32))), .val (Value.ref (own_axis ((x0 &&& (2147483647 : Int32)) % (12 : Int32)) a_CHILD a_DESCENDANT a_DESCENDANT_OR_SELF a_SELF a_ATTRIBUTE a_PARENT a_ANCESTOR a_ANCESTOR_OR_SELF a_FOLLOWING_SIBLING a_PRECEDING_SIBLING a_FOLLOWING a_PRECEDING))] [(Value.int (own_inc (own_axis ((x0 &&& (2147483647 : Int32)) % (12 : Int32)) a_CHILD a_DESCENDANT a_DESCENDANT_OR_SELF a_SELF a_ATTRIBUTE a_PARENT a_ANCESTOR a_ANCESTOR_OR_SELF a_FOLLOWING_SIBLING a_PRECEDING_SIBLING a_FOLLOWING a_PRECEDING) a_SELF a_DESCENDANT_OR_SELF a_ANCESTOR_OR_SELF))]))
  refine own_iloadN X2 hx hby at_17 rfl ?_
  show own_G p e below s _ _ _ (T2.setTop (mkF m 18 #[.val (Value.int x0), .val (Value.int ((x0 &&& (2147483647 : Int32)) % (12 : Int32))), .val (Value.ref (own_axis ((x0 &&& (2147483647 : Int32)) % (12 : Int32)) a_CHILD a_DESCENDANT a_DESCENDANT_OR_SELF a_SELF a_ATTRIBUTE a_PARENT a_ANCESTOR a_ANCESTOR_OR_SELF a_FOLLOWING_SIBLING a_PRECEDING_SIBLING a_FOLLOWING a_PRECEDING))] [(Value.int ((x0 &&& (2147483647 : Int32)) % (12 : Int32))), (Value.int (own_inc (own_axis ((x0 &&& (2147483647 : Int32)) % (12 : Int32)) a_CHILD a_DESCENDANT a_DESCENDANT_OR_SELF a_SELF a_ATTRIBUTE a_PARENT a_ANCESTOR a_ANCESTOR_OR_SELF a_FOLLOWING_SIBLING a_PRECEDING_SIBLING a_FOLLOWING a_PRECEDING) a_SELF a_DESCENDANT_OR_SELF a_ANCESTOR_OR_SELF))]))
  obtain ⟨_, _, ⟨T3, L3, k3, n3⟩, -, X3, ⟨Lc3, hQ3, l3, y3, z3⟩, st3⟩ := Jvm.LawKit.callS X2 hx (y := (⟨"com/example/inchworm/inchworm/query/AxisIncludesSelfPinLaw", "expected", "(I)Z"⟩ : MethodName)) hown (mvT hZ (own_w19 hw)) (mvT hZ (own_w20 hw)) (mvT hZ (own_w3 hw)) (mvT hZ (own_w21 hw)) (by decide) (backOf (W := 1) (own_rm3 l Z a0 hw [] ((x0 &&& (2147483647 : Int32)) % (12 : Int32))  h0 n0 O0  ) hZ (own_w21 hw) (own_w3 hw) (by decide) (by decide)) (g := (mkF m 18 #[.val (Value.int x0), .val (Value.int ((x0 &&& (2147483647 : Int32)) % (12 : Int32))), .val (Value.ref (own_axis ((x0 &&& (2147483647 : Int32)) % (12 : Int32)) a_CHILD a_DESCENDANT a_DESCENDANT_OR_SELF a_SELF a_ATTRIBUTE a_PARENT a_ANCESTOR a_ANCESTOR_OR_SELF a_FOLLOWING_SIBLING a_PRECEDING_SIBLING a_FOLLOWING a_PRECEDING))] [(Value.int ((x0 &&& (2147483647 : Int32)) % (12 : Int32))), (Value.int (own_inc (own_axis ((x0 &&& (2147483647 : Int32)) % (12 : Int32)) a_CHILD a_DESCENDANT a_DESCENDANT_OR_SELF a_SELF a_ATTRIBUTE a_PARENT a_ANCESTOR a_ANCESTOR_OR_SELF a_FOLLOWING_SIBLING a_PRECEDING_SIBLING a_FOLLOWING a_PRECEDING) a_SELF a_DESCENDANT_OR_SELF a_ANCESTOR_OR_SELF))])) rfl (by rw [hml]; rfl) (argsL := [(Value.int ((x0 &&& (2147483647 : Int32)) % (12 : Int32)))]) (rest := [(Value.int (own_inc (own_axis ((x0 &&& (2147483647 : Int32)) % (12 : Int32)) a_CHILD a_DESCENDANT a_DESCENDANT_OR_SELF a_SELF a_ATTRIBUTE a_PARENT a_ANCESTOR a_ANCESTOR_OR_SELF a_FOLLOWING_SIBLING a_PRECEDING_SIBLING a_FOLLOWING a_PRECEDING) a_SELF a_DESCENDANT_OR_SELF a_ANCESTOR_OR_SELF))]) (lenOf own_pd2 rfl) rfl (by show 2 * 0 + _ ≤ _; exact Nat.le_of_eq rfl) (hb hby at_18) (fun _ _ => ⟨rfl, e2, (by decide : (0 : Nat) + 0 ≤ _), (by decide : (0 : Nat) + 0 ≤ _)⟩)
  dsimp only [Pt.U, Pt.locs, Pt.cells, Pt.slots] at X3 l3 y3 z3 st3 hQ3
  subst l3 y3 z3
  obtain ⟨rfl, e3, Nq3⟩ := hQ3
  have N3 := Fr.app N2 Nq3
  refine own_st st3 ?_
  show own_G p e below s _ _ _ (T3.setTop (mkF m 21 #[.val (Value.int x0), .val (Value.int ((x0 &&& (2147483647 : Int32)) % (12 : Int32))), .val (Value.ref (own_axis ((x0 &&& (2147483647 : Int32)) % (12 : Int32)) a_CHILD a_DESCENDANT a_DESCENDANT_OR_SELF a_SELF a_ATTRIBUTE a_PARENT a_ANCESTOR a_ANCESTOR_OR_SELF a_FOLLOWING_SIBLING a_PRECEDING_SIBLING a_FOLLOWING a_PRECEDING))] [(Value.int (own_exp ((x0 &&& (2147483647 : Int32)) % (12 : Int32)))), (Value.int (own_inc (own_axis ((x0 &&& (2147483647 : Int32)) % (12 : Int32)) a_CHILD a_DESCENDANT a_DESCENDANT_OR_SELF a_SELF a_ATTRIBUTE a_PARENT a_ANCESTOR a_ANCESTOR_OR_SELF a_FOLLOWING_SIBLING a_PRECEDING_SIBLING a_FOLLOWING a_PRECEDING) a_SELF a_DESCENDANT_OR_SELF a_ANCESTOR_OR_SELF))]))
  refine own_icmp_ne X3 hx hby at_21 (pc' := 28) (by decide) (by decide) (fun hb4 => by exfalso; exact hb4 (own_law _ a_CHILD a_DESCENDANT a_DESCENDANT_OR_SELF a_SELF a_ATTRIBUTE a_PARENT a_ANCESTOR a_ANCESTOR_OR_SELF a_FOLLOWING_SIBLING a_PRECEDING_SIBLING a_FOLLOWING a_PRECEDING (Fld.ne En_CHILD.2.2 En_SELF.2.2 (by decide)) (Fld.ne En_CHILD.2.2 En_DESCENDANT_OR_SELF.2.2 (by decide)) (Fld.ne En_CHILD.2.2 En_ANCESTOR_OR_SELF.2.2 (by decide)) (Fld.ne En_DESCENDANT.2.2 En_SELF.2.2 (by decide)) (Fld.ne En_DESCENDANT.2.2 En_DESCENDANT_OR_SELF.2.2 (by decide)) (Fld.ne En_DESCENDANT.2.2 En_ANCESTOR_OR_SELF.2.2 (by decide)) (Fld.ne En_DESCENDANT_OR_SELF.2.2 En_SELF.2.2 (by decide)) (Fld.ne En_DESCENDANT_OR_SELF.2.2 En_ANCESTOR_OR_SELF.2.2 (by decide)) (Fld.ne En_SELF.2.2 En_DESCENDANT_OR_SELF.2.2 (by decide)) (Fld.ne En_SELF.2.2 En_ANCESTOR_OR_SELF.2.2 (by decide)) (Fld.ne En_ATTRIBUTE.2.2 En_SELF.2.2 (by decide)) (Fld.ne En_ATTRIBUTE.2.2 En_DESCENDANT_OR_SELF.2.2 (by decide)) (Fld.ne En_ATTRIBUTE.2.2 En_ANCESTOR_OR_SELF.2.2 (by decide)) (Fld.ne En_PARENT.2.2 En_SELF.2.2 (by decide)) (Fld.ne En_PARENT.2.2 En_DESCENDANT_OR_SELF.2.2 (by decide)) (Fld.ne En_PARENT.2.2 En_ANCESTOR_OR_SELF.2.2 (by decide)) (Fld.ne En_ANCESTOR.2.2 En_SELF.2.2 (by decide)) (Fld.ne En_ANCESTOR.2.2 En_DESCENDANT_OR_SELF.2.2 (by decide)) (Fld.ne En_ANCESTOR.2.2 En_ANCESTOR_OR_SELF.2.2 (by decide)) (Fld.ne En_ANCESTOR_OR_SELF.2.2 En_SELF.2.2 (by decide)) (Fld.ne En_ANCESTOR_OR_SELF.2.2 En_DESCENDANT_OR_SELF.2.2 (by decide)) (Fld.ne En_FOLLOWING_SIBLING.2.2 En_SELF.2.2 (by decide)) (Fld.ne En_FOLLOWING_SIBLING.2.2 En_DESCENDANT_OR_SELF.2.2 (by decide)) (Fld.ne En_FOLLOWING_SIBLING.2.2 En_ANCESTOR_OR_SELF.2.2 (by decide)) (Fld.ne En_PRECEDING_SIBLING.2.2 En_SELF.2.2 (by decide)) (Fld.ne En_PRECEDING_SIBLING.2.2 En_DESCENDANT_OR_SELF.2.2 (by decide)) (Fld.ne En_PRECEDING_SIBLING.2.2 En_ANCESTOR_OR_SELF.2.2 (by decide)) (Fld.ne En_FOLLOWING.2.2 En_SELF.2.2 (by decide)) (Fld.ne En_FOLLOWING.2.2 En_DESCENDANT_OR_SELF.2.2 (by decide)) (Fld.ne En_FOLLOWING.2.2 En_ANCESTOR_OR_SELF.2.2 (by decide)) (Fld.ne En_PRECEDING.2.2 En_SELF.2.2 (by decide)) (Fld.ne En_PRECEDING.2.2 En_DESCENDANT_OR_SELF.2.2 (by decide)) (Fld.ne En_PRECEDING.2.2 En_ANCESTOR_OR_SELF.2.2 (by decide)))) (fun hb4 => ?_)
  show own_G p e below s _ _ _ (T3.setTop (mkF m 24 #[.val (Value.int x0), .val (Value.int ((x0 &&& (2147483647 : Int32)) % (12 : Int32))), .val (Value.ref (own_axis ((x0 &&& (2147483647 : Int32)) % (12 : Int32)) a_CHILD a_DESCENDANT a_DESCENDANT_OR_SELF a_SELF a_ATTRIBUTE a_PARENT a_ANCESTOR a_ANCESTOR_OR_SELF a_FOLLOWING_SIBLING a_PRECEDING_SIBLING a_FOLLOWING a_PRECEDING))] []))
  refine own_iconst X3 hx hby at_24 ?_
  show own_G p e below s _ _ _ (T3.setTop (mkF m 25 #[.val (Value.int x0), .val (Value.int ((x0 &&& (2147483647 : Int32)) % (12 : Int32))), .val (Value.ref (own_axis ((x0 &&& (2147483647 : Int32)) % (12 : Int32)) a_CHILD a_DESCENDANT a_DESCENDANT_OR_SELF a_SELF a_ATTRIBUTE a_PARENT a_ANCESTOR a_ANCESTOR_OR_SELF a_FOLLOWING_SIBLING a_PRECEDING_SIBLING a_FOLLOWING a_PRECEDING))] [(Value.int (1 : Int32))]))
  refine own_goto X3 hx hby at_25 (pc' := 29) (by decide) (by decide) ?_
  show own_G p e below s _ _ _ (T3.setTop (mkF m 29 #[.val (Value.int x0), .val (Value.int ((x0 &&& (2147483647 : Int32)) % (12 : Int32))), .val (Value.ref (own_axis ((x0 &&& (2147483647 : Int32)) % (12 : Int32)) a_CHILD a_DESCENDANT a_DESCENDANT_OR_SELF a_SELF a_ATTRIBUTE a_PARENT a_ANCESTOR a_ANCESTOR_OR_SELF a_FOLLOWING_SIBLING a_PRECEDING_SIBLING a_FOLLOWING a_PRECEDING))] [(Value.int (1 : Int32))]))
  refine own_retN X3 hx hby hlk (t := .boolean) Bd.returns (by simp) at_29 (by decide) (by decide) ?_
  exact ⟨rfl, N3⟩
set_option maxRecDepth 65536 in
set_option maxHeartbeats 40000000 in
theorem comes_1 {Post : Tables → Env → Array Value → State → Outcome → State → Prop} (hpost : ∀ tb e args s v u, (limb_1_1.after args s (.returned v) u = true ∧ limb_1_2.after args s (.returned v) u = true ∧ True) → FrameEnd s (.returned v) u (Jvm.fieldLocs frame_1_writes args s ++ Jvm.arrayLocs frame_1_arrays args s ++ Jvm.staticLocs frame_1_statics s) 0 0 → Post tb e args s (.returned v) u) :
    ArmFor flags0 classFile x code maxLocals ret World_1 tables_1 room_1 Calls_1 rest_1 Pre_1 Post := by
  intro l hfl _ _ p e ha hc hk s m args below hf hA hF happ hP
  obtain ⟨hcalls, hrest, hpre⟩ := hP
  obtain ⟨-, -, -, hnamed, -, -, -, hat⟩ := (Spec.applies_iff hf).mp happ
  obtain ⟨hg, hn⟩ := and_e (Cond.before_iff.mp (show (Jvm.Cond.and given_1 narrow_1).before args s = true from hpre))
  obtain ⟨hgc, hgr0⟩ := and_e hg
  have hga0 := hgr0
  obtain ⟨w0, rfl⟩ : ∃ w0 : Value, args = #[w0] := by
    have hs : args.size = 1 := by simpa [Cond.value, given_1] using hgc
    obtain ⟨L⟩ := args
    match L, hs with
    | [w0], _ => exact ⟨w0, rfl⟩
  have hw := fun d (hd : d ∈ tables_1) => atoms_spec (ws := Jvm.Cond.code x code maxLocals ret :: tables_1) hat d (List.mem_cons_of_mem _ hd)
  have hfit : Fit s := fun {y c} hc i hi => by
    obtain ⟨ha, rfl⟩ := Array.getElem?_eq_some_iff.mp hc
    have q := List.all_eq_true.mp ((Array.all_eq_true_iff_forall_mem.mp hF) _ (Array.getElem_mem ha)) i (List.mem_range.mpr hi)
    simpa [Array.getElem?_eq_getElem hi] using q
  obtain ⟨i0, ei0⟩ := is_v hga0
  obtain rfl : w0 = (.int i0) := Option.some.inj ei0
  obtain ⟨hn1a, hn1b⟩ := and_e hn
  obtain ⟨hn2a, hn2b⟩ := and_e hn1b
  obtain ⟨hn3a, hn3b⟩ := and_e hn2b
  obtain ⟨hn4a, hn4b⟩ := and_e hn3b
  obtain ⟨hn5a, hn5b⟩ := and_e hn4b
  obtain ⟨hn6a, hn6b⟩ := and_e hn5b
  obtain ⟨hn7a, hn7b⟩ := and_e hn6b
  obtain ⟨hn8a, hn8b⟩ := and_e hn7b
  obtain ⟨hn9a, hn9b⟩ := and_e hn8b
  obtain ⟨hn10a, hn10b⟩ := and_e hn9b
  obtain ⟨hn11a, hn11b⟩ := and_e hn10b
  obtain ⟨hn12a, hn12b⟩ := and_e hn11b
  obtain ⟨hn13a, hn13b⟩ := and_e hn12b
  obtain ⟨hn14a, hn14b⟩ := and_e hn13b
  obtain ⟨hn15a, hn15b⟩ := and_e hn14b
  obtain ⟨hn16a, hn16b⟩ := and_e hn15b
  obtain ⟨hn17a, hn17b⟩ := and_e hn16b
  obtain ⟨hn18a, hn18b⟩ := and_e hn17b
  obtain ⟨hn19a, hn19b⟩ := and_e hn18b
  obtain ⟨hn20a, hn20b⟩ := and_e hn19b
  obtain ⟨hn21a, hn21b⟩ := and_e hn20b
  obtain ⟨hn22a, hn22b⟩ := and_e hn21b
  obtain ⟨hn23a, hn23b⟩ := and_e hn22b
  obtain ⟨a_CHILD, En_CHILD⟩ := own_enum hn1a hn3a (own_w6 hw) (own_w7 hw)
  obtain ⟨a_DESCENDANT, En_DESCENDANT⟩ := own_enum hn15a hn16a (own_w6 hw) (own_w32 hw)
  obtain ⟨a_DESCENDANT_OR_SELF, En_DESCENDANT_OR_SELF⟩ := own_enum hn5a hn6a (own_w6 hw) (own_w16 hw)
  obtain ⟨a_SELF, En_SELF⟩ := own_enum hn2a hn4a (own_w6 hw) (own_w14 hw)
  obtain ⟨a_ATTRIBUTE, En_ATTRIBUTE⟩ := own_enum hn11a hn12a (own_w6 hw) (own_w28 hw)
  obtain ⟨a_PARENT, En_PARENT⟩ := own_enum hn23a hn23b (own_w6 hw) (own_w40 hw)
  obtain ⟨a_ANCESTOR, En_ANCESTOR⟩ := own_enum hn21a hn22a (own_w6 hw) (own_w38 hw)
  obtain ⟨a_ANCESTOR_OR_SELF, En_ANCESTOR_OR_SELF⟩ := own_enum hn7a hn8a (own_w6 hw) (own_w18 hw)
  obtain ⟨a_FOLLOWING_SIBLING, En_FOLLOWING_SIBLING⟩ := own_enum hn13a hn14a (own_w6 hw) (own_w30 hw)
  obtain ⟨a_PRECEDING_SIBLING, En_PRECEDING_SIBLING⟩ := own_enum hn19a hn20a (own_w6 hw) (own_w36 hw)
  obtain ⟨a_FOLLOWING, En_FOLLOWING⟩ := own_enum hn17a hn18a (own_w6 hw) (own_w34 hw)
  obtain ⟨a_PRECEDING, En_PRECEDING⟩ := own_enum hn9a hn10a (own_w6 hw) (own_w26 hw)
  obtain ⟨n, o, h1, h2, h3, _, L, rfl, ⟨rfl, N⟩, hq⟩ := own_rm0 l s _ hw tables_1 i0 a_CHILD a_DESCENDANT a_DESCENDANT_OR_SELF a_SELF a_ATTRIBUTE a_PARENT a_ANCESTOR a_ANCESTOR_OR_SELF a_FOLLOWING_SIBLING a_PRECEDING_SIBLING a_FOLLOWING a_PRECEDING s.heap s.heap.size (Old.start s) En_CHILD En_DESCENDANT En_DESCENDANT_OR_SELF En_SELF En_ATTRIBUTE En_PARENT En_ANCESTOR En_ANCESTOR_OR_SELF En_FOLLOWING_SIBLING En_PRECEDING_SIBLING En_FOLLOWING En_PRECEDING p e ha hc hk s m _ below hf ((Spec.applies_iff_loose hf).mp happ).1 ⟨rfl, State.Warmed39.refl s, rfl⟩ trivial
  refine ⟨n, _, h1, h2, h3, hpost _ _ _ _ _ _ ⟨Cond.after_iff.mpr rfl, Cond.after_iff.mpr (eq_i res_at (Term.int_eval (1)) rfl), trivial⟩ ⟨hq.1, hq.2.1, (hq.2.2.sift fun y hy => Or.inr (N y hy)).mono (by decide) (by decide)⟩⟩
theorem main_1_1 : Claimed_1_1 := comes_1 fun _ _ _ _ _ _ h hF => ⟨h.1, hF⟩
theorem main_1_2 : Claimed_1_2 := comes_1 fun _ _ _ _ _ _ h hF => ⟨h.2.1, hF⟩
end Jvm.Pilot.@@N@@
namespace Jvm.Pilot.@@N@@
open Jvm Jvm.ClassFile Sem Op Lib Jvm.Free Jvm.Stand Jvm.Pilot.@@N@@.Jvm.D
/-! MADE BY PROGRAM (witnessworld.py) out of the Statement's table words and the real class files: 12 classes; the members and pool entries that the words name. The judged class is class 1, her method 3. -/
namespace start1
open Jvm.ClassFile
def u (s : String) : CpInfo := .utf8 (stringToUtf16 s)
/-- a pool by its gaps: so many unusable entries, then the entry; so many at the end -/
def gap : Nat → List CpInfo → List CpInfo
  | 0, r => r
  | n + 1, r => .unusable :: gap n r
def poolList (es : List (Nat × CpInfo)) (last : Nat) : List CpInfo := es.foldr (fun e r => gap e.1 (e.2 :: r)) (gap last [])
def pool (es : List (Nat × CpInfo)) (last : Nat) : Array CpInfo := ⟨poolList es last⟩
def fileOf (pool : Array CpInfo) (this : Nat) (attrs : Array Attribute := #[]) (ms : Array MethodInfo := #[]) (fl : Nat := 33) (sup : Nat := 0) (ifs : Array Nat := #[]) (fds : Array FieldInfo := #[]) : ClassFile where
  minorVersion := 0
  majorVersion := 65
  constantPool := pool
  accessFlags := fl
  thisClass := this
  superClass := sup
  interfaces := ifs
  fields := fds
  methods := ms
  attributes := attrs
def plain (name : String) (sup : Option ClassId) : Class where
  name := name
  kind := .ordinary
  loader := none
  accessFlags := 33
  super := sup
  interfaces := #[]
  cf := none
  fields := #[]
  methods := #[]
  instanceTypes := #[]
  staticTypes := #[]
  resolved := #[]
  callSites := []
  init := .initialized
  statics := none
  mirror := none

def pool0 : Array CpInfo := pool [(5, u "<init>"), (0, u "()V"), (1, .class_ 10), (1, u "java/lang/Object")] 113

def k0m0 : Method := { name := "<init>", desc := "()V", sig := { parameters := [], returnType := none }, accessFlags := 1, code := none }
/-- java/lang/Object -/
def k0 : Class := { plain "java/lang/Object" none with
  accessFlags := 33
  interfaces := #[]
  cf := some (fileOf pool0 8 #[] #[{ accessFlags := 1, nameIndex := 5, descriptorIndex := 6, attributes := #[] }] 33 0 #[] #[])
  fields := #[]
  methods := #[k0m0]
  instanceTypes := #[]
  staticTypes := #[]
  resolved := Array.replicate 124 none
  statics := none }

def pool1 : Array CpInfo := pool [(2, .class_ 4), (1, u "java/lang/Object"), (0, u "<init>"), (0, u "()V"), (0, .fieldref 8 9), (0, .class_ 10), (0, .nameAndType 11 12), (0, u "com/example/inchworm/inchworm/query/Axis"), (0, u "CHILD"), (0, u "Lcom/example/inchworm/inchworm/query/Axis;"), (0, .fieldref 8 14), (0, .nameAndType 15 12), (0, u "DESCENDANT"), (0, .fieldref 8 17), (0, .nameAndType 18 12), (0, u "DESCENDANT_OR_SELF"), (0, .fieldref 8 20), (0, .nameAndType 21 12), (0, u "SELF"), (0, .fieldref 8 23), (0, .nameAndType 24 12), (0, u "ATTRIBUTE"), (0, .fieldref 8 26), (0, .nameAndType 27 12), (0, u "PARENT"), (0, .fieldref 8 29), (0, .nameAndType 30 12), (0, u "ANCESTOR"), (0, .fieldref 8 32), (0, .nameAndType 33 12), (0, u "ANCESTOR_OR_SELF"), (0, .fieldref 8 35), (0, .nameAndType 36 12), (0, u "FOLLOWING_SIBLING"), (0, .fieldref 8 38), (0, .nameAndType 39 12), (0, u "PRECEDING_SIBLING"), (0, .fieldref 8 41), (0, .nameAndType 42 12), (0, u "FOLLOWING"), (0, .fieldref 8 44), (0, .nameAndType 45 12), (0, u "PRECEDING"), (0, .integer 2147483647), (0, .methodref 48 49), (0, .class_ 50), (0, .nameAndType 51 52), (0, u "com/example/inchworm/inchworm/query/AxisIncludesSelfPinLaw"), (0, u "axisAt"), (0, u "(I)Lcom/example/inchworm/inchworm/query/Axis;"), (0, .methodref 8 54), (0, .nameAndType 55 56), (0, u "includesSelf"), (0, u "()Z"), (0, .methodref 48 58), (0, .nameAndType 59 60), (0, u "expected"), (0, u "(I)Z"), (3, u "law")] 2

def k1m0 : Method := { name := "<init>", desc := "()V", sig := { parameters := [], returnType := none }, accessFlags := 2, code := none }
def k1c1 : Code := { maxStack := 2, maxLocals := 1, code := method_2_code, exceptionTable := #[], attributes := #[] }
def k1m1 : Method := { name := "axisAt", desc := "(I)Lcom/example/inchworm/inchworm/query/Axis;", sig := { parameters := [.int], returnType := some (.object "com/example/inchworm/inchworm/query/Axis") }, accessFlags := 10, code := some k1c1 }
def k1c2 : Code := { maxStack := 2, maxLocals := 1, code := method_3_code, exceptionTable := #[], attributes := #[] }
def k1m2 : Method := { name := "expected", desc := "(I)Z", sig := { parameters := [.int], returnType := some .boolean }, accessFlags := 10, code := some k1c2 }
def k1c3 : Code := { maxStack := 2, maxLocals := 3, code := code, exceptionTable := #[], attributes := #[] }
def k1m3 : Method := { name := "law", desc := "(I)Z", sig := { parameters := [.int], returnType := some .boolean }, accessFlags := 9, code := some k1c3 }
/-- com/example/inchworm/inchworm/query/AxisIncludesSelfPinLaw -/
def k1 : Class := { plain "com/example/inchworm/inchworm/query/AxisIncludesSelfPinLaw" (some 0) with
  accessFlags := 49
  interfaces := #[]
  cf := some (fileOf pool1 48 #[] #[{ accessFlags := 2, nameIndex := 5, descriptorIndex := 6, attributes := #[] }, { accessFlags := 10, nameIndex := 51, descriptorIndex := 52, attributes := #[] }, { accessFlags := 10, nameIndex := 59, descriptorIndex := 60, attributes := #[] }, { accessFlags := 9, nameIndex := 64, descriptorIndex := 60, attributes := #[] }] 49 2 #[] #[])
  fields := #[]
  methods := #[k1m0, k1m1, k1m2, k1m3]
  instanceTypes := #[]
  staticTypes := #[]
  resolved := Array.replicate 67 none
  statics := none }

def pool2 : Array CpInfo := pool [(1, .class_ 2), (0, u "java/lang/constant/Constable"), (0, .class_ 4), (0, u "java/lang/Object")] 6

/-- java/lang/constant/Constable -/
def k2 : Class := { plain "java/lang/constant/Constable" (some 0) with
  accessFlags := 1537
  interfaces := #[]
  cf := some (fileOf pool2 1 #[] #[] 1537 3 #[] #[])
  fields := #[]
  methods := #[]
  instanceTypes := #[]
  staticTypes := #[]
  resolved := Array.replicate 11 none
  statics := none }

def pool3 : Array CpInfo := pool [(1, .class_ 2), (0, u "java/lang/Comparable"), (0, .class_ 4), (0, u "java/lang/Object")] 7

/-- java/lang/Comparable -/
def k3 : Class := { plain "java/lang/Comparable" (some 0) with
  accessFlags := 1537
  interfaces := #[]
  cf := some (fileOf pool3 1 #[] #[] 1537 3 #[] #[])
  fields := #[]
  methods := #[]
  instanceTypes := #[]
  staticTypes := #[]
  resolved := Array.replicate 12 none
  statics := none }

def pool4 : Array CpInfo := pool [(1, .class_ 2), (0, u "java/io/Serializable"), (0, .class_ 4), (0, u "java/lang/Object")] 2

/-- java/io/Serializable -/
def k4 : Class := { plain "java/io/Serializable" (some 0) with
  accessFlags := 1537
  interfaces := #[]
  cf := some (fileOf pool4 1 #[] #[] 1537 3 #[] #[])
  fields := #[]
  methods := #[]
  instanceTypes := #[]
  staticTypes := #[]
  resolved := Array.replicate 7 none
  statics := none }

def pool5 : Array CpInfo := pool [(2, .class_ 4), (1, u "java/lang/Enum"), (0, u "name"), (0, u "Ljava/lang/String;"), (2, u "ordinal"), (0, u "I"), (1, .class_ 14), (1, u "java/lang/Object"), (4, u "hash"), (86, .class_ 108), (1, u "java/lang/Enum$EnumDesc"), (2, .class_ 112), (0, u "java/lang/constant/Constable"), (0, .class_ 114), (0, u "java/lang/Comparable"), (0, .class_ 116), (0, u "java/io/Serializable")] 87

/-- java/lang/Enum -/
def k5 : Class := { plain "java/lang/Enum" (some 0) with
  accessFlags := 1057
  interfaces := #[2, 3, 4]
  cf := some (fileOf pool5 2 #[.nestMembers #[106]] #[] 1057 12 #[111, 113, 115] #[{ accessFlags := 18, nameIndex := 5, descriptorIndex := 6, attributes := #[] }, { accessFlags := 18, nameIndex := 9, descriptorIndex := 10, attributes := #[] }, { accessFlags := 2, nameIndex := 19, descriptorIndex := 10, attributes := #[] }])
  fields := #[{ name := "name", type := (.object "java/lang/String"), accessFlags := 18, slot := 0, constantValue := 0 }, { name := "ordinal", type := .int, accessFlags := 18, slot := 1, constantValue := 0 }, { name := "hash", type := .int, accessFlags := 2, slot := 2, constantValue := 0 }]
  methods := #[]
  instanceTypes := #[(.object "java/lang/String"), .int, .int]
  staticTypes := #[]
  resolved := Array.replicate 204 none
  statics := none }

def pool6 : Array CpInfo := pool [(1, .class_ 2), (0, u "com/example/inchworm/inchworm/query/Axis"), (2, u "CHILD"), (0, u "Lcom/example/inchworm/inchworm/query/Axis;"), (2, u "DESCENDANT"), (0, .fieldref 1 11), (0, .nameAndType 12 6), (0, u "DESCENDANT_OR_SELF"), (0, .fieldref 1 14), (0, .nameAndType 15 6), (0, u "SELF"), (2, u "ATTRIBUTE"), (2, u "PARENT"), (2, u "ANCESTOR"), (0, .fieldref 1 26), (0, .nameAndType 27 6), (0, u "ANCESTOR_OR_SELF"), (2, u "FOLLOWING_SIBLING"), (2, u "PRECEDING_SIBLING"), (2, u "FOLLOWING"), (2, u "PRECEDING"), (2, u "$VALUES"), (0, u "[Lcom/example/inchworm/inchworm/query/Axis;"), (6, .class_ 52), (1, u "java/lang/Enum"), (8, u "withinSubtree"), (0, u "Z"), (28, u "includesSelf"), (0, u "()Z")] 73

def k6c0 : Code := { maxStack := 2, maxLocals := 1, code := prog_48_method_5_code, exceptionTable := #[], attributes := #[] }
def k6m0 : Method := { name := "includesSelf", desc := "()Z", sig := { parameters := [], returnType := some .boolean }, accessFlags := 0, code := some k6c0 }
/-- com/example/inchworm/inchworm/query/Axis -/
def k6 : Class := { plain "com/example/inchworm/inchworm/query/Axis" (some 5) with
  accessFlags := 16432
  interfaces := #[]
  cf := some (fileOf pool6 1 #[] #[{ accessFlags := 0, nameIndex := 91, descriptorIndex := 92, attributes := #[] }] 16432 50 #[] #[{ accessFlags := 16409, nameIndex := 5, descriptorIndex := 6, attributes := #[] }, { accessFlags := 16409, nameIndex := 9, descriptorIndex := 6, attributes := #[] }, { accessFlags := 16409, nameIndex := 12, descriptorIndex := 6, attributes := #[] }, { accessFlags := 16409, nameIndex := 15, descriptorIndex := 6, attributes := #[] }, { accessFlags := 16409, nameIndex := 18, descriptorIndex := 6, attributes := #[] }, { accessFlags := 16409, nameIndex := 21, descriptorIndex := 6, attributes := #[] }, { accessFlags := 16409, nameIndex := 24, descriptorIndex := 6, attributes := #[] }, { accessFlags := 16409, nameIndex := 27, descriptorIndex := 6, attributes := #[] }, { accessFlags := 16409, nameIndex := 30, descriptorIndex := 6, attributes := #[] }, { accessFlags := 16409, nameIndex := 33, descriptorIndex := 6, attributes := #[] }, { accessFlags := 16409, nameIndex := 36, descriptorIndex := 6, attributes := #[] }, { accessFlags := 16409, nameIndex := 39, descriptorIndex := 6, attributes := #[] }, { accessFlags := 18, nameIndex := 61, descriptorIndex := 62, attributes := #[] }, { accessFlags := 4122, nameIndex := 42, descriptorIndex := 43, attributes := #[] }])
  fields := #[{ name := "CHILD", type := (.object "com/example/inchworm/inchworm/query/Axis"), accessFlags := 16409, slot := 0, constantValue := 0 }, { name := "DESCENDANT", type := (.object "com/example/inchworm/inchworm/query/Axis"), accessFlags := 16409, slot := 1, constantValue := 0 }, { name := "DESCENDANT_OR_SELF", type := (.object "com/example/inchworm/inchworm/query/Axis"), accessFlags := 16409, slot := 2, constantValue := 0 }, { name := "SELF", type := (.object "com/example/inchworm/inchworm/query/Axis"), accessFlags := 16409, slot := 3, constantValue := 0 }, { name := "ATTRIBUTE", type := (.object "com/example/inchworm/inchworm/query/Axis"), accessFlags := 16409, slot := 4, constantValue := 0 }, { name := "PARENT", type := (.object "com/example/inchworm/inchworm/query/Axis"), accessFlags := 16409, slot := 5, constantValue := 0 }, { name := "ANCESTOR", type := (.object "com/example/inchworm/inchworm/query/Axis"), accessFlags := 16409, slot := 6, constantValue := 0 }, { name := "ANCESTOR_OR_SELF", type := (.object "com/example/inchworm/inchworm/query/Axis"), accessFlags := 16409, slot := 7, constantValue := 0 }, { name := "FOLLOWING_SIBLING", type := (.object "com/example/inchworm/inchworm/query/Axis"), accessFlags := 16409, slot := 8, constantValue := 0 }, { name := "PRECEDING_SIBLING", type := (.object "com/example/inchworm/inchworm/query/Axis"), accessFlags := 16409, slot := 9, constantValue := 0 }, { name := "FOLLOWING", type := (.object "com/example/inchworm/inchworm/query/Axis"), accessFlags := 16409, slot := 10, constantValue := 0 }, { name := "PRECEDING", type := (.object "com/example/inchworm/inchworm/query/Axis"), accessFlags := 16409, slot := 11, constantValue := 0 }, { name := "withinSubtree", type := .boolean, accessFlags := 18, slot := 3, constantValue := 0 }, { name := "$VALUES", type := (.array (.object "com/example/inchworm/inchworm/query/Axis")), accessFlags := 4122, slot := 12, constantValue := 0 }]
  methods := #[k6m0]
  instanceTypes := #[(.object "java/lang/String"), .int, .int, .boolean]
  staticTypes := #[(.object "com/example/inchworm/inchworm/query/Axis"), (.object "com/example/inchworm/inchworm/query/Axis"), (.object "com/example/inchworm/inchworm/query/Axis"), (.object "com/example/inchworm/inchworm/query/Axis"), (.object "com/example/inchworm/inchworm/query/Axis"), (.object "com/example/inchworm/inchworm/query/Axis"), (.object "com/example/inchworm/inchworm/query/Axis"), (.object "com/example/inchworm/inchworm/query/Axis"), (.object "com/example/inchworm/inchworm/query/Axis"), (.object "com/example/inchworm/inchworm/query/Axis"), (.object "com/example/inchworm/inchworm/query/Axis"), (.object "com/example/inchworm/inchworm/query/Axis"), (.array (.object "com/example/inchworm/inchworm/query/Axis"))]
  resolved := Array.replicate 166 none
  statics := some 0 }

def pool7 : Array CpInfo := pool [(1, u "java/lang/Cloneable"), (0, .class_ 1), (0, u "java/lang/Object"), (0, .class_ 3)] 3

/-- java/lang/Cloneable -/
def k7 : Class := { plain "java/lang/Cloneable" (some 0) with
  accessFlags := 1537
  interfaces := #[]
  cf := some (fileOf pool7 2 #[] #[] 1537 4 #[] #[])
  fields := #[]
  methods := #[]
  instanceTypes := #[]
  staticTypes := #[]
  resolved := Array.replicate 8 none
  statics := none }

/-- the primitive byte -/
def k8 : Class := { plain "byte" none with kind := .primitive 'B', accessFlags := 0x411 }
/-- [B -/
def k9 : Class := { plain "[B" (some 0) with kind := .array 8 .byte, interfaces := #[7, 4], accessFlags := 1041 }

/-- the primitive int -/
def k10 : Class := { plain "int" none with kind := .primitive 'I', accessFlags := 0x411 }
/-- [I -/
def k11 : Class := { plain "[I" (some 0) with kind := .array 10 .int, interfaces := #[7, 4], accessFlags := 1041 }

def heap : Heap := #[{ cls := 6, slots := #[.ref 1, .ref 2, .ref 3, .ref 4, .ref 5, .ref 6, .ref 7, .ref 8, .ref 9, .ref 10, .ref 11, .ref 12, .null], vm := .statics 6 },
  { cls := 6, slots := #[.null, .int 0, .int 0, .int 0], vm := .none },
  { cls := 6, slots := #[.null, .int 1, .int 0, .int 0], vm := .none },
  { cls := 6, slots := #[.null, .int 2, .int 0, .int 0], vm := .none },
  { cls := 6, slots := #[.null, .int 3, .int 0, .int 0], vm := .none },
  { cls := 6, slots := #[.null, .int 4, .int 0, .int 0], vm := .none },
  { cls := 6, slots := #[.null, .int 5, .int 0, .int 0], vm := .none },
  { cls := 6, slots := #[.null, .int 6, .int 0, .int 0], vm := .none },
  { cls := 6, slots := #[.null, .int 7, .int 0, .int 0], vm := .none },
  { cls := 6, slots := #[.null, .int 8, .int 0, .int 0], vm := .none },
  { cls := 6, slots := #[.null, .int 9, .int 0, .int 0], vm := .none },
  { cls := 6, slots := #[.null, .int 10, .int 0, .int 0], vm := .none },
  { cls := 6, slots := #[.null, .int 11, .int 0, .int 0], vm := .none }]
def classes : Array Class := #[k0, k1, k2, k3, k4, k5, k6, k7, k8, k9, k10, k11]
def interned : List (Array UInt16 × Addr) := []
def slotsUsed : Nat := 61
def theMethod : MethodId := ⟨1, 3⟩
def args0 : Array Value := #[.int 5]
def aboutOver (below : List Frame) : State where
  vm := { classes := classes, interned := interned.toArray }
  heap := heap
  slotsUsed := slotsUsed
  threads := #[{ frames := .invoking theMethod args0 :: below }]
def below0 : List Frame := [.native { method := ⟨0, 0⟩, args := #[] }]
def about1 : State := aboutOver below0
def p0 : Program := .bare "" "" ""
def e0 : Env := launch0.env 0 0 0
theorem w_frames : about1.frames = Frame.invoking theMethod args0 :: below0 := rfl
set_option maxRecDepth 65536 in
theorem w_args : argsFit about1.vm theMethod args0 = true := by decide +kernel
set_option maxRecDepth 65536 in
theorem w_heap : heapFits about1 = true := by decide +kernel
set_option maxRecDepth 65536 in
theorem w_runnable : about1.curStatus? = some .runnable := by decide +kernel
set_option maxRecDepth 65536 in
theorem w_alone : about1.alone = true := by decide +kernel
set_option maxRecDepth 65536 in
theorem w_named : about1.methodNamed? x = some theMethod := by decide +kernel
set_option maxRecDepth 65536 in
theorem w_hears : about1.hears theMethod below0 = true := by decide +kernel
set_option maxRecDepth 65536 in
theorem w_ripe : about1.ripe theMethod args0 below0 = true := by decide +kernel
theorem w_running : about1.status = .running := rfl
set_option maxRecDepth 65536 in
theorem w_room : about1.hasRoom e0.platform room_1 = true :=
  launch0.hasRoom_least _ room_1 (by decide +kernel) (by decide +kernel) (by decide +kernel) (by decide +kernel) (by decide +kernel) (by decide +kernel)
theorem allAtoms_all (ts : List Jvm.Cond) (a : Array Jvm.Value) (st : Jvm.State) : (allAtoms ts).before a st = ts.all (fun c => c.before a st) := by
  induction ts with
  | nil => rfl
  | cons c t ih =>
    show (Jvm.Cond.and c (allAtoms t)).before a st = _
    rw [Jvm.Cond.before_and, ih, List.all_cons]
def words1 : List Jvm.Cond := Jvm.Cond.code x code maxLocals ret :: tables_1
/-- a 'code' word, met by the world's own term for the bytes: nothing is compared byte by byte -/
theorem code_word {y : MethodName} {bytes : ByteArray} {mx : Nat} {rt : Option FieldType} {a : Array Value} {s : State} {m : MethodId} {meth : Method} {c : Code} (h1 : s.methodNamed? y = some m) (h2 : s.vm.method? m = some meth) (h3 : meth.code = some c) (h4 : c.code = bytes)
    (h5 : (c.maxLocals == mx && c.exceptionTable.isEmpty && decide (c.maxStack ≤ mostOperands) && decide (meth.sig.returnType = rt) && !meth.locks && decide (parseMethodDescriptor y.desc = some meth.sig)) = true) : (Jvm.Cond.code y bytes mx rt).before a s = true := by
  simp only [Bool.and_eq_true, beq_iff_eq, Bool.not_eq_true', decide_eq_true_eq] at h5
  obtain ⟨⟨⟨⟨⟨g1, g2⟩, g3⟩, g4⟩, g5⟩, g6⟩ := h5
  simp [Cond.before, Cond.holds, Cond.value, h1, h2, h3, h4, g1, g2, g3, g4, g5, g6]
def isCode : Jvm.Cond → Bool
  | .code _ _ _ _ => true
  | _ => false
theorem all_split {L : List Jvm.Cond} {P : Jvm.Cond → Bool} (h1 : L.all (fun c => isCode c || P c) = true) (h2 : ∀ c ∈ L.filter isCode, P c = true) : L.all P = true := by
  refine List.all_eq_true.mpr fun c hc => ?_
  have h := List.all_eq_true.mp h1 c hc
  rcases Bool.eq_false_or_eq_true (isCode c) with hi | hi
  · exact h2 c (List.mem_filter.mpr ⟨hc, hi⟩)
  · simpa [hi] using h
set_option maxRecDepth 65536 in
theorem w_c0 : (Jvm.Cond.code x code maxLocals ret).before args0 about1 = true := code_word (m := ⟨1, 3⟩) (meth := k1m3) (c := k1c3) (by decide +kernel) rfl rfl rfl (by decide +kernel)
set_option maxRecDepth 65536 in
theorem w_c1 : (Jvm.Cond.code ({ cls := "com/example/inchworm/inchworm/query/AxisIncludesSelfPinLaw", name := "axisAt", desc := "(I)Lcom/example/inchworm/inchworm/query/Axis;" } : Jvm.MethodName) method_2_code (1 : Nat) (Option.some (Jvm.ClassFile.FieldType.object "com/example/inchworm/inchworm/query/Axis"))).before args0 about1 = true := code_word (m := ⟨1, 1⟩) (meth := k1m1) (c := k1c1) (by decide +kernel) rfl rfl rfl (by decide +kernel)
set_option maxRecDepth 65536 in
theorem w_c2 : (Jvm.Cond.code ({ cls := "com/example/inchworm/inchworm/query/Axis", name := "includesSelf", desc := "()Z" } : Jvm.MethodName) prog_48_method_5_code (1 : Nat) (Option.some Jvm.ClassFile.FieldType.boolean)).before args0 about1 = true := code_word (m := ⟨6, 0⟩) (meth := k6m0) (c := k6c0) (by decide +kernel) rfl rfl rfl (by decide +kernel)
set_option maxRecDepth 65536 in
theorem w_c3 : (Jvm.Cond.code ({ cls := "com/example/inchworm/inchworm/query/AxisIncludesSelfPinLaw", name := "expected", desc := "(I)Z" } : Jvm.MethodName) method_3_code (1 : Nat) (Option.some Jvm.ClassFile.FieldType.boolean)).before args0 about1 = true := code_word (m := ⟨1, 2⟩) (meth := k1m2) (c := k1c2) (by decide +kernel) rfl rfl rfl (by decide +kernel)
def codes1 : List Jvm.Cond := [Jvm.Cond.code x code maxLocals ret, Jvm.Cond.code ({ cls := "com/example/inchworm/inchworm/query/AxisIncludesSelfPinLaw", name := "axisAt", desc := "(I)Lcom/example/inchworm/inchworm/query/Axis;" } : Jvm.MethodName) method_2_code (1 : Nat) (Option.some (Jvm.ClassFile.FieldType.object "com/example/inchworm/inchworm/query/Axis")), Jvm.Cond.code ({ cls := "com/example/inchworm/inchworm/query/Axis", name := "includesSelf", desc := "()Z" } : Jvm.MethodName) prog_48_method_5_code (1 : Nat) (Option.some Jvm.ClassFile.FieldType.boolean), Jvm.Cond.code ({ cls := "com/example/inchworm/inchworm/query/AxisIncludesSelfPinLaw", name := "expected", desc := "(I)Z" } : Jvm.MethodName) method_3_code (1 : Nat) (Option.some Jvm.ClassFile.FieldType.boolean)]
set_option maxRecDepth 65536 in
theorem codes_eq : words1.filter isCode = codes1 := rfl
theorem w_codes : ∀ c ∈ words1.filter isCode, c.before args0 about1 = true := by
  rw [codes_eq]
  intro c hc
  simp only [codes1, List.mem_cons, List.not_mem_nil, or_false] at hc
  rcases hc with rfl | rfl | rfl | rfl
  · exact w_c0
  · exact w_c1
  · exact w_c2
  · exact w_c3
set_option maxRecDepth 65536 in
theorem w_t1 : (words1.take 24).all (fun c => isCode c || c.before args0 about1) = true := by decide +kernel
set_option maxRecDepth 65536 in
theorem w_t2 : (words1.drop 24).all (fun c => isCode c || c.before args0 about1) = true := by decide +kernel
theorem w_tables : (allAtoms (Jvm.Cond.code x code maxLocals ret :: tables_1)).before args0 about1 = true := by
  rw [allAtoms_all]
  show words1.all (fun c => c.before args0 about1) = true
  refine all_split ?_ w_codes
  rw [← List.take_append_drop 24 words1, List.all_append, w_t1, w_t2]
  rfl
set_option maxRecDepth 65536 in
theorem w_case : (Jvm.Cond.and given_1 narrow_1).before args0 about1 = true := by decide +kernel
theorem w_applies : (headSpec (Jvm.Cond.code x code maxLocals ret :: tables_1) room_1).applies x e0.platform about1 = true :=
  (Spec.applies_iff w_frames).mpr ⟨w_running, w_runnable, w_alone, w_named, w_hears, w_ripe, w_room, w_tables⟩
theorem atStart : AtStart classFile x code maxLocals ret World_1 tables_1 room_1 Calls_1 rest_1 Pre_1 launch0 p0 e0 about1 theMethod args0 below0 :=
  ⟨lists_1, trivial, launch0.admits_env _ _ _, launch0.least_env, fairChoices_fair.cas, fairChoices_fair.clock, w_frames, w_args, w_heap, w_applies, trivial, trivial, w_case⟩
end start1
theorem witness_1 : WitnessClaimed_1 := ⟨start1.p0, start1.e0, start1.about1, start1.theMethod, start1.args0, start1.below0, start1.atStart⟩
end Jvm.Pilot.@@N@@
