import JvmDerived
import JvmDerived.Pilot.@@N@@Statement
import JvmDerived.Pilot.@@N@@Code
set_option linter.unusedVariables false
set_option linter.unusedSimpArgs false
@@BLOCK:NumsL.lean.txt@@
namespace Jvm.Pilot.@@N@@
open Jvm Jvm.ClassFile Sem Op Lib Jvm.Free Jvm.Stand Jvm.LawKit Jvm.RoadKit Bundle Jvm.Pilot.@@N@@.Jvm.D
section Own
variable {p : Program} {l : Launch} {e : Env} {R : Room} {s : State} {m : MethodId} {args : Array Value} {below : List Frame} {meth : Method} {c : Code} {T : State} {locs : List Loc} {cells slots : Nat} {Q : Option Value → Heap → List Loc → Prop} {kc ks : Nat} {G : State → Outcome → State → List Loc → Nat → Nat → Prop}
/-- the run from U returns; Q says of what it returned, of the heap and of the places written; kc, ks: how much it may have made -/
def own_Ends (p : Program) (e : Env) (below : List Frame) (s : State) (G : State → Outcome → State → List Loc → Nat → Nat → Prop) (Q : Option Value → Heap → List Loc → Prop) (kc ks : Nat) (U : State) : Prop :=
  ∃ s₂ o, Steps p.tables e below U s₂ ∧ s₂.status = .running ∧ Ended s₂ below o ∧ ∃ v L, o = .returned v ∧ Q v s₂.heap L ∧ G s o s₂ L kc ks
theorem own_of {U U' : State} (h : ∀ t, Steps p.tables e below U' t → Steps p.tables e below U t) (k : own_Ends p e below s G Q kc ks U') : own_Ends p e below s G Q kc ks U := by
  obtain ⟨s₂, o, h1, r⟩ := k
  exact ⟨s₂, o, h _ h1, r⟩
theorem own_eq {U U' : State} (h : U = U') (k : own_Ends p e below s G Q kc ks U') : own_Ends p e below s G Q kc ks U := h ▸ k
theorem own_retN (X : Stand p l e R s m args below meth c T locs cells slots) (hx : p.tables.exec = Jvm.exec) (hlk : meth.locks = false) {pc : Nat} {Ls : Array Slot} {z : Int32} {t : FieldType} {rest : List Value} (hret : meth.sig.returnType = some t) (ht : t = .boolean ∨ t = .byte ∨ t = .char ∨ t = .short)
    (hd : decode c.code pc = .ok (.ireturn, 1)) (hc : cells ≤ kc) (hs : slots ≤ ks) (hq : Q (some (.int (nar t z))) T.heap locs) : own_Ends p e below s FrameEnd Q kc ks (T.setTop (mkF m pc Ls (.int z :: rest))) := by
  obtain ⟨fs, hr, hrun, hended, hW, hsame⟩ := X.leave (v := some (.int (nar t z))) (fun h => by rw [hret] at h; cases h) hlk
  exact ⟨_, _, retN X hx hret ht hd hr, hrun, hended, _, _, rfl, hq, ⟨_, rfl⟩, hW, hsame.mono hc hs⟩
theorem own_retI (X : Stand p l e R s m args below meth c T locs cells slots) (hx : p.tables.exec = Jvm.exec) (hlk : meth.locks = false) {pc : Nat} {Ls : Array Slot} {z : Int32} {rest : List Value} (hret : meth.sig.returnType = some .int)
    (hd : decode c.code pc = .ok (.ireturn, 1)) (hc : cells ≤ kc) (hs : slots ≤ ks) (hq : Q (some (.int z)) T.heap locs) : own_Ends p e below s FrameEnd Q kc ks (T.setTop (mkF m pc Ls (.int z :: rest))) := by
  obtain ⟨fs, hr, hrun, hended, hW, hsame⟩ := X.leave (v := some (.int z)) (fun h => by rw [hret] at h; cases h) hlk
  exact ⟨_, _, retOut X hx hret rfl (Or.inl ⟨rfl, Or.inl rfl, _, rfl⟩) hd hr, hrun, hended, _, _, rfl, hq, ⟨_, rfl⟩, hW, hsame.mono hc hs⟩
theorem own_retL (X : Stand p l e R s m args below meth c T locs cells slots) (hx : p.tables.exec = Jvm.exec) (hlk : meth.locks = false) {pc : Nat} {Ls : Array Slot} {z : Int64} {rest : List Value} (hret : meth.sig.returnType = some .long)
    (hd : decode c.code pc = .ok (.lreturn, 1)) (hc : cells ≤ kc) (hs : slots ≤ ks) (hq : Q (some (.long z)) T.heap locs) : own_Ends p e below s FrameEnd Q kc ks (T.setTop (mkF m pc Ls (.long z :: rest))) := by
  obtain ⟨fs, hr, hrun, hended, hW, hsame⟩ := X.leave (v := some (.long z)) (fun h => by rw [hret] at h; cases h) hlk
  exact ⟨_, _, retOut X hx hret rfl (Or.inr (Or.inl ⟨rfl, rfl, _, rfl⟩)) hd hr, hrun, hended, _, _, rfl, hq, ⟨_, rfl⟩, hW, hsame.mono hc hs⟩
theorem own_retA (X : Stand p l e R s m args below meth c T locs cells slots) (hx : p.tables.exec = Jvm.exec) (hlk : meth.locks = false) {pc : Nat} {Ls : Array Slot} {w : Value} {t : FieldType} {rest : List Value} (hret : meth.sig.returnType = some t) (ht : t.isReference = true) (hw : w.isRef = true)
    (hd : decode c.code pc = .ok (.areturn, 1)) (hc : cells ≤ kc) (hs : slots ≤ ks) (hq : Q (some w) T.heap locs) : own_Ends p e below s FrameEnd Q kc ks (T.setTop (mkF m pc Ls (w :: rest))) := by
  obtain ⟨fs, hr, hrun, hended, hW, hsame⟩ := X.leave (v := some w) (fun h => by rw [hret] at h; cases h) hlk
  have hn : narrow t w = w := by cases t <;> first | (cases ht; done) | rfl | (cases w <;> rfl)
  exact ⟨_, _, retOut X hx hret hn (Or.inr (Or.inr (Or.inr (Or.inr ⟨rfl, ht, hw⟩)))) hd hr, hrun, hended, _, _, rfl, hq, ⟨_, rfl⟩, hW, hsame.mono hc hs⟩
theorem own_ret0 (X : Stand p l e R s m args below meth c T locs cells slots) (hx : p.tables.exec = Jvm.exec) (hlk : meth.locks = false) {pc : Nat} {Ls : Array Slot} (hret : meth.sig.returnType = none)
    (hd : decode c.code pc = .ok (.return_, 1)) (hc : cells ≤ kc) (hs : slots ≤ ks) (hq : Q none T.heap locs) : own_Ends p e below s FrameEnd Q kc ks (T.setTop (mkF m pc Ls [])) := by
  obtain ⟨fs, hr, hrun, hended, hW, hsame⟩ := X.leave (v := none) (fun _ => rfl) hlk
  exact ⟨_, _, X.returnOut hx hret hd hr, hrun, hended, _, _, rfl, hq, ⟨_, rfl⟩, hW, hsame.mono hc hs⟩
variable {vm₁ : Vm} {nS : Nat}
theorem own_monoW {t : State} {o : Outcome} {L : List Loc} {k n k' n' : Nat} (h : ReturnedEndW s o t L k n) (hk : k ≤ k') (hn : n ≤ n') : ReturnedEndW s o t L k' n' := ⟨h.1, h.2.1, h.2.2.1, h.2.2.2.mono hk hn⟩
theorem own_retNW (X : Stand p l e R (s.setVm vm₁) m args below meth c T locs cells slots) (hx : p.tables.exec = Jvm.exec) (hlk : meth.locks = false) (hS : s.Since vm₁ nS) (hk : nS ≤ T.heap.size) {pc : Nat} {Ls : Array Slot} {z : Int32} {t : FieldType} {rest : List Value} (hret : meth.sig.returnType = some t) (ht : t = .boolean ∨ t = .byte ∨ t = .char ∨ t = .short)
    (hd : decode c.code pc = .ok (.ireturn, 1)) (hc : cells ≤ kc) (hs : slots ≤ ks) (hq : Q (some (.int (nar t z))) T.heap locs) : own_Ends p e below s ReturnedEndW Q kc ks (T.setTop (mkF m pc Ls (.int z :: rest))) := by
  obtain ⟨fs, hr, hrun, hended, hW⟩ := X.leaveW hS hk (v := some (.int (nar t z))) (fun h => by rw [hret] at h; cases h) hlk
  exact ⟨_, _, retN X hx hret ht hd hr, hrun, hended, _, _, rfl, hq, own_monoW hW hc hs⟩
theorem own_retIW (X : Stand p l e R (s.setVm vm₁) m args below meth c T locs cells slots) (hx : p.tables.exec = Jvm.exec) (hlk : meth.locks = false) (hS : s.Since vm₁ nS) (hk : nS ≤ T.heap.size) {pc : Nat} {Ls : Array Slot} {z : Int32} {rest : List Value} (hret : meth.sig.returnType = some .int)
    (hd : decode c.code pc = .ok (.ireturn, 1)) (hc : cells ≤ kc) (hs : slots ≤ ks) (hq : Q (some (.int z)) T.heap locs) : own_Ends p e below s ReturnedEndW Q kc ks (T.setTop (mkF m pc Ls (.int z :: rest))) := by
  obtain ⟨fs, hr, hrun, hended, hW⟩ := X.leaveW hS hk (v := some (.int z)) (fun h => by rw [hret] at h; cases h) hlk
  exact ⟨_, _, retOut X hx hret rfl (Or.inl ⟨rfl, Or.inl rfl, _, rfl⟩) hd hr, hrun, hended, _, _, rfl, hq, own_monoW hW hc hs⟩
theorem own_retAW (X : Stand p l e R (s.setVm vm₁) m args below meth c T locs cells slots) (hx : p.tables.exec = Jvm.exec) (hlk : meth.locks = false) (hS : s.Since vm₁ nS) (hk : nS ≤ T.heap.size) {pc : Nat} {Ls : Array Slot} {w : Value} {t : FieldType} {rest : List Value} (hret : meth.sig.returnType = some t) (ht : t.isReference = true) (hw : w.isRef = true)
    (hd : decode c.code pc = .ok (.areturn, 1)) (hc : cells ≤ kc) (hs : slots ≤ ks) (hq : Q (some w) T.heap locs) : own_Ends p e below s ReturnedEndW Q kc ks (T.setTop (mkF m pc Ls (w :: rest))) := by
  obtain ⟨fs, hr, hrun, hended, hW⟩ := X.leaveW hS hk (v := some w) (fun h => by rw [hret] at h; cases h) hlk
  have hn : narrow t w = w := by cases t <;> first | (cases ht; done) | rfl | (cases w <;> rfl)
  exact ⟨_, _, retOut X hx hret hn (Or.inr (Or.inr (Or.inr (Or.inr ⟨rfl, ht, hw⟩)))) hd hr, hrun, hended, _, _, rfl, hq, own_monoW hW hc hs⟩
theorem own_ret0W (X : Stand p l e R (s.setVm vm₁) m args below meth c T locs cells slots) (hx : p.tables.exec = Jvm.exec) (hlk : meth.locks = false) (hS : s.Since vm₁ nS) (hk : nS ≤ T.heap.size) {pc : Nat} {Ls : Array Slot} (hret : meth.sig.returnType = none)
    (hd : decode c.code pc = .ok (.return_, 1)) (hc : cells ≤ kc) (hs : slots ≤ ks) (hq : Q none T.heap locs) : own_Ends p e below s ReturnedEndW Q kc ks (T.setTop (mkF m pc Ls [])) := by
  obtain ⟨fs, hr, hrun, hended, hW⟩ := X.leaveW hS hk (v := none) (fun _ => rfl) hlk
  exact ⟨_, _, X.returnOut hx hret hd hr, hrun, hended, _, _, rfl, hq, own_monoW hW hc hs⟩
end Own
theorem own_b1 : nar .boolean (1 : Int32) = 1 := rfl
theorem own_b0 : nar .boolean (0 : Int32) = 0 := rfl
section Own2
variable {p : Program} {l : Launch} {e : Env} {R : Room} {s sS : State} {m : MethodId} {args : Array Value} {below : List Frame} {meth : Method} {c : Code} {T : State} {locs : List Loc} {cells slots : Nat} {Q : Option Value → Heap → List Loc → Prop} {kc ks : Nat} {G : State → Outcome → State → List Loc → Nat → Nat → Prop}
theorem own_iloadN (X : Stand p l e R sS m args below meth c T locs cells slots) (hx : p.tables.exec = Jvm.exec) {code : ByteArray} (hby : c.code = code) {pc : Nat} {Ls : Array Slot} {St : List Value} {k : Fin 4} {v : Int32} (hd : decode code pc = .ok (.iload_n k, 1)) (hl : Ls[k.val]? = some (.val (.int v))) (k : own_Ends p e below s G Q kc ks (T.setTop (mkF m (pc + 1) Ls (.int v :: St)))) : own_Ends p e below s G Q kc ks (T.setTop (mkF m pc Ls (St))) := own_of (fun _ q => XS.iloadN X.here hx rfl (hb hby hd) hl q) k
theorem own_iload (X : Stand p l e R sS m args below meth c T locs cells slots) (hx : p.tables.exec = Jvm.exec) {code : ByteArray} (hby : c.code = code) {pc : Nat} {Ls : Array Slot} {St : List Value} {k : Nat} {v : Int32} (hd : decode code pc = .ok (.iload k, 2)) (hl : Ls[k]? = some (.val (.int v))) (k : own_Ends p e below s G Q kc ks (T.setTop (mkF m (pc + 2) Ls (.int v :: St)))) : own_Ends p e below s G Q kc ks (T.setTop (mkF m pc Ls (St))) := own_of (fun _ q => XS.iload X.here hx rfl (hb hby hd) hl q) k
theorem own_lloadN (X : Stand p l e R sS m args below meth c T locs cells slots) (hx : p.tables.exec = Jvm.exec) {code : ByteArray} (hby : c.code = code) {pc : Nat} {Ls : Array Slot} {St : List Value} {k : Fin 4} {v : Int64} (hd : decode code pc = .ok (.lload_n k, 1)) (hl : Ls[k.val]? = some (.val (.long v))) (k : own_Ends p e below s G Q kc ks (T.setTop (mkF m (pc + 1) Ls (.long v :: St)))) : own_Ends p e below s G Q kc ks (T.setTop (mkF m pc Ls (St))) := own_of (fun _ q => XT.lloadN X.here hx rfl (hb hby hd) hl q) k
theorem own_lload (X : Stand p l e R sS m args below meth c T locs cells slots) (hx : p.tables.exec = Jvm.exec) {code : ByteArray} (hby : c.code = code) {pc : Nat} {Ls : Array Slot} {St : List Value} {k : Nat} {v : Int64} (hd : decode code pc = .ok (.lload k, 2)) (hl : Ls[k]? = some (.val (.long v))) (k : own_Ends p e below s G Q kc ks (T.setTop (mkF m (pc + 2) Ls (.long v :: St)))) : own_Ends p e below s G Q kc ks (T.setTop (mkF m pc Ls (St))) := own_of (fun _ q => XT.lload X.here hx rfl (hb hby hd) hl q) k
theorem own_dloadN (X : Stand p l e R sS m args below meth c T locs cells slots) (hx : p.tables.exec = Jvm.exec) {code : ByteArray} (hby : c.code = code) {pc : Nat} {Ls : Array Slot} {St : List Value} {k : Fin 4} {v : UInt64} (hd : decode code pc = .ok (.dload_n k, 1)) (hl : Ls[k.val]? = some (.val (.double v))) (k : own_Ends p e below s G Q kc ks (T.setTop (mkF m (pc + 1) Ls (.double v :: St)))) : own_Ends p e below s G Q kc ks (T.setTop (mkF m pc Ls (St))) := own_of (fun _ q => XS.dloadN X.here hx rfl (hb hby hd) hl q) k
theorem own_dload (X : Stand p l e R sS m args below meth c T locs cells slots) (hx : p.tables.exec = Jvm.exec) {code : ByteArray} (hby : c.code = code) {pc : Nat} {Ls : Array Slot} {St : List Value} {k : Nat} {v : UInt64} (hd : decode code pc = .ok (.dload k, 2)) (hl : Ls[k]? = some (.val (.double v))) (k : own_Ends p e below s G Q kc ks (T.setTop (mkF m (pc + 2) Ls (.double v :: St)))) : own_Ends p e below s G Q kc ks (T.setTop (mkF m pc Ls (St))) := own_of (fun _ q => XS.dload X.here hx rfl (hb hby hd) hl q) k
theorem own_aloadN (X : Stand p l e R sS m args below meth c T locs cells slots) (hx : p.tables.exec = Jvm.exec) {code : ByteArray} (hby : c.code = code) {pc : Nat} {Ls : Array Slot} {St : List Value} {k : Fin 4} {v : Value} (hd : decode code pc = .ok (.aload_n k, 1)) (hl : Ls[k.val]? = some (.val v)) (hv : v.isRef = true) (k : own_Ends p e below s G Q kc ks (T.setTop (mkF m (pc + 1) Ls (v :: St)))) : own_Ends p e below s G Q kc ks (T.setTop (mkF m pc Ls (St))) := own_of (fun _ q => XS.aloadN X.here hx rfl (hb hby hd) hl hv q) k
theorem own_aload (X : Stand p l e R sS m args below meth c T locs cells slots) (hx : p.tables.exec = Jvm.exec) {code : ByteArray} (hby : c.code = code) {pc : Nat} {Ls : Array Slot} {St : List Value} {k : Nat} {v : Value} (hd : decode code pc = .ok (.aload k, 2)) (hl : Ls[k]? = some (.val v)) (hv : v.isRef = true) (k : own_Ends p e below s G Q kc ks (T.setTop (mkF m (pc + 2) Ls (v :: St)))) : own_Ends p e below s G Q kc ks (T.setTop (mkF m pc Ls (St))) := own_of (fun _ q => XS.aload X.here hx rfl (hb hby hd) hl hv q) k
theorem own_istoreN (X : Stand p l e R sS m args below meth c T locs cells slots) (hx : p.tables.exec = Jvm.exec) {code : ByteArray} (hby : c.code = code) {pc : Nat} {Ls : Array Slot} {St : List Value} {k : Fin 4} {x : Int32} {l' : Array Slot} (hd : decode code pc = .ok (.istore_n k, 1)) (hl : storeLocals Ls k.val (.int x) = some l') (k : own_Ends p e below s G Q kc ks (T.setTop (mkF m (pc + 1) l' (St)))) : own_Ends p e below s G Q kc ks (T.setTop (mkF m pc Ls (.int x :: St))) := own_of (fun _ q => XS.istoreN X.here hx rfl (hb hby hd) rfl hl q) k
theorem own_istore (X : Stand p l e R sS m args below meth c T locs cells slots) (hx : p.tables.exec = Jvm.exec) {code : ByteArray} (hby : c.code = code) {pc : Nat} {Ls : Array Slot} {St : List Value} {k : Nat} {x : Int32} {l' : Array Slot} (hd : decode code pc = .ok (.istore k, 2)) (hl : storeLocals Ls k (.int x) = some l') (k : own_Ends p e below s G Q kc ks (T.setTop (mkF m (pc + 2) l' (St)))) : own_Ends p e below s G Q kc ks (T.setTop (mkF m pc Ls (.int x :: St))) := own_of (fun _ q => XS.istore X.here hx rfl (hb hby hd) rfl hl q) k
theorem own_lstoreN (X : Stand p l e R sS m args below meth c T locs cells slots) (hx : p.tables.exec = Jvm.exec) {code : ByteArray} (hby : c.code = code) {pc : Nat} {Ls : Array Slot} {St : List Value} {k : Fin 4} {x : Int64} {l' : Array Slot} (hd : decode code pc = .ok (.lstore_n k, 1)) (hl : storeLocals Ls k.val (.long x) = some l') (k : own_Ends p e below s G Q kc ks (T.setTop (mkF m (pc + 1) l' (St)))) : own_Ends p e below s G Q kc ks (T.setTop (mkF m pc Ls (.long x :: St))) := own_of (fun _ q => XT.lstoreN X.here hx rfl (hb hby hd) rfl hl q) k
theorem own_lstore (X : Stand p l e R sS m args below meth c T locs cells slots) (hx : p.tables.exec = Jvm.exec) {code : ByteArray} (hby : c.code = code) {pc : Nat} {Ls : Array Slot} {St : List Value} {k : Nat} {x : Int64} {l' : Array Slot} (hd : decode code pc = .ok (.lstore k, 2)) (hl : storeLocals Ls k (.long x) = some l') (k : own_Ends p e below s G Q kc ks (T.setTop (mkF m (pc + 2) l' (St)))) : own_Ends p e below s G Q kc ks (T.setTop (mkF m pc Ls (.long x :: St))) := own_of (fun _ q => XT.lstore X.here hx rfl (hb hby hd) rfl hl q) k
theorem own_astoreN (X : Stand p l e R sS m args below meth c T locs cells slots) (hx : p.tables.exec = Jvm.exec) {code : ByteArray} (hby : c.code = code) {pc : Nat} {Ls : Array Slot} {St : List Value} {k : Fin 4} {x : Value} {l' : Array Slot} (hd : decode code pc = .ok (.astore_n k, 1)) (hv : x.isRef = true) (hl : storeLocals Ls k.val x = some l') (k : own_Ends p e below s G Q kc ks (T.setTop (mkF m (pc + 1) l' (St)))) : own_Ends p e below s G Q kc ks (T.setTop (mkF m pc Ls (x :: St))) := own_of (fun _ q => XS.astoreN X.here hx rfl (hb hby hd) rfl hv hl q) k
theorem own_astore (X : Stand p l e R sS m args below meth c T locs cells slots) (hx : p.tables.exec = Jvm.exec) {code : ByteArray} (hby : c.code = code) {pc : Nat} {Ls : Array Slot} {St : List Value} {k : Nat} {x : Value} {l' : Array Slot} (hd : decode code pc = .ok (.astore k, 2)) (hv : x.isRef = true) (hl : storeLocals Ls k x = some l') (k : own_Ends p e below s G Q kc ks (T.setTop (mkF m (pc + 2) l' (St)))) : own_Ends p e below s G Q kc ks (T.setTop (mkF m pc Ls (x :: St))) := own_of (fun _ q => XS.astore X.here hx rfl (hb hby hd) rfl hv hl q) k
theorem own_aconstNull (X : Stand p l e R sS m args below meth c T locs cells slots) (hx : p.tables.exec = Jvm.exec) {code : ByteArray} (hby : c.code = code) {pc : Nat} {Ls : Array Slot} {St : List Value}  (hd : decode code pc = .ok (.aconst_null, 1)) (k : own_Ends p e below s G Q kc ks (T.setTop (mkF m (pc + 1) Ls (.null :: St)))) : own_Ends p e below s G Q kc ks (T.setTop (mkF m pc Ls (St))) := own_of (fun _ q => XS.aconstNull X.here hx rfl (hb hby hd) q) k
theorem own_iadd (X : Stand p l e R sS m args below meth c T locs cells slots) (hx : p.tables.exec = Jvm.exec) {code : ByteArray} (hby : c.code = code) {pc : Nat} {Ls : Array Slot} {St : List Value} {x y : Int32} (hd : decode code pc = .ok (.iadd, 1)) (k : own_Ends p e below s G Q kc ks (T.setTop (mkF m (pc + 1) Ls (.int (x + y) :: St)))) : own_Ends p e below s G Q kc ks (T.setTop (mkF m pc Ls (.int y :: .int x :: St))) := own_of (fun _ q => XS.iadd X.here hx rfl (hb hby hd) rfl q) k
theorem own_isub (X : Stand p l e R sS m args below meth c T locs cells slots) (hx : p.tables.exec = Jvm.exec) {code : ByteArray} (hby : c.code = code) {pc : Nat} {Ls : Array Slot} {St : List Value} {x y : Int32} (hd : decode code pc = .ok (.isub, 1)) (k : own_Ends p e below s G Q kc ks (T.setTop (mkF m (pc + 1) Ls (.int (x - y) :: St)))) : own_Ends p e below s G Q kc ks (T.setTop (mkF m pc Ls (.int y :: .int x :: St))) := own_of (fun _ q => XS.isub X.here hx rfl (hb hby hd) rfl q) k
theorem own_imul (X : Stand p l e R sS m args below meth c T locs cells slots) (hx : p.tables.exec = Jvm.exec) {code : ByteArray} (hby : c.code = code) {pc : Nat} {Ls : Array Slot} {St : List Value} {x y : Int32} (hd : decode code pc = .ok (.imul, 1)) (k : own_Ends p e below s G Q kc ks (T.setTop (mkF m (pc + 1) Ls (.int (x * y) :: St)))) : own_Ends p e below s G Q kc ks (T.setTop (mkF m pc Ls (.int y :: .int x :: St))) := own_of (fun _ q => XS.imul X.here hx rfl (hb hby hd) rfl q) k
theorem own_iand (X : Stand p l e R sS m args below meth c T locs cells slots) (hx : p.tables.exec = Jvm.exec) {code : ByteArray} (hby : c.code = code) {pc : Nat} {Ls : Array Slot} {St : List Value} {x y : Int32} (hd : decode code pc = .ok (.iand, 1)) (k : own_Ends p e below s G Q kc ks (T.setTop (mkF m (pc + 1) Ls (.int (x &&& y) :: St)))) : own_Ends p e below s G Q kc ks (T.setTop (mkF m pc Ls (.int y :: .int x :: St))) := own_of (fun _ q => XS.iand X.here hx rfl (hb hby hd) rfl q) k
theorem own_ior (X : Stand p l e R sS m args below meth c T locs cells slots) (hx : p.tables.exec = Jvm.exec) {code : ByteArray} (hby : c.code = code) {pc : Nat} {Ls : Array Slot} {St : List Value} {x y : Int32} (hd : decode code pc = .ok (.ior, 1)) (k : own_Ends p e below s G Q kc ks (T.setTop (mkF m (pc + 1) Ls (.int (x ||| y) :: St)))) : own_Ends p e below s G Q kc ks (T.setTop (mkF m pc Ls (.int y :: .int x :: St))) := own_of (fun _ q => XT.ior X.here hx rfl (hb hby hd) rfl q) k
theorem own_ixor (X : Stand p l e R sS m args below meth c T locs cells slots) (hx : p.tables.exec = Jvm.exec) {code : ByteArray} (hby : c.code = code) {pc : Nat} {Ls : Array Slot} {St : List Value} {x y : Int32} (hd : decode code pc = .ok (.ixor, 1)) (k : own_Ends p e below s G Q kc ks (T.setTop (mkF m (pc + 1) Ls (.int (x ^^^ y) :: St)))) : own_Ends p e below s G Q kc ks (T.setTop (mkF m pc Ls (.int y :: .int x :: St))) := own_of (fun _ q => XT.ixor X.here hx rfl (hb hby hd) rfl q) k
theorem own_ladd (X : Stand p l e R sS m args below meth c T locs cells slots) (hx : p.tables.exec = Jvm.exec) {code : ByteArray} (hby : c.code = code) {pc : Nat} {Ls : Array Slot} {St : List Value} {x y : Int64} (hd : decode code pc = .ok (.ladd, 1)) (k : own_Ends p e below s G Q kc ks (T.setTop (mkF m (pc + 1) Ls (.long (x + y) :: St)))) : own_Ends p e below s G Q kc ks (T.setTop (mkF m pc Ls (.long y :: .long x :: St))) := own_of (fun _ q => XT.ladd X.here hx rfl (hb hby hd) rfl q) k
theorem own_lsub (X : Stand p l e R sS m args below meth c T locs cells slots) (hx : p.tables.exec = Jvm.exec) {code : ByteArray} (hby : c.code = code) {pc : Nat} {Ls : Array Slot} {St : List Value} {x y : Int64} (hd : decode code pc = .ok (.lsub, 1)) (k : own_Ends p e below s G Q kc ks (T.setTop (mkF m (pc + 1) Ls (.long (x - y) :: St)))) : own_Ends p e below s G Q kc ks (T.setTop (mkF m pc Ls (.long y :: .long x :: St))) := own_of (fun _ q => XT.lsub X.here hx rfl (hb hby hd) rfl q) k
theorem own_lmul (X : Stand p l e R sS m args below meth c T locs cells slots) (hx : p.tables.exec = Jvm.exec) {code : ByteArray} (hby : c.code = code) {pc : Nat} {Ls : Array Slot} {St : List Value} {x y : Int64} (hd : decode code pc = .ok (.lmul, 1)) (k : own_Ends p e below s G Q kc ks (T.setTop (mkF m (pc + 1) Ls (.long (x * y) :: St)))) : own_Ends p e below s G Q kc ks (T.setTop (mkF m pc Ls (.long y :: .long x :: St))) := own_of (fun _ q => XT.lmul X.here hx rfl (hb hby hd) rfl q) k
theorem own_land (X : Stand p l e R sS m args below meth c T locs cells slots) (hx : p.tables.exec = Jvm.exec) {code : ByteArray} (hby : c.code = code) {pc : Nat} {Ls : Array Slot} {St : List Value} {x y : Int64} (hd : decode code pc = .ok (.land, 1)) (k : own_Ends p e below s G Q kc ks (T.setTop (mkF m (pc + 1) Ls (.long (x &&& y) :: St)))) : own_Ends p e below s G Q kc ks (T.setTop (mkF m pc Ls (.long y :: .long x :: St))) := own_of (fun _ q => XT.land X.here hx rfl (hb hby hd) rfl q) k
theorem own_lor (X : Stand p l e R sS m args below meth c T locs cells slots) (hx : p.tables.exec = Jvm.exec) {code : ByteArray} (hby : c.code = code) {pc : Nat} {Ls : Array Slot} {St : List Value} {x y : Int64} (hd : decode code pc = .ok (.lor, 1)) (k : own_Ends p e below s G Q kc ks (T.setTop (mkF m (pc + 1) Ls (.long (x ||| y) :: St)))) : own_Ends p e below s G Q kc ks (T.setTop (mkF m pc Ls (.long y :: .long x :: St))) := own_of (fun _ q => XT.lor X.here hx rfl (hb hby hd) rfl q) k
theorem own_lxor (X : Stand p l e R sS m args below meth c T locs cells slots) (hx : p.tables.exec = Jvm.exec) {code : ByteArray} (hby : c.code = code) {pc : Nat} {Ls : Array Slot} {St : List Value} {x y : Int64} (hd : decode code pc = .ok (.lxor, 1)) (k : own_Ends p e below s G Q kc ks (T.setTop (mkF m (pc + 1) Ls (.long (x ^^^ y) :: St)))) : own_Ends p e below s G Q kc ks (T.setTop (mkF m pc Ls (.long y :: .long x :: St))) := own_of (fun _ q => XT.lxor X.here hx rfl (hb hby hd) rfl q) k
theorem own_ishl (X : Stand p l e R sS m args below meth c T locs cells slots) (hx : p.tables.exec = Jvm.exec) {code : ByteArray} (hby : c.code = code) {pc : Nat} {Ls : Array Slot} {St : List Value} {x y : Int32} (hd : decode code pc = .ok (.ishl, 1)) (k : own_Ends p e below s G Q kc ks (T.setTop (mkF m (pc + 1) Ls (.int (x <<< (y &&& 31)) :: St)))) : own_Ends p e below s G Q kc ks (T.setTop (mkF m pc Ls (.int y :: .int x :: St))) := own_of (fun _ q => XT.ishl X.here hx rfl (hb hby hd) rfl q) k
theorem own_ishr (X : Stand p l e R sS m args below meth c T locs cells slots) (hx : p.tables.exec = Jvm.exec) {code : ByteArray} (hby : c.code = code) {pc : Nat} {Ls : Array Slot} {St : List Value} {x y : Int32} (hd : decode code pc = .ok (.ishr, 1)) (k : own_Ends p e below s G Q kc ks (T.setTop (mkF m (pc + 1) Ls (.int (x >>> (y &&& 31)) :: St)))) : own_Ends p e below s G Q kc ks (T.setTop (mkF m pc Ls (.int y :: .int x :: St))) := own_of (fun _ q => XT.ishr X.here hx rfl (hb hby hd) rfl q) k
theorem own_iushr (X : Stand p l e R sS m args below meth c T locs cells slots) (hx : p.tables.exec = Jvm.exec) {code : ByteArray} (hby : c.code = code) {pc : Nat} {Ls : Array Slot} {St : List Value} {x y : Int32} (hd : decode code pc = .ok (.iushr, 1)) (k : own_Ends p e below s G Q kc ks (T.setTop (mkF m (pc + 1) Ls (.int (XT.ushr x y) :: St)))) : own_Ends p e below s G Q kc ks (T.setTop (mkF m pc Ls (.int y :: .int x :: St))) := own_of (fun _ q => XT.iushr X.here hx rfl (hb hby hd) rfl q) k
theorem own_lshl (X : Stand p l e R sS m args below meth c T locs cells slots) (hx : p.tables.exec = Jvm.exec) {code : ByteArray} (hby : c.code = code) {pc : Nat} {Ls : Array Slot} {St : List Value} {x : Int64} {y : Int32} (hd : decode code pc = .ok (.lshl, 1)) (k : own_Ends p e below s G Q kc ks (T.setTop (mkF m (pc + 1) Ls (.long (x <<< (y.toInt64 &&& 63)) :: St)))) : own_Ends p e below s G Q kc ks (T.setTop (mkF m pc Ls (.int y :: .long x :: St))) := own_of (fun _ q => XT.lshl X.here hx rfl (hb hby hd) rfl q) k
theorem own_lshr (X : Stand p l e R sS m args below meth c T locs cells slots) (hx : p.tables.exec = Jvm.exec) {code : ByteArray} (hby : c.code = code) {pc : Nat} {Ls : Array Slot} {St : List Value} {x : Int64} {y : Int32} (hd : decode code pc = .ok (.lshr, 1)) (k : own_Ends p e below s G Q kc ks (T.setTop (mkF m (pc + 1) Ls (.long (x >>> (y.toInt64 &&& 63)) :: St)))) : own_Ends p e below s G Q kc ks (T.setTop (mkF m pc Ls (.int y :: .long x :: St))) := own_of (fun _ q => XT.lshr X.here hx rfl (hb hby hd) rfl q) k
theorem own_lushr (X : Stand p l e R sS m args below meth c T locs cells slots) (hx : p.tables.exec = Jvm.exec) {code : ByteArray} (hby : c.code = code) {pc : Nat} {Ls : Array Slot} {St : List Value} {x : Int64} {y : Int32} (hd : decode code pc = .ok (.lushr, 1)) (k : own_Ends p e below s G Q kc ks (T.setTop (mkF m (pc + 1) Ls (.long (XT.ushrL x y) :: St)))) : own_Ends p e below s G Q kc ks (T.setTop (mkF m pc Ls (.int y :: .long x :: St))) := own_of (fun _ q => XT.lushr X.here hx rfl (hb hby hd) rfl q) k
theorem own_ineg (X : Stand p l e R sS m args below meth c T locs cells slots) (hx : p.tables.exec = Jvm.exec) {code : ByteArray} (hby : c.code = code) {pc : Nat} {Ls : Array Slot} {St : List Value} {x : Int32} (hd : decode code pc = .ok (.ineg, 1)) (k : own_Ends p e below s G Q kc ks (T.setTop (mkF m (pc + 1) Ls (.int (-x) :: St)))) : own_Ends p e below s G Q kc ks (T.setTop (mkF m pc Ls (.int x :: St))) := own_of (fun _ q => XS.ineg X.here hx rfl (hb hby hd) rfl q) k
theorem own_lneg (X : Stand p l e R sS m args below meth c T locs cells slots) (hx : p.tables.exec = Jvm.exec) {code : ByteArray} (hby : c.code = code) {pc : Nat} {Ls : Array Slot} {St : List Value} {x : Int64} (hd : decode code pc = .ok (.lneg, 1)) (k : own_Ends p e below s G Q kc ks (T.setTop (mkF m (pc + 1) Ls (.long (-x) :: St)))) : own_Ends p e below s G Q kc ks (T.setTop (mkF m pc Ls (.long x :: St))) := own_of (fun _ q => XT.lneg X.here hx rfl (hb hby hd) rfl q) k
theorem own_i2l (X : Stand p l e R sS m args below meth c T locs cells slots) (hx : p.tables.exec = Jvm.exec) {code : ByteArray} (hby : c.code = code) {pc : Nat} {Ls : Array Slot} {St : List Value} {x : Int32} (hd : decode code pc = .ok (.i2l, 1)) (k : own_Ends p e below s G Q kc ks (T.setTop (mkF m (pc + 1) Ls (.long (x.toInt64) :: St)))) : own_Ends p e below s G Q kc ks (T.setTop (mkF m pc Ls (.int x :: St))) := own_of (fun _ q => XT.i2l X.here hx rfl (hb hby hd) rfl q) k
theorem own_l2i (X : Stand p l e R sS m args below meth c T locs cells slots) (hx : p.tables.exec = Jvm.exec) {code : ByteArray} (hby : c.code = code) {pc : Nat} {Ls : Array Slot} {St : List Value} {x : Int64} (hd : decode code pc = .ok (.l2i, 1)) (k : own_Ends p e below s G Q kc ks (T.setTop (mkF m (pc + 1) Ls (.int (x.toInt32) :: St)))) : own_Ends p e below s G Q kc ks (T.setTop (mkF m pc Ls (.long x :: St))) := own_of (fun _ q => XT.l2i X.here hx rfl (hb hby hd) rfl q) k
theorem own_i2b (X : Stand p l e R sS m args below meth c T locs cells slots) (hx : p.tables.exec = Jvm.exec) {code : ByteArray} (hby : c.code = code) {pc : Nat} {Ls : Array Slot} {St : List Value} {x : Int32} (hd : decode code pc = .ok (.i2b, 1)) (k : own_Ends p e below s G Q kc ks (T.setTop (mkF m (pc + 1) Ls (.int (x.toInt8.toInt32) :: St)))) : own_Ends p e below s G Q kc ks (T.setTop (mkF m pc Ls (.int x :: St))) := own_of (fun _ q => XT.i2b X.here hx rfl (hb hby hd) rfl q) k
theorem own_i2s (X : Stand p l e R sS m args below meth c T locs cells slots) (hx : p.tables.exec = Jvm.exec) {code : ByteArray} (hby : c.code = code) {pc : Nat} {Ls : Array Slot} {St : List Value} {x : Int32} (hd : decode code pc = .ok (.i2s, 1)) (k : own_Ends p e below s G Q kc ks (T.setTop (mkF m (pc + 1) Ls (.int (x.toInt16.toInt32) :: St)))) : own_Ends p e below s G Q kc ks (T.setTop (mkF m pc Ls (.int x :: St))) := own_of (fun _ q => XT.i2s X.here hx rfl (hb hby hd) rfl q) k
theorem own_i2c (X : Stand p l e R sS m args below meth c T locs cells slots) (hx : p.tables.exec = Jvm.exec) {code : ByteArray} (hby : c.code = code) {pc : Nat} {Ls : Array Slot} {St : List Value} {x : Int32} (hd : decode code pc = .ok (.i2c, 1)) (k : own_Ends p e below s G Q kc ks (T.setTop (mkF m (pc + 1) Ls (.int (x.toUInt32.toUInt16.toUInt32.toInt32) :: St)))) : own_Ends p e below s G Q kc ks (T.setTop (mkF m pc Ls (.int x :: St))) := own_of (fun _ q => XT.i2c X.here hx rfl (hb hby hd) rfl q) k
theorem own_lcmp (X : Stand p l e R sS m args below meth c T locs cells slots) (hx : p.tables.exec = Jvm.exec) {code : ByteArray} (hby : c.code = code) {pc : Nat} {Ls : Array Slot} {St : List Value} {x y : Int64} (hd : decode code pc = .ok (.lcmp, 1)) (k : own_Ends p e below s G Q kc ks (T.setTop (mkF m (pc + 1) Ls (.int (XT.cmpL x y) :: St)))) : own_Ends p e below s G Q kc ks (T.setTop (mkF m pc Ls (.long y :: .long x :: St))) := own_of (fun _ q => XT.lcmp X.here hx rfl (hb hby hd) rfl q) k
theorem own_dup (X : Stand p l e R sS m args below meth c T locs cells slots) (hx : p.tables.exec = Jvm.exec) {code : ByteArray} (hby : c.code = code) {pc : Nat} {Ls : Array Slot} {St : List Value} {x : Value} (hd : decode code pc = .ok (.dup, 1)) (hc : x.category = 1) (k : own_Ends p e below s G Q kc ks (T.setTop (mkF m (pc + 1) Ls (x :: x :: St)))) : own_Ends p e below s G Q kc ks (T.setTop (mkF m pc Ls (x :: St))) := own_of (fun _ q => XS.dup X.here hx rfl (hb hby hd) rfl hc q) k
theorem own_dupX1 (X : Stand p l e R sS m args below meth c T locs cells slots) (hx : p.tables.exec = Jvm.exec) {code : ByteArray} (hby : c.code = code) {pc : Nat} {Ls : Array Slot} {St : List Value} {x y : Value} (hd : decode code pc = .ok (.dup_x1, 1)) (hc : x.category = 1) (hc' : y.category = 1) (k : own_Ends p e below s G Q kc ks (T.setTop (mkF m (pc + 1) Ls (x :: y :: x :: St)))) : own_Ends p e below s G Q kc ks (T.setTop (mkF m pc Ls (x :: y :: St))) := own_of (fun _ q => XT.dupX1 X.here hx rfl (hb hby hd) rfl hc hc' q) k
theorem own_dup2 (X : Stand p l e R sS m args below meth c T locs cells slots) (hx : p.tables.exec = Jvm.exec) {code : ByteArray} (hby : c.code = code) {pc : Nat} {Ls : Array Slot} {St : List Value} {x y : Value} (hd : decode code pc = .ok (.dup2, 1)) (hc : x.category = 1) (hc' : y.category = 1) (k : own_Ends p e below s G Q kc ks (T.setTop (mkF m (pc + 1) Ls (x :: y :: x :: y :: St)))) : own_Ends p e below s G Q kc ks (T.setTop (mkF m pc Ls (x :: y :: St))) := own_of (fun _ q => XT.dup2 X.here hx rfl (hb hby hd) rfl hc hc' q) k
theorem own_dup2L (X : Stand p l e R sS m args below meth c T locs cells slots) (hx : p.tables.exec = Jvm.exec) {code : ByteArray} (hby : c.code = code) {pc : Nat} {Ls : Array Slot} {St : List Value} {x : Int64} (hd : decode code pc = .ok (.dup2, 1)) (k : own_Ends p e below s G Q kc ks (T.setTop (mkF m (pc + 1) Ls (.long x :: .long x :: St)))) : own_Ends p e below s G Q kc ks (T.setTop (mkF m pc Ls (.long x :: St))) := own_of (fun _ q => XT.dup2L X.here hx rfl (hb hby hd) rfl q) k
theorem own_pop (X : Stand p l e R sS m args below meth c T locs cells slots) (hx : p.tables.exec = Jvm.exec) {code : ByteArray} (hby : c.code = code) {pc : Nat} {Ls : Array Slot} {St : List Value} {x : Value} (hd : decode code pc = .ok (.pop, 1)) (hc : x.category = 1) (k : own_Ends p e below s G Q kc ks (T.setTop (mkF m (pc + 1) Ls (St)))) : own_Ends p e below s G Q kc ks (T.setTop (mkF m pc Ls (x :: St))) := own_of (fun _ q => XT.pop X.here hx rfl (hb hby hd) rfl hc q) k
theorem own_iinc (X : Stand p l e R sS m args below meth c T locs cells slots) (hx : p.tables.exec = Jvm.exec) {code : ByteArray} (hby : c.code = code) {pc : Nat} {Ls : Array Slot} {St : List Value} {k : Nat} {cst : Int} {x : Int32} {l' : Array Slot} (hd : decode code pc = .ok (.iinc k cst, 3)) (hl : Ls[k]? = some (.val (.int x))) (hl' : storeLocals Ls k (.int (x + Int32.ofInt cst)) = some l') (k : own_Ends p e below s G Q kc ks (T.setTop (mkF m (pc + 3) l' (St)))) : own_Ends p e below s G Q kc ks (T.setTop (mkF m pc Ls (St))) := own_of (fun _ q => XS.iinc X.here hx rfl (hb hby hd) hl hl' q) k
theorem own_iconst (X : Stand p l e R sS m args below meth c T locs cells slots) (hx : p.tables.exec = Jvm.exec) {code : ByteArray} (hby : c.code = code) {pc : Nat} {Ls : Array Slot} {St : List Value} {i : Int} (z : Int32) (hd : decode code pc = .ok (.iconst i, 1)) (hz : Int32.ofInt i = z) (k : own_Ends p e below s G Q kc ks (T.setTop (mkF m (pc + 1) Ls (.int z :: St)))) : own_Ends p e below s G Q kc ks (T.setTop (mkF m pc Ls St)) := by subst hz; exact own_of (fun _ q => XS.iconst X.here hx rfl (hb hby hd) q) k
theorem own_bipush (X : Stand p l e R sS m args below meth c T locs cells slots) (hx : p.tables.exec = Jvm.exec) {code : ByteArray} (hby : c.code = code) {pc : Nat} {Ls : Array Slot} {St : List Value} {i : Int} (z : Int32) (hd : decode code pc = .ok (.bipush i, 2)) (hz : (Int8.ofInt i).toInt32 = z) (k : own_Ends p e below s G Q kc ks (T.setTop (mkF m (pc + 2) Ls (.int z :: St)))) : own_Ends p e below s G Q kc ks (T.setTop (mkF m pc Ls St)) := by subst hz; exact own_of (fun _ q => XS.bipush X.here hx rfl (hb hby hd) q) k
theorem own_sipush (X : Stand p l e R sS m args below meth c T locs cells slots) (hx : p.tables.exec = Jvm.exec) {code : ByteArray} (hby : c.code = code) {pc : Nat} {Ls : Array Slot} {St : List Value} {i : Int} (z : Int32) (hd : decode code pc = .ok (.sipush i, 3)) (hz : (Int16.ofInt i).toInt32 = z) (k : own_Ends p e below s G Q kc ks (T.setTop (mkF m (pc + 3) Ls (.int z :: St)))) : own_Ends p e below s G Q kc ks (T.setTop (mkF m pc Ls St)) := by subst hz; exact own_of (fun _ q => XS.sipush X.here hx rfl (hb hby hd) q) k
theorem own_lconst (X : Stand p l e R sS m args below meth c T locs cells slots) (hx : p.tables.exec = Jvm.exec) {code : ByteArray} (hby : c.code = code) {pc : Nat} {Ls : Array Slot} {St : List Value} {i : Fin 2} (z : Int64) (hd : decode code pc = .ok (.lconst i, 1)) (hz : Int64.ofNat i = z) (k : own_Ends p e below s G Q kc ks (T.setTop (mkF m (pc + 1) Ls (.long z :: St)))) : own_Ends p e below s G Q kc ks (T.setTop (mkF m pc Ls St)) := by subst hz; exact own_of (fun _ q => XT.lconst X.here hx rfl (hb hby hd) q) k
theorem own_goto (X : Stand p l e R sS m args below meth c T locs cells slots) (hx : p.tables.exec = Jvm.exec) {code : ByteArray} (hby : c.code = code) {Ls : Array Slot} {St : List Value} (pc pc' : Nat) {o : Int}  (hd : decode code pc = .ok (.goto o, 3)) (ho : 0 ≤ (pc : Int) + o) (hp : ((pc : Int) + o).toNat = pc') (k : own_Ends p e below s G Q kc ks (T.setTop (mkF m pc' Ls St))) : own_Ends p e below s G Q kc ks (T.setTop (mkF m pc Ls (St))) := own_of (fun _ q => XS.goto X.here hx rfl (pc0 := pc) (pc' := pc') rfl (hb hby hd) ho hp q) k
theorem own_ifYes (X : Stand p l e R sS m args below meth c T locs cells slots) (hx : p.tables.exec = Jvm.exec) {code : ByteArray} (hby : c.code = code) {Ls : Array Slot} {St : List Value} (pc pc' : Nat) {o : Int} {cd : ClassFile.Cond} {x : Int32} (hd : decode code pc = .ok (.ifCond cd o, 3)) (hc : ifCond.holds cd x = true) (ho : 0 ≤ (pc : Int) + o) (hp : ((pc : Int) + o).toNat = pc') (k : own_Ends p e below s G Q kc ks (T.setTop (mkF m pc' Ls St))) : own_Ends p e below s G Q kc ks (T.setTop (mkF m pc Ls (.int x :: St))) := own_of (fun _ q => XS.ifYes X.here hx rfl (pc0 := pc) (pc' := pc') rfl (hb hby hd) rfl hc ho hp q) k
theorem own_icmpYes (X : Stand p l e R sS m args below meth c T locs cells slots) (hx : p.tables.exec = Jvm.exec) {code : ByteArray} (hby : c.code = code) {Ls : Array Slot} {St : List Value} (pc pc' : Nat) {o : Int} {cd : ClassFile.Cond} {x y : Int32} (hd : decode code pc = .ok (.if_icmp cd o, 3)) (hc : if_icmp.holds cd x y = true) (ho : 0 ≤ (pc : Int) + o) (hp : ((pc : Int) + o).toNat = pc') (k : own_Ends p e below s G Q kc ks (T.setTop (mkF m pc' Ls St))) : own_Ends p e below s G Q kc ks (T.setTop (mkF m pc Ls (.int y :: .int x :: St))) := own_of (fun _ q => XS.icmpYes X.here hx rfl (pc0 := pc) (pc' := pc') rfl (hb hby hd) rfl hc ho hp q) k
theorem own_ifnullYes (X : Stand p l e R sS m args below meth c T locs cells slots) (hx : p.tables.exec = Jvm.exec) {code : ByteArray} (hby : c.code = code) {Ls : Array Slot} {St : List Value} (pc pc' : Nat) {o : Int}  (hd : decode code pc = .ok (.ifnull o, 3)) (ho : 0 ≤ (pc : Int) + o) (hp : ((pc : Int) + o).toNat = pc') (k : own_Ends p e below s G Q kc ks (T.setTop (mkF m pc' Ls St))) : own_Ends p e below s G Q kc ks (T.setTop (mkF m pc Ls (.null :: St))) := own_of (fun _ q => XS.ifnullYes X.here hx rfl (pc0 := pc) (pc' := pc') rfl (hb hby hd) rfl ho hp q) k
theorem own_ifnonnullYes (X : Stand p l e R sS m args below meth c T locs cells slots) (hx : p.tables.exec = Jvm.exec) {code : ByteArray} (hby : c.code = code) {Ls : Array Slot} {St : List Value} (pc pc' : Nat) {o : Int} {b : Addr} (hd : decode code pc = .ok (.ifnonnull o, 3)) (ho : 0 ≤ (pc : Int) + o) (hp : ((pc : Int) + o).toNat = pc') (k : own_Ends p e below s G Q kc ks (T.setTop (mkF m pc' Ls St))) : own_Ends p e below s G Q kc ks (T.setTop (mkF m pc Ls (.ref b :: St))) := own_of (fun _ q => XT.ifnonnullYes X.here hx rfl (pc0 := pc) (pc' := pc') rfl (hb hby hd) rfl ho hp q) k
theorem own_ifNo (X : Stand p l e R sS m args below meth c T locs cells slots) (hx : p.tables.exec = Jvm.exec) {code : ByteArray} (hby : c.code = code) {pc : Nat} {Ls : Array Slot} {St : List Value} {cd : ClassFile.Cond} {o : Int} {x : Int32} (hd : decode code pc = .ok (.ifCond cd o, 3)) (hc : ifCond.holds cd x = false) (k : own_Ends p e below s G Q kc ks (T.setTop (mkF m (pc + 3) Ls (St)))) : own_Ends p e below s G Q kc ks (T.setTop (mkF m pc Ls (.int x :: St))) := own_of (fun _ q => XS.ifNo X.here hx rfl (hb hby hd) rfl hc q) k
theorem own_icmpNo (X : Stand p l e R sS m args below meth c T locs cells slots) (hx : p.tables.exec = Jvm.exec) {code : ByteArray} (hby : c.code = code) {pc : Nat} {Ls : Array Slot} {St : List Value} {cd : ClassFile.Cond} {o : Int} {x y : Int32} (hd : decode code pc = .ok (.if_icmp cd o, 3)) (hc : if_icmp.holds cd x y = false) (k : own_Ends p e below s G Q kc ks (T.setTop (mkF m (pc + 3) Ls (St)))) : own_Ends p e below s G Q kc ks (T.setTop (mkF m pc Ls (.int y :: .int x :: St))) := own_of (fun _ q => XS.icmpNo X.here hx rfl (hb hby hd) rfl hc q) k
theorem own_ifnullNo (X : Stand p l e R sS m args below meth c T locs cells slots) (hx : p.tables.exec = Jvm.exec) {code : ByteArray} (hby : c.code = code) {pc : Nat} {Ls : Array Slot} {St : List Value} {o : Int} {b : Addr} (hd : decode code pc = .ok (.ifnull o, 3)) (k : own_Ends p e below s G Q kc ks (T.setTop (mkF m (pc + 3) Ls (St)))) : own_Ends p e below s G Q kc ks (T.setTop (mkF m pc Ls (.ref b :: St))) := own_of (fun _ q => XS.ifnullNo X.here hx rfl (hb hby hd) rfl q) k
theorem own_ifnonnullNo (X : Stand p l e R sS m args below meth c T locs cells slots) (hx : p.tables.exec = Jvm.exec) {code : ByteArray} (hby : c.code = code) {pc : Nat} {Ls : Array Slot} {St : List Value} {o : Int} (hd : decode code pc = .ok (.ifnonnull o, 3)) (k : own_Ends p e below s G Q kc ks (T.setTop (mkF m (pc + 3) Ls (St)))) : own_Ends p e below s G Q kc ks (T.setTop (mkF m pc Ls (.null :: St))) := own_of (fun _ q => XT.ifnonnullNo X.here hx rfl (hb hby hd) rfl q) k
end Own2
theorem own_w {Z : State} {a0 : Array Value} (hw : ∀ d ∈ tables_1, d.before a0 Z = true) (i : Nat) {d : Jvm.Cond} (h : tables_1[i]? = some d) : d.before a0 Z = true := hw _ (List.mem_of_getElem? h)
theorem own_eqk {args : Array Value} {s : State} {t : Term} {k : Int32} (h : (Cond.eq t (.int k)).value args s none s [] = some true) : t.eval args s none [] s = some (.int k) := by
  obtain ⟨x, y, ex, ey, k1, k2⟩ := cmp_v (Or.inl h)
  obtain rfl : y = .int k := (Option.some.inj ((Term.int_eval k).symm.trans ey)).symm
  obtain ⟨z, rfl⟩ := k2
  rw [ex, gotT (Cond.eq_ints ex ey) h]
def own_h0 (c : Int32) : Int32 := if 0 < c then 0 else 1
def own_h1 (c : Int32) : Int32 := if c < 0 then 0 else 1
def own_h2 (c : Int32) : Int32 := if 0 < c then 1 else 0
def own_h3 (c : Int32) : Int32 := if c < 0 then 1 else 0
theorem own_three (c : Int32) : (c < 0 ∧ ¬ (0 < c)) ∨ (¬ (c < 0) ∧ c = 0 ∧ ¬ (0 < c)) ∨ (¬ (c < 0) ∧ ¬ (c = 0) ∧ 0 < c) := by
  have z : (0 : Int32).toInt = 0 := by decide
  rw [Int32.lt_iff_toInt_lt, Int32.lt_iff_toInt_lt, ← Int32.toInt_inj, z]
  omega
def own_pick (i : Int32) (a0 a1 a2 a3 : Addr) : Addr := if (i &&& 3) = 0 then a0 else if (i &&& 3) = 1 then a1 else if (i &&& 3) = 2 then a2 else a3
theorem own_pick_one (i : Int32) (a0 a1 a2 a3 : Addr) : own_pick i a0 a1 a2 a3 = a0 ∨ own_pick i a0 a1 a2 a3 = a1 ∨ own_pick i a0 a1 a2 a3 = a2 ∨ own_pick i a0 a1 a2 a3 = a3 := by
  unfold own_pick
  by_cases q0 : (i &&& 3) = 0
  · exact Or.inl (if_pos q0)
  rw [if_neg q0]
  by_cases q1 : (i &&& 3) = 1
  · exact Or.inr (Or.inl (if_pos q1))
  rw [if_neg q1]
  by_cases q2 : (i &&& 3) = 2
  · exact Or.inr (Or.inr (Or.inl (if_pos q2)))
  exact Or.inr (Or.inr (Or.inr (if_neg q2)))
theorem own_n0 (c : Int32) : own_h2 c = if own_h0 c = 0 then 1 else 0 := by
  unfold own_h0 own_h2
  rcases own_three c with ⟨h1, h2⟩ | ⟨h1, h2, h3⟩ | ⟨h1, h2, h3⟩
  · simp only [h1, h2, if_true, if_false] <;> decide
  · simp only [h1, h3, if_true, if_false] <;> decide
  · simp only [h1, h3, if_true, if_false] <;> decide
theorem own_n1 (c : Int32) : own_h3 c = if own_h1 c = 0 then 1 else 0 := by
  unfold own_h1 own_h3
  rcases own_three c with ⟨h1, h2⟩ | ⟨h1, h2, h3⟩ | ⟨h1, h2, h3⟩
  · simp only [h1, h2, if_true, if_false] <;> decide
  · simp only [h1, h3, if_true, if_false] <;> decide
  · simp only [h1, h3, if_true, if_false] <;> decide
theorem own_n2 (c : Int32) : own_h0 c = if own_h2 c = 0 then 1 else 0 := by
  unfold own_h2 own_h0
  rcases own_three c with ⟨h1, h2⟩ | ⟨h1, h2, h3⟩ | ⟨h1, h2, h3⟩
  · simp only [h1, h2, if_true, if_false] <;> decide
  · simp only [h1, h3, if_true, if_false] <;> decide
  · simp only [h1, h3, if_true, if_false] <;> decide
theorem own_n3 (c : Int32) : own_h1 c = if own_h3 c = 0 then 1 else 0 := by
  unfold own_h3 own_h1
  rcases own_three c with ⟨h1, h2⟩ | ⟨h1, h2, h3⟩ | ⟨h1, h2, h3⟩
  · simp only [h1, h2, if_true, if_false] <;> decide
  · simp only [h1, h3, if_true, if_false] <;> decide
  · simp only [h1, h3, if_true, if_false] <;> decide
abbrev mN_0 : MethodName := ⟨"java/lang/Enum", "ordinal", "()I"⟩
theorem d3_0 : decode jdk_37_method_2_code 0 = .ok (.aload_n 0, 1) := by decide +kernel
theorem d3_1 : decode jdk_37_method_2_code 1 = .ok (.getfield 7, 3) := by decide +kernel
theorem d3_4 : decode jdk_37_method_2_code 4 = .ok (.ireturn, 1) := by decide +kernel
theorem pn_0 : plainName "java/lang/Enum" = true := by first | (simp [plainName, overriddenIn]; done) | decide +kernel
theorem ef_o (m : MethodId) (x0 : Addr) : entryFrame m #[(.ref x0)] 1 = mkF m 0 #[.val (.ref x0)] [] := by first | (simp [entryFrame, mkF, argsToLocals, Value.category]; done) | rfl
def Qo (p2 : Int32) (h0 : Heap) (n0 : Nat) (v : Option Value) (h : Heap) (L : List Loc) : Prop := v = some (.int p2) ∧ Fr n0 L ∧ h = h0
set_option maxRecDepth 65536 in
set_option maxHeartbeats 40000000 in
theorem rmo (l : Launch) (Z : State) (a0 : Array Value) (hw : ∀ d ∈ tables_1, d.before a0 Z = true) (ws : List Jvm.Cond) (a1 : Addr) (p2 : Int32) (h0 : Heap) (n0 : Nat) (Z0 : n0 ≤ h0.size) (F1 : Fld Z h0 a1 "java/lang/Enum" "ordinal" "I" (.int p2)) :
    MetFree l mN_0 (head1 (Jvm.Cond.code mN_0 jdk_37_method_2_code 1 (some .int) :: ws) ({ frames := 0, cells := 0, slots := 0, locals := 0 } : Room)) (fun a U => a = #[(.ref a1)] ∧ Z.Warmed39 U.vm ∧ U.heap = h0) (fun _ _ _ _ _ => True) (fun _ U o U' => ∃ v L, o = .returned v ∧ (Qo p2 h0 n0) v U'.heap L ∧ FrameEnd U o U' L ({ frames := 0, cells := 0, slots := 0, locals := 0 } : Room).cells ({ frames := 0, cells := 0, slots := 0, locals := 0 } : Room).slots) := by
  refine MetFree.of_bodySF (plainFor_of_name pn_0) hisR ?_
  intro p e s m args below meth c s₁ Bd hml0 hP hK
  obtain ⟨rfl, hZ, hh⟩ := hP
  have hx := Bd.exec
  have hby := Bd.bytes
  have hml : c.maxLocals = 1 := hml0
  have hown : s.vm.findClass "java/lang/Enum" = some m.cls := findClass_of_methodNamed Bd.named
  have hnm := (name_of_methodNamed Bd.named Bd.method).1
  have hlk := Bd.notSynchronized
  have X0 : Stand p l e ({ frames := 0, cells := 0, slots := 0, locals := 0 } : Room) s m #[(.ref a1)] below meth c s₁ [] 0 0 := Stand.of_body Bd
  have e0 : s₁.heap = h0 := by rw [← hh, Bd.state]; rfl
  have N0 := Fr.nil n0
  show own_Ends p e below s FrameEnd (Qo p2 h0 n0) 0 0 (s₁.setTop (entryFrame m #[(.ref a1)] 1))
  refine own_of (U' := (s₁.setTop (mkF m 0 #[.val (.ref a1)] []))) (fun _ k => castTop (ef_o m a1) k) ?_
  refine own_aloadN X0 hx hby d3_0 rfl rfl ?_
  obtain ⟨T1, X1, e1, st1⟩ := getF X0 hx hZ hown (host := "") (Or.inl (own_w hw 19 rfl)) Via.refl e0 F1 (g := (mkF m 1 #[.val (.ref a1)] [(.ref a1)])) rfl rfl (hb hby d3_1)
  refine own_of (U' := (T1.setTop (mkF m 4 #[.val (.ref a1)] [(.int p2)]))) (st1) ?_
  exact own_retI X1 hx hlk Bd.returns (hb hby d3_4) (by decide) (by decide) (⟨rfl, N0, e1⟩)
abbrev mN_1 : MethodName := ⟨"com/example/restate/restate/model/CovenantRow$Test", "holds", "(I)Z"⟩
theorem pd_0 : parseMethodDescriptor "()I" = some ⟨[], some .int⟩ := by decide +kernel
abbrev mN_2 : MethodName := ⟨"com/example/restate/restate/model/CovenantRow$Test", "ordinal", "()I"⟩
theorem d4_0 : decode prog_25_method_8_code 0 = .ok (.aload_n 0, 1) := by decide +kernel
theorem d4_1 : decode prog_25_method_8_code 1 = .ok (.invokevirtual 49, 3) := by decide +kernel
theorem d4_4 : decode prog_25_method_8_code 4 = .ok (.tableswitch 32 0 3 #[42, 54, 66, 78], 32) := by decide +kernel
theorem d4_46 : decode prog_25_method_8_code 46 = .ok (.iload_n 1, 1) := by decide +kernel
theorem d4_47 : decode prog_25_method_8_code 47 = .ok (.ifCond .gt 7, 3) := by decide +kernel
theorem d4_50 : decode prog_25_method_8_code 50 = .ok (.iconst 1, 1) := by decide +kernel
theorem d4_51 : decode prog_25_method_8_code 51 = .ok (.goto 40, 3) := by decide +kernel
theorem d4_54 : decode prog_25_method_8_code 54 = .ok (.iconst 0, 1) := by decide +kernel
theorem d4_55 : decode prog_25_method_8_code 55 = .ok (.goto 36, 3) := by decide +kernel
theorem d4_91 : decode prog_25_method_8_code 91 = .ok (.ireturn, 1) := by decide +kernel
theorem pn_1 : plainName "com/example/restate/restate/model/CovenantRow$Test" = true := by first | (simp [plainName, overriddenIn]; done) | decide +kernel
theorem ef_h0 (m : MethodId) (x0 : Addr) (x1 : Int32) : entryFrame m #[(.ref x0), (.int x1)] 2 = mkF m 0 #[.val (.ref x0), .val (.int x1)] [] := by first | (simp [entryFrame, mkF, argsToLocals, Value.category]; done) | rfl
def Qh0 (p2 : Int32) (h0 : Heap) (n0 : Nat) (v : Option Value) (h : Heap) (L : List Loc) : Prop := v = some (.int (own_h0 p2)) ∧ Fr n0 L ∧ h = h0
set_option maxRecDepth 65536 in
set_option maxHeartbeats 40000000 in
theorem rmh0 (l : Launch) (Z : State) (a0 : Array Value) (hw : ∀ d ∈ tables_1, d.before a0 Z = true) (ws : List Jvm.Cond) (a1 : Addr) (p2 : Int32) (h0 : Heap) (n0 : Nat) (Z0 : n0 ≤ h0.size) (E1 : Exa Z h0 a1 "com/example/restate/restate/model/CovenantRow$Test") (F1 : Fld Z h0 a1 "java/lang/Enum" "ordinal" "I" (.int (0 : Int32))) :
    MetFree l mN_1 (head1 (Jvm.Cond.code mN_1 prog_25_method_8_code 2 (some .boolean) :: ws) ({ frames := 1, cells := 0, slots := 0, locals := 12 } : Room)) (fun a U => a = #[(.ref a1), (.int p2)] ∧ Z.Warmed39 U.vm ∧ U.heap = h0) (fun _ _ _ _ _ => True) (fun _ U o U' => ∃ v L, o = .returned v ∧ (Qh0 p2 h0 n0) v U'.heap L ∧ FrameEnd U o U' L ({ frames := 1, cells := 0, slots := 0, locals := 12 } : Room).cells ({ frames := 1, cells := 0, slots := 0, locals := 12 } : Room).slots) := by
  refine MetFree.of_bodySF (plainFor_of_name pn_1) hisR ?_
  intro p e s m args below meth c s₁ Bd hml0 hP hK
  obtain ⟨rfl, hZ, hh⟩ := hP
  have hx := Bd.exec
  have hby := Bd.bytes
  have hml : c.maxLocals = 2 := hml0
  have hown : s.vm.findClass "com/example/restate/restate/model/CovenantRow$Test" = some m.cls := findClass_of_methodNamed Bd.named
  have hnm := (name_of_methodNamed Bd.named Bd.method).1
  have hlk := Bd.notSynchronized
  have X0 : Stand p l e ({ frames := 1, cells := 0, slots := 0, locals := 12 } : Room) s m #[(.ref a1), (.int p2)] below meth c s₁ [] 0 0 := Stand.of_body Bd
  have e0 : s₁.heap = h0 := by rw [← hh, Bd.state]; rfl
  have N0 := Fr.nil n0
  show own_Ends p e below s FrameEnd (Qh0 p2 h0 n0) 0 0 (s₁.setTop (entryFrame m #[(.ref a1), (.int p2)] 2))
  refine own_of (U' := (s₁.setTop (mkF m 0 #[.val (.ref a1), .val (.int p2)] []))) (fun _ k => castTop (ef_h0 m a1 p2) k) ?_
  refine own_aloadN X0 hx hby d4_0 rfl rfl ?_
  obtain ⟨cq2, kq2, q2a, q2b, q2c⟩ := isOf hZ e0 E1
  obtain ⟨_, _, ⟨T2, L2, k2, n2⟩, -, X2, ⟨Lc2, hQ2, l2, y2, z2⟩, st2⟩ := X0.virtualBackUp hx (x := mN_2) (y := mN_0) (owner := "java/lang/Enum") hown (mvT hZ (own_w hw 12 rfl)) (mvT hZ (own_w hw 13 rfl)) (mvT hZ (own_w hw 14 rfl)) (by decide) (mvT hZ (own_w hw 16 rfl)) (mvT hZ (own_w hw 15 rfl)) (backOf (W := 0) (rmo l Z a0 hw [] a1 (0 : Int32) h0 n0 Z0 F1) hZ (own_w hw 18 rfl) (own_w hw 17 rfl) (by decide) (by decide)) q2a q2c (g := (mkF m 1 #[.val (.ref a1), .val (.int p2)] [(.ref a1)])) rfl (by rw [hml]; rfl) (Steps.refl _) (argsL := []) (rest := []) (lenOf pd_0 rfl) rfl (by show 2 * 0 + _ ≤ _; exact Nat.le_of_eq rfl) (hb hby d4_1) (fun _ _ => ⟨rfl, e0, (by decide : 0 + 0 ≤ _), (by decide : 0 + 0 ≤ _)⟩)
  dsimp only [Pt.U, Pt.locs, Pt.cells, Pt.slots] at X2 l2 y2 z2 st2 hQ2
  subst l2 y2 z2
  obtain ⟨rfl, Nq2, e2⟩ := hQ2
  have N2 := Fr.app N0 Nq2
  refine own_of (U' := (T2.setTop (mkF m 4 #[.val (.ref a1), .val (.int p2)] [(.int (0 : Int32))]))) (fun _ k => st2.trans k) ?_
  refine own_of (U' := (T2.setTop (mkF m 46 #[.val (.ref a1), .val (.int p2)] []))) (fun _ k => XS.tswIn X2.here hx rfl (pc0 := 4) (pc' := 46) (o := 42) rfl (hb hby d4_4) rfl (by decide) (by decide) (by decide) (by decide) k) ?_
  refine own_iloadN X2 hx hby d4_46 rfl ?_
  by_cases hc47_3 : (0 : Int32) < p2
  · skip
    refine own_ifYes X2 hx hby 47 54 d4_47 ((if0 _ _).trans (tlt hc47_3).2.2.1) (by decide) (by decide) ?_
    refine own_iconst X2 hx hby 0 d4_54 rfl ?_
    refine own_goto X2 hx hby 55 91 d4_55 (by decide) (by decide) ?_
    exact own_retN X2 hx hlk (t := .boolean) Bd.returns (by simp) (hb hby d4_91) (by decide) (by decide) (⟨congrArg (fun z => some (Value.int z)) (show nar .boolean (0 : Int32) = own_h0 p2 from by simp [own_h0, own_b0, own_b1, hc47_3]), N2, e2⟩)
  · skip
    refine own_ifNo X2 hx hby d4_47 ((if0 _ _).trans (flt hc47_3).2.2.1) ?_
    refine own_iconst X2 hx hby 1 d4_50 rfl ?_
    refine own_goto X2 hx hby 51 91 d4_51 (by decide) (by decide) ?_
    exact own_retN X2 hx hlk (t := .boolean) Bd.returns (by simp) (hb hby d4_91) (by decide) (by decide) (⟨congrArg (fun z => some (Value.int z)) (show nar .boolean (1 : Int32) = own_h0 p2 from by simp [own_h0, own_b0, own_b1, hc47_3]), N2, e2⟩)
theorem d4_58 : decode prog_25_method_8_code 58 = .ok (.iload_n 1, 1) := by decide +kernel
theorem d4_59 : decode prog_25_method_8_code 59 = .ok (.ifCond .lt 7, 3) := by decide +kernel
theorem d4_62 : decode prog_25_method_8_code 62 = .ok (.iconst 1, 1) := by decide +kernel
theorem d4_63 : decode prog_25_method_8_code 63 = .ok (.goto 28, 3) := by decide +kernel
theorem d4_66 : decode prog_25_method_8_code 66 = .ok (.iconst 0, 1) := by decide +kernel
theorem d4_67 : decode prog_25_method_8_code 67 = .ok (.goto 24, 3) := by decide +kernel
theorem ef_h1 (m : MethodId) (x0 : Addr) (x1 : Int32) : entryFrame m #[(.ref x0), (.int x1)] 2 = mkF m 0 #[.val (.ref x0), .val (.int x1)] [] := by first | (simp [entryFrame, mkF, argsToLocals, Value.category]; done) | rfl
def Qh1 (p2 : Int32) (h0 : Heap) (n0 : Nat) (v : Option Value) (h : Heap) (L : List Loc) : Prop := v = some (.int (own_h1 p2)) ∧ Fr n0 L ∧ h = h0
set_option maxRecDepth 65536 in
set_option maxHeartbeats 40000000 in
theorem rmh1 (l : Launch) (Z : State) (a0 : Array Value) (hw : ∀ d ∈ tables_1, d.before a0 Z = true) (ws : List Jvm.Cond) (a1 : Addr) (p2 : Int32) (h0 : Heap) (n0 : Nat) (Z0 : n0 ≤ h0.size) (E1 : Exa Z h0 a1 "com/example/restate/restate/model/CovenantRow$Test") (F1 : Fld Z h0 a1 "java/lang/Enum" "ordinal" "I" (.int (1 : Int32))) :
    MetFree l mN_1 (head1 (Jvm.Cond.code mN_1 prog_25_method_8_code 2 (some .boolean) :: ws) ({ frames := 1, cells := 0, slots := 0, locals := 12 } : Room)) (fun a U => a = #[(.ref a1), (.int p2)] ∧ Z.Warmed39 U.vm ∧ U.heap = h0) (fun _ _ _ _ _ => True) (fun _ U o U' => ∃ v L, o = .returned v ∧ (Qh1 p2 h0 n0) v U'.heap L ∧ FrameEnd U o U' L ({ frames := 1, cells := 0, slots := 0, locals := 12 } : Room).cells ({ frames := 1, cells := 0, slots := 0, locals := 12 } : Room).slots) := by
  refine MetFree.of_bodySF (plainFor_of_name pn_1) hisR ?_
  intro p e s m args below meth c s₁ Bd hml0 hP hK
  obtain ⟨rfl, hZ, hh⟩ := hP
  have hx := Bd.exec
  have hby := Bd.bytes
  have hml : c.maxLocals = 2 := hml0
  have hown : s.vm.findClass "com/example/restate/restate/model/CovenantRow$Test" = some m.cls := findClass_of_methodNamed Bd.named
  have hnm := (name_of_methodNamed Bd.named Bd.method).1
  have hlk := Bd.notSynchronized
  have X0 : Stand p l e ({ frames := 1, cells := 0, slots := 0, locals := 12 } : Room) s m #[(.ref a1), (.int p2)] below meth c s₁ [] 0 0 := Stand.of_body Bd
  have e0 : s₁.heap = h0 := by rw [← hh, Bd.state]; rfl
  have N0 := Fr.nil n0
  show own_Ends p e below s FrameEnd (Qh1 p2 h0 n0) 0 0 (s₁.setTop (entryFrame m #[(.ref a1), (.int p2)] 2))
  refine own_of (U' := (s₁.setTop (mkF m 0 #[.val (.ref a1), .val (.int p2)] []))) (fun _ k => castTop (ef_h1 m a1 p2) k) ?_
  refine own_aloadN X0 hx hby d4_0 rfl rfl ?_
  obtain ⟨cq4, kq4, q4a, q4b, q4c⟩ := isOf hZ e0 E1
  obtain ⟨_, _, ⟨T4, L4, k4, n4⟩, -, X4, ⟨Lc4, hQ4, l4, y4, z4⟩, st4⟩ := X0.virtualBackUp hx (x := mN_2) (y := mN_0) (owner := "java/lang/Enum") hown (mvT hZ (own_w hw 12 rfl)) (mvT hZ (own_w hw 13 rfl)) (mvT hZ (own_w hw 14 rfl)) (by decide) (mvT hZ (own_w hw 16 rfl)) (mvT hZ (own_w hw 15 rfl)) (backOf (W := 0) (rmo l Z a0 hw [] a1 (1 : Int32) h0 n0 Z0 F1) hZ (own_w hw 18 rfl) (own_w hw 17 rfl) (by decide) (by decide)) q4a q4c (g := (mkF m 1 #[.val (.ref a1), .val (.int p2)] [(.ref a1)])) rfl (by rw [hml]; rfl) (Steps.refl _) (argsL := []) (rest := []) (lenOf pd_0 rfl) rfl (by show 2 * 0 + _ ≤ _; exact Nat.le_of_eq rfl) (hb hby d4_1) (fun _ _ => ⟨rfl, e0, (by decide : 0 + 0 ≤ _), (by decide : 0 + 0 ≤ _)⟩)
  dsimp only [Pt.U, Pt.locs, Pt.cells, Pt.slots] at X4 l4 y4 z4 st4 hQ4
  subst l4 y4 z4
  obtain ⟨rfl, Nq4, e4⟩ := hQ4
  have N4 := Fr.app N0 Nq4
  refine own_of (U' := (T4.setTop (mkF m 4 #[.val (.ref a1), .val (.int p2)] [(.int (1 : Int32))]))) (fun _ k => st4.trans k) ?_
  refine own_of (U' := (T4.setTop (mkF m 58 #[.val (.ref a1), .val (.int p2)] []))) (fun _ k => XS.tswIn X4.here hx rfl (pc0 := 4) (pc' := 58) (o := 54) rfl (hb hby d4_4) rfl (by decide) (by decide) (by decide) (by decide) k) ?_
  refine own_iloadN X4 hx hby d4_58 rfl ?_
  by_cases hc59_5 : p2 < (0 : Int32)
  · skip
    refine own_ifYes X4 hx hby 59 66 d4_59 ((if0 _ _).trans (tlt hc59_5).1) (by decide) (by decide) ?_
    refine own_iconst X4 hx hby 0 d4_66 rfl ?_
    refine own_goto X4 hx hby 67 91 d4_67 (by decide) (by decide) ?_
    exact own_retN X4 hx hlk (t := .boolean) Bd.returns (by simp) (hb hby d4_91) (by decide) (by decide) (⟨congrArg (fun z => some (Value.int z)) (show nar .boolean (0 : Int32) = own_h1 p2 from by simp [own_h1, own_b0, own_b1, hc59_5]), N4, e4⟩)
  · skip
    refine own_ifNo X4 hx hby d4_59 ((if0 _ _).trans (flt hc59_5).1) ?_
    refine own_iconst X4 hx hby 1 d4_62 rfl ?_
    refine own_goto X4 hx hby 63 91 d4_63 (by decide) (by decide) ?_
    exact own_retN X4 hx hlk (t := .boolean) Bd.returns (by simp) (hb hby d4_91) (by decide) (by decide) (⟨congrArg (fun z => some (Value.int z)) (show nar .boolean (1 : Int32) = own_h1 p2 from by simp [own_h1, own_b0, own_b1, hc59_5]), N4, e4⟩)
theorem d4_70 : decode prog_25_method_8_code 70 = .ok (.iload_n 1, 1) := by decide +kernel
theorem d4_71 : decode prog_25_method_8_code 71 = .ok (.ifCond .le 7, 3) := by decide +kernel
theorem d4_74 : decode prog_25_method_8_code 74 = .ok (.iconst 1, 1) := by decide +kernel
theorem d4_75 : decode prog_25_method_8_code 75 = .ok (.goto 16, 3) := by decide +kernel
theorem d4_78 : decode prog_25_method_8_code 78 = .ok (.iconst 0, 1) := by decide +kernel
theorem d4_79 : decode prog_25_method_8_code 79 = .ok (.goto 12, 3) := by decide +kernel
theorem ef_h2 (m : MethodId) (x0 : Addr) (x1 : Int32) : entryFrame m #[(.ref x0), (.int x1)] 2 = mkF m 0 #[.val (.ref x0), .val (.int x1)] [] := by first | (simp [entryFrame, mkF, argsToLocals, Value.category]; done) | rfl
def Qh2 (p2 : Int32) (h0 : Heap) (n0 : Nat) (v : Option Value) (h : Heap) (L : List Loc) : Prop := v = some (.int (own_h2 p2)) ∧ Fr n0 L ∧ h = h0
set_option maxRecDepth 65536 in
set_option maxHeartbeats 40000000 in
theorem rmh2 (l : Launch) (Z : State) (a0 : Array Value) (hw : ∀ d ∈ tables_1, d.before a0 Z = true) (ws : List Jvm.Cond) (a1 : Addr) (p2 : Int32) (h0 : Heap) (n0 : Nat) (Z0 : n0 ≤ h0.size) (E1 : Exa Z h0 a1 "com/example/restate/restate/model/CovenantRow$Test") (F1 : Fld Z h0 a1 "java/lang/Enum" "ordinal" "I" (.int (2 : Int32))) :
    MetFree l mN_1 (head1 (Jvm.Cond.code mN_1 prog_25_method_8_code 2 (some .boolean) :: ws) ({ frames := 1, cells := 0, slots := 0, locals := 12 } : Room)) (fun a U => a = #[(.ref a1), (.int p2)] ∧ Z.Warmed39 U.vm ∧ U.heap = h0) (fun _ _ _ _ _ => True) (fun _ U o U' => ∃ v L, o = .returned v ∧ (Qh2 p2 h0 n0) v U'.heap L ∧ FrameEnd U o U' L ({ frames := 1, cells := 0, slots := 0, locals := 12 } : Room).cells ({ frames := 1, cells := 0, slots := 0, locals := 12 } : Room).slots) := by
  refine MetFree.of_bodySF (plainFor_of_name pn_1) hisR ?_
  intro p e s m args below meth c s₁ Bd hml0 hP hK
  obtain ⟨rfl, hZ, hh⟩ := hP
  have hx := Bd.exec
  have hby := Bd.bytes
  have hml : c.maxLocals = 2 := hml0
  have hown : s.vm.findClass "com/example/restate/restate/model/CovenantRow$Test" = some m.cls := findClass_of_methodNamed Bd.named
  have hnm := (name_of_methodNamed Bd.named Bd.method).1
  have hlk := Bd.notSynchronized
  have X0 : Stand p l e ({ frames := 1, cells := 0, slots := 0, locals := 12 } : Room) s m #[(.ref a1), (.int p2)] below meth c s₁ [] 0 0 := Stand.of_body Bd
  have e0 : s₁.heap = h0 := by rw [← hh, Bd.state]; rfl
  have N0 := Fr.nil n0
  show own_Ends p e below s FrameEnd (Qh2 p2 h0 n0) 0 0 (s₁.setTop (entryFrame m #[(.ref a1), (.int p2)] 2))
  refine own_of (U' := (s₁.setTop (mkF m 0 #[.val (.ref a1), .val (.int p2)] []))) (fun _ k => castTop (ef_h2 m a1 p2) k) ?_
  refine own_aloadN X0 hx hby d4_0 rfl rfl ?_
  obtain ⟨cq6, kq6, q6a, q6b, q6c⟩ := isOf hZ e0 E1
  obtain ⟨_, _, ⟨T6, L6, k6, n6⟩, -, X6, ⟨Lc6, hQ6, l6, y6, z6⟩, st6⟩ := X0.virtualBackUp hx (x := mN_2) (y := mN_0) (owner := "java/lang/Enum") hown (mvT hZ (own_w hw 12 rfl)) (mvT hZ (own_w hw 13 rfl)) (mvT hZ (own_w hw 14 rfl)) (by decide) (mvT hZ (own_w hw 16 rfl)) (mvT hZ (own_w hw 15 rfl)) (backOf (W := 0) (rmo l Z a0 hw [] a1 (2 : Int32) h0 n0 Z0 F1) hZ (own_w hw 18 rfl) (own_w hw 17 rfl) (by decide) (by decide)) q6a q6c (g := (mkF m 1 #[.val (.ref a1), .val (.int p2)] [(.ref a1)])) rfl (by rw [hml]; rfl) (Steps.refl _) (argsL := []) (rest := []) (lenOf pd_0 rfl) rfl (by show 2 * 0 + _ ≤ _; exact Nat.le_of_eq rfl) (hb hby d4_1) (fun _ _ => ⟨rfl, e0, (by decide : 0 + 0 ≤ _), (by decide : 0 + 0 ≤ _)⟩)
  dsimp only [Pt.U, Pt.locs, Pt.cells, Pt.slots] at X6 l6 y6 z6 st6 hQ6
  subst l6 y6 z6
  obtain ⟨rfl, Nq6, e6⟩ := hQ6
  have N6 := Fr.app N0 Nq6
  refine own_of (U' := (T6.setTop (mkF m 4 #[.val (.ref a1), .val (.int p2)] [(.int (2 : Int32))]))) (fun _ k => st6.trans k) ?_
  refine own_of (U' := (T6.setTop (mkF m 70 #[.val (.ref a1), .val (.int p2)] []))) (fun _ k => XS.tswIn X6.here hx rfl (pc0 := 4) (pc' := 70) (o := 66) rfl (hb hby d4_4) rfl (by decide) (by decide) (by decide) (by decide) k) ?_
  refine own_iloadN X6 hx hby d4_70 rfl ?_
  by_cases hc71_7 : (0 : Int32) < p2
  · skip
    refine own_ifNo X6 hx hby d4_71 ((if0 _ _).trans (tlt hc71_7).2.2.2) ?_
    refine own_iconst X6 hx hby 1 d4_74 rfl ?_
    refine own_goto X6 hx hby 75 91 d4_75 (by decide) (by decide) ?_
    exact own_retN X6 hx hlk (t := .boolean) Bd.returns (by simp) (hb hby d4_91) (by decide) (by decide) (⟨congrArg (fun z => some (Value.int z)) (show nar .boolean (1 : Int32) = own_h2 p2 from by simp [own_h2, own_b0, own_b1, hc71_7]), N6, e6⟩)
  · skip
    refine own_ifYes X6 hx hby 71 78 d4_71 ((if0 _ _).trans (flt hc71_7).2.2.2) (by decide) (by decide) ?_
    refine own_iconst X6 hx hby 0 d4_78 rfl ?_
    refine own_goto X6 hx hby 79 91 d4_79 (by decide) (by decide) ?_
    exact own_retN X6 hx hlk (t := .boolean) Bd.returns (by simp) (hb hby d4_91) (by decide) (by decide) (⟨congrArg (fun z => some (Value.int z)) (show nar .boolean (0 : Int32) = own_h2 p2 from by simp [own_h2, own_b0, own_b1, hc71_7]), N6, e6⟩)
theorem d4_82 : decode prog_25_method_8_code 82 = .ok (.iload_n 1, 1) := by decide +kernel
theorem d4_83 : decode prog_25_method_8_code 83 = .ok (.ifCond .ge 7, 3) := by decide +kernel
theorem d4_86 : decode prog_25_method_8_code 86 = .ok (.iconst 1, 1) := by decide +kernel
theorem d4_87 : decode prog_25_method_8_code 87 = .ok (.goto 4, 3) := by decide +kernel
theorem d4_90 : decode prog_25_method_8_code 90 = .ok (.iconst 0, 1) := by decide +kernel
theorem ef_h3 (m : MethodId) (x0 : Addr) (x1 : Int32) : entryFrame m #[(.ref x0), (.int x1)] 2 = mkF m 0 #[.val (.ref x0), .val (.int x1)] [] := by first | (simp [entryFrame, mkF, argsToLocals, Value.category]; done) | rfl
def Qh3 (p2 : Int32) (h0 : Heap) (n0 : Nat) (v : Option Value) (h : Heap) (L : List Loc) : Prop := v = some (.int (own_h3 p2)) ∧ Fr n0 L ∧ h = h0
set_option maxRecDepth 65536 in
set_option maxHeartbeats 40000000 in
theorem rmh3 (l : Launch) (Z : State) (a0 : Array Value) (hw : ∀ d ∈ tables_1, d.before a0 Z = true) (ws : List Jvm.Cond) (a1 : Addr) (p2 : Int32) (h0 : Heap) (n0 : Nat) (Z0 : n0 ≤ h0.size) (E1 : Exa Z h0 a1 "com/example/restate/restate/model/CovenantRow$Test") (F1 : Fld Z h0 a1 "java/lang/Enum" "ordinal" "I" (.int (3 : Int32))) :
    MetFree l mN_1 (head1 (Jvm.Cond.code mN_1 prog_25_method_8_code 2 (some .boolean) :: ws) ({ frames := 1, cells := 0, slots := 0, locals := 12 } : Room)) (fun a U => a = #[(.ref a1), (.int p2)] ∧ Z.Warmed39 U.vm ∧ U.heap = h0) (fun _ _ _ _ _ => True) (fun _ U o U' => ∃ v L, o = .returned v ∧ (Qh3 p2 h0 n0) v U'.heap L ∧ FrameEnd U o U' L ({ frames := 1, cells := 0, slots := 0, locals := 12 } : Room).cells ({ frames := 1, cells := 0, slots := 0, locals := 12 } : Room).slots) := by
  refine MetFree.of_bodySF (plainFor_of_name pn_1) hisR ?_
  intro p e s m args below meth c s₁ Bd hml0 hP hK
  obtain ⟨rfl, hZ, hh⟩ := hP
  have hx := Bd.exec
  have hby := Bd.bytes
  have hml : c.maxLocals = 2 := hml0
  have hown : s.vm.findClass "com/example/restate/restate/model/CovenantRow$Test" = some m.cls := findClass_of_methodNamed Bd.named
  have hnm := (name_of_methodNamed Bd.named Bd.method).1
  have hlk := Bd.notSynchronized
  have X0 : Stand p l e ({ frames := 1, cells := 0, slots := 0, locals := 12 } : Room) s m #[(.ref a1), (.int p2)] below meth c s₁ [] 0 0 := Stand.of_body Bd
  have e0 : s₁.heap = h0 := by rw [← hh, Bd.state]; rfl
  have N0 := Fr.nil n0
  show own_Ends p e below s FrameEnd (Qh3 p2 h0 n0) 0 0 (s₁.setTop (entryFrame m #[(.ref a1), (.int p2)] 2))
  refine own_of (U' := (s₁.setTop (mkF m 0 #[.val (.ref a1), .val (.int p2)] []))) (fun _ k => castTop (ef_h3 m a1 p2) k) ?_
  refine own_aloadN X0 hx hby d4_0 rfl rfl ?_
  obtain ⟨cq8, kq8, q8a, q8b, q8c⟩ := isOf hZ e0 E1
  obtain ⟨_, _, ⟨T8, L8, k8, n8⟩, -, X8, ⟨Lc8, hQ8, l8, y8, z8⟩, st8⟩ := X0.virtualBackUp hx (x := mN_2) (y := mN_0) (owner := "java/lang/Enum") hown (mvT hZ (own_w hw 12 rfl)) (mvT hZ (own_w hw 13 rfl)) (mvT hZ (own_w hw 14 rfl)) (by decide) (mvT hZ (own_w hw 16 rfl)) (mvT hZ (own_w hw 15 rfl)) (backOf (W := 0) (rmo l Z a0 hw [] a1 (3 : Int32) h0 n0 Z0 F1) hZ (own_w hw 18 rfl) (own_w hw 17 rfl) (by decide) (by decide)) q8a q8c (g := (mkF m 1 #[.val (.ref a1), .val (.int p2)] [(.ref a1)])) rfl (by rw [hml]; rfl) (Steps.refl _) (argsL := []) (rest := []) (lenOf pd_0 rfl) rfl (by show 2 * 0 + _ ≤ _; exact Nat.le_of_eq rfl) (hb hby d4_1) (fun _ _ => ⟨rfl, e0, (by decide : 0 + 0 ≤ _), (by decide : 0 + 0 ≤ _)⟩)
  dsimp only [Pt.U, Pt.locs, Pt.cells, Pt.slots] at X8 l8 y8 z8 st8 hQ8
  subst l8 y8 z8
  obtain ⟨rfl, Nq8, e8⟩ := hQ8
  have N8 := Fr.app N0 Nq8
  refine own_of (U' := (T8.setTop (mkF m 4 #[.val (.ref a1), .val (.int p2)] [(.int (3 : Int32))]))) (fun _ k => st8.trans k) ?_
  refine own_of (U' := (T8.setTop (mkF m 82 #[.val (.ref a1), .val (.int p2)] []))) (fun _ k => XS.tswIn X8.here hx rfl (pc0 := 4) (pc' := 82) (o := 78) rfl (hb hby d4_4) rfl (by decide) (by decide) (by decide) (by decide) k) ?_
  refine own_iloadN X8 hx hby d4_82 rfl ?_
  by_cases hc83_9 : p2 < (0 : Int32)
  · skip
    refine own_ifNo X8 hx hby d4_83 ((if0 _ _).trans (tlt hc83_9).2.1) ?_
    refine own_iconst X8 hx hby 1 d4_86 rfl ?_
    refine own_goto X8 hx hby 87 91 d4_87 (by decide) (by decide) ?_
    exact own_retN X8 hx hlk (t := .boolean) Bd.returns (by simp) (hb hby d4_91) (by decide) (by decide) (⟨congrArg (fun z => some (Value.int z)) (show nar .boolean (1 : Int32) = own_h3 p2 from by simp [own_h3, own_b0, own_b1, hc83_9]), N8, e8⟩)
  · skip
    refine own_ifYes X8 hx hby 83 90 d4_83 ((if0 _ _).trans (flt hc83_9).2.1) (by decide) (by decide) ?_
    refine own_iconst X8 hx hby 0 d4_90 rfl ?_
    exact own_retN X8 hx hlk (t := .boolean) Bd.returns (by simp) (hb hby d4_91) (by decide) (by decide) (⟨congrArg (fun z => some (Value.int z)) (show nar .boolean (0 : Int32) = own_h3 p2 from by simp [own_h3, own_b0, own_b1, hc83_9]), N8, e8⟩)
abbrev mN_3 : MethodName := ⟨"com/example/restate/restate/model/TestTurnedPinLaw", "pick", "(I)Lcom/example/restate/restate/model/CovenantRow$Test;"⟩
theorem d1_0 : decode method_2_code 0 = .ok (.iload_n 0, 1) := by decide +kernel
theorem d1_1 : decode method_2_code 1 = .ok (.iconst 3, 1) := by decide +kernel
theorem d1_2 : decode method_2_code 2 = .ok (.iand, 1) := by decide +kernel
theorem d1_3 : decode method_2_code 3 = .ok (.istore_n 1, 1) := by decide +kernel
theorem d1_4 : decode method_2_code 4 = .ok (.iload_n 1, 1) := by decide +kernel
theorem d1_5 : decode method_2_code 5 = .ok (.ifCond .ne 7, 3) := by decide +kernel
theorem d1_8 : decode method_2_code 8 = .ok (.getstatic 7, 3) := by decide +kernel
theorem d1_11 : decode method_2_code 11 = .ok (.areturn, 1) := by decide +kernel
theorem d1_12 : decode method_2_code 12 = .ok (.iload_n 1, 1) := by decide +kernel
theorem d1_13 : decode method_2_code 13 = .ok (.iconst 1, 1) := by decide +kernel
theorem d1_14 : decode method_2_code 14 = .ok (.if_icmp .ne 7, 3) := by decide +kernel
theorem d1_17 : decode method_2_code 17 = .ok (.getstatic 13, 3) := by decide +kernel
theorem d1_20 : decode method_2_code 20 = .ok (.areturn, 1) := by decide +kernel
theorem d1_21 : decode method_2_code 21 = .ok (.iload_n 1, 1) := by decide +kernel
theorem d1_22 : decode method_2_code 22 = .ok (.iconst 2, 1) := by decide +kernel
theorem d1_23 : decode method_2_code 23 = .ok (.if_icmp .ne 7, 3) := by decide +kernel
theorem d1_26 : decode method_2_code 26 = .ok (.getstatic 16, 3) := by decide +kernel
theorem d1_29 : decode method_2_code 29 = .ok (.areturn, 1) := by decide +kernel
theorem d1_30 : decode method_2_code 30 = .ok (.getstatic 19, 3) := by decide +kernel
theorem d1_33 : decode method_2_code 33 = .ok (.areturn, 1) := by decide +kernel
theorem pn_2 : plainName "com/example/restate/restate/model/TestTurnedPinLaw" = true := by first | (simp [plainName, overriddenIn]; done) | decide +kernel
theorem ef_p (m : MethodId) (x0 : Int32) : entryFrame m #[(.int x0)] 2 = mkF m 0 #[.val (.int x0), .unset] [] := by first | (simp [entryFrame, mkF, argsToLocals, Value.category]; done) | rfl
def Qp (p1 : Int32) (k0 k1 k2 k3 : Addr) (h0 : Heap) (n0 : Nat) (v : Option Value) (h : Heap) (L : List Loc) : Prop := v = some (.ref (own_pick p1 k0 k1 k2 k3)) ∧ Fr n0 L ∧ h = h0
set_option maxRecDepth 65536 in
set_option maxHeartbeats 40000000 in
theorem rmp (l : Launch) (Z : State) (a0 : Array Value) (hw : ∀ d ∈ tables_1, d.before a0 Z = true) (ws : List Jvm.Cond) (p1 : Int32) (k0 k1 k2 k3 : Addr) (h0 : Heap) (n0 : Nat) (Z0 : n0 ≤ h0.size) (S0 : Sta Z h0 "com/example/restate/restate/model/CovenantRow$Test" "AT_MOST" "Lcom/example/restate/restate/model/CovenantRow$Test;" (.ref k0)) (S1 : Sta Z h0 "com/example/restate/restate/model/CovenantRow$Test" "AT_LEAST" "Lcom/example/restate/restate/model/CovenantRow$Test;" (.ref k1)) (S2 : Sta Z h0 "com/example/restate/restate/model/CovenantRow$Test" "GREATER_THAN" "Lcom/example/restate/restate/model/CovenantRow$Test;" (.ref k2)) (S3 : Sta Z h0 "com/example/restate/restate/model/CovenantRow$Test" "LESS_THAN" "Lcom/example/restate/restate/model/CovenantRow$Test;" (.ref k3)) :
    MetFree l mN_3 (head1 (Jvm.Cond.code mN_3 method_2_code 2 (some (.object "com/example/restate/restate/model/CovenantRow$Test")) :: ws) ({ frames := 0, cells := 0, slots := 0, locals := 0 } : Room)) (fun a U => a = #[(.int p1)] ∧ Z.Warmed39 U.vm ∧ U.heap = h0) (fun _ _ _ _ _ => True) (fun _ U o U' => ∃ v L, o = .returned v ∧ (Qp p1 k0 k1 k2 k3 h0 n0) v U'.heap L ∧ FrameEnd U o U' L ({ frames := 0, cells := 0, slots := 0, locals := 0 } : Room).cells ({ frames := 0, cells := 0, slots := 0, locals := 0 } : Room).slots) := by
  refine MetFree.of_bodySF (plainFor_of_name pn_2) hisR ?_
  intro p e s m args below meth c s₁ Bd hml0 hP hK
  obtain ⟨rfl, hZ, hh⟩ := hP
  have hx := Bd.exec
  have hby := Bd.bytes
  have hml : c.maxLocals = 2 := hml0
  have hown : s.vm.findClass "com/example/restate/restate/model/TestTurnedPinLaw" = some m.cls := findClass_of_methodNamed Bd.named
  have hnm := (name_of_methodNamed Bd.named Bd.method).1
  have hlk := Bd.notSynchronized
  have X0 : Stand p l e ({ frames := 0, cells := 0, slots := 0, locals := 0 } : Room) s m #[(.int p1)] below meth c s₁ [] 0 0 := Stand.of_body Bd
  have e0 : s₁.heap = h0 := by rw [← hh, Bd.state]; rfl
  have N0 := Fr.nil n0
  show own_Ends p e below s FrameEnd (Qp p1 k0 k1 k2 k3 h0 n0) 0 0 (s₁.setTop (entryFrame m #[(.int p1)] 2))
  refine own_of (U' := (s₁.setTop (mkF m 0 #[.val (.int p1), .unset] []))) (fun _ k => castTop (ef_p m p1) k) ?_
  refine own_iloadN X0 hx hby d1_0 rfl ?_
  refine own_iconst X0 hx hby 3 d1_1 rfl ?_
  refine own_iand X0 hx hby d1_2 ?_
  refine own_istoreN X0 hx hby d1_3 (l' := #[.val (.int p1), .val (.int (p1 &&& (3 : Int32)))]) rfl ?_
  refine own_iloadN X0 hx hby d1_4 rfl ?_
  by_cases hc5_10 : (p1 &&& (3 : Int32)) = (0 : Int32)
  · skip
    refine own_ifNo X0 hx hby d1_5 ((if0 _ _).trans (teq hc5_10).2) ?_
    obtain ⟨T11, X11, e11, st11⟩ := getS2 X0 hx hZ hown (host := "") (Or.inl (own_w hw 4 rfl)) Via.refl e0 S0 (g := (mkF m 8 #[.val (.int p1), .val (.int (p1 &&& (3 : Int32)))] [])) rfl (hb hby d1_8)
    refine own_of (U' := (T11.setTop (mkF m 11 #[.val (.int p1), .val (.int (p1 &&& (3 : Int32)))] [(.ref k0)]))) (st11) ?_
    exact own_retA X11 hx hlk Bd.returns rfl rfl (hb hby d1_11) (by decide) (by decide) (⟨congrArg (fun z => some (Value.ref z)) (show k0 = own_pick p1 k0 k1 k2 k3 from by simp [own_pick, hc5_10]), N0, e11⟩)
  · skip
    refine own_ifYes X0 hx hby 5 12 d1_5 ((if0 _ _).trans (feq hc5_10).2) (by decide) (by decide) ?_
    refine own_iloadN X0 hx hby d1_12 rfl ?_
    refine own_iconst X0 hx hby 1 d1_13 rfl ?_
    by_cases hc14_12 : (p1 &&& (3 : Int32)) = (1 : Int32)
    · skip
      refine own_icmpNo X0 hx hby d1_14 (teq hc14_12).2 ?_
      obtain ⟨T13, X13, e13, st13⟩ := getS2 X0 hx hZ hown (host := "") (Or.inl (own_w hw 30 rfl)) Via.refl e0 S1 (g := (mkF m 17 #[.val (.int p1), .val (.int (p1 &&& (3 : Int32)))] [])) rfl (hb hby d1_17)
      refine own_of (U' := (T13.setTop (mkF m 20 #[.val (.int p1), .val (.int (p1 &&& (3 : Int32)))] [(.ref k1)]))) (st13) ?_
      exact own_retA X13 hx hlk Bd.returns rfl rfl (hb hby d1_20) (by decide) (by decide) (⟨congrArg (fun z => some (Value.ref z)) (show k1 = own_pick p1 k0 k1 k2 k3 from by simp [own_pick, hc5_10, hc14_12]), N0, e13⟩)
    · skip
      refine own_icmpYes X0 hx hby 14 21 d1_14 (feq hc14_12).2 (by decide) (by decide) ?_
      refine own_iloadN X0 hx hby d1_21 rfl ?_
      refine own_iconst X0 hx hby 2 d1_22 rfl ?_
      by_cases hc23_14 : (p1 &&& (3 : Int32)) = (2 : Int32)
      · skip
        refine own_icmpNo X0 hx hby d1_23 (teq hc23_14).2 ?_
        obtain ⟨T15, X15, e15, st15⟩ := getS2 X0 hx hZ hown (host := "") (Or.inl (own_w hw 29 rfl)) Via.refl e0 S2 (g := (mkF m 26 #[.val (.int p1), .val (.int (p1 &&& (3 : Int32)))] [])) rfl (hb hby d1_26)
        refine own_of (U' := (T15.setTop (mkF m 29 #[.val (.int p1), .val (.int (p1 &&& (3 : Int32)))] [(.ref k2)]))) (st15) ?_
        exact own_retA X15 hx hlk Bd.returns rfl rfl (hb hby d1_29) (by decide) (by decide) (⟨congrArg (fun z => some (Value.ref z)) (show k2 = own_pick p1 k0 k1 k2 k3 from by simp [own_pick, hc5_10, hc14_12, hc23_14]), N0, e15⟩)
      · skip
        refine own_icmpYes X0 hx hby 23 30 d1_23 (feq hc23_14).2 (by decide) (by decide) ?_
        obtain ⟨T16, X16, e16, st16⟩ := getS2 X0 hx hZ hown (host := "") (Or.inl (own_w hw 35 rfl)) Via.refl e0 S3 (g := (mkF m 30 #[.val (.int p1), .val (.int (p1 &&& (3 : Int32)))] [])) rfl (hb hby d1_30)
        refine own_of (U' := (T16.setTop (mkF m 33 #[.val (.int p1), .val (.int (p1 &&& (3 : Int32)))] [(.ref k3)]))) (st16) ?_
        exact own_retA X16 hx hlk Bd.returns rfl rfl (hb hby d1_33) (by decide) (by decide) (⟨congrArg (fun z => some (Value.ref z)) (show k3 = own_pick p1 k0 k1 k2 k3 from by simp [own_pick, hc5_10, hc14_12, hc23_14]), N0, e16⟩)
abbrev mN_4 : MethodName := ⟨"com/example/restate/restate/model/CovenantRow$Test", "turned", "()Lcom/example/restate/restate/model/CovenantRow$Test;"⟩
theorem d2_0 : decode prog_25_method_6_code 0 = .ok (.aload_n 0, 1) := by decide +kernel
theorem d2_1 : decode prog_25_method_6_code 1 = .ok (.invokevirtual 49, 3) := by decide +kernel
theorem d2_4 : decode prog_25_method_6_code 4 = .ok (.tableswitch 32 0 3 #[42, 48, 54, 60], 32) := by decide +kernel
theorem d2_46 : decode prog_25_method_6_code 46 = .ok (.getstatic 10, 3) := by decide +kernel
theorem d2_49 : decode prog_25_method_6_code 49 = .ok (.goto 18, 3) := by decide +kernel
theorem d2_67 : decode prog_25_method_6_code 67 = .ok (.areturn, 1) := by decide +kernel
theorem ef_t0 (m : MethodId) (x0 : Addr) : entryFrame m #[(.ref x0)] 1 = mkF m 0 #[.val (.ref x0)] [] := by first | (simp [entryFrame, mkF, argsToLocals, Value.category]; done) | rfl
def Qt0 (k0 k1 k2 k3 : Addr) (h0 : Heap) (n0 : Nat) (v : Option Value) (h : Heap) (L : List Loc) : Prop := v = some (.ref k2) ∧ Fr n0 L ∧ h = h0
set_option maxRecDepth 65536 in
set_option maxHeartbeats 40000000 in
theorem rmt0 (l : Launch) (Z : State) (a0 : Array Value) (hw : ∀ d ∈ tables_1, d.before a0 Z = true) (ws : List Jvm.Cond) (a1 k0 k1 k2 k3 : Addr) (h0 : Heap) (n0 : Nat) (Z0 : n0 ≤ h0.size) (S0 : Sta Z h0 "com/example/restate/restate/model/CovenantRow$Test" "AT_MOST" "Lcom/example/restate/restate/model/CovenantRow$Test;" (.ref k0)) (S1 : Sta Z h0 "com/example/restate/restate/model/CovenantRow$Test" "AT_LEAST" "Lcom/example/restate/restate/model/CovenantRow$Test;" (.ref k1)) (S2 : Sta Z h0 "com/example/restate/restate/model/CovenantRow$Test" "GREATER_THAN" "Lcom/example/restate/restate/model/CovenantRow$Test;" (.ref k2)) (S3 : Sta Z h0 "com/example/restate/restate/model/CovenantRow$Test" "LESS_THAN" "Lcom/example/restate/restate/model/CovenantRow$Test;" (.ref k3)) (E1 : Exa Z h0 a1 "com/example/restate/restate/model/CovenantRow$Test") (F1 : Fld Z h0 a1 "java/lang/Enum" "ordinal" "I" (.int (0 : Int32))) :
    MetFree l mN_4 (head1 (Jvm.Cond.code mN_4 prog_25_method_6_code 1 (some (.object "com/example/restate/restate/model/CovenantRow$Test")) :: ws) ({ frames := 1, cells := 0, slots := 0, locals := 12 } : Room)) (fun a U => a = #[(.ref a1)] ∧ Z.Warmed39 U.vm ∧ U.heap = h0) (fun _ _ _ _ _ => True) (fun _ U o U' => ∃ v L, o = .returned v ∧ (Qt0 k0 k1 k2 k3 h0 n0) v U'.heap L ∧ FrameEnd U o U' L ({ frames := 1, cells := 0, slots := 0, locals := 12 } : Room).cells ({ frames := 1, cells := 0, slots := 0, locals := 12 } : Room).slots) := by
  refine MetFree.of_bodySF (plainFor_of_name pn_1) hisR ?_
  intro p e s m args below meth c s₁ Bd hml0 hP hK
  obtain ⟨rfl, hZ, hh⟩ := hP
  have hx := Bd.exec
  have hby := Bd.bytes
  have hml : c.maxLocals = 1 := hml0
  have hown : s.vm.findClass "com/example/restate/restate/model/CovenantRow$Test" = some m.cls := findClass_of_methodNamed Bd.named
  have hnm := (name_of_methodNamed Bd.named Bd.method).1
  have hlk := Bd.notSynchronized
  have X0 : Stand p l e ({ frames := 1, cells := 0, slots := 0, locals := 12 } : Room) s m #[(.ref a1)] below meth c s₁ [] 0 0 := Stand.of_body Bd
  have e0 : s₁.heap = h0 := by rw [← hh, Bd.state]; rfl
  have N0 := Fr.nil n0
  show own_Ends p e below s FrameEnd (Qt0 k0 k1 k2 k3 h0 n0) 0 0 (s₁.setTop (entryFrame m #[(.ref a1)] 1))
  refine own_of (U' := (s₁.setTop (mkF m 0 #[.val (.ref a1)] []))) (fun _ k => castTop (ef_t0 m a1) k) ?_
  refine own_aloadN X0 hx hby d2_0 rfl rfl ?_
  obtain ⟨cq17, kq17, q17a, q17b, q17c⟩ := isOf hZ e0 E1
  obtain ⟨_, _, ⟨T17, L17, k17, n17⟩, -, X17, ⟨Lc17, hQ17, l17, y17, z17⟩, st17⟩ := X0.virtualBackUp hx (x := mN_2) (y := mN_0) (owner := "java/lang/Enum") hown (mvT hZ (own_w hw 12 rfl)) (mvT hZ (own_w hw 13 rfl)) (mvT hZ (own_w hw 14 rfl)) (by decide) (mvT hZ (own_w hw 16 rfl)) (mvT hZ (own_w hw 15 rfl)) (backOf (W := 0) (rmo l Z a0 hw [] a1 (0 : Int32) h0 n0 Z0 F1) hZ (own_w hw 18 rfl) (own_w hw 17 rfl) (by decide) (by decide)) q17a q17c (g := (mkF m 1 #[.val (.ref a1)] [(.ref a1)])) rfl (by rw [hml]; rfl) (Steps.refl _) (argsL := []) (rest := []) (lenOf pd_0 rfl) rfl (by show 2 * 0 + _ ≤ _; exact Nat.le_of_eq rfl) (hb hby d2_1) (fun _ _ => ⟨rfl, e0, (by decide : 0 + 0 ≤ _), (by decide : 0 + 0 ≤ _)⟩)
  dsimp only [Pt.U, Pt.locs, Pt.cells, Pt.slots] at X17 l17 y17 z17 st17 hQ17
  subst l17 y17 z17
  obtain ⟨rfl, Nq17, e17⟩ := hQ17
  have N17 := Fr.app N0 Nq17
  refine own_of (U' := (T17.setTop (mkF m 4 #[.val (.ref a1)] [(.int (0 : Int32))]))) (fun _ k => st17.trans k) ?_
  refine own_of (U' := (T17.setTop (mkF m 46 #[.val (.ref a1)] []))) (fun _ k => XS.tswIn X17.here hx rfl (pc0 := 4) (pc' := 46) (o := 42) rfl (hb hby d2_4) rfl (by decide) (by decide) (by decide) (by decide) k) ?_
  obtain ⟨T18, X18, e18, st18⟩ := getS2 X17 hx hZ hown (host := "") (Or.inl (own_w hw 21 rfl)) Via.refl e17 S2 (g := (mkF m 46 #[.val (.ref a1)] [])) rfl (hb hby d2_46)
  refine own_of (U' := (T18.setTop (mkF m 49 #[.val (.ref a1)] [(.ref k2)]))) (st18) ?_
  refine own_goto X18 hx hby 49 67 d2_49 (by decide) (by decide) ?_
  exact own_retA X18 hx hlk Bd.returns rfl rfl (hb hby d2_67) (by decide) (by decide) (⟨rfl, N17, e18⟩)
theorem d2_52 : decode prog_25_method_6_code 52 = .ok (.getstatic 13, 3) := by decide +kernel
theorem d2_55 : decode prog_25_method_6_code 55 = .ok (.goto 12, 3) := by decide +kernel
theorem ef_t1 (m : MethodId) (x0 : Addr) : entryFrame m #[(.ref x0)] 1 = mkF m 0 #[.val (.ref x0)] [] := by first | (simp [entryFrame, mkF, argsToLocals, Value.category]; done) | rfl
def Qt1 (k0 k1 k2 k3 : Addr) (h0 : Heap) (n0 : Nat) (v : Option Value) (h : Heap) (L : List Loc) : Prop := v = some (.ref k3) ∧ Fr n0 L ∧ h = h0
set_option maxRecDepth 65536 in
set_option maxHeartbeats 40000000 in
theorem rmt1 (l : Launch) (Z : State) (a0 : Array Value) (hw : ∀ d ∈ tables_1, d.before a0 Z = true) (ws : List Jvm.Cond) (a1 k0 k1 k2 k3 : Addr) (h0 : Heap) (n0 : Nat) (Z0 : n0 ≤ h0.size) (S0 : Sta Z h0 "com/example/restate/restate/model/CovenantRow$Test" "AT_MOST" "Lcom/example/restate/restate/model/CovenantRow$Test;" (.ref k0)) (S1 : Sta Z h0 "com/example/restate/restate/model/CovenantRow$Test" "AT_LEAST" "Lcom/example/restate/restate/model/CovenantRow$Test;" (.ref k1)) (S2 : Sta Z h0 "com/example/restate/restate/model/CovenantRow$Test" "GREATER_THAN" "Lcom/example/restate/restate/model/CovenantRow$Test;" (.ref k2)) (S3 : Sta Z h0 "com/example/restate/restate/model/CovenantRow$Test" "LESS_THAN" "Lcom/example/restate/restate/model/CovenantRow$Test;" (.ref k3)) (E1 : Exa Z h0 a1 "com/example/restate/restate/model/CovenantRow$Test") (F1 : Fld Z h0 a1 "java/lang/Enum" "ordinal" "I" (.int (1 : Int32))) :
    MetFree l mN_4 (head1 (Jvm.Cond.code mN_4 prog_25_method_6_code 1 (some (.object "com/example/restate/restate/model/CovenantRow$Test")) :: ws) ({ frames := 1, cells := 0, slots := 0, locals := 12 } : Room)) (fun a U => a = #[(.ref a1)] ∧ Z.Warmed39 U.vm ∧ U.heap = h0) (fun _ _ _ _ _ => True) (fun _ U o U' => ∃ v L, o = .returned v ∧ (Qt1 k0 k1 k2 k3 h0 n0) v U'.heap L ∧ FrameEnd U o U' L ({ frames := 1, cells := 0, slots := 0, locals := 12 } : Room).cells ({ frames := 1, cells := 0, slots := 0, locals := 12 } : Room).slots) := by
  refine MetFree.of_bodySF (plainFor_of_name pn_1) hisR ?_
  intro p e s m args below meth c s₁ Bd hml0 hP hK
  obtain ⟨rfl, hZ, hh⟩ := hP
  have hx := Bd.exec
  have hby := Bd.bytes
  have hml : c.maxLocals = 1 := hml0
  have hown : s.vm.findClass "com/example/restate/restate/model/CovenantRow$Test" = some m.cls := findClass_of_methodNamed Bd.named
  have hnm := (name_of_methodNamed Bd.named Bd.method).1
  have hlk := Bd.notSynchronized
  have X0 : Stand p l e ({ frames := 1, cells := 0, slots := 0, locals := 12 } : Room) s m #[(.ref a1)] below meth c s₁ [] 0 0 := Stand.of_body Bd
  have e0 : s₁.heap = h0 := by rw [← hh, Bd.state]; rfl
  have N0 := Fr.nil n0
  show own_Ends p e below s FrameEnd (Qt1 k0 k1 k2 k3 h0 n0) 0 0 (s₁.setTop (entryFrame m #[(.ref a1)] 1))
  refine own_of (U' := (s₁.setTop (mkF m 0 #[.val (.ref a1)] []))) (fun _ k => castTop (ef_t1 m a1) k) ?_
  refine own_aloadN X0 hx hby d2_0 rfl rfl ?_
  obtain ⟨cq19, kq19, q19a, q19b, q19c⟩ := isOf hZ e0 E1
  obtain ⟨_, _, ⟨T19, L19, k19, n19⟩, -, X19, ⟨Lc19, hQ19, l19, y19, z19⟩, st19⟩ := X0.virtualBackUp hx (x := mN_2) (y := mN_0) (owner := "java/lang/Enum") hown (mvT hZ (own_w hw 12 rfl)) (mvT hZ (own_w hw 13 rfl)) (mvT hZ (own_w hw 14 rfl)) (by decide) (mvT hZ (own_w hw 16 rfl)) (mvT hZ (own_w hw 15 rfl)) (backOf (W := 0) (rmo l Z a0 hw [] a1 (1 : Int32) h0 n0 Z0 F1) hZ (own_w hw 18 rfl) (own_w hw 17 rfl) (by decide) (by decide)) q19a q19c (g := (mkF m 1 #[.val (.ref a1)] [(.ref a1)])) rfl (by rw [hml]; rfl) (Steps.refl _) (argsL := []) (rest := []) (lenOf pd_0 rfl) rfl (by show 2 * 0 + _ ≤ _; exact Nat.le_of_eq rfl) (hb hby d2_1) (fun _ _ => ⟨rfl, e0, (by decide : 0 + 0 ≤ _), (by decide : 0 + 0 ≤ _)⟩)
  dsimp only [Pt.U, Pt.locs, Pt.cells, Pt.slots] at X19 l19 y19 z19 st19 hQ19
  subst l19 y19 z19
  obtain ⟨rfl, Nq19, e19⟩ := hQ19
  have N19 := Fr.app N0 Nq19
  refine own_of (U' := (T19.setTop (mkF m 4 #[.val (.ref a1)] [(.int (1 : Int32))]))) (fun _ k => st19.trans k) ?_
  refine own_of (U' := (T19.setTop (mkF m 52 #[.val (.ref a1)] []))) (fun _ k => XS.tswIn X19.here hx rfl (pc0 := 4) (pc' := 52) (o := 48) rfl (hb hby d2_4) rfl (by decide) (by decide) (by decide) (by decide) k) ?_
  obtain ⟨T20, X20, e20, st20⟩ := getS2 X19 hx hZ hown (host := "") (Or.inl (own_w hw 32 rfl)) Via.refl e19 S3 (g := (mkF m 52 #[.val (.ref a1)] [])) rfl (hb hby d2_52)
  refine own_of (U' := (T20.setTop (mkF m 55 #[.val (.ref a1)] [(.ref k3)]))) (st20) ?_
  refine own_goto X20 hx hby 55 67 d2_55 (by decide) (by decide) ?_
  exact own_retA X20 hx hlk Bd.returns rfl rfl (hb hby d2_67) (by decide) (by decide) (⟨rfl, N19, e20⟩)
theorem d2_58 : decode prog_25_method_6_code 58 = .ok (.getstatic 3, 3) := by decide +kernel
theorem d2_61 : decode prog_25_method_6_code 61 = .ok (.goto 6, 3) := by decide +kernel
theorem ef_t2 (m : MethodId) (x0 : Addr) : entryFrame m #[(.ref x0)] 1 = mkF m 0 #[.val (.ref x0)] [] := by first | (simp [entryFrame, mkF, argsToLocals, Value.category]; done) | rfl
def Qt2 (k0 k1 k2 k3 : Addr) (h0 : Heap) (n0 : Nat) (v : Option Value) (h : Heap) (L : List Loc) : Prop := v = some (.ref k0) ∧ Fr n0 L ∧ h = h0
set_option maxRecDepth 65536 in
set_option maxHeartbeats 40000000 in
theorem rmt2 (l : Launch) (Z : State) (a0 : Array Value) (hw : ∀ d ∈ tables_1, d.before a0 Z = true) (ws : List Jvm.Cond) (a1 k0 k1 k2 k3 : Addr) (h0 : Heap) (n0 : Nat) (Z0 : n0 ≤ h0.size) (S0 : Sta Z h0 "com/example/restate/restate/model/CovenantRow$Test" "AT_MOST" "Lcom/example/restate/restate/model/CovenantRow$Test;" (.ref k0)) (S1 : Sta Z h0 "com/example/restate/restate/model/CovenantRow$Test" "AT_LEAST" "Lcom/example/restate/restate/model/CovenantRow$Test;" (.ref k1)) (S2 : Sta Z h0 "com/example/restate/restate/model/CovenantRow$Test" "GREATER_THAN" "Lcom/example/restate/restate/model/CovenantRow$Test;" (.ref k2)) (S3 : Sta Z h0 "com/example/restate/restate/model/CovenantRow$Test" "LESS_THAN" "Lcom/example/restate/restate/model/CovenantRow$Test;" (.ref k3)) (E1 : Exa Z h0 a1 "com/example/restate/restate/model/CovenantRow$Test") (F1 : Fld Z h0 a1 "java/lang/Enum" "ordinal" "I" (.int (2 : Int32))) :
    MetFree l mN_4 (head1 (Jvm.Cond.code mN_4 prog_25_method_6_code 1 (some (.object "com/example/restate/restate/model/CovenantRow$Test")) :: ws) ({ frames := 1, cells := 0, slots := 0, locals := 12 } : Room)) (fun a U => a = #[(.ref a1)] ∧ Z.Warmed39 U.vm ∧ U.heap = h0) (fun _ _ _ _ _ => True) (fun _ U o U' => ∃ v L, o = .returned v ∧ (Qt2 k0 k1 k2 k3 h0 n0) v U'.heap L ∧ FrameEnd U o U' L ({ frames := 1, cells := 0, slots := 0, locals := 12 } : Room).cells ({ frames := 1, cells := 0, slots := 0, locals := 12 } : Room).slots) := by
  refine MetFree.of_bodySF (plainFor_of_name pn_1) hisR ?_
  intro p e s m args below meth c s₁ Bd hml0 hP hK
  obtain ⟨rfl, hZ, hh⟩ := hP
  have hx := Bd.exec
  have hby := Bd.bytes
  have hml : c.maxLocals = 1 := hml0
  have hown : s.vm.findClass "com/example/restate/restate/model/CovenantRow$Test" = some m.cls := findClass_of_methodNamed Bd.named
  have hnm := (name_of_methodNamed Bd.named Bd.method).1
  have hlk := Bd.notSynchronized
  have X0 : Stand p l e ({ frames := 1, cells := 0, slots := 0, locals := 12 } : Room) s m #[(.ref a1)] below meth c s₁ [] 0 0 := Stand.of_body Bd
  have e0 : s₁.heap = h0 := by rw [← hh, Bd.state]; rfl
  have N0 := Fr.nil n0
  show own_Ends p e below s FrameEnd (Qt2 k0 k1 k2 k3 h0 n0) 0 0 (s₁.setTop (entryFrame m #[(.ref a1)] 1))
  refine own_of (U' := (s₁.setTop (mkF m 0 #[.val (.ref a1)] []))) (fun _ k => castTop (ef_t2 m a1) k) ?_
  refine own_aloadN X0 hx hby d2_0 rfl rfl ?_
  obtain ⟨cq21, kq21, q21a, q21b, q21c⟩ := isOf hZ e0 E1
  obtain ⟨_, _, ⟨T21, L21, k21, n21⟩, -, X21, ⟨Lc21, hQ21, l21, y21, z21⟩, st21⟩ := X0.virtualBackUp hx (x := mN_2) (y := mN_0) (owner := "java/lang/Enum") hown (mvT hZ (own_w hw 12 rfl)) (mvT hZ (own_w hw 13 rfl)) (mvT hZ (own_w hw 14 rfl)) (by decide) (mvT hZ (own_w hw 16 rfl)) (mvT hZ (own_w hw 15 rfl)) (backOf (W := 0) (rmo l Z a0 hw [] a1 (2 : Int32) h0 n0 Z0 F1) hZ (own_w hw 18 rfl) (own_w hw 17 rfl) (by decide) (by decide)) q21a q21c (g := (mkF m 1 #[.val (.ref a1)] [(.ref a1)])) rfl (by rw [hml]; rfl) (Steps.refl _) (argsL := []) (rest := []) (lenOf pd_0 rfl) rfl (by show 2 * 0 + _ ≤ _; exact Nat.le_of_eq rfl) (hb hby d2_1) (fun _ _ => ⟨rfl, e0, (by decide : 0 + 0 ≤ _), (by decide : 0 + 0 ≤ _)⟩)
  dsimp only [Pt.U, Pt.locs, Pt.cells, Pt.slots] at X21 l21 y21 z21 st21 hQ21
  subst l21 y21 z21
  obtain ⟨rfl, Nq21, e21⟩ := hQ21
  have N21 := Fr.app N0 Nq21
  refine own_of (U' := (T21.setTop (mkF m 4 #[.val (.ref a1)] [(.int (2 : Int32))]))) (fun _ k => st21.trans k) ?_
  refine own_of (U' := (T21.setTop (mkF m 58 #[.val (.ref a1)] []))) (fun _ k => XS.tswIn X21.here hx rfl (pc0 := 4) (pc' := 58) (o := 54) rfl (hb hby d2_4) rfl (by decide) (by decide) (by decide) (by decide) k) ?_
  obtain ⟨T22, X22, e22, st22⟩ := getS2 X21 hx hZ hown (host := "") (Or.inl (own_w hw 28 rfl)) Via.refl e21 S0 (g := (mkF m 58 #[.val (.ref a1)] [])) rfl (hb hby d2_58)
  refine own_of (U' := (T22.setTop (mkF m 61 #[.val (.ref a1)] [(.ref k0)]))) (st22) ?_
  refine own_goto X22 hx hby 61 67 d2_61 (by decide) (by decide) ?_
  exact own_retA X22 hx hlk Bd.returns rfl rfl (hb hby d2_67) (by decide) (by decide) (⟨rfl, N21, e22⟩)
theorem d2_64 : decode prog_25_method_6_code 64 = .ok (.getstatic 7, 3) := by decide +kernel
theorem ef_t3 (m : MethodId) (x0 : Addr) : entryFrame m #[(.ref x0)] 1 = mkF m 0 #[.val (.ref x0)] [] := by first | (simp [entryFrame, mkF, argsToLocals, Value.category]; done) | rfl
def Qt3 (k0 k1 k2 k3 : Addr) (h0 : Heap) (n0 : Nat) (v : Option Value) (h : Heap) (L : List Loc) : Prop := v = some (.ref k1) ∧ Fr n0 L ∧ h = h0
set_option maxRecDepth 65536 in
set_option maxHeartbeats 40000000 in
theorem rmt3 (l : Launch) (Z : State) (a0 : Array Value) (hw : ∀ d ∈ tables_1, d.before a0 Z = true) (ws : List Jvm.Cond) (a1 k0 k1 k2 k3 : Addr) (h0 : Heap) (n0 : Nat) (Z0 : n0 ≤ h0.size) (S0 : Sta Z h0 "com/example/restate/restate/model/CovenantRow$Test" "AT_MOST" "Lcom/example/restate/restate/model/CovenantRow$Test;" (.ref k0)) (S1 : Sta Z h0 "com/example/restate/restate/model/CovenantRow$Test" "AT_LEAST" "Lcom/example/restate/restate/model/CovenantRow$Test;" (.ref k1)) (S2 : Sta Z h0 "com/example/restate/restate/model/CovenantRow$Test" "GREATER_THAN" "Lcom/example/restate/restate/model/CovenantRow$Test;" (.ref k2)) (S3 : Sta Z h0 "com/example/restate/restate/model/CovenantRow$Test" "LESS_THAN" "Lcom/example/restate/restate/model/CovenantRow$Test;" (.ref k3)) (E1 : Exa Z h0 a1 "com/example/restate/restate/model/CovenantRow$Test") (F1 : Fld Z h0 a1 "java/lang/Enum" "ordinal" "I" (.int (3 : Int32))) :
    MetFree l mN_4 (head1 (Jvm.Cond.code mN_4 prog_25_method_6_code 1 (some (.object "com/example/restate/restate/model/CovenantRow$Test")) :: ws) ({ frames := 1, cells := 0, slots := 0, locals := 12 } : Room)) (fun a U => a = #[(.ref a1)] ∧ Z.Warmed39 U.vm ∧ U.heap = h0) (fun _ _ _ _ _ => True) (fun _ U o U' => ∃ v L, o = .returned v ∧ (Qt3 k0 k1 k2 k3 h0 n0) v U'.heap L ∧ FrameEnd U o U' L ({ frames := 1, cells := 0, slots := 0, locals := 12 } : Room).cells ({ frames := 1, cells := 0, slots := 0, locals := 12 } : Room).slots) := by
  refine MetFree.of_bodySF (plainFor_of_name pn_1) hisR ?_
  intro p e s m args below meth c s₁ Bd hml0 hP hK
  obtain ⟨rfl, hZ, hh⟩ := hP
  have hx := Bd.exec
  have hby := Bd.bytes
  have hml : c.maxLocals = 1 := hml0
  have hown : s.vm.findClass "com/example/restate/restate/model/CovenantRow$Test" = some m.cls := findClass_of_methodNamed Bd.named
  have hnm := (name_of_methodNamed Bd.named Bd.method).1
  have hlk := Bd.notSynchronized
  have X0 : Stand p l e ({ frames := 1, cells := 0, slots := 0, locals := 12 } : Room) s m #[(.ref a1)] below meth c s₁ [] 0 0 := Stand.of_body Bd
  have e0 : s₁.heap = h0 := by rw [← hh, Bd.state]; rfl
  have N0 := Fr.nil n0
  show own_Ends p e below s FrameEnd (Qt3 k0 k1 k2 k3 h0 n0) 0 0 (s₁.setTop (entryFrame m #[(.ref a1)] 1))
  refine own_of (U' := (s₁.setTop (mkF m 0 #[.val (.ref a1)] []))) (fun _ k => castTop (ef_t3 m a1) k) ?_
  refine own_aloadN X0 hx hby d2_0 rfl rfl ?_
  obtain ⟨cq23, kq23, q23a, q23b, q23c⟩ := isOf hZ e0 E1
  obtain ⟨_, _, ⟨T23, L23, k23, n23⟩, -, X23, ⟨Lc23, hQ23, l23, y23, z23⟩, st23⟩ := X0.virtualBackUp hx (x := mN_2) (y := mN_0) (owner := "java/lang/Enum") hown (mvT hZ (own_w hw 12 rfl)) (mvT hZ (own_w hw 13 rfl)) (mvT hZ (own_w hw 14 rfl)) (by decide) (mvT hZ (own_w hw 16 rfl)) (mvT hZ (own_w hw 15 rfl)) (backOf (W := 0) (rmo l Z a0 hw [] a1 (3 : Int32) h0 n0 Z0 F1) hZ (own_w hw 18 rfl) (own_w hw 17 rfl) (by decide) (by decide)) q23a q23c (g := (mkF m 1 #[.val (.ref a1)] [(.ref a1)])) rfl (by rw [hml]; rfl) (Steps.refl _) (argsL := []) (rest := []) (lenOf pd_0 rfl) rfl (by show 2 * 0 + _ ≤ _; exact Nat.le_of_eq rfl) (hb hby d2_1) (fun _ _ => ⟨rfl, e0, (by decide : 0 + 0 ≤ _), (by decide : 0 + 0 ≤ _)⟩)
  dsimp only [Pt.U, Pt.locs, Pt.cells, Pt.slots] at X23 l23 y23 z23 st23 hQ23
  subst l23 y23 z23
  obtain ⟨rfl, Nq23, e23⟩ := hQ23
  have N23 := Fr.app N0 Nq23
  refine own_of (U' := (T23.setTop (mkF m 4 #[.val (.ref a1)] [(.int (3 : Int32))]))) (fun _ k => st23.trans k) ?_
  refine own_of (U' := (T23.setTop (mkF m 64 #[.val (.ref a1)] []))) (fun _ k => XS.tswIn X23.here hx rfl (pc0 := 4) (pc' := 64) (o := 60) rfl (hb hby d2_4) rfl (by decide) (by decide) (by decide) (by decide) k) ?_
  obtain ⟨T24, X24, e24, st24⟩ := getS2 X23 hx hZ hown (host := "") (Or.inl (own_w hw 34 rfl)) Via.refl e23 S1 (g := (mkF m 64 #[.val (.ref a1)] [])) rfl (hb hby d2_64)
  refine own_of (U' := (T24.setTop (mkF m 67 #[.val (.ref a1)] [(.ref k1)]))) (st24) ?_
  exact own_retA X24 hx hlk Bd.returns rfl rfl (hb hby d2_67) (by decide) (by decide) (⟨rfl, N23, e24⟩)
theorem pd_1 : parseMethodDescriptor "(I)Lcom/example/restate/restate/model/CovenantRow$Test;" = some ⟨[.int], some (.object "com/example/restate/restate/model/CovenantRow$Test")⟩ := by decide +kernel
theorem pd_2 : parseMethodDescriptor "()Lcom/example/restate/restate/model/CovenantRow$Test;" = some ⟨[], some (.object "com/example/restate/restate/model/CovenantRow$Test")⟩ := by decide +kernel
theorem pd_3 : parseMethodDescriptor "(I)Z" = some ⟨[.int], some .boolean⟩ := by decide +kernel
theorem ef_0 (m : MethodId) (x0 : Int32) (x1 : Int32) : entryFrame m #[(.int x0), (.int x1)] maxLocals = mkF m 0 #[.val (.int x0), .val (.int x1), .unset, .unset, .unset, .unset] [] := by first | (simp [entryFrame, mkF, argsToLocals, Value.category, maxLocals]; done) | rfl
def Q0 (n0 : Nat) (v : Option Value) (h : Heap) (L : List Loc) : Prop := v = some (.int 1) ∧ Fr n0 L
set_option maxRecDepth 65536 in
set_option maxHeartbeats 40000000 in
theorem rm0 (l : Launch) (Z : State) (a0 : Array Value) (hw : ∀ d ∈ tables_1, d.before a0 Z = true) (ws : List Jvm.Cond) (p1 p2 : Int32) (k0 k1 k2 k3 : Addr) (h0 : Heap) (n0 : Nat) (Z0 : n0 ≤ h0.size) (S0 : Sta Z h0 "com/example/restate/restate/model/CovenantRow$Test" "AT_MOST" "Lcom/example/restate/restate/model/CovenantRow$Test;" (.ref k0)) (S1 : Sta Z h0 "com/example/restate/restate/model/CovenantRow$Test" "AT_LEAST" "Lcom/example/restate/restate/model/CovenantRow$Test;" (.ref k1)) (S2 : Sta Z h0 "com/example/restate/restate/model/CovenantRow$Test" "GREATER_THAN" "Lcom/example/restate/restate/model/CovenantRow$Test;" (.ref k2)) (S3 : Sta Z h0 "com/example/restate/restate/model/CovenantRow$Test" "LESS_THAN" "Lcom/example/restate/restate/model/CovenantRow$Test;" (.ref k3)) (E0 : Exa Z h0 k0 "com/example/restate/restate/model/CovenantRow$Test") (F0 : Fld Z h0 k0 "java/lang/Enum" "ordinal" "I" (.int (0 : Int32))) (E1 : Exa Z h0 k1 "com/example/restate/restate/model/CovenantRow$Test") (F1 : Fld Z h0 k1 "java/lang/Enum" "ordinal" "I" (.int (1 : Int32))) (E2 : Exa Z h0 k2 "com/example/restate/restate/model/CovenantRow$Test") (F2 : Fld Z h0 k2 "java/lang/Enum" "ordinal" "I" (.int (2 : Int32))) (E3 : Exa Z h0 k3 "com/example/restate/restate/model/CovenantRow$Test") (F3 : Fld Z h0 k3 "java/lang/Enum" "ordinal" "I" (.int (3 : Int32))) :
    MetFree l x (head1 (Jvm.Cond.code x code maxLocals ret :: ws) room_1) (fun a U => a = #[(.int p1), (.int p2)] ∧ Z.Warmed39 U.vm ∧ U.heap = h0) (fun _ _ _ _ _ => True) (fun _ U o U' => ∃ v L, o = .returned v ∧ (Q0 n0) v U'.heap L ∧ FrameEnd U o U' L 0 0) := by
  refine MetFree.of_bodySF (plainFor_of_name pn_2) hisR ?_
  intro p e s m args below meth c s₁ Bd hml0 hP hK
  obtain ⟨rfl, hZ, hh⟩ := hP
  have hx := Bd.exec
  have hby := Bd.bytes
  have hml : c.maxLocals = 6 := hml0
  have hown : s.vm.findClass "com/example/restate/restate/model/TestTurnedPinLaw" = some m.cls := findClass_of_methodNamed Bd.named
  have hnm := (name_of_methodNamed Bd.named Bd.method).1
  have hlk := Bd.notSynchronized
  have X0 : Stand p l e room_1 s m #[(.int p1), (.int p2)] below meth c s₁ [] 0 0 := Stand.of_body Bd
  have e0 : s₁.heap = h0 := by rw [← hh, Bd.state]; rfl
  have N0 := Fr.nil n0
  show own_Ends p e below s FrameEnd (Q0 n0) 0 0 (s₁.setTop (entryFrame m #[(.int p1), (.int p2)] maxLocals))
  refine own_of (U' := (s₁.setTop (mkF m 0 #[.val (.int p1), .val (.int p2), .unset, .unset, .unset, .unset] []))) (fun _ k => castTop (ef_0 m p1 p2) k) ?_
  refine own_iloadN X0 hx hby at_0 rfl ?_
  obtain ⟨_, _, ⟨T25, L25, k25, n25⟩, -, X25, ⟨Lc25, hQ25, l25, y25, z25⟩, st25⟩ := Jvm.LawKit.callS X0 hx (y := mN_3) hown (mvT hZ (own_w hw 0 rfl)) (mvT hZ (own_w hw 1 rfl)) (mvT hZ (own_w hw 2 rfl)) (mvT hZ (own_w hw 3 rfl)) (by decide) (backOf (W := 0) (rmp l Z a0 hw [] p1 k0 k1 k2 k3 h0 n0 Z0 S0 S1 S2 S3) hZ (own_w hw 3 rfl) (own_w hw 2 rfl) (by decide) (by decide)) (g := (mkF m 1 #[.val (.int p1), .val (.int p2), .unset, .unset, .unset, .unset] [(.int p1)])) rfl (by rw [hml]; rfl) (argsL := [(.int p1)]) (rest := []) (lenOf pd_1 rfl) rfl (by show 2 * 0 + _ ≤ _; exact Nat.le_of_eq rfl) (hb hby at_1) (fun _ _ => ⟨rfl, e0, (by decide : 0 + 0 ≤ _), (by decide : 0 + 0 ≤ _)⟩)
  dsimp only [Pt.U, Pt.locs, Pt.cells, Pt.slots] at X25 l25 y25 z25 st25 hQ25
  subst l25 y25 z25
  obtain ⟨rfl, Nq25, e25⟩ := hQ25
  have N25 := Fr.app N0 Nq25
  refine own_of (U' := (T25.setTop (mkF m 4 #[.val (.int p1), .val (.int p2), .unset, .unset, .unset, .unset] [(.ref (own_pick p1 k0 k1 k2 k3))]))) (st25) ?_
  rcases own_pick_one p1 k0 k1 k2 k3 with hv | hv | hv | hv
  · skip
    refine own_eq (U' := (T25.setTop (mkF m 4 #[.val (.int p1), .val (.int p2), .unset, .unset, .unset, .unset] [(.ref k0)]))) (by rw [hv]) ?_
    refine own_astoreN X25 hx hby at_4 rfl (l' := #[.val (.int p1), .val (.int p2), .val (.ref k0), .unset, .unset, .unset]) rfl ?_
    refine own_aloadN X25 hx hby at_5 rfl rfl ?_
    obtain ⟨cq26, kq26, q26a, q26b, q26c⟩ := isOf hZ e25 E0
    obtain ⟨_, _, ⟨T26, L26, k26, n26⟩, -, X26, ⟨Lc26, hQ26, l26, y26, z26⟩, st26⟩ := X25.virtualBack hx (y := mN_4) (z := mN_4) hown (mvT hZ (own_w hw 7 rfl)) (mvT hZ (own_w hw 8 rfl)) (notFace_of_selects (args := #[]) (mvT hZ (own_w hw 10 rfl))) (mvT hZ (own_w hw 10 rfl)) (mvT hZ (own_w hw 9 rfl)) (by decide) (backOf (W := 0) (rmt0 l Z a0 hw [] k0 k0 k1 k2 k3 h0 n0 Z0 S0 S1 S2 S3 E0 F0) hZ (own_w hw 11 rfl) (own_w hw 5 rfl) (by decide) (by decide)) q26a q26c (g := (mkF m 6 #[.val (.int p1), .val (.int p2), .val (.ref k0), .unset, .unset, .unset] [(.ref k0)])) rfl (by rw [hml]; rfl) (Steps.refl _) (argsL := []) (rest := []) (lenOf pd_2 rfl) rfl (by show 2 * 0 + _ ≤ _; exact Nat.le_of_eq rfl) (hb hby at_6) (fun _ _ => ⟨rfl, e25, (by decide : 0 + 0 ≤ _), (by decide : 0 + 0 ≤ _)⟩)
    dsimp only [Pt.U, Pt.locs, Pt.cells, Pt.slots] at X26 l26 y26 z26 st26 hQ26
    subst l26 y26 z26
    obtain ⟨rfl, Nq26, e26⟩ := hQ26
    have N26 := Fr.app N25 Nq26
    refine own_of (U' := (T26.setTop (mkF m 9 #[.val (.int p1), .val (.int p2), .val (.ref k0), .unset, .unset, .unset] [(.ref k2)]))) (fun _ k => st26.trans k) ?_
    refine own_astoreN X26 hx hby at_9 rfl (l' := #[.val (.int p1), .val (.int p2), .val (.ref k0), .val (.ref k2), .unset, .unset]) rfl ?_
    refine own_aloadN X26 hx hby at_10 rfl rfl ?_
    refine own_ifnonnullYes X26 hx hby 11 16 at_11 (by decide) (by decide) ?_
    refine own_aloadN X26 hx hby at_16 rfl rfl ?_
    refine own_iloadN X26 hx hby at_17 rfl ?_
    obtain ⟨cq27, kq27, q27a, q27b, q27c⟩ := isOf hZ e26 E2
    obtain ⟨_, _, ⟨T27, L27, k27, n27⟩, -, X27, ⟨Lc27, hQ27, l27, y27, z27⟩, st27⟩ := X26.virtualBack hx (y := mN_1) (z := mN_1) hown (mvT hZ (own_w hw 23 rfl)) (mvT hZ (own_w hw 24 rfl)) (notFace_of_selects (args := #[]) (mvT hZ (own_w hw 26 rfl))) (mvT hZ (own_w hw 26 rfl)) (mvT hZ (own_w hw 25 rfl)) (by decide) (backOf (W := 0) (rmh2 l Z a0 hw [] k2 p2 h0 n0 Z0 E2 F2) hZ (own_w hw 27 rfl) (own_w hw 5 rfl) (by decide) (by decide)) q27a q27c (g := (mkF m 18 #[.val (.int p1), .val (.int p2), .val (.ref k0), .val (.ref k2), .unset, .unset] [(.int p2), (.ref k2)])) rfl (by rw [hml]; rfl) (Steps.refl _) (argsL := [(.int p2)]) (rest := []) (lenOf pd_3 rfl) rfl (by show 2 * 0 + _ ≤ _; exact Nat.le_of_eq rfl) (hb hby at_18) (fun _ _ => ⟨rfl, e26, (by decide : 0 + 0 ≤ _), (by decide : 0 + 0 ≤ _)⟩)
    dsimp only [Pt.U, Pt.locs, Pt.cells, Pt.slots] at X27 l27 y27 z27 st27 hQ27
    subst l27 y27 z27
    obtain ⟨rfl, Nq27, e27⟩ := hQ27
    have N27 := Fr.app N26 Nq27
    refine own_of (U' := (T27.setTop (mkF m 21 #[.val (.int p1), .val (.int p2), .val (.ref k0), .val (.ref k2), .unset, .unset] [(.int (own_h2 p2))]))) (fun _ k => st27.trans k) ?_
    refine own_aloadN X27 hx hby at_21 rfl rfl ?_
    refine own_iloadN X27 hx hby at_22 rfl ?_
    obtain ⟨cq28, kq28, q28a, q28b, q28c⟩ := isOf hZ e27 E0
    obtain ⟨_, _, ⟨T28, L28, k28, n28⟩, -, X28, ⟨Lc28, hQ28, l28, y28, z28⟩, st28⟩ := X27.virtualBack hx (y := mN_1) (z := mN_1) hown (mvT hZ (own_w hw 23 rfl)) (mvT hZ (own_w hw 24 rfl)) (notFace_of_selects (args := #[]) (mvT hZ (own_w hw 26 rfl))) (mvT hZ (own_w hw 26 rfl)) (mvT hZ (own_w hw 25 rfl)) (by decide) (backOf (W := 1) (rmh0 l Z a0 hw [] k0 p2 h0 n0 Z0 E0 F0) hZ (own_w hw 27 rfl) (own_w hw 5 rfl) (by decide) (by decide)) q28a q28c (g := (mkF m 23 #[.val (.int p1), .val (.int p2), .val (.ref k0), .val (.ref k2), .unset, .unset] [(.int p2), (.ref k0), (.int (own_h2 p2))])) rfl (by rw [hml]; rfl) (Steps.refl _) (argsL := [(.int p2)]) (rest := [(.int (own_h2 p2))]) (lenOf pd_3 rfl) rfl (by show 2 * 0 + _ ≤ _; exact Nat.le_of_eq rfl) (hb hby at_23) (fun _ _ => ⟨rfl, e27, (by decide : 0 + 0 ≤ _), (by decide : 0 + 0 ≤ _)⟩)
    dsimp only [Pt.U, Pt.locs, Pt.cells, Pt.slots] at X28 l28 y28 z28 st28 hQ28
    subst l28 y28 z28
    obtain ⟨rfl, Nq28, e28⟩ := hQ28
    have N28 := Fr.app N27 Nq28
    refine own_of (U' := (T28.setTop (mkF m 26 #[.val (.int p1), .val (.int p2), .val (.ref k0), .val (.ref k2), .unset, .unset] [(.int (own_h0 p2)), (.int (own_h2 p2))]))) (fun _ k => st28.trans k) ?_
    obtain ⟨nb, hnb⟩ : ∃ z : Int32, z = (if (own_h0 p2) = (0 : Int32) then (1 : Int32) else (0 : Int32)) := ⟨_, rfl⟩
    suffices key26 : own_Ends p e below s FrameEnd (Q0 n0) 0 0 (T28.setTop (mkF m 34 #[.val (.int p1), .val (.int p2), .val (.ref k0), .val (.ref k2), .unset, .unset] [(.int nb), (.int (own_h2 p2))])) by
      by_cases hc26_29 : (own_h0 p2) = (0 : Int32)
      · skip
        refine own_ifNo X28 hx hby at_26 ((if0 _ _).trans (teq hc26_29).2) ?_
        refine own_iconst X28 hx hby 1 at_29 rfl ?_
        refine own_goto X28 hx hby 30 34 at_30 (by decide) (by decide) ?_
        have tnb : nb = (1 : Int32) := by rw [hnb, if_pos hc26_29]
        exact own_eq (by rw [tnb]) key26
      · skip
        refine own_ifYes X28 hx hby 26 33 at_26 ((if0 _ _).trans (feq hc26_29).2) (by decide) (by decide) ?_
        refine own_iconst X28 hx hby 0 at_33 rfl ?_
        have tnb : nb = (0 : Int32) := by rw [hnb, if_neg hc26_29]
        exact own_eq (by rw [tnb]) key26
    have hc34_30 : (own_h2 p2) = nb := by rw [hnb]; exact own_n0 p2
    refine own_icmpNo X28 hx hby at_34 (teq hc34_30).2 ?_
    refine own_iconst X28 hx hby 1 at_37 rfl ?_
    refine own_goto X28 hx hby 38 42 at_38 (by decide) (by decide) ?_
    refine own_istore X28 hx hby at_42 (l' := #[.val (.int p1), .val (.int p2), .val (.ref k0), .val (.ref k2), .val (.int (1 : Int32)), .unset]) rfl ?_
    refine own_aloadN X28 hx hby at_44 rfl rfl ?_
    obtain ⟨cq31, kq31, q31a, q31b, q31c⟩ := isOf hZ e28 E2
    obtain ⟨_, _, ⟨T31, L31, k31, n31⟩, -, X31, ⟨Lc31, hQ31, l31, y31, z31⟩, st31⟩ := X28.virtualBack hx (y := mN_4) (z := mN_4) hown (mvT hZ (own_w hw 7 rfl)) (mvT hZ (own_w hw 8 rfl)) (notFace_of_selects (args := #[]) (mvT hZ (own_w hw 10 rfl))) (mvT hZ (own_w hw 10 rfl)) (mvT hZ (own_w hw 9 rfl)) (by decide) (backOf (W := 0) (rmt2 l Z a0 hw [] k2 k0 k1 k2 k3 h0 n0 Z0 S0 S1 S2 S3 E2 F2) hZ (own_w hw 11 rfl) (own_w hw 5 rfl) (by decide) (by decide)) q31a q31c (g := (mkF m 45 #[.val (.int p1), .val (.int p2), .val (.ref k0), .val (.ref k2), .val (.int (1 : Int32)), .unset] [(.ref k2)])) rfl (by rw [hml]; rfl) (Steps.refl _) (argsL := []) (rest := []) (lenOf pd_2 rfl) rfl (by show 2 * 0 + _ ≤ _; exact Nat.le_of_eq rfl) (hb hby at_45) (fun _ _ => ⟨rfl, e28, (by decide : 0 + 0 ≤ _), (by decide : 0 + 0 ≤ _)⟩)
    dsimp only [Pt.U, Pt.locs, Pt.cells, Pt.slots] at X31 l31 y31 z31 st31 hQ31
    subst l31 y31 z31
    obtain ⟨rfl, Nq31, e31⟩ := hQ31
    have N31 := Fr.app N28 Nq31
    refine own_of (U' := (T31.setTop (mkF m 48 #[.val (.int p1), .val (.int p2), .val (.ref k0), .val (.ref k2), .val (.int (1 : Int32)), .unset] [(.ref k0)]))) (fun _ k => st31.trans k) ?_
    refine own_aloadN X31 hx hby at_48 rfl rfl ?_
    refine own_of (U' := (T31.setTop (mkF m 52 #[.val (.int p1), .val (.int p2), .val (.ref k0), .val (.ref k2), .val (.int (1 : Int32)), .unset] []))) (fun _ k => Jvm.RoadKit.acmp (g := (mkF m 49 #[.val (.int p1), .val (.int p2), .val (.ref k0), .val (.ref k2), .val (.int (1 : Int32)), .unset] [(.ref k0), (.ref k0)])) X31 hx rfl rfl rfl (pc0 := 49) (pc' := 52) (same := true) rfl (hb hby at_49) rfl (decide_eq_true rfl) (by decide) (by decide) k) ?_
    refine own_iconst X31 hx hby 1 at_52 rfl ?_
    refine own_goto X31 hx hby 53 57 at_53 (by decide) (by decide) ?_
    refine own_istore X31 hx hby at_57 (l' := #[.val (.int p1), .val (.int p2), .val (.ref k0), .val (.ref k2), .val (.int (1 : Int32)), .val (.int (1 : Int32))]) rfl ?_
    refine own_iload X31 hx hby at_59 rfl ?_
    have hc61_32 : ¬ ((1 : Int32) = (0 : Int32)) := by decide
    refine own_ifNo X31 hx hby at_61 ((if0 _ _).trans (feq hc61_32).1) ?_
    refine own_iload X31 hx hby at_64 rfl ?_
    have hc66_33 : ¬ ((1 : Int32) = (0 : Int32)) := by decide
    refine own_ifNo X31 hx hby at_66 ((if0 _ _).trans (feq hc66_33).1) ?_
    refine own_iconst X31 hx hby 1 at_69 rfl ?_
    refine own_goto X31 hx hby 70 74 at_70 (by decide) (by decide) ?_
    exact own_retN X31 hx hlk (t := .boolean) Bd.returns (by simp) (hb hby at_74) (by decide) (by decide) (⟨rfl, N31⟩)
  · skip
    refine own_eq (U' := (T25.setTop (mkF m 4 #[.val (.int p1), .val (.int p2), .unset, .unset, .unset, .unset] [(.ref k1)]))) (by rw [hv]) ?_
    refine own_astoreN X25 hx hby at_4 rfl (l' := #[.val (.int p1), .val (.int p2), .val (.ref k1), .unset, .unset, .unset]) rfl ?_
    refine own_aloadN X25 hx hby at_5 rfl rfl ?_
    obtain ⟨cq34, kq34, q34a, q34b, q34c⟩ := isOf hZ e25 E1
    obtain ⟨_, _, ⟨T34, L34, k34, n34⟩, -, X34, ⟨Lc34, hQ34, l34, y34, z34⟩, st34⟩ := X25.virtualBack hx (y := mN_4) (z := mN_4) hown (mvT hZ (own_w hw 7 rfl)) (mvT hZ (own_w hw 8 rfl)) (notFace_of_selects (args := #[]) (mvT hZ (own_w hw 10 rfl))) (mvT hZ (own_w hw 10 rfl)) (mvT hZ (own_w hw 9 rfl)) (by decide) (backOf (W := 0) (rmt1 l Z a0 hw [] k1 k0 k1 k2 k3 h0 n0 Z0 S0 S1 S2 S3 E1 F1) hZ (own_w hw 11 rfl) (own_w hw 5 rfl) (by decide) (by decide)) q34a q34c (g := (mkF m 6 #[.val (.int p1), .val (.int p2), .val (.ref k1), .unset, .unset, .unset] [(.ref k1)])) rfl (by rw [hml]; rfl) (Steps.refl _) (argsL := []) (rest := []) (lenOf pd_2 rfl) rfl (by show 2 * 0 + _ ≤ _; exact Nat.le_of_eq rfl) (hb hby at_6) (fun _ _ => ⟨rfl, e25, (by decide : 0 + 0 ≤ _), (by decide : 0 + 0 ≤ _)⟩)
    dsimp only [Pt.U, Pt.locs, Pt.cells, Pt.slots] at X34 l34 y34 z34 st34 hQ34
    subst l34 y34 z34
    obtain ⟨rfl, Nq34, e34⟩ := hQ34
    have N34 := Fr.app N25 Nq34
    refine own_of (U' := (T34.setTop (mkF m 9 #[.val (.int p1), .val (.int p2), .val (.ref k1), .unset, .unset, .unset] [(.ref k3)]))) (fun _ k => st34.trans k) ?_
    refine own_astoreN X34 hx hby at_9 rfl (l' := #[.val (.int p1), .val (.int p2), .val (.ref k1), .val (.ref k3), .unset, .unset]) rfl ?_
    refine own_aloadN X34 hx hby at_10 rfl rfl ?_
    refine own_ifnonnullYes X34 hx hby 11 16 at_11 (by decide) (by decide) ?_
    refine own_aloadN X34 hx hby at_16 rfl rfl ?_
    refine own_iloadN X34 hx hby at_17 rfl ?_
    obtain ⟨cq35, kq35, q35a, q35b, q35c⟩ := isOf hZ e34 E3
    obtain ⟨_, _, ⟨T35, L35, k35, n35⟩, -, X35, ⟨Lc35, hQ35, l35, y35, z35⟩, st35⟩ := X34.virtualBack hx (y := mN_1) (z := mN_1) hown (mvT hZ (own_w hw 23 rfl)) (mvT hZ (own_w hw 24 rfl)) (notFace_of_selects (args := #[]) (mvT hZ (own_w hw 26 rfl))) (mvT hZ (own_w hw 26 rfl)) (mvT hZ (own_w hw 25 rfl)) (by decide) (backOf (W := 0) (rmh3 l Z a0 hw [] k3 p2 h0 n0 Z0 E3 F3) hZ (own_w hw 27 rfl) (own_w hw 5 rfl) (by decide) (by decide)) q35a q35c (g := (mkF m 18 #[.val (.int p1), .val (.int p2), .val (.ref k1), .val (.ref k3), .unset, .unset] [(.int p2), (.ref k3)])) rfl (by rw [hml]; rfl) (Steps.refl _) (argsL := [(.int p2)]) (rest := []) (lenOf pd_3 rfl) rfl (by show 2 * 0 + _ ≤ _; exact Nat.le_of_eq rfl) (hb hby at_18) (fun _ _ => ⟨rfl, e34, (by decide : 0 + 0 ≤ _), (by decide : 0 + 0 ≤ _)⟩)
    dsimp only [Pt.U, Pt.locs, Pt.cells, Pt.slots] at X35 l35 y35 z35 st35 hQ35
    subst l35 y35 z35
    obtain ⟨rfl, Nq35, e35⟩ := hQ35
    have N35 := Fr.app N34 Nq35
    refine own_of (U' := (T35.setTop (mkF m 21 #[.val (.int p1), .val (.int p2), .val (.ref k1), .val (.ref k3), .unset, .unset] [(.int (own_h3 p2))]))) (fun _ k => st35.trans k) ?_
    refine own_aloadN X35 hx hby at_21 rfl rfl ?_
    refine own_iloadN X35 hx hby at_22 rfl ?_
    obtain ⟨cq36, kq36, q36a, q36b, q36c⟩ := isOf hZ e35 E1
    obtain ⟨_, _, ⟨T36, L36, k36, n36⟩, -, X36, ⟨Lc36, hQ36, l36, y36, z36⟩, st36⟩ := X35.virtualBack hx (y := mN_1) (z := mN_1) hown (mvT hZ (own_w hw 23 rfl)) (mvT hZ (own_w hw 24 rfl)) (notFace_of_selects (args := #[]) (mvT hZ (own_w hw 26 rfl))) (mvT hZ (own_w hw 26 rfl)) (mvT hZ (own_w hw 25 rfl)) (by decide) (backOf (W := 1) (rmh1 l Z a0 hw [] k1 p2 h0 n0 Z0 E1 F1) hZ (own_w hw 27 rfl) (own_w hw 5 rfl) (by decide) (by decide)) q36a q36c (g := (mkF m 23 #[.val (.int p1), .val (.int p2), .val (.ref k1), .val (.ref k3), .unset, .unset] [(.int p2), (.ref k1), (.int (own_h3 p2))])) rfl (by rw [hml]; rfl) (Steps.refl _) (argsL := [(.int p2)]) (rest := [(.int (own_h3 p2))]) (lenOf pd_3 rfl) rfl (by show 2 * 0 + _ ≤ _; exact Nat.le_of_eq rfl) (hb hby at_23) (fun _ _ => ⟨rfl, e35, (by decide : 0 + 0 ≤ _), (by decide : 0 + 0 ≤ _)⟩)
    dsimp only [Pt.U, Pt.locs, Pt.cells, Pt.slots] at X36 l36 y36 z36 st36 hQ36
    subst l36 y36 z36
    obtain ⟨rfl, Nq36, e36⟩ := hQ36
    have N36 := Fr.app N35 Nq36
    refine own_of (U' := (T36.setTop (mkF m 26 #[.val (.int p1), .val (.int p2), .val (.ref k1), .val (.ref k3), .unset, .unset] [(.int (own_h1 p2)), (.int (own_h3 p2))]))) (fun _ k => st36.trans k) ?_
    obtain ⟨nb, hnb⟩ : ∃ z : Int32, z = (if (own_h1 p2) = (0 : Int32) then (1 : Int32) else (0 : Int32)) := ⟨_, rfl⟩
    suffices key26 : own_Ends p e below s FrameEnd (Q0 n0) 0 0 (T36.setTop (mkF m 34 #[.val (.int p1), .val (.int p2), .val (.ref k1), .val (.ref k3), .unset, .unset] [(.int nb), (.int (own_h3 p2))])) by
      by_cases hc26_37 : (own_h1 p2) = (0 : Int32)
      · skip
        refine own_ifNo X36 hx hby at_26 ((if0 _ _).trans (teq hc26_37).2) ?_
        refine own_iconst X36 hx hby 1 at_29 rfl ?_
        refine own_goto X36 hx hby 30 34 at_30 (by decide) (by decide) ?_
        have tnb : nb = (1 : Int32) := by rw [hnb, if_pos hc26_37]
        exact own_eq (by rw [tnb]) key26
      · skip
        refine own_ifYes X36 hx hby 26 33 at_26 ((if0 _ _).trans (feq hc26_37).2) (by decide) (by decide) ?_
        refine own_iconst X36 hx hby 0 at_33 rfl ?_
        have tnb : nb = (0 : Int32) := by rw [hnb, if_neg hc26_37]
        exact own_eq (by rw [tnb]) key26
    have hc34_38 : (own_h3 p2) = nb := by rw [hnb]; exact own_n1 p2
    refine own_icmpNo X36 hx hby at_34 (teq hc34_38).2 ?_
    refine own_iconst X36 hx hby 1 at_37 rfl ?_
    refine own_goto X36 hx hby 38 42 at_38 (by decide) (by decide) ?_
    refine own_istore X36 hx hby at_42 (l' := #[.val (.int p1), .val (.int p2), .val (.ref k1), .val (.ref k3), .val (.int (1 : Int32)), .unset]) rfl ?_
    refine own_aloadN X36 hx hby at_44 rfl rfl ?_
    obtain ⟨cq39, kq39, q39a, q39b, q39c⟩ := isOf hZ e36 E3
    obtain ⟨_, _, ⟨T39, L39, k39, n39⟩, -, X39, ⟨Lc39, hQ39, l39, y39, z39⟩, st39⟩ := X36.virtualBack hx (y := mN_4) (z := mN_4) hown (mvT hZ (own_w hw 7 rfl)) (mvT hZ (own_w hw 8 rfl)) (notFace_of_selects (args := #[]) (mvT hZ (own_w hw 10 rfl))) (mvT hZ (own_w hw 10 rfl)) (mvT hZ (own_w hw 9 rfl)) (by decide) (backOf (W := 0) (rmt3 l Z a0 hw [] k3 k0 k1 k2 k3 h0 n0 Z0 S0 S1 S2 S3 E3 F3) hZ (own_w hw 11 rfl) (own_w hw 5 rfl) (by decide) (by decide)) q39a q39c (g := (mkF m 45 #[.val (.int p1), .val (.int p2), .val (.ref k1), .val (.ref k3), .val (.int (1 : Int32)), .unset] [(.ref k3)])) rfl (by rw [hml]; rfl) (Steps.refl _) (argsL := []) (rest := []) (lenOf pd_2 rfl) rfl (by show 2 * 0 + _ ≤ _; exact Nat.le_of_eq rfl) (hb hby at_45) (fun _ _ => ⟨rfl, e36, (by decide : 0 + 0 ≤ _), (by decide : 0 + 0 ≤ _)⟩)
    dsimp only [Pt.U, Pt.locs, Pt.cells, Pt.slots] at X39 l39 y39 z39 st39 hQ39
    subst l39 y39 z39
    obtain ⟨rfl, Nq39, e39⟩ := hQ39
    have N39 := Fr.app N36 Nq39
    refine own_of (U' := (T39.setTop (mkF m 48 #[.val (.int p1), .val (.int p2), .val (.ref k1), .val (.ref k3), .val (.int (1 : Int32)), .unset] [(.ref k1)]))) (fun _ k => st39.trans k) ?_
    refine own_aloadN X39 hx hby at_48 rfl rfl ?_
    refine own_of (U' := (T39.setTop (mkF m 52 #[.val (.int p1), .val (.int p2), .val (.ref k1), .val (.ref k3), .val (.int (1 : Int32)), .unset] []))) (fun _ k => Jvm.RoadKit.acmp (g := (mkF m 49 #[.val (.int p1), .val (.int p2), .val (.ref k1), .val (.ref k3), .val (.int (1 : Int32)), .unset] [(.ref k1), (.ref k1)])) X39 hx rfl rfl rfl (pc0 := 49) (pc' := 52) (same := true) rfl (hb hby at_49) rfl (decide_eq_true rfl) (by decide) (by decide) k) ?_
    refine own_iconst X39 hx hby 1 at_52 rfl ?_
    refine own_goto X39 hx hby 53 57 at_53 (by decide) (by decide) ?_
    refine own_istore X39 hx hby at_57 (l' := #[.val (.int p1), .val (.int p2), .val (.ref k1), .val (.ref k3), .val (.int (1 : Int32)), .val (.int (1 : Int32))]) rfl ?_
    refine own_iload X39 hx hby at_59 rfl ?_
    have hc61_40 : ¬ ((1 : Int32) = (0 : Int32)) := by decide
    refine own_ifNo X39 hx hby at_61 ((if0 _ _).trans (feq hc61_40).1) ?_
    refine own_iload X39 hx hby at_64 rfl ?_
    have hc66_41 : ¬ ((1 : Int32) = (0 : Int32)) := by decide
    refine own_ifNo X39 hx hby at_66 ((if0 _ _).trans (feq hc66_41).1) ?_
    refine own_iconst X39 hx hby 1 at_69 rfl ?_
    refine own_goto X39 hx hby 70 74 at_70 (by decide) (by decide) ?_
    exact own_retN X39 hx hlk (t := .boolean) Bd.returns (by simp) (hb hby at_74) (by decide) (by decide) (⟨rfl, N39⟩)
  · skip
    refine own_eq (U' := (T25.setTop (mkF m 4 #[.val (.int p1), .val (.int p2), .unset, .unset, .unset, .unset] [(.ref k2)]))) (by rw [hv]) ?_
    refine own_astoreN X25 hx hby at_4 rfl (l' := #[.val (.int p1), .val (.int p2), .val (.ref k2), .unset, .unset, .unset]) rfl ?_
    refine own_aloadN X25 hx hby at_5 rfl rfl ?_
    obtain ⟨cq42, kq42, q42a, q42b, q42c⟩ := isOf hZ e25 E2
    obtain ⟨_, _, ⟨T42, L42, k42, n42⟩, -, X42, ⟨Lc42, hQ42, l42, y42, z42⟩, st42⟩ := X25.virtualBack hx (y := mN_4) (z := mN_4) hown (mvT hZ (own_w hw 7 rfl)) (mvT hZ (own_w hw 8 rfl)) (notFace_of_selects (args := #[]) (mvT hZ (own_w hw 10 rfl))) (mvT hZ (own_w hw 10 rfl)) (mvT hZ (own_w hw 9 rfl)) (by decide) (backOf (W := 0) (rmt2 l Z a0 hw [] k2 k0 k1 k2 k3 h0 n0 Z0 S0 S1 S2 S3 E2 F2) hZ (own_w hw 11 rfl) (own_w hw 5 rfl) (by decide) (by decide)) q42a q42c (g := (mkF m 6 #[.val (.int p1), .val (.int p2), .val (.ref k2), .unset, .unset, .unset] [(.ref k2)])) rfl (by rw [hml]; rfl) (Steps.refl _) (argsL := []) (rest := []) (lenOf pd_2 rfl) rfl (by show 2 * 0 + _ ≤ _; exact Nat.le_of_eq rfl) (hb hby at_6) (fun _ _ => ⟨rfl, e25, (by decide : 0 + 0 ≤ _), (by decide : 0 + 0 ≤ _)⟩)
    dsimp only [Pt.U, Pt.locs, Pt.cells, Pt.slots] at X42 l42 y42 z42 st42 hQ42
    subst l42 y42 z42
    obtain ⟨rfl, Nq42, e42⟩ := hQ42
    have N42 := Fr.app N25 Nq42
    refine own_of (U' := (T42.setTop (mkF m 9 #[.val (.int p1), .val (.int p2), .val (.ref k2), .unset, .unset, .unset] [(.ref k0)]))) (fun _ k => st42.trans k) ?_
    refine own_astoreN X42 hx hby at_9 rfl (l' := #[.val (.int p1), .val (.int p2), .val (.ref k2), .val (.ref k0), .unset, .unset]) rfl ?_
    refine own_aloadN X42 hx hby at_10 rfl rfl ?_
    refine own_ifnonnullYes X42 hx hby 11 16 at_11 (by decide) (by decide) ?_
    refine own_aloadN X42 hx hby at_16 rfl rfl ?_
    refine own_iloadN X42 hx hby at_17 rfl ?_
    obtain ⟨cq43, kq43, q43a, q43b, q43c⟩ := isOf hZ e42 E0
    obtain ⟨_, _, ⟨T43, L43, k43, n43⟩, -, X43, ⟨Lc43, hQ43, l43, y43, z43⟩, st43⟩ := X42.virtualBack hx (y := mN_1) (z := mN_1) hown (mvT hZ (own_w hw 23 rfl)) (mvT hZ (own_w hw 24 rfl)) (notFace_of_selects (args := #[]) (mvT hZ (own_w hw 26 rfl))) (mvT hZ (own_w hw 26 rfl)) (mvT hZ (own_w hw 25 rfl)) (by decide) (backOf (W := 0) (rmh0 l Z a0 hw [] k0 p2 h0 n0 Z0 E0 F0) hZ (own_w hw 27 rfl) (own_w hw 5 rfl) (by decide) (by decide)) q43a q43c (g := (mkF m 18 #[.val (.int p1), .val (.int p2), .val (.ref k2), .val (.ref k0), .unset, .unset] [(.int p2), (.ref k0)])) rfl (by rw [hml]; rfl) (Steps.refl _) (argsL := [(.int p2)]) (rest := []) (lenOf pd_3 rfl) rfl (by show 2 * 0 + _ ≤ _; exact Nat.le_of_eq rfl) (hb hby at_18) (fun _ _ => ⟨rfl, e42, (by decide : 0 + 0 ≤ _), (by decide : 0 + 0 ≤ _)⟩)
    dsimp only [Pt.U, Pt.locs, Pt.cells, Pt.slots] at X43 l43 y43 z43 st43 hQ43
    subst l43 y43 z43
    obtain ⟨rfl, Nq43, e43⟩ := hQ43
    have N43 := Fr.app N42 Nq43
    refine own_of (U' := (T43.setTop (mkF m 21 #[.val (.int p1), .val (.int p2), .val (.ref k2), .val (.ref k0), .unset, .unset] [(.int (own_h0 p2))]))) (fun _ k => st43.trans k) ?_
    refine own_aloadN X43 hx hby at_21 rfl rfl ?_
    refine own_iloadN X43 hx hby at_22 rfl ?_
    obtain ⟨cq44, kq44, q44a, q44b, q44c⟩ := isOf hZ e43 E2
    obtain ⟨_, _, ⟨T44, L44, k44, n44⟩, -, X44, ⟨Lc44, hQ44, l44, y44, z44⟩, st44⟩ := X43.virtualBack hx (y := mN_1) (z := mN_1) hown (mvT hZ (own_w hw 23 rfl)) (mvT hZ (own_w hw 24 rfl)) (notFace_of_selects (args := #[]) (mvT hZ (own_w hw 26 rfl))) (mvT hZ (own_w hw 26 rfl)) (mvT hZ (own_w hw 25 rfl)) (by decide) (backOf (W := 1) (rmh2 l Z a0 hw [] k2 p2 h0 n0 Z0 E2 F2) hZ (own_w hw 27 rfl) (own_w hw 5 rfl) (by decide) (by decide)) q44a q44c (g := (mkF m 23 #[.val (.int p1), .val (.int p2), .val (.ref k2), .val (.ref k0), .unset, .unset] [(.int p2), (.ref k2), (.int (own_h0 p2))])) rfl (by rw [hml]; rfl) (Steps.refl _) (argsL := [(.int p2)]) (rest := [(.int (own_h0 p2))]) (lenOf pd_3 rfl) rfl (by show 2 * 0 + _ ≤ _; exact Nat.le_of_eq rfl) (hb hby at_23) (fun _ _ => ⟨rfl, e43, (by decide : 0 + 0 ≤ _), (by decide : 0 + 0 ≤ _)⟩)
    dsimp only [Pt.U, Pt.locs, Pt.cells, Pt.slots] at X44 l44 y44 z44 st44 hQ44
    subst l44 y44 z44
    obtain ⟨rfl, Nq44, e44⟩ := hQ44
    have N44 := Fr.app N43 Nq44
    refine own_of (U' := (T44.setTop (mkF m 26 #[.val (.int p1), .val (.int p2), .val (.ref k2), .val (.ref k0), .unset, .unset] [(.int (own_h2 p2)), (.int (own_h0 p2))]))) (fun _ k => st44.trans k) ?_
    obtain ⟨nb, hnb⟩ : ∃ z : Int32, z = (if (own_h2 p2) = (0 : Int32) then (1 : Int32) else (0 : Int32)) := ⟨_, rfl⟩
    suffices key26 : own_Ends p e below s FrameEnd (Q0 n0) 0 0 (T44.setTop (mkF m 34 #[.val (.int p1), .val (.int p2), .val (.ref k2), .val (.ref k0), .unset, .unset] [(.int nb), (.int (own_h0 p2))])) by
      by_cases hc26_45 : (own_h2 p2) = (0 : Int32)
      · skip
        refine own_ifNo X44 hx hby at_26 ((if0 _ _).trans (teq hc26_45).2) ?_
        refine own_iconst X44 hx hby 1 at_29 rfl ?_
        refine own_goto X44 hx hby 30 34 at_30 (by decide) (by decide) ?_
        have tnb : nb = (1 : Int32) := by rw [hnb, if_pos hc26_45]
        exact own_eq (by rw [tnb]) key26
      · skip
        refine own_ifYes X44 hx hby 26 33 at_26 ((if0 _ _).trans (feq hc26_45).2) (by decide) (by decide) ?_
        refine own_iconst X44 hx hby 0 at_33 rfl ?_
        have tnb : nb = (0 : Int32) := by rw [hnb, if_neg hc26_45]
        exact own_eq (by rw [tnb]) key26
    have hc34_46 : (own_h0 p2) = nb := by rw [hnb]; exact own_n2 p2
    refine own_icmpNo X44 hx hby at_34 (teq hc34_46).2 ?_
    refine own_iconst X44 hx hby 1 at_37 rfl ?_
    refine own_goto X44 hx hby 38 42 at_38 (by decide) (by decide) ?_
    refine own_istore X44 hx hby at_42 (l' := #[.val (.int p1), .val (.int p2), .val (.ref k2), .val (.ref k0), .val (.int (1 : Int32)), .unset]) rfl ?_
    refine own_aloadN X44 hx hby at_44 rfl rfl ?_
    obtain ⟨cq47, kq47, q47a, q47b, q47c⟩ := isOf hZ e44 E0
    obtain ⟨_, _, ⟨T47, L47, k47, n47⟩, -, X47, ⟨Lc47, hQ47, l47, y47, z47⟩, st47⟩ := X44.virtualBack hx (y := mN_4) (z := mN_4) hown (mvT hZ (own_w hw 7 rfl)) (mvT hZ (own_w hw 8 rfl)) (notFace_of_selects (args := #[]) (mvT hZ (own_w hw 10 rfl))) (mvT hZ (own_w hw 10 rfl)) (mvT hZ (own_w hw 9 rfl)) (by decide) (backOf (W := 0) (rmt0 l Z a0 hw [] k0 k0 k1 k2 k3 h0 n0 Z0 S0 S1 S2 S3 E0 F0) hZ (own_w hw 11 rfl) (own_w hw 5 rfl) (by decide) (by decide)) q47a q47c (g := (mkF m 45 #[.val (.int p1), .val (.int p2), .val (.ref k2), .val (.ref k0), .val (.int (1 : Int32)), .unset] [(.ref k0)])) rfl (by rw [hml]; rfl) (Steps.refl _) (argsL := []) (rest := []) (lenOf pd_2 rfl) rfl (by show 2 * 0 + _ ≤ _; exact Nat.le_of_eq rfl) (hb hby at_45) (fun _ _ => ⟨rfl, e44, (by decide : 0 + 0 ≤ _), (by decide : 0 + 0 ≤ _)⟩)
    dsimp only [Pt.U, Pt.locs, Pt.cells, Pt.slots] at X47 l47 y47 z47 st47 hQ47
    subst l47 y47 z47
    obtain ⟨rfl, Nq47, e47⟩ := hQ47
    have N47 := Fr.app N44 Nq47
    refine own_of (U' := (T47.setTop (mkF m 48 #[.val (.int p1), .val (.int p2), .val (.ref k2), .val (.ref k0), .val (.int (1 : Int32)), .unset] [(.ref k2)]))) (fun _ k => st47.trans k) ?_
    refine own_aloadN X47 hx hby at_48 rfl rfl ?_
    refine own_of (U' := (T47.setTop (mkF m 52 #[.val (.int p1), .val (.int p2), .val (.ref k2), .val (.ref k0), .val (.int (1 : Int32)), .unset] []))) (fun _ k => Jvm.RoadKit.acmp (g := (mkF m 49 #[.val (.int p1), .val (.int p2), .val (.ref k2), .val (.ref k0), .val (.int (1 : Int32)), .unset] [(.ref k2), (.ref k2)])) X47 hx rfl rfl rfl (pc0 := 49) (pc' := 52) (same := true) rfl (hb hby at_49) rfl (decide_eq_true rfl) (by decide) (by decide) k) ?_
    refine own_iconst X47 hx hby 1 at_52 rfl ?_
    refine own_goto X47 hx hby 53 57 at_53 (by decide) (by decide) ?_
    refine own_istore X47 hx hby at_57 (l' := #[.val (.int p1), .val (.int p2), .val (.ref k2), .val (.ref k0), .val (.int (1 : Int32)), .val (.int (1 : Int32))]) rfl ?_
    refine own_iload X47 hx hby at_59 rfl ?_
    have hc61_48 : ¬ ((1 : Int32) = (0 : Int32)) := by decide
    refine own_ifNo X47 hx hby at_61 ((if0 _ _).trans (feq hc61_48).1) ?_
    refine own_iload X47 hx hby at_64 rfl ?_
    have hc66_49 : ¬ ((1 : Int32) = (0 : Int32)) := by decide
    refine own_ifNo X47 hx hby at_66 ((if0 _ _).trans (feq hc66_49).1) ?_
    refine own_iconst X47 hx hby 1 at_69 rfl ?_
    refine own_goto X47 hx hby 70 74 at_70 (by decide) (by decide) ?_
    exact own_retN X47 hx hlk (t := .boolean) Bd.returns (by simp) (hb hby at_74) (by decide) (by decide) (⟨rfl, N47⟩)
  · skip
    refine own_eq (U' := (T25.setTop (mkF m 4 #[.val (.int p1), .val (.int p2), .unset, .unset, .unset, .unset] [(.ref k3)]))) (by rw [hv]) ?_
    refine own_astoreN X25 hx hby at_4 rfl (l' := #[.val (.int p1), .val (.int p2), .val (.ref k3), .unset, .unset, .unset]) rfl ?_
    refine own_aloadN X25 hx hby at_5 rfl rfl ?_
    obtain ⟨cq50, kq50, q50a, q50b, q50c⟩ := isOf hZ e25 E3
    obtain ⟨_, _, ⟨T50, L50, k50, n50⟩, -, X50, ⟨Lc50, hQ50, l50, y50, z50⟩, st50⟩ := X25.virtualBack hx (y := mN_4) (z := mN_4) hown (mvT hZ (own_w hw 7 rfl)) (mvT hZ (own_w hw 8 rfl)) (notFace_of_selects (args := #[]) (mvT hZ (own_w hw 10 rfl))) (mvT hZ (own_w hw 10 rfl)) (mvT hZ (own_w hw 9 rfl)) (by decide) (backOf (W := 0) (rmt3 l Z a0 hw [] k3 k0 k1 k2 k3 h0 n0 Z0 S0 S1 S2 S3 E3 F3) hZ (own_w hw 11 rfl) (own_w hw 5 rfl) (by decide) (by decide)) q50a q50c (g := (mkF m 6 #[.val (.int p1), .val (.int p2), .val (.ref k3), .unset, .unset, .unset] [(.ref k3)])) rfl (by rw [hml]; rfl) (Steps.refl _) (argsL := []) (rest := []) (lenOf pd_2 rfl) rfl (by show 2 * 0 + _ ≤ _; exact Nat.le_of_eq rfl) (hb hby at_6) (fun _ _ => ⟨rfl, e25, (by decide : 0 + 0 ≤ _), (by decide : 0 + 0 ≤ _)⟩)
    dsimp only [Pt.U, Pt.locs, Pt.cells, Pt.slots] at X50 l50 y50 z50 st50 hQ50
    subst l50 y50 z50
    obtain ⟨rfl, Nq50, e50⟩ := hQ50
    have N50 := Fr.app N25 Nq50
    refine own_of (U' := (T50.setTop (mkF m 9 #[.val (.int p1), .val (.int p2), .val (.ref k3), .unset, .unset, .unset] [(.ref k1)]))) (fun _ k => st50.trans k) ?_
    refine own_astoreN X50 hx hby at_9 rfl (l' := #[.val (.int p1), .val (.int p2), .val (.ref k3), .val (.ref k1), .unset, .unset]) rfl ?_
    refine own_aloadN X50 hx hby at_10 rfl rfl ?_
    refine own_ifnonnullYes X50 hx hby 11 16 at_11 (by decide) (by decide) ?_
    refine own_aloadN X50 hx hby at_16 rfl rfl ?_
    refine own_iloadN X50 hx hby at_17 rfl ?_
    obtain ⟨cq51, kq51, q51a, q51b, q51c⟩ := isOf hZ e50 E1
    obtain ⟨_, _, ⟨T51, L51, k51, n51⟩, -, X51, ⟨Lc51, hQ51, l51, y51, z51⟩, st51⟩ := X50.virtualBack hx (y := mN_1) (z := mN_1) hown (mvT hZ (own_w hw 23 rfl)) (mvT hZ (own_w hw 24 rfl)) (notFace_of_selects (args := #[]) (mvT hZ (own_w hw 26 rfl))) (mvT hZ (own_w hw 26 rfl)) (mvT hZ (own_w hw 25 rfl)) (by decide) (backOf (W := 0) (rmh1 l Z a0 hw [] k1 p2 h0 n0 Z0 E1 F1) hZ (own_w hw 27 rfl) (own_w hw 5 rfl) (by decide) (by decide)) q51a q51c (g := (mkF m 18 #[.val (.int p1), .val (.int p2), .val (.ref k3), .val (.ref k1), .unset, .unset] [(.int p2), (.ref k1)])) rfl (by rw [hml]; rfl) (Steps.refl _) (argsL := [(.int p2)]) (rest := []) (lenOf pd_3 rfl) rfl (by show 2 * 0 + _ ≤ _; exact Nat.le_of_eq rfl) (hb hby at_18) (fun _ _ => ⟨rfl, e50, (by decide : 0 + 0 ≤ _), (by decide : 0 + 0 ≤ _)⟩)
    dsimp only [Pt.U, Pt.locs, Pt.cells, Pt.slots] at X51 l51 y51 z51 st51 hQ51
    subst l51 y51 z51
    obtain ⟨rfl, Nq51, e51⟩ := hQ51
    have N51 := Fr.app N50 Nq51
    refine own_of (U' := (T51.setTop (mkF m 21 #[.val (.int p1), .val (.int p2), .val (.ref k3), .val (.ref k1), .unset, .unset] [(.int (own_h1 p2))]))) (fun _ k => st51.trans k) ?_
    refine own_aloadN X51 hx hby at_21 rfl rfl ?_
    refine own_iloadN X51 hx hby at_22 rfl ?_
    obtain ⟨cq52, kq52, q52a, q52b, q52c⟩ := isOf hZ e51 E3
    obtain ⟨_, _, ⟨T52, L52, k52, n52⟩, -, X52, ⟨Lc52, hQ52, l52, y52, z52⟩, st52⟩ := X51.virtualBack hx (y := mN_1) (z := mN_1) hown (mvT hZ (own_w hw 23 rfl)) (mvT hZ (own_w hw 24 rfl)) (notFace_of_selects (args := #[]) (mvT hZ (own_w hw 26 rfl))) (mvT hZ (own_w hw 26 rfl)) (mvT hZ (own_w hw 25 rfl)) (by decide) (backOf (W := 1) (rmh3 l Z a0 hw [] k3 p2 h0 n0 Z0 E3 F3) hZ (own_w hw 27 rfl) (own_w hw 5 rfl) (by decide) (by decide)) q52a q52c (g := (mkF m 23 #[.val (.int p1), .val (.int p2), .val (.ref k3), .val (.ref k1), .unset, .unset] [(.int p2), (.ref k3), (.int (own_h1 p2))])) rfl (by rw [hml]; rfl) (Steps.refl _) (argsL := [(.int p2)]) (rest := [(.int (own_h1 p2))]) (lenOf pd_3 rfl) rfl (by show 2 * 0 + _ ≤ _; exact Nat.le_of_eq rfl) (hb hby at_23) (fun _ _ => ⟨rfl, e51, (by decide : 0 + 0 ≤ _), (by decide : 0 + 0 ≤ _)⟩)
    dsimp only [Pt.U, Pt.locs, Pt.cells, Pt.slots] at X52 l52 y52 z52 st52 hQ52
    subst l52 y52 z52
    obtain ⟨rfl, Nq52, e52⟩ := hQ52
    have N52 := Fr.app N51 Nq52
    refine own_of (U' := (T52.setTop (mkF m 26 #[.val (.int p1), .val (.int p2), .val (.ref k3), .val (.ref k1), .unset, .unset] [(.int (own_h3 p2)), (.int (own_h1 p2))]))) (fun _ k => st52.trans k) ?_
    obtain ⟨nb, hnb⟩ : ∃ z : Int32, z = (if (own_h3 p2) = (0 : Int32) then (1 : Int32) else (0 : Int32)) := ⟨_, rfl⟩
    suffices key26 : own_Ends p e below s FrameEnd (Q0 n0) 0 0 (T52.setTop (mkF m 34 #[.val (.int p1), .val (.int p2), .val (.ref k3), .val (.ref k1), .unset, .unset] [(.int nb), (.int (own_h1 p2))])) by
      by_cases hc26_53 : (own_h3 p2) = (0 : Int32)
      · skip
        refine own_ifNo X52 hx hby at_26 ((if0 _ _).trans (teq hc26_53).2) ?_
        refine own_iconst X52 hx hby 1 at_29 rfl ?_
        refine own_goto X52 hx hby 30 34 at_30 (by decide) (by decide) ?_
        have tnb : nb = (1 : Int32) := by rw [hnb, if_pos hc26_53]
        exact own_eq (by rw [tnb]) key26
      · skip
        refine own_ifYes X52 hx hby 26 33 at_26 ((if0 _ _).trans (feq hc26_53).2) (by decide) (by decide) ?_
        refine own_iconst X52 hx hby 0 at_33 rfl ?_
        have tnb : nb = (0 : Int32) := by rw [hnb, if_neg hc26_53]
        exact own_eq (by rw [tnb]) key26
    have hc34_54 : (own_h1 p2) = nb := by rw [hnb]; exact own_n3 p2
    refine own_icmpNo X52 hx hby at_34 (teq hc34_54).2 ?_
    refine own_iconst X52 hx hby 1 at_37 rfl ?_
    refine own_goto X52 hx hby 38 42 at_38 (by decide) (by decide) ?_
    refine own_istore X52 hx hby at_42 (l' := #[.val (.int p1), .val (.int p2), .val (.ref k3), .val (.ref k1), .val (.int (1 : Int32)), .unset]) rfl ?_
    refine own_aloadN X52 hx hby at_44 rfl rfl ?_
    obtain ⟨cq55, kq55, q55a, q55b, q55c⟩ := isOf hZ e52 E1
    obtain ⟨_, _, ⟨T55, L55, k55, n55⟩, -, X55, ⟨Lc55, hQ55, l55, y55, z55⟩, st55⟩ := X52.virtualBack hx (y := mN_4) (z := mN_4) hown (mvT hZ (own_w hw 7 rfl)) (mvT hZ (own_w hw 8 rfl)) (notFace_of_selects (args := #[]) (mvT hZ (own_w hw 10 rfl))) (mvT hZ (own_w hw 10 rfl)) (mvT hZ (own_w hw 9 rfl)) (by decide) (backOf (W := 0) (rmt1 l Z a0 hw [] k1 k0 k1 k2 k3 h0 n0 Z0 S0 S1 S2 S3 E1 F1) hZ (own_w hw 11 rfl) (own_w hw 5 rfl) (by decide) (by decide)) q55a q55c (g := (mkF m 45 #[.val (.int p1), .val (.int p2), .val (.ref k3), .val (.ref k1), .val (.int (1 : Int32)), .unset] [(.ref k1)])) rfl (by rw [hml]; rfl) (Steps.refl _) (argsL := []) (rest := []) (lenOf pd_2 rfl) rfl (by show 2 * 0 + _ ≤ _; exact Nat.le_of_eq rfl) (hb hby at_45) (fun _ _ => ⟨rfl, e52, (by decide : 0 + 0 ≤ _), (by decide : 0 + 0 ≤ _)⟩)
    dsimp only [Pt.U, Pt.locs, Pt.cells, Pt.slots] at X55 l55 y55 z55 st55 hQ55
    subst l55 y55 z55
    obtain ⟨rfl, Nq55, e55⟩ := hQ55
    have N55 := Fr.app N52 Nq55
    refine own_of (U' := (T55.setTop (mkF m 48 #[.val (.int p1), .val (.int p2), .val (.ref k3), .val (.ref k1), .val (.int (1 : Int32)), .unset] [(.ref k3)]))) (fun _ k => st55.trans k) ?_
    refine own_aloadN X55 hx hby at_48 rfl rfl ?_
    refine own_of (U' := (T55.setTop (mkF m 52 #[.val (.int p1), .val (.int p2), .val (.ref k3), .val (.ref k1), .val (.int (1 : Int32)), .unset] []))) (fun _ k => Jvm.RoadKit.acmp (g := (mkF m 49 #[.val (.int p1), .val (.int p2), .val (.ref k3), .val (.ref k1), .val (.int (1 : Int32)), .unset] [(.ref k3), (.ref k3)])) X55 hx rfl rfl rfl (pc0 := 49) (pc' := 52) (same := true) rfl (hb hby at_49) rfl (decide_eq_true rfl) (by decide) (by decide) k) ?_
    refine own_iconst X55 hx hby 1 at_52 rfl ?_
    refine own_goto X55 hx hby 53 57 at_53 (by decide) (by decide) ?_
    refine own_istore X55 hx hby at_57 (l' := #[.val (.int p1), .val (.int p2), .val (.ref k3), .val (.ref k1), .val (.int (1 : Int32)), .val (.int (1 : Int32))]) rfl ?_
    refine own_iload X55 hx hby at_59 rfl ?_
    have hc61_56 : ¬ ((1 : Int32) = (0 : Int32)) := by decide
    refine own_ifNo X55 hx hby at_61 ((if0 _ _).trans (feq hc61_56).1) ?_
    refine own_iload X55 hx hby at_64 rfl ?_
    have hc66_57 : ¬ ((1 : Int32) = (0 : Int32)) := by decide
    refine own_ifNo X55 hx hby at_66 ((if0 _ _).trans (feq hc66_57).1) ?_
    refine own_iconst X55 hx hby 1 at_69 rfl ?_
    refine own_goto X55 hx hby 70 74 at_70 (by decide) (by decide) ?_
    exact own_retN X55 hx hlk (t := .boolean) Bd.returns (by simp) (hb hby at_74) (by decide) (by decide) (⟨rfl, N55⟩)
set_option maxRecDepth 65536 in
set_option maxHeartbeats 40000000 in
theorem comes_1 {Post : Tables → Env → Array Value → State → Outcome → State → Prop} (hpost : ∀ tb e args s v u, (limb_1_1.after args s (.returned v) u = true ∧ limb_1_2.after args s (.returned v) u = true ∧ True) → FrameEnd s (.returned v) u (Jvm.fieldLocs frame_1_writes args s ++ Jvm.arrayLocs frame_1_arrays args s ++ Jvm.staticLocs frame_1_statics s) 0 0 → Post tb e args s (.returned v) u) :
    ArmFor flags0 classFile x code maxLocals ret World_1 tables_1 room_1 Calls_1 rest_1 Pre_1 Post := by
  intro l hfl _ _ p e ha hc hk s m args below hf hA hF happ hP
  obtain ⟨hcalls, hrest, hpre⟩ := hP
  obtain ⟨-, -, -, hnamed, -, -, -, hat⟩ := (Spec.applies_iff hf).mp happ
  obtain ⟨hg, hn⟩ := and_e (Cond.before_iff.mp (show (Jvm.Cond.and given_1 narrow_1).before args s = true from hpre))
  obtain ⟨hcount, hv0⟩ := and_e hg
  obtain ⟨hi0, hv1⟩ := and_e hv0
  obtain ⟨w0, w1, rfl⟩ : ∃ w0 w1 : Value, args = #[w0, w1] := by
    have hs : args.size = 2 := by simpa [Cond.value, given_1] using hcount
    obtain ⟨L⟩ := args
    match L, hs with
    | [w0, w1], _ => exact ⟨w0, w1, rfl⟩
  have hw := fun d (hd : d ∈ tables_1) => atoms_spec (ws := Jvm.Cond.code x code maxLocals ret :: tables_1) hat d (List.mem_cons_of_mem _ hd)
  have hfit : Fit s := fun {y c} hc i hi => by
    obtain ⟨ha, rfl⟩ := Array.getElem?_eq_some_iff.mp hc
    have q := List.all_eq_true.mp ((Array.all_eq_true_iff_forall_mem.mp hF) _ (Array.getElem_mem ha)) i (List.mem_range.mpr hi)
    simpa [Array.getElem?_eq_getElem hi] using q
  obtain ⟨i0, ei0⟩ := is_v hi0
  obtain rfl : w0 = (.int i0) := Option.some.inj ei0
  obtain ⟨i1, ei1⟩ := is_v hv1
  obtain rfl : w1 = (.int i1) := Option.some.inj ei1
  obtain ⟨nn0, nr0⟩ := and_e hn
  obtain ⟨nn1, nr1⟩ := and_e nr0
  obtain ⟨nn2, nr2⟩ := and_e nr1
  obtain ⟨nn3, nr3⟩ := and_e nr2
  obtain ⟨nn4, nr4⟩ := and_e nr3
  obtain ⟨nn5, nr5⟩ := and_e nr4
  obtain ⟨nn6, nr6⟩ := and_e nr5
  obtain ⟨a0, ea0⟩ := exa_v nn0
  have S0 : Sta s s.heap "com/example/restate/restate/model/CovenantRow$Test" "AT_MOST" "Lcom/example/restate/restate/model/CovenantRow$Test;" (.ref a0) := Sta.start ea0 (Or.inr ⟨(own_w hw 5 rfl), (own_w hw 6 rfl)⟩)
  have E0 : Exa s s.heap a0 "com/example/restate/restate/model/CovenantRow$Test" := Exa.start ea0 nn0
  have F0 : Fld s s.heap a0 "java/lang/Enum" "ordinal" "I" (.int (0 : Int32)) := Fld.start ((fld_at ea0).symm.trans (own_eqk nn1))
  obtain ⟨a1, ea1⟩ := exa_v nn4
  have S1 : Sta s s.heap "com/example/restate/restate/model/CovenantRow$Test" "AT_LEAST" "Lcom/example/restate/restate/model/CovenantRow$Test;" (.ref a1) := Sta.start ea1 (Or.inr ⟨(own_w hw 5 rfl), (own_w hw 31 rfl)⟩)
  have E1 : Exa s s.heap a1 "com/example/restate/restate/model/CovenantRow$Test" := Exa.start ea1 nn4
  have F1 : Fld s s.heap a1 "java/lang/Enum" "ordinal" "I" (.int (1 : Int32)) := Fld.start ((fld_at ea1).symm.trans (own_eqk nn5))
  obtain ⟨a2, ea2⟩ := exa_v nn2
  have S2 : Sta s s.heap "com/example/restate/restate/model/CovenantRow$Test" "GREATER_THAN" "Lcom/example/restate/restate/model/CovenantRow$Test;" (.ref a2) := Sta.start ea2 (Or.inr ⟨(own_w hw 5 rfl), (own_w hw 22 rfl)⟩)
  have E2 : Exa s s.heap a2 "com/example/restate/restate/model/CovenantRow$Test" := Exa.start ea2 nn2
  have F2 : Fld s s.heap a2 "java/lang/Enum" "ordinal" "I" (.int (2 : Int32)) := Fld.start ((fld_at ea2).symm.trans (own_eqk nn3))
  obtain ⟨a3, ea3⟩ := exa_v nn6
  have S3 : Sta s s.heap "com/example/restate/restate/model/CovenantRow$Test" "LESS_THAN" "Lcom/example/restate/restate/model/CovenantRow$Test;" (.ref a3) := Sta.start ea3 (Or.inr ⟨(own_w hw 5 rfl), (own_w hw 33 rfl)⟩)
  have E3 : Exa s s.heap a3 "com/example/restate/restate/model/CovenantRow$Test" := Exa.start ea3 nn6
  have F3 : Fld s s.heap a3 "java/lang/Enum" "ordinal" "I" (.int (3 : Int32)) := Fld.start ((fld_at ea3).symm.trans (own_eqk nr6))
  obtain ⟨n, o, h1, h2, h3, _, L, rfl, ⟨rfl, N⟩, hq⟩ := rm0 l s _ hw tables_1 i0 i1 a0 a1 a2 a3 s.heap s.heap.size (Nat.le_refl _) S0 S1 S2 S3 E0 F0 E1 F1 E2 F2 E3 F3 p e ha hc hk s m _ below hf ((Spec.applies_iff_loose hf).mp happ).1 ⟨rfl, State.Warmed39.refl s, rfl⟩ trivial
  exact ⟨n, _, h1, h2, h3, hpost _ _ _ _ _ _ ⟨Cond.after_iff.mpr rfl, Cond.after_iff.mpr (eq_i res_at (Term.int_eval (1)) rfl), trivial⟩ ⟨hq.1, hq.2.1, (hq.2.2.sift fun y hy => Or.inr (N y hy)).mono (by decide) (by decide)⟩⟩
theorem main_1_1 : Claimed_1_1 := comes_1 fun _ _ _ _ _ _ h hF => ⟨h.1, hF⟩
theorem main_1_2 : Claimed_1_2 := comes_1 fun _ _ _ _ _ _ h hF => ⟨h.2.1, hF⟩
end Jvm.Pilot.@@N@@
namespace Jvm.Pilot.@@N@@
open Jvm Jvm.ClassFile Sem Op Lib Jvm.Free Jvm.Stand Jvm.Pilot.@@N@@.Jvm.D
/-! MADE BY PROGRAM (witnessworld.py) out of the Statement's table words and the real class files: 13 classes; the members and pool entries that the words name. The judged class is class 1, her method 2. -/
namespace start1
open Jvm.ClassFile
def u (s : String) : CpInfo := .utf8 (stringToUtf16 s)
/-- a pool by its gaps: so many unusable entries, then the entry; so many at the end -/
def gap : Nat → List CpInfo → List CpInfo
  | 0, r => r
  | n + 1, r => .unusable :: gap n r
def poolList (es : List (Nat × CpInfo)) (last : Nat) : List CpInfo := es.foldr (fun e r => gap e.1 (e.2 :: r)) (gap last [])
def pool (es : List (Nat × CpInfo)) (last : Nat) : Array CpInfo := ⟨poolList es last⟩
def fileOf (pool : Array CpInfo) (this : Nat) (attrs : Array Attribute := #[]) (ms : Array MethodInfo := #[]) (fl : Nat := 33) (sup : Nat := 0) (ifs : Array Nat := #[]) (fds : Array FieldInfo := #[]) : ClassFile where
  minorVersion := 0
  majorVersion := 65
  constantPool := pool
  accessFlags := fl
  thisClass := this
  superClass := sup
  interfaces := ifs
  fields := fds
  methods := ms
  attributes := attrs
def plain (name : String) (sup : Option ClassId) : Class where
  name := name
  kind := .ordinary
  loader := none
  accessFlags := 33
  super := sup
  interfaces := #[]
  cf := none
  fields := #[]
  methods := #[]
  instanceTypes := #[]
  staticTypes := #[]
  resolved := #[]
  callSites := []
  init := .initialized
  statics := none
  mirror := none

def pool0 : Array CpInfo := pool [(5, u "<init>"), (0, u "()V"), (1, .class_ 10), (1, u "java/lang/Object")] 113

def k0m0 : Method := { name := "<init>", desc := "()V", sig := { parameters := [], returnType := none }, accessFlags := 1, code := none }
/-- java/lang/Object -/
def k0 : Class := { plain "java/lang/Object" none with
  accessFlags := 33
  interfaces := #[]
  cf := some (fileOf pool0 8 #[] #[{ accessFlags := 1, nameIndex := 5, descriptorIndex := 6, attributes := #[] }] 33 0 #[] #[])
  fields := #[]
  methods := #[k0m0]
  instanceTypes := #[]
  staticTypes := #[]
  resolved := Array.replicate 124 none
  statics := none }

def pool1 : Array CpInfo := pool [(2, .class_ 4), (1, u "java/lang/Object"), (0, u "<init>"), (0, u "()V"), (0, .fieldref 8 9), (0, .class_ 10), (0, .nameAndType 11 12), (0, u "com/example/restate/restate/model/CovenantRow$Test"), (0, u "AT_MOST"), (0, u "Lcom/example/restate/restate/model/CovenantRow$Test;"), (0, .fieldref 8 14), (0, .nameAndType 15 12), (0, u "AT_LEAST"), (0, .fieldref 8 17), (0, .nameAndType 18 12), (0, u "GREATER_THAN"), (0, .fieldref 8 20), (0, .nameAndType 21 12), (0, u "LESS_THAN"), (0, .methodref 23 24), (0, .class_ 25), (0, .nameAndType 26 27), (0, u "com/example/restate/restate/model/TestTurnedPinLaw"), (0, u "pick"), (0, u "(I)Lcom/example/restate/restate/model/CovenantRow$Test;"), (0, .methodref 8 29), (0, .nameAndType 30 31), (0, u "turned"), (0, u "()Lcom/example/restate/restate/model/CovenantRow$Test;"), (0, .methodref 8 33), (0, .nameAndType 34 35), (0, u "holds"), (0, u "(I)Z"), (3, u "law"), (0, u "(II)Z")] 6

def k1m0 : Method := { name := "<init>", desc := "()V", sig := { parameters := [], returnType := none }, accessFlags := 1, code := none }
def k1c1 : Code := { maxStack := 2, maxLocals := 2, code := method_2_code, exceptionTable := #[], attributes := #[] }
def k1m1 : Method := { name := "pick", desc := "(I)Lcom/example/restate/restate/model/CovenantRow$Test;", sig := { parameters := [.int], returnType := some (.object "com/example/restate/restate/model/CovenantRow$Test") }, accessFlags := 10, code := some k1c1 }
def k1c2 : Code := { maxStack := 3, maxLocals := 6, code := code, exceptionTable := #[], attributes := #[] }
def k1m2 : Method := { name := "law", desc := "(II)Z", sig := { parameters := [.int, .int], returnType := some .boolean }, accessFlags := 9, code := some k1c2 }
/-- com/example/restate/restate/model/TestTurnedPinLaw -/
def k1 : Class := { plain "com/example/restate/restate/model/TestTurnedPinLaw" (some 0) with
  accessFlags := 49
  interfaces := #[]
  cf := some (fileOf pool1 23 #[] #[{ accessFlags := 1, nameIndex := 5, descriptorIndex := 6, attributes := #[] }, { accessFlags := 10, nameIndex := 26, descriptorIndex := 27, attributes := #[] }, { accessFlags := 9, nameIndex := 39, descriptorIndex := 40, attributes := #[] }] 49 2 #[] #[])
  fields := #[]
  methods := #[k1m0, k1m1, k1m2]
  instanceTypes := #[]
  staticTypes := #[]
  resolved := Array.replicate 47 none
  statics := none }

def pool2 : Array CpInfo := pool [(1, .class_ 2), (0, u "java/lang/constant/Constable"), (0, .class_ 4), (0, u "java/lang/Object")] 6

/-- java/lang/constant/Constable -/
def k2 : Class := { plain "java/lang/constant/Constable" (some 0) with
  accessFlags := 1537
  interfaces := #[]
  cf := some (fileOf pool2 1 #[] #[] 1537 3 #[] #[])
  fields := #[]
  methods := #[]
  instanceTypes := #[]
  staticTypes := #[]
  resolved := Array.replicate 11 none
  statics := none }

def pool3 : Array CpInfo := pool [(1, .class_ 2), (0, u "java/lang/Comparable"), (0, .class_ 4), (0, u "java/lang/Object")] 7

/-- java/lang/Comparable -/
def k3 : Class := { plain "java/lang/Comparable" (some 0) with
  accessFlags := 1537
  interfaces := #[]
  cf := some (fileOf pool3 1 #[] #[] 1537 3 #[] #[])
  fields := #[]
  methods := #[]
  instanceTypes := #[]
  staticTypes := #[]
  resolved := Array.replicate 12 none
  statics := none }

def pool4 : Array CpInfo := pool [(1, .class_ 2), (0, u "java/io/Serializable"), (0, .class_ 4), (0, u "java/lang/Object")] 2

/-- java/io/Serializable -/
def k4 : Class := { plain "java/io/Serializable" (some 0) with
  accessFlags := 1537
  interfaces := #[]
  cf := some (fileOf pool4 1 #[] #[] 1537 3 #[] #[])
  fields := #[]
  methods := #[]
  instanceTypes := #[]
  staticTypes := #[]
  resolved := Array.replicate 7 none
  statics := none }

def pool5 : Array CpInfo := pool [(2, .class_ 4), (1, u "java/lang/Enum"), (0, u "name"), (0, u "Ljava/lang/String;"), (0, .fieldref 2 8), (0, .nameAndType 9 10), (0, u "ordinal"), (0, u "I"), (1, .class_ 14), (1, u "java/lang/Object"), (4, u "hash"), (86, .class_ 108), (1, u "java/lang/Enum$EnumDesc"), (2, .class_ 112), (0, u "java/lang/constant/Constable"), (0, .class_ 114), (0, u "java/lang/Comparable"), (0, .class_ 116), (0, u "java/io/Serializable"), (9, u "()I")] 77

def k5c0 : Code := { maxStack := 1, maxLocals := 1, code := jdk_37_method_2_code, exceptionTable := #[], attributes := #[] }
def k5m0 : Method := { name := "ordinal", desc := "()I", sig := { parameters := [], returnType := some .int }, accessFlags := 17, code := some k5c0 }
/-- java/lang/Enum -/
def k5 : Class := { plain "java/lang/Enum" (some 0) with
  accessFlags := 1057
  interfaces := #[2, 3, 4]
  cf := some (fileOf pool5 2 #[.nestMembers #[106]] #[{ accessFlags := 17, nameIndex := 9, descriptorIndex := 126, attributes := #[] }] 1057 12 #[111, 113, 115] #[{ accessFlags := 18, nameIndex := 5, descriptorIndex := 6, attributes := #[] }, { accessFlags := 18, nameIndex := 9, descriptorIndex := 10, attributes := #[] }, { accessFlags := 2, nameIndex := 19, descriptorIndex := 10, attributes := #[] }])
  fields := #[{ name := "name", type := (.object "java/lang/String"), accessFlags := 18, slot := 0, constantValue := 0 }, { name := "ordinal", type := .int, accessFlags := 18, slot := 1, constantValue := 0 }, { name := "hash", type := .int, accessFlags := 2, slot := 2, constantValue := 0 }]
  methods := #[k5m0]
  instanceTypes := #[(.object "java/lang/String"), .int, .int]
  staticTypes := #[]
  resolved := Array.replicate 204 none
  statics := none }

def pool6 : Array CpInfo := pool [(1, .class_ 2), (0, u "com/example/restate/restate/model/MeaningWord"), (0, .class_ 4), (0, u "java/lang/Object")] 13

/-- com/example/restate/restate/model/MeaningWord -/
def k6 : Class := { plain "com/example/restate/restate/model/MeaningWord" (some 0) with
  accessFlags := 1537
  interfaces := #[]
  cf := some (fileOf pool6 1 #[] #[] 1537 3 #[] #[])
  fields := #[]
  methods := #[]
  instanceTypes := #[]
  staticTypes := #[]
  resolved := Array.replicate 18 none
  statics := none }

def pool7 : Array CpInfo := pool [(1, .class_ 2), (0, u "com/example/restate/restate/model/CovenantRow$Test"), (0, .fieldref 1 4), (0, .nameAndType 5 6), (0, u "AT_MOST"), (0, u "Lcom/example/restate/restate/model/CovenantRow$Test;"), (0, .fieldref 1 8), (0, .nameAndType 9 6), (0, u "AT_LEAST"), (0, .fieldref 1 11), (0, .nameAndType 12 6), (0, u "GREATER_THAN"), (0, .fieldref 1 14), (0, .nameAndType 15 6), (0, u "LESS_THAN"), (2, u "$VALUES"), (0, u "[Lcom/example/restate/restate/model/CovenantRow$Test;"), (6, .class_ 28), (1, u "java/lang/Enum"), (8, u "word"), (0, u "Ljava/lang/String;"), (8, u "phrases"), (0, u "Ljava/util/List;"), (0, .methodref 1 50), (0, .nameAndType 51 52), (0, u "ordinal"), (0, u "()I"), (8, u "()Lcom/example/restate/restate/model/CovenantRow$Test;"), (2, u "turned"), (39, .class_ 105), (0, u "com/example/restate/restate/model/MeaningWord"), (12, u "holds"), (0, u "(I)Z"), (7, .class_ 128), (0, u "com/example/restate/restate/model/CovenantRow")] 2

def k7c0 : Code := { maxStack := 4, maxLocals := 1, code := prog_25_method_6_code, exceptionTable := #[], attributes := #[] }
def k7m0 : Method := { name := "turned", desc := "()Lcom/example/restate/restate/model/CovenantRow$Test;", sig := { parameters := [], returnType := some (.object "com/example/restate/restate/model/CovenantRow$Test") }, accessFlags := 1, code := some k7c0 }
def k7c1 : Code := { maxStack := 4, maxLocals := 2, code := prog_25_method_8_code, exceptionTable := #[], attributes := #[] }
def k7m1 : Method := { name := "holds", desc := "(I)Z", sig := { parameters := [.int], returnType := some .boolean }, accessFlags := 1, code := some k7c1 }
/-- com/example/restate/restate/model/CovenantRow$Test -/
def k7 : Class := { plain "com/example/restate/restate/model/CovenantRow$Test" (some 5) with
  accessFlags := 16433
  interfaces := #[6]
  cf := some (fileOf pool7 1 #[.nestHost 127] #[{ accessFlags := 1, nameIndex := 64, descriptorIndex := 61, attributes := #[] }, { accessFlags := 1, nameIndex := 118, descriptorIndex := 119, attributes := #[] }] 16433 26 #[104] #[{ accessFlags := 16409, nameIndex := 5, descriptorIndex := 6, attributes := #[] }, { accessFlags := 16409, nameIndex := 9, descriptorIndex := 6, attributes := #[] }, { accessFlags := 16409, nameIndex := 12, descriptorIndex := 6, attributes := #[] }, { accessFlags := 16409, nameIndex := 15, descriptorIndex := 6, attributes := #[] }, { accessFlags := 18, nameIndex := 37, descriptorIndex := 38, attributes := #[] }, { accessFlags := 18, nameIndex := 47, descriptorIndex := 48, attributes := #[] }, { accessFlags := 4122, nameIndex := 18, descriptorIndex := 19, attributes := #[] }])
  fields := #[{ name := "AT_MOST", type := (.object "com/example/restate/restate/model/CovenantRow$Test"), accessFlags := 16409, slot := 0, constantValue := 0 }, { name := "AT_LEAST", type := (.object "com/example/restate/restate/model/CovenantRow$Test"), accessFlags := 16409, slot := 1, constantValue := 0 }, { name := "GREATER_THAN", type := (.object "com/example/restate/restate/model/CovenantRow$Test"), accessFlags := 16409, slot := 2, constantValue := 0 }, { name := "LESS_THAN", type := (.object "com/example/restate/restate/model/CovenantRow$Test"), accessFlags := 16409, slot := 3, constantValue := 0 }, { name := "word", type := (.object "java/lang/String"), accessFlags := 18, slot := 3, constantValue := 0 }, { name := "phrases", type := (.object "java/util/List"), accessFlags := 18, slot := 4, constantValue := 0 }, { name := "$VALUES", type := (.array (.object "com/example/restate/restate/model/CovenantRow$Test")), accessFlags := 4122, slot := 4, constantValue := 0 }]
  methods := #[k7m0, k7m1]
  instanceTypes := #[(.object "java/lang/String"), .int, .int, (.object "java/lang/String"), (.object "java/util/List")]
  staticTypes := #[(.object "com/example/restate/restate/model/CovenantRow$Test"), (.object "com/example/restate/restate/model/CovenantRow$Test"), (.object "com/example/restate/restate/model/CovenantRow$Test"), (.object "com/example/restate/restate/model/CovenantRow$Test"), (.array (.object "com/example/restate/restate/model/CovenantRow$Test"))]
  resolved := Array.replicate 131 none
  statics := some 0 }

def pool8 : Array CpInfo := pool [(1, u "java/lang/Cloneable"), (0, .class_ 1), (0, u "java/lang/Object"), (0, .class_ 3)] 3

/-- java/lang/Cloneable -/
def k8 : Class := { plain "java/lang/Cloneable" (some 0) with
  accessFlags := 1537
  interfaces := #[]
  cf := some (fileOf pool8 2 #[] #[] 1537 4 #[] #[])
  fields := #[]
  methods := #[]
  instanceTypes := #[]
  staticTypes := #[]
  resolved := Array.replicate 8 none
  statics := none }

/-- the primitive byte -/
def k9 : Class := { plain "byte" none with kind := .primitive 'B', accessFlags := 0x411 }
/-- [B -/
def k10 : Class := { plain "[B" (some 0) with kind := .array 9 .byte, interfaces := #[8, 4], accessFlags := 1041 }

/-- the primitive int -/
def k11 : Class := { plain "int" none with kind := .primitive 'I', accessFlags := 0x411 }
/-- [I -/
def k12 : Class := { plain "[I" (some 0) with kind := .array 11 .int, interfaces := #[8, 4], accessFlags := 1041 }

def heap : Heap := #[{ cls := 7, slots := #[.ref 1, .ref 2, .ref 3, .ref 4, .null], vm := .statics 7 },
  { cls := 7, slots := #[.null, .int 0, .int 0, .null, .null], vm := .none },
  { cls := 7, slots := #[.null, .int 1, .int 0, .null, .null], vm := .none },
  { cls := 7, slots := #[.null, .int 2, .int 0, .null, .null], vm := .none },
  { cls := 7, slots := #[.null, .int 3, .int 0, .null, .null], vm := .none }]
def classes : Array Class := #[k0, k1, k2, k3, k4, k5, k6, k7, k8, k9, k10, k11, k12]
def interned : List (Array UInt16 × Addr) := []
def slotsUsed : Nat := 25
def theMethod : MethodId := ⟨1, 2⟩
def args0 : Array Value := #[.int 2, .int 5]
def aboutOver (below : List Frame) : State where
  vm := { classes := classes, interned := interned.toArray }
  heap := heap
  slotsUsed := slotsUsed
  threads := #[{ frames := .invoking theMethod args0 :: below }]
def below0 : List Frame := [.native { method := ⟨0, 0⟩, args := #[] }]
def about1 : State := aboutOver below0
def p0 : Program := .bare "" "" ""
def e0 : Env := launch0.env 0 0 0
theorem w_frames : about1.frames = Frame.invoking theMethod args0 :: below0 := rfl
set_option maxRecDepth 65536 in
theorem w_args : argsFit about1.vm theMethod args0 = true := by decide +kernel
set_option maxRecDepth 65536 in
theorem w_heap : heapFits about1 = true := by decide +kernel
set_option maxRecDepth 65536 in
theorem w_runnable : about1.curStatus? = some .runnable := by decide +kernel
set_option maxRecDepth 65536 in
theorem w_alone : about1.alone = true := by decide +kernel
set_option maxRecDepth 65536 in
theorem w_named : about1.methodNamed? x = some theMethod := by decide +kernel
set_option maxRecDepth 65536 in
theorem w_hears : about1.hears theMethod below0 = true := by decide +kernel
set_option maxRecDepth 65536 in
theorem w_ripe : about1.ripe theMethod args0 below0 = true := by decide +kernel
theorem w_running : about1.status = .running := rfl
set_option maxRecDepth 65536 in
theorem w_room : about1.hasRoom e0.platform room_1 = true :=
  launch0.hasRoom_least _ room_1 (by decide +kernel) (by decide +kernel) (by decide +kernel) (by decide +kernel) (by decide +kernel) (by decide +kernel)
theorem allAtoms_all (ts : List Jvm.Cond) (a : Array Jvm.Value) (st : Jvm.State) : (allAtoms ts).before a st = ts.all (fun c => c.before a st) := by
  induction ts with
  | nil => rfl
  | cons c t ih =>
    show (Jvm.Cond.and c (allAtoms t)).before a st = _
    rw [Jvm.Cond.before_and, ih, List.all_cons]
def words1 : List Jvm.Cond := Jvm.Cond.code x code maxLocals ret :: tables_1
/-- a 'code' word, met by the world's own term for the bytes: nothing is compared byte by byte -/
theorem code_word {y : MethodName} {bytes : ByteArray} {mx : Nat} {rt : Option FieldType} {a : Array Value} {s : State} {m : MethodId} {meth : Method} {c : Code} (h1 : s.methodNamed? y = some m) (h2 : s.vm.method? m = some meth) (h3 : meth.code = some c) (h4 : c.code = bytes)
    (h5 : (c.maxLocals == mx && c.exceptionTable.isEmpty && decide (c.maxStack ≤ mostOperands) && decide (meth.sig.returnType = rt) && !meth.locks && decide (parseMethodDescriptor y.desc = some meth.sig)) = true) : (Jvm.Cond.code y bytes mx rt).before a s = true := by
  simp only [Bool.and_eq_true, beq_iff_eq, Bool.not_eq_true', decide_eq_true_eq] at h5
  obtain ⟨⟨⟨⟨⟨g1, g2⟩, g3⟩, g4⟩, g5⟩, g6⟩ := h5
  simp [Cond.before, Cond.holds, Cond.value, h1, h2, h3, h4, g1, g2, g3, g4, g5, g6]
def isCode : Jvm.Cond → Bool
  | .code _ _ _ _ => true
  | _ => false
theorem all_split {L : List Jvm.Cond} {P : Jvm.Cond → Bool} (h1 : L.all (fun c => isCode c || P c) = true) (h2 : ∀ c ∈ L.filter isCode, P c = true) : L.all P = true := by
  refine List.all_eq_true.mpr fun c hc => ?_
  have h := List.all_eq_true.mp h1 c hc
  rcases Bool.eq_false_or_eq_true (isCode c) with hi | hi
  · exact h2 c (List.mem_filter.mpr ⟨hc, hi⟩)
  · simpa [hi] using h
set_option maxRecDepth 65536 in
theorem w_c0 : (Jvm.Cond.code x code maxLocals ret).before args0 about1 = true := code_word (m := ⟨1, 2⟩) (meth := k1m2) (c := k1c2) (by decide +kernel) rfl rfl rfl (by decide +kernel)
set_option maxRecDepth 65536 in
theorem w_c1 : (Jvm.Cond.code ({ cls := "com/example/restate/restate/model/TestTurnedPinLaw", name := "pick", desc := "(I)Lcom/example/restate/restate/model/CovenantRow$Test;" } : Jvm.MethodName) method_2_code (2 : Nat) (Option.some (Jvm.ClassFile.FieldType.object "com/example/restate/restate/model/CovenantRow$Test"))).before args0 about1 = true := code_word (m := ⟨1, 1⟩) (meth := k1m1) (c := k1c1) (by decide +kernel) rfl rfl rfl (by decide +kernel)
set_option maxRecDepth 65536 in
theorem w_c2 : (Jvm.Cond.code ({ cls := "com/example/restate/restate/model/CovenantRow$Test", name := "turned", desc := "()Lcom/example/restate/restate/model/CovenantRow$Test;" } : Jvm.MethodName) prog_25_method_6_code (1 : Nat) (Option.some (Jvm.ClassFile.FieldType.object "com/example/restate/restate/model/CovenantRow$Test"))).before args0 about1 = true := code_word (m := ⟨7, 0⟩) (meth := k7m0) (c := k7c0) (by decide +kernel) rfl rfl rfl (by decide +kernel)
set_option maxRecDepth 65536 in
theorem w_c3 : (Jvm.Cond.code ({ cls := "java/lang/Enum", name := "ordinal", desc := "()I" } : Jvm.MethodName) jdk_37_method_2_code (1 : Nat) (Option.some Jvm.ClassFile.FieldType.int)).before args0 about1 = true := code_word (m := ⟨5, 0⟩) (meth := k5m0) (c := k5c0) (by decide +kernel) rfl rfl rfl (by decide +kernel)
set_option maxRecDepth 65536 in
theorem w_c4 : (Jvm.Cond.code ({ cls := "com/example/restate/restate/model/CovenantRow$Test", name := "holds", desc := "(I)Z" } : Jvm.MethodName) prog_25_method_8_code (2 : Nat) (Option.some Jvm.ClassFile.FieldType.boolean)).before args0 about1 = true := code_word (m := ⟨7, 1⟩) (meth := k7m1) (c := k7c1) (by decide +kernel) rfl rfl rfl (by decide +kernel)
def codes1 : List Jvm.Cond := [Jvm.Cond.code x code maxLocals ret, Jvm.Cond.code ({ cls := "com/example/restate/restate/model/TestTurnedPinLaw", name := "pick", desc := "(I)Lcom/example/restate/restate/model/CovenantRow$Test;" } : Jvm.MethodName) method_2_code (2 : Nat) (Option.some (Jvm.ClassFile.FieldType.object "com/example/restate/restate/model/CovenantRow$Test")), Jvm.Cond.code ({ cls := "com/example/restate/restate/model/CovenantRow$Test", name := "turned", desc := "()Lcom/example/restate/restate/model/CovenantRow$Test;" } : Jvm.MethodName) prog_25_method_6_code (1 : Nat) (Option.some (Jvm.ClassFile.FieldType.object "com/example/restate/restate/model/CovenantRow$Test")), Jvm.Cond.code ({ cls := "java/lang/Enum", name := "ordinal", desc := "()I" } : Jvm.MethodName) jdk_37_method_2_code (1 : Nat) (Option.some Jvm.ClassFile.FieldType.int), Jvm.Cond.code ({ cls := "com/example/restate/restate/model/CovenantRow$Test", name := "holds", desc := "(I)Z" } : Jvm.MethodName) prog_25_method_8_code (2 : Nat) (Option.some Jvm.ClassFile.FieldType.boolean)]
set_option maxRecDepth 65536 in
theorem codes_eq : words1.filter isCode = codes1 := rfl
theorem w_codes : ∀ c ∈ words1.filter isCode, c.before args0 about1 = true := by
  rw [codes_eq]
  intro c hc
  simp only [codes1, List.mem_cons, List.not_mem_nil, or_false] at hc
  rcases hc with rfl | rfl | rfl | rfl | rfl
  · exact w_c0
  · exact w_c1
  · exact w_c2
  · exact w_c3
  · exact w_c4
set_option maxRecDepth 65536 in
theorem w_t1 : (words1.take 24).all (fun c => isCode c || c.before args0 about1) = true := by decide +kernel
set_option maxRecDepth 65536 in
theorem w_t2 : (words1.drop 24).all (fun c => isCode c || c.before args0 about1) = true := by decide +kernel
theorem w_tables : (allAtoms (Jvm.Cond.code x code maxLocals ret :: tables_1)).before args0 about1 = true := by
  rw [allAtoms_all]
  show words1.all (fun c => c.before args0 about1) = true
  refine all_split ?_ w_codes
  rw [← List.take_append_drop 24 words1, List.all_append, w_t1, w_t2]
  rfl
set_option maxRecDepth 65536 in
theorem w_case : (Jvm.Cond.and given_1 narrow_1).before args0 about1 = true := by decide +kernel
theorem w_applies : (headSpec (Jvm.Cond.code x code maxLocals ret :: tables_1) room_1).applies x e0.platform about1 = true :=
  (Spec.applies_iff w_frames).mpr ⟨w_running, w_runnable, w_alone, w_named, w_hears, w_ripe, w_room, w_tables⟩
theorem atStart : AtStart classFile x code maxLocals ret World_1 tables_1 room_1 Calls_1 rest_1 Pre_1 launch0 p0 e0 about1 theMethod args0 below0 :=
  ⟨lists_1, trivial, launch0.admits_env _ _ _, launch0.least_env, fairChoices_fair.cas, fairChoices_fair.clock, w_frames, w_args, w_heap, w_applies, trivial, trivial, w_case⟩
end start1
theorem witness_1 : WitnessClaimed_1 := ⟨start1.p0, start1.e0, start1.about1, start1.theMethod, start1.args0, start1.below0, start1.atStart⟩
end Jvm.Pilot.@@N@@
