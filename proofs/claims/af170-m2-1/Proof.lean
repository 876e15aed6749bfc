import JvmDerived
import JvmDerived.Pilot.@@N@@Statement
import JvmDerived.Pilot.@@N@@Code
set_option linter.unusedVariables false
set_option linter.unusedSimpArgs false
@@BLOCK:NumsL.lean.txt@@
namespace Jvm.Pilot.@@N@@
open Jvm Jvm.ClassFile Sem Op Lib Jvm.Free Jvm.Stand Jvm.LawKit Jvm.RoadKit Bundle Jvm.Pilot.@@N@@.Jvm.D
section Own
variable {p : Program} {l : Launch} {e : Env} {R : Room} {s : State} {m : MethodId} {args : Array Value} {below : List Frame} {meth : Method} {c : Code} {T : State} {locs : List Loc} {cells slots : Nat} {Q : Option Value → Heap → List Loc → Prop} {kc ks : Nat} {G : State → Outcome → State → List Loc → Nat → Nat → Prop}
/-- the run from U returns; Q says of what it returned, of the heap and of the places written; kc, ks: how much it may have made -/
def own_Ends (p : Program) (e : Env) (below : List Frame) (s : State) (G : State → Outcome → State → List Loc → Nat → Nat → Prop) (Q : Option Value → Heap → List Loc → Prop) (kc ks : Nat) (U : State) : Prop :=
  ∃ s₂ o, Steps p.tables e below U s₂ ∧ s₂.status = .running ∧ Ended s₂ below o ∧ ∃ v L, o = .returned v ∧ Q v s₂.heap L ∧ G s o s₂ L kc ks
theorem own_of {U U' : State} (h : ∀ t, Steps p.tables e below U' t → Steps p.tables e below U t) (k : own_Ends p e below s G Q kc ks U') : own_Ends p e below s G Q kc ks U := by
  obtain ⟨s₂, o, h1, r⟩ := k
  exact ⟨s₂, o, h _ h1, r⟩
theorem own_eq {U U' : State} (h : U = U') (k : own_Ends p e below s G Q kc ks U') : own_Ends p e below s G Q kc ks U := h ▸ k
theorem own_retN (X : Stand p l e R s m args below meth c T locs cells slots) (hx : p.tables.exec = Jvm.exec) (hlk : meth.locks = false) {pc : Nat} {Ls : Array Slot} {z : Int32} {t : FieldType} {rest : List Value} (hret : meth.sig.returnType = some t) (ht : t = .boolean ∨ t = .byte ∨ t = .char ∨ t = .short)
    (hd : decode c.code pc = .ok (.ireturn, 1)) (hc : cells ≤ kc) (hs : slots ≤ ks) (hq : Q (some (.int (nar t z))) T.heap locs) : own_Ends p e below s FrameEnd Q kc ks (T.setTop (mkF m pc Ls (.int z :: rest))) := by
  obtain ⟨fs, hr, hrun, hended, hW, hsame⟩ := X.leave (v := some (.int (nar t z))) (fun h => by rw [hret] at h; cases h) hlk
  exact ⟨_, _, retN X hx hret ht hd hr, hrun, hended, _, _, rfl, hq, ⟨_, rfl⟩, hW, hsame.mono hc hs⟩
theorem own_retI (X : Stand p l e R s m args below meth c T locs cells slots) (hx : p.tables.exec = Jvm.exec) (hlk : meth.locks = false) {pc : Nat} {Ls : Array Slot} {z : Int32} {rest : List Value} (hret : meth.sig.returnType = some .int)
    (hd : decode c.code pc = .ok (.ireturn, 1)) (hc : cells ≤ kc) (hs : slots ≤ ks) (hq : Q (some (.int z)) T.heap locs) : own_Ends p e below s FrameEnd Q kc ks (T.setTop (mkF m pc Ls (.int z :: rest))) := by
  obtain ⟨fs, hr, hrun, hended, hW, hsame⟩ := X.leave (v := some (.int z)) (fun h => by rw [hret] at h; cases h) hlk
  exact ⟨_, _, retOut X hx hret rfl (Or.inl ⟨rfl, Or.inl rfl, _, rfl⟩) hd hr, hrun, hended, _, _, rfl, hq, ⟨_, rfl⟩, hW, hsame.mono hc hs⟩
theorem own_retL (X : Stand p l e R s m args below meth c T locs cells slots) (hx : p.tables.exec = Jvm.exec) (hlk : meth.locks = false) {pc : Nat} {Ls : Array Slot} {z : Int64} {rest : List Value} (hret : meth.sig.returnType = some .long)
    (hd : decode c.code pc = .ok (.lreturn, 1)) (hc : cells ≤ kc) (hs : slots ≤ ks) (hq : Q (some (.long z)) T.heap locs) : own_Ends p e below s FrameEnd Q kc ks (T.setTop (mkF m pc Ls (.long z :: rest))) := by
  obtain ⟨fs, hr, hrun, hended, hW, hsame⟩ := X.leave (v := some (.long z)) (fun h => by rw [hret] at h; cases h) hlk
  exact ⟨_, _, retOut X hx hret rfl (Or.inr (Or.inl ⟨rfl, rfl, _, rfl⟩)) hd hr, hrun, hended, _, _, rfl, hq, ⟨_, rfl⟩, hW, hsame.mono hc hs⟩
theorem own_retA (X : Stand p l e R s m args below meth c T locs cells slots) (hx : p.tables.exec = Jvm.exec) (hlk : meth.locks = false) {pc : Nat} {Ls : Array Slot} {w : Value} {t : FieldType} {rest : List Value} (hret : meth.sig.returnType = some t) (ht : t.isReference = true) (hw : w.isRef = true)
    (hd : decode c.code pc = .ok (.areturn, 1)) (hc : cells ≤ kc) (hs : slots ≤ ks) (hq : Q (some w) T.heap locs) : own_Ends p e below s FrameEnd Q kc ks (T.setTop (mkF m pc Ls (w :: rest))) := by
  obtain ⟨fs, hr, hrun, hended, hW, hsame⟩ := X.leave (v := some w) (fun h => by rw [hret] at h; cases h) hlk
  have hn : narrow t w = w := by cases t <;> first | (cases ht; done) | rfl | (cases w <;> rfl)
  exact ⟨_, _, retOut X hx hret hn (Or.inr (Or.inr (Or.inr (Or.inr ⟨rfl, ht, hw⟩)))) hd hr, hrun, hended, _, _, rfl, hq, ⟨_, rfl⟩, hW, hsame.mono hc hs⟩
theorem own_ret0 (X : Stand p l e R s m args below meth c T locs cells slots) (hx : p.tables.exec = Jvm.exec) (hlk : meth.locks = false) {pc : Nat} {Ls : Array Slot} (hret : meth.sig.returnType = none)
    (hd : decode c.code pc = .ok (.return_, 1)) (hc : cells ≤ kc) (hs : slots ≤ ks) (hq : Q none T.heap locs) : own_Ends p e below s FrameEnd Q kc ks (T.setTop (mkF m pc Ls [])) := by
  obtain ⟨fs, hr, hrun, hended, hW, hsame⟩ := X.leave (v := none) (fun _ => rfl) hlk
  exact ⟨_, _, X.returnOut hx hret hd hr, hrun, hended, _, _, rfl, hq, ⟨_, rfl⟩, hW, hsame.mono hc hs⟩
variable {vm₁ : Vm} {nS : Nat}
theorem own_monoW {t : State} {o : Outcome} {L : List Loc} {k n k' n' : Nat} (h : ReturnedEndW s o t L k n) (hk : k ≤ k') (hn : n ≤ n') : ReturnedEndW s o t L k' n' := ⟨h.1, h.2.1, h.2.2.1, h.2.2.2.mono hk hn⟩
theorem own_retNW (X : Stand p l e R (s.setVm vm₁) m args below meth c T locs cells slots) (hx : p.tables.exec = Jvm.exec) (hlk : meth.locks = false) (hS : s.Since vm₁ nS) (hk : nS ≤ T.heap.size) {pc : Nat} {Ls : Array Slot} {z : Int32} {t : FieldType} {rest : List Value} (hret : meth.sig.returnType = some t) (ht : t = .boolean ∨ t = .byte ∨ t = .char ∨ t = .short)
    (hd : decode c.code pc = .ok (.ireturn, 1)) (hc : cells ≤ kc) (hs : slots ≤ ks) (hq : Q (some (.int (nar t z))) T.heap locs) : own_Ends p e below s ReturnedEndW Q kc ks (T.setTop (mkF m pc Ls (.int z :: rest))) := by
  obtain ⟨fs, hr, hrun, hended, hW⟩ := X.leaveW hS hk (v := some (.int (nar t z))) (fun h => by rw [hret] at h; cases h) hlk
  exact ⟨_, _, retN X hx hret ht hd hr, hrun, hended, _, _, rfl, hq, own_monoW hW hc hs⟩
theorem own_retIW (X : Stand p l e R (s.setVm vm₁) m args below meth c T locs cells slots) (hx : p.tables.exec = Jvm.exec) (hlk : meth.locks = false) (hS : s.Since vm₁ nS) (hk : nS ≤ T.heap.size) {pc : Nat} {Ls : Array Slot} {z : Int32} {rest : List Value} (hret : meth.sig.returnType = some .int)
    (hd : decode c.code pc = .ok (.ireturn, 1)) (hc : cells ≤ kc) (hs : slots ≤ ks) (hq : Q (some (.int z)) T.heap locs) : own_Ends p e below s ReturnedEndW Q kc ks (T.setTop (mkF m pc Ls (.int z :: rest))) := by
  obtain ⟨fs, hr, hrun, hended, hW⟩ := X.leaveW hS hk (v := some (.int z)) (fun h => by rw [hret] at h; cases h) hlk
  exact ⟨_, _, retOut X hx hret rfl (Or.inl ⟨rfl, Or.inl rfl, _, rfl⟩) hd hr, hrun, hended, _, _, rfl, hq, own_monoW hW hc hs⟩
theorem own_retAW (X : Stand p l e R (s.setVm vm₁) m args below meth c T locs cells slots) (hx : p.tables.exec = Jvm.exec) (hlk : meth.locks = false) (hS : s.Since vm₁ nS) (hk : nS ≤ T.heap.size) {pc : Nat} {Ls : Array Slot} {w : Value} {t : FieldType} {rest : List Value} (hret : meth.sig.returnType = some t) (ht : t.isReference = true) (hw : w.isRef = true)
    (hd : decode c.code pc = .ok (.areturn, 1)) (hc : cells ≤ kc) (hs : slots ≤ ks) (hq : Q (some w) T.heap locs) : own_Ends p e below s ReturnedEndW Q kc ks (T.setTop (mkF m pc Ls (w :: rest))) := by
  obtain ⟨fs, hr, hrun, hended, hW⟩ := X.leaveW hS hk (v := some w) (fun h => by rw [hret] at h; cases h) hlk
  have hn : narrow t w = w := by cases t <;> first | (cases ht; done) | rfl | (cases w <;> rfl)
  exact ⟨_, _, retOut X hx hret hn (Or.inr (Or.inr (Or.inr (Or.inr ⟨rfl, ht, hw⟩)))) hd hr, hrun, hended, _, _, rfl, hq, own_monoW hW hc hs⟩
theorem own_ret0W (X : Stand p l e R (s.setVm vm₁) m args below meth c T locs cells slots) (hx : p.tables.exec = Jvm.exec) (hlk : meth.locks = false) (hS : s.Since vm₁ nS) (hk : nS ≤ T.heap.size) {pc : Nat} {Ls : Array Slot} (hret : meth.sig.returnType = none)
    (hd : decode c.code pc = .ok (.return_, 1)) (hc : cells ≤ kc) (hs : slots ≤ ks) (hq : Q none T.heap locs) : own_Ends p e below s ReturnedEndW Q kc ks (T.setTop (mkF m pc Ls [])) := by
  obtain ⟨fs, hr, hrun, hended, hW⟩ := X.leaveW hS hk (v := none) (fun _ => rfl) hlk
  exact ⟨_, _, X.returnOut hx hret hd hr, hrun, hended, _, _, rfl, hq, own_monoW hW hc hs⟩
end Own
theorem own_b1 : nar .boolean (1 : Int32) = 1 := rfl
theorem own_b0 : nar .boolean (0 : Int32) = 0 := rfl
section Own2
variable {p : Program} {l : Launch} {e : Env} {R : Room} {s sS : State} {m : MethodId} {args : Array Value} {below : List Frame} {meth : Method} {c : Code} {T : State} {locs : List Loc} {cells slots : Nat} {Q : Option Value → Heap → List Loc → Prop} {kc ks : Nat} {G : State → Outcome → State → List Loc → Nat → Nat → Prop}
theorem own_iloadN (X : Stand p l e R sS m args below meth c T locs cells slots) (hx : p.tables.exec = Jvm.exec) {code : ByteArray} (hby : c.code = code) {pc : Nat} {Ls : Array Slot} {St : List Value} {k : Fin 4} {v : Int32} (hd : decode code pc = .ok (.iload_n k, 1)) (hl : Ls[k.val]? = some (.val (.int v))) (k : own_Ends p e below s G Q kc ks (T.setTop (mkF m (pc + 1) Ls (.int v :: St)))) : own_Ends p e below s G Q kc ks (T.setTop (mkF m pc Ls (St))) := own_of (fun _ q => XS.iloadN X.here hx rfl (hb hby hd) hl q) k
theorem own_iload (X : Stand p l e R sS m args below meth c T locs cells slots) (hx : p.tables.exec = Jvm.exec) {code : ByteArray} (hby : c.code = code) {pc : Nat} {Ls : Array Slot} {St : List Value} {k : Nat} {v : Int32} (hd : decode code pc = .ok (.iload k, 2)) (hl : Ls[k]? = some (.val (.int v))) (k : own_Ends p e below s G Q kc ks (T.setTop (mkF m (pc + 2) Ls (.int v :: St)))) : own_Ends p e below s G Q kc ks (T.setTop (mkF m pc Ls (St))) := own_of (fun _ q => XS.iload X.here hx rfl (hb hby hd) hl q) k
theorem own_lloadN (X : Stand p l e R sS m args below meth c T locs cells slots) (hx : p.tables.exec = Jvm.exec) {code : ByteArray} (hby : c.code = code) {pc : Nat} {Ls : Array Slot} {St : List Value} {k : Fin 4} {v : Int64} (hd : decode code pc = .ok (.lload_n k, 1)) (hl : Ls[k.val]? = some (.val (.long v))) (k : own_Ends p e below s G Q kc ks (T.setTop (mkF m (pc + 1) Ls (.long v :: St)))) : own_Ends p e below s G Q kc ks (T.setTop (mkF m pc Ls (St))) := own_of (fun _ q => XT.lloadN X.here hx rfl (hb hby hd) hl q) k
theorem own_lload (X : Stand p l e R sS m args below meth c T locs cells slots) (hx : p.tables.exec = Jvm.exec) {code : ByteArray} (hby : c.code = code) {pc : Nat} {Ls : Array Slot} {St : List Value} {k : Nat} {v : Int64} (hd : decode code pc = .ok (.lload k, 2)) (hl : Ls[k]? = some (.val (.long v))) (k : own_Ends p e below s G Q kc ks (T.setTop (mkF m (pc + 2) Ls (.long v :: St)))) : own_Ends p e below s G Q kc ks (T.setTop (mkF m pc Ls (St))) := own_of (fun _ q => XT.lload X.here hx rfl (hb hby hd) hl q) k
theorem own_dloadN (X : Stand p l e R sS m args below meth c T locs cells slots) (hx : p.tables.exec = Jvm.exec) {code : ByteArray} (hby : c.code = code) {pc : Nat} {Ls : Array Slot} {St : List Value} {k : Fin 4} {v : UInt64} (hd : decode code pc = .ok (.dload_n k, 1)) (hl : Ls[k.val]? = some (.val (.double v))) (k : own_Ends p e below s G Q kc ks (T.setTop (mkF m (pc + 1) Ls (.double v :: St)))) : own_Ends p e below s G Q kc ks (T.setTop (mkF m pc Ls (St))) := own_of (fun _ q => XS.dloadN X.here hx rfl (hb hby hd) hl q) k
theorem own_dload (X : Stand p l e R sS m args below meth c T locs cells slots) (hx : p.tables.exec = Jvm.exec) {code : ByteArray} (hby : c.code = code) {pc : Nat} {Ls : Array Slot} {St : List Value} {k : Nat} {v : UInt64} (hd : decode code pc = .ok (.dload k, 2)) (hl : Ls[k]? = some (.val (.double v))) (k : own_Ends p e below s G Q kc ks (T.setTop (mkF m (pc + 2) Ls (.double v :: St)))) : own_Ends p e below s G Q kc ks (T.setTop (mkF m pc Ls (St))) := own_of (fun _ q => XS.dload X.here hx rfl (hb hby hd) hl q) k
theorem own_aloadN (X : Stand p l e R sS m args below meth c T locs cells slots) (hx : p.tables.exec = Jvm.exec) {code : ByteArray} (hby : c.code = code) {pc : Nat} {Ls : Array Slot} {St : List Value} {k : Fin 4} {v : Value} (hd : decode code pc = .ok (.aload_n k, 1)) (hl : Ls[k.val]? = some (.val v)) (hv : v.isRef = true) (k : own_Ends p e below s G Q kc ks (T.setTop (mkF m (pc + 1) Ls (v :: St)))) : own_Ends p e below s G Q kc ks (T.setTop (mkF m pc Ls (St))) := own_of (fun _ q => XS.aloadN X.here hx rfl (hb hby hd) hl hv q) k
theorem own_aload (X : Stand p l e R sS m args below meth c T locs cells slots) (hx : p.tables.exec = Jvm.exec) {code : ByteArray} (hby : c.code = code) {pc : Nat} {Ls : Array Slot} {St : List Value} {k : Nat} {v : Value} (hd : decode code pc = .ok (.aload k, 2)) (hl : Ls[k]? = some (.val v)) (hv : v.isRef = true) (k : own_Ends p e below s G Q kc ks (T.setTop (mkF m (pc + 2) Ls (v :: St)))) : own_Ends p e below s G Q kc ks (T.setTop (mkF m pc Ls (St))) := own_of (fun _ q => XS.aload X.here hx rfl (hb hby hd) hl hv q) k
theorem own_istoreN (X : Stand p l e R sS m args below meth c T locs cells slots) (hx : p.tables.exec = Jvm.exec) {code : ByteArray} (hby : c.code = code) {pc : Nat} {Ls : Array Slot} {St : List Value} {k : Fin 4} {x : Int32} {l' : Array Slot} (hd : decode code pc = .ok (.istore_n k, 1)) (hl : storeLocals Ls k.val (.int x) = some l') (k : own_Ends p e below s G Q kc ks (T.setTop (mkF m (pc + 1) l' (St)))) : own_Ends p e below s G Q kc ks (T.setTop (mkF m pc Ls (.int x :: St))) := own_of (fun _ q => XS.istoreN X.here hx rfl (hb hby hd) rfl hl q) k
theorem own_istore (X : Stand p l e R sS m args below meth c T locs cells slots) (hx : p.tables.exec = Jvm.exec) {code : ByteArray} (hby : c.code = code) {pc : Nat} {Ls : Array Slot} {St : List Value} {k : Nat} {x : Int32} {l' : Array Slot} (hd : decode code pc = .ok (.istore k, 2)) (hl : storeLocals Ls k (.int x) = some l') (k : own_Ends p e below s G Q kc ks (T.setTop (mkF m (pc + 2) l' (St)))) : own_Ends p e below s G Q kc ks (T.setTop (mkF m pc Ls (.int x :: St))) := own_of (fun _ q => XS.istore X.here hx rfl (hb hby hd) rfl hl q) k
theorem own_lstoreN (X : Stand p l e R sS m args below meth c T locs cells slots) (hx : p.tables.exec = Jvm.exec) {code : ByteArray} (hby : c.code = code) {pc : Nat} {Ls : Array Slot} {St : List Value} {k : Fin 4} {x : Int64} {l' : Array Slot} (hd : decode code pc = .ok (.lstore_n k, 1)) (hl : storeLocals Ls k.val (.long x) = some l') (k : own_Ends p e below s G Q kc ks (T.setTop (mkF m (pc + 1) l' (St)))) : own_Ends p e below s G Q kc ks (T.setTop (mkF m pc Ls (.long x :: St))) := own_of (fun _ q => XT.lstoreN X.here hx rfl (hb hby hd) rfl hl q) k
theorem own_lstore (X : Stand p l e R sS m args below meth c T locs cells slots) (hx : p.tables.exec = Jvm.exec) {code : ByteArray} (hby : c.code = code) {pc : Nat} {Ls : Array Slot} {St : List Value} {k : Nat} {x : Int64} {l' : Array Slot} (hd : decode code pc = .ok (.lstore k, 2)) (hl : storeLocals Ls k (.long x) = some l') (k : own_Ends p e below s G Q kc ks (T.setTop (mkF m (pc + 2) l' (St)))) : own_Ends p e below s G Q kc ks (T.setTop (mkF m pc Ls (.long x :: St))) := own_of (fun _ q => XT.lstore X.here hx rfl (hb hby hd) rfl hl q) k
theorem own_astoreN (X : Stand p l e R sS m args below meth c T locs cells slots) (hx : p.tables.exec = Jvm.exec) {code : ByteArray} (hby : c.code = code) {pc : Nat} {Ls : Array Slot} {St : List Value} {k : Fin 4} {x : Value} {l' : Array Slot} (hd : decode code pc = .ok (.astore_n k, 1)) (hv : x.isRef = true) (hl : storeLocals Ls k.val x = some l') (k : own_Ends p e below s G Q kc ks (T.setTop (mkF m (pc + 1) l' (St)))) : own_Ends p e below s G Q kc ks (T.setTop (mkF m pc Ls (x :: St))) := own_of (fun _ q => XS.astoreN X.here hx rfl (hb hby hd) rfl hv hl q) k
theorem own_astore (X : Stand p l e R sS m args below meth c T locs cells slots) (hx : p.tables.exec = Jvm.exec) {code : ByteArray} (hby : c.code = code) {pc : Nat} {Ls : Array Slot} {St : List Value} {k : Nat} {x : Value} {l' : Array Slot} (hd : decode code pc = .ok (.astore k, 2)) (hv : x.isRef = true) (hl : storeLocals Ls k x = some l') (k : own_Ends p e below s G Q kc ks (T.setTop (mkF m (pc + 2) l' (St)))) : own_Ends p e below s G Q kc ks (T.setTop (mkF m pc Ls (x :: St))) := own_of (fun _ q => XS.astore X.here hx rfl (hb hby hd) rfl hv hl q) k
theorem own_aconstNull (X : Stand p l e R sS m args below meth c T locs cells slots) (hx : p.tables.exec = Jvm.exec) {code : ByteArray} (hby : c.code = code) {pc : Nat} {Ls : Array Slot} {St : List Value}  (hd : decode code pc = .ok (.aconst_null, 1)) (k : own_Ends p e below s G Q kc ks (T.setTop (mkF m (pc + 1) Ls (.null :: St)))) : own_Ends p e below s G Q kc ks (T.setTop (mkF m pc Ls (St))) := own_of (fun _ q => XS.aconstNull X.here hx rfl (hb hby hd) q) k
theorem own_iadd (X : Stand p l e R sS m args below meth c T locs cells slots) (hx : p.tables.exec = Jvm.exec) {code : ByteArray} (hby : c.code = code) {pc : Nat} {Ls : Array Slot} {St : List Value} {x y : Int32} (hd : decode code pc = .ok (.iadd, 1)) (k : own_Ends p e below s G Q kc ks (T.setTop (mkF m (pc + 1) Ls (.int (x + y) :: St)))) : own_Ends p e below s G Q kc ks (T.setTop (mkF m pc Ls (.int y :: .int x :: St))) := own_of (fun _ q => XS.iadd X.here hx rfl (hb hby hd) rfl q) k
theorem own_isub (X : Stand p l e R sS m args below meth c T locs cells slots) (hx : p.tables.exec = Jvm.exec) {code : ByteArray} (hby : c.code = code) {pc : Nat} {Ls : Array Slot} {St : List Value} {x y : Int32} (hd : decode code pc = .ok (.isub, 1)) (k : own_Ends p e below s G Q kc ks (T.setTop (mkF m (pc + 1) Ls (.int (x - y) :: St)))) : own_Ends p e below s G Q kc ks (T.setTop (mkF m pc Ls (.int y :: .int x :: St))) := own_of (fun _ q => XS.isub X.here hx rfl (hb hby hd) rfl q) k
theorem own_imul (X : Stand p l e R sS m args below meth c T locs cells slots) (hx : p.tables.exec = Jvm.exec) {code : ByteArray} (hby : c.code = code) {pc : Nat} {Ls : Array Slot} {St : List Value} {x y : Int32} (hd : decode code pc = .ok (.imul, 1)) (k : own_Ends p e below s G Q kc ks (T.setTop (mkF m (pc + 1) Ls (.int (x * y) :: St)))) : own_Ends p e below s G Q kc ks (T.setTop (mkF m pc Ls (.int y :: .int x :: St))) := own_of (fun _ q => XS.imul X.here hx rfl (hb hby hd) rfl q) k
theorem own_iand (X : Stand p l e R sS m args below meth c T locs cells slots) (hx : p.tables.exec = Jvm.exec) {code : ByteArray} (hby : c.code = code) {pc : Nat} {Ls : Array Slot} {St : List Value} {x y : Int32} (hd : decode code pc = .ok (.iand, 1)) (k : own_Ends p e below s G Q kc ks (T.setTop (mkF m (pc + 1) Ls (.int (x &&& y) :: St)))) : own_Ends p e below s G Q kc ks (T.setTop (mkF m pc Ls (.int y :: .int x :: St))) := own_of (fun _ q => XS.iand X.here hx rfl (hb hby hd) rfl q) k
theorem own_ior (X : Stand p l e R sS m args below meth c T locs cells slots) (hx : p.tables.exec = Jvm.exec) {code : ByteArray} (hby : c.code = code) {pc : Nat} {Ls : Array Slot} {St : List Value} {x y : Int32} (hd : decode code pc = .ok (.ior, 1)) (k : own_Ends p e below s G Q kc ks (T.setTop (mkF m (pc + 1) Ls (.int (x ||| y) :: St)))) : own_Ends p e below s G Q kc ks (T.setTop (mkF m pc Ls (.int y :: .int x :: St))) := own_of (fun _ q => XT.ior X.here hx rfl (hb hby hd) rfl q) k
theorem own_ixor (X : Stand p l e R sS m args below meth c T locs cells slots) (hx : p.tables.exec = Jvm.exec) {code : ByteArray} (hby : c.code = code) {pc : Nat} {Ls : Array Slot} {St : List Value} {x y : Int32} (hd : decode code pc = .ok (.ixor, 1)) (k : own_Ends p e below s G Q kc ks (T.setTop (mkF m (pc + 1) Ls (.int (x ^^^ y) :: St)))) : own_Ends p e below s G Q kc ks (T.setTop (mkF m pc Ls (.int y :: .int x :: St))) := own_of (fun _ q => XT.ixor X.here hx rfl (hb hby hd) rfl q) k
theorem own_ladd (X : Stand p l e R sS m args below meth c T locs cells slots) (hx : p.tables.exec = Jvm.exec) {code : ByteArray} (hby : c.code = code) {pc : Nat} {Ls : Array Slot} {St : List Value} {x y : Int64} (hd : decode code pc = .ok (.ladd, 1)) (k : own_Ends p e below s G Q kc ks (T.setTop (mkF m (pc + 1) Ls (.long (x + y) :: St)))) : own_Ends p e below s G Q kc ks (T.setTop (mkF m pc Ls (.long y :: .long x :: St))) := own_of (fun _ q => XT.ladd X.here hx rfl (hb hby hd) rfl q) k
theorem own_lsub (X : Stand p l e R sS m args below meth c T locs cells slots) (hx : p.tables.exec = Jvm.exec) {code : ByteArray} (hby : c.code = code) {pc : Nat} {Ls : Array Slot} {St : List Value} {x y : Int64} (hd : decode code pc = .ok (.lsub, 1)) (k : own_Ends p e below s G Q kc ks (T.setTop (mkF m (pc + 1) Ls (.long (x - y) :: St)))) : own_Ends p e below s G Q kc ks (T.setTop (mkF m pc Ls (.long y :: .long x :: St))) := own_of (fun _ q => XT.lsub X.here hx rfl (hb hby hd) rfl q) k
theorem own_lmul (X : Stand p l e R sS m args below meth c T locs cells slots) (hx : p.tables.exec = Jvm.exec) {code : ByteArray} (hby : c.code = code) {pc : Nat} {Ls : Array Slot} {St : List Value} {x y : Int64} (hd : decode code pc = .ok (.lmul, 1)) (k : own_Ends p e below s G Q kc ks (T.setTop (mkF m (pc + 1) Ls (.long (x * y) :: St)))) : own_Ends p e below s G Q kc ks (T.setTop (mkF m pc Ls (.long y :: .long x :: St))) := own_of (fun _ q => XT.lmul X.here hx rfl (hb hby hd) rfl q) k
theorem own_land (X : Stand p l e R sS m args below meth c T locs cells slots) (hx : p.tables.exec = Jvm.exec) {code : ByteArray} (hby : c.code = code) {pc : Nat} {Ls : Array Slot} {St : List Value} {x y : Int64} (hd : decode code pc = .ok (.land, 1)) (k : own_Ends p e below s G Q kc ks (T.setTop (mkF m (pc + 1) Ls (.long (x &&& y) :: St)))) : own_Ends p e below s G Q kc ks (T.setTop (mkF m pc Ls (.long y :: .long x :: St))) := own_of (fun _ q => XT.land X.here hx rfl (hb hby hd) rfl q) k
theorem own_lor (X : Stand p l e R sS m args below meth c T locs cells slots) (hx : p.tables.exec = Jvm.exec) {code : ByteArray} (hby : c.code = code) {pc : Nat} {Ls : Array Slot} {St : List Value} {x y : Int64} (hd : decode code pc = .ok (.lor, 1)) (k : own_Ends p e below s G Q kc ks (T.setTop (mkF m (pc + 1) Ls (.long (x ||| y) :: St)))) : own_Ends p e below s G Q kc ks (T.setTop (mkF m pc Ls (.long y :: .long x :: St))) := own_of (fun _ q => XT.lor X.here hx rfl (hb hby hd) rfl q) k
theorem own_lxor (X : Stand p l e R sS m args below meth c T locs cells slots) (hx : p.tables.exec = Jvm.exec) {code : ByteArray} (hby : c.code = code) {pc : Nat} {Ls : Array Slot} {St : List Value} {x y : Int64} (hd : decode code pc = .ok (.lxor, 1)) (k : own_Ends p e below s G Q kc ks (T.setTop (mkF m (pc + 1) Ls (.long (x ^^^ y) :: St)))) : own_Ends p e below s G Q kc ks (T.setTop (mkF m pc Ls (.long y :: .long x :: St))) := own_of (fun _ q => XT.lxor X.here hx rfl (hb hby hd) rfl q) k
theorem own_ishl (X : Stand p l e R sS m args below meth c T locs cells slots) (hx : p.tables.exec = Jvm.exec) {code : ByteArray} (hby : c.code = code) {pc : Nat} {Ls : Array Slot} {St : List Value} {x y : Int32} (hd : decode code pc = .ok (.ishl, 1)) (k : own_Ends p e below s G Q kc ks (T.setTop (mkF m (pc + 1) Ls (.int (x <<< (y &&& 31)) :: St)))) : own_Ends p e below s G Q kc ks (T.setTop (mkF m pc Ls (.int y :: .int x :: St))) := own_of (fun _ q => XT.ishl X.here hx rfl (hb hby hd) rfl q) k
theorem own_ishr (X : Stand p l e R sS m args below meth c T locs cells slots) (hx : p.tables.exec = Jvm.exec) {code : ByteArray} (hby : c.code = code) {pc : Nat} {Ls : Array Slot} {St : List Value} {x y : Int32} (hd : decode code pc = .ok (.ishr, 1)) (k : own_Ends p e below s G Q kc ks (T.setTop (mkF m (pc + 1) Ls (.int (x >>> (y &&& 31)) :: St)))) : own_Ends p e below s G Q kc ks (T.setTop (mkF m pc Ls (.int y :: .int x :: St))) := own_of (fun _ q => XT.ishr X.here hx rfl (hb hby hd) rfl q) k
theorem own_iushr (X : Stand p l e R sS m args below meth c T locs cells slots) (hx : p.tables.exec = Jvm.exec) {code : ByteArray} (hby : c.code = code) {pc : Nat} {Ls : Array Slot} {St : List Value} {x y : Int32} (hd : decode code pc = .ok (.iushr, 1)) (k : own_Ends p e below s G Q kc ks (T.setTop (mkF m (pc + 1) Ls (.int (XT.ushr x y) :: St)))) : own_Ends p e below s G Q kc ks (T.setTop (mkF m pc Ls (.int y :: .int x :: St))) := own_of (fun _ q => XT.iushr X.here hx rfl (hb hby hd) rfl q) k
theorem own_lshl (X : Stand p l e R sS m args below meth c T locs cells slots) (hx : p.tables.exec = Jvm.exec) {code : ByteArray} (hby : c.code = code) {pc : Nat} {Ls : Array Slot} {St : List Value} {x : Int64} {y : Int32} (hd : decode code pc = .ok (.lshl, 1)) (k : own_Ends p e below s G Q kc ks (T.setTop (mkF m (pc + 1) Ls (.long (x <<< (y.toInt64 &&& 63)) :: St)))) : own_Ends p e below s G Q kc ks (T.setTop (mkF m pc Ls (.int y :: .long x :: St))) := own_of (fun _ q => XT.lshl X.here hx rfl (hb hby hd) rfl q) k
theorem own_lshr (X : Stand p l e R sS m args below meth c T locs cells slots) (hx : p.tables.exec = Jvm.exec) {code : ByteArray} (hby : c.code = code) {pc : Nat} {Ls : Array Slot} {St : List Value} {x : Int64} {y : Int32} (hd : decode code pc = .ok (.lshr, 1)) (k : own_Ends p e below s G Q kc ks (T.setTop (mkF m (pc + 1) Ls (.long (x >>> (y.toInt64 &&& 63)) :: St)))) : own_Ends p e below s G Q kc ks (T.setTop (mkF m pc Ls (.int y :: .long x :: St))) := own_of (fun _ q => XT.lshr X.here hx rfl (hb hby hd) rfl q) k
theorem own_lushr (X : Stand p l e R sS m args below meth c T locs cells slots) (hx : p.tables.exec = Jvm.exec) {code : ByteArray} (hby : c.code = code) {pc : Nat} {Ls : Array Slot} {St : List Value} {x : Int64} {y : Int32} (hd : decode code pc = .ok (.lushr, 1)) (k : own_Ends p e below s G Q kc ks (T.setTop (mkF m (pc + 1) Ls (.long (XT.ushrL x y) :: St)))) : own_Ends p e below s G Q kc ks (T.setTop (mkF m pc Ls (.int y :: .long x :: St))) := own_of (fun _ q => XT.lushr X.here hx rfl (hb hby hd) rfl q) k
theorem own_ineg (X : Stand p l e R sS m args below meth c T locs cells slots) (hx : p.tables.exec = Jvm.exec) {code : ByteArray} (hby : c.code = code) {pc : Nat} {Ls : Array Slot} {St : List Value} {x : Int32} (hd : decode code pc = .ok (.ineg, 1)) (k : own_Ends p e below s G Q kc ks (T.setTop (mkF m (pc + 1) Ls (.int (-x) :: St)))) : own_Ends p e below s G Q kc ks (T.setTop (mkF m pc Ls (.int x :: St))) := own_of (fun _ q => XS.ineg X.here hx rfl (hb hby hd) rfl q) k
theorem own_lneg (X : Stand p l e R sS m args below meth c T locs cells slots) (hx : p.tables.exec = Jvm.exec) {code : ByteArray} (hby : c.code = code) {pc : Nat} {Ls : Array Slot} {St : List Value} {x : Int64} (hd : decode code pc = .ok (.lneg, 1)) (k : own_Ends p e below s G Q kc ks (T.setTop (mkF m (pc + 1) Ls (.long (-x) :: St)))) : own_Ends p e below s G Q kc ks (T.setTop (mkF m pc Ls (.long x :: St))) := own_of (fun _ q => XT.lneg X.here hx rfl (hb hby hd) rfl q) k
theorem own_i2l (X : Stand p l e R sS m args below meth c T locs cells slots) (hx : p.tables.exec = Jvm.exec) {code : ByteArray} (hby : c.code = code) {pc : Nat} {Ls : Array Slot} {St : List Value} {x : Int32} (hd : decode code pc = .ok (.i2l, 1)) (k : own_Ends p e below s G Q kc ks (T.setTop (mkF m (pc + 1) Ls (.long (x.toInt64) :: St)))) : own_Ends p e below s G Q kc ks (T.setTop (mkF m pc Ls (.int x :: St))) := own_of (fun _ q => XT.i2l X.here hx rfl (hb hby hd) rfl q) k
theorem own_l2i (X : Stand p l e R sS m args below meth c T locs cells slots) (hx : p.tables.exec = Jvm.exec) {code : ByteArray} (hby : c.code = code) {pc : Nat} {Ls : Array Slot} {St : List Value} {x : Int64} (hd : decode code pc = .ok (.l2i, 1)) (k : own_Ends p e below s G Q kc ks (T.setTop (mkF m (pc + 1) Ls (.int (x.toInt32) :: St)))) : own_Ends p e below s G Q kc ks (T.setTop (mkF m pc Ls (.long x :: St))) := own_of (fun _ q => XT.l2i X.here hx rfl (hb hby hd) rfl q) k
theorem own_i2b (X : Stand p l e R sS m args below meth c T locs cells slots) (hx : p.tables.exec = Jvm.exec) {code : ByteArray} (hby : c.code = code) {pc : Nat} {Ls : Array Slot} {St : List Value} {x : Int32} (hd : decode code pc = .ok (.i2b, 1)) (k : own_Ends p e below s G Q kc ks (T.setTop (mkF m (pc + 1) Ls (.int (x.toInt8.toInt32) :: St)))) : own_Ends p e below s G Q kc ks (T.setTop (mkF m pc Ls (.int x :: St))) := own_of (fun _ q => XT.i2b X.here hx rfl (hb hby hd) rfl q) k
theorem own_i2s (X : Stand p l e R sS m args below meth c T locs cells slots) (hx : p.tables.exec = Jvm.exec) {code : ByteArray} (hby : c.code = code) {pc : Nat} {Ls : Array Slot} {St : List Value} {x : Int32} (hd : decode code pc = .ok (.i2s, 1)) (k : own_Ends p e below s G Q kc ks (T.setTop (mkF m (pc + 1) Ls (.int (x.toInt16.toInt32) :: St)))) : own_Ends p e below s G Q kc ks (T.setTop (mkF m pc Ls (.int x :: St))) := own_of (fun _ q => XT.i2s X.here hx rfl (hb hby hd) rfl q) k
theorem own_i2c (X : Stand p l e R sS m args below meth c T locs cells slots) (hx : p.tables.exec = Jvm.exec) {code : ByteArray} (hby : c.code = code) {pc : Nat} {Ls : Array Slot} {St : List Value} {x : Int32} (hd : decode code pc = .ok (.i2c, 1)) (k : own_Ends p e below s G Q kc ks (T.setTop (mkF m (pc + 1) Ls (.int (x.toUInt32.toUInt16.toUInt32.toInt32) :: St)))) : own_Ends p e below s G Q kc ks (T.setTop (mkF m pc Ls (.int x :: St))) := own_of (fun _ q => XT.i2c X.here hx rfl (hb hby hd) rfl q) k
theorem own_lcmp (X : Stand p l e R sS m args below meth c T locs cells slots) (hx : p.tables.exec = Jvm.exec) {code : ByteArray} (hby : c.code = code) {pc : Nat} {Ls : Array Slot} {St : List Value} {x y : Int64} (hd : decode code pc = .ok (.lcmp, 1)) (k : own_Ends p e below s G Q kc ks (T.setTop (mkF m (pc + 1) Ls (.int (XT.cmpL x y) :: St)))) : own_Ends p e below s G Q kc ks (T.setTop (mkF m pc Ls (.long y :: .long x :: St))) := own_of (fun _ q => XT.lcmp X.here hx rfl (hb hby hd) rfl q) k
theorem own_dup (X : Stand p l e R sS m args below meth c T locs cells slots) (hx : p.tables.exec = Jvm.exec) {code : ByteArray} (hby : c.code = code) {pc : Nat} {Ls : Array Slot} {St : List Value} {x : Value} (hd : decode code pc = .ok (.dup, 1)) (hc : x.category = 1) (k : own_Ends p e below s G Q kc ks (T.setTop (mkF m (pc + 1) Ls (x :: x :: St)))) : own_Ends p e below s G Q kc ks (T.setTop (mkF m pc Ls (x :: St))) := own_of (fun _ q => XS.dup X.here hx rfl (hb hby hd) rfl hc q) k
theorem own_dupX1 (X : Stand p l e R sS m args below meth c T locs cells slots) (hx : p.tables.exec = Jvm.exec) {code : ByteArray} (hby : c.code = code) {pc : Nat} {Ls : Array Slot} {St : List Value} {x y : Value} (hd : decode code pc = .ok (.dup_x1, 1)) (hc : x.category = 1) (hc' : y.category = 1) (k : own_Ends p e below s G Q kc ks (T.setTop (mkF m (pc + 1) Ls (x :: y :: x :: St)))) : own_Ends p e below s G Q kc ks (T.setTop (mkF m pc Ls (x :: y :: St))) := own_of (fun _ q => XT.dupX1 X.here hx rfl (hb hby hd) rfl hc hc' q) k
theorem own_dup2 (X : Stand p l e R sS m args below meth c T locs cells slots) (hx : p.tables.exec = Jvm.exec) {code : ByteArray} (hby : c.code = code) {pc : Nat} {Ls : Array Slot} {St : List Value} {x y : Value} (hd : decode code pc = .ok (.dup2, 1)) (hc : x.category = 1) (hc' : y.category = 1) (k : own_Ends p e below s G Q kc ks (T.setTop (mkF m (pc + 1) Ls (x :: y :: x :: y :: St)))) : own_Ends p e below s G Q kc ks (T.setTop (mkF m pc Ls (x :: y :: St))) := own_of (fun _ q => XT.dup2 X.here hx rfl (hb hby hd) rfl hc hc' q) k
theorem own_dup2L (X : Stand p l e R sS m args below meth c T locs cells slots) (hx : p.tables.exec = Jvm.exec) {code : ByteArray} (hby : c.code = code) {pc : Nat} {Ls : Array Slot} {St : List Value} {x : Int64} (hd : decode code pc = .ok (.dup2, 1)) (k : own_Ends p e below s G Q kc ks (T.setTop (mkF m (pc + 1) Ls (.long x :: .long x :: St)))) : own_Ends p e below s G Q kc ks (T.setTop (mkF m pc Ls (.long x :: St))) := own_of (fun _ q => XT.dup2L X.here hx rfl (hb hby hd) rfl q) k
theorem own_pop (X : Stand p l e R sS m args below meth c T locs cells slots) (hx : p.tables.exec = Jvm.exec) {code : ByteArray} (hby : c.code = code) {pc : Nat} {Ls : Array Slot} {St : List Value} {x : Value} (hd : decode code pc = .ok (.pop, 1)) (hc : x.category = 1) (k : own_Ends p e below s G Q kc ks (T.setTop (mkF m (pc + 1) Ls (St)))) : own_Ends p e below s G Q kc ks (T.setTop (mkF m pc Ls (x :: St))) := own_of (fun _ q => XT.pop X.here hx rfl (hb hby hd) rfl hc q) k
theorem own_iinc (X : Stand p l e R sS m args below meth c T locs cells slots) (hx : p.tables.exec = Jvm.exec) {code : ByteArray} (hby : c.code = code) {pc : Nat} {Ls : Array Slot} {St : List Value} {k : Nat} {cst : Int} {x : Int32} {l' : Array Slot} (hd : decode code pc = .ok (.iinc k cst, 3)) (hl : Ls[k]? = some (.val (.int x))) (hl' : storeLocals Ls k (.int (x + Int32.ofInt cst)) = some l') (k : own_Ends p e below s G Q kc ks (T.setTop (mkF m (pc + 3) l' (St)))) : own_Ends p e below s G Q kc ks (T.setTop (mkF m pc Ls (St))) := own_of (fun _ q => XS.iinc X.here hx rfl (hb hby hd) hl hl' q) k
theorem own_iconst (X : Stand p l e R sS m args below meth c T locs cells slots) (hx : p.tables.exec = Jvm.exec) {code : ByteArray} (hby : c.code = code) {pc : Nat} {Ls : Array Slot} {St : List Value} {i : Int} (z : Int32) (hd : decode code pc = .ok (.iconst i, 1)) (hz : Int32.ofInt i = z) (k : own_Ends p e below s G Q kc ks (T.setTop (mkF m (pc + 1) Ls (.int z :: St)))) : own_Ends p e below s G Q kc ks (T.setTop (mkF m pc Ls St)) := by subst hz; exact own_of (fun _ q => XS.iconst X.here hx rfl (hb hby hd) q) k
theorem own_bipush (X : Stand p l e R sS m args below meth c T locs cells slots) (hx : p.tables.exec = Jvm.exec) {code : ByteArray} (hby : c.code = code) {pc : Nat} {Ls : Array Slot} {St : List Value} {i : Int} (z : Int32) (hd : decode code pc = .ok (.bipush i, 2)) (hz : (Int8.ofInt i).toInt32 = z) (k : own_Ends p e below s G Q kc ks (T.setTop (mkF m (pc + 2) Ls (.int z :: St)))) : own_Ends p e below s G Q kc ks (T.setTop (mkF m pc Ls St)) := by subst hz; exact own_of (fun _ q => XS.bipush X.here hx rfl (hb hby hd) q) k
theorem own_sipush (X : Stand p l e R sS m args below meth c T locs cells slots) (hx : p.tables.exec = Jvm.exec) {code : ByteArray} (hby : c.code = code) {pc : Nat} {Ls : Array Slot} {St : List Value} {i : Int} (z : Int32) (hd : decode code pc = .ok (.sipush i, 3)) (hz : (Int16.ofInt i).toInt32 = z) (k : own_Ends p e below s G Q kc ks (T.setTop (mkF m (pc + 3) Ls (.int z :: St)))) : own_Ends p e below s G Q kc ks (T.setTop (mkF m pc Ls St)) := by subst hz; exact own_of (fun _ q => XS.sipush X.here hx rfl (hb hby hd) q) k
theorem own_lconst (X : Stand p l e R sS m args below meth c T locs cells slots) (hx : p.tables.exec = Jvm.exec) {code : ByteArray} (hby : c.code = code) {pc : Nat} {Ls : Array Slot} {St : List Value} {i : Fin 2} (z : Int64) (hd : decode code pc = .ok (.lconst i, 1)) (hz : Int64.ofNat i = z) (k : own_Ends p e below s G Q kc ks (T.setTop (mkF m (pc + 1) Ls (.long z :: St)))) : own_Ends p e below s G Q kc ks (T.setTop (mkF m pc Ls St)) := by subst hz; exact own_of (fun _ q => XT.lconst X.here hx rfl (hb hby hd) q) k
theorem own_goto (X : Stand p l e R sS m args below meth c T locs cells slots) (hx : p.tables.exec = Jvm.exec) {code : ByteArray} (hby : c.code = code) {Ls : Array Slot} {St : List Value} (pc pc' : Nat) {o : Int}  (hd : decode code pc = .ok (.goto o, 3)) (ho : 0 ≤ (pc : Int) + o) (hp : ((pc : Int) + o).toNat = pc') (k : own_Ends p e below s G Q kc ks (T.setTop (mkF m pc' Ls St))) : own_Ends p e below s G Q kc ks (T.setTop (mkF m pc Ls (St))) := own_of (fun _ q => XS.goto X.here hx rfl (pc0 := pc) (pc' := pc') rfl (hb hby hd) ho hp q) k
theorem own_ifYes (X : Stand p l e R sS m args below meth c T locs cells slots) (hx : p.tables.exec = Jvm.exec) {code : ByteArray} (hby : c.code = code) {Ls : Array Slot} {St : List Value} (pc pc' : Nat) {o : Int} {cd : ClassFile.Cond} {x : Int32} (hd : decode code pc = .ok (.ifCond cd o, 3)) (hc : ifCond.holds cd x = true) (ho : 0 ≤ (pc : Int) + o) (hp : ((pc : Int) + o).toNat = pc') (k : own_Ends p e below s G Q kc ks (T.setTop (mkF m pc' Ls St))) : own_Ends p e below s G Q kc ks (T.setTop (mkF m pc Ls (.int x :: St))) := own_of (fun _ q => XS.ifYes X.here hx rfl (pc0 := pc) (pc' := pc') rfl (hb hby hd) rfl hc ho hp q) k
theorem own_icmpYes (X : Stand p l e R sS m args below meth c T locs cells slots) (hx : p.tables.exec = Jvm.exec) {code : ByteArray} (hby : c.code = code) {Ls : Array Slot} {St : List Value} (pc pc' : Nat) {o : Int} {cd : ClassFile.Cond} {x y : Int32} (hd : decode code pc = .ok (.if_icmp cd o, 3)) (hc : if_icmp.holds cd x y = true) (ho : 0 ≤ (pc : Int) + o) (hp : ((pc : Int) + o).toNat = pc') (k : own_Ends p e below s G Q kc ks (T.setTop (mkF m pc' Ls St))) : own_Ends p e below s G Q kc ks (T.setTop (mkF m pc Ls (.int y :: .int x :: St))) := own_of (fun _ q => XS.icmpYes X.here hx rfl (pc0 := pc) (pc' := pc') rfl (hb hby hd) rfl hc ho hp q) k
theorem own_ifnullYes (X : Stand p l e R sS m args below meth c T locs cells slots) (hx : p.tables.exec = Jvm.exec) {code : ByteArray} (hby : c.code = code) {Ls : Array Slot} {St : List Value} (pc pc' : Nat) {o : Int}  (hd : decode code pc = .ok (.ifnull o, 3)) (ho : 0 ≤ (pc : Int) + o) (hp : ((pc : Int) + o).toNat = pc') (k : own_Ends p e below s G Q kc ks (T.setTop (mkF m pc' Ls St))) : own_Ends p e below s G Q kc ks (T.setTop (mkF m pc Ls (.null :: St))) := own_of (fun _ q => XS.ifnullYes X.here hx rfl (pc0 := pc) (pc' := pc') rfl (hb hby hd) rfl ho hp q) k
theorem own_ifnonnullYes (X : Stand p l e R sS m args below meth c T locs cells slots) (hx : p.tables.exec = Jvm.exec) {code : ByteArray} (hby : c.code = code) {Ls : Array Slot} {St : List Value} (pc pc' : Nat) {o : Int} {b : Addr} (hd : decode code pc = .ok (.ifnonnull o, 3)) (ho : 0 ≤ (pc : Int) + o) (hp : ((pc : Int) + o).toNat = pc') (k : own_Ends p e below s G Q kc ks (T.setTop (mkF m pc' Ls St))) : own_Ends p e below s G Q kc ks (T.setTop (mkF m pc Ls (.ref b :: St))) := own_of (fun _ q => XT.ifnonnullYes X.here hx rfl (pc0 := pc) (pc' := pc') rfl (hb hby hd) rfl ho hp q) k
theorem own_ifNo (X : Stand p l e R sS m args below meth c T locs cells slots) (hx : p.tables.exec = Jvm.exec) {code : ByteArray} (hby : c.code = code) {pc : Nat} {Ls : Array Slot} {St : List Value} {cd : ClassFile.Cond} {o : Int} {x : Int32} (hd : decode code pc = .ok (.ifCond cd o, 3)) (hc : ifCond.holds cd x = false) (k : own_Ends p e below s G Q kc ks (T.setTop (mkF m (pc + 3) Ls (St)))) : own_Ends p e below s G Q kc ks (T.setTop (mkF m pc Ls (.int x :: St))) := own_of (fun _ q => XS.ifNo X.here hx rfl (hb hby hd) rfl hc q) k
theorem own_icmpNo (X : Stand p l e R sS m args below meth c T locs cells slots) (hx : p.tables.exec = Jvm.exec) {code : ByteArray} (hby : c.code = code) {pc : Nat} {Ls : Array Slot} {St : List Value} {cd : ClassFile.Cond} {o : Int} {x y : Int32} (hd : decode code pc = .ok (.if_icmp cd o, 3)) (hc : if_icmp.holds cd x y = false) (k : own_Ends p e below s G Q kc ks (T.setTop (mkF m (pc + 3) Ls (St)))) : own_Ends p e below s G Q kc ks (T.setTop (mkF m pc Ls (.int y :: .int x :: St))) := own_of (fun _ q => XS.icmpNo X.here hx rfl (hb hby hd) rfl hc q) k
theorem own_ifnullNo (X : Stand p l e R sS m args below meth c T locs cells slots) (hx : p.tables.exec = Jvm.exec) {code : ByteArray} (hby : c.code = code) {pc : Nat} {Ls : Array Slot} {St : List Value} {o : Int} {b : Addr} (hd : decode code pc = .ok (.ifnull o, 3)) (k : own_Ends p e below s G Q kc ks (T.setTop (mkF m (pc + 3) Ls (St)))) : own_Ends p e below s G Q kc ks (T.setTop (mkF m pc Ls (.ref b :: St))) := own_of (fun _ q => XS.ifnullNo X.here hx rfl (hb hby hd) rfl q) k
theorem own_ifnonnullNo (X : Stand p l e R sS m args below meth c T locs cells slots) (hx : p.tables.exec = Jvm.exec) {code : ByteArray} (hby : c.code = code) {pc : Nat} {Ls : Array Slot} {St : List Value} {o : Int} (hd : decode code pc = .ok (.ifnonnull o, 3)) (k : own_Ends p e below s G Q kc ks (T.setTop (mkF m (pc + 3) Ls (St)))) : own_Ends p e below s G Q kc ks (T.setTop (mkF m pc Ls (.null :: St))) := own_of (fun _ q => XT.ifnonnullNo X.here hx rfl (hb hby hd) rfl q) k
end Own2
theorem own_w {Z : State} {a0 : Array Value} (hw : ∀ d ∈ tables_1, d.before a0 Z = true) (i : Nat) {d : Jvm.Cond} (h : tables_1[i]? = some d) : d.before a0 Z = true := hw _ (List.mem_of_getElem? h)
theorem own_eqk {args : Array Value} {s : State} {t : Term} {k : Int32} (h : (Cond.eq t (.int k)).value args s none s [] = some true) : t.eval args s none [] s = some (.int k) := by
  obtain ⟨x, y, ex, ey, k1, k2⟩ := cmp_v (Or.inl h)
  obtain rfl : y = .int k := (Option.some.inj ((Term.int_eval k).symm.trans ey)).symm
  obtain ⟨z, rfl⟩ := k2
  rw [ex, gotT (Cond.eq_ints ex ey) h]
theorem own_staKeep {Z : State} {h h' : Heap} {C n d : String} {v : Value} {ws : List Addr} (F : Sta Z h C n d v) (K : Keep h h' ws) (q : ∀ x ∈ ws, ∀ c : Cell, h[x]? = some c → c.vm.isStatics = false) : Sta Z h' C n d v := by
  obtain ⟨cf, i, k, f, st, cell, h1, h2, h3, h4, h5, h6, h7⟩ := F
  refine ⟨cf, i, k, f, st, cell, h1, h2, h3, h4, K.2.1 st cell h5 (fun z => ?_), h6, h7⟩
  have := q st z cell h5
  rw [h6] at this; cases this
theorem own_strAtoms {Z : State} {a0 : Array Value} (hw : ∀ d ∈ tables_1, d.before a0 Z = true) : ∀ d ∈ Bundle.stringAtoms, d.before a0 Z = true := by
  intro d hd
  simp only [Bundle.stringAtoms, List.mem_cons, List.not_mem_nil, or_false] at hd
  rcases hd with rfl | rfl | rfl | rfl | rfl | rfl | rfl
  · exact hw _ (List.mem_of_getElem? (i := 10) rfl)
  · exact hw _ (List.mem_of_getElem? (i := 9) rfl)
  · exact hw _ (List.mem_of_getElem? (i := 22) rfl)
  · exact hw _ (List.mem_of_getElem? (i := 23) rfl)
  · exact hw _ (List.mem_of_getElem? (i := 24) rfl)
  · exact hw _ (List.mem_of_getElem? (i := 25) rfl)
  · exact hw _ (List.mem_of_getElem? (i := 26) rfl)
section OwnBack
variable {p : Program} {l : Launch} {e : Env} {R : Room} {s : State} {args : Array Value} {below : List Frame} {Z : State} {a0 : Array Value} {EL : List (String × Nat)} {h : Heap} {vm0 : Vm}
/-- a callee that reads a held constant and of whose end nothing is said on the constants -/
theorem own_backSC {y : MethodName} {bytes : ByteArray} {maxL : Nat} {ret : Option FieldType} {rm : Room} {len W : Nat} {as' : Array Value} {Q : Option Value → Heap → List Loc → Prop}
    (hM : MetFree l y (head1 [Cond.code y bytes maxL ret] rm) (fun a U => a = as' ∧ Z.Warmed39 U.vm ∧ U.heap = h ∧ CHv Z EL U.vm h) (fun _ _ _ _ _ => True) (fun _ U o U' => ∃ v L, o = .returned v ∧ Q v U'.heap L ∧ ReturnedEndW U o U' L rm.cells rm.slots))
    (hEL : EW Z a0 EL) (H : CHv Z EL vm0 h) (hZ : Z.Warmed39 vm0) (wc : (Cond.code y bytes maxL ret).before a0 Z = true) (wz : (Cond.initialized y.cls).before a0 Z = true) (hf : rm.frames + 1 ≤ R.frames) (hl : W + (maxL + 11) + rm.locals ≤ R.locals) :
    BackS l R p e below (s.setVm vm0) args y len W (fun A a => a = as' ∧ A.U.heap = h ∧ A.cells + rm.cells ≤ R.cells ∧ A.slots + rm.slots ≤ R.slots)
      (fun A _ v B => ∃ L, Q v B.U.heap L ∧ B.locs = A.locs ++ L ∧ B.cells = A.cells + rm.cells ∧ B.slots = A.slots + rm.slots) :=
  BackS.of_freeW (bytes := bytes) (maxL := maxL) (ret := ret) (E := fun _ _ o t L k n => k = rm.cells ∧ n = rm.slots ∧ ∃ v, o = .returned v ∧ Q v t.heap L) hM hf hl
    (fun m meth c A a Y hp => have hU : Z.Warmed39 A.U.vm := wtrans (s := s.setVm vm0) hZ Y.warmed
      ⟨by show (Cond.and _ .tt).before a A.U = true; rw [Cond.before_and, mv hU wc]; rfl, mv hU wc, mv hU wz, hp.2.2.1, hp.2.2.2⟩)
    (fun m meth c A a g mk Y hp => ⟨hp.1, wtrans (s := s.setVm vm0) hZ Y.warmed, hp.2.1, (CHv.at Y hZ hEL H).1⟩) (fun _ _ _ _ _ _ _ _ _ => trivial)
    (fun _ _ _ _ ⟨v, L, h1, h2, h3⟩ => ⟨L, _, _, h3, rfl, rfl, v, h1, h2⟩)
    (fun m meth c A a g mk v t L k n Y hp _ _ ⟨e1, e2, v', e3, e4⟩ => by cases e3; subst e1 e2; exact ⟨L, e4, rfl, rfl, rfl⟩)
end OwnBack
theorem own_nar2 (x : Int32) : nar .char (nar .char x) = nar .char x := by
  show (x.toUInt32.toUInt16.toUInt32.toInt32).toUInt32.toUInt16.toUInt32.toInt32 = x.toUInt32.toUInt16.toUInt32.toInt32
  have : (x.toUInt32.toUInt16.toUInt32.toInt32).toUInt32 = x.toUInt32.toUInt16.toUInt32 := rfl
  rw [this, UInt16.toUInt16_toUInt32]
def Qv (x : Int32) (h0 : Heap) (n0 : Nat) (v : Option Value) (h : Heap) (L : List Loc) : Prop := v = some (.int x) ∧ Fr n0 L ∧ h = h0
def Qn (h0 : Heap) (n0 : Nat) (v : Option Value) (h : Heap) (L : List Loc) : Prop := v = none ∧ Fr n0 L ∧ h = h0
def own_at (cs : List Int32) (j : Int32) : Int32 := cs.getD j.toNatClampNeg 0
theorem own_at_eq (cs : List Int32) (j : Int32) : (cs.map Value.int).getD j.toNatClampNeg (.int 0) = .int (own_at cs j) := by
  unfold own_at
  simp only [List.getD_eq_getElem?_getD, List.getElem?_map]
  cases cs[j.toNatClampNeg]? <;> rfl
/-- the sign at a place of a String of one-byte signs -/
def own_ch (cs : List Int32) (j : Int32) : Int32 := nar .char (((own_at cs j) &&& 255).toUInt32.toUInt16.toUInt32.toInt32)
def own_gc (x y : Int32) : Int32 := nar .char (((((x &&& 255) <<< ((0 : Int32) &&& 31)) ||| ((y &&& 255) <<< ((8 : Int32) &&& 31))).toUInt32.toUInt16.toUInt32.toInt32))
/-- the sign at a place of a String of two-byte signs -/
def own_chu (cs : List Int32) (j : Int32) : Int32 := own_gc (own_at cs (j <<< ((1 : Int32) &&& 31))) (own_at cs ((j <<< ((1 : Int32) &&& 31)) + 1))
def own_b8 (c : Int32) : Int32 := nar .byte (c.toInt8.toInt32)
def own_lo8 (c : Int32) : Int32 := nar .byte ((c >>> ((0 : Int32) &&& 31)).toInt8.toInt32)
def own_hi8 (c : Int32) : Int32 := nar .byte ((c >>> ((8 : Int32) &&& 31)).toInt8.toInt32)
def own_u16 : List Int32 → List Int32
  | [] => []
  | c :: r => own_lo8 c :: own_hi8 c :: own_u16 r
theorem own_mono {l : Launch} {x : MethodName} {S : Spec} {P : Array Value → State → Prop} {K : Program → Env → List Frame → State → Array Value → Prop} {Q Q' : Array Value → State → Outcome → State → Prop} (h : MetFree l x S P K Q) (hq : ∀ a s o t, Q a s o t → Q' a s o t) : MetFree l x S P K Q' := fun p e ha hc hk s m args below hf happ hP hK => by
  obtain ⟨n, o, h1, h2, h3, h4⟩ := h p e ha hc hk s m args below hf happ hP hK
  exact ⟨n, o, h1, h2, h3, hq _ _ _ _ h4⟩
theorem own_char_bd (x : Int32) : 0 ≤ (nar .char x).toInt ∧ (nar .char x).toInt < 65536 := by
  have e : (nar .char x).toBitVec.toNat = (x.toUInt32.toUInt16).toNat := by
    show (x.toUInt32.toUInt16.toUInt32).toNat = _
    rw [UInt16.toNat_toUInt32]
  have h := (x.toUInt32.toUInt16).toNat_lt
  have q : (nar .char x).toInt = ((nar .char x).toBitVec.toNat : Int) := by
    show (nar .char x).toBitVec.toInt = _
    rw [BitVec.toInt_eq_toNat_cond, if_pos (by omega)]
  omega
theorem own_nat {x : Int32} (h1 : 0 ≤ x.toInt) : x.toInt = (x.toBitVec.toNat : Int) := by
  have e : x.toInt = x.toBitVec.toInt := rfl
  rw [e] at h1 ⊢
  rw [BitVec.toInt_eq_toNat_cond] at h1 ⊢
  have := x.toBitVec.isLt
  split at h1 <;> rename_i hc
  · rw [if_pos hc]
  · omega
theorem own_toc {x : Int32} (h1 : 0 ≤ x.toInt) (h2 : x.toInt < 65536) : x.toUInt32.toUInt16.toUInt32.toInt32 = x := by
  apply Int32.toInt_inj.mp
  have e1 := own_nat h1
  have e3 : (x.toUInt32.toUInt16.toUInt32.toInt32).toBitVec.toNat = x.toBitVec.toNat % 65536 := by
    show (x.toUInt32.toUInt16.toUInt32).toNat = _
    rw [UInt16.toNat_toUInt32, UInt32.toNat_toUInt16]
    rfl
  have e4 : x.toBitVec.toNat < 65536 := by omega
  show (x.toUInt32.toUInt16.toUInt32.toInt32).toBitVec.toInt = x.toInt
  rw [BitVec.toInt_eq_toNat_cond, e3, Nat.mod_eq_of_lt e4, if_pos (by omega), e1]
theorem own_nar_i2c (x : Int32) : nar .char (x.toUInt32.toUInt16.toUInt32.toInt32) = x.toUInt32.toUInt16.toUInt32.toInt32 := own_nar2 x
/-- a byte's sign, masked: the low eight bits of what was narrowed -/
theorem own_mask8 (c : Int32) : (nar .byte (c.toInt8.toInt32)) &&& 255 = c &&& 255 := by
  apply Int32.toBitVec_inj.mp
  show ((c.toInt8.toInt32).toInt8.toInt32).toBitVec &&& (255 : Int32).toBitVec = c.toBitVec &&& (255 : Int32).toBitVec
  rw [Int8.toInt8_toInt32]
  show (c.toBitVec.signExtend 8).signExtend 32 &&& 255#32 = c.toBitVec &&& 255#32
  apply BitVec.eq_of_getLsbD_eq
  intro i hi
  simp only [BitVec.getLsbD_and, BitVec.getLsbD_signExtend]
  by_cases h8 : i < 8
  · simp [h8, hi] <;> omega
  · have : (255#32).getLsbD i = false := by
      rw [show (255#32) = BitVec.ofNat 32 (2 ^ 8 - 1) from rfl, BitVec.getLsbD_ofNat, Nat.testBit_two_pow_sub_one]
      simp [h8]
    simp [this]
theorem own_and255 {c : Int32} (h1 : 0 ≤ c.toInt) (h2 : ¬ ((255 : Int32) < c)) : c &&& 255 = c := by
  apply Int32.toInt_inj.mp
  rw [Jvm.Kit.i32_mask c 255 (k := 8) (by decide) (by decide)]
  rw [Int32.lt_iff_toInt_lt, show (255 : Int32).toInt = 255 by decide] at h2
  omega
theorem own_ch_eq {c : Int32} (h : 0 ≤ c.toInt ∧ c.toInt < 65536) (h2 : ¬ ((255 : Int32) < c)) : nar .char (((own_b8 c) &&& 255).toUInt32.toUInt16.toUInt32.toInt32) = c := by
  have e : own_b8 c &&& 255 = c := (own_mask8 c).trans (own_and255 h.1 h2)
  rw [e, own_toc h.1 h.2]
  exact own_toc h.1 h.2
theorem own_gc_eq {c : Int32} (h : 0 ≤ c.toInt ∧ c.toInt < 65536) : own_gc (own_lo8 c) (own_hi8 c) = c := by
  have e1 : own_lo8 c &&& 255 = (c >>> ((0 : Int32) &&& 31)) &&& 255 := own_mask8 _
  have e2 : own_hi8 c &&& 255 = (c >>> ((8 : Int32) &&& 31)) &&& 255 := own_mask8 _
  have k0 : (((0 : Int32) &&& 31).toBitVec.smod 32).toNat = 0 := by decide
  have k8 : (((8 : Int32) &&& 31).toBitVec.smod 32).toNat = 8 := by decide
  have s0 : c >>> ((0 : Int32) &&& 31) = c := by
    apply Int32.toInt_inj.mp
    rw [Jvm.Kit.i32_shr c _ k0]; omega
  have m0 := Jvm.Kit.i32_mask c 255 (k := 8) (by decide) (by decide)
  have s8 := Jvm.Kit.i32_shr c ((8 : Int32) &&& 31) k8
  have m8 := Jvm.Kit.i32_mask (c >>> ((8 : Int32) &&& 31)) 255 (k := 8) (by decide) (by decide)
  have l0 : ((c &&& 255) <<< ((0 : Int32) &&& 31)) = c &&& 255 := by
    apply Int32.toInt_inj.mp
    rw [Jvm.Kit.i32_shl _ _ k0 (by omega) (by omega)]; omega
  have l8 := Jvm.Kit.i32_shl ((c >>> ((8 : Int32) &&& 31)) &&& 255) ((8 : Int32) &&& 31) k8 (by omega) (by omega)
  unfold own_gc
  rw [e1, e2, s0, l0]
  have key : ((c &&& 255) ||| (((c >>> ((8 : Int32) &&& 31)) &&& 255) <<< ((8 : Int32) &&& 31))) = c := by
    generalize hx : (c &&& 255) = x at *
    generalize hy : (((c >>> ((8 : Int32) &&& 31)) &&& 255) <<< ((8 : Int32) &&& 31)) = y at *
    have nx : 0 ≤ x.toInt := by omega
    have ny : 0 ≤ y.toInt := by omega
    have ex := own_nat nx
    have ey := own_nat ny
    have ec := own_nat h.1
    apply Int32.toBitVec_inj.mp
    apply BitVec.eq_of_toNat_eq
    show (x.toBitVec ||| y.toBitVec).toNat = c.toBitVec.toNat
    rw [BitVec.toNat_or]
    have d : y.toBitVec.toNat = 2 ^ 8 * (y.toBitVec.toNat / 256) := by omega
    have lx : x.toBitVec.toNat < 2 ^ 8 := by omega
    rw [d, Nat.or_comm, ← Nat.two_pow_add_eq_or_of_lt lx]
    omega
  rw [key, own_toc h.1 h.2]
  exact own_toc h.1 h.2
/-- a String at a, its signs cs: one byte a sign (z of them, no sign above 255), or two (z2 bytes) -/
def own_Str (Z : State) (h : Heap) (a : Addr) (z z2 : Int32) (cs : List Int32) : Prop := Exa Z h a "java/lang/String" ∧ ∃ (b : Addr) (kb : ClassId), Fld Z h a "java/lang/String" "value" "[B" (.ref b) ∧
  ((Fld Z h a "java/lang/String" "coder" "B" (.int (0 : Int32)) ∧ Arv Z h b kb .byte z ((cs.map own_b8).map Value.int) (.int (0 : Int32)) ∧ ∀ c ∈ cs, ¬ ((255 : Int32) < c)) ∨
   (Fld Z h a "java/lang/String" "coder" "B" (.int (1 : Int32)) ∧ Arv Z h b kb .byte z2 ((own_u16 cs).map Value.int) (.int (0 : Int32))))
def own_dg (c : Int32) : Int32 := if c < 48 then 0 else if (57 : Int32) < c then 0 else 1
def own_dr (p : Int32) : Int32 := if (p &&& 65536) = 0 then nar .char ((p &&& 65535).toUInt32.toUInt16.toUInt32.toInt32) else nar .char ((46 + ((p &&& 255) % 14)).toUInt32.toUInt16.toUInt32.toInt32)
theorem own_dr_nar (p : Int32) : nar .char (own_dr p) = own_dr p := by
  unfold own_dr
  split <;> exact own_nar2 _
theorem own_dr_bd (p : Int32) : 0 ≤ (own_dr p).toInt ∧ (own_dr p).toInt < 65536 := by
  rw [← own_dr_nar]; exact own_char_bd _
theorem own_dg01 (c : Int32) : own_dg c = 0 ∨ own_dg c = 1 := by
  unfold own_dg
  split
  · exact Or.inl rfl
  · split
    · exact Or.inl rfl
    · exact Or.inr rfl
def own_wn (a : Int32) : List Int32 → Int32
  | [] => a
  | c :: r => own_wn (a &&& own_dg c) r
theorem own_wn0 : ∀ r : List Int32, own_wn 0 r = 0
  | [] => rfl
  | c :: r => by
    show own_wn (0 &&& own_dg c) r = 0
    rw [Int32.zero_and]; exact own_wn0 r
theorem own_wn_cons (c : Int32) (r : List Int32) : own_wn 1 (c :: r) = if own_dg c = 0 then 0 else own_wn 1 r := by
  show own_wn (1 &&& own_dg c) r = _
  rcases own_dg01 c with h | h
  · rw [h, if_pos rfl]; exact own_wn0 r
  · rw [h, if_neg (by decide)]; rfl
theorem own_mod5 (x : Int32) : ((x &&& 2147483647) % 5) = 0 ∨ ((x &&& 2147483647) % 5) = 1 ∨ ((x &&& 2147483647) % 5) = 2 ∨ ((x &&& 2147483647) % 5) = 3 ∨ ((x &&& 2147483647) % 5) = 4 := by
  have e1 := Jvm.Kit.i32_mask x 2147483647 (k := 31) (by decide) (by decide)
  have e2 := Jvm.Kit.i32_rem_nonneg (x := x &&& 2147483647) (y := 5) (by omega)
  have c0 : (0 : Int32).toInt = 0 := by decide
  have c1 : (1 : Int32).toInt = 1 := by decide
  have c2 : (2 : Int32).toInt = 2 := by decide
  have c3 : (3 : Int32).toInt = 3 := by decide
  have c4 : (4 : Int32).toInt = 4 := by decide
  have c5 : (5 : Int32).toInt = 5 := by decide
  rw [← Int32.toInt_inj, ← Int32.toInt_inj, ← Int32.toInt_inj, ← Int32.toInt_inj, ← Int32.toInt_inj, e2, c0, c1, c2, c3, c4, c5]
  omega
theorem own_nb (x : Int32) (h : x = 0 ∨ x = 1) : nar .boolean x = x := by rcases h with h | h <;> rw [h] <;> rfl
theorem own_wn01 (a : Int32) (h : a = 0 ∨ a = 1) : ∀ r : List Int32, own_wn a r = 0 ∨ own_wn a r = 1
  | [] => h
  | c :: r => by
    show own_wn (a &&& own_dg c) r = 0 ∨ own_wn (a &&& own_dg c) r = 1
    refine own_wn01 _ ?_ r
    rcases h with h | h <;> rcases own_dg01 c with q | q <;> rw [h, q] <;> decide
abbrev mN_0 : MethodName := ⟨"jdk/internal/util/Preconditions", "checkIndex", "(IILjava/util/function/BiFunction;)I"⟩
theorem d17_0 : decode jdk_41_method_11_code 0 = .ok (.iload_n 0, 1) := by decide +kernel
theorem d17_1 : decode jdk_41_method_11_code 1 = .ok (.ifCond .lt 8, 3) := by decide +kernel
theorem d17_4 : decode jdk_41_method_11_code 4 = .ok (.iload_n 0, 1) := by decide +kernel
theorem d17_5 : decode jdk_41_method_11_code 5 = .ok (.iload_n 1, 1) := by decide +kernel
theorem d17_6 : decode jdk_41_method_11_code 6 = .ok (.if_icmp .lt 10, 3) := by decide +kernel
theorem d17_16 : decode jdk_41_method_11_code 16 = .ok (.iload_n 0, 1) := by decide +kernel
theorem d17_17 : decode jdk_41_method_11_code 17 = .ok (.ireturn, 1) := by decide +kernel
theorem pn_0 : plainName "jdk/internal/util/Preconditions" = true := by first | (simp [plainName, overriddenIn]; done) | decide +kernel
theorem ef_pin (m : MethodId) (x0 : Int32) (x1 : Int32) : entryFrame m #[(.int x0), (.int x1), .null] 3 = mkF m 0 #[.val (.int x0), .val (.int x1), .val .null] [] := by first | (simp [entryFrame, mkF, argsToLocals, Value.category]; done) | rfl
set_option maxRecDepth 65536 in
set_option maxHeartbeats 40000000 in
theorem rmpin (l : Launch) (Z : State) (a0 : Array Value) (hw : ∀ d ∈ tables_1, d.before a0 Z = true) (ws : List Jvm.Cond) (p1 p2 : Int32) (h0 : Heap) (n0 : Nat) (Z0 : n0 ≤ h0.size) (h1 : ¬ (p1 < (0 : Int32))) (h2 : p1 < p2) :
    MetFree l mN_0 (head1 (Jvm.Cond.code mN_0 jdk_41_method_11_code 3 (some .int) :: ws) ({ frames := 0, cells := 0, slots := 0, locals := 0 } : Room)) (fun a U => a = #[(.int p1), (.int p2), .null] ∧ Z.Warmed39 U.vm ∧ U.heap = h0) (fun _ _ _ _ _ => True) (fun _ U o U' => ∃ v L, o = .returned v ∧ (Qv p1 h0 n0) v U'.heap L ∧ FrameEnd U o U' L ({ frames := 0, cells := 0, slots := 0, locals := 0 } : Room).cells ({ frames := 0, cells := 0, slots := 0, locals := 0 } : Room).slots) := by
  refine MetFree.of_bodySF (plainFor_of_name pn_0) hisR ?_
  intro p e s m args below meth c s₁ Bd hml0 hP hK
  obtain ⟨rfl, hZ, hh⟩ := hP
  have hx := Bd.exec
  have hby := Bd.bytes
  have hml : c.maxLocals = 3 := hml0
  have hown : s.vm.findClass "jdk/internal/util/Preconditions" = some m.cls := findClass_of_methodNamed Bd.named
  have hnm := (name_of_methodNamed Bd.named Bd.method).1
  have hlk := Bd.notSynchronized
  have X0 : Stand p l e ({ frames := 0, cells := 0, slots := 0, locals := 0 } : Room) s m #[(.int p1), (.int p2), .null] below meth c s₁ [] 0 0 := Stand.of_body Bd
  have e0 : s₁.heap = h0 := by rw [← hh, Bd.state]; rfl
  have N0 := Fr.nil n0
  show own_Ends p e below s FrameEnd (Qv p1 h0 n0) 0 0 (s₁.setTop (entryFrame m #[(.int p1), (.int p2), .null] 3))
  refine own_of (U' := (s₁.setTop (mkF m 0 #[.val (.int p1), .val (.int p2), .val .null] []))) (fun _ k => castTop (ef_pin m p1 p2) k) ?_
  refine own_iloadN X0 hx hby d17_0 rfl ?_
  have hc1_1 : ¬ (p1 < (0 : Int32)) := h1
  refine own_ifNo X0 hx hby d17_1 ((if0 _ _).trans (flt hc1_1).1) ?_
  refine own_iloadN X0 hx hby d17_4 rfl ?_
  refine own_iloadN X0 hx hby d17_5 rfl ?_
  have hc6_2 : p1 < p2 := h2
  refine own_icmpYes X0 hx hby 6 16 d17_6 (tlt hc6_2).1 (by decide) (by decide) ?_
  refine own_iloadN X0 hx hby d17_16 rfl ?_
  exact own_retI X0 hx hlk Bd.returns (hb hby d17_17) (by decide) (by decide) (⟨rfl, N0, e0⟩)
theorem ef_pir (m : MethodId) (x0 : Int32) (x1 : Int32) (x2 : Addr) : entryFrame m #[(.int x0), (.int x1), (.ref x2)] 3 = mkF m 0 #[.val (.int x0), .val (.int x1), .val (.ref x2)] [] := by first | (simp [entryFrame, mkF, argsToLocals, Value.category]; done) | rfl
set_option maxRecDepth 65536 in
set_option maxHeartbeats 40000000 in
theorem rmpir (l : Launch) (Z : State) (a0 : Array Value) (hw : ∀ d ∈ tables_1, d.before a0 Z = true) (ws : List Jvm.Cond) (p1 p2 : Int32) (kF : Addr) (h0 : Heap) (n0 : Nat) (Z0 : n0 ≤ h0.size) (h1 : ¬ (p1 < (0 : Int32))) (h2 : p1 < p2) :
    MetFree l mN_0 (head1 (Jvm.Cond.code mN_0 jdk_41_method_11_code 3 (some .int) :: ws) ({ frames := 0, cells := 0, slots := 0, locals := 0 } : Room)) (fun a U => a = #[(.int p1), (.int p2), (.ref kF)] ∧ Z.Warmed39 U.vm ∧ U.heap = h0) (fun _ _ _ _ _ => True) (fun _ U o U' => ∃ v L, o = .returned v ∧ (Qv p1 h0 n0) v U'.heap L ∧ FrameEnd U o U' L ({ frames := 0, cells := 0, slots := 0, locals := 0 } : Room).cells ({ frames := 0, cells := 0, slots := 0, locals := 0 } : Room).slots) := by
  refine MetFree.of_bodySF (plainFor_of_name pn_0) hisR ?_
  intro p e s m args below meth c s₁ Bd hml0 hP hK
  obtain ⟨rfl, hZ, hh⟩ := hP
  have hx := Bd.exec
  have hby := Bd.bytes
  have hml : c.maxLocals = 3 := hml0
  have hown : s.vm.findClass "jdk/internal/util/Preconditions" = some m.cls := findClass_of_methodNamed Bd.named
  have hnm := (name_of_methodNamed Bd.named Bd.method).1
  have hlk := Bd.notSynchronized
  have X0 : Stand p l e ({ frames := 0, cells := 0, slots := 0, locals := 0 } : Room) s m #[(.int p1), (.int p2), (.ref kF)] below meth c s₁ [] 0 0 := Stand.of_body Bd
  have e0 : s₁.heap = h0 := by rw [← hh, Bd.state]; rfl
  have N0 := Fr.nil n0
  show own_Ends p e below s FrameEnd (Qv p1 h0 n0) 0 0 (s₁.setTop (entryFrame m #[(.int p1), (.int p2), (.ref kF)] 3))
  refine own_of (U' := (s₁.setTop (mkF m 0 #[.val (.int p1), .val (.int p2), .val (.ref kF)] []))) (fun _ k => castTop (ef_pir m p1 p2 kF) k) ?_
  refine own_iloadN X0 hx hby d17_0 rfl ?_
  have hc1_3 : ¬ (p1 < (0 : Int32)) := h1
  refine own_ifNo X0 hx hby d17_1 ((if0 _ _).trans (flt hc1_3).1) ?_
  refine own_iloadN X0 hx hby d17_4 rfl ?_
  refine own_iloadN X0 hx hby d17_5 rfl ?_
  have hc6_4 : p1 < p2 := h2
  refine own_icmpYes X0 hx hby 6 16 d17_6 (tlt hc6_4).1 (by decide) (by decide) ?_
  refine own_iloadN X0 hx hby d17_16 rfl ?_
  exact own_retI X0 hx hlk Bd.returns (hb hby d17_17) (by decide) (by decide) (⟨rfl, N0, e0⟩)
abbrev mN_1 : MethodName := ⟨"java/lang/String", "checkIndex", "(II)V"⟩
theorem pd_0 : parseMethodDescriptor "(IILjava/util/function/BiFunction;)I" = some ⟨[.int, .int, (.object "java/util/function/BiFunction")], some .int⟩ := by decide +kernel
theorem d16_0 : decode jdk_42_method_155_code 0 = .ok (.iload_n 0, 1) := by decide +kernel
theorem d16_1 : decode jdk_42_method_155_code 1 = .ok (.iload_n 1, 1) := by decide +kernel
theorem d16_2 : decode jdk_42_method_155_code 2 = .ok (.getstatic 1053, 3) := by decide +kernel
theorem d16_5 : decode jdk_42_method_155_code 5 = .ok (.invokestatic 1059, 3) := by decide +kernel
theorem d16_8 : decode jdk_42_method_155_code 8 = .ok (.pop, 1) := by decide +kernel
theorem d16_9 : decode jdk_42_method_155_code 9 = .ok (.return_, 1) := by decide +kernel
theorem pn_1 : plainName "java/lang/String" = true := by first | (simp [plainName, overriddenIn]; done) | decide +kernel
theorem ef_ci (m : MethodId) (x0 : Int32) (x1 : Int32) : entryFrame m #[(.int x0), (.int x1)] 2 = mkF m 0 #[.val (.int x0), .val (.int x1)] [] := by first | (simp [entryFrame, mkF, argsToLocals, Value.category]; done) | rfl
set_option maxRecDepth 65536 in
set_option maxHeartbeats 40000000 in
theorem rmci (l : Launch) (Z : State) (a0 : Array Value) (hw : ∀ d ∈ tables_1, d.before a0 Z = true) (ws : List Jvm.Cond) (p1 p2 : Int32) (rS : Value) (h0 : Heap) (n0 : Nat) (Z0 : n0 ≤ h0.size) (h1 : ¬ (p1 < (0 : Int32))) (h2 : p1 < p2) (SF : Sta Z h0 "jdk/internal/util/Preconditions" "SIOOBE_FORMATTER" "Ljava/util/function/BiFunction;" rS) (hrS : rS.isRef = true) :
    MetFree l mN_1 (head1 (Jvm.Cond.code mN_1 jdk_42_method_155_code 2 none :: ws) ({ frames := 1, cells := 0, slots := 0, locals := 14 } : Room)) (fun a U => a = #[(.int p1), (.int p2)] ∧ Z.Warmed39 U.vm ∧ U.heap = h0) (fun _ _ _ _ _ => True) (fun _ U o U' => ∃ v L, o = .returned v ∧ (Qn h0 n0) v U'.heap L ∧ FrameEnd U o U' L ({ frames := 1, cells := 0, slots := 0, locals := 14 } : Room).cells ({ frames := 1, cells := 0, slots := 0, locals := 14 } : Room).slots) := by
  refine MetFree.of_bodySF (plainFor_of_name pn_1) hisR ?_
  intro p e s m args below meth c s₁ Bd hml0 hP hK
  obtain ⟨rfl, hZ, hh⟩ := hP
  have hx := Bd.exec
  have hby := Bd.bytes
  have hml : c.maxLocals = 2 := hml0
  have hown : s.vm.findClass "java/lang/String" = some m.cls := findClass_of_methodNamed Bd.named
  have hnm := (name_of_methodNamed Bd.named Bd.method).1
  have hlk := Bd.notSynchronized
  have X0 : Stand p l e ({ frames := 1, cells := 0, slots := 0, locals := 14 } : Room) s m #[(.int p1), (.int p2)] below meth c s₁ [] 0 0 := Stand.of_body Bd
  have e0 : s₁.heap = h0 := by rw [← hh, Bd.state]; rfl
  have N0 := Fr.nil n0
  show own_Ends p e below s FrameEnd (Qn h0 n0) 0 0 (s₁.setTop (entryFrame m #[(.int p1), (.int p2)] 2))
  refine own_of (U' := (s₁.setTop (mkF m 0 #[.val (.int p1), .val (.int p2)] []))) (fun _ k => castTop (ef_ci m p1 p2) k) ?_
  refine own_iloadN X0 hx hby d16_0 rfl ?_
  refine own_iloadN X0 hx hby d16_1 rfl ?_
  rcases ref_cases hrS with rfl | ⟨kF, rfl⟩
  · skip
    obtain ⟨T5, X5, e5, st5⟩ := getS2 X0 hx hZ hown (host := "") (Or.inl (own_w hw 79 rfl)) Via.refl e0 SF (g := (mkF m 2 #[.val (.int p1), .val (.int p2)] [(.int p2), (.int p1)])) rfl (hb hby d16_2)
    refine own_of (U' := (T5.setTop (mkF m 5 #[.val (.int p1), .val (.int p2)] [.null, (.int p2), (.int p1)]))) (st5) ?_
    obtain ⟨_, _, ⟨T6, L6, k6, n6⟩, -, X6, ⟨Lc6, hQ6, l6, y6, z6⟩, st6⟩ := Jvm.LawKit.callS X5 hx (y := mN_0) hown (mvT hZ (own_w hw 81 rfl)) (mvT hZ (own_w hw 82 rfl)) (mvT hZ (own_w hw 80 rfl)) (mvT hZ (own_w hw 83 rfl)) (by decide) (backOf (W := 0) (rmpin l Z a0 hw [] p1 p2 h0 n0 Z0 h1 h2) hZ (own_w hw 83 rfl) (own_w hw 80 rfl) (by decide) (by decide)) (g := (mkF m 5 #[.val (.int p1), .val (.int p2)] [.null, (.int p2), (.int p1)])) rfl (by rw [hml]; rfl) (argsL := [(.int p1), (.int p2), .null]) (rest := []) (lenOf pd_0 rfl) rfl (by show 2 * 0 + _ ≤ _; exact Nat.le_of_eq rfl) (hb hby d16_5) (fun _ _ => ⟨rfl, e5, (by decide : 0 + 0 ≤ _), (by decide : 0 + 0 ≤ _)⟩)
    dsimp only [Pt.U, Pt.locs, Pt.cells, Pt.slots] at X6 l6 y6 z6 st6 hQ6
    subst l6 y6 z6
    obtain ⟨rfl, Nq6, e6⟩ := hQ6
    have N6 := Fr.app N0 Nq6
    refine own_of (U' := (T6.setTop (mkF m 8 #[.val (.int p1), .val (.int p2)] [(.int p1)]))) (st6) ?_
    refine own_pop X6 hx hby d16_8 rfl ?_
    exact own_ret0 X6 hx hlk Bd.returns (hb hby d16_9) (by decide) (by decide) (⟨rfl, N6, e6⟩)
  · skip
    obtain ⟨T7, X7, e7, st7⟩ := getS2 X0 hx hZ hown (host := "") (Or.inl (own_w hw 79 rfl)) Via.refl e0 SF (g := (mkF m 2 #[.val (.int p1), .val (.int p2)] [(.int p2), (.int p1)])) rfl (hb hby d16_2)
    refine own_of (U' := (T7.setTop (mkF m 5 #[.val (.int p1), .val (.int p2)] [(.ref kF), (.int p2), (.int p1)]))) (st7) ?_
    obtain ⟨_, _, ⟨T8, L8, k8, n8⟩, -, X8, ⟨Lc8, hQ8, l8, y8, z8⟩, st8⟩ := Jvm.LawKit.callS X7 hx (y := mN_0) hown (mvT hZ (own_w hw 81 rfl)) (mvT hZ (own_w hw 82 rfl)) (mvT hZ (own_w hw 80 rfl)) (mvT hZ (own_w hw 83 rfl)) (by decide) (backOf (W := 0) (rmpir l Z a0 hw [] p1 p2 kF h0 n0 Z0 h1 h2) hZ (own_w hw 83 rfl) (own_w hw 80 rfl) (by decide) (by decide)) (g := (mkF m 5 #[.val (.int p1), .val (.int p2)] [(.ref kF), (.int p2), (.int p1)])) rfl (by rw [hml]; rfl) (argsL := [(.int p1), (.int p2), (.ref kF)]) (rest := []) (lenOf pd_0 rfl) rfl (by show 2 * 0 + _ ≤ _; exact Nat.le_of_eq rfl) (hb hby d16_5) (fun _ _ => ⟨rfl, e7, (by decide : 0 + 0 ≤ _), (by decide : 0 + 0 ≤ _)⟩)
    dsimp only [Pt.U, Pt.locs, Pt.cells, Pt.slots] at X8 l8 y8 z8 st8 hQ8
    subst l8 y8 z8
    obtain ⟨rfl, Nq8, e8⟩ := hQ8
    have N8 := Fr.app N0 Nq8
    refine own_of (U' := (T8.setTop (mkF m 8 #[.val (.int p1), .val (.int p2)] [(.int p1)]))) (st8) ?_
    refine own_pop X8 hx hby d16_8 rfl ?_
    exact own_ret0 X8 hx hlk Bd.returns (hb hby d16_9) (by decide) (by decide) (⟨rfl, N8, e8⟩)
abbrev mN_2 : MethodName := ⟨"java/lang/StringUTF16", "length", "([B)I"⟩
theorem d25_0 : decode jdk_52_method_6_code 0 = .ok (.aload_n 0, 1) := by decide +kernel
theorem d25_1 : decode jdk_52_method_6_code 1 = .ok (.arraylength, 1) := by decide +kernel
theorem d25_2 : decode jdk_52_method_6_code 2 = .ok (.iconst 1, 1) := by decide +kernel
theorem d25_3 : decode jdk_52_method_6_code 3 = .ok (.ishr, 1) := by decide +kernel
theorem d25_4 : decode jdk_52_method_6_code 4 = .ok (.ireturn, 1) := by decide +kernel
theorem pn_2 : plainName "java/lang/StringUTF16" = true := by first | (simp [plainName, overriddenIn]; done) | decide +kernel
theorem ef_ul (m : MethodId) (x0 : Addr) : entryFrame m #[(.ref x0)] 1 = mkF m 0 #[.val (.ref x0)] [] := by first | (simp [entryFrame, mkF, argsToLocals, Value.category]; done) | rfl
set_option maxRecDepth 65536 in
set_option maxHeartbeats 40000000 in
theorem rmul (l : Launch) (Z : State) (a0 : Array Value) (hw : ∀ d ∈ tables_1, d.before a0 Z = true) (ws : List Jvm.Cond) (b : Addr) (kb : ClassId) (z : Int32) (cs : List Int32) (h0 : Heap) (n0 : Nat) (Z0 : n0 ≤ h0.size) (Vb : Arv Z h0 b kb .byte z (cs.map Value.int) (.int (0 : Int32))) :
    MetFree l mN_2 (head1 (Jvm.Cond.code mN_2 jdk_52_method_6_code 1 (some .int) :: ws) ({ frames := 0, cells := 0, slots := 0, locals := 0 } : Room)) (fun a U => a = #[(.ref b)] ∧ Z.Warmed39 U.vm ∧ U.heap = h0) (fun _ _ _ _ _ => True) (fun _ U o U' => ∃ v L, o = .returned v ∧ (Qv (z >>> ((1 : Int32) &&& 31)) h0 n0) v U'.heap L ∧ FrameEnd U o U' L ({ frames := 0, cells := 0, slots := 0, locals := 0 } : Room).cells ({ frames := 0, cells := 0, slots := 0, locals := 0 } : Room).slots) := by
  refine MetFree.of_bodySF (plainFor_of_name pn_2) hisR ?_
  intro p e s m args below meth c s₁ Bd hml0 hP hK
  obtain ⟨rfl, hZ, hh⟩ := hP
  have hx := Bd.exec
  have hby := Bd.bytes
  have hml : c.maxLocals = 1 := hml0
  have hown : s.vm.findClass "java/lang/StringUTF16" = some m.cls := findClass_of_methodNamed Bd.named
  have hnm := (name_of_methodNamed Bd.named Bd.method).1
  have hlk := Bd.notSynchronized
  have X0 : Stand p l e ({ frames := 0, cells := 0, slots := 0, locals := 0 } : Room) s m #[(.ref b)] below meth c s₁ [] 0 0 := Stand.of_body Bd
  have e0 : s₁.heap = h0 := by rw [← hh, Bd.state]; rfl
  have N0 := Fr.nil n0
  show own_Ends p e below s FrameEnd (Qv (z >>> ((1 : Int32) &&& 31)) h0 n0) 0 0 (s₁.setTop (entryFrame m #[(.ref b)] 1))
  refine own_of (U' := (s₁.setTop (mkF m 0 #[.val (.ref b)] []))) (fun _ k => castTop (ef_ul m b) k) ?_
  refine own_aloadN X0 hx hby d25_0 rfl rfl ?_
  obtain ⟨cl9, Ar9, qa9, Sa9, Na9, -, -⟩ := id Vb
  have al9 := X0.arraylength hx (by rw [e0]; exact Ar9.1) (State.isArrayOf_alike hZ.alike Ar9.2.1) (g := (mkF m 1 #[.val (.ref b)] [(.ref b)])) rfl rfl (hb hby d25_1)
  rw [len_of Sa9 Na9] at al9
  refine own_of (U' := (s₁.setTop (mkF m 2 #[.val (.ref b)] [(.int z)]))) (al9) ?_
  refine own_iconst X0 hx hby 1 d25_2 rfl ?_
  refine own_ishr X0 hx hby d25_3 ?_
  exact own_retI X0 hx hlk Bd.returns (hb hby d25_4) (by decide) (by decide) (⟨rfl, N0, e0⟩)
abbrev mN_3 : MethodName := ⟨"java/lang/StringUTF16", "checkIndex", "(I[B)V"⟩
theorem pd_1 : parseMethodDescriptor "([B)I" = some ⟨[(.array .byte)], some .int⟩ := by decide +kernel
theorem pd_2 : parseMethodDescriptor "(II)V" = some ⟨[.int, .int], none⟩ := by decide +kernel
theorem d24_0 : decode jdk_52_method_91_code 0 = .ok (.iload_n 0, 1) := by decide +kernel
theorem d24_1 : decode jdk_52_method_91_code 1 = .ok (.aload_n 1, 1) := by decide +kernel
theorem d24_2 : decode jdk_52_method_91_code 2 = .ok (.invokestatic 48, 3) := by decide +kernel
theorem d24_5 : decode jdk_52_method_91_code 5 = .ok (.invokestatic 414, 3) := by decide +kernel
theorem d24_8 : decode jdk_52_method_91_code 8 = .ok (.return_, 1) := by decide +kernel
theorem ef_uk (m : MethodId) (x0 : Int32) (x1 : Addr) : entryFrame m #[(.int x0), (.ref x1)] 2 = mkF m 0 #[.val (.int x0), .val (.ref x1)] [] := by first | (simp [entryFrame, mkF, argsToLocals, Value.category]; done) | rfl
set_option maxRecDepth 65536 in
set_option maxHeartbeats 40000000 in
theorem rmuk (l : Launch) (Z : State) (a0 : Array Value) (hw : ∀ d ∈ tables_1, d.before a0 Z = true) (ws : List Jvm.Cond) (p1 : Int32) (b : Addr) (kb : ClassId) (z : Int32) (cs : List Int32) (rS : Value) (h0 : Heap) (n0 : Nat) (Z0 : n0 ≤ h0.size) (Vb : Arv Z h0 b kb .byte z (cs.map Value.int) (.int (0 : Int32))) (h1 : ¬ (p1 < (0 : Int32))) (h2 : p1 < (z >>> ((1 : Int32) &&& 31))) (SF : Sta Z h0 "jdk/internal/util/Preconditions" "SIOOBE_FORMATTER" "Ljava/util/function/BiFunction;" rS) (hrS : rS.isRef = true) :
    MetFree l mN_3 (head1 (Jvm.Cond.code mN_3 jdk_52_method_91_code 2 none :: ws) ({ frames := 2, cells := 0, slots := 0, locals := 27 } : Room)) (fun a U => a = #[(.int p1), (.ref b)] ∧ Z.Warmed39 U.vm ∧ U.heap = h0) (fun _ _ _ _ _ => True) (fun _ U o U' => ∃ v L, o = .returned v ∧ (Qn h0 n0) v U'.heap L ∧ FrameEnd U o U' L ({ frames := 2, cells := 0, slots := 0, locals := 27 } : Room).cells ({ frames := 2, cells := 0, slots := 0, locals := 27 } : Room).slots) := by
  refine MetFree.of_bodySF (plainFor_of_name pn_2) hisR ?_
  intro p e s m args below meth c s₁ Bd hml0 hP hK
  obtain ⟨rfl, hZ, hh⟩ := hP
  have hx := Bd.exec
  have hby := Bd.bytes
  have hml : c.maxLocals = 2 := hml0
  have hown : s.vm.findClass "java/lang/StringUTF16" = some m.cls := findClass_of_methodNamed Bd.named
  have hnm := (name_of_methodNamed Bd.named Bd.method).1
  have hlk := Bd.notSynchronized
  have X0 : Stand p l e ({ frames := 2, cells := 0, slots := 0, locals := 27 } : Room) s m #[(.int p1), (.ref b)] below meth c s₁ [] 0 0 := Stand.of_body Bd
  have e0 : s₁.heap = h0 := by rw [← hh, Bd.state]; rfl
  have N0 := Fr.nil n0
  show own_Ends p e below s FrameEnd (Qn h0 n0) 0 0 (s₁.setTop (entryFrame m #[(.int p1), (.ref b)] 2))
  refine own_of (U' := (s₁.setTop (mkF m 0 #[.val (.int p1), .val (.ref b)] []))) (fun _ k => castTop (ef_uk m p1 b) k) ?_
  refine own_iloadN X0 hx hby d24_0 rfl ?_
  refine own_aloadN X0 hx hby d24_1 rfl rfl ?_
  obtain ⟨_, _, ⟨T10, L10, k10, n10⟩, -, X10, ⟨Lc10, hQ10, l10, y10, z10⟩, st10⟩ := Jvm.LawKit.callS X0 hx (y := mN_2) hown (mvT hZ (own_w hw 109 rfl)) (mvT hZ (own_w hw 110 rfl)) (mvT hZ (own_w hw 51 rfl)) (mvT hZ (own_w hw 111 rfl)) (by decide) (backOf (W := 1) (rmul l Z a0 hw [] b kb z cs h0 n0 Z0 Vb) hZ (own_w hw 111 rfl) (own_w hw 51 rfl) (by decide) (by decide)) (g := (mkF m 2 #[.val (.int p1), .val (.ref b)] [(.ref b), (.int p1)])) rfl (by rw [hml]; rfl) (argsL := [(.ref b)]) (rest := [(.int p1)]) (lenOf pd_1 rfl) rfl (by show 2 * 0 + _ ≤ _; exact Nat.le_of_eq rfl) (hb hby d24_2) (fun _ _ => ⟨rfl, e0, (by decide : 0 + 0 ≤ _), (by decide : 0 + 0 ≤ _)⟩)
  dsimp only [Pt.U, Pt.locs, Pt.cells, Pt.slots] at X10 l10 y10 z10 st10 hQ10
  subst l10 y10 z10
  obtain ⟨rfl, Nq10, e10⟩ := hQ10
  have N10 := Fr.app N0 Nq10
  refine own_of (U' := (T10.setTop (mkF m 5 #[.val (.int p1), .val (.ref b)] [(.int (z >>> ((1 : Int32) &&& 31))), (.int p1)]))) (st10) ?_
  obtain ⟨_, _, ⟨T11, L11, k11, n11⟩, -, X11, ⟨Lc11, hQ11, l11, y11, z11⟩, st11⟩ := Jvm.LawKit.callS X10 hx (y := mN_1) hown (mvT hZ (own_w hw 112 rfl)) (mvT hZ (own_w hw 77 rfl)) (mvT hZ (own_w hw 10 rfl)) (mvT hZ (own_w hw 78 rfl)) (by decide) (backOf (W := 0) (rmci l Z a0 hw [] p1 (z >>> ((1 : Int32) &&& 31)) rS h0 n0 Z0 h1 h2 SF hrS) hZ (own_w hw 78 rfl) (own_w hw 10 rfl) (by decide) (by decide)) (g := (mkF m 5 #[.val (.int p1), .val (.ref b)] [(.int (z >>> ((1 : Int32) &&& 31))), (.int p1)])) rfl (by rw [hml]; rfl) (argsL := [(.int p1), (.int (z >>> ((1 : Int32) &&& 31)))]) (rest := []) (lenOf pd_2 rfl) rfl (by show 2 * 0 + _ ≤ _; exact Nat.le_of_eq rfl) (hb hby d24_5) (fun _ _ => ⟨rfl, e10, (by decide : 0 + 0 ≤ _), (by decide : 0 + 0 ≤ _)⟩)
  dsimp only [Pt.U, Pt.locs, Pt.cells, Pt.slots] at X11 l11 y11 z11 st11 hQ11
  subst l11 y11 z11
  obtain ⟨rfl, Nq11, e11⟩ := hQ11
  have N11 := Fr.app N10 Nq11
  refine own_of (U' := (T11.setTop (mkF m 8 #[.val (.int p1), .val (.ref b)] []))) (st11) ?_
  exact own_ret0 X11 hx hlk Bd.returns (hb hby d24_8) (by decide) (by decide) (⟨rfl, N11, e11⟩)
abbrev mN_4 : MethodName := ⟨"java/lang/StringUTF16", "getChar", "([BI)C"⟩
theorem d22_0 : decode jdk_52_method_5_code 0 = .ok (.getstatic 44, 3) := by decide +kernel
theorem d22_3 : decode jdk_52_method_5_code 3 = .ok (.ifCond .ne 25, 3) := by decide +kernel
theorem d22_28 : decode jdk_52_method_5_code 28 = .ok (.iload_n 1, 1) := by decide +kernel
theorem d22_29 : decode jdk_52_method_5_code 29 = .ok (.iconst 1, 1) := by decide +kernel
theorem d22_30 : decode jdk_52_method_5_code 30 = .ok (.ishl, 1) := by decide +kernel
theorem d22_31 : decode jdk_52_method_5_code 31 = .ok (.istore_n 1, 1) := by decide +kernel
theorem d22_32 : decode jdk_52_method_5_code 32 = .ok (.aload_n 0, 1) := by decide +kernel
theorem d22_33 : decode jdk_52_method_5_code 33 = .ok (.iload_n 1, 1) := by decide +kernel
theorem d22_34 : decode jdk_52_method_5_code 34 = .ok (.iinc 1 1, 3) := by decide +kernel
theorem d22_37 : decode jdk_52_method_5_code 37 = .ok (.baload, 1) := by decide +kernel
theorem d22_38 : decode jdk_52_method_5_code 38 = .ok (.sipush 255, 3) := by decide +kernel
theorem d22_41 : decode jdk_52_method_5_code 41 = .ok (.iand, 1) := by decide +kernel
theorem d22_42 : decode jdk_52_method_5_code 42 = .ok (.getstatic 59, 3) := by decide +kernel
theorem d22_45 : decode jdk_52_method_5_code 45 = .ok (.ishl, 1) := by decide +kernel
theorem d22_46 : decode jdk_52_method_5_code 46 = .ok (.aload_n 0, 1) := by decide +kernel
theorem d22_47 : decode jdk_52_method_5_code 47 = .ok (.iload_n 1, 1) := by decide +kernel
theorem d22_48 : decode jdk_52_method_5_code 48 = .ok (.baload, 1) := by decide +kernel
theorem d22_49 : decode jdk_52_method_5_code 49 = .ok (.sipush 255, 3) := by decide +kernel
theorem d22_52 : decode jdk_52_method_5_code 52 = .ok (.iand, 1) := by decide +kernel
theorem d22_53 : decode jdk_52_method_5_code 53 = .ok (.getstatic 63, 3) := by decide +kernel
theorem d22_56 : decode jdk_52_method_5_code 56 = .ok (.ishl, 1) := by decide +kernel
theorem d22_57 : decode jdk_52_method_5_code 57 = .ok (.ior, 1) := by decide +kernel
theorem d22_58 : decode jdk_52_method_5_code 58 = .ok (.i2c, 1) := by decide +kernel
theorem d22_59 : decode jdk_52_method_5_code 59 = .ok (.ireturn, 1) := by decide +kernel
theorem ef_ug (m : MethodId) (x0 : Addr) (x1 : Int32) : entryFrame m #[(.ref x0), (.int x1)] 2 = mkF m 0 #[.val (.ref x0), .val (.int x1)] [] := by first | (simp [entryFrame, mkF, argsToLocals, Value.category]; done) | rfl
set_option maxRecDepth 65536 in
set_option maxHeartbeats 40000000 in
theorem rmug (l : Launch) (Z : State) (a0 : Array Value) (hw : ∀ d ∈ tables_1, d.before a0 Z = true) (ws : List Jvm.Cond) (b : Addr) (p2 : Int32) (kb : ClassId) (z : Int32) (cs : List Int32) (h0 : Heap) (n0 : Nat) (Z0 : n0 ≤ h0.size) (Vb : Arv Z h0 b kb .byte z (cs.map Value.int) (.int (0 : Int32))) (i1 : ¬ ((p2 <<< ((1 : Int32) &&& 31)) < (0 : Int32))) (i2 : (p2 <<< ((1 : Int32) &&& 31)) < z) (i3 : ¬ (((p2 <<< ((1 : Int32) &&& 31)) + (1 : Int32)) < (0 : Int32))) (i4 : ((p2 <<< ((1 : Int32) &&& 31)) + (1 : Int32)) < z) (SA : Sta Z h0 "java/lang/StringUTF16" "$assertionsDisabled" "Z" (.int (1 : Int32))) (SHI : Sta Z h0 "java/lang/StringUTF16" "HI_BYTE_SHIFT" "I" (.int (0 : Int32))) (SLO : Sta Z h0 "java/lang/StringUTF16" "LO_BYTE_SHIFT" "I" (.int (8 : Int32))) :
    MetFree l mN_4 (head1 (Jvm.Cond.code mN_4 jdk_52_method_5_code 2 (some .char) :: ws) ({ frames := 0, cells := 0, slots := 0, locals := 0 } : Room)) (fun a U => a = #[(.ref b), (.int p2)] ∧ Z.Warmed39 U.vm ∧ U.heap = h0) (fun _ _ _ _ _ => True) (fun _ U o U' => ∃ v L, o = .returned v ∧ (Qv (own_chu cs p2) h0 n0) v U'.heap L ∧ FrameEnd U o U' L ({ frames := 0, cells := 0, slots := 0, locals := 0 } : Room).cells ({ frames := 0, cells := 0, slots := 0, locals := 0 } : Room).slots) := by
  refine MetFree.of_bodySF (plainFor_of_name pn_2) hisR ?_
  intro p e s m args below meth c s₁ Bd hml0 hP hK
  obtain ⟨rfl, hZ, hh⟩ := hP
  have hx := Bd.exec
  have hby := Bd.bytes
  have hml : c.maxLocals = 2 := hml0
  have hown : s.vm.findClass "java/lang/StringUTF16" = some m.cls := findClass_of_methodNamed Bd.named
  have hnm := (name_of_methodNamed Bd.named Bd.method).1
  have hlk := Bd.notSynchronized
  have X0 : Stand p l e ({ frames := 0, cells := 0, slots := 0, locals := 0 } : Room) s m #[(.ref b), (.int p2)] below meth c s₁ [] 0 0 := Stand.of_body Bd
  have e0 : s₁.heap = h0 := by rw [← hh, Bd.state]; rfl
  have N0 := Fr.nil n0
  show own_Ends p e below s FrameEnd (Qv (own_chu cs p2) h0 n0) 0 0 (s₁.setTop (entryFrame m #[(.ref b), (.int p2)] 2))
  refine own_of (U' := (s₁.setTop (mkF m 0 #[.val (.ref b), .val (.int p2)] []))) (fun _ k => castTop (ef_ug m b p2) k) ?_
  obtain ⟨T12, X12, e12, st12⟩ := getS2 X0 hx hZ hown (host := "") (Or.inl (own_w hw 97 rfl)) Via.refl e0 SA (g := (mkF m 0 #[.val (.ref b), .val (.int p2)] [])) rfl (hb hby d22_0)
  refine own_of (U' := (T12.setTop (mkF m 3 #[.val (.ref b), .val (.int p2)] [(.int (1 : Int32))]))) (st12) ?_
  have hc3_13 : ¬ ((1 : Int32) = (0 : Int32)) := by decide
  refine own_ifYes X12 hx hby 3 28 d22_3 ((if0 _ _).trans (feq hc3_13).2) (by decide) (by decide) ?_
  refine own_iloadN X12 hx hby d22_28 rfl ?_
  refine own_iconst X12 hx hby 1 d22_29 rfl ?_
  refine own_ishl X12 hx hby d22_30 ?_
  refine own_istoreN X12 hx hby d22_31 (l' := #[.val (.ref b), .val (.int (p2 <<< ((1 : Int32) &&& 31)))]) rfl ?_
  refine own_aloadN X12 hx hby d22_32 rfl rfl ?_
  refine own_iloadN X12 hx hby d22_33 rfl ?_
  refine own_iinc X12 hx hby d22_34 rfl (l' := #[.val (.ref b), .val (.int ((p2 <<< ((1 : Int32) &&& 31)) + (1 : Int32)))]) rfl ?_
  obtain ⟨cl14, Ar14, qa14, Sa14, Na14, Ha14, Ga14⟩ := id Vb
  have hin14 : ¬ ((p2 <<< ((1 : Int32) &&& 31)) < 0 ∨ cl14.slots.size ≤ ((p2 <<< ((1 : Int32) &&& 31))).toNatClampNeg) := inb_of Sa14 ⟨i1, i2⟩
  have hat14 : cl14.slots[((p2 <<< ((1 : Int32) &&& 31))).toNatClampNeg]? = some (.int (own_at cs (p2 <<< ((1 : Int32) &&& 31)))) := Has.at Ha14 hin14 (own_at_eq cs _)
  refine own_of (U' := (T12.setTop (mkF m 38 #[.val (.ref b), .val (.int ((p2 <<< ((1 : Int32) &&& 31)) + (1 : Int32)))] [(.int (own_at cs (p2 <<< ((1 : Int32) &&& 31))))]))) (X12.baloadBytes hx (j := (p2 <<< ((1 : Int32) &&& 31))) (v := (.int (own_at cs (p2 <<< ((1 : Int32) &&& 31))))) (by rw [e12]; exact Ar14.1) (State.isArrayOf_alike hZ.alike Ar14.2.1) Ar14.2.2 hin14 hat14 (g := (mkF m 37 #[.val (.ref b), .val (.int ((p2 <<< ((1 : Int32) &&& 31)) + (1 : Int32)))] [(.int (p2 <<< ((1 : Int32) &&& 31))), (.ref b)])) rfl rfl (hb hby d22_37)) ?_
  refine own_sipush X12 hx hby 255 d22_38 rfl ?_
  refine own_iand X12 hx hby d22_41 ?_
  obtain ⟨T15, X15, e15, st15⟩ := getS2 X12 hx hZ hown (host := "") (Or.inl (own_w hw 98 rfl)) Via.refl e12 SHI (g := (mkF m 42 #[.val (.ref b), .val (.int ((p2 <<< ((1 : Int32) &&& 31)) + (1 : Int32)))] [(.int ((own_at cs (p2 <<< ((1 : Int32) &&& 31))) &&& (255 : Int32)))])) rfl (hb hby d22_42)
  refine own_of (U' := (T15.setTop (mkF m 45 #[.val (.ref b), .val (.int ((p2 <<< ((1 : Int32) &&& 31)) + (1 : Int32)))] [(.int (0 : Int32)), (.int ((own_at cs (p2 <<< ((1 : Int32) &&& 31))) &&& (255 : Int32)))]))) (st15) ?_
  refine own_ishl X15 hx hby d22_45 ?_
  refine own_aloadN X15 hx hby d22_46 rfl rfl ?_
  refine own_iloadN X15 hx hby d22_47 rfl ?_
  obtain ⟨cl16, Ar16, qa16, Sa16, Na16, Ha16, Ga16⟩ := id Vb
  have hin16 : ¬ (((p2 <<< ((1 : Int32) &&& 31)) + (1 : Int32)) < 0 ∨ cl16.slots.size ≤ (((p2 <<< ((1 : Int32) &&& 31)) + (1 : Int32))).toNatClampNeg) := inb_of Sa16 ⟨i3, i4⟩
  have hat16 : cl16.slots[(((p2 <<< ((1 : Int32) &&& 31)) + (1 : Int32))).toNatClampNeg]? = some (.int (own_at cs ((p2 <<< ((1 : Int32) &&& 31)) + (1 : Int32)))) := Has.at Ha16 hin16 (own_at_eq cs _)
  refine own_of (U' := (T15.setTop (mkF m 49 #[.val (.ref b), .val (.int ((p2 <<< ((1 : Int32) &&& 31)) + (1 : Int32)))] [(.int (own_at cs ((p2 <<< ((1 : Int32) &&& 31)) + (1 : Int32)))), (.int (((own_at cs (p2 <<< ((1 : Int32) &&& 31))) &&& (255 : Int32)) <<< ((0 : Int32) &&& 31)))]))) (X15.baloadBytes hx (j := ((p2 <<< ((1 : Int32) &&& 31)) + (1 : Int32))) (v := (.int (own_at cs ((p2 <<< ((1 : Int32) &&& 31)) + (1 : Int32))))) (by rw [e15]; exact Ar16.1) (State.isArrayOf_alike hZ.alike Ar16.2.1) Ar16.2.2 hin16 hat16 (g := (mkF m 48 #[.val (.ref b), .val (.int ((p2 <<< ((1 : Int32) &&& 31)) + (1 : Int32)))] [(.int ((p2 <<< ((1 : Int32) &&& 31)) + (1 : Int32))), (.ref b), (.int (((own_at cs (p2 <<< ((1 : Int32) &&& 31))) &&& (255 : Int32)) <<< ((0 : Int32) &&& 31)))])) rfl rfl (hb hby d22_48)) ?_
  refine own_sipush X15 hx hby 255 d22_49 rfl ?_
  refine own_iand X15 hx hby d22_52 ?_
  obtain ⟨T17, X17, e17, st17⟩ := getS2 X15 hx hZ hown (host := "") (Or.inl (own_w hw 99 rfl)) Via.refl e15 SLO (g := (mkF m 53 #[.val (.ref b), .val (.int ((p2 <<< ((1 : Int32) &&& 31)) + (1 : Int32)))] [(.int ((own_at cs ((p2 <<< ((1 : Int32) &&& 31)) + (1 : Int32))) &&& (255 : Int32))), (.int (((own_at cs (p2 <<< ((1 : Int32) &&& 31))) &&& (255 : Int32)) <<< ((0 : Int32) &&& 31)))])) rfl (hb hby d22_53)
  refine own_of (U' := (T17.setTop (mkF m 56 #[.val (.ref b), .val (.int ((p2 <<< ((1 : Int32) &&& 31)) + (1 : Int32)))] [(.int (8 : Int32)), (.int ((own_at cs ((p2 <<< ((1 : Int32) &&& 31)) + (1 : Int32))) &&& (255 : Int32))), (.int (((own_at cs (p2 <<< ((1 : Int32) &&& 31))) &&& (255 : Int32)) <<< ((0 : Int32) &&& 31)))]))) (st17) ?_
  refine own_ishl X17 hx hby d22_56 ?_
  refine own_ior X17 hx hby d22_57 ?_
  refine own_i2c X17 hx hby d22_58 ?_
  exact own_retN X17 hx hlk (t := .char) Bd.returns (by simp) (hb hby d22_59) (by decide) (by decide) (⟨rfl, N0, e17⟩)
abbrev mN_5 : MethodName := ⟨"java/lang/StringUTF16", "charAt", "([BI)C"⟩
theorem pd_3 : parseMethodDescriptor "(I[B)V" = some ⟨[.int, (.array .byte)], none⟩ := by decide +kernel
theorem pd_4 : parseMethodDescriptor "([BI)C" = some ⟨[(.array .byte), .int], some .char⟩ := by decide +kernel
theorem d23_0 : decode jdk_52_method_83_code 0 = .ok (.iload_n 1, 1) := by decide +kernel
theorem d23_1 : decode jdk_52_method_83_code 1 = .ok (.aload_n 0, 1) := by decide +kernel
theorem d23_2 : decode jdk_52_method_83_code 2 = .ok (.invokestatic 67, 3) := by decide +kernel
theorem d23_5 : decode jdk_52_method_83_code 5 = .ok (.aload_n 0, 1) := by decide +kernel
theorem d23_6 : decode jdk_52_method_83_code 6 = .ok (.iload_n 1, 1) := by decide +kernel
theorem d23_7 : decode jdk_52_method_83_code 7 = .ok (.invokestatic 71, 3) := by decide +kernel
theorem d23_10 : decode jdk_52_method_83_code 10 = .ok (.ireturn, 1) := by decide +kernel
theorem ef_uc (m : MethodId) (x0 : Addr) (x1 : Int32) : entryFrame m #[(.ref x0), (.int x1)] 2 = mkF m 0 #[.val (.ref x0), .val (.int x1)] [] := by first | (simp [entryFrame, mkF, argsToLocals, Value.category]; done) | rfl
set_option maxRecDepth 65536 in
set_option maxHeartbeats 40000000 in
theorem rmuc (l : Launch) (Z : State) (a0 : Array Value) (hw : ∀ d ∈ tables_1, d.before a0 Z = true) (ws : List Jvm.Cond) (b : Addr) (p2 : Int32) (kb : ClassId) (z : Int32) (cs : List Int32) (rS : Value) (h0 : Heap) (n0 : Nat) (Z0 : n0 ≤ h0.size) (Vb : Arv Z h0 b kb .byte z (cs.map Value.int) (.int (0 : Int32))) (h1 : ¬ (p2 < (0 : Int32))) (h2 : p2 < (z >>> ((1 : Int32) &&& 31))) (i1 : ¬ ((p2 <<< ((1 : Int32) &&& 31)) < (0 : Int32))) (i2 : (p2 <<< ((1 : Int32) &&& 31)) < z) (i3 : ¬ (((p2 <<< ((1 : Int32) &&& 31)) + (1 : Int32)) < (0 : Int32))) (i4 : ((p2 <<< ((1 : Int32) &&& 31)) + (1 : Int32)) < z) (SA : Sta Z h0 "java/lang/StringUTF16" "$assertionsDisabled" "Z" (.int (1 : Int32))) (SHI : Sta Z h0 "java/lang/StringUTF16" "HI_BYTE_SHIFT" "I" (.int (0 : Int32))) (SLO : Sta Z h0 "java/lang/StringUTF16" "LO_BYTE_SHIFT" "I" (.int (8 : Int32))) (SF : Sta Z h0 "jdk/internal/util/Preconditions" "SIOOBE_FORMATTER" "Ljava/util/function/BiFunction;" rS) (hrS : rS.isRef = true) :
    MetFree l mN_5 (head1 (Jvm.Cond.code mN_5 jdk_52_method_83_code 2 (some .char) :: ws) ({ frames := 3, cells := 0, slots := 0, locals := 40 } : Room)) (fun a U => a = #[(.ref b), (.int p2)] ∧ Z.Warmed39 U.vm ∧ U.heap = h0) (fun _ _ _ _ _ => True) (fun _ U o U' => ∃ v L, o = .returned v ∧ (Qv (own_chu cs p2) h0 n0) v U'.heap L ∧ FrameEnd U o U' L ({ frames := 3, cells := 0, slots := 0, locals := 40 } : Room).cells ({ frames := 3, cells := 0, slots := 0, locals := 40 } : Room).slots) := by
  refine MetFree.of_bodySF (plainFor_of_name pn_2) hisR ?_
  intro p e s m args below meth c s₁ Bd hml0 hP hK
  obtain ⟨rfl, hZ, hh⟩ := hP
  have hx := Bd.exec
  have hby := Bd.bytes
  have hml : c.maxLocals = 2 := hml0
  have hown : s.vm.findClass "java/lang/StringUTF16" = some m.cls := findClass_of_methodNamed Bd.named
  have hnm := (name_of_methodNamed Bd.named Bd.method).1
  have hlk := Bd.notSynchronized
  have X0 : Stand p l e ({ frames := 3, cells := 0, slots := 0, locals := 40 } : Room) s m #[(.ref b), (.int p2)] below meth c s₁ [] 0 0 := Stand.of_body Bd
  have e0 : s₁.heap = h0 := by rw [← hh, Bd.state]; rfl
  have N0 := Fr.nil n0
  show own_Ends p e below s FrameEnd (Qv (own_chu cs p2) h0 n0) 0 0 (s₁.setTop (entryFrame m #[(.ref b), (.int p2)] 2))
  refine own_of (U' := (s₁.setTop (mkF m 0 #[.val (.ref b), .val (.int p2)] []))) (fun _ k => castTop (ef_uc m b p2) k) ?_
  refine own_iloadN X0 hx hby d23_0 rfl ?_
  refine own_aloadN X0 hx hby d23_1 rfl rfl ?_
  obtain ⟨_, _, ⟨T18, L18, k18, n18⟩, -, X18, ⟨Lc18, hQ18, l18, y18, z18⟩, st18⟩ := Jvm.LawKit.callS X0 hx (y := mN_3) hown (mvT hZ (own_w hw 106 rfl)) (mvT hZ (own_w hw 107 rfl)) (mvT hZ (own_w hw 51 rfl)) (mvT hZ (own_w hw 108 rfl)) (by decide) (backOf (W := 0) (rmuk l Z a0 hw [] p2 b kb z cs rS h0 n0 Z0 Vb h1 h2 SF hrS) hZ (own_w hw 108 rfl) (own_w hw 51 rfl) (by decide) (by decide)) (g := (mkF m 2 #[.val (.ref b), .val (.int p2)] [(.ref b), (.int p2)])) rfl (by rw [hml]; rfl) (argsL := [(.int p2), (.ref b)]) (rest := []) (lenOf pd_3 rfl) rfl (by show 2 * 0 + _ ≤ _; exact Nat.le_of_eq rfl) (hb hby d23_2) (fun _ _ => ⟨rfl, e0, (by decide : 0 + 0 ≤ _), (by decide : 0 + 0 ≤ _)⟩)
  dsimp only [Pt.U, Pt.locs, Pt.cells, Pt.slots] at X18 l18 y18 z18 st18 hQ18
  subst l18 y18 z18
  obtain ⟨rfl, Nq18, e18⟩ := hQ18
  have N18 := Fr.app N0 Nq18
  refine own_of (U' := (T18.setTop (mkF m 5 #[.val (.ref b), .val (.int p2)] []))) (st18) ?_
  refine own_aloadN X18 hx hby d23_5 rfl rfl ?_
  refine own_iloadN X18 hx hby d23_6 rfl ?_
  obtain ⟨_, _, ⟨T19, L19, k19, n19⟩, -, X19, ⟨Lc19, hQ19, l19, y19, z19⟩, st19⟩ := Jvm.LawKit.callS X18 hx (y := mN_4) hown (mvT hZ (own_w hw 100 rfl)) (mvT hZ (own_w hw 101 rfl)) (mvT hZ (own_w hw 51 rfl)) (mvT hZ (own_w hw 102 rfl)) (by decide) (backOf (W := 0) (rmug l Z a0 hw [] b p2 kb z cs h0 n0 Z0 Vb i1 i2 i3 i4 SA SHI SLO) hZ (own_w hw 102 rfl) (own_w hw 51 rfl) (by decide) (by decide)) (g := (mkF m 7 #[.val (.ref b), .val (.int p2)] [(.int p2), (.ref b)])) rfl (by rw [hml]; rfl) (argsL := [(.ref b), (.int p2)]) (rest := []) (lenOf pd_4 rfl) rfl (by show 2 * 0 + _ ≤ _; exact Nat.le_of_eq rfl) (hb hby d23_7) (fun _ _ => ⟨rfl, e18, (by decide : 0 + 0 ≤ _), (by decide : 0 + 0 ≤ _)⟩)
  dsimp only [Pt.U, Pt.locs, Pt.cells, Pt.slots] at X19 l19 y19 z19 st19 hQ19
  subst l19 y19 z19
  obtain ⟨rfl, Nq19, e19⟩ := hQ19
  have N19 := Fr.app N18 Nq19
  refine own_of (U' := (T19.setTop (mkF m 10 #[.val (.ref b), .val (.int p2)] [(.int (own_chu cs p2))]))) (st19) ?_
  exact own_retN X19 hx hlk (t := .char) Bd.returns (by simp) (hb hby d23_10) (by decide) (by decide) (⟨congrArg (fun z => some (Value.int z)) (own_nar2 _), N19, e19⟩)
abbrev mN_6 : MethodName := ⟨"java/lang/String", "isLatin1", "()Z"⟩
theorem d14_0 : decode jdk_42_method_154_code 0 = .ok (.getstatic 38, 3) := by decide +kernel
theorem d14_3 : decode jdk_42_method_154_code 3 = .ok (.ifCond .eq 14, 3) := by decide +kernel
theorem d14_6 : decode jdk_42_method_154_code 6 = .ok (.aload_n 0, 1) := by decide +kernel
theorem d14_7 : decode jdk_42_method_154_code 7 = .ok (.getfield 15, 3) := by decide +kernel
theorem d14_10 : decode jdk_42_method_154_code 10 = .ok (.ifCond .ne 7, 3) := by decide +kernel
theorem d14_17 : decode jdk_42_method_154_code 17 = .ok (.iconst 0, 1) := by decide +kernel
theorem d14_18 : decode jdk_42_method_154_code 18 = .ok (.ireturn, 1) := by decide +kernel
theorem ef_ilU (m : MethodId) (x0 : Addr) : entryFrame m #[(.ref x0)] 1 = mkF m 0 #[.val (.ref x0)] [] := by first | (simp [entryFrame, mkF, argsToLocals, Value.category]; done) | rfl
set_option maxRecDepth 65536 in
set_option maxHeartbeats 40000000 in
theorem rmilU (l : Launch) (Z : State) (a0 : Array Value) (hw : ∀ d ∈ tables_1, d.before a0 Z = true) (ws : List Jvm.Cond) (a1 : Addr) (g1 : Int32) (h0 : Heap) (n0 : Nat) (Z0 : n0 ≤ h0.size) (Fc : Fld Z h0 a1 "java/lang/String" "coder" "B" (.int (1 : Int32))) (SC : Sta Z h0 "java/lang/String" "COMPACT_STRINGS" "Z" (.int g1)) (hg1 : ¬ (g1 = (0 : Int32))) :
    MetFree l mN_6 (head1 (Jvm.Cond.code mN_6 jdk_42_method_154_code 1 (some .boolean) :: ws) ({ frames := 0, cells := 0, slots := 0, locals := 0 } : Room)) (fun a U => a = #[(.ref a1)] ∧ Z.Warmed39 U.vm ∧ U.heap = h0) (fun _ _ _ _ _ => True) (fun _ U o U' => ∃ v L, o = .returned v ∧ (Qv 0 h0 n0) v U'.heap L ∧ FrameEnd U o U' L ({ frames := 0, cells := 0, slots := 0, locals := 0 } : Room).cells ({ frames := 0, cells := 0, slots := 0, locals := 0 } : Room).slots) := by
  refine MetFree.of_bodySF (plainFor_of_name pn_1) hisR ?_
  intro p e s m args below meth c s₁ Bd hml0 hP hK
  obtain ⟨rfl, hZ, hh⟩ := hP
  have hx := Bd.exec
  have hby := Bd.bytes
  have hml : c.maxLocals = 1 := hml0
  have hown : s.vm.findClass "java/lang/String" = some m.cls := findClass_of_methodNamed Bd.named
  have hnm := (name_of_methodNamed Bd.named Bd.method).1
  have hlk := Bd.notSynchronized
  have X0 : Stand p l e ({ frames := 0, cells := 0, slots := 0, locals := 0 } : Room) s m #[(.ref a1)] below meth c s₁ [] 0 0 := Stand.of_body Bd
  have e0 : s₁.heap = h0 := by rw [← hh, Bd.state]; rfl
  have N0 := Fr.nil n0
  show own_Ends p e below s FrameEnd (Qv 0 h0 n0) 0 0 (s₁.setTop (entryFrame m #[(.ref a1)] 1))
  refine own_of (U' := (s₁.setTop (mkF m 0 #[.val (.ref a1)] []))) (fun _ k => castTop (ef_ilU m a1) k) ?_
  obtain ⟨T20, X20, e20, st20⟩ := getS2 X0 hx hZ hown (host := "") (Or.inl (own_w hw 48 rfl)) Via.refl e0 SC (g := (mkF m 0 #[.val (.ref a1)] [])) rfl (hb hby d14_0)
  refine own_of (U' := (T20.setTop (mkF m 3 #[.val (.ref a1)] [(.int g1)]))) (st20) ?_
  have hc3_21 : ¬ (g1 = (0 : Int32)) := hg1
  refine own_ifNo X20 hx hby d14_3 ((if0 _ _).trans (feq hc3_21).1) ?_
  refine own_aloadN X20 hx hby d14_6 rfl rfl ?_
  obtain ⟨T22, X22, e22, st22⟩ := getF X20 hx hZ hown (host := "") (Or.inl (own_w hw 28 rfl)) Via.refl e20 Fc (g := (mkF m 7 #[.val (.ref a1)] [(.ref a1)])) rfl rfl (hb hby d14_7)
  refine own_of (U' := (T22.setTop (mkF m 10 #[.val (.ref a1)] [(.int (1 : Int32))]))) (st22) ?_
  have hc10_23 : ¬ ((1 : Int32) = (0 : Int32)) := by decide
  refine own_ifYes X22 hx hby 10 17 d14_10 ((if0 _ _).trans (feq hc10_23).2) (by decide) (by decide) ?_
  refine own_iconst X22 hx hby 0 d14_17 rfl ?_
  exact own_retN X22 hx hlk (t := .boolean) Bd.returns (by simp) (hb hby d14_18) (by decide) (by decide) (⟨rfl, N0, e22⟩)
abbrev mN_7 : MethodName := ⟨"java/lang/String", "charAt", "(I)C"⟩
theorem pd_5 : parseMethodDescriptor "()Z" = some ⟨[], some .boolean⟩ := by decide +kernel
theorem d13_0 : decode jdk_42_method_56_code 0 = .ok (.aload_n 0, 1) := by decide +kernel
theorem d13_1 : decode jdk_42_method_56_code 1 = .ok (.invokevirtual 492, 3) := by decide +kernel
theorem d13_4 : decode jdk_42_method_56_code 4 = .ok (.ifCond .eq 12, 3) := by decide +kernel
theorem d13_16 : decode jdk_42_method_56_code 16 = .ok (.aload_n 0, 1) := by decide +kernel
theorem d13_17 : decode jdk_42_method_56_code 17 = .ok (.getfield 9, 3) := by decide +kernel
theorem d13_20 : decode jdk_42_method_56_code 20 = .ok (.iload_n 1, 1) := by decide +kernel
theorem d13_21 : decode jdk_42_method_56_code 21 = .ok (.invokestatic 498, 3) := by decide +kernel
theorem d13_24 : decode jdk_42_method_56_code 24 = .ok (.ireturn, 1) := by decide +kernel
theorem ef_cu (m : MethodId) (x0 : Addr) (x1 : Int32) : entryFrame m #[(.ref x0), (.int x1)] 2 = mkF m 0 #[.val (.ref x0), .val (.int x1)] [] := by first | (simp [entryFrame, mkF, argsToLocals, Value.category]; done) | rfl
set_option maxRecDepth 65536 in
set_option maxHeartbeats 40000000 in
theorem rmcu (l : Launch) (Z : State) (a0 : Array Value) (hw : ∀ d ∈ tables_1, d.before a0 Z = true) (ws : List Jvm.Cond) (a1 : Addr) (p2 : Int32) (g1 : Int32) (b : Addr) (kb : ClassId) (z : Int32) (cs : List Int32) (rS : Value) (h0 : Heap) (n0 : Nat) (Z0 : n0 ≤ h0.size) (E1 : Exa Z h0 a1 "java/lang/String") (Fc : Fld Z h0 a1 "java/lang/String" "coder" "B" (.int (1 : Int32))) (Fv : Fld Z h0 a1 "java/lang/String" "value" "[B" (.ref b)) (Vb : Arv Z h0 b kb .byte z (cs.map Value.int) (.int (0 : Int32))) (h1 : ¬ (p2 < (0 : Int32))) (h2 : p2 < (z >>> ((1 : Int32) &&& 31))) (i1 : ¬ ((p2 <<< ((1 : Int32) &&& 31)) < (0 : Int32))) (i2 : (p2 <<< ((1 : Int32) &&& 31)) < z) (i3 : ¬ (((p2 <<< ((1 : Int32) &&& 31)) + (1 : Int32)) < (0 : Int32))) (i4 : ((p2 <<< ((1 : Int32) &&& 31)) + (1 : Int32)) < z) (SC : Sta Z h0 "java/lang/String" "COMPACT_STRINGS" "Z" (.int g1)) (hg1 : ¬ (g1 = (0 : Int32))) (SA : Sta Z h0 "java/lang/StringUTF16" "$assertionsDisabled" "Z" (.int (1 : Int32))) (SHI : Sta Z h0 "java/lang/StringUTF16" "HI_BYTE_SHIFT" "I" (.int (0 : Int32))) (SLO : Sta Z h0 "java/lang/StringUTF16" "LO_BYTE_SHIFT" "I" (.int (8 : Int32))) (SF : Sta Z h0 "jdk/internal/util/Preconditions" "SIOOBE_FORMATTER" "Ljava/util/function/BiFunction;" rS) (hrS : rS.isRef = true) :
    MetFree l mN_7 (head1 (Jvm.Cond.code mN_7 jdk_42_method_56_code 2 (some .char) :: ws) ({ frames := 4, cells := 0, slots := 0, locals := 53 } : Room)) (fun a U => a = #[(.ref a1), (.int p2)] ∧ Z.Warmed39 U.vm ∧ U.heap = h0) (fun _ _ _ _ _ => True) (fun _ U o U' => ∃ v L, o = .returned v ∧ (Qv (own_chu cs p2) h0 n0) v U'.heap L ∧ FrameEnd U o U' L ({ frames := 4, cells := 0, slots := 0, locals := 53 } : Room).cells ({ frames := 4, cells := 0, slots := 0, locals := 53 } : Room).slots) := by
  refine MetFree.of_bodySF (plainFor_of_name pn_1) hisR ?_
  intro p e s m args below meth c s₁ Bd hml0 hP hK
  obtain ⟨rfl, hZ, hh⟩ := hP
  have hx := Bd.exec
  have hby := Bd.bytes
  have hml : c.maxLocals = 2 := hml0
  have hown : s.vm.findClass "java/lang/String" = some m.cls := findClass_of_methodNamed Bd.named
  have hnm := (name_of_methodNamed Bd.named Bd.method).1
  have hlk := Bd.notSynchronized
  have X0 : Stand p l e ({ frames := 4, cells := 0, slots := 0, locals := 53 } : Room) s m #[(.ref a1), (.int p2)] below meth c s₁ [] 0 0 := Stand.of_body Bd
  have e0 : s₁.heap = h0 := by rw [← hh, Bd.state]; rfl
  have N0 := Fr.nil n0
  show own_Ends p e below s FrameEnd (Qv (own_chu cs p2) h0 n0) 0 0 (s₁.setTop (entryFrame m #[(.ref a1), (.int p2)] 2))
  refine own_of (U' := (s₁.setTop (mkF m 0 #[.val (.ref a1), .val (.int p2)] []))) (fun _ k => castTop (ef_cu m a1 p2) k) ?_
  refine own_aloadN X0 hx hby d13_0 rfl rfl ?_
  obtain ⟨cq24, kq24, q24a, q24b, q24c⟩ := isOf hZ e0 E1
  obtain ⟨_, _, ⟨T24, L24, k24, n24⟩, -, X24, ⟨Lc24, hQ24, l24, y24, z24⟩, st24⟩ := X0.virtualBack hx (y := mN_6) (z := mN_6) hown (mvT hZ (own_w hw 67 rfl)) (mvT hZ (own_w hw 68 rfl)) (notFace_of_selects (args := #[]) (mvT hZ (own_w hw 70 rfl))) (mvT hZ (own_w hw 70 rfl)) (mvT hZ (own_w hw 69 rfl)) (by decide) (backOf (W := 0) (rmilU l Z a0 hw [] a1 g1 h0 n0 Z0 Fc SC hg1) hZ (own_w hw 71 rfl) (own_w hw 10 rfl) (by decide) (by decide)) q24a q24c (g := (mkF m 1 #[.val (.ref a1), .val (.int p2)] [(.ref a1)])) rfl (by rw [hml]; rfl) (Steps.refl _) (argsL := []) (rest := []) (lenOf pd_5 rfl) rfl (by show 2 * 0 + _ ≤ _; exact Nat.le_of_eq rfl) (hb hby d13_1) (fun _ _ => ⟨rfl, e0, (by decide : 0 + 0 ≤ _), (by decide : 0 + 0 ≤ _)⟩)
  dsimp only [Pt.U, Pt.locs, Pt.cells, Pt.slots] at X24 l24 y24 z24 st24 hQ24
  subst l24 y24 z24
  obtain ⟨rfl, Nq24, e24⟩ := hQ24
  have N24 := Fr.app N0 Nq24
  refine own_of (U' := (T24.setTop (mkF m 4 #[.val (.ref a1), .val (.int p2)] [(.int (0 : Int32))]))) (fun _ k => st24.trans k) ?_
  have hc4_25 : (0 : Int32) = (0 : Int32) := by decide
  refine own_ifYes X24 hx hby 4 16 d13_4 ((if0 _ _).trans (teq hc4_25).1) (by decide) (by decide) ?_
  refine own_aloadN X24 hx hby d13_16 rfl rfl ?_
  obtain ⟨T26, X26, e26, st26⟩ := getF X24 hx hZ hown (host := "") (Or.inl (own_w hw 27 rfl)) Via.refl e24 Fv (g := (mkF m 17 #[.val (.ref a1), .val (.int p2)] [(.ref a1)])) rfl rfl (hb hby d13_17)
  refine own_of (U' := (T26.setTop (mkF m 20 #[.val (.ref a1), .val (.int p2)] [(.ref b)]))) (st26) ?_
  refine own_iloadN X26 hx hby d13_20 rfl ?_
  obtain ⟨_, _, ⟨T27, L27, k27, n27⟩, -, X27, ⟨Lc27, hQ27, l27, y27, z27⟩, st27⟩ := Jvm.LawKit.callS X26 hx (y := mN_5) hown (mvT hZ (own_w hw 103 rfl)) (mvT hZ (own_w hw 104 rfl)) (mvT hZ (own_w hw 51 rfl)) (mvT hZ (own_w hw 105 rfl)) (by decide) (backOf (W := 0) (rmuc l Z a0 hw [] b p2 kb z cs rS h0 n0 Z0 Vb h1 h2 i1 i2 i3 i4 SA SHI SLO SF hrS) hZ (own_w hw 105 rfl) (own_w hw 51 rfl) (by decide) (by decide)) (g := (mkF m 21 #[.val (.ref a1), .val (.int p2)] [(.int p2), (.ref b)])) rfl (by rw [hml]; rfl) (argsL := [(.ref b), (.int p2)]) (rest := []) (lenOf pd_4 rfl) rfl (by show 2 * 0 + _ ≤ _; exact Nat.le_of_eq rfl) (hb hby d13_21) (fun _ _ => ⟨rfl, e26, (by decide : 0 + 0 ≤ _), (by decide : 0 + 0 ≤ _)⟩)
  dsimp only [Pt.U, Pt.locs, Pt.cells, Pt.slots] at X27 l27 y27 z27 st27 hQ27
  subst l27 y27 z27
  obtain ⟨rfl, Nq27, e27⟩ := hQ27
  have N27 := Fr.app N24 Nq27
  refine own_of (U' := (T27.setTop (mkF m 24 #[.val (.ref a1), .val (.int p2)] [(.int (own_chu cs p2))]))) (st27) ?_
  exact own_retN X27 hx hlk (t := .char) Bd.returns (by simp) (hb hby d13_24) (by decide) (by decide) (⟨congrArg (fun z => some (Value.int z)) (own_nar2 _), N27, e27⟩)
abbrev mN_8 : MethodName := ⟨"java/lang/StringLatin1", "charAt", "([BI)C"⟩
theorem d15_0 : decode jdk_43_method_2_code 0 = .ok (.iload_n 1, 1) := by decide +kernel
theorem d15_1 : decode jdk_43_method_2_code 1 = .ok (.aload_n 0, 1) := by decide +kernel
theorem d15_2 : decode jdk_43_method_2_code 2 = .ok (.arraylength, 1) := by decide +kernel
theorem d15_3 : decode jdk_43_method_2_code 3 = .ok (.invokestatic 9, 3) := by decide +kernel
theorem d15_6 : decode jdk_43_method_2_code 6 = .ok (.aload_n 0, 1) := by decide +kernel
theorem d15_7 : decode jdk_43_method_2_code 7 = .ok (.iload_n 1, 1) := by decide +kernel
theorem d15_8 : decode jdk_43_method_2_code 8 = .ok (.baload, 1) := by decide +kernel
theorem d15_9 : decode jdk_43_method_2_code 9 = .ok (.sipush 255, 3) := by decide +kernel
theorem d15_12 : decode jdk_43_method_2_code 12 = .ok (.iand, 1) := by decide +kernel
theorem d15_13 : decode jdk_43_method_2_code 13 = .ok (.i2c, 1) := by decide +kernel
theorem d15_14 : decode jdk_43_method_2_code 14 = .ok (.ireturn, 1) := by decide +kernel
theorem pn_3 : plainName "java/lang/StringLatin1" = true := by first | (simp [plainName, overriddenIn]; done) | decide +kernel
theorem ef_lc (m : MethodId) (x0 : Addr) (x1 : Int32) : entryFrame m #[(.ref x0), (.int x1)] 2 = mkF m 0 #[.val (.ref x0), .val (.int x1)] [] := by first | (simp [entryFrame, mkF, argsToLocals, Value.category]; done) | rfl
set_option maxRecDepth 65536 in
set_option maxHeartbeats 40000000 in
theorem rmlc (l : Launch) (Z : State) (a0 : Array Value) (hw : ∀ d ∈ tables_1, d.before a0 Z = true) (ws : List Jvm.Cond) (b : Addr) (p2 : Int32) (kb : ClassId) (z : Int32) (cs : List Int32) (rS : Value) (h0 : Heap) (n0 : Nat) (Z0 : n0 ≤ h0.size) (Vb : Arv Z h0 b kb .byte z (cs.map Value.int) (.int (0 : Int32))) (h1 : ¬ (p2 < (0 : Int32))) (h2 : p2 < z) (SF : Sta Z h0 "jdk/internal/util/Preconditions" "SIOOBE_FORMATTER" "Ljava/util/function/BiFunction;" rS) (hrS : rS.isRef = true) :
    MetFree l mN_8 (head1 (Jvm.Cond.code mN_8 jdk_43_method_2_code 2 (some .char) :: ws) ({ frames := 2, cells := 0, slots := 0, locals := 27 } : Room)) (fun a U => a = #[(.ref b), (.int p2)] ∧ Z.Warmed39 U.vm ∧ U.heap = h0) (fun _ _ _ _ _ => True) (fun _ U o U' => ∃ v L, o = .returned v ∧ (Qv (own_ch cs p2) h0 n0) v U'.heap L ∧ FrameEnd U o U' L ({ frames := 2, cells := 0, slots := 0, locals := 27 } : Room).cells ({ frames := 2, cells := 0, slots := 0, locals := 27 } : Room).slots) := by
  refine MetFree.of_bodySF (plainFor_of_name pn_3) hisR ?_
  intro p e s m args below meth c s₁ Bd hml0 hP hK
  obtain ⟨rfl, hZ, hh⟩ := hP
  have hx := Bd.exec
  have hby := Bd.bytes
  have hml : c.maxLocals = 2 := hml0
  have hown : s.vm.findClass "java/lang/StringLatin1" = some m.cls := findClass_of_methodNamed Bd.named
  have hnm := (name_of_methodNamed Bd.named Bd.method).1
  have hlk := Bd.notSynchronized
  have X0 : Stand p l e ({ frames := 2, cells := 0, slots := 0, locals := 27 } : Room) s m #[(.ref b), (.int p2)] below meth c s₁ [] 0 0 := Stand.of_body Bd
  have e0 : s₁.heap = h0 := by rw [← hh, Bd.state]; rfl
  have N0 := Fr.nil n0
  show own_Ends p e below s FrameEnd (Qv (own_ch cs p2) h0 n0) 0 0 (s₁.setTop (entryFrame m #[(.ref b), (.int p2)] 2))
  refine own_of (U' := (s₁.setTop (mkF m 0 #[.val (.ref b), .val (.int p2)] []))) (fun _ k => castTop (ef_lc m b p2) k) ?_
  refine own_iloadN X0 hx hby d15_0 rfl ?_
  refine own_aloadN X0 hx hby d15_1 rfl rfl ?_
  obtain ⟨cl28, Ar28, qa28, Sa28, Na28, -, -⟩ := id Vb
  have al28 := X0.arraylength hx (by rw [e0]; exact Ar28.1) (State.isArrayOf_alike hZ.alike Ar28.2.1) (g := (mkF m 2 #[.val (.ref b), .val (.int p2)] [(.ref b), (.int p2)])) rfl rfl (hb hby d15_2)
  rw [len_of Sa28 Na28] at al28
  refine own_of (U' := (s₁.setTop (mkF m 3 #[.val (.ref b), .val (.int p2)] [(.int z), (.int p2)]))) (al28) ?_
  obtain ⟨_, _, ⟨T29, L29, k29, n29⟩, -, X29, ⟨Lc29, hQ29, l29, y29, z29⟩, st29⟩ := Jvm.LawKit.callS X0 hx (y := mN_1) hown (mvT hZ (own_w hw 76 rfl)) (mvT hZ (own_w hw 77 rfl)) (mvT hZ (own_w hw 10 rfl)) (mvT hZ (own_w hw 78 rfl)) (by decide) (backOf (W := 0) (rmci l Z a0 hw [] p2 z rS h0 n0 Z0 h1 h2 SF hrS) hZ (own_w hw 78 rfl) (own_w hw 10 rfl) (by decide) (by decide)) (g := (mkF m 3 #[.val (.ref b), .val (.int p2)] [(.int z), (.int p2)])) rfl (by rw [hml]; rfl) (argsL := [(.int p2), (.int z)]) (rest := []) (lenOf pd_2 rfl) rfl (by show 2 * 0 + _ ≤ _; exact Nat.le_of_eq rfl) (hb hby d15_3) (fun _ _ => ⟨rfl, e0, (by decide : 0 + 0 ≤ _), (by decide : 0 + 0 ≤ _)⟩)
  dsimp only [Pt.U, Pt.locs, Pt.cells, Pt.slots] at X29 l29 y29 z29 st29 hQ29
  subst l29 y29 z29
  obtain ⟨rfl, Nq29, e29⟩ := hQ29
  have N29 := Fr.app N0 Nq29
  refine own_of (U' := (T29.setTop (mkF m 6 #[.val (.ref b), .val (.int p2)] []))) (st29) ?_
  refine own_aloadN X29 hx hby d15_6 rfl rfl ?_
  refine own_iloadN X29 hx hby d15_7 rfl ?_
  obtain ⟨cl30, Ar30, qa30, Sa30, Na30, Ha30, Ga30⟩ := id Vb
  have hin30 : ¬ (p2 < 0 ∨ cl30.slots.size ≤ (p2).toNatClampNeg) := inb_of Sa30 ⟨h1, h2⟩
  have hat30 : cl30.slots[(p2).toNatClampNeg]? = some (.int (own_at cs p2)) := Has.at Ha30 hin30 (own_at_eq cs _)
  refine own_of (U' := (T29.setTop (mkF m 9 #[.val (.ref b), .val (.int p2)] [(.int (own_at cs p2))]))) (X29.baloadBytes hx (j := p2) (v := (.int (own_at cs p2))) (by rw [e29]; exact Ar30.1) (State.isArrayOf_alike hZ.alike Ar30.2.1) Ar30.2.2 hin30 hat30 (g := (mkF m 8 #[.val (.ref b), .val (.int p2)] [(.int p2), (.ref b)])) rfl rfl (hb hby d15_8)) ?_
  refine own_sipush X29 hx hby 255 d15_9 rfl ?_
  refine own_iand X29 hx hby d15_12 ?_
  refine own_i2c X29 hx hby d15_13 ?_
  exact own_retN X29 hx hlk (t := .char) Bd.returns (by simp) (hb hby d15_14) (by decide) (by decide) (⟨rfl, N29, e29⟩)
theorem d14_13 : decode jdk_42_method_154_code 13 = .ok (.iconst 1, 1) := by decide +kernel
theorem d14_14 : decode jdk_42_method_154_code 14 = .ok (.goto 4, 3) := by decide +kernel
theorem ef_ilL (m : MethodId) (x0 : Addr) : entryFrame m #[(.ref x0)] 1 = mkF m 0 #[.val (.ref x0)] [] := by first | (simp [entryFrame, mkF, argsToLocals, Value.category]; done) | rfl
set_option maxRecDepth 65536 in
set_option maxHeartbeats 40000000 in
theorem rmilL (l : Launch) (Z : State) (a0 : Array Value) (hw : ∀ d ∈ tables_1, d.before a0 Z = true) (ws : List Jvm.Cond) (a1 : Addr) (g1 : Int32) (h0 : Heap) (n0 : Nat) (Z0 : n0 ≤ h0.size) (Fc : Fld Z h0 a1 "java/lang/String" "coder" "B" (.int (0 : Int32))) (SC : Sta Z h0 "java/lang/String" "COMPACT_STRINGS" "Z" (.int g1)) (hg1 : ¬ (g1 = (0 : Int32))) :
    MetFree l mN_6 (head1 (Jvm.Cond.code mN_6 jdk_42_method_154_code 1 (some .boolean) :: ws) ({ frames := 0, cells := 0, slots := 0, locals := 0 } : Room)) (fun a U => a = #[(.ref a1)] ∧ Z.Warmed39 U.vm ∧ U.heap = h0) (fun _ _ _ _ _ => True) (fun _ U o U' => ∃ v L, o = .returned v ∧ (Qv 1 h0 n0) v U'.heap L ∧ FrameEnd U o U' L ({ frames := 0, cells := 0, slots := 0, locals := 0 } : Room).cells ({ frames := 0, cells := 0, slots := 0, locals := 0 } : Room).slots) := by
  refine MetFree.of_bodySF (plainFor_of_name pn_1) hisR ?_
  intro p e s m args below meth c s₁ Bd hml0 hP hK
  obtain ⟨rfl, hZ, hh⟩ := hP
  have hx := Bd.exec
  have hby := Bd.bytes
  have hml : c.maxLocals = 1 := hml0
  have hown : s.vm.findClass "java/lang/String" = some m.cls := findClass_of_methodNamed Bd.named
  have hnm := (name_of_methodNamed Bd.named Bd.method).1
  have hlk := Bd.notSynchronized
  have X0 : Stand p l e ({ frames := 0, cells := 0, slots := 0, locals := 0 } : Room) s m #[(.ref a1)] below meth c s₁ [] 0 0 := Stand.of_body Bd
  have e0 : s₁.heap = h0 := by rw [← hh, Bd.state]; rfl
  have N0 := Fr.nil n0
  show own_Ends p e below s FrameEnd (Qv 1 h0 n0) 0 0 (s₁.setTop (entryFrame m #[(.ref a1)] 1))
  refine own_of (U' := (s₁.setTop (mkF m 0 #[.val (.ref a1)] []))) (fun _ k => castTop (ef_ilL m a1) k) ?_
  obtain ⟨T31, X31, e31, st31⟩ := getS2 X0 hx hZ hown (host := "") (Or.inl (own_w hw 48 rfl)) Via.refl e0 SC (g := (mkF m 0 #[.val (.ref a1)] [])) rfl (hb hby d14_0)
  refine own_of (U' := (T31.setTop (mkF m 3 #[.val (.ref a1)] [(.int g1)]))) (st31) ?_
  have hc3_32 : ¬ (g1 = (0 : Int32)) := hg1
  refine own_ifNo X31 hx hby d14_3 ((if0 _ _).trans (feq hc3_32).1) ?_
  refine own_aloadN X31 hx hby d14_6 rfl rfl ?_
  obtain ⟨T33, X33, e33, st33⟩ := getF X31 hx hZ hown (host := "") (Or.inl (own_w hw 28 rfl)) Via.refl e31 Fc (g := (mkF m 7 #[.val (.ref a1)] [(.ref a1)])) rfl rfl (hb hby d14_7)
  refine own_of (U' := (T33.setTop (mkF m 10 #[.val (.ref a1)] [(.int (0 : Int32))]))) (st33) ?_
  have hc10_34 : (0 : Int32) = (0 : Int32) := by decide
  refine own_ifNo X33 hx hby d14_10 ((if0 _ _).trans (teq hc10_34).2) ?_
  refine own_iconst X33 hx hby 1 d14_13 rfl ?_
  refine own_goto X33 hx hby 14 18 d14_14 (by decide) (by decide) ?_
  exact own_retN X33 hx hlk (t := .boolean) Bd.returns (by simp) (hb hby d14_18) (by decide) (by decide) (⟨rfl, N0, e33⟩)
theorem d13_7 : decode jdk_42_method_56_code 7 = .ok (.aload_n 0, 1) := by decide +kernel
theorem d13_8 : decode jdk_42_method_56_code 8 = .ok (.getfield 9, 3) := by decide +kernel
theorem d13_11 : decode jdk_42_method_56_code 11 = .ok (.iload_n 1, 1) := by decide +kernel
theorem d13_12 : decode jdk_42_method_56_code 12 = .ok (.invokestatic 495, 3) := by decide +kernel
theorem d13_15 : decode jdk_42_method_56_code 15 = .ok (.ireturn, 1) := by decide +kernel
theorem ef_ca (m : MethodId) (x0 : Addr) (x1 : Int32) : entryFrame m #[(.ref x0), (.int x1)] 2 = mkF m 0 #[.val (.ref x0), .val (.int x1)] [] := by first | (simp [entryFrame, mkF, argsToLocals, Value.category]; done) | rfl
set_option maxRecDepth 65536 in
set_option maxHeartbeats 40000000 in
theorem rmca (l : Launch) (Z : State) (a0 : Array Value) (hw : ∀ d ∈ tables_1, d.before a0 Z = true) (ws : List Jvm.Cond) (a1 : Addr) (p2 : Int32) (g1 : Int32) (b : Addr) (kb : ClassId) (z : Int32) (cs : List Int32) (rS : Value) (h0 : Heap) (n0 : Nat) (Z0 : n0 ≤ h0.size) (E1 : Exa Z h0 a1 "java/lang/String") (Fc : Fld Z h0 a1 "java/lang/String" "coder" "B" (.int (0 : Int32))) (Fv : Fld Z h0 a1 "java/lang/String" "value" "[B" (.ref b)) (Vb : Arv Z h0 b kb .byte z (cs.map Value.int) (.int (0 : Int32))) (h1 : ¬ (p2 < (0 : Int32))) (h2 : p2 < z) (SC : Sta Z h0 "java/lang/String" "COMPACT_STRINGS" "Z" (.int g1)) (hg1 : ¬ (g1 = (0 : Int32))) (SF : Sta Z h0 "jdk/internal/util/Preconditions" "SIOOBE_FORMATTER" "Ljava/util/function/BiFunction;" rS) (hrS : rS.isRef = true) :
    MetFree l mN_7 (head1 (Jvm.Cond.code mN_7 jdk_42_method_56_code 2 (some .char) :: ws) ({ frames := 4, cells := 0, slots := 0, locals := 53 } : Room)) (fun a U => a = #[(.ref a1), (.int p2)] ∧ Z.Warmed39 U.vm ∧ U.heap = h0) (fun _ _ _ _ _ => True) (fun _ U o U' => ∃ v L, o = .returned v ∧ (Qv (own_ch cs p2) h0 n0) v U'.heap L ∧ FrameEnd U o U' L ({ frames := 4, cells := 0, slots := 0, locals := 53 } : Room).cells ({ frames := 4, cells := 0, slots := 0, locals := 53 } : Room).slots) := by
  refine MetFree.of_bodySF (plainFor_of_name pn_1) hisR ?_
  intro p e s m args below meth c s₁ Bd hml0 hP hK
  obtain ⟨rfl, hZ, hh⟩ := hP
  have hx := Bd.exec
  have hby := Bd.bytes
  have hml : c.maxLocals = 2 := hml0
  have hown : s.vm.findClass "java/lang/String" = some m.cls := findClass_of_methodNamed Bd.named
  have hnm := (name_of_methodNamed Bd.named Bd.method).1
  have hlk := Bd.notSynchronized
  have X0 : Stand p l e ({ frames := 4, cells := 0, slots := 0, locals := 53 } : Room) s m #[(.ref a1), (.int p2)] below meth c s₁ [] 0 0 := Stand.of_body Bd
  have e0 : s₁.heap = h0 := by rw [← hh, Bd.state]; rfl
  have N0 := Fr.nil n0
  show own_Ends p e below s FrameEnd (Qv (own_ch cs p2) h0 n0) 0 0 (s₁.setTop (entryFrame m #[(.ref a1), (.int p2)] 2))
  refine own_of (U' := (s₁.setTop (mkF m 0 #[.val (.ref a1), .val (.int p2)] []))) (fun _ k => castTop (ef_ca m a1 p2) k) ?_
  refine own_aloadN X0 hx hby d13_0 rfl rfl ?_
  obtain ⟨cq35, kq35, q35a, q35b, q35c⟩ := isOf hZ e0 E1
  obtain ⟨_, _, ⟨T35, L35, k35, n35⟩, -, X35, ⟨Lc35, hQ35, l35, y35, z35⟩, st35⟩ := X0.virtualBack hx (y := mN_6) (z := mN_6) hown (mvT hZ (own_w hw 67 rfl)) (mvT hZ (own_w hw 68 rfl)) (notFace_of_selects (args := #[]) (mvT hZ (own_w hw 70 rfl))) (mvT hZ (own_w hw 70 rfl)) (mvT hZ (own_w hw 69 rfl)) (by decide) (backOf (W := 0) (rmilL l Z a0 hw [] a1 g1 h0 n0 Z0 Fc SC hg1) hZ (own_w hw 71 rfl) (own_w hw 10 rfl) (by decide) (by decide)) q35a q35c (g := (mkF m 1 #[.val (.ref a1), .val (.int p2)] [(.ref a1)])) rfl (by rw [hml]; rfl) (Steps.refl _) (argsL := []) (rest := []) (lenOf pd_5 rfl) rfl (by show 2 * 0 + _ ≤ _; exact Nat.le_of_eq rfl) (hb hby d13_1) (fun _ _ => ⟨rfl, e0, (by decide : 0 + 0 ≤ _), (by decide : 0 + 0 ≤ _)⟩)
  dsimp only [Pt.U, Pt.locs, Pt.cells, Pt.slots] at X35 l35 y35 z35 st35 hQ35
  subst l35 y35 z35
  obtain ⟨rfl, Nq35, e35⟩ := hQ35
  have N35 := Fr.app N0 Nq35
  refine own_of (U' := (T35.setTop (mkF m 4 #[.val (.ref a1), .val (.int p2)] [(.int (1 : Int32))]))) (fun _ k => st35.trans k) ?_
  have hc4_36 : ¬ ((1 : Int32) = (0 : Int32)) := by decide
  refine own_ifNo X35 hx hby d13_4 ((if0 _ _).trans (feq hc4_36).1) ?_
  refine own_aloadN X35 hx hby d13_7 rfl rfl ?_
  obtain ⟨T37, X37, e37, st37⟩ := getF X35 hx hZ hown (host := "") (Or.inl (own_w hw 27 rfl)) Via.refl e35 Fv (g := (mkF m 8 #[.val (.ref a1), .val (.int p2)] [(.ref a1)])) rfl rfl (hb hby d13_8)
  refine own_of (U' := (T37.setTop (mkF m 11 #[.val (.ref a1), .val (.int p2)] [(.ref b)]))) (st37) ?_
  refine own_iloadN X37 hx hby d13_11 rfl ?_
  obtain ⟨_, _, ⟨T38, L38, k38, n38⟩, -, X38, ⟨Lc38, hQ38, l38, y38, z38⟩, st38⟩ := Jvm.LawKit.callS X37 hx (y := mN_8) hown (mvT hZ (own_w hw 72 rfl)) (mvT hZ (own_w hw 73 rfl)) (mvT hZ (own_w hw 74 rfl)) (mvT hZ (own_w hw 75 rfl)) (by decide) (backOf (W := 0) (rmlc l Z a0 hw [] b p2 kb z cs rS h0 n0 Z0 Vb h1 h2 SF hrS) hZ (own_w hw 75 rfl) (own_w hw 74 rfl) (by decide) (by decide)) (g := (mkF m 12 #[.val (.ref a1), .val (.int p2)] [(.int p2), (.ref b)])) rfl (by rw [hml]; rfl) (argsL := [(.ref b), (.int p2)]) (rest := []) (lenOf pd_4 rfl) rfl (by show 2 * 0 + _ ≤ _; exact Nat.le_of_eq rfl) (hb hby d13_12) (fun _ _ => ⟨rfl, e37, (by decide : 0 + 0 ≤ _), (by decide : 0 + 0 ≤ _)⟩)
  dsimp only [Pt.U, Pt.locs, Pt.cells, Pt.slots] at X38 l38 y38 z38 st38 hQ38
  subst l38 y38 z38
  obtain ⟨rfl, Nq38, e38⟩ := hQ38
  have N38 := Fr.app N35 Nq38
  refine own_of (U' := (T38.setTop (mkF m 15 #[.val (.ref a1), .val (.int p2)] [(.int (own_ch cs p2))]))) (st38) ?_
  exact own_retN X38 hx hlk (t := .char) Bd.returns (by simp) (hb hby d13_15) (by decide) (by decide) (⟨congrArg (fun z => some (Value.int z)) (own_nar2 _), N38, e38⟩)
abbrev mN_9 : MethodName := ⟨"java/lang/String", "coder", "()B"⟩
theorem d8_0 : decode jdk_42_method_152_code 0 = .ok (.getstatic 38, 3) := by decide +kernel
theorem d8_3 : decode jdk_42_method_152_code 3 = .ok (.ifCond .eq 10, 3) := by decide +kernel
theorem d8_6 : decode jdk_42_method_152_code 6 = .ok (.aload_n 0, 1) := by decide +kernel
theorem d8_7 : decode jdk_42_method_152_code 7 = .ok (.getfield 15, 3) := by decide +kernel
theorem d8_10 : decode jdk_42_method_152_code 10 = .ok (.goto 4, 3) := by decide +kernel
theorem d8_14 : decode jdk_42_method_152_code 14 = .ok (.ireturn, 1) := by decide +kernel
theorem ef_coL (m : MethodId) (x0 : Addr) : entryFrame m #[(.ref x0)] 1 = mkF m 0 #[.val (.ref x0)] [] := by first | (simp [entryFrame, mkF, argsToLocals, Value.category]; done) | rfl
set_option maxRecDepth 65536 in
set_option maxHeartbeats 40000000 in
theorem rmcoL (l : Launch) (Z : State) (a0 : Array Value) (hw : ∀ d ∈ tables_1, d.before a0 Z = true) (ws : List Jvm.Cond) (a1 : Addr) (g1 : Int32) (h0 : Heap) (n0 : Nat) (Z0 : n0 ≤ h0.size) (Fc : Fld Z h0 a1 "java/lang/String" "coder" "B" (.int (0 : Int32))) (SC : Sta Z h0 "java/lang/String" "COMPACT_STRINGS" "Z" (.int g1)) (hg1 : ¬ (g1 = (0 : Int32))) :
    MetFree l mN_9 (head1 (Jvm.Cond.code mN_9 jdk_42_method_152_code 1 (some .byte) :: ws) ({ frames := 0, cells := 0, slots := 0, locals := 0 } : Room)) (fun a U => a = #[(.ref a1)] ∧ Z.Warmed39 U.vm ∧ U.heap = h0) (fun _ _ _ _ _ => True) (fun _ U o U' => ∃ v L, o = .returned v ∧ (Qv 0 h0 n0) v U'.heap L ∧ FrameEnd U o U' L ({ frames := 0, cells := 0, slots := 0, locals := 0 } : Room).cells ({ frames := 0, cells := 0, slots := 0, locals := 0 } : Room).slots) := by
  refine MetFree.of_bodySF (plainFor_of_name pn_1) hisR ?_
  intro p e s m args below meth c s₁ Bd hml0 hP hK
  obtain ⟨rfl, hZ, hh⟩ := hP
  have hx := Bd.exec
  have hby := Bd.bytes
  have hml : c.maxLocals = 1 := hml0
  have hown : s.vm.findClass "java/lang/String" = some m.cls := findClass_of_methodNamed Bd.named
  have hnm := (name_of_methodNamed Bd.named Bd.method).1
  have hlk := Bd.notSynchronized
  have X0 : Stand p l e ({ frames := 0, cells := 0, slots := 0, locals := 0 } : Room) s m #[(.ref a1)] below meth c s₁ [] 0 0 := Stand.of_body Bd
  have e0 : s₁.heap = h0 := by rw [← hh, Bd.state]; rfl
  have N0 := Fr.nil n0
  show own_Ends p e below s FrameEnd (Qv 0 h0 n0) 0 0 (s₁.setTop (entryFrame m #[(.ref a1)] 1))
  refine own_of (U' := (s₁.setTop (mkF m 0 #[.val (.ref a1)] []))) (fun _ k => castTop (ef_coL m a1) k) ?_
  obtain ⟨T39, X39, e39, st39⟩ := getS2 X0 hx hZ hown (host := "") (Or.inl (own_w hw 48 rfl)) Via.refl e0 SC (g := (mkF m 0 #[.val (.ref a1)] [])) rfl (hb hby d8_0)
  refine own_of (U' := (T39.setTop (mkF m 3 #[.val (.ref a1)] [(.int g1)]))) (st39) ?_
  have hc3_40 : ¬ (g1 = (0 : Int32)) := hg1
  refine own_ifNo X39 hx hby d8_3 ((if0 _ _).trans (feq hc3_40).1) ?_
  refine own_aloadN X39 hx hby d8_6 rfl rfl ?_
  obtain ⟨T41, X41, e41, st41⟩ := getF X39 hx hZ hown (host := "") (Or.inl (own_w hw 28 rfl)) Via.refl e39 Fc (g := (mkF m 7 #[.val (.ref a1)] [(.ref a1)])) rfl rfl (hb hby d8_7)
  refine own_of (U' := (T41.setTop (mkF m 10 #[.val (.ref a1)] [(.int (0 : Int32))]))) (st41) ?_
  refine own_goto X41 hx hby 10 14 d8_10 (by decide) (by decide) ?_
  exact own_retN X41 hx hlk (t := .byte) Bd.returns (by simp) (hb hby d8_14) (by decide) (by decide) (⟨rfl, N0, e41⟩)
abbrev mN_10 : MethodName := ⟨"java/lang/String", "length", "()I"⟩
theorem pd_6 : parseMethodDescriptor "()B" = some ⟨[], some .byte⟩ := by decide +kernel
theorem d7_0 : decode jdk_42_method_54_code 0 = .ok (.aload_n 0, 1) := by decide +kernel
theorem d7_1 : decode jdk_42_method_54_code 1 = .ok (.getfield 9, 3) := by decide +kernel
theorem d7_4 : decode jdk_42_method_54_code 4 = .ok (.arraylength, 1) := by decide +kernel
theorem d7_5 : decode jdk_42_method_54_code 5 = .ok (.aload_n 0, 1) := by decide +kernel
theorem d7_6 : decode jdk_42_method_54_code 6 = .ok (.invokevirtual 335, 3) := by decide +kernel
theorem d7_9 : decode jdk_42_method_54_code 9 = .ok (.ishr, 1) := by decide +kernel
theorem d7_10 : decode jdk_42_method_54_code 10 = .ok (.ireturn, 1) := by decide +kernel
theorem ef_lnL (m : MethodId) (x0 : Addr) : entryFrame m #[(.ref x0)] 1 = mkF m 0 #[.val (.ref x0)] [] := by first | (simp [entryFrame, mkF, argsToLocals, Value.category]; done) | rfl
set_option maxRecDepth 65536 in
set_option maxHeartbeats 40000000 in
theorem rmlnL (l : Launch) (Z : State) (a0 : Array Value) (hw : ∀ d ∈ tables_1, d.before a0 Z = true) (ws : List Jvm.Cond) (a1 : Addr) (g1 : Int32) (b : Addr) (kb : ClassId) (z : Int32) (cs : List Int32) (h0 : Heap) (n0 : Nat) (Z0 : n0 ≤ h0.size) (E1 : Exa Z h0 a1 "java/lang/String") (Fc : Fld Z h0 a1 "java/lang/String" "coder" "B" (.int (0 : Int32))) (Fv : Fld Z h0 a1 "java/lang/String" "value" "[B" (.ref b)) (Vb : Arv Z h0 b kb .byte z (cs.map Value.int) (.int (0 : Int32))) (SC : Sta Z h0 "java/lang/String" "COMPACT_STRINGS" "Z" (.int g1)) (hg1 : ¬ (g1 = (0 : Int32))) :
    MetFree l mN_10 (head1 (Jvm.Cond.code mN_10 jdk_42_method_54_code 1 (some .int) :: ws) ({ frames := 1, cells := 0, slots := 0, locals := 13 } : Room)) (fun a U => a = #[(.ref a1)] ∧ Z.Warmed39 U.vm ∧ U.heap = h0) (fun _ _ _ _ _ => True) (fun _ U o U' => ∃ v L, o = .returned v ∧ (Qv (z >>> ((0 : Int32) &&& 31)) h0 n0) v U'.heap L ∧ FrameEnd U o U' L ({ frames := 1, cells := 0, slots := 0, locals := 13 } : Room).cells ({ frames := 1, cells := 0, slots := 0, locals := 13 } : Room).slots) := by
  refine MetFree.of_bodySF (plainFor_of_name pn_1) hisR ?_
  intro p e s m args below meth c s₁ Bd hml0 hP hK
  obtain ⟨rfl, hZ, hh⟩ := hP
  have hx := Bd.exec
  have hby := Bd.bytes
  have hml : c.maxLocals = 1 := hml0
  have hown : s.vm.findClass "java/lang/String" = some m.cls := findClass_of_methodNamed Bd.named
  have hnm := (name_of_methodNamed Bd.named Bd.method).1
  have hlk := Bd.notSynchronized
  have X0 : Stand p l e ({ frames := 1, cells := 0, slots := 0, locals := 13 } : Room) s m #[(.ref a1)] below meth c s₁ [] 0 0 := Stand.of_body Bd
  have e0 : s₁.heap = h0 := by rw [← hh, Bd.state]; rfl
  have N0 := Fr.nil n0
  show own_Ends p e below s FrameEnd (Qv (z >>> ((0 : Int32) &&& 31)) h0 n0) 0 0 (s₁.setTop (entryFrame m #[(.ref a1)] 1))
  refine own_of (U' := (s₁.setTop (mkF m 0 #[.val (.ref a1)] []))) (fun _ k => castTop (ef_lnL m a1) k) ?_
  refine own_aloadN X0 hx hby d7_0 rfl rfl ?_
  obtain ⟨T42, X42, e42, st42⟩ := getF X0 hx hZ hown (host := "") (Or.inl (own_w hw 27 rfl)) Via.refl e0 Fv (g := (mkF m 1 #[.val (.ref a1)] [(.ref a1)])) rfl rfl (hb hby d7_1)
  refine own_of (U' := (T42.setTop (mkF m 4 #[.val (.ref a1)] [(.ref b)]))) (st42) ?_
  obtain ⟨cl43, Ar43, qa43, Sa43, Na43, -, -⟩ := id Vb
  have al43 := X42.arraylength hx (by rw [e42]; exact Ar43.1) (State.isArrayOf_alike hZ.alike Ar43.2.1) (g := (mkF m 4 #[.val (.ref a1)] [(.ref b)])) rfl rfl (hb hby d7_4)
  rw [len_of Sa43 Na43] at al43
  refine own_of (U' := (T42.setTop (mkF m 5 #[.val (.ref a1)] [(.int z)]))) (al43) ?_
  refine own_aloadN X42 hx hby d7_5 rfl rfl ?_
  obtain ⟨cq44, kq44, q44a, q44b, q44c⟩ := isOf hZ e42 E1
  obtain ⟨_, _, ⟨T44, L44, k44, n44⟩, -, X44, ⟨Lc44, hQ44, l44, y44, z44⟩, st44⟩ := X42.virtualBack hx (y := mN_9) (z := mN_9) hown (mvT hZ (own_w hw 43 rfl)) (mvT hZ (own_w hw 44 rfl)) (notFace_of_selects (args := #[]) (mvT hZ (own_w hw 46 rfl))) (mvT hZ (own_w hw 46 rfl)) (mvT hZ (own_w hw 45 rfl)) (by decide) (backOf (W := 1) (rmcoL l Z a0 hw [] a1 g1 h0 n0 Z0 Fc SC hg1) hZ (own_w hw 47 rfl) (own_w hw 10 rfl) (by decide) (by decide)) q44a q44c (g := (mkF m 6 #[.val (.ref a1)] [(.ref a1), (.int z)])) rfl (by rw [hml]; rfl) (Steps.refl _) (argsL := []) (rest := [(.int z)]) (lenOf pd_6 rfl) rfl (by show 2 * 0 + _ ≤ _; exact Nat.le_of_eq rfl) (hb hby d7_6) (fun _ _ => ⟨rfl, e42, (by decide : 0 + 0 ≤ _), (by decide : 0 + 0 ≤ _)⟩)
  dsimp only [Pt.U, Pt.locs, Pt.cells, Pt.slots] at X44 l44 y44 z44 st44 hQ44
  subst l44 y44 z44
  obtain ⟨rfl, Nq44, e44⟩ := hQ44
  have N44 := Fr.app N0 Nq44
  refine own_of (U' := (T44.setTop (mkF m 9 #[.val (.ref a1)] [(.int (0 : Int32)), (.int z)]))) (fun _ k => st44.trans k) ?_
  refine own_ishr X44 hx hby d7_9 ?_
  exact own_retI X44 hx hlk Bd.returns (hb hby d7_10) (by decide) (by decide) (⟨rfl, N44, e44⟩)
theorem ef_coU (m : MethodId) (x0 : Addr) : entryFrame m #[(.ref x0)] 1 = mkF m 0 #[.val (.ref x0)] [] := by first | (simp [entryFrame, mkF, argsToLocals, Value.category]; done) | rfl
set_option maxRecDepth 65536 in
set_option maxHeartbeats 40000000 in
theorem rmcoU (l : Launch) (Z : State) (a0 : Array Value) (hw : ∀ d ∈ tables_1, d.before a0 Z = true) (ws : List Jvm.Cond) (a1 : Addr) (g1 : Int32) (h0 : Heap) (n0 : Nat) (Z0 : n0 ≤ h0.size) (Fc : Fld Z h0 a1 "java/lang/String" "coder" "B" (.int (1 : Int32))) (SC : Sta Z h0 "java/lang/String" "COMPACT_STRINGS" "Z" (.int g1)) (hg1 : ¬ (g1 = (0 : Int32))) :
    MetFree l mN_9 (head1 (Jvm.Cond.code mN_9 jdk_42_method_152_code 1 (some .byte) :: ws) ({ frames := 0, cells := 0, slots := 0, locals := 0 } : Room)) (fun a U => a = #[(.ref a1)] ∧ Z.Warmed39 U.vm ∧ U.heap = h0) (fun _ _ _ _ _ => True) (fun _ U o U' => ∃ v L, o = .returned v ∧ (Qv 1 h0 n0) v U'.heap L ∧ FrameEnd U o U' L ({ frames := 0, cells := 0, slots := 0, locals := 0 } : Room).cells ({ frames := 0, cells := 0, slots := 0, locals := 0 } : Room).slots) := by
  refine MetFree.of_bodySF (plainFor_of_name pn_1) hisR ?_
  intro p e s m args below meth c s₁ Bd hml0 hP hK
  obtain ⟨rfl, hZ, hh⟩ := hP
  have hx := Bd.exec
  have hby := Bd.bytes
  have hml : c.maxLocals = 1 := hml0
  have hown : s.vm.findClass "java/lang/String" = some m.cls := findClass_of_methodNamed Bd.named
  have hnm := (name_of_methodNamed Bd.named Bd.method).1
  have hlk := Bd.notSynchronized
  have X0 : Stand p l e ({ frames := 0, cells := 0, slots := 0, locals := 0 } : Room) s m #[(.ref a1)] below meth c s₁ [] 0 0 := Stand.of_body Bd
  have e0 : s₁.heap = h0 := by rw [← hh, Bd.state]; rfl
  have N0 := Fr.nil n0
  show own_Ends p e below s FrameEnd (Qv 1 h0 n0) 0 0 (s₁.setTop (entryFrame m #[(.ref a1)] 1))
  refine own_of (U' := (s₁.setTop (mkF m 0 #[.val (.ref a1)] []))) (fun _ k => castTop (ef_coU m a1) k) ?_
  obtain ⟨T45, X45, e45, st45⟩ := getS2 X0 hx hZ hown (host := "") (Or.inl (own_w hw 48 rfl)) Via.refl e0 SC (g := (mkF m 0 #[.val (.ref a1)] [])) rfl (hb hby d8_0)
  refine own_of (U' := (T45.setTop (mkF m 3 #[.val (.ref a1)] [(.int g1)]))) (st45) ?_
  have hc3_46 : ¬ (g1 = (0 : Int32)) := hg1
  refine own_ifNo X45 hx hby d8_3 ((if0 _ _).trans (feq hc3_46).1) ?_
  refine own_aloadN X45 hx hby d8_6 rfl rfl ?_
  obtain ⟨T47, X47, e47, st47⟩ := getF X45 hx hZ hown (host := "") (Or.inl (own_w hw 28 rfl)) Via.refl e45 Fc (g := (mkF m 7 #[.val (.ref a1)] [(.ref a1)])) rfl rfl (hb hby d8_7)
  refine own_of (U' := (T47.setTop (mkF m 10 #[.val (.ref a1)] [(.int (1 : Int32))]))) (st47) ?_
  refine own_goto X47 hx hby 10 14 d8_10 (by decide) (by decide) ?_
  exact own_retN X47 hx hlk (t := .byte) Bd.returns (by simp) (hb hby d8_14) (by decide) (by decide) (⟨rfl, N0, e47⟩)
theorem ef_lnU (m : MethodId) (x0 : Addr) : entryFrame m #[(.ref x0)] 1 = mkF m 0 #[.val (.ref x0)] [] := by first | (simp [entryFrame, mkF, argsToLocals, Value.category]; done) | rfl
set_option maxRecDepth 65536 in
set_option maxHeartbeats 40000000 in
theorem rmlnU (l : Launch) (Z : State) (a0 : Array Value) (hw : ∀ d ∈ tables_1, d.before a0 Z = true) (ws : List Jvm.Cond) (a1 : Addr) (g1 : Int32) (b : Addr) (kb : ClassId) (z : Int32) (cs : List Int32) (h0 : Heap) (n0 : Nat) (Z0 : n0 ≤ h0.size) (E1 : Exa Z h0 a1 "java/lang/String") (Fc : Fld Z h0 a1 "java/lang/String" "coder" "B" (.int (1 : Int32))) (Fv : Fld Z h0 a1 "java/lang/String" "value" "[B" (.ref b)) (Vb : Arv Z h0 b kb .byte z (cs.map Value.int) (.int (0 : Int32))) (SC : Sta Z h0 "java/lang/String" "COMPACT_STRINGS" "Z" (.int g1)) (hg1 : ¬ (g1 = (0 : Int32))) :
    MetFree l mN_10 (head1 (Jvm.Cond.code mN_10 jdk_42_method_54_code 1 (some .int) :: ws) ({ frames := 1, cells := 0, slots := 0, locals := 13 } : Room)) (fun a U => a = #[(.ref a1)] ∧ Z.Warmed39 U.vm ∧ U.heap = h0) (fun _ _ _ _ _ => True) (fun _ U o U' => ∃ v L, o = .returned v ∧ (Qv (z >>> ((1 : Int32) &&& 31)) h0 n0) v U'.heap L ∧ FrameEnd U o U' L ({ frames := 1, cells := 0, slots := 0, locals := 13 } : Room).cells ({ frames := 1, cells := 0, slots := 0, locals := 13 } : Room).slots) := by
  refine MetFree.of_bodySF (plainFor_of_name pn_1) hisR ?_
  intro p e s m args below meth c s₁ Bd hml0 hP hK
  obtain ⟨rfl, hZ, hh⟩ := hP
  have hx := Bd.exec
  have hby := Bd.bytes
  have hml : c.maxLocals = 1 := hml0
  have hown : s.vm.findClass "java/lang/String" = some m.cls := findClass_of_methodNamed Bd.named
  have hnm := (name_of_methodNamed Bd.named Bd.method).1
  have hlk := Bd.notSynchronized
  have X0 : Stand p l e ({ frames := 1, cells := 0, slots := 0, locals := 13 } : Room) s m #[(.ref a1)] below meth c s₁ [] 0 0 := Stand.of_body Bd
  have e0 : s₁.heap = h0 := by rw [← hh, Bd.state]; rfl
  have N0 := Fr.nil n0
  show own_Ends p e below s FrameEnd (Qv (z >>> ((1 : Int32) &&& 31)) h0 n0) 0 0 (s₁.setTop (entryFrame m #[(.ref a1)] 1))
  refine own_of (U' := (s₁.setTop (mkF m 0 #[.val (.ref a1)] []))) (fun _ k => castTop (ef_lnU m a1) k) ?_
  refine own_aloadN X0 hx hby d7_0 rfl rfl ?_
  obtain ⟨T48, X48, e48, st48⟩ := getF X0 hx hZ hown (host := "") (Or.inl (own_w hw 27 rfl)) Via.refl e0 Fv (g := (mkF m 1 #[.val (.ref a1)] [(.ref a1)])) rfl rfl (hb hby d7_1)
  refine own_of (U' := (T48.setTop (mkF m 4 #[.val (.ref a1)] [(.ref b)]))) (st48) ?_
  obtain ⟨cl49, Ar49, qa49, Sa49, Na49, -, -⟩ := id Vb
  have al49 := X48.arraylength hx (by rw [e48]; exact Ar49.1) (State.isArrayOf_alike hZ.alike Ar49.2.1) (g := (mkF m 4 #[.val (.ref a1)] [(.ref b)])) rfl rfl (hb hby d7_4)
  rw [len_of Sa49 Na49] at al49
  refine own_of (U' := (T48.setTop (mkF m 5 #[.val (.ref a1)] [(.int z)]))) (al49) ?_
  refine own_aloadN X48 hx hby d7_5 rfl rfl ?_
  obtain ⟨cq50, kq50, q50a, q50b, q50c⟩ := isOf hZ e48 E1
  obtain ⟨_, _, ⟨T50, L50, k50, n50⟩, -, X50, ⟨Lc50, hQ50, l50, y50, z50⟩, st50⟩ := X48.virtualBack hx (y := mN_9) (z := mN_9) hown (mvT hZ (own_w hw 43 rfl)) (mvT hZ (own_w hw 44 rfl)) (notFace_of_selects (args := #[]) (mvT hZ (own_w hw 46 rfl))) (mvT hZ (own_w hw 46 rfl)) (mvT hZ (own_w hw 45 rfl)) (by decide) (backOf (W := 1) (rmcoU l Z a0 hw [] a1 g1 h0 n0 Z0 Fc SC hg1) hZ (own_w hw 47 rfl) (own_w hw 10 rfl) (by decide) (by decide)) q50a q50c (g := (mkF m 6 #[.val (.ref a1)] [(.ref a1), (.int z)])) rfl (by rw [hml]; rfl) (Steps.refl _) (argsL := []) (rest := [(.int z)]) (lenOf pd_6 rfl) rfl (by show 2 * 0 + _ ≤ _; exact Nat.le_of_eq rfl) (hb hby d7_6) (fun _ _ => ⟨rfl, e48, (by decide : 0 + 0 ≤ _), (by decide : 0 + 0 ≤ _)⟩)
  dsimp only [Pt.U, Pt.locs, Pt.cells, Pt.slots] at X50 l50 y50 z50 st50 hQ50
  subst l50 y50 z50
  obtain ⟨rfl, Nq50, e50⟩ := hQ50
  have N50 := Fr.app N0 Nq50
  refine own_of (U' := (T50.setTop (mkF m 9 #[.val (.ref a1)] [(.int (1 : Int32)), (.int z)]))) (fun _ k => st50.trans k) ?_
  refine own_ishr X50 hx hby d7_9 ?_
  exact own_retI X50 hx hlk Bd.returns (hb hby d7_10) (by decide) (by decide) (⟨rfl, N50, e50⟩)
set_option maxRecDepth 65536 in
theorem rmlen0 (l : Launch) (Z : State) (a0 : Array Value) (hw : ∀ d ∈ tables_1, d.before a0 Z = true) (ws : List Jvm.Cond) (a1 : Addr)  (g1 : Int32) (h0 : Heap) (n0 : Nat) (Z0 : n0 ≤ h0.size) (T1 : own_Str Z h0 a1 (0 : Int32) (0 : Int32) []) (SC : Sta Z h0 "java/lang/String" "COMPACT_STRINGS" "Z" (.int g1)) (hg1 : ¬ (g1 = (0 : Int32))) :
    MetFree l mN_10 (head1 (Jvm.Cond.code mN_10 jdk_42_method_54_code 1 (some .int) :: ws) ({ frames := 1, cells := 0, slots := 0, locals := 13 } : Room)) (fun a U => a = #[(.ref a1)] ∧ Z.Warmed39 U.vm ∧ U.heap = h0) (fun _ _ _ _ _ => True) (fun _ U o U' => ∃ v L, o = .returned v ∧ (Qv 0 h0 n0) v U'.heap L ∧ FrameEnd U o U' L ({ frames := 1, cells := 0, slots := 0, locals := 13 } : Room).cells ({ frames := 1, cells := 0, slots := 0, locals := 13 } : Room).slots) := by
  obtain ⟨E1, b, kb, Fv, ⟨Fc, Vb, hall⟩ | ⟨Fc, Vb⟩⟩ := T1
  · have r := rmlnL l Z a0 hw ws a1 g1 b kb (0 : Int32) (List.map own_b8 []) h0 n0 Z0 E1 Fc Fv Vb SC hg1
    rw [show ((0 : Int32) >>> ((0 : Int32) &&& 31)) = 0 by decide] at r
    exact r
  · have r := rmlnU l Z a0 hw ws a1 g1 b kb (0 : Int32) (own_u16 []) h0 n0 Z0 E1 Fc Fv Vb SC hg1
    rw [show ((0 : Int32) >>> ((1 : Int32) &&& 31)) = 0 by decide] at r
    exact r
set_option maxRecDepth 65536 in
theorem rmlen1 (l : Launch) (Z : State) (a0 : Array Value) (hw : ∀ d ∈ tables_1, d.before a0 Z = true) (ws : List Jvm.Cond) (a1 : Addr) (c0 : Int32) (g1 : Int32) (h0 : Heap) (n0 : Nat) (Z0 : n0 ≤ h0.size) (T1 : own_Str Z h0 a1 (1 : Int32) (2 : Int32) [c0]) (SC : Sta Z h0 "java/lang/String" "COMPACT_STRINGS" "Z" (.int g1)) (hg1 : ¬ (g1 = (0 : Int32))) :
    MetFree l mN_10 (head1 (Jvm.Cond.code mN_10 jdk_42_method_54_code 1 (some .int) :: ws) ({ frames := 1, cells := 0, slots := 0, locals := 13 } : Room)) (fun a U => a = #[(.ref a1)] ∧ Z.Warmed39 U.vm ∧ U.heap = h0) (fun _ _ _ _ _ => True) (fun _ U o U' => ∃ v L, o = .returned v ∧ (Qv 1 h0 n0) v U'.heap L ∧ FrameEnd U o U' L ({ frames := 1, cells := 0, slots := 0, locals := 13 } : Room).cells ({ frames := 1, cells := 0, slots := 0, locals := 13 } : Room).slots) := by
  obtain ⟨E1, b, kb, Fv, ⟨Fc, Vb, hall⟩ | ⟨Fc, Vb⟩⟩ := T1
  · have r := rmlnL l Z a0 hw ws a1 g1 b kb (1 : Int32) (List.map own_b8 [c0]) h0 n0 Z0 E1 Fc Fv Vb SC hg1
    rw [show ((1 : Int32) >>> ((0 : Int32) &&& 31)) = 1 by decide] at r
    exact r
  · have r := rmlnU l Z a0 hw ws a1 g1 b kb (2 : Int32) (own_u16 [c0]) h0 n0 Z0 E1 Fc Fv Vb SC hg1
    rw [show ((2 : Int32) >>> ((1 : Int32) &&& 31)) = 1 by decide] at r
    exact r
set_option maxRecDepth 65536 in
theorem rmch1_0 (l : Launch) (Z : State) (a0 : Array Value) (hw : ∀ d ∈ tables_1, d.before a0 Z = true) (ws : List Jvm.Cond) (a1 : Addr) (c0 : Int32) (g1 : Int32) (rS : Value) (h0 : Heap) (n0 : Nat) (Z0 : n0 ≤ h0.size) (T1 : own_Str Z h0 a1 (1 : Int32) (2 : Int32) [c0]) (hb0 : 0 ≤ c0.toInt ∧ c0.toInt < 65536) (SC : Sta Z h0 "java/lang/String" "COMPACT_STRINGS" "Z" (.int g1)) (hg1 : ¬ (g1 = (0 : Int32))) (SA : Sta Z h0 "java/lang/StringUTF16" "$assertionsDisabled" "Z" (.int (1 : Int32))) (SHI : Sta Z h0 "java/lang/StringUTF16" "HI_BYTE_SHIFT" "I" (.int (0 : Int32))) (SLO : Sta Z h0 "java/lang/StringUTF16" "LO_BYTE_SHIFT" "I" (.int (8 : Int32))) (SF : Sta Z h0 "jdk/internal/util/Preconditions" "SIOOBE_FORMATTER" "Ljava/util/function/BiFunction;" rS) (hrS : rS.isRef = true) :
    MetFree l mN_7 (head1 (Jvm.Cond.code mN_7 jdk_42_method_56_code 2 (some .char) :: ws) ({ frames := 4, cells := 0, slots := 0, locals := 53 } : Room)) (fun a U => a = #[(.ref a1), (.int (0 : Int32))] ∧ Z.Warmed39 U.vm ∧ U.heap = h0) (fun _ _ _ _ _ => True) (fun _ U o U' => ∃ v L, o = .returned v ∧ (Qv c0 h0 n0) v U'.heap L ∧ FrameEnd U o U' L ({ frames := 4, cells := 0, slots := 0, locals := 53 } : Room).cells ({ frames := 4, cells := 0, slots := 0, locals := 53 } : Room).slots) := by
  obtain ⟨E1, b, kb, Fv, ⟨Fc, Vb, hall⟩ | ⟨Fc, Vb⟩⟩ := T1
  · have r := rmca l Z a0 hw ws a1 (0 : Int32) g1 b kb (1 : Int32) (List.map own_b8 [c0]) rS h0 n0 Z0 E1 Fc Fv Vb (by decide) (by decide) SC hg1 SF hrS
    rw [show own_ch (List.map own_b8 [c0]) (0 : Int32) = c0 from own_ch_eq hb0 (hall c0 (List.mem_of_getElem? (i := 0) rfl))] at r
    exact r
  · have r := rmcu l Z a0 hw ws a1 (0 : Int32) g1 b kb (2 : Int32) (own_u16 [c0]) rS h0 n0 Z0 E1 Fc Fv Vb (by decide) (by decide) (by decide) (by decide) (by decide) (by decide) SC hg1 SA SHI SLO SF hrS
    rw [show own_chu (own_u16 [c0]) (0 : Int32) = c0 from own_gc_eq hb0] at r
    exact r
set_option maxRecDepth 65536 in
theorem rmlen2 (l : Launch) (Z : State) (a0 : Array Value) (hw : ∀ d ∈ tables_1, d.before a0 Z = true) (ws : List Jvm.Cond) (a1 : Addr) (c0 c1 : Int32) (g1 : Int32) (h0 : Heap) (n0 : Nat) (Z0 : n0 ≤ h0.size) (T1 : own_Str Z h0 a1 (2 : Int32) (4 : Int32) [c0, c1]) (SC : Sta Z h0 "java/lang/String" "COMPACT_STRINGS" "Z" (.int g1)) (hg1 : ¬ (g1 = (0 : Int32))) :
    MetFree l mN_10 (head1 (Jvm.Cond.code mN_10 jdk_42_method_54_code 1 (some .int) :: ws) ({ frames := 1, cells := 0, slots := 0, locals := 13 } : Room)) (fun a U => a = #[(.ref a1)] ∧ Z.Warmed39 U.vm ∧ U.heap = h0) (fun _ _ _ _ _ => True) (fun _ U o U' => ∃ v L, o = .returned v ∧ (Qv 2 h0 n0) v U'.heap L ∧ FrameEnd U o U' L ({ frames := 1, cells := 0, slots := 0, locals := 13 } : Room).cells ({ frames := 1, cells := 0, slots := 0, locals := 13 } : Room).slots) := by
  obtain ⟨E1, b, kb, Fv, ⟨Fc, Vb, hall⟩ | ⟨Fc, Vb⟩⟩ := T1
  · have r := rmlnL l Z a0 hw ws a1 g1 b kb (2 : Int32) (List.map own_b8 [c0, c1]) h0 n0 Z0 E1 Fc Fv Vb SC hg1
    rw [show ((2 : Int32) >>> ((0 : Int32) &&& 31)) = 2 by decide] at r
    exact r
  · have r := rmlnU l Z a0 hw ws a1 g1 b kb (4 : Int32) (own_u16 [c0, c1]) h0 n0 Z0 E1 Fc Fv Vb SC hg1
    rw [show ((4 : Int32) >>> ((1 : Int32) &&& 31)) = 2 by decide] at r
    exact r
set_option maxRecDepth 65536 in
theorem rmch2_0 (l : Launch) (Z : State) (a0 : Array Value) (hw : ∀ d ∈ tables_1, d.before a0 Z = true) (ws : List Jvm.Cond) (a1 : Addr) (c0 c1 : Int32) (g1 : Int32) (rS : Value) (h0 : Heap) (n0 : Nat) (Z0 : n0 ≤ h0.size) (T1 : own_Str Z h0 a1 (2 : Int32) (4 : Int32) [c0, c1]) (hb0 : 0 ≤ c0.toInt ∧ c0.toInt < 65536) (hb1 : 0 ≤ c1.toInt ∧ c1.toInt < 65536) (SC : Sta Z h0 "java/lang/String" "COMPACT_STRINGS" "Z" (.int g1)) (hg1 : ¬ (g1 = (0 : Int32))) (SA : Sta Z h0 "java/lang/StringUTF16" "$assertionsDisabled" "Z" (.int (1 : Int32))) (SHI : Sta Z h0 "java/lang/StringUTF16" "HI_BYTE_SHIFT" "I" (.int (0 : Int32))) (SLO : Sta Z h0 "java/lang/StringUTF16" "LO_BYTE_SHIFT" "I" (.int (8 : Int32))) (SF : Sta Z h0 "jdk/internal/util/Preconditions" "SIOOBE_FORMATTER" "Ljava/util/function/BiFunction;" rS) (hrS : rS.isRef = true) :
    MetFree l mN_7 (head1 (Jvm.Cond.code mN_7 jdk_42_method_56_code 2 (some .char) :: ws) ({ frames := 4, cells := 0, slots := 0, locals := 53 } : Room)) (fun a U => a = #[(.ref a1), (.int (0 : Int32))] ∧ Z.Warmed39 U.vm ∧ U.heap = h0) (fun _ _ _ _ _ => True) (fun _ U o U' => ∃ v L, o = .returned v ∧ (Qv c0 h0 n0) v U'.heap L ∧ FrameEnd U o U' L ({ frames := 4, cells := 0, slots := 0, locals := 53 } : Room).cells ({ frames := 4, cells := 0, slots := 0, locals := 53 } : Room).slots) := by
  obtain ⟨E1, b, kb, Fv, ⟨Fc, Vb, hall⟩ | ⟨Fc, Vb⟩⟩ := T1
  · have r := rmca l Z a0 hw ws a1 (0 : Int32) g1 b kb (2 : Int32) (List.map own_b8 [c0, c1]) rS h0 n0 Z0 E1 Fc Fv Vb (by decide) (by decide) SC hg1 SF hrS
    rw [show own_ch (List.map own_b8 [c0, c1]) (0 : Int32) = c0 from own_ch_eq hb0 (hall c0 (List.mem_of_getElem? (i := 0) rfl))] at r
    exact r
  · have r := rmcu l Z a0 hw ws a1 (0 : Int32) g1 b kb (4 : Int32) (own_u16 [c0, c1]) rS h0 n0 Z0 E1 Fc Fv Vb (by decide) (by decide) (by decide) (by decide) (by decide) (by decide) SC hg1 SA SHI SLO SF hrS
    rw [show own_chu (own_u16 [c0, c1]) (0 : Int32) = c0 from own_gc_eq hb0] at r
    exact r
set_option maxRecDepth 65536 in
theorem rmch2_1 (l : Launch) (Z : State) (a0 : Array Value) (hw : ∀ d ∈ tables_1, d.before a0 Z = true) (ws : List Jvm.Cond) (a1 : Addr) (c0 c1 : Int32) (g1 : Int32) (rS : Value) (h0 : Heap) (n0 : Nat) (Z0 : n0 ≤ h0.size) (T1 : own_Str Z h0 a1 (2 : Int32) (4 : Int32) [c0, c1]) (hb0 : 0 ≤ c0.toInt ∧ c0.toInt < 65536) (hb1 : 0 ≤ c1.toInt ∧ c1.toInt < 65536) (SC : Sta Z h0 "java/lang/String" "COMPACT_STRINGS" "Z" (.int g1)) (hg1 : ¬ (g1 = (0 : Int32))) (SA : Sta Z h0 "java/lang/StringUTF16" "$assertionsDisabled" "Z" (.int (1 : Int32))) (SHI : Sta Z h0 "java/lang/StringUTF16" "HI_BYTE_SHIFT" "I" (.int (0 : Int32))) (SLO : Sta Z h0 "java/lang/StringUTF16" "LO_BYTE_SHIFT" "I" (.int (8 : Int32))) (SF : Sta Z h0 "jdk/internal/util/Preconditions" "SIOOBE_FORMATTER" "Ljava/util/function/BiFunction;" rS) (hrS : rS.isRef = true) :
    MetFree l mN_7 (head1 (Jvm.Cond.code mN_7 jdk_42_method_56_code 2 (some .char) :: ws) ({ frames := 4, cells := 0, slots := 0, locals := 53 } : Room)) (fun a U => a = #[(.ref a1), (.int (1 : Int32))] ∧ Z.Warmed39 U.vm ∧ U.heap = h0) (fun _ _ _ _ _ => True) (fun _ U o U' => ∃ v L, o = .returned v ∧ (Qv c1 h0 n0) v U'.heap L ∧ FrameEnd U o U' L ({ frames := 4, cells := 0, slots := 0, locals := 53 } : Room).cells ({ frames := 4, cells := 0, slots := 0, locals := 53 } : Room).slots) := by
  obtain ⟨E1, b, kb, Fv, ⟨Fc, Vb, hall⟩ | ⟨Fc, Vb⟩⟩ := T1
  · have r := rmca l Z a0 hw ws a1 (1 : Int32) g1 b kb (2 : Int32) (List.map own_b8 [c0, c1]) rS h0 n0 Z0 E1 Fc Fv Vb (by decide) (by decide) SC hg1 SF hrS
    rw [show own_ch (List.map own_b8 [c0, c1]) (1 : Int32) = c1 from own_ch_eq hb1 (hall c1 (List.mem_of_getElem? (i := 1) rfl))] at r
    exact r
  · have r := rmcu l Z a0 hw ws a1 (1 : Int32) g1 b kb (4 : Int32) (own_u16 [c0, c1]) rS h0 n0 Z0 E1 Fc Fv Vb (by decide) (by decide) (by decide) (by decide) (by decide) (by decide) SC hg1 SA SHI SLO SF hrS
    rw [show own_chu (own_u16 [c0, c1]) (1 : Int32) = c1 from own_gc_eq hb1] at r
    exact r
set_option maxRecDepth 65536 in
theorem rmlen3 (l : Launch) (Z : State) (a0 : Array Value) (hw : ∀ d ∈ tables_1, d.before a0 Z = true) (ws : List Jvm.Cond) (a1 : Addr) (c0 c1 c2 : Int32) (g1 : Int32) (h0 : Heap) (n0 : Nat) (Z0 : n0 ≤ h0.size) (T1 : own_Str Z h0 a1 (3 : Int32) (6 : Int32) [c0, c1, c2]) (SC : Sta Z h0 "java/lang/String" "COMPACT_STRINGS" "Z" (.int g1)) (hg1 : ¬ (g1 = (0 : Int32))) :
    MetFree l mN_10 (head1 (Jvm.Cond.code mN_10 jdk_42_method_54_code 1 (some .int) :: ws) ({ frames := 1, cells := 0, slots := 0, locals := 13 } : Room)) (fun a U => a = #[(.ref a1)] ∧ Z.Warmed39 U.vm ∧ U.heap = h0) (fun _ _ _ _ _ => True) (fun _ U o U' => ∃ v L, o = .returned v ∧ (Qv 3 h0 n0) v U'.heap L ∧ FrameEnd U o U' L ({ frames := 1, cells := 0, slots := 0, locals := 13 } : Room).cells ({ frames := 1, cells := 0, slots := 0, locals := 13 } : Room).slots) := by
  obtain ⟨E1, b, kb, Fv, ⟨Fc, Vb, hall⟩ | ⟨Fc, Vb⟩⟩ := T1
  · have r := rmlnL l Z a0 hw ws a1 g1 b kb (3 : Int32) (List.map own_b8 [c0, c1, c2]) h0 n0 Z0 E1 Fc Fv Vb SC hg1
    rw [show ((3 : Int32) >>> ((0 : Int32) &&& 31)) = 3 by decide] at r
    exact r
  · have r := rmlnU l Z a0 hw ws a1 g1 b kb (6 : Int32) (own_u16 [c0, c1, c2]) h0 n0 Z0 E1 Fc Fv Vb SC hg1
    rw [show ((6 : Int32) >>> ((1 : Int32) &&& 31)) = 3 by decide] at r
    exact r
set_option maxRecDepth 65536 in
theorem rmch3_0 (l : Launch) (Z : State) (a0 : Array Value) (hw : ∀ d ∈ tables_1, d.before a0 Z = true) (ws : List Jvm.Cond) (a1 : Addr) (c0 c1 c2 : Int32) (g1 : Int32) (rS : Value) (h0 : Heap) (n0 : Nat) (Z0 : n0 ≤ h0.size) (T1 : own_Str Z h0 a1 (3 : Int32) (6 : Int32) [c0, c1, c2]) (hb0 : 0 ≤ c0.toInt ∧ c0.toInt < 65536) (hb1 : 0 ≤ c1.toInt ∧ c1.toInt < 65536) (hb2 : 0 ≤ c2.toInt ∧ c2.toInt < 65536) (SC : Sta Z h0 "java/lang/String" "COMPACT_STRINGS" "Z" (.int g1)) (hg1 : ¬ (g1 = (0 : Int32))) (SA : Sta Z h0 "java/lang/StringUTF16" "$assertionsDisabled" "Z" (.int (1 : Int32))) (SHI : Sta Z h0 "java/lang/StringUTF16" "HI_BYTE_SHIFT" "I" (.int (0 : Int32))) (SLO : Sta Z h0 "java/lang/StringUTF16" "LO_BYTE_SHIFT" "I" (.int (8 : Int32))) (SF : Sta Z h0 "jdk/internal/util/Preconditions" "SIOOBE_FORMATTER" "Ljava/util/function/BiFunction;" rS) (hrS : rS.isRef = true) :
    MetFree l mN_7 (head1 (Jvm.Cond.code mN_7 jdk_42_method_56_code 2 (some .char) :: ws) ({ frames := 4, cells := 0, slots := 0, locals := 53 } : Room)) (fun a U => a = #[(.ref a1), (.int (0 : Int32))] ∧ Z.Warmed39 U.vm ∧ U.heap = h0) (fun _ _ _ _ _ => True) (fun _ U o U' => ∃ v L, o = .returned v ∧ (Qv c0 h0 n0) v U'.heap L ∧ FrameEnd U o U' L ({ frames := 4, cells := 0, slots := 0, locals := 53 } : Room).cells ({ frames := 4, cells := 0, slots := 0, locals := 53 } : Room).slots) := by
  obtain ⟨E1, b, kb, Fv, ⟨Fc, Vb, hall⟩ | ⟨Fc, Vb⟩⟩ := T1
  · have r := rmca l Z a0 hw ws a1 (0 : Int32) g1 b kb (3 : Int32) (List.map own_b8 [c0, c1, c2]) rS h0 n0 Z0 E1 Fc Fv Vb (by decide) (by decide) SC hg1 SF hrS
    rw [show own_ch (List.map own_b8 [c0, c1, c2]) (0 : Int32) = c0 from own_ch_eq hb0 (hall c0 (List.mem_of_getElem? (i := 0) rfl))] at r
    exact r
  · have r := rmcu l Z a0 hw ws a1 (0 : Int32) g1 b kb (6 : Int32) (own_u16 [c0, c1, c2]) rS h0 n0 Z0 E1 Fc Fv Vb (by decide) (by decide) (by decide) (by decide) (by decide) (by decide) SC hg1 SA SHI SLO SF hrS
    rw [show own_chu (own_u16 [c0, c1, c2]) (0 : Int32) = c0 from own_gc_eq hb0] at r
    exact r
set_option maxRecDepth 65536 in
theorem rmch3_1 (l : Launch) (Z : State) (a0 : Array Value) (hw : ∀ d ∈ tables_1, d.before a0 Z = true) (ws : List Jvm.Cond) (a1 : Addr) (c0 c1 c2 : Int32) (g1 : Int32) (rS : Value) (h0 : Heap) (n0 : Nat) (Z0 : n0 ≤ h0.size) (T1 : own_Str Z h0 a1 (3 : Int32) (6 : Int32) [c0, c1, c2]) (hb0 : 0 ≤ c0.toInt ∧ c0.toInt < 65536) (hb1 : 0 ≤ c1.toInt ∧ c1.toInt < 65536) (hb2 : 0 ≤ c2.toInt ∧ c2.toInt < 65536) (SC : Sta Z h0 "java/lang/String" "COMPACT_STRINGS" "Z" (.int g1)) (hg1 : ¬ (g1 = (0 : Int32))) (SA : Sta Z h0 "java/lang/StringUTF16" "$assertionsDisabled" "Z" (.int (1 : Int32))) (SHI : Sta Z h0 "java/lang/StringUTF16" "HI_BYTE_SHIFT" "I" (.int (0 : Int32))) (SLO : Sta Z h0 "java/lang/StringUTF16" "LO_BYTE_SHIFT" "I" (.int (8 : Int32))) (SF : Sta Z h0 "jdk/internal/util/Preconditions" "SIOOBE_FORMATTER" "Ljava/util/function/BiFunction;" rS) (hrS : rS.isRef = true) :
    MetFree l mN_7 (head1 (Jvm.Cond.code mN_7 jdk_42_method_56_code 2 (some .char) :: ws) ({ frames := 4, cells := 0, slots := 0, locals := 53 } : Room)) (fun a U => a = #[(.ref a1), (.int (1 : Int32))] ∧ Z.Warmed39 U.vm ∧ U.heap = h0) (fun _ _ _ _ _ => True) (fun _ U o U' => ∃ v L, o = .returned v ∧ (Qv c1 h0 n0) v U'.heap L ∧ FrameEnd U o U' L ({ frames := 4, cells := 0, slots := 0, locals := 53 } : Room).cells ({ frames := 4, cells := 0, slots := 0, locals := 53 } : Room).slots) := by
  obtain ⟨E1, b, kb, Fv, ⟨Fc, Vb, hall⟩ | ⟨Fc, Vb⟩⟩ := T1
  · have r := rmca l Z a0 hw ws a1 (1 : Int32) g1 b kb (3 : Int32) (List.map own_b8 [c0, c1, c2]) rS h0 n0 Z0 E1 Fc Fv Vb (by decide) (by decide) SC hg1 SF hrS
    rw [show own_ch (List.map own_b8 [c0, c1, c2]) (1 : Int32) = c1 from own_ch_eq hb1 (hall c1 (List.mem_of_getElem? (i := 1) rfl))] at r
    exact r
  · have r := rmcu l Z a0 hw ws a1 (1 : Int32) g1 b kb (6 : Int32) (own_u16 [c0, c1, c2]) rS h0 n0 Z0 E1 Fc Fv Vb (by decide) (by decide) (by decide) (by decide) (by decide) (by decide) SC hg1 SA SHI SLO SF hrS
    rw [show own_chu (own_u16 [c0, c1, c2]) (1 : Int32) = c1 from own_gc_eq hb1] at r
    exact r
set_option maxRecDepth 65536 in
theorem rmch3_2 (l : Launch) (Z : State) (a0 : Array Value) (hw : ∀ d ∈ tables_1, d.before a0 Z = true) (ws : List Jvm.Cond) (a1 : Addr) (c0 c1 c2 : Int32) (g1 : Int32) (rS : Value) (h0 : Heap) (n0 : Nat) (Z0 : n0 ≤ h0.size) (T1 : own_Str Z h0 a1 (3 : Int32) (6 : Int32) [c0, c1, c2]) (hb0 : 0 ≤ c0.toInt ∧ c0.toInt < 65536) (hb1 : 0 ≤ c1.toInt ∧ c1.toInt < 65536) (hb2 : 0 ≤ c2.toInt ∧ c2.toInt < 65536) (SC : Sta Z h0 "java/lang/String" "COMPACT_STRINGS" "Z" (.int g1)) (hg1 : ¬ (g1 = (0 : Int32))) (SA : Sta Z h0 "java/lang/StringUTF16" "$assertionsDisabled" "Z" (.int (1 : Int32))) (SHI : Sta Z h0 "java/lang/StringUTF16" "HI_BYTE_SHIFT" "I" (.int (0 : Int32))) (SLO : Sta Z h0 "java/lang/StringUTF16" "LO_BYTE_SHIFT" "I" (.int (8 : Int32))) (SF : Sta Z h0 "jdk/internal/util/Preconditions" "SIOOBE_FORMATTER" "Ljava/util/function/BiFunction;" rS) (hrS : rS.isRef = true) :
    MetFree l mN_7 (head1 (Jvm.Cond.code mN_7 jdk_42_method_56_code 2 (some .char) :: ws) ({ frames := 4, cells := 0, slots := 0, locals := 53 } : Room)) (fun a U => a = #[(.ref a1), (.int (2 : Int32))] ∧ Z.Warmed39 U.vm ∧ U.heap = h0) (fun _ _ _ _ _ => True) (fun _ U o U' => ∃ v L, o = .returned v ∧ (Qv c2 h0 n0) v U'.heap L ∧ FrameEnd U o U' L ({ frames := 4, cells := 0, slots := 0, locals := 53 } : Room).cells ({ frames := 4, cells := 0, slots := 0, locals := 53 } : Room).slots) := by
  obtain ⟨E1, b, kb, Fv, ⟨Fc, Vb, hall⟩ | ⟨Fc, Vb⟩⟩ := T1
  · have r := rmca l Z a0 hw ws a1 (2 : Int32) g1 b kb (3 : Int32) (List.map own_b8 [c0, c1, c2]) rS h0 n0 Z0 E1 Fc Fv Vb (by decide) (by decide) SC hg1 SF hrS
    rw [show own_ch (List.map own_b8 [c0, c1, c2]) (2 : Int32) = c2 from own_ch_eq hb2 (hall c2 (List.mem_of_getElem? (i := 2) rfl))] at r
    exact r
  · have r := rmcu l Z a0 hw ws a1 (2 : Int32) g1 b kb (6 : Int32) (own_u16 [c0, c1, c2]) rS h0 n0 Z0 E1 Fc Fv Vb (by decide) (by decide) (by decide) (by decide) (by decide) (by decide) SC hg1 SA SHI SLO SF hrS
    rw [show own_chu (own_u16 [c0, c1, c2]) (2 : Int32) = c2 from own_gc_eq hb2] at r
    exact r
set_option maxRecDepth 65536 in
theorem rmlen4 (l : Launch) (Z : State) (a0 : Array Value) (hw : ∀ d ∈ tables_1, d.before a0 Z = true) (ws : List Jvm.Cond) (a1 : Addr) (c0 c1 c2 c3 : Int32) (g1 : Int32) (h0 : Heap) (n0 : Nat) (Z0 : n0 ≤ h0.size) (T1 : own_Str Z h0 a1 (4 : Int32) (8 : Int32) [c0, c1, c2, c3]) (SC : Sta Z h0 "java/lang/String" "COMPACT_STRINGS" "Z" (.int g1)) (hg1 : ¬ (g1 = (0 : Int32))) :
    MetFree l mN_10 (head1 (Jvm.Cond.code mN_10 jdk_42_method_54_code 1 (some .int) :: ws) ({ frames := 1, cells := 0, slots := 0, locals := 13 } : Room)) (fun a U => a = #[(.ref a1)] ∧ Z.Warmed39 U.vm ∧ U.heap = h0) (fun _ _ _ _ _ => True) (fun _ U o U' => ∃ v L, o = .returned v ∧ (Qv 4 h0 n0) v U'.heap L ∧ FrameEnd U o U' L ({ frames := 1, cells := 0, slots := 0, locals := 13 } : Room).cells ({ frames := 1, cells := 0, slots := 0, locals := 13 } : Room).slots) := by
  obtain ⟨E1, b, kb, Fv, ⟨Fc, Vb, hall⟩ | ⟨Fc, Vb⟩⟩ := T1
  · have r := rmlnL l Z a0 hw ws a1 g1 b kb (4 : Int32) (List.map own_b8 [c0, c1, c2, c3]) h0 n0 Z0 E1 Fc Fv Vb SC hg1
    rw [show ((4 : Int32) >>> ((0 : Int32) &&& 31)) = 4 by decide] at r
    exact r
  · have r := rmlnU l Z a0 hw ws a1 g1 b kb (8 : Int32) (own_u16 [c0, c1, c2, c3]) h0 n0 Z0 E1 Fc Fv Vb SC hg1
    rw [show ((8 : Int32) >>> ((1 : Int32) &&& 31)) = 4 by decide] at r
    exact r
set_option maxRecDepth 65536 in
theorem rmch4_0 (l : Launch) (Z : State) (a0 : Array Value) (hw : ∀ d ∈ tables_1, d.before a0 Z = true) (ws : List Jvm.Cond) (a1 : Addr) (c0 c1 c2 c3 : Int32) (g1 : Int32) (rS : Value) (h0 : Heap) (n0 : Nat) (Z0 : n0 ≤ h0.size) (T1 : own_Str Z h0 a1 (4 : Int32) (8 : Int32) [c0, c1, c2, c3]) (hb0 : 0 ≤ c0.toInt ∧ c0.toInt < 65536) (hb1 : 0 ≤ c1.toInt ∧ c1.toInt < 65536) (hb2 : 0 ≤ c2.toInt ∧ c2.toInt < 65536) (hb3 : 0 ≤ c3.toInt ∧ c3.toInt < 65536) (SC : Sta Z h0 "java/lang/String" "COMPACT_STRINGS" "Z" (.int g1)) (hg1 : ¬ (g1 = (0 : Int32))) (SA : Sta Z h0 "java/lang/StringUTF16" "$assertionsDisabled" "Z" (.int (1 : Int32))) (SHI : Sta Z h0 "java/lang/StringUTF16" "HI_BYTE_SHIFT" "I" (.int (0 : Int32))) (SLO : Sta Z h0 "java/lang/StringUTF16" "LO_BYTE_SHIFT" "I" (.int (8 : Int32))) (SF : Sta Z h0 "jdk/internal/util/Preconditions" "SIOOBE_FORMATTER" "Ljava/util/function/BiFunction;" rS) (hrS : rS.isRef = true) :
    MetFree l mN_7 (head1 (Jvm.Cond.code mN_7 jdk_42_method_56_code 2 (some .char) :: ws) ({ frames := 4, cells := 0, slots := 0, locals := 53 } : Room)) (fun a U => a = #[(.ref a1), (.int (0 : Int32))] ∧ Z.Warmed39 U.vm ∧ U.heap = h0) (fun _ _ _ _ _ => True) (fun _ U o U' => ∃ v L, o = .returned v ∧ (Qv c0 h0 n0) v U'.heap L ∧ FrameEnd U o U' L ({ frames := 4, cells := 0, slots := 0, locals := 53 } : Room).cells ({ frames := 4, cells := 0, slots := 0, locals := 53 } : Room).slots) := by
  obtain ⟨E1, b, kb, Fv, ⟨Fc, Vb, hall⟩ | ⟨Fc, Vb⟩⟩ := T1
  · have r := rmca l Z a0 hw ws a1 (0 : Int32) g1 b kb (4 : Int32) (List.map own_b8 [c0, c1, c2, c3]) rS h0 n0 Z0 E1 Fc Fv Vb (by decide) (by decide) SC hg1 SF hrS
    rw [show own_ch (List.map own_b8 [c0, c1, c2, c3]) (0 : Int32) = c0 from own_ch_eq hb0 (hall c0 (List.mem_of_getElem? (i := 0) rfl))] at r
    exact r
  · have r := rmcu l Z a0 hw ws a1 (0 : Int32) g1 b kb (8 : Int32) (own_u16 [c0, c1, c2, c3]) rS h0 n0 Z0 E1 Fc Fv Vb (by decide) (by decide) (by decide) (by decide) (by decide) (by decide) SC hg1 SA SHI SLO SF hrS
    rw [show own_chu (own_u16 [c0, c1, c2, c3]) (0 : Int32) = c0 from own_gc_eq hb0] at r
    exact r
set_option maxRecDepth 65536 in
theorem rmch4_1 (l : Launch) (Z : State) (a0 : Array Value) (hw : ∀ d ∈ tables_1, d.before a0 Z = true) (ws : List Jvm.Cond) (a1 : Addr) (c0 c1 c2 c3 : Int32) (g1 : Int32) (rS : Value) (h0 : Heap) (n0 : Nat) (Z0 : n0 ≤ h0.size) (T1 : own_Str Z h0 a1 (4 : Int32) (8 : Int32) [c0, c1, c2, c3]) (hb0 : 0 ≤ c0.toInt ∧ c0.toInt < 65536) (hb1 : 0 ≤ c1.toInt ∧ c1.toInt < 65536) (hb2 : 0 ≤ c2.toInt ∧ c2.toInt < 65536) (hb3 : 0 ≤ c3.toInt ∧ c3.toInt < 65536) (SC : Sta Z h0 "java/lang/String" "COMPACT_STRINGS" "Z" (.int g1)) (hg1 : ¬ (g1 = (0 : Int32))) (SA : Sta Z h0 "java/lang/StringUTF16" "$assertionsDisabled" "Z" (.int (1 : Int32))) (SHI : Sta Z h0 "java/lang/StringUTF16" "HI_BYTE_SHIFT" "I" (.int (0 : Int32))) (SLO : Sta Z h0 "java/lang/StringUTF16" "LO_BYTE_SHIFT" "I" (.int (8 : Int32))) (SF : Sta Z h0 "jdk/internal/util/Preconditions" "SIOOBE_FORMATTER" "Ljava/util/function/BiFunction;" rS) (hrS : rS.isRef = true) :
    MetFree l mN_7 (head1 (Jvm.Cond.code mN_7 jdk_42_method_56_code 2 (some .char) :: ws) ({ frames := 4, cells := 0, slots := 0, locals := 53 } : Room)) (fun a U => a = #[(.ref a1), (.int (1 : Int32))] ∧ Z.Warmed39 U.vm ∧ U.heap = h0) (fun _ _ _ _ _ => True) (fun _ U o U' => ∃ v L, o = .returned v ∧ (Qv c1 h0 n0) v U'.heap L ∧ FrameEnd U o U' L ({ frames := 4, cells := 0, slots := 0, locals := 53 } : Room).cells ({ frames := 4, cells := 0, slots := 0, locals := 53 } : Room).slots) := by
  obtain ⟨E1, b, kb, Fv, ⟨Fc, Vb, hall⟩ | ⟨Fc, Vb⟩⟩ := T1
  · have r := rmca l Z a0 hw ws a1 (1 : Int32) g1 b kb (4 : Int32) (List.map own_b8 [c0, c1, c2, c3]) rS h0 n0 Z0 E1 Fc Fv Vb (by decide) (by decide) SC hg1 SF hrS
    rw [show own_ch (List.map own_b8 [c0, c1, c2, c3]) (1 : Int32) = c1 from own_ch_eq hb1 (hall c1 (List.mem_of_getElem? (i := 1) rfl))] at r
    exact r
  · have r := rmcu l Z a0 hw ws a1 (1 : Int32) g1 b kb (8 : Int32) (own_u16 [c0, c1, c2, c3]) rS h0 n0 Z0 E1 Fc Fv Vb (by decide) (by decide) (by decide) (by decide) (by decide) (by decide) SC hg1 SA SHI SLO SF hrS
    rw [show own_chu (own_u16 [c0, c1, c2, c3]) (1 : Int32) = c1 from own_gc_eq hb1] at r
    exact r
set_option maxRecDepth 65536 in
theorem rmch4_2 (l : Launch) (Z : State) (a0 : Array Value) (hw : ∀ d ∈ tables_1, d.before a0 Z = true) (ws : List Jvm.Cond) (a1 : Addr) (c0 c1 c2 c3 : Int32) (g1 : Int32) (rS : Value) (h0 : Heap) (n0 : Nat) (Z0 : n0 ≤ h0.size) (T1 : own_Str Z h0 a1 (4 : Int32) (8 : Int32) [c0, c1, c2, c3]) (hb0 : 0 ≤ c0.toInt ∧ c0.toInt < 65536) (hb1 : 0 ≤ c1.toInt ∧ c1.toInt < 65536) (hb2 : 0 ≤ c2.toInt ∧ c2.toInt < 65536) (hb3 : 0 ≤ c3.toInt ∧ c3.toInt < 65536) (SC : Sta Z h0 "java/lang/String" "COMPACT_STRINGS" "Z" (.int g1)) (hg1 : ¬ (g1 = (0 : Int32))) (SA : Sta Z h0 "java/lang/StringUTF16" "$assertionsDisabled" "Z" (.int (1 : Int32))) (SHI : Sta Z h0 "java/lang/StringUTF16" "HI_BYTE_SHIFT" "I" (.int (0 : Int32))) (SLO : Sta Z h0 "java/lang/StringUTF16" "LO_BYTE_SHIFT" "I" (.int (8 : Int32))) (SF : Sta Z h0 "jdk/internal/util/Preconditions" "SIOOBE_FORMATTER" "Ljava/util/function/BiFunction;" rS) (hrS : rS.isRef = true) :
    MetFree l mN_7 (head1 (Jvm.Cond.code mN_7 jdk_42_method_56_code 2 (some .char) :: ws) ({ frames := 4, cells := 0, slots := 0, locals := 53 } : Room)) (fun a U => a = #[(.ref a1), (.int (2 : Int32))] ∧ Z.Warmed39 U.vm ∧ U.heap = h0) (fun _ _ _ _ _ => True) (fun _ U o U' => ∃ v L, o = .returned v ∧ (Qv c2 h0 n0) v U'.heap L ∧ FrameEnd U o U' L ({ frames := 4, cells := 0, slots := 0, locals := 53 } : Room).cells ({ frames := 4, cells := 0, slots := 0, locals := 53 } : Room).slots) := by
  obtain ⟨E1, b, kb, Fv, ⟨Fc, Vb, hall⟩ | ⟨Fc, Vb⟩⟩ := T1
  · have r := rmca l Z a0 hw ws a1 (2 : Int32) g1 b kb (4 : Int32) (List.map own_b8 [c0, c1, c2, c3]) rS h0 n0 Z0 E1 Fc Fv Vb (by decide) (by decide) SC hg1 SF hrS
    rw [show own_ch (List.map own_b8 [c0, c1, c2, c3]) (2 : Int32) = c2 from own_ch_eq hb2 (hall c2 (List.mem_of_getElem? (i := 2) rfl))] at r
    exact r
  · have r := rmcu l Z a0 hw ws a1 (2 : Int32) g1 b kb (8 : Int32) (own_u16 [c0, c1, c2, c3]) rS h0 n0 Z0 E1 Fc Fv Vb (by decide) (by decide) (by decide) (by decide) (by decide) (by decide) SC hg1 SA SHI SLO SF hrS
    rw [show own_chu (own_u16 [c0, c1, c2, c3]) (2 : Int32) = c2 from own_gc_eq hb2] at r
    exact r
set_option maxRecDepth 65536 in
theorem rmch4_3 (l : Launch) (Z : State) (a0 : Array Value) (hw : ∀ d ∈ tables_1, d.before a0 Z = true) (ws : List Jvm.Cond) (a1 : Addr) (c0 c1 c2 c3 : Int32) (g1 : Int32) (rS : Value) (h0 : Heap) (n0 : Nat) (Z0 : n0 ≤ h0.size) (T1 : own_Str Z h0 a1 (4 : Int32) (8 : Int32) [c0, c1, c2, c3]) (hb0 : 0 ≤ c0.toInt ∧ c0.toInt < 65536) (hb1 : 0 ≤ c1.toInt ∧ c1.toInt < 65536) (hb2 : 0 ≤ c2.toInt ∧ c2.toInt < 65536) (hb3 : 0 ≤ c3.toInt ∧ c3.toInt < 65536) (SC : Sta Z h0 "java/lang/String" "COMPACT_STRINGS" "Z" (.int g1)) (hg1 : ¬ (g1 = (0 : Int32))) (SA : Sta Z h0 "java/lang/StringUTF16" "$assertionsDisabled" "Z" (.int (1 : Int32))) (SHI : Sta Z h0 "java/lang/StringUTF16" "HI_BYTE_SHIFT" "I" (.int (0 : Int32))) (SLO : Sta Z h0 "java/lang/StringUTF16" "LO_BYTE_SHIFT" "I" (.int (8 : Int32))) (SF : Sta Z h0 "jdk/internal/util/Preconditions" "SIOOBE_FORMATTER" "Ljava/util/function/BiFunction;" rS) (hrS : rS.isRef = true) :
    MetFree l mN_7 (head1 (Jvm.Cond.code mN_7 jdk_42_method_56_code 2 (some .char) :: ws) ({ frames := 4, cells := 0, slots := 0, locals := 53 } : Room)) (fun a U => a = #[(.ref a1), (.int (3 : Int32))] ∧ Z.Warmed39 U.vm ∧ U.heap = h0) (fun _ _ _ _ _ => True) (fun _ U o U' => ∃ v L, o = .returned v ∧ (Qv c3 h0 n0) v U'.heap L ∧ FrameEnd U o U' L ({ frames := 4, cells := 0, slots := 0, locals := 53 } : Room).cells ({ frames := 4, cells := 0, slots := 0, locals := 53 } : Room).slots) := by
  obtain ⟨E1, b, kb, Fv, ⟨Fc, Vb, hall⟩ | ⟨Fc, Vb⟩⟩ := T1
  · have r := rmca l Z a0 hw ws a1 (3 : Int32) g1 b kb (4 : Int32) (List.map own_b8 [c0, c1, c2, c3]) rS h0 n0 Z0 E1 Fc Fv Vb (by decide) (by decide) SC hg1 SF hrS
    rw [show own_ch (List.map own_b8 [c0, c1, c2, c3]) (3 : Int32) = c3 from own_ch_eq hb3 (hall c3 (List.mem_of_getElem? (i := 3) rfl))] at r
    exact r
  · have r := rmcu l Z a0 hw ws a1 (3 : Int32) g1 b kb (8 : Int32) (own_u16 [c0, c1, c2, c3]) rS h0 n0 Z0 E1 Fc Fv Vb (by decide) (by decide) (by decide) (by decide) (by decide) (by decide) SC hg1 SA SHI SLO SF hrS
    rw [show own_chu (own_u16 [c0, c1, c2, c3]) (3 : Int32) = c3 from own_gc_eq hb3] at r
    exact r
abbrev mN_11 : MethodName := ⟨"java/lang/String", "isEmpty", "()Z"⟩
theorem d6_0 : decode jdk_42_method_55_code 0 = .ok (.aload_n 0, 1) := by decide +kernel
theorem d6_1 : decode jdk_42_method_55_code 1 = .ok (.getfield 9, 3) := by decide +kernel
theorem d6_4 : decode jdk_42_method_55_code 4 = .ok (.arraylength, 1) := by decide +kernel
theorem d6_5 : decode jdk_42_method_55_code 5 = .ok (.ifCond .ne 7, 3) := by decide +kernel
theorem d6_8 : decode jdk_42_method_55_code 8 = .ok (.iconst 1, 1) := by decide +kernel
theorem d6_9 : decode jdk_42_method_55_code 9 = .ok (.goto 4, 3) := by decide +kernel
theorem d6_13 : decode jdk_42_method_55_code 13 = .ok (.ireturn, 1) := by decide +kernel
theorem ef_iy0 (m : MethodId) (x0 : Addr) : entryFrame m #[(.ref x0)] 1 = mkF m 0 #[.val (.ref x0)] [] := by first | (simp [entryFrame, mkF, argsToLocals, Value.category]; done) | rfl
set_option maxRecDepth 65536 in
set_option maxHeartbeats 40000000 in
theorem rmiy0 (l : Launch) (Z : State) (a0 : Array Value) (hw : ∀ d ∈ tables_1, d.before a0 Z = true) (ws : List Jvm.Cond) (a1 b : Addr) (kb : ClassId) (cs : List Int32) (h0 : Heap) (n0 : Nat) (Z0 : n0 ≤ h0.size) (Fv : Fld Z h0 a1 "java/lang/String" "value" "[B" (.ref b)) (Vb : Arv Z h0 b kb .byte (0 : Int32) (cs.map Value.int) (.int (0 : Int32))) :
    MetFree l mN_11 (head1 (Jvm.Cond.code mN_11 jdk_42_method_55_code 1 (some .boolean) :: ws) ({ frames := 0, cells := 0, slots := 0, locals := 0 } : Room)) (fun a U => a = #[(.ref a1)] ∧ Z.Warmed39 U.vm ∧ U.heap = h0) (fun _ _ _ _ _ => True) (fun _ U o U' => ∃ v L, o = .returned v ∧ (Qv 1 h0 n0) v U'.heap L ∧ FrameEnd U o U' L ({ frames := 0, cells := 0, slots := 0, locals := 0 } : Room).cells ({ frames := 0, cells := 0, slots := 0, locals := 0 } : Room).slots) := by
  refine MetFree.of_bodySF (plainFor_of_name pn_1) hisR ?_
  intro p e s m args below meth c s₁ Bd hml0 hP hK
  obtain ⟨rfl, hZ, hh⟩ := hP
  have hx := Bd.exec
  have hby := Bd.bytes
  have hml : c.maxLocals = 1 := hml0
  have hown : s.vm.findClass "java/lang/String" = some m.cls := findClass_of_methodNamed Bd.named
  have hnm := (name_of_methodNamed Bd.named Bd.method).1
  have hlk := Bd.notSynchronized
  have X0 : Stand p l e ({ frames := 0, cells := 0, slots := 0, locals := 0 } : Room) s m #[(.ref a1)] below meth c s₁ [] 0 0 := Stand.of_body Bd
  have e0 : s₁.heap = h0 := by rw [← hh, Bd.state]; rfl
  have N0 := Fr.nil n0
  show own_Ends p e below s FrameEnd (Qv 1 h0 n0) 0 0 (s₁.setTop (entryFrame m #[(.ref a1)] 1))
  refine own_of (U' := (s₁.setTop (mkF m 0 #[.val (.ref a1)] []))) (fun _ k => castTop (ef_iy0 m a1) k) ?_
  refine own_aloadN X0 hx hby d6_0 rfl rfl ?_
  obtain ⟨T51, X51, e51, st51⟩ := getF X0 hx hZ hown (host := "") (Or.inl (own_w hw 27 rfl)) Via.refl e0 Fv (g := (mkF m 1 #[.val (.ref a1)] [(.ref a1)])) rfl rfl (hb hby d6_1)
  refine own_of (U' := (T51.setTop (mkF m 4 #[.val (.ref a1)] [(.ref b)]))) (st51) ?_
  obtain ⟨cl52, Ar52, qa52, Sa52, Na52, -, -⟩ := id Vb
  have al52 := X51.arraylength hx (by rw [e51]; exact Ar52.1) (State.isArrayOf_alike hZ.alike Ar52.2.1) (g := (mkF m 4 #[.val (.ref a1)] [(.ref b)])) rfl rfl (hb hby d6_4)
  rw [len_of Sa52 Na52] at al52
  refine own_of (U' := (T51.setTop (mkF m 5 #[.val (.ref a1)] [(.int (0 : Int32))]))) (al52) ?_
  have hc5_53 : (0 : Int32) = (0 : Int32) := by decide
  refine own_ifNo X51 hx hby d6_5 ((if0 _ _).trans (teq hc5_53).2) ?_
  refine own_iconst X51 hx hby 1 d6_8 rfl ?_
  refine own_goto X51 hx hby 9 13 d6_9 (by decide) (by decide) ?_
  exact own_retN X51 hx hlk (t := .boolean) Bd.returns (by simp) (hb hby d6_13) (by decide) (by decide) (⟨rfl, N0, e51⟩)
theorem d6_12 : decode jdk_42_method_55_code 12 = .ok (.iconst 0, 1) := by decide +kernel
theorem ef_iy1 (m : MethodId) (x0 : Addr) : entryFrame m #[(.ref x0)] 1 = mkF m 0 #[.val (.ref x0)] [] := by first | (simp [entryFrame, mkF, argsToLocals, Value.category]; done) | rfl
set_option maxRecDepth 65536 in
set_option maxHeartbeats 40000000 in
theorem rmiy1 (l : Launch) (Z : State) (a0 : Array Value) (hw : ∀ d ∈ tables_1, d.before a0 Z = true) (ws : List Jvm.Cond) (a1 b : Addr) (kb : ClassId) (cs : List Int32) (h0 : Heap) (n0 : Nat) (Z0 : n0 ≤ h0.size) (Fv : Fld Z h0 a1 "java/lang/String" "value" "[B" (.ref b)) (Vb : Arv Z h0 b kb .byte (1 : Int32) (cs.map Value.int) (.int (0 : Int32))) :
    MetFree l mN_11 (head1 (Jvm.Cond.code mN_11 jdk_42_method_55_code 1 (some .boolean) :: ws) ({ frames := 0, cells := 0, slots := 0, locals := 0 } : Room)) (fun a U => a = #[(.ref a1)] ∧ Z.Warmed39 U.vm ∧ U.heap = h0) (fun _ _ _ _ _ => True) (fun _ U o U' => ∃ v L, o = .returned v ∧ (Qv 0 h0 n0) v U'.heap L ∧ FrameEnd U o U' L ({ frames := 0, cells := 0, slots := 0, locals := 0 } : Room).cells ({ frames := 0, cells := 0, slots := 0, locals := 0 } : Room).slots) := by
  refine MetFree.of_bodySF (plainFor_of_name pn_1) hisR ?_
  intro p e s m args below meth c s₁ Bd hml0 hP hK
  obtain ⟨rfl, hZ, hh⟩ := hP
  have hx := Bd.exec
  have hby := Bd.bytes
  have hml : c.maxLocals = 1 := hml0
  have hown : s.vm.findClass "java/lang/String" = some m.cls := findClass_of_methodNamed Bd.named
  have hnm := (name_of_methodNamed Bd.named Bd.method).1
  have hlk := Bd.notSynchronized
  have X0 : Stand p l e ({ frames := 0, cells := 0, slots := 0, locals := 0 } : Room) s m #[(.ref a1)] below meth c s₁ [] 0 0 := Stand.of_body Bd
  have e0 : s₁.heap = h0 := by rw [← hh, Bd.state]; rfl
  have N0 := Fr.nil n0
  show own_Ends p e below s FrameEnd (Qv 0 h0 n0) 0 0 (s₁.setTop (entryFrame m #[(.ref a1)] 1))
  refine own_of (U' := (s₁.setTop (mkF m 0 #[.val (.ref a1)] []))) (fun _ k => castTop (ef_iy1 m a1) k) ?_
  refine own_aloadN X0 hx hby d6_0 rfl rfl ?_
  obtain ⟨T54, X54, e54, st54⟩ := getF X0 hx hZ hown (host := "") (Or.inl (own_w hw 27 rfl)) Via.refl e0 Fv (g := (mkF m 1 #[.val (.ref a1)] [(.ref a1)])) rfl rfl (hb hby d6_1)
  refine own_of (U' := (T54.setTop (mkF m 4 #[.val (.ref a1)] [(.ref b)]))) (st54) ?_
  obtain ⟨cl55, Ar55, qa55, Sa55, Na55, -, -⟩ := id Vb
  have al55 := X54.arraylength hx (by rw [e54]; exact Ar55.1) (State.isArrayOf_alike hZ.alike Ar55.2.1) (g := (mkF m 4 #[.val (.ref a1)] [(.ref b)])) rfl rfl (hb hby d6_4)
  rw [len_of Sa55 Na55] at al55
  refine own_of (U' := (T54.setTop (mkF m 5 #[.val (.ref a1)] [(.int (1 : Int32))]))) (al55) ?_
  have hc5_56 : ¬ ((1 : Int32) = (0 : Int32)) := by decide
  refine own_ifYes X54 hx hby 5 12 d6_5 ((if0 _ _).trans (feq hc5_56).2) (by decide) (by decide) ?_
  refine own_iconst X54 hx hby 0 d6_12 rfl ?_
  exact own_retN X54 hx hlk (t := .boolean) Bd.returns (by simp) (hb hby d6_13) (by decide) (by decide) (⟨rfl, N0, e54⟩)
theorem ef_iy2 (m : MethodId) (x0 : Addr) : entryFrame m #[(.ref x0)] 1 = mkF m 0 #[.val (.ref x0)] [] := by first | (simp [entryFrame, mkF, argsToLocals, Value.category]; done) | rfl
set_option maxRecDepth 65536 in
set_option maxHeartbeats 40000000 in
theorem rmiy2 (l : Launch) (Z : State) (a0 : Array Value) (hw : ∀ d ∈ tables_1, d.before a0 Z = true) (ws : List Jvm.Cond) (a1 b : Addr) (kb : ClassId) (cs : List Int32) (h0 : Heap) (n0 : Nat) (Z0 : n0 ≤ h0.size) (Fv : Fld Z h0 a1 "java/lang/String" "value" "[B" (.ref b)) (Vb : Arv Z h0 b kb .byte (2 : Int32) (cs.map Value.int) (.int (0 : Int32))) :
    MetFree l mN_11 (head1 (Jvm.Cond.code mN_11 jdk_42_method_55_code 1 (some .boolean) :: ws) ({ frames := 0, cells := 0, slots := 0, locals := 0 } : Room)) (fun a U => a = #[(.ref a1)] ∧ Z.Warmed39 U.vm ∧ U.heap = h0) (fun _ _ _ _ _ => True) (fun _ U o U' => ∃ v L, o = .returned v ∧ (Qv 0 h0 n0) v U'.heap L ∧ FrameEnd U o U' L ({ frames := 0, cells := 0, slots := 0, locals := 0 } : Room).cells ({ frames := 0, cells := 0, slots := 0, locals := 0 } : Room).slots) := by
  refine MetFree.of_bodySF (plainFor_of_name pn_1) hisR ?_
  intro p e s m args below meth c s₁ Bd hml0 hP hK
  obtain ⟨rfl, hZ, hh⟩ := hP
  have hx := Bd.exec
  have hby := Bd.bytes
  have hml : c.maxLocals = 1 := hml0
  have hown : s.vm.findClass "java/lang/String" = some m.cls := findClass_of_methodNamed Bd.named
  have hnm := (name_of_methodNamed Bd.named Bd.method).1
  have hlk := Bd.notSynchronized
  have X0 : Stand p l e ({ frames := 0, cells := 0, slots := 0, locals := 0 } : Room) s m #[(.ref a1)] below meth c s₁ [] 0 0 := Stand.of_body Bd
  have e0 : s₁.heap = h0 := by rw [← hh, Bd.state]; rfl
  have N0 := Fr.nil n0
  show own_Ends p e below s FrameEnd (Qv 0 h0 n0) 0 0 (s₁.setTop (entryFrame m #[(.ref a1)] 1))
  refine own_of (U' := (s₁.setTop (mkF m 0 #[.val (.ref a1)] []))) (fun _ k => castTop (ef_iy2 m a1) k) ?_
  refine own_aloadN X0 hx hby d6_0 rfl rfl ?_
  obtain ⟨T57, X57, e57, st57⟩ := getF X0 hx hZ hown (host := "") (Or.inl (own_w hw 27 rfl)) Via.refl e0 Fv (g := (mkF m 1 #[.val (.ref a1)] [(.ref a1)])) rfl rfl (hb hby d6_1)
  refine own_of (U' := (T57.setTop (mkF m 4 #[.val (.ref a1)] [(.ref b)]))) (st57) ?_
  obtain ⟨cl58, Ar58, qa58, Sa58, Na58, -, -⟩ := id Vb
  have al58 := X57.arraylength hx (by rw [e57]; exact Ar58.1) (State.isArrayOf_alike hZ.alike Ar58.2.1) (g := (mkF m 4 #[.val (.ref a1)] [(.ref b)])) rfl rfl (hb hby d6_4)
  rw [len_of Sa58 Na58] at al58
  refine own_of (U' := (T57.setTop (mkF m 5 #[.val (.ref a1)] [(.int (2 : Int32))]))) (al58) ?_
  have hc5_59 : ¬ ((2 : Int32) = (0 : Int32)) := by decide
  refine own_ifYes X57 hx hby 5 12 d6_5 ((if0 _ _).trans (feq hc5_59).2) (by decide) (by decide) ?_
  refine own_iconst X57 hx hby 0 d6_12 rfl ?_
  exact own_retN X57 hx hlk (t := .boolean) Bd.returns (by simp) (hb hby d6_13) (by decide) (by decide) (⟨rfl, N0, e57⟩)
theorem ef_iy3 (m : MethodId) (x0 : Addr) : entryFrame m #[(.ref x0)] 1 = mkF m 0 #[.val (.ref x0)] [] := by first | (simp [entryFrame, mkF, argsToLocals, Value.category]; done) | rfl
set_option maxRecDepth 65536 in
set_option maxHeartbeats 40000000 in
theorem rmiy3 (l : Launch) (Z : State) (a0 : Array Value) (hw : ∀ d ∈ tables_1, d.before a0 Z = true) (ws : List Jvm.Cond) (a1 b : Addr) (kb : ClassId) (cs : List Int32) (h0 : Heap) (n0 : Nat) (Z0 : n0 ≤ h0.size) (Fv : Fld Z h0 a1 "java/lang/String" "value" "[B" (.ref b)) (Vb : Arv Z h0 b kb .byte (3 : Int32) (cs.map Value.int) (.int (0 : Int32))) :
    MetFree l mN_11 (head1 (Jvm.Cond.code mN_11 jdk_42_method_55_code 1 (some .boolean) :: ws) ({ frames := 0, cells := 0, slots := 0, locals := 0 } : Room)) (fun a U => a = #[(.ref a1)] ∧ Z.Warmed39 U.vm ∧ U.heap = h0) (fun _ _ _ _ _ => True) (fun _ U o U' => ∃ v L, o = .returned v ∧ (Qv 0 h0 n0) v U'.heap L ∧ FrameEnd U o U' L ({ frames := 0, cells := 0, slots := 0, locals := 0 } : Room).cells ({ frames := 0, cells := 0, slots := 0, locals := 0 } : Room).slots) := by
  refine MetFree.of_bodySF (plainFor_of_name pn_1) hisR ?_
  intro p e s m args below meth c s₁ Bd hml0 hP hK
  obtain ⟨rfl, hZ, hh⟩ := hP
  have hx := Bd.exec
  have hby := Bd.bytes
  have hml : c.maxLocals = 1 := hml0
  have hown : s.vm.findClass "java/lang/String" = some m.cls := findClass_of_methodNamed Bd.named
  have hnm := (name_of_methodNamed Bd.named Bd.method).1
  have hlk := Bd.notSynchronized
  have X0 : Stand p l e ({ frames := 0, cells := 0, slots := 0, locals := 0 } : Room) s m #[(.ref a1)] below meth c s₁ [] 0 0 := Stand.of_body Bd
  have e0 : s₁.heap = h0 := by rw [← hh, Bd.state]; rfl
  have N0 := Fr.nil n0
  show own_Ends p e below s FrameEnd (Qv 0 h0 n0) 0 0 (s₁.setTop (entryFrame m #[(.ref a1)] 1))
  refine own_of (U' := (s₁.setTop (mkF m 0 #[.val (.ref a1)] []))) (fun _ k => castTop (ef_iy3 m a1) k) ?_
  refine own_aloadN X0 hx hby d6_0 rfl rfl ?_
  obtain ⟨T60, X60, e60, st60⟩ := getF X0 hx hZ hown (host := "") (Or.inl (own_w hw 27 rfl)) Via.refl e0 Fv (g := (mkF m 1 #[.val (.ref a1)] [(.ref a1)])) rfl rfl (hb hby d6_1)
  refine own_of (U' := (T60.setTop (mkF m 4 #[.val (.ref a1)] [(.ref b)]))) (st60) ?_
  obtain ⟨cl61, Ar61, qa61, Sa61, Na61, -, -⟩ := id Vb
  have al61 := X60.arraylength hx (by rw [e60]; exact Ar61.1) (State.isArrayOf_alike hZ.alike Ar61.2.1) (g := (mkF m 4 #[.val (.ref a1)] [(.ref b)])) rfl rfl (hb hby d6_4)
  rw [len_of Sa61 Na61] at al61
  refine own_of (U' := (T60.setTop (mkF m 5 #[.val (.ref a1)] [(.int (3 : Int32))]))) (al61) ?_
  have hc5_62 : ¬ ((3 : Int32) = (0 : Int32)) := by decide
  refine own_ifYes X60 hx hby 5 12 d6_5 ((if0 _ _).trans (feq hc5_62).2) (by decide) (by decide) ?_
  refine own_iconst X60 hx hby 0 d6_12 rfl ?_
  exact own_retN X60 hx hlk (t := .boolean) Bd.returns (by simp) (hb hby d6_13) (by decide) (by decide) (⟨rfl, N0, e60⟩)
theorem ef_iy4 (m : MethodId) (x0 : Addr) : entryFrame m #[(.ref x0)] 1 = mkF m 0 #[.val (.ref x0)] [] := by first | (simp [entryFrame, mkF, argsToLocals, Value.category]; done) | rfl
set_option maxRecDepth 65536 in
set_option maxHeartbeats 40000000 in
theorem rmiy4 (l : Launch) (Z : State) (a0 : Array Value) (hw : ∀ d ∈ tables_1, d.before a0 Z = true) (ws : List Jvm.Cond) (a1 b : Addr) (kb : ClassId) (cs : List Int32) (h0 : Heap) (n0 : Nat) (Z0 : n0 ≤ h0.size) (Fv : Fld Z h0 a1 "java/lang/String" "value" "[B" (.ref b)) (Vb : Arv Z h0 b kb .byte (4 : Int32) (cs.map Value.int) (.int (0 : Int32))) :
    MetFree l mN_11 (head1 (Jvm.Cond.code mN_11 jdk_42_method_55_code 1 (some .boolean) :: ws) ({ frames := 0, cells := 0, slots := 0, locals := 0 } : Room)) (fun a U => a = #[(.ref a1)] ∧ Z.Warmed39 U.vm ∧ U.heap = h0) (fun _ _ _ _ _ => True) (fun _ U o U' => ∃ v L, o = .returned v ∧ (Qv 0 h0 n0) v U'.heap L ∧ FrameEnd U o U' L ({ frames := 0, cells := 0, slots := 0, locals := 0 } : Room).cells ({ frames := 0, cells := 0, slots := 0, locals := 0 } : Room).slots) := by
  refine MetFree.of_bodySF (plainFor_of_name pn_1) hisR ?_
  intro p e s m args below meth c s₁ Bd hml0 hP hK
  obtain ⟨rfl, hZ, hh⟩ := hP
  have hx := Bd.exec
  have hby := Bd.bytes
  have hml : c.maxLocals = 1 := hml0
  have hown : s.vm.findClass "java/lang/String" = some m.cls := findClass_of_methodNamed Bd.named
  have hnm := (name_of_methodNamed Bd.named Bd.method).1
  have hlk := Bd.notSynchronized
  have X0 : Stand p l e ({ frames := 0, cells := 0, slots := 0, locals := 0 } : Room) s m #[(.ref a1)] below meth c s₁ [] 0 0 := Stand.of_body Bd
  have e0 : s₁.heap = h0 := by rw [← hh, Bd.state]; rfl
  have N0 := Fr.nil n0
  show own_Ends p e below s FrameEnd (Qv 0 h0 n0) 0 0 (s₁.setTop (entryFrame m #[(.ref a1)] 1))
  refine own_of (U' := (s₁.setTop (mkF m 0 #[.val (.ref a1)] []))) (fun _ k => castTop (ef_iy4 m a1) k) ?_
  refine own_aloadN X0 hx hby d6_0 rfl rfl ?_
  obtain ⟨T63, X63, e63, st63⟩ := getF X0 hx hZ hown (host := "") (Or.inl (own_w hw 27 rfl)) Via.refl e0 Fv (g := (mkF m 1 #[.val (.ref a1)] [(.ref a1)])) rfl rfl (hb hby d6_1)
  refine own_of (U' := (T63.setTop (mkF m 4 #[.val (.ref a1)] [(.ref b)]))) (st63) ?_
  obtain ⟨cl64, Ar64, qa64, Sa64, Na64, -, -⟩ := id Vb
  have al64 := X63.arraylength hx (by rw [e63]; exact Ar64.1) (State.isArrayOf_alike hZ.alike Ar64.2.1) (g := (mkF m 4 #[.val (.ref a1)] [(.ref b)])) rfl rfl (hb hby d6_4)
  rw [len_of Sa64 Na64] at al64
  refine own_of (U' := (T63.setTop (mkF m 5 #[.val (.ref a1)] [(.int (4 : Int32))]))) (al64) ?_
  have hc5_65 : ¬ ((4 : Int32) = (0 : Int32)) := by decide
  refine own_ifYes X63 hx hby 5 12 d6_5 ((if0 _ _).trans (feq hc5_65).2) (by decide) (by decide) ?_
  refine own_iconst X63 hx hby 0 d6_12 rfl ?_
  exact own_retN X63 hx hlk (t := .boolean) Bd.returns (by simp) (hb hby d6_13) (by decide) (by decide) (⟨rfl, N0, e63⟩)
theorem ef_iy6 (m : MethodId) (x0 : Addr) : entryFrame m #[(.ref x0)] 1 = mkF m 0 #[.val (.ref x0)] [] := by first | (simp [entryFrame, mkF, argsToLocals, Value.category]; done) | rfl
set_option maxRecDepth 65536 in
set_option maxHeartbeats 40000000 in
theorem rmiy6 (l : Launch) (Z : State) (a0 : Array Value) (hw : ∀ d ∈ tables_1, d.before a0 Z = true) (ws : List Jvm.Cond) (a1 b : Addr) (kb : ClassId) (cs : List Int32) (h0 : Heap) (n0 : Nat) (Z0 : n0 ≤ h0.size) (Fv : Fld Z h0 a1 "java/lang/String" "value" "[B" (.ref b)) (Vb : Arv Z h0 b kb .byte (6 : Int32) (cs.map Value.int) (.int (0 : Int32))) :
    MetFree l mN_11 (head1 (Jvm.Cond.code mN_11 jdk_42_method_55_code 1 (some .boolean) :: ws) ({ frames := 0, cells := 0, slots := 0, locals := 0 } : Room)) (fun a U => a = #[(.ref a1)] ∧ Z.Warmed39 U.vm ∧ U.heap = h0) (fun _ _ _ _ _ => True) (fun _ U o U' => ∃ v L, o = .returned v ∧ (Qv 0 h0 n0) v U'.heap L ∧ FrameEnd U o U' L ({ frames := 0, cells := 0, slots := 0, locals := 0 } : Room).cells ({ frames := 0, cells := 0, slots := 0, locals := 0 } : Room).slots) := by
  refine MetFree.of_bodySF (plainFor_of_name pn_1) hisR ?_
  intro p e s m args below meth c s₁ Bd hml0 hP hK
  obtain ⟨rfl, hZ, hh⟩ := hP
  have hx := Bd.exec
  have hby := Bd.bytes
  have hml : c.maxLocals = 1 := hml0
  have hown : s.vm.findClass "java/lang/String" = some m.cls := findClass_of_methodNamed Bd.named
  have hnm := (name_of_methodNamed Bd.named Bd.method).1
  have hlk := Bd.notSynchronized
  have X0 : Stand p l e ({ frames := 0, cells := 0, slots := 0, locals := 0 } : Room) s m #[(.ref a1)] below meth c s₁ [] 0 0 := Stand.of_body Bd
  have e0 : s₁.heap = h0 := by rw [← hh, Bd.state]; rfl
  have N0 := Fr.nil n0
  show own_Ends p e below s FrameEnd (Qv 0 h0 n0) 0 0 (s₁.setTop (entryFrame m #[(.ref a1)] 1))
  refine own_of (U' := (s₁.setTop (mkF m 0 #[.val (.ref a1)] []))) (fun _ k => castTop (ef_iy6 m a1) k) ?_
  refine own_aloadN X0 hx hby d6_0 rfl rfl ?_
  obtain ⟨T66, X66, e66, st66⟩ := getF X0 hx hZ hown (host := "") (Or.inl (own_w hw 27 rfl)) Via.refl e0 Fv (g := (mkF m 1 #[.val (.ref a1)] [(.ref a1)])) rfl rfl (hb hby d6_1)
  refine own_of (U' := (T66.setTop (mkF m 4 #[.val (.ref a1)] [(.ref b)]))) (st66) ?_
  obtain ⟨cl67, Ar67, qa67, Sa67, Na67, -, -⟩ := id Vb
  have al67 := X66.arraylength hx (by rw [e66]; exact Ar67.1) (State.isArrayOf_alike hZ.alike Ar67.2.1) (g := (mkF m 4 #[.val (.ref a1)] [(.ref b)])) rfl rfl (hb hby d6_4)
  rw [len_of Sa67 Na67] at al67
  refine own_of (U' := (T66.setTop (mkF m 5 #[.val (.ref a1)] [(.int (6 : Int32))]))) (al67) ?_
  have hc5_68 : ¬ ((6 : Int32) = (0 : Int32)) := by decide
  refine own_ifYes X66 hx hby 5 12 d6_5 ((if0 _ _).trans (feq hc5_68).2) (by decide) (by decide) ?_
  refine own_iconst X66 hx hby 0 d6_12 rfl ?_
  exact own_retN X66 hx hlk (t := .boolean) Bd.returns (by simp) (hb hby d6_13) (by decide) (by decide) (⟨rfl, N0, e66⟩)
theorem ef_iy8 (m : MethodId) (x0 : Addr) : entryFrame m #[(.ref x0)] 1 = mkF m 0 #[.val (.ref x0)] [] := by first | (simp [entryFrame, mkF, argsToLocals, Value.category]; done) | rfl
set_option maxRecDepth 65536 in
set_option maxHeartbeats 40000000 in
theorem rmiy8 (l : Launch) (Z : State) (a0 : Array Value) (hw : ∀ d ∈ tables_1, d.before a0 Z = true) (ws : List Jvm.Cond) (a1 b : Addr) (kb : ClassId) (cs : List Int32) (h0 : Heap) (n0 : Nat) (Z0 : n0 ≤ h0.size) (Fv : Fld Z h0 a1 "java/lang/String" "value" "[B" (.ref b)) (Vb : Arv Z h0 b kb .byte (8 : Int32) (cs.map Value.int) (.int (0 : Int32))) :
    MetFree l mN_11 (head1 (Jvm.Cond.code mN_11 jdk_42_method_55_code 1 (some .boolean) :: ws) ({ frames := 0, cells := 0, slots := 0, locals := 0 } : Room)) (fun a U => a = #[(.ref a1)] ∧ Z.Warmed39 U.vm ∧ U.heap = h0) (fun _ _ _ _ _ => True) (fun _ U o U' => ∃ v L, o = .returned v ∧ (Qv 0 h0 n0) v U'.heap L ∧ FrameEnd U o U' L ({ frames := 0, cells := 0, slots := 0, locals := 0 } : Room).cells ({ frames := 0, cells := 0, slots := 0, locals := 0 } : Room).slots) := by
  refine MetFree.of_bodySF (plainFor_of_name pn_1) hisR ?_
  intro p e s m args below meth c s₁ Bd hml0 hP hK
  obtain ⟨rfl, hZ, hh⟩ := hP
  have hx := Bd.exec
  have hby := Bd.bytes
  have hml : c.maxLocals = 1 := hml0
  have hown : s.vm.findClass "java/lang/String" = some m.cls := findClass_of_methodNamed Bd.named
  have hnm := (name_of_methodNamed Bd.named Bd.method).1
  have hlk := Bd.notSynchronized
  have X0 : Stand p l e ({ frames := 0, cells := 0, slots := 0, locals := 0 } : Room) s m #[(.ref a1)] below meth c s₁ [] 0 0 := Stand.of_body Bd
  have e0 : s₁.heap = h0 := by rw [← hh, Bd.state]; rfl
  have N0 := Fr.nil n0
  show own_Ends p e below s FrameEnd (Qv 0 h0 n0) 0 0 (s₁.setTop (entryFrame m #[(.ref a1)] 1))
  refine own_of (U' := (s₁.setTop (mkF m 0 #[.val (.ref a1)] []))) (fun _ k => castTop (ef_iy8 m a1) k) ?_
  refine own_aloadN X0 hx hby d6_0 rfl rfl ?_
  obtain ⟨T69, X69, e69, st69⟩ := getF X0 hx hZ hown (host := "") (Or.inl (own_w hw 27 rfl)) Via.refl e0 Fv (g := (mkF m 1 #[.val (.ref a1)] [(.ref a1)])) rfl rfl (hb hby d6_1)
  refine own_of (U' := (T69.setTop (mkF m 4 #[.val (.ref a1)] [(.ref b)]))) (st69) ?_
  obtain ⟨cl70, Ar70, qa70, Sa70, Na70, -, -⟩ := id Vb
  have al70 := X69.arraylength hx (by rw [e69]; exact Ar70.1) (State.isArrayOf_alike hZ.alike Ar70.2.1) (g := (mkF m 4 #[.val (.ref a1)] [(.ref b)])) rfl rfl (hb hby d6_4)
  rw [len_of Sa70 Na70] at al70
  refine own_of (U' := (T69.setTop (mkF m 5 #[.val (.ref a1)] [(.int (8 : Int32))]))) (al70) ?_
  have hc5_71 : ¬ ((8 : Int32) = (0 : Int32)) := by decide
  refine own_ifYes X69 hx hby 5 12 d6_5 ((if0 _ _).trans (feq hc5_71).2) (by decide) (by decide) ?_
  refine own_iconst X69 hx hby 0 d6_12 rfl ?_
  exact own_retN X69 hx hlk (t := .boolean) Bd.returns (by simp) (hb hby d6_13) (by decide) (by decide) (⟨rfl, N0, e69⟩)
theorem rmie0 (l : Launch) (Z : State) (a0 : Array Value) (hw : ∀ d ∈ tables_1, d.before a0 Z = true) (ws : List Jvm.Cond) (a1 : Addr)  (h0 : Heap) (n0 : Nat) (Z0 : n0 ≤ h0.size) (T1 : own_Str Z h0 a1 (0 : Int32) (0 : Int32) []) :
    MetFree l mN_11 (head1 (Jvm.Cond.code mN_11 jdk_42_method_55_code 1 (some .boolean) :: ws) ({ frames := 0, cells := 0, slots := 0, locals := 0 } : Room)) (fun a U => a = #[(.ref a1)] ∧ Z.Warmed39 U.vm ∧ U.heap = h0) (fun _ _ _ _ _ => True) (fun _ U o U' => ∃ v L, o = .returned v ∧ (Qv 1 h0 n0) v U'.heap L ∧ FrameEnd U o U' L ({ frames := 0, cells := 0, slots := 0, locals := 0 } : Room).cells ({ frames := 0, cells := 0, slots := 0, locals := 0 } : Room).slots) := by
  obtain ⟨E1, b, kb, Fv, ⟨Fc, Vb, hall⟩ | ⟨Fc, Vb⟩⟩ := T1
  · exact rmiy0 l Z a0 hw ws a1 b kb (List.map own_b8 []) h0 n0 Z0 Fv Vb
  · exact rmiy0 l Z a0 hw ws a1 b kb (own_u16 []) h0 n0 Z0 Fv Vb
theorem rmie1 (l : Launch) (Z : State) (a0 : Array Value) (hw : ∀ d ∈ tables_1, d.before a0 Z = true) (ws : List Jvm.Cond) (a1 : Addr) (c0 : Int32) (h0 : Heap) (n0 : Nat) (Z0 : n0 ≤ h0.size) (T1 : own_Str Z h0 a1 (1 : Int32) (2 : Int32) [c0]) :
    MetFree l mN_11 (head1 (Jvm.Cond.code mN_11 jdk_42_method_55_code 1 (some .boolean) :: ws) ({ frames := 0, cells := 0, slots := 0, locals := 0 } : Room)) (fun a U => a = #[(.ref a1)] ∧ Z.Warmed39 U.vm ∧ U.heap = h0) (fun _ _ _ _ _ => True) (fun _ U o U' => ∃ v L, o = .returned v ∧ (Qv 0 h0 n0) v U'.heap L ∧ FrameEnd U o U' L ({ frames := 0, cells := 0, slots := 0, locals := 0 } : Room).cells ({ frames := 0, cells := 0, slots := 0, locals := 0 } : Room).slots) := by
  obtain ⟨E1, b, kb, Fv, ⟨Fc, Vb, hall⟩ | ⟨Fc, Vb⟩⟩ := T1
  · exact rmiy1 l Z a0 hw ws a1 b kb (List.map own_b8 [c0]) h0 n0 Z0 Fv Vb
  · exact rmiy2 l Z a0 hw ws a1 b kb (own_u16 [c0]) h0 n0 Z0 Fv Vb
theorem rmie2 (l : Launch) (Z : State) (a0 : Array Value) (hw : ∀ d ∈ tables_1, d.before a0 Z = true) (ws : List Jvm.Cond) (a1 : Addr) (c0 c1 : Int32) (h0 : Heap) (n0 : Nat) (Z0 : n0 ≤ h0.size) (T1 : own_Str Z h0 a1 (2 : Int32) (4 : Int32) [c0, c1]) :
    MetFree l mN_11 (head1 (Jvm.Cond.code mN_11 jdk_42_method_55_code 1 (some .boolean) :: ws) ({ frames := 0, cells := 0, slots := 0, locals := 0 } : Room)) (fun a U => a = #[(.ref a1)] ∧ Z.Warmed39 U.vm ∧ U.heap = h0) (fun _ _ _ _ _ => True) (fun _ U o U' => ∃ v L, o = .returned v ∧ (Qv 0 h0 n0) v U'.heap L ∧ FrameEnd U o U' L ({ frames := 0, cells := 0, slots := 0, locals := 0 } : Room).cells ({ frames := 0, cells := 0, slots := 0, locals := 0 } : Room).slots) := by
  obtain ⟨E1, b, kb, Fv, ⟨Fc, Vb, hall⟩ | ⟨Fc, Vb⟩⟩ := T1
  · exact rmiy2 l Z a0 hw ws a1 b kb (List.map own_b8 [c0, c1]) h0 n0 Z0 Fv Vb
  · exact rmiy4 l Z a0 hw ws a1 b kb (own_u16 [c0, c1]) h0 n0 Z0 Fv Vb
theorem rmie3 (l : Launch) (Z : State) (a0 : Array Value) (hw : ∀ d ∈ tables_1, d.before a0 Z = true) (ws : List Jvm.Cond) (a1 : Addr) (c0 c1 c2 : Int32) (h0 : Heap) (n0 : Nat) (Z0 : n0 ≤ h0.size) (T1 : own_Str Z h0 a1 (3 : Int32) (6 : Int32) [c0, c1, c2]) :
    MetFree l mN_11 (head1 (Jvm.Cond.code mN_11 jdk_42_method_55_code 1 (some .boolean) :: ws) ({ frames := 0, cells := 0, slots := 0, locals := 0 } : Room)) (fun a U => a = #[(.ref a1)] ∧ Z.Warmed39 U.vm ∧ U.heap = h0) (fun _ _ _ _ _ => True) (fun _ U o U' => ∃ v L, o = .returned v ∧ (Qv 0 h0 n0) v U'.heap L ∧ FrameEnd U o U' L ({ frames := 0, cells := 0, slots := 0, locals := 0 } : Room).cells ({ frames := 0, cells := 0, slots := 0, locals := 0 } : Room).slots) := by
  obtain ⟨E1, b, kb, Fv, ⟨Fc, Vb, hall⟩ | ⟨Fc, Vb⟩⟩ := T1
  · exact rmiy3 l Z a0 hw ws a1 b kb (List.map own_b8 [c0, c1, c2]) h0 n0 Z0 Fv Vb
  · exact rmiy6 l Z a0 hw ws a1 b kb (own_u16 [c0, c1, c2]) h0 n0 Z0 Fv Vb
theorem rmie4 (l : Launch) (Z : State) (a0 : Array Value) (hw : ∀ d ∈ tables_1, d.before a0 Z = true) (ws : List Jvm.Cond) (a1 : Addr) (c0 c1 c2 c3 : Int32) (h0 : Heap) (n0 : Nat) (Z0 : n0 ≤ h0.size) (T1 : own_Str Z h0 a1 (4 : Int32) (8 : Int32) [c0, c1, c2, c3]) :
    MetFree l mN_11 (head1 (Jvm.Cond.code mN_11 jdk_42_method_55_code 1 (some .boolean) :: ws) ({ frames := 0, cells := 0, slots := 0, locals := 0 } : Room)) (fun a U => a = #[(.ref a1)] ∧ Z.Warmed39 U.vm ∧ U.heap = h0) (fun _ _ _ _ _ => True) (fun _ U o U' => ∃ v L, o = .returned v ∧ (Qv 0 h0 n0) v U'.heap L ∧ FrameEnd U o U' L ({ frames := 0, cells := 0, slots := 0, locals := 0 } : Room).cells ({ frames := 0, cells := 0, slots := 0, locals := 0 } : Room).slots) := by
  obtain ⟨E1, b, kb, Fv, ⟨Fc, Vb, hall⟩ | ⟨Fc, Vb⟩⟩ := T1
  · exact rmiy4 l Z a0 hw ws a1 b kb (List.map own_b8 [c0, c1, c2, c3]) h0 n0 Z0 Fv Vb
  · exact rmiy8 l Z a0 hw ws a1 b kb (own_u16 [c0, c1, c2, c3]) h0 n0 Z0 Fv Vb
abbrev mN_12 : MethodName := ⟨"java/lang/StringUTF16", "putChar", "([BII)V"⟩
theorem d21_0 : decode jdk_52_method_4_code 0 = .ok (.getstatic 44, 3) := by decide +kernel
theorem d21_3 : decode jdk_52_method_4_code 3 = .ok (.ifCond .ne 25, 3) := by decide +kernel
theorem d21_28 : decode jdk_52_method_4_code 28 = .ok (.iload_n 1, 1) := by decide +kernel
theorem d21_29 : decode jdk_52_method_4_code 29 = .ok (.iconst 1, 1) := by decide +kernel
theorem d21_30 : decode jdk_52_method_4_code 30 = .ok (.ishl, 1) := by decide +kernel
theorem d21_31 : decode jdk_52_method_4_code 31 = .ok (.istore_n 1, 1) := by decide +kernel
theorem d21_32 : decode jdk_52_method_4_code 32 = .ok (.aload_n 0, 1) := by decide +kernel
theorem d21_33 : decode jdk_52_method_4_code 33 = .ok (.iload_n 1, 1) := by decide +kernel
theorem d21_34 : decode jdk_52_method_4_code 34 = .ok (.iinc 1 1, 3) := by decide +kernel
theorem d21_37 : decode jdk_52_method_4_code 37 = .ok (.iload_n 2, 1) := by decide +kernel
theorem d21_38 : decode jdk_52_method_4_code 38 = .ok (.getstatic 59, 3) := by decide +kernel
theorem d21_41 : decode jdk_52_method_4_code 41 = .ok (.ishr, 1) := by decide +kernel
theorem d21_42 : decode jdk_52_method_4_code 42 = .ok (.i2b, 1) := by decide +kernel
theorem d21_43 : decode jdk_52_method_4_code 43 = .ok (.bastore, 1) := by decide +kernel
theorem d21_44 : decode jdk_52_method_4_code 44 = .ok (.aload_n 0, 1) := by decide +kernel
theorem d21_45 : decode jdk_52_method_4_code 45 = .ok (.iload_n 1, 1) := by decide +kernel
theorem d21_46 : decode jdk_52_method_4_code 46 = .ok (.iload_n 2, 1) := by decide +kernel
theorem d21_47 : decode jdk_52_method_4_code 47 = .ok (.getstatic 63, 3) := by decide +kernel
theorem d21_50 : decode jdk_52_method_4_code 50 = .ok (.ishr, 1) := by decide +kernel
theorem d21_51 : decode jdk_52_method_4_code 51 = .ok (.i2b, 1) := by decide +kernel
theorem d21_52 : decode jdk_52_method_4_code 52 = .ok (.bastore, 1) := by decide +kernel
theorem d21_53 : decode jdk_52_method_4_code 53 = .ok (.return_, 1) := by decide +kernel
theorem ef_pc (m : MethodId) (x0 : Addr) (x1 : Int32) (x2 : Int32) : entryFrame m #[(.ref x0), (.int x1), (.int x2)] 3 = mkF m 0 #[.val (.ref x0), .val (.int x1), .val (.int x2)] [] := by first | (simp [entryFrame, mkF, argsToLocals, Value.category]; done) | rfl
def Qpc (Z : State) (b : Addr) (kb : ClassId) (z p3 : Int32) (cs : List Int32) (kI : Nat) (h0 : Heap) (n0 : Nat) (v : Option Value) (h : Heap) (L : List Loc) : Prop := v = none ∧ Fr n0 L ∧ Keep h0 h [b] ∧ Arv Z h b kb .byte z (((cs.set kI (own_lo8 p3)).set (kI + 1) (own_hi8 p3)).map Value.int) (.int (0 : Int32))
set_option maxRecDepth 65536 in
set_option maxHeartbeats 40000000 in
theorem rmpc (l : Launch) (Z : State) (a0 : Array Value) (hw : ∀ d ∈ tables_1, d.before a0 Z = true) (ws : List Jvm.Cond) (b : Addr) (p2 p3 : Int32) (kb : ClassId) (z : Int32) (cs : List Int32) (kI : Nat) (h0 : Heap) (n0 : Nat) (Z0 : n0 ≤ h0.size) (Vb : Arv Z h0 b kb .byte z (cs.map Value.int) (.int (0 : Int32))) (i1 : ¬ ((p2 <<< ((1 : Int32) &&& 31)) < (0 : Int32))) (i2 : (p2 <<< ((1 : Int32) &&& 31)) < z) (i3 : ¬ (((p2 <<< ((1 : Int32) &&& 31)) + (1 : Int32)) < (0 : Int32))) (i4 : ((p2 <<< ((1 : Int32) &&& 31)) + (1 : Int32)) < z) (q1 : (p2 <<< ((1 : Int32) &&& 31)).toNatClampNeg = kI) (q2 : ((p2 <<< ((1 : Int32) &&& 31)) + (1 : Int32)).toNatClampNeg = kI + 1) (q3 : kI < cs.length) (q4 : kI + 1 < cs.length) (SA : Sta Z h0 "java/lang/StringUTF16" "$assertionsDisabled" "Z" (.int (1 : Int32))) (SHI : Sta Z h0 "java/lang/StringUTF16" "HI_BYTE_SHIFT" "I" (.int (0 : Int32))) (SLO : Sta Z h0 "java/lang/StringUTF16" "LO_BYTE_SHIFT" "I" (.int (8 : Int32))) (g_b : n0 ≤ b) :
    MetFree l mN_12 (head1 (Jvm.Cond.code mN_12 jdk_52_method_4_code 3 none :: ws) ({ frames := 0, cells := 0, slots := 0, locals := 0 } : Room)) (fun a U => a = #[(.ref b), (.int p2), (.int p3)] ∧ Z.Warmed39 U.vm ∧ U.heap = h0) (fun _ _ _ _ _ => True) (fun _ U o U' => ∃ v L, o = .returned v ∧ (Qpc Z b kb z p3 cs kI h0 n0) v U'.heap L ∧ FrameEnd U o U' L ({ frames := 0, cells := 0, slots := 0, locals := 0 } : Room).cells ({ frames := 0, cells := 0, slots := 0, locals := 0 } : Room).slots) := by
  refine MetFree.of_bodySF (plainFor_of_name pn_2) hisR ?_
  intro p e s m args below meth c s₁ Bd hml0 hP hK
  obtain ⟨rfl, hZ, hh⟩ := hP
  have hx := Bd.exec
  have hby := Bd.bytes
  have hml : c.maxLocals = 3 := hml0
  have hown : s.vm.findClass "java/lang/StringUTF16" = some m.cls := findClass_of_methodNamed Bd.named
  have hnm := (name_of_methodNamed Bd.named Bd.method).1
  have hlk := Bd.notSynchronized
  have X0 : Stand p l e ({ frames := 0, cells := 0, slots := 0, locals := 0 } : Room) s m #[(.ref b), (.int p2), (.int p3)] below meth c s₁ [] 0 0 := Stand.of_body Bd
  have e0 : s₁.heap = h0 := by rw [← hh, Bd.state]; rfl
  have N0 := Fr.nil n0
  have KK := Keep.refl h0 [b]
  show own_Ends p e below s FrameEnd (Qpc Z b kb z p3 cs kI h0 n0) 0 0 (s₁.setTop (entryFrame m #[(.ref b), (.int p2), (.int p3)] 3))
  refine own_of (U' := (s₁.setTop (mkF m 0 #[.val (.ref b), .val (.int p2), .val (.int p3)] []))) (fun _ k => castTop (ef_pc m b p2 p3) k) ?_
  obtain ⟨T72, X72, e72, st72⟩ := getS2 X0 hx hZ hown (host := "") (Or.inl (own_w hw 97 rfl)) Via.refl e0 SA (g := (mkF m 0 #[.val (.ref b), .val (.int p2), .val (.int p3)] [])) rfl (hb hby d21_0)
  refine own_of (U' := (T72.setTop (mkF m 3 #[.val (.ref b), .val (.int p2), .val (.int p3)] [(.int (1 : Int32))]))) (st72) ?_
  have hc3_73 : ¬ ((1 : Int32) = (0 : Int32)) := by decide
  refine own_ifYes X72 hx hby 3 28 d21_3 ((if0 _ _).trans (feq hc3_73).2) (by decide) (by decide) ?_
  refine own_iloadN X72 hx hby d21_28 rfl ?_
  refine own_iconst X72 hx hby 1 d21_29 rfl ?_
  refine own_ishl X72 hx hby d21_30 ?_
  refine own_istoreN X72 hx hby d21_31 (l' := #[.val (.ref b), .val (.int (p2 <<< ((1 : Int32) &&& 31))), .val (.int p3)]) rfl ?_
  refine own_aloadN X72 hx hby d21_32 rfl rfl ?_
  refine own_iloadN X72 hx hby d21_33 rfl ?_
  refine own_iinc X72 hx hby d21_34 rfl (l' := #[.val (.ref b), .val (.int ((p2 <<< ((1 : Int32) &&& 31)) + (1 : Int32))), .val (.int p3)]) rfl ?_
  refine own_iloadN X72 hx hby d21_37 rfl ?_
  obtain ⟨T74, X74, e74, st74⟩ := getS2 X72 hx hZ hown (host := "") (Or.inl (own_w hw 98 rfl)) Via.refl e72 SHI (g := (mkF m 38 #[.val (.ref b), .val (.int ((p2 <<< ((1 : Int32) &&& 31)) + (1 : Int32))), .val (.int p3)] [(.int p3), (.int (p2 <<< ((1 : Int32) &&& 31))), (.ref b)])) rfl (hb hby d21_38)
  refine own_of (U' := (T74.setTop (mkF m 41 #[.val (.ref b), .val (.int ((p2 <<< ((1 : Int32) &&& 31)) + (1 : Int32))), .val (.int p3)] [(.int (0 : Int32)), (.int p3), (.int (p2 <<< ((1 : Int32) &&& 31))), (.ref b)]))) (st74) ?_
  refine own_ishr X74 hx hby d21_41 ?_
  refine own_i2b X74 hx hby d21_42 ?_
  obtain ⟨cl75, Ar75, qa75, Sa75, Na75, Ha75, Ga75⟩ := Vb
  have hin75 : ¬ ((p2 <<< ((1 : Int32) &&& 31)) < 0 ∨ cl75.slots.size ≤ ((p2 <<< ((1 : Int32) &&& 31))).toNatClampNeg) := inb_of Sa75 ⟨i1, i2⟩
  obtain ⟨T75, h75, X75, e75, W75, st75⟩ := stB X74 hx hZ e74 Ar75 (j := (p2 <<< ((1 : Int32) &&& 31))) hin75 (g := (mkF m 43 #[.val (.ref b), .val (.int ((p2 <<< ((1 : Int32) &&& 31)) + (1 : Int32))), .val (.int p3)] [(.int ((p3 >>> ((0 : Int32) &&& 31)).toInt8.toInt32)), (.int (p2 <<< ((1 : Int32) &&& 31))), (.ref b)])) rfl rfl (hb hby d21_43)
  replace Vb : Arv Z h75 b kb .byte z ((cs.set kI (own_lo8 p3)).map Value.int) (.int (0 : Int32)) := by rw [List.map_set]; exact Arv.set Ar75 qa75 Sa75 Na75 Ha75 Ga75 (fits_nar_byte _) W75 kI q1 (by rw [List.length_map]; exact q3)
  replace Z0 := Nat.le_trans Z0 (Keep.of_wr W75).1
  replace SA := SA.wr W75
  replace SHI := SHI.wr W75
  replace SLO := SLO.wr W75
  replace KK := KK.wr W75 (Or.inl (List.mem_of_getElem? (i := 0) rfl))
  have N75 := Fr.snoc X75 N0 g_b
  refine own_of (U' := (T75.setTop (mkF m 44 #[.val (.ref b), .val (.int ((p2 <<< ((1 : Int32) &&& 31)) + (1 : Int32))), .val (.int p3)] []))) (st75) ?_
  refine own_aloadN X75 hx hby d21_44 rfl rfl ?_
  refine own_iloadN X75 hx hby d21_45 rfl ?_
  refine own_iloadN X75 hx hby d21_46 rfl ?_
  obtain ⟨T76, X76, e76, st76⟩ := getS2 X75 hx hZ hown (host := "") (Or.inl (own_w hw 99 rfl)) Via.refl e75 SLO (g := (mkF m 47 #[.val (.ref b), .val (.int ((p2 <<< ((1 : Int32) &&& 31)) + (1 : Int32))), .val (.int p3)] [(.int p3), (.int ((p2 <<< ((1 : Int32) &&& 31)) + (1 : Int32))), (.ref b)])) rfl (hb hby d21_47)
  refine own_of (U' := (T76.setTop (mkF m 50 #[.val (.ref b), .val (.int ((p2 <<< ((1 : Int32) &&& 31)) + (1 : Int32))), .val (.int p3)] [(.int (8 : Int32)), (.int p3), (.int ((p2 <<< ((1 : Int32) &&& 31)) + (1 : Int32))), (.ref b)]))) (st76) ?_
  refine own_ishr X76 hx hby d21_50 ?_
  refine own_i2b X76 hx hby d21_51 ?_
  obtain ⟨cl77, Ar77, qa77, Sa77, Na77, Ha77, Ga77⟩ := Vb
  have hin77 : ¬ (((p2 <<< ((1 : Int32) &&& 31)) + (1 : Int32)) < 0 ∨ cl77.slots.size ≤ (((p2 <<< ((1 : Int32) &&& 31)) + (1 : Int32))).toNatClampNeg) := inb_of Sa77 ⟨i3, i4⟩
  obtain ⟨T77, h77, X77, e77, W77, st77⟩ := stB X76 hx hZ e76 Ar77 (j := ((p2 <<< ((1 : Int32) &&& 31)) + (1 : Int32))) hin77 (g := (mkF m 52 #[.val (.ref b), .val (.int ((p2 <<< ((1 : Int32) &&& 31)) + (1 : Int32))), .val (.int p3)] [(.int ((p3 >>> ((8 : Int32) &&& 31)).toInt8.toInt32)), (.int ((p2 <<< ((1 : Int32) &&& 31)) + (1 : Int32))), (.ref b)])) rfl rfl (hb hby d21_52)
  replace Vb : Arv Z h77 b kb .byte z (((cs.set kI (own_lo8 p3)).set (kI + 1) (own_hi8 p3)).map Value.int) (.int (0 : Int32)) := by rw [List.map_set]; exact Arv.set Ar77 qa77 Sa77 Na77 Ha77 Ga77 (fits_nar_byte _) W77 (kI + 1) q2 (by rw [List.length_map, List.length_set]; exact q4)
  replace Z0 := Nat.le_trans Z0 (Keep.of_wr W77).1
  replace SA := SA.wr W77
  replace SHI := SHI.wr W77
  replace SLO := SLO.wr W77
  replace KK := KK.wr W77 (Or.inl (List.mem_of_getElem? (i := 0) rfl))
  have N77 := Fr.snoc X77 N75 g_b
  refine own_of (U' := (T77.setTop (mkF m 53 #[.val (.ref b), .val (.int ((p2 <<< ((1 : Int32) &&& 31)) + (1 : Int32))), .val (.int p3)] []))) (st77) ?_
  exact own_ret0 X77 hx hlk Bd.returns (hb hby d21_53) (by decide) (by decide) (by rw [e77]; exact ⟨rfl, N77, KK, Vb⟩)
abbrev mN_13 : MethodName := ⟨"java/lang/StringUTF16", "newBytesLength", "(I)I"⟩
theorem d20_0 : decode jdk_52_method_3_code 0 = .ok (.iload_n 0, 1) := by decide +kernel
theorem d20_1 : decode jdk_52_method_3_code 1 = .ok (.ifCond .ge 11, 3) := by decide +kernel
theorem d20_12 : decode jdk_52_method_3_code 12 = .ok (.iload_n 0, 1) := by decide +kernel
theorem d20_13 : decode jdk_52_method_3_code 13 = .ok (.ldc 20, 2) := by decide +kernel
theorem d20_15 : decode jdk_52_method_3_code 15 = .ok (.if_icmp .lt 40, 3) := by decide +kernel
theorem d20_55 : decode jdk_52_method_3_code 55 = .ok (.iload_n 0, 1) := by decide +kernel
theorem d20_56 : decode jdk_52_method_3_code 56 = .ok (.iconst 1, 1) := by decide +kernel
theorem d20_57 : decode jdk_52_method_3_code 57 = .ok (.ishl, 1) := by decide +kernel
theorem d20_58 : decode jdk_52_method_3_code 58 = .ok (.ireturn, 1) := by decide +kernel
theorem ef_nl1 (m : MethodId)  : entryFrame m #[(.int (1 : Int32))] 1 = mkF m 0 #[.val (.int (1 : Int32))] [] := by first | (simp [entryFrame, mkF, argsToLocals, Value.category]; done) | rfl
set_option maxRecDepth 65536 in
set_option maxHeartbeats 40000000 in
theorem rmnl1 (l : Launch) (Z : State) (a0 : Array Value) (hw : ∀ d ∈ tables_1, d.before a0 Z = true) (ws : List Jvm.Cond)  (h0 : Heap) (n0 : Nat) (Z0 : n0 ≤ h0.size)  :
    MetFree l mN_13 (head1 (Jvm.Cond.code mN_13 jdk_52_method_3_code 1 (some .int) :: ws) ({ frames := 0, cells := 0, slots := 0, locals := 0 } : Room)) (fun a U => a = #[(.int (1 : Int32))] ∧ Z.Warmed39 U.vm ∧ U.heap = h0) (fun _ _ _ _ _ => True) (fun _ U o U' => ∃ v L, o = .returned v ∧ (Qv 2 h0 n0) v U'.heap L ∧ FrameEnd U o U' L ({ frames := 0, cells := 0, slots := 0, locals := 0 } : Room).cells ({ frames := 0, cells := 0, slots := 0, locals := 0 } : Room).slots) := by
  refine MetFree.of_bodySF (plainFor_of_name pn_2) hisR ?_
  intro p e s m args below meth c s₁ Bd hml0 hP hK
  obtain ⟨rfl, hZ, hh⟩ := hP
  have hx := Bd.exec
  have hby := Bd.bytes
  have hml : c.maxLocals = 1 := hml0
  have hown : s.vm.findClass "java/lang/StringUTF16" = some m.cls := findClass_of_methodNamed Bd.named
  have hnm := (name_of_methodNamed Bd.named Bd.method).1
  have hlk := Bd.notSynchronized
  have X0 : Stand p l e ({ frames := 0, cells := 0, slots := 0, locals := 0 } : Room) s m #[(.int (1 : Int32))] below meth c s₁ [] 0 0 := Stand.of_body Bd
  have e0 : s₁.heap = h0 := by rw [← hh, Bd.state]; rfl
  have N0 := Fr.nil n0
  show own_Ends p e below s FrameEnd (Qv 2 h0 n0) 0 0 (s₁.setTop (entryFrame m #[(.int (1 : Int32))] 1))
  refine own_of (U' := (s₁.setTop (mkF m 0 #[.val (.int (1 : Int32))] []))) (fun _ k => castTop (ef_nl1 m) k) ?_
  refine own_iloadN X0 hx hby d20_0 rfl ?_
  have hc1_78 : ¬ ((1 : Int32) < (0 : Int32)) := by decide
  refine own_ifYes X0 hx hby 1 12 d20_1 ((if0 _ _).trans (flt hc1_78).2.1) (by decide) (by decide) ?_
  refine own_iloadN X0 hx hby d20_12 rfl ?_
  refine own_of (U' := (s₁.setTop (mkF m 15 #[.val (.int (1 : Int32))] [(.int (1073741823 : Int32)), (.int (1 : Int32))]))) (X0.ldcInt hx hown (mvT hZ (own_w hw 93 rfl)) (g := (mkF m 13 #[.val (.int (1 : Int32))] [(.int (1 : Int32))])) rfl (hb hby d20_13)) ?_
  have hc15_79 : (1 : Int32) < (1073741823 : Int32) := by decide
  refine own_icmpYes X0 hx hby 15 55 d20_15 (tlt hc15_79).1 (by decide) (by decide) ?_
  refine own_iloadN X0 hx hby d20_55 rfl ?_
  refine own_iconst X0 hx hby 1 d20_56 rfl ?_
  refine own_ishl X0 hx hby d20_57 ?_
  refine own_eq (U' := (s₁.setTop (mkF m 58 #[.val (.int (1 : Int32))] [(.int (2 : Int32))]))) (by rw [show ((1 : Int32) <<< ((1 : Int32) &&& 31)) = (2 : Int32) by decide]) ?_
  exact own_retI X0 hx hlk Bd.returns (hb hby d20_58) (by decide) (by decide) (⟨rfl, N0, e0⟩)
abbrev mN_14 : MethodName := ⟨"java/lang/StringUTF16", "newBytesFor", "(I)[B"⟩
theorem pd_7 : parseMethodDescriptor "(I)I" = some ⟨[.int], some .int⟩ := by decide +kernel
theorem d19_0 : decode jdk_52_method_2_code 0 = .ok (.iload_n 0, 1) := by decide +kernel
theorem d19_1 : decode jdk_52_method_2_code 1 = .ok (.invokestatic 11, 3) := by decide +kernel
theorem d19_4 : decode jdk_52_method_2_code 4 = .ok (.newarray .byte, 2) := by decide +kernel
theorem d19_6 : decode jdk_52_method_2_code 6 = .ok (.areturn, 1) := by decide +kernel
theorem ef_nb1 (m : MethodId)  : entryFrame m #[(.int (1 : Int32))] 1 = mkF m 0 #[.val (.int (1 : Int32))] [] := by first | (simp [entryFrame, mkF, argsToLocals, Value.category]; done) | rfl
def Qnb1 (Z : State) (h0 : Heap) (n0 : Nat) (v : Option Value) (h : Heap) (L : List Loc) : Prop := ∃ (b : Addr) (kb : ClassId), v = some (.ref b) ∧ Fr n0 L ∧ Keep h0 h [] ∧ h0.size ≤ b ∧ Arv Z h b kb .byte (2 : Int32) [(.int (0 : Int32)), (.int (0 : Int32))] (.int (0 : Int32))
set_option maxRecDepth 65536 in
set_option maxHeartbeats 40000000 in
theorem rmnb1 (l : Launch) (Z : State) (a0 : Array Value) (hw : ∀ d ∈ tables_1, d.before a0 Z = true) (ws : List Jvm.Cond)  (h0 : Heap) (n0 : Nat) (Z0 : n0 ≤ h0.size)  :
    MetFree l mN_14 (head1 (Jvm.Cond.code mN_14 jdk_52_method_2_code 1 (some (.array .byte)) :: ws) ({ frames := 1, cells := 1, slots := 2, locals := 12 } : Room)) (fun a U => a = #[(.int (1 : Int32))] ∧ Z.Warmed39 U.vm ∧ U.heap = h0) (fun _ _ _ _ _ => True) (fun _ U o U' => ∃ v L, o = .returned v ∧ (Qnb1 Z h0 n0) v U'.heap L ∧ FrameEnd U o U' L ({ frames := 1, cells := 1, slots := 2, locals := 12 } : Room).cells ({ frames := 1, cells := 1, slots := 2, locals := 12 } : Room).slots) := by
  refine MetFree.of_bodySF (plainFor_of_name pn_2) hisR ?_
  intro p e s m args below meth c s₁ Bd hml0 hP hK
  obtain ⟨rfl, hZ, hh⟩ := hP
  have hx := Bd.exec
  have hby := Bd.bytes
  have hml : c.maxLocals = 1 := hml0
  have hown : s.vm.findClass "java/lang/StringUTF16" = some m.cls := findClass_of_methodNamed Bd.named
  have hnm := (name_of_methodNamed Bd.named Bd.method).1
  have hlk := Bd.notSynchronized
  have X0 : Stand p l e ({ frames := 1, cells := 1, slots := 2, locals := 12 } : Room) s m #[(.int (1 : Int32))] below meth c s₁ [] 0 0 := Stand.of_body Bd
  have e0 : s₁.heap = h0 := by rw [← hh, Bd.state]; rfl
  have N0 := Fr.nil n0
  have KK := Keep.refl h0 []
  show own_Ends p e below s FrameEnd (Qnb1 Z h0 n0) 1 2 (s₁.setTop (entryFrame m #[(.int (1 : Int32))] 1))
  refine own_of (U' := (s₁.setTop (mkF m 0 #[.val (.int (1 : Int32))] []))) (fun _ k => castTop (ef_nb1 m) k) ?_
  refine own_iloadN X0 hx hby d19_0 rfl ?_
  obtain ⟨_, _, ⟨T80, L80, k80, n80⟩, -, X80, ⟨Lc80, hQ80, l80, y80, z80⟩, st80⟩ := Jvm.LawKit.callS X0 hx (y := mN_13) hown (mvT hZ (own_w hw 90 rfl)) (mvT hZ (own_w hw 91 rfl)) (mvT hZ (own_w hw 51 rfl)) (mvT hZ (own_w hw 92 rfl)) (by decide) (backOf (W := 0) (rmnl1 l Z a0 hw []  h0 n0 Z0 ) hZ (own_w hw 92 rfl) (own_w hw 51 rfl) (by decide) (by decide)) (g := (mkF m 1 #[.val (.int (1 : Int32))] [(.int (1 : Int32))])) rfl (by rw [hml]; rfl) (argsL := [(.int (1 : Int32))]) (rest := []) (lenOf pd_7 rfl) rfl (by show 2 * 0 + _ ≤ _; exact Nat.le_of_eq rfl) (hb hby d19_1) (fun _ _ => ⟨rfl, e0, (by decide : 0 + 0 ≤ _), (by decide : 0 + 0 ≤ _)⟩)
  dsimp only [Pt.U, Pt.locs, Pt.cells, Pt.slots] at X80 l80 y80 z80 st80 hQ80
  subst l80 y80 z80
  obtain ⟨rfl, Nq80, e80⟩ := hQ80
  have N80 := Fr.app N0 Nq80
  refine own_of (U' := (T80.setTop (mkF m 4 #[.val (.int (1 : Int32))] [(.int (2 : Int32))]))) (st80) ?_
  obtain ⟨T81, h81, k81, X81, e81, E81, A81, st81⟩ := newP X80 hx hZ (own_w hw 22 rfl) e80 (g := (mkF m 4 #[.val (.int (1 : Int32))] [(.int (2 : Int32))])) rfl (hb hby d19_4) rfl (by decide) (cap := 2) (by decide) (by decide) (by decide) (by decide)
  obtain ⟨b81, gz81⟩ : ∃ z, z = h0.size := ⟨_, rfl⟩
  rw [← gz81] at A81 st81
  have g_b81 : n0 ≤ b81 := Nat.le_trans Z0 (Nat.le_of_eq gz81.symm)
  have sz_b81 : h0.size ≤ b81 := Nat.le_trans KK.1 (Nat.le_of_eq gz81.symm)
  replace Z0 := Nat.le_trans Z0 E81.1
  replace KK := KK.ext E81
  have V81 : Arv Z h81 b81 k81 .byte (2 : Int32) [(.int (0 : Int32)), (.int (0 : Int32))] (.int (0 : Int32)) := (Arv.new A81 (by decide)).pad (pad_rep [] (.int (0 : Int32)) 2)
  refine own_of (U' := (T81.setTop (mkF m 6 #[.val (.int (1 : Int32))] [(.ref b81)]))) (st81) ?_
  exact own_retA X81 hx hlk Bd.returns rfl rfl (hb hby d19_6) (by decide) (by decide) (by rw [e81]; exact ⟨b81, k81, rfl, N80, KK, sz_b81, V81⟩)
abbrev mN_15 : MethodName := ⟨"java/lang/StringUTF16", "toBytes", "([CII)[B"⟩
theorem pd_8 : parseMethodDescriptor "(I)[B" = some ⟨[.int], some (.array .byte)⟩ := by decide +kernel
theorem pd_9 : parseMethodDescriptor "([BII)V" = some ⟨[(.array .byte), .int, .int], none⟩ := by decide +kernel
theorem d18_0 : decode jdk_52_method_14_code 0 = .ok (.iload_n 2, 1) := by decide +kernel
theorem d18_1 : decode jdk_52_method_14_code 1 = .ok (.invokestatic 107, 3) := by decide +kernel
theorem d18_4 : decode jdk_52_method_14_code 4 = .ok (.astore_n 3, 1) := by decide +kernel
theorem d18_5 : decode jdk_52_method_14_code 5 = .ok (.iconst 0, 1) := by decide +kernel
theorem d18_6 : decode jdk_52_method_14_code 6 = .ok (.istore 4, 2) := by decide +kernel
theorem d18_8 : decode jdk_52_method_14_code 8 = .ok (.iload 4, 2) := by decide +kernel
theorem d18_10 : decode jdk_52_method_14_code 10 = .ok (.iload_n 2, 1) := by decide +kernel
theorem d18_11 : decode jdk_52_method_14_code 11 = .ok (.if_icmp .ge 21, 3) := by decide +kernel
theorem d18_14 : decode jdk_52_method_14_code 14 = .ok (.aload_n 3, 1) := by decide +kernel
theorem d18_15 : decode jdk_52_method_14_code 15 = .ok (.iload 4, 2) := by decide +kernel
theorem d18_17 : decode jdk_52_method_14_code 17 = .ok (.aload_n 0, 1) := by decide +kernel
theorem d18_18 : decode jdk_52_method_14_code 18 = .ok (.iload_n 1, 1) := by decide +kernel
theorem d18_19 : decode jdk_52_method_14_code 19 = .ok (.caload, 1) := by decide +kernel
theorem d18_20 : decode jdk_52_method_14_code 20 = .ok (.invokestatic 111, 3) := by decide +kernel
theorem d18_23 : decode jdk_52_method_14_code 23 = .ok (.iinc 1 1, 3) := by decide +kernel
theorem d18_26 : decode jdk_52_method_14_code 26 = .ok (.iinc 4 1, 3) := by decide +kernel
theorem d18_29 : decode jdk_52_method_14_code 29 = .ok (.goto (-21), 3) := by decide +kernel
theorem d18_32 : decode jdk_52_method_14_code 32 = .ok (.aload_n 3, 1) := by decide +kernel
theorem d18_33 : decode jdk_52_method_14_code 33 = .ok (.areturn, 1) := by decide +kernel
theorem ef_tb1 (m : MethodId) (x0 : Addr) : entryFrame m #[(.ref x0), (.int (0 : Int32)), (.int (1 : Int32))] 5 = mkF m 0 #[.val (.ref x0), .val (.int (0 : Int32)), .val (.int (1 : Int32)), .unset, .unset] [] := by first | (simp [entryFrame, mkF, argsToLocals, Value.category]; done) | rfl
def Qtb1 (Z : State) (c0 : Int32) (h0 : Heap) (n0 : Nat) (v : Option Value) (h : Heap) (L : List Loc) : Prop := ∃ (b : Addr) (kb : ClassId), v = some (.ref b) ∧ Fr n0 L ∧ Keep h0 h [] ∧ h0.size ≤ b ∧ Arv Z h b kb .byte (2 : Int32) [(.int (own_lo8 c0)), (.int (own_hi8 c0))] (.int (0 : Int32))
set_option maxRecDepth 65536 in
set_option maxHeartbeats 40000000 in
theorem rmtb1 (l : Launch) (Z : State) (a0 : Array Value) (hw : ∀ d ∈ tables_1, d.before a0 Z = true) (ws : List Jvm.Cond) (a1 : Addr) (kc : ClassId) (c0 : Int32) (h0 : Heap) (n0 : Nat) (Z0 : n0 ≤ h0.size) (Vc : Arv Z h0 a1 kc .char (1 : Int32) [(.int c0)] (.int (0 : Int32))) (SA : Sta Z h0 "java/lang/StringUTF16" "$assertionsDisabled" "Z" (.int (1 : Int32))) (SHI : Sta Z h0 "java/lang/StringUTF16" "HI_BYTE_SHIFT" "I" (.int (0 : Int32))) (SLO : Sta Z h0 "java/lang/StringUTF16" "LO_BYTE_SHIFT" "I" (.int (8 : Int32))) :
    MetFree l mN_15 (head1 (Jvm.Cond.code mN_15 jdk_52_method_14_code 5 (some (.array .byte)) :: ws) ({ frames := 2, cells := 1, slots := 2, locals := 24 } : Room)) (fun a U => a = #[(.ref a1), (.int (0 : Int32)), (.int (1 : Int32))] ∧ Z.Warmed39 U.vm ∧ U.heap = h0) (fun _ _ _ _ _ => True) (fun _ U o U' => ∃ v L, o = .returned v ∧ (Qtb1 Z c0 h0 n0) v U'.heap L ∧ FrameEnd U o U' L ({ frames := 2, cells := 1, slots := 2, locals := 24 } : Room).cells ({ frames := 2, cells := 1, slots := 2, locals := 24 } : Room).slots) := by
  refine MetFree.of_bodySF (plainFor_of_name pn_2) hisR ?_
  intro p e s m args below meth c s₁ Bd hml0 hP hK
  obtain ⟨rfl, hZ, hh⟩ := hP
  have hx := Bd.exec
  have hby := Bd.bytes
  have hml : c.maxLocals = 5 := hml0
  have hown : s.vm.findClass "java/lang/StringUTF16" = some m.cls := findClass_of_methodNamed Bd.named
  have hnm := (name_of_methodNamed Bd.named Bd.method).1
  have hlk := Bd.notSynchronized
  have X0 : Stand p l e ({ frames := 2, cells := 1, slots := 2, locals := 24 } : Room) s m #[(.ref a1), (.int (0 : Int32)), (.int (1 : Int32))] below meth c s₁ [] 0 0 := Stand.of_body Bd
  have e0 : s₁.heap = h0 := by rw [← hh, Bd.state]; rfl
  have N0 := Fr.nil n0
  have KK := Keep.refl h0 []
  show own_Ends p e below s FrameEnd (Qtb1 Z c0 h0 n0) 1 2 (s₁.setTop (entryFrame m #[(.ref a1), (.int (0 : Int32)), (.int (1 : Int32))] 5))
  refine own_of (U' := (s₁.setTop (mkF m 0 #[.val (.ref a1), .val (.int (0 : Int32)), .val (.int (1 : Int32)), .unset, .unset] []))) (fun _ k => castTop (ef_tb1 m a1) k) ?_
  refine own_iloadN X0 hx hby d18_0 rfl ?_
  obtain ⟨_, _, ⟨T82, L82, k82, n82⟩, -, X82, ⟨Lc82, hQ82, l82, y82, z82⟩, st82⟩ := Jvm.LawKit.callS X0 hx (y := mN_14) hown (mvT hZ (own_w hw 87 rfl)) (mvT hZ (own_w hw 88 rfl)) (mvT hZ (own_w hw 51 rfl)) (mvT hZ (own_w hw 89 rfl)) (by decide) (backOf (W := 0) (rmnb1 l Z a0 hw []  h0 n0 Z0 ) hZ (own_w hw 89 rfl) (own_w hw 51 rfl) (by decide) (by decide)) (g := (mkF m 1 #[.val (.ref a1), .val (.int (0 : Int32)), .val (.int (1 : Int32)), .unset, .unset] [(.int (1 : Int32))])) rfl (by rw [hml]; rfl) (argsL := [(.int (1 : Int32))]) (rest := []) (lenOf pd_8 rfl) rfl (by show 2 * 0 + _ ≤ _; exact Nat.le_of_eq rfl) (hb hby d18_1) (fun _ _ => ⟨rfl, e0, (by decide : 0 + 1 ≤ _), (by decide : 0 + 2 ≤ _)⟩)
  dsimp only [Pt.U, Pt.locs, Pt.cells, Pt.slots] at X82 l82 y82 z82 st82 hQ82
  subst l82 y82 z82
  obtain ⟨u82, ku82, rfl, Nq82, Kp82, gq82, Vq82⟩ := hQ82
  have g_u82 : n0 ≤ u82 := Nat.le_trans Z0 gq82
  have sz_u82 : h0.size ≤ u82 := Nat.le_trans KK.1 gq82
  have ne_a1_u82 : a1 ≠ u82 := Nat.ne_of_lt (Nat.lt_of_lt_of_le Vc.lt gq82)
  have N82 := Fr.app N0 Nq82
  replace Z0 := Nat.le_trans Z0 Kp82.1
  replace Vc := Vc.keep Kp82 nin0
  replace SA := own_staKeep SA Kp82 ns0
  replace SHI := own_staKeep SHI Kp82 ns0
  replace SLO := own_staKeep SLO Kp82 ns0
  replace KK := KK.trans Kp82 all0
  refine own_of (U' := (T82.setTop (mkF m 4 #[.val (.ref a1), .val (.int (0 : Int32)), .val (.int (1 : Int32)), .unset, .unset] [(.ref u82)]))) (st82) ?_
  refine own_astoreN X82 hx hby d18_4 rfl (l' := #[.val (.ref a1), .val (.int (0 : Int32)), .val (.int (1 : Int32)), .val (.ref u82), .unset]) rfl ?_
  refine own_iconst X82 hx hby 0 d18_5 rfl ?_
  refine own_istore X82 hx hby d18_6 (l' := #[.val (.ref a1), .val (.int (0 : Int32)), .val (.int (1 : Int32)), .val (.ref u82), .val (.int (0 : Int32))]) rfl ?_
  refine own_iload X82 hx hby d18_8 rfl ?_
  refine own_iloadN X82 hx hby d18_10 rfl ?_
  have hc11_83 : (0 : Int32) < (1 : Int32) := by decide
  refine own_icmpNo X82 hx hby d18_11 (tlt hc11_83).2.1 ?_
  refine own_aloadN X82 hx hby d18_14 rfl rfl ?_
  refine own_iload X82 hx hby d18_15 rfl ?_
  refine own_aloadN X82 hx hby d18_17 rfl rfl ?_
  refine own_iloadN X82 hx hby d18_18 rfl ?_
  obtain ⟨cl84, Ar84, qa84, Sa84, Na84, Ha84, Ga84⟩ := id Vc
  have hin84 : ¬ ((0 : Int32) < 0 ∨ cl84.slots.size ≤ ((0 : Int32)).toNatClampNeg) := inb_of Sa84 ⟨by decide, by decide⟩
  have hat84 : cl84.slots[((0 : Int32)).toNatClampNeg]? = some (.int c0) := Has.at Ha84 hin84 rfl
  refine own_of (U' := (T82.setTop (mkF m 20 #[.val (.ref a1), .val (.int (0 : Int32)), .val (.int (1 : Int32)), .val (.ref u82), .val (.int (0 : Int32))] [(.int c0), (.int (0 : Int32)), (.ref u82)]))) (X82.caload hx (j := (0 : Int32)) (v := (.int c0)) Ar84.1 (State.isArrayOf_alike hZ.alike Ar84.2.1) Ar84.2.2 hin84 hat84 (g := (mkF m 19 #[.val (.ref a1), .val (.int (0 : Int32)), .val (.int (1 : Int32)), .val (.ref u82), .val (.int (0 : Int32))] [(.int (0 : Int32)), (.ref a1), (.int (0 : Int32)), (.ref u82)])) rfl rfl (hb hby d18_19)) ?_
  obtain ⟨_, _, ⟨T85, L85, k85, n85⟩, -, X85, ⟨Lc85, hQ85, l85, y85, z85⟩, st85⟩ := Jvm.LawKit.callS X82 hx (y := mN_12) hown (mvT hZ (own_w hw 94 rfl)) (mvT hZ (own_w hw 95 rfl)) (mvT hZ (own_w hw 51 rfl)) (mvT hZ (own_w hw 96 rfl)) (by decide) (backOf (W := 0) (rmpc l Z a0 hw [] u82 (0 : Int32) c0 ku82 (2 : Int32) [(0 : Int32), (0 : Int32)] 0 T82.heap n0 Z0 Vq82 (by decide) (by decide) (by decide) (by decide) (by decide) (by decide) (Nat.le_of_ble_eq_true rfl) (Nat.le_of_ble_eq_true rfl) SA SHI SLO g_u82) hZ (own_w hw 96 rfl) (own_w hw 51 rfl) (by decide) (by decide)) (g := (mkF m 20 #[.val (.ref a1), .val (.int (0 : Int32)), .val (.int (1 : Int32)), .val (.ref u82), .val (.int (0 : Int32))] [(.int c0), (.int (0 : Int32)), (.ref u82)])) rfl (by rw [hml]; rfl) (argsL := [(.ref u82), (.int (0 : Int32)), (.int c0)]) (rest := []) (lenOf pd_9 rfl) rfl (by show 2 * 0 + _ ≤ _; exact Nat.le_of_eq rfl) (hb hby d18_20) (fun _ _ => ⟨rfl, rfl, (by decide : 1 + 0 ≤ _), (by decide : 2 + 0 ≤ _)⟩)
  dsimp only [Pt.U, Pt.locs, Pt.cells, Pt.slots] at X85 l85 y85 z85 st85 hQ85
  subst l85 y85 z85
  obtain ⟨rfl, Nq85, Kp85, Vq85⟩ := hQ85
  have N85 := Fr.app N82 Nq85
  have nst_u82 := Vq82.nostat
  replace Z0 := Nat.le_trans Z0 Kp85.1
  replace Vc := Vc.keep Kp85 (ninS ne_a1_u82 nin0)
  replace SA := own_staKeep SA Kp85 (nsS nst_u82 ns0)
  replace SHI := own_staKeep SHI Kp85 (nsS nst_u82 ns0)
  replace SLO := own_staKeep SLO Kp85 (nsS nst_u82 ns0)
  replace KK := KK.trans Kp85 (allS (Or.inr sz_u82) all0)
  have V85 : Arv Z T85.heap u82 ku82 .byte (2 : Int32) [(.int (own_lo8 c0)), (.int (own_hi8 c0))] (.int (0 : Int32)) := Vq85
  refine own_of (U' := (T85.setTop (mkF m 23 #[.val (.ref a1), .val (.int (0 : Int32)), .val (.int (1 : Int32)), .val (.ref u82), .val (.int (0 : Int32))] []))) (st85) ?_
  refine own_iinc X85 hx hby d18_23 rfl (l' := #[.val (.ref a1), .val (.int ((0 : Int32) + (1 : Int32))), .val (.int (1 : Int32)), .val (.ref u82), .val (.int (0 : Int32))]) rfl ?_
  refine own_eq (U' := (T85.setTop (mkF m 26 #[.val (.ref a1), .val (.int (1 : Int32)), .val (.int (1 : Int32)), .val (.ref u82), .val (.int (0 : Int32))] []))) (by rw [show ((0 : Int32) + (1 : Int32)) = (1 : Int32) by decide]) ?_
  refine own_iinc X85 hx hby d18_26 rfl (l' := #[.val (.ref a1), .val (.int (1 : Int32)), .val (.int (1 : Int32)), .val (.ref u82), .val (.int ((0 : Int32) + (1 : Int32)))]) rfl ?_
  refine own_eq (U' := (T85.setTop (mkF m 29 #[.val (.ref a1), .val (.int (1 : Int32)), .val (.int (1 : Int32)), .val (.ref u82), .val (.int (1 : Int32))] []))) (by rw [show ((0 : Int32) + (1 : Int32)) = (1 : Int32) by decide]) ?_
  refine own_goto X85 hx hby 29 8 d18_29 (by decide) (by decide) ?_
  refine own_iload X85 hx hby d18_8 rfl ?_
  refine own_iloadN X85 hx hby d18_10 rfl ?_
  have hc11_86 : ¬ ((1 : Int32) < (1 : Int32)) := by decide
  refine own_icmpYes X85 hx hby 11 32 d18_11 (flt hc11_86).2.1 (by decide) (by decide) ?_
  refine own_aloadN X85 hx hby d18_32 rfl rfl ?_
  exact own_retA X85 hx hlk Bd.returns rfl rfl (hb hby d18_33) (by decide) (by decide) (⟨u82, ku82, rfl, N85, KK, sz_u82, V85⟩)
abbrev mN_16 : MethodName := ⟨"java/lang/StringUTF16", "compress", "([CI[BII)I"⟩
theorem d10_0 : decode jdk_52_method_21_code 0 = .ok (.iconst 0, 1) := by decide +kernel
theorem d10_1 : decode jdk_52_method_21_code 1 = .ok (.istore 5, 2) := by decide +kernel
theorem d10_3 : decode jdk_52_method_21_code 3 = .ok (.iload 5, 2) := by decide +kernel
theorem d10_5 : decode jdk_52_method_21_code 5 = .ok (.iload 4, 2) := by decide +kernel
theorem d10_7 : decode jdk_52_method_21_code 7 = .ok (.if_icmp .ge 37, 3) := by decide +kernel
theorem d10_10 : decode jdk_52_method_21_code 10 = .ok (.aload_n 0, 1) := by decide +kernel
theorem d10_11 : decode jdk_52_method_21_code 11 = .ok (.iload_n 1, 1) := by decide +kernel
theorem d10_12 : decode jdk_52_method_21_code 12 = .ok (.caload, 1) := by decide +kernel
theorem d10_13 : decode jdk_52_method_21_code 13 = .ok (.istore 6, 2) := by decide +kernel
theorem d10_15 : decode jdk_52_method_21_code 15 = .ok (.iload 6, 2) := by decide +kernel
theorem d10_17 : decode jdk_52_method_21_code 17 = .ok (.sipush 255, 3) := by decide +kernel
theorem d10_20 : decode jdk_52_method_21_code 20 = .ok (.if_icmp .le 6, 3) := by decide +kernel
theorem d10_23 : decode jdk_52_method_21_code 23 = .ok (.iload 5, 2) := by decide +kernel
theorem d10_25 : decode jdk_52_method_21_code 25 = .ok (.ireturn, 1) := by decide +kernel
theorem ef_cl1_0 (m : MethodId) (x0 : Addr) (x2 : Addr) : entryFrame m #[(.ref x0), (.int (0 : Int32)), (.ref x2), (.int (0 : Int32)), (.int (1 : Int32))] 7 = mkF m 0 #[.val (.ref x0), .val (.int (0 : Int32)), .val (.ref x2), .val (.int (0 : Int32)), .val (.int (1 : Int32)), .unset, .unset] [] := by first | (simp [entryFrame, mkF, argsToLocals, Value.category]; done) | rfl
def Qcl1_0 (Z : State) (a3 : Addr) (kd : ClassId) (c0 : Int32) (h0 : Heap) (n0 : Nat) (v : Option Value) (h : Heap) (L : List Loc) : Prop := v = some (.int (0 : Int32)) ∧ Fr n0 L ∧ Keep h0 h [a3] ∧ Arv Z h a3 kd .byte (1 : Int32) [(.int (0 : Int32))] (.int (0 : Int32))
set_option maxRecDepth 65536 in
set_option maxHeartbeats 40000000 in
theorem rmcl1_0 (l : Launch) (Z : State) (a0 : Array Value) (hw : ∀ d ∈ tables_1, d.before a0 Z = true) (ws : List Jvm.Cond) (a1 a3 : Addr) (kc kd : ClassId) (c0 : Int32) (h0 : Heap) (n0 : Nat) (Z0 : n0 ≤ h0.size) (Vc : Arv Z h0 a1 kc .char (1 : Int32) [(.int c0)] (.int (0 : Int32))) (Vd : Arv Z h0 a3 kd .byte (1 : Int32) [(.int (0 : Int32))] (.int (0 : Int32))) (g_a3 : n0 ≤ a3) (nea : a1 ≠ a3)  (hB : (255 : Int32) < c0) :
    MetFree l mN_16 (head1 (Jvm.Cond.code mN_16 jdk_52_method_21_code 7 (some .int) :: ws) ({ frames := 0, cells := 0, slots := 0, locals := 0 } : Room)) (fun a U => a = #[(.ref a1), (.int (0 : Int32)), (.ref a3), (.int (0 : Int32)), (.int (1 : Int32))] ∧ Z.Warmed39 U.vm ∧ U.heap = h0) (fun _ _ _ _ _ => True) (fun _ U o U' => ∃ v L, o = .returned v ∧ (Qcl1_0 Z a3 kd c0 h0 n0) v U'.heap L ∧ FrameEnd U o U' L ({ frames := 0, cells := 0, slots := 0, locals := 0 } : Room).cells ({ frames := 0, cells := 0, slots := 0, locals := 0 } : Room).slots) := by
  refine MetFree.of_bodySF (plainFor_of_name pn_2) hisR ?_
  intro p e s m args below meth c s₁ Bd hml0 hP hK
  obtain ⟨rfl, hZ, hh⟩ := hP
  have hx := Bd.exec
  have hby := Bd.bytes
  have hml : c.maxLocals = 7 := hml0
  have hown : s.vm.findClass "java/lang/StringUTF16" = some m.cls := findClass_of_methodNamed Bd.named
  have hnm := (name_of_methodNamed Bd.named Bd.method).1
  have hlk := Bd.notSynchronized
  have X0 : Stand p l e ({ frames := 0, cells := 0, slots := 0, locals := 0 } : Room) s m #[(.ref a1), (.int (0 : Int32)), (.ref a3), (.int (0 : Int32)), (.int (1 : Int32))] below meth c s₁ [] 0 0 := Stand.of_body Bd
  have e0 : s₁.heap = h0 := by rw [← hh, Bd.state]; rfl
  have N0 := Fr.nil n0
  have KK := Keep.refl h0 [a3]
  show own_Ends p e below s FrameEnd (Qcl1_0 Z a3 kd c0 h0 n0) 0 0 (s₁.setTop (entryFrame m #[(.ref a1), (.int (0 : Int32)), (.ref a3), (.int (0 : Int32)), (.int (1 : Int32))] 7))
  refine own_of (U' := (s₁.setTop (mkF m 0 #[.val (.ref a1), .val (.int (0 : Int32)), .val (.ref a3), .val (.int (0 : Int32)), .val (.int (1 : Int32)), .unset, .unset] []))) (fun _ k => castTop (ef_cl1_0 m a1 a3) k) ?_
  refine own_iconst X0 hx hby 0 d10_0 rfl ?_
  refine own_istore X0 hx hby d10_1 (l' := #[.val (.ref a1), .val (.int (0 : Int32)), .val (.ref a3), .val (.int (0 : Int32)), .val (.int (1 : Int32)), .val (.int (0 : Int32)), .unset]) rfl ?_
  refine own_iload X0 hx hby d10_3 rfl ?_
  refine own_iload X0 hx hby d10_5 rfl ?_
  have hc7_87 : (0 : Int32) < (1 : Int32) := by decide
  refine own_icmpNo X0 hx hby d10_7 (tlt hc7_87).2.1 ?_
  refine own_aloadN X0 hx hby d10_10 rfl rfl ?_
  refine own_iloadN X0 hx hby d10_11 rfl ?_
  obtain ⟨cl88, Ar88, qa88, Sa88, Na88, Ha88, Ga88⟩ := id Vc
  have hin88 : ¬ ((0 : Int32) < 0 ∨ cl88.slots.size ≤ ((0 : Int32)).toNatClampNeg) := inb_of Sa88 ⟨by decide, by decide⟩
  have hat88 : cl88.slots[((0 : Int32)).toNatClampNeg]? = some (.int c0) := Has.at Ha88 hin88 rfl
  refine own_of (U' := (s₁.setTop (mkF m 13 #[.val (.ref a1), .val (.int (0 : Int32)), .val (.ref a3), .val (.int (0 : Int32)), .val (.int (1 : Int32)), .val (.int (0 : Int32)), .unset] [(.int c0)]))) (X0.caload hx (j := (0 : Int32)) (v := (.int c0)) (by rw [e0]; exact Ar88.1) (State.isArrayOf_alike hZ.alike Ar88.2.1) Ar88.2.2 hin88 hat88 (g := (mkF m 12 #[.val (.ref a1), .val (.int (0 : Int32)), .val (.ref a3), .val (.int (0 : Int32)), .val (.int (1 : Int32)), .val (.int (0 : Int32)), .unset] [(.int (0 : Int32)), (.ref a1)])) rfl rfl (hb hby d10_12)) ?_
  refine own_istore X0 hx hby d10_13 (l' := #[.val (.ref a1), .val (.int (0 : Int32)), .val (.ref a3), .val (.int (0 : Int32)), .val (.int (1 : Int32)), .val (.int (0 : Int32)), .val (.int c0)]) rfl ?_
  refine own_iload X0 hx hby d10_15 rfl ?_
  refine own_sipush X0 hx hby 255 d10_17 rfl ?_
  have hc20_89 : (255 : Int32) < c0 := hB
  refine own_icmpNo X0 hx hby d10_20 (tlt hc20_89).2.2.2 ?_
  refine own_iload X0 hx hby d10_23 rfl ?_
  exact own_retI X0 hx hlk Bd.returns (hb hby d10_25) (by decide) (by decide) (by rw [e0]; exact ⟨rfl, N0, KK, Vd⟩)
theorem d10_26 : decode jdk_52_method_21_code 26 = .ok (.aload_n 2, 1) := by decide +kernel
theorem d10_27 : decode jdk_52_method_21_code 27 = .ok (.iload_n 3, 1) := by decide +kernel
theorem d10_28 : decode jdk_52_method_21_code 28 = .ok (.iload 6, 2) := by decide +kernel
theorem d10_30 : decode jdk_52_method_21_code 30 = .ok (.i2b, 1) := by decide +kernel
theorem d10_31 : decode jdk_52_method_21_code 31 = .ok (.bastore, 1) := by decide +kernel
theorem d10_32 : decode jdk_52_method_21_code 32 = .ok (.iinc 1 1, 3) := by decide +kernel
theorem d10_35 : decode jdk_52_method_21_code 35 = .ok (.iinc 3 1, 3) := by decide +kernel
theorem d10_38 : decode jdk_52_method_21_code 38 = .ok (.iinc 5 1, 3) := by decide +kernel
theorem d10_41 : decode jdk_52_method_21_code 41 = .ok (.goto (-38), 3) := by decide +kernel
theorem d10_44 : decode jdk_52_method_21_code 44 = .ok (.iload 4, 2) := by decide +kernel
theorem d10_46 : decode jdk_52_method_21_code 46 = .ok (.ireturn, 1) := by decide +kernel
theorem ef_cl1_1 (m : MethodId) (x0 : Addr) (x2 : Addr) : entryFrame m #[(.ref x0), (.int (0 : Int32)), (.ref x2), (.int (0 : Int32)), (.int (1 : Int32))] 7 = mkF m 0 #[.val (.ref x0), .val (.int (0 : Int32)), .val (.ref x2), .val (.int (0 : Int32)), .val (.int (1 : Int32)), .unset, .unset] [] := by first | (simp [entryFrame, mkF, argsToLocals, Value.category]; done) | rfl
def Qcl1_1 (Z : State) (a3 : Addr) (kd : ClassId) (c0 : Int32) (h0 : Heap) (n0 : Nat) (v : Option Value) (h : Heap) (L : List Loc) : Prop := v = some (.int (1 : Int32)) ∧ Fr n0 L ∧ Keep h0 h [a3] ∧ Arv Z h a3 kd .byte (1 : Int32) [(.int (own_b8 c0))] (.int (0 : Int32))
set_option maxRecDepth 65536 in
set_option maxHeartbeats 40000000 in
theorem rmcl1_1 (l : Launch) (Z : State) (a0 : Array Value) (hw : ∀ d ∈ tables_1, d.before a0 Z = true) (ws : List Jvm.Cond) (a1 a3 : Addr) (kc kd : ClassId) (c0 : Int32) (h0 : Heap) (n0 : Nat) (Z0 : n0 ≤ h0.size) (Vc : Arv Z h0 a1 kc .char (1 : Int32) [(.int c0)] (.int (0 : Int32))) (Vd : Arv Z h0 a3 kd .byte (1 : Int32) [(.int (0 : Int32))] (.int (0 : Int32))) (g_a3 : n0 ≤ a3) (nea : a1 ≠ a3) (hL0 : ¬ ((255 : Int32) < c0)) :
    MetFree l mN_16 (head1 (Jvm.Cond.code mN_16 jdk_52_method_21_code 7 (some .int) :: ws) ({ frames := 0, cells := 0, slots := 0, locals := 0 } : Room)) (fun a U => a = #[(.ref a1), (.int (0 : Int32)), (.ref a3), (.int (0 : Int32)), (.int (1 : Int32))] ∧ Z.Warmed39 U.vm ∧ U.heap = h0) (fun _ _ _ _ _ => True) (fun _ U o U' => ∃ v L, o = .returned v ∧ (Qcl1_1 Z a3 kd c0 h0 n0) v U'.heap L ∧ FrameEnd U o U' L ({ frames := 0, cells := 0, slots := 0, locals := 0 } : Room).cells ({ frames := 0, cells := 0, slots := 0, locals := 0 } : Room).slots) := by
  refine MetFree.of_bodySF (plainFor_of_name pn_2) hisR ?_
  intro p e s m args below meth c s₁ Bd hml0 hP hK
  obtain ⟨rfl, hZ, hh⟩ := hP
  have hx := Bd.exec
  have hby := Bd.bytes
  have hml : c.maxLocals = 7 := hml0
  have hown : s.vm.findClass "java/lang/StringUTF16" = some m.cls := findClass_of_methodNamed Bd.named
  have hnm := (name_of_methodNamed Bd.named Bd.method).1
  have hlk := Bd.notSynchronized
  have X0 : Stand p l e ({ frames := 0, cells := 0, slots := 0, locals := 0 } : Room) s m #[(.ref a1), (.int (0 : Int32)), (.ref a3), (.int (0 : Int32)), (.int (1 : Int32))] below meth c s₁ [] 0 0 := Stand.of_body Bd
  have e0 : s₁.heap = h0 := by rw [← hh, Bd.state]; rfl
  have N0 := Fr.nil n0
  have KK := Keep.refl h0 [a3]
  show own_Ends p e below s FrameEnd (Qcl1_1 Z a3 kd c0 h0 n0) 0 0 (s₁.setTop (entryFrame m #[(.ref a1), (.int (0 : Int32)), (.ref a3), (.int (0 : Int32)), (.int (1 : Int32))] 7))
  refine own_of (U' := (s₁.setTop (mkF m 0 #[.val (.ref a1), .val (.int (0 : Int32)), .val (.ref a3), .val (.int (0 : Int32)), .val (.int (1 : Int32)), .unset, .unset] []))) (fun _ k => castTop (ef_cl1_1 m a1 a3) k) ?_
  refine own_iconst X0 hx hby 0 d10_0 rfl ?_
  refine own_istore X0 hx hby d10_1 (l' := #[.val (.ref a1), .val (.int (0 : Int32)), .val (.ref a3), .val (.int (0 : Int32)), .val (.int (1 : Int32)), .val (.int (0 : Int32)), .unset]) rfl ?_
  refine own_iload X0 hx hby d10_3 rfl ?_
  refine own_iload X0 hx hby d10_5 rfl ?_
  have hc7_90 : (0 : Int32) < (1 : Int32) := by decide
  refine own_icmpNo X0 hx hby d10_7 (tlt hc7_90).2.1 ?_
  refine own_aloadN X0 hx hby d10_10 rfl rfl ?_
  refine own_iloadN X0 hx hby d10_11 rfl ?_
  obtain ⟨cl91, Ar91, qa91, Sa91, Na91, Ha91, Ga91⟩ := id Vc
  have hin91 : ¬ ((0 : Int32) < 0 ∨ cl91.slots.size ≤ ((0 : Int32)).toNatClampNeg) := inb_of Sa91 ⟨by decide, by decide⟩
  have hat91 : cl91.slots[((0 : Int32)).toNatClampNeg]? = some (.int c0) := Has.at Ha91 hin91 rfl
  refine own_of (U' := (s₁.setTop (mkF m 13 #[.val (.ref a1), .val (.int (0 : Int32)), .val (.ref a3), .val (.int (0 : Int32)), .val (.int (1 : Int32)), .val (.int (0 : Int32)), .unset] [(.int c0)]))) (X0.caload hx (j := (0 : Int32)) (v := (.int c0)) (by rw [e0]; exact Ar91.1) (State.isArrayOf_alike hZ.alike Ar91.2.1) Ar91.2.2 hin91 hat91 (g := (mkF m 12 #[.val (.ref a1), .val (.int (0 : Int32)), .val (.ref a3), .val (.int (0 : Int32)), .val (.int (1 : Int32)), .val (.int (0 : Int32)), .unset] [(.int (0 : Int32)), (.ref a1)])) rfl rfl (hb hby d10_12)) ?_
  refine own_istore X0 hx hby d10_13 (l' := #[.val (.ref a1), .val (.int (0 : Int32)), .val (.ref a3), .val (.int (0 : Int32)), .val (.int (1 : Int32)), .val (.int (0 : Int32)), .val (.int c0)]) rfl ?_
  refine own_iload X0 hx hby d10_15 rfl ?_
  refine own_sipush X0 hx hby 255 d10_17 rfl ?_
  have hc20_92 : ¬ ((255 : Int32) < c0) := hL0
  refine own_icmpYes X0 hx hby 20 26 d10_20 (flt hc20_92).2.2.2 (by decide) (by decide) ?_
  refine own_aloadN X0 hx hby d10_26 rfl rfl ?_
  refine own_iloadN X0 hx hby d10_27 rfl ?_
  refine own_iload X0 hx hby d10_28 rfl ?_
  refine own_i2b X0 hx hby d10_30 ?_
  obtain ⟨cl93, Ar93, qa93, Sa93, Na93, Ha93, Ga93⟩ := Vd
  have hin93 : ¬ ((0 : Int32) < 0 ∨ cl93.slots.size ≤ ((0 : Int32)).toNatClampNeg) := inb_of Sa93 ⟨by decide, by decide⟩
  obtain ⟨T93, h93, X93, e93, W93, st93⟩ := stB X0 hx hZ e0 Ar93 (j := (0 : Int32)) hin93 (g := (mkF m 31 #[.val (.ref a1), .val (.int (0 : Int32)), .val (.ref a3), .val (.int (0 : Int32)), .val (.int (1 : Int32)), .val (.int (0 : Int32)), .val (.int c0)] [(.int (c0.toInt8.toInt32)), (.int (0 : Int32)), (.ref a3)])) rfl rfl (hb hby d10_31)
  replace Vd : Arv Z h93 a3 kd .byte (1 : Int32) [(.int (nar .byte (c0.toInt8.toInt32)))] (.int (0 : Int32)) := Arv.set Ar93 qa93 Sa93 Na93 Ha93 Ga93 (fits_nar_byte _) W93 0 rfl (Nat.le_of_ble_eq_true rfl)
  replace Z0 := Nat.le_trans Z0 (Keep.of_wr W93).1
  replace Vc := Vc.other W93 nea
  replace KK := KK.wr W93 (Or.inl (List.mem_of_getElem? (i := 0) rfl))
  have N93 := Fr.snoc X93 N0 g_a3
  refine own_of (U' := (T93.setTop (mkF m 32 #[.val (.ref a1), .val (.int (0 : Int32)), .val (.ref a3), .val (.int (0 : Int32)), .val (.int (1 : Int32)), .val (.int (0 : Int32)), .val (.int c0)] []))) (st93) ?_
  refine own_iinc X93 hx hby d10_32 rfl (l' := #[.val (.ref a1), .val (.int ((0 : Int32) + (1 : Int32))), .val (.ref a3), .val (.int (0 : Int32)), .val (.int (1 : Int32)), .val (.int (0 : Int32)), .val (.int c0)]) rfl ?_
  refine own_eq (U' := (T93.setTop (mkF m 35 #[.val (.ref a1), .val (.int (1 : Int32)), .val (.ref a3), .val (.int (0 : Int32)), .val (.int (1 : Int32)), .val (.int (0 : Int32)), .val (.int c0)] []))) (by rw [show ((0 : Int32) + (1 : Int32)) = (1 : Int32) by decide]) ?_
  refine own_iinc X93 hx hby d10_35 rfl (l' := #[.val (.ref a1), .val (.int (1 : Int32)), .val (.ref a3), .val (.int ((0 : Int32) + (1 : Int32))), .val (.int (1 : Int32)), .val (.int (0 : Int32)), .val (.int c0)]) rfl ?_
  refine own_eq (U' := (T93.setTop (mkF m 38 #[.val (.ref a1), .val (.int (1 : Int32)), .val (.ref a3), .val (.int (1 : Int32)), .val (.int (1 : Int32)), .val (.int (0 : Int32)), .val (.int c0)] []))) (by rw [show ((0 : Int32) + (1 : Int32)) = (1 : Int32) by decide]) ?_
  refine own_iinc X93 hx hby d10_38 rfl (l' := #[.val (.ref a1), .val (.int (1 : Int32)), .val (.ref a3), .val (.int (1 : Int32)), .val (.int (1 : Int32)), .val (.int ((0 : Int32) + (1 : Int32))), .val (.int c0)]) rfl ?_
  refine own_eq (U' := (T93.setTop (mkF m 41 #[.val (.ref a1), .val (.int (1 : Int32)), .val (.ref a3), .val (.int (1 : Int32)), .val (.int (1 : Int32)), .val (.int (1 : Int32)), .val (.int c0)] []))) (by rw [show ((0 : Int32) + (1 : Int32)) = (1 : Int32) by decide]) ?_
  refine own_goto X93 hx hby 41 3 d10_41 (by decide) (by decide) ?_
  refine own_iload X93 hx hby d10_3 rfl ?_
  refine own_iload X93 hx hby d10_5 rfl ?_
  have hc7_94 : ¬ ((1 : Int32) < (1 : Int32)) := by decide
  refine own_icmpYes X93 hx hby 7 44 d10_7 (flt hc7_94).2.1 (by decide) (by decide) ?_
  refine own_iload X93 hx hby d10_44 rfl ?_
  exact own_retI X93 hx hlk Bd.returns (hb hby d10_46) (by decide) (by decide) (by rw [e93]; exact ⟨rfl, N93, KK, Vd⟩)
def Qclb1 (a3 : Addr) (c0 : Int32) (h0 : Heap) (n0 : Nat) (v : Option Value) (h : Heap) (L : List Loc) : Prop := ∃ r : Int32, v = some (.int r) ∧ Fr n0 L ∧ Keep h0 h [a3] ∧ ¬ (r = (1 : Int32)) ∧ (¬ ((r <<< ((1 : Int32) &&& 31)) < (0 : Int32))) ∧ ((r <<< ((1 : Int32) &&& 31)) < (2 : Int32)) ∧ (¬ (((r <<< ((1 : Int32) &&& 31)) + (1 : Int32)) < (0 : Int32))) ∧ (((r <<< ((1 : Int32) &&& 31)) + (1 : Int32)) < (2 : Int32)) ∧ (255 : Int32) < own_chu [(own_lo8 c0), (own_hi8 c0)] r
theorem rmclb1 (l : Launch) (Z : State) (a0 : Array Value) (hw : ∀ d ∈ tables_1, d.before a0 Z = true) (ws : List Jvm.Cond) (a1 a3 : Addr) (kc kd : ClassId) (c0 : Int32) (h0 : Heap) (n0 : Nat) (Z0 : n0 ≤ h0.size) (Vc : Arv Z h0 a1 kc .char (1 : Int32) [(.int c0)] (.int (0 : Int32))) (Vd : Arv Z h0 a3 kd .byte (1 : Int32) [(.int (0 : Int32))] (.int (0 : Int32))) (g_a3 : n0 ≤ a3) (nea : a1 ≠ a3) (hb0 : 0 ≤ c0.toInt ∧ c0.toInt < 65536) (big : ((255 : Int32) < c0)) :
    MetFree l mN_16 (head1 (Jvm.Cond.code mN_16 jdk_52_method_21_code 7 (some .int) :: ws) ({ frames := 0, cells := 0, slots := 0, locals := 0 } : Room)) (fun a U => a = #[(.ref a1), (.int (0 : Int32)), (.ref a3), (.int (0 : Int32)), (.int (1 : Int32))] ∧ Z.Warmed39 U.vm ∧ U.heap = h0) (fun _ _ _ _ _ => True) (fun _ U o U' => ∃ v L, o = .returned v ∧ (Qclb1 a3 c0 h0 n0) v U'.heap L ∧ FrameEnd U o U' L ({ frames := 0, cells := 0, slots := 0, locals := 0 } : Room).cells ({ frames := 0, cells := 0, slots := 0, locals := 0 } : Room).slots) := by
  by_cases qB0 : (255 : Int32) < c0
  · exact own_mono (rmcl1_0 l Z a0 hw ws a1 a3 kc kd c0 h0 n0 Z0 Vc Vd g_a3 nea  qB0) (fun _ _ _ _ ⟨v, L, h1, ⟨q1, q2, q3, _⟩, h3⟩ => ⟨v, L, h1, ⟨(0 : Int32), q1, q2, q3, by decide, by decide, by decide, by decide, by decide, by rw [show own_chu [(own_lo8 c0), (own_hi8 c0)] (0 : Int32) = c0 from own_gc_eq hb0]; exact qB0⟩, h3⟩)
  exact absurd big (by simp [qB0])
abbrev mN_17 : MethodName := ⟨"java/lang/StringUTF16", "compress", "([CII)[B"⟩
theorem pd_10 : parseMethodDescriptor "([CI[BII)I" = some ⟨[(.array .char), .int, (.array .byte), .int, .int], some .int⟩ := by decide +kernel
theorem d9_0 : decode jdk_52_method_16_code 0 = .ok (.iload_n 2, 1) := by decide +kernel
theorem d9_1 : decode jdk_52_method_16_code 1 = .ok (.newarray .byte, 2) := by decide +kernel
theorem d9_3 : decode jdk_52_method_16_code 3 = .ok (.astore_n 3, 1) := by decide +kernel
theorem d9_4 : decode jdk_52_method_16_code 4 = .ok (.aload_n 0, 1) := by decide +kernel
theorem d9_5 : decode jdk_52_method_16_code 5 = .ok (.iload_n 1, 1) := by decide +kernel
theorem d9_6 : decode jdk_52_method_16_code 6 = .ok (.aload_n 3, 1) := by decide +kernel
theorem d9_7 : decode jdk_52_method_16_code 7 = .ok (.iconst 0, 1) := by decide +kernel
theorem d9_8 : decode jdk_52_method_16_code 8 = .ok (.iload_n 2, 1) := by decide +kernel
theorem d9_9 : decode jdk_52_method_16_code 9 = .ok (.invokestatic 115, 3) := by decide +kernel
theorem d9_12 : decode jdk_52_method_16_code 12 = .ok (.istore 4, 2) := by decide +kernel
theorem d9_14 : decode jdk_52_method_16_code 14 = .ok (.iload 4, 2) := by decide +kernel
theorem d9_16 : decode jdk_52_method_16_code 16 = .ok (.iload_n 2, 1) := by decide +kernel
theorem d9_17 : decode jdk_52_method_16_code 17 = .ok (.if_icmp .eq 40, 3) := by decide +kernel
theorem d9_57 : decode jdk_52_method_16_code 57 = .ok (.aload_n 3, 1) := by decide +kernel
theorem d9_58 : decode jdk_52_method_16_code 58 = .ok (.areturn, 1) := by decide +kernel
theorem ef_cl1 (m : MethodId) (x0 : Addr) : entryFrame m #[(.ref x0), (.int (0 : Int32)), (.int (1 : Int32))] 6 = mkF m 0 #[.val (.ref x0), .val (.int (0 : Int32)), .val (.int (1 : Int32)), .unset, .unset, .unset] [] := by first | (simp [entryFrame, mkF, argsToLocals, Value.category]; done) | rfl
def Qcl1 (Z : State) (c0 : Int32) (h0 : Heap) (n0 : Nat) (v : Option Value) (h : Heap) (L : List Loc) : Prop := ∃ (b : Addr) (kb : ClassId), v = some (.ref b) ∧ Fr n0 L ∧ Keep h0 h [] ∧ h0.size ≤ b ∧ Arv Z h b kb .byte (1 : Int32) [(.int (own_b8 c0))] (.int (0 : Int32))
set_option maxRecDepth 65536 in
set_option maxHeartbeats 40000000 in
theorem rmcl1 (l : Launch) (Z : State) (a0 : Array Value) (hw : ∀ d ∈ tables_1, d.before a0 Z = true) (ws : List Jvm.Cond) (a1 : Addr) (kc : ClassId) (c0 : Int32) (h0 : Heap) (n0 : Nat) (Z0 : n0 ≤ h0.size) (Vc : Arv Z h0 a1 kc .char (1 : Int32) [(.int c0)] (.int (0 : Int32))) (hb0 : 0 ≤ c0.toInt ∧ c0.toInt < 65536) (SA : Sta Z h0 "java/lang/StringUTF16" "$assertionsDisabled" "Z" (.int (1 : Int32))) (SHI : Sta Z h0 "java/lang/StringUTF16" "HI_BYTE_SHIFT" "I" (.int (0 : Int32))) (SLO : Sta Z h0 "java/lang/StringUTF16" "LO_BYTE_SHIFT" "I" (.int (8 : Int32))) (hL0 : ¬ ((255 : Int32) < c0)) :
    MetFree l mN_17 (head1 (Jvm.Cond.code mN_17 jdk_52_method_16_code 6 (some (.array .byte)) :: ws) ({ frames := 1, cells := 1, slots := 1, locals := 18 } : Room)) (fun a U => a = #[(.ref a1), (.int (0 : Int32)), (.int (1 : Int32))] ∧ Z.Warmed39 U.vm ∧ U.heap = h0) (fun _ _ _ _ _ => True) (fun _ U o U' => ∃ v L, o = .returned v ∧ (Qcl1 Z c0 h0 n0) v U'.heap L ∧ FrameEnd U o U' L ({ frames := 1, cells := 1, slots := 1, locals := 18 } : Room).cells ({ frames := 1, cells := 1, slots := 1, locals := 18 } : Room).slots) := by
  refine MetFree.of_bodySF (plainFor_of_name pn_2) hisR ?_
  intro p e s m args below meth c s₁ Bd hml0 hP hK
  obtain ⟨rfl, hZ, hh⟩ := hP
  have hx := Bd.exec
  have hby := Bd.bytes
  have hml : c.maxLocals = 6 := hml0
  have hown : s.vm.findClass "java/lang/StringUTF16" = some m.cls := findClass_of_methodNamed Bd.named
  have hnm := (name_of_methodNamed Bd.named Bd.method).1
  have hlk := Bd.notSynchronized
  have X0 : Stand p l e ({ frames := 1, cells := 1, slots := 1, locals := 18 } : Room) s m #[(.ref a1), (.int (0 : Int32)), (.int (1 : Int32))] below meth c s₁ [] 0 0 := Stand.of_body Bd
  have e0 : s₁.heap = h0 := by rw [← hh, Bd.state]; rfl
  have N0 := Fr.nil n0
  have KK := Keep.refl h0 []
  show own_Ends p e below s FrameEnd (Qcl1 Z c0 h0 n0) 1 1 (s₁.setTop (entryFrame m #[(.ref a1), (.int (0 : Int32)), (.int (1 : Int32))] 6))
  refine own_of (U' := (s₁.setTop (mkF m 0 #[.val (.ref a1), .val (.int (0 : Int32)), .val (.int (1 : Int32)), .unset, .unset, .unset] []))) (fun _ k => castTop (ef_cl1 m a1) k) ?_
  refine own_iloadN X0 hx hby d9_0 rfl ?_
  obtain ⟨T95, h95, k95, X95, e95, E95, A95, st95⟩ := newP X0 hx hZ (own_w hw 22 rfl) e0 (g := (mkF m 1 #[.val (.ref a1), .val (.int (0 : Int32)), .val (.int (1 : Int32)), .unset, .unset, .unset] [(.int (1 : Int32))])) rfl (hb hby d9_1) rfl (by decide) (cap := 1) (by decide) (by decide) (by decide) (by decide)
  obtain ⟨b95, gz95⟩ : ∃ z, z = h0.size := ⟨_, rfl⟩
  rw [← gz95] at A95 st95
  have g_b95 : n0 ≤ b95 := Nat.le_trans Z0 (Nat.le_of_eq gz95.symm)
  have sz_b95 : h0.size ≤ b95 := Nat.le_trans KK.1 (Nat.le_of_eq gz95.symm)
  have ne_a1_b95 : a1 ≠ b95 := Nat.ne_of_lt (Nat.lt_of_lt_of_le Vc.lt (Nat.le_of_eq gz95.symm))
  replace Z0 := Nat.le_trans Z0 E95.1
  replace Vc := Vc.ext E95
  replace SA := SA.ext E95
  replace SHI := SHI.ext E95
  replace SLO := SLO.ext E95
  replace KK := KK.ext E95
  have V95 : Arv Z h95 b95 k95 .byte (1 : Int32) [(.int (0 : Int32))] (.int (0 : Int32)) := (Arv.new A95 (by decide)).pad (pad_rep [] (.int (0 : Int32)) 1)
  refine own_of (U' := (T95.setTop (mkF m 3 #[.val (.ref a1), .val (.int (0 : Int32)), .val (.int (1 : Int32)), .unset, .unset, .unset] [(.ref b95)]))) (st95) ?_
  refine own_astoreN X95 hx hby d9_3 rfl (l' := #[.val (.ref a1), .val (.int (0 : Int32)), .val (.int (1 : Int32)), .val (.ref b95), .unset, .unset]) rfl ?_
  refine own_aloadN X95 hx hby d9_4 rfl rfl ?_
  refine own_iloadN X95 hx hby d9_5 rfl ?_
  refine own_aloadN X95 hx hby d9_6 rfl rfl ?_
  refine own_iconst X95 hx hby 0 d9_7 rfl ?_
  refine own_iloadN X95 hx hby d9_8 rfl ?_
  obtain ⟨_, _, ⟨T96, L96, k96, n96⟩, -, X96, ⟨Lc96, hQ96, l96, y96, z96⟩, st96⟩ := Jvm.LawKit.callS X95 hx (y := mN_16) hown (mvT hZ (own_w hw 53 rfl)) (mvT hZ (own_w hw 54 rfl)) (mvT hZ (own_w hw 51 rfl)) (mvT hZ (own_w hw 55 rfl)) (by decide) (backOf (W := 0) (rmcl1_1 l Z a0 hw [] a1 b95 kc k95 c0 h95 n0 Z0 Vc V95 g_b95 ne_a1_b95 hL0) hZ (own_w hw 55 rfl) (own_w hw 51 rfl) (by decide) (by decide)) (g := (mkF m 9 #[.val (.ref a1), .val (.int (0 : Int32)), .val (.int (1 : Int32)), .val (.ref b95), .unset, .unset] [(.int (1 : Int32)), (.int (0 : Int32)), (.ref b95), (.int (0 : Int32)), (.ref a1)])) rfl (by rw [hml]; rfl) (argsL := [(.ref a1), (.int (0 : Int32)), (.ref b95), (.int (0 : Int32)), (.int (1 : Int32))]) (rest := []) (lenOf pd_10 rfl) rfl (by show 2 * 0 + _ ≤ _; exact Nat.le_of_eq rfl) (hb hby d9_9) (fun _ _ => ⟨rfl, e95, (by decide : 1 + 0 ≤ _), (by decide : 1 + 0 ≤ _)⟩)
  dsimp only [Pt.U, Pt.locs, Pt.cells, Pt.slots] at X96 l96 y96 z96 st96 hQ96
  subst l96 y96 z96
  obtain ⟨rfl, Nq96, Kp96, Vq96⟩ := hQ96
  have N96 := Fr.app N0 Nq96
  have nst_b95 := V95.nostat
  replace Z0 := Nat.le_trans Z0 Kp96.1
  replace Vc := Vc.keep Kp96 (ninS ne_a1_b95 nin0)
  replace SA := own_staKeep SA Kp96 (nsS nst_b95 ns0)
  replace SHI := own_staKeep SHI Kp96 (nsS nst_b95 ns0)
  replace SLO := own_staKeep SLO Kp96 (nsS nst_b95 ns0)
  replace KK := KK.trans Kp96 (allS (Or.inr sz_b95) all0)
  refine own_of (U' := (T96.setTop (mkF m 12 #[.val (.ref a1), .val (.int (0 : Int32)), .val (.int (1 : Int32)), .val (.ref b95), .unset, .unset] [(.int (1 : Int32))]))) (st96) ?_
  refine own_istore X96 hx hby d9_12 (l' := #[.val (.ref a1), .val (.int (0 : Int32)), .val (.int (1 : Int32)), .val (.ref b95), .val (.int (1 : Int32)), .unset]) rfl ?_
  refine own_iload X96 hx hby d9_14 rfl ?_
  refine own_iloadN X96 hx hby d9_16 rfl ?_
  have hc17_97 : (1 : Int32) = (1 : Int32) := by decide
  refine own_icmpYes X96 hx hby 17 57 d9_17 (teq hc17_97).1 (by decide) (by decide) ?_
  refine own_aloadN X96 hx hby d9_57 rfl rfl ?_
  exact own_retA X96 hx hlk Bd.returns rfl rfl (hb hby d9_58) (by decide) (by decide) (⟨b95, k95, rfl, N96, KK, sz_b95, Vq96⟩)
theorem pd_11 : parseMethodDescriptor "([CII)[B" = some ⟨[(.array .char), .int, .int], some (.array .byte)⟩ := by decide +kernel
theorem d9_20 : decode jdk_52_method_16_code 20 = .ok (.aload_n 0, 1) := by decide +kernel
theorem d9_21 : decode jdk_52_method_16_code 21 = .ok (.iload_n 1, 1) := by decide +kernel
theorem d9_22 : decode jdk_52_method_16_code 22 = .ok (.iload_n 2, 1) := by decide +kernel
theorem d9_23 : decode jdk_52_method_16_code 23 = .ok (.invokestatic 119, 3) := by decide +kernel
theorem d9_26 : decode jdk_52_method_16_code 26 = .ok (.astore 5, 2) := by decide +kernel
theorem d9_28 : decode jdk_52_method_16_code 28 = .ok (.aload 5, 2) := by decide +kernel
theorem d9_30 : decode jdk_52_method_16_code 30 = .ok (.iload 4, 2) := by decide +kernel
theorem d9_32 : decode jdk_52_method_16_code 32 = .ok (.invokestatic 71, 3) := by decide +kernel
theorem d9_35 : decode jdk_52_method_16_code 35 = .ok (.sipush 255, 3) := by decide +kernel
theorem d9_38 : decode jdk_52_method_16_code 38 = .ok (.if_icmp .gt 16, 3) := by decide +kernel
theorem d9_54 : decode jdk_52_method_16_code 54 = .ok (.aload 5, 2) := by decide +kernel
theorem d9_56 : decode jdk_52_method_16_code 56 = .ok (.areturn, 1) := by decide +kernel
theorem ef_cb1 (m : MethodId) (x0 : Addr) : entryFrame m #[(.ref x0), (.int (0 : Int32)), (.int (1 : Int32))] 6 = mkF m 0 #[.val (.ref x0), .val (.int (0 : Int32)), .val (.int (1 : Int32)), .unset, .unset, .unset] [] := by first | (simp [entryFrame, mkF, argsToLocals, Value.category]; done) | rfl
def Qcb1 (Z : State) (c0 : Int32) (h0 : Heap) (n0 : Nat) (v : Option Value) (h : Heap) (L : List Loc) : Prop := ∃ (b : Addr) (kb : ClassId), v = some (.ref b) ∧ Fr n0 L ∧ Keep h0 h [] ∧ h0.size ≤ b ∧ Arv Z h b kb .byte (2 : Int32) [(.int (own_lo8 c0)), (.int (own_hi8 c0))] (.int (0 : Int32))
set_option maxRecDepth 65536 in
set_option maxHeartbeats 40000000 in
theorem rmcb1 (l : Launch) (Z : State) (a0 : Array Value) (hw : ∀ d ∈ tables_1, d.before a0 Z = true) (ws : List Jvm.Cond) (a1 : Addr) (kc : ClassId) (c0 : Int32) (h0 : Heap) (n0 : Nat) (Z0 : n0 ≤ h0.size) (Vc : Arv Z h0 a1 kc .char (1 : Int32) [(.int c0)] (.int (0 : Int32))) (hb0 : 0 ≤ c0.toInt ∧ c0.toInt < 65536) (SA : Sta Z h0 "java/lang/StringUTF16" "$assertionsDisabled" "Z" (.int (1 : Int32))) (SHI : Sta Z h0 "java/lang/StringUTF16" "HI_BYTE_SHIFT" "I" (.int (0 : Int32))) (SLO : Sta Z h0 "java/lang/StringUTF16" "LO_BYTE_SHIFT" "I" (.int (8 : Int32))) (big : ((255 : Int32) < c0)) :
    MetFree l mN_17 (head1 (Jvm.Cond.code mN_17 jdk_52_method_16_code 6 (some (.array .byte)) :: ws) ({ frames := 3, cells := 2, slots := 3, locals := 40 } : Room)) (fun a U => a = #[(.ref a1), (.int (0 : Int32)), (.int (1 : Int32))] ∧ Z.Warmed39 U.vm ∧ U.heap = h0) (fun _ _ _ _ _ => True) (fun _ U o U' => ∃ v L, o = .returned v ∧ (Qcb1 Z c0 h0 n0) v U'.heap L ∧ FrameEnd U o U' L ({ frames := 3, cells := 2, slots := 3, locals := 40 } : Room).cells ({ frames := 3, cells := 2, slots := 3, locals := 40 } : Room).slots) := by
  refine MetFree.of_bodySF (plainFor_of_name pn_2) hisR ?_
  intro p e s m args below meth c s₁ Bd hml0 hP hK
  obtain ⟨rfl, hZ, hh⟩ := hP
  have hx := Bd.exec
  have hby := Bd.bytes
  have hml : c.maxLocals = 6 := hml0
  have hown : s.vm.findClass "java/lang/StringUTF16" = some m.cls := findClass_of_methodNamed Bd.named
  have hnm := (name_of_methodNamed Bd.named Bd.method).1
  have hlk := Bd.notSynchronized
  have X0 : Stand p l e ({ frames := 3, cells := 2, slots := 3, locals := 40 } : Room) s m #[(.ref a1), (.int (0 : Int32)), (.int (1 : Int32))] below meth c s₁ [] 0 0 := Stand.of_body Bd
  have e0 : s₁.heap = h0 := by rw [← hh, Bd.state]; rfl
  have N0 := Fr.nil n0
  have KK := Keep.refl h0 []
  show own_Ends p e below s FrameEnd (Qcb1 Z c0 h0 n0) 2 3 (s₁.setTop (entryFrame m #[(.ref a1), (.int (0 : Int32)), (.int (1 : Int32))] 6))
  refine own_of (U' := (s₁.setTop (mkF m 0 #[.val (.ref a1), .val (.int (0 : Int32)), .val (.int (1 : Int32)), .unset, .unset, .unset] []))) (fun _ k => castTop (ef_cb1 m a1) k) ?_
  refine own_iloadN X0 hx hby d9_0 rfl ?_
  obtain ⟨T98, h98, k98, X98, e98, E98, A98, st98⟩ := newP X0 hx hZ (own_w hw 22 rfl) e0 (g := (mkF m 1 #[.val (.ref a1), .val (.int (0 : Int32)), .val (.int (1 : Int32)), .unset, .unset, .unset] [(.int (1 : Int32))])) rfl (hb hby d9_1) rfl (by decide) (cap := 1) (by decide) (by decide) (by decide) (by decide)
  obtain ⟨b98, gz98⟩ : ∃ z, z = h0.size := ⟨_, rfl⟩
  rw [← gz98] at A98 st98
  have g_b98 : n0 ≤ b98 := Nat.le_trans Z0 (Nat.le_of_eq gz98.symm)
  have sz_b98 : h0.size ≤ b98 := Nat.le_trans KK.1 (Nat.le_of_eq gz98.symm)
  have ne_a1_b98 : a1 ≠ b98 := Nat.ne_of_lt (Nat.lt_of_lt_of_le Vc.lt (Nat.le_of_eq gz98.symm))
  replace Z0 := Nat.le_trans Z0 E98.1
  replace Vc := Vc.ext E98
  replace SA := SA.ext E98
  replace SHI := SHI.ext E98
  replace SLO := SLO.ext E98
  replace KK := KK.ext E98
  have V98 : Arv Z h98 b98 k98 .byte (1 : Int32) [(.int (0 : Int32))] (.int (0 : Int32)) := (Arv.new A98 (by decide)).pad (pad_rep [] (.int (0 : Int32)) 1)
  refine own_of (U' := (T98.setTop (mkF m 3 #[.val (.ref a1), .val (.int (0 : Int32)), .val (.int (1 : Int32)), .unset, .unset, .unset] [(.ref b98)]))) (st98) ?_
  refine own_astoreN X98 hx hby d9_3 rfl (l' := #[.val (.ref a1), .val (.int (0 : Int32)), .val (.int (1 : Int32)), .val (.ref b98), .unset, .unset]) rfl ?_
  refine own_aloadN X98 hx hby d9_4 rfl rfl ?_
  refine own_iloadN X98 hx hby d9_5 rfl ?_
  refine own_aloadN X98 hx hby d9_6 rfl rfl ?_
  refine own_iconst X98 hx hby 0 d9_7 rfl ?_
  refine own_iloadN X98 hx hby d9_8 rfl ?_
  obtain ⟨_, _, ⟨T99, L99, k99, n99⟩, -, X99, ⟨Lc99, hQ99, l99, y99, z99⟩, st99⟩ := Jvm.LawKit.callS X98 hx (y := mN_16) hown (mvT hZ (own_w hw 53 rfl)) (mvT hZ (own_w hw 54 rfl)) (mvT hZ (own_w hw 51 rfl)) (mvT hZ (own_w hw 55 rfl)) (by decide) (backOf (W := 0) (rmclb1 l Z a0 hw [] a1 b98 kc k98 c0 h98 n0 Z0 Vc V98 g_b98 ne_a1_b98 hb0 big) hZ (own_w hw 55 rfl) (own_w hw 51 rfl) (by decide) (by decide)) (g := (mkF m 9 #[.val (.ref a1), .val (.int (0 : Int32)), .val (.int (1 : Int32)), .val (.ref b98), .unset, .unset] [(.int (1 : Int32)), (.int (0 : Int32)), (.ref b98), (.int (0 : Int32)), (.ref a1)])) rfl (by rw [hml]; rfl) (argsL := [(.ref a1), (.int (0 : Int32)), (.ref b98), (.int (0 : Int32)), (.int (1 : Int32))]) (rest := []) (lenOf pd_10 rfl) rfl (by show 2 * 0 + _ ≤ _; exact Nat.le_of_eq rfl) (hb hby d9_9) (fun _ _ => ⟨rfl, e98, (by decide : 1 + 0 ≤ _), (by decide : 1 + 0 ≤ _)⟩)
  dsimp only [Pt.U, Pt.locs, Pt.cells, Pt.slots] at X99 l99 y99 z99 st99 hQ99
  subst l99 y99 z99
  obtain ⟨r99, rfl, Nq99, Kp99, nr99, i1, i2, i3, i4, bg99⟩ := hQ99
  have N99 := Fr.app N0 Nq99
  have nst_b98 := V98.nostat
  replace Z0 := Nat.le_trans Z0 Kp99.1
  replace Vc := Vc.keep Kp99 (ninS ne_a1_b98 nin0)
  replace SA := own_staKeep SA Kp99 (nsS nst_b98 ns0)
  replace SHI := own_staKeep SHI Kp99 (nsS nst_b98 ns0)
  replace SLO := own_staKeep SLO Kp99 (nsS nst_b98 ns0)
  replace KK := KK.trans Kp99 (allS (Or.inr sz_b98) all0)
  refine own_of (U' := (T99.setTop (mkF m 12 #[.val (.ref a1), .val (.int (0 : Int32)), .val (.int (1 : Int32)), .val (.ref b98), .unset, .unset] [(.int r99)]))) (st99) ?_
  refine own_istore X99 hx hby d9_12 (l' := #[.val (.ref a1), .val (.int (0 : Int32)), .val (.int (1 : Int32)), .val (.ref b98), .val (.int r99), .unset]) rfl ?_
  refine own_iload X99 hx hby d9_14 rfl ?_
  refine own_iloadN X99 hx hby d9_16 rfl ?_
  have hc17_100 : ¬ (r99 = (1 : Int32)) := nr99
  refine own_icmpNo X99 hx hby d9_17 (feq hc17_100).1 ?_
  refine own_aloadN X99 hx hby d9_20 rfl rfl ?_
  refine own_iloadN X99 hx hby d9_21 rfl ?_
  refine own_iloadN X99 hx hby d9_22 rfl ?_
  obtain ⟨_, _, ⟨T101, L101, k101, n101⟩, -, X101, ⟨Lc101, hQ101, l101, y101, z101⟩, st101⟩ := Jvm.LawKit.callS X99 hx (y := mN_15) hown (mvT hZ (own_w hw 84 rfl)) (mvT hZ (own_w hw 85 rfl)) (mvT hZ (own_w hw 51 rfl)) (mvT hZ (own_w hw 86 rfl)) (by decide) (backOf (W := 0) (rmtb1 l Z a0 hw [] a1 kc c0 T99.heap n0 Z0 Vc SA SHI SLO) hZ (own_w hw 86 rfl) (own_w hw 51 rfl) (by decide) (by decide)) (g := (mkF m 23 #[.val (.ref a1), .val (.int (0 : Int32)), .val (.int (1 : Int32)), .val (.ref b98), .val (.int r99), .unset] [(.int (1 : Int32)), (.int (0 : Int32)), (.ref a1)])) rfl (by rw [hml]; rfl) (argsL := [(.ref a1), (.int (0 : Int32)), (.int (1 : Int32))]) (rest := []) (lenOf pd_11 rfl) rfl (by show 2 * 0 + _ ≤ _; exact Nat.le_of_eq rfl) (hb hby d9_23) (fun _ _ => ⟨rfl, rfl, (by decide : 1 + 1 ≤ _), (by decide : 1 + 2 ≤ _)⟩)
  dsimp only [Pt.U, Pt.locs, Pt.cells, Pt.slots] at X101 l101 y101 z101 st101 hQ101
  subst l101 y101 z101
  obtain ⟨u101, ku101, rfl, Nq101, Kp101, gq101, Vq101⟩ := hQ101
  have g_u101 : n0 ≤ u101 := Nat.le_trans Z0 gq101
  have sz_u101 : h0.size ≤ u101 := Nat.le_trans KK.1 gq101
  have ne_a1_u101 : a1 ≠ u101 := Nat.ne_of_lt (Nat.lt_of_lt_of_le Vc.lt gq101)
  have N101 := Fr.app N99 Nq101
  replace Z0 := Nat.le_trans Z0 Kp101.1
  replace Vc := Vc.keep Kp101 nin0
  replace SA := own_staKeep SA Kp101 ns0
  replace SHI := own_staKeep SHI Kp101 ns0
  replace SLO := own_staKeep SLO Kp101 ns0
  replace KK := KK.trans Kp101 all0
  refine own_of (U' := (T101.setTop (mkF m 26 #[.val (.ref a1), .val (.int (0 : Int32)), .val (.int (1 : Int32)), .val (.ref b98), .val (.int r99), .unset] [(.ref u101)]))) (st101) ?_
  refine own_astore X101 hx hby d9_26 rfl (l' := #[.val (.ref a1), .val (.int (0 : Int32)), .val (.int (1 : Int32)), .val (.ref b98), .val (.int r99), .val (.ref u101)]) rfl ?_
  refine own_aload X101 hx hby d9_28 rfl rfl ?_
  refine own_iload X101 hx hby d9_30 rfl ?_
  obtain ⟨_, _, ⟨T102, L102, k102, n102⟩, -, X102, ⟨Lc102, hQ102, l102, y102, z102⟩, st102⟩ := Jvm.LawKit.callS X101 hx (y := mN_4) hown (mvT hZ (own_w hw 100 rfl)) (mvT hZ (own_w hw 101 rfl)) (mvT hZ (own_w hw 51 rfl)) (mvT hZ (own_w hw 102 rfl)) (by decide) (backOf (W := 0) (rmug l Z a0 hw [] u101 r99 ku101 (2 : Int32) [(own_lo8 c0), (own_hi8 c0)] T101.heap n0 Z0 Vq101 i1 i2 i3 i4 SA SHI SLO) hZ (own_w hw 102 rfl) (own_w hw 51 rfl) (by decide) (by decide)) (g := (mkF m 32 #[.val (.ref a1), .val (.int (0 : Int32)), .val (.int (1 : Int32)), .val (.ref b98), .val (.int r99), .val (.ref u101)] [(.int r99), (.ref u101)])) rfl (by rw [hml]; rfl) (argsL := [(.ref u101), (.int r99)]) (rest := []) (lenOf pd_4 rfl) rfl (by show 2 * 0 + _ ≤ _; exact Nat.le_of_eq rfl) (hb hby d9_32) (fun _ _ => ⟨rfl, rfl, (by decide : 2 + 0 ≤ _), (by decide : 3 + 0 ≤ _)⟩)
  dsimp only [Pt.U, Pt.locs, Pt.cells, Pt.slots] at X102 l102 y102 z102 st102 hQ102
  subst l102 y102 z102
  obtain ⟨rfl, Nq102, e102⟩ := hQ102
  have N102 := Fr.app N101 Nq102
  refine own_of (U' := (T102.setTop (mkF m 35 #[.val (.ref a1), .val (.int (0 : Int32)), .val (.int (1 : Int32)), .val (.ref b98), .val (.int r99), .val (.ref u101)] [(.int (own_chu [(own_lo8 c0), (own_hi8 c0)] r99))]))) (st102) ?_
  refine own_sipush X102 hx hby 255 d9_35 rfl ?_
  have hc38_103 : (255 : Int32) < (own_chu [(own_lo8 c0), (own_hi8 c0)] r99) := bg99
  refine own_icmpYes X102 hx hby 38 54 d9_38 (tlt hc38_103).2.2.1 (by decide) (by decide) ?_
  refine own_aload X102 hx hby d9_54 rfl rfl ?_
  exact own_retA X102 hx hlk Bd.returns rfl rfl (hb hby d9_56) (by decide) (by decide) (by rw [e102]; exact ⟨u101, ku101, rfl, N102, KK, sz_u101, Vq101⟩)
abbrev mN_18 : MethodName := ⟨"java/lang/StringUTF16", "coderFromArrayLen", "([BI)B"⟩
theorem d11_0 : decode jdk_52_method_15_code 0 = .ok (.iload_n 1, 1) := by decide +kernel
theorem d11_1 : decode jdk_52_method_15_code 1 = .ok (.aload_n 0, 1) := by decide +kernel
theorem d11_2 : decode jdk_52_method_15_code 2 = .ok (.arraylength, 1) := by decide +kernel
theorem d11_3 : decode jdk_52_method_15_code 3 = .ok (.isub, 1) := by decide +kernel
theorem d11_4 : decode jdk_52_method_15_code 4 = .ok (.bipush 31, 2) := by decide +kernel
theorem d11_6 : decode jdk_52_method_15_code 6 = .ok (.iushr, 1) := by decide +kernel
theorem d11_7 : decode jdk_52_method_15_code 7 = .ok (.i2b, 1) := by decide +kernel
theorem d11_8 : decode jdk_52_method_15_code 8 = .ok (.ireturn, 1) := by decide +kernel
theorem ef_cf1_1 (m : MethodId) (x0 : Addr) : entryFrame m #[(.ref x0), (.int (1 : Int32))] 2 = mkF m 0 #[.val (.ref x0), .val (.int (1 : Int32))] [] := by first | (simp [entryFrame, mkF, argsToLocals, Value.category]; done) | rfl
set_option maxRecDepth 65536 in
set_option maxHeartbeats 40000000 in
theorem rmcf1_1 (l : Launch) (Z : State) (a0 : Array Value) (hw : ∀ d ∈ tables_1, d.before a0 Z = true) (ws : List Jvm.Cond) (b : Addr) (kb : ClassId) (cs : List Int32) (h0 : Heap) (n0 : Nat) (Z0 : n0 ≤ h0.size) (Vb : Arv Z h0 b kb .byte (1 : Int32) (cs.map Value.int) (.int (0 : Int32))) :
    MetFree l mN_18 (head1 (Jvm.Cond.code mN_18 jdk_52_method_15_code 2 (some .byte) :: ws) ({ frames := 0, cells := 0, slots := 0, locals := 0 } : Room)) (fun a U => a = #[(.ref b), (.int (1 : Int32))] ∧ Z.Warmed39 U.vm ∧ U.heap = h0) (fun _ _ _ _ _ => True) (fun _ U o U' => ∃ v L, o = .returned v ∧ (Qv 0 h0 n0) v U'.heap L ∧ FrameEnd U o U' L ({ frames := 0, cells := 0, slots := 0, locals := 0 } : Room).cells ({ frames := 0, cells := 0, slots := 0, locals := 0 } : Room).slots) := by
  refine MetFree.of_bodySF (plainFor_of_name pn_2) hisR ?_
  intro p e s m args below meth c s₁ Bd hml0 hP hK
  obtain ⟨rfl, hZ, hh⟩ := hP
  have hx := Bd.exec
  have hby := Bd.bytes
  have hml : c.maxLocals = 2 := hml0
  have hown : s.vm.findClass "java/lang/StringUTF16" = some m.cls := findClass_of_methodNamed Bd.named
  have hnm := (name_of_methodNamed Bd.named Bd.method).1
  have hlk := Bd.notSynchronized
  have X0 : Stand p l e ({ frames := 0, cells := 0, slots := 0, locals := 0 } : Room) s m #[(.ref b), (.int (1 : Int32))] below meth c s₁ [] 0 0 := Stand.of_body Bd
  have e0 : s₁.heap = h0 := by rw [← hh, Bd.state]; rfl
  have N0 := Fr.nil n0
  show own_Ends p e below s FrameEnd (Qv 0 h0 n0) 0 0 (s₁.setTop (entryFrame m #[(.ref b), (.int (1 : Int32))] 2))
  refine own_of (U' := (s₁.setTop (mkF m 0 #[.val (.ref b), .val (.int (1 : Int32))] []))) (fun _ k => castTop (ef_cf1_1 m b) k) ?_
  refine own_iloadN X0 hx hby d11_0 rfl ?_
  refine own_aloadN X0 hx hby d11_1 rfl rfl ?_
  obtain ⟨cl104, Ar104, qa104, Sa104, Na104, -, -⟩ := id Vb
  have al104 := X0.arraylength hx (by rw [e0]; exact Ar104.1) (State.isArrayOf_alike hZ.alike Ar104.2.1) (g := (mkF m 2 #[.val (.ref b), .val (.int (1 : Int32))] [(.ref b), (.int (1 : Int32))])) rfl rfl (hb hby d11_2)
  rw [len_of Sa104 Na104] at al104
  refine own_of (U' := (s₁.setTop (mkF m 3 #[.val (.ref b), .val (.int (1 : Int32))] [(.int (1 : Int32)), (.int (1 : Int32))]))) (al104) ?_
  refine own_isub X0 hx hby d11_3 ?_
  refine own_eq (U' := (s₁.setTop (mkF m 4 #[.val (.ref b), .val (.int (1 : Int32))] [(.int (0 : Int32))]))) (by rw [show ((1 : Int32) - (1 : Int32)) = (0 : Int32) by decide]) ?_
  refine own_bipush X0 hx hby 31 d11_4 rfl ?_
  refine own_iushr X0 hx hby d11_6 ?_
  refine own_eq (U' := (s₁.setTop (mkF m 7 #[.val (.ref b), .val (.int (1 : Int32))] [(.int (0 : Int32))]))) (by rw [show (XT.ushr (0 : Int32) (31 : Int32)) = (0 : Int32) by decide]) ?_
  refine own_i2b X0 hx hby d11_7 ?_
  refine own_eq (U' := (s₁.setTop (mkF m 8 #[.val (.ref b), .val (.int (1 : Int32))] [(.int (0 : Int32))]))) (by rw [show ((0 : Int32).toInt8.toInt32) = (0 : Int32) by decide]) ?_
  exact own_retN X0 hx hlk (t := .byte) Bd.returns (by simp) (hb hby d11_8) (by decide) (by decide) (⟨rfl, N0, e0⟩)
theorem ef_cf1_2 (m : MethodId) (x0 : Addr) : entryFrame m #[(.ref x0), (.int (1 : Int32))] 2 = mkF m 0 #[.val (.ref x0), .val (.int (1 : Int32))] [] := by first | (simp [entryFrame, mkF, argsToLocals, Value.category]; done) | rfl
set_option maxRecDepth 65536 in
set_option maxHeartbeats 40000000 in
theorem rmcf1_2 (l : Launch) (Z : State) (a0 : Array Value) (hw : ∀ d ∈ tables_1, d.before a0 Z = true) (ws : List Jvm.Cond) (b : Addr) (kb : ClassId) (cs : List Int32) (h0 : Heap) (n0 : Nat) (Z0 : n0 ≤ h0.size) (Vb : Arv Z h0 b kb .byte (2 : Int32) (cs.map Value.int) (.int (0 : Int32))) :
    MetFree l mN_18 (head1 (Jvm.Cond.code mN_18 jdk_52_method_15_code 2 (some .byte) :: ws) ({ frames := 0, cells := 0, slots := 0, locals := 0 } : Room)) (fun a U => a = #[(.ref b), (.int (1 : Int32))] ∧ Z.Warmed39 U.vm ∧ U.heap = h0) (fun _ _ _ _ _ => True) (fun _ U o U' => ∃ v L, o = .returned v ∧ (Qv 1 h0 n0) v U'.heap L ∧ FrameEnd U o U' L ({ frames := 0, cells := 0, slots := 0, locals := 0 } : Room).cells ({ frames := 0, cells := 0, slots := 0, locals := 0 } : Room).slots) := by
  refine MetFree.of_bodySF (plainFor_of_name pn_2) hisR ?_
  intro p e s m args below meth c s₁ Bd hml0 hP hK
  obtain ⟨rfl, hZ, hh⟩ := hP
  have hx := Bd.exec
  have hby := Bd.bytes
  have hml : c.maxLocals = 2 := hml0
  have hown : s.vm.findClass "java/lang/StringUTF16" = some m.cls := findClass_of_methodNamed Bd.named
  have hnm := (name_of_methodNamed Bd.named Bd.method).1
  have hlk := Bd.notSynchronized
  have X0 : Stand p l e ({ frames := 0, cells := 0, slots := 0, locals := 0 } : Room) s m #[(.ref b), (.int (1 : Int32))] below meth c s₁ [] 0 0 := Stand.of_body Bd
  have e0 : s₁.heap = h0 := by rw [← hh, Bd.state]; rfl
  have N0 := Fr.nil n0
  show own_Ends p e below s FrameEnd (Qv 1 h0 n0) 0 0 (s₁.setTop (entryFrame m #[(.ref b), (.int (1 : Int32))] 2))
  refine own_of (U' := (s₁.setTop (mkF m 0 #[.val (.ref b), .val (.int (1 : Int32))] []))) (fun _ k => castTop (ef_cf1_2 m b) k) ?_
  refine own_iloadN X0 hx hby d11_0 rfl ?_
  refine own_aloadN X0 hx hby d11_1 rfl rfl ?_
  obtain ⟨cl105, Ar105, qa105, Sa105, Na105, -, -⟩ := id Vb
  have al105 := X0.arraylength hx (by rw [e0]; exact Ar105.1) (State.isArrayOf_alike hZ.alike Ar105.2.1) (g := (mkF m 2 #[.val (.ref b), .val (.int (1 : Int32))] [(.ref b), (.int (1 : Int32))])) rfl rfl (hb hby d11_2)
  rw [len_of Sa105 Na105] at al105
  refine own_of (U' := (s₁.setTop (mkF m 3 #[.val (.ref b), .val (.int (1 : Int32))] [(.int (2 : Int32)), (.int (1 : Int32))]))) (al105) ?_
  refine own_isub X0 hx hby d11_3 ?_
  refine own_eq (U' := (s₁.setTop (mkF m 4 #[.val (.ref b), .val (.int (1 : Int32))] [(.int (-1 : Int32))]))) (by rw [show ((1 : Int32) - (2 : Int32)) = (-1 : Int32) by decide]) ?_
  refine own_bipush X0 hx hby 31 d11_4 rfl ?_
  refine own_iushr X0 hx hby d11_6 ?_
  refine own_eq (U' := (s₁.setTop (mkF m 7 #[.val (.ref b), .val (.int (1 : Int32))] [(.int (1 : Int32))]))) (by rw [show (XT.ushr (-1 : Int32) (31 : Int32)) = (1 : Int32) by decide]) ?_
  refine own_i2b X0 hx hby d11_7 ?_
  refine own_eq (U' := (s₁.setTop (mkF m 8 #[.val (.ref b), .val (.int (1 : Int32))] [(.int (1 : Int32))]))) (by rw [show ((1 : Int32).toInt8.toInt32) = (1 : Int32) by decide]) ?_
  exact own_retN X0 hx hlk (t := .byte) Bd.returns (by simp) (hb hby d11_8) (by decide) (by decide) (⟨rfl, N0, e0⟩)
abbrev mN_19 : MethodName := ⟨"java/lang/String", "<init>", "([CIILjava/lang/Void;)V"⟩
theorem pd_12 : parseMethodDescriptor "([BI)B" = some ⟨[(.array .byte), .int], some .byte⟩ := by decide +kernel
theorem d3_0 : decode jdk_42_method_149_code 0 = .ok (.aload_n 0, 1) := by decide +kernel
theorem d3_1 : decode jdk_42_method_149_code 1 = .ok (.invokespecial 1, 3) := by decide +kernel
theorem d3_4 : decode jdk_42_method_149_code 4 = .ok (.iload_n 3, 1) := by decide +kernel
theorem d3_5 : decode jdk_42_method_149_code 5 = .ok (.ifCond .ne 22, 3) := by decide +kernel
theorem d3_27 : decode jdk_42_method_149_code 27 = .ok (.getstatic 38, 3) := by decide +kernel
theorem d3_30 : decode jdk_42_method_149_code 30 = .ok (.ifCond .eq 28, 3) := by decide +kernel
theorem d3_33 : decode jdk_42_method_149_code 33 = .ok (.aload_n 1, 1) := by decide +kernel
theorem d3_34 : decode jdk_42_method_149_code 34 = .ok (.iload_n 2, 1) := by decide +kernel
theorem d3_35 : decode jdk_42_method_149_code 35 = .ok (.iload_n 3, 1) := by decide +kernel
theorem d3_36 : decode jdk_42_method_149_code 36 = .ok (.invokestatic 177, 3) := by decide +kernel
theorem d3_39 : decode jdk_42_method_149_code 39 = .ok (.astore 5, 2) := by decide +kernel
theorem d3_41 : decode jdk_42_method_149_code 41 = .ok (.aload_n 0, 1) := by decide +kernel
theorem d3_42 : decode jdk_42_method_149_code 42 = .ok (.aload 5, 2) := by decide +kernel
theorem d3_44 : decode jdk_42_method_149_code 44 = .ok (.iload_n 3, 1) := by decide +kernel
theorem d3_45 : decode jdk_42_method_149_code 45 = .ok (.invokestatic 47, 3) := by decide +kernel
theorem d3_48 : decode jdk_42_method_149_code 48 = .ok (.putfield 15, 3) := by decide +kernel
theorem d3_51 : decode jdk_42_method_149_code 51 = .ok (.aload_n 0, 1) := by decide +kernel
theorem d3_52 : decode jdk_42_method_149_code 52 = .ok (.aload 5, 2) := by decide +kernel
theorem d3_54 : decode jdk_42_method_149_code 54 = .ok (.putfield 9, 3) := by decide +kernel
theorem d3_57 : decode jdk_42_method_149_code 57 = .ok (.return_, 1) := by decide +kernel
theorem ef_sv1 (m : MethodId) (x0 : Addr) (x1 : Addr) : entryFrame m #[(.ref x0), (.ref x1), (.int (0 : Int32)), (.int (1 : Int32)), .null] 6 = mkF m 0 #[.val (.ref x0), .val (.ref x1), .val (.int (0 : Int32)), .val (.int (1 : Int32)), .val .null, .unset] [] := by first | (simp [entryFrame, mkF, argsToLocals, Value.category]; done) | rfl
def Qsv1 (Z : State) (a1 : Addr) (c0 : Int32) (h0 : Heap) (n0 : Nat) (v : Option Value) (h : Heap) (L : List Loc) : Prop := v = none ∧ Fr n0 L ∧ Keep h0 h [a1] ∧ own_Str Z h a1 (1 : Int32) (2 : Int32) [c0]
set_option maxRecDepth 65536 in
set_option maxHeartbeats 40000000 in
theorem rmsv1 (l : Launch) (Z : State) (a0 : Array Value) (hw : ∀ d ∈ tables_1, d.before a0 Z = true) (ws : List Jvm.Cond) (a1 a2 : Addr) (kc : ClassId) (c0 : Int32) (g1 : Int32) (h0 : Heap) (n0 : Nat) (Z0 : n0 ≤ h0.size) (E1 : Exa Z h0 a1 "java/lang/String") (Fc : Fld Z h0 a1 "java/lang/String" "coder" "B" (.int (0 : Int32))) (Fv : Fld Z h0 a1 "java/lang/String" "value" "[B" .null) (Vc : Arv Z h0 a2 kc .char (1 : Int32) [(.int c0)] (.int (0 : Int32))) (g_a1 : n0 ≤ a1) (hb0 : 0 ≤ c0.toInt ∧ c0.toInt < 65536) (SC : Sta Z h0 "java/lang/String" "COMPACT_STRINGS" "Z" (.int g1)) (hg1 : ¬ (g1 = (0 : Int32))) (SA : Sta Z h0 "java/lang/StringUTF16" "$assertionsDisabled" "Z" (.int (1 : Int32))) (SHI : Sta Z h0 "java/lang/StringUTF16" "HI_BYTE_SHIFT" "I" (.int (0 : Int32))) (SLO : Sta Z h0 "java/lang/StringUTF16" "LO_BYTE_SHIFT" "I" (.int (8 : Int32))) :
    MetFree l mN_19 (head1 (Jvm.Cond.code mN_19 jdk_42_method_149_code 6 none :: ws) ({ frames := 4, cells := 2, slots := 3, locals := 57 } : Room)) (fun a U => a = #[(.ref a1), (.ref a2), (.int (0 : Int32)), (.int (1 : Int32)), .null] ∧ Z.Warmed39 U.vm ∧ U.heap = h0) (fun _ _ _ _ _ => True) (fun _ U o U' => ∃ v L, o = .returned v ∧ (Qsv1 Z a1 c0 h0 n0) v U'.heap L ∧ FrameEnd U o U' L ({ frames := 4, cells := 2, slots := 3, locals := 57 } : Room).cells ({ frames := 4, cells := 2, slots := 3, locals := 57 } : Room).slots) := by
  refine MetFree.of_bodySF (plainFor_of_name pn_1) hisR ?_
  intro p e s m args below meth c s₁ Bd hml0 hP hK
  obtain ⟨rfl, hZ, hh⟩ := hP
  have hx := Bd.exec
  have hby := Bd.bytes
  have hml : c.maxLocals = 6 := hml0
  have hown : s.vm.findClass "java/lang/String" = some m.cls := findClass_of_methodNamed Bd.named
  have hnm := (name_of_methodNamed Bd.named Bd.method).1
  have hlk := Bd.notSynchronized
  have X0 : Stand p l e ({ frames := 4, cells := 2, slots := 3, locals := 57 } : Room) s m #[(.ref a1), (.ref a2), (.int (0 : Int32)), (.int (1 : Int32)), .null] below meth c s₁ [] 0 0 := Stand.of_body Bd
  have e0 : s₁.heap = h0 := by rw [← hh, Bd.state]; rfl
  have N0 := Fr.nil n0
  have KK := Keep.refl h0 [a1]
  show own_Ends p e below s FrameEnd (Qsv1 Z a1 c0 h0 n0) 2 3 (s₁.setTop (entryFrame m #[(.ref a1), (.ref a2), (.int (0 : Int32)), (.int (1 : Int32)), .null] 6))
  refine own_of (U' := (s₁.setTop (mkF m 0 #[.val (.ref a1), .val (.ref a2), .val (.int (0 : Int32)), .val (.int (1 : Int32)), .val .null, .unset] []))) (fun _ k => castTop (ef_sv1 m a1 a2) k) ?_
  refine own_aloadN X0 hx hby d3_0 rfl rfl ?_
  obtain ⟨T106, X106, e106, st106⟩ := initO X0 hx hZ hown (own_w hw 18 rfl) (own_w hw 19 rfl) (own_w hw 20 rfl) e0 (g := (mkF m 1 #[.val (.ref a1), .val (.ref a2), .val (.int (0 : Int32)), .val (.int (1 : Int32)), .val .null, .unset] [(.ref a1)])) rfl (by rw [hml]; rfl) rfl (hb hby d3_1) (by decide) (W := 0) (by show 2 * 0 + _ ≤ _; exact Nat.le_of_eq rfl) (by decide)
  refine own_of (U' := (T106.setTop (mkF m 4 #[.val (.ref a1), .val (.ref a2), .val (.int (0 : Int32)), .val (.int (1 : Int32)), .val .null, .unset] []))) (st106) ?_
  refine own_iloadN X106 hx hby d3_4 rfl ?_
  have hc5_107 : ¬ ((1 : Int32) = (0 : Int32)) := by decide
  refine own_ifYes X106 hx hby 5 27 d3_5 ((if0 _ _).trans (feq hc5_107).2) (by decide) (by decide) ?_
  obtain ⟨T108, X108, e108, st108⟩ := getS2 X106 hx hZ hown (host := "") (Or.inl (own_w hw 48 rfl)) Via.refl e106 SC (g := (mkF m 27 #[.val (.ref a1), .val (.ref a2), .val (.int (0 : Int32)), .val (.int (1 : Int32)), .val .null, .unset] [])) rfl (hb hby d3_27)
  refine own_of (U' := (T108.setTop (mkF m 30 #[.val (.ref a1), .val (.ref a2), .val (.int (0 : Int32)), .val (.int (1 : Int32)), .val .null, .unset] [(.int g1)]))) (st108) ?_
  have hc30_109 : ¬ (g1 = (0 : Int32)) := hg1
  refine own_ifNo X108 hx hby d3_30 ((if0 _ _).trans (feq hc30_109).1) ?_
  by_cases qB : ((255 : Int32) < c0)
  · skip
    refine own_aloadN X108 hx hby d3_33 rfl rfl ?_
    refine own_iloadN X108 hx hby d3_34 rfl ?_
    refine own_iloadN X108 hx hby d3_35 rfl ?_
    obtain ⟨_, _, ⟨T110, L110, k110, n110⟩, -, X110, ⟨Lc110, hQ110, l110, y110, z110⟩, st110⟩ := Jvm.LawKit.callS X108 hx (y := mN_17) hown (mvT hZ (own_w hw 49 rfl)) (mvT hZ (own_w hw 50 rfl)) (mvT hZ (own_w hw 51 rfl)) (mvT hZ (own_w hw 52 rfl)) (by decide) (backOf (W := 0) (rmcb1 l Z a0 hw [] a2 kc c0 h0 n0 Z0 Vc hb0 SA SHI SLO qB) hZ (own_w hw 52 rfl) (own_w hw 51 rfl) (by decide) (by decide)) (g := (mkF m 36 #[.val (.ref a1), .val (.ref a2), .val (.int (0 : Int32)), .val (.int (1 : Int32)), .val .null, .unset] [(.int (1 : Int32)), (.int (0 : Int32)), (.ref a2)])) rfl (by rw [hml]; rfl) (argsL := [(.ref a2), (.int (0 : Int32)), (.int (1 : Int32))]) (rest := []) (lenOf pd_11 rfl) rfl (by show 2 * 0 + _ ≤ _; exact Nat.le_of_eq rfl) (hb hby d3_36) (fun _ _ => ⟨rfl, e108, (by decide : 0 + 2 ≤ _), (by decide : 0 + 3 ≤ _)⟩)
    dsimp only [Pt.U, Pt.locs, Pt.cells, Pt.slots] at X110 l110 y110 z110 st110 hQ110
    subst l110 y110 z110
    obtain ⟨u110, ku110, rfl, Nq110, Kp110, gq110, Vq110⟩ := hQ110
    have g_u110 : n0 ≤ u110 := Nat.le_trans Z0 gq110
    have sz_u110 : h0.size ≤ u110 := Nat.le_trans KK.1 gq110
    have ne_a1_u110 : a1 ≠ u110 := Nat.ne_of_lt (Nat.lt_of_lt_of_le E1.lt gq110)
    have ne_a2_u110 : a2 ≠ u110 := Nat.ne_of_lt (Nat.lt_of_lt_of_le Vc.lt gq110)
    have N110 := Fr.app N0 Nq110
    replace Z0 := Nat.le_trans Z0 Kp110.1
    replace E1 := E1.keep Kp110
    replace Fc := Fc.keep Kp110 nin0
    replace Fv := Fv.keep Kp110 nin0
    replace Vc := Vc.keep Kp110 nin0
    replace SC := own_staKeep SC Kp110 ns0
    replace SA := own_staKeep SA Kp110 ns0
    replace SHI := own_staKeep SHI Kp110 ns0
    replace SLO := own_staKeep SLO Kp110 ns0
    replace KK := KK.trans Kp110 all0
    refine own_of (U' := (T110.setTop (mkF m 39 #[.val (.ref a1), .val (.ref a2), .val (.int (0 : Int32)), .val (.int (1 : Int32)), .val .null, .unset] [(.ref u110)]))) (st110) ?_
    refine own_astore X110 hx hby d3_39 rfl (l' := #[.val (.ref a1), .val (.ref a2), .val (.int (0 : Int32)), .val (.int (1 : Int32)), .val .null, .val (.ref u110)]) rfl ?_
    refine own_aloadN X110 hx hby d3_41 rfl rfl ?_
    refine own_aload X110 hx hby d3_42 rfl rfl ?_
    refine own_iloadN X110 hx hby d3_44 rfl ?_
    obtain ⟨_, _, ⟨T111, L111, k111, n111⟩, -, X111, ⟨Lc111, hQ111, l111, y111, z111⟩, st111⟩ := Jvm.LawKit.callS X110 hx (y := mN_18) hown (mvT hZ (own_w hw 56 rfl)) (mvT hZ (own_w hw 57 rfl)) (mvT hZ (own_w hw 51 rfl)) (mvT hZ (own_w hw 58 rfl)) (by decide) (backOf (W := 1) (rmcf1_2 l Z a0 hw [] u110 ku110 [(own_lo8 c0), (own_hi8 c0)] T110.heap n0 Z0 Vq110) hZ (own_w hw 58 rfl) (own_w hw 51 rfl) (by decide) (by decide)) (g := (mkF m 45 #[.val (.ref a1), .val (.ref a2), .val (.int (0 : Int32)), .val (.int (1 : Int32)), .val .null, .val (.ref u110)] [(.int (1 : Int32)), (.ref u110), (.ref a1)])) rfl (by rw [hml]; rfl) (argsL := [(.ref u110), (.int (1 : Int32))]) (rest := [(.ref a1)]) (lenOf pd_12 rfl) rfl (by show 2 * 0 + _ ≤ _; exact Nat.le_of_eq rfl) (hb hby d3_45) (fun _ _ => ⟨rfl, rfl, (by decide : 2 + 0 ≤ _), (by decide : 3 + 0 ≤ _)⟩)
    dsimp only [Pt.U, Pt.locs, Pt.cells, Pt.slots] at X111 l111 y111 z111 st111 hQ111
    subst l111 y111 z111
    obtain ⟨rfl, Nq111, e111⟩ := hQ111
    have N111 := Fr.app N110 Nq111
    refine own_of (U' := (T111.setTop (mkF m 48 #[.val (.ref a1), .val (.ref a2), .val (.int (0 : Int32)), .val (.int (1 : Int32)), .val .null, .val (.ref u110)] [(.int (1 : Int32)), (.ref a1)]))) (st111) ?_
    obtain ⟨T112, h112, X112, e112, W112, st112⟩ := putFN X111 hx hZ hown (own_w hw 28 rfl) Via.refl e111 Fc E1 (Or.inr ⟨(own_w hw 24 rfl), rfl, hnm⟩) (own_w hw 9 rfl) (ty := .byte) (v' := (.int (1 : Int32))) (by decide) rfl (by decide) (g := (mkF m 48 #[.val (.ref a1), .val (.ref a2), .val (.int (0 : Int32)), .val (.int (1 : Int32)), .val .null, .val (.ref u110)] [(.int (1 : Int32)), (.ref a1)])) rfl rfl (hb hby d3_48)
    replace Z0 := Nat.le_trans Z0 (Keep.of_wr W112).1
    replace E1 := E1.wr W112
    replace Fc := Fc.same W112
    replace Fv := Fv.other W112 (Or.inr (slot_ne (Or.inr (own_w hw 23 rfl)) (Or.inr (own_w hw 24 rfl)) (by decide) (t := (.array .byte)) (t' := .byte) (by decide) (by decide)))
    replace SC := SC.wr W112
    replace SA := SA.wr W112
    replace SHI := SHI.wr W112
    replace SLO := SLO.wr W112
    replace KK := KK.wr W112 (Or.inl (List.mem_of_getElem? (i := 0) rfl))
    replace Vq110 := Vq110.other W112 (Ne.symm ne_a1_u110)
    have N112 := Fr.snoc X112 N111 g_a1
    refine own_of (U' := (T112.setTop (mkF m 51 #[.val (.ref a1), .val (.ref a2), .val (.int (0 : Int32)), .val (.int (1 : Int32)), .val .null, .val (.ref u110)] []))) (st112) ?_
    refine own_aloadN X112 hx hby d3_51 rfl rfl ?_
    refine own_aload X112 hx hby d3_52 rfl rfl ?_
    obtain ⟨T113, h113, X113, e113, W113, st113⟩ := putF X112 hx hZ hown (host := "") (Or.inl (own_w hw 27 rfl)) Via.refl e112 Fv E1 (Or.inr ⟨(own_w hw 23 rfl), rfl, hnm⟩) (own_w hw 9 rfl) (ty := (.array .byte)) (by decide) rfl rfl (g := (mkF m 54 #[.val (.ref a1), .val (.ref a2), .val (.int (0 : Int32)), .val (.int (1 : Int32)), .val .null, .val (.ref u110)] [(.ref u110), (.ref a1)])) rfl rfl (hb hby d3_54)
    replace Z0 := Nat.le_trans Z0 (Keep.of_wr W113).1
    replace E1 := E1.wr W113
    replace Fc := Fc.other W113 (Or.inr (slot_ne (Or.inr (own_w hw 24 rfl)) (Or.inr (own_w hw 23 rfl)) (by decide) (t := .byte) (t' := (.array .byte)) (by decide) (by decide)))
    replace Fv := Fv.same W113
    replace SC := SC.wr W113
    replace SA := SA.wr W113
    replace SHI := SHI.wr W113
    replace SLO := SLO.wr W113
    replace KK := KK.wr W113 (Or.inl (List.mem_of_getElem? (i := 0) rfl))
    replace Vq110 := Vq110.other W113 (Ne.symm ne_a1_u110)
    have N113 := Fr.snoc X113 N112 g_a1
    refine own_of (U' := (T113.setTop (mkF m 57 #[.val (.ref a1), .val (.ref a2), .val (.int (0 : Int32)), .val (.int (1 : Int32)), .val .null, .val (.ref u110)] []))) (st113) ?_
    exact own_ret0 X113 hx hlk Bd.returns (hb hby d3_57) (by decide) (by decide) (by rw [e113]; exact ⟨rfl, N113, KK, ⟨E1, u110, ku110, Fv, Or.inr ⟨Fc, Vq110⟩⟩⟩)
  · skip
    have qB0 : ¬ ((255 : Int32) < c0) := fun z => qB z
    refine own_aloadN X108 hx hby d3_33 rfl rfl ?_
    refine own_iloadN X108 hx hby d3_34 rfl ?_
    refine own_iloadN X108 hx hby d3_35 rfl ?_
    obtain ⟨_, _, ⟨T114, L114, k114, n114⟩, -, X114, ⟨Lc114, hQ114, l114, y114, z114⟩, st114⟩ := Jvm.LawKit.callS X108 hx (y := mN_17) hown (mvT hZ (own_w hw 49 rfl)) (mvT hZ (own_w hw 50 rfl)) (mvT hZ (own_w hw 51 rfl)) (mvT hZ (own_w hw 52 rfl)) (by decide) (backOf (W := 0) (rmcl1 l Z a0 hw [] a2 kc c0 h0 n0 Z0 Vc hb0 SA SHI SLO qB0) hZ (own_w hw 52 rfl) (own_w hw 51 rfl) (by decide) (by decide)) (g := (mkF m 36 #[.val (.ref a1), .val (.ref a2), .val (.int (0 : Int32)), .val (.int (1 : Int32)), .val .null, .unset] [(.int (1 : Int32)), (.int (0 : Int32)), (.ref a2)])) rfl (by rw [hml]; rfl) (argsL := [(.ref a2), (.int (0 : Int32)), (.int (1 : Int32))]) (rest := []) (lenOf pd_11 rfl) rfl (by show 2 * 0 + _ ≤ _; exact Nat.le_of_eq rfl) (hb hby d3_36) (fun _ _ => ⟨rfl, e108, (by decide : 0 + 1 ≤ _), (by decide : 0 + 1 ≤ _)⟩)
    dsimp only [Pt.U, Pt.locs, Pt.cells, Pt.slots] at X114 l114 y114 z114 st114 hQ114
    subst l114 y114 z114
    obtain ⟨u114, ku114, rfl, Nq114, Kp114, gq114, Vq114⟩ := hQ114
    have g_u114 : n0 ≤ u114 := Nat.le_trans Z0 gq114
    have sz_u114 : h0.size ≤ u114 := Nat.le_trans KK.1 gq114
    have ne_a1_u114 : a1 ≠ u114 := Nat.ne_of_lt (Nat.lt_of_lt_of_le E1.lt gq114)
    have ne_a2_u114 : a2 ≠ u114 := Nat.ne_of_lt (Nat.lt_of_lt_of_le Vc.lt gq114)
    have N114 := Fr.app N0 Nq114
    replace Z0 := Nat.le_trans Z0 Kp114.1
    replace E1 := E1.keep Kp114
    replace Fc := Fc.keep Kp114 nin0
    replace Fv := Fv.keep Kp114 nin0
    replace Vc := Vc.keep Kp114 nin0
    replace SC := own_staKeep SC Kp114 ns0
    replace SA := own_staKeep SA Kp114 ns0
    replace SHI := own_staKeep SHI Kp114 ns0
    replace SLO := own_staKeep SLO Kp114 ns0
    replace KK := KK.trans Kp114 all0
    refine own_of (U' := (T114.setTop (mkF m 39 #[.val (.ref a1), .val (.ref a2), .val (.int (0 : Int32)), .val (.int (1 : Int32)), .val .null, .unset] [(.ref u114)]))) (st114) ?_
    refine own_astore X114 hx hby d3_39 rfl (l' := #[.val (.ref a1), .val (.ref a2), .val (.int (0 : Int32)), .val (.int (1 : Int32)), .val .null, .val (.ref u114)]) rfl ?_
    refine own_aloadN X114 hx hby d3_41 rfl rfl ?_
    refine own_aload X114 hx hby d3_42 rfl rfl ?_
    refine own_iloadN X114 hx hby d3_44 rfl ?_
    obtain ⟨_, _, ⟨T115, L115, k115, n115⟩, -, X115, ⟨Lc115, hQ115, l115, y115, z115⟩, st115⟩ := Jvm.LawKit.callS X114 hx (y := mN_18) hown (mvT hZ (own_w hw 56 rfl)) (mvT hZ (own_w hw 57 rfl)) (mvT hZ (own_w hw 51 rfl)) (mvT hZ (own_w hw 58 rfl)) (by decide) (backOf (W := 1) (rmcf1_1 l Z a0 hw [] u114 ku114 [(own_b8 c0)] T114.heap n0 Z0 Vq114) hZ (own_w hw 58 rfl) (own_w hw 51 rfl) (by decide) (by decide)) (g := (mkF m 45 #[.val (.ref a1), .val (.ref a2), .val (.int (0 : Int32)), .val (.int (1 : Int32)), .val .null, .val (.ref u114)] [(.int (1 : Int32)), (.ref u114), (.ref a1)])) rfl (by rw [hml]; rfl) (argsL := [(.ref u114), (.int (1 : Int32))]) (rest := [(.ref a1)]) (lenOf pd_12 rfl) rfl (by show 2 * 0 + _ ≤ _; exact Nat.le_of_eq rfl) (hb hby d3_45) (fun _ _ => ⟨rfl, rfl, (by decide : 1 + 0 ≤ _), (by decide : 1 + 0 ≤ _)⟩)
    dsimp only [Pt.U, Pt.locs, Pt.cells, Pt.slots] at X115 l115 y115 z115 st115 hQ115
    subst l115 y115 z115
    obtain ⟨rfl, Nq115, e115⟩ := hQ115
    have N115 := Fr.app N114 Nq115
    refine own_of (U' := (T115.setTop (mkF m 48 #[.val (.ref a1), .val (.ref a2), .val (.int (0 : Int32)), .val (.int (1 : Int32)), .val .null, .val (.ref u114)] [(.int (0 : Int32)), (.ref a1)]))) (st115) ?_
    obtain ⟨T116, h116, X116, e116, W116, st116⟩ := putFN X115 hx hZ hown (own_w hw 28 rfl) Via.refl e115 Fc E1 (Or.inr ⟨(own_w hw 24 rfl), rfl, hnm⟩) (own_w hw 9 rfl) (ty := .byte) (v' := (.int (0 : Int32))) (by decide) rfl (by decide) (g := (mkF m 48 #[.val (.ref a1), .val (.ref a2), .val (.int (0 : Int32)), .val (.int (1 : Int32)), .val .null, .val (.ref u114)] [(.int (0 : Int32)), (.ref a1)])) rfl rfl (hb hby d3_48)
    replace Z0 := Nat.le_trans Z0 (Keep.of_wr W116).1
    replace E1 := E1.wr W116
    replace Fc := Fc.same W116
    replace Fv := Fv.other W116 (Or.inr (slot_ne (Or.inr (own_w hw 23 rfl)) (Or.inr (own_w hw 24 rfl)) (by decide) (t := (.array .byte)) (t' := .byte) (by decide) (by decide)))
    replace SC := SC.wr W116
    replace SA := SA.wr W116
    replace SHI := SHI.wr W116
    replace SLO := SLO.wr W116
    replace KK := KK.wr W116 (Or.inl (List.mem_of_getElem? (i := 0) rfl))
    replace Vq114 := Vq114.other W116 (Ne.symm ne_a1_u114)
    have N116 := Fr.snoc X116 N115 g_a1
    refine own_of (U' := (T116.setTop (mkF m 51 #[.val (.ref a1), .val (.ref a2), .val (.int (0 : Int32)), .val (.int (1 : Int32)), .val .null, .val (.ref u114)] []))) (st116) ?_
    refine own_aloadN X116 hx hby d3_51 rfl rfl ?_
    refine own_aload X116 hx hby d3_52 rfl rfl ?_
    obtain ⟨T117, h117, X117, e117, W117, st117⟩ := putF X116 hx hZ hown (host := "") (Or.inl (own_w hw 27 rfl)) Via.refl e116 Fv E1 (Or.inr ⟨(own_w hw 23 rfl), rfl, hnm⟩) (own_w hw 9 rfl) (ty := (.array .byte)) (by decide) rfl rfl (g := (mkF m 54 #[.val (.ref a1), .val (.ref a2), .val (.int (0 : Int32)), .val (.int (1 : Int32)), .val .null, .val (.ref u114)] [(.ref u114), (.ref a1)])) rfl rfl (hb hby d3_54)
    replace Z0 := Nat.le_trans Z0 (Keep.of_wr W117).1
    replace E1 := E1.wr W117
    replace Fc := Fc.other W117 (Or.inr (slot_ne (Or.inr (own_w hw 24 rfl)) (Or.inr (own_w hw 23 rfl)) (by decide) (t := .byte) (t' := (.array .byte)) (by decide) (by decide)))
    replace Fv := Fv.same W117
    replace SC := SC.wr W117
    replace SA := SA.wr W117
    replace SHI := SHI.wr W117
    replace SLO := SLO.wr W117
    replace KK := KK.wr W117 (Or.inl (List.mem_of_getElem? (i := 0) rfl))
    replace Vq114 := Vq114.other W117 (Ne.symm ne_a1_u114)
    have N117 := Fr.snoc X117 N116 g_a1
    refine own_of (U' := (T117.setTop (mkF m 57 #[.val (.ref a1), .val (.ref a2), .val (.int (0 : Int32)), .val (.int (1 : Int32)), .val .null, .val (.ref u114)] []))) (st117) ?_
    exact own_ret0 X117 hx hlk Bd.returns (hb hby d3_57) (by decide) (by decide) (by rw [e117]; exact ⟨rfl, N117, KK, ⟨E1, u114, ku114, Fv, Or.inl ⟨Fc, Vq114, (List.forall_mem_cons.mpr ⟨qB0, (fun _ h => nomatch h)⟩)⟩⟩⟩)
abbrev mN_20 : MethodName := ⟨"java/lang/String", "<init>", "([C)V"⟩
theorem pd_13 : parseMethodDescriptor "([CIILjava/lang/Void;)V" = some ⟨[(.array .char), .int, .int, (.object "java/lang/Void")], none⟩ := by decide +kernel
theorem d2_0 : decode jdk_42_method_3_code 0 = .ok (.aload_n 0, 1) := by decide +kernel
theorem d2_1 : decode jdk_42_method_3_code 1 = .ok (.aload_n 1, 1) := by decide +kernel
theorem d2_2 : decode jdk_42_method_3_code 2 = .ok (.iconst 0, 1) := by decide +kernel
theorem d2_3 : decode jdk_42_method_3_code 3 = .ok (.aload_n 1, 1) := by decide +kernel
theorem d2_4 : decode jdk_42_method_3_code 4 = .ok (.arraylength, 1) := by decide +kernel
theorem d2_5 : decode jdk_42_method_3_code 5 = .ok (.aconst_null, 1) := by decide +kernel
theorem d2_6 : decode jdk_42_method_3_code 6 = .ok (.invokespecial 27, 3) := by decide +kernel
theorem d2_9 : decode jdk_42_method_3_code 9 = .ok (.return_, 1) := by decide +kernel
theorem ef_si1 (m : MethodId) (x0 : Addr) (x1 : Addr) : entryFrame m #[(.ref x0), (.ref x1)] 2 = mkF m 0 #[.val (.ref x0), .val (.ref x1)] [] := by first | (simp [entryFrame, mkF, argsToLocals, Value.category]; done) | rfl
set_option maxRecDepth 65536 in
set_option maxHeartbeats 40000000 in
theorem rmsi1 (l : Launch) (Z : State) (a0 : Array Value) (hw : ∀ d ∈ tables_1, d.before a0 Z = true) (ws : List Jvm.Cond) (a1 a2 : Addr) (kc : ClassId) (c0 : Int32) (g1 : Int32) (h0 : Heap) (n0 : Nat) (Z0 : n0 ≤ h0.size) (E1 : Exa Z h0 a1 "java/lang/String") (Fc : Fld Z h0 a1 "java/lang/String" "coder" "B" (.int (0 : Int32))) (Fv : Fld Z h0 a1 "java/lang/String" "value" "[B" .null) (Vc : Arv Z h0 a2 kc .char (1 : Int32) [(.int c0)] (.int (0 : Int32))) (g_a1 : n0 ≤ a1) (hb0 : 0 ≤ c0.toInt ∧ c0.toInt < 65536) (SC : Sta Z h0 "java/lang/String" "COMPACT_STRINGS" "Z" (.int g1)) (hg1 : ¬ (g1 = (0 : Int32))) (SA : Sta Z h0 "java/lang/StringUTF16" "$assertionsDisabled" "Z" (.int (1 : Int32))) (SHI : Sta Z h0 "java/lang/StringUTF16" "HI_BYTE_SHIFT" "I" (.int (0 : Int32))) (SLO : Sta Z h0 "java/lang/StringUTF16" "LO_BYTE_SHIFT" "I" (.int (8 : Int32))) :
    MetFree l mN_20 (head1 (Jvm.Cond.code mN_20 jdk_42_method_3_code 2 none :: ws) ({ frames := 5, cells := 2, slots := 3, locals := 74 } : Room)) (fun a U => a = #[(.ref a1), (.ref a2)] ∧ Z.Warmed39 U.vm ∧ U.heap = h0) (fun _ _ _ _ _ => True) (fun _ U o U' => ∃ v L, o = .returned v ∧ (Qsv1 Z a1 c0 h0 n0) v U'.heap L ∧ FrameEnd U o U' L ({ frames := 5, cells := 2, slots := 3, locals := 74 } : Room).cells ({ frames := 5, cells := 2, slots := 3, locals := 74 } : Room).slots) := by
  refine MetFree.of_bodySF (plainFor_of_name pn_1) hisR ?_
  intro p e s m args below meth c s₁ Bd hml0 hP hK
  obtain ⟨rfl, hZ, hh⟩ := hP
  have hx := Bd.exec
  have hby := Bd.bytes
  have hml : c.maxLocals = 2 := hml0
  have hown : s.vm.findClass "java/lang/String" = some m.cls := findClass_of_methodNamed Bd.named
  have hnm := (name_of_methodNamed Bd.named Bd.method).1
  have hlk := Bd.notSynchronized
  have X0 : Stand p l e ({ frames := 5, cells := 2, slots := 3, locals := 74 } : Room) s m #[(.ref a1), (.ref a2)] below meth c s₁ [] 0 0 := Stand.of_body Bd
  have e0 : s₁.heap = h0 := by rw [← hh, Bd.state]; rfl
  have N0 := Fr.nil n0
  have KK := Keep.refl h0 [a1]
  show own_Ends p e below s FrameEnd (Qsv1 Z a1 c0 h0 n0) 2 3 (s₁.setTop (entryFrame m #[(.ref a1), (.ref a2)] 2))
  refine own_of (U' := (s₁.setTop (mkF m 0 #[.val (.ref a1), .val (.ref a2)] []))) (fun _ k => castTop (ef_si1 m a1 a2) k) ?_
  refine own_aloadN X0 hx hby d2_0 rfl rfl ?_
  refine own_aloadN X0 hx hby d2_1 rfl rfl ?_
  refine own_iconst X0 hx hby 0 d2_2 rfl ?_
  refine own_aloadN X0 hx hby d2_3 rfl rfl ?_
  obtain ⟨cl118, Ar118, qa118, Sa118, Na118, -, -⟩ := id Vc
  have al118 := X0.arraylength hx (by rw [e0]; exact Ar118.1) (State.isArrayOf_alike hZ.alike Ar118.2.1) (g := (mkF m 4 #[.val (.ref a1), .val (.ref a2)] [(.ref a2), (.int (0 : Int32)), (.ref a2), (.ref a1)])) rfl rfl (hb hby d2_4)
  rw [len_of Sa118 Na118] at al118
  refine own_of (U' := (s₁.setTop (mkF m 5 #[.val (.ref a1), .val (.ref a2)] [(.int (1 : Int32)), (.int (0 : Int32)), (.ref a2), (.ref a1)]))) (al118) ?_
  refine own_aconstNull X0 hx hby d2_5 ?_
  obtain ⟨_, _, ⟨T119, L119, k119, n119⟩, -, X119, ⟨Lc119, hQ119, l119, y119, z119⟩, st119⟩ := X0.specialBack hx (y := mN_19) rfl hown (mvT hZ (own_w hw 14 rfl)) (mvT hZ (own_w hw 15 rfl)) (mvT hZ (own_w hw 17 rfl)) (by decide) (backOf (W := 0) (rmsv1 l Z a0 hw [] a1 a2 kc c0 g1 h0 n0 Z0 E1 Fc Fv Vc g_a1 hb0 SC hg1 SA SHI SLO) hZ (own_w hw 17 rfl) (own_w hw 10 rfl) (by decide) (by decide)) (g := (mkF m 6 #[.val (.ref a1), .val (.ref a2)] [.null, (.int (1 : Int32)), (.int (0 : Int32)), (.ref a2), (.ref a1)])) rfl (by rw [hml]; rfl) (Steps.refl _) (a := a1) (argsL := [(.ref a2), (.int (0 : Int32)), (.int (1 : Int32)), .null]) (rest := []) (lenOf pd_13 rfl) rfl (by show 2 * 0 + _ ≤ _; exact Nat.le_of_eq rfl) (hb hby d2_6) (fun _ _ => ⟨rfl, e0, (by decide : 0 + 2 ≤ _), (by decide : 0 + 3 ≤ _)⟩)
  dsimp only [Pt.U, Pt.locs, Pt.cells, Pt.slots] at X119 l119 y119 z119 st119 hQ119
  subst l119 y119 z119
  obtain ⟨rfl, Nq119, Kp119, Tq119⟩ := hQ119
  have N119 := Fr.app N0 Nq119
  have nst_a1 := E1.nostat
  replace Z0 := Nat.le_trans Z0 Kp119.1
  replace E1 := E1.keep Kp119
  replace SC := own_staKeep SC Kp119 (nsS nst_a1 ns0)
  replace SA := own_staKeep SA Kp119 (nsS nst_a1 ns0)
  replace SHI := own_staKeep SHI Kp119 (nsS nst_a1 ns0)
  replace SLO := own_staKeep SLO Kp119 (nsS nst_a1 ns0)
  replace KK := KK.trans Kp119 (allS (Or.inl (List.mem_of_getElem? (i := 0) rfl)) all0)
  refine own_of (U' := (T119.setTop (mkF m 9 #[.val (.ref a1), .val (.ref a2)] []))) (fun _ k => st119.trans k) ?_
  exact own_ret0 X119 hx hlk Bd.returns (hb hby d2_9) (by decide) (by decide) (⟨rfl, N119, KK, Tq119⟩)
theorem ef_nl2 (m : MethodId)  : entryFrame m #[(.int (2 : Int32))] 1 = mkF m 0 #[.val (.int (2 : Int32))] [] := by first | (simp [entryFrame, mkF, argsToLocals, Value.category]; done) | rfl
set_option maxRecDepth 65536 in
set_option maxHeartbeats 40000000 in
theorem rmnl2 (l : Launch) (Z : State) (a0 : Array Value) (hw : ∀ d ∈ tables_1, d.before a0 Z = true) (ws : List Jvm.Cond)  (h0 : Heap) (n0 : Nat) (Z0 : n0 ≤ h0.size)  :
    MetFree l mN_13 (head1 (Jvm.Cond.code mN_13 jdk_52_method_3_code 1 (some .int) :: ws) ({ frames := 0, cells := 0, slots := 0, locals := 0 } : Room)) (fun a U => a = #[(.int (2 : Int32))] ∧ Z.Warmed39 U.vm ∧ U.heap = h0) (fun _ _ _ _ _ => True) (fun _ U o U' => ∃ v L, o = .returned v ∧ (Qv 4 h0 n0) v U'.heap L ∧ FrameEnd U o U' L ({ frames := 0, cells := 0, slots := 0, locals := 0 } : Room).cells ({ frames := 0, cells := 0, slots := 0, locals := 0 } : Room).slots) := by
  refine MetFree.of_bodySF (plainFor_of_name pn_2) hisR ?_
  intro p e s m args below meth c s₁ Bd hml0 hP hK
  obtain ⟨rfl, hZ, hh⟩ := hP
  have hx := Bd.exec
  have hby := Bd.bytes
  have hml : c.maxLocals = 1 := hml0
  have hown : s.vm.findClass "java/lang/StringUTF16" = some m.cls := findClass_of_methodNamed Bd.named
  have hnm := (name_of_methodNamed Bd.named Bd.method).1
  have hlk := Bd.notSynchronized
  have X0 : Stand p l e ({ frames := 0, cells := 0, slots := 0, locals := 0 } : Room) s m #[(.int (2 : Int32))] below meth c s₁ [] 0 0 := Stand.of_body Bd
  have e0 : s₁.heap = h0 := by rw [← hh, Bd.state]; rfl
  have N0 := Fr.nil n0
  show own_Ends p e below s FrameEnd (Qv 4 h0 n0) 0 0 (s₁.setTop (entryFrame m #[(.int (2 : Int32))] 1))
  refine own_of (U' := (s₁.setTop (mkF m 0 #[.val (.int (2 : Int32))] []))) (fun _ k => castTop (ef_nl2 m) k) ?_
  refine own_iloadN X0 hx hby d20_0 rfl ?_
  have hc1_120 : ¬ ((2 : Int32) < (0 : Int32)) := by decide
  refine own_ifYes X0 hx hby 1 12 d20_1 ((if0 _ _).trans (flt hc1_120).2.1) (by decide) (by decide) ?_
  refine own_iloadN X0 hx hby d20_12 rfl ?_
  refine own_of (U' := (s₁.setTop (mkF m 15 #[.val (.int (2 : Int32))] [(.int (1073741823 : Int32)), (.int (2 : Int32))]))) (X0.ldcInt hx hown (mvT hZ (own_w hw 93 rfl)) (g := (mkF m 13 #[.val (.int (2 : Int32))] [(.int (2 : Int32))])) rfl (hb hby d20_13)) ?_
  have hc15_121 : (2 : Int32) < (1073741823 : Int32) := by decide
  refine own_icmpYes X0 hx hby 15 55 d20_15 (tlt hc15_121).1 (by decide) (by decide) ?_
  refine own_iloadN X0 hx hby d20_55 rfl ?_
  refine own_iconst X0 hx hby 1 d20_56 rfl ?_
  refine own_ishl X0 hx hby d20_57 ?_
  refine own_eq (U' := (s₁.setTop (mkF m 58 #[.val (.int (2 : Int32))] [(.int (4 : Int32))]))) (by rw [show ((2 : Int32) <<< ((1 : Int32) &&& 31)) = (4 : Int32) by decide]) ?_
  exact own_retI X0 hx hlk Bd.returns (hb hby d20_58) (by decide) (by decide) (⟨rfl, N0, e0⟩)
theorem ef_nb2 (m : MethodId)  : entryFrame m #[(.int (2 : Int32))] 1 = mkF m 0 #[.val (.int (2 : Int32))] [] := by first | (simp [entryFrame, mkF, argsToLocals, Value.category]; done) | rfl
def Qnb2 (Z : State) (h0 : Heap) (n0 : Nat) (v : Option Value) (h : Heap) (L : List Loc) : Prop := ∃ (b : Addr) (kb : ClassId), v = some (.ref b) ∧ Fr n0 L ∧ Keep h0 h [] ∧ h0.size ≤ b ∧ Arv Z h b kb .byte (4 : Int32) [(.int (0 : Int32)), (.int (0 : Int32)), (.int (0 : Int32)), (.int (0 : Int32))] (.int (0 : Int32))
set_option maxRecDepth 65536 in
set_option maxHeartbeats 40000000 in
theorem rmnb2 (l : Launch) (Z : State) (a0 : Array Value) (hw : ∀ d ∈ tables_1, d.before a0 Z = true) (ws : List Jvm.Cond)  (h0 : Heap) (n0 : Nat) (Z0 : n0 ≤ h0.size)  :
    MetFree l mN_14 (head1 (Jvm.Cond.code mN_14 jdk_52_method_2_code 1 (some (.array .byte)) :: ws) ({ frames := 1, cells := 1, slots := 4, locals := 12 } : Room)) (fun a U => a = #[(.int (2 : Int32))] ∧ Z.Warmed39 U.vm ∧ U.heap = h0) (fun _ _ _ _ _ => True) (fun _ U o U' => ∃ v L, o = .returned v ∧ (Qnb2 Z h0 n0) v U'.heap L ∧ FrameEnd U o U' L ({ frames := 1, cells := 1, slots := 4, locals := 12 } : Room).cells ({ frames := 1, cells := 1, slots := 4, locals := 12 } : Room).slots) := by
  refine MetFree.of_bodySF (plainFor_of_name pn_2) hisR ?_
  intro p e s m args below meth c s₁ Bd hml0 hP hK
  obtain ⟨rfl, hZ, hh⟩ := hP
  have hx := Bd.exec
  have hby := Bd.bytes
  have hml : c.maxLocals = 1 := hml0
  have hown : s.vm.findClass "java/lang/StringUTF16" = some m.cls := findClass_of_methodNamed Bd.named
  have hnm := (name_of_methodNamed Bd.named Bd.method).1
  have hlk := Bd.notSynchronized
  have X0 : Stand p l e ({ frames := 1, cells := 1, slots := 4, locals := 12 } : Room) s m #[(.int (2 : Int32))] below meth c s₁ [] 0 0 := Stand.of_body Bd
  have e0 : s₁.heap = h0 := by rw [← hh, Bd.state]; rfl
  have N0 := Fr.nil n0
  have KK := Keep.refl h0 []
  show own_Ends p e below s FrameEnd (Qnb2 Z h0 n0) 1 4 (s₁.setTop (entryFrame m #[(.int (2 : Int32))] 1))
  refine own_of (U' := (s₁.setTop (mkF m 0 #[.val (.int (2 : Int32))] []))) (fun _ k => castTop (ef_nb2 m) k) ?_
  refine own_iloadN X0 hx hby d19_0 rfl ?_
  obtain ⟨_, _, ⟨T122, L122, k122, n122⟩, -, X122, ⟨Lc122, hQ122, l122, y122, z122⟩, st122⟩ := Jvm.LawKit.callS X0 hx (y := mN_13) hown (mvT hZ (own_w hw 90 rfl)) (mvT hZ (own_w hw 91 rfl)) (mvT hZ (own_w hw 51 rfl)) (mvT hZ (own_w hw 92 rfl)) (by decide) (backOf (W := 0) (rmnl2 l Z a0 hw []  h0 n0 Z0 ) hZ (own_w hw 92 rfl) (own_w hw 51 rfl) (by decide) (by decide)) (g := (mkF m 1 #[.val (.int (2 : Int32))] [(.int (2 : Int32))])) rfl (by rw [hml]; rfl) (argsL := [(.int (2 : Int32))]) (rest := []) (lenOf pd_7 rfl) rfl (by show 2 * 0 + _ ≤ _; exact Nat.le_of_eq rfl) (hb hby d19_1) (fun _ _ => ⟨rfl, e0, (by decide : 0 + 0 ≤ _), (by decide : 0 + 0 ≤ _)⟩)
  dsimp only [Pt.U, Pt.locs, Pt.cells, Pt.slots] at X122 l122 y122 z122 st122 hQ122
  subst l122 y122 z122
  obtain ⟨rfl, Nq122, e122⟩ := hQ122
  have N122 := Fr.app N0 Nq122
  refine own_of (U' := (T122.setTop (mkF m 4 #[.val (.int (2 : Int32))] [(.int (4 : Int32))]))) (st122) ?_
  obtain ⟨T123, h123, k123, X123, e123, E123, A123, st123⟩ := newP X122 hx hZ (own_w hw 22 rfl) e122 (g := (mkF m 4 #[.val (.int (2 : Int32))] [(.int (4 : Int32))])) rfl (hb hby d19_4) rfl (by decide) (cap := 4) (by decide) (by decide) (by decide) (by decide)
  obtain ⟨b123, gz123⟩ : ∃ z, z = h0.size := ⟨_, rfl⟩
  rw [← gz123] at A123 st123
  have g_b123 : n0 ≤ b123 := Nat.le_trans Z0 (Nat.le_of_eq gz123.symm)
  have sz_b123 : h0.size ≤ b123 := Nat.le_trans KK.1 (Nat.le_of_eq gz123.symm)
  replace Z0 := Nat.le_trans Z0 E123.1
  replace KK := KK.ext E123
  have V123 : Arv Z h123 b123 k123 .byte (4 : Int32) [(.int (0 : Int32)), (.int (0 : Int32)), (.int (0 : Int32)), (.int (0 : Int32))] (.int (0 : Int32)) := (Arv.new A123 (by decide)).pad (pad_rep [] (.int (0 : Int32)) 4)
  refine own_of (U' := (T123.setTop (mkF m 6 #[.val (.int (2 : Int32))] [(.ref b123)]))) (st123) ?_
  exact own_retA X123 hx hlk Bd.returns rfl rfl (hb hby d19_6) (by decide) (by decide) (by rw [e123]; exact ⟨b123, k123, rfl, N122, KK, sz_b123, V123⟩)
theorem ef_tb2 (m : MethodId) (x0 : Addr) : entryFrame m #[(.ref x0), (.int (0 : Int32)), (.int (2 : Int32))] 5 = mkF m 0 #[.val (.ref x0), .val (.int (0 : Int32)), .val (.int (2 : Int32)), .unset, .unset] [] := by first | (simp [entryFrame, mkF, argsToLocals, Value.category]; done) | rfl
def Qtb2 (Z : State) (c0 c1 : Int32) (h0 : Heap) (n0 : Nat) (v : Option Value) (h : Heap) (L : List Loc) : Prop := ∃ (b : Addr) (kb : ClassId), v = some (.ref b) ∧ Fr n0 L ∧ Keep h0 h [] ∧ h0.size ≤ b ∧ Arv Z h b kb .byte (4 : Int32) [(.int (own_lo8 c0)), (.int (own_hi8 c0)), (.int (own_lo8 c1)), (.int (own_hi8 c1))] (.int (0 : Int32))
set_option maxRecDepth 65536 in
set_option maxHeartbeats 40000000 in
theorem rmtb2 (l : Launch) (Z : State) (a0 : Array Value) (hw : ∀ d ∈ tables_1, d.before a0 Z = true) (ws : List Jvm.Cond) (a1 : Addr) (kc : ClassId) (c0 c1 : Int32) (h0 : Heap) (n0 : Nat) (Z0 : n0 ≤ h0.size) (Vc : Arv Z h0 a1 kc .char (2 : Int32) [(.int c0), (.int c1)] (.int (0 : Int32))) (SA : Sta Z h0 "java/lang/StringUTF16" "$assertionsDisabled" "Z" (.int (1 : Int32))) (SHI : Sta Z h0 "java/lang/StringUTF16" "HI_BYTE_SHIFT" "I" (.int (0 : Int32))) (SLO : Sta Z h0 "java/lang/StringUTF16" "LO_BYTE_SHIFT" "I" (.int (8 : Int32))) :
    MetFree l mN_15 (head1 (Jvm.Cond.code mN_15 jdk_52_method_14_code 5 (some (.array .byte)) :: ws) ({ frames := 2, cells := 1, slots := 4, locals := 24 } : Room)) (fun a U => a = #[(.ref a1), (.int (0 : Int32)), (.int (2 : Int32))] ∧ Z.Warmed39 U.vm ∧ U.heap = h0) (fun _ _ _ _ _ => True) (fun _ U o U' => ∃ v L, o = .returned v ∧ (Qtb2 Z c0 c1 h0 n0) v U'.heap L ∧ FrameEnd U o U' L ({ frames := 2, cells := 1, slots := 4, locals := 24 } : Room).cells ({ frames := 2, cells := 1, slots := 4, locals := 24 } : Room).slots) := by
  refine MetFree.of_bodySF (plainFor_of_name pn_2) hisR ?_
  intro p e s m args below meth c s₁ Bd hml0 hP hK
  obtain ⟨rfl, hZ, hh⟩ := hP
  have hx := Bd.exec
  have hby := Bd.bytes
  have hml : c.maxLocals = 5 := hml0
  have hown : s.vm.findClass "java/lang/StringUTF16" = some m.cls := findClass_of_methodNamed Bd.named
  have hnm := (name_of_methodNamed Bd.named Bd.method).1
  have hlk := Bd.notSynchronized
  have X0 : Stand p l e ({ frames := 2, cells := 1, slots := 4, locals := 24 } : Room) s m #[(.ref a1), (.int (0 : Int32)), (.int (2 : Int32))] below meth c s₁ [] 0 0 := Stand.of_body Bd
  have e0 : s₁.heap = h0 := by rw [← hh, Bd.state]; rfl
  have N0 := Fr.nil n0
  have KK := Keep.refl h0 []
  show own_Ends p e below s FrameEnd (Qtb2 Z c0 c1 h0 n0) 1 4 (s₁.setTop (entryFrame m #[(.ref a1), (.int (0 : Int32)), (.int (2 : Int32))] 5))
  refine own_of (U' := (s₁.setTop (mkF m 0 #[.val (.ref a1), .val (.int (0 : Int32)), .val (.int (2 : Int32)), .unset, .unset] []))) (fun _ k => castTop (ef_tb2 m a1) k) ?_
  refine own_iloadN X0 hx hby d18_0 rfl ?_
  obtain ⟨_, _, ⟨T124, L124, k124, n124⟩, -, X124, ⟨Lc124, hQ124, l124, y124, z124⟩, st124⟩ := Jvm.LawKit.callS X0 hx (y := mN_14) hown (mvT hZ (own_w hw 87 rfl)) (mvT hZ (own_w hw 88 rfl)) (mvT hZ (own_w hw 51 rfl)) (mvT hZ (own_w hw 89 rfl)) (by decide) (backOf (W := 0) (rmnb2 l Z a0 hw []  h0 n0 Z0 ) hZ (own_w hw 89 rfl) (own_w hw 51 rfl) (by decide) (by decide)) (g := (mkF m 1 #[.val (.ref a1), .val (.int (0 : Int32)), .val (.int (2 : Int32)), .unset, .unset] [(.int (2 : Int32))])) rfl (by rw [hml]; rfl) (argsL := [(.int (2 : Int32))]) (rest := []) (lenOf pd_8 rfl) rfl (by show 2 * 0 + _ ≤ _; exact Nat.le_of_eq rfl) (hb hby d18_1) (fun _ _ => ⟨rfl, e0, (by decide : 0 + 1 ≤ _), (by decide : 0 + 4 ≤ _)⟩)
  dsimp only [Pt.U, Pt.locs, Pt.cells, Pt.slots] at X124 l124 y124 z124 st124 hQ124
  subst l124 y124 z124
  obtain ⟨u124, ku124, rfl, Nq124, Kp124, gq124, Vq124⟩ := hQ124
  have g_u124 : n0 ≤ u124 := Nat.le_trans Z0 gq124
  have sz_u124 : h0.size ≤ u124 := Nat.le_trans KK.1 gq124
  have ne_a1_u124 : a1 ≠ u124 := Nat.ne_of_lt (Nat.lt_of_lt_of_le Vc.lt gq124)
  have N124 := Fr.app N0 Nq124
  replace Z0 := Nat.le_trans Z0 Kp124.1
  replace Vc := Vc.keep Kp124 nin0
  replace SA := own_staKeep SA Kp124 ns0
  replace SHI := own_staKeep SHI Kp124 ns0
  replace SLO := own_staKeep SLO Kp124 ns0
  replace KK := KK.trans Kp124 all0
  refine own_of (U' := (T124.setTop (mkF m 4 #[.val (.ref a1), .val (.int (0 : Int32)), .val (.int (2 : Int32)), .unset, .unset] [(.ref u124)]))) (st124) ?_
  refine own_astoreN X124 hx hby d18_4 rfl (l' := #[.val (.ref a1), .val (.int (0 : Int32)), .val (.int (2 : Int32)), .val (.ref u124), .unset]) rfl ?_
  refine own_iconst X124 hx hby 0 d18_5 rfl ?_
  refine own_istore X124 hx hby d18_6 (l' := #[.val (.ref a1), .val (.int (0 : Int32)), .val (.int (2 : Int32)), .val (.ref u124), .val (.int (0 : Int32))]) rfl ?_
  refine own_iload X124 hx hby d18_8 rfl ?_
  refine own_iloadN X124 hx hby d18_10 rfl ?_
  have hc11_125 : (0 : Int32) < (2 : Int32) := by decide
  refine own_icmpNo X124 hx hby d18_11 (tlt hc11_125).2.1 ?_
  refine own_aloadN X124 hx hby d18_14 rfl rfl ?_
  refine own_iload X124 hx hby d18_15 rfl ?_
  refine own_aloadN X124 hx hby d18_17 rfl rfl ?_
  refine own_iloadN X124 hx hby d18_18 rfl ?_
  obtain ⟨cl126, Ar126, qa126, Sa126, Na126, Ha126, Ga126⟩ := id Vc
  have hin126 : ¬ ((0 : Int32) < 0 ∨ cl126.slots.size ≤ ((0 : Int32)).toNatClampNeg) := inb_of Sa126 ⟨by decide, by decide⟩
  have hat126 : cl126.slots[((0 : Int32)).toNatClampNeg]? = some (.int c0) := Has.at Ha126 hin126 rfl
  refine own_of (U' := (T124.setTop (mkF m 20 #[.val (.ref a1), .val (.int (0 : Int32)), .val (.int (2 : Int32)), .val (.ref u124), .val (.int (0 : Int32))] [(.int c0), (.int (0 : Int32)), (.ref u124)]))) (X124.caload hx (j := (0 : Int32)) (v := (.int c0)) Ar126.1 (State.isArrayOf_alike hZ.alike Ar126.2.1) Ar126.2.2 hin126 hat126 (g := (mkF m 19 #[.val (.ref a1), .val (.int (0 : Int32)), .val (.int (2 : Int32)), .val (.ref u124), .val (.int (0 : Int32))] [(.int (0 : Int32)), (.ref a1), (.int (0 : Int32)), (.ref u124)])) rfl rfl (hb hby d18_19)) ?_
  obtain ⟨_, _, ⟨T127, L127, k127, n127⟩, -, X127, ⟨Lc127, hQ127, l127, y127, z127⟩, st127⟩ := Jvm.LawKit.callS X124 hx (y := mN_12) hown (mvT hZ (own_w hw 94 rfl)) (mvT hZ (own_w hw 95 rfl)) (mvT hZ (own_w hw 51 rfl)) (mvT hZ (own_w hw 96 rfl)) (by decide) (backOf (W := 0) (rmpc l Z a0 hw [] u124 (0 : Int32) c0 ku124 (4 : Int32) [(0 : Int32), (0 : Int32), (0 : Int32), (0 : Int32)] 0 T124.heap n0 Z0 Vq124 (by decide) (by decide) (by decide) (by decide) (by decide) (by decide) (Nat.le_of_ble_eq_true rfl) (Nat.le_of_ble_eq_true rfl) SA SHI SLO g_u124) hZ (own_w hw 96 rfl) (own_w hw 51 rfl) (by decide) (by decide)) (g := (mkF m 20 #[.val (.ref a1), .val (.int (0 : Int32)), .val (.int (2 : Int32)), .val (.ref u124), .val (.int (0 : Int32))] [(.int c0), (.int (0 : Int32)), (.ref u124)])) rfl (by rw [hml]; rfl) (argsL := [(.ref u124), (.int (0 : Int32)), (.int c0)]) (rest := []) (lenOf pd_9 rfl) rfl (by show 2 * 0 + _ ≤ _; exact Nat.le_of_eq rfl) (hb hby d18_20) (fun _ _ => ⟨rfl, rfl, (by decide : 1 + 0 ≤ _), (by decide : 4 + 0 ≤ _)⟩)
  dsimp only [Pt.U, Pt.locs, Pt.cells, Pt.slots] at X127 l127 y127 z127 st127 hQ127
  subst l127 y127 z127
  obtain ⟨rfl, Nq127, Kp127, Vq127⟩ := hQ127
  have N127 := Fr.app N124 Nq127
  have nst_u124 := Vq124.nostat
  replace Z0 := Nat.le_trans Z0 Kp127.1
  replace Vc := Vc.keep Kp127 (ninS ne_a1_u124 nin0)
  replace SA := own_staKeep SA Kp127 (nsS nst_u124 ns0)
  replace SHI := own_staKeep SHI Kp127 (nsS nst_u124 ns0)
  replace SLO := own_staKeep SLO Kp127 (nsS nst_u124 ns0)
  replace KK := KK.trans Kp127 (allS (Or.inr sz_u124) all0)
  have V127 : Arv Z T127.heap u124 ku124 .byte (4 : Int32) [(.int (own_lo8 c0)), (.int (own_hi8 c0)), (.int (0 : Int32)), (.int (0 : Int32))] (.int (0 : Int32)) := Vq127
  refine own_of (U' := (T127.setTop (mkF m 23 #[.val (.ref a1), .val (.int (0 : Int32)), .val (.int (2 : Int32)), .val (.ref u124), .val (.int (0 : Int32))] []))) (st127) ?_
  refine own_iinc X127 hx hby d18_23 rfl (l' := #[.val (.ref a1), .val (.int ((0 : Int32) + (1 : Int32))), .val (.int (2 : Int32)), .val (.ref u124), .val (.int (0 : Int32))]) rfl ?_
  refine own_eq (U' := (T127.setTop (mkF m 26 #[.val (.ref a1), .val (.int (1 : Int32)), .val (.int (2 : Int32)), .val (.ref u124), .val (.int (0 : Int32))] []))) (by rw [show ((0 : Int32) + (1 : Int32)) = (1 : Int32) by decide]) ?_
  refine own_iinc X127 hx hby d18_26 rfl (l' := #[.val (.ref a1), .val (.int (1 : Int32)), .val (.int (2 : Int32)), .val (.ref u124), .val (.int ((0 : Int32) + (1 : Int32)))]) rfl ?_
  refine own_eq (U' := (T127.setTop (mkF m 29 #[.val (.ref a1), .val (.int (1 : Int32)), .val (.int (2 : Int32)), .val (.ref u124), .val (.int (1 : Int32))] []))) (by rw [show ((0 : Int32) + (1 : Int32)) = (1 : Int32) by decide]) ?_
  refine own_goto X127 hx hby 29 8 d18_29 (by decide) (by decide) ?_
  refine own_iload X127 hx hby d18_8 rfl ?_
  refine own_iloadN X127 hx hby d18_10 rfl ?_
  have hc11_128 : (1 : Int32) < (2 : Int32) := by decide
  refine own_icmpNo X127 hx hby d18_11 (tlt hc11_128).2.1 ?_
  refine own_aloadN X127 hx hby d18_14 rfl rfl ?_
  refine own_iload X127 hx hby d18_15 rfl ?_
  refine own_aloadN X127 hx hby d18_17 rfl rfl ?_
  refine own_iloadN X127 hx hby d18_18 rfl ?_
  obtain ⟨cl129, Ar129, qa129, Sa129, Na129, Ha129, Ga129⟩ := id Vc
  have hin129 : ¬ ((1 : Int32) < 0 ∨ cl129.slots.size ≤ ((1 : Int32)).toNatClampNeg) := inb_of Sa129 ⟨by decide, by decide⟩
  have hat129 : cl129.slots[((1 : Int32)).toNatClampNeg]? = some (.int c1) := Has.at Ha129 hin129 rfl
  refine own_of (U' := (T127.setTop (mkF m 20 #[.val (.ref a1), .val (.int (1 : Int32)), .val (.int (2 : Int32)), .val (.ref u124), .val (.int (1 : Int32))] [(.int c1), (.int (1 : Int32)), (.ref u124)]))) (X127.caload hx (j := (1 : Int32)) (v := (.int c1)) Ar129.1 (State.isArrayOf_alike hZ.alike Ar129.2.1) Ar129.2.2 hin129 hat129 (g := (mkF m 19 #[.val (.ref a1), .val (.int (1 : Int32)), .val (.int (2 : Int32)), .val (.ref u124), .val (.int (1 : Int32))] [(.int (1 : Int32)), (.ref a1), (.int (1 : Int32)), (.ref u124)])) rfl rfl (hb hby d18_19)) ?_
  obtain ⟨_, _, ⟨T130, L130, k130, n130⟩, -, X130, ⟨Lc130, hQ130, l130, y130, z130⟩, st130⟩ := Jvm.LawKit.callS X127 hx (y := mN_12) hown (mvT hZ (own_w hw 94 rfl)) (mvT hZ (own_w hw 95 rfl)) (mvT hZ (own_w hw 51 rfl)) (mvT hZ (own_w hw 96 rfl)) (by decide) (backOf (W := 0) (rmpc l Z a0 hw [] u124 (1 : Int32) c1 ku124 (4 : Int32) [(own_lo8 c0), (own_hi8 c0), (0 : Int32), (0 : Int32)] 2 T127.heap n0 Z0 V127 (by decide) (by decide) (by decide) (by decide) (by decide) (by decide) (Nat.le_of_ble_eq_true rfl) (Nat.le_of_ble_eq_true rfl) SA SHI SLO g_u124) hZ (own_w hw 96 rfl) (own_w hw 51 rfl) (by decide) (by decide)) (g := (mkF m 20 #[.val (.ref a1), .val (.int (1 : Int32)), .val (.int (2 : Int32)), .val (.ref u124), .val (.int (1 : Int32))] [(.int c1), (.int (1 : Int32)), (.ref u124)])) rfl (by rw [hml]; rfl) (argsL := [(.ref u124), (.int (1 : Int32)), (.int c1)]) (rest := []) (lenOf pd_9 rfl) rfl (by show 2 * 0 + _ ≤ _; exact Nat.le_of_eq rfl) (hb hby d18_20) (fun _ _ => ⟨rfl, rfl, (by decide : 1 + 0 ≤ _), (by decide : 4 + 0 ≤ _)⟩)
  dsimp only [Pt.U, Pt.locs, Pt.cells, Pt.slots] at X130 l130 y130 z130 st130 hQ130
  subst l130 y130 z130
  obtain ⟨rfl, Nq130, Kp130, Vq130⟩ := hQ130
  have N130 := Fr.app N127 Nq130
  have nst_u124 := V127.nostat
  replace Z0 := Nat.le_trans Z0 Kp130.1
  replace Vc := Vc.keep Kp130 (ninS ne_a1_u124 nin0)
  replace SA := own_staKeep SA Kp130 (nsS nst_u124 ns0)
  replace SHI := own_staKeep SHI Kp130 (nsS nst_u124 ns0)
  replace SLO := own_staKeep SLO Kp130 (nsS nst_u124 ns0)
  replace KK := KK.trans Kp130 (allS (Or.inr sz_u124) all0)
  have V130 : Arv Z T130.heap u124 ku124 .byte (4 : Int32) [(.int (own_lo8 c0)), (.int (own_hi8 c0)), (.int (own_lo8 c1)), (.int (own_hi8 c1))] (.int (0 : Int32)) := Vq130
  refine own_of (U' := (T130.setTop (mkF m 23 #[.val (.ref a1), .val (.int (1 : Int32)), .val (.int (2 : Int32)), .val (.ref u124), .val (.int (1 : Int32))] []))) (st130) ?_
  refine own_iinc X130 hx hby d18_23 rfl (l' := #[.val (.ref a1), .val (.int ((1 : Int32) + (1 : Int32))), .val (.int (2 : Int32)), .val (.ref u124), .val (.int (1 : Int32))]) rfl ?_
  refine own_eq (U' := (T130.setTop (mkF m 26 #[.val (.ref a1), .val (.int (2 : Int32)), .val (.int (2 : Int32)), .val (.ref u124), .val (.int (1 : Int32))] []))) (by rw [show ((1 : Int32) + (1 : Int32)) = (2 : Int32) by decide]) ?_
  refine own_iinc X130 hx hby d18_26 rfl (l' := #[.val (.ref a1), .val (.int (2 : Int32)), .val (.int (2 : Int32)), .val (.ref u124), .val (.int ((1 : Int32) + (1 : Int32)))]) rfl ?_
  refine own_eq (U' := (T130.setTop (mkF m 29 #[.val (.ref a1), .val (.int (2 : Int32)), .val (.int (2 : Int32)), .val (.ref u124), .val (.int (2 : Int32))] []))) (by rw [show ((1 : Int32) + (1 : Int32)) = (2 : Int32) by decide]) ?_
  refine own_goto X130 hx hby 29 8 d18_29 (by decide) (by decide) ?_
  refine own_iload X130 hx hby d18_8 rfl ?_
  refine own_iloadN X130 hx hby d18_10 rfl ?_
  have hc11_131 : ¬ ((2 : Int32) < (2 : Int32)) := by decide
  refine own_icmpYes X130 hx hby 11 32 d18_11 (flt hc11_131).2.1 (by decide) (by decide) ?_
  refine own_aloadN X130 hx hby d18_32 rfl rfl ?_
  exact own_retA X130 hx hlk Bd.returns rfl rfl (hb hby d18_33) (by decide) (by decide) (⟨u124, ku124, rfl, N130, KK, sz_u124, V130⟩)
theorem ef_cl2_0 (m : MethodId) (x0 : Addr) (x2 : Addr) : entryFrame m #[(.ref x0), (.int (0 : Int32)), (.ref x2), (.int (0 : Int32)), (.int (2 : Int32))] 7 = mkF m 0 #[.val (.ref x0), .val (.int (0 : Int32)), .val (.ref x2), .val (.int (0 : Int32)), .val (.int (2 : Int32)), .unset, .unset] [] := by first | (simp [entryFrame, mkF, argsToLocals, Value.category]; done) | rfl
def Qcl2_0 (Z : State) (a3 : Addr) (kd : ClassId) (c0 c1 : Int32) (h0 : Heap) (n0 : Nat) (v : Option Value) (h : Heap) (L : List Loc) : Prop := v = some (.int (0 : Int32)) ∧ Fr n0 L ∧ Keep h0 h [a3] ∧ Arv Z h a3 kd .byte (2 : Int32) [(.int (0 : Int32)), (.int (0 : Int32))] (.int (0 : Int32))
set_option maxRecDepth 65536 in
set_option maxHeartbeats 40000000 in
theorem rmcl2_0 (l : Launch) (Z : State) (a0 : Array Value) (hw : ∀ d ∈ tables_1, d.before a0 Z = true) (ws : List Jvm.Cond) (a1 a3 : Addr) (kc kd : ClassId) (c0 c1 : Int32) (h0 : Heap) (n0 : Nat) (Z0 : n0 ≤ h0.size) (Vc : Arv Z h0 a1 kc .char (2 : Int32) [(.int c0), (.int c1)] (.int (0 : Int32))) (Vd : Arv Z h0 a3 kd .byte (2 : Int32) [(.int (0 : Int32)), (.int (0 : Int32))] (.int (0 : Int32))) (g_a3 : n0 ≤ a3) (nea : a1 ≠ a3)  (hB : (255 : Int32) < c0) :
    MetFree l mN_16 (head1 (Jvm.Cond.code mN_16 jdk_52_method_21_code 7 (some .int) :: ws) ({ frames := 0, cells := 0, slots := 0, locals := 0 } : Room)) (fun a U => a = #[(.ref a1), (.int (0 : Int32)), (.ref a3), (.int (0 : Int32)), (.int (2 : Int32))] ∧ Z.Warmed39 U.vm ∧ U.heap = h0) (fun _ _ _ _ _ => True) (fun _ U o U' => ∃ v L, o = .returned v ∧ (Qcl2_0 Z a3 kd c0 c1 h0 n0) v U'.heap L ∧ FrameEnd U o U' L ({ frames := 0, cells := 0, slots := 0, locals := 0 } : Room).cells ({ frames := 0, cells := 0, slots := 0, locals := 0 } : Room).slots) := by
  refine MetFree.of_bodySF (plainFor_of_name pn_2) hisR ?_
  intro p e s m args below meth c s₁ Bd hml0 hP hK
  obtain ⟨rfl, hZ, hh⟩ := hP
  have hx := Bd.exec
  have hby := Bd.bytes
  have hml : c.maxLocals = 7 := hml0
  have hown : s.vm.findClass "java/lang/StringUTF16" = some m.cls := findClass_of_methodNamed Bd.named
  have hnm := (name_of_methodNamed Bd.named Bd.method).1
  have hlk := Bd.notSynchronized
  have X0 : Stand p l e ({ frames := 0, cells := 0, slots := 0, locals := 0 } : Room) s m #[(.ref a1), (.int (0 : Int32)), (.ref a3), (.int (0 : Int32)), (.int (2 : Int32))] below meth c s₁ [] 0 0 := Stand.of_body Bd
  have e0 : s₁.heap = h0 := by rw [← hh, Bd.state]; rfl
  have N0 := Fr.nil n0
  have KK := Keep.refl h0 [a3]
  show own_Ends p e below s FrameEnd (Qcl2_0 Z a3 kd c0 c1 h0 n0) 0 0 (s₁.setTop (entryFrame m #[(.ref a1), (.int (0 : Int32)), (.ref a3), (.int (0 : Int32)), (.int (2 : Int32))] 7))
  refine own_of (U' := (s₁.setTop (mkF m 0 #[.val (.ref a1), .val (.int (0 : Int32)), .val (.ref a3), .val (.int (0 : Int32)), .val (.int (2 : Int32)), .unset, .unset] []))) (fun _ k => castTop (ef_cl2_0 m a1 a3) k) ?_
  refine own_iconst X0 hx hby 0 d10_0 rfl ?_
  refine own_istore X0 hx hby d10_1 (l' := #[.val (.ref a1), .val (.int (0 : Int32)), .val (.ref a3), .val (.int (0 : Int32)), .val (.int (2 : Int32)), .val (.int (0 : Int32)), .unset]) rfl ?_
  refine own_iload X0 hx hby d10_3 rfl ?_
  refine own_iload X0 hx hby d10_5 rfl ?_
  have hc7_132 : (0 : Int32) < (2 : Int32) := by decide
  refine own_icmpNo X0 hx hby d10_7 (tlt hc7_132).2.1 ?_
  refine own_aloadN X0 hx hby d10_10 rfl rfl ?_
  refine own_iloadN X0 hx hby d10_11 rfl ?_
  obtain ⟨cl133, Ar133, qa133, Sa133, Na133, Ha133, Ga133⟩ := id Vc
  have hin133 : ¬ ((0 : Int32) < 0 ∨ cl133.slots.size ≤ ((0 : Int32)).toNatClampNeg) := inb_of Sa133 ⟨by decide, by decide⟩
  have hat133 : cl133.slots[((0 : Int32)).toNatClampNeg]? = some (.int c0) := Has.at Ha133 hin133 rfl
  refine own_of (U' := (s₁.setTop (mkF m 13 #[.val (.ref a1), .val (.int (0 : Int32)), .val (.ref a3), .val (.int (0 : Int32)), .val (.int (2 : Int32)), .val (.int (0 : Int32)), .unset] [(.int c0)]))) (X0.caload hx (j := (0 : Int32)) (v := (.int c0)) (by rw [e0]; exact Ar133.1) (State.isArrayOf_alike hZ.alike Ar133.2.1) Ar133.2.2 hin133 hat133 (g := (mkF m 12 #[.val (.ref a1), .val (.int (0 : Int32)), .val (.ref a3), .val (.int (0 : Int32)), .val (.int (2 : Int32)), .val (.int (0 : Int32)), .unset] [(.int (0 : Int32)), (.ref a1)])) rfl rfl (hb hby d10_12)) ?_
  refine own_istore X0 hx hby d10_13 (l' := #[.val (.ref a1), .val (.int (0 : Int32)), .val (.ref a3), .val (.int (0 : Int32)), .val (.int (2 : Int32)), .val (.int (0 : Int32)), .val (.int c0)]) rfl ?_
  refine own_iload X0 hx hby d10_15 rfl ?_
  refine own_sipush X0 hx hby 255 d10_17 rfl ?_
  have hc20_134 : (255 : Int32) < c0 := hB
  refine own_icmpNo X0 hx hby d10_20 (tlt hc20_134).2.2.2 ?_
  refine own_iload X0 hx hby d10_23 rfl ?_
  exact own_retI X0 hx hlk Bd.returns (hb hby d10_25) (by decide) (by decide) (by rw [e0]; exact ⟨rfl, N0, KK, Vd⟩)
theorem ef_cl2_1 (m : MethodId) (x0 : Addr) (x2 : Addr) : entryFrame m #[(.ref x0), (.int (0 : Int32)), (.ref x2), (.int (0 : Int32)), (.int (2 : Int32))] 7 = mkF m 0 #[.val (.ref x0), .val (.int (0 : Int32)), .val (.ref x2), .val (.int (0 : Int32)), .val (.int (2 : Int32)), .unset, .unset] [] := by first | (simp [entryFrame, mkF, argsToLocals, Value.category]; done) | rfl
def Qcl2_1 (Z : State) (a3 : Addr) (kd : ClassId) (c0 c1 : Int32) (h0 : Heap) (n0 : Nat) (v : Option Value) (h : Heap) (L : List Loc) : Prop := v = some (.int (1 : Int32)) ∧ Fr n0 L ∧ Keep h0 h [a3] ∧ Arv Z h a3 kd .byte (2 : Int32) [(.int (own_b8 c0)), (.int (0 : Int32))] (.int (0 : Int32))
set_option maxRecDepth 65536 in
set_option maxHeartbeats 40000000 in
theorem rmcl2_1 (l : Launch) (Z : State) (a0 : Array Value) (hw : ∀ d ∈ tables_1, d.before a0 Z = true) (ws : List Jvm.Cond) (a1 a3 : Addr) (kc kd : ClassId) (c0 c1 : Int32) (h0 : Heap) (n0 : Nat) (Z0 : n0 ≤ h0.size) (Vc : Arv Z h0 a1 kc .char (2 : Int32) [(.int c0), (.int c1)] (.int (0 : Int32))) (Vd : Arv Z h0 a3 kd .byte (2 : Int32) [(.int (0 : Int32)), (.int (0 : Int32))] (.int (0 : Int32))) (g_a3 : n0 ≤ a3) (nea : a1 ≠ a3) (hL0 : ¬ ((255 : Int32) < c0)) (hB : (255 : Int32) < c1) :
    MetFree l mN_16 (head1 (Jvm.Cond.code mN_16 jdk_52_method_21_code 7 (some .int) :: ws) ({ frames := 0, cells := 0, slots := 0, locals := 0 } : Room)) (fun a U => a = #[(.ref a1), (.int (0 : Int32)), (.ref a3), (.int (0 : Int32)), (.int (2 : Int32))] ∧ Z.Warmed39 U.vm ∧ U.heap = h0) (fun _ _ _ _ _ => True) (fun _ U o U' => ∃ v L, o = .returned v ∧ (Qcl2_1 Z a3 kd c0 c1 h0 n0) v U'.heap L ∧ FrameEnd U o U' L ({ frames := 0, cells := 0, slots := 0, locals := 0 } : Room).cells ({ frames := 0, cells := 0, slots := 0, locals := 0 } : Room).slots) := by
  refine MetFree.of_bodySF (plainFor_of_name pn_2) hisR ?_
  intro p e s m args below meth c s₁ Bd hml0 hP hK
  obtain ⟨rfl, hZ, hh⟩ := hP
  have hx := Bd.exec
  have hby := Bd.bytes
  have hml : c.maxLocals = 7 := hml0
  have hown : s.vm.findClass "java/lang/StringUTF16" = some m.cls := findClass_of_methodNamed Bd.named
  have hnm := (name_of_methodNamed Bd.named Bd.method).1
  have hlk := Bd.notSynchronized
  have X0 : Stand p l e ({ frames := 0, cells := 0, slots := 0, locals := 0 } : Room) s m #[(.ref a1), (.int (0 : Int32)), (.ref a3), (.int (0 : Int32)), (.int (2 : Int32))] below meth c s₁ [] 0 0 := Stand.of_body Bd
  have e0 : s₁.heap = h0 := by rw [← hh, Bd.state]; rfl
  have N0 := Fr.nil n0
  have KK := Keep.refl h0 [a3]
  show own_Ends p e below s FrameEnd (Qcl2_1 Z a3 kd c0 c1 h0 n0) 0 0 (s₁.setTop (entryFrame m #[(.ref a1), (.int (0 : Int32)), (.ref a3), (.int (0 : Int32)), (.int (2 : Int32))] 7))
  refine own_of (U' := (s₁.setTop (mkF m 0 #[.val (.ref a1), .val (.int (0 : Int32)), .val (.ref a3), .val (.int (0 : Int32)), .val (.int (2 : Int32)), .unset, .unset] []))) (fun _ k => castTop (ef_cl2_1 m a1 a3) k) ?_
  refine own_iconst X0 hx hby 0 d10_0 rfl ?_
  refine own_istore X0 hx hby d10_1 (l' := #[.val (.ref a1), .val (.int (0 : Int32)), .val (.ref a3), .val (.int (0 : Int32)), .val (.int (2 : Int32)), .val (.int (0 : Int32)), .unset]) rfl ?_
  refine own_iload X0 hx hby d10_3 rfl ?_
  refine own_iload X0 hx hby d10_5 rfl ?_
  have hc7_135 : (0 : Int32) < (2 : Int32) := by decide
  refine own_icmpNo X0 hx hby d10_7 (tlt hc7_135).2.1 ?_
  refine own_aloadN X0 hx hby d10_10 rfl rfl ?_
  refine own_iloadN X0 hx hby d10_11 rfl ?_
  obtain ⟨cl136, Ar136, qa136, Sa136, Na136, Ha136, Ga136⟩ := id Vc
  have hin136 : ¬ ((0 : Int32) < 0 ∨ cl136.slots.size ≤ ((0 : Int32)).toNatClampNeg) := inb_of Sa136 ⟨by decide, by decide⟩
  have hat136 : cl136.slots[((0 : Int32)).toNatClampNeg]? = some (.int c0) := Has.at Ha136 hin136 rfl
  refine own_of (U' := (s₁.setTop (mkF m 13 #[.val (.ref a1), .val (.int (0 : Int32)), .val (.ref a3), .val (.int (0 : Int32)), .val (.int (2 : Int32)), .val (.int (0 : Int32)), .unset] [(.int c0)]))) (X0.caload hx (j := (0 : Int32)) (v := (.int c0)) (by rw [e0]; exact Ar136.1) (State.isArrayOf_alike hZ.alike Ar136.2.1) Ar136.2.2 hin136 hat136 (g := (mkF m 12 #[.val (.ref a1), .val (.int (0 : Int32)), .val (.ref a3), .val (.int (0 : Int32)), .val (.int (2 : Int32)), .val (.int (0 : Int32)), .unset] [(.int (0 : Int32)), (.ref a1)])) rfl rfl (hb hby d10_12)) ?_
  refine own_istore X0 hx hby d10_13 (l' := #[.val (.ref a1), .val (.int (0 : Int32)), .val (.ref a3), .val (.int (0 : Int32)), .val (.int (2 : Int32)), .val (.int (0 : Int32)), .val (.int c0)]) rfl ?_
  refine own_iload X0 hx hby d10_15 rfl ?_
  refine own_sipush X0 hx hby 255 d10_17 rfl ?_
  have hc20_137 : ¬ ((255 : Int32) < c0) := hL0
  refine own_icmpYes X0 hx hby 20 26 d10_20 (flt hc20_137).2.2.2 (by decide) (by decide) ?_
  refine own_aloadN X0 hx hby d10_26 rfl rfl ?_
  refine own_iloadN X0 hx hby d10_27 rfl ?_
  refine own_iload X0 hx hby d10_28 rfl ?_
  refine own_i2b X0 hx hby d10_30 ?_
  obtain ⟨cl138, Ar138, qa138, Sa138, Na138, Ha138, Ga138⟩ := Vd
  have hin138 : ¬ ((0 : Int32) < 0 ∨ cl138.slots.size ≤ ((0 : Int32)).toNatClampNeg) := inb_of Sa138 ⟨by decide, by decide⟩
  obtain ⟨T138, h138, X138, e138, W138, st138⟩ := stB X0 hx hZ e0 Ar138 (j := (0 : Int32)) hin138 (g := (mkF m 31 #[.val (.ref a1), .val (.int (0 : Int32)), .val (.ref a3), .val (.int (0 : Int32)), .val (.int (2 : Int32)), .val (.int (0 : Int32)), .val (.int c0)] [(.int (c0.toInt8.toInt32)), (.int (0 : Int32)), (.ref a3)])) rfl rfl (hb hby d10_31)
  replace Vd : Arv Z h138 a3 kd .byte (2 : Int32) [(.int (nar .byte (c0.toInt8.toInt32))), (.int (0 : Int32))] (.int (0 : Int32)) := Arv.set Ar138 qa138 Sa138 Na138 Ha138 Ga138 (fits_nar_byte _) W138 0 rfl (Nat.le_of_ble_eq_true rfl)
  replace Z0 := Nat.le_trans Z0 (Keep.of_wr W138).1
  replace Vc := Vc.other W138 nea
  replace KK := KK.wr W138 (Or.inl (List.mem_of_getElem? (i := 0) rfl))
  have N138 := Fr.snoc X138 N0 g_a3
  refine own_of (U' := (T138.setTop (mkF m 32 #[.val (.ref a1), .val (.int (0 : Int32)), .val (.ref a3), .val (.int (0 : Int32)), .val (.int (2 : Int32)), .val (.int (0 : Int32)), .val (.int c0)] []))) (st138) ?_
  refine own_iinc X138 hx hby d10_32 rfl (l' := #[.val (.ref a1), .val (.int ((0 : Int32) + (1 : Int32))), .val (.ref a3), .val (.int (0 : Int32)), .val (.int (2 : Int32)), .val (.int (0 : Int32)), .val (.int c0)]) rfl ?_
  refine own_eq (U' := (T138.setTop (mkF m 35 #[.val (.ref a1), .val (.int (1 : Int32)), .val (.ref a3), .val (.int (0 : Int32)), .val (.int (2 : Int32)), .val (.int (0 : Int32)), .val (.int c0)] []))) (by rw [show ((0 : Int32) + (1 : Int32)) = (1 : Int32) by decide]) ?_
  refine own_iinc X138 hx hby d10_35 rfl (l' := #[.val (.ref a1), .val (.int (1 : Int32)), .val (.ref a3), .val (.int ((0 : Int32) + (1 : Int32))), .val (.int (2 : Int32)), .val (.int (0 : Int32)), .val (.int c0)]) rfl ?_
  refine own_eq (U' := (T138.setTop (mkF m 38 #[.val (.ref a1), .val (.int (1 : Int32)), .val (.ref a3), .val (.int (1 : Int32)), .val (.int (2 : Int32)), .val (.int (0 : Int32)), .val (.int c0)] []))) (by rw [show ((0 : Int32) + (1 : Int32)) = (1 : Int32) by decide]) ?_
  refine own_iinc X138 hx hby d10_38 rfl (l' := #[.val (.ref a1), .val (.int (1 : Int32)), .val (.ref a3), .val (.int (1 : Int32)), .val (.int (2 : Int32)), .val (.int ((0 : Int32) + (1 : Int32))), .val (.int c0)]) rfl ?_
  refine own_eq (U' := (T138.setTop (mkF m 41 #[.val (.ref a1), .val (.int (1 : Int32)), .val (.ref a3), .val (.int (1 : Int32)), .val (.int (2 : Int32)), .val (.int (1 : Int32)), .val (.int c0)] []))) (by rw [show ((0 : Int32) + (1 : Int32)) = (1 : Int32) by decide]) ?_
  refine own_goto X138 hx hby 41 3 d10_41 (by decide) (by decide) ?_
  refine own_iload X138 hx hby d10_3 rfl ?_
  refine own_iload X138 hx hby d10_5 rfl ?_
  have hc7_139 : (1 : Int32) < (2 : Int32) := by decide
  refine own_icmpNo X138 hx hby d10_7 (tlt hc7_139).2.1 ?_
  refine own_aloadN X138 hx hby d10_10 rfl rfl ?_
  refine own_iloadN X138 hx hby d10_11 rfl ?_
  obtain ⟨cl140, Ar140, qa140, Sa140, Na140, Ha140, Ga140⟩ := id Vc
  have hin140 : ¬ ((1 : Int32) < 0 ∨ cl140.slots.size ≤ ((1 : Int32)).toNatClampNeg) := inb_of Sa140 ⟨by decide, by decide⟩
  have hat140 : cl140.slots[((1 : Int32)).toNatClampNeg]? = some (.int c1) := Has.at Ha140 hin140 rfl
  refine own_of (U' := (T138.setTop (mkF m 13 #[.val (.ref a1), .val (.int (1 : Int32)), .val (.ref a3), .val (.int (1 : Int32)), .val (.int (2 : Int32)), .val (.int (1 : Int32)), .val (.int c0)] [(.int c1)]))) (X138.caload hx (j := (1 : Int32)) (v := (.int c1)) (by rw [e138]; exact Ar140.1) (State.isArrayOf_alike hZ.alike Ar140.2.1) Ar140.2.2 hin140 hat140 (g := (mkF m 12 #[.val (.ref a1), .val (.int (1 : Int32)), .val (.ref a3), .val (.int (1 : Int32)), .val (.int (2 : Int32)), .val (.int (1 : Int32)), .val (.int c0)] [(.int (1 : Int32)), (.ref a1)])) rfl rfl (hb hby d10_12)) ?_
  refine own_istore X138 hx hby d10_13 (l' := #[.val (.ref a1), .val (.int (1 : Int32)), .val (.ref a3), .val (.int (1 : Int32)), .val (.int (2 : Int32)), .val (.int (1 : Int32)), .val (.int c1)]) rfl ?_
  refine own_iload X138 hx hby d10_15 rfl ?_
  refine own_sipush X138 hx hby 255 d10_17 rfl ?_
  have hc20_141 : (255 : Int32) < c1 := hB
  refine own_icmpNo X138 hx hby d10_20 (tlt hc20_141).2.2.2 ?_
  refine own_iload X138 hx hby d10_23 rfl ?_
  exact own_retI X138 hx hlk Bd.returns (hb hby d10_25) (by decide) (by decide) (by rw [e138]; exact ⟨rfl, N138, KK, Vd⟩)
theorem ef_cl2_2 (m : MethodId) (x0 : Addr) (x2 : Addr) : entryFrame m #[(.ref x0), (.int (0 : Int32)), (.ref x2), (.int (0 : Int32)), (.int (2 : Int32))] 7 = mkF m 0 #[.val (.ref x0), .val (.int (0 : Int32)), .val (.ref x2), .val (.int (0 : Int32)), .val (.int (2 : Int32)), .unset, .unset] [] := by first | (simp [entryFrame, mkF, argsToLocals, Value.category]; done) | rfl
def Qcl2_2 (Z : State) (a3 : Addr) (kd : ClassId) (c0 c1 : Int32) (h0 : Heap) (n0 : Nat) (v : Option Value) (h : Heap) (L : List Loc) : Prop := v = some (.int (2 : Int32)) ∧ Fr n0 L ∧ Keep h0 h [a3] ∧ Arv Z h a3 kd .byte (2 : Int32) [(.int (own_b8 c0)), (.int (own_b8 c1))] (.int (0 : Int32))
set_option maxRecDepth 65536 in
set_option maxHeartbeats 40000000 in
theorem rmcl2_2 (l : Launch) (Z : State) (a0 : Array Value) (hw : ∀ d ∈ tables_1, d.before a0 Z = true) (ws : List Jvm.Cond) (a1 a3 : Addr) (kc kd : ClassId) (c0 c1 : Int32) (h0 : Heap) (n0 : Nat) (Z0 : n0 ≤ h0.size) (Vc : Arv Z h0 a1 kc .char (2 : Int32) [(.int c0), (.int c1)] (.int (0 : Int32))) (Vd : Arv Z h0 a3 kd .byte (2 : Int32) [(.int (0 : Int32)), (.int (0 : Int32))] (.int (0 : Int32))) (g_a3 : n0 ≤ a3) (nea : a1 ≠ a3) (hL0 : ¬ ((255 : Int32) < c0)) (hL1 : ¬ ((255 : Int32) < c1)) :
    MetFree l mN_16 (head1 (Jvm.Cond.code mN_16 jdk_52_method_21_code 7 (some .int) :: ws) ({ frames := 0, cells := 0, slots := 0, locals := 0 } : Room)) (fun a U => a = #[(.ref a1), (.int (0 : Int32)), (.ref a3), (.int (0 : Int32)), (.int (2 : Int32))] ∧ Z.Warmed39 U.vm ∧ U.heap = h0) (fun _ _ _ _ _ => True) (fun _ U o U' => ∃ v L, o = .returned v ∧ (Qcl2_2 Z a3 kd c0 c1 h0 n0) v U'.heap L ∧ FrameEnd U o U' L ({ frames := 0, cells := 0, slots := 0, locals := 0 } : Room).cells ({ frames := 0, cells := 0, slots := 0, locals := 0 } : Room).slots) := by
  refine MetFree.of_bodySF (plainFor_of_name pn_2) hisR ?_
  intro p e s m args below meth c s₁ Bd hml0 hP hK
  obtain ⟨rfl, hZ, hh⟩ := hP
  have hx := Bd.exec
  have hby := Bd.bytes
  have hml : c.maxLocals = 7 := hml0
  have hown : s.vm.findClass "java/lang/StringUTF16" = some m.cls := findClass_of_methodNamed Bd.named
  have hnm := (name_of_methodNamed Bd.named Bd.method).1
  have hlk := Bd.notSynchronized
  have X0 : Stand p l e ({ frames := 0, cells := 0, slots := 0, locals := 0 } : Room) s m #[(.ref a1), (.int (0 : Int32)), (.ref a3), (.int (0 : Int32)), (.int (2 : Int32))] below meth c s₁ [] 0 0 := Stand.of_body Bd
  have e0 : s₁.heap = h0 := by rw [← hh, Bd.state]; rfl
  have N0 := Fr.nil n0
  have KK := Keep.refl h0 [a3]
  show own_Ends p e below s FrameEnd (Qcl2_2 Z a3 kd c0 c1 h0 n0) 0 0 (s₁.setTop (entryFrame m #[(.ref a1), (.int (0 : Int32)), (.ref a3), (.int (0 : Int32)), (.int (2 : Int32))] 7))
  refine own_of (U' := (s₁.setTop (mkF m 0 #[.val (.ref a1), .val (.int (0 : Int32)), .val (.ref a3), .val (.int (0 : Int32)), .val (.int (2 : Int32)), .unset, .unset] []))) (fun _ k => castTop (ef_cl2_2 m a1 a3) k) ?_
  refine own_iconst X0 hx hby 0 d10_0 rfl ?_
  refine own_istore X0 hx hby d10_1 (l' := #[.val (.ref a1), .val (.int (0 : Int32)), .val (.ref a3), .val (.int (0 : Int32)), .val (.int (2 : Int32)), .val (.int (0 : Int32)), .unset]) rfl ?_
  refine own_iload X0 hx hby d10_3 rfl ?_
  refine own_iload X0 hx hby d10_5 rfl ?_
  have hc7_142 : (0 : Int32) < (2 : Int32) := by decide
  refine own_icmpNo X0 hx hby d10_7 (tlt hc7_142).2.1 ?_
  refine own_aloadN X0 hx hby d10_10 rfl rfl ?_
  refine own_iloadN X0 hx hby d10_11 rfl ?_
  obtain ⟨cl143, Ar143, qa143, Sa143, Na143, Ha143, Ga143⟩ := id Vc
  have hin143 : ¬ ((0 : Int32) < 0 ∨ cl143.slots.size ≤ ((0 : Int32)).toNatClampNeg) := inb_of Sa143 ⟨by decide, by decide⟩
  have hat143 : cl143.slots[((0 : Int32)).toNatClampNeg]? = some (.int c0) := Has.at Ha143 hin143 rfl
  refine own_of (U' := (s₁.setTop (mkF m 13 #[.val (.ref a1), .val (.int (0 : Int32)), .val (.ref a3), .val (.int (0 : Int32)), .val (.int (2 : Int32)), .val (.int (0 : Int32)), .unset] [(.int c0)]))) (X0.caload hx (j := (0 : Int32)) (v := (.int c0)) (by rw [e0]; exact Ar143.1) (State.isArrayOf_alike hZ.alike Ar143.2.1) Ar143.2.2 hin143 hat143 (g := (mkF m 12 #[.val (.ref a1), .val (.int (0 : Int32)), .val (.ref a3), .val (.int (0 : Int32)), .val (.int (2 : Int32)), .val (.int (0 : Int32)), .unset] [(.int (0 : Int32)), (.ref a1)])) rfl rfl (hb hby d10_12)) ?_
  refine own_istore X0 hx hby d10_13 (l' := #[.val (.ref a1), .val (.int (0 : Int32)), .val (.ref a3), .val (.int (0 : Int32)), .val (.int (2 : Int32)), .val (.int (0 : Int32)), .val (.int c0)]) rfl ?_
  refine own_iload X0 hx hby d10_15 rfl ?_
  refine own_sipush X0 hx hby 255 d10_17 rfl ?_
  have hc20_144 : ¬ ((255 : Int32) < c0) := hL0
  refine own_icmpYes X0 hx hby 20 26 d10_20 (flt hc20_144).2.2.2 (by decide) (by decide) ?_
  refine own_aloadN X0 hx hby d10_26 rfl rfl ?_
  refine own_iloadN X0 hx hby d10_27 rfl ?_
  refine own_iload X0 hx hby d10_28 rfl ?_
  refine own_i2b X0 hx hby d10_30 ?_
  obtain ⟨cl145, Ar145, qa145, Sa145, Na145, Ha145, Ga145⟩ := Vd
  have hin145 : ¬ ((0 : Int32) < 0 ∨ cl145.slots.size ≤ ((0 : Int32)).toNatClampNeg) := inb_of Sa145 ⟨by decide, by decide⟩
  obtain ⟨T145, h145, X145, e145, W145, st145⟩ := stB X0 hx hZ e0 Ar145 (j := (0 : Int32)) hin145 (g := (mkF m 31 #[.val (.ref a1), .val (.int (0 : Int32)), .val (.ref a3), .val (.int (0 : Int32)), .val (.int (2 : Int32)), .val (.int (0 : Int32)), .val (.int c0)] [(.int (c0.toInt8.toInt32)), (.int (0 : Int32)), (.ref a3)])) rfl rfl (hb hby d10_31)
  replace Vd : Arv Z h145 a3 kd .byte (2 : Int32) [(.int (nar .byte (c0.toInt8.toInt32))), (.int (0 : Int32))] (.int (0 : Int32)) := Arv.set Ar145 qa145 Sa145 Na145 Ha145 Ga145 (fits_nar_byte _) W145 0 rfl (Nat.le_of_ble_eq_true rfl)
  replace Z0 := Nat.le_trans Z0 (Keep.of_wr W145).1
  replace Vc := Vc.other W145 nea
  replace KK := KK.wr W145 (Or.inl (List.mem_of_getElem? (i := 0) rfl))
  have N145 := Fr.snoc X145 N0 g_a3
  refine own_of (U' := (T145.setTop (mkF m 32 #[.val (.ref a1), .val (.int (0 : Int32)), .val (.ref a3), .val (.int (0 : Int32)), .val (.int (2 : Int32)), .val (.int (0 : Int32)), .val (.int c0)] []))) (st145) ?_
  refine own_iinc X145 hx hby d10_32 rfl (l' := #[.val (.ref a1), .val (.int ((0 : Int32) + (1 : Int32))), .val (.ref a3), .val (.int (0 : Int32)), .val (.int (2 : Int32)), .val (.int (0 : Int32)), .val (.int c0)]) rfl ?_
  refine own_eq (U' := (T145.setTop (mkF m 35 #[.val (.ref a1), .val (.int (1 : Int32)), .val (.ref a3), .val (.int (0 : Int32)), .val (.int (2 : Int32)), .val (.int (0 : Int32)), .val (.int c0)] []))) (by rw [show ((0 : Int32) + (1 : Int32)) = (1 : Int32) by decide]) ?_
  refine own_iinc X145 hx hby d10_35 rfl (l' := #[.val (.ref a1), .val (.int (1 : Int32)), .val (.ref a3), .val (.int ((0 : Int32) + (1 : Int32))), .val (.int (2 : Int32)), .val (.int (0 : Int32)), .val (.int c0)]) rfl ?_
  refine own_eq (U' := (T145.setTop (mkF m 38 #[.val (.ref a1), .val (.int (1 : Int32)), .val (.ref a3), .val (.int (1 : Int32)), .val (.int (2 : Int32)), .val (.int (0 : Int32)), .val (.int c0)] []))) (by rw [show ((0 : Int32) + (1 : Int32)) = (1 : Int32) by decide]) ?_
  refine own_iinc X145 hx hby d10_38 rfl (l' := #[.val (.ref a1), .val (.int (1 : Int32)), .val (.ref a3), .val (.int (1 : Int32)), .val (.int (2 : Int32)), .val (.int ((0 : Int32) + (1 : Int32))), .val (.int c0)]) rfl ?_
  refine own_eq (U' := (T145.setTop (mkF m 41 #[.val (.ref a1), .val (.int (1 : Int32)), .val (.ref a3), .val (.int (1 : Int32)), .val (.int (2 : Int32)), .val (.int (1 : Int32)), .val (.int c0)] []))) (by rw [show ((0 : Int32) + (1 : Int32)) = (1 : Int32) by decide]) ?_
  refine own_goto X145 hx hby 41 3 d10_41 (by decide) (by decide) ?_
  refine own_iload X145 hx hby d10_3 rfl ?_
  refine own_iload X145 hx hby d10_5 rfl ?_
  have hc7_146 : (1 : Int32) < (2 : Int32) := by decide
  refine own_icmpNo X145 hx hby d10_7 (tlt hc7_146).2.1 ?_
  refine own_aloadN X145 hx hby d10_10 rfl rfl ?_
  refine own_iloadN X145 hx hby d10_11 rfl ?_
  obtain ⟨cl147, Ar147, qa147, Sa147, Na147, Ha147, Ga147⟩ := id Vc
  have hin147 : ¬ ((1 : Int32) < 0 ∨ cl147.slots.size ≤ ((1 : Int32)).toNatClampNeg) := inb_of Sa147 ⟨by decide, by decide⟩
  have hat147 : cl147.slots[((1 : Int32)).toNatClampNeg]? = some (.int c1) := Has.at Ha147 hin147 rfl
  refine own_of (U' := (T145.setTop (mkF m 13 #[.val (.ref a1), .val (.int (1 : Int32)), .val (.ref a3), .val (.int (1 : Int32)), .val (.int (2 : Int32)), .val (.int (1 : Int32)), .val (.int c0)] [(.int c1)]))) (X145.caload hx (j := (1 : Int32)) (v := (.int c1)) (by rw [e145]; exact Ar147.1) (State.isArrayOf_alike hZ.alike Ar147.2.1) Ar147.2.2 hin147 hat147 (g := (mkF m 12 #[.val (.ref a1), .val (.int (1 : Int32)), .val (.ref a3), .val (.int (1 : Int32)), .val (.int (2 : Int32)), .val (.int (1 : Int32)), .val (.int c0)] [(.int (1 : Int32)), (.ref a1)])) rfl rfl (hb hby d10_12)) ?_
  refine own_istore X145 hx hby d10_13 (l' := #[.val (.ref a1), .val (.int (1 : Int32)), .val (.ref a3), .val (.int (1 : Int32)), .val (.int (2 : Int32)), .val (.int (1 : Int32)), .val (.int c1)]) rfl ?_
  refine own_iload X145 hx hby d10_15 rfl ?_
  refine own_sipush X145 hx hby 255 d10_17 rfl ?_
  have hc20_148 : ¬ ((255 : Int32) < c1) := hL1
  refine own_icmpYes X145 hx hby 20 26 d10_20 (flt hc20_148).2.2.2 (by decide) (by decide) ?_
  refine own_aloadN X145 hx hby d10_26 rfl rfl ?_
  refine own_iloadN X145 hx hby d10_27 rfl ?_
  refine own_iload X145 hx hby d10_28 rfl ?_
  refine own_i2b X145 hx hby d10_30 ?_
  obtain ⟨cl149, Ar149, qa149, Sa149, Na149, Ha149, Ga149⟩ := Vd
  have hin149 : ¬ ((1 : Int32) < 0 ∨ cl149.slots.size ≤ ((1 : Int32)).toNatClampNeg) := inb_of Sa149 ⟨by decide, by decide⟩
  obtain ⟨T149, h149, X149, e149, W149, st149⟩ := stB X145 hx hZ e145 Ar149 (j := (1 : Int32)) hin149 (g := (mkF m 31 #[.val (.ref a1), .val (.int (1 : Int32)), .val (.ref a3), .val (.int (1 : Int32)), .val (.int (2 : Int32)), .val (.int (1 : Int32)), .val (.int c1)] [(.int (c1.toInt8.toInt32)), (.int (1 : Int32)), (.ref a3)])) rfl rfl (hb hby d10_31)
  replace Vd : Arv Z h149 a3 kd .byte (2 : Int32) [(.int (nar .byte (c0.toInt8.toInt32))), (.int (nar .byte (c1.toInt8.toInt32)))] (.int (0 : Int32)) := Arv.set Ar149 qa149 Sa149 Na149 Ha149 Ga149 (fits_nar_byte _) W149 1 rfl (Nat.le_of_ble_eq_true rfl)
  replace Z0 := Nat.le_trans Z0 (Keep.of_wr W149).1
  replace Vc := Vc.other W149 nea
  replace KK := KK.wr W149 (Or.inl (List.mem_of_getElem? (i := 0) rfl))
  have N149 := Fr.snoc X149 N145 g_a3
  refine own_of (U' := (T149.setTop (mkF m 32 #[.val (.ref a1), .val (.int (1 : Int32)), .val (.ref a3), .val (.int (1 : Int32)), .val (.int (2 : Int32)), .val (.int (1 : Int32)), .val (.int c1)] []))) (st149) ?_
  refine own_iinc X149 hx hby d10_32 rfl (l' := #[.val (.ref a1), .val (.int ((1 : Int32) + (1 : Int32))), .val (.ref a3), .val (.int (1 : Int32)), .val (.int (2 : Int32)), .val (.int (1 : Int32)), .val (.int c1)]) rfl ?_
  refine own_eq (U' := (T149.setTop (mkF m 35 #[.val (.ref a1), .val (.int (2 : Int32)), .val (.ref a3), .val (.int (1 : Int32)), .val (.int (2 : Int32)), .val (.int (1 : Int32)), .val (.int c1)] []))) (by rw [show ((1 : Int32) + (1 : Int32)) = (2 : Int32) by decide]) ?_
  refine own_iinc X149 hx hby d10_35 rfl (l' := #[.val (.ref a1), .val (.int (2 : Int32)), .val (.ref a3), .val (.int ((1 : Int32) + (1 : Int32))), .val (.int (2 : Int32)), .val (.int (1 : Int32)), .val (.int c1)]) rfl ?_
  refine own_eq (U' := (T149.setTop (mkF m 38 #[.val (.ref a1), .val (.int (2 : Int32)), .val (.ref a3), .val (.int (2 : Int32)), .val (.int (2 : Int32)), .val (.int (1 : Int32)), .val (.int c1)] []))) (by rw [show ((1 : Int32) + (1 : Int32)) = (2 : Int32) by decide]) ?_
  refine own_iinc X149 hx hby d10_38 rfl (l' := #[.val (.ref a1), .val (.int (2 : Int32)), .val (.ref a3), .val (.int (2 : Int32)), .val (.int (2 : Int32)), .val (.int ((1 : Int32) + (1 : Int32))), .val (.int c1)]) rfl ?_
  refine own_eq (U' := (T149.setTop (mkF m 41 #[.val (.ref a1), .val (.int (2 : Int32)), .val (.ref a3), .val (.int (2 : Int32)), .val (.int (2 : Int32)), .val (.int (2 : Int32)), .val (.int c1)] []))) (by rw [show ((1 : Int32) + (1 : Int32)) = (2 : Int32) by decide]) ?_
  refine own_goto X149 hx hby 41 3 d10_41 (by decide) (by decide) ?_
  refine own_iload X149 hx hby d10_3 rfl ?_
  refine own_iload X149 hx hby d10_5 rfl ?_
  have hc7_150 : ¬ ((2 : Int32) < (2 : Int32)) := by decide
  refine own_icmpYes X149 hx hby 7 44 d10_7 (flt hc7_150).2.1 (by decide) (by decide) ?_
  refine own_iload X149 hx hby d10_44 rfl ?_
  exact own_retI X149 hx hlk Bd.returns (hb hby d10_46) (by decide) (by decide) (by rw [e149]; exact ⟨rfl, N149, KK, Vd⟩)
def Qclb2 (a3 : Addr) (c0 c1 : Int32) (h0 : Heap) (n0 : Nat) (v : Option Value) (h : Heap) (L : List Loc) : Prop := ∃ r : Int32, v = some (.int r) ∧ Fr n0 L ∧ Keep h0 h [a3] ∧ ¬ (r = (2 : Int32)) ∧ (¬ ((r <<< ((1 : Int32) &&& 31)) < (0 : Int32))) ∧ ((r <<< ((1 : Int32) &&& 31)) < (4 : Int32)) ∧ (¬ (((r <<< ((1 : Int32) &&& 31)) + (1 : Int32)) < (0 : Int32))) ∧ (((r <<< ((1 : Int32) &&& 31)) + (1 : Int32)) < (4 : Int32)) ∧ (255 : Int32) < own_chu [(own_lo8 c0), (own_hi8 c0), (own_lo8 c1), (own_hi8 c1)] r
theorem rmclb2 (l : Launch) (Z : State) (a0 : Array Value) (hw : ∀ d ∈ tables_1, d.before a0 Z = true) (ws : List Jvm.Cond) (a1 a3 : Addr) (kc kd : ClassId) (c0 c1 : Int32) (h0 : Heap) (n0 : Nat) (Z0 : n0 ≤ h0.size) (Vc : Arv Z h0 a1 kc .char (2 : Int32) [(.int c0), (.int c1)] (.int (0 : Int32))) (Vd : Arv Z h0 a3 kd .byte (2 : Int32) [(.int (0 : Int32)), (.int (0 : Int32))] (.int (0 : Int32))) (g_a3 : n0 ≤ a3) (nea : a1 ≠ a3) (hb0 : 0 ≤ c0.toInt ∧ c0.toInt < 65536) (hb1 : 0 ≤ c1.toInt ∧ c1.toInt < 65536) (big : ((255 : Int32) < c0) ∨ ((255 : Int32) < c1)) :
    MetFree l mN_16 (head1 (Jvm.Cond.code mN_16 jdk_52_method_21_code 7 (some .int) :: ws) ({ frames := 0, cells := 0, slots := 0, locals := 0 } : Room)) (fun a U => a = #[(.ref a1), (.int (0 : Int32)), (.ref a3), (.int (0 : Int32)), (.int (2 : Int32))] ∧ Z.Warmed39 U.vm ∧ U.heap = h0) (fun _ _ _ _ _ => True) (fun _ U o U' => ∃ v L, o = .returned v ∧ (Qclb2 a3 c0 c1 h0 n0) v U'.heap L ∧ FrameEnd U o U' L ({ frames := 0, cells := 0, slots := 0, locals := 0 } : Room).cells ({ frames := 0, cells := 0, slots := 0, locals := 0 } : Room).slots) := by
  by_cases qB0 : (255 : Int32) < c0
  · exact own_mono (rmcl2_0 l Z a0 hw ws a1 a3 kc kd c0 c1 h0 n0 Z0 Vc Vd g_a3 nea  qB0) (fun _ _ _ _ ⟨v, L, h1, ⟨q1, q2, q3, _⟩, h3⟩ => ⟨v, L, h1, ⟨(0 : Int32), q1, q2, q3, by decide, by decide, by decide, by decide, by decide, by rw [show own_chu [(own_lo8 c0), (own_hi8 c0), (own_lo8 c1), (own_hi8 c1)] (0 : Int32) = c0 from own_gc_eq hb0]; exact qB0⟩, h3⟩)
  by_cases qB1 : (255 : Int32) < c1
  · exact own_mono (rmcl2_1 l Z a0 hw ws a1 a3 kc kd c0 c1 h0 n0 Z0 Vc Vd g_a3 nea qB0 qB1) (fun _ _ _ _ ⟨v, L, h1, ⟨q1, q2, q3, _⟩, h3⟩ => ⟨v, L, h1, ⟨(1 : Int32), q1, q2, q3, by decide, by decide, by decide, by decide, by decide, by rw [show own_chu [(own_lo8 c0), (own_hi8 c0), (own_lo8 c1), (own_hi8 c1)] (1 : Int32) = c1 from own_gc_eq hb1]; exact qB1⟩, h3⟩)
  exact absurd big (by simp [qB0, qB1])
theorem ef_cl2 (m : MethodId) (x0 : Addr) : entryFrame m #[(.ref x0), (.int (0 : Int32)), (.int (2 : Int32))] 6 = mkF m 0 #[.val (.ref x0), .val (.int (0 : Int32)), .val (.int (2 : Int32)), .unset, .unset, .unset] [] := by first | (simp [entryFrame, mkF, argsToLocals, Value.category]; done) | rfl
def Qcl2 (Z : State) (c0 c1 : Int32) (h0 : Heap) (n0 : Nat) (v : Option Value) (h : Heap) (L : List Loc) : Prop := ∃ (b : Addr) (kb : ClassId), v = some (.ref b) ∧ Fr n0 L ∧ Keep h0 h [] ∧ h0.size ≤ b ∧ Arv Z h b kb .byte (2 : Int32) [(.int (own_b8 c0)), (.int (own_b8 c1))] (.int (0 : Int32))
set_option maxRecDepth 65536 in
set_option maxHeartbeats 40000000 in
theorem rmcl2 (l : Launch) (Z : State) (a0 : Array Value) (hw : ∀ d ∈ tables_1, d.before a0 Z = true) (ws : List Jvm.Cond) (a1 : Addr) (kc : ClassId) (c0 c1 : Int32) (h0 : Heap) (n0 : Nat) (Z0 : n0 ≤ h0.size) (Vc : Arv Z h0 a1 kc .char (2 : Int32) [(.int c0), (.int c1)] (.int (0 : Int32))) (hb0 : 0 ≤ c0.toInt ∧ c0.toInt < 65536) (hb1 : 0 ≤ c1.toInt ∧ c1.toInt < 65536) (SA : Sta Z h0 "java/lang/StringUTF16" "$assertionsDisabled" "Z" (.int (1 : Int32))) (SHI : Sta Z h0 "java/lang/StringUTF16" "HI_BYTE_SHIFT" "I" (.int (0 : Int32))) (SLO : Sta Z h0 "java/lang/StringUTF16" "LO_BYTE_SHIFT" "I" (.int (8 : Int32))) (hL0 : ¬ ((255 : Int32) < c0)) (hL1 : ¬ ((255 : Int32) < c1)) :
    MetFree l mN_17 (head1 (Jvm.Cond.code mN_17 jdk_52_method_16_code 6 (some (.array .byte)) :: ws) ({ frames := 1, cells := 1, slots := 2, locals := 18 } : Room)) (fun a U => a = #[(.ref a1), (.int (0 : Int32)), (.int (2 : Int32))] ∧ Z.Warmed39 U.vm ∧ U.heap = h0) (fun _ _ _ _ _ => True) (fun _ U o U' => ∃ v L, o = .returned v ∧ (Qcl2 Z c0 c1 h0 n0) v U'.heap L ∧ FrameEnd U o U' L ({ frames := 1, cells := 1, slots := 2, locals := 18 } : Room).cells ({ frames := 1, cells := 1, slots := 2, locals := 18 } : Room).slots) := by
  refine MetFree.of_bodySF (plainFor_of_name pn_2) hisR ?_
  intro p e s m args below meth c s₁ Bd hml0 hP hK
  obtain ⟨rfl, hZ, hh⟩ := hP
  have hx := Bd.exec
  have hby := Bd.bytes
  have hml : c.maxLocals = 6 := hml0
  have hown : s.vm.findClass "java/lang/StringUTF16" = some m.cls := findClass_of_methodNamed Bd.named
  have hnm := (name_of_methodNamed Bd.named Bd.method).1
  have hlk := Bd.notSynchronized
  have X0 : Stand p l e ({ frames := 1, cells := 1, slots := 2, locals := 18 } : Room) s m #[(.ref a1), (.int (0 : Int32)), (.int (2 : Int32))] below meth c s₁ [] 0 0 := Stand.of_body Bd
  have e0 : s₁.heap = h0 := by rw [← hh, Bd.state]; rfl
  have N0 := Fr.nil n0
  have KK := Keep.refl h0 []
  show own_Ends p e below s FrameEnd (Qcl2 Z c0 c1 h0 n0) 1 2 (s₁.setTop (entryFrame m #[(.ref a1), (.int (0 : Int32)), (.int (2 : Int32))] 6))
  refine own_of (U' := (s₁.setTop (mkF m 0 #[.val (.ref a1), .val (.int (0 : Int32)), .val (.int (2 : Int32)), .unset, .unset, .unset] []))) (fun _ k => castTop (ef_cl2 m a1) k) ?_
  refine own_iloadN X0 hx hby d9_0 rfl ?_
  obtain ⟨T151, h151, k151, X151, e151, E151, A151, st151⟩ := newP X0 hx hZ (own_w hw 22 rfl) e0 (g := (mkF m 1 #[.val (.ref a1), .val (.int (0 : Int32)), .val (.int (2 : Int32)), .unset, .unset, .unset] [(.int (2 : Int32))])) rfl (hb hby d9_1) rfl (by decide) (cap := 2) (by decide) (by decide) (by decide) (by decide)
  obtain ⟨b151, gz151⟩ : ∃ z, z = h0.size := ⟨_, rfl⟩
  rw [← gz151] at A151 st151
  have g_b151 : n0 ≤ b151 := Nat.le_trans Z0 (Nat.le_of_eq gz151.symm)
  have sz_b151 : h0.size ≤ b151 := Nat.le_trans KK.1 (Nat.le_of_eq gz151.symm)
  have ne_a1_b151 : a1 ≠ b151 := Nat.ne_of_lt (Nat.lt_of_lt_of_le Vc.lt (Nat.le_of_eq gz151.symm))
  replace Z0 := Nat.le_trans Z0 E151.1
  replace Vc := Vc.ext E151
  replace SA := SA.ext E151
  replace SHI := SHI.ext E151
  replace SLO := SLO.ext E151
  replace KK := KK.ext E151
  have V151 : Arv Z h151 b151 k151 .byte (2 : Int32) [(.int (0 : Int32)), (.int (0 : Int32))] (.int (0 : Int32)) := (Arv.new A151 (by decide)).pad (pad_rep [] (.int (0 : Int32)) 2)
  refine own_of (U' := (T151.setTop (mkF m 3 #[.val (.ref a1), .val (.int (0 : Int32)), .val (.int (2 : Int32)), .unset, .unset, .unset] [(.ref b151)]))) (st151) ?_
  refine own_astoreN X151 hx hby d9_3 rfl (l' := #[.val (.ref a1), .val (.int (0 : Int32)), .val (.int (2 : Int32)), .val (.ref b151), .unset, .unset]) rfl ?_
  refine own_aloadN X151 hx hby d9_4 rfl rfl ?_
  refine own_iloadN X151 hx hby d9_5 rfl ?_
  refine own_aloadN X151 hx hby d9_6 rfl rfl ?_
  refine own_iconst X151 hx hby 0 d9_7 rfl ?_
  refine own_iloadN X151 hx hby d9_8 rfl ?_
  obtain ⟨_, _, ⟨T152, L152, k152, n152⟩, -, X152, ⟨Lc152, hQ152, l152, y152, z152⟩, st152⟩ := Jvm.LawKit.callS X151 hx (y := mN_16) hown (mvT hZ (own_w hw 53 rfl)) (mvT hZ (own_w hw 54 rfl)) (mvT hZ (own_w hw 51 rfl)) (mvT hZ (own_w hw 55 rfl)) (by decide) (backOf (W := 0) (rmcl2_2 l Z a0 hw [] a1 b151 kc k151 c0 c1 h151 n0 Z0 Vc V151 g_b151 ne_a1_b151 hL0 hL1) hZ (own_w hw 55 rfl) (own_w hw 51 rfl) (by decide) (by decide)) (g := (mkF m 9 #[.val (.ref a1), .val (.int (0 : Int32)), .val (.int (2 : Int32)), .val (.ref b151), .unset, .unset] [(.int (2 : Int32)), (.int (0 : Int32)), (.ref b151), (.int (0 : Int32)), (.ref a1)])) rfl (by rw [hml]; rfl) (argsL := [(.ref a1), (.int (0 : Int32)), (.ref b151), (.int (0 : Int32)), (.int (2 : Int32))]) (rest := []) (lenOf pd_10 rfl) rfl (by show 2 * 0 + _ ≤ _; exact Nat.le_of_eq rfl) (hb hby d9_9) (fun _ _ => ⟨rfl, e151, (by decide : 1 + 0 ≤ _), (by decide : 2 + 0 ≤ _)⟩)
  dsimp only [Pt.U, Pt.locs, Pt.cells, Pt.slots] at X152 l152 y152 z152 st152 hQ152
  subst l152 y152 z152
  obtain ⟨rfl, Nq152, Kp152, Vq152⟩ := hQ152
  have N152 := Fr.app N0 Nq152
  have nst_b151 := V151.nostat
  replace Z0 := Nat.le_trans Z0 Kp152.1
  replace Vc := Vc.keep Kp152 (ninS ne_a1_b151 nin0)
  replace SA := own_staKeep SA Kp152 (nsS nst_b151 ns0)
  replace SHI := own_staKeep SHI Kp152 (nsS nst_b151 ns0)
  replace SLO := own_staKeep SLO Kp152 (nsS nst_b151 ns0)
  replace KK := KK.trans Kp152 (allS (Or.inr sz_b151) all0)
  refine own_of (U' := (T152.setTop (mkF m 12 #[.val (.ref a1), .val (.int (0 : Int32)), .val (.int (2 : Int32)), .val (.ref b151), .unset, .unset] [(.int (2 : Int32))]))) (st152) ?_
  refine own_istore X152 hx hby d9_12 (l' := #[.val (.ref a1), .val (.int (0 : Int32)), .val (.int (2 : Int32)), .val (.ref b151), .val (.int (2 : Int32)), .unset]) rfl ?_
  refine own_iload X152 hx hby d9_14 rfl ?_
  refine own_iloadN X152 hx hby d9_16 rfl ?_
  have hc17_153 : (2 : Int32) = (2 : Int32) := by decide
  refine own_icmpYes X152 hx hby 17 57 d9_17 (teq hc17_153).1 (by decide) (by decide) ?_
  refine own_aloadN X152 hx hby d9_57 rfl rfl ?_
  exact own_retA X152 hx hlk Bd.returns rfl rfl (hb hby d9_58) (by decide) (by decide) (⟨b151, k151, rfl, N152, KK, sz_b151, Vq152⟩)
theorem ef_cb2 (m : MethodId) (x0 : Addr) : entryFrame m #[(.ref x0), (.int (0 : Int32)), (.int (2 : Int32))] 6 = mkF m 0 #[.val (.ref x0), .val (.int (0 : Int32)), .val (.int (2 : Int32)), .unset, .unset, .unset] [] := by first | (simp [entryFrame, mkF, argsToLocals, Value.category]; done) | rfl
def Qcb2 (Z : State) (c0 c1 : Int32) (h0 : Heap) (n0 : Nat) (v : Option Value) (h : Heap) (L : List Loc) : Prop := ∃ (b : Addr) (kb : ClassId), v = some (.ref b) ∧ Fr n0 L ∧ Keep h0 h [] ∧ h0.size ≤ b ∧ Arv Z h b kb .byte (4 : Int32) [(.int (own_lo8 c0)), (.int (own_hi8 c0)), (.int (own_lo8 c1)), (.int (own_hi8 c1))] (.int (0 : Int32))
set_option maxRecDepth 65536 in
set_option maxHeartbeats 40000000 in
theorem rmcb2 (l : Launch) (Z : State) (a0 : Array Value) (hw : ∀ d ∈ tables_1, d.before a0 Z = true) (ws : List Jvm.Cond) (a1 : Addr) (kc : ClassId) (c0 c1 : Int32) (h0 : Heap) (n0 : Nat) (Z0 : n0 ≤ h0.size) (Vc : Arv Z h0 a1 kc .char (2 : Int32) [(.int c0), (.int c1)] (.int (0 : Int32))) (hb0 : 0 ≤ c0.toInt ∧ c0.toInt < 65536) (hb1 : 0 ≤ c1.toInt ∧ c1.toInt < 65536) (SA : Sta Z h0 "java/lang/StringUTF16" "$assertionsDisabled" "Z" (.int (1 : Int32))) (SHI : Sta Z h0 "java/lang/StringUTF16" "HI_BYTE_SHIFT" "I" (.int (0 : Int32))) (SLO : Sta Z h0 "java/lang/StringUTF16" "LO_BYTE_SHIFT" "I" (.int (8 : Int32))) (big : ((255 : Int32) < c0) ∨ ((255 : Int32) < c1)) :
    MetFree l mN_17 (head1 (Jvm.Cond.code mN_17 jdk_52_method_16_code 6 (some (.array .byte)) :: ws) ({ frames := 3, cells := 2, slots := 6, locals := 40 } : Room)) (fun a U => a = #[(.ref a1), (.int (0 : Int32)), (.int (2 : Int32))] ∧ Z.Warmed39 U.vm ∧ U.heap = h0) (fun _ _ _ _ _ => True) (fun _ U o U' => ∃ v L, o = .returned v ∧ (Qcb2 Z c0 c1 h0 n0) v U'.heap L ∧ FrameEnd U o U' L ({ frames := 3, cells := 2, slots := 6, locals := 40 } : Room).cells ({ frames := 3, cells := 2, slots := 6, locals := 40 } : Room).slots) := by
  refine MetFree.of_bodySF (plainFor_of_name pn_2) hisR ?_
  intro p e s m args below meth c s₁ Bd hml0 hP hK
  obtain ⟨rfl, hZ, hh⟩ := hP
  have hx := Bd.exec
  have hby := Bd.bytes
  have hml : c.maxLocals = 6 := hml0
  have hown : s.vm.findClass "java/lang/StringUTF16" = some m.cls := findClass_of_methodNamed Bd.named
  have hnm := (name_of_methodNamed Bd.named Bd.method).1
  have hlk := Bd.notSynchronized
  have X0 : Stand p l e ({ frames := 3, cells := 2, slots := 6, locals := 40 } : Room) s m #[(.ref a1), (.int (0 : Int32)), (.int (2 : Int32))] below meth c s₁ [] 0 0 := Stand.of_body Bd
  have e0 : s₁.heap = h0 := by rw [← hh, Bd.state]; rfl
  have N0 := Fr.nil n0
  have KK := Keep.refl h0 []
  show own_Ends p e below s FrameEnd (Qcb2 Z c0 c1 h0 n0) 2 6 (s₁.setTop (entryFrame m #[(.ref a1), (.int (0 : Int32)), (.int (2 : Int32))] 6))
  refine own_of (U' := (s₁.setTop (mkF m 0 #[.val (.ref a1), .val (.int (0 : Int32)), .val (.int (2 : Int32)), .unset, .unset, .unset] []))) (fun _ k => castTop (ef_cb2 m a1) k) ?_
  refine own_iloadN X0 hx hby d9_0 rfl ?_
  obtain ⟨T154, h154, k154, X154, e154, E154, A154, st154⟩ := newP X0 hx hZ (own_w hw 22 rfl) e0 (g := (mkF m 1 #[.val (.ref a1), .val (.int (0 : Int32)), .val (.int (2 : Int32)), .unset, .unset, .unset] [(.int (2 : Int32))])) rfl (hb hby d9_1) rfl (by decide) (cap := 2) (by decide) (by decide) (by decide) (by decide)
  obtain ⟨b154, gz154⟩ : ∃ z, z = h0.size := ⟨_, rfl⟩
  rw [← gz154] at A154 st154
  have g_b154 : n0 ≤ b154 := Nat.le_trans Z0 (Nat.le_of_eq gz154.symm)
  have sz_b154 : h0.size ≤ b154 := Nat.le_trans KK.1 (Nat.le_of_eq gz154.symm)
  have ne_a1_b154 : a1 ≠ b154 := Nat.ne_of_lt (Nat.lt_of_lt_of_le Vc.lt (Nat.le_of_eq gz154.symm))
  replace Z0 := Nat.le_trans Z0 E154.1
  replace Vc := Vc.ext E154
  replace SA := SA.ext E154
  replace SHI := SHI.ext E154
  replace SLO := SLO.ext E154
  replace KK := KK.ext E154
  have V154 : Arv Z h154 b154 k154 .byte (2 : Int32) [(.int (0 : Int32)), (.int (0 : Int32))] (.int (0 : Int32)) := (Arv.new A154 (by decide)).pad (pad_rep [] (.int (0 : Int32)) 2)
  refine own_of (U' := (T154.setTop (mkF m 3 #[.val (.ref a1), .val (.int (0 : Int32)), .val (.int (2 : Int32)), .unset, .unset, .unset] [(.ref b154)]))) (st154) ?_
  refine own_astoreN X154 hx hby d9_3 rfl (l' := #[.val (.ref a1), .val (.int (0 : Int32)), .val (.int (2 : Int32)), .val (.ref b154), .unset, .unset]) rfl ?_
  refine own_aloadN X154 hx hby d9_4 rfl rfl ?_
  refine own_iloadN X154 hx hby d9_5 rfl ?_
  refine own_aloadN X154 hx hby d9_6 rfl rfl ?_
  refine own_iconst X154 hx hby 0 d9_7 rfl ?_
  refine own_iloadN X154 hx hby d9_8 rfl ?_
  obtain ⟨_, _, ⟨T155, L155, k155, n155⟩, -, X155, ⟨Lc155, hQ155, l155, y155, z155⟩, st155⟩ := Jvm.LawKit.callS X154 hx (y := mN_16) hown (mvT hZ (own_w hw 53 rfl)) (mvT hZ (own_w hw 54 rfl)) (mvT hZ (own_w hw 51 rfl)) (mvT hZ (own_w hw 55 rfl)) (by decide) (backOf (W := 0) (rmclb2 l Z a0 hw [] a1 b154 kc k154 c0 c1 h154 n0 Z0 Vc V154 g_b154 ne_a1_b154 hb0 hb1 big) hZ (own_w hw 55 rfl) (own_w hw 51 rfl) (by decide) (by decide)) (g := (mkF m 9 #[.val (.ref a1), .val (.int (0 : Int32)), .val (.int (2 : Int32)), .val (.ref b154), .unset, .unset] [(.int (2 : Int32)), (.int (0 : Int32)), (.ref b154), (.int (0 : Int32)), (.ref a1)])) rfl (by rw [hml]; rfl) (argsL := [(.ref a1), (.int (0 : Int32)), (.ref b154), (.int (0 : Int32)), (.int (2 : Int32))]) (rest := []) (lenOf pd_10 rfl) rfl (by show 2 * 0 + _ ≤ _; exact Nat.le_of_eq rfl) (hb hby d9_9) (fun _ _ => ⟨rfl, e154, (by decide : 1 + 0 ≤ _), (by decide : 2 + 0 ≤ _)⟩)
  dsimp only [Pt.U, Pt.locs, Pt.cells, Pt.slots] at X155 l155 y155 z155 st155 hQ155
  subst l155 y155 z155
  obtain ⟨r155, rfl, Nq155, Kp155, nr155, i1, i2, i3, i4, bg155⟩ := hQ155
  have N155 := Fr.app N0 Nq155
  have nst_b154 := V154.nostat
  replace Z0 := Nat.le_trans Z0 Kp155.1
  replace Vc := Vc.keep Kp155 (ninS ne_a1_b154 nin0)
  replace SA := own_staKeep SA Kp155 (nsS nst_b154 ns0)
  replace SHI := own_staKeep SHI Kp155 (nsS nst_b154 ns0)
  replace SLO := own_staKeep SLO Kp155 (nsS nst_b154 ns0)
  replace KK := KK.trans Kp155 (allS (Or.inr sz_b154) all0)
  refine own_of (U' := (T155.setTop (mkF m 12 #[.val (.ref a1), .val (.int (0 : Int32)), .val (.int (2 : Int32)), .val (.ref b154), .unset, .unset] [(.int r155)]))) (st155) ?_
  refine own_istore X155 hx hby d9_12 (l' := #[.val (.ref a1), .val (.int (0 : Int32)), .val (.int (2 : Int32)), .val (.ref b154), .val (.int r155), .unset]) rfl ?_
  refine own_iload X155 hx hby d9_14 rfl ?_
  refine own_iloadN X155 hx hby d9_16 rfl ?_
  have hc17_156 : ¬ (r155 = (2 : Int32)) := nr155
  refine own_icmpNo X155 hx hby d9_17 (feq hc17_156).1 ?_
  refine own_aloadN X155 hx hby d9_20 rfl rfl ?_
  refine own_iloadN X155 hx hby d9_21 rfl ?_
  refine own_iloadN X155 hx hby d9_22 rfl ?_
  obtain ⟨_, _, ⟨T157, L157, k157, n157⟩, -, X157, ⟨Lc157, hQ157, l157, y157, z157⟩, st157⟩ := Jvm.LawKit.callS X155 hx (y := mN_15) hown (mvT hZ (own_w hw 84 rfl)) (mvT hZ (own_w hw 85 rfl)) (mvT hZ (own_w hw 51 rfl)) (mvT hZ (own_w hw 86 rfl)) (by decide) (backOf (W := 0) (rmtb2 l Z a0 hw [] a1 kc c0 c1 T155.heap n0 Z0 Vc SA SHI SLO) hZ (own_w hw 86 rfl) (own_w hw 51 rfl) (by decide) (by decide)) (g := (mkF m 23 #[.val (.ref a1), .val (.int (0 : Int32)), .val (.int (2 : Int32)), .val (.ref b154), .val (.int r155), .unset] [(.int (2 : Int32)), (.int (0 : Int32)), (.ref a1)])) rfl (by rw [hml]; rfl) (argsL := [(.ref a1), (.int (0 : Int32)), (.int (2 : Int32))]) (rest := []) (lenOf pd_11 rfl) rfl (by show 2 * 0 + _ ≤ _; exact Nat.le_of_eq rfl) (hb hby d9_23) (fun _ _ => ⟨rfl, rfl, (by decide : 1 + 1 ≤ _), (by decide : 2 + 4 ≤ _)⟩)
  dsimp only [Pt.U, Pt.locs, Pt.cells, Pt.slots] at X157 l157 y157 z157 st157 hQ157
  subst l157 y157 z157
  obtain ⟨u157, ku157, rfl, Nq157, Kp157, gq157, Vq157⟩ := hQ157
  have g_u157 : n0 ≤ u157 := Nat.le_trans Z0 gq157
  have sz_u157 : h0.size ≤ u157 := Nat.le_trans KK.1 gq157
  have ne_a1_u157 : a1 ≠ u157 := Nat.ne_of_lt (Nat.lt_of_lt_of_le Vc.lt gq157)
  have N157 := Fr.app N155 Nq157
  replace Z0 := Nat.le_trans Z0 Kp157.1
  replace Vc := Vc.keep Kp157 nin0
  replace SA := own_staKeep SA Kp157 ns0
  replace SHI := own_staKeep SHI Kp157 ns0
  replace SLO := own_staKeep SLO Kp157 ns0
  replace KK := KK.trans Kp157 all0
  refine own_of (U' := (T157.setTop (mkF m 26 #[.val (.ref a1), .val (.int (0 : Int32)), .val (.int (2 : Int32)), .val (.ref b154), .val (.int r155), .unset] [(.ref u157)]))) (st157) ?_
  refine own_astore X157 hx hby d9_26 rfl (l' := #[.val (.ref a1), .val (.int (0 : Int32)), .val (.int (2 : Int32)), .val (.ref b154), .val (.int r155), .val (.ref u157)]) rfl ?_
  refine own_aload X157 hx hby d9_28 rfl rfl ?_
  refine own_iload X157 hx hby d9_30 rfl ?_
  obtain ⟨_, _, ⟨T158, L158, k158, n158⟩, -, X158, ⟨Lc158, hQ158, l158, y158, z158⟩, st158⟩ := Jvm.LawKit.callS X157 hx (y := mN_4) hown (mvT hZ (own_w hw 100 rfl)) (mvT hZ (own_w hw 101 rfl)) (mvT hZ (own_w hw 51 rfl)) (mvT hZ (own_w hw 102 rfl)) (by decide) (backOf (W := 0) (rmug l Z a0 hw [] u157 r155 ku157 (4 : Int32) [(own_lo8 c0), (own_hi8 c0), (own_lo8 c1), (own_hi8 c1)] T157.heap n0 Z0 Vq157 i1 i2 i3 i4 SA SHI SLO) hZ (own_w hw 102 rfl) (own_w hw 51 rfl) (by decide) (by decide)) (g := (mkF m 32 #[.val (.ref a1), .val (.int (0 : Int32)), .val (.int (2 : Int32)), .val (.ref b154), .val (.int r155), .val (.ref u157)] [(.int r155), (.ref u157)])) rfl (by rw [hml]; rfl) (argsL := [(.ref u157), (.int r155)]) (rest := []) (lenOf pd_4 rfl) rfl (by show 2 * 0 + _ ≤ _; exact Nat.le_of_eq rfl) (hb hby d9_32) (fun _ _ => ⟨rfl, rfl, (by decide : 2 + 0 ≤ _), (by decide : 6 + 0 ≤ _)⟩)
  dsimp only [Pt.U, Pt.locs, Pt.cells, Pt.slots] at X158 l158 y158 z158 st158 hQ158
  subst l158 y158 z158
  obtain ⟨rfl, Nq158, e158⟩ := hQ158
  have N158 := Fr.app N157 Nq158
  refine own_of (U' := (T158.setTop (mkF m 35 #[.val (.ref a1), .val (.int (0 : Int32)), .val (.int (2 : Int32)), .val (.ref b154), .val (.int r155), .val (.ref u157)] [(.int (own_chu [(own_lo8 c0), (own_hi8 c0), (own_lo8 c1), (own_hi8 c1)] r155))]))) (st158) ?_
  refine own_sipush X158 hx hby 255 d9_35 rfl ?_
  have hc38_159 : (255 : Int32) < (own_chu [(own_lo8 c0), (own_hi8 c0), (own_lo8 c1), (own_hi8 c1)] r155) := bg155
  refine own_icmpYes X158 hx hby 38 54 d9_38 (tlt hc38_159).2.2.1 (by decide) (by decide) ?_
  refine own_aload X158 hx hby d9_54 rfl rfl ?_
  exact own_retA X158 hx hlk Bd.returns rfl rfl (hb hby d9_56) (by decide) (by decide) (by rw [e158]; exact ⟨u157, ku157, rfl, N158, KK, sz_u157, Vq157⟩)
theorem ef_cf2_2 (m : MethodId) (x0 : Addr) : entryFrame m #[(.ref x0), (.int (2 : Int32))] 2 = mkF m 0 #[.val (.ref x0), .val (.int (2 : Int32))] [] := by first | (simp [entryFrame, mkF, argsToLocals, Value.category]; done) | rfl
set_option maxRecDepth 65536 in
set_option maxHeartbeats 40000000 in
theorem rmcf2_2 (l : Launch) (Z : State) (a0 : Array Value) (hw : ∀ d ∈ tables_1, d.before a0 Z = true) (ws : List Jvm.Cond) (b : Addr) (kb : ClassId) (cs : List Int32) (h0 : Heap) (n0 : Nat) (Z0 : n0 ≤ h0.size) (Vb : Arv Z h0 b kb .byte (2 : Int32) (cs.map Value.int) (.int (0 : Int32))) :
    MetFree l mN_18 (head1 (Jvm.Cond.code mN_18 jdk_52_method_15_code 2 (some .byte) :: ws) ({ frames := 0, cells := 0, slots := 0, locals := 0 } : Room)) (fun a U => a = #[(.ref b), (.int (2 : Int32))] ∧ Z.Warmed39 U.vm ∧ U.heap = h0) (fun _ _ _ _ _ => True) (fun _ U o U' => ∃ v L, o = .returned v ∧ (Qv 0 h0 n0) v U'.heap L ∧ FrameEnd U o U' L ({ frames := 0, cells := 0, slots := 0, locals := 0 } : Room).cells ({ frames := 0, cells := 0, slots := 0, locals := 0 } : Room).slots) := by
  refine MetFree.of_bodySF (plainFor_of_name pn_2) hisR ?_
  intro p e s m args below meth c s₁ Bd hml0 hP hK
  obtain ⟨rfl, hZ, hh⟩ := hP
  have hx := Bd.exec
  have hby := Bd.bytes
  have hml : c.maxLocals = 2 := hml0
  have hown : s.vm.findClass "java/lang/StringUTF16" = some m.cls := findClass_of_methodNamed Bd.named
  have hnm := (name_of_methodNamed Bd.named Bd.method).1
  have hlk := Bd.notSynchronized
  have X0 : Stand p l e ({ frames := 0, cells := 0, slots := 0, locals := 0 } : Room) s m #[(.ref b), (.int (2 : Int32))] below meth c s₁ [] 0 0 := Stand.of_body Bd
  have e0 : s₁.heap = h0 := by rw [← hh, Bd.state]; rfl
  have N0 := Fr.nil n0
  show own_Ends p e below s FrameEnd (Qv 0 h0 n0) 0 0 (s₁.setTop (entryFrame m #[(.ref b), (.int (2 : Int32))] 2))
  refine own_of (U' := (s₁.setTop (mkF m 0 #[.val (.ref b), .val (.int (2 : Int32))] []))) (fun _ k => castTop (ef_cf2_2 m b) k) ?_
  refine own_iloadN X0 hx hby d11_0 rfl ?_
  refine own_aloadN X0 hx hby d11_1 rfl rfl ?_
  obtain ⟨cl160, Ar160, qa160, Sa160, Na160, -, -⟩ := id Vb
  have al160 := X0.arraylength hx (by rw [e0]; exact Ar160.1) (State.isArrayOf_alike hZ.alike Ar160.2.1) (g := (mkF m 2 #[.val (.ref b), .val (.int (2 : Int32))] [(.ref b), (.int (2 : Int32))])) rfl rfl (hb hby d11_2)
  rw [len_of Sa160 Na160] at al160
  refine own_of (U' := (s₁.setTop (mkF m 3 #[.val (.ref b), .val (.int (2 : Int32))] [(.int (2 : Int32)), (.int (2 : Int32))]))) (al160) ?_
  refine own_isub X0 hx hby d11_3 ?_
  refine own_eq (U' := (s₁.setTop (mkF m 4 #[.val (.ref b), .val (.int (2 : Int32))] [(.int (0 : Int32))]))) (by rw [show ((2 : Int32) - (2 : Int32)) = (0 : Int32) by decide]) ?_
  refine own_bipush X0 hx hby 31 d11_4 rfl ?_
  refine own_iushr X0 hx hby d11_6 ?_
  refine own_eq (U' := (s₁.setTop (mkF m 7 #[.val (.ref b), .val (.int (2 : Int32))] [(.int (0 : Int32))]))) (by rw [show (XT.ushr (0 : Int32) (31 : Int32)) = (0 : Int32) by decide]) ?_
  refine own_i2b X0 hx hby d11_7 ?_
  refine own_eq (U' := (s₁.setTop (mkF m 8 #[.val (.ref b), .val (.int (2 : Int32))] [(.int (0 : Int32))]))) (by rw [show ((0 : Int32).toInt8.toInt32) = (0 : Int32) by decide]) ?_
  exact own_retN X0 hx hlk (t := .byte) Bd.returns (by simp) (hb hby d11_8) (by decide) (by decide) (⟨rfl, N0, e0⟩)
theorem ef_cf2_4 (m : MethodId) (x0 : Addr) : entryFrame m #[(.ref x0), (.int (2 : Int32))] 2 = mkF m 0 #[.val (.ref x0), .val (.int (2 : Int32))] [] := by first | (simp [entryFrame, mkF, argsToLocals, Value.category]; done) | rfl
set_option maxRecDepth 65536 in
set_option maxHeartbeats 40000000 in
theorem rmcf2_4 (l : Launch) (Z : State) (a0 : Array Value) (hw : ∀ d ∈ tables_1, d.before a0 Z = true) (ws : List Jvm.Cond) (b : Addr) (kb : ClassId) (cs : List Int32) (h0 : Heap) (n0 : Nat) (Z0 : n0 ≤ h0.size) (Vb : Arv Z h0 b kb .byte (4 : Int32) (cs.map Value.int) (.int (0 : Int32))) :
    MetFree l mN_18 (head1 (Jvm.Cond.code mN_18 jdk_52_method_15_code 2 (some .byte) :: ws) ({ frames := 0, cells := 0, slots := 0, locals := 0 } : Room)) (fun a U => a = #[(.ref b), (.int (2 : Int32))] ∧ Z.Warmed39 U.vm ∧ U.heap = h0) (fun _ _ _ _ _ => True) (fun _ U o U' => ∃ v L, o = .returned v ∧ (Qv 1 h0 n0) v U'.heap L ∧ FrameEnd U o U' L ({ frames := 0, cells := 0, slots := 0, locals := 0 } : Room).cells ({ frames := 0, cells := 0, slots := 0, locals := 0 } : Room).slots) := by
  refine MetFree.of_bodySF (plainFor_of_name pn_2) hisR ?_
  intro p e s m args below meth c s₁ Bd hml0 hP hK
  obtain ⟨rfl, hZ, hh⟩ := hP
  have hx := Bd.exec
  have hby := Bd.bytes
  have hml : c.maxLocals = 2 := hml0
  have hown : s.vm.findClass "java/lang/StringUTF16" = some m.cls := findClass_of_methodNamed Bd.named
  have hnm := (name_of_methodNamed Bd.named Bd.method).1
  have hlk := Bd.notSynchronized
  have X0 : Stand p l e ({ frames := 0, cells := 0, slots := 0, locals := 0 } : Room) s m #[(.ref b), (.int (2 : Int32))] below meth c s₁ [] 0 0 := Stand.of_body Bd
  have e0 : s₁.heap = h0 := by rw [← hh, Bd.state]; rfl
  have N0 := Fr.nil n0
  show own_Ends p e below s FrameEnd (Qv 1 h0 n0) 0 0 (s₁.setTop (entryFrame m #[(.ref b), (.int (2 : Int32))] 2))
  refine own_of (U' := (s₁.setTop (mkF m 0 #[.val (.ref b), .val (.int (2 : Int32))] []))) (fun _ k => castTop (ef_cf2_4 m b) k) ?_
  refine own_iloadN X0 hx hby d11_0 rfl ?_
  refine own_aloadN X0 hx hby d11_1 rfl rfl ?_
  obtain ⟨cl161, Ar161, qa161, Sa161, Na161, -, -⟩ := id Vb
  have al161 := X0.arraylength hx (by rw [e0]; exact Ar161.1) (State.isArrayOf_alike hZ.alike Ar161.2.1) (g := (mkF m 2 #[.val (.ref b), .val (.int (2 : Int32))] [(.ref b), (.int (2 : Int32))])) rfl rfl (hb hby d11_2)
  rw [len_of Sa161 Na161] at al161
  refine own_of (U' := (s₁.setTop (mkF m 3 #[.val (.ref b), .val (.int (2 : Int32))] [(.int (4 : Int32)), (.int (2 : Int32))]))) (al161) ?_
  refine own_isub X0 hx hby d11_3 ?_
  refine own_eq (U' := (s₁.setTop (mkF m 4 #[.val (.ref b), .val (.int (2 : Int32))] [(.int (-2 : Int32))]))) (by rw [show ((2 : Int32) - (4 : Int32)) = (-2 : Int32) by decide]) ?_
  refine own_bipush X0 hx hby 31 d11_4 rfl ?_
  refine own_iushr X0 hx hby d11_6 ?_
  refine own_eq (U' := (s₁.setTop (mkF m 7 #[.val (.ref b), .val (.int (2 : Int32))] [(.int (1 : Int32))]))) (by rw [show (XT.ushr (-2 : Int32) (31 : Int32)) = (1 : Int32) by decide]) ?_
  refine own_i2b X0 hx hby d11_7 ?_
  refine own_eq (U' := (s₁.setTop (mkF m 8 #[.val (.ref b), .val (.int (2 : Int32))] [(.int (1 : Int32))]))) (by rw [show ((1 : Int32).toInt8.toInt32) = (1 : Int32) by decide]) ?_
  exact own_retN X0 hx hlk (t := .byte) Bd.returns (by simp) (hb hby d11_8) (by decide) (by decide) (⟨rfl, N0, e0⟩)
theorem ef_sv2 (m : MethodId) (x0 : Addr) (x1 : Addr) : entryFrame m #[(.ref x0), (.ref x1), (.int (0 : Int32)), (.int (2 : Int32)), .null] 6 = mkF m 0 #[.val (.ref x0), .val (.ref x1), .val (.int (0 : Int32)), .val (.int (2 : Int32)), .val .null, .unset] [] := by first | (simp [entryFrame, mkF, argsToLocals, Value.category]; done) | rfl
def Qsv2 (Z : State) (a1 : Addr) (c0 c1 : Int32) (h0 : Heap) (n0 : Nat) (v : Option Value) (h : Heap) (L : List Loc) : Prop := v = none ∧ Fr n0 L ∧ Keep h0 h [a1] ∧ own_Str Z h a1 (2 : Int32) (4 : Int32) [c0, c1]
set_option maxRecDepth 65536 in
set_option maxHeartbeats 40000000 in
theorem rmsv2 (l : Launch) (Z : State) (a0 : Array Value) (hw : ∀ d ∈ tables_1, d.before a0 Z = true) (ws : List Jvm.Cond) (a1 a2 : Addr) (kc : ClassId) (c0 c1 : Int32) (g1 : Int32) (h0 : Heap) (n0 : Nat) (Z0 : n0 ≤ h0.size) (E1 : Exa Z h0 a1 "java/lang/String") (Fc : Fld Z h0 a1 "java/lang/String" "coder" "B" (.int (0 : Int32))) (Fv : Fld Z h0 a1 "java/lang/String" "value" "[B" .null) (Vc : Arv Z h0 a2 kc .char (2 : Int32) [(.int c0), (.int c1)] (.int (0 : Int32))) (g_a1 : n0 ≤ a1) (hb0 : 0 ≤ c0.toInt ∧ c0.toInt < 65536) (hb1 : 0 ≤ c1.toInt ∧ c1.toInt < 65536) (SC : Sta Z h0 "java/lang/String" "COMPACT_STRINGS" "Z" (.int g1)) (hg1 : ¬ (g1 = (0 : Int32))) (SA : Sta Z h0 "java/lang/StringUTF16" "$assertionsDisabled" "Z" (.int (1 : Int32))) (SHI : Sta Z h0 "java/lang/StringUTF16" "HI_BYTE_SHIFT" "I" (.int (0 : Int32))) (SLO : Sta Z h0 "java/lang/StringUTF16" "LO_BYTE_SHIFT" "I" (.int (8 : Int32))) :
    MetFree l mN_19 (head1 (Jvm.Cond.code mN_19 jdk_42_method_149_code 6 none :: ws) ({ frames := 4, cells := 2, slots := 6, locals := 57 } : Room)) (fun a U => a = #[(.ref a1), (.ref a2), (.int (0 : Int32)), (.int (2 : Int32)), .null] ∧ Z.Warmed39 U.vm ∧ U.heap = h0) (fun _ _ _ _ _ => True) (fun _ U o U' => ∃ v L, o = .returned v ∧ (Qsv2 Z a1 c0 c1 h0 n0) v U'.heap L ∧ FrameEnd U o U' L ({ frames := 4, cells := 2, slots := 6, locals := 57 } : Room).cells ({ frames := 4, cells := 2, slots := 6, locals := 57 } : Room).slots) := by
  refine MetFree.of_bodySF (plainFor_of_name pn_1) hisR ?_
  intro p e s m args below meth c s₁ Bd hml0 hP hK
  obtain ⟨rfl, hZ, hh⟩ := hP
  have hx := Bd.exec
  have hby := Bd.bytes
  have hml : c.maxLocals = 6 := hml0
  have hown : s.vm.findClass "java/lang/String" = some m.cls := findClass_of_methodNamed Bd.named
  have hnm := (name_of_methodNamed Bd.named Bd.method).1
  have hlk := Bd.notSynchronized
  have X0 : Stand p l e ({ frames := 4, cells := 2, slots := 6, locals := 57 } : Room) s m #[(.ref a1), (.ref a2), (.int (0 : Int32)), (.int (2 : Int32)), .null] below meth c s₁ [] 0 0 := Stand.of_body Bd
  have e0 : s₁.heap = h0 := by rw [← hh, Bd.state]; rfl
  have N0 := Fr.nil n0
  have KK := Keep.refl h0 [a1]
  show own_Ends p e below s FrameEnd (Qsv2 Z a1 c0 c1 h0 n0) 2 6 (s₁.setTop (entryFrame m #[(.ref a1), (.ref a2), (.int (0 : Int32)), (.int (2 : Int32)), .null] 6))
  refine own_of (U' := (s₁.setTop (mkF m 0 #[.val (.ref a1), .val (.ref a2), .val (.int (0 : Int32)), .val (.int (2 : Int32)), .val .null, .unset] []))) (fun _ k => castTop (ef_sv2 m a1 a2) k) ?_
  refine own_aloadN X0 hx hby d3_0 rfl rfl ?_
  obtain ⟨T162, X162, e162, st162⟩ := initO X0 hx hZ hown (own_w hw 18 rfl) (own_w hw 19 rfl) (own_w hw 20 rfl) e0 (g := (mkF m 1 #[.val (.ref a1), .val (.ref a2), .val (.int (0 : Int32)), .val (.int (2 : Int32)), .val .null, .unset] [(.ref a1)])) rfl (by rw [hml]; rfl) rfl (hb hby d3_1) (by decide) (W := 0) (by show 2 * 0 + _ ≤ _; exact Nat.le_of_eq rfl) (by decide)
  refine own_of (U' := (T162.setTop (mkF m 4 #[.val (.ref a1), .val (.ref a2), .val (.int (0 : Int32)), .val (.int (2 : Int32)), .val .null, .unset] []))) (st162) ?_
  refine own_iloadN X162 hx hby d3_4 rfl ?_
  have hc5_163 : ¬ ((2 : Int32) = (0 : Int32)) := by decide
  refine own_ifYes X162 hx hby 5 27 d3_5 ((if0 _ _).trans (feq hc5_163).2) (by decide) (by decide) ?_
  obtain ⟨T164, X164, e164, st164⟩ := getS2 X162 hx hZ hown (host := "") (Or.inl (own_w hw 48 rfl)) Via.refl e162 SC (g := (mkF m 27 #[.val (.ref a1), .val (.ref a2), .val (.int (0 : Int32)), .val (.int (2 : Int32)), .val .null, .unset] [])) rfl (hb hby d3_27)
  refine own_of (U' := (T164.setTop (mkF m 30 #[.val (.ref a1), .val (.ref a2), .val (.int (0 : Int32)), .val (.int (2 : Int32)), .val .null, .unset] [(.int g1)]))) (st164) ?_
  have hc30_165 : ¬ (g1 = (0 : Int32)) := hg1
  refine own_ifNo X164 hx hby d3_30 ((if0 _ _).trans (feq hc30_165).1) ?_
  by_cases qB : ((255 : Int32) < c0) ∨ ((255 : Int32) < c1)
  · skip
    refine own_aloadN X164 hx hby d3_33 rfl rfl ?_
    refine own_iloadN X164 hx hby d3_34 rfl ?_
    refine own_iloadN X164 hx hby d3_35 rfl ?_
    obtain ⟨_, _, ⟨T166, L166, k166, n166⟩, -, X166, ⟨Lc166, hQ166, l166, y166, z166⟩, st166⟩ := Jvm.LawKit.callS X164 hx (y := mN_17) hown (mvT hZ (own_w hw 49 rfl)) (mvT hZ (own_w hw 50 rfl)) (mvT hZ (own_w hw 51 rfl)) (mvT hZ (own_w hw 52 rfl)) (by decide) (backOf (W := 0) (rmcb2 l Z a0 hw [] a2 kc c0 c1 h0 n0 Z0 Vc hb0 hb1 SA SHI SLO qB) hZ (own_w hw 52 rfl) (own_w hw 51 rfl) (by decide) (by decide)) (g := (mkF m 36 #[.val (.ref a1), .val (.ref a2), .val (.int (0 : Int32)), .val (.int (2 : Int32)), .val .null, .unset] [(.int (2 : Int32)), (.int (0 : Int32)), (.ref a2)])) rfl (by rw [hml]; rfl) (argsL := [(.ref a2), (.int (0 : Int32)), (.int (2 : Int32))]) (rest := []) (lenOf pd_11 rfl) rfl (by show 2 * 0 + _ ≤ _; exact Nat.le_of_eq rfl) (hb hby d3_36) (fun _ _ => ⟨rfl, e164, (by decide : 0 + 2 ≤ _), (by decide : 0 + 6 ≤ _)⟩)
    dsimp only [Pt.U, Pt.locs, Pt.cells, Pt.slots] at X166 l166 y166 z166 st166 hQ166
    subst l166 y166 z166
    obtain ⟨u166, ku166, rfl, Nq166, Kp166, gq166, Vq166⟩ := hQ166
    have g_u166 : n0 ≤ u166 := Nat.le_trans Z0 gq166
    have sz_u166 : h0.size ≤ u166 := Nat.le_trans KK.1 gq166
    have ne_a1_u166 : a1 ≠ u166 := Nat.ne_of_lt (Nat.lt_of_lt_of_le E1.lt gq166)
    have ne_a2_u166 : a2 ≠ u166 := Nat.ne_of_lt (Nat.lt_of_lt_of_le Vc.lt gq166)
    have N166 := Fr.app N0 Nq166
    replace Z0 := Nat.le_trans Z0 Kp166.1
    replace E1 := E1.keep Kp166
    replace Fc := Fc.keep Kp166 nin0
    replace Fv := Fv.keep Kp166 nin0
    replace Vc := Vc.keep Kp166 nin0
    replace SC := own_staKeep SC Kp166 ns0
    replace SA := own_staKeep SA Kp166 ns0
    replace SHI := own_staKeep SHI Kp166 ns0
    replace SLO := own_staKeep SLO Kp166 ns0
    replace KK := KK.trans Kp166 all0
    refine own_of (U' := (T166.setTop (mkF m 39 #[.val (.ref a1), .val (.ref a2), .val (.int (0 : Int32)), .val (.int (2 : Int32)), .val .null, .unset] [(.ref u166)]))) (st166) ?_
    refine own_astore X166 hx hby d3_39 rfl (l' := #[.val (.ref a1), .val (.ref a2), .val (.int (0 : Int32)), .val (.int (2 : Int32)), .val .null, .val (.ref u166)]) rfl ?_
    refine own_aloadN X166 hx hby d3_41 rfl rfl ?_
    refine own_aload X166 hx hby d3_42 rfl rfl ?_
    refine own_iloadN X166 hx hby d3_44 rfl ?_
    obtain ⟨_, _, ⟨T167, L167, k167, n167⟩, -, X167, ⟨Lc167, hQ167, l167, y167, z167⟩, st167⟩ := Jvm.LawKit.callS X166 hx (y := mN_18) hown (mvT hZ (own_w hw 56 rfl)) (mvT hZ (own_w hw 57 rfl)) (mvT hZ (own_w hw 51 rfl)) (mvT hZ (own_w hw 58 rfl)) (by decide) (backOf (W := 1) (rmcf2_4 l Z a0 hw [] u166 ku166 [(own_lo8 c0), (own_hi8 c0), (own_lo8 c1), (own_hi8 c1)] T166.heap n0 Z0 Vq166) hZ (own_w hw 58 rfl) (own_w hw 51 rfl) (by decide) (by decide)) (g := (mkF m 45 #[.val (.ref a1), .val (.ref a2), .val (.int (0 : Int32)), .val (.int (2 : Int32)), .val .null, .val (.ref u166)] [(.int (2 : Int32)), (.ref u166), (.ref a1)])) rfl (by rw [hml]; rfl) (argsL := [(.ref u166), (.int (2 : Int32))]) (rest := [(.ref a1)]) (lenOf pd_12 rfl) rfl (by show 2 * 0 + _ ≤ _; exact Nat.le_of_eq rfl) (hb hby d3_45) (fun _ _ => ⟨rfl, rfl, (by decide : 2 + 0 ≤ _), (by decide : 6 + 0 ≤ _)⟩)
    dsimp only [Pt.U, Pt.locs, Pt.cells, Pt.slots] at X167 l167 y167 z167 st167 hQ167
    subst l167 y167 z167
    obtain ⟨rfl, Nq167, e167⟩ := hQ167
    have N167 := Fr.app N166 Nq167
    refine own_of (U' := (T167.setTop (mkF m 48 #[.val (.ref a1), .val (.ref a2), .val (.int (0 : Int32)), .val (.int (2 : Int32)), .val .null, .val (.ref u166)] [(.int (1 : Int32)), (.ref a1)]))) (st167) ?_
    obtain ⟨T168, h168, X168, e168, W168, st168⟩ := putFN X167 hx hZ hown (own_w hw 28 rfl) Via.refl e167 Fc E1 (Or.inr ⟨(own_w hw 24 rfl), rfl, hnm⟩) (own_w hw 9 rfl) (ty := .byte) (v' := (.int (1 : Int32))) (by decide) rfl (by decide) (g := (mkF m 48 #[.val (.ref a1), .val (.ref a2), .val (.int (0 : Int32)), .val (.int (2 : Int32)), .val .null, .val (.ref u166)] [(.int (1 : Int32)), (.ref a1)])) rfl rfl (hb hby d3_48)
    replace Z0 := Nat.le_trans Z0 (Keep.of_wr W168).1
    replace E1 := E1.wr W168
    replace Fc := Fc.same W168
    replace Fv := Fv.other W168 (Or.inr (slot_ne (Or.inr (own_w hw 23 rfl)) (Or.inr (own_w hw 24 rfl)) (by decide) (t := (.array .byte)) (t' := .byte) (by decide) (by decide)))
    replace SC := SC.wr W168
    replace SA := SA.wr W168
    replace SHI := SHI.wr W168
    replace SLO := SLO.wr W168
    replace KK := KK.wr W168 (Or.inl (List.mem_of_getElem? (i := 0) rfl))
    replace Vq166 := Vq166.other W168 (Ne.symm ne_a1_u166)
    have N168 := Fr.snoc X168 N167 g_a1
    refine own_of (U' := (T168.setTop (mkF m 51 #[.val (.ref a1), .val (.ref a2), .val (.int (0 : Int32)), .val (.int (2 : Int32)), .val .null, .val (.ref u166)] []))) (st168) ?_
    refine own_aloadN X168 hx hby d3_51 rfl rfl ?_
    refine own_aload X168 hx hby d3_52 rfl rfl ?_
    obtain ⟨T169, h169, X169, e169, W169, st169⟩ := putF X168 hx hZ hown (host := "") (Or.inl (own_w hw 27 rfl)) Via.refl e168 Fv E1 (Or.inr ⟨(own_w hw 23 rfl), rfl, hnm⟩) (own_w hw 9 rfl) (ty := (.array .byte)) (by decide) rfl rfl (g := (mkF m 54 #[.val (.ref a1), .val (.ref a2), .val (.int (0 : Int32)), .val (.int (2 : Int32)), .val .null, .val (.ref u166)] [(.ref u166), (.ref a1)])) rfl rfl (hb hby d3_54)
    replace Z0 := Nat.le_trans Z0 (Keep.of_wr W169).1
    replace E1 := E1.wr W169
    replace Fc := Fc.other W169 (Or.inr (slot_ne (Or.inr (own_w hw 24 rfl)) (Or.inr (own_w hw 23 rfl)) (by decide) (t := .byte) (t' := (.array .byte)) (by decide) (by decide)))
    replace Fv := Fv.same W169
    replace SC := SC.wr W169
    replace SA := SA.wr W169
    replace SHI := SHI.wr W169
    replace SLO := SLO.wr W169
    replace KK := KK.wr W169 (Or.inl (List.mem_of_getElem? (i := 0) rfl))
    replace Vq166 := Vq166.other W169 (Ne.symm ne_a1_u166)
    have N169 := Fr.snoc X169 N168 g_a1
    refine own_of (U' := (T169.setTop (mkF m 57 #[.val (.ref a1), .val (.ref a2), .val (.int (0 : Int32)), .val (.int (2 : Int32)), .val .null, .val (.ref u166)] []))) (st169) ?_
    exact own_ret0 X169 hx hlk Bd.returns (hb hby d3_57) (by decide) (by decide) (by rw [e169]; exact ⟨rfl, N169, KK, ⟨E1, u166, ku166, Fv, Or.inr ⟨Fc, Vq166⟩⟩⟩)
  · skip
    have qB0 : ¬ ((255 : Int32) < c0) := fun z => qB (Or.inl z)
    have qB1 : ¬ ((255 : Int32) < c1) := fun z => qB (Or.inr z)
    refine own_aloadN X164 hx hby d3_33 rfl rfl ?_
    refine own_iloadN X164 hx hby d3_34 rfl ?_
    refine own_iloadN X164 hx hby d3_35 rfl ?_
    obtain ⟨_, _, ⟨T170, L170, k170, n170⟩, -, X170, ⟨Lc170, hQ170, l170, y170, z170⟩, st170⟩ := Jvm.LawKit.callS X164 hx (y := mN_17) hown (mvT hZ (own_w hw 49 rfl)) (mvT hZ (own_w hw 50 rfl)) (mvT hZ (own_w hw 51 rfl)) (mvT hZ (own_w hw 52 rfl)) (by decide) (backOf (W := 0) (rmcl2 l Z a0 hw [] a2 kc c0 c1 h0 n0 Z0 Vc hb0 hb1 SA SHI SLO qB0 qB1) hZ (own_w hw 52 rfl) (own_w hw 51 rfl) (by decide) (by decide)) (g := (mkF m 36 #[.val (.ref a1), .val (.ref a2), .val (.int (0 : Int32)), .val (.int (2 : Int32)), .val .null, .unset] [(.int (2 : Int32)), (.int (0 : Int32)), (.ref a2)])) rfl (by rw [hml]; rfl) (argsL := [(.ref a2), (.int (0 : Int32)), (.int (2 : Int32))]) (rest := []) (lenOf pd_11 rfl) rfl (by show 2 * 0 + _ ≤ _; exact Nat.le_of_eq rfl) (hb hby d3_36) (fun _ _ => ⟨rfl, e164, (by decide : 0 + 1 ≤ _), (by decide : 0 + 2 ≤ _)⟩)
    dsimp only [Pt.U, Pt.locs, Pt.cells, Pt.slots] at X170 l170 y170 z170 st170 hQ170
    subst l170 y170 z170
    obtain ⟨u170, ku170, rfl, Nq170, Kp170, gq170, Vq170⟩ := hQ170
    have g_u170 : n0 ≤ u170 := Nat.le_trans Z0 gq170
    have sz_u170 : h0.size ≤ u170 := Nat.le_trans KK.1 gq170
    have ne_a1_u170 : a1 ≠ u170 := Nat.ne_of_lt (Nat.lt_of_lt_of_le E1.lt gq170)
    have ne_a2_u170 : a2 ≠ u170 := Nat.ne_of_lt (Nat.lt_of_lt_of_le Vc.lt gq170)
    have N170 := Fr.app N0 Nq170
    replace Z0 := Nat.le_trans Z0 Kp170.1
    replace E1 := E1.keep Kp170
    replace Fc := Fc.keep Kp170 nin0
    replace Fv := Fv.keep Kp170 nin0
    replace Vc := Vc.keep Kp170 nin0
    replace SC := own_staKeep SC Kp170 ns0
    replace SA := own_staKeep SA Kp170 ns0
    replace SHI := own_staKeep SHI Kp170 ns0
    replace SLO := own_staKeep SLO Kp170 ns0
    replace KK := KK.trans Kp170 all0
    refine own_of (U' := (T170.setTop (mkF m 39 #[.val (.ref a1), .val (.ref a2), .val (.int (0 : Int32)), .val (.int (2 : Int32)), .val .null, .unset] [(.ref u170)]))) (st170) ?_
    refine own_astore X170 hx hby d3_39 rfl (l' := #[.val (.ref a1), .val (.ref a2), .val (.int (0 : Int32)), .val (.int (2 : Int32)), .val .null, .val (.ref u170)]) rfl ?_
    refine own_aloadN X170 hx hby d3_41 rfl rfl ?_
    refine own_aload X170 hx hby d3_42 rfl rfl ?_
    refine own_iloadN X170 hx hby d3_44 rfl ?_
    obtain ⟨_, _, ⟨T171, L171, k171, n171⟩, -, X171, ⟨Lc171, hQ171, l171, y171, z171⟩, st171⟩ := Jvm.LawKit.callS X170 hx (y := mN_18) hown (mvT hZ (own_w hw 56 rfl)) (mvT hZ (own_w hw 57 rfl)) (mvT hZ (own_w hw 51 rfl)) (mvT hZ (own_w hw 58 rfl)) (by decide) (backOf (W := 1) (rmcf2_2 l Z a0 hw [] u170 ku170 [(own_b8 c0), (own_b8 c1)] T170.heap n0 Z0 Vq170) hZ (own_w hw 58 rfl) (own_w hw 51 rfl) (by decide) (by decide)) (g := (mkF m 45 #[.val (.ref a1), .val (.ref a2), .val (.int (0 : Int32)), .val (.int (2 : Int32)), .val .null, .val (.ref u170)] [(.int (2 : Int32)), (.ref u170), (.ref a1)])) rfl (by rw [hml]; rfl) (argsL := [(.ref u170), (.int (2 : Int32))]) (rest := [(.ref a1)]) (lenOf pd_12 rfl) rfl (by show 2 * 0 + _ ≤ _; exact Nat.le_of_eq rfl) (hb hby d3_45) (fun _ _ => ⟨rfl, rfl, (by decide : 1 + 0 ≤ _), (by decide : 2 + 0 ≤ _)⟩)
    dsimp only [Pt.U, Pt.locs, Pt.cells, Pt.slots] at X171 l171 y171 z171 st171 hQ171
    subst l171 y171 z171
    obtain ⟨rfl, Nq171, e171⟩ := hQ171
    have N171 := Fr.app N170 Nq171
    refine own_of (U' := (T171.setTop (mkF m 48 #[.val (.ref a1), .val (.ref a2), .val (.int (0 : Int32)), .val (.int (2 : Int32)), .val .null, .val (.ref u170)] [(.int (0 : Int32)), (.ref a1)]))) (st171) ?_
    obtain ⟨T172, h172, X172, e172, W172, st172⟩ := putFN X171 hx hZ hown (own_w hw 28 rfl) Via.refl e171 Fc E1 (Or.inr ⟨(own_w hw 24 rfl), rfl, hnm⟩) (own_w hw 9 rfl) (ty := .byte) (v' := (.int (0 : Int32))) (by decide) rfl (by decide) (g := (mkF m 48 #[.val (.ref a1), .val (.ref a2), .val (.int (0 : Int32)), .val (.int (2 : Int32)), .val .null, .val (.ref u170)] [(.int (0 : Int32)), (.ref a1)])) rfl rfl (hb hby d3_48)
    replace Z0 := Nat.le_trans Z0 (Keep.of_wr W172).1
    replace E1 := E1.wr W172
    replace Fc := Fc.same W172
    replace Fv := Fv.other W172 (Or.inr (slot_ne (Or.inr (own_w hw 23 rfl)) (Or.inr (own_w hw 24 rfl)) (by decide) (t := (.array .byte)) (t' := .byte) (by decide) (by decide)))
    replace SC := SC.wr W172
    replace SA := SA.wr W172
    replace SHI := SHI.wr W172
    replace SLO := SLO.wr W172
    replace KK := KK.wr W172 (Or.inl (List.mem_of_getElem? (i := 0) rfl))
    replace Vq170 := Vq170.other W172 (Ne.symm ne_a1_u170)
    have N172 := Fr.snoc X172 N171 g_a1
    refine own_of (U' := (T172.setTop (mkF m 51 #[.val (.ref a1), .val (.ref a2), .val (.int (0 : Int32)), .val (.int (2 : Int32)), .val .null, .val (.ref u170)] []))) (st172) ?_
    refine own_aloadN X172 hx hby d3_51 rfl rfl ?_
    refine own_aload X172 hx hby d3_52 rfl rfl ?_
    obtain ⟨T173, h173, X173, e173, W173, st173⟩ := putF X172 hx hZ hown (host := "") (Or.inl (own_w hw 27 rfl)) Via.refl e172 Fv E1 (Or.inr ⟨(own_w hw 23 rfl), rfl, hnm⟩) (own_w hw 9 rfl) (ty := (.array .byte)) (by decide) rfl rfl (g := (mkF m 54 #[.val (.ref a1), .val (.ref a2), .val (.int (0 : Int32)), .val (.int (2 : Int32)), .val .null, .val (.ref u170)] [(.ref u170), (.ref a1)])) rfl rfl (hb hby d3_54)
    replace Z0 := Nat.le_trans Z0 (Keep.of_wr W173).1
    replace E1 := E1.wr W173
    replace Fc := Fc.other W173 (Or.inr (slot_ne (Or.inr (own_w hw 24 rfl)) (Or.inr (own_w hw 23 rfl)) (by decide) (t := .byte) (t' := (.array .byte)) (by decide) (by decide)))
    replace Fv := Fv.same W173
    replace SC := SC.wr W173
    replace SA := SA.wr W173
    replace SHI := SHI.wr W173
    replace SLO := SLO.wr W173
    replace KK := KK.wr W173 (Or.inl (List.mem_of_getElem? (i := 0) rfl))
    replace Vq170 := Vq170.other W173 (Ne.symm ne_a1_u170)
    have N173 := Fr.snoc X173 N172 g_a1
    refine own_of (U' := (T173.setTop (mkF m 57 #[.val (.ref a1), .val (.ref a2), .val (.int (0 : Int32)), .val (.int (2 : Int32)), .val .null, .val (.ref u170)] []))) (st173) ?_
    exact own_ret0 X173 hx hlk Bd.returns (hb hby d3_57) (by decide) (by decide) (by rw [e173]; exact ⟨rfl, N173, KK, ⟨E1, u170, ku170, Fv, Or.inl ⟨Fc, Vq170, (List.forall_mem_cons.mpr ⟨qB0, (List.forall_mem_cons.mpr ⟨qB1, (fun _ h => nomatch h)⟩)⟩)⟩⟩⟩)
theorem ef_si2 (m : MethodId) (x0 : Addr) (x1 : Addr) : entryFrame m #[(.ref x0), (.ref x1)] 2 = mkF m 0 #[.val (.ref x0), .val (.ref x1)] [] := by first | (simp [entryFrame, mkF, argsToLocals, Value.category]; done) | rfl
set_option maxRecDepth 65536 in
set_option maxHeartbeats 40000000 in
theorem rmsi2 (l : Launch) (Z : State) (a0 : Array Value) (hw : ∀ d ∈ tables_1, d.before a0 Z = true) (ws : List Jvm.Cond) (a1 a2 : Addr) (kc : ClassId) (c0 c1 : Int32) (g1 : Int32) (h0 : Heap) (n0 : Nat) (Z0 : n0 ≤ h0.size) (E1 : Exa Z h0 a1 "java/lang/String") (Fc : Fld Z h0 a1 "java/lang/String" "coder" "B" (.int (0 : Int32))) (Fv : Fld Z h0 a1 "java/lang/String" "value" "[B" .null) (Vc : Arv Z h0 a2 kc .char (2 : Int32) [(.int c0), (.int c1)] (.int (0 : Int32))) (g_a1 : n0 ≤ a1) (hb0 : 0 ≤ c0.toInt ∧ c0.toInt < 65536) (hb1 : 0 ≤ c1.toInt ∧ c1.toInt < 65536) (SC : Sta Z h0 "java/lang/String" "COMPACT_STRINGS" "Z" (.int g1)) (hg1 : ¬ (g1 = (0 : Int32))) (SA : Sta Z h0 "java/lang/StringUTF16" "$assertionsDisabled" "Z" (.int (1 : Int32))) (SHI : Sta Z h0 "java/lang/StringUTF16" "HI_BYTE_SHIFT" "I" (.int (0 : Int32))) (SLO : Sta Z h0 "java/lang/StringUTF16" "LO_BYTE_SHIFT" "I" (.int (8 : Int32))) :
    MetFree l mN_20 (head1 (Jvm.Cond.code mN_20 jdk_42_method_3_code 2 none :: ws) ({ frames := 5, cells := 2, slots := 6, locals := 74 } : Room)) (fun a U => a = #[(.ref a1), (.ref a2)] ∧ Z.Warmed39 U.vm ∧ U.heap = h0) (fun _ _ _ _ _ => True) (fun _ U o U' => ∃ v L, o = .returned v ∧ (Qsv2 Z a1 c0 c1 h0 n0) v U'.heap L ∧ FrameEnd U o U' L ({ frames := 5, cells := 2, slots := 6, locals := 74 } : Room).cells ({ frames := 5, cells := 2, slots := 6, locals := 74 } : Room).slots) := by
  refine MetFree.of_bodySF (plainFor_of_name pn_1) hisR ?_
  intro p e s m args below meth c s₁ Bd hml0 hP hK
  obtain ⟨rfl, hZ, hh⟩ := hP
  have hx := Bd.exec
  have hby := Bd.bytes
  have hml : c.maxLocals = 2 := hml0
  have hown : s.vm.findClass "java/lang/String" = some m.cls := findClass_of_methodNamed Bd.named
  have hnm := (name_of_methodNamed Bd.named Bd.method).1
  have hlk := Bd.notSynchronized
  have X0 : Stand p l e ({ frames := 5, cells := 2, slots := 6, locals := 74 } : Room) s m #[(.ref a1), (.ref a2)] below meth c s₁ [] 0 0 := Stand.of_body Bd
  have e0 : s₁.heap = h0 := by rw [← hh, Bd.state]; rfl
  have N0 := Fr.nil n0
  have KK := Keep.refl h0 [a1]
  show own_Ends p e below s FrameEnd (Qsv2 Z a1 c0 c1 h0 n0) 2 6 (s₁.setTop (entryFrame m #[(.ref a1), (.ref a2)] 2))
  refine own_of (U' := (s₁.setTop (mkF m 0 #[.val (.ref a1), .val (.ref a2)] []))) (fun _ k => castTop (ef_si2 m a1 a2) k) ?_
  refine own_aloadN X0 hx hby d2_0 rfl rfl ?_
  refine own_aloadN X0 hx hby d2_1 rfl rfl ?_
  refine own_iconst X0 hx hby 0 d2_2 rfl ?_
  refine own_aloadN X0 hx hby d2_3 rfl rfl ?_
  obtain ⟨cl174, Ar174, qa174, Sa174, Na174, -, -⟩ := id Vc
  have al174 := X0.arraylength hx (by rw [e0]; exact Ar174.1) (State.isArrayOf_alike hZ.alike Ar174.2.1) (g := (mkF m 4 #[.val (.ref a1), .val (.ref a2)] [(.ref a2), (.int (0 : Int32)), (.ref a2), (.ref a1)])) rfl rfl (hb hby d2_4)
  rw [len_of Sa174 Na174] at al174
  refine own_of (U' := (s₁.setTop (mkF m 5 #[.val (.ref a1), .val (.ref a2)] [(.int (2 : Int32)), (.int (0 : Int32)), (.ref a2), (.ref a1)]))) (al174) ?_
  refine own_aconstNull X0 hx hby d2_5 ?_
  obtain ⟨_, _, ⟨T175, L175, k175, n175⟩, -, X175, ⟨Lc175, hQ175, l175, y175, z175⟩, st175⟩ := X0.specialBack hx (y := mN_19) rfl hown (mvT hZ (own_w hw 14 rfl)) (mvT hZ (own_w hw 15 rfl)) (mvT hZ (own_w hw 17 rfl)) (by decide) (backOf (W := 0) (rmsv2 l Z a0 hw [] a1 a2 kc c0 c1 g1 h0 n0 Z0 E1 Fc Fv Vc g_a1 hb0 hb1 SC hg1 SA SHI SLO) hZ (own_w hw 17 rfl) (own_w hw 10 rfl) (by decide) (by decide)) (g := (mkF m 6 #[.val (.ref a1), .val (.ref a2)] [.null, (.int (2 : Int32)), (.int (0 : Int32)), (.ref a2), (.ref a1)])) rfl (by rw [hml]; rfl) (Steps.refl _) (a := a1) (argsL := [(.ref a2), (.int (0 : Int32)), (.int (2 : Int32)), .null]) (rest := []) (lenOf pd_13 rfl) rfl (by show 2 * 0 + _ ≤ _; exact Nat.le_of_eq rfl) (hb hby d2_6) (fun _ _ => ⟨rfl, e0, (by decide : 0 + 2 ≤ _), (by decide : 0 + 6 ≤ _)⟩)
  dsimp only [Pt.U, Pt.locs, Pt.cells, Pt.slots] at X175 l175 y175 z175 st175 hQ175
  subst l175 y175 z175
  obtain ⟨rfl, Nq175, Kp175, Tq175⟩ := hQ175
  have N175 := Fr.app N0 Nq175
  have nst_a1 := E1.nostat
  replace Z0 := Nat.le_trans Z0 Kp175.1
  replace E1 := E1.keep Kp175
  replace SC := own_staKeep SC Kp175 (nsS nst_a1 ns0)
  replace SA := own_staKeep SA Kp175 (nsS nst_a1 ns0)
  replace SHI := own_staKeep SHI Kp175 (nsS nst_a1 ns0)
  replace SLO := own_staKeep SLO Kp175 (nsS nst_a1 ns0)
  replace KK := KK.trans Kp175 (allS (Or.inl (List.mem_of_getElem? (i := 0) rfl)) all0)
  refine own_of (U' := (T175.setTop (mkF m 9 #[.val (.ref a1), .val (.ref a2)] []))) (fun _ k => st175.trans k) ?_
  exact own_ret0 X175 hx hlk Bd.returns (hb hby d2_9) (by decide) (by decide) (⟨rfl, N175, KK, Tq175⟩)
theorem ef_nl3 (m : MethodId)  : entryFrame m #[(.int (3 : Int32))] 1 = mkF m 0 #[.val (.int (3 : Int32))] [] := by first | (simp [entryFrame, mkF, argsToLocals, Value.category]; done) | rfl
set_option maxRecDepth 65536 in
set_option maxHeartbeats 40000000 in
theorem rmnl3 (l : Launch) (Z : State) (a0 : Array Value) (hw : ∀ d ∈ tables_1, d.before a0 Z = true) (ws : List Jvm.Cond)  (h0 : Heap) (n0 : Nat) (Z0 : n0 ≤ h0.size)  :
    MetFree l mN_13 (head1 (Jvm.Cond.code mN_13 jdk_52_method_3_code 1 (some .int) :: ws) ({ frames := 0, cells := 0, slots := 0, locals := 0 } : Room)) (fun a U => a = #[(.int (3 : Int32))] ∧ Z.Warmed39 U.vm ∧ U.heap = h0) (fun _ _ _ _ _ => True) (fun _ U o U' => ∃ v L, o = .returned v ∧ (Qv 6 h0 n0) v U'.heap L ∧ FrameEnd U o U' L ({ frames := 0, cells := 0, slots := 0, locals := 0 } : Room).cells ({ frames := 0, cells := 0, slots := 0, locals := 0 } : Room).slots) := by
  refine MetFree.of_bodySF (plainFor_of_name pn_2) hisR ?_
  intro p e s m args below meth c s₁ Bd hml0 hP hK
  obtain ⟨rfl, hZ, hh⟩ := hP
  have hx := Bd.exec
  have hby := Bd.bytes
  have hml : c.maxLocals = 1 := hml0
  have hown : s.vm.findClass "java/lang/StringUTF16" = some m.cls := findClass_of_methodNamed Bd.named
  have hnm := (name_of_methodNamed Bd.named Bd.method).1
  have hlk := Bd.notSynchronized
  have X0 : Stand p l e ({ frames := 0, cells := 0, slots := 0, locals := 0 } : Room) s m #[(.int (3 : Int32))] below meth c s₁ [] 0 0 := Stand.of_body Bd
  have e0 : s₁.heap = h0 := by rw [← hh, Bd.state]; rfl
  have N0 := Fr.nil n0
  show own_Ends p e below s FrameEnd (Qv 6 h0 n0) 0 0 (s₁.setTop (entryFrame m #[(.int (3 : Int32))] 1))
  refine own_of (U' := (s₁.setTop (mkF m 0 #[.val (.int (3 : Int32))] []))) (fun _ k => castTop (ef_nl3 m) k) ?_
  refine own_iloadN X0 hx hby d20_0 rfl ?_
  have hc1_176 : ¬ ((3 : Int32) < (0 : Int32)) := by decide
  refine own_ifYes X0 hx hby 1 12 d20_1 ((if0 _ _).trans (flt hc1_176).2.1) (by decide) (by decide) ?_
  refine own_iloadN X0 hx hby d20_12 rfl ?_
  refine own_of (U' := (s₁.setTop (mkF m 15 #[.val (.int (3 : Int32))] [(.int (1073741823 : Int32)), (.int (3 : Int32))]))) (X0.ldcInt hx hown (mvT hZ (own_w hw 93 rfl)) (g := (mkF m 13 #[.val (.int (3 : Int32))] [(.int (3 : Int32))])) rfl (hb hby d20_13)) ?_
  have hc15_177 : (3 : Int32) < (1073741823 : Int32) := by decide
  refine own_icmpYes X0 hx hby 15 55 d20_15 (tlt hc15_177).1 (by decide) (by decide) ?_
  refine own_iloadN X0 hx hby d20_55 rfl ?_
  refine own_iconst X0 hx hby 1 d20_56 rfl ?_
  refine own_ishl X0 hx hby d20_57 ?_
  refine own_eq (U' := (s₁.setTop (mkF m 58 #[.val (.int (3 : Int32))] [(.int (6 : Int32))]))) (by rw [show ((3 : Int32) <<< ((1 : Int32) &&& 31)) = (6 : Int32) by decide]) ?_
  exact own_retI X0 hx hlk Bd.returns (hb hby d20_58) (by decide) (by decide) (⟨rfl, N0, e0⟩)
theorem ef_nb3 (m : MethodId)  : entryFrame m #[(.int (3 : Int32))] 1 = mkF m 0 #[.val (.int (3 : Int32))] [] := by first | (simp [entryFrame, mkF, argsToLocals, Value.category]; done) | rfl
def Qnb3 (Z : State) (h0 : Heap) (n0 : Nat) (v : Option Value) (h : Heap) (L : List Loc) : Prop := ∃ (b : Addr) (kb : ClassId), v = some (.ref b) ∧ Fr n0 L ∧ Keep h0 h [] ∧ h0.size ≤ b ∧ Arv Z h b kb .byte (6 : Int32) [(.int (0 : Int32)), (.int (0 : Int32)), (.int (0 : Int32)), (.int (0 : Int32)), (.int (0 : Int32)), (.int (0 : Int32))] (.int (0 : Int32))
set_option maxRecDepth 65536 in
set_option maxHeartbeats 40000000 in
theorem rmnb3 (l : Launch) (Z : State) (a0 : Array Value) (hw : ∀ d ∈ tables_1, d.before a0 Z = true) (ws : List Jvm.Cond)  (h0 : Heap) (n0 : Nat) (Z0 : n0 ≤ h0.size)  :
    MetFree l mN_14 (head1 (Jvm.Cond.code mN_14 jdk_52_method_2_code 1 (some (.array .byte)) :: ws) ({ frames := 1, cells := 1, slots := 6, locals := 12 } : Room)) (fun a U => a = #[(.int (3 : Int32))] ∧ Z.Warmed39 U.vm ∧ U.heap = h0) (fun _ _ _ _ _ => True) (fun _ U o U' => ∃ v L, o = .returned v ∧ (Qnb3 Z h0 n0) v U'.heap L ∧ FrameEnd U o U' L ({ frames := 1, cells := 1, slots := 6, locals := 12 } : Room).cells ({ frames := 1, cells := 1, slots := 6, locals := 12 } : Room).slots) := by
  refine MetFree.of_bodySF (plainFor_of_name pn_2) hisR ?_
  intro p e s m args below meth c s₁ Bd hml0 hP hK
  obtain ⟨rfl, hZ, hh⟩ := hP
  have hx := Bd.exec
  have hby := Bd.bytes
  have hml : c.maxLocals = 1 := hml0
  have hown : s.vm.findClass "java/lang/StringUTF16" = some m.cls := findClass_of_methodNamed Bd.named
  have hnm := (name_of_methodNamed Bd.named Bd.method).1
  have hlk := Bd.notSynchronized
  have X0 : Stand p l e ({ frames := 1, cells := 1, slots := 6, locals := 12 } : Room) s m #[(.int (3 : Int32))] below meth c s₁ [] 0 0 := Stand.of_body Bd
  have e0 : s₁.heap = h0 := by rw [← hh, Bd.state]; rfl
  have N0 := Fr.nil n0
  have KK := Keep.refl h0 []
  show own_Ends p e below s FrameEnd (Qnb3 Z h0 n0) 1 6 (s₁.setTop (entryFrame m #[(.int (3 : Int32))] 1))
  refine own_of (U' := (s₁.setTop (mkF m 0 #[.val (.int (3 : Int32))] []))) (fun _ k => castTop (ef_nb3 m) k) ?_
  refine own_iloadN X0 hx hby d19_0 rfl ?_
  obtain ⟨_, _, ⟨T178, L178, k178, n178⟩, -, X178, ⟨Lc178, hQ178, l178, y178, z178⟩, st178⟩ := Jvm.LawKit.callS X0 hx (y := mN_13) hown (mvT hZ (own_w hw 90 rfl)) (mvT hZ (own_w hw 91 rfl)) (mvT hZ (own_w hw 51 rfl)) (mvT hZ (own_w hw 92 rfl)) (by decide) (backOf (W := 0) (rmnl3 l Z a0 hw []  h0 n0 Z0 ) hZ (own_w hw 92 rfl) (own_w hw 51 rfl) (by decide) (by decide)) (g := (mkF m 1 #[.val (.int (3 : Int32))] [(.int (3 : Int32))])) rfl (by rw [hml]; rfl) (argsL := [(.int (3 : Int32))]) (rest := []) (lenOf pd_7 rfl) rfl (by show 2 * 0 + _ ≤ _; exact Nat.le_of_eq rfl) (hb hby d19_1) (fun _ _ => ⟨rfl, e0, (by decide : 0 + 0 ≤ _), (by decide : 0 + 0 ≤ _)⟩)
  dsimp only [Pt.U, Pt.locs, Pt.cells, Pt.slots] at X178 l178 y178 z178 st178 hQ178
  subst l178 y178 z178
  obtain ⟨rfl, Nq178, e178⟩ := hQ178
  have N178 := Fr.app N0 Nq178
  refine own_of (U' := (T178.setTop (mkF m 4 #[.val (.int (3 : Int32))] [(.int (6 : Int32))]))) (st178) ?_
  obtain ⟨T179, h179, k179, X179, e179, E179, A179, st179⟩ := newP X178 hx hZ (own_w hw 22 rfl) e178 (g := (mkF m 4 #[.val (.int (3 : Int32))] [(.int (6 : Int32))])) rfl (hb hby d19_4) rfl (by decide) (cap := 6) (by decide) (by decide) (by decide) (by decide)
  obtain ⟨b179, gz179⟩ : ∃ z, z = h0.size := ⟨_, rfl⟩
  rw [← gz179] at A179 st179
  have g_b179 : n0 ≤ b179 := Nat.le_trans Z0 (Nat.le_of_eq gz179.symm)
  have sz_b179 : h0.size ≤ b179 := Nat.le_trans KK.1 (Nat.le_of_eq gz179.symm)
  replace Z0 := Nat.le_trans Z0 E179.1
  replace KK := KK.ext E179
  have V179 : Arv Z h179 b179 k179 .byte (6 : Int32) [(.int (0 : Int32)), (.int (0 : Int32)), (.int (0 : Int32)), (.int (0 : Int32)), (.int (0 : Int32)), (.int (0 : Int32))] (.int (0 : Int32)) := (Arv.new A179 (by decide)).pad (pad_rep [] (.int (0 : Int32)) 6)
  refine own_of (U' := (T179.setTop (mkF m 6 #[.val (.int (3 : Int32))] [(.ref b179)]))) (st179) ?_
  exact own_retA X179 hx hlk Bd.returns rfl rfl (hb hby d19_6) (by decide) (by decide) (by rw [e179]; exact ⟨b179, k179, rfl, N178, KK, sz_b179, V179⟩)
theorem ef_tb3 (m : MethodId) (x0 : Addr) : entryFrame m #[(.ref x0), (.int (0 : Int32)), (.int (3 : Int32))] 5 = mkF m 0 #[.val (.ref x0), .val (.int (0 : Int32)), .val (.int (3 : Int32)), .unset, .unset] [] := by first | (simp [entryFrame, mkF, argsToLocals, Value.category]; done) | rfl
def Qtb3 (Z : State) (c0 c1 c2 : Int32) (h0 : Heap) (n0 : Nat) (v : Option Value) (h : Heap) (L : List Loc) : Prop := ∃ (b : Addr) (kb : ClassId), v = some (.ref b) ∧ Fr n0 L ∧ Keep h0 h [] ∧ h0.size ≤ b ∧ Arv Z h b kb .byte (6 : Int32) [(.int (own_lo8 c0)), (.int (own_hi8 c0)), (.int (own_lo8 c1)), (.int (own_hi8 c1)), (.int (own_lo8 c2)), (.int (own_hi8 c2))] (.int (0 : Int32))
set_option maxRecDepth 65536 in
set_option maxHeartbeats 40000000 in
theorem rmtb3 (l : Launch) (Z : State) (a0 : Array Value) (hw : ∀ d ∈ tables_1, d.before a0 Z = true) (ws : List Jvm.Cond) (a1 : Addr) (kc : ClassId) (c0 c1 c2 : Int32) (h0 : Heap) (n0 : Nat) (Z0 : n0 ≤ h0.size) (Vc : Arv Z h0 a1 kc .char (3 : Int32) [(.int c0), (.int c1), (.int c2)] (.int (0 : Int32))) (SA : Sta Z h0 "java/lang/StringUTF16" "$assertionsDisabled" "Z" (.int (1 : Int32))) (SHI : Sta Z h0 "java/lang/StringUTF16" "HI_BYTE_SHIFT" "I" (.int (0 : Int32))) (SLO : Sta Z h0 "java/lang/StringUTF16" "LO_BYTE_SHIFT" "I" (.int (8 : Int32))) :
    MetFree l mN_15 (head1 (Jvm.Cond.code mN_15 jdk_52_method_14_code 5 (some (.array .byte)) :: ws) ({ frames := 2, cells := 1, slots := 6, locals := 24 } : Room)) (fun a U => a = #[(.ref a1), (.int (0 : Int32)), (.int (3 : Int32))] ∧ Z.Warmed39 U.vm ∧ U.heap = h0) (fun _ _ _ _ _ => True) (fun _ U o U' => ∃ v L, o = .returned v ∧ (Qtb3 Z c0 c1 c2 h0 n0) v U'.heap L ∧ FrameEnd U o U' L ({ frames := 2, cells := 1, slots := 6, locals := 24 } : Room).cells ({ frames := 2, cells := 1, slots := 6, locals := 24 } : Room).slots) := by
  refine MetFree.of_bodySF (plainFor_of_name pn_2) hisR ?_
  intro p e s m args below meth c s₁ Bd hml0 hP hK
  obtain ⟨rfl, hZ, hh⟩ := hP
  have hx := Bd.exec
  have hby := Bd.bytes
  have hml : c.maxLocals = 5 := hml0
  have hown : s.vm.findClass "java/lang/StringUTF16" = some m.cls := findClass_of_methodNamed Bd.named
  have hnm := (name_of_methodNamed Bd.named Bd.method).1
  have hlk := Bd.notSynchronized
  have X0 : Stand p l e ({ frames := 2, cells := 1, slots := 6, locals := 24 } : Room) s m #[(.ref a1), (.int (0 : Int32)), (.int (3 : Int32))] below meth c s₁ [] 0 0 := Stand.of_body Bd
  have e0 : s₁.heap = h0 := by rw [← hh, Bd.state]; rfl
  have N0 := Fr.nil n0
  have KK := Keep.refl h0 []
  show own_Ends p e below s FrameEnd (Qtb3 Z c0 c1 c2 h0 n0) 1 6 (s₁.setTop (entryFrame m #[(.ref a1), (.int (0 : Int32)), (.int (3 : Int32))] 5))
  refine own_of (U' := (s₁.setTop (mkF m 0 #[.val (.ref a1), .val (.int (0 : Int32)), .val (.int (3 : Int32)), .unset, .unset] []))) (fun _ k => castTop (ef_tb3 m a1) k) ?_
  refine own_iloadN X0 hx hby d18_0 rfl ?_
  obtain ⟨_, _, ⟨T180, L180, k180, n180⟩, -, X180, ⟨Lc180, hQ180, l180, y180, z180⟩, st180⟩ := Jvm.LawKit.callS X0 hx (y := mN_14) hown (mvT hZ (own_w hw 87 rfl)) (mvT hZ (own_w hw 88 rfl)) (mvT hZ (own_w hw 51 rfl)) (mvT hZ (own_w hw 89 rfl)) (by decide) (backOf (W := 0) (rmnb3 l Z a0 hw []  h0 n0 Z0 ) hZ (own_w hw 89 rfl) (own_w hw 51 rfl) (by decide) (by decide)) (g := (mkF m 1 #[.val (.ref a1), .val (.int (0 : Int32)), .val (.int (3 : Int32)), .unset, .unset] [(.int (3 : Int32))])) rfl (by rw [hml]; rfl) (argsL := [(.int (3 : Int32))]) (rest := []) (lenOf pd_8 rfl) rfl (by show 2 * 0 + _ ≤ _; exact Nat.le_of_eq rfl) (hb hby d18_1) (fun _ _ => ⟨rfl, e0, (by decide : 0 + 1 ≤ _), (by decide : 0 + 6 ≤ _)⟩)
  dsimp only [Pt.U, Pt.locs, Pt.cells, Pt.slots] at X180 l180 y180 z180 st180 hQ180
  subst l180 y180 z180
  obtain ⟨u180, ku180, rfl, Nq180, Kp180, gq180, Vq180⟩ := hQ180
  have g_u180 : n0 ≤ u180 := Nat.le_trans Z0 gq180
  have sz_u180 : h0.size ≤ u180 := Nat.le_trans KK.1 gq180
  have ne_a1_u180 : a1 ≠ u180 := Nat.ne_of_lt (Nat.lt_of_lt_of_le Vc.lt gq180)
  have N180 := Fr.app N0 Nq180
  replace Z0 := Nat.le_trans Z0 Kp180.1
  replace Vc := Vc.keep Kp180 nin0
  replace SA := own_staKeep SA Kp180 ns0
  replace SHI := own_staKeep SHI Kp180 ns0
  replace SLO := own_staKeep SLO Kp180 ns0
  replace KK := KK.trans Kp180 all0
  refine own_of (U' := (T180.setTop (mkF m 4 #[.val (.ref a1), .val (.int (0 : Int32)), .val (.int (3 : Int32)), .unset, .unset] [(.ref u180)]))) (st180) ?_
  refine own_astoreN X180 hx hby d18_4 rfl (l' := #[.val (.ref a1), .val (.int (0 : Int32)), .val (.int (3 : Int32)), .val (.ref u180), .unset]) rfl ?_
  refine own_iconst X180 hx hby 0 d18_5 rfl ?_
  refine own_istore X180 hx hby d18_6 (l' := #[.val (.ref a1), .val (.int (0 : Int32)), .val (.int (3 : Int32)), .val (.ref u180), .val (.int (0 : Int32))]) rfl ?_
  refine own_iload X180 hx hby d18_8 rfl ?_
  refine own_iloadN X180 hx hby d18_10 rfl ?_
  have hc11_181 : (0 : Int32) < (3 : Int32) := by decide
  refine own_icmpNo X180 hx hby d18_11 (tlt hc11_181).2.1 ?_
  refine own_aloadN X180 hx hby d18_14 rfl rfl ?_
  refine own_iload X180 hx hby d18_15 rfl ?_
  refine own_aloadN X180 hx hby d18_17 rfl rfl ?_
  refine own_iloadN X180 hx hby d18_18 rfl ?_
  obtain ⟨cl182, Ar182, qa182, Sa182, Na182, Ha182, Ga182⟩ := id Vc
  have hin182 : ¬ ((0 : Int32) < 0 ∨ cl182.slots.size ≤ ((0 : Int32)).toNatClampNeg) := inb_of Sa182 ⟨by decide, by decide⟩
  have hat182 : cl182.slots[((0 : Int32)).toNatClampNeg]? = some (.int c0) := Has.at Ha182 hin182 rfl
  refine own_of (U' := (T180.setTop (mkF m 20 #[.val (.ref a1), .val (.int (0 : Int32)), .val (.int (3 : Int32)), .val (.ref u180), .val (.int (0 : Int32))] [(.int c0), (.int (0 : Int32)), (.ref u180)]))) (X180.caload hx (j := (0 : Int32)) (v := (.int c0)) Ar182.1 (State.isArrayOf_alike hZ.alike Ar182.2.1) Ar182.2.2 hin182 hat182 (g := (mkF m 19 #[.val (.ref a1), .val (.int (0 : Int32)), .val (.int (3 : Int32)), .val (.ref u180), .val (.int (0 : Int32))] [(.int (0 : Int32)), (.ref a1), (.int (0 : Int32)), (.ref u180)])) rfl rfl (hb hby d18_19)) ?_
  obtain ⟨_, _, ⟨T183, L183, k183, n183⟩, -, X183, ⟨Lc183, hQ183, l183, y183, z183⟩, st183⟩ := Jvm.LawKit.callS X180 hx (y := mN_12) hown (mvT hZ (own_w hw 94 rfl)) (mvT hZ (own_w hw 95 rfl)) (mvT hZ (own_w hw 51 rfl)) (mvT hZ (own_w hw 96 rfl)) (by decide) (backOf (W := 0) (rmpc l Z a0 hw [] u180 (0 : Int32) c0 ku180 (6 : Int32) [(0 : Int32), (0 : Int32), (0 : Int32), (0 : Int32), (0 : Int32), (0 : Int32)] 0 T180.heap n0 Z0 Vq180 (by decide) (by decide) (by decide) (by decide) (by decide) (by decide) (Nat.le_of_ble_eq_true rfl) (Nat.le_of_ble_eq_true rfl) SA SHI SLO g_u180) hZ (own_w hw 96 rfl) (own_w hw 51 rfl) (by decide) (by decide)) (g := (mkF m 20 #[.val (.ref a1), .val (.int (0 : Int32)), .val (.int (3 : Int32)), .val (.ref u180), .val (.int (0 : Int32))] [(.int c0), (.int (0 : Int32)), (.ref u180)])) rfl (by rw [hml]; rfl) (argsL := [(.ref u180), (.int (0 : Int32)), (.int c0)]) (rest := []) (lenOf pd_9 rfl) rfl (by show 2 * 0 + _ ≤ _; exact Nat.le_of_eq rfl) (hb hby d18_20) (fun _ _ => ⟨rfl, rfl, (by decide : 1 + 0 ≤ _), (by decide : 6 + 0 ≤ _)⟩)
  dsimp only [Pt.U, Pt.locs, Pt.cells, Pt.slots] at X183 l183 y183 z183 st183 hQ183
  subst l183 y183 z183
  obtain ⟨rfl, Nq183, Kp183, Vq183⟩ := hQ183
  have N183 := Fr.app N180 Nq183
  have nst_u180 := Vq180.nostat
  replace Z0 := Nat.le_trans Z0 Kp183.1
  replace Vc := Vc.keep Kp183 (ninS ne_a1_u180 nin0)
  replace SA := own_staKeep SA Kp183 (nsS nst_u180 ns0)
  replace SHI := own_staKeep SHI Kp183 (nsS nst_u180 ns0)
  replace SLO := own_staKeep SLO Kp183 (nsS nst_u180 ns0)
  replace KK := KK.trans Kp183 (allS (Or.inr sz_u180) all0)
  have V183 : Arv Z T183.heap u180 ku180 .byte (6 : Int32) [(.int (own_lo8 c0)), (.int (own_hi8 c0)), (.int (0 : Int32)), (.int (0 : Int32)), (.int (0 : Int32)), (.int (0 : Int32))] (.int (0 : Int32)) := Vq183
  refine own_of (U' := (T183.setTop (mkF m 23 #[.val (.ref a1), .val (.int (0 : Int32)), .val (.int (3 : Int32)), .val (.ref u180), .val (.int (0 : Int32))] []))) (st183) ?_
  refine own_iinc X183 hx hby d18_23 rfl (l' := #[.val (.ref a1), .val (.int ((0 : Int32) + (1 : Int32))), .val (.int (3 : Int32)), .val (.ref u180), .val (.int (0 : Int32))]) rfl ?_
  refine own_eq (U' := (T183.setTop (mkF m 26 #[.val (.ref a1), .val (.int (1 : Int32)), .val (.int (3 : Int32)), .val (.ref u180), .val (.int (0 : Int32))] []))) (by rw [show ((0 : Int32) + (1 : Int32)) = (1 : Int32) by decide]) ?_
  refine own_iinc X183 hx hby d18_26 rfl (l' := #[.val (.ref a1), .val (.int (1 : Int32)), .val (.int (3 : Int32)), .val (.ref u180), .val (.int ((0 : Int32) + (1 : Int32)))]) rfl ?_
  refine own_eq (U' := (T183.setTop (mkF m 29 #[.val (.ref a1), .val (.int (1 : Int32)), .val (.int (3 : Int32)), .val (.ref u180), .val (.int (1 : Int32))] []))) (by rw [show ((0 : Int32) + (1 : Int32)) = (1 : Int32) by decide]) ?_
  refine own_goto X183 hx hby 29 8 d18_29 (by decide) (by decide) ?_
  refine own_iload X183 hx hby d18_8 rfl ?_
  refine own_iloadN X183 hx hby d18_10 rfl ?_
  have hc11_184 : (1 : Int32) < (3 : Int32) := by decide
  refine own_icmpNo X183 hx hby d18_11 (tlt hc11_184).2.1 ?_
  refine own_aloadN X183 hx hby d18_14 rfl rfl ?_
  refine own_iload X183 hx hby d18_15 rfl ?_
  refine own_aloadN X183 hx hby d18_17 rfl rfl ?_
  refine own_iloadN X183 hx hby d18_18 rfl ?_
  obtain ⟨cl185, Ar185, qa185, Sa185, Na185, Ha185, Ga185⟩ := id Vc
  have hin185 : ¬ ((1 : Int32) < 0 ∨ cl185.slots.size ≤ ((1 : Int32)).toNatClampNeg) := inb_of Sa185 ⟨by decide, by decide⟩
  have hat185 : cl185.slots[((1 : Int32)).toNatClampNeg]? = some (.int c1) := Has.at Ha185 hin185 rfl
  refine own_of (U' := (T183.setTop (mkF m 20 #[.val (.ref a1), .val (.int (1 : Int32)), .val (.int (3 : Int32)), .val (.ref u180), .val (.int (1 : Int32))] [(.int c1), (.int (1 : Int32)), (.ref u180)]))) (X183.caload hx (j := (1 : Int32)) (v := (.int c1)) Ar185.1 (State.isArrayOf_alike hZ.alike Ar185.2.1) Ar185.2.2 hin185 hat185 (g := (mkF m 19 #[.val (.ref a1), .val (.int (1 : Int32)), .val (.int (3 : Int32)), .val (.ref u180), .val (.int (1 : Int32))] [(.int (1 : Int32)), (.ref a1), (.int (1 : Int32)), (.ref u180)])) rfl rfl (hb hby d18_19)) ?_
  obtain ⟨_, _, ⟨T186, L186, k186, n186⟩, -, X186, ⟨Lc186, hQ186, l186, y186, z186⟩, st186⟩ := Jvm.LawKit.callS X183 hx (y := mN_12) hown (mvT hZ (own_w hw 94 rfl)) (mvT hZ (own_w hw 95 rfl)) (mvT hZ (own_w hw 51 rfl)) (mvT hZ (own_w hw 96 rfl)) (by decide) (backOf (W := 0) (rmpc l Z a0 hw [] u180 (1 : Int32) c1 ku180 (6 : Int32) [(own_lo8 c0), (own_hi8 c0), (0 : Int32), (0 : Int32), (0 : Int32), (0 : Int32)] 2 T183.heap n0 Z0 V183 (by decide) (by decide) (by decide) (by decide) (by decide) (by decide) (Nat.le_of_ble_eq_true rfl) (Nat.le_of_ble_eq_true rfl) SA SHI SLO g_u180) hZ (own_w hw 96 rfl) (own_w hw 51 rfl) (by decide) (by decide)) (g := (mkF m 20 #[.val (.ref a1), .val (.int (1 : Int32)), .val (.int (3 : Int32)), .val (.ref u180), .val (.int (1 : Int32))] [(.int c1), (.int (1 : Int32)), (.ref u180)])) rfl (by rw [hml]; rfl) (argsL := [(.ref u180), (.int (1 : Int32)), (.int c1)]) (rest := []) (lenOf pd_9 rfl) rfl (by show 2 * 0 + _ ≤ _; exact Nat.le_of_eq rfl) (hb hby d18_20) (fun _ _ => ⟨rfl, rfl, (by decide : 1 + 0 ≤ _), (by decide : 6 + 0 ≤ _)⟩)
  dsimp only [Pt.U, Pt.locs, Pt.cells, Pt.slots] at X186 l186 y186 z186 st186 hQ186
  subst l186 y186 z186
  obtain ⟨rfl, Nq186, Kp186, Vq186⟩ := hQ186
  have N186 := Fr.app N183 Nq186
  have nst_u180 := V183.nostat
  replace Z0 := Nat.le_trans Z0 Kp186.1
  replace Vc := Vc.keep Kp186 (ninS ne_a1_u180 nin0)
  replace SA := own_staKeep SA Kp186 (nsS nst_u180 ns0)
  replace SHI := own_staKeep SHI Kp186 (nsS nst_u180 ns0)
  replace SLO := own_staKeep SLO Kp186 (nsS nst_u180 ns0)
  replace KK := KK.trans Kp186 (allS (Or.inr sz_u180) all0)
  have V186 : Arv Z T186.heap u180 ku180 .byte (6 : Int32) [(.int (own_lo8 c0)), (.int (own_hi8 c0)), (.int (own_lo8 c1)), (.int (own_hi8 c1)), (.int (0 : Int32)), (.int (0 : Int32))] (.int (0 : Int32)) := Vq186
  refine own_of (U' := (T186.setTop (mkF m 23 #[.val (.ref a1), .val (.int (1 : Int32)), .val (.int (3 : Int32)), .val (.ref u180), .val (.int (1 : Int32))] []))) (st186) ?_
  refine own_iinc X186 hx hby d18_23 rfl (l' := #[.val (.ref a1), .val (.int ((1 : Int32) + (1 : Int32))), .val (.int (3 : Int32)), .val (.ref u180), .val (.int (1 : Int32))]) rfl ?_
  refine own_eq (U' := (T186.setTop (mkF m 26 #[.val (.ref a1), .val (.int (2 : Int32)), .val (.int (3 : Int32)), .val (.ref u180), .val (.int (1 : Int32))] []))) (by rw [show ((1 : Int32) + (1 : Int32)) = (2 : Int32) by decide]) ?_
  refine own_iinc X186 hx hby d18_26 rfl (l' := #[.val (.ref a1), .val (.int (2 : Int32)), .val (.int (3 : Int32)), .val (.ref u180), .val (.int ((1 : Int32) + (1 : Int32)))]) rfl ?_
  refine own_eq (U' := (T186.setTop (mkF m 29 #[.val (.ref a1), .val (.int (2 : Int32)), .val (.int (3 : Int32)), .val (.ref u180), .val (.int (2 : Int32))] []))) (by rw [show ((1 : Int32) + (1 : Int32)) = (2 : Int32) by decide]) ?_
  refine own_goto X186 hx hby 29 8 d18_29 (by decide) (by decide) ?_
  refine own_iload X186 hx hby d18_8 rfl ?_
  refine own_iloadN X186 hx hby d18_10 rfl ?_
  have hc11_187 : (2 : Int32) < (3 : Int32) := by decide
  refine own_icmpNo X186 hx hby d18_11 (tlt hc11_187).2.1 ?_
  refine own_aloadN X186 hx hby d18_14 rfl rfl ?_
  refine own_iload X186 hx hby d18_15 rfl ?_
  refine own_aloadN X186 hx hby d18_17 rfl rfl ?_
  refine own_iloadN X186 hx hby d18_18 rfl ?_
  obtain ⟨cl188, Ar188, qa188, Sa188, Na188, Ha188, Ga188⟩ := id Vc
  have hin188 : ¬ ((2 : Int32) < 0 ∨ cl188.slots.size ≤ ((2 : Int32)).toNatClampNeg) := inb_of Sa188 ⟨by decide, by decide⟩
  have hat188 : cl188.slots[((2 : Int32)).toNatClampNeg]? = some (.int c2) := Has.at Ha188 hin188 rfl
  refine own_of (U' := (T186.setTop (mkF m 20 #[.val (.ref a1), .val (.int (2 : Int32)), .val (.int (3 : Int32)), .val (.ref u180), .val (.int (2 : Int32))] [(.int c2), (.int (2 : Int32)), (.ref u180)]))) (X186.caload hx (j := (2 : Int32)) (v := (.int c2)) Ar188.1 (State.isArrayOf_alike hZ.alike Ar188.2.1) Ar188.2.2 hin188 hat188 (g := (mkF m 19 #[.val (.ref a1), .val (.int (2 : Int32)), .val (.int (3 : Int32)), .val (.ref u180), .val (.int (2 : Int32))] [(.int (2 : Int32)), (.ref a1), (.int (2 : Int32)), (.ref u180)])) rfl rfl (hb hby d18_19)) ?_
  obtain ⟨_, _, ⟨T189, L189, k189, n189⟩, -, X189, ⟨Lc189, hQ189, l189, y189, z189⟩, st189⟩ := Jvm.LawKit.callS X186 hx (y := mN_12) hown (mvT hZ (own_w hw 94 rfl)) (mvT hZ (own_w hw 95 rfl)) (mvT hZ (own_w hw 51 rfl)) (mvT hZ (own_w hw 96 rfl)) (by decide) (backOf (W := 0) (rmpc l Z a0 hw [] u180 (2 : Int32) c2 ku180 (6 : Int32) [(own_lo8 c0), (own_hi8 c0), (own_lo8 c1), (own_hi8 c1), (0 : Int32), (0 : Int32)] 4 T186.heap n0 Z0 V186 (by decide) (by decide) (by decide) (by decide) (by decide) (by decide) (Nat.le_of_ble_eq_true rfl) (Nat.le_of_ble_eq_true rfl) SA SHI SLO g_u180) hZ (own_w hw 96 rfl) (own_w hw 51 rfl) (by decide) (by decide)) (g := (mkF m 20 #[.val (.ref a1), .val (.int (2 : Int32)), .val (.int (3 : Int32)), .val (.ref u180), .val (.int (2 : Int32))] [(.int c2), (.int (2 : Int32)), (.ref u180)])) rfl (by rw [hml]; rfl) (argsL := [(.ref u180), (.int (2 : Int32)), (.int c2)]) (rest := []) (lenOf pd_9 rfl) rfl (by show 2 * 0 + _ ≤ _; exact Nat.le_of_eq rfl) (hb hby d18_20) (fun _ _ => ⟨rfl, rfl, (by decide : 1 + 0 ≤ _), (by decide : 6 + 0 ≤ _)⟩)
  dsimp only [Pt.U, Pt.locs, Pt.cells, Pt.slots] at X189 l189 y189 z189 st189 hQ189
  subst l189 y189 z189
  obtain ⟨rfl, Nq189, Kp189, Vq189⟩ := hQ189
  have N189 := Fr.app N186 Nq189
  have nst_u180 := V186.nostat
  replace Z0 := Nat.le_trans Z0 Kp189.1
  replace Vc := Vc.keep Kp189 (ninS ne_a1_u180 nin0)
  replace SA := own_staKeep SA Kp189 (nsS nst_u180 ns0)
  replace SHI := own_staKeep SHI Kp189 (nsS nst_u180 ns0)
  replace SLO := own_staKeep SLO Kp189 (nsS nst_u180 ns0)
  replace KK := KK.trans Kp189 (allS (Or.inr sz_u180) all0)
  have V189 : Arv Z T189.heap u180 ku180 .byte (6 : Int32) [(.int (own_lo8 c0)), (.int (own_hi8 c0)), (.int (own_lo8 c1)), (.int (own_hi8 c1)), (.int (own_lo8 c2)), (.int (own_hi8 c2))] (.int (0 : Int32)) := Vq189
  refine own_of (U' := (T189.setTop (mkF m 23 #[.val (.ref a1), .val (.int (2 : Int32)), .val (.int (3 : Int32)), .val (.ref u180), .val (.int (2 : Int32))] []))) (st189) ?_
  refine own_iinc X189 hx hby d18_23 rfl (l' := #[.val (.ref a1), .val (.int ((2 : Int32) + (1 : Int32))), .val (.int (3 : Int32)), .val (.ref u180), .val (.int (2 : Int32))]) rfl ?_
  refine own_eq (U' := (T189.setTop (mkF m 26 #[.val (.ref a1), .val (.int (3 : Int32)), .val (.int (3 : Int32)), .val (.ref u180), .val (.int (2 : Int32))] []))) (by rw [show ((2 : Int32) + (1 : Int32)) = (3 : Int32) by decide]) ?_
  refine own_iinc X189 hx hby d18_26 rfl (l' := #[.val (.ref a1), .val (.int (3 : Int32)), .val (.int (3 : Int32)), .val (.ref u180), .val (.int ((2 : Int32) + (1 : Int32)))]) rfl ?_
  refine own_eq (U' := (T189.setTop (mkF m 29 #[.val (.ref a1), .val (.int (3 : Int32)), .val (.int (3 : Int32)), .val (.ref u180), .val (.int (3 : Int32))] []))) (by rw [show ((2 : Int32) + (1 : Int32)) = (3 : Int32) by decide]) ?_
  refine own_goto X189 hx hby 29 8 d18_29 (by decide) (by decide) ?_
  refine own_iload X189 hx hby d18_8 rfl ?_
  refine own_iloadN X189 hx hby d18_10 rfl ?_
  have hc11_190 : ¬ ((3 : Int32) < (3 : Int32)) := by decide
  refine own_icmpYes X189 hx hby 11 32 d18_11 (flt hc11_190).2.1 (by decide) (by decide) ?_
  refine own_aloadN X189 hx hby d18_32 rfl rfl ?_
  exact own_retA X189 hx hlk Bd.returns rfl rfl (hb hby d18_33) (by decide) (by decide) (⟨u180, ku180, rfl, N189, KK, sz_u180, V189⟩)
theorem ef_cl3_0 (m : MethodId) (x0 : Addr) (x2 : Addr) : entryFrame m #[(.ref x0), (.int (0 : Int32)), (.ref x2), (.int (0 : Int32)), (.int (3 : Int32))] 7 = mkF m 0 #[.val (.ref x0), .val (.int (0 : Int32)), .val (.ref x2), .val (.int (0 : Int32)), .val (.int (3 : Int32)), .unset, .unset] [] := by first | (simp [entryFrame, mkF, argsToLocals, Value.category]; done) | rfl
def Qcl3_0 (Z : State) (a3 : Addr) (kd : ClassId) (c0 c1 c2 : Int32) (h0 : Heap) (n0 : Nat) (v : Option Value) (h : Heap) (L : List Loc) : Prop := v = some (.int (0 : Int32)) ∧ Fr n0 L ∧ Keep h0 h [a3] ∧ Arv Z h a3 kd .byte (3 : Int32) [(.int (0 : Int32)), (.int (0 : Int32)), (.int (0 : Int32))] (.int (0 : Int32))
set_option maxRecDepth 65536 in
set_option maxHeartbeats 40000000 in
theorem rmcl3_0 (l : Launch) (Z : State) (a0 : Array Value) (hw : ∀ d ∈ tables_1, d.before a0 Z = true) (ws : List Jvm.Cond) (a1 a3 : Addr) (kc kd : ClassId) (c0 c1 c2 : Int32) (h0 : Heap) (n0 : Nat) (Z0 : n0 ≤ h0.size) (Vc : Arv Z h0 a1 kc .char (3 : Int32) [(.int c0), (.int c1), (.int c2)] (.int (0 : Int32))) (Vd : Arv Z h0 a3 kd .byte (3 : Int32) [(.int (0 : Int32)), (.int (0 : Int32)), (.int (0 : Int32))] (.int (0 : Int32))) (g_a3 : n0 ≤ a3) (nea : a1 ≠ a3)  (hB : (255 : Int32) < c0) :
    MetFree l mN_16 (head1 (Jvm.Cond.code mN_16 jdk_52_method_21_code 7 (some .int) :: ws) ({ frames := 0, cells := 0, slots := 0, locals := 0 } : Room)) (fun a U => a = #[(.ref a1), (.int (0 : Int32)), (.ref a3), (.int (0 : Int32)), (.int (3 : Int32))] ∧ Z.Warmed39 U.vm ∧ U.heap = h0) (fun _ _ _ _ _ => True) (fun _ U o U' => ∃ v L, o = .returned v ∧ (Qcl3_0 Z a3 kd c0 c1 c2 h0 n0) v U'.heap L ∧ FrameEnd U o U' L ({ frames := 0, cells := 0, slots := 0, locals := 0 } : Room).cells ({ frames := 0, cells := 0, slots := 0, locals := 0 } : Room).slots) := by
  refine MetFree.of_bodySF (plainFor_of_name pn_2) hisR ?_
  intro p e s m args below meth c s₁ Bd hml0 hP hK
  obtain ⟨rfl, hZ, hh⟩ := hP
  have hx := Bd.exec
  have hby := Bd.bytes
  have hml : c.maxLocals = 7 := hml0
  have hown : s.vm.findClass "java/lang/StringUTF16" = some m.cls := findClass_of_methodNamed Bd.named
  have hnm := (name_of_methodNamed Bd.named Bd.method).1
  have hlk := Bd.notSynchronized
  have X0 : Stand p l e ({ frames := 0, cells := 0, slots := 0, locals := 0 } : Room) s m #[(.ref a1), (.int (0 : Int32)), (.ref a3), (.int (0 : Int32)), (.int (3 : Int32))] below meth c s₁ [] 0 0 := Stand.of_body Bd
  have e0 : s₁.heap = h0 := by rw [← hh, Bd.state]; rfl
  have N0 := Fr.nil n0
  have KK := Keep.refl h0 [a3]
  show own_Ends p e below s FrameEnd (Qcl3_0 Z a3 kd c0 c1 c2 h0 n0) 0 0 (s₁.setTop (entryFrame m #[(.ref a1), (.int (0 : Int32)), (.ref a3), (.int (0 : Int32)), (.int (3 : Int32))] 7))
  refine own_of (U' := (s₁.setTop (mkF m 0 #[.val (.ref a1), .val (.int (0 : Int32)), .val (.ref a3), .val (.int (0 : Int32)), .val (.int (3 : Int32)), .unset, .unset] []))) (fun _ k => castTop (ef_cl3_0 m a1 a3) k) ?_
  refine own_iconst X0 hx hby 0 d10_0 rfl ?_
  refine own_istore X0 hx hby d10_1 (l' := #[.val (.ref a1), .val (.int (0 : Int32)), .val (.ref a3), .val (.int (0 : Int32)), .val (.int (3 : Int32)), .val (.int (0 : Int32)), .unset]) rfl ?_
  refine own_iload X0 hx hby d10_3 rfl ?_
  refine own_iload X0 hx hby d10_5 rfl ?_
  have hc7_191 : (0 : Int32) < (3 : Int32) := by decide
  refine own_icmpNo X0 hx hby d10_7 (tlt hc7_191).2.1 ?_
  refine own_aloadN X0 hx hby d10_10 rfl rfl ?_
  refine own_iloadN X0 hx hby d10_11 rfl ?_
  obtain ⟨cl192, Ar192, qa192, Sa192, Na192, Ha192, Ga192⟩ := id Vc
  have hin192 : ¬ ((0 : Int32) < 0 ∨ cl192.slots.size ≤ ((0 : Int32)).toNatClampNeg) := inb_of Sa192 ⟨by decide, by decide⟩
  have hat192 : cl192.slots[((0 : Int32)).toNatClampNeg]? = some (.int c0) := Has.at Ha192 hin192 rfl
  refine own_of (U' := (s₁.setTop (mkF m 13 #[.val (.ref a1), .val (.int (0 : Int32)), .val (.ref a3), .val (.int (0 : Int32)), .val (.int (3 : Int32)), .val (.int (0 : Int32)), .unset] [(.int c0)]))) (X0.caload hx (j := (0 : Int32)) (v := (.int c0)) (by rw [e0]; exact Ar192.1) (State.isArrayOf_alike hZ.alike Ar192.2.1) Ar192.2.2 hin192 hat192 (g := (mkF m 12 #[.val (.ref a1), .val (.int (0 : Int32)), .val (.ref a3), .val (.int (0 : Int32)), .val (.int (3 : Int32)), .val (.int (0 : Int32)), .unset] [(.int (0 : Int32)), (.ref a1)])) rfl rfl (hb hby d10_12)) ?_
  refine own_istore X0 hx hby d10_13 (l' := #[.val (.ref a1), .val (.int (0 : Int32)), .val (.ref a3), .val (.int (0 : Int32)), .val (.int (3 : Int32)), .val (.int (0 : Int32)), .val (.int c0)]) rfl ?_
  refine own_iload X0 hx hby d10_15 rfl ?_
  refine own_sipush X0 hx hby 255 d10_17 rfl ?_
  have hc20_193 : (255 : Int32) < c0 := hB
  refine own_icmpNo X0 hx hby d10_20 (tlt hc20_193).2.2.2 ?_
  refine own_iload X0 hx hby d10_23 rfl ?_
  exact own_retI X0 hx hlk Bd.returns (hb hby d10_25) (by decide) (by decide) (by rw [e0]; exact ⟨rfl, N0, KK, Vd⟩)
theorem ef_cl3_1 (m : MethodId) (x0 : Addr) (x2 : Addr) : entryFrame m #[(.ref x0), (.int (0 : Int32)), (.ref x2), (.int (0 : Int32)), (.int (3 : Int32))] 7 = mkF m 0 #[.val (.ref x0), .val (.int (0 : Int32)), .val (.ref x2), .val (.int (0 : Int32)), .val (.int (3 : Int32)), .unset, .unset] [] := by first | (simp [entryFrame, mkF, argsToLocals, Value.category]; done) | rfl
def Qcl3_1 (Z : State) (a3 : Addr) (kd : ClassId) (c0 c1 c2 : Int32) (h0 : Heap) (n0 : Nat) (v : Option Value) (h : Heap) (L : List Loc) : Prop := v = some (.int (1 : Int32)) ∧ Fr n0 L ∧ Keep h0 h [a3] ∧ Arv Z h a3 kd .byte (3 : Int32) [(.int (own_b8 c0)), (.int (0 : Int32)), (.int (0 : Int32))] (.int (0 : Int32))
set_option maxRecDepth 65536 in
set_option maxHeartbeats 40000000 in
theorem rmcl3_1 (l : Launch) (Z : State) (a0 : Array Value) (hw : ∀ d ∈ tables_1, d.before a0 Z = true) (ws : List Jvm.Cond) (a1 a3 : Addr) (kc kd : ClassId) (c0 c1 c2 : Int32) (h0 : Heap) (n0 : Nat) (Z0 : n0 ≤ h0.size) (Vc : Arv Z h0 a1 kc .char (3 : Int32) [(.int c0), (.int c1), (.int c2)] (.int (0 : Int32))) (Vd : Arv Z h0 a3 kd .byte (3 : Int32) [(.int (0 : Int32)), (.int (0 : Int32)), (.int (0 : Int32))] (.int (0 : Int32))) (g_a3 : n0 ≤ a3) (nea : a1 ≠ a3) (hL0 : ¬ ((255 : Int32) < c0)) (hB : (255 : Int32) < c1) :
    MetFree l mN_16 (head1 (Jvm.Cond.code mN_16 jdk_52_method_21_code 7 (some .int) :: ws) ({ frames := 0, cells := 0, slots := 0, locals := 0 } : Room)) (fun a U => a = #[(.ref a1), (.int (0 : Int32)), (.ref a3), (.int (0 : Int32)), (.int (3 : Int32))] ∧ Z.Warmed39 U.vm ∧ U.heap = h0) (fun _ _ _ _ _ => True) (fun _ U o U' => ∃ v L, o = .returned v ∧ (Qcl3_1 Z a3 kd c0 c1 c2 h0 n0) v U'.heap L ∧ FrameEnd U o U' L ({ frames := 0, cells := 0, slots := 0, locals := 0 } : Room).cells ({ frames := 0, cells := 0, slots := 0, locals := 0 } : Room).slots) := by
  refine MetFree.of_bodySF (plainFor_of_name pn_2) hisR ?_
  intro p e s m args below meth c s₁ Bd hml0 hP hK
  obtain ⟨rfl, hZ, hh⟩ := hP
  have hx := Bd.exec
  have hby := Bd.bytes
  have hml : c.maxLocals = 7 := hml0
  have hown : s.vm.findClass "java/lang/StringUTF16" = some m.cls := findClass_of_methodNamed Bd.named
  have hnm := (name_of_methodNamed Bd.named Bd.method).1
  have hlk := Bd.notSynchronized
  have X0 : Stand p l e ({ frames := 0, cells := 0, slots := 0, locals := 0 } : Room) s m #[(.ref a1), (.int (0 : Int32)), (.ref a3), (.int (0 : Int32)), (.int (3 : Int32))] below meth c s₁ [] 0 0 := Stand.of_body Bd
  have e0 : s₁.heap = h0 := by rw [← hh, Bd.state]; rfl
  have N0 := Fr.nil n0
  have KK := Keep.refl h0 [a3]
  show own_Ends p e below s FrameEnd (Qcl3_1 Z a3 kd c0 c1 c2 h0 n0) 0 0 (s₁.setTop (entryFrame m #[(.ref a1), (.int (0 : Int32)), (.ref a3), (.int (0 : Int32)), (.int (3 : Int32))] 7))
  refine own_of (U' := (s₁.setTop (mkF m 0 #[.val (.ref a1), .val (.int (0 : Int32)), .val (.ref a3), .val (.int (0 : Int32)), .val (.int (3 : Int32)), .unset, .unset] []))) (fun _ k => castTop (ef_cl3_1 m a1 a3) k) ?_
  refine own_iconst X0 hx hby 0 d10_0 rfl ?_
  refine own_istore X0 hx hby d10_1 (l' := #[.val (.ref a1), .val (.int (0 : Int32)), .val (.ref a3), .val (.int (0 : Int32)), .val (.int (3 : Int32)), .val (.int (0 : Int32)), .unset]) rfl ?_
  refine own_iload X0 hx hby d10_3 rfl ?_
  refine own_iload X0 hx hby d10_5 rfl ?_
  have hc7_194 : (0 : Int32) < (3 : Int32) := by decide
  refine own_icmpNo X0 hx hby d10_7 (tlt hc7_194).2.1 ?_
  refine own_aloadN X0 hx hby d10_10 rfl rfl ?_
  refine own_iloadN X0 hx hby d10_11 rfl ?_
  obtain ⟨cl195, Ar195, qa195, Sa195, Na195, Ha195, Ga195⟩ := id Vc
  have hin195 : ¬ ((0 : Int32) < 0 ∨ cl195.slots.size ≤ ((0 : Int32)).toNatClampNeg) := inb_of Sa195 ⟨by decide, by decide⟩
  have hat195 : cl195.slots[((0 : Int32)).toNatClampNeg]? = some (.int c0) := Has.at Ha195 hin195 rfl
  refine own_of (U' := (s₁.setTop (mkF m 13 #[.val (.ref a1), .val (.int (0 : Int32)), .val (.ref a3), .val (.int (0 : Int32)), .val (.int (3 : Int32)), .val (.int (0 : Int32)), .unset] [(.int c0)]))) (X0.caload hx (j := (0 : Int32)) (v := (.int c0)) (by rw [e0]; exact Ar195.1) (State.isArrayOf_alike hZ.alike Ar195.2.1) Ar195.2.2 hin195 hat195 (g := (mkF m 12 #[.val (.ref a1), .val (.int (0 : Int32)), .val (.ref a3), .val (.int (0 : Int32)), .val (.int (3 : Int32)), .val (.int (0 : Int32)), .unset] [(.int (0 : Int32)), (.ref a1)])) rfl rfl (hb hby d10_12)) ?_
  refine own_istore X0 hx hby d10_13 (l' := #[.val (.ref a1), .val (.int (0 : Int32)), .val (.ref a3), .val (.int (0 : Int32)), .val (.int (3 : Int32)), .val (.int (0 : Int32)), .val (.int c0)]) rfl ?_
  refine own_iload X0 hx hby d10_15 rfl ?_
  refine own_sipush X0 hx hby 255 d10_17 rfl ?_
  have hc20_196 : ¬ ((255 : Int32) < c0) := hL0
  refine own_icmpYes X0 hx hby 20 26 d10_20 (flt hc20_196).2.2.2 (by decide) (by decide) ?_
  refine own_aloadN X0 hx hby d10_26 rfl rfl ?_
  refine own_iloadN X0 hx hby d10_27 rfl ?_
  refine own_iload X0 hx hby d10_28 rfl ?_
  refine own_i2b X0 hx hby d10_30 ?_
  obtain ⟨cl197, Ar197, qa197, Sa197, Na197, Ha197, Ga197⟩ := Vd
  have hin197 : ¬ ((0 : Int32) < 0 ∨ cl197.slots.size ≤ ((0 : Int32)).toNatClampNeg) := inb_of Sa197 ⟨by decide, by decide⟩
  obtain ⟨T197, h197, X197, e197, W197, st197⟩ := stB X0 hx hZ e0 Ar197 (j := (0 : Int32)) hin197 (g := (mkF m 31 #[.val (.ref a1), .val (.int (0 : Int32)), .val (.ref a3), .val (.int (0 : Int32)), .val (.int (3 : Int32)), .val (.int (0 : Int32)), .val (.int c0)] [(.int (c0.toInt8.toInt32)), (.int (0 : Int32)), (.ref a3)])) rfl rfl (hb hby d10_31)
  replace Vd : Arv Z h197 a3 kd .byte (3 : Int32) [(.int (nar .byte (c0.toInt8.toInt32))), (.int (0 : Int32)), (.int (0 : Int32))] (.int (0 : Int32)) := Arv.set Ar197 qa197 Sa197 Na197 Ha197 Ga197 (fits_nar_byte _) W197 0 rfl (Nat.le_of_ble_eq_true rfl)
  replace Z0 := Nat.le_trans Z0 (Keep.of_wr W197).1
  replace Vc := Vc.other W197 nea
  replace KK := KK.wr W197 (Or.inl (List.mem_of_getElem? (i := 0) rfl))
  have N197 := Fr.snoc X197 N0 g_a3
  refine own_of (U' := (T197.setTop (mkF m 32 #[.val (.ref a1), .val (.int (0 : Int32)), .val (.ref a3), .val (.int (0 : Int32)), .val (.int (3 : Int32)), .val (.int (0 : Int32)), .val (.int c0)] []))) (st197) ?_
  refine own_iinc X197 hx hby d10_32 rfl (l' := #[.val (.ref a1), .val (.int ((0 : Int32) + (1 : Int32))), .val (.ref a3), .val (.int (0 : Int32)), .val (.int (3 : Int32)), .val (.int (0 : Int32)), .val (.int c0)]) rfl ?_
  refine own_eq (U' := (T197.setTop (mkF m 35 #[.val (.ref a1), .val (.int (1 : Int32)), .val (.ref a3), .val (.int (0 : Int32)), .val (.int (3 : Int32)), .val (.int (0 : Int32)), .val (.int c0)] []))) (by rw [show ((0 : Int32) + (1 : Int32)) = (1 : Int32) by decide]) ?_
  refine own_iinc X197 hx hby d10_35 rfl (l' := #[.val (.ref a1), .val (.int (1 : Int32)), .val (.ref a3), .val (.int ((0 : Int32) + (1 : Int32))), .val (.int (3 : Int32)), .val (.int (0 : Int32)), .val (.int c0)]) rfl ?_
  refine own_eq (U' := (T197.setTop (mkF m 38 #[.val (.ref a1), .val (.int (1 : Int32)), .val (.ref a3), .val (.int (1 : Int32)), .val (.int (3 : Int32)), .val (.int (0 : Int32)), .val (.int c0)] []))) (by rw [show ((0 : Int32) + (1 : Int32)) = (1 : Int32) by decide]) ?_
  refine own_iinc X197 hx hby d10_38 rfl (l' := #[.val (.ref a1), .val (.int (1 : Int32)), .val (.ref a3), .val (.int (1 : Int32)), .val (.int (3 : Int32)), .val (.int ((0 : Int32) + (1 : Int32))), .val (.int c0)]) rfl ?_
  refine own_eq (U' := (T197.setTop (mkF m 41 #[.val (.ref a1), .val (.int (1 : Int32)), .val (.ref a3), .val (.int (1 : Int32)), .val (.int (3 : Int32)), .val (.int (1 : Int32)), .val (.int c0)] []))) (by rw [show ((0 : Int32) + (1 : Int32)) = (1 : Int32) by decide]) ?_
  refine own_goto X197 hx hby 41 3 d10_41 (by decide) (by decide) ?_
  refine own_iload X197 hx hby d10_3 rfl ?_
  refine own_iload X197 hx hby d10_5 rfl ?_
  have hc7_198 : (1 : Int32) < (3 : Int32) := by decide
  refine own_icmpNo X197 hx hby d10_7 (tlt hc7_198).2.1 ?_
  refine own_aloadN X197 hx hby d10_10 rfl rfl ?_
  refine own_iloadN X197 hx hby d10_11 rfl ?_
  obtain ⟨cl199, Ar199, qa199, Sa199, Na199, Ha199, Ga199⟩ := id Vc
  have hin199 : ¬ ((1 : Int32) < 0 ∨ cl199.slots.size ≤ ((1 : Int32)).toNatClampNeg) := inb_of Sa199 ⟨by decide, by decide⟩
  have hat199 : cl199.slots[((1 : Int32)).toNatClampNeg]? = some (.int c1) := Has.at Ha199 hin199 rfl
  refine own_of (U' := (T197.setTop (mkF m 13 #[.val (.ref a1), .val (.int (1 : Int32)), .val (.ref a3), .val (.int (1 : Int32)), .val (.int (3 : Int32)), .val (.int (1 : Int32)), .val (.int c0)] [(.int c1)]))) (X197.caload hx (j := (1 : Int32)) (v := (.int c1)) (by rw [e197]; exact Ar199.1) (State.isArrayOf_alike hZ.alike Ar199.2.1) Ar199.2.2 hin199 hat199 (g := (mkF m 12 #[.val (.ref a1), .val (.int (1 : Int32)), .val (.ref a3), .val (.int (1 : Int32)), .val (.int (3 : Int32)), .val (.int (1 : Int32)), .val (.int c0)] [(.int (1 : Int32)), (.ref a1)])) rfl rfl (hb hby d10_12)) ?_
  refine own_istore X197 hx hby d10_13 (l' := #[.val (.ref a1), .val (.int (1 : Int32)), .val (.ref a3), .val (.int (1 : Int32)), .val (.int (3 : Int32)), .val (.int (1 : Int32)), .val (.int c1)]) rfl ?_
  refine own_iload X197 hx hby d10_15 rfl ?_
  refine own_sipush X197 hx hby 255 d10_17 rfl ?_
  have hc20_200 : (255 : Int32) < c1 := hB
  refine own_icmpNo X197 hx hby d10_20 (tlt hc20_200).2.2.2 ?_
  refine own_iload X197 hx hby d10_23 rfl ?_
  exact own_retI X197 hx hlk Bd.returns (hb hby d10_25) (by decide) (by decide) (by rw [e197]; exact ⟨rfl, N197, KK, Vd⟩)
theorem ef_cl3_2 (m : MethodId) (x0 : Addr) (x2 : Addr) : entryFrame m #[(.ref x0), (.int (0 : Int32)), (.ref x2), (.int (0 : Int32)), (.int (3 : Int32))] 7 = mkF m 0 #[.val (.ref x0), .val (.int (0 : Int32)), .val (.ref x2), .val (.int (0 : Int32)), .val (.int (3 : Int32)), .unset, .unset] [] := by first | (simp [entryFrame, mkF, argsToLocals, Value.category]; done) | rfl
def Qcl3_2 (Z : State) (a3 : Addr) (kd : ClassId) (c0 c1 c2 : Int32) (h0 : Heap) (n0 : Nat) (v : Option Value) (h : Heap) (L : List Loc) : Prop := v = some (.int (2 : Int32)) ∧ Fr n0 L ∧ Keep h0 h [a3] ∧ Arv Z h a3 kd .byte (3 : Int32) [(.int (own_b8 c0)), (.int (own_b8 c1)), (.int (0 : Int32))] (.int (0 : Int32))
set_option maxRecDepth 65536 in
set_option maxHeartbeats 40000000 in
theorem rmcl3_2 (l : Launch) (Z : State) (a0 : Array Value) (hw : ∀ d ∈ tables_1, d.before a0 Z = true) (ws : List Jvm.Cond) (a1 a3 : Addr) (kc kd : ClassId) (c0 c1 c2 : Int32) (h0 : Heap) (n0 : Nat) (Z0 : n0 ≤ h0.size) (Vc : Arv Z h0 a1 kc .char (3 : Int32) [(.int c0), (.int c1), (.int c2)] (.int (0 : Int32))) (Vd : Arv Z h0 a3 kd .byte (3 : Int32) [(.int (0 : Int32)), (.int (0 : Int32)), (.int (0 : Int32))] (.int (0 : Int32))) (g_a3 : n0 ≤ a3) (nea : a1 ≠ a3) (hL0 : ¬ ((255 : Int32) < c0)) (hL1 : ¬ ((255 : Int32) < c1)) (hB : (255 : Int32) < c2) :
    MetFree l mN_16 (head1 (Jvm.Cond.code mN_16 jdk_52_method_21_code 7 (some .int) :: ws) ({ frames := 0, cells := 0, slots := 0, locals := 0 } : Room)) (fun a U => a = #[(.ref a1), (.int (0 : Int32)), (.ref a3), (.int (0 : Int32)), (.int (3 : Int32))] ∧ Z.Warmed39 U.vm ∧ U.heap = h0) (fun _ _ _ _ _ => True) (fun _ U o U' => ∃ v L, o = .returned v ∧ (Qcl3_2 Z a3 kd c0 c1 c2 h0 n0) v U'.heap L ∧ FrameEnd U o U' L ({ frames := 0, cells := 0, slots := 0, locals := 0 } : Room).cells ({ frames := 0, cells := 0, slots := 0, locals := 0 } : Room).slots) := by
  refine MetFree.of_bodySF (plainFor_of_name pn_2) hisR ?_
  intro p e s m args below meth c s₁ Bd hml0 hP hK
  obtain ⟨rfl, hZ, hh⟩ := hP
  have hx := Bd.exec
  have hby := Bd.bytes
  have hml : c.maxLocals = 7 := hml0
  have hown : s.vm.findClass "java/lang/StringUTF16" = some m.cls := findClass_of_methodNamed Bd.named
  have hnm := (name_of_methodNamed Bd.named Bd.method).1
  have hlk := Bd.notSynchronized
  have X0 : Stand p l e ({ frames := 0, cells := 0, slots := 0, locals := 0 } : Room) s m #[(.ref a1), (.int (0 : Int32)), (.ref a3), (.int (0 : Int32)), (.int (3 : Int32))] below meth c s₁ [] 0 0 := Stand.of_body Bd
  have e0 : s₁.heap = h0 := by rw [← hh, Bd.state]; rfl
  have N0 := Fr.nil n0
  have KK := Keep.refl h0 [a3]
  show own_Ends p e below s FrameEnd (Qcl3_2 Z a3 kd c0 c1 c2 h0 n0) 0 0 (s₁.setTop (entryFrame m #[(.ref a1), (.int (0 : Int32)), (.ref a3), (.int (0 : Int32)), (.int (3 : Int32))] 7))
  refine own_of (U' := (s₁.setTop (mkF m 0 #[.val (.ref a1), .val (.int (0 : Int32)), .val (.ref a3), .val (.int (0 : Int32)), .val (.int (3 : Int32)), .unset, .unset] []))) (fun _ k => castTop (ef_cl3_2 m a1 a3) k) ?_
  refine own_iconst X0 hx hby 0 d10_0 rfl ?_
  refine own_istore X0 hx hby d10_1 (l' := #[.val (.ref a1), .val (.int (0 : Int32)), .val (.ref a3), .val (.int (0 : Int32)), .val (.int (3 : Int32)), .val (.int (0 : Int32)), .unset]) rfl ?_
  refine own_iload X0 hx hby d10_3 rfl ?_
  refine own_iload X0 hx hby d10_5 rfl ?_
  have hc7_201 : (0 : Int32) < (3 : Int32) := by decide
  refine own_icmpNo X0 hx hby d10_7 (tlt hc7_201).2.1 ?_
  refine own_aloadN X0 hx hby d10_10 rfl rfl ?_
  refine own_iloadN X0 hx hby d10_11 rfl ?_
  obtain ⟨cl202, Ar202, qa202, Sa202, Na202, Ha202, Ga202⟩ := id Vc
  have hin202 : ¬ ((0 : Int32) < 0 ∨ cl202.slots.size ≤ ((0 : Int32)).toNatClampNeg) := inb_of Sa202 ⟨by decide, by decide⟩
  have hat202 : cl202.slots[((0 : Int32)).toNatClampNeg]? = some (.int c0) := Has.at Ha202 hin202 rfl
  refine own_of (U' := (s₁.setTop (mkF m 13 #[.val (.ref a1), .val (.int (0 : Int32)), .val (.ref a3), .val (.int (0 : Int32)), .val (.int (3 : Int32)), .val (.int (0 : Int32)), .unset] [(.int c0)]))) (X0.caload hx (j := (0 : Int32)) (v := (.int c0)) (by rw [e0]; exact Ar202.1) (State.isArrayOf_alike hZ.alike Ar202.2.1) Ar202.2.2 hin202 hat202 (g := (mkF m 12 #[.val (.ref a1), .val (.int (0 : Int32)), .val (.ref a3), .val (.int (0 : Int32)), .val (.int (3 : Int32)), .val (.int (0 : Int32)), .unset] [(.int (0 : Int32)), (.ref a1)])) rfl rfl (hb hby d10_12)) ?_
  refine own_istore X0 hx hby d10_13 (l' := #[.val (.ref a1), .val (.int (0 : Int32)), .val (.ref a3), .val (.int (0 : Int32)), .val (.int (3 : Int32)), .val (.int (0 : Int32)), .val (.int c0)]) rfl ?_
  refine own_iload X0 hx hby d10_15 rfl ?_
  refine own_sipush X0 hx hby 255 d10_17 rfl ?_
  have hc20_203 : ¬ ((255 : Int32) < c0) := hL0
  refine own_icmpYes X0 hx hby 20 26 d10_20 (flt hc20_203).2.2.2 (by decide) (by decide) ?_
  refine own_aloadN X0 hx hby d10_26 rfl rfl ?_
  refine own_iloadN X0 hx hby d10_27 rfl ?_
  refine own_iload X0 hx hby d10_28 rfl ?_
  refine own_i2b X0 hx hby d10_30 ?_
  obtain ⟨cl204, Ar204, qa204, Sa204, Na204, Ha204, Ga204⟩ := Vd
  have hin204 : ¬ ((0 : Int32) < 0 ∨ cl204.slots.size ≤ ((0 : Int32)).toNatClampNeg) := inb_of Sa204 ⟨by decide, by decide⟩
  obtain ⟨T204, h204, X204, e204, W204, st204⟩ := stB X0 hx hZ e0 Ar204 (j := (0 : Int32)) hin204 (g := (mkF m 31 #[.val (.ref a1), .val (.int (0 : Int32)), .val (.ref a3), .val (.int (0 : Int32)), .val (.int (3 : Int32)), .val (.int (0 : Int32)), .val (.int c0)] [(.int (c0.toInt8.toInt32)), (.int (0 : Int32)), (.ref a3)])) rfl rfl (hb hby d10_31)
  replace Vd : Arv Z h204 a3 kd .byte (3 : Int32) [(.int (nar .byte (c0.toInt8.toInt32))), (.int (0 : Int32)), (.int (0 : Int32))] (.int (0 : Int32)) := Arv.set Ar204 qa204 Sa204 Na204 Ha204 Ga204 (fits_nar_byte _) W204 0 rfl (Nat.le_of_ble_eq_true rfl)
  replace Z0 := Nat.le_trans Z0 (Keep.of_wr W204).1
  replace Vc := Vc.other W204 nea
  replace KK := KK.wr W204 (Or.inl (List.mem_of_getElem? (i := 0) rfl))
  have N204 := Fr.snoc X204 N0 g_a3
  refine own_of (U' := (T204.setTop (mkF m 32 #[.val (.ref a1), .val (.int (0 : Int32)), .val (.ref a3), .val (.int (0 : Int32)), .val (.int (3 : Int32)), .val (.int (0 : Int32)), .val (.int c0)] []))) (st204) ?_
  refine own_iinc X204 hx hby d10_32 rfl (l' := #[.val (.ref a1), .val (.int ((0 : Int32) + (1 : Int32))), .val (.ref a3), .val (.int (0 : Int32)), .val (.int (3 : Int32)), .val (.int (0 : Int32)), .val (.int c0)]) rfl ?_
  refine own_eq (U' := (T204.setTop (mkF m 35 #[.val (.ref a1), .val (.int (1 : Int32)), .val (.ref a3), .val (.int (0 : Int32)), .val (.int (3 : Int32)), .val (.int (0 : Int32)), .val (.int c0)] []))) (by rw [show ((0 : Int32) + (1 : Int32)) = (1 : Int32) by decide]) ?_
  refine own_iinc X204 hx hby d10_35 rfl (l' := #[.val (.ref a1), .val (.int (1 : Int32)), .val (.ref a3), .val (.int ((0 : Int32) + (1 : Int32))), .val (.int (3 : Int32)), .val (.int (0 : Int32)), .val (.int c0)]) rfl ?_
  refine own_eq (U' := (T204.setTop (mkF m 38 #[.val (.ref a1), .val (.int (1 : Int32)), .val (.ref a3), .val (.int (1 : Int32)), .val (.int (3 : Int32)), .val (.int (0 : Int32)), .val (.int c0)] []))) (by rw [show ((0 : Int32) + (1 : Int32)) = (1 : Int32) by decide]) ?_
  refine own_iinc X204 hx hby d10_38 rfl (l' := #[.val (.ref a1), .val (.int (1 : Int32)), .val (.ref a3), .val (.int (1 : Int32)), .val (.int (3 : Int32)), .val (.int ((0 : Int32) + (1 : Int32))), .val (.int c0)]) rfl ?_
  refine own_eq (U' := (T204.setTop (mkF m 41 #[.val (.ref a1), .val (.int (1 : Int32)), .val (.ref a3), .val (.int (1 : Int32)), .val (.int (3 : Int32)), .val (.int (1 : Int32)), .val (.int c0)] []))) (by rw [show ((0 : Int32) + (1 : Int32)) = (1 : Int32) by decide]) ?_
  refine own_goto X204 hx hby 41 3 d10_41 (by decide) (by decide) ?_
  refine own_iload X204 hx hby d10_3 rfl ?_
  refine own_iload X204 hx hby d10_5 rfl ?_
  have hc7_205 : (1 : Int32) < (3 : Int32) := by decide
  refine own_icmpNo X204 hx hby d10_7 (tlt hc7_205).2.1 ?_
  refine own_aloadN X204 hx hby d10_10 rfl rfl ?_
  refine own_iloadN X204 hx hby d10_11 rfl ?_
  obtain ⟨cl206, Ar206, qa206, Sa206, Na206, Ha206, Ga206⟩ := id Vc
  have hin206 : ¬ ((1 : Int32) < 0 ∨ cl206.slots.size ≤ ((1 : Int32)).toNatClampNeg) := inb_of Sa206 ⟨by decide, by decide⟩
  have hat206 : cl206.slots[((1 : Int32)).toNatClampNeg]? = some (.int c1) := Has.at Ha206 hin206 rfl
  refine own_of (U' := (T204.setTop (mkF m 13 #[.val (.ref a1), .val (.int (1 : Int32)), .val (.ref a3), .val (.int (1 : Int32)), .val (.int (3 : Int32)), .val (.int (1 : Int32)), .val (.int c0)] [(.int c1)]))) (X204.caload hx (j := (1 : Int32)) (v := (.int c1)) (by rw [e204]; exact Ar206.1) (State.isArrayOf_alike hZ.alike Ar206.2.1) Ar206.2.2 hin206 hat206 (g := (mkF m 12 #[.val (.ref a1), .val (.int (1 : Int32)), .val (.ref a3), .val (.int (1 : Int32)), .val (.int (3 : Int32)), .val (.int (1 : Int32)), .val (.int c0)] [(.int (1 : Int32)), (.ref a1)])) rfl rfl (hb hby d10_12)) ?_
  refine own_istore X204 hx hby d10_13 (l' := #[.val (.ref a1), .val (.int (1 : Int32)), .val (.ref a3), .val (.int (1 : Int32)), .val (.int (3 : Int32)), .val (.int (1 : Int32)), .val (.int c1)]) rfl ?_
  refine own_iload X204 hx hby d10_15 rfl ?_
  refine own_sipush X204 hx hby 255 d10_17 rfl ?_
  have hc20_207 : ¬ ((255 : Int32) < c1) := hL1
  refine own_icmpYes X204 hx hby 20 26 d10_20 (flt hc20_207).2.2.2 (by decide) (by decide) ?_
  refine own_aloadN X204 hx hby d10_26 rfl rfl ?_
  refine own_iloadN X204 hx hby d10_27 rfl ?_
  refine own_iload X204 hx hby d10_28 rfl ?_
  refine own_i2b X204 hx hby d10_30 ?_
  obtain ⟨cl208, Ar208, qa208, Sa208, Na208, Ha208, Ga208⟩ := Vd
  have hin208 : ¬ ((1 : Int32) < 0 ∨ cl208.slots.size ≤ ((1 : Int32)).toNatClampNeg) := inb_of Sa208 ⟨by decide, by decide⟩
  obtain ⟨T208, h208, X208, e208, W208, st208⟩ := stB X204 hx hZ e204 Ar208 (j := (1 : Int32)) hin208 (g := (mkF m 31 #[.val (.ref a1), .val (.int (1 : Int32)), .val (.ref a3), .val (.int (1 : Int32)), .val (.int (3 : Int32)), .val (.int (1 : Int32)), .val (.int c1)] [(.int (c1.toInt8.toInt32)), (.int (1 : Int32)), (.ref a3)])) rfl rfl (hb hby d10_31)
  replace Vd : Arv Z h208 a3 kd .byte (3 : Int32) [(.int (nar .byte (c0.toInt8.toInt32))), (.int (nar .byte (c1.toInt8.toInt32))), (.int (0 : Int32))] (.int (0 : Int32)) := Arv.set Ar208 qa208 Sa208 Na208 Ha208 Ga208 (fits_nar_byte _) W208 1 rfl (Nat.le_of_ble_eq_true rfl)
  replace Z0 := Nat.le_trans Z0 (Keep.of_wr W208).1
  replace Vc := Vc.other W208 nea
  replace KK := KK.wr W208 (Or.inl (List.mem_of_getElem? (i := 0) rfl))
  have N208 := Fr.snoc X208 N204 g_a3
  refine own_of (U' := (T208.setTop (mkF m 32 #[.val (.ref a1), .val (.int (1 : Int32)), .val (.ref a3), .val (.int (1 : Int32)), .val (.int (3 : Int32)), .val (.int (1 : Int32)), .val (.int c1)] []))) (st208) ?_
  refine own_iinc X208 hx hby d10_32 rfl (l' := #[.val (.ref a1), .val (.int ((1 : Int32) + (1 : Int32))), .val (.ref a3), .val (.int (1 : Int32)), .val (.int (3 : Int32)), .val (.int (1 : Int32)), .val (.int c1)]) rfl ?_
  refine own_eq (U' := (T208.setTop (mkF m 35 #[.val (.ref a1), .val (.int (2 : Int32)), .val (.ref a3), .val (.int (1 : Int32)), .val (.int (3 : Int32)), .val (.int (1 : Int32)), .val (.int c1)] []))) (by rw [show ((1 : Int32) + (1 : Int32)) = (2 : Int32) by decide]) ?_
  refine own_iinc X208 hx hby d10_35 rfl (l' := #[.val (.ref a1), .val (.int (2 : Int32)), .val (.ref a3), .val (.int ((1 : Int32) + (1 : Int32))), .val (.int (3 : Int32)), .val (.int (1 : Int32)), .val (.int c1)]) rfl ?_
  refine own_eq (U' := (T208.setTop (mkF m 38 #[.val (.ref a1), .val (.int (2 : Int32)), .val (.ref a3), .val (.int (2 : Int32)), .val (.int (3 : Int32)), .val (.int (1 : Int32)), .val (.int c1)] []))) (by rw [show ((1 : Int32) + (1 : Int32)) = (2 : Int32) by decide]) ?_
  refine own_iinc X208 hx hby d10_38 rfl (l' := #[.val (.ref a1), .val (.int (2 : Int32)), .val (.ref a3), .val (.int (2 : Int32)), .val (.int (3 : Int32)), .val (.int ((1 : Int32) + (1 : Int32))), .val (.int c1)]) rfl ?_
  refine own_eq (U' := (T208.setTop (mkF m 41 #[.val (.ref a1), .val (.int (2 : Int32)), .val (.ref a3), .val (.int (2 : Int32)), .val (.int (3 : Int32)), .val (.int (2 : Int32)), .val (.int c1)] []))) (by rw [show ((1 : Int32) + (1 : Int32)) = (2 : Int32) by decide]) ?_
  refine own_goto X208 hx hby 41 3 d10_41 (by decide) (by decide) ?_
  refine own_iload X208 hx hby d10_3 rfl ?_
  refine own_iload X208 hx hby d10_5 rfl ?_
  have hc7_209 : (2 : Int32) < (3 : Int32) := by decide
  refine own_icmpNo X208 hx hby d10_7 (tlt hc7_209).2.1 ?_
  refine own_aloadN X208 hx hby d10_10 rfl rfl ?_
  refine own_iloadN X208 hx hby d10_11 rfl ?_
  obtain ⟨cl210, Ar210, qa210, Sa210, Na210, Ha210, Ga210⟩ := id Vc
  have hin210 : ¬ ((2 : Int32) < 0 ∨ cl210.slots.size ≤ ((2 : Int32)).toNatClampNeg) := inb_of Sa210 ⟨by decide, by decide⟩
  have hat210 : cl210.slots[((2 : Int32)).toNatClampNeg]? = some (.int c2) := Has.at Ha210 hin210 rfl
  refine own_of (U' := (T208.setTop (mkF m 13 #[.val (.ref a1), .val (.int (2 : Int32)), .val (.ref a3), .val (.int (2 : Int32)), .val (.int (3 : Int32)), .val (.int (2 : Int32)), .val (.int c1)] [(.int c2)]))) (X208.caload hx (j := (2 : Int32)) (v := (.int c2)) (by rw [e208]; exact Ar210.1) (State.isArrayOf_alike hZ.alike Ar210.2.1) Ar210.2.2 hin210 hat210 (g := (mkF m 12 #[.val (.ref a1), .val (.int (2 : Int32)), .val (.ref a3), .val (.int (2 : Int32)), .val (.int (3 : Int32)), .val (.int (2 : Int32)), .val (.int c1)] [(.int (2 : Int32)), (.ref a1)])) rfl rfl (hb hby d10_12)) ?_
  refine own_istore X208 hx hby d10_13 (l' := #[.val (.ref a1), .val (.int (2 : Int32)), .val (.ref a3), .val (.int (2 : Int32)), .val (.int (3 : Int32)), .val (.int (2 : Int32)), .val (.int c2)]) rfl ?_
  refine own_iload X208 hx hby d10_15 rfl ?_
  refine own_sipush X208 hx hby 255 d10_17 rfl ?_
  have hc20_211 : (255 : Int32) < c2 := hB
  refine own_icmpNo X208 hx hby d10_20 (tlt hc20_211).2.2.2 ?_
  refine own_iload X208 hx hby d10_23 rfl ?_
  exact own_retI X208 hx hlk Bd.returns (hb hby d10_25) (by decide) (by decide) (by rw [e208]; exact ⟨rfl, N208, KK, Vd⟩)
theorem ef_cl3_3 (m : MethodId) (x0 : Addr) (x2 : Addr) : entryFrame m #[(.ref x0), (.int (0 : Int32)), (.ref x2), (.int (0 : Int32)), (.int (3 : Int32))] 7 = mkF m 0 #[.val (.ref x0), .val (.int (0 : Int32)), .val (.ref x2), .val (.int (0 : Int32)), .val (.int (3 : Int32)), .unset, .unset] [] := by first | (simp [entryFrame, mkF, argsToLocals, Value.category]; done) | rfl
def Qcl3_3 (Z : State) (a3 : Addr) (kd : ClassId) (c0 c1 c2 : Int32) (h0 : Heap) (n0 : Nat) (v : Option Value) (h : Heap) (L : List Loc) : Prop := v = some (.int (3 : Int32)) ∧ Fr n0 L ∧ Keep h0 h [a3] ∧ Arv Z h a3 kd .byte (3 : Int32) [(.int (own_b8 c0)), (.int (own_b8 c1)), (.int (own_b8 c2))] (.int (0 : Int32))
set_option maxRecDepth 65536 in
set_option maxHeartbeats 40000000 in
theorem rmcl3_3 (l : Launch) (Z : State) (a0 : Array Value) (hw : ∀ d ∈ tables_1, d.before a0 Z = true) (ws : List Jvm.Cond) (a1 a3 : Addr) (kc kd : ClassId) (c0 c1 c2 : Int32) (h0 : Heap) (n0 : Nat) (Z0 : n0 ≤ h0.size) (Vc : Arv Z h0 a1 kc .char (3 : Int32) [(.int c0), (.int c1), (.int c2)] (.int (0 : Int32))) (Vd : Arv Z h0 a3 kd .byte (3 : Int32) [(.int (0 : Int32)), (.int (0 : Int32)), (.int (0 : Int32))] (.int (0 : Int32))) (g_a3 : n0 ≤ a3) (nea : a1 ≠ a3) (hL0 : ¬ ((255 : Int32) < c0)) (hL1 : ¬ ((255 : Int32) < c1)) (hL2 : ¬ ((255 : Int32) < c2)) :
    MetFree l mN_16 (head1 (Jvm.Cond.code mN_16 jdk_52_method_21_code 7 (some .int) :: ws) ({ frames := 0, cells := 0, slots := 0, locals := 0 } : Room)) (fun a U => a = #[(.ref a1), (.int (0 : Int32)), (.ref a3), (.int (0 : Int32)), (.int (3 : Int32))] ∧ Z.Warmed39 U.vm ∧ U.heap = h0) (fun _ _ _ _ _ => True) (fun _ U o U' => ∃ v L, o = .returned v ∧ (Qcl3_3 Z a3 kd c0 c1 c2 h0 n0) v U'.heap L ∧ FrameEnd U o U' L ({ frames := 0, cells := 0, slots := 0, locals := 0 } : Room).cells ({ frames := 0, cells := 0, slots := 0, locals := 0 } : Room).slots) := by
  refine MetFree.of_bodySF (plainFor_of_name pn_2) hisR ?_
  intro p e s m args below meth c s₁ Bd hml0 hP hK
  obtain ⟨rfl, hZ, hh⟩ := hP
  have hx := Bd.exec
  have hby := Bd.bytes
  have hml : c.maxLocals = 7 := hml0
  have hown : s.vm.findClass "java/lang/StringUTF16" = some m.cls := findClass_of_methodNamed Bd.named
  have hnm := (name_of_methodNamed Bd.named Bd.method).1
  have hlk := Bd.notSynchronized
  have X0 : Stand p l e ({ frames := 0, cells := 0, slots := 0, locals := 0 } : Room) s m #[(.ref a1), (.int (0 : Int32)), (.ref a3), (.int (0 : Int32)), (.int (3 : Int32))] below meth c s₁ [] 0 0 := Stand.of_body Bd
  have e0 : s₁.heap = h0 := by rw [← hh, Bd.state]; rfl
  have N0 := Fr.nil n0
  have KK := Keep.refl h0 [a3]
  show own_Ends p e below s FrameEnd (Qcl3_3 Z a3 kd c0 c1 c2 h0 n0) 0 0 (s₁.setTop (entryFrame m #[(.ref a1), (.int (0 : Int32)), (.ref a3), (.int (0 : Int32)), (.int (3 : Int32))] 7))
  refine own_of (U' := (s₁.setTop (mkF m 0 #[.val (.ref a1), .val (.int (0 : Int32)), .val (.ref a3), .val (.int (0 : Int32)), .val (.int (3 : Int32)), .unset, .unset] []))) (fun _ k => castTop (ef_cl3_3 m a1 a3) k) ?_
  refine own_iconst X0 hx hby 0 d10_0 rfl ?_
  refine own_istore X0 hx hby d10_1 (l' := #[.val (.ref a1), .val (.int (0 : Int32)), .val (.ref a3), .val (.int (0 : Int32)), .val (.int (3 : Int32)), .val (.int (0 : Int32)), .unset]) rfl ?_
  refine own_iload X0 hx hby d10_3 rfl ?_
  refine own_iload X0 hx hby d10_5 rfl ?_
  have hc7_212 : (0 : Int32) < (3 : Int32) := by decide
  refine own_icmpNo X0 hx hby d10_7 (tlt hc7_212).2.1 ?_
  refine own_aloadN X0 hx hby d10_10 rfl rfl ?_
  refine own_iloadN X0 hx hby d10_11 rfl ?_
  obtain ⟨cl213, Ar213, qa213, Sa213, Na213, Ha213, Ga213⟩ := id Vc
  have hin213 : ¬ ((0 : Int32) < 0 ∨ cl213.slots.size ≤ ((0 : Int32)).toNatClampNeg) := inb_of Sa213 ⟨by decide, by decide⟩
  have hat213 : cl213.slots[((0 : Int32)).toNatClampNeg]? = some (.int c0) := Has.at Ha213 hin213 rfl
  refine own_of (U' := (s₁.setTop (mkF m 13 #[.val (.ref a1), .val (.int (0 : Int32)), .val (.ref a3), .val (.int (0 : Int32)), .val (.int (3 : Int32)), .val (.int (0 : Int32)), .unset] [(.int c0)]))) (X0.caload hx (j := (0 : Int32)) (v := (.int c0)) (by rw [e0]; exact Ar213.1) (State.isArrayOf_alike hZ.alike Ar213.2.1) Ar213.2.2 hin213 hat213 (g := (mkF m 12 #[.val (.ref a1), .val (.int (0 : Int32)), .val (.ref a3), .val (.int (0 : Int32)), .val (.int (3 : Int32)), .val (.int (0 : Int32)), .unset] [(.int (0 : Int32)), (.ref a1)])) rfl rfl (hb hby d10_12)) ?_
  refine own_istore X0 hx hby d10_13 (l' := #[.val (.ref a1), .val (.int (0 : Int32)), .val (.ref a3), .val (.int (0 : Int32)), .val (.int (3 : Int32)), .val (.int (0 : Int32)), .val (.int c0)]) rfl ?_
  refine own_iload X0 hx hby d10_15 rfl ?_
  refine own_sipush X0 hx hby 255 d10_17 rfl ?_
  have hc20_214 : ¬ ((255 : Int32) < c0) := hL0
  refine own_icmpYes X0 hx hby 20 26 d10_20 (flt hc20_214).2.2.2 (by decide) (by decide) ?_
  refine own_aloadN X0 hx hby d10_26 rfl rfl ?_
  refine own_iloadN X0 hx hby d10_27 rfl ?_
  refine own_iload X0 hx hby d10_28 rfl ?_
  refine own_i2b X0 hx hby d10_30 ?_
  obtain ⟨cl215, Ar215, qa215, Sa215, Na215, Ha215, Ga215⟩ := Vd
  have hin215 : ¬ ((0 : Int32) < 0 ∨ cl215.slots.size ≤ ((0 : Int32)).toNatClampNeg) := inb_of Sa215 ⟨by decide, by decide⟩
  obtain ⟨T215, h215, X215, e215, W215, st215⟩ := stB X0 hx hZ e0 Ar215 (j := (0 : Int32)) hin215 (g := (mkF m 31 #[.val (.ref a1), .val (.int (0 : Int32)), .val (.ref a3), .val (.int (0 : Int32)), .val (.int (3 : Int32)), .val (.int (0 : Int32)), .val (.int c0)] [(.int (c0.toInt8.toInt32)), (.int (0 : Int32)), (.ref a3)])) rfl rfl (hb hby d10_31)
  replace Vd : Arv Z h215 a3 kd .byte (3 : Int32) [(.int (nar .byte (c0.toInt8.toInt32))), (.int (0 : Int32)), (.int (0 : Int32))] (.int (0 : Int32)) := Arv.set Ar215 qa215 Sa215 Na215 Ha215 Ga215 (fits_nar_byte _) W215 0 rfl (Nat.le_of_ble_eq_true rfl)
  replace Z0 := Nat.le_trans Z0 (Keep.of_wr W215).1
  replace Vc := Vc.other W215 nea
  replace KK := KK.wr W215 (Or.inl (List.mem_of_getElem? (i := 0) rfl))
  have N215 := Fr.snoc X215 N0 g_a3
  refine own_of (U' := (T215.setTop (mkF m 32 #[.val (.ref a1), .val (.int (0 : Int32)), .val (.ref a3), .val (.int (0 : Int32)), .val (.int (3 : Int32)), .val (.int (0 : Int32)), .val (.int c0)] []))) (st215) ?_
  refine own_iinc X215 hx hby d10_32 rfl (l' := #[.val (.ref a1), .val (.int ((0 : Int32) + (1 : Int32))), .val (.ref a3), .val (.int (0 : Int32)), .val (.int (3 : Int32)), .val (.int (0 : Int32)), .val (.int c0)]) rfl ?_
  refine own_eq (U' := (T215.setTop (mkF m 35 #[.val (.ref a1), .val (.int (1 : Int32)), .val (.ref a3), .val (.int (0 : Int32)), .val (.int (3 : Int32)), .val (.int (0 : Int32)), .val (.int c0)] []))) (by rw [show ((0 : Int32) + (1 : Int32)) = (1 : Int32) by decide]) ?_
  refine own_iinc X215 hx hby d10_35 rfl (l' := #[.val (.ref a1), .val (.int (1 : Int32)), .val (.ref a3), .val (.int ((0 : Int32) + (1 : Int32))), .val (.int (3 : Int32)), .val (.int (0 : Int32)), .val (.int c0)]) rfl ?_
  refine own_eq (U' := (T215.setTop (mkF m 38 #[.val (.ref a1), .val (.int (1 : Int32)), .val (.ref a3), .val (.int (1 : Int32)), .val (.int (3 : Int32)), .val (.int (0 : Int32)), .val (.int c0)] []))) (by rw [show ((0 : Int32) + (1 : Int32)) = (1 : Int32) by decide]) ?_
  refine own_iinc X215 hx hby d10_38 rfl (l' := #[.val (.ref a1), .val (.int (1 : Int32)), .val (.ref a3), .val (.int (1 : Int32)), .val (.int (3 : Int32)), .val (.int ((0 : Int32) + (1 : Int32))), .val (.int c0)]) rfl ?_
  refine own_eq (U' := (T215.setTop (mkF m 41 #[.val (.ref a1), .val (.int (1 : Int32)), .val (.ref a3), .val (.int (1 : Int32)), .val (.int (3 : Int32)), .val (.int (1 : Int32)), .val (.int c0)] []))) (by rw [show ((0 : Int32) + (1 : Int32)) = (1 : Int32) by decide]) ?_
  refine own_goto X215 hx hby 41 3 d10_41 (by decide) (by decide) ?_
  refine own_iload X215 hx hby d10_3 rfl ?_
  refine own_iload X215 hx hby d10_5 rfl ?_
  have hc7_216 : (1 : Int32) < (3 : Int32) := by decide
  refine own_icmpNo X215 hx hby d10_7 (tlt hc7_216).2.1 ?_
  refine own_aloadN X215 hx hby d10_10 rfl rfl ?_
  refine own_iloadN X215 hx hby d10_11 rfl ?_
  obtain ⟨cl217, Ar217, qa217, Sa217, Na217, Ha217, Ga217⟩ := id Vc
  have hin217 : ¬ ((1 : Int32) < 0 ∨ cl217.slots.size ≤ ((1 : Int32)).toNatClampNeg) := inb_of Sa217 ⟨by decide, by decide⟩
  have hat217 : cl217.slots[((1 : Int32)).toNatClampNeg]? = some (.int c1) := Has.at Ha217 hin217 rfl
  refine own_of (U' := (T215.setTop (mkF m 13 #[.val (.ref a1), .val (.int (1 : Int32)), .val (.ref a3), .val (.int (1 : Int32)), .val (.int (3 : Int32)), .val (.int (1 : Int32)), .val (.int c0)] [(.int c1)]))) (X215.caload hx (j := (1 : Int32)) (v := (.int c1)) (by rw [e215]; exact Ar217.1) (State.isArrayOf_alike hZ.alike Ar217.2.1) Ar217.2.2 hin217 hat217 (g := (mkF m 12 #[.val (.ref a1), .val (.int (1 : Int32)), .val (.ref a3), .val (.int (1 : Int32)), .val (.int (3 : Int32)), .val (.int (1 : Int32)), .val (.int c0)] [(.int (1 : Int32)), (.ref a1)])) rfl rfl (hb hby d10_12)) ?_
  refine own_istore X215 hx hby d10_13 (l' := #[.val (.ref a1), .val (.int (1 : Int32)), .val (.ref a3), .val (.int (1 : Int32)), .val (.int (3 : Int32)), .val (.int (1 : Int32)), .val (.int c1)]) rfl ?_
  refine own_iload X215 hx hby d10_15 rfl ?_
  refine own_sipush X215 hx hby 255 d10_17 rfl ?_
  have hc20_218 : ¬ ((255 : Int32) < c1) := hL1
  refine own_icmpYes X215 hx hby 20 26 d10_20 (flt hc20_218).2.2.2 (by decide) (by decide) ?_
  refine own_aloadN X215 hx hby d10_26 rfl rfl ?_
  refine own_iloadN X215 hx hby d10_27 rfl ?_
  refine own_iload X215 hx hby d10_28 rfl ?_
  refine own_i2b X215 hx hby d10_30 ?_
  obtain ⟨cl219, Ar219, qa219, Sa219, Na219, Ha219, Ga219⟩ := Vd
  have hin219 : ¬ ((1 : Int32) < 0 ∨ cl219.slots.size ≤ ((1 : Int32)).toNatClampNeg) := inb_of Sa219 ⟨by decide, by decide⟩
  obtain ⟨T219, h219, X219, e219, W219, st219⟩ := stB X215 hx hZ e215 Ar219 (j := (1 : Int32)) hin219 (g := (mkF m 31 #[.val (.ref a1), .val (.int (1 : Int32)), .val (.ref a3), .val (.int (1 : Int32)), .val (.int (3 : Int32)), .val (.int (1 : Int32)), .val (.int c1)] [(.int (c1.toInt8.toInt32)), (.int (1 : Int32)), (.ref a3)])) rfl rfl (hb hby d10_31)
  replace Vd : Arv Z h219 a3 kd .byte (3 : Int32) [(.int (nar .byte (c0.toInt8.toInt32))), (.int (nar .byte (c1.toInt8.toInt32))), (.int (0 : Int32))] (.int (0 : Int32)) := Arv.set Ar219 qa219 Sa219 Na219 Ha219 Ga219 (fits_nar_byte _) W219 1 rfl (Nat.le_of_ble_eq_true rfl)
  replace Z0 := Nat.le_trans Z0 (Keep.of_wr W219).1
  replace Vc := Vc.other W219 nea
  replace KK := KK.wr W219 (Or.inl (List.mem_of_getElem? (i := 0) rfl))
  have N219 := Fr.snoc X219 N215 g_a3
  refine own_of (U' := (T219.setTop (mkF m 32 #[.val (.ref a1), .val (.int (1 : Int32)), .val (.ref a3), .val (.int (1 : Int32)), .val (.int (3 : Int32)), .val (.int (1 : Int32)), .val (.int c1)] []))) (st219) ?_
  refine own_iinc X219 hx hby d10_32 rfl (l' := #[.val (.ref a1), .val (.int ((1 : Int32) + (1 : Int32))), .val (.ref a3), .val (.int (1 : Int32)), .val (.int (3 : Int32)), .val (.int (1 : Int32)), .val (.int c1)]) rfl ?_
  refine own_eq (U' := (T219.setTop (mkF m 35 #[.val (.ref a1), .val (.int (2 : Int32)), .val (.ref a3), .val (.int (1 : Int32)), .val (.int (3 : Int32)), .val (.int (1 : Int32)), .val (.int c1)] []))) (by rw [show ((1 : Int32) + (1 : Int32)) = (2 : Int32) by decide]) ?_
  refine own_iinc X219 hx hby d10_35 rfl (l' := #[.val (.ref a1), .val (.int (2 : Int32)), .val (.ref a3), .val (.int ((1 : Int32) + (1 : Int32))), .val (.int (3 : Int32)), .val (.int (1 : Int32)), .val (.int c1)]) rfl ?_
  refine own_eq (U' := (T219.setTop (mkF m 38 #[.val (.ref a1), .val (.int (2 : Int32)), .val (.ref a3), .val (.int (2 : Int32)), .val (.int (3 : Int32)), .val (.int (1 : Int32)), .val (.int c1)] []))) (by rw [show ((1 : Int32) + (1 : Int32)) = (2 : Int32) by decide]) ?_
  refine own_iinc X219 hx hby d10_38 rfl (l' := #[.val (.ref a1), .val (.int (2 : Int32)), .val (.ref a3), .val (.int (2 : Int32)), .val (.int (3 : Int32)), .val (.int ((1 : Int32) + (1 : Int32))), .val (.int c1)]) rfl ?_
  refine own_eq (U' := (T219.setTop (mkF m 41 #[.val (.ref a1), .val (.int (2 : Int32)), .val (.ref a3), .val (.int (2 : Int32)), .val (.int (3 : Int32)), .val (.int (2 : Int32)), .val (.int c1)] []))) (by rw [show ((1 : Int32) + (1 : Int32)) = (2 : Int32) by decide]) ?_
  refine own_goto X219 hx hby 41 3 d10_41 (by decide) (by decide) ?_
  refine own_iload X219 hx hby d10_3 rfl ?_
  refine own_iload X219 hx hby d10_5 rfl ?_
  have hc7_220 : (2 : Int32) < (3 : Int32) := by decide
  refine own_icmpNo X219 hx hby d10_7 (tlt hc7_220).2.1 ?_
  refine own_aloadN X219 hx hby d10_10 rfl rfl ?_
  refine own_iloadN X219 hx hby d10_11 rfl ?_
  obtain ⟨cl221, Ar221, qa221, Sa221, Na221, Ha221, Ga221⟩ := id Vc
  have hin221 : ¬ ((2 : Int32) < 0 ∨ cl221.slots.size ≤ ((2 : Int32)).toNatClampNeg) := inb_of Sa221 ⟨by decide, by decide⟩
  have hat221 : cl221.slots[((2 : Int32)).toNatClampNeg]? = some (.int c2) := Has.at Ha221 hin221 rfl
  refine own_of (U' := (T219.setTop (mkF m 13 #[.val (.ref a1), .val (.int (2 : Int32)), .val (.ref a3), .val (.int (2 : Int32)), .val (.int (3 : Int32)), .val (.int (2 : Int32)), .val (.int c1)] [(.int c2)]))) (X219.caload hx (j := (2 : Int32)) (v := (.int c2)) (by rw [e219]; exact Ar221.1) (State.isArrayOf_alike hZ.alike Ar221.2.1) Ar221.2.2 hin221 hat221 (g := (mkF m 12 #[.val (.ref a1), .val (.int (2 : Int32)), .val (.ref a3), .val (.int (2 : Int32)), .val (.int (3 : Int32)), .val (.int (2 : Int32)), .val (.int c1)] [(.int (2 : Int32)), (.ref a1)])) rfl rfl (hb hby d10_12)) ?_
  refine own_istore X219 hx hby d10_13 (l' := #[.val (.ref a1), .val (.int (2 : Int32)), .val (.ref a3), .val (.int (2 : Int32)), .val (.int (3 : Int32)), .val (.int (2 : Int32)), .val (.int c2)]) rfl ?_
  refine own_iload X219 hx hby d10_15 rfl ?_
  refine own_sipush X219 hx hby 255 d10_17 rfl ?_
  have hc20_222 : ¬ ((255 : Int32) < c2) := hL2
  refine own_icmpYes X219 hx hby 20 26 d10_20 (flt hc20_222).2.2.2 (by decide) (by decide) ?_
  refine own_aloadN X219 hx hby d10_26 rfl rfl ?_
  refine own_iloadN X219 hx hby d10_27 rfl ?_
  refine own_iload X219 hx hby d10_28 rfl ?_
  refine own_i2b X219 hx hby d10_30 ?_
  obtain ⟨cl223, Ar223, qa223, Sa223, Na223, Ha223, Ga223⟩ := Vd
  have hin223 : ¬ ((2 : Int32) < 0 ∨ cl223.slots.size ≤ ((2 : Int32)).toNatClampNeg) := inb_of Sa223 ⟨by decide, by decide⟩
  obtain ⟨T223, h223, X223, e223, W223, st223⟩ := stB X219 hx hZ e219 Ar223 (j := (2 : Int32)) hin223 (g := (mkF m 31 #[.val (.ref a1), .val (.int (2 : Int32)), .val (.ref a3), .val (.int (2 : Int32)), .val (.int (3 : Int32)), .val (.int (2 : Int32)), .val (.int c2)] [(.int (c2.toInt8.toInt32)), (.int (2 : Int32)), (.ref a3)])) rfl rfl (hb hby d10_31)
  replace Vd : Arv Z h223 a3 kd .byte (3 : Int32) [(.int (nar .byte (c0.toInt8.toInt32))), (.int (nar .byte (c1.toInt8.toInt32))), (.int (nar .byte (c2.toInt8.toInt32)))] (.int (0 : Int32)) := Arv.set Ar223 qa223 Sa223 Na223 Ha223 Ga223 (fits_nar_byte _) W223 2 rfl (Nat.le_of_ble_eq_true rfl)
  replace Z0 := Nat.le_trans Z0 (Keep.of_wr W223).1
  replace Vc := Vc.other W223 nea
  replace KK := KK.wr W223 (Or.inl (List.mem_of_getElem? (i := 0) rfl))
  have N223 := Fr.snoc X223 N219 g_a3
  refine own_of (U' := (T223.setTop (mkF m 32 #[.val (.ref a1), .val (.int (2 : Int32)), .val (.ref a3), .val (.int (2 : Int32)), .val (.int (3 : Int32)), .val (.int (2 : Int32)), .val (.int c2)] []))) (st223) ?_
  refine own_iinc X223 hx hby d10_32 rfl (l' := #[.val (.ref a1), .val (.int ((2 : Int32) + (1 : Int32))), .val (.ref a3), .val (.int (2 : Int32)), .val (.int (3 : Int32)), .val (.int (2 : Int32)), .val (.int c2)]) rfl ?_
  refine own_eq (U' := (T223.setTop (mkF m 35 #[.val (.ref a1), .val (.int (3 : Int32)), .val (.ref a3), .val (.int (2 : Int32)), .val (.int (3 : Int32)), .val (.int (2 : Int32)), .val (.int c2)] []))) (by rw [show ((2 : Int32) + (1 : Int32)) = (3 : Int32) by decide]) ?_
  refine own_iinc X223 hx hby d10_35 rfl (l' := #[.val (.ref a1), .val (.int (3 : Int32)), .val (.ref a3), .val (.int ((2 : Int32) + (1 : Int32))), .val (.int (3 : Int32)), .val (.int (2 : Int32)), .val (.int c2)]) rfl ?_
  refine own_eq (U' := (T223.setTop (mkF m 38 #[.val (.ref a1), .val (.int (3 : Int32)), .val (.ref a3), .val (.int (3 : Int32)), .val (.int (3 : Int32)), .val (.int (2 : Int32)), .val (.int c2)] []))) (by rw [show ((2 : Int32) + (1 : Int32)) = (3 : Int32) by decide]) ?_
  refine own_iinc X223 hx hby d10_38 rfl (l' := #[.val (.ref a1), .val (.int (3 : Int32)), .val (.ref a3), .val (.int (3 : Int32)), .val (.int (3 : Int32)), .val (.int ((2 : Int32) + (1 : Int32))), .val (.int c2)]) rfl ?_
  refine own_eq (U' := (T223.setTop (mkF m 41 #[.val (.ref a1), .val (.int (3 : Int32)), .val (.ref a3), .val (.int (3 : Int32)), .val (.int (3 : Int32)), .val (.int (3 : Int32)), .val (.int c2)] []))) (by rw [show ((2 : Int32) + (1 : Int32)) = (3 : Int32) by decide]) ?_
  refine own_goto X223 hx hby 41 3 d10_41 (by decide) (by decide) ?_
  refine own_iload X223 hx hby d10_3 rfl ?_
  refine own_iload X223 hx hby d10_5 rfl ?_
  have hc7_224 : ¬ ((3 : Int32) < (3 : Int32)) := by decide
  refine own_icmpYes X223 hx hby 7 44 d10_7 (flt hc7_224).2.1 (by decide) (by decide) ?_
  refine own_iload X223 hx hby d10_44 rfl ?_
  exact own_retI X223 hx hlk Bd.returns (hb hby d10_46) (by decide) (by decide) (by rw [e223]; exact ⟨rfl, N223, KK, Vd⟩)
def Qclb3 (a3 : Addr) (c0 c1 c2 : Int32) (h0 : Heap) (n0 : Nat) (v : Option Value) (h : Heap) (L : List Loc) : Prop := ∃ r : Int32, v = some (.int r) ∧ Fr n0 L ∧ Keep h0 h [a3] ∧ ¬ (r = (3 : Int32)) ∧ (¬ ((r <<< ((1 : Int32) &&& 31)) < (0 : Int32))) ∧ ((r <<< ((1 : Int32) &&& 31)) < (6 : Int32)) ∧ (¬ (((r <<< ((1 : Int32) &&& 31)) + (1 : Int32)) < (0 : Int32))) ∧ (((r <<< ((1 : Int32) &&& 31)) + (1 : Int32)) < (6 : Int32)) ∧ (255 : Int32) < own_chu [(own_lo8 c0), (own_hi8 c0), (own_lo8 c1), (own_hi8 c1), (own_lo8 c2), (own_hi8 c2)] r
theorem rmclb3 (l : Launch) (Z : State) (a0 : Array Value) (hw : ∀ d ∈ tables_1, d.before a0 Z = true) (ws : List Jvm.Cond) (a1 a3 : Addr) (kc kd : ClassId) (c0 c1 c2 : Int32) (h0 : Heap) (n0 : Nat) (Z0 : n0 ≤ h0.size) (Vc : Arv Z h0 a1 kc .char (3 : Int32) [(.int c0), (.int c1), (.int c2)] (.int (0 : Int32))) (Vd : Arv Z h0 a3 kd .byte (3 : Int32) [(.int (0 : Int32)), (.int (0 : Int32)), (.int (0 : Int32))] (.int (0 : Int32))) (g_a3 : n0 ≤ a3) (nea : a1 ≠ a3) (hb0 : 0 ≤ c0.toInt ∧ c0.toInt < 65536) (hb1 : 0 ≤ c1.toInt ∧ c1.toInt < 65536) (hb2 : 0 ≤ c2.toInt ∧ c2.toInt < 65536) (big : ((255 : Int32) < c0) ∨ ((255 : Int32) < c1) ∨ ((255 : Int32) < c2)) :
    MetFree l mN_16 (head1 (Jvm.Cond.code mN_16 jdk_52_method_21_code 7 (some .int) :: ws) ({ frames := 0, cells := 0, slots := 0, locals := 0 } : Room)) (fun a U => a = #[(.ref a1), (.int (0 : Int32)), (.ref a3), (.int (0 : Int32)), (.int (3 : Int32))] ∧ Z.Warmed39 U.vm ∧ U.heap = h0) (fun _ _ _ _ _ => True) (fun _ U o U' => ∃ v L, o = .returned v ∧ (Qclb3 a3 c0 c1 c2 h0 n0) v U'.heap L ∧ FrameEnd U o U' L ({ frames := 0, cells := 0, slots := 0, locals := 0 } : Room).cells ({ frames := 0, cells := 0, slots := 0, locals := 0 } : Room).slots) := by
  by_cases qB0 : (255 : Int32) < c0
  · exact own_mono (rmcl3_0 l Z a0 hw ws a1 a3 kc kd c0 c1 c2 h0 n0 Z0 Vc Vd g_a3 nea  qB0) (fun _ _ _ _ ⟨v, L, h1, ⟨q1, q2, q3, _⟩, h3⟩ => ⟨v, L, h1, ⟨(0 : Int32), q1, q2, q3, by decide, by decide, by decide, by decide, by decide, by rw [show own_chu [(own_lo8 c0), (own_hi8 c0), (own_lo8 c1), (own_hi8 c1), (own_lo8 c2), (own_hi8 c2)] (0 : Int32) = c0 from own_gc_eq hb0]; exact qB0⟩, h3⟩)
  by_cases qB1 : (255 : Int32) < c1
  · exact own_mono (rmcl3_1 l Z a0 hw ws a1 a3 kc kd c0 c1 c2 h0 n0 Z0 Vc Vd g_a3 nea qB0 qB1) (fun _ _ _ _ ⟨v, L, h1, ⟨q1, q2, q3, _⟩, h3⟩ => ⟨v, L, h1, ⟨(1 : Int32), q1, q2, q3, by decide, by decide, by decide, by decide, by decide, by rw [show own_chu [(own_lo8 c0), (own_hi8 c0), (own_lo8 c1), (own_hi8 c1), (own_lo8 c2), (own_hi8 c2)] (1 : Int32) = c1 from own_gc_eq hb1]; exact qB1⟩, h3⟩)
  by_cases qB2 : (255 : Int32) < c2
  · exact own_mono (rmcl3_2 l Z a0 hw ws a1 a3 kc kd c0 c1 c2 h0 n0 Z0 Vc Vd g_a3 nea qB0 qB1 qB2) (fun _ _ _ _ ⟨v, L, h1, ⟨q1, q2, q3, _⟩, h3⟩ => ⟨v, L, h1, ⟨(2 : Int32), q1, q2, q3, by decide, by decide, by decide, by decide, by decide, by rw [show own_chu [(own_lo8 c0), (own_hi8 c0), (own_lo8 c1), (own_hi8 c1), (own_lo8 c2), (own_hi8 c2)] (2 : Int32) = c2 from own_gc_eq hb2]; exact qB2⟩, h3⟩)
  exact absurd big (by simp [qB0, qB1, qB2])
theorem ef_cl3 (m : MethodId) (x0 : Addr) : entryFrame m #[(.ref x0), (.int (0 : Int32)), (.int (3 : Int32))] 6 = mkF m 0 #[.val (.ref x0), .val (.int (0 : Int32)), .val (.int (3 : Int32)), .unset, .unset, .unset] [] := by first | (simp [entryFrame, mkF, argsToLocals, Value.category]; done) | rfl
def Qcl3 (Z : State) (c0 c1 c2 : Int32) (h0 : Heap) (n0 : Nat) (v : Option Value) (h : Heap) (L : List Loc) : Prop := ∃ (b : Addr) (kb : ClassId), v = some (.ref b) ∧ Fr n0 L ∧ Keep h0 h [] ∧ h0.size ≤ b ∧ Arv Z h b kb .byte (3 : Int32) [(.int (own_b8 c0)), (.int (own_b8 c1)), (.int (own_b8 c2))] (.int (0 : Int32))
set_option maxRecDepth 65536 in
set_option maxHeartbeats 40000000 in
theorem rmcl3 (l : Launch) (Z : State) (a0 : Array Value) (hw : ∀ d ∈ tables_1, d.before a0 Z = true) (ws : List Jvm.Cond) (a1 : Addr) (kc : ClassId) (c0 c1 c2 : Int32) (h0 : Heap) (n0 : Nat) (Z0 : n0 ≤ h0.size) (Vc : Arv Z h0 a1 kc .char (3 : Int32) [(.int c0), (.int c1), (.int c2)] (.int (0 : Int32))) (hb0 : 0 ≤ c0.toInt ∧ c0.toInt < 65536) (hb1 : 0 ≤ c1.toInt ∧ c1.toInt < 65536) (hb2 : 0 ≤ c2.toInt ∧ c2.toInt < 65536) (SA : Sta Z h0 "java/lang/StringUTF16" "$assertionsDisabled" "Z" (.int (1 : Int32))) (SHI : Sta Z h0 "java/lang/StringUTF16" "HI_BYTE_SHIFT" "I" (.int (0 : Int32))) (SLO : Sta Z h0 "java/lang/StringUTF16" "LO_BYTE_SHIFT" "I" (.int (8 : Int32))) (hL0 : ¬ ((255 : Int32) < c0)) (hL1 : ¬ ((255 : Int32) < c1)) (hL2 : ¬ ((255 : Int32) < c2)) :
    MetFree l mN_17 (head1 (Jvm.Cond.code mN_17 jdk_52_method_16_code 6 (some (.array .byte)) :: ws) ({ frames := 1, cells := 1, slots := 3, locals := 18 } : Room)) (fun a U => a = #[(.ref a1), (.int (0 : Int32)), (.int (3 : Int32))] ∧ Z.Warmed39 U.vm ∧ U.heap = h0) (fun _ _ _ _ _ => True) (fun _ U o U' => ∃ v L, o = .returned v ∧ (Qcl3 Z c0 c1 c2 h0 n0) v U'.heap L ∧ FrameEnd U o U' L ({ frames := 1, cells := 1, slots := 3, locals := 18 } : Room).cells ({ frames := 1, cells := 1, slots := 3, locals := 18 } : Room).slots) := by
  refine MetFree.of_bodySF (plainFor_of_name pn_2) hisR ?_
  intro p e s m args below meth c s₁ Bd hml0 hP hK
  obtain ⟨rfl, hZ, hh⟩ := hP
  have hx := Bd.exec
  have hby := Bd.bytes
  have hml : c.maxLocals = 6 := hml0
  have hown : s.vm.findClass "java/lang/StringUTF16" = some m.cls := findClass_of_methodNamed Bd.named
  have hnm := (name_of_methodNamed Bd.named Bd.method).1
  have hlk := Bd.notSynchronized
  have X0 : Stand p l e ({ frames := 1, cells := 1, slots := 3, locals := 18 } : Room) s m #[(.ref a1), (.int (0 : Int32)), (.int (3 : Int32))] below meth c s₁ [] 0 0 := Stand.of_body Bd
  have e0 : s₁.heap = h0 := by rw [← hh, Bd.state]; rfl
  have N0 := Fr.nil n0
  have KK := Keep.refl h0 []
  show own_Ends p e below s FrameEnd (Qcl3 Z c0 c1 c2 h0 n0) 1 3 (s₁.setTop (entryFrame m #[(.ref a1), (.int (0 : Int32)), (.int (3 : Int32))] 6))
  refine own_of (U' := (s₁.setTop (mkF m 0 #[.val (.ref a1), .val (.int (0 : Int32)), .val (.int (3 : Int32)), .unset, .unset, .unset] []))) (fun _ k => castTop (ef_cl3 m a1) k) ?_
  refine own_iloadN X0 hx hby d9_0 rfl ?_
  obtain ⟨T225, h225, k225, X225, e225, E225, A225, st225⟩ := newP X0 hx hZ (own_w hw 22 rfl) e0 (g := (mkF m 1 #[.val (.ref a1), .val (.int (0 : Int32)), .val (.int (3 : Int32)), .unset, .unset, .unset] [(.int (3 : Int32))])) rfl (hb hby d9_1) rfl (by decide) (cap := 3) (by decide) (by decide) (by decide) (by decide)
  obtain ⟨b225, gz225⟩ : ∃ z, z = h0.size := ⟨_, rfl⟩
  rw [← gz225] at A225 st225
  have g_b225 : n0 ≤ b225 := Nat.le_trans Z0 (Nat.le_of_eq gz225.symm)
  have sz_b225 : h0.size ≤ b225 := Nat.le_trans KK.1 (Nat.le_of_eq gz225.symm)
  have ne_a1_b225 : a1 ≠ b225 := Nat.ne_of_lt (Nat.lt_of_lt_of_le Vc.lt (Nat.le_of_eq gz225.symm))
  replace Z0 := Nat.le_trans Z0 E225.1
  replace Vc := Vc.ext E225
  replace SA := SA.ext E225
  replace SHI := SHI.ext E225
  replace SLO := SLO.ext E225
  replace KK := KK.ext E225
  have V225 : Arv Z h225 b225 k225 .byte (3 : Int32) [(.int (0 : Int32)), (.int (0 : Int32)), (.int (0 : Int32))] (.int (0 : Int32)) := (Arv.new A225 (by decide)).pad (pad_rep [] (.int (0 : Int32)) 3)
  refine own_of (U' := (T225.setTop (mkF m 3 #[.val (.ref a1), .val (.int (0 : Int32)), .val (.int (3 : Int32)), .unset, .unset, .unset] [(.ref b225)]))) (st225) ?_
  refine own_astoreN X225 hx hby d9_3 rfl (l' := #[.val (.ref a1), .val (.int (0 : Int32)), .val (.int (3 : Int32)), .val (.ref b225), .unset, .unset]) rfl ?_
  refine own_aloadN X225 hx hby d9_4 rfl rfl ?_
  refine own_iloadN X225 hx hby d9_5 rfl ?_
  refine own_aloadN X225 hx hby d9_6 rfl rfl ?_
  refine own_iconst X225 hx hby 0 d9_7 rfl ?_
  refine own_iloadN X225 hx hby d9_8 rfl ?_
  obtain ⟨_, _, ⟨T226, L226, k226, n226⟩, -, X226, ⟨Lc226, hQ226, l226, y226, z226⟩, st226⟩ := Jvm.LawKit.callS X225 hx (y := mN_16) hown (mvT hZ (own_w hw 53 rfl)) (mvT hZ (own_w hw 54 rfl)) (mvT hZ (own_w hw 51 rfl)) (mvT hZ (own_w hw 55 rfl)) (by decide) (backOf (W := 0) (rmcl3_3 l Z a0 hw [] a1 b225 kc k225 c0 c1 c2 h225 n0 Z0 Vc V225 g_b225 ne_a1_b225 hL0 hL1 hL2) hZ (own_w hw 55 rfl) (own_w hw 51 rfl) (by decide) (by decide)) (g := (mkF m 9 #[.val (.ref a1), .val (.int (0 : Int32)), .val (.int (3 : Int32)), .val (.ref b225), .unset, .unset] [(.int (3 : Int32)), (.int (0 : Int32)), (.ref b225), (.int (0 : Int32)), (.ref a1)])) rfl (by rw [hml]; rfl) (argsL := [(.ref a1), (.int (0 : Int32)), (.ref b225), (.int (0 : Int32)), (.int (3 : Int32))]) (rest := []) (lenOf pd_10 rfl) rfl (by show 2 * 0 + _ ≤ _; exact Nat.le_of_eq rfl) (hb hby d9_9) (fun _ _ => ⟨rfl, e225, (by decide : 1 + 0 ≤ _), (by decide : 3 + 0 ≤ _)⟩)
  dsimp only [Pt.U, Pt.locs, Pt.cells, Pt.slots] at X226 l226 y226 z226 st226 hQ226
  subst l226 y226 z226
  obtain ⟨rfl, Nq226, Kp226, Vq226⟩ := hQ226
  have N226 := Fr.app N0 Nq226
  have nst_b225 := V225.nostat
  replace Z0 := Nat.le_trans Z0 Kp226.1
  replace Vc := Vc.keep Kp226 (ninS ne_a1_b225 nin0)
  replace SA := own_staKeep SA Kp226 (nsS nst_b225 ns0)
  replace SHI := own_staKeep SHI Kp226 (nsS nst_b225 ns0)
  replace SLO := own_staKeep SLO Kp226 (nsS nst_b225 ns0)
  replace KK := KK.trans Kp226 (allS (Or.inr sz_b225) all0)
  refine own_of (U' := (T226.setTop (mkF m 12 #[.val (.ref a1), .val (.int (0 : Int32)), .val (.int (3 : Int32)), .val (.ref b225), .unset, .unset] [(.int (3 : Int32))]))) (st226) ?_
  refine own_istore X226 hx hby d9_12 (l' := #[.val (.ref a1), .val (.int (0 : Int32)), .val (.int (3 : Int32)), .val (.ref b225), .val (.int (3 : Int32)), .unset]) rfl ?_
  refine own_iload X226 hx hby d9_14 rfl ?_
  refine own_iloadN X226 hx hby d9_16 rfl ?_
  have hc17_227 : (3 : Int32) = (3 : Int32) := by decide
  refine own_icmpYes X226 hx hby 17 57 d9_17 (teq hc17_227).1 (by decide) (by decide) ?_
  refine own_aloadN X226 hx hby d9_57 rfl rfl ?_
  exact own_retA X226 hx hlk Bd.returns rfl rfl (hb hby d9_58) (by decide) (by decide) (⟨b225, k225, rfl, N226, KK, sz_b225, Vq226⟩)
theorem ef_cb3 (m : MethodId) (x0 : Addr) : entryFrame m #[(.ref x0), (.int (0 : Int32)), (.int (3 : Int32))] 6 = mkF m 0 #[.val (.ref x0), .val (.int (0 : Int32)), .val (.int (3 : Int32)), .unset, .unset, .unset] [] := by first | (simp [entryFrame, mkF, argsToLocals, Value.category]; done) | rfl
def Qcb3 (Z : State) (c0 c1 c2 : Int32) (h0 : Heap) (n0 : Nat) (v : Option Value) (h : Heap) (L : List Loc) : Prop := ∃ (b : Addr) (kb : ClassId), v = some (.ref b) ∧ Fr n0 L ∧ Keep h0 h [] ∧ h0.size ≤ b ∧ Arv Z h b kb .byte (6 : Int32) [(.int (own_lo8 c0)), (.int (own_hi8 c0)), (.int (own_lo8 c1)), (.int (own_hi8 c1)), (.int (own_lo8 c2)), (.int (own_hi8 c2))] (.int (0 : Int32))
set_option maxRecDepth 65536 in
set_option maxHeartbeats 40000000 in
theorem rmcb3 (l : Launch) (Z : State) (a0 : Array Value) (hw : ∀ d ∈ tables_1, d.before a0 Z = true) (ws : List Jvm.Cond) (a1 : Addr) (kc : ClassId) (c0 c1 c2 : Int32) (h0 : Heap) (n0 : Nat) (Z0 : n0 ≤ h0.size) (Vc : Arv Z h0 a1 kc .char (3 : Int32) [(.int c0), (.int c1), (.int c2)] (.int (0 : Int32))) (hb0 : 0 ≤ c0.toInt ∧ c0.toInt < 65536) (hb1 : 0 ≤ c1.toInt ∧ c1.toInt < 65536) (hb2 : 0 ≤ c2.toInt ∧ c2.toInt < 65536) (SA : Sta Z h0 "java/lang/StringUTF16" "$assertionsDisabled" "Z" (.int (1 : Int32))) (SHI : Sta Z h0 "java/lang/StringUTF16" "HI_BYTE_SHIFT" "I" (.int (0 : Int32))) (SLO : Sta Z h0 "java/lang/StringUTF16" "LO_BYTE_SHIFT" "I" (.int (8 : Int32))) (big : ((255 : Int32) < c0) ∨ ((255 : Int32) < c1) ∨ ((255 : Int32) < c2)) :
    MetFree l mN_17 (head1 (Jvm.Cond.code mN_17 jdk_52_method_16_code 6 (some (.array .byte)) :: ws) ({ frames := 3, cells := 2, slots := 9, locals := 40 } : Room)) (fun a U => a = #[(.ref a1), (.int (0 : Int32)), (.int (3 : Int32))] ∧ Z.Warmed39 U.vm ∧ U.heap = h0) (fun _ _ _ _ _ => True) (fun _ U o U' => ∃ v L, o = .returned v ∧ (Qcb3 Z c0 c1 c2 h0 n0) v U'.heap L ∧ FrameEnd U o U' L ({ frames := 3, cells := 2, slots := 9, locals := 40 } : Room).cells ({ frames := 3, cells := 2, slots := 9, locals := 40 } : Room).slots) := by
  refine MetFree.of_bodySF (plainFor_of_name pn_2) hisR ?_
  intro p e s m args below meth c s₁ Bd hml0 hP hK
  obtain ⟨rfl, hZ, hh⟩ := hP
  have hx := Bd.exec
  have hby := Bd.bytes
  have hml : c.maxLocals = 6 := hml0
  have hown : s.vm.findClass "java/lang/StringUTF16" = some m.cls := findClass_of_methodNamed Bd.named
  have hnm := (name_of_methodNamed Bd.named Bd.method).1
  have hlk := Bd.notSynchronized
  have X0 : Stand p l e ({ frames := 3, cells := 2, slots := 9, locals := 40 } : Room) s m #[(.ref a1), (.int (0 : Int32)), (.int (3 : Int32))] below meth c s₁ [] 0 0 := Stand.of_body Bd
  have e0 : s₁.heap = h0 := by rw [← hh, Bd.state]; rfl
  have N0 := Fr.nil n0
  have KK := Keep.refl h0 []
  show own_Ends p e below s FrameEnd (Qcb3 Z c0 c1 c2 h0 n0) 2 9 (s₁.setTop (entryFrame m #[(.ref a1), (.int (0 : Int32)), (.int (3 : Int32))] 6))
  refine own_of (U' := (s₁.setTop (mkF m 0 #[.val (.ref a1), .val (.int (0 : Int32)), .val (.int (3 : Int32)), .unset, .unset, .unset] []))) (fun _ k => castTop (ef_cb3 m a1) k) ?_
  refine own_iloadN X0 hx hby d9_0 rfl ?_
  obtain ⟨T228, h228, k228, X228, e228, E228, A228, st228⟩ := newP X0 hx hZ (own_w hw 22 rfl) e0 (g := (mkF m 1 #[.val (.ref a1), .val (.int (0 : Int32)), .val (.int (3 : Int32)), .unset, .unset, .unset] [(.int (3 : Int32))])) rfl (hb hby d9_1) rfl (by decide) (cap := 3) (by decide) (by decide) (by decide) (by decide)
  obtain ⟨b228, gz228⟩ : ∃ z, z = h0.size := ⟨_, rfl⟩
  rw [← gz228] at A228 st228
  have g_b228 : n0 ≤ b228 := Nat.le_trans Z0 (Nat.le_of_eq gz228.symm)
  have sz_b228 : h0.size ≤ b228 := Nat.le_trans KK.1 (Nat.le_of_eq gz228.symm)
  have ne_a1_b228 : a1 ≠ b228 := Nat.ne_of_lt (Nat.lt_of_lt_of_le Vc.lt (Nat.le_of_eq gz228.symm))
  replace Z0 := Nat.le_trans Z0 E228.1
  replace Vc := Vc.ext E228
  replace SA := SA.ext E228
  replace SHI := SHI.ext E228
  replace SLO := SLO.ext E228
  replace KK := KK.ext E228
  have V228 : Arv Z h228 b228 k228 .byte (3 : Int32) [(.int (0 : Int32)), (.int (0 : Int32)), (.int (0 : Int32))] (.int (0 : Int32)) := (Arv.new A228 (by decide)).pad (pad_rep [] (.int (0 : Int32)) 3)
  refine own_of (U' := (T228.setTop (mkF m 3 #[.val (.ref a1), .val (.int (0 : Int32)), .val (.int (3 : Int32)), .unset, .unset, .unset] [(.ref b228)]))) (st228) ?_
  refine own_astoreN X228 hx hby d9_3 rfl (l' := #[.val (.ref a1), .val (.int (0 : Int32)), .val (.int (3 : Int32)), .val (.ref b228), .unset, .unset]) rfl ?_
  refine own_aloadN X228 hx hby d9_4 rfl rfl ?_
  refine own_iloadN X228 hx hby d9_5 rfl ?_
  refine own_aloadN X228 hx hby d9_6 rfl rfl ?_
  refine own_iconst X228 hx hby 0 d9_7 rfl ?_
  refine own_iloadN X228 hx hby d9_8 rfl ?_
  obtain ⟨_, _, ⟨T229, L229, k229, n229⟩, -, X229, ⟨Lc229, hQ229, l229, y229, z229⟩, st229⟩ := Jvm.LawKit.callS X228 hx (y := mN_16) hown (mvT hZ (own_w hw 53 rfl)) (mvT hZ (own_w hw 54 rfl)) (mvT hZ (own_w hw 51 rfl)) (mvT hZ (own_w hw 55 rfl)) (by decide) (backOf (W := 0) (rmclb3 l Z a0 hw [] a1 b228 kc k228 c0 c1 c2 h228 n0 Z0 Vc V228 g_b228 ne_a1_b228 hb0 hb1 hb2 big) hZ (own_w hw 55 rfl) (own_w hw 51 rfl) (by decide) (by decide)) (g := (mkF m 9 #[.val (.ref a1), .val (.int (0 : Int32)), .val (.int (3 : Int32)), .val (.ref b228), .unset, .unset] [(.int (3 : Int32)), (.int (0 : Int32)), (.ref b228), (.int (0 : Int32)), (.ref a1)])) rfl (by rw [hml]; rfl) (argsL := [(.ref a1), (.int (0 : Int32)), (.ref b228), (.int (0 : Int32)), (.int (3 : Int32))]) (rest := []) (lenOf pd_10 rfl) rfl (by show 2 * 0 + _ ≤ _; exact Nat.le_of_eq rfl) (hb hby d9_9) (fun _ _ => ⟨rfl, e228, (by decide : 1 + 0 ≤ _), (by decide : 3 + 0 ≤ _)⟩)
  dsimp only [Pt.U, Pt.locs, Pt.cells, Pt.slots] at X229 l229 y229 z229 st229 hQ229
  subst l229 y229 z229
  obtain ⟨r229, rfl, Nq229, Kp229, nr229, i1, i2, i3, i4, bg229⟩ := hQ229
  have N229 := Fr.app N0 Nq229
  have nst_b228 := V228.nostat
  replace Z0 := Nat.le_trans Z0 Kp229.1
  replace Vc := Vc.keep Kp229 (ninS ne_a1_b228 nin0)
  replace SA := own_staKeep SA Kp229 (nsS nst_b228 ns0)
  replace SHI := own_staKeep SHI Kp229 (nsS nst_b228 ns0)
  replace SLO := own_staKeep SLO Kp229 (nsS nst_b228 ns0)
  replace KK := KK.trans Kp229 (allS (Or.inr sz_b228) all0)
  refine own_of (U' := (T229.setTop (mkF m 12 #[.val (.ref a1), .val (.int (0 : Int32)), .val (.int (3 : Int32)), .val (.ref b228), .unset, .unset] [(.int r229)]))) (st229) ?_
  refine own_istore X229 hx hby d9_12 (l' := #[.val (.ref a1), .val (.int (0 : Int32)), .val (.int (3 : Int32)), .val (.ref b228), .val (.int r229), .unset]) rfl ?_
  refine own_iload X229 hx hby d9_14 rfl ?_
  refine own_iloadN X229 hx hby d9_16 rfl ?_
  have hc17_230 : ¬ (r229 = (3 : Int32)) := nr229
  refine own_icmpNo X229 hx hby d9_17 (feq hc17_230).1 ?_
  refine own_aloadN X229 hx hby d9_20 rfl rfl ?_
  refine own_iloadN X229 hx hby d9_21 rfl ?_
  refine own_iloadN X229 hx hby d9_22 rfl ?_
  obtain ⟨_, _, ⟨T231, L231, k231, n231⟩, -, X231, ⟨Lc231, hQ231, l231, y231, z231⟩, st231⟩ := Jvm.LawKit.callS X229 hx (y := mN_15) hown (mvT hZ (own_w hw 84 rfl)) (mvT hZ (own_w hw 85 rfl)) (mvT hZ (own_w hw 51 rfl)) (mvT hZ (own_w hw 86 rfl)) (by decide) (backOf (W := 0) (rmtb3 l Z a0 hw [] a1 kc c0 c1 c2 T229.heap n0 Z0 Vc SA SHI SLO) hZ (own_w hw 86 rfl) (own_w hw 51 rfl) (by decide) (by decide)) (g := (mkF m 23 #[.val (.ref a1), .val (.int (0 : Int32)), .val (.int (3 : Int32)), .val (.ref b228), .val (.int r229), .unset] [(.int (3 : Int32)), (.int (0 : Int32)), (.ref a1)])) rfl (by rw [hml]; rfl) (argsL := [(.ref a1), (.int (0 : Int32)), (.int (3 : Int32))]) (rest := []) (lenOf pd_11 rfl) rfl (by show 2 * 0 + _ ≤ _; exact Nat.le_of_eq rfl) (hb hby d9_23) (fun _ _ => ⟨rfl, rfl, (by decide : 1 + 1 ≤ _), (by decide : 3 + 6 ≤ _)⟩)
  dsimp only [Pt.U, Pt.locs, Pt.cells, Pt.slots] at X231 l231 y231 z231 st231 hQ231
  subst l231 y231 z231
  obtain ⟨u231, ku231, rfl, Nq231, Kp231, gq231, Vq231⟩ := hQ231
  have g_u231 : n0 ≤ u231 := Nat.le_trans Z0 gq231
  have sz_u231 : h0.size ≤ u231 := Nat.le_trans KK.1 gq231
  have ne_a1_u231 : a1 ≠ u231 := Nat.ne_of_lt (Nat.lt_of_lt_of_le Vc.lt gq231)
  have N231 := Fr.app N229 Nq231
  replace Z0 := Nat.le_trans Z0 Kp231.1
  replace Vc := Vc.keep Kp231 nin0
  replace SA := own_staKeep SA Kp231 ns0
  replace SHI := own_staKeep SHI Kp231 ns0
  replace SLO := own_staKeep SLO Kp231 ns0
  replace KK := KK.trans Kp231 all0
  refine own_of (U' := (T231.setTop (mkF m 26 #[.val (.ref a1), .val (.int (0 : Int32)), .val (.int (3 : Int32)), .val (.ref b228), .val (.int r229), .unset] [(.ref u231)]))) (st231) ?_
  refine own_astore X231 hx hby d9_26 rfl (l' := #[.val (.ref a1), .val (.int (0 : Int32)), .val (.int (3 : Int32)), .val (.ref b228), .val (.int r229), .val (.ref u231)]) rfl ?_
  refine own_aload X231 hx hby d9_28 rfl rfl ?_
  refine own_iload X231 hx hby d9_30 rfl ?_
  obtain ⟨_, _, ⟨T232, L232, k232, n232⟩, -, X232, ⟨Lc232, hQ232, l232, y232, z232⟩, st232⟩ := Jvm.LawKit.callS X231 hx (y := mN_4) hown (mvT hZ (own_w hw 100 rfl)) (mvT hZ (own_w hw 101 rfl)) (mvT hZ (own_w hw 51 rfl)) (mvT hZ (own_w hw 102 rfl)) (by decide) (backOf (W := 0) (rmug l Z a0 hw [] u231 r229 ku231 (6 : Int32) [(own_lo8 c0), (own_hi8 c0), (own_lo8 c1), (own_hi8 c1), (own_lo8 c2), (own_hi8 c2)] T231.heap n0 Z0 Vq231 i1 i2 i3 i4 SA SHI SLO) hZ (own_w hw 102 rfl) (own_w hw 51 rfl) (by decide) (by decide)) (g := (mkF m 32 #[.val (.ref a1), .val (.int (0 : Int32)), .val (.int (3 : Int32)), .val (.ref b228), .val (.int r229), .val (.ref u231)] [(.int r229), (.ref u231)])) rfl (by rw [hml]; rfl) (argsL := [(.ref u231), (.int r229)]) (rest := []) (lenOf pd_4 rfl) rfl (by show 2 * 0 + _ ≤ _; exact Nat.le_of_eq rfl) (hb hby d9_32) (fun _ _ => ⟨rfl, rfl, (by decide : 2 + 0 ≤ _), (by decide : 9 + 0 ≤ _)⟩)
  dsimp only [Pt.U, Pt.locs, Pt.cells, Pt.slots] at X232 l232 y232 z232 st232 hQ232
  subst l232 y232 z232
  obtain ⟨rfl, Nq232, e232⟩ := hQ232
  have N232 := Fr.app N231 Nq232
  refine own_of (U' := (T232.setTop (mkF m 35 #[.val (.ref a1), .val (.int (0 : Int32)), .val (.int (3 : Int32)), .val (.ref b228), .val (.int r229), .val (.ref u231)] [(.int (own_chu [(own_lo8 c0), (own_hi8 c0), (own_lo8 c1), (own_hi8 c1), (own_lo8 c2), (own_hi8 c2)] r229))]))) (st232) ?_
  refine own_sipush X232 hx hby 255 d9_35 rfl ?_
  have hc38_233 : (255 : Int32) < (own_chu [(own_lo8 c0), (own_hi8 c0), (own_lo8 c1), (own_hi8 c1), (own_lo8 c2), (own_hi8 c2)] r229) := bg229
  refine own_icmpYes X232 hx hby 38 54 d9_38 (tlt hc38_233).2.2.1 (by decide) (by decide) ?_
  refine own_aload X232 hx hby d9_54 rfl rfl ?_
  exact own_retA X232 hx hlk Bd.returns rfl rfl (hb hby d9_56) (by decide) (by decide) (by rw [e232]; exact ⟨u231, ku231, rfl, N232, KK, sz_u231, Vq231⟩)
theorem ef_cf3_3 (m : MethodId) (x0 : Addr) : entryFrame m #[(.ref x0), (.int (3 : Int32))] 2 = mkF m 0 #[.val (.ref x0), .val (.int (3 : Int32))] [] := by first | (simp [entryFrame, mkF, argsToLocals, Value.category]; done) | rfl
set_option maxRecDepth 65536 in
set_option maxHeartbeats 40000000 in
theorem rmcf3_3 (l : Launch) (Z : State) (a0 : Array Value) (hw : ∀ d ∈ tables_1, d.before a0 Z = true) (ws : List Jvm.Cond) (b : Addr) (kb : ClassId) (cs : List Int32) (h0 : Heap) (n0 : Nat) (Z0 : n0 ≤ h0.size) (Vb : Arv Z h0 b kb .byte (3 : Int32) (cs.map Value.int) (.int (0 : Int32))) :
    MetFree l mN_18 (head1 (Jvm.Cond.code mN_18 jdk_52_method_15_code 2 (some .byte) :: ws) ({ frames := 0, cells := 0, slots := 0, locals := 0 } : Room)) (fun a U => a = #[(.ref b), (.int (3 : Int32))] ∧ Z.Warmed39 U.vm ∧ U.heap = h0) (fun _ _ _ _ _ => True) (fun _ U o U' => ∃ v L, o = .returned v ∧ (Qv 0 h0 n0) v U'.heap L ∧ FrameEnd U o U' L ({ frames := 0, cells := 0, slots := 0, locals := 0 } : Room).cells ({ frames := 0, cells := 0, slots := 0, locals := 0 } : Room).slots) := by
  refine MetFree.of_bodySF (plainFor_of_name pn_2) hisR ?_
  intro p e s m args below meth c s₁ Bd hml0 hP hK
  obtain ⟨rfl, hZ, hh⟩ := hP
  have hx := Bd.exec
  have hby := Bd.bytes
  have hml : c.maxLocals = 2 := hml0
  have hown : s.vm.findClass "java/lang/StringUTF16" = some m.cls := findClass_of_methodNamed Bd.named
  have hnm := (name_of_methodNamed Bd.named Bd.method).1
  have hlk := Bd.notSynchronized
  have X0 : Stand p l e ({ frames := 0, cells := 0, slots := 0, locals := 0 } : Room) s m #[(.ref b), (.int (3 : Int32))] below meth c s₁ [] 0 0 := Stand.of_body Bd
  have e0 : s₁.heap = h0 := by rw [← hh, Bd.state]; rfl
  have N0 := Fr.nil n0
  show own_Ends p e below s FrameEnd (Qv 0 h0 n0) 0 0 (s₁.setTop (entryFrame m #[(.ref b), (.int (3 : Int32))] 2))
  refine own_of (U' := (s₁.setTop (mkF m 0 #[.val (.ref b), .val (.int (3 : Int32))] []))) (fun _ k => castTop (ef_cf3_3 m b) k) ?_
  refine own_iloadN X0 hx hby d11_0 rfl ?_
  refine own_aloadN X0 hx hby d11_1 rfl rfl ?_
  obtain ⟨cl234, Ar234, qa234, Sa234, Na234, -, -⟩ := id Vb
  have al234 := X0.arraylength hx (by rw [e0]; exact Ar234.1) (State.isArrayOf_alike hZ.alike Ar234.2.1) (g := (mkF m 2 #[.val (.ref b), .val (.int (3 : Int32))] [(.ref b), (.int (3 : Int32))])) rfl rfl (hb hby d11_2)
  rw [len_of Sa234 Na234] at al234
  refine own_of (U' := (s₁.setTop (mkF m 3 #[.val (.ref b), .val (.int (3 : Int32))] [(.int (3 : Int32)), (.int (3 : Int32))]))) (al234) ?_
  refine own_isub X0 hx hby d11_3 ?_
  refine own_eq (U' := (s₁.setTop (mkF m 4 #[.val (.ref b), .val (.int (3 : Int32))] [(.int (0 : Int32))]))) (by rw [show ((3 : Int32) - (3 : Int32)) = (0 : Int32) by decide]) ?_
  refine own_bipush X0 hx hby 31 d11_4 rfl ?_
  refine own_iushr X0 hx hby d11_6 ?_
  refine own_eq (U' := (s₁.setTop (mkF m 7 #[.val (.ref b), .val (.int (3 : Int32))] [(.int (0 : Int32))]))) (by rw [show (XT.ushr (0 : Int32) (31 : Int32)) = (0 : Int32) by decide]) ?_
  refine own_i2b X0 hx hby d11_7 ?_
  refine own_eq (U' := (s₁.setTop (mkF m 8 #[.val (.ref b), .val (.int (3 : Int32))] [(.int (0 : Int32))]))) (by rw [show ((0 : Int32).toInt8.toInt32) = (0 : Int32) by decide]) ?_
  exact own_retN X0 hx hlk (t := .byte) Bd.returns (by simp) (hb hby d11_8) (by decide) (by decide) (⟨rfl, N0, e0⟩)
theorem ef_cf3_6 (m : MethodId) (x0 : Addr) : entryFrame m #[(.ref x0), (.int (3 : Int32))] 2 = mkF m 0 #[.val (.ref x0), .val (.int (3 : Int32))] [] := by first | (simp [entryFrame, mkF, argsToLocals, Value.category]; done) | rfl
set_option maxRecDepth 65536 in
set_option maxHeartbeats 40000000 in
theorem rmcf3_6 (l : Launch) (Z : State) (a0 : Array Value) (hw : ∀ d ∈ tables_1, d.before a0 Z = true) (ws : List Jvm.Cond) (b : Addr) (kb : ClassId) (cs : List Int32) (h0 : Heap) (n0 : Nat) (Z0 : n0 ≤ h0.size) (Vb : Arv Z h0 b kb .byte (6 : Int32) (cs.map Value.int) (.int (0 : Int32))) :
    MetFree l mN_18 (head1 (Jvm.Cond.code mN_18 jdk_52_method_15_code 2 (some .byte) :: ws) ({ frames := 0, cells := 0, slots := 0, locals := 0 } : Room)) (fun a U => a = #[(.ref b), (.int (3 : Int32))] ∧ Z.Warmed39 U.vm ∧ U.heap = h0) (fun _ _ _ _ _ => True) (fun _ U o U' => ∃ v L, o = .returned v ∧ (Qv 1 h0 n0) v U'.heap L ∧ FrameEnd U o U' L ({ frames := 0, cells := 0, slots := 0, locals := 0 } : Room).cells ({ frames := 0, cells := 0, slots := 0, locals := 0 } : Room).slots) := by
  refine MetFree.of_bodySF (plainFor_of_name pn_2) hisR ?_
  intro p e s m args below meth c s₁ Bd hml0 hP hK
  obtain ⟨rfl, hZ, hh⟩ := hP
  have hx := Bd.exec
  have hby := Bd.bytes
  have hml : c.maxLocals = 2 := hml0
  have hown : s.vm.findClass "java/lang/StringUTF16" = some m.cls := findClass_of_methodNamed Bd.named
  have hnm := (name_of_methodNamed Bd.named Bd.method).1
  have hlk := Bd.notSynchronized
  have X0 : Stand p l e ({ frames := 0, cells := 0, slots := 0, locals := 0 } : Room) s m #[(.ref b), (.int (3 : Int32))] below meth c s₁ [] 0 0 := Stand.of_body Bd
  have e0 : s₁.heap = h0 := by rw [← hh, Bd.state]; rfl
  have N0 := Fr.nil n0
  show own_Ends p e below s FrameEnd (Qv 1 h0 n0) 0 0 (s₁.setTop (entryFrame m #[(.ref b), (.int (3 : Int32))] 2))
  refine own_of (U' := (s₁.setTop (mkF m 0 #[.val (.ref b), .val (.int (3 : Int32))] []))) (fun _ k => castTop (ef_cf3_6 m b) k) ?_
  refine own_iloadN X0 hx hby d11_0 rfl ?_
  refine own_aloadN X0 hx hby d11_1 rfl rfl ?_
  obtain ⟨cl235, Ar235, qa235, Sa235, Na235, -, -⟩ := id Vb
  have al235 := X0.arraylength hx (by rw [e0]; exact Ar235.1) (State.isArrayOf_alike hZ.alike Ar235.2.1) (g := (mkF m 2 #[.val (.ref b), .val (.int (3 : Int32))] [(.ref b), (.int (3 : Int32))])) rfl rfl (hb hby d11_2)
  rw [len_of Sa235 Na235] at al235
  refine own_of (U' := (s₁.setTop (mkF m 3 #[.val (.ref b), .val (.int (3 : Int32))] [(.int (6 : Int32)), (.int (3 : Int32))]))) (al235) ?_
  refine own_isub X0 hx hby d11_3 ?_
  refine own_eq (U' := (s₁.setTop (mkF m 4 #[.val (.ref b), .val (.int (3 : Int32))] [(.int (-3 : Int32))]))) (by rw [show ((3 : Int32) - (6 : Int32)) = (-3 : Int32) by decide]) ?_
  refine own_bipush X0 hx hby 31 d11_4 rfl ?_
  refine own_iushr X0 hx hby d11_6 ?_
  refine own_eq (U' := (s₁.setTop (mkF m 7 #[.val (.ref b), .val (.int (3 : Int32))] [(.int (1 : Int32))]))) (by rw [show (XT.ushr (-3 : Int32) (31 : Int32)) = (1 : Int32) by decide]) ?_
  refine own_i2b X0 hx hby d11_7 ?_
  refine own_eq (U' := (s₁.setTop (mkF m 8 #[.val (.ref b), .val (.int (3 : Int32))] [(.int (1 : Int32))]))) (by rw [show ((1 : Int32).toInt8.toInt32) = (1 : Int32) by decide]) ?_
  exact own_retN X0 hx hlk (t := .byte) Bd.returns (by simp) (hb hby d11_8) (by decide) (by decide) (⟨rfl, N0, e0⟩)
theorem ef_sv3 (m : MethodId) (x0 : Addr) (x1 : Addr) : entryFrame m #[(.ref x0), (.ref x1), (.int (0 : Int32)), (.int (3 : Int32)), .null] 6 = mkF m 0 #[.val (.ref x0), .val (.ref x1), .val (.int (0 : Int32)), .val (.int (3 : Int32)), .val .null, .unset] [] := by first | (simp [entryFrame, mkF, argsToLocals, Value.category]; done) | rfl
def Qsv3 (Z : State) (a1 : Addr) (c0 c1 c2 : Int32) (h0 : Heap) (n0 : Nat) (v : Option Value) (h : Heap) (L : List Loc) : Prop := v = none ∧ Fr n0 L ∧ Keep h0 h [a1] ∧ own_Str Z h a1 (3 : Int32) (6 : Int32) [c0, c1, c2]
set_option maxRecDepth 65536 in
set_option maxHeartbeats 40000000 in
theorem rmsv3 (l : Launch) (Z : State) (a0 : Array Value) (hw : ∀ d ∈ tables_1, d.before a0 Z = true) (ws : List Jvm.Cond) (a1 a2 : Addr) (kc : ClassId) (c0 c1 c2 : Int32) (g1 : Int32) (h0 : Heap) (n0 : Nat) (Z0 : n0 ≤ h0.size) (E1 : Exa Z h0 a1 "java/lang/String") (Fc : Fld Z h0 a1 "java/lang/String" "coder" "B" (.int (0 : Int32))) (Fv : Fld Z h0 a1 "java/lang/String" "value" "[B" .null) (Vc : Arv Z h0 a2 kc .char (3 : Int32) [(.int c0), (.int c1), (.int c2)] (.int (0 : Int32))) (g_a1 : n0 ≤ a1) (hb0 : 0 ≤ c0.toInt ∧ c0.toInt < 65536) (hb1 : 0 ≤ c1.toInt ∧ c1.toInt < 65536) (hb2 : 0 ≤ c2.toInt ∧ c2.toInt < 65536) (SC : Sta Z h0 "java/lang/String" "COMPACT_STRINGS" "Z" (.int g1)) (hg1 : ¬ (g1 = (0 : Int32))) (SA : Sta Z h0 "java/lang/StringUTF16" "$assertionsDisabled" "Z" (.int (1 : Int32))) (SHI : Sta Z h0 "java/lang/StringUTF16" "HI_BYTE_SHIFT" "I" (.int (0 : Int32))) (SLO : Sta Z h0 "java/lang/StringUTF16" "LO_BYTE_SHIFT" "I" (.int (8 : Int32))) :
    MetFree l mN_19 (head1 (Jvm.Cond.code mN_19 jdk_42_method_149_code 6 none :: ws) ({ frames := 4, cells := 2, slots := 9, locals := 57 } : Room)) (fun a U => a = #[(.ref a1), (.ref a2), (.int (0 : Int32)), (.int (3 : Int32)), .null] ∧ Z.Warmed39 U.vm ∧ U.heap = h0) (fun _ _ _ _ _ => True) (fun _ U o U' => ∃ v L, o = .returned v ∧ (Qsv3 Z a1 c0 c1 c2 h0 n0) v U'.heap L ∧ FrameEnd U o U' L ({ frames := 4, cells := 2, slots := 9, locals := 57 } : Room).cells ({ frames := 4, cells := 2, slots := 9, locals := 57 } : Room).slots) := by
  refine MetFree.of_bodySF (plainFor_of_name pn_1) hisR ?_
  intro p e s m args below meth c s₁ Bd hml0 hP hK
  obtain ⟨rfl, hZ, hh⟩ := hP
  have hx := Bd.exec
  have hby := Bd.bytes
  have hml : c.maxLocals = 6 := hml0
  have hown : s.vm.findClass "java/lang/String" = some m.cls := findClass_of_methodNamed Bd.named
  have hnm := (name_of_methodNamed Bd.named Bd.method).1
  have hlk := Bd.notSynchronized
  have X0 : Stand p l e ({ frames := 4, cells := 2, slots := 9, locals := 57 } : Room) s m #[(.ref a1), (.ref a2), (.int (0 : Int32)), (.int (3 : Int32)), .null] below meth c s₁ [] 0 0 := Stand.of_body Bd
  have e0 : s₁.heap = h0 := by rw [← hh, Bd.state]; rfl
  have N0 := Fr.nil n0
  have KK := Keep.refl h0 [a1]
  show own_Ends p e below s FrameEnd (Qsv3 Z a1 c0 c1 c2 h0 n0) 2 9 (s₁.setTop (entryFrame m #[(.ref a1), (.ref a2), (.int (0 : Int32)), (.int (3 : Int32)), .null] 6))
  refine own_of (U' := (s₁.setTop (mkF m 0 #[.val (.ref a1), .val (.ref a2), .val (.int (0 : Int32)), .val (.int (3 : Int32)), .val .null, .unset] []))) (fun _ k => castTop (ef_sv3 m a1 a2) k) ?_
  refine own_aloadN X0 hx hby d3_0 rfl rfl ?_
  obtain ⟨T236, X236, e236, st236⟩ := initO X0 hx hZ hown (own_w hw 18 rfl) (own_w hw 19 rfl) (own_w hw 20 rfl) e0 (g := (mkF m 1 #[.val (.ref a1), .val (.ref a2), .val (.int (0 : Int32)), .val (.int (3 : Int32)), .val .null, .unset] [(.ref a1)])) rfl (by rw [hml]; rfl) rfl (hb hby d3_1) (by decide) (W := 0) (by show 2 * 0 + _ ≤ _; exact Nat.le_of_eq rfl) (by decide)
  refine own_of (U' := (T236.setTop (mkF m 4 #[.val (.ref a1), .val (.ref a2), .val (.int (0 : Int32)), .val (.int (3 : Int32)), .val .null, .unset] []))) (st236) ?_
  refine own_iloadN X236 hx hby d3_4 rfl ?_
  have hc5_237 : ¬ ((3 : Int32) = (0 : Int32)) := by decide
  refine own_ifYes X236 hx hby 5 27 d3_5 ((if0 _ _).trans (feq hc5_237).2) (by decide) (by decide) ?_
  obtain ⟨T238, X238, e238, st238⟩ := getS2 X236 hx hZ hown (host := "") (Or.inl (own_w hw 48 rfl)) Via.refl e236 SC (g := (mkF m 27 #[.val (.ref a1), .val (.ref a2), .val (.int (0 : Int32)), .val (.int (3 : Int32)), .val .null, .unset] [])) rfl (hb hby d3_27)
  refine own_of (U' := (T238.setTop (mkF m 30 #[.val (.ref a1), .val (.ref a2), .val (.int (0 : Int32)), .val (.int (3 : Int32)), .val .null, .unset] [(.int g1)]))) (st238) ?_
  have hc30_239 : ¬ (g1 = (0 : Int32)) := hg1
  refine own_ifNo X238 hx hby d3_30 ((if0 _ _).trans (feq hc30_239).1) ?_
  by_cases qB : ((255 : Int32) < c0) ∨ ((255 : Int32) < c1) ∨ ((255 : Int32) < c2)
  · skip
    refine own_aloadN X238 hx hby d3_33 rfl rfl ?_
    refine own_iloadN X238 hx hby d3_34 rfl ?_
    refine own_iloadN X238 hx hby d3_35 rfl ?_
    obtain ⟨_, _, ⟨T240, L240, k240, n240⟩, -, X240, ⟨Lc240, hQ240, l240, y240, z240⟩, st240⟩ := Jvm.LawKit.callS X238 hx (y := mN_17) hown (mvT hZ (own_w hw 49 rfl)) (mvT hZ (own_w hw 50 rfl)) (mvT hZ (own_w hw 51 rfl)) (mvT hZ (own_w hw 52 rfl)) (by decide) (backOf (W := 0) (rmcb3 l Z a0 hw [] a2 kc c0 c1 c2 h0 n0 Z0 Vc hb0 hb1 hb2 SA SHI SLO qB) hZ (own_w hw 52 rfl) (own_w hw 51 rfl) (by decide) (by decide)) (g := (mkF m 36 #[.val (.ref a1), .val (.ref a2), .val (.int (0 : Int32)), .val (.int (3 : Int32)), .val .null, .unset] [(.int (3 : Int32)), (.int (0 : Int32)), (.ref a2)])) rfl (by rw [hml]; rfl) (argsL := [(.ref a2), (.int (0 : Int32)), (.int (3 : Int32))]) (rest := []) (lenOf pd_11 rfl) rfl (by show 2 * 0 + _ ≤ _; exact Nat.le_of_eq rfl) (hb hby d3_36) (fun _ _ => ⟨rfl, e238, (by decide : 0 + 2 ≤ _), (by decide : 0 + 9 ≤ _)⟩)
    dsimp only [Pt.U, Pt.locs, Pt.cells, Pt.slots] at X240 l240 y240 z240 st240 hQ240
    subst l240 y240 z240
    obtain ⟨u240, ku240, rfl, Nq240, Kp240, gq240, Vq240⟩ := hQ240
    have g_u240 : n0 ≤ u240 := Nat.le_trans Z0 gq240
    have sz_u240 : h0.size ≤ u240 := Nat.le_trans KK.1 gq240
    have ne_a1_u240 : a1 ≠ u240 := Nat.ne_of_lt (Nat.lt_of_lt_of_le E1.lt gq240)
    have ne_a2_u240 : a2 ≠ u240 := Nat.ne_of_lt (Nat.lt_of_lt_of_le Vc.lt gq240)
    have N240 := Fr.app N0 Nq240
    replace Z0 := Nat.le_trans Z0 Kp240.1
    replace E1 := E1.keep Kp240
    replace Fc := Fc.keep Kp240 nin0
    replace Fv := Fv.keep Kp240 nin0
    replace Vc := Vc.keep Kp240 nin0
    replace SC := own_staKeep SC Kp240 ns0
    replace SA := own_staKeep SA Kp240 ns0
    replace SHI := own_staKeep SHI Kp240 ns0
    replace SLO := own_staKeep SLO Kp240 ns0
    replace KK := KK.trans Kp240 all0
    refine own_of (U' := (T240.setTop (mkF m 39 #[.val (.ref a1), .val (.ref a2), .val (.int (0 : Int32)), .val (.int (3 : Int32)), .val .null, .unset] [(.ref u240)]))) (st240) ?_
    refine own_astore X240 hx hby d3_39 rfl (l' := #[.val (.ref a1), .val (.ref a2), .val (.int (0 : Int32)), .val (.int (3 : Int32)), .val .null, .val (.ref u240)]) rfl ?_
    refine own_aloadN X240 hx hby d3_41 rfl rfl ?_
    refine own_aload X240 hx hby d3_42 rfl rfl ?_
    refine own_iloadN X240 hx hby d3_44 rfl ?_
    obtain ⟨_, _, ⟨T241, L241, k241, n241⟩, -, X241, ⟨Lc241, hQ241, l241, y241, z241⟩, st241⟩ := Jvm.LawKit.callS X240 hx (y := mN_18) hown (mvT hZ (own_w hw 56 rfl)) (mvT hZ (own_w hw 57 rfl)) (mvT hZ (own_w hw 51 rfl)) (mvT hZ (own_w hw 58 rfl)) (by decide) (backOf (W := 1) (rmcf3_6 l Z a0 hw [] u240 ku240 [(own_lo8 c0), (own_hi8 c0), (own_lo8 c1), (own_hi8 c1), (own_lo8 c2), (own_hi8 c2)] T240.heap n0 Z0 Vq240) hZ (own_w hw 58 rfl) (own_w hw 51 rfl) (by decide) (by decide)) (g := (mkF m 45 #[.val (.ref a1), .val (.ref a2), .val (.int (0 : Int32)), .val (.int (3 : Int32)), .val .null, .val (.ref u240)] [(.int (3 : Int32)), (.ref u240), (.ref a1)])) rfl (by rw [hml]; rfl) (argsL := [(.ref u240), (.int (3 : Int32))]) (rest := [(.ref a1)]) (lenOf pd_12 rfl) rfl (by show 2 * 0 + _ ≤ _; exact Nat.le_of_eq rfl) (hb hby d3_45) (fun _ _ => ⟨rfl, rfl, (by decide : 2 + 0 ≤ _), (by decide : 9 + 0 ≤ _)⟩)
    dsimp only [Pt.U, Pt.locs, Pt.cells, Pt.slots] at X241 l241 y241 z241 st241 hQ241
    subst l241 y241 z241
    obtain ⟨rfl, Nq241, e241⟩ := hQ241
    have N241 := Fr.app N240 Nq241
    refine own_of (U' := (T241.setTop (mkF m 48 #[.val (.ref a1), .val (.ref a2), .val (.int (0 : Int32)), .val (.int (3 : Int32)), .val .null, .val (.ref u240)] [(.int (1 : Int32)), (.ref a1)]))) (st241) ?_
    obtain ⟨T242, h242, X242, e242, W242, st242⟩ := putFN X241 hx hZ hown (own_w hw 28 rfl) Via.refl e241 Fc E1 (Or.inr ⟨(own_w hw 24 rfl), rfl, hnm⟩) (own_w hw 9 rfl) (ty := .byte) (v' := (.int (1 : Int32))) (by decide) rfl (by decide) (g := (mkF m 48 #[.val (.ref a1), .val (.ref a2), .val (.int (0 : Int32)), .val (.int (3 : Int32)), .val .null, .val (.ref u240)] [(.int (1 : Int32)), (.ref a1)])) rfl rfl (hb hby d3_48)
    replace Z0 := Nat.le_trans Z0 (Keep.of_wr W242).1
    replace E1 := E1.wr W242
    replace Fc := Fc.same W242
    replace Fv := Fv.other W242 (Or.inr (slot_ne (Or.inr (own_w hw 23 rfl)) (Or.inr (own_w hw 24 rfl)) (by decide) (t := (.array .byte)) (t' := .byte) (by decide) (by decide)))
    replace SC := SC.wr W242
    replace SA := SA.wr W242
    replace SHI := SHI.wr W242
    replace SLO := SLO.wr W242
    replace KK := KK.wr W242 (Or.inl (List.mem_of_getElem? (i := 0) rfl))
    replace Vq240 := Vq240.other W242 (Ne.symm ne_a1_u240)
    have N242 := Fr.snoc X242 N241 g_a1
    refine own_of (U' := (T242.setTop (mkF m 51 #[.val (.ref a1), .val (.ref a2), .val (.int (0 : Int32)), .val (.int (3 : Int32)), .val .null, .val (.ref u240)] []))) (st242) ?_
    refine own_aloadN X242 hx hby d3_51 rfl rfl ?_
    refine own_aload X242 hx hby d3_52 rfl rfl ?_
    obtain ⟨T243, h243, X243, e243, W243, st243⟩ := putF X242 hx hZ hown (host := "") (Or.inl (own_w hw 27 rfl)) Via.refl e242 Fv E1 (Or.inr ⟨(own_w hw 23 rfl), rfl, hnm⟩) (own_w hw 9 rfl) (ty := (.array .byte)) (by decide) rfl rfl (g := (mkF m 54 #[.val (.ref a1), .val (.ref a2), .val (.int (0 : Int32)), .val (.int (3 : Int32)), .val .null, .val (.ref u240)] [(.ref u240), (.ref a1)])) rfl rfl (hb hby d3_54)
    replace Z0 := Nat.le_trans Z0 (Keep.of_wr W243).1
    replace E1 := E1.wr W243
    replace Fc := Fc.other W243 (Or.inr (slot_ne (Or.inr (own_w hw 24 rfl)) (Or.inr (own_w hw 23 rfl)) (by decide) (t := .byte) (t' := (.array .byte)) (by decide) (by decide)))
    replace Fv := Fv.same W243
    replace SC := SC.wr W243
    replace SA := SA.wr W243
    replace SHI := SHI.wr W243
    replace SLO := SLO.wr W243
    replace KK := KK.wr W243 (Or.inl (List.mem_of_getElem? (i := 0) rfl))
    replace Vq240 := Vq240.other W243 (Ne.symm ne_a1_u240)
    have N243 := Fr.snoc X243 N242 g_a1
    refine own_of (U' := (T243.setTop (mkF m 57 #[.val (.ref a1), .val (.ref a2), .val (.int (0 : Int32)), .val (.int (3 : Int32)), .val .null, .val (.ref u240)] []))) (st243) ?_
    exact own_ret0 X243 hx hlk Bd.returns (hb hby d3_57) (by decide) (by decide) (by rw [e243]; exact ⟨rfl, N243, KK, ⟨E1, u240, ku240, Fv, Or.inr ⟨Fc, Vq240⟩⟩⟩)
  · skip
    have qB0 : ¬ ((255 : Int32) < c0) := fun z => qB (Or.inl z)
    have qB1 : ¬ ((255 : Int32) < c1) := fun z => qB (Or.inr (Or.inl z))
    have qB2 : ¬ ((255 : Int32) < c2) := fun z => qB (Or.inr (Or.inr z))
    refine own_aloadN X238 hx hby d3_33 rfl rfl ?_
    refine own_iloadN X238 hx hby d3_34 rfl ?_
    refine own_iloadN X238 hx hby d3_35 rfl ?_
    obtain ⟨_, _, ⟨T244, L244, k244, n244⟩, -, X244, ⟨Lc244, hQ244, l244, y244, z244⟩, st244⟩ := Jvm.LawKit.callS X238 hx (y := mN_17) hown (mvT hZ (own_w hw 49 rfl)) (mvT hZ (own_w hw 50 rfl)) (mvT hZ (own_w hw 51 rfl)) (mvT hZ (own_w hw 52 rfl)) (by decide) (backOf (W := 0) (rmcl3 l Z a0 hw [] a2 kc c0 c1 c2 h0 n0 Z0 Vc hb0 hb1 hb2 SA SHI SLO qB0 qB1 qB2) hZ (own_w hw 52 rfl) (own_w hw 51 rfl) (by decide) (by decide)) (g := (mkF m 36 #[.val (.ref a1), .val (.ref a2), .val (.int (0 : Int32)), .val (.int (3 : Int32)), .val .null, .unset] [(.int (3 : Int32)), (.int (0 : Int32)), (.ref a2)])) rfl (by rw [hml]; rfl) (argsL := [(.ref a2), (.int (0 : Int32)), (.int (3 : Int32))]) (rest := []) (lenOf pd_11 rfl) rfl (by show 2 * 0 + _ ≤ _; exact Nat.le_of_eq rfl) (hb hby d3_36) (fun _ _ => ⟨rfl, e238, (by decide : 0 + 1 ≤ _), (by decide : 0 + 3 ≤ _)⟩)
    dsimp only [Pt.U, Pt.locs, Pt.cells, Pt.slots] at X244 l244 y244 z244 st244 hQ244
    subst l244 y244 z244
    obtain ⟨u244, ku244, rfl, Nq244, Kp244, gq244, Vq244⟩ := hQ244
    have g_u244 : n0 ≤ u244 := Nat.le_trans Z0 gq244
    have sz_u244 : h0.size ≤ u244 := Nat.le_trans KK.1 gq244
    have ne_a1_u244 : a1 ≠ u244 := Nat.ne_of_lt (Nat.lt_of_lt_of_le E1.lt gq244)
    have ne_a2_u244 : a2 ≠ u244 := Nat.ne_of_lt (Nat.lt_of_lt_of_le Vc.lt gq244)
    have N244 := Fr.app N0 Nq244
    replace Z0 := Nat.le_trans Z0 Kp244.1
    replace E1 := E1.keep Kp244
    replace Fc := Fc.keep Kp244 nin0
    replace Fv := Fv.keep Kp244 nin0
    replace Vc := Vc.keep Kp244 nin0
    replace SC := own_staKeep SC Kp244 ns0
    replace SA := own_staKeep SA Kp244 ns0
    replace SHI := own_staKeep SHI Kp244 ns0
    replace SLO := own_staKeep SLO Kp244 ns0
    replace KK := KK.trans Kp244 all0
    refine own_of (U' := (T244.setTop (mkF m 39 #[.val (.ref a1), .val (.ref a2), .val (.int (0 : Int32)), .val (.int (3 : Int32)), .val .null, .unset] [(.ref u244)]))) (st244) ?_
    refine own_astore X244 hx hby d3_39 rfl (l' := #[.val (.ref a1), .val (.ref a2), .val (.int (0 : Int32)), .val (.int (3 : Int32)), .val .null, .val (.ref u244)]) rfl ?_
    refine own_aloadN X244 hx hby d3_41 rfl rfl ?_
    refine own_aload X244 hx hby d3_42 rfl rfl ?_
    refine own_iloadN X244 hx hby d3_44 rfl ?_
    obtain ⟨_, _, ⟨T245, L245, k245, n245⟩, -, X245, ⟨Lc245, hQ245, l245, y245, z245⟩, st245⟩ := Jvm.LawKit.callS X244 hx (y := mN_18) hown (mvT hZ (own_w hw 56 rfl)) (mvT hZ (own_w hw 57 rfl)) (mvT hZ (own_w hw 51 rfl)) (mvT hZ (own_w hw 58 rfl)) (by decide) (backOf (W := 1) (rmcf3_3 l Z a0 hw [] u244 ku244 [(own_b8 c0), (own_b8 c1), (own_b8 c2)] T244.heap n0 Z0 Vq244) hZ (own_w hw 58 rfl) (own_w hw 51 rfl) (by decide) (by decide)) (g := (mkF m 45 #[.val (.ref a1), .val (.ref a2), .val (.int (0 : Int32)), .val (.int (3 : Int32)), .val .null, .val (.ref u244)] [(.int (3 : Int32)), (.ref u244), (.ref a1)])) rfl (by rw [hml]; rfl) (argsL := [(.ref u244), (.int (3 : Int32))]) (rest := [(.ref a1)]) (lenOf pd_12 rfl) rfl (by show 2 * 0 + _ ≤ _; exact Nat.le_of_eq rfl) (hb hby d3_45) (fun _ _ => ⟨rfl, rfl, (by decide : 1 + 0 ≤ _), (by decide : 3 + 0 ≤ _)⟩)
    dsimp only [Pt.U, Pt.locs, Pt.cells, Pt.slots] at X245 l245 y245 z245 st245 hQ245
    subst l245 y245 z245
    obtain ⟨rfl, Nq245, e245⟩ := hQ245
    have N245 := Fr.app N244 Nq245
    refine own_of (U' := (T245.setTop (mkF m 48 #[.val (.ref a1), .val (.ref a2), .val (.int (0 : Int32)), .val (.int (3 : Int32)), .val .null, .val (.ref u244)] [(.int (0 : Int32)), (.ref a1)]))) (st245) ?_
    obtain ⟨T246, h246, X246, e246, W246, st246⟩ := putFN X245 hx hZ hown (own_w hw 28 rfl) Via.refl e245 Fc E1 (Or.inr ⟨(own_w hw 24 rfl), rfl, hnm⟩) (own_w hw 9 rfl) (ty := .byte) (v' := (.int (0 : Int32))) (by decide) rfl (by decide) (g := (mkF m 48 #[.val (.ref a1), .val (.ref a2), .val (.int (0 : Int32)), .val (.int (3 : Int32)), .val .null, .val (.ref u244)] [(.int (0 : Int32)), (.ref a1)])) rfl rfl (hb hby d3_48)
    replace Z0 := Nat.le_trans Z0 (Keep.of_wr W246).1
    replace E1 := E1.wr W246
    replace Fc := Fc.same W246
    replace Fv := Fv.other W246 (Or.inr (slot_ne (Or.inr (own_w hw 23 rfl)) (Or.inr (own_w hw 24 rfl)) (by decide) (t := (.array .byte)) (t' := .byte) (by decide) (by decide)))
    replace SC := SC.wr W246
    replace SA := SA.wr W246
    replace SHI := SHI.wr W246
    replace SLO := SLO.wr W246
    replace KK := KK.wr W246 (Or.inl (List.mem_of_getElem? (i := 0) rfl))
    replace Vq244 := Vq244.other W246 (Ne.symm ne_a1_u244)
    have N246 := Fr.snoc X246 N245 g_a1
    refine own_of (U' := (T246.setTop (mkF m 51 #[.val (.ref a1), .val (.ref a2), .val (.int (0 : Int32)), .val (.int (3 : Int32)), .val .null, .val (.ref u244)] []))) (st246) ?_
    refine own_aloadN X246 hx hby d3_51 rfl rfl ?_
    refine own_aload X246 hx hby d3_52 rfl rfl ?_
    obtain ⟨T247, h247, X247, e247, W247, st247⟩ := putF X246 hx hZ hown (host := "") (Or.inl (own_w hw 27 rfl)) Via.refl e246 Fv E1 (Or.inr ⟨(own_w hw 23 rfl), rfl, hnm⟩) (own_w hw 9 rfl) (ty := (.array .byte)) (by decide) rfl rfl (g := (mkF m 54 #[.val (.ref a1), .val (.ref a2), .val (.int (0 : Int32)), .val (.int (3 : Int32)), .val .null, .val (.ref u244)] [(.ref u244), (.ref a1)])) rfl rfl (hb hby d3_54)
    replace Z0 := Nat.le_trans Z0 (Keep.of_wr W247).1
    replace E1 := E1.wr W247
    replace Fc := Fc.other W247 (Or.inr (slot_ne (Or.inr (own_w hw 24 rfl)) (Or.inr (own_w hw 23 rfl)) (by decide) (t := .byte) (t' := (.array .byte)) (by decide) (by decide)))
    replace Fv := Fv.same W247
    replace SC := SC.wr W247
    replace SA := SA.wr W247
    replace SHI := SHI.wr W247
    replace SLO := SLO.wr W247
    replace KK := KK.wr W247 (Or.inl (List.mem_of_getElem? (i := 0) rfl))
    replace Vq244 := Vq244.other W247 (Ne.symm ne_a1_u244)
    have N247 := Fr.snoc X247 N246 g_a1
    refine own_of (U' := (T247.setTop (mkF m 57 #[.val (.ref a1), .val (.ref a2), .val (.int (0 : Int32)), .val (.int (3 : Int32)), .val .null, .val (.ref u244)] []))) (st247) ?_
    exact own_ret0 X247 hx hlk Bd.returns (hb hby d3_57) (by decide) (by decide) (by rw [e247]; exact ⟨rfl, N247, KK, ⟨E1, u244, ku244, Fv, Or.inl ⟨Fc, Vq244, (List.forall_mem_cons.mpr ⟨qB0, (List.forall_mem_cons.mpr ⟨qB1, (List.forall_mem_cons.mpr ⟨qB2, (fun _ h => nomatch h)⟩)⟩)⟩)⟩⟩⟩)
theorem ef_si3 (m : MethodId) (x0 : Addr) (x1 : Addr) : entryFrame m #[(.ref x0), (.ref x1)] 2 = mkF m 0 #[.val (.ref x0), .val (.ref x1)] [] := by first | (simp [entryFrame, mkF, argsToLocals, Value.category]; done) | rfl
set_option maxRecDepth 65536 in
set_option maxHeartbeats 40000000 in
theorem rmsi3 (l : Launch) (Z : State) (a0 : Array Value) (hw : ∀ d ∈ tables_1, d.before a0 Z = true) (ws : List Jvm.Cond) (a1 a2 : Addr) (kc : ClassId) (c0 c1 c2 : Int32) (g1 : Int32) (h0 : Heap) (n0 : Nat) (Z0 : n0 ≤ h0.size) (E1 : Exa Z h0 a1 "java/lang/String") (Fc : Fld Z h0 a1 "java/lang/String" "coder" "B" (.int (0 : Int32))) (Fv : Fld Z h0 a1 "java/lang/String" "value" "[B" .null) (Vc : Arv Z h0 a2 kc .char (3 : Int32) [(.int c0), (.int c1), (.int c2)] (.int (0 : Int32))) (g_a1 : n0 ≤ a1) (hb0 : 0 ≤ c0.toInt ∧ c0.toInt < 65536) (hb1 : 0 ≤ c1.toInt ∧ c1.toInt < 65536) (hb2 : 0 ≤ c2.toInt ∧ c2.toInt < 65536) (SC : Sta Z h0 "java/lang/String" "COMPACT_STRINGS" "Z" (.int g1)) (hg1 : ¬ (g1 = (0 : Int32))) (SA : Sta Z h0 "java/lang/StringUTF16" "$assertionsDisabled" "Z" (.int (1 : Int32))) (SHI : Sta Z h0 "java/lang/StringUTF16" "HI_BYTE_SHIFT" "I" (.int (0 : Int32))) (SLO : Sta Z h0 "java/lang/StringUTF16" "LO_BYTE_SHIFT" "I" (.int (8 : Int32))) :
    MetFree l mN_20 (head1 (Jvm.Cond.code mN_20 jdk_42_method_3_code 2 none :: ws) ({ frames := 5, cells := 2, slots := 9, locals := 74 } : Room)) (fun a U => a = #[(.ref a1), (.ref a2)] ∧ Z.Warmed39 U.vm ∧ U.heap = h0) (fun _ _ _ _ _ => True) (fun _ U o U' => ∃ v L, o = .returned v ∧ (Qsv3 Z a1 c0 c1 c2 h0 n0) v U'.heap L ∧ FrameEnd U o U' L ({ frames := 5, cells := 2, slots := 9, locals := 74 } : Room).cells ({ frames := 5, cells := 2, slots := 9, locals := 74 } : Room).slots) := by
  refine MetFree.of_bodySF (plainFor_of_name pn_1) hisR ?_
  intro p e s m args below meth c s₁ Bd hml0 hP hK
  obtain ⟨rfl, hZ, hh⟩ := hP
  have hx := Bd.exec
  have hby := Bd.bytes
  have hml : c.maxLocals = 2 := hml0
  have hown : s.vm.findClass "java/lang/String" = some m.cls := findClass_of_methodNamed Bd.named
  have hnm := (name_of_methodNamed Bd.named Bd.method).1
  have hlk := Bd.notSynchronized
  have X0 : Stand p l e ({ frames := 5, cells := 2, slots := 9, locals := 74 } : Room) s m #[(.ref a1), (.ref a2)] below meth c s₁ [] 0 0 := Stand.of_body Bd
  have e0 : s₁.heap = h0 := by rw [← hh, Bd.state]; rfl
  have N0 := Fr.nil n0
  have KK := Keep.refl h0 [a1]
  show own_Ends p e below s FrameEnd (Qsv3 Z a1 c0 c1 c2 h0 n0) 2 9 (s₁.setTop (entryFrame m #[(.ref a1), (.ref a2)] 2))
  refine own_of (U' := (s₁.setTop (mkF m 0 #[.val (.ref a1), .val (.ref a2)] []))) (fun _ k => castTop (ef_si3 m a1 a2) k) ?_
  refine own_aloadN X0 hx hby d2_0 rfl rfl ?_
  refine own_aloadN X0 hx hby d2_1 rfl rfl ?_
  refine own_iconst X0 hx hby 0 d2_2 rfl ?_
  refine own_aloadN X0 hx hby d2_3 rfl rfl ?_
  obtain ⟨cl248, Ar248, qa248, Sa248, Na248, -, -⟩ := id Vc
  have al248 := X0.arraylength hx (by rw [e0]; exact Ar248.1) (State.isArrayOf_alike hZ.alike Ar248.2.1) (g := (mkF m 4 #[.val (.ref a1), .val (.ref a2)] [(.ref a2), (.int (0 : Int32)), (.ref a2), (.ref a1)])) rfl rfl (hb hby d2_4)
  rw [len_of Sa248 Na248] at al248
  refine own_of (U' := (s₁.setTop (mkF m 5 #[.val (.ref a1), .val (.ref a2)] [(.int (3 : Int32)), (.int (0 : Int32)), (.ref a2), (.ref a1)]))) (al248) ?_
  refine own_aconstNull X0 hx hby d2_5 ?_
  obtain ⟨_, _, ⟨T249, L249, k249, n249⟩, -, X249, ⟨Lc249, hQ249, l249, y249, z249⟩, st249⟩ := X0.specialBack hx (y := mN_19) rfl hown (mvT hZ (own_w hw 14 rfl)) (mvT hZ (own_w hw 15 rfl)) (mvT hZ (own_w hw 17 rfl)) (by decide) (backOf (W := 0) (rmsv3 l Z a0 hw [] a1 a2 kc c0 c1 c2 g1 h0 n0 Z0 E1 Fc Fv Vc g_a1 hb0 hb1 hb2 SC hg1 SA SHI SLO) hZ (own_w hw 17 rfl) (own_w hw 10 rfl) (by decide) (by decide)) (g := (mkF m 6 #[.val (.ref a1), .val (.ref a2)] [.null, (.int (3 : Int32)), (.int (0 : Int32)), (.ref a2), (.ref a1)])) rfl (by rw [hml]; rfl) (Steps.refl _) (a := a1) (argsL := [(.ref a2), (.int (0 : Int32)), (.int (3 : Int32)), .null]) (rest := []) (lenOf pd_13 rfl) rfl (by show 2 * 0 + _ ≤ _; exact Nat.le_of_eq rfl) (hb hby d2_6) (fun _ _ => ⟨rfl, e0, (by decide : 0 + 2 ≤ _), (by decide : 0 + 9 ≤ _)⟩)
  dsimp only [Pt.U, Pt.locs, Pt.cells, Pt.slots] at X249 l249 y249 z249 st249 hQ249
  subst l249 y249 z249
  obtain ⟨rfl, Nq249, Kp249, Tq249⟩ := hQ249
  have N249 := Fr.app N0 Nq249
  have nst_a1 := E1.nostat
  replace Z0 := Nat.le_trans Z0 Kp249.1
  replace E1 := E1.keep Kp249
  replace SC := own_staKeep SC Kp249 (nsS nst_a1 ns0)
  replace SA := own_staKeep SA Kp249 (nsS nst_a1 ns0)
  replace SHI := own_staKeep SHI Kp249 (nsS nst_a1 ns0)
  replace SLO := own_staKeep SLO Kp249 (nsS nst_a1 ns0)
  replace KK := KK.trans Kp249 (allS (Or.inl (List.mem_of_getElem? (i := 0) rfl)) all0)
  refine own_of (U' := (T249.setTop (mkF m 9 #[.val (.ref a1), .val (.ref a2)] []))) (fun _ k => st249.trans k) ?_
  exact own_ret0 X249 hx hlk Bd.returns (hb hby d2_9) (by decide) (by decide) (⟨rfl, N249, KK, Tq249⟩)
theorem ef_nl4 (m : MethodId)  : entryFrame m #[(.int (4 : Int32))] 1 = mkF m 0 #[.val (.int (4 : Int32))] [] := by first | (simp [entryFrame, mkF, argsToLocals, Value.category]; done) | rfl
set_option maxRecDepth 65536 in
set_option maxHeartbeats 40000000 in
theorem rmnl4 (l : Launch) (Z : State) (a0 : Array Value) (hw : ∀ d ∈ tables_1, d.before a0 Z = true) (ws : List Jvm.Cond)  (h0 : Heap) (n0 : Nat) (Z0 : n0 ≤ h0.size)  :
    MetFree l mN_13 (head1 (Jvm.Cond.code mN_13 jdk_52_method_3_code 1 (some .int) :: ws) ({ frames := 0, cells := 0, slots := 0, locals := 0 } : Room)) (fun a U => a = #[(.int (4 : Int32))] ∧ Z.Warmed39 U.vm ∧ U.heap = h0) (fun _ _ _ _ _ => True) (fun _ U o U' => ∃ v L, o = .returned v ∧ (Qv 8 h0 n0) v U'.heap L ∧ FrameEnd U o U' L ({ frames := 0, cells := 0, slots := 0, locals := 0 } : Room).cells ({ frames := 0, cells := 0, slots := 0, locals := 0 } : Room).slots) := by
  refine MetFree.of_bodySF (plainFor_of_name pn_2) hisR ?_
  intro p e s m args below meth c s₁ Bd hml0 hP hK
  obtain ⟨rfl, hZ, hh⟩ := hP
  have hx := Bd.exec
  have hby := Bd.bytes
  have hml : c.maxLocals = 1 := hml0
  have hown : s.vm.findClass "java/lang/StringUTF16" = some m.cls := findClass_of_methodNamed Bd.named
  have hnm := (name_of_methodNamed Bd.named Bd.method).1
  have hlk := Bd.notSynchronized
  have X0 : Stand p l e ({ frames := 0, cells := 0, slots := 0, locals := 0 } : Room) s m #[(.int (4 : Int32))] below meth c s₁ [] 0 0 := Stand.of_body Bd
  have e0 : s₁.heap = h0 := by rw [← hh, Bd.state]; rfl
  have N0 := Fr.nil n0
  show own_Ends p e below s FrameEnd (Qv 8 h0 n0) 0 0 (s₁.setTop (entryFrame m #[(.int (4 : Int32))] 1))
  refine own_of (U' := (s₁.setTop (mkF m 0 #[.val (.int (4 : Int32))] []))) (fun _ k => castTop (ef_nl4 m) k) ?_
  refine own_iloadN X0 hx hby d20_0 rfl ?_
  have hc1_250 : ¬ ((4 : Int32) < (0 : Int32)) := by decide
  refine own_ifYes X0 hx hby 1 12 d20_1 ((if0 _ _).trans (flt hc1_250).2.1) (by decide) (by decide) ?_
  refine own_iloadN X0 hx hby d20_12 rfl ?_
  refine own_of (U' := (s₁.setTop (mkF m 15 #[.val (.int (4 : Int32))] [(.int (1073741823 : Int32)), (.int (4 : Int32))]))) (X0.ldcInt hx hown (mvT hZ (own_w hw 93 rfl)) (g := (mkF m 13 #[.val (.int (4 : Int32))] [(.int (4 : Int32))])) rfl (hb hby d20_13)) ?_
  have hc15_251 : (4 : Int32) < (1073741823 : Int32) := by decide
  refine own_icmpYes X0 hx hby 15 55 d20_15 (tlt hc15_251).1 (by decide) (by decide) ?_
  refine own_iloadN X0 hx hby d20_55 rfl ?_
  refine own_iconst X0 hx hby 1 d20_56 rfl ?_
  refine own_ishl X0 hx hby d20_57 ?_
  refine own_eq (U' := (s₁.setTop (mkF m 58 #[.val (.int (4 : Int32))] [(.int (8 : Int32))]))) (by rw [show ((4 : Int32) <<< ((1 : Int32) &&& 31)) = (8 : Int32) by decide]) ?_
  exact own_retI X0 hx hlk Bd.returns (hb hby d20_58) (by decide) (by decide) (⟨rfl, N0, e0⟩)
theorem ef_nb4 (m : MethodId)  : entryFrame m #[(.int (4 : Int32))] 1 = mkF m 0 #[.val (.int (4 : Int32))] [] := by first | (simp [entryFrame, mkF, argsToLocals, Value.category]; done) | rfl
def Qnb4 (Z : State) (h0 : Heap) (n0 : Nat) (v : Option Value) (h : Heap) (L : List Loc) : Prop := ∃ (b : Addr) (kb : ClassId), v = some (.ref b) ∧ Fr n0 L ∧ Keep h0 h [] ∧ h0.size ≤ b ∧ Arv Z h b kb .byte (8 : Int32) [(.int (0 : Int32)), (.int (0 : Int32)), (.int (0 : Int32)), (.int (0 : Int32)), (.int (0 : Int32)), (.int (0 : Int32)), (.int (0 : Int32)), (.int (0 : Int32))] (.int (0 : Int32))
set_option maxRecDepth 65536 in
set_option maxHeartbeats 40000000 in
theorem rmnb4 (l : Launch) (Z : State) (a0 : Array Value) (hw : ∀ d ∈ tables_1, d.before a0 Z = true) (ws : List Jvm.Cond)  (h0 : Heap) (n0 : Nat) (Z0 : n0 ≤ h0.size)  :
    MetFree l mN_14 (head1 (Jvm.Cond.code mN_14 jdk_52_method_2_code 1 (some (.array .byte)) :: ws) ({ frames := 1, cells := 1, slots := 8, locals := 12 } : Room)) (fun a U => a = #[(.int (4 : Int32))] ∧ Z.Warmed39 U.vm ∧ U.heap = h0) (fun _ _ _ _ _ => True) (fun _ U o U' => ∃ v L, o = .returned v ∧ (Qnb4 Z h0 n0) v U'.heap L ∧ FrameEnd U o U' L ({ frames := 1, cells := 1, slots := 8, locals := 12 } : Room).cells ({ frames := 1, cells := 1, slots := 8, locals := 12 } : Room).slots) := by
  refine MetFree.of_bodySF (plainFor_of_name pn_2) hisR ?_
  intro p e s m args below meth c s₁ Bd hml0 hP hK
  obtain ⟨rfl, hZ, hh⟩ := hP
  have hx := Bd.exec
  have hby := Bd.bytes
  have hml : c.maxLocals = 1 := hml0
  have hown : s.vm.findClass "java/lang/StringUTF16" = some m.cls := findClass_of_methodNamed Bd.named
  have hnm := (name_of_methodNamed Bd.named Bd.method).1
  have hlk := Bd.notSynchronized
  have X0 : Stand p l e ({ frames := 1, cells := 1, slots := 8, locals := 12 } : Room) s m #[(.int (4 : Int32))] below meth c s₁ [] 0 0 := Stand.of_body Bd
  have e0 : s₁.heap = h0 := by rw [← hh, Bd.state]; rfl
  have N0 := Fr.nil n0
  have KK := Keep.refl h0 []
  show own_Ends p e below s FrameEnd (Qnb4 Z h0 n0) 1 8 (s₁.setTop (entryFrame m #[(.int (4 : Int32))] 1))
  refine own_of (U' := (s₁.setTop (mkF m 0 #[.val (.int (4 : Int32))] []))) (fun _ k => castTop (ef_nb4 m) k) ?_
  refine own_iloadN X0 hx hby d19_0 rfl ?_
  obtain ⟨_, _, ⟨T252, L252, k252, n252⟩, -, X252, ⟨Lc252, hQ252, l252, y252, z252⟩, st252⟩ := Jvm.LawKit.callS X0 hx (y := mN_13) hown (mvT hZ (own_w hw 90 rfl)) (mvT hZ (own_w hw 91 rfl)) (mvT hZ (own_w hw 51 rfl)) (mvT hZ (own_w hw 92 rfl)) (by decide) (backOf (W := 0) (rmnl4 l Z a0 hw []  h0 n0 Z0 ) hZ (own_w hw 92 rfl) (own_w hw 51 rfl) (by decide) (by decide)) (g := (mkF m 1 #[.val (.int (4 : Int32))] [(.int (4 : Int32))])) rfl (by rw [hml]; rfl) (argsL := [(.int (4 : Int32))]) (rest := []) (lenOf pd_7 rfl) rfl (by show 2 * 0 + _ ≤ _; exact Nat.le_of_eq rfl) (hb hby d19_1) (fun _ _ => ⟨rfl, e0, (by decide : 0 + 0 ≤ _), (by decide : 0 + 0 ≤ _)⟩)
  dsimp only [Pt.U, Pt.locs, Pt.cells, Pt.slots] at X252 l252 y252 z252 st252 hQ252
  subst l252 y252 z252
  obtain ⟨rfl, Nq252, e252⟩ := hQ252
  have N252 := Fr.app N0 Nq252
  refine own_of (U' := (T252.setTop (mkF m 4 #[.val (.int (4 : Int32))] [(.int (8 : Int32))]))) (st252) ?_
  obtain ⟨T253, h253, k253, X253, e253, E253, A253, st253⟩ := newP X252 hx hZ (own_w hw 22 rfl) e252 (g := (mkF m 4 #[.val (.int (4 : Int32))] [(.int (8 : Int32))])) rfl (hb hby d19_4) rfl (by decide) (cap := 8) (by decide) (by decide) (by decide) (by decide)
  obtain ⟨b253, gz253⟩ : ∃ z, z = h0.size := ⟨_, rfl⟩
  rw [← gz253] at A253 st253
  have g_b253 : n0 ≤ b253 := Nat.le_trans Z0 (Nat.le_of_eq gz253.symm)
  have sz_b253 : h0.size ≤ b253 := Nat.le_trans KK.1 (Nat.le_of_eq gz253.symm)
  replace Z0 := Nat.le_trans Z0 E253.1
  replace KK := KK.ext E253
  have V253 : Arv Z h253 b253 k253 .byte (8 : Int32) [(.int (0 : Int32)), (.int (0 : Int32)), (.int (0 : Int32)), (.int (0 : Int32)), (.int (0 : Int32)), (.int (0 : Int32)), (.int (0 : Int32)), (.int (0 : Int32))] (.int (0 : Int32)) := (Arv.new A253 (by decide)).pad (pad_rep [] (.int (0 : Int32)) 8)
  refine own_of (U' := (T253.setTop (mkF m 6 #[.val (.int (4 : Int32))] [(.ref b253)]))) (st253) ?_
  exact own_retA X253 hx hlk Bd.returns rfl rfl (hb hby d19_6) (by decide) (by decide) (by rw [e253]; exact ⟨b253, k253, rfl, N252, KK, sz_b253, V253⟩)
theorem ef_tb4 (m : MethodId) (x0 : Addr) : entryFrame m #[(.ref x0), (.int (0 : Int32)), (.int (4 : Int32))] 5 = mkF m 0 #[.val (.ref x0), .val (.int (0 : Int32)), .val (.int (4 : Int32)), .unset, .unset] [] := by first | (simp [entryFrame, mkF, argsToLocals, Value.category]; done) | rfl
def Qtb4 (Z : State) (c0 c1 c2 c3 : Int32) (h0 : Heap) (n0 : Nat) (v : Option Value) (h : Heap) (L : List Loc) : Prop := ∃ (b : Addr) (kb : ClassId), v = some (.ref b) ∧ Fr n0 L ∧ Keep h0 h [] ∧ h0.size ≤ b ∧ Arv Z h b kb .byte (8 : Int32) [(.int (own_lo8 c0)), (.int (own_hi8 c0)), (.int (own_lo8 c1)), (.int (own_hi8 c1)), (.int (own_lo8 c2)), (.int (own_hi8 c2)), (.int (own_lo8 c3)), (.int (own_hi8 c3))] (.int (0 : Int32))
set_option maxRecDepth 65536 in
set_option maxHeartbeats 40000000 in
theorem rmtb4 (l : Launch) (Z : State) (a0 : Array Value) (hw : ∀ d ∈ tables_1, d.before a0 Z = true) (ws : List Jvm.Cond) (a1 : Addr) (kc : ClassId) (c0 c1 c2 c3 : Int32) (h0 : Heap) (n0 : Nat) (Z0 : n0 ≤ h0.size) (Vc : Arv Z h0 a1 kc .char (4 : Int32) [(.int c0), (.int c1), (.int c2), (.int c3)] (.int (0 : Int32))) (SA : Sta Z h0 "java/lang/StringUTF16" "$assertionsDisabled" "Z" (.int (1 : Int32))) (SHI : Sta Z h0 "java/lang/StringUTF16" "HI_BYTE_SHIFT" "I" (.int (0 : Int32))) (SLO : Sta Z h0 "java/lang/StringUTF16" "LO_BYTE_SHIFT" "I" (.int (8 : Int32))) :
    MetFree l mN_15 (head1 (Jvm.Cond.code mN_15 jdk_52_method_14_code 5 (some (.array .byte)) :: ws) ({ frames := 2, cells := 1, slots := 8, locals := 24 } : Room)) (fun a U => a = #[(.ref a1), (.int (0 : Int32)), (.int (4 : Int32))] ∧ Z.Warmed39 U.vm ∧ U.heap = h0) (fun _ _ _ _ _ => True) (fun _ U o U' => ∃ v L, o = .returned v ∧ (Qtb4 Z c0 c1 c2 c3 h0 n0) v U'.heap L ∧ FrameEnd U o U' L ({ frames := 2, cells := 1, slots := 8, locals := 24 } : Room).cells ({ frames := 2, cells := 1, slots := 8, locals := 24 } : Room).slots) := by
  refine MetFree.of_bodySF (plainFor_of_name pn_2) hisR ?_
  intro p e s m args below meth c s₁ Bd hml0 hP hK
  obtain ⟨rfl, hZ, hh⟩ := hP
  have hx := Bd.exec
  have hby := Bd.bytes
  have hml : c.maxLocals = 5 := hml0
  have hown : s.vm.findClass "java/lang/StringUTF16" = some m.cls := findClass_of_methodNamed Bd.named
  have hnm := (name_of_methodNamed Bd.named Bd.method).1
  have hlk := Bd.notSynchronized
  have X0 : Stand p l e ({ frames := 2, cells := 1, slots := 8, locals := 24 } : Room) s m #[(.ref a1), (.int (0 : Int32)), (.int (4 : Int32))] below meth c s₁ [] 0 0 := Stand.of_body Bd
  have e0 : s₁.heap = h0 := by rw [← hh, Bd.state]; rfl
  have N0 := Fr.nil n0
  have KK := Keep.refl h0 []
  show own_Ends p e below s FrameEnd (Qtb4 Z c0 c1 c2 c3 h0 n0) 1 8 (s₁.setTop (entryFrame m #[(.ref a1), (.int (0 : Int32)), (.int (4 : Int32))] 5))
  refine own_of (U' := (s₁.setTop (mkF m 0 #[.val (.ref a1), .val (.int (0 : Int32)), .val (.int (4 : Int32)), .unset, .unset] []))) (fun _ k => castTop (ef_tb4 m a1) k) ?_
  refine own_iloadN X0 hx hby d18_0 rfl ?_
  obtain ⟨_, _, ⟨T254, L254, k254, n254⟩, -, X254, ⟨Lc254, hQ254, l254, y254, z254⟩, st254⟩ := Jvm.LawKit.callS X0 hx (y := mN_14) hown (mvT hZ (own_w hw 87 rfl)) (mvT hZ (own_w hw 88 rfl)) (mvT hZ (own_w hw 51 rfl)) (mvT hZ (own_w hw 89 rfl)) (by decide) (backOf (W := 0) (rmnb4 l Z a0 hw []  h0 n0 Z0 ) hZ (own_w hw 89 rfl) (own_w hw 51 rfl) (by decide) (by decide)) (g := (mkF m 1 #[.val (.ref a1), .val (.int (0 : Int32)), .val (.int (4 : Int32)), .unset, .unset] [(.int (4 : Int32))])) rfl (by rw [hml]; rfl) (argsL := [(.int (4 : Int32))]) (rest := []) (lenOf pd_8 rfl) rfl (by show 2 * 0 + _ ≤ _; exact Nat.le_of_eq rfl) (hb hby d18_1) (fun _ _ => ⟨rfl, e0, (by decide : 0 + 1 ≤ _), (by decide : 0 + 8 ≤ _)⟩)
  dsimp only [Pt.U, Pt.locs, Pt.cells, Pt.slots] at X254 l254 y254 z254 st254 hQ254
  subst l254 y254 z254
  obtain ⟨u254, ku254, rfl, Nq254, Kp254, gq254, Vq254⟩ := hQ254
  have g_u254 : n0 ≤ u254 := Nat.le_trans Z0 gq254
  have sz_u254 : h0.size ≤ u254 := Nat.le_trans KK.1 gq254
  have ne_a1_u254 : a1 ≠ u254 := Nat.ne_of_lt (Nat.lt_of_lt_of_le Vc.lt gq254)
  have N254 := Fr.app N0 Nq254
  replace Z0 := Nat.le_trans Z0 Kp254.1
  replace Vc := Vc.keep Kp254 nin0
  replace SA := own_staKeep SA Kp254 ns0
  replace SHI := own_staKeep SHI Kp254 ns0
  replace SLO := own_staKeep SLO Kp254 ns0
  replace KK := KK.trans Kp254 all0
  refine own_of (U' := (T254.setTop (mkF m 4 #[.val (.ref a1), .val (.int (0 : Int32)), .val (.int (4 : Int32)), .unset, .unset] [(.ref u254)]))) (st254) ?_
  refine own_astoreN X254 hx hby d18_4 rfl (l' := #[.val (.ref a1), .val (.int (0 : Int32)), .val (.int (4 : Int32)), .val (.ref u254), .unset]) rfl ?_
  refine own_iconst X254 hx hby 0 d18_5 rfl ?_
  refine own_istore X254 hx hby d18_6 (l' := #[.val (.ref a1), .val (.int (0 : Int32)), .val (.int (4 : Int32)), .val (.ref u254), .val (.int (0 : Int32))]) rfl ?_
  refine own_iload X254 hx hby d18_8 rfl ?_
  refine own_iloadN X254 hx hby d18_10 rfl ?_
  have hc11_255 : (0 : Int32) < (4 : Int32) := by decide
  refine own_icmpNo X254 hx hby d18_11 (tlt hc11_255).2.1 ?_
  refine own_aloadN X254 hx hby d18_14 rfl rfl ?_
  refine own_iload X254 hx hby d18_15 rfl ?_
  refine own_aloadN X254 hx hby d18_17 rfl rfl ?_
  refine own_iloadN X254 hx hby d18_18 rfl ?_
  obtain ⟨cl256, Ar256, qa256, Sa256, Na256, Ha256, Ga256⟩ := id Vc
  have hin256 : ¬ ((0 : Int32) < 0 ∨ cl256.slots.size ≤ ((0 : Int32)).toNatClampNeg) := inb_of Sa256 ⟨by decide, by decide⟩
  have hat256 : cl256.slots[((0 : Int32)).toNatClampNeg]? = some (.int c0) := Has.at Ha256 hin256 rfl
  refine own_of (U' := (T254.setTop (mkF m 20 #[.val (.ref a1), .val (.int (0 : Int32)), .val (.int (4 : Int32)), .val (.ref u254), .val (.int (0 : Int32))] [(.int c0), (.int (0 : Int32)), (.ref u254)]))) (X254.caload hx (j := (0 : Int32)) (v := (.int c0)) Ar256.1 (State.isArrayOf_alike hZ.alike Ar256.2.1) Ar256.2.2 hin256 hat256 (g := (mkF m 19 #[.val (.ref a1), .val (.int (0 : Int32)), .val (.int (4 : Int32)), .val (.ref u254), .val (.int (0 : Int32))] [(.int (0 : Int32)), (.ref a1), (.int (0 : Int32)), (.ref u254)])) rfl rfl (hb hby d18_19)) ?_
  obtain ⟨_, _, ⟨T257, L257, k257, n257⟩, -, X257, ⟨Lc257, hQ257, l257, y257, z257⟩, st257⟩ := Jvm.LawKit.callS X254 hx (y := mN_12) hown (mvT hZ (own_w hw 94 rfl)) (mvT hZ (own_w hw 95 rfl)) (mvT hZ (own_w hw 51 rfl)) (mvT hZ (own_w hw 96 rfl)) (by decide) (backOf (W := 0) (rmpc l Z a0 hw [] u254 (0 : Int32) c0 ku254 (8 : Int32) [(0 : Int32), (0 : Int32), (0 : Int32), (0 : Int32), (0 : Int32), (0 : Int32), (0 : Int32), (0 : Int32)] 0 T254.heap n0 Z0 Vq254 (by decide) (by decide) (by decide) (by decide) (by decide) (by decide) (Nat.le_of_ble_eq_true rfl) (Nat.le_of_ble_eq_true rfl) SA SHI SLO g_u254) hZ (own_w hw 96 rfl) (own_w hw 51 rfl) (by decide) (by decide)) (g := (mkF m 20 #[.val (.ref a1), .val (.int (0 : Int32)), .val (.int (4 : Int32)), .val (.ref u254), .val (.int (0 : Int32))] [(.int c0), (.int (0 : Int32)), (.ref u254)])) rfl (by rw [hml]; rfl) (argsL := [(.ref u254), (.int (0 : Int32)), (.int c0)]) (rest := []) (lenOf pd_9 rfl) rfl (by show 2 * 0 + _ ≤ _; exact Nat.le_of_eq rfl) (hb hby d18_20) (fun _ _ => ⟨rfl, rfl, (by decide : 1 + 0 ≤ _), (by decide : 8 + 0 ≤ _)⟩)
  dsimp only [Pt.U, Pt.locs, Pt.cells, Pt.slots] at X257 l257 y257 z257 st257 hQ257
  subst l257 y257 z257
  obtain ⟨rfl, Nq257, Kp257, Vq257⟩ := hQ257
  have N257 := Fr.app N254 Nq257
  have nst_u254 := Vq254.nostat
  replace Z0 := Nat.le_trans Z0 Kp257.1
  replace Vc := Vc.keep Kp257 (ninS ne_a1_u254 nin0)
  replace SA := own_staKeep SA Kp257 (nsS nst_u254 ns0)
  replace SHI := own_staKeep SHI Kp257 (nsS nst_u254 ns0)
  replace SLO := own_staKeep SLO Kp257 (nsS nst_u254 ns0)
  replace KK := KK.trans Kp257 (allS (Or.inr sz_u254) all0)
  have V257 : Arv Z T257.heap u254 ku254 .byte (8 : Int32) [(.int (own_lo8 c0)), (.int (own_hi8 c0)), (.int (0 : Int32)), (.int (0 : Int32)), (.int (0 : Int32)), (.int (0 : Int32)), (.int (0 : Int32)), (.int (0 : Int32))] (.int (0 : Int32)) := Vq257
  refine own_of (U' := (T257.setTop (mkF m 23 #[.val (.ref a1), .val (.int (0 : Int32)), .val (.int (4 : Int32)), .val (.ref u254), .val (.int (0 : Int32))] []))) (st257) ?_
  refine own_iinc X257 hx hby d18_23 rfl (l' := #[.val (.ref a1), .val (.int ((0 : Int32) + (1 : Int32))), .val (.int (4 : Int32)), .val (.ref u254), .val (.int (0 : Int32))]) rfl ?_
  refine own_eq (U' := (T257.setTop (mkF m 26 #[.val (.ref a1), .val (.int (1 : Int32)), .val (.int (4 : Int32)), .val (.ref u254), .val (.int (0 : Int32))] []))) (by rw [show ((0 : Int32) + (1 : Int32)) = (1 : Int32) by decide]) ?_
  refine own_iinc X257 hx hby d18_26 rfl (l' := #[.val (.ref a1), .val (.int (1 : Int32)), .val (.int (4 : Int32)), .val (.ref u254), .val (.int ((0 : Int32) + (1 : Int32)))]) rfl ?_
  refine own_eq (U' := (T257.setTop (mkF m 29 #[.val (.ref a1), .val (.int (1 : Int32)), .val (.int (4 : Int32)), .val (.ref u254), .val (.int (1 : Int32))] []))) (by rw [show ((0 : Int32) + (1 : Int32)) = (1 : Int32) by decide]) ?_
  refine own_goto X257 hx hby 29 8 d18_29 (by decide) (by decide) ?_
  refine own_iload X257 hx hby d18_8 rfl ?_
  refine own_iloadN X257 hx hby d18_10 rfl ?_
  have hc11_258 : (1 : Int32) < (4 : Int32) := by decide
  refine own_icmpNo X257 hx hby d18_11 (tlt hc11_258).2.1 ?_
  refine own_aloadN X257 hx hby d18_14 rfl rfl ?_
  refine own_iload X257 hx hby d18_15 rfl ?_
  refine own_aloadN X257 hx hby d18_17 rfl rfl ?_
  refine own_iloadN X257 hx hby d18_18 rfl ?_
  obtain ⟨cl259, Ar259, qa259, Sa259, Na259, Ha259, Ga259⟩ := id Vc
  have hin259 : ¬ ((1 : Int32) < 0 ∨ cl259.slots.size ≤ ((1 : Int32)).toNatClampNeg) := inb_of Sa259 ⟨by decide, by decide⟩
  have hat259 : cl259.slots[((1 : Int32)).toNatClampNeg]? = some (.int c1) := Has.at Ha259 hin259 rfl
  refine own_of (U' := (T257.setTop (mkF m 20 #[.val (.ref a1), .val (.int (1 : Int32)), .val (.int (4 : Int32)), .val (.ref u254), .val (.int (1 : Int32))] [(.int c1), (.int (1 : Int32)), (.ref u254)]))) (X257.caload hx (j := (1 : Int32)) (v := (.int c1)) Ar259.1 (State.isArrayOf_alike hZ.alike Ar259.2.1) Ar259.2.2 hin259 hat259 (g := (mkF m 19 #[.val (.ref a1), .val (.int (1 : Int32)), .val (.int (4 : Int32)), .val (.ref u254), .val (.int (1 : Int32))] [(.int (1 : Int32)), (.ref a1), (.int (1 : Int32)), (.ref u254)])) rfl rfl (hb hby d18_19)) ?_
  obtain ⟨_, _, ⟨T260, L260, k260, n260⟩, -, X260, ⟨Lc260, hQ260, l260, y260, z260⟩, st260⟩ := Jvm.LawKit.callS X257 hx (y := mN_12) hown (mvT hZ (own_w hw 94 rfl)) (mvT hZ (own_w hw 95 rfl)) (mvT hZ (own_w hw 51 rfl)) (mvT hZ (own_w hw 96 rfl)) (by decide) (backOf (W := 0) (rmpc l Z a0 hw [] u254 (1 : Int32) c1 ku254 (8 : Int32) [(own_lo8 c0), (own_hi8 c0), (0 : Int32), (0 : Int32), (0 : Int32), (0 : Int32), (0 : Int32), (0 : Int32)] 2 T257.heap n0 Z0 V257 (by decide) (by decide) (by decide) (by decide) (by decide) (by decide) (Nat.le_of_ble_eq_true rfl) (Nat.le_of_ble_eq_true rfl) SA SHI SLO g_u254) hZ (own_w hw 96 rfl) (own_w hw 51 rfl) (by decide) (by decide)) (g := (mkF m 20 #[.val (.ref a1), .val (.int (1 : Int32)), .val (.int (4 : Int32)), .val (.ref u254), .val (.int (1 : Int32))] [(.int c1), (.int (1 : Int32)), (.ref u254)])) rfl (by rw [hml]; rfl) (argsL := [(.ref u254), (.int (1 : Int32)), (.int c1)]) (rest := []) (lenOf pd_9 rfl) rfl (by show 2 * 0 + _ ≤ _; exact Nat.le_of_eq rfl) (hb hby d18_20) (fun _ _ => ⟨rfl, rfl, (by decide : 1 + 0 ≤ _), (by decide : 8 + 0 ≤ _)⟩)
  dsimp only [Pt.U, Pt.locs, Pt.cells, Pt.slots] at X260 l260 y260 z260 st260 hQ260
  subst l260 y260 z260
  obtain ⟨rfl, Nq260, Kp260, Vq260⟩ := hQ260
  have N260 := Fr.app N257 Nq260
  have nst_u254 := V257.nostat
  replace Z0 := Nat.le_trans Z0 Kp260.1
  replace Vc := Vc.keep Kp260 (ninS ne_a1_u254 nin0)
  replace SA := own_staKeep SA Kp260 (nsS nst_u254 ns0)
  replace SHI := own_staKeep SHI Kp260 (nsS nst_u254 ns0)
  replace SLO := own_staKeep SLO Kp260 (nsS nst_u254 ns0)
  replace KK := KK.trans Kp260 (allS (Or.inr sz_u254) all0)
  have V260 : Arv Z T260.heap u254 ku254 .byte (8 : Int32) [(.int (own_lo8 c0)), (.int (own_hi8 c0)), (.int (own_lo8 c1)), (.int (own_hi8 c1)), (.int (0 : Int32)), (.int (0 : Int32)), (.int (0 : Int32)), (.int (0 : Int32))] (.int (0 : Int32)) := Vq260
  refine own_of (U' := (T260.setTop (mkF m 23 #[.val (.ref a1), .val (.int (1 : Int32)), .val (.int (4 : Int32)), .val (.ref u254), .val (.int (1 : Int32))] []))) (st260) ?_
  refine own_iinc X260 hx hby d18_23 rfl (l' := #[.val (.ref a1), .val (.int ((1 : Int32) + (1 : Int32))), .val (.int (4 : Int32)), .val (.ref u254), .val (.int (1 : Int32))]) rfl ?_
  refine own_eq (U' := (T260.setTop (mkF m 26 #[.val (.ref a1), .val (.int (2 : Int32)), .val (.int (4 : Int32)), .val (.ref u254), .val (.int (1 : Int32))] []))) (by rw [show ((1 : Int32) + (1 : Int32)) = (2 : Int32) by decide]) ?_
  refine own_iinc X260 hx hby d18_26 rfl (l' := #[.val (.ref a1), .val (.int (2 : Int32)), .val (.int (4 : Int32)), .val (.ref u254), .val (.int ((1 : Int32) + (1 : Int32)))]) rfl ?_
  refine own_eq (U' := (T260.setTop (mkF m 29 #[.val (.ref a1), .val (.int (2 : Int32)), .val (.int (4 : Int32)), .val (.ref u254), .val (.int (2 : Int32))] []))) (by rw [show ((1 : Int32) + (1 : Int32)) = (2 : Int32) by decide]) ?_
  refine own_goto X260 hx hby 29 8 d18_29 (by decide) (by decide) ?_
  refine own_iload X260 hx hby d18_8 rfl ?_
  refine own_iloadN X260 hx hby d18_10 rfl ?_
  have hc11_261 : (2 : Int32) < (4 : Int32) := by decide
  refine own_icmpNo X260 hx hby d18_11 (tlt hc11_261).2.1 ?_
  refine own_aloadN X260 hx hby d18_14 rfl rfl ?_
  refine own_iload X260 hx hby d18_15 rfl ?_
  refine own_aloadN X260 hx hby d18_17 rfl rfl ?_
  refine own_iloadN X260 hx hby d18_18 rfl ?_
  obtain ⟨cl262, Ar262, qa262, Sa262, Na262, Ha262, Ga262⟩ := id Vc
  have hin262 : ¬ ((2 : Int32) < 0 ∨ cl262.slots.size ≤ ((2 : Int32)).toNatClampNeg) := inb_of Sa262 ⟨by decide, by decide⟩
  have hat262 : cl262.slots[((2 : Int32)).toNatClampNeg]? = some (.int c2) := Has.at Ha262 hin262 rfl
  refine own_of (U' := (T260.setTop (mkF m 20 #[.val (.ref a1), .val (.int (2 : Int32)), .val (.int (4 : Int32)), .val (.ref u254), .val (.int (2 : Int32))] [(.int c2), (.int (2 : Int32)), (.ref u254)]))) (X260.caload hx (j := (2 : Int32)) (v := (.int c2)) Ar262.1 (State.isArrayOf_alike hZ.alike Ar262.2.1) Ar262.2.2 hin262 hat262 (g := (mkF m 19 #[.val (.ref a1), .val (.int (2 : Int32)), .val (.int (4 : Int32)), .val (.ref u254), .val (.int (2 : Int32))] [(.int (2 : Int32)), (.ref a1), (.int (2 : Int32)), (.ref u254)])) rfl rfl (hb hby d18_19)) ?_
  obtain ⟨_, _, ⟨T263, L263, k263, n263⟩, -, X263, ⟨Lc263, hQ263, l263, y263, z263⟩, st263⟩ := Jvm.LawKit.callS X260 hx (y := mN_12) hown (mvT hZ (own_w hw 94 rfl)) (mvT hZ (own_w hw 95 rfl)) (mvT hZ (own_w hw 51 rfl)) (mvT hZ (own_w hw 96 rfl)) (by decide) (backOf (W := 0) (rmpc l Z a0 hw [] u254 (2 : Int32) c2 ku254 (8 : Int32) [(own_lo8 c0), (own_hi8 c0), (own_lo8 c1), (own_hi8 c1), (0 : Int32), (0 : Int32), (0 : Int32), (0 : Int32)] 4 T260.heap n0 Z0 V260 (by decide) (by decide) (by decide) (by decide) (by decide) (by decide) (Nat.le_of_ble_eq_true rfl) (Nat.le_of_ble_eq_true rfl) SA SHI SLO g_u254) hZ (own_w hw 96 rfl) (own_w hw 51 rfl) (by decide) (by decide)) (g := (mkF m 20 #[.val (.ref a1), .val (.int (2 : Int32)), .val (.int (4 : Int32)), .val (.ref u254), .val (.int (2 : Int32))] [(.int c2), (.int (2 : Int32)), (.ref u254)])) rfl (by rw [hml]; rfl) (argsL := [(.ref u254), (.int (2 : Int32)), (.int c2)]) (rest := []) (lenOf pd_9 rfl) rfl (by show 2 * 0 + _ ≤ _; exact Nat.le_of_eq rfl) (hb hby d18_20) (fun _ _ => ⟨rfl, rfl, (by decide : 1 + 0 ≤ _), (by decide : 8 + 0 ≤ _)⟩)
  dsimp only [Pt.U, Pt.locs, Pt.cells, Pt.slots] at X263 l263 y263 z263 st263 hQ263
  subst l263 y263 z263
  obtain ⟨rfl, Nq263, Kp263, Vq263⟩ := hQ263
  have N263 := Fr.app N260 Nq263
  have nst_u254 := V260.nostat
  replace Z0 := Nat.le_trans Z0 Kp263.1
  replace Vc := Vc.keep Kp263 (ninS ne_a1_u254 nin0)
  replace SA := own_staKeep SA Kp263 (nsS nst_u254 ns0)
  replace SHI := own_staKeep SHI Kp263 (nsS nst_u254 ns0)
  replace SLO := own_staKeep SLO Kp263 (nsS nst_u254 ns0)
  replace KK := KK.trans Kp263 (allS (Or.inr sz_u254) all0)
  have V263 : Arv Z T263.heap u254 ku254 .byte (8 : Int32) [(.int (own_lo8 c0)), (.int (own_hi8 c0)), (.int (own_lo8 c1)), (.int (own_hi8 c1)), (.int (own_lo8 c2)), (.int (own_hi8 c2)), (.int (0 : Int32)), (.int (0 : Int32))] (.int (0 : Int32)) := Vq263
  refine own_of (U' := (T263.setTop (mkF m 23 #[.val (.ref a1), .val (.int (2 : Int32)), .val (.int (4 : Int32)), .val (.ref u254), .val (.int (2 : Int32))] []))) (st263) ?_
  refine own_iinc X263 hx hby d18_23 rfl (l' := #[.val (.ref a1), .val (.int ((2 : Int32) + (1 : Int32))), .val (.int (4 : Int32)), .val (.ref u254), .val (.int (2 : Int32))]) rfl ?_
  refine own_eq (U' := (T263.setTop (mkF m 26 #[.val (.ref a1), .val (.int (3 : Int32)), .val (.int (4 : Int32)), .val (.ref u254), .val (.int (2 : Int32))] []))) (by rw [show ((2 : Int32) + (1 : Int32)) = (3 : Int32) by decide]) ?_
  refine own_iinc X263 hx hby d18_26 rfl (l' := #[.val (.ref a1), .val (.int (3 : Int32)), .val (.int (4 : Int32)), .val (.ref u254), .val (.int ((2 : Int32) + (1 : Int32)))]) rfl ?_
  refine own_eq (U' := (T263.setTop (mkF m 29 #[.val (.ref a1), .val (.int (3 : Int32)), .val (.int (4 : Int32)), .val (.ref u254), .val (.int (3 : Int32))] []))) (by rw [show ((2 : Int32) + (1 : Int32)) = (3 : Int32) by decide]) ?_
  refine own_goto X263 hx hby 29 8 d18_29 (by decide) (by decide) ?_
  refine own_iload X263 hx hby d18_8 rfl ?_
  refine own_iloadN X263 hx hby d18_10 rfl ?_
  have hc11_264 : (3 : Int32) < (4 : Int32) := by decide
  refine own_icmpNo X263 hx hby d18_11 (tlt hc11_264).2.1 ?_
  refine own_aloadN X263 hx hby d18_14 rfl rfl ?_
  refine own_iload X263 hx hby d18_15 rfl ?_
  refine own_aloadN X263 hx hby d18_17 rfl rfl ?_
  refine own_iloadN X263 hx hby d18_18 rfl ?_
  obtain ⟨cl265, Ar265, qa265, Sa265, Na265, Ha265, Ga265⟩ := id Vc
  have hin265 : ¬ ((3 : Int32) < 0 ∨ cl265.slots.size ≤ ((3 : Int32)).toNatClampNeg) := inb_of Sa265 ⟨by decide, by decide⟩
  have hat265 : cl265.slots[((3 : Int32)).toNatClampNeg]? = some (.int c3) := Has.at Ha265 hin265 rfl
  refine own_of (U' := (T263.setTop (mkF m 20 #[.val (.ref a1), .val (.int (3 : Int32)), .val (.int (4 : Int32)), .val (.ref u254), .val (.int (3 : Int32))] [(.int c3), (.int (3 : Int32)), (.ref u254)]))) (X263.caload hx (j := (3 : Int32)) (v := (.int c3)) Ar265.1 (State.isArrayOf_alike hZ.alike Ar265.2.1) Ar265.2.2 hin265 hat265 (g := (mkF m 19 #[.val (.ref a1), .val (.int (3 : Int32)), .val (.int (4 : Int32)), .val (.ref u254), .val (.int (3 : Int32))] [(.int (3 : Int32)), (.ref a1), (.int (3 : Int32)), (.ref u254)])) rfl rfl (hb hby d18_19)) ?_
  obtain ⟨_, _, ⟨T266, L266, k266, n266⟩, -, X266, ⟨Lc266, hQ266, l266, y266, z266⟩, st266⟩ := Jvm.LawKit.callS X263 hx (y := mN_12) hown (mvT hZ (own_w hw 94 rfl)) (mvT hZ (own_w hw 95 rfl)) (mvT hZ (own_w hw 51 rfl)) (mvT hZ (own_w hw 96 rfl)) (by decide) (backOf (W := 0) (rmpc l Z a0 hw [] u254 (3 : Int32) c3 ku254 (8 : Int32) [(own_lo8 c0), (own_hi8 c0), (own_lo8 c1), (own_hi8 c1), (own_lo8 c2), (own_hi8 c2), (0 : Int32), (0 : Int32)] 6 T263.heap n0 Z0 V263 (by decide) (by decide) (by decide) (by decide) (by decide) (by decide) (Nat.le_of_ble_eq_true rfl) (Nat.le_of_ble_eq_true rfl) SA SHI SLO g_u254) hZ (own_w hw 96 rfl) (own_w hw 51 rfl) (by decide) (by decide)) (g := (mkF m 20 #[.val (.ref a1), .val (.int (3 : Int32)), .val (.int (4 : Int32)), .val (.ref u254), .val (.int (3 : Int32))] [(.int c3), (.int (3 : Int32)), (.ref u254)])) rfl (by rw [hml]; rfl) (argsL := [(.ref u254), (.int (3 : Int32)), (.int c3)]) (rest := []) (lenOf pd_9 rfl) rfl (by show 2 * 0 + _ ≤ _; exact Nat.le_of_eq rfl) (hb hby d18_20) (fun _ _ => ⟨rfl, rfl, (by decide : 1 + 0 ≤ _), (by decide : 8 + 0 ≤ _)⟩)
  dsimp only [Pt.U, Pt.locs, Pt.cells, Pt.slots] at X266 l266 y266 z266 st266 hQ266
  subst l266 y266 z266
  obtain ⟨rfl, Nq266, Kp266, Vq266⟩ := hQ266
  have N266 := Fr.app N263 Nq266
  have nst_u254 := V263.nostat
  replace Z0 := Nat.le_trans Z0 Kp266.1
  replace Vc := Vc.keep Kp266 (ninS ne_a1_u254 nin0)
  replace SA := own_staKeep SA Kp266 (nsS nst_u254 ns0)
  replace SHI := own_staKeep SHI Kp266 (nsS nst_u254 ns0)
  replace SLO := own_staKeep SLO Kp266 (nsS nst_u254 ns0)
  replace KK := KK.trans Kp266 (allS (Or.inr sz_u254) all0)
  have V266 : Arv Z T266.heap u254 ku254 .byte (8 : Int32) [(.int (own_lo8 c0)), (.int (own_hi8 c0)), (.int (own_lo8 c1)), (.int (own_hi8 c1)), (.int (own_lo8 c2)), (.int (own_hi8 c2)), (.int (own_lo8 c3)), (.int (own_hi8 c3))] (.int (0 : Int32)) := Vq266
  refine own_of (U' := (T266.setTop (mkF m 23 #[.val (.ref a1), .val (.int (3 : Int32)), .val (.int (4 : Int32)), .val (.ref u254), .val (.int (3 : Int32))] []))) (st266) ?_
  refine own_iinc X266 hx hby d18_23 rfl (l' := #[.val (.ref a1), .val (.int ((3 : Int32) + (1 : Int32))), .val (.int (4 : Int32)), .val (.ref u254), .val (.int (3 : Int32))]) rfl ?_
  refine own_eq (U' := (T266.setTop (mkF m 26 #[.val (.ref a1), .val (.int (4 : Int32)), .val (.int (4 : Int32)), .val (.ref u254), .val (.int (3 : Int32))] []))) (by rw [show ((3 : Int32) + (1 : Int32)) = (4 : Int32) by decide]) ?_
  refine own_iinc X266 hx hby d18_26 rfl (l' := #[.val (.ref a1), .val (.int (4 : Int32)), .val (.int (4 : Int32)), .val (.ref u254), .val (.int ((3 : Int32) + (1 : Int32)))]) rfl ?_
  refine own_eq (U' := (T266.setTop (mkF m 29 #[.val (.ref a1), .val (.int (4 : Int32)), .val (.int (4 : Int32)), .val (.ref u254), .val (.int (4 : Int32))] []))) (by rw [show ((3 : Int32) + (1 : Int32)) = (4 : Int32) by decide]) ?_
  refine own_goto X266 hx hby 29 8 d18_29 (by decide) (by decide) ?_
  refine own_iload X266 hx hby d18_8 rfl ?_
  refine own_iloadN X266 hx hby d18_10 rfl ?_
  have hc11_267 : ¬ ((4 : Int32) < (4 : Int32)) := by decide
  refine own_icmpYes X266 hx hby 11 32 d18_11 (flt hc11_267).2.1 (by decide) (by decide) ?_
  refine own_aloadN X266 hx hby d18_32 rfl rfl ?_
  exact own_retA X266 hx hlk Bd.returns rfl rfl (hb hby d18_33) (by decide) (by decide) (⟨u254, ku254, rfl, N266, KK, sz_u254, V266⟩)
theorem ef_cl4_0 (m : MethodId) (x0 : Addr) (x2 : Addr) : entryFrame m #[(.ref x0), (.int (0 : Int32)), (.ref x2), (.int (0 : Int32)), (.int (4 : Int32))] 7 = mkF m 0 #[.val (.ref x0), .val (.int (0 : Int32)), .val (.ref x2), .val (.int (0 : Int32)), .val (.int (4 : Int32)), .unset, .unset] [] := by first | (simp [entryFrame, mkF, argsToLocals, Value.category]; done) | rfl
def Qcl4_0 (Z : State) (a3 : Addr) (kd : ClassId) (c0 c1 c2 c3 : Int32) (h0 : Heap) (n0 : Nat) (v : Option Value) (h : Heap) (L : List Loc) : Prop := v = some (.int (0 : Int32)) ∧ Fr n0 L ∧ Keep h0 h [a3] ∧ Arv Z h a3 kd .byte (4 : Int32) [(.int (0 : Int32)), (.int (0 : Int32)), (.int (0 : Int32)), (.int (0 : Int32))] (.int (0 : Int32))
set_option maxRecDepth 65536 in
set_option maxHeartbeats 40000000 in
theorem rmcl4_0 (l : Launch) (Z : State) (a0 : Array Value) (hw : ∀ d ∈ tables_1, d.before a0 Z = true) (ws : List Jvm.Cond) (a1 a3 : Addr) (kc kd : ClassId) (c0 c1 c2 c3 : Int32) (h0 : Heap) (n0 : Nat) (Z0 : n0 ≤ h0.size) (Vc : Arv Z h0 a1 kc .char (4 : Int32) [(.int c0), (.int c1), (.int c2), (.int c3)] (.int (0 : Int32))) (Vd : Arv Z h0 a3 kd .byte (4 : Int32) [(.int (0 : Int32)), (.int (0 : Int32)), (.int (0 : Int32)), (.int (0 : Int32))] (.int (0 : Int32))) (g_a3 : n0 ≤ a3) (nea : a1 ≠ a3)  (hB : (255 : Int32) < c0) :
    MetFree l mN_16 (head1 (Jvm.Cond.code mN_16 jdk_52_method_21_code 7 (some .int) :: ws) ({ frames := 0, cells := 0, slots := 0, locals := 0 } : Room)) (fun a U => a = #[(.ref a1), (.int (0 : Int32)), (.ref a3), (.int (0 : Int32)), (.int (4 : Int32))] ∧ Z.Warmed39 U.vm ∧ U.heap = h0) (fun _ _ _ _ _ => True) (fun _ U o U' => ∃ v L, o = .returned v ∧ (Qcl4_0 Z a3 kd c0 c1 c2 c3 h0 n0) v U'.heap L ∧ FrameEnd U o U' L ({ frames := 0, cells := 0, slots := 0, locals := 0 } : Room).cells ({ frames := 0, cells := 0, slots := 0, locals := 0 } : Room).slots) := by
  refine MetFree.of_bodySF (plainFor_of_name pn_2) hisR ?_
  intro p e s m args below meth c s₁ Bd hml0 hP hK
  obtain ⟨rfl, hZ, hh⟩ := hP
  have hx := Bd.exec
  have hby := Bd.bytes
  have hml : c.maxLocals = 7 := hml0
  have hown : s.vm.findClass "java/lang/StringUTF16" = some m.cls := findClass_of_methodNamed Bd.named
  have hnm := (name_of_methodNamed Bd.named Bd.method).1
  have hlk := Bd.notSynchronized
  have X0 : Stand p l e ({ frames := 0, cells := 0, slots := 0, locals := 0 } : Room) s m #[(.ref a1), (.int (0 : Int32)), (.ref a3), (.int (0 : Int32)), (.int (4 : Int32))] below meth c s₁ [] 0 0 := Stand.of_body Bd
  have e0 : s₁.heap = h0 := by rw [← hh, Bd.state]; rfl
  have N0 := Fr.nil n0
  have KK := Keep.refl h0 [a3]
  show own_Ends p e below s FrameEnd (Qcl4_0 Z a3 kd c0 c1 c2 c3 h0 n0) 0 0 (s₁.setTop (entryFrame m #[(.ref a1), (.int (0 : Int32)), (.ref a3), (.int (0 : Int32)), (.int (4 : Int32))] 7))
  refine own_of (U' := (s₁.setTop (mkF m 0 #[.val (.ref a1), .val (.int (0 : Int32)), .val (.ref a3), .val (.int (0 : Int32)), .val (.int (4 : Int32)), .unset, .unset] []))) (fun _ k => castTop (ef_cl4_0 m a1 a3) k) ?_
  refine own_iconst X0 hx hby 0 d10_0 rfl ?_
  refine own_istore X0 hx hby d10_1 (l' := #[.val (.ref a1), .val (.int (0 : Int32)), .val (.ref a3), .val (.int (0 : Int32)), .val (.int (4 : Int32)), .val (.int (0 : Int32)), .unset]) rfl ?_
  refine own_iload X0 hx hby d10_3 rfl ?_
  refine own_iload X0 hx hby d10_5 rfl ?_
  have hc7_268 : (0 : Int32) < (4 : Int32) := by decide
  refine own_icmpNo X0 hx hby d10_7 (tlt hc7_268).2.1 ?_
  refine own_aloadN X0 hx hby d10_10 rfl rfl ?_
  refine own_iloadN X0 hx hby d10_11 rfl ?_
  obtain ⟨cl269, Ar269, qa269, Sa269, Na269, Ha269, Ga269⟩ := id Vc
  have hin269 : ¬ ((0 : Int32) < 0 ∨ cl269.slots.size ≤ ((0 : Int32)).toNatClampNeg) := inb_of Sa269 ⟨by decide, by decide⟩
  have hat269 : cl269.slots[((0 : Int32)).toNatClampNeg]? = some (.int c0) := Has.at Ha269 hin269 rfl
  refine own_of (U' := (s₁.setTop (mkF m 13 #[.val (.ref a1), .val (.int (0 : Int32)), .val (.ref a3), .val (.int (0 : Int32)), .val (.int (4 : Int32)), .val (.int (0 : Int32)), .unset] [(.int c0)]))) (X0.caload hx (j := (0 : Int32)) (v := (.int c0)) (by rw [e0]; exact Ar269.1) (State.isArrayOf_alike hZ.alike Ar269.2.1) Ar269.2.2 hin269 hat269 (g := (mkF m 12 #[.val (.ref a1), .val (.int (0 : Int32)), .val (.ref a3), .val (.int (0 : Int32)), .val (.int (4 : Int32)), .val (.int (0 : Int32)), .unset] [(.int (0 : Int32)), (.ref a1)])) rfl rfl (hb hby d10_12)) ?_
  refine own_istore X0 hx hby d10_13 (l' := #[.val (.ref a1), .val (.int (0 : Int32)), .val (.ref a3), .val (.int (0 : Int32)), .val (.int (4 : Int32)), .val (.int (0 : Int32)), .val (.int c0)]) rfl ?_
  refine own_iload X0 hx hby d10_15 rfl ?_
  refine own_sipush X0 hx hby 255 d10_17 rfl ?_
  have hc20_270 : (255 : Int32) < c0 := hB
  refine own_icmpNo X0 hx hby d10_20 (tlt hc20_270).2.2.2 ?_
  refine own_iload X0 hx hby d10_23 rfl ?_
  exact own_retI X0 hx hlk Bd.returns (hb hby d10_25) (by decide) (by decide) (by rw [e0]; exact ⟨rfl, N0, KK, Vd⟩)
theorem ef_cl4_1 (m : MethodId) (x0 : Addr) (x2 : Addr) : entryFrame m #[(.ref x0), (.int (0 : Int32)), (.ref x2), (.int (0 : Int32)), (.int (4 : Int32))] 7 = mkF m 0 #[.val (.ref x0), .val (.int (0 : Int32)), .val (.ref x2), .val (.int (0 : Int32)), .val (.int (4 : Int32)), .unset, .unset] [] := by first | (simp [entryFrame, mkF, argsToLocals, Value.category]; done) | rfl
def Qcl4_1 (Z : State) (a3 : Addr) (kd : ClassId) (c0 c1 c2 c3 : Int32) (h0 : Heap) (n0 : Nat) (v : Option Value) (h : Heap) (L : List Loc) : Prop := v = some (.int (1 : Int32)) ∧ Fr n0 L ∧ Keep h0 h [a3] ∧ Arv Z h a3 kd .byte (4 : Int32) [(.int (own_b8 c0)), (.int (0 : Int32)), (.int (0 : Int32)), (.int (0 : Int32))] (.int (0 : Int32))
set_option maxRecDepth 65536 in
set_option maxHeartbeats 40000000 in
theorem rmcl4_1 (l : Launch) (Z : State) (a0 : Array Value) (hw : ∀ d ∈ tables_1, d.before a0 Z = true) (ws : List Jvm.Cond) (a1 a3 : Addr) (kc kd : ClassId) (c0 c1 c2 c3 : Int32) (h0 : Heap) (n0 : Nat) (Z0 : n0 ≤ h0.size) (Vc : Arv Z h0 a1 kc .char (4 : Int32) [(.int c0), (.int c1), (.int c2), (.int c3)] (.int (0 : Int32))) (Vd : Arv Z h0 a3 kd .byte (4 : Int32) [(.int (0 : Int32)), (.int (0 : Int32)), (.int (0 : Int32)), (.int (0 : Int32))] (.int (0 : Int32))) (g_a3 : n0 ≤ a3) (nea : a1 ≠ a3) (hL0 : ¬ ((255 : Int32) < c0)) (hB : (255 : Int32) < c1) :
    MetFree l mN_16 (head1 (Jvm.Cond.code mN_16 jdk_52_method_21_code 7 (some .int) :: ws) ({ frames := 0, cells := 0, slots := 0, locals := 0 } : Room)) (fun a U => a = #[(.ref a1), (.int (0 : Int32)), (.ref a3), (.int (0 : Int32)), (.int (4 : Int32))] ∧ Z.Warmed39 U.vm ∧ U.heap = h0) (fun _ _ _ _ _ => True) (fun _ U o U' => ∃ v L, o = .returned v ∧ (Qcl4_1 Z a3 kd c0 c1 c2 c3 h0 n0) v U'.heap L ∧ FrameEnd U o U' L ({ frames := 0, cells := 0, slots := 0, locals := 0 } : Room).cells ({ frames := 0, cells := 0, slots := 0, locals := 0 } : Room).slots) := by
  refine MetFree.of_bodySF (plainFor_of_name pn_2) hisR ?_
  intro p e s m args below meth c s₁ Bd hml0 hP hK
  obtain ⟨rfl, hZ, hh⟩ := hP
  have hx := Bd.exec
  have hby := Bd.bytes
  have hml : c.maxLocals = 7 := hml0
  have hown : s.vm.findClass "java/lang/StringUTF16" = some m.cls := findClass_of_methodNamed Bd.named
  have hnm := (name_of_methodNamed Bd.named Bd.method).1
  have hlk := Bd.notSynchronized
  have X0 : Stand p l e ({ frames := 0, cells := 0, slots := 0, locals := 0 } : Room) s m #[(.ref a1), (.int (0 : Int32)), (.ref a3), (.int (0 : Int32)), (.int (4 : Int32))] below meth c s₁ [] 0 0 := Stand.of_body Bd
  have e0 : s₁.heap = h0 := by rw [← hh, Bd.state]; rfl
  have N0 := Fr.nil n0
  have KK := Keep.refl h0 [a3]
  show own_Ends p e below s FrameEnd (Qcl4_1 Z a3 kd c0 c1 c2 c3 h0 n0) 0 0 (s₁.setTop (entryFrame m #[(.ref a1), (.int (0 : Int32)), (.ref a3), (.int (0 : Int32)), (.int (4 : Int32))] 7))
  refine own_of (U' := (s₁.setTop (mkF m 0 #[.val (.ref a1), .val (.int (0 : Int32)), .val (.ref a3), .val (.int (0 : Int32)), .val (.int (4 : Int32)), .unset, .unset] []))) (fun _ k => castTop (ef_cl4_1 m a1 a3) k) ?_
  refine own_iconst X0 hx hby 0 d10_0 rfl ?_
  refine own_istore X0 hx hby d10_1 (l' := #[.val (.ref a1), .val (.int (0 : Int32)), .val (.ref a3), .val (.int (0 : Int32)), .val (.int (4 : Int32)), .val (.int (0 : Int32)), .unset]) rfl ?_
  refine own_iload X0 hx hby d10_3 rfl ?_
  refine own_iload X0 hx hby d10_5 rfl ?_
  have hc7_271 : (0 : Int32) < (4 : Int32) := by decide
  refine own_icmpNo X0 hx hby d10_7 (tlt hc7_271).2.1 ?_
  refine own_aloadN X0 hx hby d10_10 rfl rfl ?_
  refine own_iloadN X0 hx hby d10_11 rfl ?_
  obtain ⟨cl272, Ar272, qa272, Sa272, Na272, Ha272, Ga272⟩ := id Vc
  have hin272 : ¬ ((0 : Int32) < 0 ∨ cl272.slots.size ≤ ((0 : Int32)).toNatClampNeg) := inb_of Sa272 ⟨by decide, by decide⟩
  have hat272 : cl272.slots[((0 : Int32)).toNatClampNeg]? = some (.int c0) := Has.at Ha272 hin272 rfl
  refine own_of (U' := (s₁.setTop (mkF m 13 #[.val (.ref a1), .val (.int (0 : Int32)), .val (.ref a3), .val (.int (0 : Int32)), .val (.int (4 : Int32)), .val (.int (0 : Int32)), .unset] [(.int c0)]))) (X0.caload hx (j := (0 : Int32)) (v := (.int c0)) (by rw [e0]; exact Ar272.1) (State.isArrayOf_alike hZ.alike Ar272.2.1) Ar272.2.2 hin272 hat272 (g := (mkF m 12 #[.val (.ref a1), .val (.int (0 : Int32)), .val (.ref a3), .val (.int (0 : Int32)), .val (.int (4 : Int32)), .val (.int (0 : Int32)), .unset] [(.int (0 : Int32)), (.ref a1)])) rfl rfl (hb hby d10_12)) ?_
  refine own_istore X0 hx hby d10_13 (l' := #[.val (.ref a1), .val (.int (0 : Int32)), .val (.ref a3), .val (.int (0 : Int32)), .val (.int (4 : Int32)), .val (.int (0 : Int32)), .val (.int c0)]) rfl ?_
  refine own_iload X0 hx hby d10_15 rfl ?_
  refine own_sipush X0 hx hby 255 d10_17 rfl ?_
  have hc20_273 : ¬ ((255 : Int32) < c0) := hL0
  refine own_icmpYes X0 hx hby 20 26 d10_20 (flt hc20_273).2.2.2 (by decide) (by decide) ?_
  refine own_aloadN X0 hx hby d10_26 rfl rfl ?_
  refine own_iloadN X0 hx hby d10_27 rfl ?_
  refine own_iload X0 hx hby d10_28 rfl ?_
  refine own_i2b X0 hx hby d10_30 ?_
  obtain ⟨cl274, Ar274, qa274, Sa274, Na274, Ha274, Ga274⟩ := Vd
  have hin274 : ¬ ((0 : Int32) < 0 ∨ cl274.slots.size ≤ ((0 : Int32)).toNatClampNeg) := inb_of Sa274 ⟨by decide, by decide⟩
  obtain ⟨T274, h274, X274, e274, W274, st274⟩ := stB X0 hx hZ e0 Ar274 (j := (0 : Int32)) hin274 (g := (mkF m 31 #[.val (.ref a1), .val (.int (0 : Int32)), .val (.ref a3), .val (.int (0 : Int32)), .val (.int (4 : Int32)), .val (.int (0 : Int32)), .val (.int c0)] [(.int (c0.toInt8.toInt32)), (.int (0 : Int32)), (.ref a3)])) rfl rfl (hb hby d10_31)
  replace Vd : Arv Z h274 a3 kd .byte (4 : Int32) [(.int (nar .byte (c0.toInt8.toInt32))), (.int (0 : Int32)), (.int (0 : Int32)), (.int (0 : Int32))] (.int (0 : Int32)) := Arv.set Ar274 qa274 Sa274 Na274 Ha274 Ga274 (fits_nar_byte _) W274 0 rfl (Nat.le_of_ble_eq_true rfl)
  replace Z0 := Nat.le_trans Z0 (Keep.of_wr W274).1
  replace Vc := Vc.other W274 nea
  replace KK := KK.wr W274 (Or.inl (List.mem_of_getElem? (i := 0) rfl))
  have N274 := Fr.snoc X274 N0 g_a3
  refine own_of (U' := (T274.setTop (mkF m 32 #[.val (.ref a1), .val (.int (0 : Int32)), .val (.ref a3), .val (.int (0 : Int32)), .val (.int (4 : Int32)), .val (.int (0 : Int32)), .val (.int c0)] []))) (st274) ?_
  refine own_iinc X274 hx hby d10_32 rfl (l' := #[.val (.ref a1), .val (.int ((0 : Int32) + (1 : Int32))), .val (.ref a3), .val (.int (0 : Int32)), .val (.int (4 : Int32)), .val (.int (0 : Int32)), .val (.int c0)]) rfl ?_
  refine own_eq (U' := (T274.setTop (mkF m 35 #[.val (.ref a1), .val (.int (1 : Int32)), .val (.ref a3), .val (.int (0 : Int32)), .val (.int (4 : Int32)), .val (.int (0 : Int32)), .val (.int c0)] []))) (by rw [show ((0 : Int32) + (1 : Int32)) = (1 : Int32) by decide]) ?_
  refine own_iinc X274 hx hby d10_35 rfl (l' := #[.val (.ref a1), .val (.int (1 : Int32)), .val (.ref a3), .val (.int ((0 : Int32) + (1 : Int32))), .val (.int (4 : Int32)), .val (.int (0 : Int32)), .val (.int c0)]) rfl ?_
  refine own_eq (U' := (T274.setTop (mkF m 38 #[.val (.ref a1), .val (.int (1 : Int32)), .val (.ref a3), .val (.int (1 : Int32)), .val (.int (4 : Int32)), .val (.int (0 : Int32)), .val (.int c0)] []))) (by rw [show ((0 : Int32) + (1 : Int32)) = (1 : Int32) by decide]) ?_
  refine own_iinc X274 hx hby d10_38 rfl (l' := #[.val (.ref a1), .val (.int (1 : Int32)), .val (.ref a3), .val (.int (1 : Int32)), .val (.int (4 : Int32)), .val (.int ((0 : Int32) + (1 : Int32))), .val (.int c0)]) rfl ?_
  refine own_eq (U' := (T274.setTop (mkF m 41 #[.val (.ref a1), .val (.int (1 : Int32)), .val (.ref a3), .val (.int (1 : Int32)), .val (.int (4 : Int32)), .val (.int (1 : Int32)), .val (.int c0)] []))) (by rw [show ((0 : Int32) + (1 : Int32)) = (1 : Int32) by decide]) ?_
  refine own_goto X274 hx hby 41 3 d10_41 (by decide) (by decide) ?_
  refine own_iload X274 hx hby d10_3 rfl ?_
  refine own_iload X274 hx hby d10_5 rfl ?_
  have hc7_275 : (1 : Int32) < (4 : Int32) := by decide
  refine own_icmpNo X274 hx hby d10_7 (tlt hc7_275).2.1 ?_
  refine own_aloadN X274 hx hby d10_10 rfl rfl ?_
  refine own_iloadN X274 hx hby d10_11 rfl ?_
  obtain ⟨cl276, Ar276, qa276, Sa276, Na276, Ha276, Ga276⟩ := id Vc
  have hin276 : ¬ ((1 : Int32) < 0 ∨ cl276.slots.size ≤ ((1 : Int32)).toNatClampNeg) := inb_of Sa276 ⟨by decide, by decide⟩
  have hat276 : cl276.slots[((1 : Int32)).toNatClampNeg]? = some (.int c1) := Has.at Ha276 hin276 rfl
  refine own_of (U' := (T274.setTop (mkF m 13 #[.val (.ref a1), .val (.int (1 : Int32)), .val (.ref a3), .val (.int (1 : Int32)), .val (.int (4 : Int32)), .val (.int (1 : Int32)), .val (.int c0)] [(.int c1)]))) (X274.caload hx (j := (1 : Int32)) (v := (.int c1)) (by rw [e274]; exact Ar276.1) (State.isArrayOf_alike hZ.alike Ar276.2.1) Ar276.2.2 hin276 hat276 (g := (mkF m 12 #[.val (.ref a1), .val (.int (1 : Int32)), .val (.ref a3), .val (.int (1 : Int32)), .val (.int (4 : Int32)), .val (.int (1 : Int32)), .val (.int c0)] [(.int (1 : Int32)), (.ref a1)])) rfl rfl (hb hby d10_12)) ?_
  refine own_istore X274 hx hby d10_13 (l' := #[.val (.ref a1), .val (.int (1 : Int32)), .val (.ref a3), .val (.int (1 : Int32)), .val (.int (4 : Int32)), .val (.int (1 : Int32)), .val (.int c1)]) rfl ?_
  refine own_iload X274 hx hby d10_15 rfl ?_
  refine own_sipush X274 hx hby 255 d10_17 rfl ?_
  have hc20_277 : (255 : Int32) < c1 := hB
  refine own_icmpNo X274 hx hby d10_20 (tlt hc20_277).2.2.2 ?_
  refine own_iload X274 hx hby d10_23 rfl ?_
  exact own_retI X274 hx hlk Bd.returns (hb hby d10_25) (by decide) (by decide) (by rw [e274]; exact ⟨rfl, N274, KK, Vd⟩)
theorem ef_cl4_2 (m : MethodId) (x0 : Addr) (x2 : Addr) : entryFrame m #[(.ref x0), (.int (0 : Int32)), (.ref x2), (.int (0 : Int32)), (.int (4 : Int32))] 7 = mkF m 0 #[.val (.ref x0), .val (.int (0 : Int32)), .val (.ref x2), .val (.int (0 : Int32)), .val (.int (4 : Int32)), .unset, .unset] [] := by first | (simp [entryFrame, mkF, argsToLocals, Value.category]; done) | rfl
def Qcl4_2 (Z : State) (a3 : Addr) (kd : ClassId) (c0 c1 c2 c3 : Int32) (h0 : Heap) (n0 : Nat) (v : Option Value) (h : Heap) (L : List Loc) : Prop := v = some (.int (2 : Int32)) ∧ Fr n0 L ∧ Keep h0 h [a3] ∧ Arv Z h a3 kd .byte (4 : Int32) [(.int (own_b8 c0)), (.int (own_b8 c1)), (.int (0 : Int32)), (.int (0 : Int32))] (.int (0 : Int32))
set_option maxRecDepth 65536 in
set_option maxHeartbeats 40000000 in
theorem rmcl4_2 (l : Launch) (Z : State) (a0 : Array Value) (hw : ∀ d ∈ tables_1, d.before a0 Z = true) (ws : List Jvm.Cond) (a1 a3 : Addr) (kc kd : ClassId) (c0 c1 c2 c3 : Int32) (h0 : Heap) (n0 : Nat) (Z0 : n0 ≤ h0.size) (Vc : Arv Z h0 a1 kc .char (4 : Int32) [(.int c0), (.int c1), (.int c2), (.int c3)] (.int (0 : Int32))) (Vd : Arv Z h0 a3 kd .byte (4 : Int32) [(.int (0 : Int32)), (.int (0 : Int32)), (.int (0 : Int32)), (.int (0 : Int32))] (.int (0 : Int32))) (g_a3 : n0 ≤ a3) (nea : a1 ≠ a3) (hL0 : ¬ ((255 : Int32) < c0)) (hL1 : ¬ ((255 : Int32) < c1)) (hB : (255 : Int32) < c2) :
    MetFree l mN_16 (head1 (Jvm.Cond.code mN_16 jdk_52_method_21_code 7 (some .int) :: ws) ({ frames := 0, cells := 0, slots := 0, locals := 0 } : Room)) (fun a U => a = #[(.ref a1), (.int (0 : Int32)), (.ref a3), (.int (0 : Int32)), (.int (4 : Int32))] ∧ Z.Warmed39 U.vm ∧ U.heap = h0) (fun _ _ _ _ _ => True) (fun _ U o U' => ∃ v L, o = .returned v ∧ (Qcl4_2 Z a3 kd c0 c1 c2 c3 h0 n0) v U'.heap L ∧ FrameEnd U o U' L ({ frames := 0, cells := 0, slots := 0, locals := 0 } : Room).cells ({ frames := 0, cells := 0, slots := 0, locals := 0 } : Room).slots) := by
  refine MetFree.of_bodySF (plainFor_of_name pn_2) hisR ?_
  intro p e s m args below meth c s₁ Bd hml0 hP hK
  obtain ⟨rfl, hZ, hh⟩ := hP
  have hx := Bd.exec
  have hby := Bd.bytes
  have hml : c.maxLocals = 7 := hml0
  have hown : s.vm.findClass "java/lang/StringUTF16" = some m.cls := findClass_of_methodNamed Bd.named
  have hnm := (name_of_methodNamed Bd.named Bd.method).1
  have hlk := Bd.notSynchronized
  have X0 : Stand p l e ({ frames := 0, cells := 0, slots := 0, locals := 0 } : Room) s m #[(.ref a1), (.int (0 : Int32)), (.ref a3), (.int (0 : Int32)), (.int (4 : Int32))] below meth c s₁ [] 0 0 := Stand.of_body Bd
  have e0 : s₁.heap = h0 := by rw [← hh, Bd.state]; rfl
  have N0 := Fr.nil n0
  have KK := Keep.refl h0 [a3]
  show own_Ends p e below s FrameEnd (Qcl4_2 Z a3 kd c0 c1 c2 c3 h0 n0) 0 0 (s₁.setTop (entryFrame m #[(.ref a1), (.int (0 : Int32)), (.ref a3), (.int (0 : Int32)), (.int (4 : Int32))] 7))
  refine own_of (U' := (s₁.setTop (mkF m 0 #[.val (.ref a1), .val (.int (0 : Int32)), .val (.ref a3), .val (.int (0 : Int32)), .val (.int (4 : Int32)), .unset, .unset] []))) (fun _ k => castTop (ef_cl4_2 m a1 a3) k) ?_
  refine own_iconst X0 hx hby 0 d10_0 rfl ?_
  refine own_istore X0 hx hby d10_1 (l' := #[.val (.ref a1), .val (.int (0 : Int32)), .val (.ref a3), .val (.int (0 : Int32)), .val (.int (4 : Int32)), .val (.int (0 : Int32)), .unset]) rfl ?_
  refine own_iload X0 hx hby d10_3 rfl ?_
  refine own_iload X0 hx hby d10_5 rfl ?_
  have hc7_278 : (0 : Int32) < (4 : Int32) := by decide
  refine own_icmpNo X0 hx hby d10_7 (tlt hc7_278).2.1 ?_
  refine own_aloadN X0 hx hby d10_10 rfl rfl ?_
  refine own_iloadN X0 hx hby d10_11 rfl ?_
  obtain ⟨cl279, Ar279, qa279, Sa279, Na279, Ha279, Ga279⟩ := id Vc
  have hin279 : ¬ ((0 : Int32) < 0 ∨ cl279.slots.size ≤ ((0 : Int32)).toNatClampNeg) := inb_of Sa279 ⟨by decide, by decide⟩
  have hat279 : cl279.slots[((0 : Int32)).toNatClampNeg]? = some (.int c0) := Has.at Ha279 hin279 rfl
  refine own_of (U' := (s₁.setTop (mkF m 13 #[.val (.ref a1), .val (.int (0 : Int32)), .val (.ref a3), .val (.int (0 : Int32)), .val (.int (4 : Int32)), .val (.int (0 : Int32)), .unset] [(.int c0)]))) (X0.caload hx (j := (0 : Int32)) (v := (.int c0)) (by rw [e0]; exact Ar279.1) (State.isArrayOf_alike hZ.alike Ar279.2.1) Ar279.2.2 hin279 hat279 (g := (mkF m 12 #[.val (.ref a1), .val (.int (0 : Int32)), .val (.ref a3), .val (.int (0 : Int32)), .val (.int (4 : Int32)), .val (.int (0 : Int32)), .unset] [(.int (0 : Int32)), (.ref a1)])) rfl rfl (hb hby d10_12)) ?_
  refine own_istore X0 hx hby d10_13 (l' := #[.val (.ref a1), .val (.int (0 : Int32)), .val (.ref a3), .val (.int (0 : Int32)), .val (.int (4 : Int32)), .val (.int (0 : Int32)), .val (.int c0)]) rfl ?_
  refine own_iload X0 hx hby d10_15 rfl ?_
  refine own_sipush X0 hx hby 255 d10_17 rfl ?_
  have hc20_280 : ¬ ((255 : Int32) < c0) := hL0
  refine own_icmpYes X0 hx hby 20 26 d10_20 (flt hc20_280).2.2.2 (by decide) (by decide) ?_
  refine own_aloadN X0 hx hby d10_26 rfl rfl ?_
  refine own_iloadN X0 hx hby d10_27 rfl ?_
  refine own_iload X0 hx hby d10_28 rfl ?_
  refine own_i2b X0 hx hby d10_30 ?_
  obtain ⟨cl281, Ar281, qa281, Sa281, Na281, Ha281, Ga281⟩ := Vd
  have hin281 : ¬ ((0 : Int32) < 0 ∨ cl281.slots.size ≤ ((0 : Int32)).toNatClampNeg) := inb_of Sa281 ⟨by decide, by decide⟩
  obtain ⟨T281, h281, X281, e281, W281, st281⟩ := stB X0 hx hZ e0 Ar281 (j := (0 : Int32)) hin281 (g := (mkF m 31 #[.val (.ref a1), .val (.int (0 : Int32)), .val (.ref a3), .val (.int (0 : Int32)), .val (.int (4 : Int32)), .val (.int (0 : Int32)), .val (.int c0)] [(.int (c0.toInt8.toInt32)), (.int (0 : Int32)), (.ref a3)])) rfl rfl (hb hby d10_31)
  replace Vd : Arv Z h281 a3 kd .byte (4 : Int32) [(.int (nar .byte (c0.toInt8.toInt32))), (.int (0 : Int32)), (.int (0 : Int32)), (.int (0 : Int32))] (.int (0 : Int32)) := Arv.set Ar281 qa281 Sa281 Na281 Ha281 Ga281 (fits_nar_byte _) W281 0 rfl (Nat.le_of_ble_eq_true rfl)
  replace Z0 := Nat.le_trans Z0 (Keep.of_wr W281).1
  replace Vc := Vc.other W281 nea
  replace KK := KK.wr W281 (Or.inl (List.mem_of_getElem? (i := 0) rfl))
  have N281 := Fr.snoc X281 N0 g_a3
  refine own_of (U' := (T281.setTop (mkF m 32 #[.val (.ref a1), .val (.int (0 : Int32)), .val (.ref a3), .val (.int (0 : Int32)), .val (.int (4 : Int32)), .val (.int (0 : Int32)), .val (.int c0)] []))) (st281) ?_
  refine own_iinc X281 hx hby d10_32 rfl (l' := #[.val (.ref a1), .val (.int ((0 : Int32) + (1 : Int32))), .val (.ref a3), .val (.int (0 : Int32)), .val (.int (4 : Int32)), .val (.int (0 : Int32)), .val (.int c0)]) rfl ?_
  refine own_eq (U' := (T281.setTop (mkF m 35 #[.val (.ref a1), .val (.int (1 : Int32)), .val (.ref a3), .val (.int (0 : Int32)), .val (.int (4 : Int32)), .val (.int (0 : Int32)), .val (.int c0)] []))) (by rw [show ((0 : Int32) + (1 : Int32)) = (1 : Int32) by decide]) ?_
  refine own_iinc X281 hx hby d10_35 rfl (l' := #[.val (.ref a1), .val (.int (1 : Int32)), .val (.ref a3), .val (.int ((0 : Int32) + (1 : Int32))), .val (.int (4 : Int32)), .val (.int (0 : Int32)), .val (.int c0)]) rfl ?_
  refine own_eq (U' := (T281.setTop (mkF m 38 #[.val (.ref a1), .val (.int (1 : Int32)), .val (.ref a3), .val (.int (1 : Int32)), .val (.int (4 : Int32)), .val (.int (0 : Int32)), .val (.int c0)] []))) (by rw [show ((0 : Int32) + (1 : Int32)) = (1 : Int32) by decide]) ?_
  refine own_iinc X281 hx hby d10_38 rfl (l' := #[.val (.ref a1), .val (.int (1 : Int32)), .val (.ref a3), .val (.int (1 : Int32)), .val (.int (4 : Int32)), .val (.int ((0 : Int32) + (1 : Int32))), .val (.int c0)]) rfl ?_
  refine own_eq (U' := (T281.setTop (mkF m 41 #[.val (.ref a1), .val (.int (1 : Int32)), .val (.ref a3), .val (.int (1 : Int32)), .val (.int (4 : Int32)), .val (.int (1 : Int32)), .val (.int c0)] []))) (by rw [show ((0 : Int32) + (1 : Int32)) = (1 : Int32) by decide]) ?_
  refine own_goto X281 hx hby 41 3 d10_41 (by decide) (by decide) ?_
  refine own_iload X281 hx hby d10_3 rfl ?_
  refine own_iload X281 hx hby d10_5 rfl ?_
  have hc7_282 : (1 : Int32) < (4 : Int32) := by decide
  refine own_icmpNo X281 hx hby d10_7 (tlt hc7_282).2.1 ?_
  refine own_aloadN X281 hx hby d10_10 rfl rfl ?_
  refine own_iloadN X281 hx hby d10_11 rfl ?_
  obtain ⟨cl283, Ar283, qa283, Sa283, Na283, Ha283, Ga283⟩ := id Vc
  have hin283 : ¬ ((1 : Int32) < 0 ∨ cl283.slots.size ≤ ((1 : Int32)).toNatClampNeg) := inb_of Sa283 ⟨by decide, by decide⟩
  have hat283 : cl283.slots[((1 : Int32)).toNatClampNeg]? = some (.int c1) := Has.at Ha283 hin283 rfl
  refine own_of (U' := (T281.setTop (mkF m 13 #[.val (.ref a1), .val (.int (1 : Int32)), .val (.ref a3), .val (.int (1 : Int32)), .val (.int (4 : Int32)), .val (.int (1 : Int32)), .val (.int c0)] [(.int c1)]))) (X281.caload hx (j := (1 : Int32)) (v := (.int c1)) (by rw [e281]; exact Ar283.1) (State.isArrayOf_alike hZ.alike Ar283.2.1) Ar283.2.2 hin283 hat283 (g := (mkF m 12 #[.val (.ref a1), .val (.int (1 : Int32)), .val (.ref a3), .val (.int (1 : Int32)), .val (.int (4 : Int32)), .val (.int (1 : Int32)), .val (.int c0)] [(.int (1 : Int32)), (.ref a1)])) rfl rfl (hb hby d10_12)) ?_
  refine own_istore X281 hx hby d10_13 (l' := #[.val (.ref a1), .val (.int (1 : Int32)), .val (.ref a3), .val (.int (1 : Int32)), .val (.int (4 : Int32)), .val (.int (1 : Int32)), .val (.int c1)]) rfl ?_
  refine own_iload X281 hx hby d10_15 rfl ?_
  refine own_sipush X281 hx hby 255 d10_17 rfl ?_
  have hc20_284 : ¬ ((255 : Int32) < c1) := hL1
  refine own_icmpYes X281 hx hby 20 26 d10_20 (flt hc20_284).2.2.2 (by decide) (by decide) ?_
  refine own_aloadN X281 hx hby d10_26 rfl rfl ?_
  refine own_iloadN X281 hx hby d10_27 rfl ?_
  refine own_iload X281 hx hby d10_28 rfl ?_
  refine own_i2b X281 hx hby d10_30 ?_
  obtain ⟨cl285, Ar285, qa285, Sa285, Na285, Ha285, Ga285⟩ := Vd
  have hin285 : ¬ ((1 : Int32) < 0 ∨ cl285.slots.size ≤ ((1 : Int32)).toNatClampNeg) := inb_of Sa285 ⟨by decide, by decide⟩
  obtain ⟨T285, h285, X285, e285, W285, st285⟩ := stB X281 hx hZ e281 Ar285 (j := (1 : Int32)) hin285 (g := (mkF m 31 #[.val (.ref a1), .val (.int (1 : Int32)), .val (.ref a3), .val (.int (1 : Int32)), .val (.int (4 : Int32)), .val (.int (1 : Int32)), .val (.int c1)] [(.int (c1.toInt8.toInt32)), (.int (1 : Int32)), (.ref a3)])) rfl rfl (hb hby d10_31)
  replace Vd : Arv Z h285 a3 kd .byte (4 : Int32) [(.int (nar .byte (c0.toInt8.toInt32))), (.int (nar .byte (c1.toInt8.toInt32))), (.int (0 : Int32)), (.int (0 : Int32))] (.int (0 : Int32)) := Arv.set Ar285 qa285 Sa285 Na285 Ha285 Ga285 (fits_nar_byte _) W285 1 rfl (Nat.le_of_ble_eq_true rfl)
  replace Z0 := Nat.le_trans Z0 (Keep.of_wr W285).1
  replace Vc := Vc.other W285 nea
  replace KK := KK.wr W285 (Or.inl (List.mem_of_getElem? (i := 0) rfl))
  have N285 := Fr.snoc X285 N281 g_a3
  refine own_of (U' := (T285.setTop (mkF m 32 #[.val (.ref a1), .val (.int (1 : Int32)), .val (.ref a3), .val (.int (1 : Int32)), .val (.int (4 : Int32)), .val (.int (1 : Int32)), .val (.int c1)] []))) (st285) ?_
  refine own_iinc X285 hx hby d10_32 rfl (l' := #[.val (.ref a1), .val (.int ((1 : Int32) + (1 : Int32))), .val (.ref a3), .val (.int (1 : Int32)), .val (.int (4 : Int32)), .val (.int (1 : Int32)), .val (.int c1)]) rfl ?_
  refine own_eq (U' := (T285.setTop (mkF m 35 #[.val (.ref a1), .val (.int (2 : Int32)), .val (.ref a3), .val (.int (1 : Int32)), .val (.int (4 : Int32)), .val (.int (1 : Int32)), .val (.int c1)] []))) (by rw [show ((1 : Int32) + (1 : Int32)) = (2 : Int32) by decide]) ?_
  refine own_iinc X285 hx hby d10_35 rfl (l' := #[.val (.ref a1), .val (.int (2 : Int32)), .val (.ref a3), .val (.int ((1 : Int32) + (1 : Int32))), .val (.int (4 : Int32)), .val (.int (1 : Int32)), .val (.int c1)]) rfl ?_
  refine own_eq (U' := (T285.setTop (mkF m 38 #[.val (.ref a1), .val (.int (2 : Int32)), .val (.ref a3), .val (.int (2 : Int32)), .val (.int (4 : Int32)), .val (.int (1 : Int32)), .val (.int c1)] []))) (by rw [show ((1 : Int32) + (1 : Int32)) = (2 : Int32) by decide]) ?_
  refine own_iinc X285 hx hby d10_38 rfl (l' := #[.val (.ref a1), .val (.int (2 : Int32)), .val (.ref a3), .val (.int (2 : Int32)), .val (.int (4 : Int32)), .val (.int ((1 : Int32) + (1 : Int32))), .val (.int c1)]) rfl ?_
  refine own_eq (U' := (T285.setTop (mkF m 41 #[.val (.ref a1), .val (.int (2 : Int32)), .val (.ref a3), .val (.int (2 : Int32)), .val (.int (4 : Int32)), .val (.int (2 : Int32)), .val (.int c1)] []))) (by rw [show ((1 : Int32) + (1 : Int32)) = (2 : Int32) by decide]) ?_
  refine own_goto X285 hx hby 41 3 d10_41 (by decide) (by decide) ?_
  refine own_iload X285 hx hby d10_3 rfl ?_
  refine own_iload X285 hx hby d10_5 rfl ?_
  have hc7_286 : (2 : Int32) < (4 : Int32) := by decide
  refine own_icmpNo X285 hx hby d10_7 (tlt hc7_286).2.1 ?_
  refine own_aloadN X285 hx hby d10_10 rfl rfl ?_
  refine own_iloadN X285 hx hby d10_11 rfl ?_
  obtain ⟨cl287, Ar287, qa287, Sa287, Na287, Ha287, Ga287⟩ := id Vc
  have hin287 : ¬ ((2 : Int32) < 0 ∨ cl287.slots.size ≤ ((2 : Int32)).toNatClampNeg) := inb_of Sa287 ⟨by decide, by decide⟩
  have hat287 : cl287.slots[((2 : Int32)).toNatClampNeg]? = some (.int c2) := Has.at Ha287 hin287 rfl
  refine own_of (U' := (T285.setTop (mkF m 13 #[.val (.ref a1), .val (.int (2 : Int32)), .val (.ref a3), .val (.int (2 : Int32)), .val (.int (4 : Int32)), .val (.int (2 : Int32)), .val (.int c1)] [(.int c2)]))) (X285.caload hx (j := (2 : Int32)) (v := (.int c2)) (by rw [e285]; exact Ar287.1) (State.isArrayOf_alike hZ.alike Ar287.2.1) Ar287.2.2 hin287 hat287 (g := (mkF m 12 #[.val (.ref a1), .val (.int (2 : Int32)), .val (.ref a3), .val (.int (2 : Int32)), .val (.int (4 : Int32)), .val (.int (2 : Int32)), .val (.int c1)] [(.int (2 : Int32)), (.ref a1)])) rfl rfl (hb hby d10_12)) ?_
  refine own_istore X285 hx hby d10_13 (l' := #[.val (.ref a1), .val (.int (2 : Int32)), .val (.ref a3), .val (.int (2 : Int32)), .val (.int (4 : Int32)), .val (.int (2 : Int32)), .val (.int c2)]) rfl ?_
  refine own_iload X285 hx hby d10_15 rfl ?_
  refine own_sipush X285 hx hby 255 d10_17 rfl ?_
  have hc20_288 : (255 : Int32) < c2 := hB
  refine own_icmpNo X285 hx hby d10_20 (tlt hc20_288).2.2.2 ?_
  refine own_iload X285 hx hby d10_23 rfl ?_
  exact own_retI X285 hx hlk Bd.returns (hb hby d10_25) (by decide) (by decide) (by rw [e285]; exact ⟨rfl, N285, KK, Vd⟩)
theorem ef_cl4_3 (m : MethodId) (x0 : Addr) (x2 : Addr) : entryFrame m #[(.ref x0), (.int (0 : Int32)), (.ref x2), (.int (0 : Int32)), (.int (4 : Int32))] 7 = mkF m 0 #[.val (.ref x0), .val (.int (0 : Int32)), .val (.ref x2), .val (.int (0 : Int32)), .val (.int (4 : Int32)), .unset, .unset] [] := by first | (simp [entryFrame, mkF, argsToLocals, Value.category]; done) | rfl
def Qcl4_3 (Z : State) (a3 : Addr) (kd : ClassId) (c0 c1 c2 c3 : Int32) (h0 : Heap) (n0 : Nat) (v : Option Value) (h : Heap) (L : List Loc) : Prop := v = some (.int (3 : Int32)) ∧ Fr n0 L ∧ Keep h0 h [a3] ∧ Arv Z h a3 kd .byte (4 : Int32) [(.int (own_b8 c0)), (.int (own_b8 c1)), (.int (own_b8 c2)), (.int (0 : Int32))] (.int (0 : Int32))
set_option maxRecDepth 65536 in
set_option maxHeartbeats 40000000 in
theorem rmcl4_3 (l : Launch) (Z : State) (a0 : Array Value) (hw : ∀ d ∈ tables_1, d.before a0 Z = true) (ws : List Jvm.Cond) (a1 a3 : Addr) (kc kd : ClassId) (c0 c1 c2 c3 : Int32) (h0 : Heap) (n0 : Nat) (Z0 : n0 ≤ h0.size) (Vc : Arv Z h0 a1 kc .char (4 : Int32) [(.int c0), (.int c1), (.int c2), (.int c3)] (.int (0 : Int32))) (Vd : Arv Z h0 a3 kd .byte (4 : Int32) [(.int (0 : Int32)), (.int (0 : Int32)), (.int (0 : Int32)), (.int (0 : Int32))] (.int (0 : Int32))) (g_a3 : n0 ≤ a3) (nea : a1 ≠ a3) (hL0 : ¬ ((255 : Int32) < c0)) (hL1 : ¬ ((255 : Int32) < c1)) (hL2 : ¬ ((255 : Int32) < c2)) (hB : (255 : Int32) < c3) :
    MetFree l mN_16 (head1 (Jvm.Cond.code mN_16 jdk_52_method_21_code 7 (some .int) :: ws) ({ frames := 0, cells := 0, slots := 0, locals := 0 } : Room)) (fun a U => a = #[(.ref a1), (.int (0 : Int32)), (.ref a3), (.int (0 : Int32)), (.int (4 : Int32))] ∧ Z.Warmed39 U.vm ∧ U.heap = h0) (fun _ _ _ _ _ => True) (fun _ U o U' => ∃ v L, o = .returned v ∧ (Qcl4_3 Z a3 kd c0 c1 c2 c3 h0 n0) v U'.heap L ∧ FrameEnd U o U' L ({ frames := 0, cells := 0, slots := 0, locals := 0 } : Room).cells ({ frames := 0, cells := 0, slots := 0, locals := 0 } : Room).slots) := by
  refine MetFree.of_bodySF (plainFor_of_name pn_2) hisR ?_
  intro p e s m args below meth c s₁ Bd hml0 hP hK
  obtain ⟨rfl, hZ, hh⟩ := hP
  have hx := Bd.exec
  have hby := Bd.bytes
  have hml : c.maxLocals = 7 := hml0
  have hown : s.vm.findClass "java/lang/StringUTF16" = some m.cls := findClass_of_methodNamed Bd.named
  have hnm := (name_of_methodNamed Bd.named Bd.method).1
  have hlk := Bd.notSynchronized
  have X0 : Stand p l e ({ frames := 0, cells := 0, slots := 0, locals := 0 } : Room) s m #[(.ref a1), (.int (0 : Int32)), (.ref a3), (.int (0 : Int32)), (.int (4 : Int32))] below meth c s₁ [] 0 0 := Stand.of_body Bd
  have e0 : s₁.heap = h0 := by rw [← hh, Bd.state]; rfl
  have N0 := Fr.nil n0
  have KK := Keep.refl h0 [a3]
  show own_Ends p e below s FrameEnd (Qcl4_3 Z a3 kd c0 c1 c2 c3 h0 n0) 0 0 (s₁.setTop (entryFrame m #[(.ref a1), (.int (0 : Int32)), (.ref a3), (.int (0 : Int32)), (.int (4 : Int32))] 7))
  refine own_of (U' := (s₁.setTop (mkF m 0 #[.val (.ref a1), .val (.int (0 : Int32)), .val (.ref a3), .val (.int (0 : Int32)), .val (.int (4 : Int32)), .unset, .unset] []))) (fun _ k => castTop (ef_cl4_3 m a1 a3) k) ?_
  refine own_iconst X0 hx hby 0 d10_0 rfl ?_
  refine own_istore X0 hx hby d10_1 (l' := #[.val (.ref a1), .val (.int (0 : Int32)), .val (.ref a3), .val (.int (0 : Int32)), .val (.int (4 : Int32)), .val (.int (0 : Int32)), .unset]) rfl ?_
  refine own_iload X0 hx hby d10_3 rfl ?_
  refine own_iload X0 hx hby d10_5 rfl ?_
  have hc7_289 : (0 : Int32) < (4 : Int32) := by decide
  refine own_icmpNo X0 hx hby d10_7 (tlt hc7_289).2.1 ?_
  refine own_aloadN X0 hx hby d10_10 rfl rfl ?_
  refine own_iloadN X0 hx hby d10_11 rfl ?_
  obtain ⟨cl290, Ar290, qa290, Sa290, Na290, Ha290, Ga290⟩ := id Vc
  have hin290 : ¬ ((0 : Int32) < 0 ∨ cl290.slots.size ≤ ((0 : Int32)).toNatClampNeg) := inb_of Sa290 ⟨by decide, by decide⟩
  have hat290 : cl290.slots[((0 : Int32)).toNatClampNeg]? = some (.int c0) := Has.at Ha290 hin290 rfl
  refine own_of (U' := (s₁.setTop (mkF m 13 #[.val (.ref a1), .val (.int (0 : Int32)), .val (.ref a3), .val (.int (0 : Int32)), .val (.int (4 : Int32)), .val (.int (0 : Int32)), .unset] [(.int c0)]))) (X0.caload hx (j := (0 : Int32)) (v := (.int c0)) (by rw [e0]; exact Ar290.1) (State.isArrayOf_alike hZ.alike Ar290.2.1) Ar290.2.2 hin290 hat290 (g := (mkF m 12 #[.val (.ref a1), .val (.int (0 : Int32)), .val (.ref a3), .val (.int (0 : Int32)), .val (.int (4 : Int32)), .val (.int (0 : Int32)), .unset] [(.int (0 : Int32)), (.ref a1)])) rfl rfl (hb hby d10_12)) ?_
  refine own_istore X0 hx hby d10_13 (l' := #[.val (.ref a1), .val (.int (0 : Int32)), .val (.ref a3), .val (.int (0 : Int32)), .val (.int (4 : Int32)), .val (.int (0 : Int32)), .val (.int c0)]) rfl ?_
  refine own_iload X0 hx hby d10_15 rfl ?_
  refine own_sipush X0 hx hby 255 d10_17 rfl ?_
  have hc20_291 : ¬ ((255 : Int32) < c0) := hL0
  refine own_icmpYes X0 hx hby 20 26 d10_20 (flt hc20_291).2.2.2 (by decide) (by decide) ?_
  refine own_aloadN X0 hx hby d10_26 rfl rfl ?_
  refine own_iloadN X0 hx hby d10_27 rfl ?_
  refine own_iload X0 hx hby d10_28 rfl ?_
  refine own_i2b X0 hx hby d10_30 ?_
  obtain ⟨cl292, Ar292, qa292, Sa292, Na292, Ha292, Ga292⟩ := Vd
  have hin292 : ¬ ((0 : Int32) < 0 ∨ cl292.slots.size ≤ ((0 : Int32)).toNatClampNeg) := inb_of Sa292 ⟨by decide, by decide⟩
  obtain ⟨T292, h292, X292, e292, W292, st292⟩ := stB X0 hx hZ e0 Ar292 (j := (0 : Int32)) hin292 (g := (mkF m 31 #[.val (.ref a1), .val (.int (0 : Int32)), .val (.ref a3), .val (.int (0 : Int32)), .val (.int (4 : Int32)), .val (.int (0 : Int32)), .val (.int c0)] [(.int (c0.toInt8.toInt32)), (.int (0 : Int32)), (.ref a3)])) rfl rfl (hb hby d10_31)
  replace Vd : Arv Z h292 a3 kd .byte (4 : Int32) [(.int (nar .byte (c0.toInt8.toInt32))), (.int (0 : Int32)), (.int (0 : Int32)), (.int (0 : Int32))] (.int (0 : Int32)) := Arv.set Ar292 qa292 Sa292 Na292 Ha292 Ga292 (fits_nar_byte _) W292 0 rfl (Nat.le_of_ble_eq_true rfl)
  replace Z0 := Nat.le_trans Z0 (Keep.of_wr W292).1
  replace Vc := Vc.other W292 nea
  replace KK := KK.wr W292 (Or.inl (List.mem_of_getElem? (i := 0) rfl))
  have N292 := Fr.snoc X292 N0 g_a3
  refine own_of (U' := (T292.setTop (mkF m 32 #[.val (.ref a1), .val (.int (0 : Int32)), .val (.ref a3), .val (.int (0 : Int32)), .val (.int (4 : Int32)), .val (.int (0 : Int32)), .val (.int c0)] []))) (st292) ?_
  refine own_iinc X292 hx hby d10_32 rfl (l' := #[.val (.ref a1), .val (.int ((0 : Int32) + (1 : Int32))), .val (.ref a3), .val (.int (0 : Int32)), .val (.int (4 : Int32)), .val (.int (0 : Int32)), .val (.int c0)]) rfl ?_
  refine own_eq (U' := (T292.setTop (mkF m 35 #[.val (.ref a1), .val (.int (1 : Int32)), .val (.ref a3), .val (.int (0 : Int32)), .val (.int (4 : Int32)), .val (.int (0 : Int32)), .val (.int c0)] []))) (by rw [show ((0 : Int32) + (1 : Int32)) = (1 : Int32) by decide]) ?_
  refine own_iinc X292 hx hby d10_35 rfl (l' := #[.val (.ref a1), .val (.int (1 : Int32)), .val (.ref a3), .val (.int ((0 : Int32) + (1 : Int32))), .val (.int (4 : Int32)), .val (.int (0 : Int32)), .val (.int c0)]) rfl ?_
  refine own_eq (U' := (T292.setTop (mkF m 38 #[.val (.ref a1), .val (.int (1 : Int32)), .val (.ref a3), .val (.int (1 : Int32)), .val (.int (4 : Int32)), .val (.int (0 : Int32)), .val (.int c0)] []))) (by rw [show ((0 : Int32) + (1 : Int32)) = (1 : Int32) by decide]) ?_
  refine own_iinc X292 hx hby d10_38 rfl (l' := #[.val (.ref a1), .val (.int (1 : Int32)), .val (.ref a3), .val (.int (1 : Int32)), .val (.int (4 : Int32)), .val (.int ((0 : Int32) + (1 : Int32))), .val (.int c0)]) rfl ?_
  refine own_eq (U' := (T292.setTop (mkF m 41 #[.val (.ref a1), .val (.int (1 : Int32)), .val (.ref a3), .val (.int (1 : Int32)), .val (.int (4 : Int32)), .val (.int (1 : Int32)), .val (.int c0)] []))) (by rw [show ((0 : Int32) + (1 : Int32)) = (1 : Int32) by decide]) ?_
  refine own_goto X292 hx hby 41 3 d10_41 (by decide) (by decide) ?_
  refine own_iload X292 hx hby d10_3 rfl ?_
  refine own_iload X292 hx hby d10_5 rfl ?_
  have hc7_293 : (1 : Int32) < (4 : Int32) := by decide
  refine own_icmpNo X292 hx hby d10_7 (tlt hc7_293).2.1 ?_
  refine own_aloadN X292 hx hby d10_10 rfl rfl ?_
  refine own_iloadN X292 hx hby d10_11 rfl ?_
  obtain ⟨cl294, Ar294, qa294, Sa294, Na294, Ha294, Ga294⟩ := id Vc
  have hin294 : ¬ ((1 : Int32) < 0 ∨ cl294.slots.size ≤ ((1 : Int32)).toNatClampNeg) := inb_of Sa294 ⟨by decide, by decide⟩
  have hat294 : cl294.slots[((1 : Int32)).toNatClampNeg]? = some (.int c1) := Has.at Ha294 hin294 rfl
  refine own_of (U' := (T292.setTop (mkF m 13 #[.val (.ref a1), .val (.int (1 : Int32)), .val (.ref a3), .val (.int (1 : Int32)), .val (.int (4 : Int32)), .val (.int (1 : Int32)), .val (.int c0)] [(.int c1)]))) (X292.caload hx (j := (1 : Int32)) (v := (.int c1)) (by rw [e292]; exact Ar294.1) (State.isArrayOf_alike hZ.alike Ar294.2.1) Ar294.2.2 hin294 hat294 (g := (mkF m 12 #[.val (.ref a1), .val (.int (1 : Int32)), .val (.ref a3), .val (.int (1 : Int32)), .val (.int (4 : Int32)), .val (.int (1 : Int32)), .val (.int c0)] [(.int (1 : Int32)), (.ref a1)])) rfl rfl (hb hby d10_12)) ?_
  refine own_istore X292 hx hby d10_13 (l' := #[.val (.ref a1), .val (.int (1 : Int32)), .val (.ref a3), .val (.int (1 : Int32)), .val (.int (4 : Int32)), .val (.int (1 : Int32)), .val (.int c1)]) rfl ?_
  refine own_iload X292 hx hby d10_15 rfl ?_
  refine own_sipush X292 hx hby 255 d10_17 rfl ?_
  have hc20_295 : ¬ ((255 : Int32) < c1) := hL1
  refine own_icmpYes X292 hx hby 20 26 d10_20 (flt hc20_295).2.2.2 (by decide) (by decide) ?_
  refine own_aloadN X292 hx hby d10_26 rfl rfl ?_
  refine own_iloadN X292 hx hby d10_27 rfl ?_
  refine own_iload X292 hx hby d10_28 rfl ?_
  refine own_i2b X292 hx hby d10_30 ?_
  obtain ⟨cl296, Ar296, qa296, Sa296, Na296, Ha296, Ga296⟩ := Vd
  have hin296 : ¬ ((1 : Int32) < 0 ∨ cl296.slots.size ≤ ((1 : Int32)).toNatClampNeg) := inb_of Sa296 ⟨by decide, by decide⟩
  obtain ⟨T296, h296, X296, e296, W296, st296⟩ := stB X292 hx hZ e292 Ar296 (j := (1 : Int32)) hin296 (g := (mkF m 31 #[.val (.ref a1), .val (.int (1 : Int32)), .val (.ref a3), .val (.int (1 : Int32)), .val (.int (4 : Int32)), .val (.int (1 : Int32)), .val (.int c1)] [(.int (c1.toInt8.toInt32)), (.int (1 : Int32)), (.ref a3)])) rfl rfl (hb hby d10_31)
  replace Vd : Arv Z h296 a3 kd .byte (4 : Int32) [(.int (nar .byte (c0.toInt8.toInt32))), (.int (nar .byte (c1.toInt8.toInt32))), (.int (0 : Int32)), (.int (0 : Int32))] (.int (0 : Int32)) := Arv.set Ar296 qa296 Sa296 Na296 Ha296 Ga296 (fits_nar_byte _) W296 1 rfl (Nat.le_of_ble_eq_true rfl)
  replace Z0 := Nat.le_trans Z0 (Keep.of_wr W296).1
  replace Vc := Vc.other W296 nea
  replace KK := KK.wr W296 (Or.inl (List.mem_of_getElem? (i := 0) rfl))
  have N296 := Fr.snoc X296 N292 g_a3
  refine own_of (U' := (T296.setTop (mkF m 32 #[.val (.ref a1), .val (.int (1 : Int32)), .val (.ref a3), .val (.int (1 : Int32)), .val (.int (4 : Int32)), .val (.int (1 : Int32)), .val (.int c1)] []))) (st296) ?_
  refine own_iinc X296 hx hby d10_32 rfl (l' := #[.val (.ref a1), .val (.int ((1 : Int32) + (1 : Int32))), .val (.ref a3), .val (.int (1 : Int32)), .val (.int (4 : Int32)), .val (.int (1 : Int32)), .val (.int c1)]) rfl ?_
  refine own_eq (U' := (T296.setTop (mkF m 35 #[.val (.ref a1), .val (.int (2 : Int32)), .val (.ref a3), .val (.int (1 : Int32)), .val (.int (4 : Int32)), .val (.int (1 : Int32)), .val (.int c1)] []))) (by rw [show ((1 : Int32) + (1 : Int32)) = (2 : Int32) by decide]) ?_
  refine own_iinc X296 hx hby d10_35 rfl (l' := #[.val (.ref a1), .val (.int (2 : Int32)), .val (.ref a3), .val (.int ((1 : Int32) + (1 : Int32))), .val (.int (4 : Int32)), .val (.int (1 : Int32)), .val (.int c1)]) rfl ?_
  refine own_eq (U' := (T296.setTop (mkF m 38 #[.val (.ref a1), .val (.int (2 : Int32)), .val (.ref a3), .val (.int (2 : Int32)), .val (.int (4 : Int32)), .val (.int (1 : Int32)), .val (.int c1)] []))) (by rw [show ((1 : Int32) + (1 : Int32)) = (2 : Int32) by decide]) ?_
  refine own_iinc X296 hx hby d10_38 rfl (l' := #[.val (.ref a1), .val (.int (2 : Int32)), .val (.ref a3), .val (.int (2 : Int32)), .val (.int (4 : Int32)), .val (.int ((1 : Int32) + (1 : Int32))), .val (.int c1)]) rfl ?_
  refine own_eq (U' := (T296.setTop (mkF m 41 #[.val (.ref a1), .val (.int (2 : Int32)), .val (.ref a3), .val (.int (2 : Int32)), .val (.int (4 : Int32)), .val (.int (2 : Int32)), .val (.int c1)] []))) (by rw [show ((1 : Int32) + (1 : Int32)) = (2 : Int32) by decide]) ?_
  refine own_goto X296 hx hby 41 3 d10_41 (by decide) (by decide) ?_
  refine own_iload X296 hx hby d10_3 rfl ?_
  refine own_iload X296 hx hby d10_5 rfl ?_
  have hc7_297 : (2 : Int32) < (4 : Int32) := by decide
  refine own_icmpNo X296 hx hby d10_7 (tlt hc7_297).2.1 ?_
  refine own_aloadN X296 hx hby d10_10 rfl rfl ?_
  refine own_iloadN X296 hx hby d10_11 rfl ?_
  obtain ⟨cl298, Ar298, qa298, Sa298, Na298, Ha298, Ga298⟩ := id Vc
  have hin298 : ¬ ((2 : Int32) < 0 ∨ cl298.slots.size ≤ ((2 : Int32)).toNatClampNeg) := inb_of Sa298 ⟨by decide, by decide⟩
  have hat298 : cl298.slots[((2 : Int32)).toNatClampNeg]? = some (.int c2) := Has.at Ha298 hin298 rfl
  refine own_of (U' := (T296.setTop (mkF m 13 #[.val (.ref a1), .val (.int (2 : Int32)), .val (.ref a3), .val (.int (2 : Int32)), .val (.int (4 : Int32)), .val (.int (2 : Int32)), .val (.int c1)] [(.int c2)]))) (X296.caload hx (j := (2 : Int32)) (v := (.int c2)) (by rw [e296]; exact Ar298.1) (State.isArrayOf_alike hZ.alike Ar298.2.1) Ar298.2.2 hin298 hat298 (g := (mkF m 12 #[.val (.ref a1), .val (.int (2 : Int32)), .val (.ref a3), .val (.int (2 : Int32)), .val (.int (4 : Int32)), .val (.int (2 : Int32)), .val (.int c1)] [(.int (2 : Int32)), (.ref a1)])) rfl rfl (hb hby d10_12)) ?_
  refine own_istore X296 hx hby d10_13 (l' := #[.val (.ref a1), .val (.int (2 : Int32)), .val (.ref a3), .val (.int (2 : Int32)), .val (.int (4 : Int32)), .val (.int (2 : Int32)), .val (.int c2)]) rfl ?_
  refine own_iload X296 hx hby d10_15 rfl ?_
  refine own_sipush X296 hx hby 255 d10_17 rfl ?_
  have hc20_299 : ¬ ((255 : Int32) < c2) := hL2
  refine own_icmpYes X296 hx hby 20 26 d10_20 (flt hc20_299).2.2.2 (by decide) (by decide) ?_
  refine own_aloadN X296 hx hby d10_26 rfl rfl ?_
  refine own_iloadN X296 hx hby d10_27 rfl ?_
  refine own_iload X296 hx hby d10_28 rfl ?_
  refine own_i2b X296 hx hby d10_30 ?_
  obtain ⟨cl300, Ar300, qa300, Sa300, Na300, Ha300, Ga300⟩ := Vd
  have hin300 : ¬ ((2 : Int32) < 0 ∨ cl300.slots.size ≤ ((2 : Int32)).toNatClampNeg) := inb_of Sa300 ⟨by decide, by decide⟩
  obtain ⟨T300, h300, X300, e300, W300, st300⟩ := stB X296 hx hZ e296 Ar300 (j := (2 : Int32)) hin300 (g := (mkF m 31 #[.val (.ref a1), .val (.int (2 : Int32)), .val (.ref a3), .val (.int (2 : Int32)), .val (.int (4 : Int32)), .val (.int (2 : Int32)), .val (.int c2)] [(.int (c2.toInt8.toInt32)), (.int (2 : Int32)), (.ref a3)])) rfl rfl (hb hby d10_31)
  replace Vd : Arv Z h300 a3 kd .byte (4 : Int32) [(.int (nar .byte (c0.toInt8.toInt32))), (.int (nar .byte (c1.toInt8.toInt32))), (.int (nar .byte (c2.toInt8.toInt32))), (.int (0 : Int32))] (.int (0 : Int32)) := Arv.set Ar300 qa300 Sa300 Na300 Ha300 Ga300 (fits_nar_byte _) W300 2 rfl (Nat.le_of_ble_eq_true rfl)
  replace Z0 := Nat.le_trans Z0 (Keep.of_wr W300).1
  replace Vc := Vc.other W300 nea
  replace KK := KK.wr W300 (Or.inl (List.mem_of_getElem? (i := 0) rfl))
  have N300 := Fr.snoc X300 N296 g_a3
  refine own_of (U' := (T300.setTop (mkF m 32 #[.val (.ref a1), .val (.int (2 : Int32)), .val (.ref a3), .val (.int (2 : Int32)), .val (.int (4 : Int32)), .val (.int (2 : Int32)), .val (.int c2)] []))) (st300) ?_
  refine own_iinc X300 hx hby d10_32 rfl (l' := #[.val (.ref a1), .val (.int ((2 : Int32) + (1 : Int32))), .val (.ref a3), .val (.int (2 : Int32)), .val (.int (4 : Int32)), .val (.int (2 : Int32)), .val (.int c2)]) rfl ?_
  refine own_eq (U' := (T300.setTop (mkF m 35 #[.val (.ref a1), .val (.int (3 : Int32)), .val (.ref a3), .val (.int (2 : Int32)), .val (.int (4 : Int32)), .val (.int (2 : Int32)), .val (.int c2)] []))) (by rw [show ((2 : Int32) + (1 : Int32)) = (3 : Int32) by decide]) ?_
  refine own_iinc X300 hx hby d10_35 rfl (l' := #[.val (.ref a1), .val (.int (3 : Int32)), .val (.ref a3), .val (.int ((2 : Int32) + (1 : Int32))), .val (.int (4 : Int32)), .val (.int (2 : Int32)), .val (.int c2)]) rfl ?_
  refine own_eq (U' := (T300.setTop (mkF m 38 #[.val (.ref a1), .val (.int (3 : Int32)), .val (.ref a3), .val (.int (3 : Int32)), .val (.int (4 : Int32)), .val (.int (2 : Int32)), .val (.int c2)] []))) (by rw [show ((2 : Int32) + (1 : Int32)) = (3 : Int32) by decide]) ?_
  refine own_iinc X300 hx hby d10_38 rfl (l' := #[.val (.ref a1), .val (.int (3 : Int32)), .val (.ref a3), .val (.int (3 : Int32)), .val (.int (4 : Int32)), .val (.int ((2 : Int32) + (1 : Int32))), .val (.int c2)]) rfl ?_
  refine own_eq (U' := (T300.setTop (mkF m 41 #[.val (.ref a1), .val (.int (3 : Int32)), .val (.ref a3), .val (.int (3 : Int32)), .val (.int (4 : Int32)), .val (.int (3 : Int32)), .val (.int c2)] []))) (by rw [show ((2 : Int32) + (1 : Int32)) = (3 : Int32) by decide]) ?_
  refine own_goto X300 hx hby 41 3 d10_41 (by decide) (by decide) ?_
  refine own_iload X300 hx hby d10_3 rfl ?_
  refine own_iload X300 hx hby d10_5 rfl ?_
  have hc7_301 : (3 : Int32) < (4 : Int32) := by decide
  refine own_icmpNo X300 hx hby d10_7 (tlt hc7_301).2.1 ?_
  refine own_aloadN X300 hx hby d10_10 rfl rfl ?_
  refine own_iloadN X300 hx hby d10_11 rfl ?_
  obtain ⟨cl302, Ar302, qa302, Sa302, Na302, Ha302, Ga302⟩ := id Vc
  have hin302 : ¬ ((3 : Int32) < 0 ∨ cl302.slots.size ≤ ((3 : Int32)).toNatClampNeg) := inb_of Sa302 ⟨by decide, by decide⟩
  have hat302 : cl302.slots[((3 : Int32)).toNatClampNeg]? = some (.int c3) := Has.at Ha302 hin302 rfl
  refine own_of (U' := (T300.setTop (mkF m 13 #[.val (.ref a1), .val (.int (3 : Int32)), .val (.ref a3), .val (.int (3 : Int32)), .val (.int (4 : Int32)), .val (.int (3 : Int32)), .val (.int c2)] [(.int c3)]))) (X300.caload hx (j := (3 : Int32)) (v := (.int c3)) (by rw [e300]; exact Ar302.1) (State.isArrayOf_alike hZ.alike Ar302.2.1) Ar302.2.2 hin302 hat302 (g := (mkF m 12 #[.val (.ref a1), .val (.int (3 : Int32)), .val (.ref a3), .val (.int (3 : Int32)), .val (.int (4 : Int32)), .val (.int (3 : Int32)), .val (.int c2)] [(.int (3 : Int32)), (.ref a1)])) rfl rfl (hb hby d10_12)) ?_
  refine own_istore X300 hx hby d10_13 (l' := #[.val (.ref a1), .val (.int (3 : Int32)), .val (.ref a3), .val (.int (3 : Int32)), .val (.int (4 : Int32)), .val (.int (3 : Int32)), .val (.int c3)]) rfl ?_
  refine own_iload X300 hx hby d10_15 rfl ?_
  refine own_sipush X300 hx hby 255 d10_17 rfl ?_
  have hc20_303 : (255 : Int32) < c3 := hB
  refine own_icmpNo X300 hx hby d10_20 (tlt hc20_303).2.2.2 ?_
  refine own_iload X300 hx hby d10_23 rfl ?_
  exact own_retI X300 hx hlk Bd.returns (hb hby d10_25) (by decide) (by decide) (by rw [e300]; exact ⟨rfl, N300, KK, Vd⟩)
theorem ef_cl4_4 (m : MethodId) (x0 : Addr) (x2 : Addr) : entryFrame m #[(.ref x0), (.int (0 : Int32)), (.ref x2), (.int (0 : Int32)), (.int (4 : Int32))] 7 = mkF m 0 #[.val (.ref x0), .val (.int (0 : Int32)), .val (.ref x2), .val (.int (0 : Int32)), .val (.int (4 : Int32)), .unset, .unset] [] := by first | (simp [entryFrame, mkF, argsToLocals, Value.category]; done) | rfl
def Qcl4_4 (Z : State) (a3 : Addr) (kd : ClassId) (c0 c1 c2 c3 : Int32) (h0 : Heap) (n0 : Nat) (v : Option Value) (h : Heap) (L : List Loc) : Prop := v = some (.int (4 : Int32)) ∧ Fr n0 L ∧ Keep h0 h [a3] ∧ Arv Z h a3 kd .byte (4 : Int32) [(.int (own_b8 c0)), (.int (own_b8 c1)), (.int (own_b8 c2)), (.int (own_b8 c3))] (.int (0 : Int32))
set_option maxRecDepth 65536 in
set_option maxHeartbeats 40000000 in
theorem rmcl4_4 (l : Launch) (Z : State) (a0 : Array Value) (hw : ∀ d ∈ tables_1, d.before a0 Z = true) (ws : List Jvm.Cond) (a1 a3 : Addr) (kc kd : ClassId) (c0 c1 c2 c3 : Int32) (h0 : Heap) (n0 : Nat) (Z0 : n0 ≤ h0.size) (Vc : Arv Z h0 a1 kc .char (4 : Int32) [(.int c0), (.int c1), (.int c2), (.int c3)] (.int (0 : Int32))) (Vd : Arv Z h0 a3 kd .byte (4 : Int32) [(.int (0 : Int32)), (.int (0 : Int32)), (.int (0 : Int32)), (.int (0 : Int32))] (.int (0 : Int32))) (g_a3 : n0 ≤ a3) (nea : a1 ≠ a3) (hL0 : ¬ ((255 : Int32) < c0)) (hL1 : ¬ ((255 : Int32) < c1)) (hL2 : ¬ ((255 : Int32) < c2)) (hL3 : ¬ ((255 : Int32) < c3)) :
    MetFree l mN_16 (head1 (Jvm.Cond.code mN_16 jdk_52_method_21_code 7 (some .int) :: ws) ({ frames := 0, cells := 0, slots := 0, locals := 0 } : Room)) (fun a U => a = #[(.ref a1), (.int (0 : Int32)), (.ref a3), (.int (0 : Int32)), (.int (4 : Int32))] ∧ Z.Warmed39 U.vm ∧ U.heap = h0) (fun _ _ _ _ _ => True) (fun _ U o U' => ∃ v L, o = .returned v ∧ (Qcl4_4 Z a3 kd c0 c1 c2 c3 h0 n0) v U'.heap L ∧ FrameEnd U o U' L ({ frames := 0, cells := 0, slots := 0, locals := 0 } : Room).cells ({ frames := 0, cells := 0, slots := 0, locals := 0 } : Room).slots) := by
  refine MetFree.of_bodySF (plainFor_of_name pn_2) hisR ?_
  intro p e s m args below meth c s₁ Bd hml0 hP hK
  obtain ⟨rfl, hZ, hh⟩ := hP
  have hx := Bd.exec
  have hby := Bd.bytes
  have hml : c.maxLocals = 7 := hml0
  have hown : s.vm.findClass "java/lang/StringUTF16" = some m.cls := findClass_of_methodNamed Bd.named
  have hnm := (name_of_methodNamed Bd.named Bd.method).1
  have hlk := Bd.notSynchronized
  have X0 : Stand p l e ({ frames := 0, cells := 0, slots := 0, locals := 0 } : Room) s m #[(.ref a1), (.int (0 : Int32)), (.ref a3), (.int (0 : Int32)), (.int (4 : Int32))] below meth c s₁ [] 0 0 := Stand.of_body Bd
  have e0 : s₁.heap = h0 := by rw [← hh, Bd.state]; rfl
  have N0 := Fr.nil n0
  have KK := Keep.refl h0 [a3]
  show own_Ends p e below s FrameEnd (Qcl4_4 Z a3 kd c0 c1 c2 c3 h0 n0) 0 0 (s₁.setTop (entryFrame m #[(.ref a1), (.int (0 : Int32)), (.ref a3), (.int (0 : Int32)), (.int (4 : Int32))] 7))
  refine own_of (U' := (s₁.setTop (mkF m 0 #[.val (.ref a1), .val (.int (0 : Int32)), .val (.ref a3), .val (.int (0 : Int32)), .val (.int (4 : Int32)), .unset, .unset] []))) (fun _ k => castTop (ef_cl4_4 m a1 a3) k) ?_
  refine own_iconst X0 hx hby 0 d10_0 rfl ?_
  refine own_istore X0 hx hby d10_1 (l' := #[.val (.ref a1), .val (.int (0 : Int32)), .val (.ref a3), .val (.int (0 : Int32)), .val (.int (4 : Int32)), .val (.int (0 : Int32)), .unset]) rfl ?_
  refine own_iload X0 hx hby d10_3 rfl ?_
  refine own_iload X0 hx hby d10_5 rfl ?_
  have hc7_304 : (0 : Int32) < (4 : Int32) := by decide
  refine own_icmpNo X0 hx hby d10_7 (tlt hc7_304).2.1 ?_
  refine own_aloadN X0 hx hby d10_10 rfl rfl ?_
  refine own_iloadN X0 hx hby d10_11 rfl ?_
  obtain ⟨cl305, Ar305, qa305, Sa305, Na305, Ha305, Ga305⟩ := id Vc
  have hin305 : ¬ ((0 : Int32) < 0 ∨ cl305.slots.size ≤ ((0 : Int32)).toNatClampNeg) := inb_of Sa305 ⟨by decide, by decide⟩
  have hat305 : cl305.slots[((0 : Int32)).toNatClampNeg]? = some (.int c0) := Has.at Ha305 hin305 rfl
  refine own_of (U' := (s₁.setTop (mkF m 13 #[.val (.ref a1), .val (.int (0 : Int32)), .val (.ref a3), .val (.int (0 : Int32)), .val (.int (4 : Int32)), .val (.int (0 : Int32)), .unset] [(.int c0)]))) (X0.caload hx (j := (0 : Int32)) (v := (.int c0)) (by rw [e0]; exact Ar305.1) (State.isArrayOf_alike hZ.alike Ar305.2.1) Ar305.2.2 hin305 hat305 (g := (mkF m 12 #[.val (.ref a1), .val (.int (0 : Int32)), .val (.ref a3), .val (.int (0 : Int32)), .val (.int (4 : Int32)), .val (.int (0 : Int32)), .unset] [(.int (0 : Int32)), (.ref a1)])) rfl rfl (hb hby d10_12)) ?_
  refine own_istore X0 hx hby d10_13 (l' := #[.val (.ref a1), .val (.int (0 : Int32)), .val (.ref a3), .val (.int (0 : Int32)), .val (.int (4 : Int32)), .val (.int (0 : Int32)), .val (.int c0)]) rfl ?_
  refine own_iload X0 hx hby d10_15 rfl ?_
  refine own_sipush X0 hx hby 255 d10_17 rfl ?_
  have hc20_306 : ¬ ((255 : Int32) < c0) := hL0
  refine own_icmpYes X0 hx hby 20 26 d10_20 (flt hc20_306).2.2.2 (by decide) (by decide) ?_
  refine own_aloadN X0 hx hby d10_26 rfl rfl ?_
  refine own_iloadN X0 hx hby d10_27 rfl ?_
  refine own_iload X0 hx hby d10_28 rfl ?_
  refine own_i2b X0 hx hby d10_30 ?_
  obtain ⟨cl307, Ar307, qa307, Sa307, Na307, Ha307, Ga307⟩ := Vd
  have hin307 : ¬ ((0 : Int32) < 0 ∨ cl307.slots.size ≤ ((0 : Int32)).toNatClampNeg) := inb_of Sa307 ⟨by decide, by decide⟩
  obtain ⟨T307, h307, X307, e307, W307, st307⟩ := stB X0 hx hZ e0 Ar307 (j := (0 : Int32)) hin307 (g := (mkF m 31 #[.val (.ref a1), .val (.int (0 : Int32)), .val (.ref a3), .val (.int (0 : Int32)), .val (.int (4 : Int32)), .val (.int (0 : Int32)), .val (.int c0)] [(.int (c0.toInt8.toInt32)), (.int (0 : Int32)), (.ref a3)])) rfl rfl (hb hby d10_31)
  replace Vd : Arv Z h307 a3 kd .byte (4 : Int32) [(.int (nar .byte (c0.toInt8.toInt32))), (.int (0 : Int32)), (.int (0 : Int32)), (.int (0 : Int32))] (.int (0 : Int32)) := Arv.set Ar307 qa307 Sa307 Na307 Ha307 Ga307 (fits_nar_byte _) W307 0 rfl (Nat.le_of_ble_eq_true rfl)
  replace Z0 := Nat.le_trans Z0 (Keep.of_wr W307).1
  replace Vc := Vc.other W307 nea
  replace KK := KK.wr W307 (Or.inl (List.mem_of_getElem? (i := 0) rfl))
  have N307 := Fr.snoc X307 N0 g_a3
  refine own_of (U' := (T307.setTop (mkF m 32 #[.val (.ref a1), .val (.int (0 : Int32)), .val (.ref a3), .val (.int (0 : Int32)), .val (.int (4 : Int32)), .val (.int (0 : Int32)), .val (.int c0)] []))) (st307) ?_
  refine own_iinc X307 hx hby d10_32 rfl (l' := #[.val (.ref a1), .val (.int ((0 : Int32) + (1 : Int32))), .val (.ref a3), .val (.int (0 : Int32)), .val (.int (4 : Int32)), .val (.int (0 : Int32)), .val (.int c0)]) rfl ?_
  refine own_eq (U' := (T307.setTop (mkF m 35 #[.val (.ref a1), .val (.int (1 : Int32)), .val (.ref a3), .val (.int (0 : Int32)), .val (.int (4 : Int32)), .val (.int (0 : Int32)), .val (.int c0)] []))) (by rw [show ((0 : Int32) + (1 : Int32)) = (1 : Int32) by decide]) ?_
  refine own_iinc X307 hx hby d10_35 rfl (l' := #[.val (.ref a1), .val (.int (1 : Int32)), .val (.ref a3), .val (.int ((0 : Int32) + (1 : Int32))), .val (.int (4 : Int32)), .val (.int (0 : Int32)), .val (.int c0)]) rfl ?_
  refine own_eq (U' := (T307.setTop (mkF m 38 #[.val (.ref a1), .val (.int (1 : Int32)), .val (.ref a3), .val (.int (1 : Int32)), .val (.int (4 : Int32)), .val (.int (0 : Int32)), .val (.int c0)] []))) (by rw [show ((0 : Int32) + (1 : Int32)) = (1 : Int32) by decide]) ?_
  refine own_iinc X307 hx hby d10_38 rfl (l' := #[.val (.ref a1), .val (.int (1 : Int32)), .val (.ref a3), .val (.int (1 : Int32)), .val (.int (4 : Int32)), .val (.int ((0 : Int32) + (1 : Int32))), .val (.int c0)]) rfl ?_
  refine own_eq (U' := (T307.setTop (mkF m 41 #[.val (.ref a1), .val (.int (1 : Int32)), .val (.ref a3), .val (.int (1 : Int32)), .val (.int (4 : Int32)), .val (.int (1 : Int32)), .val (.int c0)] []))) (by rw [show ((0 : Int32) + (1 : Int32)) = (1 : Int32) by decide]) ?_
  refine own_goto X307 hx hby 41 3 d10_41 (by decide) (by decide) ?_
  refine own_iload X307 hx hby d10_3 rfl ?_
  refine own_iload X307 hx hby d10_5 rfl ?_
  have hc7_308 : (1 : Int32) < (4 : Int32) := by decide
  refine own_icmpNo X307 hx hby d10_7 (tlt hc7_308).2.1 ?_
  refine own_aloadN X307 hx hby d10_10 rfl rfl ?_
  refine own_iloadN X307 hx hby d10_11 rfl ?_
  obtain ⟨cl309, Ar309, qa309, Sa309, Na309, Ha309, Ga309⟩ := id Vc
  have hin309 : ¬ ((1 : Int32) < 0 ∨ cl309.slots.size ≤ ((1 : Int32)).toNatClampNeg) := inb_of Sa309 ⟨by decide, by decide⟩
  have hat309 : cl309.slots[((1 : Int32)).toNatClampNeg]? = some (.int c1) := Has.at Ha309 hin309 rfl
  refine own_of (U' := (T307.setTop (mkF m 13 #[.val (.ref a1), .val (.int (1 : Int32)), .val (.ref a3), .val (.int (1 : Int32)), .val (.int (4 : Int32)), .val (.int (1 : Int32)), .val (.int c0)] [(.int c1)]))) (X307.caload hx (j := (1 : Int32)) (v := (.int c1)) (by rw [e307]; exact Ar309.1) (State.isArrayOf_alike hZ.alike Ar309.2.1) Ar309.2.2 hin309 hat309 (g := (mkF m 12 #[.val (.ref a1), .val (.int (1 : Int32)), .val (.ref a3), .val (.int (1 : Int32)), .val (.int (4 : Int32)), .val (.int (1 : Int32)), .val (.int c0)] [(.int (1 : Int32)), (.ref a1)])) rfl rfl (hb hby d10_12)) ?_
  refine own_istore X307 hx hby d10_13 (l' := #[.val (.ref a1), .val (.int (1 : Int32)), .val (.ref a3), .val (.int (1 : Int32)), .val (.int (4 : Int32)), .val (.int (1 : Int32)), .val (.int c1)]) rfl ?_
  refine own_iload X307 hx hby d10_15 rfl ?_
  refine own_sipush X307 hx hby 255 d10_17 rfl ?_
  have hc20_310 : ¬ ((255 : Int32) < c1) := hL1
  refine own_icmpYes X307 hx hby 20 26 d10_20 (flt hc20_310).2.2.2 (by decide) (by decide) ?_
  refine own_aloadN X307 hx hby d10_26 rfl rfl ?_
  refine own_iloadN X307 hx hby d10_27 rfl ?_
  refine own_iload X307 hx hby d10_28 rfl ?_
  refine own_i2b X307 hx hby d10_30 ?_
  obtain ⟨cl311, Ar311, qa311, Sa311, Na311, Ha311, Ga311⟩ := Vd
  have hin311 : ¬ ((1 : Int32) < 0 ∨ cl311.slots.size ≤ ((1 : Int32)).toNatClampNeg) := inb_of Sa311 ⟨by decide, by decide⟩
  obtain ⟨T311, h311, X311, e311, W311, st311⟩ := stB X307 hx hZ e307 Ar311 (j := (1 : Int32)) hin311 (g := (mkF m 31 #[.val (.ref a1), .val (.int (1 : Int32)), .val (.ref a3), .val (.int (1 : Int32)), .val (.int (4 : Int32)), .val (.int (1 : Int32)), .val (.int c1)] [(.int (c1.toInt8.toInt32)), (.int (1 : Int32)), (.ref a3)])) rfl rfl (hb hby d10_31)
  replace Vd : Arv Z h311 a3 kd .byte (4 : Int32) [(.int (nar .byte (c0.toInt8.toInt32))), (.int (nar .byte (c1.toInt8.toInt32))), (.int (0 : Int32)), (.int (0 : Int32))] (.int (0 : Int32)) := Arv.set Ar311 qa311 Sa311 Na311 Ha311 Ga311 (fits_nar_byte _) W311 1 rfl (Nat.le_of_ble_eq_true rfl)
  replace Z0 := Nat.le_trans Z0 (Keep.of_wr W311).1
  replace Vc := Vc.other W311 nea
  replace KK := KK.wr W311 (Or.inl (List.mem_of_getElem? (i := 0) rfl))
  have N311 := Fr.snoc X311 N307 g_a3
  refine own_of (U' := (T311.setTop (mkF m 32 #[.val (.ref a1), .val (.int (1 : Int32)), .val (.ref a3), .val (.int (1 : Int32)), .val (.int (4 : Int32)), .val (.int (1 : Int32)), .val (.int c1)] []))) (st311) ?_
  refine own_iinc X311 hx hby d10_32 rfl (l' := #[.val (.ref a1), .val (.int ((1 : Int32) + (1 : Int32))), .val (.ref a3), .val (.int (1 : Int32)), .val (.int (4 : Int32)), .val (.int (1 : Int32)), .val (.int c1)]) rfl ?_
  refine own_eq (U' := (T311.setTop (mkF m 35 #[.val (.ref a1), .val (.int (2 : Int32)), .val (.ref a3), .val (.int (1 : Int32)), .val (.int (4 : Int32)), .val (.int (1 : Int32)), .val (.int c1)] []))) (by rw [show ((1 : Int32) + (1 : Int32)) = (2 : Int32) by decide]) ?_
  refine own_iinc X311 hx hby d10_35 rfl (l' := #[.val (.ref a1), .val (.int (2 : Int32)), .val (.ref a3), .val (.int ((1 : Int32) + (1 : Int32))), .val (.int (4 : Int32)), .val (.int (1 : Int32)), .val (.int c1)]) rfl ?_
  refine own_eq (U' := (T311.setTop (mkF m 38 #[.val (.ref a1), .val (.int (2 : Int32)), .val (.ref a3), .val (.int (2 : Int32)), .val (.int (4 : Int32)), .val (.int (1 : Int32)), .val (.int c1)] []))) (by rw [show ((1 : Int32) + (1 : Int32)) = (2 : Int32) by decide]) ?_
  refine own_iinc X311 hx hby d10_38 rfl (l' := #[.val (.ref a1), .val (.int (2 : Int32)), .val (.ref a3), .val (.int (2 : Int32)), .val (.int (4 : Int32)), .val (.int ((1 : Int32) + (1 : Int32))), .val (.int c1)]) rfl ?_
  refine own_eq (U' := (T311.setTop (mkF m 41 #[.val (.ref a1), .val (.int (2 : Int32)), .val (.ref a3), .val (.int (2 : Int32)), .val (.int (4 : Int32)), .val (.int (2 : Int32)), .val (.int c1)] []))) (by rw [show ((1 : Int32) + (1 : Int32)) = (2 : Int32) by decide]) ?_
  refine own_goto X311 hx hby 41 3 d10_41 (by decide) (by decide) ?_
  refine own_iload X311 hx hby d10_3 rfl ?_
  refine own_iload X311 hx hby d10_5 rfl ?_
  have hc7_312 : (2 : Int32) < (4 : Int32) := by decide
  refine own_icmpNo X311 hx hby d10_7 (tlt hc7_312).2.1 ?_
  refine own_aloadN X311 hx hby d10_10 rfl rfl ?_
  refine own_iloadN X311 hx hby d10_11 rfl ?_
  obtain ⟨cl313, Ar313, qa313, Sa313, Na313, Ha313, Ga313⟩ := id Vc
  have hin313 : ¬ ((2 : Int32) < 0 ∨ cl313.slots.size ≤ ((2 : Int32)).toNatClampNeg) := inb_of Sa313 ⟨by decide, by decide⟩
  have hat313 : cl313.slots[((2 : Int32)).toNatClampNeg]? = some (.int c2) := Has.at Ha313 hin313 rfl
  refine own_of (U' := (T311.setTop (mkF m 13 #[.val (.ref a1), .val (.int (2 : Int32)), .val (.ref a3), .val (.int (2 : Int32)), .val (.int (4 : Int32)), .val (.int (2 : Int32)), .val (.int c1)] [(.int c2)]))) (X311.caload hx (j := (2 : Int32)) (v := (.int c2)) (by rw [e311]; exact Ar313.1) (State.isArrayOf_alike hZ.alike Ar313.2.1) Ar313.2.2 hin313 hat313 (g := (mkF m 12 #[.val (.ref a1), .val (.int (2 : Int32)), .val (.ref a3), .val (.int (2 : Int32)), .val (.int (4 : Int32)), .val (.int (2 : Int32)), .val (.int c1)] [(.int (2 : Int32)), (.ref a1)])) rfl rfl (hb hby d10_12)) ?_
  refine own_istore X311 hx hby d10_13 (l' := #[.val (.ref a1), .val (.int (2 : Int32)), .val (.ref a3), .val (.int (2 : Int32)), .val (.int (4 : Int32)), .val (.int (2 : Int32)), .val (.int c2)]) rfl ?_
  refine own_iload X311 hx hby d10_15 rfl ?_
  refine own_sipush X311 hx hby 255 d10_17 rfl ?_
  have hc20_314 : ¬ ((255 : Int32) < c2) := hL2
  refine own_icmpYes X311 hx hby 20 26 d10_20 (flt hc20_314).2.2.2 (by decide) (by decide) ?_
  refine own_aloadN X311 hx hby d10_26 rfl rfl ?_
  refine own_iloadN X311 hx hby d10_27 rfl ?_
  refine own_iload X311 hx hby d10_28 rfl ?_
  refine own_i2b X311 hx hby d10_30 ?_
  obtain ⟨cl315, Ar315, qa315, Sa315, Na315, Ha315, Ga315⟩ := Vd
  have hin315 : ¬ ((2 : Int32) < 0 ∨ cl315.slots.size ≤ ((2 : Int32)).toNatClampNeg) := inb_of Sa315 ⟨by decide, by decide⟩
  obtain ⟨T315, h315, X315, e315, W315, st315⟩ := stB X311 hx hZ e311 Ar315 (j := (2 : Int32)) hin315 (g := (mkF m 31 #[.val (.ref a1), .val (.int (2 : Int32)), .val (.ref a3), .val (.int (2 : Int32)), .val (.int (4 : Int32)), .val (.int (2 : Int32)), .val (.int c2)] [(.int (c2.toInt8.toInt32)), (.int (2 : Int32)), (.ref a3)])) rfl rfl (hb hby d10_31)
  replace Vd : Arv Z h315 a3 kd .byte (4 : Int32) [(.int (nar .byte (c0.toInt8.toInt32))), (.int (nar .byte (c1.toInt8.toInt32))), (.int (nar .byte (c2.toInt8.toInt32))), (.int (0 : Int32))] (.int (0 : Int32)) := Arv.set Ar315 qa315 Sa315 Na315 Ha315 Ga315 (fits_nar_byte _) W315 2 rfl (Nat.le_of_ble_eq_true rfl)
  replace Z0 := Nat.le_trans Z0 (Keep.of_wr W315).1
  replace Vc := Vc.other W315 nea
  replace KK := KK.wr W315 (Or.inl (List.mem_of_getElem? (i := 0) rfl))
  have N315 := Fr.snoc X315 N311 g_a3
  refine own_of (U' := (T315.setTop (mkF m 32 #[.val (.ref a1), .val (.int (2 : Int32)), .val (.ref a3), .val (.int (2 : Int32)), .val (.int (4 : Int32)), .val (.int (2 : Int32)), .val (.int c2)] []))) (st315) ?_
  refine own_iinc X315 hx hby d10_32 rfl (l' := #[.val (.ref a1), .val (.int ((2 : Int32) + (1 : Int32))), .val (.ref a3), .val (.int (2 : Int32)), .val (.int (4 : Int32)), .val (.int (2 : Int32)), .val (.int c2)]) rfl ?_
  refine own_eq (U' := (T315.setTop (mkF m 35 #[.val (.ref a1), .val (.int (3 : Int32)), .val (.ref a3), .val (.int (2 : Int32)), .val (.int (4 : Int32)), .val (.int (2 : Int32)), .val (.int c2)] []))) (by rw [show ((2 : Int32) + (1 : Int32)) = (3 : Int32) by decide]) ?_
  refine own_iinc X315 hx hby d10_35 rfl (l' := #[.val (.ref a1), .val (.int (3 : Int32)), .val (.ref a3), .val (.int ((2 : Int32) + (1 : Int32))), .val (.int (4 : Int32)), .val (.int (2 : Int32)), .val (.int c2)]) rfl ?_
  refine own_eq (U' := (T315.setTop (mkF m 38 #[.val (.ref a1), .val (.int (3 : Int32)), .val (.ref a3), .val (.int (3 : Int32)), .val (.int (4 : Int32)), .val (.int (2 : Int32)), .val (.int c2)] []))) (by rw [show ((2 : Int32) + (1 : Int32)) = (3 : Int32) by decide]) ?_
  refine own_iinc X315 hx hby d10_38 rfl (l' := #[.val (.ref a1), .val (.int (3 : Int32)), .val (.ref a3), .val (.int (3 : Int32)), .val (.int (4 : Int32)), .val (.int ((2 : Int32) + (1 : Int32))), .val (.int c2)]) rfl ?_
  refine own_eq (U' := (T315.setTop (mkF m 41 #[.val (.ref a1), .val (.int (3 : Int32)), .val (.ref a3), .val (.int (3 : Int32)), .val (.int (4 : Int32)), .val (.int (3 : Int32)), .val (.int c2)] []))) (by rw [show ((2 : Int32) + (1 : Int32)) = (3 : Int32) by decide]) ?_
  refine own_goto X315 hx hby 41 3 d10_41 (by decide) (by decide) ?_
  refine own_iload X315 hx hby d10_3 rfl ?_
  refine own_iload X315 hx hby d10_5 rfl ?_
  have hc7_316 : (3 : Int32) < (4 : Int32) := by decide
  refine own_icmpNo X315 hx hby d10_7 (tlt hc7_316).2.1 ?_
  refine own_aloadN X315 hx hby d10_10 rfl rfl ?_
  refine own_iloadN X315 hx hby d10_11 rfl ?_
  obtain ⟨cl317, Ar317, qa317, Sa317, Na317, Ha317, Ga317⟩ := id Vc
  have hin317 : ¬ ((3 : Int32) < 0 ∨ cl317.slots.size ≤ ((3 : Int32)).toNatClampNeg) := inb_of Sa317 ⟨by decide, by decide⟩
  have hat317 : cl317.slots[((3 : Int32)).toNatClampNeg]? = some (.int c3) := Has.at Ha317 hin317 rfl
  refine own_of (U' := (T315.setTop (mkF m 13 #[.val (.ref a1), .val (.int (3 : Int32)), .val (.ref a3), .val (.int (3 : Int32)), .val (.int (4 : Int32)), .val (.int (3 : Int32)), .val (.int c2)] [(.int c3)]))) (X315.caload hx (j := (3 : Int32)) (v := (.int c3)) (by rw [e315]; exact Ar317.1) (State.isArrayOf_alike hZ.alike Ar317.2.1) Ar317.2.2 hin317 hat317 (g := (mkF m 12 #[.val (.ref a1), .val (.int (3 : Int32)), .val (.ref a3), .val (.int (3 : Int32)), .val (.int (4 : Int32)), .val (.int (3 : Int32)), .val (.int c2)] [(.int (3 : Int32)), (.ref a1)])) rfl rfl (hb hby d10_12)) ?_
  refine own_istore X315 hx hby d10_13 (l' := #[.val (.ref a1), .val (.int (3 : Int32)), .val (.ref a3), .val (.int (3 : Int32)), .val (.int (4 : Int32)), .val (.int (3 : Int32)), .val (.int c3)]) rfl ?_
  refine own_iload X315 hx hby d10_15 rfl ?_
  refine own_sipush X315 hx hby 255 d10_17 rfl ?_
  have hc20_318 : ¬ ((255 : Int32) < c3) := hL3
  refine own_icmpYes X315 hx hby 20 26 d10_20 (flt hc20_318).2.2.2 (by decide) (by decide) ?_
  refine own_aloadN X315 hx hby d10_26 rfl rfl ?_
  refine own_iloadN X315 hx hby d10_27 rfl ?_
  refine own_iload X315 hx hby d10_28 rfl ?_
  refine own_i2b X315 hx hby d10_30 ?_
  obtain ⟨cl319, Ar319, qa319, Sa319, Na319, Ha319, Ga319⟩ := Vd
  have hin319 : ¬ ((3 : Int32) < 0 ∨ cl319.slots.size ≤ ((3 : Int32)).toNatClampNeg) := inb_of Sa319 ⟨by decide, by decide⟩
  obtain ⟨T319, h319, X319, e319, W319, st319⟩ := stB X315 hx hZ e315 Ar319 (j := (3 : Int32)) hin319 (g := (mkF m 31 #[.val (.ref a1), .val (.int (3 : Int32)), .val (.ref a3), .val (.int (3 : Int32)), .val (.int (4 : Int32)), .val (.int (3 : Int32)), .val (.int c3)] [(.int (c3.toInt8.toInt32)), (.int (3 : Int32)), (.ref a3)])) rfl rfl (hb hby d10_31)
  replace Vd : Arv Z h319 a3 kd .byte (4 : Int32) [(.int (nar .byte (c0.toInt8.toInt32))), (.int (nar .byte (c1.toInt8.toInt32))), (.int (nar .byte (c2.toInt8.toInt32))), (.int (nar .byte (c3.toInt8.toInt32)))] (.int (0 : Int32)) := Arv.set Ar319 qa319 Sa319 Na319 Ha319 Ga319 (fits_nar_byte _) W319 3 rfl (Nat.le_of_ble_eq_true rfl)
  replace Z0 := Nat.le_trans Z0 (Keep.of_wr W319).1
  replace Vc := Vc.other W319 nea
  replace KK := KK.wr W319 (Or.inl (List.mem_of_getElem? (i := 0) rfl))
  have N319 := Fr.snoc X319 N315 g_a3
  refine own_of (U' := (T319.setTop (mkF m 32 #[.val (.ref a1), .val (.int (3 : Int32)), .val (.ref a3), .val (.int (3 : Int32)), .val (.int (4 : Int32)), .val (.int (3 : Int32)), .val (.int c3)] []))) (st319) ?_
  refine own_iinc X319 hx hby d10_32 rfl (l' := #[.val (.ref a1), .val (.int ((3 : Int32) + (1 : Int32))), .val (.ref a3), .val (.int (3 : Int32)), .val (.int (4 : Int32)), .val (.int (3 : Int32)), .val (.int c3)]) rfl ?_
  refine own_eq (U' := (T319.setTop (mkF m 35 #[.val (.ref a1), .val (.int (4 : Int32)), .val (.ref a3), .val (.int (3 : Int32)), .val (.int (4 : Int32)), .val (.int (3 : Int32)), .val (.int c3)] []))) (by rw [show ((3 : Int32) + (1 : Int32)) = (4 : Int32) by decide]) ?_
  refine own_iinc X319 hx hby d10_35 rfl (l' := #[.val (.ref a1), .val (.int (4 : Int32)), .val (.ref a3), .val (.int ((3 : Int32) + (1 : Int32))), .val (.int (4 : Int32)), .val (.int (3 : Int32)), .val (.int c3)]) rfl ?_
  refine own_eq (U' := (T319.setTop (mkF m 38 #[.val (.ref a1), .val (.int (4 : Int32)), .val (.ref a3), .val (.int (4 : Int32)), .val (.int (4 : Int32)), .val (.int (3 : Int32)), .val (.int c3)] []))) (by rw [show ((3 : Int32) + (1 : Int32)) = (4 : Int32) by decide]) ?_
  refine own_iinc X319 hx hby d10_38 rfl (l' := #[.val (.ref a1), .val (.int (4 : Int32)), .val (.ref a3), .val (.int (4 : Int32)), .val (.int (4 : Int32)), .val (.int ((3 : Int32) + (1 : Int32))), .val (.int c3)]) rfl ?_
  refine own_eq (U' := (T319.setTop (mkF m 41 #[.val (.ref a1), .val (.int (4 : Int32)), .val (.ref a3), .val (.int (4 : Int32)), .val (.int (4 : Int32)), .val (.int (4 : Int32)), .val (.int c3)] []))) (by rw [show ((3 : Int32) + (1 : Int32)) = (4 : Int32) by decide]) ?_
  refine own_goto X319 hx hby 41 3 d10_41 (by decide) (by decide) ?_
  refine own_iload X319 hx hby d10_3 rfl ?_
  refine own_iload X319 hx hby d10_5 rfl ?_
  have hc7_320 : ¬ ((4 : Int32) < (4 : Int32)) := by decide
  refine own_icmpYes X319 hx hby 7 44 d10_7 (flt hc7_320).2.1 (by decide) (by decide) ?_
  refine own_iload X319 hx hby d10_44 rfl ?_
  exact own_retI X319 hx hlk Bd.returns (hb hby d10_46) (by decide) (by decide) (by rw [e319]; exact ⟨rfl, N319, KK, Vd⟩)
def Qclb4 (a3 : Addr) (c0 c1 c2 c3 : Int32) (h0 : Heap) (n0 : Nat) (v : Option Value) (h : Heap) (L : List Loc) : Prop := ∃ r : Int32, v = some (.int r) ∧ Fr n0 L ∧ Keep h0 h [a3] ∧ ¬ (r = (4 : Int32)) ∧ (¬ ((r <<< ((1 : Int32) &&& 31)) < (0 : Int32))) ∧ ((r <<< ((1 : Int32) &&& 31)) < (8 : Int32)) ∧ (¬ (((r <<< ((1 : Int32) &&& 31)) + (1 : Int32)) < (0 : Int32))) ∧ (((r <<< ((1 : Int32) &&& 31)) + (1 : Int32)) < (8 : Int32)) ∧ (255 : Int32) < own_chu [(own_lo8 c0), (own_hi8 c0), (own_lo8 c1), (own_hi8 c1), (own_lo8 c2), (own_hi8 c2), (own_lo8 c3), (own_hi8 c3)] r
theorem rmclb4 (l : Launch) (Z : State) (a0 : Array Value) (hw : ∀ d ∈ tables_1, d.before a0 Z = true) (ws : List Jvm.Cond) (a1 a3 : Addr) (kc kd : ClassId) (c0 c1 c2 c3 : Int32) (h0 : Heap) (n0 : Nat) (Z0 : n0 ≤ h0.size) (Vc : Arv Z h0 a1 kc .char (4 : Int32) [(.int c0), (.int c1), (.int c2), (.int c3)] (.int (0 : Int32))) (Vd : Arv Z h0 a3 kd .byte (4 : Int32) [(.int (0 : Int32)), (.int (0 : Int32)), (.int (0 : Int32)), (.int (0 : Int32))] (.int (0 : Int32))) (g_a3 : n0 ≤ a3) (nea : a1 ≠ a3) (hb0 : 0 ≤ c0.toInt ∧ c0.toInt < 65536) (hb1 : 0 ≤ c1.toInt ∧ c1.toInt < 65536) (hb2 : 0 ≤ c2.toInt ∧ c2.toInt < 65536) (hb3 : 0 ≤ c3.toInt ∧ c3.toInt < 65536) (big : ((255 : Int32) < c0) ∨ ((255 : Int32) < c1) ∨ ((255 : Int32) < c2) ∨ ((255 : Int32) < c3)) :
    MetFree l mN_16 (head1 (Jvm.Cond.code mN_16 jdk_52_method_21_code 7 (some .int) :: ws) ({ frames := 0, cells := 0, slots := 0, locals := 0 } : Room)) (fun a U => a = #[(.ref a1), (.int (0 : Int32)), (.ref a3), (.int (0 : Int32)), (.int (4 : Int32))] ∧ Z.Warmed39 U.vm ∧ U.heap = h0) (fun _ _ _ _ _ => True) (fun _ U o U' => ∃ v L, o = .returned v ∧ (Qclb4 a3 c0 c1 c2 c3 h0 n0) v U'.heap L ∧ FrameEnd U o U' L ({ frames := 0, cells := 0, slots := 0, locals := 0 } : Room).cells ({ frames := 0, cells := 0, slots := 0, locals := 0 } : Room).slots) := by
  by_cases qB0 : (255 : Int32) < c0
  · exact own_mono (rmcl4_0 l Z a0 hw ws a1 a3 kc kd c0 c1 c2 c3 h0 n0 Z0 Vc Vd g_a3 nea  qB0) (fun _ _ _ _ ⟨v, L, h1, ⟨q1, q2, q3, _⟩, h3⟩ => ⟨v, L, h1, ⟨(0 : Int32), q1, q2, q3, by decide, by decide, by decide, by decide, by decide, by rw [show own_chu [(own_lo8 c0), (own_hi8 c0), (own_lo8 c1), (own_hi8 c1), (own_lo8 c2), (own_hi8 c2), (own_lo8 c3), (own_hi8 c3)] (0 : Int32) = c0 from own_gc_eq hb0]; exact qB0⟩, h3⟩)
  by_cases qB1 : (255 : Int32) < c1
  · exact own_mono (rmcl4_1 l Z a0 hw ws a1 a3 kc kd c0 c1 c2 c3 h0 n0 Z0 Vc Vd g_a3 nea qB0 qB1) (fun _ _ _ _ ⟨v, L, h1, ⟨q1, q2, q3, _⟩, h3⟩ => ⟨v, L, h1, ⟨(1 : Int32), q1, q2, q3, by decide, by decide, by decide, by decide, by decide, by rw [show own_chu [(own_lo8 c0), (own_hi8 c0), (own_lo8 c1), (own_hi8 c1), (own_lo8 c2), (own_hi8 c2), (own_lo8 c3), (own_hi8 c3)] (1 : Int32) = c1 from own_gc_eq hb1]; exact qB1⟩, h3⟩)
  by_cases qB2 : (255 : Int32) < c2
  · exact own_mono (rmcl4_2 l Z a0 hw ws a1 a3 kc kd c0 c1 c2 c3 h0 n0 Z0 Vc Vd g_a3 nea qB0 qB1 qB2) (fun _ _ _ _ ⟨v, L, h1, ⟨q1, q2, q3, _⟩, h3⟩ => ⟨v, L, h1, ⟨(2 : Int32), q1, q2, q3, by decide, by decide, by decide, by decide, by decide, by rw [show own_chu [(own_lo8 c0), (own_hi8 c0), (own_lo8 c1), (own_hi8 c1), (own_lo8 c2), (own_hi8 c2), (own_lo8 c3), (own_hi8 c3)] (2 : Int32) = c2 from own_gc_eq hb2]; exact qB2⟩, h3⟩)
  by_cases qB3 : (255 : Int32) < c3
  · exact own_mono (rmcl4_3 l Z a0 hw ws a1 a3 kc kd c0 c1 c2 c3 h0 n0 Z0 Vc Vd g_a3 nea qB0 qB1 qB2 qB3) (fun _ _ _ _ ⟨v, L, h1, ⟨q1, q2, q3, _⟩, h3⟩ => ⟨v, L, h1, ⟨(3 : Int32), q1, q2, q3, by decide, by decide, by decide, by decide, by decide, by rw [show own_chu [(own_lo8 c0), (own_hi8 c0), (own_lo8 c1), (own_hi8 c1), (own_lo8 c2), (own_hi8 c2), (own_lo8 c3), (own_hi8 c3)] (3 : Int32) = c3 from own_gc_eq hb3]; exact qB3⟩, h3⟩)
  exact absurd big (by simp [qB0, qB1, qB2, qB3])
theorem ef_cl4 (m : MethodId) (x0 : Addr) : entryFrame m #[(.ref x0), (.int (0 : Int32)), (.int (4 : Int32))] 6 = mkF m 0 #[.val (.ref x0), .val (.int (0 : Int32)), .val (.int (4 : Int32)), .unset, .unset, .unset] [] := by first | (simp [entryFrame, mkF, argsToLocals, Value.category]; done) | rfl
def Qcl4 (Z : State) (c0 c1 c2 c3 : Int32) (h0 : Heap) (n0 : Nat) (v : Option Value) (h : Heap) (L : List Loc) : Prop := ∃ (b : Addr) (kb : ClassId), v = some (.ref b) ∧ Fr n0 L ∧ Keep h0 h [] ∧ h0.size ≤ b ∧ Arv Z h b kb .byte (4 : Int32) [(.int (own_b8 c0)), (.int (own_b8 c1)), (.int (own_b8 c2)), (.int (own_b8 c3))] (.int (0 : Int32))
set_option maxRecDepth 65536 in
set_option maxHeartbeats 40000000 in
theorem rmcl4 (l : Launch) (Z : State) (a0 : Array Value) (hw : ∀ d ∈ tables_1, d.before a0 Z = true) (ws : List Jvm.Cond) (a1 : Addr) (kc : ClassId) (c0 c1 c2 c3 : Int32) (h0 : Heap) (n0 : Nat) (Z0 : n0 ≤ h0.size) (Vc : Arv Z h0 a1 kc .char (4 : Int32) [(.int c0), (.int c1), (.int c2), (.int c3)] (.int (0 : Int32))) (hb0 : 0 ≤ c0.toInt ∧ c0.toInt < 65536) (hb1 : 0 ≤ c1.toInt ∧ c1.toInt < 65536) (hb2 : 0 ≤ c2.toInt ∧ c2.toInt < 65536) (hb3 : 0 ≤ c3.toInt ∧ c3.toInt < 65536) (SA : Sta Z h0 "java/lang/StringUTF16" "$assertionsDisabled" "Z" (.int (1 : Int32))) (SHI : Sta Z h0 "java/lang/StringUTF16" "HI_BYTE_SHIFT" "I" (.int (0 : Int32))) (SLO : Sta Z h0 "java/lang/StringUTF16" "LO_BYTE_SHIFT" "I" (.int (8 : Int32))) (hL0 : ¬ ((255 : Int32) < c0)) (hL1 : ¬ ((255 : Int32) < c1)) (hL2 : ¬ ((255 : Int32) < c2)) (hL3 : ¬ ((255 : Int32) < c3)) :
    MetFree l mN_17 (head1 (Jvm.Cond.code mN_17 jdk_52_method_16_code 6 (some (.array .byte)) :: ws) ({ frames := 1, cells := 1, slots := 4, locals := 18 } : Room)) (fun a U => a = #[(.ref a1), (.int (0 : Int32)), (.int (4 : Int32))] ∧ Z.Warmed39 U.vm ∧ U.heap = h0) (fun _ _ _ _ _ => True) (fun _ U o U' => ∃ v L, o = .returned v ∧ (Qcl4 Z c0 c1 c2 c3 h0 n0) v U'.heap L ∧ FrameEnd U o U' L ({ frames := 1, cells := 1, slots := 4, locals := 18 } : Room).cells ({ frames := 1, cells := 1, slots := 4, locals := 18 } : Room).slots) := by
  refine MetFree.of_bodySF (plainFor_of_name pn_2) hisR ?_
  intro p e s m args below meth c s₁ Bd hml0 hP hK
  obtain ⟨rfl, hZ, hh⟩ := hP
  have hx := Bd.exec
  have hby := Bd.bytes
  have hml : c.maxLocals = 6 := hml0
  have hown : s.vm.findClass "java/lang/StringUTF16" = some m.cls := findClass_of_methodNamed Bd.named
  have hnm := (name_of_methodNamed Bd.named Bd.method).1
  have hlk := Bd.notSynchronized
  have X0 : Stand p l e ({ frames := 1, cells := 1, slots := 4, locals := 18 } : Room) s m #[(.ref a1), (.int (0 : Int32)), (.int (4 : Int32))] below meth c s₁ [] 0 0 := Stand.of_body Bd
  have e0 : s₁.heap = h0 := by rw [← hh, Bd.state]; rfl
  have N0 := Fr.nil n0
  have KK := Keep.refl h0 []
  show own_Ends p e below s FrameEnd (Qcl4 Z c0 c1 c2 c3 h0 n0) 1 4 (s₁.setTop (entryFrame m #[(.ref a1), (.int (0 : Int32)), (.int (4 : Int32))] 6))
  refine own_of (U' := (s₁.setTop (mkF m 0 #[.val (.ref a1), .val (.int (0 : Int32)), .val (.int (4 : Int32)), .unset, .unset, .unset] []))) (fun _ k => castTop (ef_cl4 m a1) k) ?_
  refine own_iloadN X0 hx hby d9_0 rfl ?_
  obtain ⟨T321, h321, k321, X321, e321, E321, A321, st321⟩ := newP X0 hx hZ (own_w hw 22 rfl) e0 (g := (mkF m 1 #[.val (.ref a1), .val (.int (0 : Int32)), .val (.int (4 : Int32)), .unset, .unset, .unset] [(.int (4 : Int32))])) rfl (hb hby d9_1) rfl (by decide) (cap := 4) (by decide) (by decide) (by decide) (by decide)
  obtain ⟨b321, gz321⟩ : ∃ z, z = h0.size := ⟨_, rfl⟩
  rw [← gz321] at A321 st321
  have g_b321 : n0 ≤ b321 := Nat.le_trans Z0 (Nat.le_of_eq gz321.symm)
  have sz_b321 : h0.size ≤ b321 := Nat.le_trans KK.1 (Nat.le_of_eq gz321.symm)
  have ne_a1_b321 : a1 ≠ b321 := Nat.ne_of_lt (Nat.lt_of_lt_of_le Vc.lt (Nat.le_of_eq gz321.symm))
  replace Z0 := Nat.le_trans Z0 E321.1
  replace Vc := Vc.ext E321
  replace SA := SA.ext E321
  replace SHI := SHI.ext E321
  replace SLO := SLO.ext E321
  replace KK := KK.ext E321
  have V321 : Arv Z h321 b321 k321 .byte (4 : Int32) [(.int (0 : Int32)), (.int (0 : Int32)), (.int (0 : Int32)), (.int (0 : Int32))] (.int (0 : Int32)) := (Arv.new A321 (by decide)).pad (pad_rep [] (.int (0 : Int32)) 4)
  refine own_of (U' := (T321.setTop (mkF m 3 #[.val (.ref a1), .val (.int (0 : Int32)), .val (.int (4 : Int32)), .unset, .unset, .unset] [(.ref b321)]))) (st321) ?_
  refine own_astoreN X321 hx hby d9_3 rfl (l' := #[.val (.ref a1), .val (.int (0 : Int32)), .val (.int (4 : Int32)), .val (.ref b321), .unset, .unset]) rfl ?_
  refine own_aloadN X321 hx hby d9_4 rfl rfl ?_
  refine own_iloadN X321 hx hby d9_5 rfl ?_
  refine own_aloadN X321 hx hby d9_6 rfl rfl ?_
  refine own_iconst X321 hx hby 0 d9_7 rfl ?_
  refine own_iloadN X321 hx hby d9_8 rfl ?_
  obtain ⟨_, _, ⟨T322, L322, k322, n322⟩, -, X322, ⟨Lc322, hQ322, l322, y322, z322⟩, st322⟩ := Jvm.LawKit.callS X321 hx (y := mN_16) hown (mvT hZ (own_w hw 53 rfl)) (mvT hZ (own_w hw 54 rfl)) (mvT hZ (own_w hw 51 rfl)) (mvT hZ (own_w hw 55 rfl)) (by decide) (backOf (W := 0) (rmcl4_4 l Z a0 hw [] a1 b321 kc k321 c0 c1 c2 c3 h321 n0 Z0 Vc V321 g_b321 ne_a1_b321 hL0 hL1 hL2 hL3) hZ (own_w hw 55 rfl) (own_w hw 51 rfl) (by decide) (by decide)) (g := (mkF m 9 #[.val (.ref a1), .val (.int (0 : Int32)), .val (.int (4 : Int32)), .val (.ref b321), .unset, .unset] [(.int (4 : Int32)), (.int (0 : Int32)), (.ref b321), (.int (0 : Int32)), (.ref a1)])) rfl (by rw [hml]; rfl) (argsL := [(.ref a1), (.int (0 : Int32)), (.ref b321), (.int (0 : Int32)), (.int (4 : Int32))]) (rest := []) (lenOf pd_10 rfl) rfl (by show 2 * 0 + _ ≤ _; exact Nat.le_of_eq rfl) (hb hby d9_9) (fun _ _ => ⟨rfl, e321, (by decide : 1 + 0 ≤ _), (by decide : 4 + 0 ≤ _)⟩)
  dsimp only [Pt.U, Pt.locs, Pt.cells, Pt.slots] at X322 l322 y322 z322 st322 hQ322
  subst l322 y322 z322
  obtain ⟨rfl, Nq322, Kp322, Vq322⟩ := hQ322
  have N322 := Fr.app N0 Nq322
  have nst_b321 := V321.nostat
  replace Z0 := Nat.le_trans Z0 Kp322.1
  replace Vc := Vc.keep Kp322 (ninS ne_a1_b321 nin0)
  replace SA := own_staKeep SA Kp322 (nsS nst_b321 ns0)
  replace SHI := own_staKeep SHI Kp322 (nsS nst_b321 ns0)
  replace SLO := own_staKeep SLO Kp322 (nsS nst_b321 ns0)
  replace KK := KK.trans Kp322 (allS (Or.inr sz_b321) all0)
  refine own_of (U' := (T322.setTop (mkF m 12 #[.val (.ref a1), .val (.int (0 : Int32)), .val (.int (4 : Int32)), .val (.ref b321), .unset, .unset] [(.int (4 : Int32))]))) (st322) ?_
  refine own_istore X322 hx hby d9_12 (l' := #[.val (.ref a1), .val (.int (0 : Int32)), .val (.int (4 : Int32)), .val (.ref b321), .val (.int (4 : Int32)), .unset]) rfl ?_
  refine own_iload X322 hx hby d9_14 rfl ?_
  refine own_iloadN X322 hx hby d9_16 rfl ?_
  have hc17_323 : (4 : Int32) = (4 : Int32) := by decide
  refine own_icmpYes X322 hx hby 17 57 d9_17 (teq hc17_323).1 (by decide) (by decide) ?_
  refine own_aloadN X322 hx hby d9_57 rfl rfl ?_
  exact own_retA X322 hx hlk Bd.returns rfl rfl (hb hby d9_58) (by decide) (by decide) (⟨b321, k321, rfl, N322, KK, sz_b321, Vq322⟩)
theorem ef_cb4 (m : MethodId) (x0 : Addr) : entryFrame m #[(.ref x0), (.int (0 : Int32)), (.int (4 : Int32))] 6 = mkF m 0 #[.val (.ref x0), .val (.int (0 : Int32)), .val (.int (4 : Int32)), .unset, .unset, .unset] [] := by first | (simp [entryFrame, mkF, argsToLocals, Value.category]; done) | rfl
def Qcb4 (Z : State) (c0 c1 c2 c3 : Int32) (h0 : Heap) (n0 : Nat) (v : Option Value) (h : Heap) (L : List Loc) : Prop := ∃ (b : Addr) (kb : ClassId), v = some (.ref b) ∧ Fr n0 L ∧ Keep h0 h [] ∧ h0.size ≤ b ∧ Arv Z h b kb .byte (8 : Int32) [(.int (own_lo8 c0)), (.int (own_hi8 c0)), (.int (own_lo8 c1)), (.int (own_hi8 c1)), (.int (own_lo8 c2)), (.int (own_hi8 c2)), (.int (own_lo8 c3)), (.int (own_hi8 c3))] (.int (0 : Int32))
set_option maxRecDepth 65536 in
set_option maxHeartbeats 40000000 in
theorem rmcb4 (l : Launch) (Z : State) (a0 : Array Value) (hw : ∀ d ∈ tables_1, d.before a0 Z = true) (ws : List Jvm.Cond) (a1 : Addr) (kc : ClassId) (c0 c1 c2 c3 : Int32) (h0 : Heap) (n0 : Nat) (Z0 : n0 ≤ h0.size) (Vc : Arv Z h0 a1 kc .char (4 : Int32) [(.int c0), (.int c1), (.int c2), (.int c3)] (.int (0 : Int32))) (hb0 : 0 ≤ c0.toInt ∧ c0.toInt < 65536) (hb1 : 0 ≤ c1.toInt ∧ c1.toInt < 65536) (hb2 : 0 ≤ c2.toInt ∧ c2.toInt < 65536) (hb3 : 0 ≤ c3.toInt ∧ c3.toInt < 65536) (SA : Sta Z h0 "java/lang/StringUTF16" "$assertionsDisabled" "Z" (.int (1 : Int32))) (SHI : Sta Z h0 "java/lang/StringUTF16" "HI_BYTE_SHIFT" "I" (.int (0 : Int32))) (SLO : Sta Z h0 "java/lang/StringUTF16" "LO_BYTE_SHIFT" "I" (.int (8 : Int32))) (big : ((255 : Int32) < c0) ∨ ((255 : Int32) < c1) ∨ ((255 : Int32) < c2) ∨ ((255 : Int32) < c3)) :
    MetFree l mN_17 (head1 (Jvm.Cond.code mN_17 jdk_52_method_16_code 6 (some (.array .byte)) :: ws) ({ frames := 3, cells := 2, slots := 12, locals := 40 } : Room)) (fun a U => a = #[(.ref a1), (.int (0 : Int32)), (.int (4 : Int32))] ∧ Z.Warmed39 U.vm ∧ U.heap = h0) (fun _ _ _ _ _ => True) (fun _ U o U' => ∃ v L, o = .returned v ∧ (Qcb4 Z c0 c1 c2 c3 h0 n0) v U'.heap L ∧ FrameEnd U o U' L ({ frames := 3, cells := 2, slots := 12, locals := 40 } : Room).cells ({ frames := 3, cells := 2, slots := 12, locals := 40 } : Room).slots) := by
  refine MetFree.of_bodySF (plainFor_of_name pn_2) hisR ?_
  intro p e s m args below meth c s₁ Bd hml0 hP hK
  obtain ⟨rfl, hZ, hh⟩ := hP
  have hx := Bd.exec
  have hby := Bd.bytes
  have hml : c.maxLocals = 6 := hml0
  have hown : s.vm.findClass "java/lang/StringUTF16" = some m.cls := findClass_of_methodNamed Bd.named
  have hnm := (name_of_methodNamed Bd.named Bd.method).1
  have hlk := Bd.notSynchronized
  have X0 : Stand p l e ({ frames := 3, cells := 2, slots := 12, locals := 40 } : Room) s m #[(.ref a1), (.int (0 : Int32)), (.int (4 : Int32))] below meth c s₁ [] 0 0 := Stand.of_body Bd
  have e0 : s₁.heap = h0 := by rw [← hh, Bd.state]; rfl
  have N0 := Fr.nil n0
  have KK := Keep.refl h0 []
  show own_Ends p e below s FrameEnd (Qcb4 Z c0 c1 c2 c3 h0 n0) 2 12 (s₁.setTop (entryFrame m #[(.ref a1), (.int (0 : Int32)), (.int (4 : Int32))] 6))
  refine own_of (U' := (s₁.setTop (mkF m 0 #[.val (.ref a1), .val (.int (0 : Int32)), .val (.int (4 : Int32)), .unset, .unset, .unset] []))) (fun _ k => castTop (ef_cb4 m a1) k) ?_
  refine own_iloadN X0 hx hby d9_0 rfl ?_
  obtain ⟨T324, h324, k324, X324, e324, E324, A324, st324⟩ := newP X0 hx hZ (own_w hw 22 rfl) e0 (g := (mkF m 1 #[.val (.ref a1), .val (.int (0 : Int32)), .val (.int (4 : Int32)), .unset, .unset, .unset] [(.int (4 : Int32))])) rfl (hb hby d9_1) rfl (by decide) (cap := 4) (by decide) (by decide) (by decide) (by decide)
  obtain ⟨b324, gz324⟩ : ∃ z, z = h0.size := ⟨_, rfl⟩
  rw [← gz324] at A324 st324
  have g_b324 : n0 ≤ b324 := Nat.le_trans Z0 (Nat.le_of_eq gz324.symm)
  have sz_b324 : h0.size ≤ b324 := Nat.le_trans KK.1 (Nat.le_of_eq gz324.symm)
  have ne_a1_b324 : a1 ≠ b324 := Nat.ne_of_lt (Nat.lt_of_lt_of_le Vc.lt (Nat.le_of_eq gz324.symm))
  replace Z0 := Nat.le_trans Z0 E324.1
  replace Vc := Vc.ext E324
  replace SA := SA.ext E324
  replace SHI := SHI.ext E324
  replace SLO := SLO.ext E324
  replace KK := KK.ext E324
  have V324 : Arv Z h324 b324 k324 .byte (4 : Int32) [(.int (0 : Int32)), (.int (0 : Int32)), (.int (0 : Int32)), (.int (0 : Int32))] (.int (0 : Int32)) := (Arv.new A324 (by decide)).pad (pad_rep [] (.int (0 : Int32)) 4)
  refine own_of (U' := (T324.setTop (mkF m 3 #[.val (.ref a1), .val (.int (0 : Int32)), .val (.int (4 : Int32)), .unset, .unset, .unset] [(.ref b324)]))) (st324) ?_
  refine own_astoreN X324 hx hby d9_3 rfl (l' := #[.val (.ref a1), .val (.int (0 : Int32)), .val (.int (4 : Int32)), .val (.ref b324), .unset, .unset]) rfl ?_
  refine own_aloadN X324 hx hby d9_4 rfl rfl ?_
  refine own_iloadN X324 hx hby d9_5 rfl ?_
  refine own_aloadN X324 hx hby d9_6 rfl rfl ?_
  refine own_iconst X324 hx hby 0 d9_7 rfl ?_
  refine own_iloadN X324 hx hby d9_8 rfl ?_
  obtain ⟨_, _, ⟨T325, L325, k325, n325⟩, -, X325, ⟨Lc325, hQ325, l325, y325, z325⟩, st325⟩ := Jvm.LawKit.callS X324 hx (y := mN_16) hown (mvT hZ (own_w hw 53 rfl)) (mvT hZ (own_w hw 54 rfl)) (mvT hZ (own_w hw 51 rfl)) (mvT hZ (own_w hw 55 rfl)) (by decide) (backOf (W := 0) (rmclb4 l Z a0 hw [] a1 b324 kc k324 c0 c1 c2 c3 h324 n0 Z0 Vc V324 g_b324 ne_a1_b324 hb0 hb1 hb2 hb3 big) hZ (own_w hw 55 rfl) (own_w hw 51 rfl) (by decide) (by decide)) (g := (mkF m 9 #[.val (.ref a1), .val (.int (0 : Int32)), .val (.int (4 : Int32)), .val (.ref b324), .unset, .unset] [(.int (4 : Int32)), (.int (0 : Int32)), (.ref b324), (.int (0 : Int32)), (.ref a1)])) rfl (by rw [hml]; rfl) (argsL := [(.ref a1), (.int (0 : Int32)), (.ref b324), (.int (0 : Int32)), (.int (4 : Int32))]) (rest := []) (lenOf pd_10 rfl) rfl (by show 2 * 0 + _ ≤ _; exact Nat.le_of_eq rfl) (hb hby d9_9) (fun _ _ => ⟨rfl, e324, (by decide : 1 + 0 ≤ _), (by decide : 4 + 0 ≤ _)⟩)
  dsimp only [Pt.U, Pt.locs, Pt.cells, Pt.slots] at X325 l325 y325 z325 st325 hQ325
  subst l325 y325 z325
  obtain ⟨r325, rfl, Nq325, Kp325, nr325, i1, i2, i3, i4, bg325⟩ := hQ325
  have N325 := Fr.app N0 Nq325
  have nst_b324 := V324.nostat
  replace Z0 := Nat.le_trans Z0 Kp325.1
  replace Vc := Vc.keep Kp325 (ninS ne_a1_b324 nin0)
  replace SA := own_staKeep SA Kp325 (nsS nst_b324 ns0)
  replace SHI := own_staKeep SHI Kp325 (nsS nst_b324 ns0)
  replace SLO := own_staKeep SLO Kp325 (nsS nst_b324 ns0)
  replace KK := KK.trans Kp325 (allS (Or.inr sz_b324) all0)
  refine own_of (U' := (T325.setTop (mkF m 12 #[.val (.ref a1), .val (.int (0 : Int32)), .val (.int (4 : Int32)), .val (.ref b324), .unset, .unset] [(.int r325)]))) (st325) ?_
  refine own_istore X325 hx hby d9_12 (l' := #[.val (.ref a1), .val (.int (0 : Int32)), .val (.int (4 : Int32)), .val (.ref b324), .val (.int r325), .unset]) rfl ?_
  refine own_iload X325 hx hby d9_14 rfl ?_
  refine own_iloadN X325 hx hby d9_16 rfl ?_
  have hc17_326 : ¬ (r325 = (4 : Int32)) := nr325
  refine own_icmpNo X325 hx hby d9_17 (feq hc17_326).1 ?_
  refine own_aloadN X325 hx hby d9_20 rfl rfl ?_
  refine own_iloadN X325 hx hby d9_21 rfl ?_
  refine own_iloadN X325 hx hby d9_22 rfl ?_
  obtain ⟨_, _, ⟨T327, L327, k327, n327⟩, -, X327, ⟨Lc327, hQ327, l327, y327, z327⟩, st327⟩ := Jvm.LawKit.callS X325 hx (y := mN_15) hown (mvT hZ (own_w hw 84 rfl)) (mvT hZ (own_w hw 85 rfl)) (mvT hZ (own_w hw 51 rfl)) (mvT hZ (own_w hw 86 rfl)) (by decide) (backOf (W := 0) (rmtb4 l Z a0 hw [] a1 kc c0 c1 c2 c3 T325.heap n0 Z0 Vc SA SHI SLO) hZ (own_w hw 86 rfl) (own_w hw 51 rfl) (by decide) (by decide)) (g := (mkF m 23 #[.val (.ref a1), .val (.int (0 : Int32)), .val (.int (4 : Int32)), .val (.ref b324), .val (.int r325), .unset] [(.int (4 : Int32)), (.int (0 : Int32)), (.ref a1)])) rfl (by rw [hml]; rfl) (argsL := [(.ref a1), (.int (0 : Int32)), (.int (4 : Int32))]) (rest := []) (lenOf pd_11 rfl) rfl (by show 2 * 0 + _ ≤ _; exact Nat.le_of_eq rfl) (hb hby d9_23) (fun _ _ => ⟨rfl, rfl, (by decide : 1 + 1 ≤ _), (by decide : 4 + 8 ≤ _)⟩)
  dsimp only [Pt.U, Pt.locs, Pt.cells, Pt.slots] at X327 l327 y327 z327 st327 hQ327
  subst l327 y327 z327
  obtain ⟨u327, ku327, rfl, Nq327, Kp327, gq327, Vq327⟩ := hQ327
  have g_u327 : n0 ≤ u327 := Nat.le_trans Z0 gq327
  have sz_u327 : h0.size ≤ u327 := Nat.le_trans KK.1 gq327
  have ne_a1_u327 : a1 ≠ u327 := Nat.ne_of_lt (Nat.lt_of_lt_of_le Vc.lt gq327)
  have N327 := Fr.app N325 Nq327
  replace Z0 := Nat.le_trans Z0 Kp327.1
  replace Vc := Vc.keep Kp327 nin0
  replace SA := own_staKeep SA Kp327 ns0
  replace SHI := own_staKeep SHI Kp327 ns0
  replace SLO := own_staKeep SLO Kp327 ns0
  replace KK := KK.trans Kp327 all0
  refine own_of (U' := (T327.setTop (mkF m 26 #[.val (.ref a1), .val (.int (0 : Int32)), .val (.int (4 : Int32)), .val (.ref b324), .val (.int r325), .unset] [(.ref u327)]))) (st327) ?_
  refine own_astore X327 hx hby d9_26 rfl (l' := #[.val (.ref a1), .val (.int (0 : Int32)), .val (.int (4 : Int32)), .val (.ref b324), .val (.int r325), .val (.ref u327)]) rfl ?_
  refine own_aload X327 hx hby d9_28 rfl rfl ?_
  refine own_iload X327 hx hby d9_30 rfl ?_
  obtain ⟨_, _, ⟨T328, L328, k328, n328⟩, -, X328, ⟨Lc328, hQ328, l328, y328, z328⟩, st328⟩ := Jvm.LawKit.callS X327 hx (y := mN_4) hown (mvT hZ (own_w hw 100 rfl)) (mvT hZ (own_w hw 101 rfl)) (mvT hZ (own_w hw 51 rfl)) (mvT hZ (own_w hw 102 rfl)) (by decide) (backOf (W := 0) (rmug l Z a0 hw [] u327 r325 ku327 (8 : Int32) [(own_lo8 c0), (own_hi8 c0), (own_lo8 c1), (own_hi8 c1), (own_lo8 c2), (own_hi8 c2), (own_lo8 c3), (own_hi8 c3)] T327.heap n0 Z0 Vq327 i1 i2 i3 i4 SA SHI SLO) hZ (own_w hw 102 rfl) (own_w hw 51 rfl) (by decide) (by decide)) (g := (mkF m 32 #[.val (.ref a1), .val (.int (0 : Int32)), .val (.int (4 : Int32)), .val (.ref b324), .val (.int r325), .val (.ref u327)] [(.int r325), (.ref u327)])) rfl (by rw [hml]; rfl) (argsL := [(.ref u327), (.int r325)]) (rest := []) (lenOf pd_4 rfl) rfl (by show 2 * 0 + _ ≤ _; exact Nat.le_of_eq rfl) (hb hby d9_32) (fun _ _ => ⟨rfl, rfl, (by decide : 2 + 0 ≤ _), (by decide : 12 + 0 ≤ _)⟩)
  dsimp only [Pt.U, Pt.locs, Pt.cells, Pt.slots] at X328 l328 y328 z328 st328 hQ328
  subst l328 y328 z328
  obtain ⟨rfl, Nq328, e328⟩ := hQ328
  have N328 := Fr.app N327 Nq328
  refine own_of (U' := (T328.setTop (mkF m 35 #[.val (.ref a1), .val (.int (0 : Int32)), .val (.int (4 : Int32)), .val (.ref b324), .val (.int r325), .val (.ref u327)] [(.int (own_chu [(own_lo8 c0), (own_hi8 c0), (own_lo8 c1), (own_hi8 c1), (own_lo8 c2), (own_hi8 c2), (own_lo8 c3), (own_hi8 c3)] r325))]))) (st328) ?_
  refine own_sipush X328 hx hby 255 d9_35 rfl ?_
  have hc38_329 : (255 : Int32) < (own_chu [(own_lo8 c0), (own_hi8 c0), (own_lo8 c1), (own_hi8 c1), (own_lo8 c2), (own_hi8 c2), (own_lo8 c3), (own_hi8 c3)] r325) := bg325
  refine own_icmpYes X328 hx hby 38 54 d9_38 (tlt hc38_329).2.2.1 (by decide) (by decide) ?_
  refine own_aload X328 hx hby d9_54 rfl rfl ?_
  exact own_retA X328 hx hlk Bd.returns rfl rfl (hb hby d9_56) (by decide) (by decide) (by rw [e328]; exact ⟨u327, ku327, rfl, N328, KK, sz_u327, Vq327⟩)
theorem ef_cf4_4 (m : MethodId) (x0 : Addr) : entryFrame m #[(.ref x0), (.int (4 : Int32))] 2 = mkF m 0 #[.val (.ref x0), .val (.int (4 : Int32))] [] := by first | (simp [entryFrame, mkF, argsToLocals, Value.category]; done) | rfl
set_option maxRecDepth 65536 in
set_option maxHeartbeats 40000000 in
theorem rmcf4_4 (l : Launch) (Z : State) (a0 : Array Value) (hw : ∀ d ∈ tables_1, d.before a0 Z = true) (ws : List Jvm.Cond) (b : Addr) (kb : ClassId) (cs : List Int32) (h0 : Heap) (n0 : Nat) (Z0 : n0 ≤ h0.size) (Vb : Arv Z h0 b kb .byte (4 : Int32) (cs.map Value.int) (.int (0 : Int32))) :
    MetFree l mN_18 (head1 (Jvm.Cond.code mN_18 jdk_52_method_15_code 2 (some .byte) :: ws) ({ frames := 0, cells := 0, slots := 0, locals := 0 } : Room)) (fun a U => a = #[(.ref b), (.int (4 : Int32))] ∧ Z.Warmed39 U.vm ∧ U.heap = h0) (fun _ _ _ _ _ => True) (fun _ U o U' => ∃ v L, o = .returned v ∧ (Qv 0 h0 n0) v U'.heap L ∧ FrameEnd U o U' L ({ frames := 0, cells := 0, slots := 0, locals := 0 } : Room).cells ({ frames := 0, cells := 0, slots := 0, locals := 0 } : Room).slots) := by
  refine MetFree.of_bodySF (plainFor_of_name pn_2) hisR ?_
  intro p e s m args below meth c s₁ Bd hml0 hP hK
  obtain ⟨rfl, hZ, hh⟩ := hP
  have hx := Bd.exec
  have hby := Bd.bytes
  have hml : c.maxLocals = 2 := hml0
  have hown : s.vm.findClass "java/lang/StringUTF16" = some m.cls := findClass_of_methodNamed Bd.named
  have hnm := (name_of_methodNamed Bd.named Bd.method).1
  have hlk := Bd.notSynchronized
  have X0 : Stand p l e ({ frames := 0, cells := 0, slots := 0, locals := 0 } : Room) s m #[(.ref b), (.int (4 : Int32))] below meth c s₁ [] 0 0 := Stand.of_body Bd
  have e0 : s₁.heap = h0 := by rw [← hh, Bd.state]; rfl
  have N0 := Fr.nil n0
  show own_Ends p e below s FrameEnd (Qv 0 h0 n0) 0 0 (s₁.setTop (entryFrame m #[(.ref b), (.int (4 : Int32))] 2))
  refine own_of (U' := (s₁.setTop (mkF m 0 #[.val (.ref b), .val (.int (4 : Int32))] []))) (fun _ k => castTop (ef_cf4_4 m b) k) ?_
  refine own_iloadN X0 hx hby d11_0 rfl ?_
  refine own_aloadN X0 hx hby d11_1 rfl rfl ?_
  obtain ⟨cl330, Ar330, qa330, Sa330, Na330, -, -⟩ := id Vb
  have al330 := X0.arraylength hx (by rw [e0]; exact Ar330.1) (State.isArrayOf_alike hZ.alike Ar330.2.1) (g := (mkF m 2 #[.val (.ref b), .val (.int (4 : Int32))] [(.ref b), (.int (4 : Int32))])) rfl rfl (hb hby d11_2)
  rw [len_of Sa330 Na330] at al330
  refine own_of (U' := (s₁.setTop (mkF m 3 #[.val (.ref b), .val (.int (4 : Int32))] [(.int (4 : Int32)), (.int (4 : Int32))]))) (al330) ?_
  refine own_isub X0 hx hby d11_3 ?_
  refine own_eq (U' := (s₁.setTop (mkF m 4 #[.val (.ref b), .val (.int (4 : Int32))] [(.int (0 : Int32))]))) (by rw [show ((4 : Int32) - (4 : Int32)) = (0 : Int32) by decide]) ?_
  refine own_bipush X0 hx hby 31 d11_4 rfl ?_
  refine own_iushr X0 hx hby d11_6 ?_
  refine own_eq (U' := (s₁.setTop (mkF m 7 #[.val (.ref b), .val (.int (4 : Int32))] [(.int (0 : Int32))]))) (by rw [show (XT.ushr (0 : Int32) (31 : Int32)) = (0 : Int32) by decide]) ?_
  refine own_i2b X0 hx hby d11_7 ?_
  refine own_eq (U' := (s₁.setTop (mkF m 8 #[.val (.ref b), .val (.int (4 : Int32))] [(.int (0 : Int32))]))) (by rw [show ((0 : Int32).toInt8.toInt32) = (0 : Int32) by decide]) ?_
  exact own_retN X0 hx hlk (t := .byte) Bd.returns (by simp) (hb hby d11_8) (by decide) (by decide) (⟨rfl, N0, e0⟩)
theorem ef_cf4_8 (m : MethodId) (x0 : Addr) : entryFrame m #[(.ref x0), (.int (4 : Int32))] 2 = mkF m 0 #[.val (.ref x0), .val (.int (4 : Int32))] [] := by first | (simp [entryFrame, mkF, argsToLocals, Value.category]; done) | rfl
set_option maxRecDepth 65536 in
set_option maxHeartbeats 40000000 in
theorem rmcf4_8 (l : Launch) (Z : State) (a0 : Array Value) (hw : ∀ d ∈ tables_1, d.before a0 Z = true) (ws : List Jvm.Cond) (b : Addr) (kb : ClassId) (cs : List Int32) (h0 : Heap) (n0 : Nat) (Z0 : n0 ≤ h0.size) (Vb : Arv Z h0 b kb .byte (8 : Int32) (cs.map Value.int) (.int (0 : Int32))) :
    MetFree l mN_18 (head1 (Jvm.Cond.code mN_18 jdk_52_method_15_code 2 (some .byte) :: ws) ({ frames := 0, cells := 0, slots := 0, locals := 0 } : Room)) (fun a U => a = #[(.ref b), (.int (4 : Int32))] ∧ Z.Warmed39 U.vm ∧ U.heap = h0) (fun _ _ _ _ _ => True) (fun _ U o U' => ∃ v L, o = .returned v ∧ (Qv 1 h0 n0) v U'.heap L ∧ FrameEnd U o U' L ({ frames := 0, cells := 0, slots := 0, locals := 0 } : Room).cells ({ frames := 0, cells := 0, slots := 0, locals := 0 } : Room).slots) := by
  refine MetFree.of_bodySF (plainFor_of_name pn_2) hisR ?_
  intro p e s m args below meth c s₁ Bd hml0 hP hK
  obtain ⟨rfl, hZ, hh⟩ := hP
  have hx := Bd.exec
  have hby := Bd.bytes
  have hml : c.maxLocals = 2 := hml0
  have hown : s.vm.findClass "java/lang/StringUTF16" = some m.cls := findClass_of_methodNamed Bd.named
  have hnm := (name_of_methodNamed Bd.named Bd.method).1
  have hlk := Bd.notSynchronized
  have X0 : Stand p l e ({ frames := 0, cells := 0, slots := 0, locals := 0 } : Room) s m #[(.ref b), (.int (4 : Int32))] below meth c s₁ [] 0 0 := Stand.of_body Bd
  have e0 : s₁.heap = h0 := by rw [← hh, Bd.state]; rfl
  have N0 := Fr.nil n0
  show own_Ends p e below s FrameEnd (Qv 1 h0 n0) 0 0 (s₁.setTop (entryFrame m #[(.ref b), (.int (4 : Int32))] 2))
  refine own_of (U' := (s₁.setTop (mkF m 0 #[.val (.ref b), .val (.int (4 : Int32))] []))) (fun _ k => castTop (ef_cf4_8 m b) k) ?_
  refine own_iloadN X0 hx hby d11_0 rfl ?_
  refine own_aloadN X0 hx hby d11_1 rfl rfl ?_
  obtain ⟨cl331, Ar331, qa331, Sa331, Na331, -, -⟩ := id Vb
  have al331 := X0.arraylength hx (by rw [e0]; exact Ar331.1) (State.isArrayOf_alike hZ.alike Ar331.2.1) (g := (mkF m 2 #[.val (.ref b), .val (.int (4 : Int32))] [(.ref b), (.int (4 : Int32))])) rfl rfl (hb hby d11_2)
  rw [len_of Sa331 Na331] at al331
  refine own_of (U' := (s₁.setTop (mkF m 3 #[.val (.ref b), .val (.int (4 : Int32))] [(.int (8 : Int32)), (.int (4 : Int32))]))) (al331) ?_
  refine own_isub X0 hx hby d11_3 ?_
  refine own_eq (U' := (s₁.setTop (mkF m 4 #[.val (.ref b), .val (.int (4 : Int32))] [(.int (-4 : Int32))]))) (by rw [show ((4 : Int32) - (8 : Int32)) = (-4 : Int32) by decide]) ?_
  refine own_bipush X0 hx hby 31 d11_4 rfl ?_
  refine own_iushr X0 hx hby d11_6 ?_
  refine own_eq (U' := (s₁.setTop (mkF m 7 #[.val (.ref b), .val (.int (4 : Int32))] [(.int (1 : Int32))]))) (by rw [show (XT.ushr (-4 : Int32) (31 : Int32)) = (1 : Int32) by decide]) ?_
  refine own_i2b X0 hx hby d11_7 ?_
  refine own_eq (U' := (s₁.setTop (mkF m 8 #[.val (.ref b), .val (.int (4 : Int32))] [(.int (1 : Int32))]))) (by rw [show ((1 : Int32).toInt8.toInt32) = (1 : Int32) by decide]) ?_
  exact own_retN X0 hx hlk (t := .byte) Bd.returns (by simp) (hb hby d11_8) (by decide) (by decide) (⟨rfl, N0, e0⟩)
theorem ef_sv4 (m : MethodId) (x0 : Addr) (x1 : Addr) : entryFrame m #[(.ref x0), (.ref x1), (.int (0 : Int32)), (.int (4 : Int32)), .null] 6 = mkF m 0 #[.val (.ref x0), .val (.ref x1), .val (.int (0 : Int32)), .val (.int (4 : Int32)), .val .null, .unset] [] := by first | (simp [entryFrame, mkF, argsToLocals, Value.category]; done) | rfl
def Qsv4 (Z : State) (a1 : Addr) (c0 c1 c2 c3 : Int32) (h0 : Heap) (n0 : Nat) (v : Option Value) (h : Heap) (L : List Loc) : Prop := v = none ∧ Fr n0 L ∧ Keep h0 h [a1] ∧ own_Str Z h a1 (4 : Int32) (8 : Int32) [c0, c1, c2, c3]
set_option maxRecDepth 65536 in
set_option maxHeartbeats 40000000 in
theorem rmsv4 (l : Launch) (Z : State) (a0 : Array Value) (hw : ∀ d ∈ tables_1, d.before a0 Z = true) (ws : List Jvm.Cond) (a1 a2 : Addr) (kc : ClassId) (c0 c1 c2 c3 : Int32) (g1 : Int32) (h0 : Heap) (n0 : Nat) (Z0 : n0 ≤ h0.size) (E1 : Exa Z h0 a1 "java/lang/String") (Fc : Fld Z h0 a1 "java/lang/String" "coder" "B" (.int (0 : Int32))) (Fv : Fld Z h0 a1 "java/lang/String" "value" "[B" .null) (Vc : Arv Z h0 a2 kc .char (4 : Int32) [(.int c0), (.int c1), (.int c2), (.int c3)] (.int (0 : Int32))) (g_a1 : n0 ≤ a1) (hb0 : 0 ≤ c0.toInt ∧ c0.toInt < 65536) (hb1 : 0 ≤ c1.toInt ∧ c1.toInt < 65536) (hb2 : 0 ≤ c2.toInt ∧ c2.toInt < 65536) (hb3 : 0 ≤ c3.toInt ∧ c3.toInt < 65536) (SC : Sta Z h0 "java/lang/String" "COMPACT_STRINGS" "Z" (.int g1)) (hg1 : ¬ (g1 = (0 : Int32))) (SA : Sta Z h0 "java/lang/StringUTF16" "$assertionsDisabled" "Z" (.int (1 : Int32))) (SHI : Sta Z h0 "java/lang/StringUTF16" "HI_BYTE_SHIFT" "I" (.int (0 : Int32))) (SLO : Sta Z h0 "java/lang/StringUTF16" "LO_BYTE_SHIFT" "I" (.int (8 : Int32))) :
    MetFree l mN_19 (head1 (Jvm.Cond.code mN_19 jdk_42_method_149_code 6 none :: ws) ({ frames := 4, cells := 2, slots := 12, locals := 57 } : Room)) (fun a U => a = #[(.ref a1), (.ref a2), (.int (0 : Int32)), (.int (4 : Int32)), .null] ∧ Z.Warmed39 U.vm ∧ U.heap = h0) (fun _ _ _ _ _ => True) (fun _ U o U' => ∃ v L, o = .returned v ∧ (Qsv4 Z a1 c0 c1 c2 c3 h0 n0) v U'.heap L ∧ FrameEnd U o U' L ({ frames := 4, cells := 2, slots := 12, locals := 57 } : Room).cells ({ frames := 4, cells := 2, slots := 12, locals := 57 } : Room).slots) := by
  refine MetFree.of_bodySF (plainFor_of_name pn_1) hisR ?_
  intro p e s m args below meth c s₁ Bd hml0 hP hK
  obtain ⟨rfl, hZ, hh⟩ := hP
  have hx := Bd.exec
  have hby := Bd.bytes
  have hml : c.maxLocals = 6 := hml0
  have hown : s.vm.findClass "java/lang/String" = some m.cls := findClass_of_methodNamed Bd.named
  have hnm := (name_of_methodNamed Bd.named Bd.method).1
  have hlk := Bd.notSynchronized
  have X0 : Stand p l e ({ frames := 4, cells := 2, slots := 12, locals := 57 } : Room) s m #[(.ref a1), (.ref a2), (.int (0 : Int32)), (.int (4 : Int32)), .null] below meth c s₁ [] 0 0 := Stand.of_body Bd
  have e0 : s₁.heap = h0 := by rw [← hh, Bd.state]; rfl
  have N0 := Fr.nil n0
  have KK := Keep.refl h0 [a1]
  show own_Ends p e below s FrameEnd (Qsv4 Z a1 c0 c1 c2 c3 h0 n0) 2 12 (s₁.setTop (entryFrame m #[(.ref a1), (.ref a2), (.int (0 : Int32)), (.int (4 : Int32)), .null] 6))
  refine own_of (U' := (s₁.setTop (mkF m 0 #[.val (.ref a1), .val (.ref a2), .val (.int (0 : Int32)), .val (.int (4 : Int32)), .val .null, .unset] []))) (fun _ k => castTop (ef_sv4 m a1 a2) k) ?_
  refine own_aloadN X0 hx hby d3_0 rfl rfl ?_
  obtain ⟨T332, X332, e332, st332⟩ := initO X0 hx hZ hown (own_w hw 18 rfl) (own_w hw 19 rfl) (own_w hw 20 rfl) e0 (g := (mkF m 1 #[.val (.ref a1), .val (.ref a2), .val (.int (0 : Int32)), .val (.int (4 : Int32)), .val .null, .unset] [(.ref a1)])) rfl (by rw [hml]; rfl) rfl (hb hby d3_1) (by decide) (W := 0) (by show 2 * 0 + _ ≤ _; exact Nat.le_of_eq rfl) (by decide)
  refine own_of (U' := (T332.setTop (mkF m 4 #[.val (.ref a1), .val (.ref a2), .val (.int (0 : Int32)), .val (.int (4 : Int32)), .val .null, .unset] []))) (st332) ?_
  refine own_iloadN X332 hx hby d3_4 rfl ?_
  have hc5_333 : ¬ ((4 : Int32) = (0 : Int32)) := by decide
  refine own_ifYes X332 hx hby 5 27 d3_5 ((if0 _ _).trans (feq hc5_333).2) (by decide) (by decide) ?_
  obtain ⟨T334, X334, e334, st334⟩ := getS2 X332 hx hZ hown (host := "") (Or.inl (own_w hw 48 rfl)) Via.refl e332 SC (g := (mkF m 27 #[.val (.ref a1), .val (.ref a2), .val (.int (0 : Int32)), .val (.int (4 : Int32)), .val .null, .unset] [])) rfl (hb hby d3_27)
  refine own_of (U' := (T334.setTop (mkF m 30 #[.val (.ref a1), .val (.ref a2), .val (.int (0 : Int32)), .val (.int (4 : Int32)), .val .null, .unset] [(.int g1)]))) (st334) ?_
  have hc30_335 : ¬ (g1 = (0 : Int32)) := hg1
  refine own_ifNo X334 hx hby d3_30 ((if0 _ _).trans (feq hc30_335).1) ?_
  by_cases qB : ((255 : Int32) < c0) ∨ ((255 : Int32) < c1) ∨ ((255 : Int32) < c2) ∨ ((255 : Int32) < c3)
  · skip
    refine own_aloadN X334 hx hby d3_33 rfl rfl ?_
    refine own_iloadN X334 hx hby d3_34 rfl ?_
    refine own_iloadN X334 hx hby d3_35 rfl ?_
    obtain ⟨_, _, ⟨T336, L336, k336, n336⟩, -, X336, ⟨Lc336, hQ336, l336, y336, z336⟩, st336⟩ := Jvm.LawKit.callS X334 hx (y := mN_17) hown (mvT hZ (own_w hw 49 rfl)) (mvT hZ (own_w hw 50 rfl)) (mvT hZ (own_w hw 51 rfl)) (mvT hZ (own_w hw 52 rfl)) (by decide) (backOf (W := 0) (rmcb4 l Z a0 hw [] a2 kc c0 c1 c2 c3 h0 n0 Z0 Vc hb0 hb1 hb2 hb3 SA SHI SLO qB) hZ (own_w hw 52 rfl) (own_w hw 51 rfl) (by decide) (by decide)) (g := (mkF m 36 #[.val (.ref a1), .val (.ref a2), .val (.int (0 : Int32)), .val (.int (4 : Int32)), .val .null, .unset] [(.int (4 : Int32)), (.int (0 : Int32)), (.ref a2)])) rfl (by rw [hml]; rfl) (argsL := [(.ref a2), (.int (0 : Int32)), (.int (4 : Int32))]) (rest := []) (lenOf pd_11 rfl) rfl (by show 2 * 0 + _ ≤ _; exact Nat.le_of_eq rfl) (hb hby d3_36) (fun _ _ => ⟨rfl, e334, (by decide : 0 + 2 ≤ _), (by decide : 0 + 12 ≤ _)⟩)
    dsimp only [Pt.U, Pt.locs, Pt.cells, Pt.slots] at X336 l336 y336 z336 st336 hQ336
    subst l336 y336 z336
    obtain ⟨u336, ku336, rfl, Nq336, Kp336, gq336, Vq336⟩ := hQ336
    have g_u336 : n0 ≤ u336 := Nat.le_trans Z0 gq336
    have sz_u336 : h0.size ≤ u336 := Nat.le_trans KK.1 gq336
    have ne_a1_u336 : a1 ≠ u336 := Nat.ne_of_lt (Nat.lt_of_lt_of_le E1.lt gq336)
    have ne_a2_u336 : a2 ≠ u336 := Nat.ne_of_lt (Nat.lt_of_lt_of_le Vc.lt gq336)
    have N336 := Fr.app N0 Nq336
    replace Z0 := Nat.le_trans Z0 Kp336.1
    replace E1 := E1.keep Kp336
    replace Fc := Fc.keep Kp336 nin0
    replace Fv := Fv.keep Kp336 nin0
    replace Vc := Vc.keep Kp336 nin0
    replace SC := own_staKeep SC Kp336 ns0
    replace SA := own_staKeep SA Kp336 ns0
    replace SHI := own_staKeep SHI Kp336 ns0
    replace SLO := own_staKeep SLO Kp336 ns0
    replace KK := KK.trans Kp336 all0
    refine own_of (U' := (T336.setTop (mkF m 39 #[.val (.ref a1), .val (.ref a2), .val (.int (0 : Int32)), .val (.int (4 : Int32)), .val .null, .unset] [(.ref u336)]))) (st336) ?_
    refine own_astore X336 hx hby d3_39 rfl (l' := #[.val (.ref a1), .val (.ref a2), .val (.int (0 : Int32)), .val (.int (4 : Int32)), .val .null, .val (.ref u336)]) rfl ?_
    refine own_aloadN X336 hx hby d3_41 rfl rfl ?_
    refine own_aload X336 hx hby d3_42 rfl rfl ?_
    refine own_iloadN X336 hx hby d3_44 rfl ?_
    obtain ⟨_, _, ⟨T337, L337, k337, n337⟩, -, X337, ⟨Lc337, hQ337, l337, y337, z337⟩, st337⟩ := Jvm.LawKit.callS X336 hx (y := mN_18) hown (mvT hZ (own_w hw 56 rfl)) (mvT hZ (own_w hw 57 rfl)) (mvT hZ (own_w hw 51 rfl)) (mvT hZ (own_w hw 58 rfl)) (by decide) (backOf (W := 1) (rmcf4_8 l Z a0 hw [] u336 ku336 [(own_lo8 c0), (own_hi8 c0), (own_lo8 c1), (own_hi8 c1), (own_lo8 c2), (own_hi8 c2), (own_lo8 c3), (own_hi8 c3)] T336.heap n0 Z0 Vq336) hZ (own_w hw 58 rfl) (own_w hw 51 rfl) (by decide) (by decide)) (g := (mkF m 45 #[.val (.ref a1), .val (.ref a2), .val (.int (0 : Int32)), .val (.int (4 : Int32)), .val .null, .val (.ref u336)] [(.int (4 : Int32)), (.ref u336), (.ref a1)])) rfl (by rw [hml]; rfl) (argsL := [(.ref u336), (.int (4 : Int32))]) (rest := [(.ref a1)]) (lenOf pd_12 rfl) rfl (by show 2 * 0 + _ ≤ _; exact Nat.le_of_eq rfl) (hb hby d3_45) (fun _ _ => ⟨rfl, rfl, (by decide : 2 + 0 ≤ _), (by decide : 12 + 0 ≤ _)⟩)
    dsimp only [Pt.U, Pt.locs, Pt.cells, Pt.slots] at X337 l337 y337 z337 st337 hQ337
    subst l337 y337 z337
    obtain ⟨rfl, Nq337, e337⟩ := hQ337
    have N337 := Fr.app N336 Nq337
    refine own_of (U' := (T337.setTop (mkF m 48 #[.val (.ref a1), .val (.ref a2), .val (.int (0 : Int32)), .val (.int (4 : Int32)), .val .null, .val (.ref u336)] [(.int (1 : Int32)), (.ref a1)]))) (st337) ?_
    obtain ⟨T338, h338, X338, e338, W338, st338⟩ := putFN X337 hx hZ hown (own_w hw 28 rfl) Via.refl e337 Fc E1 (Or.inr ⟨(own_w hw 24 rfl), rfl, hnm⟩) (own_w hw 9 rfl) (ty := .byte) (v' := (.int (1 : Int32))) (by decide) rfl (by decide) (g := (mkF m 48 #[.val (.ref a1), .val (.ref a2), .val (.int (0 : Int32)), .val (.int (4 : Int32)), .val .null, .val (.ref u336)] [(.int (1 : Int32)), (.ref a1)])) rfl rfl (hb hby d3_48)
    replace Z0 := Nat.le_trans Z0 (Keep.of_wr W338).1
    replace E1 := E1.wr W338
    replace Fc := Fc.same W338
    replace Fv := Fv.other W338 (Or.inr (slot_ne (Or.inr (own_w hw 23 rfl)) (Or.inr (own_w hw 24 rfl)) (by decide) (t := (.array .byte)) (t' := .byte) (by decide) (by decide)))
    replace SC := SC.wr W338
    replace SA := SA.wr W338
    replace SHI := SHI.wr W338
    replace SLO := SLO.wr W338
    replace KK := KK.wr W338 (Or.inl (List.mem_of_getElem? (i := 0) rfl))
    replace Vq336 := Vq336.other W338 (Ne.symm ne_a1_u336)
    have N338 := Fr.snoc X338 N337 g_a1
    refine own_of (U' := (T338.setTop (mkF m 51 #[.val (.ref a1), .val (.ref a2), .val (.int (0 : Int32)), .val (.int (4 : Int32)), .val .null, .val (.ref u336)] []))) (st338) ?_
    refine own_aloadN X338 hx hby d3_51 rfl rfl ?_
    refine own_aload X338 hx hby d3_52 rfl rfl ?_
    obtain ⟨T339, h339, X339, e339, W339, st339⟩ := putF X338 hx hZ hown (host := "") (Or.inl (own_w hw 27 rfl)) Via.refl e338 Fv E1 (Or.inr ⟨(own_w hw 23 rfl), rfl, hnm⟩) (own_w hw 9 rfl) (ty := (.array .byte)) (by decide) rfl rfl (g := (mkF m 54 #[.val (.ref a1), .val (.ref a2), .val (.int (0 : Int32)), .val (.int (4 : Int32)), .val .null, .val (.ref u336)] [(.ref u336), (.ref a1)])) rfl rfl (hb hby d3_54)
    replace Z0 := Nat.le_trans Z0 (Keep.of_wr W339).1
    replace E1 := E1.wr W339
    replace Fc := Fc.other W339 (Or.inr (slot_ne (Or.inr (own_w hw 24 rfl)) (Or.inr (own_w hw 23 rfl)) (by decide) (t := .byte) (t' := (.array .byte)) (by decide) (by decide)))
    replace Fv := Fv.same W339
    replace SC := SC.wr W339
    replace SA := SA.wr W339
    replace SHI := SHI.wr W339
    replace SLO := SLO.wr W339
    replace KK := KK.wr W339 (Or.inl (List.mem_of_getElem? (i := 0) rfl))
    replace Vq336 := Vq336.other W339 (Ne.symm ne_a1_u336)
    have N339 := Fr.snoc X339 N338 g_a1
    refine own_of (U' := (T339.setTop (mkF m 57 #[.val (.ref a1), .val (.ref a2), .val (.int (0 : Int32)), .val (.int (4 : Int32)), .val .null, .val (.ref u336)] []))) (st339) ?_
    exact own_ret0 X339 hx hlk Bd.returns (hb hby d3_57) (by decide) (by decide) (by rw [e339]; exact ⟨rfl, N339, KK, ⟨E1, u336, ku336, Fv, Or.inr ⟨Fc, Vq336⟩⟩⟩)
  · skip
    have qB0 : ¬ ((255 : Int32) < c0) := fun z => qB (Or.inl z)
    have qB1 : ¬ ((255 : Int32) < c1) := fun z => qB (Or.inr (Or.inl z))
    have qB2 : ¬ ((255 : Int32) < c2) := fun z => qB (Or.inr (Or.inr (Or.inl z)))
    have qB3 : ¬ ((255 : Int32) < c3) := fun z => qB (Or.inr (Or.inr (Or.inr z)))
    refine own_aloadN X334 hx hby d3_33 rfl rfl ?_
    refine own_iloadN X334 hx hby d3_34 rfl ?_
    refine own_iloadN X334 hx hby d3_35 rfl ?_
    obtain ⟨_, _, ⟨T340, L340, k340, n340⟩, -, X340, ⟨Lc340, hQ340, l340, y340, z340⟩, st340⟩ := Jvm.LawKit.callS X334 hx (y := mN_17) hown (mvT hZ (own_w hw 49 rfl)) (mvT hZ (own_w hw 50 rfl)) (mvT hZ (own_w hw 51 rfl)) (mvT hZ (own_w hw 52 rfl)) (by decide) (backOf (W := 0) (rmcl4 l Z a0 hw [] a2 kc c0 c1 c2 c3 h0 n0 Z0 Vc hb0 hb1 hb2 hb3 SA SHI SLO qB0 qB1 qB2 qB3) hZ (own_w hw 52 rfl) (own_w hw 51 rfl) (by decide) (by decide)) (g := (mkF m 36 #[.val (.ref a1), .val (.ref a2), .val (.int (0 : Int32)), .val (.int (4 : Int32)), .val .null, .unset] [(.int (4 : Int32)), (.int (0 : Int32)), (.ref a2)])) rfl (by rw [hml]; rfl) (argsL := [(.ref a2), (.int (0 : Int32)), (.int (4 : Int32))]) (rest := []) (lenOf pd_11 rfl) rfl (by show 2 * 0 + _ ≤ _; exact Nat.le_of_eq rfl) (hb hby d3_36) (fun _ _ => ⟨rfl, e334, (by decide : 0 + 1 ≤ _), (by decide : 0 + 4 ≤ _)⟩)
    dsimp only [Pt.U, Pt.locs, Pt.cells, Pt.slots] at X340 l340 y340 z340 st340 hQ340
    subst l340 y340 z340
    obtain ⟨u340, ku340, rfl, Nq340, Kp340, gq340, Vq340⟩ := hQ340
    have g_u340 : n0 ≤ u340 := Nat.le_trans Z0 gq340
    have sz_u340 : h0.size ≤ u340 := Nat.le_trans KK.1 gq340
    have ne_a1_u340 : a1 ≠ u340 := Nat.ne_of_lt (Nat.lt_of_lt_of_le E1.lt gq340)
    have ne_a2_u340 : a2 ≠ u340 := Nat.ne_of_lt (Nat.lt_of_lt_of_le Vc.lt gq340)
    have N340 := Fr.app N0 Nq340
    replace Z0 := Nat.le_trans Z0 Kp340.1
    replace E1 := E1.keep Kp340
    replace Fc := Fc.keep Kp340 nin0
    replace Fv := Fv.keep Kp340 nin0
    replace Vc := Vc.keep Kp340 nin0
    replace SC := own_staKeep SC Kp340 ns0
    replace SA := own_staKeep SA Kp340 ns0
    replace SHI := own_staKeep SHI Kp340 ns0
    replace SLO := own_staKeep SLO Kp340 ns0
    replace KK := KK.trans Kp340 all0
    refine own_of (U' := (T340.setTop (mkF m 39 #[.val (.ref a1), .val (.ref a2), .val (.int (0 : Int32)), .val (.int (4 : Int32)), .val .null, .unset] [(.ref u340)]))) (st340) ?_
    refine own_astore X340 hx hby d3_39 rfl (l' := #[.val (.ref a1), .val (.ref a2), .val (.int (0 : Int32)), .val (.int (4 : Int32)), .val .null, .val (.ref u340)]) rfl ?_
    refine own_aloadN X340 hx hby d3_41 rfl rfl ?_
    refine own_aload X340 hx hby d3_42 rfl rfl ?_
    refine own_iloadN X340 hx hby d3_44 rfl ?_
    obtain ⟨_, _, ⟨T341, L341, k341, n341⟩, -, X341, ⟨Lc341, hQ341, l341, y341, z341⟩, st341⟩ := Jvm.LawKit.callS X340 hx (y := mN_18) hown (mvT hZ (own_w hw 56 rfl)) (mvT hZ (own_w hw 57 rfl)) (mvT hZ (own_w hw 51 rfl)) (mvT hZ (own_w hw 58 rfl)) (by decide) (backOf (W := 1) (rmcf4_4 l Z a0 hw [] u340 ku340 [(own_b8 c0), (own_b8 c1), (own_b8 c2), (own_b8 c3)] T340.heap n0 Z0 Vq340) hZ (own_w hw 58 rfl) (own_w hw 51 rfl) (by decide) (by decide)) (g := (mkF m 45 #[.val (.ref a1), .val (.ref a2), .val (.int (0 : Int32)), .val (.int (4 : Int32)), .val .null, .val (.ref u340)] [(.int (4 : Int32)), (.ref u340), (.ref a1)])) rfl (by rw [hml]; rfl) (argsL := [(.ref u340), (.int (4 : Int32))]) (rest := [(.ref a1)]) (lenOf pd_12 rfl) rfl (by show 2 * 0 + _ ≤ _; exact Nat.le_of_eq rfl) (hb hby d3_45) (fun _ _ => ⟨rfl, rfl, (by decide : 1 + 0 ≤ _), (by decide : 4 + 0 ≤ _)⟩)
    dsimp only [Pt.U, Pt.locs, Pt.cells, Pt.slots] at X341 l341 y341 z341 st341 hQ341
    subst l341 y341 z341
    obtain ⟨rfl, Nq341, e341⟩ := hQ341
    have N341 := Fr.app N340 Nq341
    refine own_of (U' := (T341.setTop (mkF m 48 #[.val (.ref a1), .val (.ref a2), .val (.int (0 : Int32)), .val (.int (4 : Int32)), .val .null, .val (.ref u340)] [(.int (0 : Int32)), (.ref a1)]))) (st341) ?_
    obtain ⟨T342, h342, X342, e342, W342, st342⟩ := putFN X341 hx hZ hown (own_w hw 28 rfl) Via.refl e341 Fc E1 (Or.inr ⟨(own_w hw 24 rfl), rfl, hnm⟩) (own_w hw 9 rfl) (ty := .byte) (v' := (.int (0 : Int32))) (by decide) rfl (by decide) (g := (mkF m 48 #[.val (.ref a1), .val (.ref a2), .val (.int (0 : Int32)), .val (.int (4 : Int32)), .val .null, .val (.ref u340)] [(.int (0 : Int32)), (.ref a1)])) rfl rfl (hb hby d3_48)
    replace Z0 := Nat.le_trans Z0 (Keep.of_wr W342).1
    replace E1 := E1.wr W342
    replace Fc := Fc.same W342
    replace Fv := Fv.other W342 (Or.inr (slot_ne (Or.inr (own_w hw 23 rfl)) (Or.inr (own_w hw 24 rfl)) (by decide) (t := (.array .byte)) (t' := .byte) (by decide) (by decide)))
    replace SC := SC.wr W342
    replace SA := SA.wr W342
    replace SHI := SHI.wr W342
    replace SLO := SLO.wr W342
    replace KK := KK.wr W342 (Or.inl (List.mem_of_getElem? (i := 0) rfl))
    replace Vq340 := Vq340.other W342 (Ne.symm ne_a1_u340)
    have N342 := Fr.snoc X342 N341 g_a1
    refine own_of (U' := (T342.setTop (mkF m 51 #[.val (.ref a1), .val (.ref a2), .val (.int (0 : Int32)), .val (.int (4 : Int32)), .val .null, .val (.ref u340)] []))) (st342) ?_
    refine own_aloadN X342 hx hby d3_51 rfl rfl ?_
    refine own_aload X342 hx hby d3_52 rfl rfl ?_
    obtain ⟨T343, h343, X343, e343, W343, st343⟩ := putF X342 hx hZ hown (host := "") (Or.inl (own_w hw 27 rfl)) Via.refl e342 Fv E1 (Or.inr ⟨(own_w hw 23 rfl), rfl, hnm⟩) (own_w hw 9 rfl) (ty := (.array .byte)) (by decide) rfl rfl (g := (mkF m 54 #[.val (.ref a1), .val (.ref a2), .val (.int (0 : Int32)), .val (.int (4 : Int32)), .val .null, .val (.ref u340)] [(.ref u340), (.ref a1)])) rfl rfl (hb hby d3_54)
    replace Z0 := Nat.le_trans Z0 (Keep.of_wr W343).1
    replace E1 := E1.wr W343
    replace Fc := Fc.other W343 (Or.inr (slot_ne (Or.inr (own_w hw 24 rfl)) (Or.inr (own_w hw 23 rfl)) (by decide) (t := .byte) (t' := (.array .byte)) (by decide) (by decide)))
    replace Fv := Fv.same W343
    replace SC := SC.wr W343
    replace SA := SA.wr W343
    replace SHI := SHI.wr W343
    replace SLO := SLO.wr W343
    replace KK := KK.wr W343 (Or.inl (List.mem_of_getElem? (i := 0) rfl))
    replace Vq340 := Vq340.other W343 (Ne.symm ne_a1_u340)
    have N343 := Fr.snoc X343 N342 g_a1
    refine own_of (U' := (T343.setTop (mkF m 57 #[.val (.ref a1), .val (.ref a2), .val (.int (0 : Int32)), .val (.int (4 : Int32)), .val .null, .val (.ref u340)] []))) (st343) ?_
    exact own_ret0 X343 hx hlk Bd.returns (hb hby d3_57) (by decide) (by decide) (by rw [e343]; exact ⟨rfl, N343, KK, ⟨E1, u340, ku340, Fv, Or.inl ⟨Fc, Vq340, (List.forall_mem_cons.mpr ⟨qB0, (List.forall_mem_cons.mpr ⟨qB1, (List.forall_mem_cons.mpr ⟨qB2, (List.forall_mem_cons.mpr ⟨qB3, (fun _ h => nomatch h)⟩)⟩)⟩)⟩)⟩⟩⟩)
theorem ef_si4 (m : MethodId) (x0 : Addr) (x1 : Addr) : entryFrame m #[(.ref x0), (.ref x1)] 2 = mkF m 0 #[.val (.ref x0), .val (.ref x1)] [] := by first | (simp [entryFrame, mkF, argsToLocals, Value.category]; done) | rfl
set_option maxRecDepth 65536 in
set_option maxHeartbeats 40000000 in
theorem rmsi4 (l : Launch) (Z : State) (a0 : Array Value) (hw : ∀ d ∈ tables_1, d.before a0 Z = true) (ws : List Jvm.Cond) (a1 a2 : Addr) (kc : ClassId) (c0 c1 c2 c3 : Int32) (g1 : Int32) (h0 : Heap) (n0 : Nat) (Z0 : n0 ≤ h0.size) (E1 : Exa Z h0 a1 "java/lang/String") (Fc : Fld Z h0 a1 "java/lang/String" "coder" "B" (.int (0 : Int32))) (Fv : Fld Z h0 a1 "java/lang/String" "value" "[B" .null) (Vc : Arv Z h0 a2 kc .char (4 : Int32) [(.int c0), (.int c1), (.int c2), (.int c3)] (.int (0 : Int32))) (g_a1 : n0 ≤ a1) (hb0 : 0 ≤ c0.toInt ∧ c0.toInt < 65536) (hb1 : 0 ≤ c1.toInt ∧ c1.toInt < 65536) (hb2 : 0 ≤ c2.toInt ∧ c2.toInt < 65536) (hb3 : 0 ≤ c3.toInt ∧ c3.toInt < 65536) (SC : Sta Z h0 "java/lang/String" "COMPACT_STRINGS" "Z" (.int g1)) (hg1 : ¬ (g1 = (0 : Int32))) (SA : Sta Z h0 "java/lang/StringUTF16" "$assertionsDisabled" "Z" (.int (1 : Int32))) (SHI : Sta Z h0 "java/lang/StringUTF16" "HI_BYTE_SHIFT" "I" (.int (0 : Int32))) (SLO : Sta Z h0 "java/lang/StringUTF16" "LO_BYTE_SHIFT" "I" (.int (8 : Int32))) :
    MetFree l mN_20 (head1 (Jvm.Cond.code mN_20 jdk_42_method_3_code 2 none :: ws) ({ frames := 5, cells := 2, slots := 12, locals := 74 } : Room)) (fun a U => a = #[(.ref a1), (.ref a2)] ∧ Z.Warmed39 U.vm ∧ U.heap = h0) (fun _ _ _ _ _ => True) (fun _ U o U' => ∃ v L, o = .returned v ∧ (Qsv4 Z a1 c0 c1 c2 c3 h0 n0) v U'.heap L ∧ FrameEnd U o U' L ({ frames := 5, cells := 2, slots := 12, locals := 74 } : Room).cells ({ frames := 5, cells := 2, slots := 12, locals := 74 } : Room).slots) := by
  refine MetFree.of_bodySF (plainFor_of_name pn_1) hisR ?_
  intro p e s m args below meth c s₁ Bd hml0 hP hK
  obtain ⟨rfl, hZ, hh⟩ := hP
  have hx := Bd.exec
  have hby := Bd.bytes
  have hml : c.maxLocals = 2 := hml0
  have hown : s.vm.findClass "java/lang/String" = some m.cls := findClass_of_methodNamed Bd.named
  have hnm := (name_of_methodNamed Bd.named Bd.method).1
  have hlk := Bd.notSynchronized
  have X0 : Stand p l e ({ frames := 5, cells := 2, slots := 12, locals := 74 } : Room) s m #[(.ref a1), (.ref a2)] below meth c s₁ [] 0 0 := Stand.of_body Bd
  have e0 : s₁.heap = h0 := by rw [← hh, Bd.state]; rfl
  have N0 := Fr.nil n0
  have KK := Keep.refl h0 [a1]
  show own_Ends p e below s FrameEnd (Qsv4 Z a1 c0 c1 c2 c3 h0 n0) 2 12 (s₁.setTop (entryFrame m #[(.ref a1), (.ref a2)] 2))
  refine own_of (U' := (s₁.setTop (mkF m 0 #[.val (.ref a1), .val (.ref a2)] []))) (fun _ k => castTop (ef_si4 m a1 a2) k) ?_
  refine own_aloadN X0 hx hby d2_0 rfl rfl ?_
  refine own_aloadN X0 hx hby d2_1 rfl rfl ?_
  refine own_iconst X0 hx hby 0 d2_2 rfl ?_
  refine own_aloadN X0 hx hby d2_3 rfl rfl ?_
  obtain ⟨cl344, Ar344, qa344, Sa344, Na344, -, -⟩ := id Vc
  have al344 := X0.arraylength hx (by rw [e0]; exact Ar344.1) (State.isArrayOf_alike hZ.alike Ar344.2.1) (g := (mkF m 4 #[.val (.ref a1), .val (.ref a2)] [(.ref a2), (.int (0 : Int32)), (.ref a2), (.ref a1)])) rfl rfl (hb hby d2_4)
  rw [len_of Sa344 Na344] at al344
  refine own_of (U' := (s₁.setTop (mkF m 5 #[.val (.ref a1), .val (.ref a2)] [(.int (4 : Int32)), (.int (0 : Int32)), (.ref a2), (.ref a1)]))) (al344) ?_
  refine own_aconstNull X0 hx hby d2_5 ?_
  obtain ⟨_, _, ⟨T345, L345, k345, n345⟩, -, X345, ⟨Lc345, hQ345, l345, y345, z345⟩, st345⟩ := X0.specialBack hx (y := mN_19) rfl hown (mvT hZ (own_w hw 14 rfl)) (mvT hZ (own_w hw 15 rfl)) (mvT hZ (own_w hw 17 rfl)) (by decide) (backOf (W := 0) (rmsv4 l Z a0 hw [] a1 a2 kc c0 c1 c2 c3 g1 h0 n0 Z0 E1 Fc Fv Vc g_a1 hb0 hb1 hb2 hb3 SC hg1 SA SHI SLO) hZ (own_w hw 17 rfl) (own_w hw 10 rfl) (by decide) (by decide)) (g := (mkF m 6 #[.val (.ref a1), .val (.ref a2)] [.null, (.int (4 : Int32)), (.int (0 : Int32)), (.ref a2), (.ref a1)])) rfl (by rw [hml]; rfl) (Steps.refl _) (a := a1) (argsL := [(.ref a2), (.int (0 : Int32)), (.int (4 : Int32)), .null]) (rest := []) (lenOf pd_13 rfl) rfl (by show 2 * 0 + _ ≤ _; exact Nat.le_of_eq rfl) (hb hby d2_6) (fun _ _ => ⟨rfl, e0, (by decide : 0 + 2 ≤ _), (by decide : 0 + 12 ≤ _)⟩)
  dsimp only [Pt.U, Pt.locs, Pt.cells, Pt.slots] at X345 l345 y345 z345 st345 hQ345
  subst l345 y345 z345
  obtain ⟨rfl, Nq345, Kp345, Tq345⟩ := hQ345
  have N345 := Fr.app N0 Nq345
  have nst_a1 := E1.nostat
  replace Z0 := Nat.le_trans Z0 Kp345.1
  replace E1 := E1.keep Kp345
  replace SC := own_staKeep SC Kp345 (nsS nst_a1 ns0)
  replace SA := own_staKeep SA Kp345 (nsS nst_a1 ns0)
  replace SHI := own_staKeep SHI Kp345 (nsS nst_a1 ns0)
  replace SLO := own_staKeep SLO Kp345 (nsS nst_a1 ns0)
  replace KK := KK.trans Kp345 (allS (Or.inl (List.mem_of_getElem? (i := 0) rfl)) all0)
  refine own_of (U' := (T345.setTop (mkF m 9 #[.val (.ref a1), .val (.ref a2)] []))) (fun _ k => st345.trans k) ?_
  exact own_ret0 X345 hx hlk Bd.returns (hb hby d2_9) (by decide) (by decide) (⟨rfl, N345, KK, Tq345⟩)
def own_nil : List Int32 := []
def Qsv0 (Z : State) (a1 : Addr) (h0 : Heap) (n0 : Nat) (v : Option Value) (h : Heap) (L : List Loc) : Prop := v = none ∧ Fr n0 L ∧ Keep h0 h [a1] ∧ own_Str Z h a1 (0 : Int32) (0 : Int32) []
theorem d3_8 : decode jdk_42_method_149_code 8 = .ok (.aload_n 0, 1) := by decide +kernel
theorem d3_9 : decode jdk_42_method_149_code 9 = .ok (.ldc 7, 2) := by decide +kernel
theorem d3_11 : decode jdk_42_method_149_code 11 = .ok (.getfield 9, 3) := by decide +kernel
theorem d3_14 : decode jdk_42_method_149_code 14 = .ok (.putfield 9, 3) := by decide +kernel
theorem d3_17 : decode jdk_42_method_149_code 17 = .ok (.aload_n 0, 1) := by decide +kernel
theorem d3_18 : decode jdk_42_method_149_code 18 = .ok (.ldc 7, 2) := by decide +kernel
theorem d3_20 : decode jdk_42_method_149_code 20 = .ok (.getfield 15, 3) := by decide +kernel
theorem d3_23 : decode jdk_42_method_149_code 23 = .ok (.putfield 15, 3) := by decide +kernel
theorem d3_26 : decode jdk_42_method_149_code 26 = .ok (.return_, 1) := by decide +kernel
theorem ef_sv0 (m : MethodId) (x0 : Addr) (x1 : Addr) : entryFrame m #[(.ref x0), (.ref x1), (.int (0 : Int32)), (.int (0 : Int32)), .null] 6 = mkF m 0 #[.val (.ref x0), .val (.ref x1), .val (.int (0 : Int32)), .val (.int (0 : Int32)), .val .null, .unset] [] := by first | (simp [entryFrame, mkF, argsToLocals, Value.category]; done) | rfl
set_option maxRecDepth 65536 in
set_option maxHeartbeats 40000000 in
theorem rmsv0 (l : Launch) (Z : State) (a0 : Array Value) (hw : ∀ d ∈ tables_1, d.before a0 Z = true) (ws : List Jvm.Cond) (a1 a2 : Addr) (kc : ClassId) (h0 : Heap) (n0 : Nat) (Z0 : n0 ≤ h0.size) (hEL : EW Z a0 consts_1) (E1 : Exa Z h0 a1 "java/lang/String") (Fc : Fld Z h0 a1 "java/lang/String" "coder" "B" (.int (0 : Int32))) (Fv : Fld Z h0 a1 "java/lang/String" "value" "[B" .null) (Vc : Arv Z h0 a2 kc .char (0 : Int32) [] (.int (0 : Int32))) (g_a1 : n0 ≤ a1) :
    MetFree l mN_19 (head1 (Jvm.Cond.code mN_19 jdk_42_method_149_code 6 none :: ws) ({ frames := 1, cells := 2, slots := 4, locals := 12 } : Room)) (fun a U => a = #[(.ref a1), (.ref a2), (.int (0 : Int32)), (.int (0 : Int32)), .null] ∧ Z.Warmed39 U.vm ∧ U.heap = h0 ∧ CHv Z consts_1 U.vm h0) (fun _ _ _ _ _ => True) (fun _ U o U' => ∃ v L, o = .returned v ∧ (Qsv0 Z a1 h0 n0) v U'.heap L ∧ ReturnedEndW U o U' L ({ frames := 1, cells := 2, slots := 4, locals := 12 } : Room).cells ({ frames := 1, cells := 2, slots := 4, locals := 12 } : Room).slots) := by
  refine MetFree.of_bodySF (plainFor_of_name pn_1) hisR ?_
  intro p e s m args below meth c s₁ Bd hml0 hP hK
  obtain ⟨rfl, hZ, hh, HH⟩ := hP
  have hx := Bd.exec
  have hby := Bd.bytes
  have hml : c.maxLocals = 6 := hml0
  have hown : s.vm.findClass "java/lang/String" = some m.cls := findClass_of_methodNamed Bd.named
  have hnm := (name_of_methodNamed Bd.named Bd.method).1
  have hlk := Bd.notSynchronized
  have X0 : Stand p l e ({ frames := 1, cells := 2, slots := 4, locals := 12 } : Room) (s.setVm s.vm) m #[(.ref a1), (.ref a2), (.int (0 : Int32)), (.int (0 : Int32)), .null] below meth c s₁ [] 0 0 := Stand.of_body Bd
  have hS := (State.WarmedH.refl s).since 0
  have hkS : 0 ≤ h0.size := Nat.zero_le _
  replace hZ : Z.Warmed39 (s.setVm s.vm).vm := hZ
  replace hown : (s.setVm s.vm).vm.findClass "java/lang/String" = some m.cls := hown
  replace HH : CHv Z consts_1 s.vm h0 := HH
  have e0 : s₁.heap = h0 := by rw [← hh, Bd.state]; rfl
  have N0 := Fr.nil n0
  have KK := Keep.refl h0 [a1]
  show own_Ends p e below s ReturnedEndW (Qsv0 Z a1 h0 n0) 2 4 (s₁.setTop (entryFrame m #[(.ref a1), (.ref a2), (.int (0 : Int32)), (.int (0 : Int32)), .null] 6))
  refine own_of (U' := (s₁.setTop (mkF m 0 #[.val (.ref a1), .val (.ref a2), .val (.int (0 : Int32)), .val (.int (0 : Int32)), .val .null, .unset] []))) (fun _ k => castTop (ef_sv0 m a1 a2) k) ?_
  refine own_aloadN X0 hx hby d3_0 rfl rfl ?_
  obtain ⟨T346, X346, e346, st346⟩ := initO X0 hx hZ hown (own_w hw 18 rfl) (own_w hw 19 rfl) (own_w hw 20 rfl) e0 (g := (mkF m 1 #[.val (.ref a1), .val (.ref a2), .val (.int (0 : Int32)), .val (.int (0 : Int32)), .val .null, .unset] [(.ref a1)])) rfl (by rw [hml]; rfl) rfl (hb hby d3_1) (by decide) (W := 0) (by show 2 * 0 + _ ≤ _; exact Nat.le_of_eq rfl) (by decide)
  refine own_of (U' := (T346.setTop (mkF m 4 #[.val (.ref a1), .val (.ref a2), .val (.int (0 : Int32)), .val (.int (0 : Int32)), .val .null, .unset] []))) (st346) ?_
  refine own_iloadN X346 hx hby d3_4 rfl ?_
  have hc5_347 : (0 : Int32) = (0 : Int32) := by decide
  refine own_ifNo X346 hx hby d3_5 ((if0 _ _).trans (teq hc5_347).2) ?_
  refine own_aloadN X346 hx hby d3_8 rfl rfl ?_
  obtain ⟨a348, T348, h348, k348, b348, kb348, X348, e348, E348, hS, hkN348, hZ, hown, Es348, Fc348, Fv348, Vb348, -, -, CH348, Lt348, -, st348⟩ := ldcCH X346 hx hZ hown (own_w hw 21 rfl) (own_strAtoms hw) e346 hS hkS hEL (List.mem_of_getElem? (i := 0) rfl) HH (vs := own_nil.map Value.int) (z := (0 : Int32)) ⟨by decide +kernel, by decide +kernel⟩ (by decide) (by decide +kernel) (g := (mkF m 9 #[.val (.ref a1), .val (.ref a2), .val (.int (0 : Int32)), .val (.int (0 : Int32)), .val .null, .unset] [(.ref a1)])) rfl (hb hby d3_9) (n := 0) (by decide +kernel) (by decide) (by decide) (by decide)
  replace Z0 := Nat.le_trans Z0 E348.1
  replace E1 := E1.ext E348
  replace Fc := Fc.ext E348
  replace Fv := Fv.ext E348
  replace Vc := Vc.ext E348
  replace KK := KK.ext E348
  have hkS := hkN348
  have HH := CH348.1
  refine own_of (U' := (T348.setTop (mkF m 11 #[.val (.ref a1), .val (.ref a2), .val (.int (0 : Int32)), .val (.int (0 : Int32)), .val .null, .unset] [(.ref a348), (.ref a1)]))) (st348) ?_
  have ne_a1_b348 : a1 ≠ b348 := Exa.neArv E1 Vb348 (own_w hw 9 rfl)
  obtain ⟨T349, X349, e349, st349⟩ := getF X348 hx hZ hown (host := "") (Or.inl (own_w hw 27 rfl)) Via.refl e348 Fv348 (g := (mkF m 11 #[.val (.ref a1), .val (.ref a2), .val (.int (0 : Int32)), .val (.int (0 : Int32)), .val .null, .unset] [(.ref a348), (.ref a1)])) rfl rfl (hb hby d3_11)
  refine own_of (U' := (T349.setTop (mkF m 14 #[.val (.ref a1), .val (.ref a2), .val (.int (0 : Int32)), .val (.int (0 : Int32)), .val .null, .unset] [(.ref b348), (.ref a1)]))) (st349) ?_
  obtain ⟨T350, h350, X350, e350, W350, st350⟩ := putF X349 hx hZ hown (host := "") (Or.inl (own_w hw 27 rfl)) Via.refl e349 Fv E1 (Or.inr ⟨(own_w hw 23 rfl), rfl, hnm⟩) (own_w hw 9 rfl) (ty := (.array .byte)) (by decide) rfl rfl (g := (mkF m 14 #[.val (.ref a1), .val (.ref a2), .val (.int (0 : Int32)), .val (.int (0 : Int32)), .val .null, .unset] [(.ref b348), (.ref a1)])) rfl rfl (hb hby d3_14)
  replace Z0 := Nat.le_trans Z0 (Keep.of_wr W350).1
  replace E1 := E1.wr W350
  replace Fc := Fc.other W350 (Or.inr (slot_ne (Or.inr (own_w hw 24 rfl)) (Or.inr (own_w hw 23 rfl)) (by decide) (t := .byte) (t' := (.array .byte)) (by decide) (by decide)))
  replace Fv := Fv.same W350
  replace KK := KK.wr W350 (Or.inl (List.mem_of_getElem? (i := 0) rfl))
  replace hkS := Nat.le_trans hkS (Keep.of_wr W350).1
  replace Es348 := Es348.wr W350
  replace Fc348 := Fc348.other W350 (Or.inr (slot_ne (Or.inr (own_w hw 24 rfl)) (Or.inr (own_w hw 23 rfl)) (by decide) (t := .byte) (t' := (.array .byte)) (by decide) (by decide)))
  replace Vb348 := Vb348.other W350 (Ne.symm ne_a1_b348)
  have N350 := Fr.snoc X350 N0 g_a1
  refine own_of (U' := (T350.setTop (mkF m 17 #[.val (.ref a1), .val (.ref a2), .val (.int (0 : Int32)), .val (.int (0 : Int32)), .val .null, .unset] []))) (st350) ?_
  refine own_aloadN X350 hx hby d3_17 rfl rfl ?_
  refine own_of (U' := (T350.setTop (mkF m 20 #[.val (.ref a1), .val (.ref a2), .val (.int (0 : Int32)), .val (.int (0 : Int32)), .val .null, .unset] [(.ref a348), (.ref a1)]))) (ldcAgain X350 hx hZ hown (own_w hw 21 rfl) Lt348 (g := (mkF m 18 #[.val (.ref a1), .val (.ref a2), .val (.int (0 : Int32)), .val (.int (0 : Int32)), .val .null, .unset] [(.ref a1)])) rfl (hb hby d3_18)) ?_
  obtain ⟨T351, X351, e351, st351⟩ := getF X350 hx hZ hown (host := "") (Or.inl (own_w hw 28 rfl)) Via.refl e350 Fc348 (g := (mkF m 20 #[.val (.ref a1), .val (.ref a2), .val (.int (0 : Int32)), .val (.int (0 : Int32)), .val .null, .unset] [(.ref a348), (.ref a1)])) rfl rfl (hb hby d3_20)
  refine own_of (U' := (T351.setTop (mkF m 23 #[.val (.ref a1), .val (.ref a2), .val (.int (0 : Int32)), .val (.int (0 : Int32)), .val .null, .unset] [(.int (0 : Int32)), (.ref a1)]))) (st351) ?_
  obtain ⟨T352, h352, X352, e352, W352, st352⟩ := putFN X351 hx hZ hown (own_w hw 28 rfl) Via.refl e351 Fc E1 (Or.inr ⟨(own_w hw 24 rfl), rfl, hnm⟩) (own_w hw 9 rfl) (ty := .byte) (v' := (.int (0 : Int32))) (by decide) rfl (by decide) (g := (mkF m 23 #[.val (.ref a1), .val (.ref a2), .val (.int (0 : Int32)), .val (.int (0 : Int32)), .val .null, .unset] [(.int (0 : Int32)), (.ref a1)])) rfl rfl (hb hby d3_23)
  replace Z0 := Nat.le_trans Z0 (Keep.of_wr W352).1
  replace E1 := E1.wr W352
  replace Fc := Fc.same W352
  replace Fv := Fv.other W352 (Or.inr (slot_ne (Or.inr (own_w hw 23 rfl)) (Or.inr (own_w hw 24 rfl)) (by decide) (t := (.array .byte)) (t' := .byte) (by decide) (by decide)))
  replace KK := KK.wr W352 (Or.inl (List.mem_of_getElem? (i := 0) rfl))
  replace hkS := Nat.le_trans hkS (Keep.of_wr W352).1
  replace Es348 := Es348.wr W352
  replace Vb348 := Vb348.other W352 (Ne.symm ne_a1_b348)
  have N352 := Fr.snoc X352 N350 g_a1
  refine own_of (U' := (T352.setTop (mkF m 26 #[.val (.ref a1), .val (.ref a2), .val (.int (0 : Int32)), .val (.int (0 : Int32)), .val .null, .unset] []))) (st352) ?_
  exact own_ret0W X352 hx hlk hS (by rw [e352]; exact hkS) Bd.returns (hb hby d3_26) (by decide) (by decide) (by rw [e352]; exact ⟨rfl, N352, KK, ⟨E1, b348, kb348, Fv, Or.inl ⟨Fc, Vb348, fun _ h => nomatch h⟩⟩⟩)
theorem ef_si0 (m : MethodId) (x0 : Addr) (x1 : Addr) : entryFrame m #[(.ref x0), (.ref x1)] 2 = mkF m 0 #[.val (.ref x0), .val (.ref x1)] [] := by first | (simp [entryFrame, mkF, argsToLocals, Value.category]; done) | rfl
set_option maxRecDepth 65536 in
set_option maxHeartbeats 40000000 in
theorem rmsi0 (l : Launch) (Z : State) (a0 : Array Value) (hw : ∀ d ∈ tables_1, d.before a0 Z = true) (ws : List Jvm.Cond) (a1 a2 : Addr) (kc : ClassId) (h0 : Heap) (n0 : Nat) (Z0 : n0 ≤ h0.size) (hEL : EW Z a0 consts_1) (E1 : Exa Z h0 a1 "java/lang/String") (Fc : Fld Z h0 a1 "java/lang/String" "coder" "B" (.int (0 : Int32))) (Fv : Fld Z h0 a1 "java/lang/String" "value" "[B" .null) (Vc : Arv Z h0 a2 kc .char (0 : Int32) [] (.int (0 : Int32))) (g_a1 : n0 ≤ a1) :
    MetFree l mN_20 (head1 (Jvm.Cond.code mN_20 jdk_42_method_3_code 2 none :: ws) ({ frames := 2, cells := 2, slots := 4, locals := 29 } : Room)) (fun a U => a = #[(.ref a1), (.ref a2)] ∧ Z.Warmed39 U.vm ∧ U.heap = h0 ∧ CHv Z consts_1 U.vm h0) (fun _ _ _ _ _ => True) (fun _ U o U' => ∃ v L, o = .returned v ∧ (Qsv0 Z a1 h0 n0) v U'.heap L ∧ ReturnedEndW U o U' L ({ frames := 2, cells := 2, slots := 4, locals := 29 } : Room).cells ({ frames := 2, cells := 2, slots := 4, locals := 29 } : Room).slots) := by
  refine MetFree.of_bodySF (plainFor_of_name pn_1) hisR ?_
  intro p e s m args below meth c s₁ Bd hml0 hP hK
  obtain ⟨rfl, hZ, hh, HH⟩ := hP
  have hx := Bd.exec
  have hby := Bd.bytes
  have hml : c.maxLocals = 2 := hml0
  have hown : s.vm.findClass "java/lang/String" = some m.cls := findClass_of_methodNamed Bd.named
  have hnm := (name_of_methodNamed Bd.named Bd.method).1
  have hlk := Bd.notSynchronized
  have X0 : Stand p l e ({ frames := 2, cells := 2, slots := 4, locals := 29 } : Room) (s.setVm s.vm) m #[(.ref a1), (.ref a2)] below meth c s₁ [] 0 0 := Stand.of_body Bd
  have hS := (State.WarmedH.refl s).since 0
  have hkS : 0 ≤ h0.size := Nat.zero_le _
  replace hZ : Z.Warmed39 (s.setVm s.vm).vm := hZ
  replace hown : (s.setVm s.vm).vm.findClass "java/lang/String" = some m.cls := hown
  replace HH : CHv Z consts_1 s.vm h0 := HH
  have e0 : s₁.heap = h0 := by rw [← hh, Bd.state]; rfl
  have N0 := Fr.nil n0
  have KK := Keep.refl h0 [a1]
  show own_Ends p e below s ReturnedEndW (Qsv0 Z a1 h0 n0) 2 4 (s₁.setTop (entryFrame m #[(.ref a1), (.ref a2)] 2))
  refine own_of (U' := (s₁.setTop (mkF m 0 #[.val (.ref a1), .val (.ref a2)] []))) (fun _ k => castTop (ef_si0 m a1 a2) k) ?_
  refine own_aloadN X0 hx hby d2_0 rfl rfl ?_
  refine own_aloadN X0 hx hby d2_1 rfl rfl ?_
  refine own_iconst X0 hx hby 0 d2_2 rfl ?_
  refine own_aloadN X0 hx hby d2_3 rfl rfl ?_
  obtain ⟨cl353, Ar353, qa353, Sa353, Na353, -, -⟩ := id Vc
  have al353 := X0.arraylength hx (by rw [e0]; exact Ar353.1) (State.isArrayOf_alike hZ.alike Ar353.2.1) (g := (mkF m 4 #[.val (.ref a1), .val (.ref a2)] [(.ref a2), (.int (0 : Int32)), (.ref a2), (.ref a1)])) rfl rfl (hb hby d2_4)
  rw [len_of Sa353 Na353] at al353
  refine own_of (U' := (s₁.setTop (mkF m 5 #[.val (.ref a1), .val (.ref a2)] [(.int (0 : Int32)), (.int (0 : Int32)), (.ref a2), (.ref a1)]))) (al353) ?_
  refine own_aconstNull X0 hx hby d2_5 ?_
  obtain ⟨_, _, ⟨T354, L354, k354, n354⟩, -, X354, sn354, gr354, ⟨Lc354, hQ354, l354, y354, z354⟩, st354⟩ := X0.specialBackS hx (y := mN_19) rfl hown (mvT hZ (own_w hw 14 rfl)) (mvT hZ (own_w hw 15 rfl)) (mvT hZ (own_w hw 17 rfl)) (by decide) (own_backSC (W := 0) (rmsv0 l Z a0 hw [] a1 a2 kc h0 n0 Z0 hEL E1 Fc Fv Vc g_a1) hEL HH hZ (own_w hw 17 rfl) (own_w hw 10 rfl) (by decide) (by decide)) (g := (mkF m 6 #[.val (.ref a1), .val (.ref a2)] [.null, (.int (0 : Int32)), (.int (0 : Int32)), (.ref a2), (.ref a1)])) rfl (by rw [hml]; rfl) (Steps.refl _) (a := a1) (argsL := [(.ref a2), (.int (0 : Int32)), (.int (0 : Int32)), .null]) (rest := []) (lenOf pd_13 rfl) rfl (by show 2 * 0 + _ ≤ _; exact Nat.le_of_eq rfl) (hb hby d2_6) (fun _ _ => ⟨rfl, e0, (by decide : 0 + 2 ≤ _), (by decide : 0 + 4 ≤ _)⟩)
  dsimp only [Pt.U, Pt.locs, Pt.cells, Pt.slots] at X354 sn354 gr354 l354 y354 z354 st354 hQ354
  subst l354 y354 z354
  obtain ⟨X354, hS, hZ, hown⟩ := rebS hS (by rw [e0]; exact hkS) X354 sn354 gr354 hZ hown
  replace hkS : T354.heap.size ≤ T354.heap.size := Nat.le_refl _
  obtain ⟨rfl, Nq354, Kp354, Tq354⟩ := hQ354
  have N354 := Fr.app N0 Nq354
  replace Z0 := Nat.le_trans Z0 Kp354.1
  replace E1 := E1.keep Kp354
  replace KK := KK.trans Kp354 (allS (Or.inl (List.mem_of_getElem? (i := 0) rfl)) all0)
  refine own_of (U' := (T354.setTop (mkF m 9 #[.val (.ref a1), .val (.ref a2)] []))) (fun _ k => st354.trans k) ?_
  exact own_ret0W X354 hx hlk hS hkS Bd.returns (hb hby d2_9) (by decide) (by decide) (⟨rfl, N354, KK, Tq354⟩)
abbrev mN_21 : MethodName := ⟨"com/example/pools_to_qrels/poolstoqrels/CitationIds", "isWholeNumber", "(Ljava/lang/String;)Z"⟩
theorem pd_14 : parseMethodDescriptor "()I" = some ⟨[], some .int⟩ := by decide +kernel
theorem d5_0 : decode prog_5_method_5_code 0 = .ok (.aload_n 0, 1) := by decide +kernel
theorem d5_1 : decode prog_5_method_5_code 1 = .ok (.invokevirtual 23, 3) := by decide +kernel
theorem d5_4 : decode prog_5_method_5_code 4 = .ok (.ifCond .ne 7, 3) := by decide +kernel
theorem d5_11 : decode prog_5_method_5_code 11 = .ok (.iconst 0, 1) := by decide +kernel
theorem d5_12 : decode prog_5_method_5_code 12 = .ok (.istore_n 1, 1) := by decide +kernel
theorem d5_13 : decode prog_5_method_5_code 13 = .ok (.iconst 0, 1) := by decide +kernel
theorem d5_14 : decode prog_5_method_5_code 14 = .ok (.istore_n 2, 1) := by decide +kernel
theorem d5_15 : decode prog_5_method_5_code 15 = .ok (.iload_n 2, 1) := by decide +kernel
theorem d5_16 : decode prog_5_method_5_code 16 = .ok (.aload_n 0, 1) := by decide +kernel
theorem d5_17 : decode prog_5_method_5_code 17 = .ok (.invokevirtual 56, 3) := by decide +kernel
theorem d5_20 : decode prog_5_method_5_code 20 = .ok (.if_icmp .ge 37, 3) := by decide +kernel
theorem d5_57 : decode prog_5_method_5_code 57 = .ok (.iload_n 1, 1) := by decide +kernel
theorem d5_58 : decode prog_5_method_5_code 58 = .ok (.ireturn, 1) := by decide +kernel
theorem pn_4 : plainName "com/example/pools_to_qrels/poolstoqrels/CitationIds" = true := by first | (simp [plainName, overriddenIn]; done) | decide +kernel
theorem ef_wn0 (m : MethodId) (x0 : Addr) : entryFrame m #[(.ref x0)] 3 = mkF m 0 #[.val (.ref x0), .unset, .unset] [] := by first | (simp [entryFrame, mkF, argsToLocals, Value.category]; done) | rfl
set_option maxRecDepth 65536 in
set_option maxHeartbeats 40000000 in
theorem rmwn0 (l : Launch) (Z : State) (a0 : Array Value) (hw : ∀ d ∈ tables_1, d.before a0 Z = true) (ws : List Jvm.Cond) (a1 : Addr)  (g1 : Int32) (rS : Value) (h0 : Heap) (n0 : Nat) (Z0 : n0 ≤ h0.size) (T1 : own_Str Z h0 a1 (0 : Int32) (0 : Int32) [])  (SC : Sta Z h0 "java/lang/String" "COMPACT_STRINGS" "Z" (.int g1)) (hg1 : ¬ (g1 = (0 : Int32))) (SA : Sta Z h0 "java/lang/StringUTF16" "$assertionsDisabled" "Z" (.int (1 : Int32))) (SHI : Sta Z h0 "java/lang/StringUTF16" "HI_BYTE_SHIFT" "I" (.int (0 : Int32))) (SLO : Sta Z h0 "java/lang/StringUTF16" "LO_BYTE_SHIFT" "I" (.int (8 : Int32))) (SF : Sta Z h0 "jdk/internal/util/Preconditions" "SIOOBE_FORMATTER" "Ljava/util/function/BiFunction;" rS) (hrS : rS.isRef = true) :
    MetFree l mN_21 (head1 (Jvm.Cond.code mN_21 prog_5_method_5_code 3 (some .boolean) :: ws) ({ frames := 2, cells := 0, slots := 0, locals := 26 } : Room)) (fun a U => a = #[(.ref a1)] ∧ Z.Warmed39 U.vm ∧ U.heap = h0) (fun _ _ _ _ _ => True) (fun _ U o U' => ∃ v L, o = .returned v ∧ (Qv (own_wn 0 []) h0 n0) v U'.heap L ∧ FrameEnd U o U' L ({ frames := 2, cells := 0, slots := 0, locals := 26 } : Room).cells ({ frames := 2, cells := 0, slots := 0, locals := 26 } : Room).slots) := by
  refine MetFree.of_bodySF (plainFor_of_name pn_4) hisR ?_
  intro p e s m args below meth c s₁ Bd hml0 hP hK
  obtain ⟨rfl, hZ, hh⟩ := hP
  have hx := Bd.exec
  have hby := Bd.bytes
  have hml : c.maxLocals = 3 := hml0
  have hown : s.vm.findClass "com/example/pools_to_qrels/poolstoqrels/CitationIds" = some m.cls := findClass_of_methodNamed Bd.named
  have hnm := (name_of_methodNamed Bd.named Bd.method).1
  have hlk := Bd.notSynchronized
  have X0 : Stand p l e ({ frames := 2, cells := 0, slots := 0, locals := 26 } : Room) s m #[(.ref a1)] below meth c s₁ [] 0 0 := Stand.of_body Bd
  have e0 : s₁.heap = h0 := by rw [← hh, Bd.state]; rfl
  have N0 := Fr.nil n0
  show own_Ends p e below s FrameEnd (Qv (own_wn 0 []) h0 n0) 0 0 (s₁.setTop (entryFrame m #[(.ref a1)] 3))
  refine own_of (U' := (s₁.setTop (mkF m 0 #[.val (.ref a1), .unset, .unset] []))) (fun _ k => castTop (ef_wn0 m a1) k) ?_
  have E1 := T1.1
  refine own_aloadN X0 hx hby d5_0 rfl rfl ?_
  obtain ⟨cq355, kq355, q355a, q355b, q355c⟩ := isOf hZ e0 E1
  obtain ⟨_, _, ⟨T355, L355, k355, n355⟩, -, X355, ⟨Lc355, hQ355, l355, y355, z355⟩, st355⟩ := X0.virtualBack hx (y := mN_11) (z := mN_11) hown (mvT hZ (own_w hw 33 rfl)) (mvT hZ (own_w hw 34 rfl)) (notFace_of_selects (args := #[]) (mvT hZ (own_w hw 36 rfl))) (mvT hZ (own_w hw 36 rfl)) (mvT hZ (own_w hw 35 rfl)) (by decide) (backOf (W := 0) (rmie0 l Z a0 hw [] a1  h0 n0 Z0 T1) hZ (own_w hw 37 rfl) (own_w hw 10 rfl) (by decide) (by decide)) q355a q355c (g := (mkF m 1 #[.val (.ref a1), .unset, .unset] [(.ref a1)])) rfl (by rw [hml]; rfl) (Steps.refl _) (argsL := []) (rest := []) (lenOf pd_5 rfl) rfl (by show 2 * 0 + _ ≤ _; exact Nat.le_of_eq rfl) (hb hby d5_1) (fun _ _ => ⟨rfl, e0, (by decide : 0 + 0 ≤ _), (by decide : 0 + 0 ≤ _)⟩)
  dsimp only [Pt.U, Pt.locs, Pt.cells, Pt.slots] at X355 l355 y355 z355 st355 hQ355
  subst l355 y355 z355
  obtain ⟨rfl, Nq355, e355⟩ := hQ355
  have N355 := Fr.app N0 Nq355
  refine own_of (U' := (T355.setTop (mkF m 4 #[.val (.ref a1), .unset, .unset] [(.int (1 : Int32))]))) (fun _ k => st355.trans k) ?_
  have hc4_356 : ¬ ((1 : Int32) = (0 : Int32)) := by decide
  refine own_ifYes X355 hx hby 4 11 d5_4 ((if0 _ _).trans (feq hc4_356).2) (by decide) (by decide) ?_
  refine own_iconst X355 hx hby 0 d5_11 rfl ?_
  refine own_istoreN X355 hx hby d5_12 (l' := #[.val (.ref a1), .val (.int (0 : Int32)), .unset]) rfl ?_
  refine own_iconst X355 hx hby 0 d5_13 rfl ?_
  refine own_istoreN X355 hx hby d5_14 (l' := #[.val (.ref a1), .val (.int (0 : Int32)), .val (.int (0 : Int32))]) rfl ?_
  refine own_iloadN X355 hx hby d5_15 rfl ?_
  refine own_aloadN X355 hx hby d5_16 rfl rfl ?_
  obtain ⟨cq357, kq357, q357a, q357b, q357c⟩ := isOf hZ e355 E1
  obtain ⟨_, _, ⟨T357, L357, k357, n357⟩, -, X357, ⟨Lc357, hQ357, l357, y357, z357⟩, st357⟩ := X355.virtualBack hx (y := mN_10) (z := mN_10) hown (mvT hZ (own_w hw 38 rfl)) (mvT hZ (own_w hw 39 rfl)) (notFace_of_selects (args := #[]) (mvT hZ (own_w hw 41 rfl))) (mvT hZ (own_w hw 41 rfl)) (mvT hZ (own_w hw 40 rfl)) (by decide) (backOf (W := 1) (rmlen0 l Z a0 hw [] a1  g1 h0 n0 Z0 T1 SC hg1) hZ (own_w hw 42 rfl) (own_w hw 10 rfl) (by decide) (by decide)) q357a q357c (g := (mkF m 17 #[.val (.ref a1), .val (.int (0 : Int32)), .val (.int (0 : Int32))] [(.ref a1), (.int (0 : Int32))])) rfl (by rw [hml]; rfl) (Steps.refl _) (argsL := []) (rest := [(.int (0 : Int32))]) (lenOf pd_14 rfl) rfl (by show 2 * 0 + _ ≤ _; exact Nat.le_of_eq rfl) (hb hby d5_17) (fun _ _ => ⟨rfl, e355, (by decide : 0 + 0 ≤ _), (by decide : 0 + 0 ≤ _)⟩)
  dsimp only [Pt.U, Pt.locs, Pt.cells, Pt.slots] at X357 l357 y357 z357 st357 hQ357
  subst l357 y357 z357
  obtain ⟨rfl, Nq357, e357⟩ := hQ357
  have N357 := Fr.app N355 Nq357
  refine own_of (U' := (T357.setTop (mkF m 20 #[.val (.ref a1), .val (.int (0 : Int32)), .val (.int (0 : Int32))] [(.int (0 : Int32)), (.int (0 : Int32))]))) (fun _ k => st357.trans k) ?_
  have hc20_358 : ¬ ((0 : Int32) < (0 : Int32)) := by decide
  refine own_icmpYes X357 hx hby 20 57 d5_20 (flt hc20_358).2.1 (by decide) (by decide) ?_
  refine own_iloadN X357 hx hby d5_57 rfl ?_
  exact own_retN X357 hx hlk (t := .boolean) Bd.returns (by simp) (hb hby d5_58) (by decide) (by decide) (⟨congrArg (fun z => some (Value.int z)) (show nar .boolean (0 : Int32) = own_wn 0 [] from by exact own_nb _ (own_wn01 0 (by decide) [])), N357, e357⟩)
theorem pd_15 : parseMethodDescriptor "(I)C" = some ⟨[.int], some .char⟩ := by decide +kernel
theorem d5_7 : decode prog_5_method_5_code 7 = .ok (.iconst 1, 1) := by decide +kernel
theorem d5_8 : decode prog_5_method_5_code 8 = .ok (.goto 4, 3) := by decide +kernel
theorem d5_23 : decode prog_5_method_5_code 23 = .ok (.iload_n 1, 1) := by decide +kernel
theorem d5_24 : decode prog_5_method_5_code 24 = .ok (.aload_n 0, 1) := by decide +kernel
theorem d5_25 : decode prog_5_method_5_code 25 = .ok (.iload_n 2, 1) := by decide +kernel
theorem d5_26 : decode prog_5_method_5_code 26 = .ok (.invokevirtual 60, 3) := by decide +kernel
theorem d5_29 : decode prog_5_method_5_code 29 = .ok (.bipush 48, 2) := by decide +kernel
theorem d5_31 : decode prog_5_method_5_code 31 = .ok (.if_icmp .lt 17, 3) := by decide +kernel
theorem d5_34 : decode prog_5_method_5_code 34 = .ok (.aload_n 0, 1) := by decide +kernel
theorem d5_35 : decode prog_5_method_5_code 35 = .ok (.iload_n 2, 1) := by decide +kernel
theorem d5_36 : decode prog_5_method_5_code 36 = .ok (.invokevirtual 60, 3) := by decide +kernel
theorem d5_39 : decode prog_5_method_5_code 39 = .ok (.bipush 57, 2) := by decide +kernel
theorem d5_41 : decode prog_5_method_5_code 41 = .ok (.if_icmp .gt 7, 3) := by decide +kernel
theorem d5_44 : decode prog_5_method_5_code 44 = .ok (.iconst 1, 1) := by decide +kernel
theorem d5_45 : decode prog_5_method_5_code 45 = .ok (.goto 4, 3) := by decide +kernel
theorem d5_48 : decode prog_5_method_5_code 48 = .ok (.iconst 0, 1) := by decide +kernel
theorem d5_49 : decode prog_5_method_5_code 49 = .ok (.iand, 1) := by decide +kernel
theorem d5_50 : decode prog_5_method_5_code 50 = .ok (.istore_n 1, 1) := by decide +kernel
theorem d5_51 : decode prog_5_method_5_code 51 = .ok (.iinc 2 1, 3) := by decide +kernel
theorem d5_54 : decode prog_5_method_5_code 54 = .ok (.goto (-39), 3) := by decide +kernel
theorem ef_wn1 (m : MethodId) (x0 : Addr) : entryFrame m #[(.ref x0)] 3 = mkF m 0 #[.val (.ref x0), .unset, .unset] [] := by first | (simp [entryFrame, mkF, argsToLocals, Value.category]; done) | rfl
set_option maxRecDepth 65536 in
set_option maxHeartbeats 40000000 in
theorem rmwn1 (l : Launch) (Z : State) (a0 : Array Value) (hw : ∀ d ∈ tables_1, d.before a0 Z = true) (ws : List Jvm.Cond) (a1 : Addr) (c0 : Int32) (g1 : Int32) (rS : Value) (h0 : Heap) (n0 : Nat) (Z0 : n0 ≤ h0.size) (T1 : own_Str Z h0 a1 (1 : Int32) (2 : Int32) [c0]) (hb0 : 0 ≤ c0.toInt ∧ c0.toInt < 65536) (SC : Sta Z h0 "java/lang/String" "COMPACT_STRINGS" "Z" (.int g1)) (hg1 : ¬ (g1 = (0 : Int32))) (SA : Sta Z h0 "java/lang/StringUTF16" "$assertionsDisabled" "Z" (.int (1 : Int32))) (SHI : Sta Z h0 "java/lang/StringUTF16" "HI_BYTE_SHIFT" "I" (.int (0 : Int32))) (SLO : Sta Z h0 "java/lang/StringUTF16" "LO_BYTE_SHIFT" "I" (.int (8 : Int32))) (SF : Sta Z h0 "jdk/internal/util/Preconditions" "SIOOBE_FORMATTER" "Ljava/util/function/BiFunction;" rS) (hrS : rS.isRef = true) :
    MetFree l mN_21 (head1 (Jvm.Cond.code mN_21 prog_5_method_5_code 3 (some .boolean) :: ws) ({ frames := 5, cells := 0, slots := 0, locals := 67 } : Room)) (fun a U => a = #[(.ref a1)] ∧ Z.Warmed39 U.vm ∧ U.heap = h0) (fun _ _ _ _ _ => True) (fun _ U o U' => ∃ v L, o = .returned v ∧ (Qv (own_wn 1 [c0]) h0 n0) v U'.heap L ∧ FrameEnd U o U' L ({ frames := 5, cells := 0, slots := 0, locals := 67 } : Room).cells ({ frames := 5, cells := 0, slots := 0, locals := 67 } : Room).slots) := by
  refine MetFree.of_bodySF (plainFor_of_name pn_4) hisR ?_
  intro p e s m args below meth c s₁ Bd hml0 hP hK
  obtain ⟨rfl, hZ, hh⟩ := hP
  have hx := Bd.exec
  have hby := Bd.bytes
  have hml : c.maxLocals = 3 := hml0
  have hown : s.vm.findClass "com/example/pools_to_qrels/poolstoqrels/CitationIds" = some m.cls := findClass_of_methodNamed Bd.named
  have hnm := (name_of_methodNamed Bd.named Bd.method).1
  have hlk := Bd.notSynchronized
  have X0 : Stand p l e ({ frames := 5, cells := 0, slots := 0, locals := 67 } : Room) s m #[(.ref a1)] below meth c s₁ [] 0 0 := Stand.of_body Bd
  have e0 : s₁.heap = h0 := by rw [← hh, Bd.state]; rfl
  have N0 := Fr.nil n0
  show own_Ends p e below s FrameEnd (Qv (own_wn 1 [c0]) h0 n0) 0 0 (s₁.setTop (entryFrame m #[(.ref a1)] 3))
  refine own_of (U' := (s₁.setTop (mkF m 0 #[.val (.ref a1), .unset, .unset] []))) (fun _ k => castTop (ef_wn1 m a1) k) ?_
  have E1 := T1.1
  refine own_aloadN X0 hx hby d5_0 rfl rfl ?_
  obtain ⟨cq359, kq359, q359a, q359b, q359c⟩ := isOf hZ e0 E1
  obtain ⟨_, _, ⟨T359, L359, k359, n359⟩, -, X359, ⟨Lc359, hQ359, l359, y359, z359⟩, st359⟩ := X0.virtualBack hx (y := mN_11) (z := mN_11) hown (mvT hZ (own_w hw 33 rfl)) (mvT hZ (own_w hw 34 rfl)) (notFace_of_selects (args := #[]) (mvT hZ (own_w hw 36 rfl))) (mvT hZ (own_w hw 36 rfl)) (mvT hZ (own_w hw 35 rfl)) (by decide) (backOf (W := 0) (rmie1 l Z a0 hw [] a1 c0 h0 n0 Z0 T1) hZ (own_w hw 37 rfl) (own_w hw 10 rfl) (by decide) (by decide)) q359a q359c (g := (mkF m 1 #[.val (.ref a1), .unset, .unset] [(.ref a1)])) rfl (by rw [hml]; rfl) (Steps.refl _) (argsL := []) (rest := []) (lenOf pd_5 rfl) rfl (by show 2 * 0 + _ ≤ _; exact Nat.le_of_eq rfl) (hb hby d5_1) (fun _ _ => ⟨rfl, e0, (by decide : 0 + 0 ≤ _), (by decide : 0 + 0 ≤ _)⟩)
  dsimp only [Pt.U, Pt.locs, Pt.cells, Pt.slots] at X359 l359 y359 z359 st359 hQ359
  subst l359 y359 z359
  obtain ⟨rfl, Nq359, e359⟩ := hQ359
  have N359 := Fr.app N0 Nq359
  refine own_of (U' := (T359.setTop (mkF m 4 #[.val (.ref a1), .unset, .unset] [(.int (0 : Int32))]))) (fun _ k => st359.trans k) ?_
  have hc4_360 : (0 : Int32) = (0 : Int32) := by decide
  refine own_ifNo X359 hx hby d5_4 ((if0 _ _).trans (teq hc4_360).2) ?_
  refine own_iconst X359 hx hby 1 d5_7 rfl ?_
  refine own_goto X359 hx hby 8 12 d5_8 (by decide) (by decide) ?_
  refine own_istoreN X359 hx hby d5_12 (l' := #[.val (.ref a1), .val (.int (1 : Int32)), .unset]) rfl ?_
  refine own_iconst X359 hx hby 0 d5_13 rfl ?_
  refine own_istoreN X359 hx hby d5_14 (l' := #[.val (.ref a1), .val (.int (1 : Int32)), .val (.int (0 : Int32))]) rfl ?_
  refine own_iloadN X359 hx hby d5_15 rfl ?_
  refine own_aloadN X359 hx hby d5_16 rfl rfl ?_
  obtain ⟨cq361, kq361, q361a, q361b, q361c⟩ := isOf hZ e359 E1
  obtain ⟨_, _, ⟨T361, L361, k361, n361⟩, -, X361, ⟨Lc361, hQ361, l361, y361, z361⟩, st361⟩ := X359.virtualBack hx (y := mN_10) (z := mN_10) hown (mvT hZ (own_w hw 38 rfl)) (mvT hZ (own_w hw 39 rfl)) (notFace_of_selects (args := #[]) (mvT hZ (own_w hw 41 rfl))) (mvT hZ (own_w hw 41 rfl)) (mvT hZ (own_w hw 40 rfl)) (by decide) (backOf (W := 1) (rmlen1 l Z a0 hw [] a1 c0 g1 h0 n0 Z0 T1 SC hg1) hZ (own_w hw 42 rfl) (own_w hw 10 rfl) (by decide) (by decide)) q361a q361c (g := (mkF m 17 #[.val (.ref a1), .val (.int (1 : Int32)), .val (.int (0 : Int32))] [(.ref a1), (.int (0 : Int32))])) rfl (by rw [hml]; rfl) (Steps.refl _) (argsL := []) (rest := [(.int (0 : Int32))]) (lenOf pd_14 rfl) rfl (by show 2 * 0 + _ ≤ _; exact Nat.le_of_eq rfl) (hb hby d5_17) (fun _ _ => ⟨rfl, e359, (by decide : 0 + 0 ≤ _), (by decide : 0 + 0 ≤ _)⟩)
  dsimp only [Pt.U, Pt.locs, Pt.cells, Pt.slots] at X361 l361 y361 z361 st361 hQ361
  subst l361 y361 z361
  obtain ⟨rfl, Nq361, e361⟩ := hQ361
  have N361 := Fr.app N359 Nq361
  refine own_of (U' := (T361.setTop (mkF m 20 #[.val (.ref a1), .val (.int (1 : Int32)), .val (.int (0 : Int32))] [(.int (1 : Int32)), (.int (0 : Int32))]))) (fun _ k => st361.trans k) ?_
  have hc20_362 : (0 : Int32) < (1 : Int32) := by decide
  refine own_icmpNo X361 hx hby d5_20 (tlt hc20_362).2.1 ?_
  refine own_iloadN X361 hx hby d5_23 rfl ?_
  refine own_aloadN X361 hx hby d5_24 rfl rfl ?_
  refine own_iloadN X361 hx hby d5_25 rfl ?_
  obtain ⟨cq363, kq363, q363a, q363b, q363c⟩ := isOf hZ e361 E1
  obtain ⟨_, _, ⟨T363, L363, k363, n363⟩, -, X363, ⟨Lc363, hQ363, l363, y363, z363⟩, st363⟩ := X361.virtualBack hx (y := mN_7) (z := mN_7) hown (mvT hZ (own_w hw 62 rfl)) (mvT hZ (own_w hw 63 rfl)) (notFace_of_selects (args := #[]) (mvT hZ (own_w hw 65 rfl))) (mvT hZ (own_w hw 65 rfl)) (mvT hZ (own_w hw 64 rfl)) (by decide) (backOf (W := 1) (rmch1_0 l Z a0 hw [] a1 c0 g1 rS h0 n0 Z0 T1 hb0 SC hg1 SA SHI SLO SF hrS) hZ (own_w hw 66 rfl) (own_w hw 10 rfl) (by decide) (by decide)) q363a q363c (g := (mkF m 26 #[.val (.ref a1), .val (.int (1 : Int32)), .val (.int (0 : Int32))] [(.int (0 : Int32)), (.ref a1), (.int (1 : Int32))])) rfl (by rw [hml]; rfl) (Steps.refl _) (argsL := [(.int (0 : Int32))]) (rest := [(.int (1 : Int32))]) (lenOf pd_15 rfl) rfl (by show 2 * 0 + _ ≤ _; exact Nat.le_of_eq rfl) (hb hby d5_26) (fun _ _ => ⟨rfl, e361, (by decide : 0 + 0 ≤ _), (by decide : 0 + 0 ≤ _)⟩)
  dsimp only [Pt.U, Pt.locs, Pt.cells, Pt.slots] at X363 l363 y363 z363 st363 hQ363
  subst l363 y363 z363
  obtain ⟨rfl, Nq363, e363⟩ := hQ363
  have N363 := Fr.app N361 Nq363
  refine own_of (U' := (T363.setTop (mkF m 29 #[.val (.ref a1), .val (.int (1 : Int32)), .val (.int (0 : Int32))] [(.int c0), (.int (1 : Int32))]))) (fun _ k => st363.trans k) ?_
  refine own_bipush X363 hx hby 48 d5_29 rfl ?_
  obtain ⟨x364, hx364⟩ : ∃ z : Int32, z = (if c0 < (48 : Int32) then (0 : Int32) else (if (57 : Int32) < c0 then (0 : Int32) else (1 : Int32))) := ⟨_, rfl⟩
  suffices key365 : ∀ (T365 : State) (L365 : List Loc), Stand p l e ({ frames := 5, cells := 0, slots := 0, locals := 67 } : Room) s m #[(.ref a1)] below meth c T365 L365 0 0 → T365.heap = h0 → Fr n0 L365 → own_Ends p e below s FrameEnd (Qv (own_wn 1 [c0]) h0 n0) 0 0 (T365.setTop (mkF m 49 #[.val (.ref a1), .val (.int (1 : Int32)), .val (.int (0 : Int32))] [(.int x364), (.int (1 : Int32))])) by
    by_cases hc31_366 : c0 < (48 : Int32)
    · skip
      refine own_icmpYes X363 hx hby 31 48 d5_31 (tlt hc31_366).1 (by decide) (by decide) ?_
      refine own_iconst X363 hx hby 0 d5_48 rfl ?_
      have tx364 : x364 = (0 : Int32) := by rw [hx364, if_pos hc31_366]
      exact own_eq (by rw [tx364]) (key365 _ _ X363 e363 N363)
    · skip
      refine own_icmpNo X363 hx hby d5_31 (flt hc31_366).1 ?_
      refine own_aloadN X363 hx hby d5_34 rfl rfl ?_
      refine own_iloadN X363 hx hby d5_35 rfl ?_
      obtain ⟨cq367, kq367, q367a, q367b, q367c⟩ := isOf hZ e363 E1
      obtain ⟨_, _, ⟨T367, L367, k367, n367⟩, -, X367, ⟨Lc367, hQ367, l367, y367, z367⟩, st367⟩ := X363.virtualBack hx (y := mN_7) (z := mN_7) hown (mvT hZ (own_w hw 62 rfl)) (mvT hZ (own_w hw 63 rfl)) (notFace_of_selects (args := #[]) (mvT hZ (own_w hw 65 rfl))) (mvT hZ (own_w hw 65 rfl)) (mvT hZ (own_w hw 64 rfl)) (by decide) (backOf (W := 1) (rmch1_0 l Z a0 hw [] a1 c0 g1 rS h0 n0 Z0 T1 hb0 SC hg1 SA SHI SLO SF hrS) hZ (own_w hw 66 rfl) (own_w hw 10 rfl) (by decide) (by decide)) q367a q367c (g := (mkF m 36 #[.val (.ref a1), .val (.int (1 : Int32)), .val (.int (0 : Int32))] [(.int (0 : Int32)), (.ref a1), (.int (1 : Int32))])) rfl (by rw [hml]; rfl) (Steps.refl _) (argsL := [(.int (0 : Int32))]) (rest := [(.int (1 : Int32))]) (lenOf pd_15 rfl) rfl (by show 2 * 0 + _ ≤ _; exact Nat.le_of_eq rfl) (hb hby d5_36) (fun _ _ => ⟨rfl, e363, (by decide : 0 + 0 ≤ _), (by decide : 0 + 0 ≤ _)⟩)
      dsimp only [Pt.U, Pt.locs, Pt.cells, Pt.slots] at X367 l367 y367 z367 st367 hQ367
      subst l367 y367 z367
      obtain ⟨rfl, Nq367, e367⟩ := hQ367
      have N367 := Fr.app N363 Nq367
      refine own_of (U' := (T367.setTop (mkF m 39 #[.val (.ref a1), .val (.int (1 : Int32)), .val (.int (0 : Int32))] [(.int c0), (.int (1 : Int32))]))) (fun _ k => st367.trans k) ?_
      refine own_bipush X367 hx hby 57 d5_39 rfl ?_
      by_cases hc41_368 : (57 : Int32) < c0
      · skip
        refine own_icmpYes X367 hx hby 41 48 d5_41 (tlt hc41_368).2.2.1 (by decide) (by decide) ?_
        refine own_iconst X367 hx hby 0 d5_48 rfl ?_
        have tx364 : x364 = (0 : Int32) := by rw [hx364, if_neg hc31_366, if_pos hc41_368]
        exact own_eq (by rw [tx364]) (key365 _ _ X367 e367 N367)
      · skip
        refine own_icmpNo X367 hx hby d5_41 (flt hc41_368).2.2.1 ?_
        refine own_iconst X367 hx hby 1 d5_44 rfl ?_
        refine own_goto X367 hx hby 45 49 d5_45 (by decide) (by decide) ?_
        have tx364 : x364 = (1 : Int32) := by rw [hx364, if_neg hc31_366, if_neg hc41_368]
        exact own_eq (by rw [tx364]) (key365 _ _ X367 e367 N367)
  intro T365 L365 X365 e365 N365
  refine own_iand X365 hx hby d5_49 ?_
  refine own_istoreN X365 hx hby d5_50 (l' := #[.val (.ref a1), .val (.int ((1 : Int32) &&& x364)), .val (.int (0 : Int32))]) rfl ?_
  refine own_iinc X365 hx hby d5_51 rfl (l' := #[.val (.ref a1), .val (.int ((1 : Int32) &&& x364)), .val (.int ((0 : Int32) + (1 : Int32)))]) rfl ?_
  refine own_eq (U' := (T365.setTop (mkF m 54 #[.val (.ref a1), .val (.int ((1 : Int32) &&& x364)), .val (.int (1 : Int32))] []))) (by rw [show ((0 : Int32) + (1 : Int32)) = (1 : Int32) by decide]) ?_
  refine own_goto X365 hx hby 54 15 d5_54 (by decide) (by decide) ?_
  refine own_iloadN X365 hx hby d5_15 rfl ?_
  refine own_aloadN X365 hx hby d5_16 rfl rfl ?_
  obtain ⟨cq369, kq369, q369a, q369b, q369c⟩ := isOf hZ e365 E1
  obtain ⟨_, _, ⟨T369, L369, k369, n369⟩, -, X369, ⟨Lc369, hQ369, l369, y369, z369⟩, st369⟩ := X365.virtualBack hx (y := mN_10) (z := mN_10) hown (mvT hZ (own_w hw 38 rfl)) (mvT hZ (own_w hw 39 rfl)) (notFace_of_selects (args := #[]) (mvT hZ (own_w hw 41 rfl))) (mvT hZ (own_w hw 41 rfl)) (mvT hZ (own_w hw 40 rfl)) (by decide) (backOf (W := 1) (rmlen1 l Z a0 hw [] a1 c0 g1 h0 n0 Z0 T1 SC hg1) hZ (own_w hw 42 rfl) (own_w hw 10 rfl) (by decide) (by decide)) q369a q369c (g := (mkF m 17 #[.val (.ref a1), .val (.int ((1 : Int32) &&& x364)), .val (.int (1 : Int32))] [(.ref a1), (.int (1 : Int32))])) rfl (by rw [hml]; rfl) (Steps.refl _) (argsL := []) (rest := [(.int (1 : Int32))]) (lenOf pd_14 rfl) rfl (by show 2 * 0 + _ ≤ _; exact Nat.le_of_eq rfl) (hb hby d5_17) (fun _ _ => ⟨rfl, e365, (by decide : 0 + 0 ≤ _), (by decide : 0 + 0 ≤ _)⟩)
  dsimp only [Pt.U, Pt.locs, Pt.cells, Pt.slots] at X369 l369 y369 z369 st369 hQ369
  subst l369 y369 z369
  obtain ⟨rfl, Nq369, e369⟩ := hQ369
  have N369 := Fr.app N365 Nq369
  refine own_of (U' := (T369.setTop (mkF m 20 #[.val (.ref a1), .val (.int ((1 : Int32) &&& x364)), .val (.int (1 : Int32))] [(.int (1 : Int32)), (.int (1 : Int32))]))) (fun _ k => st369.trans k) ?_
  have hc20_370 : ¬ ((1 : Int32) < (1 : Int32)) := by decide
  refine own_icmpYes X369 hx hby 20 57 d5_20 (flt hc20_370).2.1 (by decide) (by decide) ?_
  refine own_iloadN X369 hx hby d5_57 rfl ?_
  exact own_retN X369 hx hlk (t := .boolean) Bd.returns (by simp) (hb hby d5_58) (by decide) (by decide) (⟨congrArg (fun z => some (Value.int z)) (show nar .boolean ((1 : Int32) &&& x364) = own_wn 1 [c0] from by rw [hx364]; exact own_nb _ (own_wn01 1 (by decide) [c0])), N369, e369⟩)
theorem ef_wn2 (m : MethodId) (x0 : Addr) : entryFrame m #[(.ref x0)] 3 = mkF m 0 #[.val (.ref x0), .unset, .unset] [] := by first | (simp [entryFrame, mkF, argsToLocals, Value.category]; done) | rfl
set_option maxRecDepth 65536 in
set_option maxHeartbeats 40000000 in
theorem rmwn2 (l : Launch) (Z : State) (a0 : Array Value) (hw : ∀ d ∈ tables_1, d.before a0 Z = true) (ws : List Jvm.Cond) (a1 : Addr) (c0 c1 : Int32) (g1 : Int32) (rS : Value) (h0 : Heap) (n0 : Nat) (Z0 : n0 ≤ h0.size) (T1 : own_Str Z h0 a1 (2 : Int32) (4 : Int32) [c0, c1]) (hb0 : 0 ≤ c0.toInt ∧ c0.toInt < 65536) (hb1 : 0 ≤ c1.toInt ∧ c1.toInt < 65536) (SC : Sta Z h0 "java/lang/String" "COMPACT_STRINGS" "Z" (.int g1)) (hg1 : ¬ (g1 = (0 : Int32))) (SA : Sta Z h0 "java/lang/StringUTF16" "$assertionsDisabled" "Z" (.int (1 : Int32))) (SHI : Sta Z h0 "java/lang/StringUTF16" "HI_BYTE_SHIFT" "I" (.int (0 : Int32))) (SLO : Sta Z h0 "java/lang/StringUTF16" "LO_BYTE_SHIFT" "I" (.int (8 : Int32))) (SF : Sta Z h0 "jdk/internal/util/Preconditions" "SIOOBE_FORMATTER" "Ljava/util/function/BiFunction;" rS) (hrS : rS.isRef = true) :
    MetFree l mN_21 (head1 (Jvm.Cond.code mN_21 prog_5_method_5_code 3 (some .boolean) :: ws) ({ frames := 5, cells := 0, slots := 0, locals := 67 } : Room)) (fun a U => a = #[(.ref a1)] ∧ Z.Warmed39 U.vm ∧ U.heap = h0) (fun _ _ _ _ _ => True) (fun _ U o U' => ∃ v L, o = .returned v ∧ (Qv (own_wn 1 [c0, c1]) h0 n0) v U'.heap L ∧ FrameEnd U o U' L ({ frames := 5, cells := 0, slots := 0, locals := 67 } : Room).cells ({ frames := 5, cells := 0, slots := 0, locals := 67 } : Room).slots) := by
  refine MetFree.of_bodySF (plainFor_of_name pn_4) hisR ?_
  intro p e s m args below meth c s₁ Bd hml0 hP hK
  obtain ⟨rfl, hZ, hh⟩ := hP
  have hx := Bd.exec
  have hby := Bd.bytes
  have hml : c.maxLocals = 3 := hml0
  have hown : s.vm.findClass "com/example/pools_to_qrels/poolstoqrels/CitationIds" = some m.cls := findClass_of_methodNamed Bd.named
  have hnm := (name_of_methodNamed Bd.named Bd.method).1
  have hlk := Bd.notSynchronized
  have X0 : Stand p l e ({ frames := 5, cells := 0, slots := 0, locals := 67 } : Room) s m #[(.ref a1)] below meth c s₁ [] 0 0 := Stand.of_body Bd
  have e0 : s₁.heap = h0 := by rw [← hh, Bd.state]; rfl
  have N0 := Fr.nil n0
  show own_Ends p e below s FrameEnd (Qv (own_wn 1 [c0, c1]) h0 n0) 0 0 (s₁.setTop (entryFrame m #[(.ref a1)] 3))
  refine own_of (U' := (s₁.setTop (mkF m 0 #[.val (.ref a1), .unset, .unset] []))) (fun _ k => castTop (ef_wn2 m a1) k) ?_
  have E1 := T1.1
  refine own_aloadN X0 hx hby d5_0 rfl rfl ?_
  obtain ⟨cq371, kq371, q371a, q371b, q371c⟩ := isOf hZ e0 E1
  obtain ⟨_, _, ⟨T371, L371, k371, n371⟩, -, X371, ⟨Lc371, hQ371, l371, y371, z371⟩, st371⟩ := X0.virtualBack hx (y := mN_11) (z := mN_11) hown (mvT hZ (own_w hw 33 rfl)) (mvT hZ (own_w hw 34 rfl)) (notFace_of_selects (args := #[]) (mvT hZ (own_w hw 36 rfl))) (mvT hZ (own_w hw 36 rfl)) (mvT hZ (own_w hw 35 rfl)) (by decide) (backOf (W := 0) (rmie2 l Z a0 hw [] a1 c0 c1 h0 n0 Z0 T1) hZ (own_w hw 37 rfl) (own_w hw 10 rfl) (by decide) (by decide)) q371a q371c (g := (mkF m 1 #[.val (.ref a1), .unset, .unset] [(.ref a1)])) rfl (by rw [hml]; rfl) (Steps.refl _) (argsL := []) (rest := []) (lenOf pd_5 rfl) rfl (by show 2 * 0 + _ ≤ _; exact Nat.le_of_eq rfl) (hb hby d5_1) (fun _ _ => ⟨rfl, e0, (by decide : 0 + 0 ≤ _), (by decide : 0 + 0 ≤ _)⟩)
  dsimp only [Pt.U, Pt.locs, Pt.cells, Pt.slots] at X371 l371 y371 z371 st371 hQ371
  subst l371 y371 z371
  obtain ⟨rfl, Nq371, e371⟩ := hQ371
  have N371 := Fr.app N0 Nq371
  refine own_of (U' := (T371.setTop (mkF m 4 #[.val (.ref a1), .unset, .unset] [(.int (0 : Int32))]))) (fun _ k => st371.trans k) ?_
  have hc4_372 : (0 : Int32) = (0 : Int32) := by decide
  refine own_ifNo X371 hx hby d5_4 ((if0 _ _).trans (teq hc4_372).2) ?_
  refine own_iconst X371 hx hby 1 d5_7 rfl ?_
  refine own_goto X371 hx hby 8 12 d5_8 (by decide) (by decide) ?_
  refine own_istoreN X371 hx hby d5_12 (l' := #[.val (.ref a1), .val (.int (1 : Int32)), .unset]) rfl ?_
  refine own_iconst X371 hx hby 0 d5_13 rfl ?_
  refine own_istoreN X371 hx hby d5_14 (l' := #[.val (.ref a1), .val (.int (1 : Int32)), .val (.int (0 : Int32))]) rfl ?_
  refine own_iloadN X371 hx hby d5_15 rfl ?_
  refine own_aloadN X371 hx hby d5_16 rfl rfl ?_
  obtain ⟨cq373, kq373, q373a, q373b, q373c⟩ := isOf hZ e371 E1
  obtain ⟨_, _, ⟨T373, L373, k373, n373⟩, -, X373, ⟨Lc373, hQ373, l373, y373, z373⟩, st373⟩ := X371.virtualBack hx (y := mN_10) (z := mN_10) hown (mvT hZ (own_w hw 38 rfl)) (mvT hZ (own_w hw 39 rfl)) (notFace_of_selects (args := #[]) (mvT hZ (own_w hw 41 rfl))) (mvT hZ (own_w hw 41 rfl)) (mvT hZ (own_w hw 40 rfl)) (by decide) (backOf (W := 1) (rmlen2 l Z a0 hw [] a1 c0 c1 g1 h0 n0 Z0 T1 SC hg1) hZ (own_w hw 42 rfl) (own_w hw 10 rfl) (by decide) (by decide)) q373a q373c (g := (mkF m 17 #[.val (.ref a1), .val (.int (1 : Int32)), .val (.int (0 : Int32))] [(.ref a1), (.int (0 : Int32))])) rfl (by rw [hml]; rfl) (Steps.refl _) (argsL := []) (rest := [(.int (0 : Int32))]) (lenOf pd_14 rfl) rfl (by show 2 * 0 + _ ≤ _; exact Nat.le_of_eq rfl) (hb hby d5_17) (fun _ _ => ⟨rfl, e371, (by decide : 0 + 0 ≤ _), (by decide : 0 + 0 ≤ _)⟩)
  dsimp only [Pt.U, Pt.locs, Pt.cells, Pt.slots] at X373 l373 y373 z373 st373 hQ373
  subst l373 y373 z373
  obtain ⟨rfl, Nq373, e373⟩ := hQ373
  have N373 := Fr.app N371 Nq373
  refine own_of (U' := (T373.setTop (mkF m 20 #[.val (.ref a1), .val (.int (1 : Int32)), .val (.int (0 : Int32))] [(.int (2 : Int32)), (.int (0 : Int32))]))) (fun _ k => st373.trans k) ?_
  have hc20_374 : (0 : Int32) < (2 : Int32) := by decide
  refine own_icmpNo X373 hx hby d5_20 (tlt hc20_374).2.1 ?_
  refine own_iloadN X373 hx hby d5_23 rfl ?_
  refine own_aloadN X373 hx hby d5_24 rfl rfl ?_
  refine own_iloadN X373 hx hby d5_25 rfl ?_
  obtain ⟨cq375, kq375, q375a, q375b, q375c⟩ := isOf hZ e373 E1
  obtain ⟨_, _, ⟨T375, L375, k375, n375⟩, -, X375, ⟨Lc375, hQ375, l375, y375, z375⟩, st375⟩ := X373.virtualBack hx (y := mN_7) (z := mN_7) hown (mvT hZ (own_w hw 62 rfl)) (mvT hZ (own_w hw 63 rfl)) (notFace_of_selects (args := #[]) (mvT hZ (own_w hw 65 rfl))) (mvT hZ (own_w hw 65 rfl)) (mvT hZ (own_w hw 64 rfl)) (by decide) (backOf (W := 1) (rmch2_0 l Z a0 hw [] a1 c0 c1 g1 rS h0 n0 Z0 T1 hb0 hb1 SC hg1 SA SHI SLO SF hrS) hZ (own_w hw 66 rfl) (own_w hw 10 rfl) (by decide) (by decide)) q375a q375c (g := (mkF m 26 #[.val (.ref a1), .val (.int (1 : Int32)), .val (.int (0 : Int32))] [(.int (0 : Int32)), (.ref a1), (.int (1 : Int32))])) rfl (by rw [hml]; rfl) (Steps.refl _) (argsL := [(.int (0 : Int32))]) (rest := [(.int (1 : Int32))]) (lenOf pd_15 rfl) rfl (by show 2 * 0 + _ ≤ _; exact Nat.le_of_eq rfl) (hb hby d5_26) (fun _ _ => ⟨rfl, e373, (by decide : 0 + 0 ≤ _), (by decide : 0 + 0 ≤ _)⟩)
  dsimp only [Pt.U, Pt.locs, Pt.cells, Pt.slots] at X375 l375 y375 z375 st375 hQ375
  subst l375 y375 z375
  obtain ⟨rfl, Nq375, e375⟩ := hQ375
  have N375 := Fr.app N373 Nq375
  refine own_of (U' := (T375.setTop (mkF m 29 #[.val (.ref a1), .val (.int (1 : Int32)), .val (.int (0 : Int32))] [(.int c0), (.int (1 : Int32))]))) (fun _ k => st375.trans k) ?_
  refine own_bipush X375 hx hby 48 d5_29 rfl ?_
  obtain ⟨x376, hx376⟩ : ∃ z : Int32, z = (if c0 < (48 : Int32) then (0 : Int32) else (if (57 : Int32) < c0 then (0 : Int32) else (1 : Int32))) := ⟨_, rfl⟩
  suffices key377 : ∀ (T377 : State) (L377 : List Loc), Stand p l e ({ frames := 5, cells := 0, slots := 0, locals := 67 } : Room) s m #[(.ref a1)] below meth c T377 L377 0 0 → T377.heap = h0 → Fr n0 L377 → own_Ends p e below s FrameEnd (Qv (own_wn 1 [c0, c1]) h0 n0) 0 0 (T377.setTop (mkF m 49 #[.val (.ref a1), .val (.int (1 : Int32)), .val (.int (0 : Int32))] [(.int x376), (.int (1 : Int32))])) by
    by_cases hc31_378 : c0 < (48 : Int32)
    · skip
      refine own_icmpYes X375 hx hby 31 48 d5_31 (tlt hc31_378).1 (by decide) (by decide) ?_
      refine own_iconst X375 hx hby 0 d5_48 rfl ?_
      have tx376 : x376 = (0 : Int32) := by rw [hx376, if_pos hc31_378]
      exact own_eq (by rw [tx376]) (key377 _ _ X375 e375 N375)
    · skip
      refine own_icmpNo X375 hx hby d5_31 (flt hc31_378).1 ?_
      refine own_aloadN X375 hx hby d5_34 rfl rfl ?_
      refine own_iloadN X375 hx hby d5_35 rfl ?_
      obtain ⟨cq379, kq379, q379a, q379b, q379c⟩ := isOf hZ e375 E1
      obtain ⟨_, _, ⟨T379, L379, k379, n379⟩, -, X379, ⟨Lc379, hQ379, l379, y379, z379⟩, st379⟩ := X375.virtualBack hx (y := mN_7) (z := mN_7) hown (mvT hZ (own_w hw 62 rfl)) (mvT hZ (own_w hw 63 rfl)) (notFace_of_selects (args := #[]) (mvT hZ (own_w hw 65 rfl))) (mvT hZ (own_w hw 65 rfl)) (mvT hZ (own_w hw 64 rfl)) (by decide) (backOf (W := 1) (rmch2_0 l Z a0 hw [] a1 c0 c1 g1 rS h0 n0 Z0 T1 hb0 hb1 SC hg1 SA SHI SLO SF hrS) hZ (own_w hw 66 rfl) (own_w hw 10 rfl) (by decide) (by decide)) q379a q379c (g := (mkF m 36 #[.val (.ref a1), .val (.int (1 : Int32)), .val (.int (0 : Int32))] [(.int (0 : Int32)), (.ref a1), (.int (1 : Int32))])) rfl (by rw [hml]; rfl) (Steps.refl _) (argsL := [(.int (0 : Int32))]) (rest := [(.int (1 : Int32))]) (lenOf pd_15 rfl) rfl (by show 2 * 0 + _ ≤ _; exact Nat.le_of_eq rfl) (hb hby d5_36) (fun _ _ => ⟨rfl, e375, (by decide : 0 + 0 ≤ _), (by decide : 0 + 0 ≤ _)⟩)
      dsimp only [Pt.U, Pt.locs, Pt.cells, Pt.slots] at X379 l379 y379 z379 st379 hQ379
      subst l379 y379 z379
      obtain ⟨rfl, Nq379, e379⟩ := hQ379
      have N379 := Fr.app N375 Nq379
      refine own_of (U' := (T379.setTop (mkF m 39 #[.val (.ref a1), .val (.int (1 : Int32)), .val (.int (0 : Int32))] [(.int c0), (.int (1 : Int32))]))) (fun _ k => st379.trans k) ?_
      refine own_bipush X379 hx hby 57 d5_39 rfl ?_
      by_cases hc41_380 : (57 : Int32) < c0
      · skip
        refine own_icmpYes X379 hx hby 41 48 d5_41 (tlt hc41_380).2.2.1 (by decide) (by decide) ?_
        refine own_iconst X379 hx hby 0 d5_48 rfl ?_
        have tx376 : x376 = (0 : Int32) := by rw [hx376, if_neg hc31_378, if_pos hc41_380]
        exact own_eq (by rw [tx376]) (key377 _ _ X379 e379 N379)
      · skip
        refine own_icmpNo X379 hx hby d5_41 (flt hc41_380).2.2.1 ?_
        refine own_iconst X379 hx hby 1 d5_44 rfl ?_
        refine own_goto X379 hx hby 45 49 d5_45 (by decide) (by decide) ?_
        have tx376 : x376 = (1 : Int32) := by rw [hx376, if_neg hc31_378, if_neg hc41_380]
        exact own_eq (by rw [tx376]) (key377 _ _ X379 e379 N379)
  intro T377 L377 X377 e377 N377
  refine own_iand X377 hx hby d5_49 ?_
  refine own_istoreN X377 hx hby d5_50 (l' := #[.val (.ref a1), .val (.int ((1 : Int32) &&& x376)), .val (.int (0 : Int32))]) rfl ?_
  refine own_iinc X377 hx hby d5_51 rfl (l' := #[.val (.ref a1), .val (.int ((1 : Int32) &&& x376)), .val (.int ((0 : Int32) + (1 : Int32)))]) rfl ?_
  refine own_eq (U' := (T377.setTop (mkF m 54 #[.val (.ref a1), .val (.int ((1 : Int32) &&& x376)), .val (.int (1 : Int32))] []))) (by rw [show ((0 : Int32) + (1 : Int32)) = (1 : Int32) by decide]) ?_
  refine own_goto X377 hx hby 54 15 d5_54 (by decide) (by decide) ?_
  refine own_iloadN X377 hx hby d5_15 rfl ?_
  refine own_aloadN X377 hx hby d5_16 rfl rfl ?_
  obtain ⟨cq381, kq381, q381a, q381b, q381c⟩ := isOf hZ e377 E1
  obtain ⟨_, _, ⟨T381, L381, k381, n381⟩, -, X381, ⟨Lc381, hQ381, l381, y381, z381⟩, st381⟩ := X377.virtualBack hx (y := mN_10) (z := mN_10) hown (mvT hZ (own_w hw 38 rfl)) (mvT hZ (own_w hw 39 rfl)) (notFace_of_selects (args := #[]) (mvT hZ (own_w hw 41 rfl))) (mvT hZ (own_w hw 41 rfl)) (mvT hZ (own_w hw 40 rfl)) (by decide) (backOf (W := 1) (rmlen2 l Z a0 hw [] a1 c0 c1 g1 h0 n0 Z0 T1 SC hg1) hZ (own_w hw 42 rfl) (own_w hw 10 rfl) (by decide) (by decide)) q381a q381c (g := (mkF m 17 #[.val (.ref a1), .val (.int ((1 : Int32) &&& x376)), .val (.int (1 : Int32))] [(.ref a1), (.int (1 : Int32))])) rfl (by rw [hml]; rfl) (Steps.refl _) (argsL := []) (rest := [(.int (1 : Int32))]) (lenOf pd_14 rfl) rfl (by show 2 * 0 + _ ≤ _; exact Nat.le_of_eq rfl) (hb hby d5_17) (fun _ _ => ⟨rfl, e377, (by decide : 0 + 0 ≤ _), (by decide : 0 + 0 ≤ _)⟩)
  dsimp only [Pt.U, Pt.locs, Pt.cells, Pt.slots] at X381 l381 y381 z381 st381 hQ381
  subst l381 y381 z381
  obtain ⟨rfl, Nq381, e381⟩ := hQ381
  have N381 := Fr.app N377 Nq381
  refine own_of (U' := (T381.setTop (mkF m 20 #[.val (.ref a1), .val (.int ((1 : Int32) &&& x376)), .val (.int (1 : Int32))] [(.int (2 : Int32)), (.int (1 : Int32))]))) (fun _ k => st381.trans k) ?_
  have hc20_382 : (1 : Int32) < (2 : Int32) := by decide
  refine own_icmpNo X381 hx hby d5_20 (tlt hc20_382).2.1 ?_
  refine own_iloadN X381 hx hby d5_23 rfl ?_
  refine own_aloadN X381 hx hby d5_24 rfl rfl ?_
  refine own_iloadN X381 hx hby d5_25 rfl ?_
  obtain ⟨cq383, kq383, q383a, q383b, q383c⟩ := isOf hZ e381 E1
  obtain ⟨_, _, ⟨T383, L383, k383, n383⟩, -, X383, ⟨Lc383, hQ383, l383, y383, z383⟩, st383⟩ := X381.virtualBack hx (y := mN_7) (z := mN_7) hown (mvT hZ (own_w hw 62 rfl)) (mvT hZ (own_w hw 63 rfl)) (notFace_of_selects (args := #[]) (mvT hZ (own_w hw 65 rfl))) (mvT hZ (own_w hw 65 rfl)) (mvT hZ (own_w hw 64 rfl)) (by decide) (backOf (W := 1) (rmch2_1 l Z a0 hw [] a1 c0 c1 g1 rS h0 n0 Z0 T1 hb0 hb1 SC hg1 SA SHI SLO SF hrS) hZ (own_w hw 66 rfl) (own_w hw 10 rfl) (by decide) (by decide)) q383a q383c (g := (mkF m 26 #[.val (.ref a1), .val (.int ((1 : Int32) &&& x376)), .val (.int (1 : Int32))] [(.int (1 : Int32)), (.ref a1), (.int ((1 : Int32) &&& x376))])) rfl (by rw [hml]; rfl) (Steps.refl _) (argsL := [(.int (1 : Int32))]) (rest := [(.int ((1 : Int32) &&& x376))]) (lenOf pd_15 rfl) rfl (by show 2 * 0 + _ ≤ _; exact Nat.le_of_eq rfl) (hb hby d5_26) (fun _ _ => ⟨rfl, e381, (by decide : 0 + 0 ≤ _), (by decide : 0 + 0 ≤ _)⟩)
  dsimp only [Pt.U, Pt.locs, Pt.cells, Pt.slots] at X383 l383 y383 z383 st383 hQ383
  subst l383 y383 z383
  obtain ⟨rfl, Nq383, e383⟩ := hQ383
  have N383 := Fr.app N381 Nq383
  refine own_of (U' := (T383.setTop (mkF m 29 #[.val (.ref a1), .val (.int ((1 : Int32) &&& x376)), .val (.int (1 : Int32))] [(.int c1), (.int ((1 : Int32) &&& x376))]))) (fun _ k => st383.trans k) ?_
  refine own_bipush X383 hx hby 48 d5_29 rfl ?_
  obtain ⟨x384, hx384⟩ : ∃ z : Int32, z = (if c1 < (48 : Int32) then (0 : Int32) else (if (57 : Int32) < c1 then (0 : Int32) else (1 : Int32))) := ⟨_, rfl⟩
  suffices key385 : ∀ (T385 : State) (L385 : List Loc), Stand p l e ({ frames := 5, cells := 0, slots := 0, locals := 67 } : Room) s m #[(.ref a1)] below meth c T385 L385 0 0 → T385.heap = h0 → Fr n0 L385 → own_Ends p e below s FrameEnd (Qv (own_wn 1 [c0, c1]) h0 n0) 0 0 (T385.setTop (mkF m 49 #[.val (.ref a1), .val (.int ((1 : Int32) &&& x376)), .val (.int (1 : Int32))] [(.int x384), (.int ((1 : Int32) &&& x376))])) by
    by_cases hc31_386 : c1 < (48 : Int32)
    · skip
      refine own_icmpYes X383 hx hby 31 48 d5_31 (tlt hc31_386).1 (by decide) (by decide) ?_
      refine own_iconst X383 hx hby 0 d5_48 rfl ?_
      have tx384 : x384 = (0 : Int32) := by rw [hx384, if_pos hc31_386]
      exact own_eq (by rw [tx384]) (key385 _ _ X383 e383 N383)
    · skip
      refine own_icmpNo X383 hx hby d5_31 (flt hc31_386).1 ?_
      refine own_aloadN X383 hx hby d5_34 rfl rfl ?_
      refine own_iloadN X383 hx hby d5_35 rfl ?_
      obtain ⟨cq387, kq387, q387a, q387b, q387c⟩ := isOf hZ e383 E1
      obtain ⟨_, _, ⟨T387, L387, k387, n387⟩, -, X387, ⟨Lc387, hQ387, l387, y387, z387⟩, st387⟩ := X383.virtualBack hx (y := mN_7) (z := mN_7) hown (mvT hZ (own_w hw 62 rfl)) (mvT hZ (own_w hw 63 rfl)) (notFace_of_selects (args := #[]) (mvT hZ (own_w hw 65 rfl))) (mvT hZ (own_w hw 65 rfl)) (mvT hZ (own_w hw 64 rfl)) (by decide) (backOf (W := 1) (rmch2_1 l Z a0 hw [] a1 c0 c1 g1 rS h0 n0 Z0 T1 hb0 hb1 SC hg1 SA SHI SLO SF hrS) hZ (own_w hw 66 rfl) (own_w hw 10 rfl) (by decide) (by decide)) q387a q387c (g := (mkF m 36 #[.val (.ref a1), .val (.int ((1 : Int32) &&& x376)), .val (.int (1 : Int32))] [(.int (1 : Int32)), (.ref a1), (.int ((1 : Int32) &&& x376))])) rfl (by rw [hml]; rfl) (Steps.refl _) (argsL := [(.int (1 : Int32))]) (rest := [(.int ((1 : Int32) &&& x376))]) (lenOf pd_15 rfl) rfl (by show 2 * 0 + _ ≤ _; exact Nat.le_of_eq rfl) (hb hby d5_36) (fun _ _ => ⟨rfl, e383, (by decide : 0 + 0 ≤ _), (by decide : 0 + 0 ≤ _)⟩)
      dsimp only [Pt.U, Pt.locs, Pt.cells, Pt.slots] at X387 l387 y387 z387 st387 hQ387
      subst l387 y387 z387
      obtain ⟨rfl, Nq387, e387⟩ := hQ387
      have N387 := Fr.app N383 Nq387
      refine own_of (U' := (T387.setTop (mkF m 39 #[.val (.ref a1), .val (.int ((1 : Int32) &&& x376)), .val (.int (1 : Int32))] [(.int c1), (.int ((1 : Int32) &&& x376))]))) (fun _ k => st387.trans k) ?_
      refine own_bipush X387 hx hby 57 d5_39 rfl ?_
      by_cases hc41_388 : (57 : Int32) < c1
      · skip
        refine own_icmpYes X387 hx hby 41 48 d5_41 (tlt hc41_388).2.2.1 (by decide) (by decide) ?_
        refine own_iconst X387 hx hby 0 d5_48 rfl ?_
        have tx384 : x384 = (0 : Int32) := by rw [hx384, if_neg hc31_386, if_pos hc41_388]
        exact own_eq (by rw [tx384]) (key385 _ _ X387 e387 N387)
      · skip
        refine own_icmpNo X387 hx hby d5_41 (flt hc41_388).2.2.1 ?_
        refine own_iconst X387 hx hby 1 d5_44 rfl ?_
        refine own_goto X387 hx hby 45 49 d5_45 (by decide) (by decide) ?_
        have tx384 : x384 = (1 : Int32) := by rw [hx384, if_neg hc31_386, if_neg hc41_388]
        exact own_eq (by rw [tx384]) (key385 _ _ X387 e387 N387)
  intro T385 L385 X385 e385 N385
  refine own_iand X385 hx hby d5_49 ?_
  refine own_istoreN X385 hx hby d5_50 (l' := #[.val (.ref a1), .val (.int (((1 : Int32) &&& x376) &&& x384)), .val (.int (1 : Int32))]) rfl ?_
  refine own_iinc X385 hx hby d5_51 rfl (l' := #[.val (.ref a1), .val (.int (((1 : Int32) &&& x376) &&& x384)), .val (.int ((1 : Int32) + (1 : Int32)))]) rfl ?_
  refine own_eq (U' := (T385.setTop (mkF m 54 #[.val (.ref a1), .val (.int (((1 : Int32) &&& x376) &&& x384)), .val (.int (2 : Int32))] []))) (by rw [show ((1 : Int32) + (1 : Int32)) = (2 : Int32) by decide]) ?_
  refine own_goto X385 hx hby 54 15 d5_54 (by decide) (by decide) ?_
  refine own_iloadN X385 hx hby d5_15 rfl ?_
  refine own_aloadN X385 hx hby d5_16 rfl rfl ?_
  obtain ⟨cq389, kq389, q389a, q389b, q389c⟩ := isOf hZ e385 E1
  obtain ⟨_, _, ⟨T389, L389, k389, n389⟩, -, X389, ⟨Lc389, hQ389, l389, y389, z389⟩, st389⟩ := X385.virtualBack hx (y := mN_10) (z := mN_10) hown (mvT hZ (own_w hw 38 rfl)) (mvT hZ (own_w hw 39 rfl)) (notFace_of_selects (args := #[]) (mvT hZ (own_w hw 41 rfl))) (mvT hZ (own_w hw 41 rfl)) (mvT hZ (own_w hw 40 rfl)) (by decide) (backOf (W := 1) (rmlen2 l Z a0 hw [] a1 c0 c1 g1 h0 n0 Z0 T1 SC hg1) hZ (own_w hw 42 rfl) (own_w hw 10 rfl) (by decide) (by decide)) q389a q389c (g := (mkF m 17 #[.val (.ref a1), .val (.int (((1 : Int32) &&& x376) &&& x384)), .val (.int (2 : Int32))] [(.ref a1), (.int (2 : Int32))])) rfl (by rw [hml]; rfl) (Steps.refl _) (argsL := []) (rest := [(.int (2 : Int32))]) (lenOf pd_14 rfl) rfl (by show 2 * 0 + _ ≤ _; exact Nat.le_of_eq rfl) (hb hby d5_17) (fun _ _ => ⟨rfl, e385, (by decide : 0 + 0 ≤ _), (by decide : 0 + 0 ≤ _)⟩)
  dsimp only [Pt.U, Pt.locs, Pt.cells, Pt.slots] at X389 l389 y389 z389 st389 hQ389
  subst l389 y389 z389
  obtain ⟨rfl, Nq389, e389⟩ := hQ389
  have N389 := Fr.app N385 Nq389
  refine own_of (U' := (T389.setTop (mkF m 20 #[.val (.ref a1), .val (.int (((1 : Int32) &&& x376) &&& x384)), .val (.int (2 : Int32))] [(.int (2 : Int32)), (.int (2 : Int32))]))) (fun _ k => st389.trans k) ?_
  have hc20_390 : ¬ ((2 : Int32) < (2 : Int32)) := by decide
  refine own_icmpYes X389 hx hby 20 57 d5_20 (flt hc20_390).2.1 (by decide) (by decide) ?_
  refine own_iloadN X389 hx hby d5_57 rfl ?_
  exact own_retN X389 hx hlk (t := .boolean) Bd.returns (by simp) (hb hby d5_58) (by decide) (by decide) (⟨congrArg (fun z => some (Value.int z)) (show nar .boolean (((1 : Int32) &&& x376) &&& x384) = own_wn 1 [c0, c1] from by rw [hx376, hx384]; exact own_nb _ (own_wn01 1 (by decide) [c0, c1])), N389, e389⟩)
theorem ef_wn3 (m : MethodId) (x0 : Addr) : entryFrame m #[(.ref x0)] 3 = mkF m 0 #[.val (.ref x0), .unset, .unset] [] := by first | (simp [entryFrame, mkF, argsToLocals, Value.category]; done) | rfl
set_option maxRecDepth 65536 in
set_option maxHeartbeats 40000000 in
theorem rmwn3 (l : Launch) (Z : State) (a0 : Array Value) (hw : ∀ d ∈ tables_1, d.before a0 Z = true) (ws : List Jvm.Cond) (a1 : Addr) (c0 c1 c2 : Int32) (g1 : Int32) (rS : Value) (h0 : Heap) (n0 : Nat) (Z0 : n0 ≤ h0.size) (T1 : own_Str Z h0 a1 (3 : Int32) (6 : Int32) [c0, c1, c2]) (hb0 : 0 ≤ c0.toInt ∧ c0.toInt < 65536) (hb1 : 0 ≤ c1.toInt ∧ c1.toInt < 65536) (hb2 : 0 ≤ c2.toInt ∧ c2.toInt < 65536) (SC : Sta Z h0 "java/lang/String" "COMPACT_STRINGS" "Z" (.int g1)) (hg1 : ¬ (g1 = (0 : Int32))) (SA : Sta Z h0 "java/lang/StringUTF16" "$assertionsDisabled" "Z" (.int (1 : Int32))) (SHI : Sta Z h0 "java/lang/StringUTF16" "HI_BYTE_SHIFT" "I" (.int (0 : Int32))) (SLO : Sta Z h0 "java/lang/StringUTF16" "LO_BYTE_SHIFT" "I" (.int (8 : Int32))) (SF : Sta Z h0 "jdk/internal/util/Preconditions" "SIOOBE_FORMATTER" "Ljava/util/function/BiFunction;" rS) (hrS : rS.isRef = true) :
    MetFree l mN_21 (head1 (Jvm.Cond.code mN_21 prog_5_method_5_code 3 (some .boolean) :: ws) ({ frames := 5, cells := 0, slots := 0, locals := 67 } : Room)) (fun a U => a = #[(.ref a1)] ∧ Z.Warmed39 U.vm ∧ U.heap = h0) (fun _ _ _ _ _ => True) (fun _ U o U' => ∃ v L, o = .returned v ∧ (Qv (own_wn 1 [c0, c1, c2]) h0 n0) v U'.heap L ∧ FrameEnd U o U' L ({ frames := 5, cells := 0, slots := 0, locals := 67 } : Room).cells ({ frames := 5, cells := 0, slots := 0, locals := 67 } : Room).slots) := by
  refine MetFree.of_bodySF (plainFor_of_name pn_4) hisR ?_
  intro p e s m args below meth c s₁ Bd hml0 hP hK
  obtain ⟨rfl, hZ, hh⟩ := hP
  have hx := Bd.exec
  have hby := Bd.bytes
  have hml : c.maxLocals = 3 := hml0
  have hown : s.vm.findClass "com/example/pools_to_qrels/poolstoqrels/CitationIds" = some m.cls := findClass_of_methodNamed Bd.named
  have hnm := (name_of_methodNamed Bd.named Bd.method).1
  have hlk := Bd.notSynchronized
  have X0 : Stand p l e ({ frames := 5, cells := 0, slots := 0, locals := 67 } : Room) s m #[(.ref a1)] below meth c s₁ [] 0 0 := Stand.of_body Bd
  have e0 : s₁.heap = h0 := by rw [← hh, Bd.state]; rfl
  have N0 := Fr.nil n0
  show own_Ends p e below s FrameEnd (Qv (own_wn 1 [c0, c1, c2]) h0 n0) 0 0 (s₁.setTop (entryFrame m #[(.ref a1)] 3))
  refine own_of (U' := (s₁.setTop (mkF m 0 #[.val (.ref a1), .unset, .unset] []))) (fun _ k => castTop (ef_wn3 m a1) k) ?_
  have E1 := T1.1
  refine own_aloadN X0 hx hby d5_0 rfl rfl ?_
  obtain ⟨cq391, kq391, q391a, q391b, q391c⟩ := isOf hZ e0 E1
  obtain ⟨_, _, ⟨T391, L391, k391, n391⟩, -, X391, ⟨Lc391, hQ391, l391, y391, z391⟩, st391⟩ := X0.virtualBack hx (y := mN_11) (z := mN_11) hown (mvT hZ (own_w hw 33 rfl)) (mvT hZ (own_w hw 34 rfl)) (notFace_of_selects (args := #[]) (mvT hZ (own_w hw 36 rfl))) (mvT hZ (own_w hw 36 rfl)) (mvT hZ (own_w hw 35 rfl)) (by decide) (backOf (W := 0) (rmie3 l Z a0 hw [] a1 c0 c1 c2 h0 n0 Z0 T1) hZ (own_w hw 37 rfl) (own_w hw 10 rfl) (by decide) (by decide)) q391a q391c (g := (mkF m 1 #[.val (.ref a1), .unset, .unset] [(.ref a1)])) rfl (by rw [hml]; rfl) (Steps.refl _) (argsL := []) (rest := []) (lenOf pd_5 rfl) rfl (by show 2 * 0 + _ ≤ _; exact Nat.le_of_eq rfl) (hb hby d5_1) (fun _ _ => ⟨rfl, e0, (by decide : 0 + 0 ≤ _), (by decide : 0 + 0 ≤ _)⟩)
  dsimp only [Pt.U, Pt.locs, Pt.cells, Pt.slots] at X391 l391 y391 z391 st391 hQ391
  subst l391 y391 z391
  obtain ⟨rfl, Nq391, e391⟩ := hQ391
  have N391 := Fr.app N0 Nq391
  refine own_of (U' := (T391.setTop (mkF m 4 #[.val (.ref a1), .unset, .unset] [(.int (0 : Int32))]))) (fun _ k => st391.trans k) ?_
  have hc4_392 : (0 : Int32) = (0 : Int32) := by decide
  refine own_ifNo X391 hx hby d5_4 ((if0 _ _).trans (teq hc4_392).2) ?_
  refine own_iconst X391 hx hby 1 d5_7 rfl ?_
  refine own_goto X391 hx hby 8 12 d5_8 (by decide) (by decide) ?_
  refine own_istoreN X391 hx hby d5_12 (l' := #[.val (.ref a1), .val (.int (1 : Int32)), .unset]) rfl ?_
  refine own_iconst X391 hx hby 0 d5_13 rfl ?_
  refine own_istoreN X391 hx hby d5_14 (l' := #[.val (.ref a1), .val (.int (1 : Int32)), .val (.int (0 : Int32))]) rfl ?_
  refine own_iloadN X391 hx hby d5_15 rfl ?_
  refine own_aloadN X391 hx hby d5_16 rfl rfl ?_
  obtain ⟨cq393, kq393, q393a, q393b, q393c⟩ := isOf hZ e391 E1
  obtain ⟨_, _, ⟨T393, L393, k393, n393⟩, -, X393, ⟨Lc393, hQ393, l393, y393, z393⟩, st393⟩ := X391.virtualBack hx (y := mN_10) (z := mN_10) hown (mvT hZ (own_w hw 38 rfl)) (mvT hZ (own_w hw 39 rfl)) (notFace_of_selects (args := #[]) (mvT hZ (own_w hw 41 rfl))) (mvT hZ (own_w hw 41 rfl)) (mvT hZ (own_w hw 40 rfl)) (by decide) (backOf (W := 1) (rmlen3 l Z a0 hw [] a1 c0 c1 c2 g1 h0 n0 Z0 T1 SC hg1) hZ (own_w hw 42 rfl) (own_w hw 10 rfl) (by decide) (by decide)) q393a q393c (g := (mkF m 17 #[.val (.ref a1), .val (.int (1 : Int32)), .val (.int (0 : Int32))] [(.ref a1), (.int (0 : Int32))])) rfl (by rw [hml]; rfl) (Steps.refl _) (argsL := []) (rest := [(.int (0 : Int32))]) (lenOf pd_14 rfl) rfl (by show 2 * 0 + _ ≤ _; exact Nat.le_of_eq rfl) (hb hby d5_17) (fun _ _ => ⟨rfl, e391, (by decide : 0 + 0 ≤ _), (by decide : 0 + 0 ≤ _)⟩)
  dsimp only [Pt.U, Pt.locs, Pt.cells, Pt.slots] at X393 l393 y393 z393 st393 hQ393
  subst l393 y393 z393
  obtain ⟨rfl, Nq393, e393⟩ := hQ393
  have N393 := Fr.app N391 Nq393
  refine own_of (U' := (T393.setTop (mkF m 20 #[.val (.ref a1), .val (.int (1 : Int32)), .val (.int (0 : Int32))] [(.int (3 : Int32)), (.int (0 : Int32))]))) (fun _ k => st393.trans k) ?_
  have hc20_394 : (0 : Int32) < (3 : Int32) := by decide
  refine own_icmpNo X393 hx hby d5_20 (tlt hc20_394).2.1 ?_
  refine own_iloadN X393 hx hby d5_23 rfl ?_
  refine own_aloadN X393 hx hby d5_24 rfl rfl ?_
  refine own_iloadN X393 hx hby d5_25 rfl ?_
  obtain ⟨cq395, kq395, q395a, q395b, q395c⟩ := isOf hZ e393 E1
  obtain ⟨_, _, ⟨T395, L395, k395, n395⟩, -, X395, ⟨Lc395, hQ395, l395, y395, z395⟩, st395⟩ := X393.virtualBack hx (y := mN_7) (z := mN_7) hown (mvT hZ (own_w hw 62 rfl)) (mvT hZ (own_w hw 63 rfl)) (notFace_of_selects (args := #[]) (mvT hZ (own_w hw 65 rfl))) (mvT hZ (own_w hw 65 rfl)) (mvT hZ (own_w hw 64 rfl)) (by decide) (backOf (W := 1) (rmch3_0 l Z a0 hw [] a1 c0 c1 c2 g1 rS h0 n0 Z0 T1 hb0 hb1 hb2 SC hg1 SA SHI SLO SF hrS) hZ (own_w hw 66 rfl) (own_w hw 10 rfl) (by decide) (by decide)) q395a q395c (g := (mkF m 26 #[.val (.ref a1), .val (.int (1 : Int32)), .val (.int (0 : Int32))] [(.int (0 : Int32)), (.ref a1), (.int (1 : Int32))])) rfl (by rw [hml]; rfl) (Steps.refl _) (argsL := [(.int (0 : Int32))]) (rest := [(.int (1 : Int32))]) (lenOf pd_15 rfl) rfl (by show 2 * 0 + _ ≤ _; exact Nat.le_of_eq rfl) (hb hby d5_26) (fun _ _ => ⟨rfl, e393, (by decide : 0 + 0 ≤ _), (by decide : 0 + 0 ≤ _)⟩)
  dsimp only [Pt.U, Pt.locs, Pt.cells, Pt.slots] at X395 l395 y395 z395 st395 hQ395
  subst l395 y395 z395
  obtain ⟨rfl, Nq395, e395⟩ := hQ395
  have N395 := Fr.app N393 Nq395
  refine own_of (U' := (T395.setTop (mkF m 29 #[.val (.ref a1), .val (.int (1 : Int32)), .val (.int (0 : Int32))] [(.int c0), (.int (1 : Int32))]))) (fun _ k => st395.trans k) ?_
  refine own_bipush X395 hx hby 48 d5_29 rfl ?_
  obtain ⟨x396, hx396⟩ : ∃ z : Int32, z = (if c0 < (48 : Int32) then (0 : Int32) else (if (57 : Int32) < c0 then (0 : Int32) else (1 : Int32))) := ⟨_, rfl⟩
  suffices key397 : ∀ (T397 : State) (L397 : List Loc), Stand p l e ({ frames := 5, cells := 0, slots := 0, locals := 67 } : Room) s m #[(.ref a1)] below meth c T397 L397 0 0 → T397.heap = h0 → Fr n0 L397 → own_Ends p e below s FrameEnd (Qv (own_wn 1 [c0, c1, c2]) h0 n0) 0 0 (T397.setTop (mkF m 49 #[.val (.ref a1), .val (.int (1 : Int32)), .val (.int (0 : Int32))] [(.int x396), (.int (1 : Int32))])) by
    by_cases hc31_398 : c0 < (48 : Int32)
    · skip
      refine own_icmpYes X395 hx hby 31 48 d5_31 (tlt hc31_398).1 (by decide) (by decide) ?_
      refine own_iconst X395 hx hby 0 d5_48 rfl ?_
      have tx396 : x396 = (0 : Int32) := by rw [hx396, if_pos hc31_398]
      exact own_eq (by rw [tx396]) (key397 _ _ X395 e395 N395)
    · skip
      refine own_icmpNo X395 hx hby d5_31 (flt hc31_398).1 ?_
      refine own_aloadN X395 hx hby d5_34 rfl rfl ?_
      refine own_iloadN X395 hx hby d5_35 rfl ?_
      obtain ⟨cq399, kq399, q399a, q399b, q399c⟩ := isOf hZ e395 E1
      obtain ⟨_, _, ⟨T399, L399, k399, n399⟩, -, X399, ⟨Lc399, hQ399, l399, y399, z399⟩, st399⟩ := X395.virtualBack hx (y := mN_7) (z := mN_7) hown (mvT hZ (own_w hw 62 rfl)) (mvT hZ (own_w hw 63 rfl)) (notFace_of_selects (args := #[]) (mvT hZ (own_w hw 65 rfl))) (mvT hZ (own_w hw 65 rfl)) (mvT hZ (own_w hw 64 rfl)) (by decide) (backOf (W := 1) (rmch3_0 l Z a0 hw [] a1 c0 c1 c2 g1 rS h0 n0 Z0 T1 hb0 hb1 hb2 SC hg1 SA SHI SLO SF hrS) hZ (own_w hw 66 rfl) (own_w hw 10 rfl) (by decide) (by decide)) q399a q399c (g := (mkF m 36 #[.val (.ref a1), .val (.int (1 : Int32)), .val (.int (0 : Int32))] [(.int (0 : Int32)), (.ref a1), (.int (1 : Int32))])) rfl (by rw [hml]; rfl) (Steps.refl _) (argsL := [(.int (0 : Int32))]) (rest := [(.int (1 : Int32))]) (lenOf pd_15 rfl) rfl (by show 2 * 0 + _ ≤ _; exact Nat.le_of_eq rfl) (hb hby d5_36) (fun _ _ => ⟨rfl, e395, (by decide : 0 + 0 ≤ _), (by decide : 0 + 0 ≤ _)⟩)
      dsimp only [Pt.U, Pt.locs, Pt.cells, Pt.slots] at X399 l399 y399 z399 st399 hQ399
      subst l399 y399 z399
      obtain ⟨rfl, Nq399, e399⟩ := hQ399
      have N399 := Fr.app N395 Nq399
      refine own_of (U' := (T399.setTop (mkF m 39 #[.val (.ref a1), .val (.int (1 : Int32)), .val (.int (0 : Int32))] [(.int c0), (.int (1 : Int32))]))) (fun _ k => st399.trans k) ?_
      refine own_bipush X399 hx hby 57 d5_39 rfl ?_
      by_cases hc41_400 : (57 : Int32) < c0
      · skip
        refine own_icmpYes X399 hx hby 41 48 d5_41 (tlt hc41_400).2.2.1 (by decide) (by decide) ?_
        refine own_iconst X399 hx hby 0 d5_48 rfl ?_
        have tx396 : x396 = (0 : Int32) := by rw [hx396, if_neg hc31_398, if_pos hc41_400]
        exact own_eq (by rw [tx396]) (key397 _ _ X399 e399 N399)
      · skip
        refine own_icmpNo X399 hx hby d5_41 (flt hc41_400).2.2.1 ?_
        refine own_iconst X399 hx hby 1 d5_44 rfl ?_
        refine own_goto X399 hx hby 45 49 d5_45 (by decide) (by decide) ?_
        have tx396 : x396 = (1 : Int32) := by rw [hx396, if_neg hc31_398, if_neg hc41_400]
        exact own_eq (by rw [tx396]) (key397 _ _ X399 e399 N399)
  intro T397 L397 X397 e397 N397
  refine own_iand X397 hx hby d5_49 ?_
  refine own_istoreN X397 hx hby d5_50 (l' := #[.val (.ref a1), .val (.int ((1 : Int32) &&& x396)), .val (.int (0 : Int32))]) rfl ?_
  refine own_iinc X397 hx hby d5_51 rfl (l' := #[.val (.ref a1), .val (.int ((1 : Int32) &&& x396)), .val (.int ((0 : Int32) + (1 : Int32)))]) rfl ?_
  refine own_eq (U' := (T397.setTop (mkF m 54 #[.val (.ref a1), .val (.int ((1 : Int32) &&& x396)), .val (.int (1 : Int32))] []))) (by rw [show ((0 : Int32) + (1 : Int32)) = (1 : Int32) by decide]) ?_
  refine own_goto X397 hx hby 54 15 d5_54 (by decide) (by decide) ?_
  refine own_iloadN X397 hx hby d5_15 rfl ?_
  refine own_aloadN X397 hx hby d5_16 rfl rfl ?_
  obtain ⟨cq401, kq401, q401a, q401b, q401c⟩ := isOf hZ e397 E1
  obtain ⟨_, _, ⟨T401, L401, k401, n401⟩, -, X401, ⟨Lc401, hQ401, l401, y401, z401⟩, st401⟩ := X397.virtualBack hx (y := mN_10) (z := mN_10) hown (mvT hZ (own_w hw 38 rfl)) (mvT hZ (own_w hw 39 rfl)) (notFace_of_selects (args := #[]) (mvT hZ (own_w hw 41 rfl))) (mvT hZ (own_w hw 41 rfl)) (mvT hZ (own_w hw 40 rfl)) (by decide) (backOf (W := 1) (rmlen3 l Z a0 hw [] a1 c0 c1 c2 g1 h0 n0 Z0 T1 SC hg1) hZ (own_w hw 42 rfl) (own_w hw 10 rfl) (by decide) (by decide)) q401a q401c (g := (mkF m 17 #[.val (.ref a1), .val (.int ((1 : Int32) &&& x396)), .val (.int (1 : Int32))] [(.ref a1), (.int (1 : Int32))])) rfl (by rw [hml]; rfl) (Steps.refl _) (argsL := []) (rest := [(.int (1 : Int32))]) (lenOf pd_14 rfl) rfl (by show 2 * 0 + _ ≤ _; exact Nat.le_of_eq rfl) (hb hby d5_17) (fun _ _ => ⟨rfl, e397, (by decide : 0 + 0 ≤ _), (by decide : 0 + 0 ≤ _)⟩)
  dsimp only [Pt.U, Pt.locs, Pt.cells, Pt.slots] at X401 l401 y401 z401 st401 hQ401
  subst l401 y401 z401
  obtain ⟨rfl, Nq401, e401⟩ := hQ401
  have N401 := Fr.app N397 Nq401
  refine own_of (U' := (T401.setTop (mkF m 20 #[.val (.ref a1), .val (.int ((1 : Int32) &&& x396)), .val (.int (1 : Int32))] [(.int (3 : Int32)), (.int (1 : Int32))]))) (fun _ k => st401.trans k) ?_
  have hc20_402 : (1 : Int32) < (3 : Int32) := by decide
  refine own_icmpNo X401 hx hby d5_20 (tlt hc20_402).2.1 ?_
  refine own_iloadN X401 hx hby d5_23 rfl ?_
  refine own_aloadN X401 hx hby d5_24 rfl rfl ?_
  refine own_iloadN X401 hx hby d5_25 rfl ?_
  obtain ⟨cq403, kq403, q403a, q403b, q403c⟩ := isOf hZ e401 E1
  obtain ⟨_, _, ⟨T403, L403, k403, n403⟩, -, X403, ⟨Lc403, hQ403, l403, y403, z403⟩, st403⟩ := X401.virtualBack hx (y := mN_7) (z := mN_7) hown (mvT hZ (own_w hw 62 rfl)) (mvT hZ (own_w hw 63 rfl)) (notFace_of_selects (args := #[]) (mvT hZ (own_w hw 65 rfl))) (mvT hZ (own_w hw 65 rfl)) (mvT hZ (own_w hw 64 rfl)) (by decide) (backOf (W := 1) (rmch3_1 l Z a0 hw [] a1 c0 c1 c2 g1 rS h0 n0 Z0 T1 hb0 hb1 hb2 SC hg1 SA SHI SLO SF hrS) hZ (own_w hw 66 rfl) (own_w hw 10 rfl) (by decide) (by decide)) q403a q403c (g := (mkF m 26 #[.val (.ref a1), .val (.int ((1 : Int32) &&& x396)), .val (.int (1 : Int32))] [(.int (1 : Int32)), (.ref a1), (.int ((1 : Int32) &&& x396))])) rfl (by rw [hml]; rfl) (Steps.refl _) (argsL := [(.int (1 : Int32))]) (rest := [(.int ((1 : Int32) &&& x396))]) (lenOf pd_15 rfl) rfl (by show 2 * 0 + _ ≤ _; exact Nat.le_of_eq rfl) (hb hby d5_26) (fun _ _ => ⟨rfl, e401, (by decide : 0 + 0 ≤ _), (by decide : 0 + 0 ≤ _)⟩)
  dsimp only [Pt.U, Pt.locs, Pt.cells, Pt.slots] at X403 l403 y403 z403 st403 hQ403
  subst l403 y403 z403
  obtain ⟨rfl, Nq403, e403⟩ := hQ403
  have N403 := Fr.app N401 Nq403
  refine own_of (U' := (T403.setTop (mkF m 29 #[.val (.ref a1), .val (.int ((1 : Int32) &&& x396)), .val (.int (1 : Int32))] [(.int c1), (.int ((1 : Int32) &&& x396))]))) (fun _ k => st403.trans k) ?_
  refine own_bipush X403 hx hby 48 d5_29 rfl ?_
  obtain ⟨x404, hx404⟩ : ∃ z : Int32, z = (if c1 < (48 : Int32) then (0 : Int32) else (if (57 : Int32) < c1 then (0 : Int32) else (1 : Int32))) := ⟨_, rfl⟩
  suffices key405 : ∀ (T405 : State) (L405 : List Loc), Stand p l e ({ frames := 5, cells := 0, slots := 0, locals := 67 } : Room) s m #[(.ref a1)] below meth c T405 L405 0 0 → T405.heap = h0 → Fr n0 L405 → own_Ends p e below s FrameEnd (Qv (own_wn 1 [c0, c1, c2]) h0 n0) 0 0 (T405.setTop (mkF m 49 #[.val (.ref a1), .val (.int ((1 : Int32) &&& x396)), .val (.int (1 : Int32))] [(.int x404), (.int ((1 : Int32) &&& x396))])) by
    by_cases hc31_406 : c1 < (48 : Int32)
    · skip
      refine own_icmpYes X403 hx hby 31 48 d5_31 (tlt hc31_406).1 (by decide) (by decide) ?_
      refine own_iconst X403 hx hby 0 d5_48 rfl ?_
      have tx404 : x404 = (0 : Int32) := by rw [hx404, if_pos hc31_406]
      exact own_eq (by rw [tx404]) (key405 _ _ X403 e403 N403)
    · skip
      refine own_icmpNo X403 hx hby d5_31 (flt hc31_406).1 ?_
      refine own_aloadN X403 hx hby d5_34 rfl rfl ?_
      refine own_iloadN X403 hx hby d5_35 rfl ?_
      obtain ⟨cq407, kq407, q407a, q407b, q407c⟩ := isOf hZ e403 E1
      obtain ⟨_, _, ⟨T407, L407, k407, n407⟩, -, X407, ⟨Lc407, hQ407, l407, y407, z407⟩, st407⟩ := X403.virtualBack hx (y := mN_7) (z := mN_7) hown (mvT hZ (own_w hw 62 rfl)) (mvT hZ (own_w hw 63 rfl)) (notFace_of_selects (args := #[]) (mvT hZ (own_w hw 65 rfl))) (mvT hZ (own_w hw 65 rfl)) (mvT hZ (own_w hw 64 rfl)) (by decide) (backOf (W := 1) (rmch3_1 l Z a0 hw [] a1 c0 c1 c2 g1 rS h0 n0 Z0 T1 hb0 hb1 hb2 SC hg1 SA SHI SLO SF hrS) hZ (own_w hw 66 rfl) (own_w hw 10 rfl) (by decide) (by decide)) q407a q407c (g := (mkF m 36 #[.val (.ref a1), .val (.int ((1 : Int32) &&& x396)), .val (.int (1 : Int32))] [(.int (1 : Int32)), (.ref a1), (.int ((1 : Int32) &&& x396))])) rfl (by rw [hml]; rfl) (Steps.refl _) (argsL := [(.int (1 : Int32))]) (rest := [(.int ((1 : Int32) &&& x396))]) (lenOf pd_15 rfl) rfl (by show 2 * 0 + _ ≤ _; exact Nat.le_of_eq rfl) (hb hby d5_36) (fun _ _ => ⟨rfl, e403, (by decide : 0 + 0 ≤ _), (by decide : 0 + 0 ≤ _)⟩)
      dsimp only [Pt.U, Pt.locs, Pt.cells, Pt.slots] at X407 l407 y407 z407 st407 hQ407
      subst l407 y407 z407
      obtain ⟨rfl, Nq407, e407⟩ := hQ407
      have N407 := Fr.app N403 Nq407
      refine own_of (U' := (T407.setTop (mkF m 39 #[.val (.ref a1), .val (.int ((1 : Int32) &&& x396)), .val (.int (1 : Int32))] [(.int c1), (.int ((1 : Int32) &&& x396))]))) (fun _ k => st407.trans k) ?_
      refine own_bipush X407 hx hby 57 d5_39 rfl ?_
      by_cases hc41_408 : (57 : Int32) < c1
      · skip
        refine own_icmpYes X407 hx hby 41 48 d5_41 (tlt hc41_408).2.2.1 (by decide) (by decide) ?_
        refine own_iconst X407 hx hby 0 d5_48 rfl ?_
        have tx404 : x404 = (0 : Int32) := by rw [hx404, if_neg hc31_406, if_pos hc41_408]
        exact own_eq (by rw [tx404]) (key405 _ _ X407 e407 N407)
      · skip
        refine own_icmpNo X407 hx hby d5_41 (flt hc41_408).2.2.1 ?_
        refine own_iconst X407 hx hby 1 d5_44 rfl ?_
        refine own_goto X407 hx hby 45 49 d5_45 (by decide) (by decide) ?_
        have tx404 : x404 = (1 : Int32) := by rw [hx404, if_neg hc31_406, if_neg hc41_408]
        exact own_eq (by rw [tx404]) (key405 _ _ X407 e407 N407)
  intro T405 L405 X405 e405 N405
  refine own_iand X405 hx hby d5_49 ?_
  refine own_istoreN X405 hx hby d5_50 (l' := #[.val (.ref a1), .val (.int (((1 : Int32) &&& x396) &&& x404)), .val (.int (1 : Int32))]) rfl ?_
  refine own_iinc X405 hx hby d5_51 rfl (l' := #[.val (.ref a1), .val (.int (((1 : Int32) &&& x396) &&& x404)), .val (.int ((1 : Int32) + (1 : Int32)))]) rfl ?_
  refine own_eq (U' := (T405.setTop (mkF m 54 #[.val (.ref a1), .val (.int (((1 : Int32) &&& x396) &&& x404)), .val (.int (2 : Int32))] []))) (by rw [show ((1 : Int32) + (1 : Int32)) = (2 : Int32) by decide]) ?_
  refine own_goto X405 hx hby 54 15 d5_54 (by decide) (by decide) ?_
  refine own_iloadN X405 hx hby d5_15 rfl ?_
  refine own_aloadN X405 hx hby d5_16 rfl rfl ?_
  obtain ⟨cq409, kq409, q409a, q409b, q409c⟩ := isOf hZ e405 E1
  obtain ⟨_, _, ⟨T409, L409, k409, n409⟩, -, X409, ⟨Lc409, hQ409, l409, y409, z409⟩, st409⟩ := X405.virtualBack hx (y := mN_10) (z := mN_10) hown (mvT hZ (own_w hw 38 rfl)) (mvT hZ (own_w hw 39 rfl)) (notFace_of_selects (args := #[]) (mvT hZ (own_w hw 41 rfl))) (mvT hZ (own_w hw 41 rfl)) (mvT hZ (own_w hw 40 rfl)) (by decide) (backOf (W := 1) (rmlen3 l Z a0 hw [] a1 c0 c1 c2 g1 h0 n0 Z0 T1 SC hg1) hZ (own_w hw 42 rfl) (own_w hw 10 rfl) (by decide) (by decide)) q409a q409c (g := (mkF m 17 #[.val (.ref a1), .val (.int (((1 : Int32) &&& x396) &&& x404)), .val (.int (2 : Int32))] [(.ref a1), (.int (2 : Int32))])) rfl (by rw [hml]; rfl) (Steps.refl _) (argsL := []) (rest := [(.int (2 : Int32))]) (lenOf pd_14 rfl) rfl (by show 2 * 0 + _ ≤ _; exact Nat.le_of_eq rfl) (hb hby d5_17) (fun _ _ => ⟨rfl, e405, (by decide : 0 + 0 ≤ _), (by decide : 0 + 0 ≤ _)⟩)
  dsimp only [Pt.U, Pt.locs, Pt.cells, Pt.slots] at X409 l409 y409 z409 st409 hQ409
  subst l409 y409 z409
  obtain ⟨rfl, Nq409, e409⟩ := hQ409
  have N409 := Fr.app N405 Nq409
  refine own_of (U' := (T409.setTop (mkF m 20 #[.val (.ref a1), .val (.int (((1 : Int32) &&& x396) &&& x404)), .val (.int (2 : Int32))] [(.int (3 : Int32)), (.int (2 : Int32))]))) (fun _ k => st409.trans k) ?_
  have hc20_410 : (2 : Int32) < (3 : Int32) := by decide
  refine own_icmpNo X409 hx hby d5_20 (tlt hc20_410).2.1 ?_
  refine own_iloadN X409 hx hby d5_23 rfl ?_
  refine own_aloadN X409 hx hby d5_24 rfl rfl ?_
  refine own_iloadN X409 hx hby d5_25 rfl ?_
  obtain ⟨cq411, kq411, q411a, q411b, q411c⟩ := isOf hZ e409 E1
  obtain ⟨_, _, ⟨T411, L411, k411, n411⟩, -, X411, ⟨Lc411, hQ411, l411, y411, z411⟩, st411⟩ := X409.virtualBack hx (y := mN_7) (z := mN_7) hown (mvT hZ (own_w hw 62 rfl)) (mvT hZ (own_w hw 63 rfl)) (notFace_of_selects (args := #[]) (mvT hZ (own_w hw 65 rfl))) (mvT hZ (own_w hw 65 rfl)) (mvT hZ (own_w hw 64 rfl)) (by decide) (backOf (W := 1) (rmch3_2 l Z a0 hw [] a1 c0 c1 c2 g1 rS h0 n0 Z0 T1 hb0 hb1 hb2 SC hg1 SA SHI SLO SF hrS) hZ (own_w hw 66 rfl) (own_w hw 10 rfl) (by decide) (by decide)) q411a q411c (g := (mkF m 26 #[.val (.ref a1), .val (.int (((1 : Int32) &&& x396) &&& x404)), .val (.int (2 : Int32))] [(.int (2 : Int32)), (.ref a1), (.int (((1 : Int32) &&& x396) &&& x404))])) rfl (by rw [hml]; rfl) (Steps.refl _) (argsL := [(.int (2 : Int32))]) (rest := [(.int (((1 : Int32) &&& x396) &&& x404))]) (lenOf pd_15 rfl) rfl (by show 2 * 0 + _ ≤ _; exact Nat.le_of_eq rfl) (hb hby d5_26) (fun _ _ => ⟨rfl, e409, (by decide : 0 + 0 ≤ _), (by decide : 0 + 0 ≤ _)⟩)
  dsimp only [Pt.U, Pt.locs, Pt.cells, Pt.slots] at X411 l411 y411 z411 st411 hQ411
  subst l411 y411 z411
  obtain ⟨rfl, Nq411, e411⟩ := hQ411
  have N411 := Fr.app N409 Nq411
  refine own_of (U' := (T411.setTop (mkF m 29 #[.val (.ref a1), .val (.int (((1 : Int32) &&& x396) &&& x404)), .val (.int (2 : Int32))] [(.int c2), (.int (((1 : Int32) &&& x396) &&& x404))]))) (fun _ k => st411.trans k) ?_
  refine own_bipush X411 hx hby 48 d5_29 rfl ?_
  obtain ⟨x412, hx412⟩ : ∃ z : Int32, z = (if c2 < (48 : Int32) then (0 : Int32) else (if (57 : Int32) < c2 then (0 : Int32) else (1 : Int32))) := ⟨_, rfl⟩
  suffices key413 : ∀ (T413 : State) (L413 : List Loc), Stand p l e ({ frames := 5, cells := 0, slots := 0, locals := 67 } : Room) s m #[(.ref a1)] below meth c T413 L413 0 0 → T413.heap = h0 → Fr n0 L413 → own_Ends p e below s FrameEnd (Qv (own_wn 1 [c0, c1, c2]) h0 n0) 0 0 (T413.setTop (mkF m 49 #[.val (.ref a1), .val (.int (((1 : Int32) &&& x396) &&& x404)), .val (.int (2 : Int32))] [(.int x412), (.int (((1 : Int32) &&& x396) &&& x404))])) by
    by_cases hc31_414 : c2 < (48 : Int32)
    · skip
      refine own_icmpYes X411 hx hby 31 48 d5_31 (tlt hc31_414).1 (by decide) (by decide) ?_
      refine own_iconst X411 hx hby 0 d5_48 rfl ?_
      have tx412 : x412 = (0 : Int32) := by rw [hx412, if_pos hc31_414]
      exact own_eq (by rw [tx412]) (key413 _ _ X411 e411 N411)
    · skip
      refine own_icmpNo X411 hx hby d5_31 (flt hc31_414).1 ?_
      refine own_aloadN X411 hx hby d5_34 rfl rfl ?_
      refine own_iloadN X411 hx hby d5_35 rfl ?_
      obtain ⟨cq415, kq415, q415a, q415b, q415c⟩ := isOf hZ e411 E1
      obtain ⟨_, _, ⟨T415, L415, k415, n415⟩, -, X415, ⟨Lc415, hQ415, l415, y415, z415⟩, st415⟩ := X411.virtualBack hx (y := mN_7) (z := mN_7) hown (mvT hZ (own_w hw 62 rfl)) (mvT hZ (own_w hw 63 rfl)) (notFace_of_selects (args := #[]) (mvT hZ (own_w hw 65 rfl))) (mvT hZ (own_w hw 65 rfl)) (mvT hZ (own_w hw 64 rfl)) (by decide) (backOf (W := 1) (rmch3_2 l Z a0 hw [] a1 c0 c1 c2 g1 rS h0 n0 Z0 T1 hb0 hb1 hb2 SC hg1 SA SHI SLO SF hrS) hZ (own_w hw 66 rfl) (own_w hw 10 rfl) (by decide) (by decide)) q415a q415c (g := (mkF m 36 #[.val (.ref a1), .val (.int (((1 : Int32) &&& x396) &&& x404)), .val (.int (2 : Int32))] [(.int (2 : Int32)), (.ref a1), (.int (((1 : Int32) &&& x396) &&& x404))])) rfl (by rw [hml]; rfl) (Steps.refl _) (argsL := [(.int (2 : Int32))]) (rest := [(.int (((1 : Int32) &&& x396) &&& x404))]) (lenOf pd_15 rfl) rfl (by show 2 * 0 + _ ≤ _; exact Nat.le_of_eq rfl) (hb hby d5_36) (fun _ _ => ⟨rfl, e411, (by decide : 0 + 0 ≤ _), (by decide : 0 + 0 ≤ _)⟩)
      dsimp only [Pt.U, Pt.locs, Pt.cells, Pt.slots] at X415 l415 y415 z415 st415 hQ415
      subst l415 y415 z415
      obtain ⟨rfl, Nq415, e415⟩ := hQ415
      have N415 := Fr.app N411 Nq415
      refine own_of (U' := (T415.setTop (mkF m 39 #[.val (.ref a1), .val (.int (((1 : Int32) &&& x396) &&& x404)), .val (.int (2 : Int32))] [(.int c2), (.int (((1 : Int32) &&& x396) &&& x404))]))) (fun _ k => st415.trans k) ?_
      refine own_bipush X415 hx hby 57 d5_39 rfl ?_
      by_cases hc41_416 : (57 : Int32) < c2
      · skip
        refine own_icmpYes X415 hx hby 41 48 d5_41 (tlt hc41_416).2.2.1 (by decide) (by decide) ?_
        refine own_iconst X415 hx hby 0 d5_48 rfl ?_
        have tx412 : x412 = (0 : Int32) := by rw [hx412, if_neg hc31_414, if_pos hc41_416]
        exact own_eq (by rw [tx412]) (key413 _ _ X415 e415 N415)
      · skip
        refine own_icmpNo X415 hx hby d5_41 (flt hc41_416).2.2.1 ?_
        refine own_iconst X415 hx hby 1 d5_44 rfl ?_
        refine own_goto X415 hx hby 45 49 d5_45 (by decide) (by decide) ?_
        have tx412 : x412 = (1 : Int32) := by rw [hx412, if_neg hc31_414, if_neg hc41_416]
        exact own_eq (by rw [tx412]) (key413 _ _ X415 e415 N415)
  intro T413 L413 X413 e413 N413
  refine own_iand X413 hx hby d5_49 ?_
  refine own_istoreN X413 hx hby d5_50 (l' := #[.val (.ref a1), .val (.int ((((1 : Int32) &&& x396) &&& x404) &&& x412)), .val (.int (2 : Int32))]) rfl ?_
  refine own_iinc X413 hx hby d5_51 rfl (l' := #[.val (.ref a1), .val (.int ((((1 : Int32) &&& x396) &&& x404) &&& x412)), .val (.int ((2 : Int32) + (1 : Int32)))]) rfl ?_
  refine own_eq (U' := (T413.setTop (mkF m 54 #[.val (.ref a1), .val (.int ((((1 : Int32) &&& x396) &&& x404) &&& x412)), .val (.int (3 : Int32))] []))) (by rw [show ((2 : Int32) + (1 : Int32)) = (3 : Int32) by decide]) ?_
  refine own_goto X413 hx hby 54 15 d5_54 (by decide) (by decide) ?_
  refine own_iloadN X413 hx hby d5_15 rfl ?_
  refine own_aloadN X413 hx hby d5_16 rfl rfl ?_
  obtain ⟨cq417, kq417, q417a, q417b, q417c⟩ := isOf hZ e413 E1
  obtain ⟨_, _, ⟨T417, L417, k417, n417⟩, -, X417, ⟨Lc417, hQ417, l417, y417, z417⟩, st417⟩ := X413.virtualBack hx (y := mN_10) (z := mN_10) hown (mvT hZ (own_w hw 38 rfl)) (mvT hZ (own_w hw 39 rfl)) (notFace_of_selects (args := #[]) (mvT hZ (own_w hw 41 rfl))) (mvT hZ (own_w hw 41 rfl)) (mvT hZ (own_w hw 40 rfl)) (by decide) (backOf (W := 1) (rmlen3 l Z a0 hw [] a1 c0 c1 c2 g1 h0 n0 Z0 T1 SC hg1) hZ (own_w hw 42 rfl) (own_w hw 10 rfl) (by decide) (by decide)) q417a q417c (g := (mkF m 17 #[.val (.ref a1), .val (.int ((((1 : Int32) &&& x396) &&& x404) &&& x412)), .val (.int (3 : Int32))] [(.ref a1), (.int (3 : Int32))])) rfl (by rw [hml]; rfl) (Steps.refl _) (argsL := []) (rest := [(.int (3 : Int32))]) (lenOf pd_14 rfl) rfl (by show 2 * 0 + _ ≤ _; exact Nat.le_of_eq rfl) (hb hby d5_17) (fun _ _ => ⟨rfl, e413, (by decide : 0 + 0 ≤ _), (by decide : 0 + 0 ≤ _)⟩)
  dsimp only [Pt.U, Pt.locs, Pt.cells, Pt.slots] at X417 l417 y417 z417 st417 hQ417
  subst l417 y417 z417
  obtain ⟨rfl, Nq417, e417⟩ := hQ417
  have N417 := Fr.app N413 Nq417
  refine own_of (U' := (T417.setTop (mkF m 20 #[.val (.ref a1), .val (.int ((((1 : Int32) &&& x396) &&& x404) &&& x412)), .val (.int (3 : Int32))] [(.int (3 : Int32)), (.int (3 : Int32))]))) (fun _ k => st417.trans k) ?_
  have hc20_418 : ¬ ((3 : Int32) < (3 : Int32)) := by decide
  refine own_icmpYes X417 hx hby 20 57 d5_20 (flt hc20_418).2.1 (by decide) (by decide) ?_
  refine own_iloadN X417 hx hby d5_57 rfl ?_
  exact own_retN X417 hx hlk (t := .boolean) Bd.returns (by simp) (hb hby d5_58) (by decide) (by decide) (⟨congrArg (fun z => some (Value.int z)) (show nar .boolean ((((1 : Int32) &&& x396) &&& x404) &&& x412) = own_wn 1 [c0, c1, c2] from by rw [hx396, hx404, hx412]; exact own_nb _ (own_wn01 1 (by decide) [c0, c1, c2])), N417, e417⟩)
theorem ef_wn4 (m : MethodId) (x0 : Addr) : entryFrame m #[(.ref x0)] 3 = mkF m 0 #[.val (.ref x0), .unset, .unset] [] := by first | (simp [entryFrame, mkF, argsToLocals, Value.category]; done) | rfl
set_option maxRecDepth 65536 in
set_option maxHeartbeats 40000000 in
theorem rmwn4 (l : Launch) (Z : State) (a0 : Array Value) (hw : ∀ d ∈ tables_1, d.before a0 Z = true) (ws : List Jvm.Cond) (a1 : Addr) (c0 c1 c2 c3 : Int32) (g1 : Int32) (rS : Value) (h0 : Heap) (n0 : Nat) (Z0 : n0 ≤ h0.size) (T1 : own_Str Z h0 a1 (4 : Int32) (8 : Int32) [c0, c1, c2, c3]) (hb0 : 0 ≤ c0.toInt ∧ c0.toInt < 65536) (hb1 : 0 ≤ c1.toInt ∧ c1.toInt < 65536) (hb2 : 0 ≤ c2.toInt ∧ c2.toInt < 65536) (hb3 : 0 ≤ c3.toInt ∧ c3.toInt < 65536) (SC : Sta Z h0 "java/lang/String" "COMPACT_STRINGS" "Z" (.int g1)) (hg1 : ¬ (g1 = (0 : Int32))) (SA : Sta Z h0 "java/lang/StringUTF16" "$assertionsDisabled" "Z" (.int (1 : Int32))) (SHI : Sta Z h0 "java/lang/StringUTF16" "HI_BYTE_SHIFT" "I" (.int (0 : Int32))) (SLO : Sta Z h0 "java/lang/StringUTF16" "LO_BYTE_SHIFT" "I" (.int (8 : Int32))) (SF : Sta Z h0 "jdk/internal/util/Preconditions" "SIOOBE_FORMATTER" "Ljava/util/function/BiFunction;" rS) (hrS : rS.isRef = true) :
    MetFree l mN_21 (head1 (Jvm.Cond.code mN_21 prog_5_method_5_code 3 (some .boolean) :: ws) ({ frames := 5, cells := 0, slots := 0, locals := 67 } : Room)) (fun a U => a = #[(.ref a1)] ∧ Z.Warmed39 U.vm ∧ U.heap = h0) (fun _ _ _ _ _ => True) (fun _ U o U' => ∃ v L, o = .returned v ∧ (Qv (own_wn 1 [c0, c1, c2, c3]) h0 n0) v U'.heap L ∧ FrameEnd U o U' L ({ frames := 5, cells := 0, slots := 0, locals := 67 } : Room).cells ({ frames := 5, cells := 0, slots := 0, locals := 67 } : Room).slots) := by
  refine MetFree.of_bodySF (plainFor_of_name pn_4) hisR ?_
  intro p e s m args below meth c s₁ Bd hml0 hP hK
  obtain ⟨rfl, hZ, hh⟩ := hP
  have hx := Bd.exec
  have hby := Bd.bytes
  have hml : c.maxLocals = 3 := hml0
  have hown : s.vm.findClass "com/example/pools_to_qrels/poolstoqrels/CitationIds" = some m.cls := findClass_of_methodNamed Bd.named
  have hnm := (name_of_methodNamed Bd.named Bd.method).1
  have hlk := Bd.notSynchronized
  have X0 : Stand p l e ({ frames := 5, cells := 0, slots := 0, locals := 67 } : Room) s m #[(.ref a1)] below meth c s₁ [] 0 0 := Stand.of_body Bd
  have e0 : s₁.heap = h0 := by rw [← hh, Bd.state]; rfl
  have N0 := Fr.nil n0
  show own_Ends p e below s FrameEnd (Qv (own_wn 1 [c0, c1, c2, c3]) h0 n0) 0 0 (s₁.setTop (entryFrame m #[(.ref a1)] 3))
  refine own_of (U' := (s₁.setTop (mkF m 0 #[.val (.ref a1), .unset, .unset] []))) (fun _ k => castTop (ef_wn4 m a1) k) ?_
  have E1 := T1.1
  refine own_aloadN X0 hx hby d5_0 rfl rfl ?_
  obtain ⟨cq419, kq419, q419a, q419b, q419c⟩ := isOf hZ e0 E1
  obtain ⟨_, _, ⟨T419, L419, k419, n419⟩, -, X419, ⟨Lc419, hQ419, l419, y419, z419⟩, st419⟩ := X0.virtualBack hx (y := mN_11) (z := mN_11) hown (mvT hZ (own_w hw 33 rfl)) (mvT hZ (own_w hw 34 rfl)) (notFace_of_selects (args := #[]) (mvT hZ (own_w hw 36 rfl))) (mvT hZ (own_w hw 36 rfl)) (mvT hZ (own_w hw 35 rfl)) (by decide) (backOf (W := 0) (rmie4 l Z a0 hw [] a1 c0 c1 c2 c3 h0 n0 Z0 T1) hZ (own_w hw 37 rfl) (own_w hw 10 rfl) (by decide) (by decide)) q419a q419c (g := (mkF m 1 #[.val (.ref a1), .unset, .unset] [(.ref a1)])) rfl (by rw [hml]; rfl) (Steps.refl _) (argsL := []) (rest := []) (lenOf pd_5 rfl) rfl (by show 2 * 0 + _ ≤ _; exact Nat.le_of_eq rfl) (hb hby d5_1) (fun _ _ => ⟨rfl, e0, (by decide : 0 + 0 ≤ _), (by decide : 0 + 0 ≤ _)⟩)
  dsimp only [Pt.U, Pt.locs, Pt.cells, Pt.slots] at X419 l419 y419 z419 st419 hQ419
  subst l419 y419 z419
  obtain ⟨rfl, Nq419, e419⟩ := hQ419
  have N419 := Fr.app N0 Nq419
  refine own_of (U' := (T419.setTop (mkF m 4 #[.val (.ref a1), .unset, .unset] [(.int (0 : Int32))]))) (fun _ k => st419.trans k) ?_
  have hc4_420 : (0 : Int32) = (0 : Int32) := by decide
  refine own_ifNo X419 hx hby d5_4 ((if0 _ _).trans (teq hc4_420).2) ?_
  refine own_iconst X419 hx hby 1 d5_7 rfl ?_
  refine own_goto X419 hx hby 8 12 d5_8 (by decide) (by decide) ?_
  refine own_istoreN X419 hx hby d5_12 (l' := #[.val (.ref a1), .val (.int (1 : Int32)), .unset]) rfl ?_
  refine own_iconst X419 hx hby 0 d5_13 rfl ?_
  refine own_istoreN X419 hx hby d5_14 (l' := #[.val (.ref a1), .val (.int (1 : Int32)), .val (.int (0 : Int32))]) rfl ?_
  refine own_iloadN X419 hx hby d5_15 rfl ?_
  refine own_aloadN X419 hx hby d5_16 rfl rfl ?_
  obtain ⟨cq421, kq421, q421a, q421b, q421c⟩ := isOf hZ e419 E1
  obtain ⟨_, _, ⟨T421, L421, k421, n421⟩, -, X421, ⟨Lc421, hQ421, l421, y421, z421⟩, st421⟩ := X419.virtualBack hx (y := mN_10) (z := mN_10) hown (mvT hZ (own_w hw 38 rfl)) (mvT hZ (own_w hw 39 rfl)) (notFace_of_selects (args := #[]) (mvT hZ (own_w hw 41 rfl))) (mvT hZ (own_w hw 41 rfl)) (mvT hZ (own_w hw 40 rfl)) (by decide) (backOf (W := 1) (rmlen4 l Z a0 hw [] a1 c0 c1 c2 c3 g1 h0 n0 Z0 T1 SC hg1) hZ (own_w hw 42 rfl) (own_w hw 10 rfl) (by decide) (by decide)) q421a q421c (g := (mkF m 17 #[.val (.ref a1), .val (.int (1 : Int32)), .val (.int (0 : Int32))] [(.ref a1), (.int (0 : Int32))])) rfl (by rw [hml]; rfl) (Steps.refl _) (argsL := []) (rest := [(.int (0 : Int32))]) (lenOf pd_14 rfl) rfl (by show 2 * 0 + _ ≤ _; exact Nat.le_of_eq rfl) (hb hby d5_17) (fun _ _ => ⟨rfl, e419, (by decide : 0 + 0 ≤ _), (by decide : 0 + 0 ≤ _)⟩)
  dsimp only [Pt.U, Pt.locs, Pt.cells, Pt.slots] at X421 l421 y421 z421 st421 hQ421
  subst l421 y421 z421
  obtain ⟨rfl, Nq421, e421⟩ := hQ421
  have N421 := Fr.app N419 Nq421
  refine own_of (U' := (T421.setTop (mkF m 20 #[.val (.ref a1), .val (.int (1 : Int32)), .val (.int (0 : Int32))] [(.int (4 : Int32)), (.int (0 : Int32))]))) (fun _ k => st421.trans k) ?_
  have hc20_422 : (0 : Int32) < (4 : Int32) := by decide
  refine own_icmpNo X421 hx hby d5_20 (tlt hc20_422).2.1 ?_
  refine own_iloadN X421 hx hby d5_23 rfl ?_
  refine own_aloadN X421 hx hby d5_24 rfl rfl ?_
  refine own_iloadN X421 hx hby d5_25 rfl ?_
  obtain ⟨cq423, kq423, q423a, q423b, q423c⟩ := isOf hZ e421 E1
  obtain ⟨_, _, ⟨T423, L423, k423, n423⟩, -, X423, ⟨Lc423, hQ423, l423, y423, z423⟩, st423⟩ := X421.virtualBack hx (y := mN_7) (z := mN_7) hown (mvT hZ (own_w hw 62 rfl)) (mvT hZ (own_w hw 63 rfl)) (notFace_of_selects (args := #[]) (mvT hZ (own_w hw 65 rfl))) (mvT hZ (own_w hw 65 rfl)) (mvT hZ (own_w hw 64 rfl)) (by decide) (backOf (W := 1) (rmch4_0 l Z a0 hw [] a1 c0 c1 c2 c3 g1 rS h0 n0 Z0 T1 hb0 hb1 hb2 hb3 SC hg1 SA SHI SLO SF hrS) hZ (own_w hw 66 rfl) (own_w hw 10 rfl) (by decide) (by decide)) q423a q423c (g := (mkF m 26 #[.val (.ref a1), .val (.int (1 : Int32)), .val (.int (0 : Int32))] [(.int (0 : Int32)), (.ref a1), (.int (1 : Int32))])) rfl (by rw [hml]; rfl) (Steps.refl _) (argsL := [(.int (0 : Int32))]) (rest := [(.int (1 : Int32))]) (lenOf pd_15 rfl) rfl (by show 2 * 0 + _ ≤ _; exact Nat.le_of_eq rfl) (hb hby d5_26) (fun _ _ => ⟨rfl, e421, (by decide : 0 + 0 ≤ _), (by decide : 0 + 0 ≤ _)⟩)
  dsimp only [Pt.U, Pt.locs, Pt.cells, Pt.slots] at X423 l423 y423 z423 st423 hQ423
  subst l423 y423 z423
  obtain ⟨rfl, Nq423, e423⟩ := hQ423
  have N423 := Fr.app N421 Nq423
  refine own_of (U' := (T423.setTop (mkF m 29 #[.val (.ref a1), .val (.int (1 : Int32)), .val (.int (0 : Int32))] [(.int c0), (.int (1 : Int32))]))) (fun _ k => st423.trans k) ?_
  refine own_bipush X423 hx hby 48 d5_29 rfl ?_
  obtain ⟨x424, hx424⟩ : ∃ z : Int32, z = (if c0 < (48 : Int32) then (0 : Int32) else (if (57 : Int32) < c0 then (0 : Int32) else (1 : Int32))) := ⟨_, rfl⟩
  suffices key425 : ∀ (T425 : State) (L425 : List Loc), Stand p l e ({ frames := 5, cells := 0, slots := 0, locals := 67 } : Room) s m #[(.ref a1)] below meth c T425 L425 0 0 → T425.heap = h0 → Fr n0 L425 → own_Ends p e below s FrameEnd (Qv (own_wn 1 [c0, c1, c2, c3]) h0 n0) 0 0 (T425.setTop (mkF m 49 #[.val (.ref a1), .val (.int (1 : Int32)), .val (.int (0 : Int32))] [(.int x424), (.int (1 : Int32))])) by
    by_cases hc31_426 : c0 < (48 : Int32)
    · skip
      refine own_icmpYes X423 hx hby 31 48 d5_31 (tlt hc31_426).1 (by decide) (by decide) ?_
      refine own_iconst X423 hx hby 0 d5_48 rfl ?_
      have tx424 : x424 = (0 : Int32) := by rw [hx424, if_pos hc31_426]
      exact own_eq (by rw [tx424]) (key425 _ _ X423 e423 N423)
    · skip
      refine own_icmpNo X423 hx hby d5_31 (flt hc31_426).1 ?_
      refine own_aloadN X423 hx hby d5_34 rfl rfl ?_
      refine own_iloadN X423 hx hby d5_35 rfl ?_
      obtain ⟨cq427, kq427, q427a, q427b, q427c⟩ := isOf hZ e423 E1
      obtain ⟨_, _, ⟨T427, L427, k427, n427⟩, -, X427, ⟨Lc427, hQ427, l427, y427, z427⟩, st427⟩ := X423.virtualBack hx (y := mN_7) (z := mN_7) hown (mvT hZ (own_w hw 62 rfl)) (mvT hZ (own_w hw 63 rfl)) (notFace_of_selects (args := #[]) (mvT hZ (own_w hw 65 rfl))) (mvT hZ (own_w hw 65 rfl)) (mvT hZ (own_w hw 64 rfl)) (by decide) (backOf (W := 1) (rmch4_0 l Z a0 hw [] a1 c0 c1 c2 c3 g1 rS h0 n0 Z0 T1 hb0 hb1 hb2 hb3 SC hg1 SA SHI SLO SF hrS) hZ (own_w hw 66 rfl) (own_w hw 10 rfl) (by decide) (by decide)) q427a q427c (g := (mkF m 36 #[.val (.ref a1), .val (.int (1 : Int32)), .val (.int (0 : Int32))] [(.int (0 : Int32)), (.ref a1), (.int (1 : Int32))])) rfl (by rw [hml]; rfl) (Steps.refl _) (argsL := [(.int (0 : Int32))]) (rest := [(.int (1 : Int32))]) (lenOf pd_15 rfl) rfl (by show 2 * 0 + _ ≤ _; exact Nat.le_of_eq rfl) (hb hby d5_36) (fun _ _ => ⟨rfl, e423, (by decide : 0 + 0 ≤ _), (by decide : 0 + 0 ≤ _)⟩)
      dsimp only [Pt.U, Pt.locs, Pt.cells, Pt.slots] at X427 l427 y427 z427 st427 hQ427
      subst l427 y427 z427
      obtain ⟨rfl, Nq427, e427⟩ := hQ427
      have N427 := Fr.app N423 Nq427
      refine own_of (U' := (T427.setTop (mkF m 39 #[.val (.ref a1), .val (.int (1 : Int32)), .val (.int (0 : Int32))] [(.int c0), (.int (1 : Int32))]))) (fun _ k => st427.trans k) ?_
      refine own_bipush X427 hx hby 57 d5_39 rfl ?_
      by_cases hc41_428 : (57 : Int32) < c0
      · skip
        refine own_icmpYes X427 hx hby 41 48 d5_41 (tlt hc41_428).2.2.1 (by decide) (by decide) ?_
        refine own_iconst X427 hx hby 0 d5_48 rfl ?_
        have tx424 : x424 = (0 : Int32) := by rw [hx424, if_neg hc31_426, if_pos hc41_428]
        exact own_eq (by rw [tx424]) (key425 _ _ X427 e427 N427)
      · skip
        refine own_icmpNo X427 hx hby d5_41 (flt hc41_428).2.2.1 ?_
        refine own_iconst X427 hx hby 1 d5_44 rfl ?_
        refine own_goto X427 hx hby 45 49 d5_45 (by decide) (by decide) ?_
        have tx424 : x424 = (1 : Int32) := by rw [hx424, if_neg hc31_426, if_neg hc41_428]
        exact own_eq (by rw [tx424]) (key425 _ _ X427 e427 N427)
  intro T425 L425 X425 e425 N425
  refine own_iand X425 hx hby d5_49 ?_
  refine own_istoreN X425 hx hby d5_50 (l' := #[.val (.ref a1), .val (.int ((1 : Int32) &&& x424)), .val (.int (0 : Int32))]) rfl ?_
  refine own_iinc X425 hx hby d5_51 rfl (l' := #[.val (.ref a1), .val (.int ((1 : Int32) &&& x424)), .val (.int ((0 : Int32) + (1 : Int32)))]) rfl ?_
  refine own_eq (U' := (T425.setTop (mkF m 54 #[.val (.ref a1), .val (.int ((1 : Int32) &&& x424)), .val (.int (1 : Int32))] []))) (by rw [show ((0 : Int32) + (1 : Int32)) = (1 : Int32) by decide]) ?_
  refine own_goto X425 hx hby 54 15 d5_54 (by decide) (by decide) ?_
  refine own_iloadN X425 hx hby d5_15 rfl ?_
  refine own_aloadN X425 hx hby d5_16 rfl rfl ?_
  obtain ⟨cq429, kq429, q429a, q429b, q429c⟩ := isOf hZ e425 E1
  obtain ⟨_, _, ⟨T429, L429, k429, n429⟩, -, X429, ⟨Lc429, hQ429, l429, y429, z429⟩, st429⟩ := X425.virtualBack hx (y := mN_10) (z := mN_10) hown (mvT hZ (own_w hw 38 rfl)) (mvT hZ (own_w hw 39 rfl)) (notFace_of_selects (args := #[]) (mvT hZ (own_w hw 41 rfl))) (mvT hZ (own_w hw 41 rfl)) (mvT hZ (own_w hw 40 rfl)) (by decide) (backOf (W := 1) (rmlen4 l Z a0 hw [] a1 c0 c1 c2 c3 g1 h0 n0 Z0 T1 SC hg1) hZ (own_w hw 42 rfl) (own_w hw 10 rfl) (by decide) (by decide)) q429a q429c (g := (mkF m 17 #[.val (.ref a1), .val (.int ((1 : Int32) &&& x424)), .val (.int (1 : Int32))] [(.ref a1), (.int (1 : Int32))])) rfl (by rw [hml]; rfl) (Steps.refl _) (argsL := []) (rest := [(.int (1 : Int32))]) (lenOf pd_14 rfl) rfl (by show 2 * 0 + _ ≤ _; exact Nat.le_of_eq rfl) (hb hby d5_17) (fun _ _ => ⟨rfl, e425, (by decide : 0 + 0 ≤ _), (by decide : 0 + 0 ≤ _)⟩)
  dsimp only [Pt.U, Pt.locs, Pt.cells, Pt.slots] at X429 l429 y429 z429 st429 hQ429
  subst l429 y429 z429
  obtain ⟨rfl, Nq429, e429⟩ := hQ429
  have N429 := Fr.app N425 Nq429
  refine own_of (U' := (T429.setTop (mkF m 20 #[.val (.ref a1), .val (.int ((1 : Int32) &&& x424)), .val (.int (1 : Int32))] [(.int (4 : Int32)), (.int (1 : Int32))]))) (fun _ k => st429.trans k) ?_
  have hc20_430 : (1 : Int32) < (4 : Int32) := by decide
  refine own_icmpNo X429 hx hby d5_20 (tlt hc20_430).2.1 ?_
  refine own_iloadN X429 hx hby d5_23 rfl ?_
  refine own_aloadN X429 hx hby d5_24 rfl rfl ?_
  refine own_iloadN X429 hx hby d5_25 rfl ?_
  obtain ⟨cq431, kq431, q431a, q431b, q431c⟩ := isOf hZ e429 E1
  obtain ⟨_, _, ⟨T431, L431, k431, n431⟩, -, X431, ⟨Lc431, hQ431, l431, y431, z431⟩, st431⟩ := X429.virtualBack hx (y := mN_7) (z := mN_7) hown (mvT hZ (own_w hw 62 rfl)) (mvT hZ (own_w hw 63 rfl)) (notFace_of_selects (args := #[]) (mvT hZ (own_w hw 65 rfl))) (mvT hZ (own_w hw 65 rfl)) (mvT hZ (own_w hw 64 rfl)) (by decide) (backOf (W := 1) (rmch4_1 l Z a0 hw [] a1 c0 c1 c2 c3 g1 rS h0 n0 Z0 T1 hb0 hb1 hb2 hb3 SC hg1 SA SHI SLO SF hrS) hZ (own_w hw 66 rfl) (own_w hw 10 rfl) (by decide) (by decide)) q431a q431c (g := (mkF m 26 #[.val (.ref a1), .val (.int ((1 : Int32) &&& x424)), .val (.int (1 : Int32))] [(.int (1 : Int32)), (.ref a1), (.int ((1 : Int32) &&& x424))])) rfl (by rw [hml]; rfl) (Steps.refl _) (argsL := [(.int (1 : Int32))]) (rest := [(.int ((1 : Int32) &&& x424))]) (lenOf pd_15 rfl) rfl (by show 2 * 0 + _ ≤ _; exact Nat.le_of_eq rfl) (hb hby d5_26) (fun _ _ => ⟨rfl, e429, (by decide : 0 + 0 ≤ _), (by decide : 0 + 0 ≤ _)⟩)
  dsimp only [Pt.U, Pt.locs, Pt.cells, Pt.slots] at X431 l431 y431 z431 st431 hQ431
  subst l431 y431 z431
  obtain ⟨rfl, Nq431, e431⟩ := hQ431
  have N431 := Fr.app N429 Nq431
  refine own_of (U' := (T431.setTop (mkF m 29 #[.val (.ref a1), .val (.int ((1 : Int32) &&& x424)), .val (.int (1 : Int32))] [(.int c1), (.int ((1 : Int32) &&& x424))]))) (fun _ k => st431.trans k) ?_
  refine own_bipush X431 hx hby 48 d5_29 rfl ?_
  obtain ⟨x432, hx432⟩ : ∃ z : Int32, z = (if c1 < (48 : Int32) then (0 : Int32) else (if (57 : Int32) < c1 then (0 : Int32) else (1 : Int32))) := ⟨_, rfl⟩
  suffices key433 : ∀ (T433 : State) (L433 : List Loc), Stand p l e ({ frames := 5, cells := 0, slots := 0, locals := 67 } : Room) s m #[(.ref a1)] below meth c T433 L433 0 0 → T433.heap = h0 → Fr n0 L433 → own_Ends p e below s FrameEnd (Qv (own_wn 1 [c0, c1, c2, c3]) h0 n0) 0 0 (T433.setTop (mkF m 49 #[.val (.ref a1), .val (.int ((1 : Int32) &&& x424)), .val (.int (1 : Int32))] [(.int x432), (.int ((1 : Int32) &&& x424))])) by
    by_cases hc31_434 : c1 < (48 : Int32)
    · skip
      refine own_icmpYes X431 hx hby 31 48 d5_31 (tlt hc31_434).1 (by decide) (by decide) ?_
      refine own_iconst X431 hx hby 0 d5_48 rfl ?_
      have tx432 : x432 = (0 : Int32) := by rw [hx432, if_pos hc31_434]
      exact own_eq (by rw [tx432]) (key433 _ _ X431 e431 N431)
    · skip
      refine own_icmpNo X431 hx hby d5_31 (flt hc31_434).1 ?_
      refine own_aloadN X431 hx hby d5_34 rfl rfl ?_
      refine own_iloadN X431 hx hby d5_35 rfl ?_
      obtain ⟨cq435, kq435, q435a, q435b, q435c⟩ := isOf hZ e431 E1
      obtain ⟨_, _, ⟨T435, L435, k435, n435⟩, -, X435, ⟨Lc435, hQ435, l435, y435, z435⟩, st435⟩ := X431.virtualBack hx (y := mN_7) (z := mN_7) hown (mvT hZ (own_w hw 62 rfl)) (mvT hZ (own_w hw 63 rfl)) (notFace_of_selects (args := #[]) (mvT hZ (own_w hw 65 rfl))) (mvT hZ (own_w hw 65 rfl)) (mvT hZ (own_w hw 64 rfl)) (by decide) (backOf (W := 1) (rmch4_1 l Z a0 hw [] a1 c0 c1 c2 c3 g1 rS h0 n0 Z0 T1 hb0 hb1 hb2 hb3 SC hg1 SA SHI SLO SF hrS) hZ (own_w hw 66 rfl) (own_w hw 10 rfl) (by decide) (by decide)) q435a q435c (g := (mkF m 36 #[.val (.ref a1), .val (.int ((1 : Int32) &&& x424)), .val (.int (1 : Int32))] [(.int (1 : Int32)), (.ref a1), (.int ((1 : Int32) &&& x424))])) rfl (by rw [hml]; rfl) (Steps.refl _) (argsL := [(.int (1 : Int32))]) (rest := [(.int ((1 : Int32) &&& x424))]) (lenOf pd_15 rfl) rfl (by show 2 * 0 + _ ≤ _; exact Nat.le_of_eq rfl) (hb hby d5_36) (fun _ _ => ⟨rfl, e431, (by decide : 0 + 0 ≤ _), (by decide : 0 + 0 ≤ _)⟩)
      dsimp only [Pt.U, Pt.locs, Pt.cells, Pt.slots] at X435 l435 y435 z435 st435 hQ435
      subst l435 y435 z435
      obtain ⟨rfl, Nq435, e435⟩ := hQ435
      have N435 := Fr.app N431 Nq435
      refine own_of (U' := (T435.setTop (mkF m 39 #[.val (.ref a1), .val (.int ((1 : Int32) &&& x424)), .val (.int (1 : Int32))] [(.int c1), (.int ((1 : Int32) &&& x424))]))) (fun _ k => st435.trans k) ?_
      refine own_bipush X435 hx hby 57 d5_39 rfl ?_
      by_cases hc41_436 : (57 : Int32) < c1
      · skip
        refine own_icmpYes X435 hx hby 41 48 d5_41 (tlt hc41_436).2.2.1 (by decide) (by decide) ?_
        refine own_iconst X435 hx hby 0 d5_48 rfl ?_
        have tx432 : x432 = (0 : Int32) := by rw [hx432, if_neg hc31_434, if_pos hc41_436]
        exact own_eq (by rw [tx432]) (key433 _ _ X435 e435 N435)
      · skip
        refine own_icmpNo X435 hx hby d5_41 (flt hc41_436).2.2.1 ?_
        refine own_iconst X435 hx hby 1 d5_44 rfl ?_
        refine own_goto X435 hx hby 45 49 d5_45 (by decide) (by decide) ?_
        have tx432 : x432 = (1 : Int32) := by rw [hx432, if_neg hc31_434, if_neg hc41_436]
        exact own_eq (by rw [tx432]) (key433 _ _ X435 e435 N435)
  intro T433 L433 X433 e433 N433
  refine own_iand X433 hx hby d5_49 ?_
  refine own_istoreN X433 hx hby d5_50 (l' := #[.val (.ref a1), .val (.int (((1 : Int32) &&& x424) &&& x432)), .val (.int (1 : Int32))]) rfl ?_
  refine own_iinc X433 hx hby d5_51 rfl (l' := #[.val (.ref a1), .val (.int (((1 : Int32) &&& x424) &&& x432)), .val (.int ((1 : Int32) + (1 : Int32)))]) rfl ?_
  refine own_eq (U' := (T433.setTop (mkF m 54 #[.val (.ref a1), .val (.int (((1 : Int32) &&& x424) &&& x432)), .val (.int (2 : Int32))] []))) (by rw [show ((1 : Int32) + (1 : Int32)) = (2 : Int32) by decide]) ?_
  refine own_goto X433 hx hby 54 15 d5_54 (by decide) (by decide) ?_
  refine own_iloadN X433 hx hby d5_15 rfl ?_
  refine own_aloadN X433 hx hby d5_16 rfl rfl ?_
  obtain ⟨cq437, kq437, q437a, q437b, q437c⟩ := isOf hZ e433 E1
  obtain ⟨_, _, ⟨T437, L437, k437, n437⟩, -, X437, ⟨Lc437, hQ437, l437, y437, z437⟩, st437⟩ := X433.virtualBack hx (y := mN_10) (z := mN_10) hown (mvT hZ (own_w hw 38 rfl)) (mvT hZ (own_w hw 39 rfl)) (notFace_of_selects (args := #[]) (mvT hZ (own_w hw 41 rfl))) (mvT hZ (own_w hw 41 rfl)) (mvT hZ (own_w hw 40 rfl)) (by decide) (backOf (W := 1) (rmlen4 l Z a0 hw [] a1 c0 c1 c2 c3 g1 h0 n0 Z0 T1 SC hg1) hZ (own_w hw 42 rfl) (own_w hw 10 rfl) (by decide) (by decide)) q437a q437c (g := (mkF m 17 #[.val (.ref a1), .val (.int (((1 : Int32) &&& x424) &&& x432)), .val (.int (2 : Int32))] [(.ref a1), (.int (2 : Int32))])) rfl (by rw [hml]; rfl) (Steps.refl _) (argsL := []) (rest := [(.int (2 : Int32))]) (lenOf pd_14 rfl) rfl (by show 2 * 0 + _ ≤ _; exact Nat.le_of_eq rfl) (hb hby d5_17) (fun _ _ => ⟨rfl, e433, (by decide : 0 + 0 ≤ _), (by decide : 0 + 0 ≤ _)⟩)
  dsimp only [Pt.U, Pt.locs, Pt.cells, Pt.slots] at X437 l437 y437 z437 st437 hQ437
  subst l437 y437 z437
  obtain ⟨rfl, Nq437, e437⟩ := hQ437
  have N437 := Fr.app N433 Nq437
  refine own_of (U' := (T437.setTop (mkF m 20 #[.val (.ref a1), .val (.int (((1 : Int32) &&& x424) &&& x432)), .val (.int (2 : Int32))] [(.int (4 : Int32)), (.int (2 : Int32))]))) (fun _ k => st437.trans k) ?_
  have hc20_438 : (2 : Int32) < (4 : Int32) := by decide
  refine own_icmpNo X437 hx hby d5_20 (tlt hc20_438).2.1 ?_
  refine own_iloadN X437 hx hby d5_23 rfl ?_
  refine own_aloadN X437 hx hby d5_24 rfl rfl ?_
  refine own_iloadN X437 hx hby d5_25 rfl ?_
  obtain ⟨cq439, kq439, q439a, q439b, q439c⟩ := isOf hZ e437 E1
  obtain ⟨_, _, ⟨T439, L439, k439, n439⟩, -, X439, ⟨Lc439, hQ439, l439, y439, z439⟩, st439⟩ := X437.virtualBack hx (y := mN_7) (z := mN_7) hown (mvT hZ (own_w hw 62 rfl)) (mvT hZ (own_w hw 63 rfl)) (notFace_of_selects (args := #[]) (mvT hZ (own_w hw 65 rfl))) (mvT hZ (own_w hw 65 rfl)) (mvT hZ (own_w hw 64 rfl)) (by decide) (backOf (W := 1) (rmch4_2 l Z a0 hw [] a1 c0 c1 c2 c3 g1 rS h0 n0 Z0 T1 hb0 hb1 hb2 hb3 SC hg1 SA SHI SLO SF hrS) hZ (own_w hw 66 rfl) (own_w hw 10 rfl) (by decide) (by decide)) q439a q439c (g := (mkF m 26 #[.val (.ref a1), .val (.int (((1 : Int32) &&& x424) &&& x432)), .val (.int (2 : Int32))] [(.int (2 : Int32)), (.ref a1), (.int (((1 : Int32) &&& x424) &&& x432))])) rfl (by rw [hml]; rfl) (Steps.refl _) (argsL := [(.int (2 : Int32))]) (rest := [(.int (((1 : Int32) &&& x424) &&& x432))]) (lenOf pd_15 rfl) rfl (by show 2 * 0 + _ ≤ _; exact Nat.le_of_eq rfl) (hb hby d5_26) (fun _ _ => ⟨rfl, e437, (by decide : 0 + 0 ≤ _), (by decide : 0 + 0 ≤ _)⟩)
  dsimp only [Pt.U, Pt.locs, Pt.cells, Pt.slots] at X439 l439 y439 z439 st439 hQ439
  subst l439 y439 z439
  obtain ⟨rfl, Nq439, e439⟩ := hQ439
  have N439 := Fr.app N437 Nq439
  refine own_of (U' := (T439.setTop (mkF m 29 #[.val (.ref a1), .val (.int (((1 : Int32) &&& x424) &&& x432)), .val (.int (2 : Int32))] [(.int c2), (.int (((1 : Int32) &&& x424) &&& x432))]))) (fun _ k => st439.trans k) ?_
  refine own_bipush X439 hx hby 48 d5_29 rfl ?_
  obtain ⟨x440, hx440⟩ : ∃ z : Int32, z = (if c2 < (48 : Int32) then (0 : Int32) else (if (57 : Int32) < c2 then (0 : Int32) else (1 : Int32))) := ⟨_, rfl⟩
  suffices key441 : ∀ (T441 : State) (L441 : List Loc), Stand p l e ({ frames := 5, cells := 0, slots := 0, locals := 67 } : Room) s m #[(.ref a1)] below meth c T441 L441 0 0 → T441.heap = h0 → Fr n0 L441 → own_Ends p e below s FrameEnd (Qv (own_wn 1 [c0, c1, c2, c3]) h0 n0) 0 0 (T441.setTop (mkF m 49 #[.val (.ref a1), .val (.int (((1 : Int32) &&& x424) &&& x432)), .val (.int (2 : Int32))] [(.int x440), (.int (((1 : Int32) &&& x424) &&& x432))])) by
    by_cases hc31_442 : c2 < (48 : Int32)
    · skip
      refine own_icmpYes X439 hx hby 31 48 d5_31 (tlt hc31_442).1 (by decide) (by decide) ?_
      refine own_iconst X439 hx hby 0 d5_48 rfl ?_
      have tx440 : x440 = (0 : Int32) := by rw [hx440, if_pos hc31_442]
      exact own_eq (by rw [tx440]) (key441 _ _ X439 e439 N439)
    · skip
      refine own_icmpNo X439 hx hby d5_31 (flt hc31_442).1 ?_
      refine own_aloadN X439 hx hby d5_34 rfl rfl ?_
      refine own_iloadN X439 hx hby d5_35 rfl ?_
      obtain ⟨cq443, kq443, q443a, q443b, q443c⟩ := isOf hZ e439 E1
      obtain ⟨_, _, ⟨T443, L443, k443, n443⟩, -, X443, ⟨Lc443, hQ443, l443, y443, z443⟩, st443⟩ := X439.virtualBack hx (y := mN_7) (z := mN_7) hown (mvT hZ (own_w hw 62 rfl)) (mvT hZ (own_w hw 63 rfl)) (notFace_of_selects (args := #[]) (mvT hZ (own_w hw 65 rfl))) (mvT hZ (own_w hw 65 rfl)) (mvT hZ (own_w hw 64 rfl)) (by decide) (backOf (W := 1) (rmch4_2 l Z a0 hw [] a1 c0 c1 c2 c3 g1 rS h0 n0 Z0 T1 hb0 hb1 hb2 hb3 SC hg1 SA SHI SLO SF hrS) hZ (own_w hw 66 rfl) (own_w hw 10 rfl) (by decide) (by decide)) q443a q443c (g := (mkF m 36 #[.val (.ref a1), .val (.int (((1 : Int32) &&& x424) &&& x432)), .val (.int (2 : Int32))] [(.int (2 : Int32)), (.ref a1), (.int (((1 : Int32) &&& x424) &&& x432))])) rfl (by rw [hml]; rfl) (Steps.refl _) (argsL := [(.int (2 : Int32))]) (rest := [(.int (((1 : Int32) &&& x424) &&& x432))]) (lenOf pd_15 rfl) rfl (by show 2 * 0 + _ ≤ _; exact Nat.le_of_eq rfl) (hb hby d5_36) (fun _ _ => ⟨rfl, e439, (by decide : 0 + 0 ≤ _), (by decide : 0 + 0 ≤ _)⟩)
      dsimp only [Pt.U, Pt.locs, Pt.cells, Pt.slots] at X443 l443 y443 z443 st443 hQ443
      subst l443 y443 z443
      obtain ⟨rfl, Nq443, e443⟩ := hQ443
      have N443 := Fr.app N439 Nq443
      refine own_of (U' := (T443.setTop (mkF m 39 #[.val (.ref a1), .val (.int (((1 : Int32) &&& x424) &&& x432)), .val (.int (2 : Int32))] [(.int c2), (.int (((1 : Int32) &&& x424) &&& x432))]))) (fun _ k => st443.trans k) ?_
      refine own_bipush X443 hx hby 57 d5_39 rfl ?_
      by_cases hc41_444 : (57 : Int32) < c2
      · skip
        refine own_icmpYes X443 hx hby 41 48 d5_41 (tlt hc41_444).2.2.1 (by decide) (by decide) ?_
        refine own_iconst X443 hx hby 0 d5_48 rfl ?_
        have tx440 : x440 = (0 : Int32) := by rw [hx440, if_neg hc31_442, if_pos hc41_444]
        exact own_eq (by rw [tx440]) (key441 _ _ X443 e443 N443)
      · skip
        refine own_icmpNo X443 hx hby d5_41 (flt hc41_444).2.2.1 ?_
        refine own_iconst X443 hx hby 1 d5_44 rfl ?_
        refine own_goto X443 hx hby 45 49 d5_45 (by decide) (by decide) ?_
        have tx440 : x440 = (1 : Int32) := by rw [hx440, if_neg hc31_442, if_neg hc41_444]
        exact own_eq (by rw [tx440]) (key441 _ _ X443 e443 N443)
  intro T441 L441 X441 e441 N441
  refine own_iand X441 hx hby d5_49 ?_
  refine own_istoreN X441 hx hby d5_50 (l' := #[.val (.ref a1), .val (.int ((((1 : Int32) &&& x424) &&& x432) &&& x440)), .val (.int (2 : Int32))]) rfl ?_
  refine own_iinc X441 hx hby d5_51 rfl (l' := #[.val (.ref a1), .val (.int ((((1 : Int32) &&& x424) &&& x432) &&& x440)), .val (.int ((2 : Int32) + (1 : Int32)))]) rfl ?_
  refine own_eq (U' := (T441.setTop (mkF m 54 #[.val (.ref a1), .val (.int ((((1 : Int32) &&& x424) &&& x432) &&& x440)), .val (.int (3 : Int32))] []))) (by rw [show ((2 : Int32) + (1 : Int32)) = (3 : Int32) by decide]) ?_
  refine own_goto X441 hx hby 54 15 d5_54 (by decide) (by decide) ?_
  refine own_iloadN X441 hx hby d5_15 rfl ?_
  refine own_aloadN X441 hx hby d5_16 rfl rfl ?_
  obtain ⟨cq445, kq445, q445a, q445b, q445c⟩ := isOf hZ e441 E1
  obtain ⟨_, _, ⟨T445, L445, k445, n445⟩, -, X445, ⟨Lc445, hQ445, l445, y445, z445⟩, st445⟩ := X441.virtualBack hx (y := mN_10) (z := mN_10) hown (mvT hZ (own_w hw 38 rfl)) (mvT hZ (own_w hw 39 rfl)) (notFace_of_selects (args := #[]) (mvT hZ (own_w hw 41 rfl))) (mvT hZ (own_w hw 41 rfl)) (mvT hZ (own_w hw 40 rfl)) (by decide) (backOf (W := 1) (rmlen4 l Z a0 hw [] a1 c0 c1 c2 c3 g1 h0 n0 Z0 T1 SC hg1) hZ (own_w hw 42 rfl) (own_w hw 10 rfl) (by decide) (by decide)) q445a q445c (g := (mkF m 17 #[.val (.ref a1), .val (.int ((((1 : Int32) &&& x424) &&& x432) &&& x440)), .val (.int (3 : Int32))] [(.ref a1), (.int (3 : Int32))])) rfl (by rw [hml]; rfl) (Steps.refl _) (argsL := []) (rest := [(.int (3 : Int32))]) (lenOf pd_14 rfl) rfl (by show 2 * 0 + _ ≤ _; exact Nat.le_of_eq rfl) (hb hby d5_17) (fun _ _ => ⟨rfl, e441, (by decide : 0 + 0 ≤ _), (by decide : 0 + 0 ≤ _)⟩)
  dsimp only [Pt.U, Pt.locs, Pt.cells, Pt.slots] at X445 l445 y445 z445 st445 hQ445
  subst l445 y445 z445
  obtain ⟨rfl, Nq445, e445⟩ := hQ445
  have N445 := Fr.app N441 Nq445
  refine own_of (U' := (T445.setTop (mkF m 20 #[.val (.ref a1), .val (.int ((((1 : Int32) &&& x424) &&& x432) &&& x440)), .val (.int (3 : Int32))] [(.int (4 : Int32)), (.int (3 : Int32))]))) (fun _ k => st445.trans k) ?_
  have hc20_446 : (3 : Int32) < (4 : Int32) := by decide
  refine own_icmpNo X445 hx hby d5_20 (tlt hc20_446).2.1 ?_
  refine own_iloadN X445 hx hby d5_23 rfl ?_
  refine own_aloadN X445 hx hby d5_24 rfl rfl ?_
  refine own_iloadN X445 hx hby d5_25 rfl ?_
  obtain ⟨cq447, kq447, q447a, q447b, q447c⟩ := isOf hZ e445 E1
  obtain ⟨_, _, ⟨T447, L447, k447, n447⟩, -, X447, ⟨Lc447, hQ447, l447, y447, z447⟩, st447⟩ := X445.virtualBack hx (y := mN_7) (z := mN_7) hown (mvT hZ (own_w hw 62 rfl)) (mvT hZ (own_w hw 63 rfl)) (notFace_of_selects (args := #[]) (mvT hZ (own_w hw 65 rfl))) (mvT hZ (own_w hw 65 rfl)) (mvT hZ (own_w hw 64 rfl)) (by decide) (backOf (W := 1) (rmch4_3 l Z a0 hw [] a1 c0 c1 c2 c3 g1 rS h0 n0 Z0 T1 hb0 hb1 hb2 hb3 SC hg1 SA SHI SLO SF hrS) hZ (own_w hw 66 rfl) (own_w hw 10 rfl) (by decide) (by decide)) q447a q447c (g := (mkF m 26 #[.val (.ref a1), .val (.int ((((1 : Int32) &&& x424) &&& x432) &&& x440)), .val (.int (3 : Int32))] [(.int (3 : Int32)), (.ref a1), (.int ((((1 : Int32) &&& x424) &&& x432) &&& x440))])) rfl (by rw [hml]; rfl) (Steps.refl _) (argsL := [(.int (3 : Int32))]) (rest := [(.int ((((1 : Int32) &&& x424) &&& x432) &&& x440))]) (lenOf pd_15 rfl) rfl (by show 2 * 0 + _ ≤ _; exact Nat.le_of_eq rfl) (hb hby d5_26) (fun _ _ => ⟨rfl, e445, (by decide : 0 + 0 ≤ _), (by decide : 0 + 0 ≤ _)⟩)
  dsimp only [Pt.U, Pt.locs, Pt.cells, Pt.slots] at X447 l447 y447 z447 st447 hQ447
  subst l447 y447 z447
  obtain ⟨rfl, Nq447, e447⟩ := hQ447
  have N447 := Fr.app N445 Nq447
  refine own_of (U' := (T447.setTop (mkF m 29 #[.val (.ref a1), .val (.int ((((1 : Int32) &&& x424) &&& x432) &&& x440)), .val (.int (3 : Int32))] [(.int c3), (.int ((((1 : Int32) &&& x424) &&& x432) &&& x440))]))) (fun _ k => st447.trans k) ?_
  refine own_bipush X447 hx hby 48 d5_29 rfl ?_
  obtain ⟨x448, hx448⟩ : ∃ z : Int32, z = (if c3 < (48 : Int32) then (0 : Int32) else (if (57 : Int32) < c3 then (0 : Int32) else (1 : Int32))) := ⟨_, rfl⟩
  suffices key449 : ∀ (T449 : State) (L449 : List Loc), Stand p l e ({ frames := 5, cells := 0, slots := 0, locals := 67 } : Room) s m #[(.ref a1)] below meth c T449 L449 0 0 → T449.heap = h0 → Fr n0 L449 → own_Ends p e below s FrameEnd (Qv (own_wn 1 [c0, c1, c2, c3]) h0 n0) 0 0 (T449.setTop (mkF m 49 #[.val (.ref a1), .val (.int ((((1 : Int32) &&& x424) &&& x432) &&& x440)), .val (.int (3 : Int32))] [(.int x448), (.int ((((1 : Int32) &&& x424) &&& x432) &&& x440))])) by
    by_cases hc31_450 : c3 < (48 : Int32)
    · skip
      refine own_icmpYes X447 hx hby 31 48 d5_31 (tlt hc31_450).1 (by decide) (by decide) ?_
      refine own_iconst X447 hx hby 0 d5_48 rfl ?_
      have tx448 : x448 = (0 : Int32) := by rw [hx448, if_pos hc31_450]
      exact own_eq (by rw [tx448]) (key449 _ _ X447 e447 N447)
    · skip
      refine own_icmpNo X447 hx hby d5_31 (flt hc31_450).1 ?_
      refine own_aloadN X447 hx hby d5_34 rfl rfl ?_
      refine own_iloadN X447 hx hby d5_35 rfl ?_
      obtain ⟨cq451, kq451, q451a, q451b, q451c⟩ := isOf hZ e447 E1
      obtain ⟨_, _, ⟨T451, L451, k451, n451⟩, -, X451, ⟨Lc451, hQ451, l451, y451, z451⟩, st451⟩ := X447.virtualBack hx (y := mN_7) (z := mN_7) hown (mvT hZ (own_w hw 62 rfl)) (mvT hZ (own_w hw 63 rfl)) (notFace_of_selects (args := #[]) (mvT hZ (own_w hw 65 rfl))) (mvT hZ (own_w hw 65 rfl)) (mvT hZ (own_w hw 64 rfl)) (by decide) (backOf (W := 1) (rmch4_3 l Z a0 hw [] a1 c0 c1 c2 c3 g1 rS h0 n0 Z0 T1 hb0 hb1 hb2 hb3 SC hg1 SA SHI SLO SF hrS) hZ (own_w hw 66 rfl) (own_w hw 10 rfl) (by decide) (by decide)) q451a q451c (g := (mkF m 36 #[.val (.ref a1), .val (.int ((((1 : Int32) &&& x424) &&& x432) &&& x440)), .val (.int (3 : Int32))] [(.int (3 : Int32)), (.ref a1), (.int ((((1 : Int32) &&& x424) &&& x432) &&& x440))])) rfl (by rw [hml]; rfl) (Steps.refl _) (argsL := [(.int (3 : Int32))]) (rest := [(.int ((((1 : Int32) &&& x424) &&& x432) &&& x440))]) (lenOf pd_15 rfl) rfl (by show 2 * 0 + _ ≤ _; exact Nat.le_of_eq rfl) (hb hby d5_36) (fun _ _ => ⟨rfl, e447, (by decide : 0 + 0 ≤ _), (by decide : 0 + 0 ≤ _)⟩)
      dsimp only [Pt.U, Pt.locs, Pt.cells, Pt.slots] at X451 l451 y451 z451 st451 hQ451
      subst l451 y451 z451
      obtain ⟨rfl, Nq451, e451⟩ := hQ451
      have N451 := Fr.app N447 Nq451
      refine own_of (U' := (T451.setTop (mkF m 39 #[.val (.ref a1), .val (.int ((((1 : Int32) &&& x424) &&& x432) &&& x440)), .val (.int (3 : Int32))] [(.int c3), (.int ((((1 : Int32) &&& x424) &&& x432) &&& x440))]))) (fun _ k => st451.trans k) ?_
      refine own_bipush X451 hx hby 57 d5_39 rfl ?_
      by_cases hc41_452 : (57 : Int32) < c3
      · skip
        refine own_icmpYes X451 hx hby 41 48 d5_41 (tlt hc41_452).2.2.1 (by decide) (by decide) ?_
        refine own_iconst X451 hx hby 0 d5_48 rfl ?_
        have tx448 : x448 = (0 : Int32) := by rw [hx448, if_neg hc31_450, if_pos hc41_452]
        exact own_eq (by rw [tx448]) (key449 _ _ X451 e451 N451)
      · skip
        refine own_icmpNo X451 hx hby d5_41 (flt hc41_452).2.2.1 ?_
        refine own_iconst X451 hx hby 1 d5_44 rfl ?_
        refine own_goto X451 hx hby 45 49 d5_45 (by decide) (by decide) ?_
        have tx448 : x448 = (1 : Int32) := by rw [hx448, if_neg hc31_450, if_neg hc41_452]
        exact own_eq (by rw [tx448]) (key449 _ _ X451 e451 N451)
  intro T449 L449 X449 e449 N449
  refine own_iand X449 hx hby d5_49 ?_
  refine own_istoreN X449 hx hby d5_50 (l' := #[.val (.ref a1), .val (.int (((((1 : Int32) &&& x424) &&& x432) &&& x440) &&& x448)), .val (.int (3 : Int32))]) rfl ?_
  refine own_iinc X449 hx hby d5_51 rfl (l' := #[.val (.ref a1), .val (.int (((((1 : Int32) &&& x424) &&& x432) &&& x440) &&& x448)), .val (.int ((3 : Int32) + (1 : Int32)))]) rfl ?_
  refine own_eq (U' := (T449.setTop (mkF m 54 #[.val (.ref a1), .val (.int (((((1 : Int32) &&& x424) &&& x432) &&& x440) &&& x448)), .val (.int (4 : Int32))] []))) (by rw [show ((3 : Int32) + (1 : Int32)) = (4 : Int32) by decide]) ?_
  refine own_goto X449 hx hby 54 15 d5_54 (by decide) (by decide) ?_
  refine own_iloadN X449 hx hby d5_15 rfl ?_
  refine own_aloadN X449 hx hby d5_16 rfl rfl ?_
  obtain ⟨cq453, kq453, q453a, q453b, q453c⟩ := isOf hZ e449 E1
  obtain ⟨_, _, ⟨T453, L453, k453, n453⟩, -, X453, ⟨Lc453, hQ453, l453, y453, z453⟩, st453⟩ := X449.virtualBack hx (y := mN_10) (z := mN_10) hown (mvT hZ (own_w hw 38 rfl)) (mvT hZ (own_w hw 39 rfl)) (notFace_of_selects (args := #[]) (mvT hZ (own_w hw 41 rfl))) (mvT hZ (own_w hw 41 rfl)) (mvT hZ (own_w hw 40 rfl)) (by decide) (backOf (W := 1) (rmlen4 l Z a0 hw [] a1 c0 c1 c2 c3 g1 h0 n0 Z0 T1 SC hg1) hZ (own_w hw 42 rfl) (own_w hw 10 rfl) (by decide) (by decide)) q453a q453c (g := (mkF m 17 #[.val (.ref a1), .val (.int (((((1 : Int32) &&& x424) &&& x432) &&& x440) &&& x448)), .val (.int (4 : Int32))] [(.ref a1), (.int (4 : Int32))])) rfl (by rw [hml]; rfl) (Steps.refl _) (argsL := []) (rest := [(.int (4 : Int32))]) (lenOf pd_14 rfl) rfl (by show 2 * 0 + _ ≤ _; exact Nat.le_of_eq rfl) (hb hby d5_17) (fun _ _ => ⟨rfl, e449, (by decide : 0 + 0 ≤ _), (by decide : 0 + 0 ≤ _)⟩)
  dsimp only [Pt.U, Pt.locs, Pt.cells, Pt.slots] at X453 l453 y453 z453 st453 hQ453
  subst l453 y453 z453
  obtain ⟨rfl, Nq453, e453⟩ := hQ453
  have N453 := Fr.app N449 Nq453
  refine own_of (U' := (T453.setTop (mkF m 20 #[.val (.ref a1), .val (.int (((((1 : Int32) &&& x424) &&& x432) &&& x440) &&& x448)), .val (.int (4 : Int32))] [(.int (4 : Int32)), (.int (4 : Int32))]))) (fun _ k => st453.trans k) ?_
  have hc20_454 : ¬ ((4 : Int32) < (4 : Int32)) := by decide
  refine own_icmpYes X453 hx hby 20 57 d5_20 (flt hc20_454).2.1 (by decide) (by decide) ?_
  refine own_iloadN X453 hx hby d5_57 rfl ?_
  exact own_retN X453 hx hlk (t := .boolean) Bd.returns (by simp) (hb hby d5_58) (by decide) (by decide) (⟨congrArg (fun z => some (Value.int z)) (show nar .boolean (((((1 : Int32) &&& x424) &&& x432) &&& x440) &&& x448) = own_wn 1 [c0, c1, c2, c3] from by rw [hx424, hx432, hx440, hx448]; exact own_nb _ (own_wn01 1 (by decide) [c0, c1, c2, c3])), N453, e453⟩)
abbrev mN_22 : MethodName := ⟨"com/example/pools_to_qrels/poolstoqrels/CitationIdsIsWholeNumberPinLaw", "digit", "(C)Z"⟩
theorem d12_0 : decode method_4_code 0 = .ok (.iload_n 0, 1) := by decide +kernel
theorem d12_1 : decode method_4_code 1 = .ok (.bipush 48, 2) := by decide +kernel
theorem d12_3 : decode method_4_code 3 = .ok (.if_icmp .lt 13, 3) := by decide +kernel
theorem d12_6 : decode method_4_code 6 = .ok (.iload_n 0, 1) := by decide +kernel
theorem d12_7 : decode method_4_code 7 = .ok (.bipush 57, 2) := by decide +kernel
theorem d12_9 : decode method_4_code 9 = .ok (.if_icmp .gt 7, 3) := by decide +kernel
theorem d12_12 : decode method_4_code 12 = .ok (.iconst 1, 1) := by decide +kernel
theorem d12_13 : decode method_4_code 13 = .ok (.goto 4, 3) := by decide +kernel
theorem d12_16 : decode method_4_code 16 = .ok (.iconst 0, 1) := by decide +kernel
theorem d12_17 : decode method_4_code 17 = .ok (.ireturn, 1) := by decide +kernel
theorem pn_5 : plainName "com/example/pools_to_qrels/poolstoqrels/CitationIdsIsWholeNumberPinLaw" = true := by first | (simp [plainName, overriddenIn]; done) | decide +kernel
theorem ef_dg (m : MethodId) (x0 : Int32) : entryFrame m #[(.int x0)] 1 = mkF m 0 #[.val (.int x0)] [] := by first | (simp [entryFrame, mkF, argsToLocals, Value.category]; done) | rfl
set_option maxRecDepth 65536 in
set_option maxHeartbeats 40000000 in
theorem rmdg (l : Launch) (Z : State) (a0 : Array Value) (hw : ∀ d ∈ tables_1, d.before a0 Z = true) (ws : List Jvm.Cond) (p1 : Int32) (h0 : Heap) (n0 : Nat) (Z0 : n0 ≤ h0.size)  :
    MetFree l mN_22 (head1 (Jvm.Cond.code mN_22 method_4_code 1 (some .boolean) :: ws) ({ frames := 0, cells := 0, slots := 0, locals := 0 } : Room)) (fun a U => a = #[(.int p1)] ∧ Z.Warmed39 U.vm ∧ U.heap = h0) (fun _ _ _ _ _ => True) (fun _ U o U' => ∃ v L, o = .returned v ∧ (Qv (own_dg p1) h0 n0) v U'.heap L ∧ FrameEnd U o U' L ({ frames := 0, cells := 0, slots := 0, locals := 0 } : Room).cells ({ frames := 0, cells := 0, slots := 0, locals := 0 } : Room).slots) := by
  refine MetFree.of_bodySF (plainFor_of_name pn_5) hisR ?_
  intro p e s m args below meth c s₁ Bd hml0 hP hK
  obtain ⟨rfl, hZ, hh⟩ := hP
  have hx := Bd.exec
  have hby := Bd.bytes
  have hml : c.maxLocals = 1 := hml0
  have hown : s.vm.findClass "com/example/pools_to_qrels/poolstoqrels/CitationIdsIsWholeNumberPinLaw" = some m.cls := findClass_of_methodNamed Bd.named
  have hnm := (name_of_methodNamed Bd.named Bd.method).1
  have hlk := Bd.notSynchronized
  have X0 : Stand p l e ({ frames := 0, cells := 0, slots := 0, locals := 0 } : Room) s m #[(.int p1)] below meth c s₁ [] 0 0 := Stand.of_body Bd
  have e0 : s₁.heap = h0 := by rw [← hh, Bd.state]; rfl
  have N0 := Fr.nil n0
  show own_Ends p e below s FrameEnd (Qv (own_dg p1) h0 n0) 0 0 (s₁.setTop (entryFrame m #[(.int p1)] 1))
  refine own_of (U' := (s₁.setTop (mkF m 0 #[.val (.int p1)] []))) (fun _ k => castTop (ef_dg m p1) k) ?_
  refine own_iloadN X0 hx hby d12_0 rfl ?_
  refine own_bipush X0 hx hby 48 d12_1 rfl ?_
  by_cases hc3_455 : p1 < (48 : Int32)
  · skip
    refine own_icmpYes X0 hx hby 3 16 d12_3 (tlt hc3_455).1 (by decide) (by decide) ?_
    refine own_iconst X0 hx hby 0 d12_16 rfl ?_
    exact own_retN X0 hx hlk (t := .boolean) Bd.returns (by simp) (hb hby d12_17) (by decide) (by decide) (⟨congrArg (fun z => some (Value.int z)) (show nar .boolean (0 : Int32) = own_dg p1 from by simp [own_dg, own_b0, own_b1, hc3_455]), N0, e0⟩)
  · skip
    refine own_icmpNo X0 hx hby d12_3 (flt hc3_455).1 ?_
    refine own_iloadN X0 hx hby d12_6 rfl ?_
    refine own_bipush X0 hx hby 57 d12_7 rfl ?_
    by_cases hc9_456 : (57 : Int32) < p1
    · skip
      refine own_icmpYes X0 hx hby 9 16 d12_9 (tlt hc9_456).2.2.1 (by decide) (by decide) ?_
      refine own_iconst X0 hx hby 0 d12_16 rfl ?_
      exact own_retN X0 hx hlk (t := .boolean) Bd.returns (by simp) (hb hby d12_17) (by decide) (by decide) (⟨congrArg (fun z => some (Value.int z)) (show nar .boolean (0 : Int32) = own_dg p1 from by simp [own_dg, own_b0, own_b1, hc3_455, hc9_456]), N0, e0⟩)
    · skip
      refine own_icmpNo X0 hx hby d12_9 (flt hc9_456).2.2.1 ?_
      refine own_iconst X0 hx hby 1 d12_12 rfl ?_
      refine own_goto X0 hx hby 13 17 d12_13 (by decide) (by decide) ?_
      exact own_retN X0 hx hlk (t := .boolean) Bd.returns (by simp) (hb hby d12_17) (by decide) (by decide) (⟨congrArg (fun z => some (Value.int z)) (show nar .boolean (1 : Int32) = own_dg p1 from by simp [own_dg, own_b0, own_b1, hc3_455, hc9_456]), N0, e0⟩)
abbrev mN_23 : MethodName := ⟨"com/example/pools_to_qrels/poolstoqrels/CitationIdsIsWholeNumberPinLaw", "draw", "(I)C"⟩
theorem d1_0 : decode method_3_code 0 = .ok (.iload_n 0, 1) := by decide +kernel
theorem d1_1 : decode method_3_code 1 = .ok (.ldc 29, 2) := by decide +kernel
theorem d1_3 : decode method_3_code 3 = .ok (.iand, 1) := by decide +kernel
theorem d1_4 : decode method_3_code 4 = .ok (.ifCond .eq 16, 3) := by decide +kernel
theorem d1_7 : decode method_3_code 7 = .ok (.bipush 46, 2) := by decide +kernel
theorem d1_9 : decode method_3_code 9 = .ok (.iload_n 0, 1) := by decide +kernel
theorem d1_10 : decode method_3_code 10 = .ok (.sipush 255, 3) := by decide +kernel
theorem d1_13 : decode method_3_code 13 = .ok (.iand, 1) := by decide +kernel
theorem d1_14 : decode method_3_code 14 = .ok (.bipush 14, 2) := by decide +kernel
theorem d1_16 : decode method_3_code 16 = .ok (.irem, 1) := by decide +kernel
theorem d1_17 : decode method_3_code 17 = .ok (.iadd, 1) := by decide +kernel
theorem d1_18 : decode method_3_code 18 = .ok (.i2c, 1) := by decide +kernel
theorem d1_19 : decode method_3_code 19 = .ok (.ireturn, 1) := by decide +kernel
theorem d1_20 : decode method_3_code 20 = .ok (.iload_n 0, 1) := by decide +kernel
theorem d1_21 : decode method_3_code 21 = .ok (.ldc 30, 2) := by decide +kernel
theorem d1_23 : decode method_3_code 23 = .ok (.iand, 1) := by decide +kernel
theorem d1_24 : decode method_3_code 24 = .ok (.i2c, 1) := by decide +kernel
theorem d1_25 : decode method_3_code 25 = .ok (.ireturn, 1) := by decide +kernel
theorem ef_dr (m : MethodId) (x0 : Int32) : entryFrame m #[(.int x0)] 1 = mkF m 0 #[.val (.int x0)] [] := by first | (simp [entryFrame, mkF, argsToLocals, Value.category]; done) | rfl
set_option maxRecDepth 65536 in
set_option maxHeartbeats 40000000 in
theorem rmdr (l : Launch) (Z : State) (a0 : Array Value) (hw : ∀ d ∈ tables_1, d.before a0 Z = true) (ws : List Jvm.Cond) (p1 : Int32) (h0 : Heap) (n0 : Nat) (Z0 : n0 ≤ h0.size)  :
    MetFree l mN_23 (head1 (Jvm.Cond.code mN_23 method_3_code 1 (some .char) :: ws) ({ frames := 0, cells := 0, slots := 0, locals := 0 } : Room)) (fun a U => a = #[(.int p1)] ∧ Z.Warmed39 U.vm ∧ U.heap = h0) (fun _ _ _ _ _ => True) (fun _ U o U' => ∃ v L, o = .returned v ∧ (Qv (own_dr p1) h0 n0) v U'.heap L ∧ FrameEnd U o U' L ({ frames := 0, cells := 0, slots := 0, locals := 0 } : Room).cells ({ frames := 0, cells := 0, slots := 0, locals := 0 } : Room).slots) := by
  refine MetFree.of_bodySF (plainFor_of_name pn_5) hisR ?_
  intro p e s m args below meth c s₁ Bd hml0 hP hK
  obtain ⟨rfl, hZ, hh⟩ := hP
  have hx := Bd.exec
  have hby := Bd.bytes
  have hml : c.maxLocals = 1 := hml0
  have hown : s.vm.findClass "com/example/pools_to_qrels/poolstoqrels/CitationIdsIsWholeNumberPinLaw" = some m.cls := findClass_of_methodNamed Bd.named
  have hnm := (name_of_methodNamed Bd.named Bd.method).1
  have hlk := Bd.notSynchronized
  have X0 : Stand p l e ({ frames := 0, cells := 0, slots := 0, locals := 0 } : Room) s m #[(.int p1)] below meth c s₁ [] 0 0 := Stand.of_body Bd
  have e0 : s₁.heap = h0 := by rw [← hh, Bd.state]; rfl
  have N0 := Fr.nil n0
  show own_Ends p e below s FrameEnd (Qv (own_dr p1) h0 n0) 0 0 (s₁.setTop (entryFrame m #[(.int p1)] 1))
  refine own_of (U' := (s₁.setTop (mkF m 0 #[.val (.int p1)] []))) (fun _ k => castTop (ef_dr m p1) k) ?_
  refine own_iloadN X0 hx hby d1_0 rfl ?_
  refine own_of (U' := (s₁.setTop (mkF m 3 #[.val (.int p1)] [(.int (65536 : Int32)), (.int p1)]))) (X0.ldcInt hx hown (mvT hZ (own_w hw 5 rfl)) (g := (mkF m 1 #[.val (.int p1)] [(.int p1)])) rfl (hb hby d1_1)) ?_
  refine own_iand X0 hx hby d1_3 ?_
  by_cases hc4_457 : (p1 &&& (65536 : Int32)) = (0 : Int32)
  · skip
    refine own_ifYes X0 hx hby 4 20 d1_4 ((if0 _ _).trans (teq hc4_457).1) (by decide) (by decide) ?_
    refine own_iloadN X0 hx hby d1_20 rfl ?_
    refine own_of (U' := (s₁.setTop (mkF m 23 #[.val (.int p1)] [(.int (65535 : Int32)), (.int p1)]))) (X0.ldcInt hx hown (mvT hZ (own_w hw 6 rfl)) (g := (mkF m 21 #[.val (.int p1)] [(.int p1)])) rfl (hb hby d1_21)) ?_
    refine own_iand X0 hx hby d1_23 ?_
    refine own_i2c X0 hx hby d1_24 ?_
    exact own_retN X0 hx hlk (t := .char) Bd.returns (by simp) (hb hby d1_25) (by decide) (by decide) (⟨congrArg (fun z => some (Value.int z)) (show nar .char ((p1 &&& (65535 : Int32)).toUInt32.toUInt16.toUInt32.toInt32) = own_dr p1 from by unfold own_dr; rw [if_pos hc4_457]), N0, e0⟩)
  · skip
    refine own_ifNo X0 hx hby d1_4 ((if0 _ _).trans (feq hc4_457).1) ?_
    refine own_bipush X0 hx hby 46 d1_7 rfl ?_
    refine own_iloadN X0 hx hby d1_9 rfl ?_
    refine own_sipush X0 hx hby 255 d1_10 rfl ?_
    refine own_iand X0 hx hby d1_13 ?_
    refine own_bipush X0 hx hby 14 d1_14 rfl ?_
    refine own_of (U' := (s₁.setTop (mkF m 17 #[.val (.int p1)] [(.int ((p1 &&& (255 : Int32)) % (14 : Int32))), (.int (46 : Int32))]))) (fun _ k => iremM (g := (mkF m 16 #[.val (.int p1)] [(.int (14 : Int32)), (.int (p1 &&& (255 : Int32))), (.int (46 : Int32))])) X0 hx rfl (hb hby d1_16) rfl (by decide) k) ?_
    refine own_iadd X0 hx hby d1_17 ?_
    refine own_i2c X0 hx hby d1_18 ?_
    exact own_retN X0 hx hlk (t := .char) Bd.returns (by simp) (hb hby d1_19) (by decide) (by decide) (⟨congrArg (fun z => some (Value.int z)) (show nar .char (((46 : Int32) + ((p1 &&& (255 : Int32)) % (14 : Int32))).toUInt32.toUInt16.toUInt32.toInt32) = own_dr p1 from by unfold own_dr; rw [if_neg hc4_457]), N0, e0⟩)
theorem pd_16 : parseMethodDescriptor "([C)V" = some ⟨[(.array .char)], none⟩ := by decide +kernel
theorem pd_17 : parseMethodDescriptor "(Ljava/lang/String;)Z" = some ⟨[(.object "java/lang/String")], some .boolean⟩ := by decide +kernel
theorem pd_18 : parseMethodDescriptor "(C)Z" = some ⟨[.char], some .boolean⟩ := by decide +kernel
theorem ef_0 (m : MethodId) (x0 : Int32) (x1 : Int32) (x2 : Int32) (x3 : Int32) (x4 : Int32) : entryFrame m #[(.int x0), (.int x1), (.int x2), (.int x3), (.int x4)] maxLocals = mkF m 0 #[.val (.int x0), .val (.int x1), .val (.int x2), .val (.int x3), .val (.int x4), .unset, .unset, .unset, .unset, .unset, .unset, .unset, .unset] [] := by first | (simp [entryFrame, mkF, argsToLocals, Value.category, maxLocals]; done) | rfl
def Q0 (n0 : Nat) (v : Option Value) (h : Heap) (L : List Loc) : Prop := v = some (.int 1) ∧ Fr n0 L
set_option maxRecDepth 65536 in
set_option maxHeartbeats 40000000 in
theorem rm0 (l : Launch) (Z : State) (a0 : Array Value) (hw : ∀ d ∈ tables_1, d.before a0 Z = true) (ws : List Jvm.Cond) (p1 p2 p3 p4 p5 g1 : Int32) (rS : Value) (h0 : Heap) (n0 : Nat) (Z0 : n0 ≤ h0.size) (hEL : EW Z a0 consts_1) (SC : Sta Z h0 "java/lang/String" "COMPACT_STRINGS" "Z" (.int g1)) (hg1 : ¬ (g1 = (0 : Int32))) (SA : Sta Z h0 "java/lang/StringUTF16" "$assertionsDisabled" "Z" (.int (1 : Int32))) (SHI : Sta Z h0 "java/lang/StringUTF16" "HI_BYTE_SHIFT" "I" (.int (0 : Int32))) (SLO : Sta Z h0 "java/lang/StringUTF16" "LO_BYTE_SHIFT" "I" (.int (8 : Int32))) (SF : Sta Z h0 "jdk/internal/util/Preconditions" "SIOOBE_FORMATTER" "Ljava/util/function/BiFunction;" rS) (hrS : rS.isRef = true) :
    MetFree l x (head1 (Jvm.Cond.code x code maxLocals ret :: ws) room_1) (fun a U => a = #[(.int p1), (.int p2), (.int p3), (.int p4), (.int p5)] ∧ Z.Warmed39 U.vm ∧ U.heap = h0 ∧ CHv Z consts_1 U.vm h0) (fun _ _ _ _ _ => True) (fun _ U o U' => ∃ v L, o = .returned v ∧ (Q0 n0) v U'.heap L ∧ ReturnedEndW U o U' L 24 1152) := by
  refine MetFree.of_bodySF (plainFor_of_name pn_5) hisR ?_
  intro p e s m args below meth c s₁ Bd hml0 hP hK
  obtain ⟨rfl, hZ, hh, HH⟩ := hP
  have hx := Bd.exec
  have hby := Bd.bytes
  have hml : c.maxLocals = 13 := hml0
  have hown : s.vm.findClass "com/example/pools_to_qrels/poolstoqrels/CitationIdsIsWholeNumberPinLaw" = some m.cls := findClass_of_methodNamed Bd.named
  have hnm := (name_of_methodNamed Bd.named Bd.method).1
  have hlk := Bd.notSynchronized
  have X0 : Stand p l e room_1 (s.setVm s.vm) m #[(.int p1), (.int p2), (.int p3), (.int p4), (.int p5)] below meth c s₁ [] 0 0 := Stand.of_body Bd
  have hS := (State.WarmedH.refl s).since 0
  have hkS : 0 ≤ h0.size := Nat.zero_le _
  replace hZ : Z.Warmed39 (s.setVm s.vm).vm := hZ
  replace hown : (s.setVm s.vm).vm.findClass "com/example/pools_to_qrels/poolstoqrels/CitationIdsIsWholeNumberPinLaw" = some m.cls := hown
  replace HH : CHv Z consts_1 s.vm h0 := HH
  have e0 : s₁.heap = h0 := by rw [← hh, Bd.state]; rfl
  have N0 := Fr.nil n0
  show own_Ends p e below s ReturnedEndW (Q0 n0) 24 1152 (s₁.setTop (entryFrame m #[(.int p1), (.int p2), (.int p3), (.int p4), (.int p5)] maxLocals))
  refine own_of (U' := (s₁.setTop (mkF m 0 #[.val (.int p1), .val (.int p2), .val (.int p3), .val (.int p4), .val (.int p5), .unset, .unset, .unset, .unset, .unset, .unset, .unset, .unset] []))) (fun _ k => castTop (ef_0 m p1 p2 p3 p4 p5) k) ?_
  refine own_iloadN X0 hx hby at_0 rfl ?_
  refine own_of (U' := (s₁.setTop (mkF m 3 #[.val (.int p1), .val (.int p2), .val (.int p3), .val (.int p4), .val (.int p5), .unset, .unset, .unset, .unset, .unset, .unset, .unset, .unset] [(.int (2147483647 : Int32)), (.int p1)]))) (X0.ldcInt hx hown (mvT hZ (own_w hw 0 rfl)) (g := (mkF m 1 #[.val (.int p1), .val (.int p2), .val (.int p3), .val (.int p4), .val (.int p5), .unset, .unset, .unset, .unset, .unset, .unset, .unset, .unset] [(.int p1)])) rfl (hb hby at_1)) ?_
  refine own_iand X0 hx hby at_3 ?_
  refine own_iconst X0 hx hby 5 at_4 rfl ?_
  refine own_of (U' := (s₁.setTop (mkF m 6 #[.val (.int p1), .val (.int p2), .val (.int p3), .val (.int p4), .val (.int p5), .unset, .unset, .unset, .unset, .unset, .unset, .unset, .unset] [(.int ((p1 &&& (2147483647 : Int32)) % (5 : Int32)))]))) (fun _ k => iremM (g := (mkF m 5 #[.val (.int p1), .val (.int p2), .val (.int p3), .val (.int p4), .val (.int p5), .unset, .unset, .unset, .unset, .unset, .unset, .unset, .unset] [(.int (5 : Int32)), (.int (p1 &&& (2147483647 : Int32)))])) X0 hx rfl (hb hby at_5) rfl (by decide) k) ?_
  obtain ⟨ln, hln⟩ : ∃ z, z = ((p1 &&& (2147483647 : Int32)) % (5 : Int32)) := ⟨_, rfl⟩
  refine own_eq (U' := (s₁.setTop (mkF m 6 #[.val (.int p1), .val (.int p2), .val (.int p3), .val (.int p4), .val (.int p5), .unset, .unset, .unset, .unset, .unset, .unset, .unset, .unset] [(.int ln)]))) (by rw [hln]) ?_
  refine own_istore X0 hx hby at_6 (l' := #[.val (.int p1), .val (.int p2), .val (.int p3), .val (.int p4), .val (.int p5), .val (.int ln), .unset, .unset, .unset, .unset, .unset, .unset, .unset]) rfl ?_
  refine own_iloadN X0 hx hby at_8 rfl ?_
  obtain ⟨_, _, ⟨T458, L458, k458, n458⟩, -, X458, ⟨Lc458, hQ458, l458, y458, z458⟩, st458⟩ := Jvm.LawKit.callS X0 hx (y := mN_23) hown (mvT hZ (own_w hw 1 rfl)) (mvT hZ (own_w hw 2 rfl)) (mvT hZ (own_w hw 3 rfl)) (mvT hZ (own_w hw 4 rfl)) (by decide) (backOf (W := 0) (rmdr l Z a0 hw [] p2 h0 n0 Z0 ) hZ (own_w hw 4 rfl) (own_w hw 3 rfl) (by decide) (by decide)) (g := (mkF m 9 #[.val (.int p1), .val (.int p2), .val (.int p3), .val (.int p4), .val (.int p5), .val (.int ln), .unset, .unset, .unset, .unset, .unset, .unset, .unset] [(.int p2)])) rfl (by rw [hml]; rfl) (argsL := [(.int p2)]) (rest := []) (lenOf pd_15 rfl) rfl (by show 2 * 0 + _ ≤ _; exact Nat.le_of_eq rfl) (hb hby at_9) (fun _ _ => ⟨rfl, e0, (by decide : 0 + 0 ≤ _), (by decide : 0 + 0 ≤ _)⟩)
  dsimp only [Pt.U, Pt.locs, Pt.cells, Pt.slots] at X458 l458 y458 z458 st458 hQ458
  subst l458 y458 z458
  obtain ⟨rfl, Nq458, e458⟩ := hQ458
  have N458 := Fr.app N0 Nq458
  refine own_of (U' := (T458.setTop (mkF m 12 #[.val (.int p1), .val (.int p2), .val (.int p3), .val (.int p4), .val (.int p5), .val (.int ln), .unset, .unset, .unset, .unset, .unset, .unset, .unset] [(.int (own_dr p2))]))) (st458) ?_
  obtain ⟨x1, hx1⟩ : ∃ z, z = (own_dr p2) := ⟨_, rfl⟩
  refine own_eq (U' := (T458.setTop (mkF m 12 #[.val (.int p1), .val (.int p2), .val (.int p3), .val (.int p4), .val (.int p5), .val (.int ln), .unset, .unset, .unset, .unset, .unset, .unset, .unset] [(.int x1)]))) (by rw [hx1]) ?_
  refine own_istore X458 hx hby at_12 (l' := #[.val (.int p1), .val (.int p2), .val (.int p3), .val (.int p4), .val (.int p5), .val (.int ln), .val (.int x1), .unset, .unset, .unset, .unset, .unset, .unset]) rfl ?_
  have hn_x1 : nar .char x1 = x1 := by rw [hx1]; exact own_dr_nar p2
  refine own_iloadN X458 hx hby at_14 rfl ?_
  obtain ⟨_, _, ⟨T459, L459, k459, n459⟩, -, X459, ⟨Lc459, hQ459, l459, y459, z459⟩, st459⟩ := Jvm.LawKit.callS X458 hx (y := mN_23) hown (mvT hZ (own_w hw 1 rfl)) (mvT hZ (own_w hw 2 rfl)) (mvT hZ (own_w hw 3 rfl)) (mvT hZ (own_w hw 4 rfl)) (by decide) (backOf (W := 0) (rmdr l Z a0 hw [] p3 h0 n0 Z0 ) hZ (own_w hw 4 rfl) (own_w hw 3 rfl) (by decide) (by decide)) (g := (mkF m 15 #[.val (.int p1), .val (.int p2), .val (.int p3), .val (.int p4), .val (.int p5), .val (.int ln), .val (.int x1), .unset, .unset, .unset, .unset, .unset, .unset] [(.int p3)])) rfl (by rw [hml]; rfl) (argsL := [(.int p3)]) (rest := []) (lenOf pd_15 rfl) rfl (by show 2 * 0 + _ ≤ _; exact Nat.le_of_eq rfl) (hb hby at_15) (fun _ _ => ⟨rfl, e458, (by decide : 0 + 0 ≤ _), (by decide : 0 + 0 ≤ _)⟩)
  dsimp only [Pt.U, Pt.locs, Pt.cells, Pt.slots] at X459 l459 y459 z459 st459 hQ459
  subst l459 y459 z459
  obtain ⟨rfl, Nq459, e459⟩ := hQ459
  have N459 := Fr.app N458 Nq459
  refine own_of (U' := (T459.setTop (mkF m 18 #[.val (.int p1), .val (.int p2), .val (.int p3), .val (.int p4), .val (.int p5), .val (.int ln), .val (.int x1), .unset, .unset, .unset, .unset, .unset, .unset] [(.int (own_dr p3))]))) (st459) ?_
  obtain ⟨x2, hx2⟩ : ∃ z, z = (own_dr p3) := ⟨_, rfl⟩
  refine own_eq (U' := (T459.setTop (mkF m 18 #[.val (.int p1), .val (.int p2), .val (.int p3), .val (.int p4), .val (.int p5), .val (.int ln), .val (.int x1), .unset, .unset, .unset, .unset, .unset, .unset] [(.int x2)]))) (by rw [hx2]) ?_
  refine own_istore X459 hx hby at_18 (l' := #[.val (.int p1), .val (.int p2), .val (.int p3), .val (.int p4), .val (.int p5), .val (.int ln), .val (.int x1), .val (.int x2), .unset, .unset, .unset, .unset, .unset]) rfl ?_
  have hn_x2 : nar .char x2 = x2 := by rw [hx2]; exact own_dr_nar p3
  refine own_iloadN X459 hx hby at_20 rfl ?_
  obtain ⟨_, _, ⟨T460, L460, k460, n460⟩, -, X460, ⟨Lc460, hQ460, l460, y460, z460⟩, st460⟩ := Jvm.LawKit.callS X459 hx (y := mN_23) hown (mvT hZ (own_w hw 1 rfl)) (mvT hZ (own_w hw 2 rfl)) (mvT hZ (own_w hw 3 rfl)) (mvT hZ (own_w hw 4 rfl)) (by decide) (backOf (W := 0) (rmdr l Z a0 hw [] p4 h0 n0 Z0 ) hZ (own_w hw 4 rfl) (own_w hw 3 rfl) (by decide) (by decide)) (g := (mkF m 21 #[.val (.int p1), .val (.int p2), .val (.int p3), .val (.int p4), .val (.int p5), .val (.int ln), .val (.int x1), .val (.int x2), .unset, .unset, .unset, .unset, .unset] [(.int p4)])) rfl (by rw [hml]; rfl) (argsL := [(.int p4)]) (rest := []) (lenOf pd_15 rfl) rfl (by show 2 * 0 + _ ≤ _; exact Nat.le_of_eq rfl) (hb hby at_21) (fun _ _ => ⟨rfl, e459, (by decide : 0 + 0 ≤ _), (by decide : 0 + 0 ≤ _)⟩)
  dsimp only [Pt.U, Pt.locs, Pt.cells, Pt.slots] at X460 l460 y460 z460 st460 hQ460
  subst l460 y460 z460
  obtain ⟨rfl, Nq460, e460⟩ := hQ460
  have N460 := Fr.app N459 Nq460
  refine own_of (U' := (T460.setTop (mkF m 24 #[.val (.int p1), .val (.int p2), .val (.int p3), .val (.int p4), .val (.int p5), .val (.int ln), .val (.int x1), .val (.int x2), .unset, .unset, .unset, .unset, .unset] [(.int (own_dr p4))]))) (st460) ?_
  obtain ⟨x3, hx3⟩ : ∃ z, z = (own_dr p4) := ⟨_, rfl⟩
  refine own_eq (U' := (T460.setTop (mkF m 24 #[.val (.int p1), .val (.int p2), .val (.int p3), .val (.int p4), .val (.int p5), .val (.int ln), .val (.int x1), .val (.int x2), .unset, .unset, .unset, .unset, .unset] [(.int x3)]))) (by rw [hx3]) ?_
  refine own_istore X460 hx hby at_24 (l' := #[.val (.int p1), .val (.int p2), .val (.int p3), .val (.int p4), .val (.int p5), .val (.int ln), .val (.int x1), .val (.int x2), .val (.int x3), .unset, .unset, .unset, .unset]) rfl ?_
  have hn_x3 : nar .char x3 = x3 := by rw [hx3]; exact own_dr_nar p4
  refine own_iload X460 hx hby at_26 rfl ?_
  obtain ⟨_, _, ⟨T461, L461, k461, n461⟩, -, X461, ⟨Lc461, hQ461, l461, y461, z461⟩, st461⟩ := Jvm.LawKit.callS X460 hx (y := mN_23) hown (mvT hZ (own_w hw 1 rfl)) (mvT hZ (own_w hw 2 rfl)) (mvT hZ (own_w hw 3 rfl)) (mvT hZ (own_w hw 4 rfl)) (by decide) (backOf (W := 0) (rmdr l Z a0 hw [] p5 h0 n0 Z0 ) hZ (own_w hw 4 rfl) (own_w hw 3 rfl) (by decide) (by decide)) (g := (mkF m 28 #[.val (.int p1), .val (.int p2), .val (.int p3), .val (.int p4), .val (.int p5), .val (.int ln), .val (.int x1), .val (.int x2), .val (.int x3), .unset, .unset, .unset, .unset] [(.int p5)])) rfl (by rw [hml]; rfl) (argsL := [(.int p5)]) (rest := []) (lenOf pd_15 rfl) rfl (by show 2 * 0 + _ ≤ _; exact Nat.le_of_eq rfl) (hb hby at_28) (fun _ _ => ⟨rfl, e460, (by decide : 0 + 0 ≤ _), (by decide : 0 + 0 ≤ _)⟩)
  dsimp only [Pt.U, Pt.locs, Pt.cells, Pt.slots] at X461 l461 y461 z461 st461 hQ461
  subst l461 y461 z461
  obtain ⟨rfl, Nq461, e461⟩ := hQ461
  have N461 := Fr.app N460 Nq461
  refine own_of (U' := (T461.setTop (mkF m 31 #[.val (.int p1), .val (.int p2), .val (.int p3), .val (.int p4), .val (.int p5), .val (.int ln), .val (.int x1), .val (.int x2), .val (.int x3), .unset, .unset, .unset, .unset] [(.int (own_dr p5))]))) (st461) ?_
  obtain ⟨x4, hx4⟩ : ∃ z, z = (own_dr p5) := ⟨_, rfl⟩
  refine own_eq (U' := (T461.setTop (mkF m 31 #[.val (.int p1), .val (.int p2), .val (.int p3), .val (.int p4), .val (.int p5), .val (.int ln), .val (.int x1), .val (.int x2), .val (.int x3), .unset, .unset, .unset, .unset] [(.int x4)]))) (by rw [hx4]) ?_
  refine own_istore X461 hx hby at_31 (l' := #[.val (.int p1), .val (.int p2), .val (.int p3), .val (.int p4), .val (.int p5), .val (.int ln), .val (.int x1), .val (.int x2), .val (.int x3), .val (.int x4), .unset, .unset, .unset]) rfl ?_
  have hn_x4 : nar .char x4 = x4 := by rw [hx4]; exact own_dr_nar p5
  refine own_iload X461 hx hby at_33 rfl ?_
  rcases own_mod5 p1 with hv | hv | hv | hv | hv
  · skip
    refine own_eq (U' := (T461.setTop (mkF m 35 #[.val (.int p1), .val (.int p2), .val (.int p3), .val (.int p4), .val (.int p5), .val (.int (0 : Int32)), .val (.int x1), .val (.int x2), .val (.int x3), .val (.int x4), .unset, .unset, .unset] [(.int (0 : Int32))]))) (by rw [hln, hv]) ?_
    have hc35_462 : (0 : Int32) = (0 : Int32) := by decide
    refine own_ifNo X461 hx hby at_35 ((if0 _ _).trans (teq hc35_462).2) ?_
    refine own_iconst X461 hx hby 0 at_38 rfl ?_
    obtain ⟨T463, h463, k463, X463, e463, E463, A463, st463⟩ := newP X461 hx hZ (own_w hw 7 rfl) e461 (g := (mkF m 39 #[.val (.int p1), .val (.int p2), .val (.int p3), .val (.int p4), .val (.int p5), .val (.int (0 : Int32)), .val (.int x1), .val (.int x2), .val (.int x3), .val (.int x4), .unset, .unset, .unset] [(.int (0 : Int32))])) rfl (hb hby at_39) rfl (by decide) (cap := 0) (by decide) (by decide) (by decide) (by decide)
    obtain ⟨b463, gz463⟩ : ∃ z, z = h0.size := ⟨_, rfl⟩
    rw [← gz463] at A463 st463
    have g_b463 : n0 ≤ b463 := Nat.le_trans Z0 (Nat.le_of_eq gz463.symm)
    replace Z0 := Nat.le_trans Z0 E463.1
    replace SC := SC.ext E463
    replace SA := SA.ext E463
    replace SHI := SHI.ext E463
    replace SLO := SLO.ext E463
    replace SF := SF.ext E463
    replace hkS := Nat.le_trans hkS E463.1
    replace HH := HH.ext E463
    have V463 : Arv Z h463 b463 k463 .char (0 : Int32) [] (.int (0 : Int32)) := Arv.new A463 (by decide)
    refine own_of (U' := (T463.setTop (mkF m 41 #[.val (.int p1), .val (.int p2), .val (.int p3), .val (.int p4), .val (.int p5), .val (.int (0 : Int32)), .val (.int x1), .val (.int x2), .val (.int x3), .val (.int x4), .unset, .unset, .unset] [(.ref b463)]))) (st463) ?_
    refine own_astore X463 hx hby at_41 rfl (l' := #[.val (.int p1), .val (.int p2), .val (.int p3), .val (.int p4), .val (.int p5), .val (.int (0 : Int32)), .val (.int x1), .val (.int x2), .val (.int x3), .val (.int x4), .val (.ref b463), .unset, .unset]) rfl ?_
    refine own_goto X463 hx hby 43 143 at_43 (by decide) (by decide) ?_
    obtain ⟨T464, h464, X464, e464, E464, A464, D464, -, st464⟩ := newO X463 hx hZ hown (own_w hw 8 rfl) (own_w hw 9 rfl) (own_w hw 10 rfl) e463 (g := (mkF m 143 #[.val (.int p1), .val (.int p2), .val (.int p3), .val (.int p4), .val (.int p5), .val (.int (0 : Int32)), .val (.int x1), .val (.int x2), .val (.int x3), .val (.int x4), .val (.ref b463), .unset, .unset] [])) rfl (hb hby at_143) (by decide) (by decide)
    obtain ⟨b464, gz464⟩ : ∃ z, z = h463.size := ⟨_, rfl⟩
    rw [← gz464] at A464 D464 st464
    have g_b464 : n0 ≤ b464 := Nat.le_trans Z0 (Nat.le_of_eq gz464.symm)
    have ne_b463_b464 : b463 ≠ b464 := Nat.ne_of_lt (Nat.lt_of_lt_of_le V463.lt (Nat.le_of_eq gz464.symm))
    replace Z0 := Nat.le_trans Z0 E464.1
    replace SC := SC.ext E464
    replace SA := SA.ext E464
    replace SHI := SHI.ext E464
    replace SLO := SLO.ext E464
    replace SF := SF.ext E464
    replace hkS := Nat.le_trans hkS E464.1
    replace HH := HH.ext E464
    replace V463 := V463.ext E464
    have F464_value : Fld Z h464 b464 "java/lang/String" "value" "[B" .null := D464 (Or.inr (own_w hw 23 rfl)) (ty := (.array .byte)) (by decide)
    have F464_coder : Fld Z h464 b464 "java/lang/String" "coder" "B" (.int (0 : Int32)) := D464 (Or.inr (own_w hw 24 rfl)) (ty := .byte) (by decide)
    refine own_of (U' := (T464.setTop (mkF m 146 #[.val (.int p1), .val (.int p2), .val (.int p3), .val (.int p4), .val (.int p5), .val (.int (0 : Int32)), .val (.int x1), .val (.int x2), .val (.int x3), .val (.int x4), .val (.ref b463), .unset, .unset] [(.ref b464)]))) (st464) ?_
    refine own_dup X464 hx hby at_146 rfl ?_
    refine own_aload X464 hx hby at_147 rfl rfl ?_
    obtain ⟨_, _, ⟨T465, L465, k465, n465⟩, -, X465, sn465, gr465, ⟨Lc465, hQ465, l465, y465, z465⟩, st465⟩ := X464.specialBackS hx (y := mN_20) rfl hown (mvT hZ (own_w hw 11 rfl)) (mvT hZ (own_w hw 12 rfl)) (mvT hZ (own_w hw 13 rfl)) (by decide) (own_backSC (W := 1) (rmsi0 l Z a0 hw [] b464 b463 k463 h464 n0 Z0 hEL A464 F464_coder F464_value V463 g_b464) hEL HH hZ (own_w hw 13 rfl) (own_w hw 10 rfl) (by decide) (by decide)) (g := (mkF m 149 #[.val (.int p1), .val (.int p2), .val (.int p3), .val (.int p4), .val (.int p5), .val (.int (0 : Int32)), .val (.int x1), .val (.int x2), .val (.int x3), .val (.int x4), .val (.ref b463), .unset, .unset] [(.ref b463), (.ref b464), (.ref b464)])) rfl (by rw [hml]; rfl) (Steps.refl _) (a := b464) (argsL := [(.ref b463)]) (rest := [(.ref b464)]) (lenOf pd_16 rfl) rfl (by show 2 * 0 + _ ≤ _; exact Nat.le_of_eq rfl) (hb hby at_149) (fun _ _ => ⟨rfl, e464, (by decide : 2 + 2 ≤ _), (by decide : 4 + 4 ≤ _)⟩)
    dsimp only [Pt.U, Pt.locs, Pt.cells, Pt.slots] at X465 sn465 gr465 l465 y465 z465 st465 hQ465
    subst l465 y465 z465
    obtain ⟨X465, hS, hZ, hown⟩ := rebS hS (by rw [e464]; exact hkS) X465 sn465 gr465 hZ hown
    replace hkS : T465.heap.size ≤ T465.heap.size := Nat.le_refl _
    obtain ⟨rfl, Nq465, Kp465, Tq465⟩ := hQ465
    have N465 := Fr.app N461 Nq465
    have nst_b464 := A464.nostat
    replace Z0 := Nat.le_trans Z0 Kp465.1
    replace SC := own_staKeep SC Kp465 (nsS nst_b464 ns0)
    replace SA := own_staKeep SA Kp465 (nsS nst_b464 ns0)
    replace SHI := own_staKeep SHI Kp465 (nsS nst_b464 ns0)
    replace SLO := own_staKeep SLO Kp465 (nsS nst_b464 ns0)
    replace SF := own_staKeep SF Kp465 (nsS nst_b464 ns0)
    replace V463 := V463.keep Kp465 (ninS ne_b463_b464 nin0)
    replace A464 := A464.keep Kp465
    refine own_of (U' := (T465.setTop (mkF m 152 #[.val (.int p1), .val (.int p2), .val (.int p3), .val (.int p4), .val (.int p5), .val (.int (0 : Int32)), .val (.int x1), .val (.int x2), .val (.int x3), .val (.int x4), .val (.ref b463), .unset, .unset] [(.ref b464)]))) (fun _ k => st465.trans k) ?_
    refine own_astore X465 hx hby at_152 rfl (l' := #[.val (.int p1), .val (.int p2), .val (.int p3), .val (.int p4), .val (.int p5), .val (.int (0 : Int32)), .val (.int x1), .val (.int x2), .val (.int x3), .val (.int x4), .val (.ref b463), .val (.ref b464), .unset]) rfl ?_
    refine own_iload X465 hx hby at_154 rfl ?_
    have hc156_466 : ¬ ((0 : Int32) < (0 : Int32)) := by decide
    refine own_ifYes X465 hx hby 156 219 at_156 ((if0 _ _).trans (flt hc156_466).2.2.2) (by decide) (by decide) ?_
    refine own_iconst X465 hx hby 0 at_219 rfl ?_
    refine own_istore X465 hx hby at_220 (l' := #[.val (.int p1), .val (.int p2), .val (.int p3), .val (.int p4), .val (.int p5), .val (.int (0 : Int32)), .val (.int x1), .val (.int x2), .val (.int x3), .val (.int x4), .val (.ref b463), .val (.ref b464), .val (.int (0 : Int32))]) rfl ?_
    refine own_aload X465 hx hby at_222 rfl rfl ?_
    obtain ⟨_, _, ⟨T467, L467, k467, n467⟩, -, X467, ⟨Lc467, hQ467, l467, y467, z467⟩, st467⟩ := Jvm.LawKit.callS X465 hx (y := mN_21) hown (mvT hZ (own_w hw 29 rfl)) (mvT hZ (own_w hw 30 rfl)) (mvT hZ (own_w hw 31 rfl)) (mvT hZ (own_w hw 32 rfl)) (by decide) (backOf (W := 0) (rmwn0 l Z a0 hw [] b464  g1 rS T465.heap n0 Z0 Tq465  SC hg1 SA SHI SLO SF hrS) hZ (own_w hw 32 rfl) (own_w hw 31 rfl) (by decide) (by decide)) (g := (mkF m 224 #[.val (.int p1), .val (.int p2), .val (.int p3), .val (.int p4), .val (.int p5), .val (.int (0 : Int32)), .val (.int x1), .val (.int x2), .val (.int x3), .val (.int x4), .val (.ref b463), .val (.ref b464), .val (.int (0 : Int32))] [(.ref b464)])) rfl (by rw [hml]; rfl) (argsL := [(.ref b464)]) (rest := []) (lenOf pd_17 rfl) rfl (by show 2 * 0 + _ ≤ _; exact Nat.le_of_eq rfl) (hb hby at_224) (fun _ _ => ⟨rfl, rfl, (by decide : 4 + 0 ≤ _), (by decide : 8 + 0 ≤ _)⟩)
    dsimp only [Pt.U, Pt.locs, Pt.cells, Pt.slots] at X467 l467 y467 z467 st467 hQ467
    subst l467 y467 z467
    obtain ⟨rfl, Nq467, e467⟩ := hQ467
    have N467 := Fr.app N465 Nq467
    refine own_of (U' := (T467.setTop (mkF m 227 #[.val (.int p1), .val (.int p2), .val (.int p3), .val (.int p4), .val (.int p5), .val (.int (0 : Int32)), .val (.int x1), .val (.int x2), .val (.int x3), .val (.int x4), .val (.ref b463), .val (.ref b464), .val (.int (0 : Int32))] [(.int (own_wn 0 []))]))) (st467) ?_
    refine own_iload X467 hx hby at_227 rfl ?_
    have hc229_468 : (own_wn 0 []) = (0 : Int32) := rfl
    refine own_icmpNo X467 hx hby at_229 (teq hc229_468).2 ?_
    refine own_iconst X467 hx hby 1 at_232 rfl ?_
    refine own_goto X467 hx hby 233 237 at_233 (by decide) (by decide) ?_
    exact own_retNW X467 hx hlk hS (by rw [e467]; exact hkS) (t := .boolean) Bd.returns (by simp) (hb hby at_237) (by decide) (by decide) (⟨rfl, N467⟩)
  · skip
    refine own_eq (U' := (T461.setTop (mkF m 35 #[.val (.int p1), .val (.int p2), .val (.int p3), .val (.int p4), .val (.int p5), .val (.int (1 : Int32)), .val (.int x1), .val (.int x2), .val (.int x3), .val (.int x4), .unset, .unset, .unset] [(.int (1 : Int32))]))) (by rw [hln, hv]) ?_
    have hc35_469 : ¬ ((1 : Int32) = (0 : Int32)) := by decide
    refine own_ifYes X461 hx hby 35 46 at_35 ((if0 _ _).trans (feq hc35_469).2) (by decide) (by decide) ?_
    refine own_iload X461 hx hby at_46 rfl ?_
    refine own_iconst X461 hx hby 1 at_48 rfl ?_
    have hc49_470 : (1 : Int32) = (1 : Int32) := by decide
    refine own_icmpNo X461 hx hby at_49 (teq hc49_470).2 ?_
    refine own_iconst X461 hx hby 1 at_52 rfl ?_
    obtain ⟨T471, h471, k471, X471, e471, E471, A471, st471⟩ := newP X461 hx hZ (own_w hw 7 rfl) e461 (g := (mkF m 53 #[.val (.int p1), .val (.int p2), .val (.int p3), .val (.int p4), .val (.int p5), .val (.int (1 : Int32)), .val (.int x1), .val (.int x2), .val (.int x3), .val (.int x4), .unset, .unset, .unset] [(.int (1 : Int32))])) rfl (hb hby at_53) rfl (by decide) (cap := 1) (by decide) (by decide) (by decide) (by decide)
    obtain ⟨b471, gz471⟩ : ∃ z, z = h0.size := ⟨_, rfl⟩
    rw [← gz471] at A471 st471
    have g_b471 : n0 ≤ b471 := Nat.le_trans Z0 (Nat.le_of_eq gz471.symm)
    replace Z0 := Nat.le_trans Z0 E471.1
    replace SC := SC.ext E471
    replace SA := SA.ext E471
    replace SHI := SHI.ext E471
    replace SLO := SLO.ext E471
    replace SF := SF.ext E471
    replace hkS := Nat.le_trans hkS E471.1
    replace HH := HH.ext E471
    have V471 : Arv Z h471 b471 k471 .char (1 : Int32) [(.int (0 : Int32))] (.int (0 : Int32)) := (Arv.new A471 (by decide)).pad (pad_rep [] (.int (0 : Int32)) 1)
    refine own_of (U' := (T471.setTop (mkF m 55 #[.val (.int p1), .val (.int p2), .val (.int p3), .val (.int p4), .val (.int p5), .val (.int (1 : Int32)), .val (.int x1), .val (.int x2), .val (.int x3), .val (.int x4), .unset, .unset, .unset] [(.ref b471)]))) (st471) ?_
    refine own_dup X471 hx hby at_55 rfl ?_
    refine own_iconst X471 hx hby 0 at_56 rfl ?_
    refine own_iload X471 hx hby at_57 rfl ?_
    obtain ⟨cl472, Ar472, qa472, Sa472, Na472, Ha472, Ga472⟩ := V471
    have hin472 : ¬ ((0 : Int32) < 0 ∨ cl472.slots.size ≤ ((0 : Int32)).toNatClampNeg) := inb_of Sa472 ⟨by decide, by decide⟩
    obtain ⟨T472, h472, X472, e472, W472, st472⟩ := stC X471 hx hZ e471 Ar472 (j := (0 : Int32)) hin472 (g := (mkF m 59 #[.val (.int p1), .val (.int p2), .val (.int p3), .val (.int p4), .val (.int p5), .val (.int (1 : Int32)), .val (.int x1), .val (.int x2), .val (.int x3), .val (.int x4), .unset, .unset, .unset] [(.int x1), (.int (0 : Int32)), (.ref b471), (.ref b471)])) rfl rfl (hb hby at_59)
    replace V471 : Arv Z h472 b471 k471 .char (1 : Int32) [(.int (nar .char x1))] (.int (0 : Int32)) := Arv.set Ar472 qa472 Sa472 Na472 Ha472 Ga472 (fits_nar_char _) W472 0 rfl (Nat.le_of_ble_eq_true rfl)
    replace Z0 := Nat.le_trans Z0 (Keep.of_wr W472).1
    replace SC := SC.wr W472
    replace SA := SA.wr W472
    replace SHI := SHI.wr W472
    replace SLO := SLO.wr W472
    replace SF := SF.wr W472
    replace hkS := Nat.le_trans hkS (Keep.of_wr W472).1
    have N472 := Fr.snoc X472 N461 g_b471
    refine own_of (U' := (T472.setTop (mkF m 60 #[.val (.int p1), .val (.int p2), .val (.int p3), .val (.int p4), .val (.int p5), .val (.int (1 : Int32)), .val (.int x1), .val (.int x2), .val (.int x3), .val (.int x4), .unset, .unset, .unset] [(.ref b471)]))) (st472) ?_
    refine own_astore X472 hx hby at_60 rfl (l' := #[.val (.int p1), .val (.int p2), .val (.int p3), .val (.int p4), .val (.int p5), .val (.int (1 : Int32)), .val (.int x1), .val (.int x2), .val (.int x3), .val (.int x4), .val (.ref b471), .unset, .unset]) rfl ?_
    refine own_goto X472 hx hby 62 143 at_62 (by decide) (by decide) ?_
    obtain ⟨T473, h473, X473, e473, E473, A473, D473, -, st473⟩ := newO X472 hx hZ hown (own_w hw 8 rfl) (own_w hw 9 rfl) (own_w hw 10 rfl) e472 (g := (mkF m 143 #[.val (.int p1), .val (.int p2), .val (.int p3), .val (.int p4), .val (.int p5), .val (.int (1 : Int32)), .val (.int x1), .val (.int x2), .val (.int x3), .val (.int x4), .val (.ref b471), .unset, .unset] [])) rfl (hb hby at_143) (by decide) (by decide)
    obtain ⟨b473, gz473⟩ : ∃ z, z = h472.size := ⟨_, rfl⟩
    rw [← gz473] at A473 D473 st473
    have g_b473 : n0 ≤ b473 := Nat.le_trans Z0 (Nat.le_of_eq gz473.symm)
    have ne_b471_b473 : b471 ≠ b473 := Nat.ne_of_lt (Nat.lt_of_lt_of_le V471.lt (Nat.le_of_eq gz473.symm))
    replace Z0 := Nat.le_trans Z0 E473.1
    replace SC := SC.ext E473
    replace SA := SA.ext E473
    replace SHI := SHI.ext E473
    replace SLO := SLO.ext E473
    replace SF := SF.ext E473
    replace hkS := Nat.le_trans hkS E473.1
    replace V471 := V471.ext E473
    have F473_value : Fld Z h473 b473 "java/lang/String" "value" "[B" .null := D473 (Or.inr (own_w hw 23 rfl)) (ty := (.array .byte)) (by decide)
    have F473_coder : Fld Z h473 b473 "java/lang/String" "coder" "B" (.int (0 : Int32)) := D473 (Or.inr (own_w hw 24 rfl)) (ty := .byte) (by decide)
    refine own_of (U' := (T473.setTop (mkF m 146 #[.val (.int p1), .val (.int p2), .val (.int p3), .val (.int p4), .val (.int p5), .val (.int (1 : Int32)), .val (.int x1), .val (.int x2), .val (.int x3), .val (.int x4), .val (.ref b471), .unset, .unset] [(.ref b473)]))) (st473) ?_
    refine own_dup X473 hx hby at_146 rfl ?_
    refine own_aload X473 hx hby at_147 rfl rfl ?_
    obtain ⟨_, _, ⟨T474, L474, k474, n474⟩, -, X474, ⟨Lc474, hQ474, l474, y474, z474⟩, st474⟩ := X473.specialBack hx (y := mN_20) rfl hown (mvT hZ (own_w hw 11 rfl)) (mvT hZ (own_w hw 12 rfl)) (mvT hZ (own_w hw 13 rfl)) (by decide) (backOf (W := 1) (rmsi1 l Z a0 hw [] b473 b471 k471 (nar .char x1) g1 h473 n0 Z0 A473 F473_coder F473_value V471 g_b473 (own_char_bd x1) SC hg1 SA SHI SLO) hZ (own_w hw 13 rfl) (own_w hw 10 rfl) (by decide) (by decide)) (g := (mkF m 149 #[.val (.int p1), .val (.int p2), .val (.int p3), .val (.int p4), .val (.int p5), .val (.int (1 : Int32)), .val (.int x1), .val (.int x2), .val (.int x3), .val (.int x4), .val (.ref b471), .unset, .unset] [(.ref b471), (.ref b473), (.ref b473)])) rfl (by rw [hml]; rfl) (Steps.refl _) (a := b473) (argsL := [(.ref b471)]) (rest := [(.ref b473)]) (lenOf pd_16 rfl) rfl (by show 2 * 0 + _ ≤ _; exact Nat.le_of_eq rfl) (hb hby at_149) (fun _ _ => ⟨rfl, e473, (by decide : 2 + 2 ≤ _), (by decide : 5 + 3 ≤ _)⟩)
    dsimp only [Pt.U, Pt.locs, Pt.cells, Pt.slots] at X474 l474 y474 z474 st474 hQ474
    subst l474 y474 z474
    obtain ⟨rfl, Nq474, Kp474, Tq474⟩ := hQ474
    have N474 := Fr.app N472 Nq474
    have nst_b473 := A473.nostat
    replace Z0 := Nat.le_trans Z0 Kp474.1
    replace SC := own_staKeep SC Kp474 (nsS nst_b473 ns0)
    replace SA := own_staKeep SA Kp474 (nsS nst_b473 ns0)
    replace SHI := own_staKeep SHI Kp474 (nsS nst_b473 ns0)
    replace SLO := own_staKeep SLO Kp474 (nsS nst_b473 ns0)
    replace SF := own_staKeep SF Kp474 (nsS nst_b473 ns0)
    replace hkS := Nat.le_trans hkS Kp474.1
    replace V471 := V471.keep Kp474 (ninS ne_b471_b473 nin0)
    replace A473 := A473.keep Kp474
    refine own_of (U' := (T474.setTop (mkF m 152 #[.val (.int p1), .val (.int p2), .val (.int p3), .val (.int p4), .val (.int p5), .val (.int (1 : Int32)), .val (.int x1), .val (.int x2), .val (.int x3), .val (.int x4), .val (.ref b471), .unset, .unset] [(.ref b473)]))) (fun _ k => st474.trans k) ?_
    refine own_astore X474 hx hby at_152 rfl (l' := #[.val (.int p1), .val (.int p2), .val (.int p3), .val (.int p4), .val (.int p5), .val (.int (1 : Int32)), .val (.int x1), .val (.int x2), .val (.int x3), .val (.int x4), .val (.ref b471), .val (.ref b473), .unset]) rfl ?_
    refine own_iload X474 hx hby at_154 rfl ?_
    have hc156_475 : (0 : Int32) < (1 : Int32) := by decide
    refine own_ifNo X474 hx hby at_156 ((if0 _ _).trans (tlt hc156_475).2.2.2) ?_
    refine own_iload X474 hx hby at_159 rfl ?_
    refine own_iconst X474 hx hby 1 at_161 rfl ?_
    have hc162_476 : ¬ ((1 : Int32) < (1 : Int32)) := by decide
    refine own_icmpNo X474 hx hby at_162 (flt hc162_476).1 ?_
    refine own_iload X474 hx hby at_165 rfl ?_
    obtain ⟨_, _, ⟨T477, L477, k477, n477⟩, -, X477, ⟨Lc477, hQ477, l477, y477, z477⟩, st477⟩ := Jvm.LawKit.callS X474 hx (y := mN_22) hown (mvT hZ (own_w hw 59 rfl)) (mvT hZ (own_w hw 60 rfl)) (mvT hZ (own_w hw 3 rfl)) (mvT hZ (own_w hw 61 rfl)) (by decide) (backOf (W := 0) (rmdg l Z a0 hw [] x1 T474.heap n0 Z0 ) hZ (own_w hw 61 rfl) (own_w hw 3 rfl) (by decide) (by decide)) (g := (mkF m 167 #[.val (.int p1), .val (.int p2), .val (.int p3), .val (.int p4), .val (.int p5), .val (.int (1 : Int32)), .val (.int x1), .val (.int x2), .val (.int x3), .val (.int x4), .val (.ref b471), .val (.ref b473), .unset] [(.int x1)])) rfl (by rw [hml]; rfl) (argsL := [(.int x1)]) (rest := []) (lenOf pd_18 rfl) rfl (by show 2 * 0 + _ ≤ _; exact Nat.le_of_eq rfl) (hb hby at_167) (fun _ _ => ⟨rfl, rfl, (by decide : 4 + 0 ≤ _), (by decide : 8 + 0 ≤ _)⟩)
    dsimp only [Pt.U, Pt.locs, Pt.cells, Pt.slots] at X477 l477 y477 z477 st477 hQ477
    subst l477 y477 z477
    obtain ⟨rfl, Nq477, e477⟩ := hQ477
    have N477 := Fr.app N474 Nq477
    refine own_of (U' := (T477.setTop (mkF m 170 #[.val (.int p1), .val (.int p2), .val (.int p3), .val (.int p4), .val (.int p5), .val (.int (1 : Int32)), .val (.int x1), .val (.int x2), .val (.int x3), .val (.int x4), .val (.ref b471), .val (.ref b473), .unset] [(.int (own_dg x1))]))) (st477) ?_
    by_cases hc170_478 : (own_dg x1) = (0 : Int32)
    · skip
      refine own_ifYes X477 hx hby 170 219 at_170 ((if0 _ _).trans (teq hc170_478).1) (by decide) (by decide) ?_
      refine own_iconst X477 hx hby 0 at_219 rfl ?_
      refine own_istore X477 hx hby at_220 (l' := #[.val (.int p1), .val (.int p2), .val (.int p3), .val (.int p4), .val (.int p5), .val (.int (1 : Int32)), .val (.int x1), .val (.int x2), .val (.int x3), .val (.int x4), .val (.ref b471), .val (.ref b473), .val (.int (0 : Int32))]) rfl ?_
      refine own_aload X477 hx hby at_222 rfl rfl ?_
      obtain ⟨_, _, ⟨T479, L479, k479, n479⟩, -, X479, ⟨Lc479, hQ479, l479, y479, z479⟩, st479⟩ := Jvm.LawKit.callS X477 hx (y := mN_21) hown (mvT hZ (own_w hw 29 rfl)) (mvT hZ (own_w hw 30 rfl)) (mvT hZ (own_w hw 31 rfl)) (mvT hZ (own_w hw 32 rfl)) (by decide) (backOf (W := 0) (rmwn1 l Z a0 hw [] b473 (nar .char x1) g1 rS T474.heap n0 Z0 Tq474 (own_char_bd x1) SC hg1 SA SHI SLO SF hrS) hZ (own_w hw 32 rfl) (own_w hw 31 rfl) (by decide) (by decide)) (g := (mkF m 224 #[.val (.int p1), .val (.int p2), .val (.int p3), .val (.int p4), .val (.int p5), .val (.int (1 : Int32)), .val (.int x1), .val (.int x2), .val (.int x3), .val (.int x4), .val (.ref b471), .val (.ref b473), .val (.int (0 : Int32))] [(.ref b473)])) rfl (by rw [hml]; rfl) (argsL := [(.ref b473)]) (rest := []) (lenOf pd_17 rfl) rfl (by show 2 * 0 + _ ≤ _; exact Nat.le_of_eq rfl) (hb hby at_224) (fun _ _ => ⟨rfl, e477, (by decide : 4 + 0 ≤ _), (by decide : 8 + 0 ≤ _)⟩)
      dsimp only [Pt.U, Pt.locs, Pt.cells, Pt.slots] at X479 l479 y479 z479 st479 hQ479
      subst l479 y479 z479
      obtain ⟨rfl, Nq479, e479⟩ := hQ479
      have N479 := Fr.app N477 Nq479
      refine own_of (U' := (T479.setTop (mkF m 227 #[.val (.int p1), .val (.int p2), .val (.int p3), .val (.int p4), .val (.int p5), .val (.int (1 : Int32)), .val (.int x1), .val (.int x2), .val (.int x3), .val (.int x4), .val (.ref b471), .val (.ref b473), .val (.int (0 : Int32))] [(.int (own_wn 1 [(nar .char x1)]))]))) (st479) ?_
      refine own_iload X479 hx hby at_227 rfl ?_
      have hc229_480 : (own_wn 1 [(nar .char x1)]) = (0 : Int32) := by rw [hn_x1]; simp only [own_wn_cons]; simp [own_wn, hc170_478]
      refine own_icmpNo X479 hx hby at_229 (teq hc229_480).2 ?_
      refine own_iconst X479 hx hby 1 at_232 rfl ?_
      refine own_goto X479 hx hby 233 237 at_233 (by decide) (by decide) ?_
      exact own_retNW X479 hx hlk hS (by rw [e479]; exact hkS) (t := .boolean) Bd.returns (by simp) (hb hby at_237) (by decide) (by decide) (⟨rfl, N479⟩)
    · skip
      refine own_ifNo X477 hx hby at_170 ((if0 _ _).trans (feq hc170_478).1) ?_
      refine own_iload X477 hx hby at_173 rfl ?_
      refine own_iconst X477 hx hby 2 at_175 rfl ?_
      have hc176_481 : (1 : Int32) < (2 : Int32) := by decide
      refine own_icmpYes X477 hx hby 176 187 at_176 (tlt hc176_481).1 (by decide) (by decide) ?_
      refine own_iload X477 hx hby at_187 rfl ?_
      refine own_iconst X477 hx hby 3 at_189 rfl ?_
      have hc190_482 : (1 : Int32) < (3 : Int32) := by decide
      refine own_icmpYes X477 hx hby 190 201 at_190 (tlt hc190_482).1 (by decide) (by decide) ?_
      refine own_iload X477 hx hby at_201 rfl ?_
      refine own_iconst X477 hx hby 4 at_203 rfl ?_
      have hc204_483 : (1 : Int32) < (4 : Int32) := by decide
      refine own_icmpYes X477 hx hby 204 215 at_204 (tlt hc204_483).1 (by decide) (by decide) ?_
      refine own_iconst X477 hx hby 1 at_215 rfl ?_
      refine own_goto X477 hx hby 216 220 at_216 (by decide) (by decide) ?_
      refine own_istore X477 hx hby at_220 (l' := #[.val (.int p1), .val (.int p2), .val (.int p3), .val (.int p4), .val (.int p5), .val (.int (1 : Int32)), .val (.int x1), .val (.int x2), .val (.int x3), .val (.int x4), .val (.ref b471), .val (.ref b473), .val (.int (1 : Int32))]) rfl ?_
      refine own_aload X477 hx hby at_222 rfl rfl ?_
      obtain ⟨_, _, ⟨T484, L484, k484, n484⟩, -, X484, ⟨Lc484, hQ484, l484, y484, z484⟩, st484⟩ := Jvm.LawKit.callS X477 hx (y := mN_21) hown (mvT hZ (own_w hw 29 rfl)) (mvT hZ (own_w hw 30 rfl)) (mvT hZ (own_w hw 31 rfl)) (mvT hZ (own_w hw 32 rfl)) (by decide) (backOf (W := 0) (rmwn1 l Z a0 hw [] b473 (nar .char x1) g1 rS T474.heap n0 Z0 Tq474 (own_char_bd x1) SC hg1 SA SHI SLO SF hrS) hZ (own_w hw 32 rfl) (own_w hw 31 rfl) (by decide) (by decide)) (g := (mkF m 224 #[.val (.int p1), .val (.int p2), .val (.int p3), .val (.int p4), .val (.int p5), .val (.int (1 : Int32)), .val (.int x1), .val (.int x2), .val (.int x3), .val (.int x4), .val (.ref b471), .val (.ref b473), .val (.int (1 : Int32))] [(.ref b473)])) rfl (by rw [hml]; rfl) (argsL := [(.ref b473)]) (rest := []) (lenOf pd_17 rfl) rfl (by show 2 * 0 + _ ≤ _; exact Nat.le_of_eq rfl) (hb hby at_224) (fun _ _ => ⟨rfl, e477, (by decide : 4 + 0 ≤ _), (by decide : 8 + 0 ≤ _)⟩)
      dsimp only [Pt.U, Pt.locs, Pt.cells, Pt.slots] at X484 l484 y484 z484 st484 hQ484
      subst l484 y484 z484
      obtain ⟨rfl, Nq484, e484⟩ := hQ484
      have N484 := Fr.app N477 Nq484
      refine own_of (U' := (T484.setTop (mkF m 227 #[.val (.int p1), .val (.int p2), .val (.int p3), .val (.int p4), .val (.int p5), .val (.int (1 : Int32)), .val (.int x1), .val (.int x2), .val (.int x3), .val (.int x4), .val (.ref b471), .val (.ref b473), .val (.int (1 : Int32))] [(.int (own_wn 1 [(nar .char x1)]))]))) (st484) ?_
      refine own_iload X484 hx hby at_227 rfl ?_
      have hc229_485 : (own_wn 1 [(nar .char x1)]) = (1 : Int32) := by rw [hn_x1]; simp only [own_wn_cons]; simp [own_wn, hc170_478]
      refine own_icmpNo X484 hx hby at_229 (teq hc229_485).2 ?_
      refine own_iconst X484 hx hby 1 at_232 rfl ?_
      refine own_goto X484 hx hby 233 237 at_233 (by decide) (by decide) ?_
      exact own_retNW X484 hx hlk hS (by rw [e484]; exact hkS) (t := .boolean) Bd.returns (by simp) (hb hby at_237) (by decide) (by decide) (⟨rfl, N484⟩)
  · skip
    refine own_eq (U' := (T461.setTop (mkF m 35 #[.val (.int p1), .val (.int p2), .val (.int p3), .val (.int p4), .val (.int p5), .val (.int (2 : Int32)), .val (.int x1), .val (.int x2), .val (.int x3), .val (.int x4), .unset, .unset, .unset] [(.int (2 : Int32))]))) (by rw [hln, hv]) ?_
    have hc35_486 : ¬ ((2 : Int32) = (0 : Int32)) := by decide
    refine own_ifYes X461 hx hby 35 46 at_35 ((if0 _ _).trans (feq hc35_486).2) (by decide) (by decide) ?_
    refine own_iload X461 hx hby at_46 rfl ?_
    refine own_iconst X461 hx hby 1 at_48 rfl ?_
    have hc49_487 : ¬ ((2 : Int32) = (1 : Int32)) := by decide
    refine own_icmpYes X461 hx hby 49 65 at_49 (feq hc49_487).2 (by decide) (by decide) ?_
    refine own_iload X461 hx hby at_65 rfl ?_
    refine own_iconst X461 hx hby 2 at_67 rfl ?_
    have hc68_488 : (2 : Int32) = (2 : Int32) := by decide
    refine own_icmpNo X461 hx hby at_68 (teq hc68_488).2 ?_
    refine own_iconst X461 hx hby 2 at_71 rfl ?_
    obtain ⟨T489, h489, k489, X489, e489, E489, A489, st489⟩ := newP X461 hx hZ (own_w hw 7 rfl) e461 (g := (mkF m 72 #[.val (.int p1), .val (.int p2), .val (.int p3), .val (.int p4), .val (.int p5), .val (.int (2 : Int32)), .val (.int x1), .val (.int x2), .val (.int x3), .val (.int x4), .unset, .unset, .unset] [(.int (2 : Int32))])) rfl (hb hby at_72) rfl (by decide) (cap := 2) (by decide) (by decide) (by decide) (by decide)
    obtain ⟨b489, gz489⟩ : ∃ z, z = h0.size := ⟨_, rfl⟩
    rw [← gz489] at A489 st489
    have g_b489 : n0 ≤ b489 := Nat.le_trans Z0 (Nat.le_of_eq gz489.symm)
    replace Z0 := Nat.le_trans Z0 E489.1
    replace SC := SC.ext E489
    replace SA := SA.ext E489
    replace SHI := SHI.ext E489
    replace SLO := SLO.ext E489
    replace SF := SF.ext E489
    replace hkS := Nat.le_trans hkS E489.1
    replace HH := HH.ext E489
    have V489 : Arv Z h489 b489 k489 .char (2 : Int32) [(.int (0 : Int32)), (.int (0 : Int32))] (.int (0 : Int32)) := (Arv.new A489 (by decide)).pad (pad_rep [] (.int (0 : Int32)) 2)
    refine own_of (U' := (T489.setTop (mkF m 74 #[.val (.int p1), .val (.int p2), .val (.int p3), .val (.int p4), .val (.int p5), .val (.int (2 : Int32)), .val (.int x1), .val (.int x2), .val (.int x3), .val (.int x4), .unset, .unset, .unset] [(.ref b489)]))) (st489) ?_
    refine own_dup X489 hx hby at_74 rfl ?_
    refine own_iconst X489 hx hby 0 at_75 rfl ?_
    refine own_iload X489 hx hby at_76 rfl ?_
    obtain ⟨cl490, Ar490, qa490, Sa490, Na490, Ha490, Ga490⟩ := V489
    have hin490 : ¬ ((0 : Int32) < 0 ∨ cl490.slots.size ≤ ((0 : Int32)).toNatClampNeg) := inb_of Sa490 ⟨by decide, by decide⟩
    obtain ⟨T490, h490, X490, e490, W490, st490⟩ := stC X489 hx hZ e489 Ar490 (j := (0 : Int32)) hin490 (g := (mkF m 78 #[.val (.int p1), .val (.int p2), .val (.int p3), .val (.int p4), .val (.int p5), .val (.int (2 : Int32)), .val (.int x1), .val (.int x2), .val (.int x3), .val (.int x4), .unset, .unset, .unset] [(.int x1), (.int (0 : Int32)), (.ref b489), (.ref b489)])) rfl rfl (hb hby at_78)
    replace V489 : Arv Z h490 b489 k489 .char (2 : Int32) [(.int (nar .char x1)), (.int (0 : Int32))] (.int (0 : Int32)) := Arv.set Ar490 qa490 Sa490 Na490 Ha490 Ga490 (fits_nar_char _) W490 0 rfl (Nat.le_of_ble_eq_true rfl)
    replace Z0 := Nat.le_trans Z0 (Keep.of_wr W490).1
    replace SC := SC.wr W490
    replace SA := SA.wr W490
    replace SHI := SHI.wr W490
    replace SLO := SLO.wr W490
    replace SF := SF.wr W490
    replace hkS := Nat.le_trans hkS (Keep.of_wr W490).1
    have N490 := Fr.snoc X490 N461 g_b489
    refine own_of (U' := (T490.setTop (mkF m 79 #[.val (.int p1), .val (.int p2), .val (.int p3), .val (.int p4), .val (.int p5), .val (.int (2 : Int32)), .val (.int x1), .val (.int x2), .val (.int x3), .val (.int x4), .unset, .unset, .unset] [(.ref b489)]))) (st490) ?_
    refine own_dup X490 hx hby at_79 rfl ?_
    refine own_iconst X490 hx hby 1 at_80 rfl ?_
    refine own_iload X490 hx hby at_81 rfl ?_
    obtain ⟨cl491, Ar491, qa491, Sa491, Na491, Ha491, Ga491⟩ := V489
    have hin491 : ¬ ((1 : Int32) < 0 ∨ cl491.slots.size ≤ ((1 : Int32)).toNatClampNeg) := inb_of Sa491 ⟨by decide, by decide⟩
    obtain ⟨T491, h491, X491, e491, W491, st491⟩ := stC X490 hx hZ e490 Ar491 (j := (1 : Int32)) hin491 (g := (mkF m 83 #[.val (.int p1), .val (.int p2), .val (.int p3), .val (.int p4), .val (.int p5), .val (.int (2 : Int32)), .val (.int x1), .val (.int x2), .val (.int x3), .val (.int x4), .unset, .unset, .unset] [(.int x2), (.int (1 : Int32)), (.ref b489), (.ref b489)])) rfl rfl (hb hby at_83)
    replace V489 : Arv Z h491 b489 k489 .char (2 : Int32) [(.int (nar .char x1)), (.int (nar .char x2))] (.int (0 : Int32)) := Arv.set Ar491 qa491 Sa491 Na491 Ha491 Ga491 (fits_nar_char _) W491 1 rfl (Nat.le_of_ble_eq_true rfl)
    replace Z0 := Nat.le_trans Z0 (Keep.of_wr W491).1
    replace SC := SC.wr W491
    replace SA := SA.wr W491
    replace SHI := SHI.wr W491
    replace SLO := SLO.wr W491
    replace SF := SF.wr W491
    replace hkS := Nat.le_trans hkS (Keep.of_wr W491).1
    have N491 := Fr.snoc X491 N490 g_b489
    refine own_of (U' := (T491.setTop (mkF m 84 #[.val (.int p1), .val (.int p2), .val (.int p3), .val (.int p4), .val (.int p5), .val (.int (2 : Int32)), .val (.int x1), .val (.int x2), .val (.int x3), .val (.int x4), .unset, .unset, .unset] [(.ref b489)]))) (st491) ?_
    refine own_astore X491 hx hby at_84 rfl (l' := #[.val (.int p1), .val (.int p2), .val (.int p3), .val (.int p4), .val (.int p5), .val (.int (2 : Int32)), .val (.int x1), .val (.int x2), .val (.int x3), .val (.int x4), .val (.ref b489), .unset, .unset]) rfl ?_
    refine own_goto X491 hx hby 86 143 at_86 (by decide) (by decide) ?_
    obtain ⟨T492, h492, X492, e492, E492, A492, D492, -, st492⟩ := newO X491 hx hZ hown (own_w hw 8 rfl) (own_w hw 9 rfl) (own_w hw 10 rfl) e491 (g := (mkF m 143 #[.val (.int p1), .val (.int p2), .val (.int p3), .val (.int p4), .val (.int p5), .val (.int (2 : Int32)), .val (.int x1), .val (.int x2), .val (.int x3), .val (.int x4), .val (.ref b489), .unset, .unset] [])) rfl (hb hby at_143) (by decide) (by decide)
    obtain ⟨b492, gz492⟩ : ∃ z, z = h491.size := ⟨_, rfl⟩
    rw [← gz492] at A492 D492 st492
    have g_b492 : n0 ≤ b492 := Nat.le_trans Z0 (Nat.le_of_eq gz492.symm)
    have ne_b489_b492 : b489 ≠ b492 := Nat.ne_of_lt (Nat.lt_of_lt_of_le V489.lt (Nat.le_of_eq gz492.symm))
    replace Z0 := Nat.le_trans Z0 E492.1
    replace SC := SC.ext E492
    replace SA := SA.ext E492
    replace SHI := SHI.ext E492
    replace SLO := SLO.ext E492
    replace SF := SF.ext E492
    replace hkS := Nat.le_trans hkS E492.1
    replace V489 := V489.ext E492
    have F492_value : Fld Z h492 b492 "java/lang/String" "value" "[B" .null := D492 (Or.inr (own_w hw 23 rfl)) (ty := (.array .byte)) (by decide)
    have F492_coder : Fld Z h492 b492 "java/lang/String" "coder" "B" (.int (0 : Int32)) := D492 (Or.inr (own_w hw 24 rfl)) (ty := .byte) (by decide)
    refine own_of (U' := (T492.setTop (mkF m 146 #[.val (.int p1), .val (.int p2), .val (.int p3), .val (.int p4), .val (.int p5), .val (.int (2 : Int32)), .val (.int x1), .val (.int x2), .val (.int x3), .val (.int x4), .val (.ref b489), .unset, .unset] [(.ref b492)]))) (st492) ?_
    refine own_dup X492 hx hby at_146 rfl ?_
    refine own_aload X492 hx hby at_147 rfl rfl ?_
    obtain ⟨_, _, ⟨T493, L493, k493, n493⟩, -, X493, ⟨Lc493, hQ493, l493, y493, z493⟩, st493⟩ := X492.specialBack hx (y := mN_20) rfl hown (mvT hZ (own_w hw 11 rfl)) (mvT hZ (own_w hw 12 rfl)) (mvT hZ (own_w hw 13 rfl)) (by decide) (backOf (W := 1) (rmsi2 l Z a0 hw [] b492 b489 k489 (nar .char x1) (nar .char x2) g1 h492 n0 Z0 A492 F492_coder F492_value V489 g_b492 (own_char_bd x1) (own_char_bd x2) SC hg1 SA SHI SLO) hZ (own_w hw 13 rfl) (own_w hw 10 rfl) (by decide) (by decide)) (g := (mkF m 149 #[.val (.int p1), .val (.int p2), .val (.int p3), .val (.int p4), .val (.int p5), .val (.int (2 : Int32)), .val (.int x1), .val (.int x2), .val (.int x3), .val (.int x4), .val (.ref b489), .unset, .unset] [(.ref b489), (.ref b492), (.ref b492)])) rfl (by rw [hml]; rfl) (Steps.refl _) (a := b492) (argsL := [(.ref b489)]) (rest := [(.ref b492)]) (lenOf pd_16 rfl) rfl (by show 2 * 0 + _ ≤ _; exact Nat.le_of_eq rfl) (hb hby at_149) (fun _ _ => ⟨rfl, e492, (by decide : 2 + 2 ≤ _), (by decide : 6 + 6 ≤ _)⟩)
    dsimp only [Pt.U, Pt.locs, Pt.cells, Pt.slots] at X493 l493 y493 z493 st493 hQ493
    subst l493 y493 z493
    obtain ⟨rfl, Nq493, Kp493, Tq493⟩ := hQ493
    have N493 := Fr.app N491 Nq493
    have nst_b492 := A492.nostat
    replace Z0 := Nat.le_trans Z0 Kp493.1
    replace SC := own_staKeep SC Kp493 (nsS nst_b492 ns0)
    replace SA := own_staKeep SA Kp493 (nsS nst_b492 ns0)
    replace SHI := own_staKeep SHI Kp493 (nsS nst_b492 ns0)
    replace SLO := own_staKeep SLO Kp493 (nsS nst_b492 ns0)
    replace SF := own_staKeep SF Kp493 (nsS nst_b492 ns0)
    replace hkS := Nat.le_trans hkS Kp493.1
    replace V489 := V489.keep Kp493 (ninS ne_b489_b492 nin0)
    replace A492 := A492.keep Kp493
    refine own_of (U' := (T493.setTop (mkF m 152 #[.val (.int p1), .val (.int p2), .val (.int p3), .val (.int p4), .val (.int p5), .val (.int (2 : Int32)), .val (.int x1), .val (.int x2), .val (.int x3), .val (.int x4), .val (.ref b489), .unset, .unset] [(.ref b492)]))) (fun _ k => st493.trans k) ?_
    refine own_astore X493 hx hby at_152 rfl (l' := #[.val (.int p1), .val (.int p2), .val (.int p3), .val (.int p4), .val (.int p5), .val (.int (2 : Int32)), .val (.int x1), .val (.int x2), .val (.int x3), .val (.int x4), .val (.ref b489), .val (.ref b492), .unset]) rfl ?_
    refine own_iload X493 hx hby at_154 rfl ?_
    have hc156_494 : (0 : Int32) < (2 : Int32) := by decide
    refine own_ifNo X493 hx hby at_156 ((if0 _ _).trans (tlt hc156_494).2.2.2) ?_
    refine own_iload X493 hx hby at_159 rfl ?_
    refine own_iconst X493 hx hby 1 at_161 rfl ?_
    have hc162_495 : ¬ ((2 : Int32) < (1 : Int32)) := by decide
    refine own_icmpNo X493 hx hby at_162 (flt hc162_495).1 ?_
    refine own_iload X493 hx hby at_165 rfl ?_
    obtain ⟨_, _, ⟨T496, L496, k496, n496⟩, -, X496, ⟨Lc496, hQ496, l496, y496, z496⟩, st496⟩ := Jvm.LawKit.callS X493 hx (y := mN_22) hown (mvT hZ (own_w hw 59 rfl)) (mvT hZ (own_w hw 60 rfl)) (mvT hZ (own_w hw 3 rfl)) (mvT hZ (own_w hw 61 rfl)) (by decide) (backOf (W := 0) (rmdg l Z a0 hw [] x1 T493.heap n0 Z0 ) hZ (own_w hw 61 rfl) (own_w hw 3 rfl) (by decide) (by decide)) (g := (mkF m 167 #[.val (.int p1), .val (.int p2), .val (.int p3), .val (.int p4), .val (.int p5), .val (.int (2 : Int32)), .val (.int x1), .val (.int x2), .val (.int x3), .val (.int x4), .val (.ref b489), .val (.ref b492), .unset] [(.int x1)])) rfl (by rw [hml]; rfl) (argsL := [(.int x1)]) (rest := []) (lenOf pd_18 rfl) rfl (by show 2 * 0 + _ ≤ _; exact Nat.le_of_eq rfl) (hb hby at_167) (fun _ _ => ⟨rfl, rfl, (by decide : 4 + 0 ≤ _), (by decide : 12 + 0 ≤ _)⟩)
    dsimp only [Pt.U, Pt.locs, Pt.cells, Pt.slots] at X496 l496 y496 z496 st496 hQ496
    subst l496 y496 z496
    obtain ⟨rfl, Nq496, e496⟩ := hQ496
    have N496 := Fr.app N493 Nq496
    refine own_of (U' := (T496.setTop (mkF m 170 #[.val (.int p1), .val (.int p2), .val (.int p3), .val (.int p4), .val (.int p5), .val (.int (2 : Int32)), .val (.int x1), .val (.int x2), .val (.int x3), .val (.int x4), .val (.ref b489), .val (.ref b492), .unset] [(.int (own_dg x1))]))) (st496) ?_
    by_cases hc170_497 : (own_dg x1) = (0 : Int32)
    · skip
      refine own_ifYes X496 hx hby 170 219 at_170 ((if0 _ _).trans (teq hc170_497).1) (by decide) (by decide) ?_
      refine own_iconst X496 hx hby 0 at_219 rfl ?_
      refine own_istore X496 hx hby at_220 (l' := #[.val (.int p1), .val (.int p2), .val (.int p3), .val (.int p4), .val (.int p5), .val (.int (2 : Int32)), .val (.int x1), .val (.int x2), .val (.int x3), .val (.int x4), .val (.ref b489), .val (.ref b492), .val (.int (0 : Int32))]) rfl ?_
      refine own_aload X496 hx hby at_222 rfl rfl ?_
      obtain ⟨_, _, ⟨T498, L498, k498, n498⟩, -, X498, ⟨Lc498, hQ498, l498, y498, z498⟩, st498⟩ := Jvm.LawKit.callS X496 hx (y := mN_21) hown (mvT hZ (own_w hw 29 rfl)) (mvT hZ (own_w hw 30 rfl)) (mvT hZ (own_w hw 31 rfl)) (mvT hZ (own_w hw 32 rfl)) (by decide) (backOf (W := 0) (rmwn2 l Z a0 hw [] b492 (nar .char x1) (nar .char x2) g1 rS T493.heap n0 Z0 Tq493 (own_char_bd x1) (own_char_bd x2) SC hg1 SA SHI SLO SF hrS) hZ (own_w hw 32 rfl) (own_w hw 31 rfl) (by decide) (by decide)) (g := (mkF m 224 #[.val (.int p1), .val (.int p2), .val (.int p3), .val (.int p4), .val (.int p5), .val (.int (2 : Int32)), .val (.int x1), .val (.int x2), .val (.int x3), .val (.int x4), .val (.ref b489), .val (.ref b492), .val (.int (0 : Int32))] [(.ref b492)])) rfl (by rw [hml]; rfl) (argsL := [(.ref b492)]) (rest := []) (lenOf pd_17 rfl) rfl (by show 2 * 0 + _ ≤ _; exact Nat.le_of_eq rfl) (hb hby at_224) (fun _ _ => ⟨rfl, e496, (by decide : 4 + 0 ≤ _), (by decide : 12 + 0 ≤ _)⟩)
      dsimp only [Pt.U, Pt.locs, Pt.cells, Pt.slots] at X498 l498 y498 z498 st498 hQ498
      subst l498 y498 z498
      obtain ⟨rfl, Nq498, e498⟩ := hQ498
      have N498 := Fr.app N496 Nq498
      refine own_of (U' := (T498.setTop (mkF m 227 #[.val (.int p1), .val (.int p2), .val (.int p3), .val (.int p4), .val (.int p5), .val (.int (2 : Int32)), .val (.int x1), .val (.int x2), .val (.int x3), .val (.int x4), .val (.ref b489), .val (.ref b492), .val (.int (0 : Int32))] [(.int (own_wn 1 [(nar .char x1), (nar .char x2)]))]))) (st498) ?_
      refine own_iload X498 hx hby at_227 rfl ?_
      have hc229_499 : (own_wn 1 [(nar .char x1), (nar .char x2)]) = (0 : Int32) := by rw [hn_x1, hn_x2]; simp only [own_wn_cons]; simp [own_wn, hc170_497]
      refine own_icmpNo X498 hx hby at_229 (teq hc229_499).2 ?_
      refine own_iconst X498 hx hby 1 at_232 rfl ?_
      refine own_goto X498 hx hby 233 237 at_233 (by decide) (by decide) ?_
      exact own_retNW X498 hx hlk hS (by rw [e498]; exact hkS) (t := .boolean) Bd.returns (by simp) (hb hby at_237) (by decide) (by decide) (⟨rfl, N498⟩)
    · skip
      refine own_ifNo X496 hx hby at_170 ((if0 _ _).trans (feq hc170_497).1) ?_
      refine own_iload X496 hx hby at_173 rfl ?_
      refine own_iconst X496 hx hby 2 at_175 rfl ?_
      have hc176_500 : ¬ ((2 : Int32) < (2 : Int32)) := by decide
      refine own_icmpNo X496 hx hby at_176 (flt hc176_500).1 ?_
      refine own_iload X496 hx hby at_179 rfl ?_
      obtain ⟨_, _, ⟨T501, L501, k501, n501⟩, -, X501, ⟨Lc501, hQ501, l501, y501, z501⟩, st501⟩ := Jvm.LawKit.callS X496 hx (y := mN_22) hown (mvT hZ (own_w hw 59 rfl)) (mvT hZ (own_w hw 60 rfl)) (mvT hZ (own_w hw 3 rfl)) (mvT hZ (own_w hw 61 rfl)) (by decide) (backOf (W := 0) (rmdg l Z a0 hw [] x2 T493.heap n0 Z0 ) hZ (own_w hw 61 rfl) (own_w hw 3 rfl) (by decide) (by decide)) (g := (mkF m 181 #[.val (.int p1), .val (.int p2), .val (.int p3), .val (.int p4), .val (.int p5), .val (.int (2 : Int32)), .val (.int x1), .val (.int x2), .val (.int x3), .val (.int x4), .val (.ref b489), .val (.ref b492), .unset] [(.int x2)])) rfl (by rw [hml]; rfl) (argsL := [(.int x2)]) (rest := []) (lenOf pd_18 rfl) rfl (by show 2 * 0 + _ ≤ _; exact Nat.le_of_eq rfl) (hb hby at_181) (fun _ _ => ⟨rfl, e496, (by decide : 4 + 0 ≤ _), (by decide : 12 + 0 ≤ _)⟩)
      dsimp only [Pt.U, Pt.locs, Pt.cells, Pt.slots] at X501 l501 y501 z501 st501 hQ501
      subst l501 y501 z501
      obtain ⟨rfl, Nq501, e501⟩ := hQ501
      have N501 := Fr.app N496 Nq501
      refine own_of (U' := (T501.setTop (mkF m 184 #[.val (.int p1), .val (.int p2), .val (.int p3), .val (.int p4), .val (.int p5), .val (.int (2 : Int32)), .val (.int x1), .val (.int x2), .val (.int x3), .val (.int x4), .val (.ref b489), .val (.ref b492), .unset] [(.int (own_dg x2))]))) (st501) ?_
      by_cases hc184_502 : (own_dg x2) = (0 : Int32)
      · skip
        refine own_ifYes X501 hx hby 184 219 at_184 ((if0 _ _).trans (teq hc184_502).1) (by decide) (by decide) ?_
        refine own_iconst X501 hx hby 0 at_219 rfl ?_
        refine own_istore X501 hx hby at_220 (l' := #[.val (.int p1), .val (.int p2), .val (.int p3), .val (.int p4), .val (.int p5), .val (.int (2 : Int32)), .val (.int x1), .val (.int x2), .val (.int x3), .val (.int x4), .val (.ref b489), .val (.ref b492), .val (.int (0 : Int32))]) rfl ?_
        refine own_aload X501 hx hby at_222 rfl rfl ?_
        obtain ⟨_, _, ⟨T503, L503, k503, n503⟩, -, X503, ⟨Lc503, hQ503, l503, y503, z503⟩, st503⟩ := Jvm.LawKit.callS X501 hx (y := mN_21) hown (mvT hZ (own_w hw 29 rfl)) (mvT hZ (own_w hw 30 rfl)) (mvT hZ (own_w hw 31 rfl)) (mvT hZ (own_w hw 32 rfl)) (by decide) (backOf (W := 0) (rmwn2 l Z a0 hw [] b492 (nar .char x1) (nar .char x2) g1 rS T493.heap n0 Z0 Tq493 (own_char_bd x1) (own_char_bd x2) SC hg1 SA SHI SLO SF hrS) hZ (own_w hw 32 rfl) (own_w hw 31 rfl) (by decide) (by decide)) (g := (mkF m 224 #[.val (.int p1), .val (.int p2), .val (.int p3), .val (.int p4), .val (.int p5), .val (.int (2 : Int32)), .val (.int x1), .val (.int x2), .val (.int x3), .val (.int x4), .val (.ref b489), .val (.ref b492), .val (.int (0 : Int32))] [(.ref b492)])) rfl (by rw [hml]; rfl) (argsL := [(.ref b492)]) (rest := []) (lenOf pd_17 rfl) rfl (by show 2 * 0 + _ ≤ _; exact Nat.le_of_eq rfl) (hb hby at_224) (fun _ _ => ⟨rfl, e501, (by decide : 4 + 0 ≤ _), (by decide : 12 + 0 ≤ _)⟩)
        dsimp only [Pt.U, Pt.locs, Pt.cells, Pt.slots] at X503 l503 y503 z503 st503 hQ503
        subst l503 y503 z503
        obtain ⟨rfl, Nq503, e503⟩ := hQ503
        have N503 := Fr.app N501 Nq503
        refine own_of (U' := (T503.setTop (mkF m 227 #[.val (.int p1), .val (.int p2), .val (.int p3), .val (.int p4), .val (.int p5), .val (.int (2 : Int32)), .val (.int x1), .val (.int x2), .val (.int x3), .val (.int x4), .val (.ref b489), .val (.ref b492), .val (.int (0 : Int32))] [(.int (own_wn 1 [(nar .char x1), (nar .char x2)]))]))) (st503) ?_
        refine own_iload X503 hx hby at_227 rfl ?_
        have hc229_504 : (own_wn 1 [(nar .char x1), (nar .char x2)]) = (0 : Int32) := by rw [hn_x1, hn_x2]; simp only [own_wn_cons]; simp [own_wn, hc170_497, hc184_502]
        refine own_icmpNo X503 hx hby at_229 (teq hc229_504).2 ?_
        refine own_iconst X503 hx hby 1 at_232 rfl ?_
        refine own_goto X503 hx hby 233 237 at_233 (by decide) (by decide) ?_
        exact own_retNW X503 hx hlk hS (by rw [e503]; exact hkS) (t := .boolean) Bd.returns (by simp) (hb hby at_237) (by decide) (by decide) (⟨rfl, N503⟩)
      · skip
        refine own_ifNo X501 hx hby at_184 ((if0 _ _).trans (feq hc184_502).1) ?_
        refine own_iload X501 hx hby at_187 rfl ?_
        refine own_iconst X501 hx hby 3 at_189 rfl ?_
        have hc190_505 : (2 : Int32) < (3 : Int32) := by decide
        refine own_icmpYes X501 hx hby 190 201 at_190 (tlt hc190_505).1 (by decide) (by decide) ?_
        refine own_iload X501 hx hby at_201 rfl ?_
        refine own_iconst X501 hx hby 4 at_203 rfl ?_
        have hc204_506 : (2 : Int32) < (4 : Int32) := by decide
        refine own_icmpYes X501 hx hby 204 215 at_204 (tlt hc204_506).1 (by decide) (by decide) ?_
        refine own_iconst X501 hx hby 1 at_215 rfl ?_
        refine own_goto X501 hx hby 216 220 at_216 (by decide) (by decide) ?_
        refine own_istore X501 hx hby at_220 (l' := #[.val (.int p1), .val (.int p2), .val (.int p3), .val (.int p4), .val (.int p5), .val (.int (2 : Int32)), .val (.int x1), .val (.int x2), .val (.int x3), .val (.int x4), .val (.ref b489), .val (.ref b492), .val (.int (1 : Int32))]) rfl ?_
        refine own_aload X501 hx hby at_222 rfl rfl ?_
        obtain ⟨_, _, ⟨T507, L507, k507, n507⟩, -, X507, ⟨Lc507, hQ507, l507, y507, z507⟩, st507⟩ := Jvm.LawKit.callS X501 hx (y := mN_21) hown (mvT hZ (own_w hw 29 rfl)) (mvT hZ (own_w hw 30 rfl)) (mvT hZ (own_w hw 31 rfl)) (mvT hZ (own_w hw 32 rfl)) (by decide) (backOf (W := 0) (rmwn2 l Z a0 hw [] b492 (nar .char x1) (nar .char x2) g1 rS T493.heap n0 Z0 Tq493 (own_char_bd x1) (own_char_bd x2) SC hg1 SA SHI SLO SF hrS) hZ (own_w hw 32 rfl) (own_w hw 31 rfl) (by decide) (by decide)) (g := (mkF m 224 #[.val (.int p1), .val (.int p2), .val (.int p3), .val (.int p4), .val (.int p5), .val (.int (2 : Int32)), .val (.int x1), .val (.int x2), .val (.int x3), .val (.int x4), .val (.ref b489), .val (.ref b492), .val (.int (1 : Int32))] [(.ref b492)])) rfl (by rw [hml]; rfl) (argsL := [(.ref b492)]) (rest := []) (lenOf pd_17 rfl) rfl (by show 2 * 0 + _ ≤ _; exact Nat.le_of_eq rfl) (hb hby at_224) (fun _ _ => ⟨rfl, e501, (by decide : 4 + 0 ≤ _), (by decide : 12 + 0 ≤ _)⟩)
        dsimp only [Pt.U, Pt.locs, Pt.cells, Pt.slots] at X507 l507 y507 z507 st507 hQ507
        subst l507 y507 z507
        obtain ⟨rfl, Nq507, e507⟩ := hQ507
        have N507 := Fr.app N501 Nq507
        refine own_of (U' := (T507.setTop (mkF m 227 #[.val (.int p1), .val (.int p2), .val (.int p3), .val (.int p4), .val (.int p5), .val (.int (2 : Int32)), .val (.int x1), .val (.int x2), .val (.int x3), .val (.int x4), .val (.ref b489), .val (.ref b492), .val (.int (1 : Int32))] [(.int (own_wn 1 [(nar .char x1), (nar .char x2)]))]))) (st507) ?_
        refine own_iload X507 hx hby at_227 rfl ?_
        have hc229_508 : (own_wn 1 [(nar .char x1), (nar .char x2)]) = (1 : Int32) := by rw [hn_x1, hn_x2]; simp only [own_wn_cons]; simp [own_wn, hc170_497, hc184_502]
        refine own_icmpNo X507 hx hby at_229 (teq hc229_508).2 ?_
        refine own_iconst X507 hx hby 1 at_232 rfl ?_
        refine own_goto X507 hx hby 233 237 at_233 (by decide) (by decide) ?_
        exact own_retNW X507 hx hlk hS (by rw [e507]; exact hkS) (t := .boolean) Bd.returns (by simp) (hb hby at_237) (by decide) (by decide) (⟨rfl, N507⟩)
  · skip
    refine own_eq (U' := (T461.setTop (mkF m 35 #[.val (.int p1), .val (.int p2), .val (.int p3), .val (.int p4), .val (.int p5), .val (.int (3 : Int32)), .val (.int x1), .val (.int x2), .val (.int x3), .val (.int x4), .unset, .unset, .unset] [(.int (3 : Int32))]))) (by rw [hln, hv]) ?_
    have hc35_509 : ¬ ((3 : Int32) = (0 : Int32)) := by decide
    refine own_ifYes X461 hx hby 35 46 at_35 ((if0 _ _).trans (feq hc35_509).2) (by decide) (by decide) ?_
    refine own_iload X461 hx hby at_46 rfl ?_
    refine own_iconst X461 hx hby 1 at_48 rfl ?_
    have hc49_510 : ¬ ((3 : Int32) = (1 : Int32)) := by decide
    refine own_icmpYes X461 hx hby 49 65 at_49 (feq hc49_510).2 (by decide) (by decide) ?_
    refine own_iload X461 hx hby at_65 rfl ?_
    refine own_iconst X461 hx hby 2 at_67 rfl ?_
    have hc68_511 : ¬ ((3 : Int32) = (2 : Int32)) := by decide
    refine own_icmpYes X461 hx hby 68 89 at_68 (feq hc68_511).2 (by decide) (by decide) ?_
    refine own_iload X461 hx hby at_89 rfl ?_
    refine own_iconst X461 hx hby 3 at_91 rfl ?_
    have hc92_512 : (3 : Int32) = (3 : Int32) := by decide
    refine own_icmpNo X461 hx hby at_92 (teq hc92_512).2 ?_
    refine own_iconst X461 hx hby 3 at_95 rfl ?_
    obtain ⟨T513, h513, k513, X513, e513, E513, A513, st513⟩ := newP X461 hx hZ (own_w hw 7 rfl) e461 (g := (mkF m 96 #[.val (.int p1), .val (.int p2), .val (.int p3), .val (.int p4), .val (.int p5), .val (.int (3 : Int32)), .val (.int x1), .val (.int x2), .val (.int x3), .val (.int x4), .unset, .unset, .unset] [(.int (3 : Int32))])) rfl (hb hby at_96) rfl (by decide) (cap := 3) (by decide) (by decide) (by decide) (by decide)
    obtain ⟨b513, gz513⟩ : ∃ z, z = h0.size := ⟨_, rfl⟩
    rw [← gz513] at A513 st513
    have g_b513 : n0 ≤ b513 := Nat.le_trans Z0 (Nat.le_of_eq gz513.symm)
    replace Z0 := Nat.le_trans Z0 E513.1
    replace SC := SC.ext E513
    replace SA := SA.ext E513
    replace SHI := SHI.ext E513
    replace SLO := SLO.ext E513
    replace SF := SF.ext E513
    replace hkS := Nat.le_trans hkS E513.1
    replace HH := HH.ext E513
    have V513 : Arv Z h513 b513 k513 .char (3 : Int32) [(.int (0 : Int32)), (.int (0 : Int32)), (.int (0 : Int32))] (.int (0 : Int32)) := (Arv.new A513 (by decide)).pad (pad_rep [] (.int (0 : Int32)) 3)
    refine own_of (U' := (T513.setTop (mkF m 98 #[.val (.int p1), .val (.int p2), .val (.int p3), .val (.int p4), .val (.int p5), .val (.int (3 : Int32)), .val (.int x1), .val (.int x2), .val (.int x3), .val (.int x4), .unset, .unset, .unset] [(.ref b513)]))) (st513) ?_
    refine own_dup X513 hx hby at_98 rfl ?_
    refine own_iconst X513 hx hby 0 at_99 rfl ?_
    refine own_iload X513 hx hby at_100 rfl ?_
    obtain ⟨cl514, Ar514, qa514, Sa514, Na514, Ha514, Ga514⟩ := V513
    have hin514 : ¬ ((0 : Int32) < 0 ∨ cl514.slots.size ≤ ((0 : Int32)).toNatClampNeg) := inb_of Sa514 ⟨by decide, by decide⟩
    obtain ⟨T514, h514, X514, e514, W514, st514⟩ := stC X513 hx hZ e513 Ar514 (j := (0 : Int32)) hin514 (g := (mkF m 102 #[.val (.int p1), .val (.int p2), .val (.int p3), .val (.int p4), .val (.int p5), .val (.int (3 : Int32)), .val (.int x1), .val (.int x2), .val (.int x3), .val (.int x4), .unset, .unset, .unset] [(.int x1), (.int (0 : Int32)), (.ref b513), (.ref b513)])) rfl rfl (hb hby at_102)
    replace V513 : Arv Z h514 b513 k513 .char (3 : Int32) [(.int (nar .char x1)), (.int (0 : Int32)), (.int (0 : Int32))] (.int (0 : Int32)) := Arv.set Ar514 qa514 Sa514 Na514 Ha514 Ga514 (fits_nar_char _) W514 0 rfl (Nat.le_of_ble_eq_true rfl)
    replace Z0 := Nat.le_trans Z0 (Keep.of_wr W514).1
    replace SC := SC.wr W514
    replace SA := SA.wr W514
    replace SHI := SHI.wr W514
    replace SLO := SLO.wr W514
    replace SF := SF.wr W514
    replace hkS := Nat.le_trans hkS (Keep.of_wr W514).1
    have N514 := Fr.snoc X514 N461 g_b513
    refine own_of (U' := (T514.setTop (mkF m 103 #[.val (.int p1), .val (.int p2), .val (.int p3), .val (.int p4), .val (.int p5), .val (.int (3 : Int32)), .val (.int x1), .val (.int x2), .val (.int x3), .val (.int x4), .unset, .unset, .unset] [(.ref b513)]))) (st514) ?_
    refine own_dup X514 hx hby at_103 rfl ?_
    refine own_iconst X514 hx hby 1 at_104 rfl ?_
    refine own_iload X514 hx hby at_105 rfl ?_
    obtain ⟨cl515, Ar515, qa515, Sa515, Na515, Ha515, Ga515⟩ := V513
    have hin515 : ¬ ((1 : Int32) < 0 ∨ cl515.slots.size ≤ ((1 : Int32)).toNatClampNeg) := inb_of Sa515 ⟨by decide, by decide⟩
    obtain ⟨T515, h515, X515, e515, W515, st515⟩ := stC X514 hx hZ e514 Ar515 (j := (1 : Int32)) hin515 (g := (mkF m 107 #[.val (.int p1), .val (.int p2), .val (.int p3), .val (.int p4), .val (.int p5), .val (.int (3 : Int32)), .val (.int x1), .val (.int x2), .val (.int x3), .val (.int x4), .unset, .unset, .unset] [(.int x2), (.int (1 : Int32)), (.ref b513), (.ref b513)])) rfl rfl (hb hby at_107)
    replace V513 : Arv Z h515 b513 k513 .char (3 : Int32) [(.int (nar .char x1)), (.int (nar .char x2)), (.int (0 : Int32))] (.int (0 : Int32)) := Arv.set Ar515 qa515 Sa515 Na515 Ha515 Ga515 (fits_nar_char _) W515 1 rfl (Nat.le_of_ble_eq_true rfl)
    replace Z0 := Nat.le_trans Z0 (Keep.of_wr W515).1
    replace SC := SC.wr W515
    replace SA := SA.wr W515
    replace SHI := SHI.wr W515
    replace SLO := SLO.wr W515
    replace SF := SF.wr W515
    replace hkS := Nat.le_trans hkS (Keep.of_wr W515).1
    have N515 := Fr.snoc X515 N514 g_b513
    refine own_of (U' := (T515.setTop (mkF m 108 #[.val (.int p1), .val (.int p2), .val (.int p3), .val (.int p4), .val (.int p5), .val (.int (3 : Int32)), .val (.int x1), .val (.int x2), .val (.int x3), .val (.int x4), .unset, .unset, .unset] [(.ref b513)]))) (st515) ?_
    refine own_dup X515 hx hby at_108 rfl ?_
    refine own_iconst X515 hx hby 2 at_109 rfl ?_
    refine own_iload X515 hx hby at_110 rfl ?_
    obtain ⟨cl516, Ar516, qa516, Sa516, Na516, Ha516, Ga516⟩ := V513
    have hin516 : ¬ ((2 : Int32) < 0 ∨ cl516.slots.size ≤ ((2 : Int32)).toNatClampNeg) := inb_of Sa516 ⟨by decide, by decide⟩
    obtain ⟨T516, h516, X516, e516, W516, st516⟩ := stC X515 hx hZ e515 Ar516 (j := (2 : Int32)) hin516 (g := (mkF m 112 #[.val (.int p1), .val (.int p2), .val (.int p3), .val (.int p4), .val (.int p5), .val (.int (3 : Int32)), .val (.int x1), .val (.int x2), .val (.int x3), .val (.int x4), .unset, .unset, .unset] [(.int x3), (.int (2 : Int32)), (.ref b513), (.ref b513)])) rfl rfl (hb hby at_112)
    replace V513 : Arv Z h516 b513 k513 .char (3 : Int32) [(.int (nar .char x1)), (.int (nar .char x2)), (.int (nar .char x3))] (.int (0 : Int32)) := Arv.set Ar516 qa516 Sa516 Na516 Ha516 Ga516 (fits_nar_char _) W516 2 rfl (Nat.le_of_ble_eq_true rfl)
    replace Z0 := Nat.le_trans Z0 (Keep.of_wr W516).1
    replace SC := SC.wr W516
    replace SA := SA.wr W516
    replace SHI := SHI.wr W516
    replace SLO := SLO.wr W516
    replace SF := SF.wr W516
    replace hkS := Nat.le_trans hkS (Keep.of_wr W516).1
    have N516 := Fr.snoc X516 N515 g_b513
    refine own_of (U' := (T516.setTop (mkF m 113 #[.val (.int p1), .val (.int p2), .val (.int p3), .val (.int p4), .val (.int p5), .val (.int (3 : Int32)), .val (.int x1), .val (.int x2), .val (.int x3), .val (.int x4), .unset, .unset, .unset] [(.ref b513)]))) (st516) ?_
    refine own_astore X516 hx hby at_113 rfl (l' := #[.val (.int p1), .val (.int p2), .val (.int p3), .val (.int p4), .val (.int p5), .val (.int (3 : Int32)), .val (.int x1), .val (.int x2), .val (.int x3), .val (.int x4), .val (.ref b513), .unset, .unset]) rfl ?_
    refine own_goto X516 hx hby 115 143 at_115 (by decide) (by decide) ?_
    obtain ⟨T517, h517, X517, e517, E517, A517, D517, -, st517⟩ := newO X516 hx hZ hown (own_w hw 8 rfl) (own_w hw 9 rfl) (own_w hw 10 rfl) e516 (g := (mkF m 143 #[.val (.int p1), .val (.int p2), .val (.int p3), .val (.int p4), .val (.int p5), .val (.int (3 : Int32)), .val (.int x1), .val (.int x2), .val (.int x3), .val (.int x4), .val (.ref b513), .unset, .unset] [])) rfl (hb hby at_143) (by decide) (by decide)
    obtain ⟨b517, gz517⟩ : ∃ z, z = h516.size := ⟨_, rfl⟩
    rw [← gz517] at A517 D517 st517
    have g_b517 : n0 ≤ b517 := Nat.le_trans Z0 (Nat.le_of_eq gz517.symm)
    have ne_b513_b517 : b513 ≠ b517 := Nat.ne_of_lt (Nat.lt_of_lt_of_le V513.lt (Nat.le_of_eq gz517.symm))
    replace Z0 := Nat.le_trans Z0 E517.1
    replace SC := SC.ext E517
    replace SA := SA.ext E517
    replace SHI := SHI.ext E517
    replace SLO := SLO.ext E517
    replace SF := SF.ext E517
    replace hkS := Nat.le_trans hkS E517.1
    replace V513 := V513.ext E517
    have F517_value : Fld Z h517 b517 "java/lang/String" "value" "[B" .null := D517 (Or.inr (own_w hw 23 rfl)) (ty := (.array .byte)) (by decide)
    have F517_coder : Fld Z h517 b517 "java/lang/String" "coder" "B" (.int (0 : Int32)) := D517 (Or.inr (own_w hw 24 rfl)) (ty := .byte) (by decide)
    refine own_of (U' := (T517.setTop (mkF m 146 #[.val (.int p1), .val (.int p2), .val (.int p3), .val (.int p4), .val (.int p5), .val (.int (3 : Int32)), .val (.int x1), .val (.int x2), .val (.int x3), .val (.int x4), .val (.ref b513), .unset, .unset] [(.ref b517)]))) (st517) ?_
    refine own_dup X517 hx hby at_146 rfl ?_
    refine own_aload X517 hx hby at_147 rfl rfl ?_
    obtain ⟨_, _, ⟨T518, L518, k518, n518⟩, -, X518, ⟨Lc518, hQ518, l518, y518, z518⟩, st518⟩ := X517.specialBack hx (y := mN_20) rfl hown (mvT hZ (own_w hw 11 rfl)) (mvT hZ (own_w hw 12 rfl)) (mvT hZ (own_w hw 13 rfl)) (by decide) (backOf (W := 1) (rmsi3 l Z a0 hw [] b517 b513 k513 (nar .char x1) (nar .char x2) (nar .char x3) g1 h517 n0 Z0 A517 F517_coder F517_value V513 g_b517 (own_char_bd x1) (own_char_bd x2) (own_char_bd x3) SC hg1 SA SHI SLO) hZ (own_w hw 13 rfl) (own_w hw 10 rfl) (by decide) (by decide)) (g := (mkF m 149 #[.val (.int p1), .val (.int p2), .val (.int p3), .val (.int p4), .val (.int p5), .val (.int (3 : Int32)), .val (.int x1), .val (.int x2), .val (.int x3), .val (.int x4), .val (.ref b513), .unset, .unset] [(.ref b513), (.ref b517), (.ref b517)])) rfl (by rw [hml]; rfl) (Steps.refl _) (a := b517) (argsL := [(.ref b513)]) (rest := [(.ref b517)]) (lenOf pd_16 rfl) rfl (by show 2 * 0 + _ ≤ _; exact Nat.le_of_eq rfl) (hb hby at_149) (fun _ _ => ⟨rfl, e517, (by decide : 2 + 2 ≤ _), (by decide : 7 + 9 ≤ _)⟩)
    dsimp only [Pt.U, Pt.locs, Pt.cells, Pt.slots] at X518 l518 y518 z518 st518 hQ518
    subst l518 y518 z518
    obtain ⟨rfl, Nq518, Kp518, Tq518⟩ := hQ518
    have N518 := Fr.app N516 Nq518
    have nst_b517 := A517.nostat
    replace Z0 := Nat.le_trans Z0 Kp518.1
    replace SC := own_staKeep SC Kp518 (nsS nst_b517 ns0)
    replace SA := own_staKeep SA Kp518 (nsS nst_b517 ns0)
    replace SHI := own_staKeep SHI Kp518 (nsS nst_b517 ns0)
    replace SLO := own_staKeep SLO Kp518 (nsS nst_b517 ns0)
    replace SF := own_staKeep SF Kp518 (nsS nst_b517 ns0)
    replace hkS := Nat.le_trans hkS Kp518.1
    replace V513 := V513.keep Kp518 (ninS ne_b513_b517 nin0)
    replace A517 := A517.keep Kp518
    refine own_of (U' := (T518.setTop (mkF m 152 #[.val (.int p1), .val (.int p2), .val (.int p3), .val (.int p4), .val (.int p5), .val (.int (3 : Int32)), .val (.int x1), .val (.int x2), .val (.int x3), .val (.int x4), .val (.ref b513), .unset, .unset] [(.ref b517)]))) (fun _ k => st518.trans k) ?_
    refine own_astore X518 hx hby at_152 rfl (l' := #[.val (.int p1), .val (.int p2), .val (.int p3), .val (.int p4), .val (.int p5), .val (.int (3 : Int32)), .val (.int x1), .val (.int x2), .val (.int x3), .val (.int x4), .val (.ref b513), .val (.ref b517), .unset]) rfl ?_
    refine own_iload X518 hx hby at_154 rfl ?_
    have hc156_519 : (0 : Int32) < (3 : Int32) := by decide
    refine own_ifNo X518 hx hby at_156 ((if0 _ _).trans (tlt hc156_519).2.2.2) ?_
    refine own_iload X518 hx hby at_159 rfl ?_
    refine own_iconst X518 hx hby 1 at_161 rfl ?_
    have hc162_520 : ¬ ((3 : Int32) < (1 : Int32)) := by decide
    refine own_icmpNo X518 hx hby at_162 (flt hc162_520).1 ?_
    refine own_iload X518 hx hby at_165 rfl ?_
    obtain ⟨_, _, ⟨T521, L521, k521, n521⟩, -, X521, ⟨Lc521, hQ521, l521, y521, z521⟩, st521⟩ := Jvm.LawKit.callS X518 hx (y := mN_22) hown (mvT hZ (own_w hw 59 rfl)) (mvT hZ (own_w hw 60 rfl)) (mvT hZ (own_w hw 3 rfl)) (mvT hZ (own_w hw 61 rfl)) (by decide) (backOf (W := 0) (rmdg l Z a0 hw [] x1 T518.heap n0 Z0 ) hZ (own_w hw 61 rfl) (own_w hw 3 rfl) (by decide) (by decide)) (g := (mkF m 167 #[.val (.int p1), .val (.int p2), .val (.int p3), .val (.int p4), .val (.int p5), .val (.int (3 : Int32)), .val (.int x1), .val (.int x2), .val (.int x3), .val (.int x4), .val (.ref b513), .val (.ref b517), .unset] [(.int x1)])) rfl (by rw [hml]; rfl) (argsL := [(.int x1)]) (rest := []) (lenOf pd_18 rfl) rfl (by show 2 * 0 + _ ≤ _; exact Nat.le_of_eq rfl) (hb hby at_167) (fun _ _ => ⟨rfl, rfl, (by decide : 4 + 0 ≤ _), (by decide : 16 + 0 ≤ _)⟩)
    dsimp only [Pt.U, Pt.locs, Pt.cells, Pt.slots] at X521 l521 y521 z521 st521 hQ521
    subst l521 y521 z521
    obtain ⟨rfl, Nq521, e521⟩ := hQ521
    have N521 := Fr.app N518 Nq521
    refine own_of (U' := (T521.setTop (mkF m 170 #[.val (.int p1), .val (.int p2), .val (.int p3), .val (.int p4), .val (.int p5), .val (.int (3 : Int32)), .val (.int x1), .val (.int x2), .val (.int x3), .val (.int x4), .val (.ref b513), .val (.ref b517), .unset] [(.int (own_dg x1))]))) (st521) ?_
    by_cases hc170_522 : (own_dg x1) = (0 : Int32)
    · skip
      refine own_ifYes X521 hx hby 170 219 at_170 ((if0 _ _).trans (teq hc170_522).1) (by decide) (by decide) ?_
      refine own_iconst X521 hx hby 0 at_219 rfl ?_
      refine own_istore X521 hx hby at_220 (l' := #[.val (.int p1), .val (.int p2), .val (.int p3), .val (.int p4), .val (.int p5), .val (.int (3 : Int32)), .val (.int x1), .val (.int x2), .val (.int x3), .val (.int x4), .val (.ref b513), .val (.ref b517), .val (.int (0 : Int32))]) rfl ?_
      refine own_aload X521 hx hby at_222 rfl rfl ?_
      obtain ⟨_, _, ⟨T523, L523, k523, n523⟩, -, X523, ⟨Lc523, hQ523, l523, y523, z523⟩, st523⟩ := Jvm.LawKit.callS X521 hx (y := mN_21) hown (mvT hZ (own_w hw 29 rfl)) (mvT hZ (own_w hw 30 rfl)) (mvT hZ (own_w hw 31 rfl)) (mvT hZ (own_w hw 32 rfl)) (by decide) (backOf (W := 0) (rmwn3 l Z a0 hw [] b517 (nar .char x1) (nar .char x2) (nar .char x3) g1 rS T518.heap n0 Z0 Tq518 (own_char_bd x1) (own_char_bd x2) (own_char_bd x3) SC hg1 SA SHI SLO SF hrS) hZ (own_w hw 32 rfl) (own_w hw 31 rfl) (by decide) (by decide)) (g := (mkF m 224 #[.val (.int p1), .val (.int p2), .val (.int p3), .val (.int p4), .val (.int p5), .val (.int (3 : Int32)), .val (.int x1), .val (.int x2), .val (.int x3), .val (.int x4), .val (.ref b513), .val (.ref b517), .val (.int (0 : Int32))] [(.ref b517)])) rfl (by rw [hml]; rfl) (argsL := [(.ref b517)]) (rest := []) (lenOf pd_17 rfl) rfl (by show 2 * 0 + _ ≤ _; exact Nat.le_of_eq rfl) (hb hby at_224) (fun _ _ => ⟨rfl, e521, (by decide : 4 + 0 ≤ _), (by decide : 16 + 0 ≤ _)⟩)
      dsimp only [Pt.U, Pt.locs, Pt.cells, Pt.slots] at X523 l523 y523 z523 st523 hQ523
      subst l523 y523 z523
      obtain ⟨rfl, Nq523, e523⟩ := hQ523
      have N523 := Fr.app N521 Nq523
      refine own_of (U' := (T523.setTop (mkF m 227 #[.val (.int p1), .val (.int p2), .val (.int p3), .val (.int p4), .val (.int p5), .val (.int (3 : Int32)), .val (.int x1), .val (.int x2), .val (.int x3), .val (.int x4), .val (.ref b513), .val (.ref b517), .val (.int (0 : Int32))] [(.int (own_wn 1 [(nar .char x1), (nar .char x2), (nar .char x3)]))]))) (st523) ?_
      refine own_iload X523 hx hby at_227 rfl ?_
      have hc229_524 : (own_wn 1 [(nar .char x1), (nar .char x2), (nar .char x3)]) = (0 : Int32) := by rw [hn_x1, hn_x2, hn_x3]; simp only [own_wn_cons]; simp [own_wn, hc170_522]
      refine own_icmpNo X523 hx hby at_229 (teq hc229_524).2 ?_
      refine own_iconst X523 hx hby 1 at_232 rfl ?_
      refine own_goto X523 hx hby 233 237 at_233 (by decide) (by decide) ?_
      exact own_retNW X523 hx hlk hS (by rw [e523]; exact hkS) (t := .boolean) Bd.returns (by simp) (hb hby at_237) (by decide) (by decide) (⟨rfl, N523⟩)
    · skip
      refine own_ifNo X521 hx hby at_170 ((if0 _ _).trans (feq hc170_522).1) ?_
      refine own_iload X521 hx hby at_173 rfl ?_
      refine own_iconst X521 hx hby 2 at_175 rfl ?_
      have hc176_525 : ¬ ((3 : Int32) < (2 : Int32)) := by decide
      refine own_icmpNo X521 hx hby at_176 (flt hc176_525).1 ?_
      refine own_iload X521 hx hby at_179 rfl ?_
      obtain ⟨_, _, ⟨T526, L526, k526, n526⟩, -, X526, ⟨Lc526, hQ526, l526, y526, z526⟩, st526⟩ := Jvm.LawKit.callS X521 hx (y := mN_22) hown (mvT hZ (own_w hw 59 rfl)) (mvT hZ (own_w hw 60 rfl)) (mvT hZ (own_w hw 3 rfl)) (mvT hZ (own_w hw 61 rfl)) (by decide) (backOf (W := 0) (rmdg l Z a0 hw [] x2 T518.heap n0 Z0 ) hZ (own_w hw 61 rfl) (own_w hw 3 rfl) (by decide) (by decide)) (g := (mkF m 181 #[.val (.int p1), .val (.int p2), .val (.int p3), .val (.int p4), .val (.int p5), .val (.int (3 : Int32)), .val (.int x1), .val (.int x2), .val (.int x3), .val (.int x4), .val (.ref b513), .val (.ref b517), .unset] [(.int x2)])) rfl (by rw [hml]; rfl) (argsL := [(.int x2)]) (rest := []) (lenOf pd_18 rfl) rfl (by show 2 * 0 + _ ≤ _; exact Nat.le_of_eq rfl) (hb hby at_181) (fun _ _ => ⟨rfl, e521, (by decide : 4 + 0 ≤ _), (by decide : 16 + 0 ≤ _)⟩)
      dsimp only [Pt.U, Pt.locs, Pt.cells, Pt.slots] at X526 l526 y526 z526 st526 hQ526
      subst l526 y526 z526
      obtain ⟨rfl, Nq526, e526⟩ := hQ526
      have N526 := Fr.app N521 Nq526
      refine own_of (U' := (T526.setTop (mkF m 184 #[.val (.int p1), .val (.int p2), .val (.int p3), .val (.int p4), .val (.int p5), .val (.int (3 : Int32)), .val (.int x1), .val (.int x2), .val (.int x3), .val (.int x4), .val (.ref b513), .val (.ref b517), .unset] [(.int (own_dg x2))]))) (st526) ?_
      by_cases hc184_527 : (own_dg x2) = (0 : Int32)
      · skip
        refine own_ifYes X526 hx hby 184 219 at_184 ((if0 _ _).trans (teq hc184_527).1) (by decide) (by decide) ?_
        refine own_iconst X526 hx hby 0 at_219 rfl ?_
        refine own_istore X526 hx hby at_220 (l' := #[.val (.int p1), .val (.int p2), .val (.int p3), .val (.int p4), .val (.int p5), .val (.int (3 : Int32)), .val (.int x1), .val (.int x2), .val (.int x3), .val (.int x4), .val (.ref b513), .val (.ref b517), .val (.int (0 : Int32))]) rfl ?_
        refine own_aload X526 hx hby at_222 rfl rfl ?_
        obtain ⟨_, _, ⟨T528, L528, k528, n528⟩, -, X528, ⟨Lc528, hQ528, l528, y528, z528⟩, st528⟩ := Jvm.LawKit.callS X526 hx (y := mN_21) hown (mvT hZ (own_w hw 29 rfl)) (mvT hZ (own_w hw 30 rfl)) (mvT hZ (own_w hw 31 rfl)) (mvT hZ (own_w hw 32 rfl)) (by decide) (backOf (W := 0) (rmwn3 l Z a0 hw [] b517 (nar .char x1) (nar .char x2) (nar .char x3) g1 rS T518.heap n0 Z0 Tq518 (own_char_bd x1) (own_char_bd x2) (own_char_bd x3) SC hg1 SA SHI SLO SF hrS) hZ (own_w hw 32 rfl) (own_w hw 31 rfl) (by decide) (by decide)) (g := (mkF m 224 #[.val (.int p1), .val (.int p2), .val (.int p3), .val (.int p4), .val (.int p5), .val (.int (3 : Int32)), .val (.int x1), .val (.int x2), .val (.int x3), .val (.int x4), .val (.ref b513), .val (.ref b517), .val (.int (0 : Int32))] [(.ref b517)])) rfl (by rw [hml]; rfl) (argsL := [(.ref b517)]) (rest := []) (lenOf pd_17 rfl) rfl (by show 2 * 0 + _ ≤ _; exact Nat.le_of_eq rfl) (hb hby at_224) (fun _ _ => ⟨rfl, e526, (by decide : 4 + 0 ≤ _), (by decide : 16 + 0 ≤ _)⟩)
        dsimp only [Pt.U, Pt.locs, Pt.cells, Pt.slots] at X528 l528 y528 z528 st528 hQ528
        subst l528 y528 z528
        obtain ⟨rfl, Nq528, e528⟩ := hQ528
        have N528 := Fr.app N526 Nq528
        refine own_of (U' := (T528.setTop (mkF m 227 #[.val (.int p1), .val (.int p2), .val (.int p3), .val (.int p4), .val (.int p5), .val (.int (3 : Int32)), .val (.int x1), .val (.int x2), .val (.int x3), .val (.int x4), .val (.ref b513), .val (.ref b517), .val (.int (0 : Int32))] [(.int (own_wn 1 [(nar .char x1), (nar .char x2), (nar .char x3)]))]))) (st528) ?_
        refine own_iload X528 hx hby at_227 rfl ?_
        have hc229_529 : (own_wn 1 [(nar .char x1), (nar .char x2), (nar .char x3)]) = (0 : Int32) := by rw [hn_x1, hn_x2, hn_x3]; simp only [own_wn_cons]; simp [own_wn, hc170_522, hc184_527]
        refine own_icmpNo X528 hx hby at_229 (teq hc229_529).2 ?_
        refine own_iconst X528 hx hby 1 at_232 rfl ?_
        refine own_goto X528 hx hby 233 237 at_233 (by decide) (by decide) ?_
        exact own_retNW X528 hx hlk hS (by rw [e528]; exact hkS) (t := .boolean) Bd.returns (by simp) (hb hby at_237) (by decide) (by decide) (⟨rfl, N528⟩)
      · skip
        refine own_ifNo X526 hx hby at_184 ((if0 _ _).trans (feq hc184_527).1) ?_
        refine own_iload X526 hx hby at_187 rfl ?_
        refine own_iconst X526 hx hby 3 at_189 rfl ?_
        have hc190_530 : ¬ ((3 : Int32) < (3 : Int32)) := by decide
        refine own_icmpNo X526 hx hby at_190 (flt hc190_530).1 ?_
        refine own_iload X526 hx hby at_193 rfl ?_
        obtain ⟨_, _, ⟨T531, L531, k531, n531⟩, -, X531, ⟨Lc531, hQ531, l531, y531, z531⟩, st531⟩ := Jvm.LawKit.callS X526 hx (y := mN_22) hown (mvT hZ (own_w hw 59 rfl)) (mvT hZ (own_w hw 60 rfl)) (mvT hZ (own_w hw 3 rfl)) (mvT hZ (own_w hw 61 rfl)) (by decide) (backOf (W := 0) (rmdg l Z a0 hw [] x3 T518.heap n0 Z0 ) hZ (own_w hw 61 rfl) (own_w hw 3 rfl) (by decide) (by decide)) (g := (mkF m 195 #[.val (.int p1), .val (.int p2), .val (.int p3), .val (.int p4), .val (.int p5), .val (.int (3 : Int32)), .val (.int x1), .val (.int x2), .val (.int x3), .val (.int x4), .val (.ref b513), .val (.ref b517), .unset] [(.int x3)])) rfl (by rw [hml]; rfl) (argsL := [(.int x3)]) (rest := []) (lenOf pd_18 rfl) rfl (by show 2 * 0 + _ ≤ _; exact Nat.le_of_eq rfl) (hb hby at_195) (fun _ _ => ⟨rfl, e526, (by decide : 4 + 0 ≤ _), (by decide : 16 + 0 ≤ _)⟩)
        dsimp only [Pt.U, Pt.locs, Pt.cells, Pt.slots] at X531 l531 y531 z531 st531 hQ531
        subst l531 y531 z531
        obtain ⟨rfl, Nq531, e531⟩ := hQ531
        have N531 := Fr.app N526 Nq531
        refine own_of (U' := (T531.setTop (mkF m 198 #[.val (.int p1), .val (.int p2), .val (.int p3), .val (.int p4), .val (.int p5), .val (.int (3 : Int32)), .val (.int x1), .val (.int x2), .val (.int x3), .val (.int x4), .val (.ref b513), .val (.ref b517), .unset] [(.int (own_dg x3))]))) (st531) ?_
        by_cases hc198_532 : (own_dg x3) = (0 : Int32)
        · skip
          refine own_ifYes X531 hx hby 198 219 at_198 ((if0 _ _).trans (teq hc198_532).1) (by decide) (by decide) ?_
          refine own_iconst X531 hx hby 0 at_219 rfl ?_
          refine own_istore X531 hx hby at_220 (l' := #[.val (.int p1), .val (.int p2), .val (.int p3), .val (.int p4), .val (.int p5), .val (.int (3 : Int32)), .val (.int x1), .val (.int x2), .val (.int x3), .val (.int x4), .val (.ref b513), .val (.ref b517), .val (.int (0 : Int32))]) rfl ?_
          refine own_aload X531 hx hby at_222 rfl rfl ?_
          obtain ⟨_, _, ⟨T533, L533, k533, n533⟩, -, X533, ⟨Lc533, hQ533, l533, y533, z533⟩, st533⟩ := Jvm.LawKit.callS X531 hx (y := mN_21) hown (mvT hZ (own_w hw 29 rfl)) (mvT hZ (own_w hw 30 rfl)) (mvT hZ (own_w hw 31 rfl)) (mvT hZ (own_w hw 32 rfl)) (by decide) (backOf (W := 0) (rmwn3 l Z a0 hw [] b517 (nar .char x1) (nar .char x2) (nar .char x3) g1 rS T518.heap n0 Z0 Tq518 (own_char_bd x1) (own_char_bd x2) (own_char_bd x3) SC hg1 SA SHI SLO SF hrS) hZ (own_w hw 32 rfl) (own_w hw 31 rfl) (by decide) (by decide)) (g := (mkF m 224 #[.val (.int p1), .val (.int p2), .val (.int p3), .val (.int p4), .val (.int p5), .val (.int (3 : Int32)), .val (.int x1), .val (.int x2), .val (.int x3), .val (.int x4), .val (.ref b513), .val (.ref b517), .val (.int (0 : Int32))] [(.ref b517)])) rfl (by rw [hml]; rfl) (argsL := [(.ref b517)]) (rest := []) (lenOf pd_17 rfl) rfl (by show 2 * 0 + _ ≤ _; exact Nat.le_of_eq rfl) (hb hby at_224) (fun _ _ => ⟨rfl, e531, (by decide : 4 + 0 ≤ _), (by decide : 16 + 0 ≤ _)⟩)
          dsimp only [Pt.U, Pt.locs, Pt.cells, Pt.slots] at X533 l533 y533 z533 st533 hQ533
          subst l533 y533 z533
          obtain ⟨rfl, Nq533, e533⟩ := hQ533
          have N533 := Fr.app N531 Nq533
          refine own_of (U' := (T533.setTop (mkF m 227 #[.val (.int p1), .val (.int p2), .val (.int p3), .val (.int p4), .val (.int p5), .val (.int (3 : Int32)), .val (.int x1), .val (.int x2), .val (.int x3), .val (.int x4), .val (.ref b513), .val (.ref b517), .val (.int (0 : Int32))] [(.int (own_wn 1 [(nar .char x1), (nar .char x2), (nar .char x3)]))]))) (st533) ?_
          refine own_iload X533 hx hby at_227 rfl ?_
          have hc229_534 : (own_wn 1 [(nar .char x1), (nar .char x2), (nar .char x3)]) = (0 : Int32) := by rw [hn_x1, hn_x2, hn_x3]; simp only [own_wn_cons]; simp [own_wn, hc170_522, hc184_527, hc198_532]
          refine own_icmpNo X533 hx hby at_229 (teq hc229_534).2 ?_
          refine own_iconst X533 hx hby 1 at_232 rfl ?_
          refine own_goto X533 hx hby 233 237 at_233 (by decide) (by decide) ?_
          exact own_retNW X533 hx hlk hS (by rw [e533]; exact hkS) (t := .boolean) Bd.returns (by simp) (hb hby at_237) (by decide) (by decide) (⟨rfl, N533⟩)
        · skip
          refine own_ifNo X531 hx hby at_198 ((if0 _ _).trans (feq hc198_532).1) ?_
          refine own_iload X531 hx hby at_201 rfl ?_
          refine own_iconst X531 hx hby 4 at_203 rfl ?_
          have hc204_535 : (3 : Int32) < (4 : Int32) := by decide
          refine own_icmpYes X531 hx hby 204 215 at_204 (tlt hc204_535).1 (by decide) (by decide) ?_
          refine own_iconst X531 hx hby 1 at_215 rfl ?_
          refine own_goto X531 hx hby 216 220 at_216 (by decide) (by decide) ?_
          refine own_istore X531 hx hby at_220 (l' := #[.val (.int p1), .val (.int p2), .val (.int p3), .val (.int p4), .val (.int p5), .val (.int (3 : Int32)), .val (.int x1), .val (.int x2), .val (.int x3), .val (.int x4), .val (.ref b513), .val (.ref b517), .val (.int (1 : Int32))]) rfl ?_
          refine own_aload X531 hx hby at_222 rfl rfl ?_
          obtain ⟨_, _, ⟨T536, L536, k536, n536⟩, -, X536, ⟨Lc536, hQ536, l536, y536, z536⟩, st536⟩ := Jvm.LawKit.callS X531 hx (y := mN_21) hown (mvT hZ (own_w hw 29 rfl)) (mvT hZ (own_w hw 30 rfl)) (mvT hZ (own_w hw 31 rfl)) (mvT hZ (own_w hw 32 rfl)) (by decide) (backOf (W := 0) (rmwn3 l Z a0 hw [] b517 (nar .char x1) (nar .char x2) (nar .char x3) g1 rS T518.heap n0 Z0 Tq518 (own_char_bd x1) (own_char_bd x2) (own_char_bd x3) SC hg1 SA SHI SLO SF hrS) hZ (own_w hw 32 rfl) (own_w hw 31 rfl) (by decide) (by decide)) (g := (mkF m 224 #[.val (.int p1), .val (.int p2), .val (.int p3), .val (.int p4), .val (.int p5), .val (.int (3 : Int32)), .val (.int x1), .val (.int x2), .val (.int x3), .val (.int x4), .val (.ref b513), .val (.ref b517), .val (.int (1 : Int32))] [(.ref b517)])) rfl (by rw [hml]; rfl) (argsL := [(.ref b517)]) (rest := []) (lenOf pd_17 rfl) rfl (by show 2 * 0 + _ ≤ _; exact Nat.le_of_eq rfl) (hb hby at_224) (fun _ _ => ⟨rfl, e531, (by decide : 4 + 0 ≤ _), (by decide : 16 + 0 ≤ _)⟩)
          dsimp only [Pt.U, Pt.locs, Pt.cells, Pt.slots] at X536 l536 y536 z536 st536 hQ536
          subst l536 y536 z536
          obtain ⟨rfl, Nq536, e536⟩ := hQ536
          have N536 := Fr.app N531 Nq536
          refine own_of (U' := (T536.setTop (mkF m 227 #[.val (.int p1), .val (.int p2), .val (.int p3), .val (.int p4), .val (.int p5), .val (.int (3 : Int32)), .val (.int x1), .val (.int x2), .val (.int x3), .val (.int x4), .val (.ref b513), .val (.ref b517), .val (.int (1 : Int32))] [(.int (own_wn 1 [(nar .char x1), (nar .char x2), (nar .char x3)]))]))) (st536) ?_
          refine own_iload X536 hx hby at_227 rfl ?_
          have hc229_537 : (own_wn 1 [(nar .char x1), (nar .char x2), (nar .char x3)]) = (1 : Int32) := by rw [hn_x1, hn_x2, hn_x3]; simp only [own_wn_cons]; simp [own_wn, hc170_522, hc184_527, hc198_532]
          refine own_icmpNo X536 hx hby at_229 (teq hc229_537).2 ?_
          refine own_iconst X536 hx hby 1 at_232 rfl ?_
          refine own_goto X536 hx hby 233 237 at_233 (by decide) (by decide) ?_
          exact own_retNW X536 hx hlk hS (by rw [e536]; exact hkS) (t := .boolean) Bd.returns (by simp) (hb hby at_237) (by decide) (by decide) (⟨rfl, N536⟩)
  · skip
    refine own_eq (U' := (T461.setTop (mkF m 35 #[.val (.int p1), .val (.int p2), .val (.int p3), .val (.int p4), .val (.int p5), .val (.int (4 : Int32)), .val (.int x1), .val (.int x2), .val (.int x3), .val (.int x4), .unset, .unset, .unset] [(.int (4 : Int32))]))) (by rw [hln, hv]) ?_
    have hc35_538 : ¬ ((4 : Int32) = (0 : Int32)) := by decide
    refine own_ifYes X461 hx hby 35 46 at_35 ((if0 _ _).trans (feq hc35_538).2) (by decide) (by decide) ?_
    refine own_iload X461 hx hby at_46 rfl ?_
    refine own_iconst X461 hx hby 1 at_48 rfl ?_
    have hc49_539 : ¬ ((4 : Int32) = (1 : Int32)) := by decide
    refine own_icmpYes X461 hx hby 49 65 at_49 (feq hc49_539).2 (by decide) (by decide) ?_
    refine own_iload X461 hx hby at_65 rfl ?_
    refine own_iconst X461 hx hby 2 at_67 rfl ?_
    have hc68_540 : ¬ ((4 : Int32) = (2 : Int32)) := by decide
    refine own_icmpYes X461 hx hby 68 89 at_68 (feq hc68_540).2 (by decide) (by decide) ?_
    refine own_iload X461 hx hby at_89 rfl ?_
    refine own_iconst X461 hx hby 3 at_91 rfl ?_
    have hc92_541 : ¬ ((4 : Int32) = (3 : Int32)) := by decide
    refine own_icmpYes X461 hx hby 92 118 at_92 (feq hc92_541).2 (by decide) (by decide) ?_
    refine own_iconst X461 hx hby 4 at_118 rfl ?_
    obtain ⟨T542, h542, k542, X542, e542, E542, A542, st542⟩ := newP X461 hx hZ (own_w hw 7 rfl) e461 (g := (mkF m 119 #[.val (.int p1), .val (.int p2), .val (.int p3), .val (.int p4), .val (.int p5), .val (.int (4 : Int32)), .val (.int x1), .val (.int x2), .val (.int x3), .val (.int x4), .unset, .unset, .unset] [(.int (4 : Int32))])) rfl (hb hby at_119) rfl (by decide) (cap := 4) (by decide) (by decide) (by decide) (by decide)
    obtain ⟨b542, gz542⟩ : ∃ z, z = h0.size := ⟨_, rfl⟩
    rw [← gz542] at A542 st542
    have g_b542 : n0 ≤ b542 := Nat.le_trans Z0 (Nat.le_of_eq gz542.symm)
    replace Z0 := Nat.le_trans Z0 E542.1
    replace SC := SC.ext E542
    replace SA := SA.ext E542
    replace SHI := SHI.ext E542
    replace SLO := SLO.ext E542
    replace SF := SF.ext E542
    replace hkS := Nat.le_trans hkS E542.1
    replace HH := HH.ext E542
    have V542 : Arv Z h542 b542 k542 .char (4 : Int32) [(.int (0 : Int32)), (.int (0 : Int32)), (.int (0 : Int32)), (.int (0 : Int32))] (.int (0 : Int32)) := (Arv.new A542 (by decide)).pad (pad_rep [] (.int (0 : Int32)) 4)
    refine own_of (U' := (T542.setTop (mkF m 121 #[.val (.int p1), .val (.int p2), .val (.int p3), .val (.int p4), .val (.int p5), .val (.int (4 : Int32)), .val (.int x1), .val (.int x2), .val (.int x3), .val (.int x4), .unset, .unset, .unset] [(.ref b542)]))) (st542) ?_
    refine own_dup X542 hx hby at_121 rfl ?_
    refine own_iconst X542 hx hby 0 at_122 rfl ?_
    refine own_iload X542 hx hby at_123 rfl ?_
    obtain ⟨cl543, Ar543, qa543, Sa543, Na543, Ha543, Ga543⟩ := V542
    have hin543 : ¬ ((0 : Int32) < 0 ∨ cl543.slots.size ≤ ((0 : Int32)).toNatClampNeg) := inb_of Sa543 ⟨by decide, by decide⟩
    obtain ⟨T543, h543, X543, e543, W543, st543⟩ := stC X542 hx hZ e542 Ar543 (j := (0 : Int32)) hin543 (g := (mkF m 125 #[.val (.int p1), .val (.int p2), .val (.int p3), .val (.int p4), .val (.int p5), .val (.int (4 : Int32)), .val (.int x1), .val (.int x2), .val (.int x3), .val (.int x4), .unset, .unset, .unset] [(.int x1), (.int (0 : Int32)), (.ref b542), (.ref b542)])) rfl rfl (hb hby at_125)
    replace V542 : Arv Z h543 b542 k542 .char (4 : Int32) [(.int (nar .char x1)), (.int (0 : Int32)), (.int (0 : Int32)), (.int (0 : Int32))] (.int (0 : Int32)) := Arv.set Ar543 qa543 Sa543 Na543 Ha543 Ga543 (fits_nar_char _) W543 0 rfl (Nat.le_of_ble_eq_true rfl)
    replace Z0 := Nat.le_trans Z0 (Keep.of_wr W543).1
    replace SC := SC.wr W543
    replace SA := SA.wr W543
    replace SHI := SHI.wr W543
    replace SLO := SLO.wr W543
    replace SF := SF.wr W543
    replace hkS := Nat.le_trans hkS (Keep.of_wr W543).1
    have N543 := Fr.snoc X543 N461 g_b542
    refine own_of (U' := (T543.setTop (mkF m 126 #[.val (.int p1), .val (.int p2), .val (.int p3), .val (.int p4), .val (.int p5), .val (.int (4 : Int32)), .val (.int x1), .val (.int x2), .val (.int x3), .val (.int x4), .unset, .unset, .unset] [(.ref b542)]))) (st543) ?_
    refine own_dup X543 hx hby at_126 rfl ?_
    refine own_iconst X543 hx hby 1 at_127 rfl ?_
    refine own_iload X543 hx hby at_128 rfl ?_
    obtain ⟨cl544, Ar544, qa544, Sa544, Na544, Ha544, Ga544⟩ := V542
    have hin544 : ¬ ((1 : Int32) < 0 ∨ cl544.slots.size ≤ ((1 : Int32)).toNatClampNeg) := inb_of Sa544 ⟨by decide, by decide⟩
    obtain ⟨T544, h544, X544, e544, W544, st544⟩ := stC X543 hx hZ e543 Ar544 (j := (1 : Int32)) hin544 (g := (mkF m 130 #[.val (.int p1), .val (.int p2), .val (.int p3), .val (.int p4), .val (.int p5), .val (.int (4 : Int32)), .val (.int x1), .val (.int x2), .val (.int x3), .val (.int x4), .unset, .unset, .unset] [(.int x2), (.int (1 : Int32)), (.ref b542), (.ref b542)])) rfl rfl (hb hby at_130)
    replace V542 : Arv Z h544 b542 k542 .char (4 : Int32) [(.int (nar .char x1)), (.int (nar .char x2)), (.int (0 : Int32)), (.int (0 : Int32))] (.int (0 : Int32)) := Arv.set Ar544 qa544 Sa544 Na544 Ha544 Ga544 (fits_nar_char _) W544 1 rfl (Nat.le_of_ble_eq_true rfl)
    replace Z0 := Nat.le_trans Z0 (Keep.of_wr W544).1
    replace SC := SC.wr W544
    replace SA := SA.wr W544
    replace SHI := SHI.wr W544
    replace SLO := SLO.wr W544
    replace SF := SF.wr W544
    replace hkS := Nat.le_trans hkS (Keep.of_wr W544).1
    have N544 := Fr.snoc X544 N543 g_b542
    refine own_of (U' := (T544.setTop (mkF m 131 #[.val (.int p1), .val (.int p2), .val (.int p3), .val (.int p4), .val (.int p5), .val (.int (4 : Int32)), .val (.int x1), .val (.int x2), .val (.int x3), .val (.int x4), .unset, .unset, .unset] [(.ref b542)]))) (st544) ?_
    refine own_dup X544 hx hby at_131 rfl ?_
    refine own_iconst X544 hx hby 2 at_132 rfl ?_
    refine own_iload X544 hx hby at_133 rfl ?_
    obtain ⟨cl545, Ar545, qa545, Sa545, Na545, Ha545, Ga545⟩ := V542
    have hin545 : ¬ ((2 : Int32) < 0 ∨ cl545.slots.size ≤ ((2 : Int32)).toNatClampNeg) := inb_of Sa545 ⟨by decide, by decide⟩
    obtain ⟨T545, h545, X545, e545, W545, st545⟩ := stC X544 hx hZ e544 Ar545 (j := (2 : Int32)) hin545 (g := (mkF m 135 #[.val (.int p1), .val (.int p2), .val (.int p3), .val (.int p4), .val (.int p5), .val (.int (4 : Int32)), .val (.int x1), .val (.int x2), .val (.int x3), .val (.int x4), .unset, .unset, .unset] [(.int x3), (.int (2 : Int32)), (.ref b542), (.ref b542)])) rfl rfl (hb hby at_135)
    replace V542 : Arv Z h545 b542 k542 .char (4 : Int32) [(.int (nar .char x1)), (.int (nar .char x2)), (.int (nar .char x3)), (.int (0 : Int32))] (.int (0 : Int32)) := Arv.set Ar545 qa545 Sa545 Na545 Ha545 Ga545 (fits_nar_char _) W545 2 rfl (Nat.le_of_ble_eq_true rfl)
    replace Z0 := Nat.le_trans Z0 (Keep.of_wr W545).1
    replace SC := SC.wr W545
    replace SA := SA.wr W545
    replace SHI := SHI.wr W545
    replace SLO := SLO.wr W545
    replace SF := SF.wr W545
    replace hkS := Nat.le_trans hkS (Keep.of_wr W545).1
    have N545 := Fr.snoc X545 N544 g_b542
    refine own_of (U' := (T545.setTop (mkF m 136 #[.val (.int p1), .val (.int p2), .val (.int p3), .val (.int p4), .val (.int p5), .val (.int (4 : Int32)), .val (.int x1), .val (.int x2), .val (.int x3), .val (.int x4), .unset, .unset, .unset] [(.ref b542)]))) (st545) ?_
    refine own_dup X545 hx hby at_136 rfl ?_
    refine own_iconst X545 hx hby 3 at_137 rfl ?_
    refine own_iload X545 hx hby at_138 rfl ?_
    obtain ⟨cl546, Ar546, qa546, Sa546, Na546, Ha546, Ga546⟩ := V542
    have hin546 : ¬ ((3 : Int32) < 0 ∨ cl546.slots.size ≤ ((3 : Int32)).toNatClampNeg) := inb_of Sa546 ⟨by decide, by decide⟩
    obtain ⟨T546, h546, X546, e546, W546, st546⟩ := stC X545 hx hZ e545 Ar546 (j := (3 : Int32)) hin546 (g := (mkF m 140 #[.val (.int p1), .val (.int p2), .val (.int p3), .val (.int p4), .val (.int p5), .val (.int (4 : Int32)), .val (.int x1), .val (.int x2), .val (.int x3), .val (.int x4), .unset, .unset, .unset] [(.int x4), (.int (3 : Int32)), (.ref b542), (.ref b542)])) rfl rfl (hb hby at_140)
    replace V542 : Arv Z h546 b542 k542 .char (4 : Int32) [(.int (nar .char x1)), (.int (nar .char x2)), (.int (nar .char x3)), (.int (nar .char x4))] (.int (0 : Int32)) := Arv.set Ar546 qa546 Sa546 Na546 Ha546 Ga546 (fits_nar_char _) W546 3 rfl (Nat.le_of_ble_eq_true rfl)
    replace Z0 := Nat.le_trans Z0 (Keep.of_wr W546).1
    replace SC := SC.wr W546
    replace SA := SA.wr W546
    replace SHI := SHI.wr W546
    replace SLO := SLO.wr W546
    replace SF := SF.wr W546
    replace hkS := Nat.le_trans hkS (Keep.of_wr W546).1
    have N546 := Fr.snoc X546 N545 g_b542
    refine own_of (U' := (T546.setTop (mkF m 141 #[.val (.int p1), .val (.int p2), .val (.int p3), .val (.int p4), .val (.int p5), .val (.int (4 : Int32)), .val (.int x1), .val (.int x2), .val (.int x3), .val (.int x4), .unset, .unset, .unset] [(.ref b542)]))) (st546) ?_
    refine own_astore X546 hx hby at_141 rfl (l' := #[.val (.int p1), .val (.int p2), .val (.int p3), .val (.int p4), .val (.int p5), .val (.int (4 : Int32)), .val (.int x1), .val (.int x2), .val (.int x3), .val (.int x4), .val (.ref b542), .unset, .unset]) rfl ?_
    obtain ⟨T547, h547, X547, e547, E547, A547, D547, -, st547⟩ := newO X546 hx hZ hown (own_w hw 8 rfl) (own_w hw 9 rfl) (own_w hw 10 rfl) e546 (g := (mkF m 143 #[.val (.int p1), .val (.int p2), .val (.int p3), .val (.int p4), .val (.int p5), .val (.int (4 : Int32)), .val (.int x1), .val (.int x2), .val (.int x3), .val (.int x4), .val (.ref b542), .unset, .unset] [])) rfl (hb hby at_143) (by decide) (by decide)
    obtain ⟨b547, gz547⟩ : ∃ z, z = h546.size := ⟨_, rfl⟩
    rw [← gz547] at A547 D547 st547
    have g_b547 : n0 ≤ b547 := Nat.le_trans Z0 (Nat.le_of_eq gz547.symm)
    have ne_b542_b547 : b542 ≠ b547 := Nat.ne_of_lt (Nat.lt_of_lt_of_le V542.lt (Nat.le_of_eq gz547.symm))
    replace Z0 := Nat.le_trans Z0 E547.1
    replace SC := SC.ext E547
    replace SA := SA.ext E547
    replace SHI := SHI.ext E547
    replace SLO := SLO.ext E547
    replace SF := SF.ext E547
    replace hkS := Nat.le_trans hkS E547.1
    replace V542 := V542.ext E547
    have F547_value : Fld Z h547 b547 "java/lang/String" "value" "[B" .null := D547 (Or.inr (own_w hw 23 rfl)) (ty := (.array .byte)) (by decide)
    have F547_coder : Fld Z h547 b547 "java/lang/String" "coder" "B" (.int (0 : Int32)) := D547 (Or.inr (own_w hw 24 rfl)) (ty := .byte) (by decide)
    refine own_of (U' := (T547.setTop (mkF m 146 #[.val (.int p1), .val (.int p2), .val (.int p3), .val (.int p4), .val (.int p5), .val (.int (4 : Int32)), .val (.int x1), .val (.int x2), .val (.int x3), .val (.int x4), .val (.ref b542), .unset, .unset] [(.ref b547)]))) (st547) ?_
    refine own_dup X547 hx hby at_146 rfl ?_
    refine own_aload X547 hx hby at_147 rfl rfl ?_
    obtain ⟨_, _, ⟨T548, L548, k548, n548⟩, -, X548, ⟨Lc548, hQ548, l548, y548, z548⟩, st548⟩ := X547.specialBack hx (y := mN_20) rfl hown (mvT hZ (own_w hw 11 rfl)) (mvT hZ (own_w hw 12 rfl)) (mvT hZ (own_w hw 13 rfl)) (by decide) (backOf (W := 1) (rmsi4 l Z a0 hw [] b547 b542 k542 (nar .char x1) (nar .char x2) (nar .char x3) (nar .char x4) g1 h547 n0 Z0 A547 F547_coder F547_value V542 g_b547 (own_char_bd x1) (own_char_bd x2) (own_char_bd x3) (own_char_bd x4) SC hg1 SA SHI SLO) hZ (own_w hw 13 rfl) (own_w hw 10 rfl) (by decide) (by decide)) (g := (mkF m 149 #[.val (.int p1), .val (.int p2), .val (.int p3), .val (.int p4), .val (.int p5), .val (.int (4 : Int32)), .val (.int x1), .val (.int x2), .val (.int x3), .val (.int x4), .val (.ref b542), .unset, .unset] [(.ref b542), (.ref b547), (.ref b547)])) rfl (by rw [hml]; rfl) (Steps.refl _) (a := b547) (argsL := [(.ref b542)]) (rest := [(.ref b547)]) (lenOf pd_16 rfl) rfl (by show 2 * 0 + _ ≤ _; exact Nat.le_of_eq rfl) (hb hby at_149) (fun _ _ => ⟨rfl, e547, (by decide : 2 + 2 ≤ _), (by decide : 8 + 12 ≤ _)⟩)
    dsimp only [Pt.U, Pt.locs, Pt.cells, Pt.slots] at X548 l548 y548 z548 st548 hQ548
    subst l548 y548 z548
    obtain ⟨rfl, Nq548, Kp548, Tq548⟩ := hQ548
    have N548 := Fr.app N546 Nq548
    have nst_b547 := A547.nostat
    replace Z0 := Nat.le_trans Z0 Kp548.1
    replace SC := own_staKeep SC Kp548 (nsS nst_b547 ns0)
    replace SA := own_staKeep SA Kp548 (nsS nst_b547 ns0)
    replace SHI := own_staKeep SHI Kp548 (nsS nst_b547 ns0)
    replace SLO := own_staKeep SLO Kp548 (nsS nst_b547 ns0)
    replace SF := own_staKeep SF Kp548 (nsS nst_b547 ns0)
    replace hkS := Nat.le_trans hkS Kp548.1
    replace V542 := V542.keep Kp548 (ninS ne_b542_b547 nin0)
    replace A547 := A547.keep Kp548
    refine own_of (U' := (T548.setTop (mkF m 152 #[.val (.int p1), .val (.int p2), .val (.int p3), .val (.int p4), .val (.int p5), .val (.int (4 : Int32)), .val (.int x1), .val (.int x2), .val (.int x3), .val (.int x4), .val (.ref b542), .unset, .unset] [(.ref b547)]))) (fun _ k => st548.trans k) ?_
    refine own_astore X548 hx hby at_152 rfl (l' := #[.val (.int p1), .val (.int p2), .val (.int p3), .val (.int p4), .val (.int p5), .val (.int (4 : Int32)), .val (.int x1), .val (.int x2), .val (.int x3), .val (.int x4), .val (.ref b542), .val (.ref b547), .unset]) rfl ?_
    refine own_iload X548 hx hby at_154 rfl ?_
    have hc156_549 : (0 : Int32) < (4 : Int32) := by decide
    refine own_ifNo X548 hx hby at_156 ((if0 _ _).trans (tlt hc156_549).2.2.2) ?_
    refine own_iload X548 hx hby at_159 rfl ?_
    refine own_iconst X548 hx hby 1 at_161 rfl ?_
    have hc162_550 : ¬ ((4 : Int32) < (1 : Int32)) := by decide
    refine own_icmpNo X548 hx hby at_162 (flt hc162_550).1 ?_
    refine own_iload X548 hx hby at_165 rfl ?_
    obtain ⟨_, _, ⟨T551, L551, k551, n551⟩, -, X551, ⟨Lc551, hQ551, l551, y551, z551⟩, st551⟩ := Jvm.LawKit.callS X548 hx (y := mN_22) hown (mvT hZ (own_w hw 59 rfl)) (mvT hZ (own_w hw 60 rfl)) (mvT hZ (own_w hw 3 rfl)) (mvT hZ (own_w hw 61 rfl)) (by decide) (backOf (W := 0) (rmdg l Z a0 hw [] x1 T548.heap n0 Z0 ) hZ (own_w hw 61 rfl) (own_w hw 3 rfl) (by decide) (by decide)) (g := (mkF m 167 #[.val (.int p1), .val (.int p2), .val (.int p3), .val (.int p4), .val (.int p5), .val (.int (4 : Int32)), .val (.int x1), .val (.int x2), .val (.int x3), .val (.int x4), .val (.ref b542), .val (.ref b547), .unset] [(.int x1)])) rfl (by rw [hml]; rfl) (argsL := [(.int x1)]) (rest := []) (lenOf pd_18 rfl) rfl (by show 2 * 0 + _ ≤ _; exact Nat.le_of_eq rfl) (hb hby at_167) (fun _ _ => ⟨rfl, rfl, (by decide : 4 + 0 ≤ _), (by decide : 20 + 0 ≤ _)⟩)
    dsimp only [Pt.U, Pt.locs, Pt.cells, Pt.slots] at X551 l551 y551 z551 st551 hQ551
    subst l551 y551 z551
    obtain ⟨rfl, Nq551, e551⟩ := hQ551
    have N551 := Fr.app N548 Nq551
    refine own_of (U' := (T551.setTop (mkF m 170 #[.val (.int p1), .val (.int p2), .val (.int p3), .val (.int p4), .val (.int p5), .val (.int (4 : Int32)), .val (.int x1), .val (.int x2), .val (.int x3), .val (.int x4), .val (.ref b542), .val (.ref b547), .unset] [(.int (own_dg x1))]))) (st551) ?_
    by_cases hc170_552 : (own_dg x1) = (0 : Int32)
    · skip
      refine own_ifYes X551 hx hby 170 219 at_170 ((if0 _ _).trans (teq hc170_552).1) (by decide) (by decide) ?_
      refine own_iconst X551 hx hby 0 at_219 rfl ?_
      refine own_istore X551 hx hby at_220 (l' := #[.val (.int p1), .val (.int p2), .val (.int p3), .val (.int p4), .val (.int p5), .val (.int (4 : Int32)), .val (.int x1), .val (.int x2), .val (.int x3), .val (.int x4), .val (.ref b542), .val (.ref b547), .val (.int (0 : Int32))]) rfl ?_
      refine own_aload X551 hx hby at_222 rfl rfl ?_
      obtain ⟨_, _, ⟨T553, L553, k553, n553⟩, -, X553, ⟨Lc553, hQ553, l553, y553, z553⟩, st553⟩ := Jvm.LawKit.callS X551 hx (y := mN_21) hown (mvT hZ (own_w hw 29 rfl)) (mvT hZ (own_w hw 30 rfl)) (mvT hZ (own_w hw 31 rfl)) (mvT hZ (own_w hw 32 rfl)) (by decide) (backOf (W := 0) (rmwn4 l Z a0 hw [] b547 (nar .char x1) (nar .char x2) (nar .char x3) (nar .char x4) g1 rS T548.heap n0 Z0 Tq548 (own_char_bd x1) (own_char_bd x2) (own_char_bd x3) (own_char_bd x4) SC hg1 SA SHI SLO SF hrS) hZ (own_w hw 32 rfl) (own_w hw 31 rfl) (by decide) (by decide)) (g := (mkF m 224 #[.val (.int p1), .val (.int p2), .val (.int p3), .val (.int p4), .val (.int p5), .val (.int (4 : Int32)), .val (.int x1), .val (.int x2), .val (.int x3), .val (.int x4), .val (.ref b542), .val (.ref b547), .val (.int (0 : Int32))] [(.ref b547)])) rfl (by rw [hml]; rfl) (argsL := [(.ref b547)]) (rest := []) (lenOf pd_17 rfl) rfl (by show 2 * 0 + _ ≤ _; exact Nat.le_of_eq rfl) (hb hby at_224) (fun _ _ => ⟨rfl, e551, (by decide : 4 + 0 ≤ _), (by decide : 20 + 0 ≤ _)⟩)
      dsimp only [Pt.U, Pt.locs, Pt.cells, Pt.slots] at X553 l553 y553 z553 st553 hQ553
      subst l553 y553 z553
      obtain ⟨rfl, Nq553, e553⟩ := hQ553
      have N553 := Fr.app N551 Nq553
      refine own_of (U' := (T553.setTop (mkF m 227 #[.val (.int p1), .val (.int p2), .val (.int p3), .val (.int p4), .val (.int p5), .val (.int (4 : Int32)), .val (.int x1), .val (.int x2), .val (.int x3), .val (.int x4), .val (.ref b542), .val (.ref b547), .val (.int (0 : Int32))] [(.int (own_wn 1 [(nar .char x1), (nar .char x2), (nar .char x3), (nar .char x4)]))]))) (st553) ?_
      refine own_iload X553 hx hby at_227 rfl ?_
      have hc229_554 : (own_wn 1 [(nar .char x1), (nar .char x2), (nar .char x3), (nar .char x4)]) = (0 : Int32) := by rw [hn_x1, hn_x2, hn_x3, hn_x4]; simp only [own_wn_cons]; simp [own_wn, hc170_552]
      refine own_icmpNo X553 hx hby at_229 (teq hc229_554).2 ?_
      refine own_iconst X553 hx hby 1 at_232 rfl ?_
      refine own_goto X553 hx hby 233 237 at_233 (by decide) (by decide) ?_
      exact own_retNW X553 hx hlk hS (by rw [e553]; exact hkS) (t := .boolean) Bd.returns (by simp) (hb hby at_237) (by decide) (by decide) (⟨rfl, N553⟩)
    · skip
      refine own_ifNo X551 hx hby at_170 ((if0 _ _).trans (feq hc170_552).1) ?_
      refine own_iload X551 hx hby at_173 rfl ?_
      refine own_iconst X551 hx hby 2 at_175 rfl ?_
      have hc176_555 : ¬ ((4 : Int32) < (2 : Int32)) := by decide
      refine own_icmpNo X551 hx hby at_176 (flt hc176_555).1 ?_
      refine own_iload X551 hx hby at_179 rfl ?_
      obtain ⟨_, _, ⟨T556, L556, k556, n556⟩, -, X556, ⟨Lc556, hQ556, l556, y556, z556⟩, st556⟩ := Jvm.LawKit.callS X551 hx (y := mN_22) hown (mvT hZ (own_w hw 59 rfl)) (mvT hZ (own_w hw 60 rfl)) (mvT hZ (own_w hw 3 rfl)) (mvT hZ (own_w hw 61 rfl)) (by decide) (backOf (W := 0) (rmdg l Z a0 hw [] x2 T548.heap n0 Z0 ) hZ (own_w hw 61 rfl) (own_w hw 3 rfl) (by decide) (by decide)) (g := (mkF m 181 #[.val (.int p1), .val (.int p2), .val (.int p3), .val (.int p4), .val (.int p5), .val (.int (4 : Int32)), .val (.int x1), .val (.int x2), .val (.int x3), .val (.int x4), .val (.ref b542), .val (.ref b547), .unset] [(.int x2)])) rfl (by rw [hml]; rfl) (argsL := [(.int x2)]) (rest := []) (lenOf pd_18 rfl) rfl (by show 2 * 0 + _ ≤ _; exact Nat.le_of_eq rfl) (hb hby at_181) (fun _ _ => ⟨rfl, e551, (by decide : 4 + 0 ≤ _), (by decide : 20 + 0 ≤ _)⟩)
      dsimp only [Pt.U, Pt.locs, Pt.cells, Pt.slots] at X556 l556 y556 z556 st556 hQ556
      subst l556 y556 z556
      obtain ⟨rfl, Nq556, e556⟩ := hQ556
      have N556 := Fr.app N551 Nq556
      refine own_of (U' := (T556.setTop (mkF m 184 #[.val (.int p1), .val (.int p2), .val (.int p3), .val (.int p4), .val (.int p5), .val (.int (4 : Int32)), .val (.int x1), .val (.int x2), .val (.int x3), .val (.int x4), .val (.ref b542), .val (.ref b547), .unset] [(.int (own_dg x2))]))) (st556) ?_
      by_cases hc184_557 : (own_dg x2) = (0 : Int32)
      · skip
        refine own_ifYes X556 hx hby 184 219 at_184 ((if0 _ _).trans (teq hc184_557).1) (by decide) (by decide) ?_
        refine own_iconst X556 hx hby 0 at_219 rfl ?_
        refine own_istore X556 hx hby at_220 (l' := #[.val (.int p1), .val (.int p2), .val (.int p3), .val (.int p4), .val (.int p5), .val (.int (4 : Int32)), .val (.int x1), .val (.int x2), .val (.int x3), .val (.int x4), .val (.ref b542), .val (.ref b547), .val (.int (0 : Int32))]) rfl ?_
        refine own_aload X556 hx hby at_222 rfl rfl ?_
        obtain ⟨_, _, ⟨T558, L558, k558, n558⟩, -, X558, ⟨Lc558, hQ558, l558, y558, z558⟩, st558⟩ := Jvm.LawKit.callS X556 hx (y := mN_21) hown (mvT hZ (own_w hw 29 rfl)) (mvT hZ (own_w hw 30 rfl)) (mvT hZ (own_w hw 31 rfl)) (mvT hZ (own_w hw 32 rfl)) (by decide) (backOf (W := 0) (rmwn4 l Z a0 hw [] b547 (nar .char x1) (nar .char x2) (nar .char x3) (nar .char x4) g1 rS T548.heap n0 Z0 Tq548 (own_char_bd x1) (own_char_bd x2) (own_char_bd x3) (own_char_bd x4) SC hg1 SA SHI SLO SF hrS) hZ (own_w hw 32 rfl) (own_w hw 31 rfl) (by decide) (by decide)) (g := (mkF m 224 #[.val (.int p1), .val (.int p2), .val (.int p3), .val (.int p4), .val (.int p5), .val (.int (4 : Int32)), .val (.int x1), .val (.int x2), .val (.int x3), .val (.int x4), .val (.ref b542), .val (.ref b547), .val (.int (0 : Int32))] [(.ref b547)])) rfl (by rw [hml]; rfl) (argsL := [(.ref b547)]) (rest := []) (lenOf pd_17 rfl) rfl (by show 2 * 0 + _ ≤ _; exact Nat.le_of_eq rfl) (hb hby at_224) (fun _ _ => ⟨rfl, e556, (by decide : 4 + 0 ≤ _), (by decide : 20 + 0 ≤ _)⟩)
        dsimp only [Pt.U, Pt.locs, Pt.cells, Pt.slots] at X558 l558 y558 z558 st558 hQ558
        subst l558 y558 z558
        obtain ⟨rfl, Nq558, e558⟩ := hQ558
        have N558 := Fr.app N556 Nq558
        refine own_of (U' := (T558.setTop (mkF m 227 #[.val (.int p1), .val (.int p2), .val (.int p3), .val (.int p4), .val (.int p5), .val (.int (4 : Int32)), .val (.int x1), .val (.int x2), .val (.int x3), .val (.int x4), .val (.ref b542), .val (.ref b547), .val (.int (0 : Int32))] [(.int (own_wn 1 [(nar .char x1), (nar .char x2), (nar .char x3), (nar .char x4)]))]))) (st558) ?_
        refine own_iload X558 hx hby at_227 rfl ?_
        have hc229_559 : (own_wn 1 [(nar .char x1), (nar .char x2), (nar .char x3), (nar .char x4)]) = (0 : Int32) := by rw [hn_x1, hn_x2, hn_x3, hn_x4]; simp only [own_wn_cons]; simp [own_wn, hc170_552, hc184_557]
        refine own_icmpNo X558 hx hby at_229 (teq hc229_559).2 ?_
        refine own_iconst X558 hx hby 1 at_232 rfl ?_
        refine own_goto X558 hx hby 233 237 at_233 (by decide) (by decide) ?_
        exact own_retNW X558 hx hlk hS (by rw [e558]; exact hkS) (t := .boolean) Bd.returns (by simp) (hb hby at_237) (by decide) (by decide) (⟨rfl, N558⟩)
      · skip
        refine own_ifNo X556 hx hby at_184 ((if0 _ _).trans (feq hc184_557).1) ?_
        refine own_iload X556 hx hby at_187 rfl ?_
        refine own_iconst X556 hx hby 3 at_189 rfl ?_
        have hc190_560 : ¬ ((4 : Int32) < (3 : Int32)) := by decide
        refine own_icmpNo X556 hx hby at_190 (flt hc190_560).1 ?_
        refine own_iload X556 hx hby at_193 rfl ?_
        obtain ⟨_, _, ⟨T561, L561, k561, n561⟩, -, X561, ⟨Lc561, hQ561, l561, y561, z561⟩, st561⟩ := Jvm.LawKit.callS X556 hx (y := mN_22) hown (mvT hZ (own_w hw 59 rfl)) (mvT hZ (own_w hw 60 rfl)) (mvT hZ (own_w hw 3 rfl)) (mvT hZ (own_w hw 61 rfl)) (by decide) (backOf (W := 0) (rmdg l Z a0 hw [] x3 T548.heap n0 Z0 ) hZ (own_w hw 61 rfl) (own_w hw 3 rfl) (by decide) (by decide)) (g := (mkF m 195 #[.val (.int p1), .val (.int p2), .val (.int p3), .val (.int p4), .val (.int p5), .val (.int (4 : Int32)), .val (.int x1), .val (.int x2), .val (.int x3), .val (.int x4), .val (.ref b542), .val (.ref b547), .unset] [(.int x3)])) rfl (by rw [hml]; rfl) (argsL := [(.int x3)]) (rest := []) (lenOf pd_18 rfl) rfl (by show 2 * 0 + _ ≤ _; exact Nat.le_of_eq rfl) (hb hby at_195) (fun _ _ => ⟨rfl, e556, (by decide : 4 + 0 ≤ _), (by decide : 20 + 0 ≤ _)⟩)
        dsimp only [Pt.U, Pt.locs, Pt.cells, Pt.slots] at X561 l561 y561 z561 st561 hQ561
        subst l561 y561 z561
        obtain ⟨rfl, Nq561, e561⟩ := hQ561
        have N561 := Fr.app N556 Nq561
        refine own_of (U' := (T561.setTop (mkF m 198 #[.val (.int p1), .val (.int p2), .val (.int p3), .val (.int p4), .val (.int p5), .val (.int (4 : Int32)), .val (.int x1), .val (.int x2), .val (.int x3), .val (.int x4), .val (.ref b542), .val (.ref b547), .unset] [(.int (own_dg x3))]))) (st561) ?_
        by_cases hc198_562 : (own_dg x3) = (0 : Int32)
        · skip
          refine own_ifYes X561 hx hby 198 219 at_198 ((if0 _ _).trans (teq hc198_562).1) (by decide) (by decide) ?_
          refine own_iconst X561 hx hby 0 at_219 rfl ?_
          refine own_istore X561 hx hby at_220 (l' := #[.val (.int p1), .val (.int p2), .val (.int p3), .val (.int p4), .val (.int p5), .val (.int (4 : Int32)), .val (.int x1), .val (.int x2), .val (.int x3), .val (.int x4), .val (.ref b542), .val (.ref b547), .val (.int (0 : Int32))]) rfl ?_
          refine own_aload X561 hx hby at_222 rfl rfl ?_
          obtain ⟨_, _, ⟨T563, L563, k563, n563⟩, -, X563, ⟨Lc563, hQ563, l563, y563, z563⟩, st563⟩ := Jvm.LawKit.callS X561 hx (y := mN_21) hown (mvT hZ (own_w hw 29 rfl)) (mvT hZ (own_w hw 30 rfl)) (mvT hZ (own_w hw 31 rfl)) (mvT hZ (own_w hw 32 rfl)) (by decide) (backOf (W := 0) (rmwn4 l Z a0 hw [] b547 (nar .char x1) (nar .char x2) (nar .char x3) (nar .char x4) g1 rS T548.heap n0 Z0 Tq548 (own_char_bd x1) (own_char_bd x2) (own_char_bd x3) (own_char_bd x4) SC hg1 SA SHI SLO SF hrS) hZ (own_w hw 32 rfl) (own_w hw 31 rfl) (by decide) (by decide)) (g := (mkF m 224 #[.val (.int p1), .val (.int p2), .val (.int p3), .val (.int p4), .val (.int p5), .val (.int (4 : Int32)), .val (.int x1), .val (.int x2), .val (.int x3), .val (.int x4), .val (.ref b542), .val (.ref b547), .val (.int (0 : Int32))] [(.ref b547)])) rfl (by rw [hml]; rfl) (argsL := [(.ref b547)]) (rest := []) (lenOf pd_17 rfl) rfl (by show 2 * 0 + _ ≤ _; exact Nat.le_of_eq rfl) (hb hby at_224) (fun _ _ => ⟨rfl, e561, (by decide : 4 + 0 ≤ _), (by decide : 20 + 0 ≤ _)⟩)
          dsimp only [Pt.U, Pt.locs, Pt.cells, Pt.slots] at X563 l563 y563 z563 st563 hQ563
          subst l563 y563 z563
          obtain ⟨rfl, Nq563, e563⟩ := hQ563
          have N563 := Fr.app N561 Nq563
          refine own_of (U' := (T563.setTop (mkF m 227 #[.val (.int p1), .val (.int p2), .val (.int p3), .val (.int p4), .val (.int p5), .val (.int (4 : Int32)), .val (.int x1), .val (.int x2), .val (.int x3), .val (.int x4), .val (.ref b542), .val (.ref b547), .val (.int (0 : Int32))] [(.int (own_wn 1 [(nar .char x1), (nar .char x2), (nar .char x3), (nar .char x4)]))]))) (st563) ?_
          refine own_iload X563 hx hby at_227 rfl ?_
          have hc229_564 : (own_wn 1 [(nar .char x1), (nar .char x2), (nar .char x3), (nar .char x4)]) = (0 : Int32) := by rw [hn_x1, hn_x2, hn_x3, hn_x4]; simp only [own_wn_cons]; simp [own_wn, hc170_552, hc184_557, hc198_562]
          refine own_icmpNo X563 hx hby at_229 (teq hc229_564).2 ?_
          refine own_iconst X563 hx hby 1 at_232 rfl ?_
          refine own_goto X563 hx hby 233 237 at_233 (by decide) (by decide) ?_
          exact own_retNW X563 hx hlk hS (by rw [e563]; exact hkS) (t := .boolean) Bd.returns (by simp) (hb hby at_237) (by decide) (by decide) (⟨rfl, N563⟩)
        · skip
          refine own_ifNo X561 hx hby at_198 ((if0 _ _).trans (feq hc198_562).1) ?_
          refine own_iload X561 hx hby at_201 rfl ?_
          refine own_iconst X561 hx hby 4 at_203 rfl ?_
          have hc204_565 : ¬ ((4 : Int32) < (4 : Int32)) := by decide
          refine own_icmpNo X561 hx hby at_204 (flt hc204_565).1 ?_
          refine own_iload X561 hx hby at_207 rfl ?_
          obtain ⟨_, _, ⟨T566, L566, k566, n566⟩, -, X566, ⟨Lc566, hQ566, l566, y566, z566⟩, st566⟩ := Jvm.LawKit.callS X561 hx (y := mN_22) hown (mvT hZ (own_w hw 59 rfl)) (mvT hZ (own_w hw 60 rfl)) (mvT hZ (own_w hw 3 rfl)) (mvT hZ (own_w hw 61 rfl)) (by decide) (backOf (W := 0) (rmdg l Z a0 hw [] x4 T548.heap n0 Z0 ) hZ (own_w hw 61 rfl) (own_w hw 3 rfl) (by decide) (by decide)) (g := (mkF m 209 #[.val (.int p1), .val (.int p2), .val (.int p3), .val (.int p4), .val (.int p5), .val (.int (4 : Int32)), .val (.int x1), .val (.int x2), .val (.int x3), .val (.int x4), .val (.ref b542), .val (.ref b547), .unset] [(.int x4)])) rfl (by rw [hml]; rfl) (argsL := [(.int x4)]) (rest := []) (lenOf pd_18 rfl) rfl (by show 2 * 0 + _ ≤ _; exact Nat.le_of_eq rfl) (hb hby at_209) (fun _ _ => ⟨rfl, e561, (by decide : 4 + 0 ≤ _), (by decide : 20 + 0 ≤ _)⟩)
          dsimp only [Pt.U, Pt.locs, Pt.cells, Pt.slots] at X566 l566 y566 z566 st566 hQ566
          subst l566 y566 z566
          obtain ⟨rfl, Nq566, e566⟩ := hQ566
          have N566 := Fr.app N561 Nq566
          refine own_of (U' := (T566.setTop (mkF m 212 #[.val (.int p1), .val (.int p2), .val (.int p3), .val (.int p4), .val (.int p5), .val (.int (4 : Int32)), .val (.int x1), .val (.int x2), .val (.int x3), .val (.int x4), .val (.ref b542), .val (.ref b547), .unset] [(.int (own_dg x4))]))) (st566) ?_
          by_cases hc212_567 : (own_dg x4) = (0 : Int32)
          · skip
            refine own_ifYes X566 hx hby 212 219 at_212 ((if0 _ _).trans (teq hc212_567).1) (by decide) (by decide) ?_
            refine own_iconst X566 hx hby 0 at_219 rfl ?_
            refine own_istore X566 hx hby at_220 (l' := #[.val (.int p1), .val (.int p2), .val (.int p3), .val (.int p4), .val (.int p5), .val (.int (4 : Int32)), .val (.int x1), .val (.int x2), .val (.int x3), .val (.int x4), .val (.ref b542), .val (.ref b547), .val (.int (0 : Int32))]) rfl ?_
            refine own_aload X566 hx hby at_222 rfl rfl ?_
            obtain ⟨_, _, ⟨T568, L568, k568, n568⟩, -, X568, ⟨Lc568, hQ568, l568, y568, z568⟩, st568⟩ := Jvm.LawKit.callS X566 hx (y := mN_21) hown (mvT hZ (own_w hw 29 rfl)) (mvT hZ (own_w hw 30 rfl)) (mvT hZ (own_w hw 31 rfl)) (mvT hZ (own_w hw 32 rfl)) (by decide) (backOf (W := 0) (rmwn4 l Z a0 hw [] b547 (nar .char x1) (nar .char x2) (nar .char x3) (nar .char x4) g1 rS T548.heap n0 Z0 Tq548 (own_char_bd x1) (own_char_bd x2) (own_char_bd x3) (own_char_bd x4) SC hg1 SA SHI SLO SF hrS) hZ (own_w hw 32 rfl) (own_w hw 31 rfl) (by decide) (by decide)) (g := (mkF m 224 #[.val (.int p1), .val (.int p2), .val (.int p3), .val (.int p4), .val (.int p5), .val (.int (4 : Int32)), .val (.int x1), .val (.int x2), .val (.int x3), .val (.int x4), .val (.ref b542), .val (.ref b547), .val (.int (0 : Int32))] [(.ref b547)])) rfl (by rw [hml]; rfl) (argsL := [(.ref b547)]) (rest := []) (lenOf pd_17 rfl) rfl (by show 2 * 0 + _ ≤ _; exact Nat.le_of_eq rfl) (hb hby at_224) (fun _ _ => ⟨rfl, e566, (by decide : 4 + 0 ≤ _), (by decide : 20 + 0 ≤ _)⟩)
            dsimp only [Pt.U, Pt.locs, Pt.cells, Pt.slots] at X568 l568 y568 z568 st568 hQ568
            subst l568 y568 z568
            obtain ⟨rfl, Nq568, e568⟩ := hQ568
            have N568 := Fr.app N566 Nq568
            refine own_of (U' := (T568.setTop (mkF m 227 #[.val (.int p1), .val (.int p2), .val (.int p3), .val (.int p4), .val (.int p5), .val (.int (4 : Int32)), .val (.int x1), .val (.int x2), .val (.int x3), .val (.int x4), .val (.ref b542), .val (.ref b547), .val (.int (0 : Int32))] [(.int (own_wn 1 [(nar .char x1), (nar .char x2), (nar .char x3), (nar .char x4)]))]))) (st568) ?_
            refine own_iload X568 hx hby at_227 rfl ?_
            have hc229_569 : (own_wn 1 [(nar .char x1), (nar .char x2), (nar .char x3), (nar .char x4)]) = (0 : Int32) := by rw [hn_x1, hn_x2, hn_x3, hn_x4]; simp only [own_wn_cons]; simp [own_wn, hc170_552, hc184_557, hc198_562, hc212_567]
            refine own_icmpNo X568 hx hby at_229 (teq hc229_569).2 ?_
            refine own_iconst X568 hx hby 1 at_232 rfl ?_
            refine own_goto X568 hx hby 233 237 at_233 (by decide) (by decide) ?_
            exact own_retNW X568 hx hlk hS (by rw [e568]; exact hkS) (t := .boolean) Bd.returns (by simp) (hb hby at_237) (by decide) (by decide) (⟨rfl, N568⟩)
          · skip
            refine own_ifNo X566 hx hby at_212 ((if0 _ _).trans (feq hc212_567).1) ?_
            refine own_iconst X566 hx hby 1 at_215 rfl ?_
            refine own_goto X566 hx hby 216 220 at_216 (by decide) (by decide) ?_
            refine own_istore X566 hx hby at_220 (l' := #[.val (.int p1), .val (.int p2), .val (.int p3), .val (.int p4), .val (.int p5), .val (.int (4 : Int32)), .val (.int x1), .val (.int x2), .val (.int x3), .val (.int x4), .val (.ref b542), .val (.ref b547), .val (.int (1 : Int32))]) rfl ?_
            refine own_aload X566 hx hby at_222 rfl rfl ?_
            obtain ⟨_, _, ⟨T570, L570, k570, n570⟩, -, X570, ⟨Lc570, hQ570, l570, y570, z570⟩, st570⟩ := Jvm.LawKit.callS X566 hx (y := mN_21) hown (mvT hZ (own_w hw 29 rfl)) (mvT hZ (own_w hw 30 rfl)) (mvT hZ (own_w hw 31 rfl)) (mvT hZ (own_w hw 32 rfl)) (by decide) (backOf (W := 0) (rmwn4 l Z a0 hw [] b547 (nar .char x1) (nar .char x2) (nar .char x3) (nar .char x4) g1 rS T548.heap n0 Z0 Tq548 (own_char_bd x1) (own_char_bd x2) (own_char_bd x3) (own_char_bd x4) SC hg1 SA SHI SLO SF hrS) hZ (own_w hw 32 rfl) (own_w hw 31 rfl) (by decide) (by decide)) (g := (mkF m 224 #[.val (.int p1), .val (.int p2), .val (.int p3), .val (.int p4), .val (.int p5), .val (.int (4 : Int32)), .val (.int x1), .val (.int x2), .val (.int x3), .val (.int x4), .val (.ref b542), .val (.ref b547), .val (.int (1 : Int32))] [(.ref b547)])) rfl (by rw [hml]; rfl) (argsL := [(.ref b547)]) (rest := []) (lenOf pd_17 rfl) rfl (by show 2 * 0 + _ ≤ _; exact Nat.le_of_eq rfl) (hb hby at_224) (fun _ _ => ⟨rfl, e566, (by decide : 4 + 0 ≤ _), (by decide : 20 + 0 ≤ _)⟩)
            dsimp only [Pt.U, Pt.locs, Pt.cells, Pt.slots] at X570 l570 y570 z570 st570 hQ570
            subst l570 y570 z570
            obtain ⟨rfl, Nq570, e570⟩ := hQ570
            have N570 := Fr.app N566 Nq570
            refine own_of (U' := (T570.setTop (mkF m 227 #[.val (.int p1), .val (.int p2), .val (.int p3), .val (.int p4), .val (.int p5), .val (.int (4 : Int32)), .val (.int x1), .val (.int x2), .val (.int x3), .val (.int x4), .val (.ref b542), .val (.ref b547), .val (.int (1 : Int32))] [(.int (own_wn 1 [(nar .char x1), (nar .char x2), (nar .char x3), (nar .char x4)]))]))) (st570) ?_
            refine own_iload X570 hx hby at_227 rfl ?_
            have hc229_571 : (own_wn 1 [(nar .char x1), (nar .char x2), (nar .char x3), (nar .char x4)]) = (1 : Int32) := by rw [hn_x1, hn_x2, hn_x3, hn_x4]; simp only [own_wn_cons]; simp [own_wn, hc170_552, hc184_557, hc198_562, hc212_567]
            refine own_icmpNo X570 hx hby at_229 (teq hc229_571).2 ?_
            refine own_iconst X570 hx hby 1 at_232 rfl ?_
            refine own_goto X570 hx hby 233 237 at_233 (by decide) (by decide) ?_
            exact own_retNW X570 hx hlk hS (by rw [e570]; exact hkS) (t := .boolean) Bd.returns (by simp) (hb hby at_237) (by decide) (by decide) (⟨rfl, N570⟩)
set_option maxRecDepth 65536 in
set_option maxHeartbeats 40000000 in
theorem comes_1 {Post : Tables → Env → Array Value → State → Outcome → State → Prop} (hpost : ∀ tb e args s v u, (limb_1_1.after args s (.returned v) u = true ∧ limb_1_2.after args s (.returned v) u = true ∧ True) → ReturnedEndW s (.returned v) u (Jvm.fieldLocs frame_1_writes args s ++ Jvm.arrayLocs frame_1_arrays args s ++ Jvm.staticLocs frame_1_statics s) 24 1152 → Post tb e args s (.returned v) u) :
    ArmFor flags0 classFile x code maxLocals ret World_1 tables_1 room_1 Calls_1 rest_1 Pre_1 Post := by
  intro l hfl _ _ p e ha hc hk s m args below hf hA hF happ hP
  obtain ⟨hcalls, hrest, hpre⟩ := hP
  obtain ⟨-, -, -, hnamed, -, -, -, hat⟩ := (Spec.applies_iff hf).mp happ
  obtain ⟨hg, hn⟩ := and_e (Cond.before_iff.mp (show (Jvm.Cond.and given_1 narrow_1).before args s = true from hpre))
  obtain ⟨hcount, hv0⟩ := and_e hg
  obtain ⟨hi0, hv1⟩ := and_e hv0
  obtain ⟨hi1, hv2⟩ := and_e hv1
  obtain ⟨hi2, hv3⟩ := and_e hv2
  obtain ⟨hi3, hv4⟩ := and_e hv3
  obtain ⟨w0, w1, w2, w3, w4, rfl⟩ : ∃ w0 w1 w2 w3 w4 : Value, args = #[w0, w1, w2, w3, w4] := by
    have hs : args.size = 5 := by simpa [Cond.value, given_1] using hcount
    obtain ⟨L⟩ := args
    match L, hs with
    | [w0, w1, w2, w3, w4], _ => exact ⟨w0, w1, w2, w3, w4, rfl⟩
  have hw := fun d (hd : d ∈ tables_1) => atoms_spec (ws := Jvm.Cond.code x code maxLocals ret :: tables_1) hat d (List.mem_cons_of_mem _ hd)
  have hfit : Fit s := fun {y c} hc i hi => by
    obtain ⟨ha, rfl⟩ := Array.getElem?_eq_some_iff.mp hc
    have q := List.all_eq_true.mp ((Array.all_eq_true_iff_forall_mem.mp hF) _ (Array.getElem_mem ha)) i (List.mem_range.mpr hi)
    simpa [Array.getElem?_eq_getElem hi] using q
  obtain ⟨hsets, hown0⟩ := atoms_of _ (rest_1_c_eq ▸ (show rest_1_c.before _ s = true from hrest))
  have hr0 := Cond.before_iff.mp hown0
  obtain ⟨i0, ei0⟩ := is_v hi0
  obtain rfl : w0 = (.int i0) := Option.some.inj ei0
  obtain ⟨i1, ei1⟩ := is_v hi1
  obtain rfl : w1 = (.int i1) := Option.some.inj ei1
  obtain ⟨i2, ei2⟩ := is_v hi2
  obtain rfl : w2 = (.int i2) := Option.some.inj ei2
  obtain ⟨i3, ei3⟩ := is_v hi3
  obtain rfl : w3 = (.int i3) := Option.some.inj ei3
  obtain ⟨i4, ei4⟩ := is_v hv4
  obtain rfl : w4 = (.int i4) := Option.some.inj ei4
  obtain ⟨g1, eg1⟩ := is_v (Cond.before_iff.mp (hsets _ (List.mem_of_getElem? (i := 1) rfl)))
  have SC : Sta s s.heap "java/lang/String" "COMPACT_STRINGS" "Z" (.int g1) := Sta.start eg1 (Or.inl (hsets _ (List.mem_of_getElem? (i := 0) rfl)))
  have hg1 : ¬ (g1 = (0 : Int32)) := gotF (Cond.eq_ints eg1 (Term.int_eval 0)) (not_v (Cond.before_iff.mp (hsets _ (List.mem_of_getElem? (i := 2) rfl))))
  obtain ⟨rS, erS, hrS⟩ := isR_v (Cond.before_iff.mp (hsets _ (List.mem_of_getElem? (i := 8) rfl)))
  have SF : Sta s s.heap "jdk/internal/util/Preconditions" "SIOOBE_FORMATTER" "Ljava/util/function/BiFunction;" rS := Sta.start erS (Or.inl (hsets _ (List.mem_of_getElem? (i := 7) rfl)))
  have SA : Sta s s.heap "java/lang/StringUTF16" "$assertionsDisabled" "Z" (.int (1 : Int32)) := Sta.start (own_eqk (Cond.before_iff.mp (hsets _ (List.mem_of_getElem? (i := 12) rfl)))) (Or.inl (hsets _ (List.mem_of_getElem? (i := 11) rfl)))
  have SHI : Sta s s.heap "java/lang/StringUTF16" "HI_BYTE_SHIFT" "I" (.int (0 : Int32)) := Sta.start (own_eqk (Cond.before_iff.mp (hsets _ (List.mem_of_getElem? (i := 15) rfl)))) (Or.inl (hsets _ (List.mem_of_getElem? (i := 14) rfl)))
  have SLO : Sta s s.heap "java/lang/StringUTF16" "LO_BYTE_SHIFT" "I" (.int (8 : Int32)) := Sta.start (own_eqk (Cond.before_iff.mp (hsets _ (List.mem_of_getElem? (i := 18) rfl)))) (Or.inl (hsets _ (List.mem_of_getElem? (i := 17) rfl)))
  have hEL : EW s #[.int i0, .int i1, .int i2, .int i3, .int i4] consts_1 := EW.cons (hw _ (List.mem_of_getElem? (i := 21) rfl)) (by decide +kernel) EW.nil
  have HH : CHv s consts_1 s.vm s.heap := CHv.start hEL hcalls.1 (hsets _ (List.mem_of_getElem? (i := 2) rfl)) (hw _ (List.mem_of_getElem? (i := 22) rfl)) (hw _ (List.mem_of_getElem? (i := 9) rfl))
  obtain ⟨n, o, h1, h2, h3, _, L, rfl, ⟨rfl, N⟩, hq⟩ := rm0 l s _ hw tables_1 i0 i1 i2 i3 i4 g1 rS s.heap s.heap.size (Nat.le_refl _) hEL SC hg1 SA SHI SLO SF hrS p e ha hc hk s m _ below hf ((Spec.applies_iff_loose hf).mp happ).1 ⟨rfl, State.Warmed39.refl s, rfl, HH⟩ trivial
  exact ⟨n, _, h1, h2, h3, hpost _ _ _ _ _ _ ⟨Cond.after_iff.mpr rfl, Cond.after_iff.mpr (eq_i res_at (Term.int_eval (1)) rfl), trivial⟩ ⟨hq.1, hq.2.1, hq.2.2.1, (hq.2.2.2.sift fun y hy => Or.inr (N y hy)).mono (by decide) (by decide)⟩⟩
theorem main_1_1 : Claimed_1_1 := comes_1 fun _ _ _ _ _ _ h hF => ⟨h.1, hF⟩
theorem main_1_2 : Claimed_1_2 := comes_1 fun _ _ _ _ _ _ h hF => ⟨h.2.1, hF⟩
end Jvm.Pilot.@@N@@
namespace Jvm.Pilot.@@N@@
open Jvm Jvm.ClassFile Sem Op Lib Jvm.Free Jvm.Stand Jvm.Pilot.@@N@@.Jvm.D
/-! MADE BY PROGRAM (witnessworld.py) out of the Statement's table words and the real class files: 20 classes; the members and pool entries that the words name. The judged class is class 1, her method 1. -/
namespace start1
open Jvm.ClassFile
def u (s : String) : CpInfo := .utf8 (stringToUtf16 s)
/-- a pool by its gaps: so many unusable entries, then the entry; so many at the end -/
def gap : Nat → List CpInfo → List CpInfo
  | 0, r => r
  | n + 1, r => .unusable :: gap n r
def poolList (es : List (Nat × CpInfo)) (last : Nat) : List CpInfo := es.foldr (fun e r => gap e.1 (e.2 :: r)) (gap last [])
def pool (es : List (Nat × CpInfo)) (last : Nat) : Array CpInfo := ⟨poolList es last⟩
def fileOf (pool : Array CpInfo) (this : Nat) (attrs : Array Attribute := #[]) (ms : Array MethodInfo := #[]) (fl : Nat := 33) (sup : Nat := 0) (ifs : Array Nat := #[]) (fds : Array FieldInfo := #[]) : ClassFile where
  minorVersion := 0
  majorVersion := 65
  constantPool := pool
  accessFlags := fl
  thisClass := this
  superClass := sup
  interfaces := ifs
  fields := fds
  methods := ms
  attributes := attrs
def plain (name : String) (sup : Option ClassId) : Class where
  name := name
  kind := .ordinary
  loader := none
  accessFlags := 33
  super := sup
  interfaces := #[]
  cf := none
  fields := #[]
  methods := #[]
  instanceTypes := #[]
  staticTypes := #[]
  resolved := #[]
  callSites := []
  init := .initialized
  statics := none
  mirror := none

def pool0 : Array CpInfo := pool [(5, u "<init>"), (0, u "()V"), (1, .class_ 10), (1, u "java/lang/Object")] 113

def k0c0 : Code := { maxStack := 0, maxLocals := 1, code := object_method_1_code, exceptionTable := #[], attributes := #[] }
def k0m0 : Method := { name := "<init>", desc := "()V", sig := { parameters := [], returnType := none }, accessFlags := 1, code := some k0c0 }
/-- java/lang/Object -/
def k0 : Class := { plain "java/lang/Object" none with
  accessFlags := 33
  interfaces := #[]
  cf := some (fileOf pool0 8 #[] #[{ accessFlags := 1, nameIndex := 5, descriptorIndex := 6, attributes := #[] }] 33 0 #[] #[])
  fields := #[]
  methods := #[k0m0]
  instanceTypes := #[]
  staticTypes := #[]
  resolved := Array.replicate 124 none
  statics := none }

def pool1 : Array CpInfo := pool [(2, .class_ 4), (1, u "java/lang/Object"), (0, u "<init>"), (0, u "()V"), (0, .integer 2147483647), (0, .methodref 9 10), (0, .class_ 11), (0, .nameAndType 12 13), (0, u "com/example/pools_to_qrels/poolstoqrels/CitationIdsIsWholeNumberPinLaw"), (0, u "draw"), (0, u "(I)C"), (0, .class_ 15), (0, u "java/lang/String"), (0, .methodref 14 17), (0, .nameAndType 5 18), (0, u "([C)V"), (0, .methodref 9 20), (0, .nameAndType 21 22), (0, u "digit"), (0, u "(C)Z"), (0, .methodref 24 25), (0, .class_ 26), (0, .nameAndType 27 28), (0, u "com/example/pools_to_qrels/poolstoqrels/CitationIds"), (0, u "isWholeNumber"), (0, u "(Ljava/lang/String;)Z"), (0, .integer 65536), (0, .integer 65535), (2, u "law"), (0, u "(IIIII)Z")] 5

def k1m0 : Method := { name := "<init>", desc := "()V", sig := { parameters := [], returnType := none }, accessFlags := 2, code := none }
def k1c1 : Code := { maxStack := 4, maxLocals := 13, code := code, exceptionTable := #[], attributes := #[] }
def k1m1 : Method := { name := "law", desc := "(IIIII)Z", sig := { parameters := [.int, .int, .int, .int, .int], returnType := some .boolean }, accessFlags := 9, code := some k1c1 }
def k1c2 : Code := { maxStack := 3, maxLocals := 1, code := method_3_code, exceptionTable := #[], attributes := #[] }
def k1m2 : Method := { name := "draw", desc := "(I)C", sig := { parameters := [.int], returnType := some .char }, accessFlags := 10, code := some k1c2 }
def k1c3 : Code := { maxStack := 2, maxLocals := 1, code := method_4_code, exceptionTable := #[], attributes := #[] }
def k1m3 : Method := { name := "digit", desc := "(C)Z", sig := { parameters := [.char], returnType := some .boolean }, accessFlags := 10, code := some k1c3 }
/-- com/example/pools_to_qrels/poolstoqrels/CitationIdsIsWholeNumberPinLaw -/
def k1 : Class := { plain "com/example/pools_to_qrels/poolstoqrels/CitationIdsIsWholeNumberPinLaw" (some 0) with
  accessFlags := 49
  interfaces := #[]
  cf := some (fileOf pool1 9 #[] #[{ accessFlags := 2, nameIndex := 5, descriptorIndex := 6, attributes := #[] }, { accessFlags := 9, nameIndex := 33, descriptorIndex := 34, attributes := #[] }, { accessFlags := 10, nameIndex := 12, descriptorIndex := 13, attributes := #[] }, { accessFlags := 10, nameIndex := 21, descriptorIndex := 22, attributes := #[] }] 49 2 #[] #[])
  fields := #[]
  methods := #[k1m0, k1m1, k1m2, k1m3]
  instanceTypes := #[]
  staticTypes := #[]
  resolved := Array.replicate 40 none
  statics := none }

def pool2 : Array CpInfo := pool [(1, .class_ 2), (0, u "java/io/Serializable"), (0, .class_ 4), (0, u "java/lang/Object")] 2

/-- java/io/Serializable -/
def k2 : Class := { plain "java/io/Serializable" (some 0) with
  accessFlags := 1537
  interfaces := #[]
  cf := some (fileOf pool2 1 #[] #[] 1537 3 #[] #[])
  fields := #[]
  methods := #[]
  instanceTypes := #[]
  staticTypes := #[]
  resolved := Array.replicate 7 none
  statics := none }

def pool3 : Array CpInfo := pool [(1, .class_ 2), (0, u "java/lang/Comparable"), (0, .class_ 4), (0, u "java/lang/Object")] 7

/-- java/lang/Comparable -/
def k3 : Class := { plain "java/lang/Comparable" (some 0) with
  accessFlags := 1537
  interfaces := #[]
  cf := some (fileOf pool3 1 #[] #[] 1537 3 #[] #[])
  fields := #[]
  methods := #[]
  instanceTypes := #[]
  staticTypes := #[]
  resolved := Array.replicate 12 none
  statics := none }

def pool4 : Array CpInfo := pool [(2, .class_ 4), (1, u "java/lang/CharSequence"), (42, .class_ 48), (0, u "java/lang/CharSequence$1CodePointIterator"), (10, .class_ 60), (0, u "java/lang/CharSequence$1CharIterator"), (5, .class_ 67), (0, u "java/lang/Object")] 63

/-- java/lang/CharSequence -/
def k4 : Class := { plain "java/lang/CharSequence" (some 0) with
  accessFlags := 1537
  interfaces := #[]
  cf := some (fileOf pool4 2 #[.nestMembers #[47, 59]] #[] 1537 66 #[] #[])
  fields := #[]
  methods := #[]
  instanceTypes := #[]
  staticTypes := #[]
  resolved := Array.replicate 131 none
  statics := none }

def pool5 : Array CpInfo := pool [(1, .class_ 2), (0, u "java/lang/constant/Constable"), (0, .class_ 4), (0, u "java/lang/Object")] 6

/-- java/lang/constant/Constable -/
def k5 : Class := { plain "java/lang/constant/Constable" (some 0) with
  accessFlags := 1537
  interfaces := #[]
  cf := some (fileOf pool5 1 #[] #[] 1537 3 #[] #[])
  fields := #[]
  methods := #[]
  instanceTypes := #[]
  staticTypes := #[]
  resolved := Array.replicate 11 none
  statics := none }

def pool6 : Array CpInfo := pool [(1, .class_ 2), (0, u "java/lang/constant/ConstantDesc"), (0, .class_ 4), (0, u "java/lang/Object")] 32

/-- java/lang/constant/ConstantDesc -/
def k6 : Class := { plain "java/lang/constant/ConstantDesc" (some 0) with
  accessFlags := 1537
  interfaces := #[]
  cf := some (fileOf pool6 1 #[] #[] 1537 3 #[] #[])
  fields := #[]
  methods := #[]
  instanceTypes := #[]
  staticTypes := #[]
  resolved := Array.replicate 37 none
  statics := none }

def pool7 : Array CpInfo := pool [(1, .methodref 2 3), (0, .class_ 4), (0, .nameAndType 5 6), (0, u "java/lang/Object"), (0, u "<init>"), (0, u "()V"), (0, .string 8), (0, u ""), (0, .fieldref 10 11), (0, .class_ 12), (0, .nameAndType 13 14), (0, u "java/lang/String"), (0, u "value"), (0, u "[B"), (0, .fieldref 10 16), (0, .nameAndType 17 18), (0, u "coder"), (0, u "B"), (2, u "hash"), (0, u "I"), (2, u "hashIsZero"), (0, u "Z"), (0, .methodref 10 28), (0, .nameAndType 5 29), (0, u "([CIILjava/lang/Void;)V"), (8, .fieldref 10 39), (0, .nameAndType 40 26), (0, u "COMPACT_STRINGS"), (1, .class_ 44), (1, u "java/lang/StringUTF16"), (0, u "compress"), (1, .methodref 42 48), (0, .nameAndType 49 50), (0, u "coderFromArrayLen"), (0, u "([BI)B"), (56, .class_ 109), (1, u "java/lang/StringLatin1"), (32, u "()Z"), (34, .methodref 42 178), (0, .nameAndType 45 179), (0, u "([CII)[B"), (154, u "()I"), (0, .methodref 10 336), (0, .nameAndType 17 337), (0, u "()B"), (25, u "([BI)C"), (27, u "(II)V"), (35, u "(I)C"), (64, .methodref 10 493), (0, .nameAndType 494 142), (0, u "isLatin1"), (0, .methodref 107 496), (0, .nameAndType 497 363), (0, u "charAt"), (0, .methodref 42 496), (2, u "checkIndex"), (5, u "length"), (67, .class_ 576), (0, u "java/lang/CharSequence"), (22, u "CASE_INSENSITIVE_ORDER"), (0, u "Ljava/util/Comparator;"), (91, u "isEmpty"), (317, u "([C)V"), (42, .fieldref 1054 1055), (0, .class_ 1056), (0, .nameAndType 1057 1058), (0, u "jdk/internal/util/Preconditions"), (0, u "SIOOBE_FORMATTER"), (0, u "Ljava/util/function/BiFunction;"), (0, .methodref 1054 1060), (0, .nameAndType 501 1061), (0, u "(IILjava/util/function/BiFunction;)I"), (39, u "serialPersistentFields"), (0, u "[Ljava/io/ObjectStreamField;"), (0, .class_ 1104), (0, u "java/lang/String$CaseInsensitiveComparator"), (1, .class_ 1107), (0, u "java/io/Serializable"), (0, .class_ 1109), (0, u "java/lang/Comparable"), (0, .class_ 1111), (0, u "java/lang/constant/Constable"), (0, .class_ 1113), (0, u "java/lang/constant/ConstantDesc"), (2, u "serialVersionUID"), (0, u "J"), (3, u "REPL"), (0, u "C"), (2, u "LATIN1"), (1, u "UTF16")] 323

def k7m0 : Method := { name := "<init>", desc := "()V", sig := { parameters := [], returnType := none }, accessFlags := 1, code := none }
def k7c1 : Code := { maxStack := 5, maxLocals := 2, code := jdk_42_method_3_code, exceptionTable := #[], attributes := #[] }
def k7m1 : Method := { name := "<init>", desc := "([C)V", sig := { parameters := [(.array .char)], returnType := none }, accessFlags := 1, code := some k7c1 }
def k7c2 : Code := { maxStack := 2, maxLocals := 1, code := jdk_42_method_54_code, exceptionTable := #[], attributes := #[] }
def k7m2 : Method := { name := "length", desc := "()I", sig := { parameters := [], returnType := some .int }, accessFlags := 1, code := some k7c2 }
def k7c3 : Code := { maxStack := 1, maxLocals := 1, code := jdk_42_method_55_code, exceptionTable := #[], attributes := #[] }
def k7m3 : Method := { name := "isEmpty", desc := "()Z", sig := { parameters := [], returnType := some .boolean }, accessFlags := 1, code := some k7c3 }
def k7c4 : Code := { maxStack := 2, maxLocals := 2, code := jdk_42_method_56_code, exceptionTable := #[], attributes := #[] }
def k7m4 : Method := { name := "charAt", desc := "(I)C", sig := { parameters := [.int], returnType := some .char }, accessFlags := 1, code := some k7c4 }
def k7c5 : Code := { maxStack := 4, maxLocals := 6, code := jdk_42_method_149_code, exceptionTable := #[], attributes := #[] }
def k7m5 : Method := { name := "<init>", desc := "([CIILjava/lang/Void;)V", sig := { parameters := [(.array .char), .int, .int, (.object "java/lang/Void")], returnType := none }, accessFlags := 2, code := some k7c5 }
def k7c6 : Code := { maxStack := 1, maxLocals := 1, code := jdk_42_method_152_code, exceptionTable := #[], attributes := #[] }
def k7m6 : Method := { name := "coder", desc := "()B", sig := { parameters := [], returnType := some .byte }, accessFlags := 0, code := some k7c6 }
def k7c7 : Code := { maxStack := 1, maxLocals := 1, code := jdk_42_method_154_code, exceptionTable := #[], attributes := #[] }
def k7m7 : Method := { name := "isLatin1", desc := "()Z", sig := { parameters := [], returnType := some .boolean }, accessFlags := 0, code := some k7c7 }
def k7c8 : Code := { maxStack := 3, maxLocals := 2, code := jdk_42_method_155_code, exceptionTable := #[], attributes := #[] }
def k7m8 : Method := { name := "checkIndex", desc := "(II)V", sig := { parameters := [.int, .int], returnType := none }, accessFlags := 8, code := some k7c8 }
/-- java/lang/String -/
def k7 : Class := { plain "java/lang/String" (some 0) with
  accessFlags := 49
  interfaces := #[2, 3, 4, 5, 6]
  cf := some (fileOf pool7 10 #[.nestMembers #[1103]] #[{ accessFlags := 1, nameIndex := 5, descriptorIndex := 6, attributes := #[] }, { accessFlags := 1, nameIndex := 5, descriptorIndex := 1010, attributes := #[] }, { accessFlags := 1, nameIndex := 507, descriptorIndex := 334, attributes := #[] }, { accessFlags := 1, nameIndex := 692, descriptorIndex := 142, attributes := #[] }, { accessFlags := 1, nameIndex := 497, descriptorIndex := 427, attributes := #[] }, { accessFlags := 2, nameIndex := 5, descriptorIndex := 29, attributes := #[] }, { accessFlags := 0, nameIndex := 17, descriptorIndex := 337, attributes := #[] }, { accessFlags := 0, nameIndex := 494, descriptorIndex := 142, attributes := #[] }, { accessFlags := 8, nameIndex := 501, descriptorIndex := 391, attributes := #[] }] 49 2 #[1106, 1108, 575, 1110, 1112] #[{ accessFlags := 18, nameIndex := 13, descriptorIndex := 14, attributes := #[] }, { accessFlags := 18, nameIndex := 17, descriptorIndex := 18, attributes := #[] }, { accessFlags := 2, nameIndex := 21, descriptorIndex := 22, attributes := #[] }, { accessFlags := 2, nameIndex := 25, descriptorIndex := 26, attributes := #[] }, { accessFlags := 26, nameIndex := 1116, descriptorIndex := 1117, attributes := #[] }, { accessFlags := 24, nameIndex := 40, descriptorIndex := 26, attributes := #[] }, { accessFlags := 26, nameIndex := 1101, descriptorIndex := 1102, attributes := #[] }, { accessFlags := 26, nameIndex := 1121, descriptorIndex := 1122, attributes := #[] }, { accessFlags := 25, nameIndex := 599, descriptorIndex := 600, attributes := #[] }, { accessFlags := 24, nameIndex := 1125, descriptorIndex := 18, attributes := #[] }, { accessFlags := 24, nameIndex := 1127, descriptorIndex := 18, attributes := #[] }])
  fields := #[{ name := "value", type := (.array .byte), accessFlags := 18, slot := 0, constantValue := 0 }, { name := "coder", type := .byte, accessFlags := 18, slot := 1, constantValue := 0 }, { name := "hash", type := .int, accessFlags := 2, slot := 2, constantValue := 0 }, { name := "hashIsZero", type := .boolean, accessFlags := 2, slot := 3, constantValue := 0 }, { name := "serialVersionUID", type := .long, accessFlags := 26, slot := 0, constantValue := 0 }, { name := "COMPACT_STRINGS", type := .boolean, accessFlags := 24, slot := 1, constantValue := 0 }, { name := "serialPersistentFields", type := (.array (.object "java/io/ObjectStreamField")), accessFlags := 26, slot := 2, constantValue := 0 }, { name := "REPL", type := .char, accessFlags := 26, slot := 3, constantValue := 0 }, { name := "CASE_INSENSITIVE_ORDER", type := (.object "java/util/Comparator"), accessFlags := 25, slot := 4, constantValue := 0 }, { name := "LATIN1", type := .byte, accessFlags := 24, slot := 5, constantValue := 0 }, { name := "UTF16", type := .byte, accessFlags := 24, slot := 6, constantValue := 0 }]
  methods := #[k7m0, k7m1, k7m2, k7m3, k7m4, k7m5, k7m6, k7m7, k7m8]
  instanceTypes := #[(.array .byte), .byte, .int, .boolean]
  staticTypes := #[.long, .boolean, (.array (.object "java/io/ObjectStreamField")), .char, (.object "java/util/Comparator"), .byte, .byte]
  resolved := Array.replicate 1451 none
  statics := some 0 }

def pool8 : Array CpInfo := pool [(2, .class_ 4), (1, u "java/lang/Object"), (0, u "<init>"), (0, u "()V"), (4, .class_ 12), (0, u "com/example/pools_to_qrels/poolstoqrels/CitationIds"), (1, .class_ 16), (1, u "java/lang/String"), (6, .methodref 14 24), (0, .nameAndType 25 26), (0, u "isEmpty"), (0, u "()Z"), (2, u "isWholeNumber"), (0, u "(Ljava/lang/String;)Z"), (25, .methodref 14 57), (0, .nameAndType 58 59), (0, u "length"), (0, u "()I"), (0, .methodref 14 61), (0, .nameAndType 62 63), (0, u "charAt"), (0, u "(I)C"), (0, u "SEPARATOR"), (0, u "C"), (2, u "PARTS"), (0, u "I"), (1, u "THREAD"), (1, u "POST"), (1, u "OFFSET"), (1, u "LENGTH")] 31

def k8m0 : Method := { name := "<init>", desc := "()V", sig := { parameters := [], returnType := none }, accessFlags := 2, code := none }
def k8c1 : Code := { maxStack := 3, maxLocals := 3, code := prog_5_method_5_code, exceptionTable := #[], attributes := #[] }
def k8m1 : Method := { name := "isWholeNumber", desc := "(Ljava/lang/String;)Z", sig := { parameters := [(.object "java/lang/String")], returnType := some .boolean }, accessFlags := 8, code := some k8c1 }
/-- com/example/pools_to_qrels/poolstoqrels/CitationIds -/
def k8 : Class := { plain "com/example/pools_to_qrels/poolstoqrels/CitationIds" (some 0) with
  accessFlags := 48
  interfaces := #[]
  cf := some (fileOf pool8 11 #[] #[{ accessFlags := 2, nameIndex := 5, descriptorIndex := 6, attributes := #[] }, { accessFlags := 8, nameIndex := 29, descriptorIndex := 30, attributes := #[] }] 48 2 #[] #[{ accessFlags := 24, nameIndex := 64, descriptorIndex := 65, attributes := #[] }, { accessFlags := 26, nameIndex := 68, descriptorIndex := 69, attributes := #[] }, { accessFlags := 26, nameIndex := 71, descriptorIndex := 69, attributes := #[] }, { accessFlags := 26, nameIndex := 73, descriptorIndex := 69, attributes := #[] }, { accessFlags := 26, nameIndex := 75, descriptorIndex := 69, attributes := #[] }, { accessFlags := 26, nameIndex := 77, descriptorIndex := 69, attributes := #[] }])
  fields := #[{ name := "SEPARATOR", type := .char, accessFlags := 24, slot := 0, constantValue := 0 }, { name := "PARTS", type := .int, accessFlags := 26, slot := 1, constantValue := 0 }, { name := "THREAD", type := .int, accessFlags := 26, slot := 2, constantValue := 0 }, { name := "POST", type := .int, accessFlags := 26, slot := 3, constantValue := 0 }, { name := "OFFSET", type := .int, accessFlags := 26, slot := 4, constantValue := 0 }, { name := "LENGTH", type := .int, accessFlags := 26, slot := 5, constantValue := 0 }]
  methods := #[k8m0, k8m1]
  instanceTypes := #[]
  staticTypes := #[.char, .int, .int, .int, .int, .int]
  resolved := Array.replicate 109 none
  statics := none }

def pool9 : Array CpInfo := pool [(3, .class_ 4), (0, u "java/lang/String"), (1, .class_ 8), (1, u "java/lang/Object"), (0, u "<init>"), (0, u "()V"), (0, .methodref 12 13), (0, .class_ 14), (0, .nameAndType 15 16), (0, u "java/lang/StringUTF16"), (0, u "newBytesLength"), (0, u "(I)I"), (3, .integer 1073741823), (23, .fieldref 12 45), (0, .nameAndType 46 47), (0, u "$assertionsDisabled"), (0, u "Z"), (0, .methodref 12 49), (0, .nameAndType 50 51), (0, u "length"), (0, u "([B)I"), (7, .fieldref 12 60), (0, .nameAndType 61 62), (0, u "HI_BYTE_SHIFT"), (0, u "I"), (0, .fieldref 12 64), (0, .nameAndType 65 62), (0, u "LO_BYTE_SHIFT"), (1, .methodref 12 68), (0, .nameAndType 69 70), (0, u "checkIndex"), (0, u "(I[B)V"), (0, .methodref 12 72), (0, .nameAndType 73 74), (0, u "getChar"), (0, u "([BI)C"), (32, .methodref 12 108), (0, .nameAndType 109 110), (0, u "newBytesFor"), (0, u "(I)[B"), (0, .methodref 12 112), (0, .nameAndType 113 114), (0, u "putChar"), (0, u "([BII)V"), (0, .methodref 12 116), (0, .nameAndType 117 118), (0, u "compress"), (0, u "([CI[BII)I"), (0, .methodref 12 120), (0, .nameAndType 121 122), (0, u "toBytes"), (0, u "([CII)[B"), (138, u "coderFromArrayLen"), (0, u "([BI)B"), (106, .class_ 371), (1, u "java/lang/StringUTF16$LinesSpliterator"), (20, u "charAt"), (21, .methodref 3 415), (0, .nameAndType 69 416), (0, u "(II)V"), (13, u "MAX_LENGTH"), (196, .class_ 628), (0, u "java/lang/StringUTF16$CodePointsSpliterator"), (0, .class_ 630), (0, u "java/lang/StringUTF16$CharsSpliterator")] 4

def k9m0 : Method := { name := "<init>", desc := "()V", sig := { parameters := [], returnType := none }, accessFlags := 0, code := none }
def k9c1 : Code := { maxStack := 1, maxLocals := 1, code := jdk_52_method_2_code, exceptionTable := #[], attributes := #[] }
def k9m1 : Method := { name := "newBytesFor", desc := "(I)[B", sig := { parameters := [.int], returnType := some (.array .byte) }, accessFlags := 9, code := some k9c1 }
def k9c2 : Code := { maxStack := 4, maxLocals := 1, code := jdk_52_method_3_code, exceptionTable := #[], attributes := #[] }
def k9m2 : Method := { name := "newBytesLength", desc := "(I)I", sig := { parameters := [.int], returnType := some .int }, accessFlags := 9, code := some k9c2 }
def k9c3 : Code := { maxStack := 4, maxLocals := 3, code := jdk_52_method_4_code, exceptionTable := #[], attributes := #[] }
def k9m3 : Method := { name := "putChar", desc := "([BII)V", sig := { parameters := [(.array .byte), .int, .int], returnType := none }, accessFlags := 8, code := some k9c3 }
def k9c4 : Code := { maxStack := 3, maxLocals := 2, code := jdk_52_method_5_code, exceptionTable := #[], attributes := #[] }
def k9m4 : Method := { name := "getChar", desc := "([BI)C", sig := { parameters := [(.array .byte), .int], returnType := some .char }, accessFlags := 8, code := some k9c4 }
def k9c5 : Code := { maxStack := 2, maxLocals := 1, code := jdk_52_method_6_code, exceptionTable := #[], attributes := #[] }
def k9m5 : Method := { name := "length", desc := "([B)I", sig := { parameters := [(.array .byte)], returnType := some .int }, accessFlags := 9, code := some k9c5 }
def k9c6 : Code := { maxStack := 4, maxLocals := 5, code := jdk_52_method_14_code, exceptionTable := #[], attributes := #[] }
def k9m6 : Method := { name := "toBytes", desc := "([CII)[B", sig := { parameters := [(.array .char), .int, .int], returnType := some (.array .byte) }, accessFlags := 9, code := some k9c6 }
def k9c7 : Code := { maxStack := 2, maxLocals := 2, code := jdk_52_method_15_code, exceptionTable := #[], attributes := #[] }
def k9m7 : Method := { name := "coderFromArrayLen", desc := "([BI)B", sig := { parameters := [(.array .byte), .int], returnType := some .byte }, accessFlags := 8, code := some k9c7 }
def k9c8 : Code := { maxStack := 5, maxLocals := 6, code := jdk_52_method_16_code, exceptionTable := #[], attributes := #[] }
def k9m8 : Method := { name := "compress", desc := "([CII)[B", sig := { parameters := [(.array .char), .int, .int], returnType := some (.array .byte) }, accessFlags := 9, code := some k9c8 }
def k9c9 : Code := { maxStack := 3, maxLocals := 7, code := jdk_52_method_21_code, exceptionTable := #[], attributes := #[] }
def k9m9 : Method := { name := "compress", desc := "([CI[BII)I", sig := { parameters := [(.array .char), .int, (.array .byte), .int, .int], returnType := some .int }, accessFlags := 9, code := some k9c9 }
def k9c10 : Code := { maxStack := 2, maxLocals := 2, code := jdk_52_method_83_code, exceptionTable := #[], attributes := #[] }
def k9m10 : Method := { name := "charAt", desc := "([BI)C", sig := { parameters := [(.array .byte), .int], returnType := some .char }, accessFlags := 9, code := some k9c10 }
def k9c11 : Code := { maxStack := 2, maxLocals := 2, code := jdk_52_method_91_code, exceptionTable := #[], attributes := #[] }
def k9m11 : Method := { name := "checkIndex", desc := "(I[B)V", sig := { parameters := [.int, (.array .byte)], returnType := none }, accessFlags := 9, code := some k9c11 }
/-- java/lang/StringUTF16 -/
def k9 : Class := { plain "java/lang/StringUTF16" (some 0) with
  accessFlags := 48
  interfaces := #[]
  cf := some (fileOf pool9 12 #[.nestMembers #[627, 629, 369]] #[{ accessFlags := 0, nameIndex := 9, descriptorIndex := 10, attributes := #[] }, { accessFlags := 9, nameIndex := 109, descriptorIndex := 110, attributes := #[] }, { accessFlags := 9, nameIndex := 15, descriptorIndex := 16, attributes := #[] }, { accessFlags := 8, nameIndex := 113, descriptorIndex := 114, attributes := #[] }, { accessFlags := 8, nameIndex := 73, descriptorIndex := 74, attributes := #[] }, { accessFlags := 9, nameIndex := 50, descriptorIndex := 51, attributes := #[] }, { accessFlags := 9, nameIndex := 121, descriptorIndex := 122, attributes := #[] }, { accessFlags := 8, nameIndex := 261, descriptorIndex := 262, attributes := #[] }, { accessFlags := 9, nameIndex := 117, descriptorIndex := 122, attributes := #[] }, { accessFlags := 9, nameIndex := 117, descriptorIndex := 118, attributes := #[] }, { accessFlags := 9, nameIndex := 392, descriptorIndex := 74, attributes := #[] }, { accessFlags := 9, nameIndex := 69, descriptorIndex := 70, attributes := #[] }] 48 6 #[] #[{ accessFlags := 26, nameIndex := 61, descriptorIndex := 62, attributes := #[] }, { accessFlags := 26, nameIndex := 65, descriptorIndex := 62, attributes := #[] }, { accessFlags := 24, nameIndex := 430, descriptorIndex := 62, attributes := #[] }, { accessFlags := 4120, nameIndex := 46, descriptorIndex := 47, attributes := #[] }])
  fields := #[{ name := "HI_BYTE_SHIFT", type := .int, accessFlags := 26, slot := 0, constantValue := 0 }, { name := "LO_BYTE_SHIFT", type := .int, accessFlags := 26, slot := 1, constantValue := 0 }, { name := "MAX_LENGTH", type := .int, accessFlags := 24, slot := 2, constantValue := 0 }, { name := "$assertionsDisabled", type := .boolean, accessFlags := 4120, slot := 3, constantValue := 0 }]
  methods := #[k9m0, k9m1, k9m2, k9m3, k9m4, k9m5, k9m6, k9m7, k9m8, k9m9, k9m10, k9m11]
  instanceTypes := #[]
  staticTypes := #[.int, .int, .int, .boolean]
  resolved := Array.replicate 635 none
  statics := some 1 }

def pool10 : Array CpInfo := pool [(1, .class_ 2), (0, u "java/lang/String"), (1, .class_ 6), (1, u "java/lang/Object"), (0, u "<init>"), (0, u "()V"), (0, .methodref 1 10), (0, .nameAndType 11 12), (0, u "checkIndex"), (0, u "(II)V"), (1, .class_ 16), (1, u "java/lang/StringLatin1"), (36, u "([BI)C"), (67, u "$assertionsDisabled"), (0, u "Z"), (98, .class_ 223), (1, u "java/lang/StringLatin1$LinesSpliterator"), (28, u "charAt"), (137, .class_ 391), (0, u "java/lang/StringLatin1$CharsSpliterator")] 3

def k10m0 : Method := { name := "<init>", desc := "()V", sig := { parameters := [], returnType := none }, accessFlags := 0, code := none }
def k10c1 : Code := { maxStack := 2, maxLocals := 2, code := jdk_43_method_2_code, exceptionTable := #[], attributes := #[] }
def k10m1 : Method := { name := "charAt", desc := "([BI)C", sig := { parameters := [(.array .byte), .int], returnType := some .char }, accessFlags := 9, code := some k10c1 }
/-- java/lang/StringLatin1 -/
def k10 : Class := { plain "java/lang/StringLatin1" (some 0) with
  accessFlags := 48
  interfaces := #[]
  cf := some (fileOf pool10 14 #[.nestMembers #[390, 221]] #[{ accessFlags := 0, nameIndex := 7, descriptorIndex := 8, attributes := #[] }, { accessFlags := 9, nameIndex := 252, descriptorIndex := 53, attributes := #[] }] 48 4 #[] #[{ accessFlags := 4120, nameIndex := 121, descriptorIndex := 122, attributes := #[] }])
  fields := #[{ name := "$assertionsDisabled", type := .boolean, accessFlags := 4120, slot := 0, constantValue := 0 }]
  methods := #[k10m0, k10m1]
  instanceTypes := #[]
  staticTypes := #[.boolean]
  resolved := Array.replicate 395 none
  statics := none }

def pool11 : Array CpInfo := pool [(2, .class_ 4), (1, u "java/lang/Object"), (0, u "<init>"), (0, u "()V"), (17, .class_ 26), (1, u "jdk/internal/util/Preconditions"), (6, u "checkIndex"), (21, .class_ 56), (0, u "jdk/internal/util/Preconditions$4"), (57, .class_ 115), (0, u "jdk/internal/util/Preconditions$1"), (7, u "SIOOBE_FORMATTER"), (0, u "Ljava/util/function/BiFunction;"), (0, .class_ 126), (0, u "jdk/internal/util/Preconditions$2"), (3, u "AIOOBE_FORMATTER"), (0, .class_ 132), (0, u "jdk/internal/util/Preconditions$3"), (3, u "IOOBE_FORMATTER"), (41, u "(IILjava/util/function/BiFunction;)I")] 15

def k11m0 : Method := { name := "<init>", desc := "()V", sig := { parameters := [], returnType := none }, accessFlags := 1, code := none }
def k11c1 : Code := { maxStack := 3, maxLocals := 3, code := jdk_41_method_11_code, exceptionTable := #[], attributes := #[] }
def k11m1 : Method := { name := "checkIndex", desc := "(IILjava/util/function/BiFunction;)I", sig := { parameters := [.int, .int, (.object "java/util/function/BiFunction")], returnType := some .int }, accessFlags := 9, code := some k11c1 }
/-- jdk/internal/util/Preconditions -/
def k11 : Class := { plain "jdk/internal/util/Preconditions" (some 0) with
  accessFlags := 33
  interfaces := #[]
  cf := some (fileOf pool11 24 #[.nestMembers #[55, 131, 125, 114]] #[{ accessFlags := 1, nameIndex := 5, descriptorIndex := 6, attributes := #[] }, { accessFlags := 9, nameIndex := 33, descriptorIndex := 178, attributes := #[] }] 33 2 #[] #[{ accessFlags := 25, nameIndex := 123, descriptorIndex := 124, attributes := #[] }, { accessFlags := 25, nameIndex := 130, descriptorIndex := 124, attributes := #[] }, { accessFlags := 25, nameIndex := 136, descriptorIndex := 124, attributes := #[] }])
  fields := #[{ name := "SIOOBE_FORMATTER", type := (.object "java/util/function/BiFunction"), accessFlags := 25, slot := 0, constantValue := 0 }, { name := "AIOOBE_FORMATTER", type := (.object "java/util/function/BiFunction"), accessFlags := 25, slot := 1, constantValue := 0 }, { name := "IOOBE_FORMATTER", type := (.object "java/util/function/BiFunction"), accessFlags := 25, slot := 2, constantValue := 0 }]
  methods := #[k11m0, k11m1]
  instanceTypes := #[]
  staticTypes := #[(.object "java/util/function/BiFunction"), (.object "java/util/function/BiFunction"), (.object "java/util/function/BiFunction")]
  resolved := Array.replicate 194 none
  statics := some 2 }

def pool12 : Array CpInfo := pool [(9, u "<init>"), (6, .class_ 18), (1, u "java/lang/Object"), (0, u "()V"), (1, .class_ 23), (1, u "jdk/internal/util/ArraysSupport"), (0, u "LOG2_ARRAY_LONG_INDEX_SCALE"), (0, u "I"), (2, u "U"), (0, u "Ljdk/internal/misc/Unsafe;"), (8, u "BIG_ENDIAN"), (0, u "Z"), (8, u "LOG2_BYTE_BIT_SIZE"), (4, u "LOG2_ARRAY_INT_INDEX_SCALE"), (54, u "JLA"), (0, u "Ljdk/internal/access/JavaLangAccess;"), (11, u "LOG2_ARRAY_BOOLEAN_INDEX_SCALE"), (9, u "LOG2_ARRAY_BYTE_INDEX_SCALE"), (5, u "LOG2_ARRAY_CHAR_INDEX_SCALE"), (5, u "LOG2_ARRAY_SHORT_INDEX_SCALE"), (18, u "LOG2_ARRAY_FLOAT_INDEX_SCALE"), (24, u "LOG2_ARRAY_DOUBLE_INDEX_SCALE"), (89, u "T_BOOLEAN"), (2, u "T_CHAR"), (1, u "T_FLOAT"), (1, u "T_DOUBLE"), (1, u "T_BYTE"), (1, u "T_SHORT"), (1, u "T_INT"), (1, u "T_LONG"), (1, u "SOFT_MAX_ARRAY_LENGTH")] 83

def k12m0 : Method := { name := "<init>", desc := "()V", sig := { parameters := [], returnType := none }, accessFlags := 2, code := none }
/-- jdk/internal/util/ArraysSupport -/
def k12 : Class := { plain "jdk/internal/util/ArraysSupport" (some 0) with
  accessFlags := 33
  interfaces := #[]
  cf := some (fileOf pool12 21 #[] #[{ accessFlags := 2, nameIndex := 9, descriptorIndex := 19, attributes := #[] }] 33 16 #[] #[{ accessFlags := 24, nameIndex := 28, descriptorIndex := 29, attributes := #[] }, { accessFlags := 26, nameIndex := 38, descriptorIndex := 39, attributes := #[] }, { accessFlags := 25, nameIndex := 121, descriptorIndex := 25, attributes := #[] }, { accessFlags := 25, nameIndex := 131, descriptorIndex := 25, attributes := #[] }, { accessFlags := 25, nameIndex := 137, descriptorIndex := 25, attributes := #[] }, { accessFlags := 25, nameIndex := 143, descriptorIndex := 25, attributes := #[] }, { accessFlags := 25, nameIndex := 53, descriptorIndex := 25, attributes := #[] }, { accessFlags := 25, nameIndex := 24, descriptorIndex := 25, attributes := #[] }, { accessFlags := 25, nameIndex := 162, descriptorIndex := 25, attributes := #[] }, { accessFlags := 25, nameIndex := 187, descriptorIndex := 25, attributes := #[] }, { accessFlags := 26, nameIndex := 48, descriptorIndex := 25, attributes := #[] }, { accessFlags := 25, nameIndex := 277, descriptorIndex := 25, attributes := #[] }, { accessFlags := 25, nameIndex := 280, descriptorIndex := 25, attributes := #[] }, { accessFlags := 25, nameIndex := 282, descriptorIndex := 25, attributes := #[] }, { accessFlags := 25, nameIndex := 284, descriptorIndex := 25, attributes := #[] }, { accessFlags := 25, nameIndex := 286, descriptorIndex := 25, attributes := #[] }, { accessFlags := 25, nameIndex := 288, descriptorIndex := 25, attributes := #[] }, { accessFlags := 25, nameIndex := 290, descriptorIndex := 25, attributes := #[] }, { accessFlags := 25, nameIndex := 292, descriptorIndex := 25, attributes := #[] }, { accessFlags := 26, nameIndex := 108, descriptorIndex := 109, attributes := #[] }, { accessFlags := 25, nameIndex := 294, descriptorIndex := 25, attributes := #[] }])
  fields := #[{ name := "U", type := (.object "jdk/internal/misc/Unsafe"), accessFlags := 24, slot := 0, constantValue := 0 }, { name := "BIG_ENDIAN", type := .boolean, accessFlags := 26, slot := 1, constantValue := 0 }, { name := "LOG2_ARRAY_BOOLEAN_INDEX_SCALE", type := .int, accessFlags := 25, slot := 2, constantValue := 0 }, { name := "LOG2_ARRAY_BYTE_INDEX_SCALE", type := .int, accessFlags := 25, slot := 3, constantValue := 0 }, { name := "LOG2_ARRAY_CHAR_INDEX_SCALE", type := .int, accessFlags := 25, slot := 4, constantValue := 0 }, { name := "LOG2_ARRAY_SHORT_INDEX_SCALE", type := .int, accessFlags := 25, slot := 5, constantValue := 0 }, { name := "LOG2_ARRAY_INT_INDEX_SCALE", type := .int, accessFlags := 25, slot := 6, constantValue := 0 }, { name := "LOG2_ARRAY_LONG_INDEX_SCALE", type := .int, accessFlags := 25, slot := 7, constantValue := 0 }, { name := "LOG2_ARRAY_FLOAT_INDEX_SCALE", type := .int, accessFlags := 25, slot := 8, constantValue := 0 }, { name := "LOG2_ARRAY_DOUBLE_INDEX_SCALE", type := .int, accessFlags := 25, slot := 9, constantValue := 0 }, { name := "LOG2_BYTE_BIT_SIZE", type := .int, accessFlags := 26, slot := 10, constantValue := 0 }, { name := "T_BOOLEAN", type := .int, accessFlags := 25, slot := 11, constantValue := 0 }, { name := "T_CHAR", type := .int, accessFlags := 25, slot := 12, constantValue := 0 }, { name := "T_FLOAT", type := .int, accessFlags := 25, slot := 13, constantValue := 0 }, { name := "T_DOUBLE", type := .int, accessFlags := 25, slot := 14, constantValue := 0 }, { name := "T_BYTE", type := .int, accessFlags := 25, slot := 15, constantValue := 0 }, { name := "T_SHORT", type := .int, accessFlags := 25, slot := 16, constantValue := 0 }, { name := "T_INT", type := .int, accessFlags := 25, slot := 17, constantValue := 0 }, { name := "T_LONG", type := .int, accessFlags := 25, slot := 18, constantValue := 0 }, { name := "JLA", type := (.object "jdk/internal/access/JavaLangAccess"), accessFlags := 26, slot := 19, constantValue := 0 }, { name := "SOFT_MAX_ARRAY_LENGTH", type := .int, accessFlags := 25, slot := 20, constantValue := 0 }]
  methods := #[k12m0]
  instanceTypes := #[]
  staticTypes := #[(.object "jdk/internal/misc/Unsafe"), .boolean, .int, .int, .int, .int, .int, .int, .int, .int, .int, .int, .int, .int, .int, .int, .int, .int, .int, (.object "jdk/internal/access/JavaLangAccess"), .int]
  resolved := Array.replicate 378 none
  statics := none }

def pool13 : Array CpInfo := pool [(1, u "java/lang/Cloneable"), (0, .class_ 1), (0, u "java/lang/Object"), (0, .class_ 3)] 3

/-- java/lang/Cloneable -/
def k13 : Class := { plain "java/lang/Cloneable" (some 0) with
  accessFlags := 1537
  interfaces := #[]
  cf := some (fileOf pool13 2 #[] #[] 1537 4 #[] #[])
  fields := #[]
  methods := #[]
  instanceTypes := #[]
  staticTypes := #[]
  resolved := Array.replicate 8 none
  statics := none }

/-- the primitive byte -/
def k14 : Class := { plain "byte" none with kind := .primitive 'B', accessFlags := 0x411 }
/-- [B -/
def k15 : Class := { plain "[B" (some 0) with kind := .array 14 .byte, interfaces := #[13, 2], accessFlags := 1041 }

/-- the primitive char -/
def k16 : Class := { plain "char" none with kind := .primitive 'C', accessFlags := 0x411 }
/-- [C -/
def k17 : Class := { plain "[C" (some 0) with kind := .array 16 .char, interfaces := #[13, 2], accessFlags := 1041 }

/-- the primitive int -/
def k18 : Class := { plain "int" none with kind := .primitive 'I', accessFlags := 0x411 }
/-- [I -/
def k19 : Class := { plain "[I" (some 0) with kind := .array 18 .int, interfaces := #[13, 2], accessFlags := 1041 }

def heap : Heap := #[{ cls := 7, slots := #[.long 0, .int 1, .null, .int 0, .null, .int 0, .int 0], vm := .statics 7 },
  { cls := 9, slots := #[.int 0, .int 8, .int 0, .int 1], vm := .statics 9 },
  { cls := 11, slots := #[.null, .null, .null], vm := .statics 11 }]
def classes : Array Class := #[k0, k1, k2, k3, k4, k5, k6, k7, k8, k9, k10, k11, k12, k13, k14, k15, k16, k17, k18, k19]
def interned : List (Array UInt16 × Addr) := []
def slotsUsed : Nat := 14
def theMethod : MethodId := ⟨1, 1⟩
def args0 : Array Value := #[.int 1, .int 49, .int 50, .int 51, .int 52]
def aboutOver (below : List Frame) : State where
  vm := { classes := classes, interned := interned.toArray }
  heap := heap
  slotsUsed := slotsUsed
  threads := #[{ frames := .invoking theMethod args0 :: below }]
def below0 : List Frame := [.native { method := ⟨0, 0⟩, args := #[] }]
def about1 : State := aboutOver below0
def p0 : Program := .bare "" "" ""
def e0 : Env := launch0.env 0 0 0
theorem w_frames : about1.frames = Frame.invoking theMethod args0 :: below0 := rfl
set_option maxRecDepth 65536 in
theorem w_args : argsFit about1.vm theMethod args0 = true := by decide +kernel
set_option maxRecDepth 65536 in
theorem w_heap : heapFits about1 = true := by decide +kernel
set_option maxRecDepth 65536 in
theorem w_runnable : about1.curStatus? = some .runnable := by decide +kernel
set_option maxRecDepth 65536 in
theorem w_alone : about1.alone = true := by decide +kernel
set_option maxRecDepth 65536 in
theorem w_named : about1.methodNamed? x = some theMethod := by decide +kernel
set_option maxRecDepth 65536 in
theorem w_hears : about1.hears theMethod below0 = true := by decide +kernel
set_option maxRecDepth 65536 in
theorem w_ripe : about1.ripe theMethod args0 below0 = true := by decide +kernel
theorem w_running : about1.status = .running := rfl
set_option maxRecDepth 65536 in
theorem w_room : about1.hasRoom e0.platform room_1 = true :=
  launch0.hasRoom_least _ room_1 (by decide +kernel) (by decide +kernel) (by decide +kernel) (by decide +kernel) (by decide +kernel) (by decide +kernel)
theorem allAtoms_all (ts : List Jvm.Cond) (a : Array Jvm.Value) (st : Jvm.State) : (allAtoms ts).before a st = ts.all (fun c => c.before a st) := by
  induction ts with
  | nil => rfl
  | cons c t ih =>
    show (Jvm.Cond.and c (allAtoms t)).before a st = _
    rw [Jvm.Cond.before_and, ih, List.all_cons]
def words1 : List Jvm.Cond := Jvm.Cond.code x code maxLocals ret :: tables_1
/-- a 'code' word, met by the world's own term for the bytes: nothing is compared byte by byte -/
theorem code_word {y : MethodName} {bytes : ByteArray} {mx : Nat} {rt : Option FieldType} {a : Array Value} {s : State} {m : MethodId} {meth : Method} {c : Code} (h1 : s.methodNamed? y = some m) (h2 : s.vm.method? m = some meth) (h3 : meth.code = some c) (h4 : c.code = bytes)
    (h5 : (c.maxLocals == mx && c.exceptionTable.isEmpty && decide (c.maxStack ≤ mostOperands) && decide (meth.sig.returnType = rt) && !meth.locks && decide (parseMethodDescriptor y.desc = some meth.sig)) = true) : (Jvm.Cond.code y bytes mx rt).before a s = true := by
  simp only [Bool.and_eq_true, beq_iff_eq, Bool.not_eq_true', decide_eq_true_eq] at h5
  obtain ⟨⟨⟨⟨⟨g1, g2⟩, g3⟩, g4⟩, g5⟩, g6⟩ := h5
  simp [Cond.before, Cond.holds, Cond.value, h1, h2, h3, h4, g1, g2, g3, g4, g5, g6]
def isCode : Jvm.Cond → Bool
  | .code _ _ _ _ => true
  | _ => false
theorem all_split {L : List Jvm.Cond} {P : Jvm.Cond → Bool} (h1 : L.all (fun c => isCode c || P c) = true) (h2 : ∀ c ∈ L.filter isCode, P c = true) : L.all P = true := by
  refine List.all_eq_true.mpr fun c hc => ?_
  have h := List.all_eq_true.mp h1 c hc
  rcases Bool.eq_false_or_eq_true (isCode c) with hi | hi
  · exact h2 c (List.mem_filter.mpr ⟨hc, hi⟩)
  · simpa [hi] using h
set_option maxRecDepth 65536 in
theorem w_c0 : (Jvm.Cond.code x code maxLocals ret).before args0 about1 = true := code_word (m := ⟨1, 1⟩) (meth := k1m1) (c := k1c1) (by decide +kernel) rfl rfl rfl (by decide +kernel)
set_option maxRecDepth 65536 in
theorem w_c1 : (Jvm.Cond.code ({ cls := "com/example/pools_to_qrels/poolstoqrels/CitationIdsIsWholeNumberPinLaw", name := "draw", desc := "(I)C" } : Jvm.MethodName) method_3_code (1 : Nat) (Option.some Jvm.ClassFile.FieldType.char)).before args0 about1 = true := code_word (m := ⟨1, 2⟩) (meth := k1m2) (c := k1c2) (by decide +kernel) rfl rfl rfl (by decide +kernel)
set_option maxRecDepth 65536 in
theorem w_c2 : (Jvm.Cond.code ({ cls := "java/lang/String", name := "<init>", desc := "([C)V" } : Jvm.MethodName) jdk_42_method_3_code (2 : Nat) (Option.none : Option Jvm.ClassFile.FieldType)).before args0 about1 = true := code_word (m := ⟨7, 1⟩) (meth := k7m1) (c := k7c1) (by decide +kernel) rfl rfl rfl (by decide +kernel)
set_option maxRecDepth 65536 in
theorem w_c3 : (Jvm.Cond.code ({ cls := "java/lang/String", name := "<init>", desc := "([CIILjava/lang/Void;)V" } : Jvm.MethodName) jdk_42_method_149_code (6 : Nat) (Option.none : Option Jvm.ClassFile.FieldType)).before args0 about1 = true := code_word (m := ⟨7, 5⟩) (meth := k7m5) (c := k7c5) (by decide +kernel) rfl rfl rfl (by decide +kernel)
set_option maxRecDepth 65536 in
theorem w_c4 : (Jvm.Cond.code ({ cls := "java/lang/Object", name := "<init>", desc := "()V" } : Jvm.MethodName) object_method_1_code (1 : Nat) (Option.none : Option Jvm.ClassFile.FieldType)).before args0 about1 = true := code_word (m := ⟨0, 0⟩) (meth := k0m0) (c := k0c0) (by decide +kernel) rfl rfl rfl (by decide +kernel)
set_option maxRecDepth 65536 in
theorem w_c5 : (Jvm.Cond.code ({ cls := "com/example/pools_to_qrels/poolstoqrels/CitationIds", name := "isWholeNumber", desc := "(Ljava/lang/String;)Z" } : Jvm.MethodName) prog_5_method_5_code (3 : Nat) (Option.some Jvm.ClassFile.FieldType.boolean)).before args0 about1 = true := code_word (m := ⟨8, 1⟩) (meth := k8m1) (c := k8c1) (by decide +kernel) rfl rfl rfl (by decide +kernel)
set_option maxRecDepth 65536 in
theorem w_c6 : (Jvm.Cond.code ({ cls := "java/lang/String", name := "isEmpty", desc := "()Z" } : Jvm.MethodName) jdk_42_method_55_code (1 : Nat) (Option.some Jvm.ClassFile.FieldType.boolean)).before args0 about1 = true := code_word (m := ⟨7, 3⟩) (meth := k7m3) (c := k7c3) (by decide +kernel) rfl rfl rfl (by decide +kernel)
set_option maxRecDepth 65536 in
theorem w_c7 : (Jvm.Cond.code ({ cls := "java/lang/String", name := "length", desc := "()I" } : Jvm.MethodName) jdk_42_method_54_code (1 : Nat) (Option.some Jvm.ClassFile.FieldType.int)).before args0 about1 = true := code_word (m := ⟨7, 2⟩) (meth := k7m2) (c := k7c2) (by decide +kernel) rfl rfl rfl (by decide +kernel)
set_option maxRecDepth 65536 in
theorem w_c8 : (Jvm.Cond.code ({ cls := "java/lang/String", name := "coder", desc := "()B" } : Jvm.MethodName) jdk_42_method_152_code (1 : Nat) (Option.some Jvm.ClassFile.FieldType.byte)).before args0 about1 = true := code_word (m := ⟨7, 6⟩) (meth := k7m6) (c := k7c6) (by decide +kernel) rfl rfl rfl (by decide +kernel)
set_option maxRecDepth 65536 in
theorem w_c9 : (Jvm.Cond.code ({ cls := "java/lang/StringUTF16", name := "compress", desc := "([CII)[B" } : Jvm.MethodName) jdk_52_method_16_code (6 : Nat) (Option.some (Jvm.ClassFile.FieldType.array Jvm.ClassFile.FieldType.byte))).before args0 about1 = true := code_word (m := ⟨9, 8⟩) (meth := k9m8) (c := k9c8) (by decide +kernel) rfl rfl rfl (by decide +kernel)
set_option maxRecDepth 65536 in
theorem w_c10 : (Jvm.Cond.code ({ cls := "java/lang/StringUTF16", name := "compress", desc := "([CI[BII)I" } : Jvm.MethodName) jdk_52_method_21_code (7 : Nat) (Option.some Jvm.ClassFile.FieldType.int)).before args0 about1 = true := code_word (m := ⟨9, 9⟩) (meth := k9m9) (c := k9c9) (by decide +kernel) rfl rfl rfl (by decide +kernel)
set_option maxRecDepth 65536 in
theorem w_c11 : (Jvm.Cond.code ({ cls := "java/lang/StringUTF16", name := "coderFromArrayLen", desc := "([BI)B" } : Jvm.MethodName) jdk_52_method_15_code (2 : Nat) (Option.some Jvm.ClassFile.FieldType.byte)).before args0 about1 = true := code_word (m := ⟨9, 7⟩) (meth := k9m7) (c := k9c7) (by decide +kernel) rfl rfl rfl (by decide +kernel)
set_option maxRecDepth 65536 in
theorem w_c12 : (Jvm.Cond.code ({ cls := "com/example/pools_to_qrels/poolstoqrels/CitationIdsIsWholeNumberPinLaw", name := "digit", desc := "(C)Z" } : Jvm.MethodName) method_4_code (1 : Nat) (Option.some Jvm.ClassFile.FieldType.boolean)).before args0 about1 = true := code_word (m := ⟨1, 3⟩) (meth := k1m3) (c := k1c3) (by decide +kernel) rfl rfl rfl (by decide +kernel)
set_option maxRecDepth 65536 in
theorem w_c13 : (Jvm.Cond.code ({ cls := "java/lang/String", name := "charAt", desc := "(I)C" } : Jvm.MethodName) jdk_42_method_56_code (2 : Nat) (Option.some Jvm.ClassFile.FieldType.char)).before args0 about1 = true := code_word (m := ⟨7, 4⟩) (meth := k7m4) (c := k7c4) (by decide +kernel) rfl rfl rfl (by decide +kernel)
set_option maxRecDepth 65536 in
theorem w_c14 : (Jvm.Cond.code ({ cls := "java/lang/String", name := "isLatin1", desc := "()Z" } : Jvm.MethodName) jdk_42_method_154_code (1 : Nat) (Option.some Jvm.ClassFile.FieldType.boolean)).before args0 about1 = true := code_word (m := ⟨7, 7⟩) (meth := k7m7) (c := k7c7) (by decide +kernel) rfl rfl rfl (by decide +kernel)
set_option maxRecDepth 65536 in
theorem w_c15 : (Jvm.Cond.code ({ cls := "java/lang/StringLatin1", name := "charAt", desc := "([BI)C" } : Jvm.MethodName) jdk_43_method_2_code (2 : Nat) (Option.some Jvm.ClassFile.FieldType.char)).before args0 about1 = true := code_word (m := ⟨10, 1⟩) (meth := k10m1) (c := k10c1) (by decide +kernel) rfl rfl rfl (by decide +kernel)
set_option maxRecDepth 65536 in
theorem w_c16 : (Jvm.Cond.code ({ cls := "java/lang/String", name := "checkIndex", desc := "(II)V" } : Jvm.MethodName) jdk_42_method_155_code (2 : Nat) (Option.none : Option Jvm.ClassFile.FieldType)).before args0 about1 = true := code_word (m := ⟨7, 8⟩) (meth := k7m8) (c := k7c8) (by decide +kernel) rfl rfl rfl (by decide +kernel)
set_option maxRecDepth 65536 in
theorem w_c17 : (Jvm.Cond.code ({ cls := "jdk/internal/util/Preconditions", name := "checkIndex", desc := "(IILjava/util/function/BiFunction;)I" } : Jvm.MethodName) jdk_41_method_11_code (3 : Nat) (Option.some Jvm.ClassFile.FieldType.int)).before args0 about1 = true := code_word (m := ⟨11, 1⟩) (meth := k11m1) (c := k11c1) (by decide +kernel) rfl rfl rfl (by decide +kernel)
set_option maxRecDepth 65536 in
theorem w_c18 : (Jvm.Cond.code ({ cls := "java/lang/StringUTF16", name := "toBytes", desc := "([CII)[B" } : Jvm.MethodName) jdk_52_method_14_code (5 : Nat) (Option.some (Jvm.ClassFile.FieldType.array Jvm.ClassFile.FieldType.byte))).before args0 about1 = true := code_word (m := ⟨9, 6⟩) (meth := k9m6) (c := k9c6) (by decide +kernel) rfl rfl rfl (by decide +kernel)
set_option maxRecDepth 65536 in
theorem w_c19 : (Jvm.Cond.code ({ cls := "java/lang/StringUTF16", name := "newBytesFor", desc := "(I)[B" } : Jvm.MethodName) jdk_52_method_2_code (1 : Nat) (Option.some (Jvm.ClassFile.FieldType.array Jvm.ClassFile.FieldType.byte))).before args0 about1 = true := code_word (m := ⟨9, 1⟩) (meth := k9m1) (c := k9c1) (by decide +kernel) rfl rfl rfl (by decide +kernel)
set_option maxRecDepth 65536 in
theorem w_c20 : (Jvm.Cond.code ({ cls := "java/lang/StringUTF16", name := "newBytesLength", desc := "(I)I" } : Jvm.MethodName) jdk_52_method_3_code (1 : Nat) (Option.some Jvm.ClassFile.FieldType.int)).before args0 about1 = true := code_word (m := ⟨9, 2⟩) (meth := k9m2) (c := k9c2) (by decide +kernel) rfl rfl rfl (by decide +kernel)
set_option maxRecDepth 65536 in
theorem w_c21 : (Jvm.Cond.code ({ cls := "java/lang/StringUTF16", name := "putChar", desc := "([BII)V" } : Jvm.MethodName) jdk_52_method_4_code (3 : Nat) (Option.none : Option Jvm.ClassFile.FieldType)).before args0 about1 = true := code_word (m := ⟨9, 3⟩) (meth := k9m3) (c := k9c3) (by decide +kernel) rfl rfl rfl (by decide +kernel)
set_option maxRecDepth 65536 in
theorem w_c22 : (Jvm.Cond.code ({ cls := "java/lang/StringUTF16", name := "getChar", desc := "([BI)C" } : Jvm.MethodName) jdk_52_method_5_code (2 : Nat) (Option.some Jvm.ClassFile.FieldType.char)).before args0 about1 = true := code_word (m := ⟨9, 4⟩) (meth := k9m4) (c := k9c4) (by decide +kernel) rfl rfl rfl (by decide +kernel)
set_option maxRecDepth 65536 in
theorem w_c23 : (Jvm.Cond.code ({ cls := "java/lang/StringUTF16", name := "charAt", desc := "([BI)C" } : Jvm.MethodName) jdk_52_method_83_code (2 : Nat) (Option.some Jvm.ClassFile.FieldType.char)).before args0 about1 = true := code_word (m := ⟨9, 10⟩) (meth := k9m10) (c := k9c10) (by decide +kernel) rfl rfl rfl (by decide +kernel)
set_option maxRecDepth 65536 in
theorem w_c24 : (Jvm.Cond.code ({ cls := "java/lang/StringUTF16", name := "checkIndex", desc := "(I[B)V" } : Jvm.MethodName) jdk_52_method_91_code (2 : Nat) (Option.none : Option Jvm.ClassFile.FieldType)).before args0 about1 = true := code_word (m := ⟨9, 11⟩) (meth := k9m11) (c := k9c11) (by decide +kernel) rfl rfl rfl (by decide +kernel)
set_option maxRecDepth 65536 in
theorem w_c25 : (Jvm.Cond.code ({ cls := "java/lang/StringUTF16", name := "length", desc := "([B)I" } : Jvm.MethodName) jdk_52_method_6_code (1 : Nat) (Option.some Jvm.ClassFile.FieldType.int)).before args0 about1 = true := code_word (m := ⟨9, 5⟩) (meth := k9m5) (c := k9c5) (by decide +kernel) rfl rfl rfl (by decide +kernel)
def codes1 : List Jvm.Cond := [Jvm.Cond.code x code maxLocals ret, Jvm.Cond.code ({ cls := "com/example/pools_to_qrels/poolstoqrels/CitationIdsIsWholeNumberPinLaw", name := "draw", desc := "(I)C" } : Jvm.MethodName) method_3_code (1 : Nat) (Option.some Jvm.ClassFile.FieldType.char), Jvm.Cond.code ({ cls := "java/lang/String", name := "<init>", desc := "([C)V" } : Jvm.MethodName) jdk_42_method_3_code (2 : Nat) (Option.none : Option Jvm.ClassFile.FieldType), Jvm.Cond.code ({ cls := "java/lang/String", name := "<init>", desc := "([CIILjava/lang/Void;)V" } : Jvm.MethodName) jdk_42_method_149_code (6 : Nat) (Option.none : Option Jvm.ClassFile.FieldType), Jvm.Cond.code ({ cls := "java/lang/Object", name := "<init>", desc := "()V" } : Jvm.MethodName) object_method_1_code (1 : Nat) (Option.none : Option Jvm.ClassFile.FieldType), Jvm.Cond.code ({ cls := "com/example/pools_to_qrels/poolstoqrels/CitationIds", name := "isWholeNumber", desc := "(Ljava/lang/String;)Z" } : Jvm.MethodName) prog_5_method_5_code (3 : Nat) (Option.some Jvm.ClassFile.FieldType.boolean), Jvm.Cond.code ({ cls := "java/lang/String", name := "isEmpty", desc := "()Z" } : Jvm.MethodName) jdk_42_method_55_code (1 : Nat) (Option.some Jvm.ClassFile.FieldType.boolean), Jvm.Cond.code ({ cls := "java/lang/String", name := "length", desc := "()I" } : Jvm.MethodName) jdk_42_method_54_code (1 : Nat) (Option.some Jvm.ClassFile.FieldType.int), Jvm.Cond.code ({ cls := "java/lang/String", name := "coder", desc := "()B" } : Jvm.MethodName) jdk_42_method_152_code (1 : Nat) (Option.some Jvm.ClassFile.FieldType.byte), Jvm.Cond.code ({ cls := "java/lang/StringUTF16", name := "compress", desc := "([CII)[B" } : Jvm.MethodName) jdk_52_method_16_code (6 : Nat) (Option.some (Jvm.ClassFile.FieldType.array Jvm.ClassFile.FieldType.byte)), Jvm.Cond.code ({ cls := "java/lang/StringUTF16", name := "compress", desc := "([CI[BII)I" } : Jvm.MethodName) jdk_52_method_21_code (7 : Nat) (Option.some Jvm.ClassFile.FieldType.int), Jvm.Cond.code ({ cls := "java/lang/StringUTF16", name := "coderFromArrayLen", desc := "([BI)B" } : Jvm.MethodName) jdk_52_method_15_code (2 : Nat) (Option.some Jvm.ClassFile.FieldType.byte), Jvm.Cond.code ({ cls := "com/example/pools_to_qrels/poolstoqrels/CitationIdsIsWholeNumberPinLaw", name := "digit", desc := "(C)Z" } : Jvm.MethodName) method_4_code (1 : Nat) (Option.some Jvm.ClassFile.FieldType.boolean), Jvm.Cond.code ({ cls := "java/lang/String", name := "charAt", desc := "(I)C" } : Jvm.MethodName) jdk_42_method_56_code (2 : Nat) (Option.some Jvm.ClassFile.FieldType.char), Jvm.Cond.code ({ cls := "java/lang/String", name := "isLatin1", desc := "()Z" } : Jvm.MethodName) jdk_42_method_154_code (1 : Nat) (Option.some Jvm.ClassFile.FieldType.boolean), Jvm.Cond.code ({ cls := "java/lang/StringLatin1", name := "charAt", desc := "([BI)C" } : Jvm.MethodName) jdk_43_method_2_code (2 : Nat) (Option.some Jvm.ClassFile.FieldType.char), Jvm.Cond.code ({ cls := "java/lang/String", name := "checkIndex", desc := "(II)V" } : Jvm.MethodName) jdk_42_method_155_code (2 : Nat) (Option.none : Option Jvm.ClassFile.FieldType), Jvm.Cond.code ({ cls := "jdk/internal/util/Preconditions", name := "checkIndex", desc := "(IILjava/util/function/BiFunction;)I" } : Jvm.MethodName) jdk_41_method_11_code (3 : Nat) (Option.some Jvm.ClassFile.FieldType.int), Jvm.Cond.code ({ cls := "java/lang/StringUTF16", name := "toBytes", desc := "([CII)[B" } : Jvm.MethodName) jdk_52_method_14_code (5 : Nat) (Option.some (Jvm.ClassFile.FieldType.array Jvm.ClassFile.FieldType.byte)), Jvm.Cond.code ({ cls := "java/lang/StringUTF16", name := "newBytesFor", desc := "(I)[B" } : Jvm.MethodName) jdk_52_method_2_code (1 : Nat) (Option.some (Jvm.ClassFile.FieldType.array Jvm.ClassFile.FieldType.byte)), Jvm.Cond.code ({ cls := "java/lang/StringUTF16", name := "newBytesLength", desc := "(I)I" } : Jvm.MethodName) jdk_52_method_3_code (1 : Nat) (Option.some Jvm.ClassFile.FieldType.int), Jvm.Cond.code ({ cls := "java/lang/StringUTF16", name := "putChar", desc := "([BII)V" } : Jvm.MethodName) jdk_52_method_4_code (3 : Nat) (Option.none : Option Jvm.ClassFile.FieldType), Jvm.Cond.code ({ cls := "java/lang/StringUTF16", name := "getChar", desc := "([BI)C" } : Jvm.MethodName) jdk_52_method_5_code (2 : Nat) (Option.some Jvm.ClassFile.FieldType.char), Jvm.Cond.code ({ cls := "java/lang/StringUTF16", name := "charAt", desc := "([BI)C" } : Jvm.MethodName) jdk_52_method_83_code (2 : Nat) (Option.some Jvm.ClassFile.FieldType.char), Jvm.Cond.code ({ cls := "java/lang/StringUTF16", name := "checkIndex", desc := "(I[B)V" } : Jvm.MethodName) jdk_52_method_91_code (2 : Nat) (Option.none : Option Jvm.ClassFile.FieldType), Jvm.Cond.code ({ cls := "java/lang/StringUTF16", name := "length", desc := "([B)I" } : Jvm.MethodName) jdk_52_method_6_code (1 : Nat) (Option.some Jvm.ClassFile.FieldType.int)]
set_option maxRecDepth 65536 in
theorem codes_eq : words1.filter isCode = codes1 := rfl
theorem w_codes : ∀ c ∈ words1.filter isCode, c.before args0 about1 = true := by
  rw [codes_eq]
  intro c hc
  simp only [codes1, List.mem_cons, List.not_mem_nil, or_false] at hc
  rcases hc with rfl | rfl | rfl | rfl | rfl | rfl | rfl | rfl | rfl | rfl | rfl | rfl | rfl | rfl | rfl | rfl | rfl | rfl | rfl | rfl | rfl | rfl | rfl | rfl | rfl | rfl
  · exact w_c0
  · exact w_c1
  · exact w_c2
  · exact w_c3
  · exact w_c4
  · exact w_c5
  · exact w_c6
  · exact w_c7
  · exact w_c8
  · exact w_c9
  · exact w_c10
  · exact w_c11
  · exact w_c12
  · exact w_c13
  · exact w_c14
  · exact w_c15
  · exact w_c16
  · exact w_c17
  · exact w_c18
  · exact w_c19
  · exact w_c20
  · exact w_c21
  · exact w_c22
  · exact w_c23
  · exact w_c24
  · exact w_c25
set_option maxRecDepth 65536 in
theorem w_t1 : (words1.take 24).all (fun c => isCode c || c.before args0 about1) = true := by decide +kernel
set_option maxRecDepth 65536 in
theorem w_t2 : ((words1.drop 24).take 24).all (fun c => isCode c || c.before args0 about1) = true := by decide +kernel
set_option maxRecDepth 65536 in
theorem w_t3 : (((words1.drop 24).drop 24).take 24).all (fun c => isCode c || c.before args0 about1) = true := by decide +kernel
set_option maxRecDepth 65536 in
theorem w_t4 : ((((words1.drop 24).drop 24).drop 24).take 24).all (fun c => isCode c || c.before args0 about1) = true := by decide +kernel
set_option maxRecDepth 65536 in
theorem w_t5 : ((((words1.drop 24).drop 24).drop 24).drop 24).all (fun c => isCode c || c.before args0 about1) = true := by decide +kernel
theorem w_tables : (allAtoms (Jvm.Cond.code x code maxLocals ret :: tables_1)).before args0 about1 = true := by
  rw [allAtoms_all]
  show words1.all (fun c => c.before args0 about1) = true
  refine all_split ?_ w_codes
  rw [← List.take_append_drop 24 words1, List.all_append, w_t1, ← List.take_append_drop 24 (words1.drop 24), List.all_append, w_t2, ← List.take_append_drop 24 ((words1.drop 24).drop 24), List.all_append, w_t3, ← List.take_append_drop 24 (((words1.drop 24).drop 24).drop 24), List.all_append, w_t4, w_t5]
  rfl
set_option maxRecDepth 65536 in
theorem w_rest : rest_1_c.before args0 about1 = true := by decide +kernel
set_option maxRecDepth 65536 in
theorem w_case : (Jvm.Cond.and given_1 narrow_1).before args0 about1 = true := by decide +kernel
set_option maxRecDepth 65536 in
theorem w_consts : constsHeld consts_1 about1 := Jvm.Lit.constsHeldB_iff.mp (by decide +kernel)
theorem w_applies : (headSpec (Jvm.Cond.code x code maxLocals ret :: tables_1) room_1).applies x e0.platform about1 = true :=
  (Spec.applies_iff w_frames).mpr ⟨w_running, w_runnable, w_alone, w_named, w_hears, w_ripe, w_room, w_tables⟩
theorem atStart : AtStart classFile x code maxLocals ret World_1 tables_1 room_1 Calls_1 rest_1 Pre_1 launch0 p0 e0 about1 theMethod args0 below0 :=
  ⟨lists_1, trivial, launch0.admits_env _ _ _, launch0.least_env, fairChoices_fair.cas, fairChoices_fair.clock, w_frames, w_args, w_heap, w_applies, ⟨w_consts, trivial⟩, w_rest, w_case⟩
end start1
theorem witness_1 : WitnessClaimed_1 := ⟨start1.p0, start1.e0, start1.about1, start1.theMethod, start1.args0, start1.below0, start1.atStart⟩
end Jvm.Pilot.@@N@@
