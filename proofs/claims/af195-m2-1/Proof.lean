import JvmDerived
import JvmDerived.Pilot.@@N@@Statement
import JvmDerived.Pilot.@@N@@Code
set_option linter.unusedVariables false
set_option linter.unusedSimpArgs false
@@BLOCK:NumsL.lean.txt@@
namespace Jvm.Pilot.@@N@@
open Jvm Jvm.ClassFile Sem Op Lib Jvm.Free Jvm.Stand Jvm.LawKit Jvm.RoadKit Bundle Jvm.Pilot.@@N@@.Jvm.D
section Own
variable {p : Program} {l : Launch} {e : Env} {R : Room} {s : State} {m : MethodId} {args : Array Value} {below : List Frame} {meth : Method} {c : Code} {T : State} {locs : List Loc} {cells slots : Nat} {Q : Option Value → Heap → List Loc → Prop} {kc ks : Nat} {G : State → Outcome → State → List Loc → Nat → Nat → Prop}
/-- the run from U returns; Q says of what it returned, of the heap and of the places written; kc, ks: how much it may have made -/
def own_Ends (p : Program) (e : Env) (below : List Frame) (s : State) (G : State → Outcome → State → List Loc → Nat → Nat → Prop) (Q : Option Value → Heap → List Loc → Prop) (kc ks : Nat) (U : State) : Prop :=
  ∃ s₂ o, Steps p.tables e below U s₂ ∧ s₂.status = .running ∧ Ended s₂ below o ∧ ∃ v L, o = .returned v ∧ Q v s₂.heap L ∧ G s o s₂ L kc ks
theorem own_of {U U' : State} (h : ∀ t, Steps p.tables e below U' t → Steps p.tables e below U t) (k : own_Ends p e below s G Q kc ks U') : own_Ends p e below s G Q kc ks U := by
  obtain ⟨s₂, o, h1, r⟩ := k
  exact ⟨s₂, o, h _ h1, r⟩
theorem own_eq {U U' : State} (h : U = U') (k : own_Ends p e below s G Q kc ks U') : own_Ends p e below s G Q kc ks U := h ▸ k
theorem own_retN (X : Stand p l e R s m args below meth c T locs cells slots) (hx : p.tables.exec = Jvm.exec) (hlk : meth.locks = false) {pc : Nat} {Ls : Array Slot} {z : Int32} {t : FieldType} {rest : List Value} (hret : meth.sig.returnType = some t) (ht : t = .boolean ∨ t = .byte ∨ t = .char ∨ t = .short)
    (hd : decode c.code pc = .ok (.ireturn, 1)) (hc : cells ≤ kc) (hs : slots ≤ ks) (hq : Q (some (.int (nar t z))) T.heap locs) : own_Ends p e below s FrameEnd Q kc ks (T.setTop (mkF m pc Ls (.int z :: rest))) := by
  obtain ⟨fs, hr, hrun, hended, hW, hsame⟩ := X.leave (v := some (.int (nar t z))) (fun h => by rw [hret] at h; cases h) hlk
  exact ⟨_, _, retN X hx hret ht hd hr, hrun, hended, _, _, rfl, hq, ⟨_, rfl⟩, hW, hsame.mono hc hs⟩
theorem own_retI (X : Stand p l e R s m args below meth c T locs cells slots) (hx : p.tables.exec = Jvm.exec) (hlk : meth.locks = false) {pc : Nat} {Ls : Array Slot} {z : Int32} {rest : List Value} (hret : meth.sig.returnType = some .int)
    (hd : decode c.code pc = .ok (.ireturn, 1)) (hc : cells ≤ kc) (hs : slots ≤ ks) (hq : Q (some (.int z)) T.heap locs) : own_Ends p e below s FrameEnd Q kc ks (T.setTop (mkF m pc Ls (.int z :: rest))) := by
  obtain ⟨fs, hr, hrun, hended, hW, hsame⟩ := X.leave (v := some (.int z)) (fun h => by rw [hret] at h; cases h) hlk
  exact ⟨_, _, retOut X hx hret rfl (Or.inl ⟨rfl, Or.inl rfl, _, rfl⟩) hd hr, hrun, hended, _, _, rfl, hq, ⟨_, rfl⟩, hW, hsame.mono hc hs⟩
theorem own_retL (X : Stand p l e R s m args below meth c T locs cells slots) (hx : p.tables.exec = Jvm.exec) (hlk : meth.locks = false) {pc : Nat} {Ls : Array Slot} {z : Int64} {rest : List Value} (hret : meth.sig.returnType = some .long)
    (hd : decode c.code pc = .ok (.lreturn, 1)) (hc : cells ≤ kc) (hs : slots ≤ ks) (hq : Q (some (.long z)) T.heap locs) : own_Ends p e below s FrameEnd Q kc ks (T.setTop (mkF m pc Ls (.long z :: rest))) := by
  obtain ⟨fs, hr, hrun, hended, hW, hsame⟩ := X.leave (v := some (.long z)) (fun h => by rw [hret] at h; cases h) hlk
  exact ⟨_, _, retOut X hx hret rfl (Or.inr (Or.inl ⟨rfl, rfl, _, rfl⟩)) hd hr, hrun, hended, _, _, rfl, hq, ⟨_, rfl⟩, hW, hsame.mono hc hs⟩
theorem own_retA (X : Stand p l e R s m args below meth c T locs cells slots) (hx : p.tables.exec = Jvm.exec) (hlk : meth.locks = false) {pc : Nat} {Ls : Array Slot} {w : Value} {t : FieldType} {rest : List Value} (hret : meth.sig.returnType = some t) (ht : t.isReference = true) (hw : w.isRef = true)
    (hd : decode c.code pc = .ok (.areturn, 1)) (hc : cells ≤ kc) (hs : slots ≤ ks) (hq : Q (some w) T.heap locs) : own_Ends p e below s FrameEnd Q kc ks (T.setTop (mkF m pc Ls (w :: rest))) := by
  obtain ⟨fs, hr, hrun, hended, hW, hsame⟩ := X.leave (v := some w) (fun h => by rw [hret] at h; cases h) hlk
  have hn : narrow t w = w := by cases t <;> first | (cases ht; done) | rfl | (cases w <;> rfl)
  exact ⟨_, _, retOut X hx hret hn (Or.inr (Or.inr (Or.inr (Or.inr ⟨rfl, ht, hw⟩)))) hd hr, hrun, hended, _, _, rfl, hq, ⟨_, rfl⟩, hW, hsame.mono hc hs⟩
theorem own_ret0 (X : Stand p l e R s m args below meth c T locs cells slots) (hx : p.tables.exec = Jvm.exec) (hlk : meth.locks = false) {pc : Nat} {Ls : Array Slot} (hret : meth.sig.returnType = none)
    (hd : decode c.code pc = .ok (.return_, 1)) (hc : cells ≤ kc) (hs : slots ≤ ks) (hq : Q none T.heap locs) : own_Ends p e below s FrameEnd Q kc ks (T.setTop (mkF m pc Ls [])) := by
  obtain ⟨fs, hr, hrun, hended, hW, hsame⟩ := X.leave (v := none) (fun _ => rfl) hlk
  exact ⟨_, _, X.returnOut hx hret hd hr, hrun, hended, _, _, rfl, hq, ⟨_, rfl⟩, hW, hsame.mono hc hs⟩
variable {vm₁ : Vm} {nS : Nat}
theorem own_monoW {t : State} {o : Outcome} {L : List Loc} {k n k' n' : Nat} (h : ReturnedEndW s o t L k n) (hk : k ≤ k') (hn : n ≤ n') : ReturnedEndW s o t L k' n' := ⟨h.1, h.2.1, h.2.2.1, h.2.2.2.mono hk hn⟩
theorem own_retNW (X : Stand p l e R (s.setVm vm₁) m args below meth c T locs cells slots) (hx : p.tables.exec = Jvm.exec) (hlk : meth.locks = false) (hS : s.Since vm₁ nS) (hk : nS ≤ T.heap.size) {pc : Nat} {Ls : Array Slot} {z : Int32} {t : FieldType} {rest : List Value} (hret : meth.sig.returnType = some t) (ht : t = .boolean ∨ t = .byte ∨ t = .char ∨ t = .short)
    (hd : decode c.code pc = .ok (.ireturn, 1)) (hc : cells ≤ kc) (hs : slots ≤ ks) (hq : Q (some (.int (nar t z))) T.heap locs) : own_Ends p e below s ReturnedEndW Q kc ks (T.setTop (mkF m pc Ls (.int z :: rest))) := by
  obtain ⟨fs, hr, hrun, hended, hW⟩ := X.leaveW hS hk (v := some (.int (nar t z))) (fun h => by rw [hret] at h; cases h) hlk
  exact ⟨_, _, retN X hx hret ht hd hr, hrun, hended, _, _, rfl, hq, own_monoW hW hc hs⟩
theorem own_retIW (X : Stand p l e R (s.setVm vm₁) m args below meth c T locs cells slots) (hx : p.tables.exec = Jvm.exec) (hlk : meth.locks = false) (hS : s.Since vm₁ nS) (hk : nS ≤ T.heap.size) {pc : Nat} {Ls : Array Slot} {z : Int32} {rest : List Value} (hret : meth.sig.returnType = some .int)
    (hd : decode c.code pc = .ok (.ireturn, 1)) (hc : cells ≤ kc) (hs : slots ≤ ks) (hq : Q (some (.int z)) T.heap locs) : own_Ends p e below s ReturnedEndW Q kc ks (T.setTop (mkF m pc Ls (.int z :: rest))) := by
  obtain ⟨fs, hr, hrun, hended, hW⟩ := X.leaveW hS hk (v := some (.int z)) (fun h => by rw [hret] at h; cases h) hlk
  exact ⟨_, _, retOut X hx hret rfl (Or.inl ⟨rfl, Or.inl rfl, _, rfl⟩) hd hr, hrun, hended, _, _, rfl, hq, own_monoW hW hc hs⟩
theorem own_retAW (X : Stand p l e R (s.setVm vm₁) m args below meth c T locs cells slots) (hx : p.tables.exec = Jvm.exec) (hlk : meth.locks = false) (hS : s.Since vm₁ nS) (hk : nS ≤ T.heap.size) {pc : Nat} {Ls : Array Slot} {w : Value} {t : FieldType} {rest : List Value} (hret : meth.sig.returnType = some t) (ht : t.isReference = true) (hw : w.isRef = true)
    (hd : decode c.code pc = .ok (.areturn, 1)) (hc : cells ≤ kc) (hs : slots ≤ ks) (hq : Q (some w) T.heap locs) : own_Ends p e below s ReturnedEndW Q kc ks (T.setTop (mkF m pc Ls (w :: rest))) := by
  obtain ⟨fs, hr, hrun, hended, hW⟩ := X.leaveW hS hk (v := some w) (fun h => by rw [hret] at h; cases h) hlk
  have hn : narrow t w = w := by cases t <;> first | (cases ht; done) | rfl | (cases w <;> rfl)
  exact ⟨_, _, retOut X hx hret hn (Or.inr (Or.inr (Or.inr (Or.inr ⟨rfl, ht, hw⟩)))) hd hr, hrun, hended, _, _, rfl, hq, own_monoW hW hc hs⟩
theorem own_ret0W (X : Stand p l e R (s.setVm vm₁) m args below meth c T locs cells slots) (hx : p.tables.exec = Jvm.exec) (hlk : meth.locks = false) (hS : s.Since vm₁ nS) (hk : nS ≤ T.heap.size) {pc : Nat} {Ls : Array Slot} (hret : meth.sig.returnType = none)
    (hd : decode c.code pc = .ok (.return_, 1)) (hc : cells ≤ kc) (hs : slots ≤ ks) (hq : Q none T.heap locs) : own_Ends p e below s ReturnedEndW Q kc ks (T.setTop (mkF m pc Ls [])) := by
  obtain ⟨fs, hr, hrun, hended, hW⟩ := X.leaveW hS hk (v := none) (fun _ => rfl) hlk
  exact ⟨_, _, X.returnOut hx hret hd hr, hrun, hended, _, _, rfl, hq, own_monoW hW hc hs⟩
end Own
theorem own_b1 : nar .boolean (1 : Int32) = 1 := rfl
theorem own_b0 : nar .boolean (0 : Int32) = 0 := rfl
section Own2
variable {p : Program} {l : Launch} {e : Env} {R : Room} {s sS : State} {m : MethodId} {args : Array Value} {below : List Frame} {meth : Method} {c : Code} {T : State} {locs : List Loc} {cells slots : Nat} {Q : Option Value → Heap → List Loc → Prop} {kc ks : Nat} {G : State → Outcome → State → List Loc → Nat → Nat → Prop}
theorem own_iloadN (X : Stand p l e R sS m args below meth c T locs cells slots) (hx : p.tables.exec = Jvm.exec) {code : ByteArray} (hby : c.code = code) {pc : Nat} {Ls : Array Slot} {St : List Value} {k : Fin 4} {v : Int32} (hd : decode code pc = .ok (.iload_n k, 1)) (hl : Ls[k.val]? = some (.val (.int v))) (k : own_Ends p e below s G Q kc ks (T.setTop (mkF m (pc + 1) Ls (.int v :: St)))) : own_Ends p e below s G Q kc ks (T.setTop (mkF m pc Ls (St))) := own_of (fun _ q => XS.iloadN X.here hx rfl (hb hby hd) hl q) k
theorem own_iload (X : Stand p l e R sS m args below meth c T locs cells slots) (hx : p.tables.exec = Jvm.exec) {code : ByteArray} (hby : c.code = code) {pc : Nat} {Ls : Array Slot} {St : List Value} {k : Nat} {v : Int32} (hd : decode code pc = .ok (.iload k, 2)) (hl : Ls[k]? = some (.val (.int v))) (k : own_Ends p e below s G Q kc ks (T.setTop (mkF m (pc + 2) Ls (.int v :: St)))) : own_Ends p e below s G Q kc ks (T.setTop (mkF m pc Ls (St))) := own_of (fun _ q => XS.iload X.here hx rfl (hb hby hd) hl q) k
theorem own_lloadN (X : Stand p l e R sS m args below meth c T locs cells slots) (hx : p.tables.exec = Jvm.exec) {code : ByteArray} (hby : c.code = code) {pc : Nat} {Ls : Array Slot} {St : List Value} {k : Fin 4} {v : Int64} (hd : decode code pc = .ok (.lload_n k, 1)) (hl : Ls[k.val]? = some (.val (.long v))) (k : own_Ends p e below s G Q kc ks (T.setTop (mkF m (pc + 1) Ls (.long v :: St)))) : own_Ends p e below s G Q kc ks (T.setTop (mkF m pc Ls (St))) := own_of (fun _ q => XT.lloadN X.here hx rfl (hb hby hd) hl q) k
theorem own_lload (X : Stand p l e R sS m args below meth c T locs cells slots) (hx : p.tables.exec = Jvm.exec) {code : ByteArray} (hby : c.code = code) {pc : Nat} {Ls : Array Slot} {St : List Value} {k : Nat} {v : Int64} (hd : decode code pc = .ok (.lload k, 2)) (hl : Ls[k]? = some (.val (.long v))) (k : own_Ends p e below s G Q kc ks (T.setTop (mkF m (pc + 2) Ls (.long v :: St)))) : own_Ends p e below s G Q kc ks (T.setTop (mkF m pc Ls (St))) := own_of (fun _ q => XT.lload X.here hx rfl (hb hby hd) hl q) k
theorem own_dloadN (X : Stand p l e R sS m args below meth c T locs cells slots) (hx : p.tables.exec = Jvm.exec) {code : ByteArray} (hby : c.code = code) {pc : Nat} {Ls : Array Slot} {St : List Value} {k : Fin 4} {v : UInt64} (hd : decode code pc = .ok (.dload_n k, 1)) (hl : Ls[k.val]? = some (.val (.double v))) (k : own_Ends p e below s G Q kc ks (T.setTop (mkF m (pc + 1) Ls (.double v :: St)))) : own_Ends p e below s G Q kc ks (T.setTop (mkF m pc Ls (St))) := own_of (fun _ q => XS.dloadN X.here hx rfl (hb hby hd) hl q) k
theorem own_dload (X : Stand p l e R sS m args below meth c T locs cells slots) (hx : p.tables.exec = Jvm.exec) {code : ByteArray} (hby : c.code = code) {pc : Nat} {Ls : Array Slot} {St : List Value} {k : Nat} {v : UInt64} (hd : decode code pc = .ok (.dload k, 2)) (hl : Ls[k]? = some (.val (.double v))) (k : own_Ends p e below s G Q kc ks (T.setTop (mkF m (pc + 2) Ls (.double v :: St)))) : own_Ends p e below s G Q kc ks (T.setTop (mkF m pc Ls (St))) := own_of (fun _ q => XS.dload X.here hx rfl (hb hby hd) hl q) k
theorem own_aloadN (X : Stand p l e R sS m args below meth c T locs cells slots) (hx : p.tables.exec = Jvm.exec) {code : ByteArray} (hby : c.code = code) {pc : Nat} {Ls : Array Slot} {St : List Value} {k : Fin 4} {v : Value} (hd : decode code pc = .ok (.aload_n k, 1)) (hl : Ls[k.val]? = some (.val v)) (hv : v.isRef = true) (k : own_Ends p e below s G Q kc ks (T.setTop (mkF m (pc + 1) Ls (v :: St)))) : own_Ends p e below s G Q kc ks (T.setTop (mkF m pc Ls (St))) := own_of (fun _ q => XS.aloadN X.here hx rfl (hb hby hd) hl hv q) k
theorem own_aload (X : Stand p l e R sS m args below meth c T locs cells slots) (hx : p.tables.exec = Jvm.exec) {code : ByteArray} (hby : c.code = code) {pc : Nat} {Ls : Array Slot} {St : List Value} {k : Nat} {v : Value} (hd : decode code pc = .ok (.aload k, 2)) (hl : Ls[k]? = some (.val v)) (hv : v.isRef = true) (k : own_Ends p e below s G Q kc ks (T.setTop (mkF m (pc + 2) Ls (v :: St)))) : own_Ends p e below s G Q kc ks (T.setTop (mkF m pc Ls (St))) := own_of (fun _ q => XS.aload X.here hx rfl (hb hby hd) hl hv q) k
theorem own_istoreN (X : Stand p l e R sS m args below meth c T locs cells slots) (hx : p.tables.exec = Jvm.exec) {code : ByteArray} (hby : c.code = code) {pc : Nat} {Ls : Array Slot} {St : List Value} {k : Fin 4} {x : Int32} {l' : Array Slot} (hd : decode code pc = .ok (.istore_n k, 1)) (hl : storeLocals Ls k.val (.int x) = some l') (k : own_Ends p e below s G Q kc ks (T.setTop (mkF m (pc + 1) l' (St)))) : own_Ends p e below s G Q kc ks (T.setTop (mkF m pc Ls (.int x :: St))) := own_of (fun _ q => XS.istoreN X.here hx rfl (hb hby hd) rfl hl q) k
theorem own_istore (X : Stand p l e R sS m args below meth c T locs cells slots) (hx : p.tables.exec = Jvm.exec) {code : ByteArray} (hby : c.code = code) {pc : Nat} {Ls : Array Slot} {St : List Value} {k : Nat} {x : Int32} {l' : Array Slot} (hd : decode code pc = .ok (.istore k, 2)) (hl : storeLocals Ls k (.int x) = some l') (k : own_Ends p e below s G Q kc ks (T.setTop (mkF m (pc + 2) l' (St)))) : own_Ends p e below s G Q kc ks (T.setTop (mkF m pc Ls (.int x :: St))) := own_of (fun _ q => XS.istore X.here hx rfl (hb hby hd) rfl hl q) k
theorem own_lstoreN (X : Stand p l e R sS m args below meth c T locs cells slots) (hx : p.tables.exec = Jvm.exec) {code : ByteArray} (hby : c.code = code) {pc : Nat} {Ls : Array Slot} {St : List Value} {k : Fin 4} {x : Int64} {l' : Array Slot} (hd : decode code pc = .ok (.lstore_n k, 1)) (hl : storeLocals Ls k.val (.long x) = some l') (k : own_Ends p e below s G Q kc ks (T.setTop (mkF m (pc + 1) l' (St)))) : own_Ends p e below s G Q kc ks (T.setTop (mkF m pc Ls (.long x :: St))) := own_of (fun _ q => XT.lstoreN X.here hx rfl (hb hby hd) rfl hl q) k
theorem own_lstore (X : Stand p l e R sS m args below meth c T locs cells slots) (hx : p.tables.exec = Jvm.exec) {code : ByteArray} (hby : c.code = code) {pc : Nat} {Ls : Array Slot} {St : List Value} {k : Nat} {x : Int64} {l' : Array Slot} (hd : decode code pc = .ok (.lstore k, 2)) (hl : storeLocals Ls k (.long x) = some l') (k : own_Ends p e below s G Q kc ks (T.setTop (mkF m (pc + 2) l' (St)))) : own_Ends p e below s G Q kc ks (T.setTop (mkF m pc Ls (.long x :: St))) := own_of (fun _ q => XT.lstore X.here hx rfl (hb hby hd) rfl hl q) k
theorem own_astoreN (X : Stand p l e R sS m args below meth c T locs cells slots) (hx : p.tables.exec = Jvm.exec) {code : ByteArray} (hby : c.code = code) {pc : Nat} {Ls : Array Slot} {St : List Value} {k : Fin 4} {x : Value} {l' : Array Slot} (hd : decode code pc = .ok (.astore_n k, 1)) (hv : x.isRef = true) (hl : storeLocals Ls k.val x = some l') (k : own_Ends p e below s G Q kc ks (T.setTop (mkF m (pc + 1) l' (St)))) : own_Ends p e below s G Q kc ks (T.setTop (mkF m pc Ls (x :: St))) := own_of (fun _ q => XS.astoreN X.here hx rfl (hb hby hd) rfl hv hl q) k
theorem own_astore (X : Stand p l e R sS m args below meth c T locs cells slots) (hx : p.tables.exec = Jvm.exec) {code : ByteArray} (hby : c.code = code) {pc : Nat} {Ls : Array Slot} {St : List Value} {k : Nat} {x : Value} {l' : Array Slot} (hd : decode code pc = .ok (.astore k, 2)) (hv : x.isRef = true) (hl : storeLocals Ls k x = some l') (k : own_Ends p e below s G Q kc ks (T.setTop (mkF m (pc + 2) l' (St)))) : own_Ends p e below s G Q kc ks (T.setTop (mkF m pc Ls (x :: St))) := own_of (fun _ q => XS.astore X.here hx rfl (hb hby hd) rfl hv hl q) k
theorem own_aconstNull (X : Stand p l e R sS m args below meth c T locs cells slots) (hx : p.tables.exec = Jvm.exec) {code : ByteArray} (hby : c.code = code) {pc : Nat} {Ls : Array Slot} {St : List Value}  (hd : decode code pc = .ok (.aconst_null, 1)) (k : own_Ends p e below s G Q kc ks (T.setTop (mkF m (pc + 1) Ls (.null :: St)))) : own_Ends p e below s G Q kc ks (T.setTop (mkF m pc Ls (St))) := own_of (fun _ q => XS.aconstNull X.here hx rfl (hb hby hd) q) k
theorem own_iadd (X : Stand p l e R sS m args below meth c T locs cells slots) (hx : p.tables.exec = Jvm.exec) {code : ByteArray} (hby : c.code = code) {pc : Nat} {Ls : Array Slot} {St : List Value} {x y : Int32} (hd : decode code pc = .ok (.iadd, 1)) (k : own_Ends p e below s G Q kc ks (T.setTop (mkF m (pc + 1) Ls (.int (x + y) :: St)))) : own_Ends p e below s G Q kc ks (T.setTop (mkF m pc Ls (.int y :: .int x :: St))) := own_of (fun _ q => XS.iadd X.here hx rfl (hb hby hd) rfl q) k
theorem own_isub (X : Stand p l e R sS m args below meth c T locs cells slots) (hx : p.tables.exec = Jvm.exec) {code : ByteArray} (hby : c.code = code) {pc : Nat} {Ls : Array Slot} {St : List Value} {x y : Int32} (hd : decode code pc = .ok (.isub, 1)) (k : own_Ends p e below s G Q kc ks (T.setTop (mkF m (pc + 1) Ls (.int (x - y) :: St)))) : own_Ends p e below s G Q kc ks (T.setTop (mkF m pc Ls (.int y :: .int x :: St))) := own_of (fun _ q => XS.isub X.here hx rfl (hb hby hd) rfl q) k
theorem own_imul (X : Stand p l e R sS m args below meth c T locs cells slots) (hx : p.tables.exec = Jvm.exec) {code : ByteArray} (hby : c.code = code) {pc : Nat} {Ls : Array Slot} {St : List Value} {x y : Int32} (hd : decode code pc = .ok (.imul, 1)) (k : own_Ends p e below s G Q kc ks (T.setTop (mkF m (pc + 1) Ls (.int (x * y) :: St)))) : own_Ends p e below s G Q kc ks (T.setTop (mkF m pc Ls (.int y :: .int x :: St))) := own_of (fun _ q => XS.imul X.here hx rfl (hb hby hd) rfl q) k
theorem own_iand (X : Stand p l e R sS m args below meth c T locs cells slots) (hx : p.tables.exec = Jvm.exec) {code : ByteArray} (hby : c.code = code) {pc : Nat} {Ls : Array Slot} {St : List Value} {x y : Int32} (hd : decode code pc = .ok (.iand, 1)) (k : own_Ends p e below s G Q kc ks (T.setTop (mkF m (pc + 1) Ls (.int (x &&& y) :: St)))) : own_Ends p e below s G Q kc ks (T.setTop (mkF m pc Ls (.int y :: .int x :: St))) := own_of (fun _ q => XS.iand X.here hx rfl (hb hby hd) rfl q) k
theorem own_ior (X : Stand p l e R sS m args below meth c T locs cells slots) (hx : p.tables.exec = Jvm.exec) {code : ByteArray} (hby : c.code = code) {pc : Nat} {Ls : Array Slot} {St : List Value} {x y : Int32} (hd : decode code pc = .ok (.ior, 1)) (k : own_Ends p e below s G Q kc ks (T.setTop (mkF m (pc + 1) Ls (.int (x ||| y) :: St)))) : own_Ends p e below s G Q kc ks (T.setTop (mkF m pc Ls (.int y :: .int x :: St))) := own_of (fun _ q => XT.ior X.here hx rfl (hb hby hd) rfl q) k
theorem own_ixor (X : Stand p l e R sS m args below meth c T locs cells slots) (hx : p.tables.exec = Jvm.exec) {code : ByteArray} (hby : c.code = code) {pc : Nat} {Ls : Array Slot} {St : List Value} {x y : Int32} (hd : decode code pc = .ok (.ixor, 1)) (k : own_Ends p e below s G Q kc ks (T.setTop (mkF m (pc + 1) Ls (.int (x ^^^ y) :: St)))) : own_Ends p e below s G Q kc ks (T.setTop (mkF m pc Ls (.int y :: .int x :: St))) := own_of (fun _ q => XT.ixor X.here hx rfl (hb hby hd) rfl q) k
theorem own_ladd (X : Stand p l e R sS m args below meth c T locs cells slots) (hx : p.tables.exec = Jvm.exec) {code : ByteArray} (hby : c.code = code) {pc : Nat} {Ls : Array Slot} {St : List Value} {x y : Int64} (hd : decode code pc = .ok (.ladd, 1)) (k : own_Ends p e below s G Q kc ks (T.setTop (mkF m (pc + 1) Ls (.long (x + y) :: St)))) : own_Ends p e below s G Q kc ks (T.setTop (mkF m pc Ls (.long y :: .long x :: St))) := own_of (fun _ q => XT.ladd X.here hx rfl (hb hby hd) rfl q) k
theorem own_lsub (X : Stand p l e R sS m args below meth c T locs cells slots) (hx : p.tables.exec = Jvm.exec) {code : ByteArray} (hby : c.code = code) {pc : Nat} {Ls : Array Slot} {St : List Value} {x y : Int64} (hd : decode code pc = .ok (.lsub, 1)) (k : own_Ends p e below s G Q kc ks (T.setTop (mkF m (pc + 1) Ls (.long (x - y) :: St)))) : own_Ends p e below s G Q kc ks (T.setTop (mkF m pc Ls (.long y :: .long x :: St))) := own_of (fun _ q => XT.lsub X.here hx rfl (hb hby hd) rfl q) k
theorem own_lmul (X : Stand p l e R sS m args below meth c T locs cells slots) (hx : p.tables.exec = Jvm.exec) {code : ByteArray} (hby : c.code = code) {pc : Nat} {Ls : Array Slot} {St : List Value} {x y : Int64} (hd : decode code pc = .ok (.lmul, 1)) (k : own_Ends p e below s G Q kc ks (T.setTop (mkF m (pc + 1) Ls (.long (x * y) :: St)))) : own_Ends p e below s G Q kc ks (T.setTop (mkF m pc Ls (.long y :: .long x :: St))) := own_of (fun _ q => XT.lmul X.here hx rfl (hb hby hd) rfl q) k
theorem own_land (X : Stand p l e R sS m args below meth c T locs cells slots) (hx : p.tables.exec = Jvm.exec) {code : ByteArray} (hby : c.code = code) {pc : Nat} {Ls : Array Slot} {St : List Value} {x y : Int64} (hd : decode code pc = .ok (.land, 1)) (k : own_Ends p e below s G Q kc ks (T.setTop (mkF m (pc + 1) Ls (.long (x &&& y) :: St)))) : own_Ends p e below s G Q kc ks (T.setTop (mkF m pc Ls (.long y :: .long x :: St))) := own_of (fun _ q => XT.land X.here hx rfl (hb hby hd) rfl q) k
theorem own_lor (X : Stand p l e R sS m args below meth c T locs cells slots) (hx : p.tables.exec = Jvm.exec) {code : ByteArray} (hby : c.code = code) {pc : Nat} {Ls : Array Slot} {St : List Value} {x y : Int64} (hd : decode code pc = .ok (.lor, 1)) (k : own_Ends p e below s G Q kc ks (T.setTop (mkF m (pc + 1) Ls (.long (x ||| y) :: St)))) : own_Ends p e below s G Q kc ks (T.setTop (mkF m pc Ls (.long y :: .long x :: St))) := own_of (fun _ q => XT.lor X.here hx rfl (hb hby hd) rfl q) k
theorem own_lxor (X : Stand p l e R sS m args below meth c T locs cells slots) (hx : p.tables.exec = Jvm.exec) {code : ByteArray} (hby : c.code = code) {pc : Nat} {Ls : Array Slot} {St : List Value} {x y : Int64} (hd : decode code pc = .ok (.lxor, 1)) (k : own_Ends p e below s G Q kc ks (T.setTop (mkF m (pc + 1) Ls (.long (x ^^^ y) :: St)))) : own_Ends p e below s G Q kc ks (T.setTop (mkF m pc Ls (.long y :: .long x :: St))) := own_of (fun _ q => XT.lxor X.here hx rfl (hb hby hd) rfl q) k
theorem own_ishl (X : Stand p l e R sS m args below meth c T locs cells slots) (hx : p.tables.exec = Jvm.exec) {code : ByteArray} (hby : c.code = code) {pc : Nat} {Ls : Array Slot} {St : List Value} {x y : Int32} (hd : decode code pc = .ok (.ishl, 1)) (k : own_Ends p e below s G Q kc ks (T.setTop (mkF m (pc + 1) Ls (.int (x <<< (y &&& 31)) :: St)))) : own_Ends p e below s G Q kc ks (T.setTop (mkF m pc Ls (.int y :: .int x :: St))) := own_of (fun _ q => XT.ishl X.here hx rfl (hb hby hd) rfl q) k
theorem own_ishr (X : Stand p l e R sS m args below meth c T locs cells slots) (hx : p.tables.exec = Jvm.exec) {code : ByteArray} (hby : c.code = code) {pc : Nat} {Ls : Array Slot} {St : List Value} {x y : Int32} (hd : decode code pc = .ok (.ishr, 1)) (k : own_Ends p e below s G Q kc ks (T.setTop (mkF m (pc + 1) Ls (.int (x >>> (y &&& 31)) :: St)))) : own_Ends p e below s G Q kc ks (T.setTop (mkF m pc Ls (.int y :: .int x :: St))) := own_of (fun _ q => XT.ishr X.here hx rfl (hb hby hd) rfl q) k
theorem own_iushr (X : Stand p l e R sS m args below meth c T locs cells slots) (hx : p.tables.exec = Jvm.exec) {code : ByteArray} (hby : c.code = code) {pc : Nat} {Ls : Array Slot} {St : List Value} {x y : Int32} (hd : decode code pc = .ok (.iushr, 1)) (k : own_Ends p e below s G Q kc ks (T.setTop (mkF m (pc + 1) Ls (.int (XT.ushr x y) :: St)))) : own_Ends p e below s G Q kc ks (T.setTop (mkF m pc Ls (.int y :: .int x :: St))) := own_of (fun _ q => XT.iushr X.here hx rfl (hb hby hd) rfl q) k
theorem own_lshl (X : Stand p l e R sS m args below meth c T locs cells slots) (hx : p.tables.exec = Jvm.exec) {code : ByteArray} (hby : c.code = code) {pc : Nat} {Ls : Array Slot} {St : List Value} {x : Int64} {y : Int32} (hd : decode code pc = .ok (.lshl, 1)) (k : own_Ends p e below s G Q kc ks (T.setTop (mkF m (pc + 1) Ls (.long (x <<< (y.toInt64 &&& 63)) :: St)))) : own_Ends p e below s G Q kc ks (T.setTop (mkF m pc Ls (.int y :: .long x :: St))) := own_of (fun _ q => XT.lshl X.here hx rfl (hb hby hd) rfl q) k
theorem own_lshr (X : Stand p l e R sS m args below meth c T locs cells slots) (hx : p.tables.exec = Jvm.exec) {code : ByteArray} (hby : c.code = code) {pc : Nat} {Ls : Array Slot} {St : List Value} {x : Int64} {y : Int32} (hd : decode code pc = .ok (.lshr, 1)) (k : own_Ends p e below s G Q kc ks (T.setTop (mkF m (pc + 1) Ls (.long (x >>> (y.toInt64 &&& 63)) :: St)))) : own_Ends p e below s G Q kc ks (T.setTop (mkF m pc Ls (.int y :: .long x :: St))) := own_of (fun _ q => XT.lshr X.here hx rfl (hb hby hd) rfl q) k
theorem own_lushr (X : Stand p l e R sS m args below meth c T locs cells slots) (hx : p.tables.exec = Jvm.exec) {code : ByteArray} (hby : c.code = code) {pc : Nat} {Ls : Array Slot} {St : List Value} {x : Int64} {y : Int32} (hd : decode code pc = .ok (.lushr, 1)) (k : own_Ends p e below s G Q kc ks (T.setTop (mkF m (pc + 1) Ls (.long (XT.ushrL x y) :: St)))) : own_Ends p e below s G Q kc ks (T.setTop (mkF m pc Ls (.int y :: .long x :: St))) := own_of (fun _ q => XT.lushr X.here hx rfl (hb hby hd) rfl q) k
theorem own_ineg (X : Stand p l e R sS m args below meth c T locs cells slots) (hx : p.tables.exec = Jvm.exec) {code : ByteArray} (hby : c.code = code) {pc : Nat} {Ls : Array Slot} {St : List Value} {x : Int32} (hd : decode code pc = .ok (.ineg, 1)) (k : own_Ends p e below s G Q kc ks (T.setTop (mkF m (pc + 1) Ls (.int (-x) :: St)))) : own_Ends p e below s G Q kc ks (T.setTop (mkF m pc Ls (.int x :: St))) := own_of (fun _ q => XS.ineg X.here hx rfl (hb hby hd) rfl q) k
theorem own_lneg (X : Stand p l e R sS m args below meth c T locs cells slots) (hx : p.tables.exec = Jvm.exec) {code : ByteArray} (hby : c.code = code) {pc : Nat} {Ls : Array Slot} {St : List Value} {x : Int64} (hd : decode code pc = .ok (.lneg, 1)) (k : own_Ends p e below s G Q kc ks (T.setTop (mkF m (pc + 1) Ls (.long (-x) :: St)))) : own_Ends p e below s G Q kc ks (T.setTop (mkF m pc Ls (.long x :: St))) := own_of (fun _ q => XT.lneg X.here hx rfl (hb hby hd) rfl q) k
theorem own_i2l (X : Stand p l e R sS m args below meth c T locs cells slots) (hx : p.tables.exec = Jvm.exec) {code : ByteArray} (hby : c.code = code) {pc : Nat} {Ls : Array Slot} {St : List Value} {x : Int32} (hd : decode code pc = .ok (.i2l, 1)) (k : own_Ends p e below s G Q kc ks (T.setTop (mkF m (pc + 1) Ls (.long (x.toInt64) :: St)))) : own_Ends p e below s G Q kc ks (T.setTop (mkF m pc Ls (.int x :: St))) := own_of (fun _ q => XT.i2l X.here hx rfl (hb hby hd) rfl q) k
theorem own_l2i (X : Stand p l e R sS m args below meth c T locs cells slots) (hx : p.tables.exec = Jvm.exec) {code : ByteArray} (hby : c.code = code) {pc : Nat} {Ls : Array Slot} {St : List Value} {x : Int64} (hd : decode code pc = .ok (.l2i, 1)) (k : own_Ends p e below s G Q kc ks (T.setTop (mkF m (pc + 1) Ls (.int (x.toInt32) :: St)))) : own_Ends p e below s G Q kc ks (T.setTop (mkF m pc Ls (.long x :: St))) := own_of (fun _ q => XT.l2i X.here hx rfl (hb hby hd) rfl q) k
theorem own_i2b (X : Stand p l e R sS m args below meth c T locs cells slots) (hx : p.tables.exec = Jvm.exec) {code : ByteArray} (hby : c.code = code) {pc : Nat} {Ls : Array Slot} {St : List Value} {x : Int32} (hd : decode code pc = .ok (.i2b, 1)) (k : own_Ends p e below s G Q kc ks (T.setTop (mkF m (pc + 1) Ls (.int (x.toInt8.toInt32) :: St)))) : own_Ends p e below s G Q kc ks (T.setTop (mkF m pc Ls (.int x :: St))) := own_of (fun _ q => XT.i2b X.here hx rfl (hb hby hd) rfl q) k
theorem own_i2s (X : Stand p l e R sS m args below meth c T locs cells slots) (hx : p.tables.exec = Jvm.exec) {code : ByteArray} (hby : c.code = code) {pc : Nat} {Ls : Array Slot} {St : List Value} {x : Int32} (hd : decode code pc = .ok (.i2s, 1)) (k : own_Ends p e below s G Q kc ks (T.setTop (mkF m (pc + 1) Ls (.int (x.toInt16.toInt32) :: St)))) : own_Ends p e below s G Q kc ks (T.setTop (mkF m pc Ls (.int x :: St))) := own_of (fun _ q => XT.i2s X.here hx rfl (hb hby hd) rfl q) k
theorem own_i2c (X : Stand p l e R sS m args below meth c T locs cells slots) (hx : p.tables.exec = Jvm.exec) {code : ByteArray} (hby : c.code = code) {pc : Nat} {Ls : Array Slot} {St : List Value} {x : Int32} (hd : decode code pc = .ok (.i2c, 1)) (k : own_Ends p e below s G Q kc ks (T.setTop (mkF m (pc + 1) Ls (.int (x.toUInt32.toUInt16.toUInt32.toInt32) :: St)))) : own_Ends p e below s G Q kc ks (T.setTop (mkF m pc Ls (.int x :: St))) := own_of (fun _ q => XT.i2c X.here hx rfl (hb hby hd) rfl q) k
theorem own_lcmp (X : Stand p l e R sS m args below meth c T locs cells slots) (hx : p.tables.exec = Jvm.exec) {code : ByteArray} (hby : c.code = code) {pc : Nat} {Ls : Array Slot} {St : List Value} {x y : Int64} (hd : decode code pc = .ok (.lcmp, 1)) (k : own_Ends p e below s G Q kc ks (T.setTop (mkF m (pc + 1) Ls (.int (XT.cmpL x y) :: St)))) : own_Ends p e below s G Q kc ks (T.setTop (mkF m pc Ls (.long y :: .long x :: St))) := own_of (fun _ q => XT.lcmp X.here hx rfl (hb hby hd) rfl q) k
theorem own_dup (X : Stand p l e R sS m args below meth c T locs cells slots) (hx : p.tables.exec = Jvm.exec) {code : ByteArray} (hby : c.code = code) {pc : Nat} {Ls : Array Slot} {St : List Value} {x : Value} (hd : decode code pc = .ok (.dup, 1)) (hc : x.category = 1) (k : own_Ends p e below s G Q kc ks (T.setTop (mkF m (pc + 1) Ls (x :: x :: St)))) : own_Ends p e below s G Q kc ks (T.setTop (mkF m pc Ls (x :: St))) := own_of (fun _ q => XS.dup X.here hx rfl (hb hby hd) rfl hc q) k
theorem own_dupX1 (X : Stand p l e R sS m args below meth c T locs cells slots) (hx : p.tables.exec = Jvm.exec) {code : ByteArray} (hby : c.code = code) {pc : Nat} {Ls : Array Slot} {St : List Value} {x y : Value} (hd : decode code pc = .ok (.dup_x1, 1)) (hc : x.category = 1) (hc' : y.category = 1) (k : own_Ends p e below s G Q kc ks (T.setTop (mkF m (pc + 1) Ls (x :: y :: x :: St)))) : own_Ends p e below s G Q kc ks (T.setTop (mkF m pc Ls (x :: y :: St))) := own_of (fun _ q => XT.dupX1 X.here hx rfl (hb hby hd) rfl hc hc' q) k
theorem own_dup2 (X : Stand p l e R sS m args below meth c T locs cells slots) (hx : p.tables.exec = Jvm.exec) {code : ByteArray} (hby : c.code = code) {pc : Nat} {Ls : Array Slot} {St : List Value} {x y : Value} (hd : decode code pc = .ok (.dup2, 1)) (hc : x.category = 1) (hc' : y.category = 1) (k : own_Ends p e below s G Q kc ks (T.setTop (mkF m (pc + 1) Ls (x :: y :: x :: y :: St)))) : own_Ends p e below s G Q kc ks (T.setTop (mkF m pc Ls (x :: y :: St))) := own_of (fun _ q => XT.dup2 X.here hx rfl (hb hby hd) rfl hc hc' q) k
theorem own_dup2L (X : Stand p l e R sS m args below meth c T locs cells slots) (hx : p.tables.exec = Jvm.exec) {code : ByteArray} (hby : c.code = code) {pc : Nat} {Ls : Array Slot} {St : List Value} {x : Int64} (hd : decode code pc = .ok (.dup2, 1)) (k : own_Ends p e below s G Q kc ks (T.setTop (mkF m (pc + 1) Ls (.long x :: .long x :: St)))) : own_Ends p e below s G Q kc ks (T.setTop (mkF m pc Ls (.long x :: St))) := own_of (fun _ q => XT.dup2L X.here hx rfl (hb hby hd) rfl q) k
theorem own_pop (X : Stand p l e R sS m args below meth c T locs cells slots) (hx : p.tables.exec = Jvm.exec) {code : ByteArray} (hby : c.code = code) {pc : Nat} {Ls : Array Slot} {St : List Value} {x : Value} (hd : decode code pc = .ok (.pop, 1)) (hc : x.category = 1) (k : own_Ends p e below s G Q kc ks (T.setTop (mkF m (pc + 1) Ls (St)))) : own_Ends p e below s G Q kc ks (T.setTop (mkF m pc Ls (x :: St))) := own_of (fun _ q => XT.pop X.here hx rfl (hb hby hd) rfl hc q) k
theorem own_iinc (X : Stand p l e R sS m args below meth c T locs cells slots) (hx : p.tables.exec = Jvm.exec) {code : ByteArray} (hby : c.code = code) {pc : Nat} {Ls : Array Slot} {St : List Value} {k : Nat} {cst : Int} {x : Int32} {l' : Array Slot} (hd : decode code pc = .ok (.iinc k cst, 3)) (hl : Ls[k]? = some (.val (.int x))) (hl' : storeLocals Ls k (.int (x + Int32.ofInt cst)) = some l') (k : own_Ends p e below s G Q kc ks (T.setTop (mkF m (pc + 3) l' (St)))) : own_Ends p e below s G Q kc ks (T.setTop (mkF m pc Ls (St))) := own_of (fun _ q => XS.iinc X.here hx rfl (hb hby hd) hl hl' q) k
theorem own_iconst (X : Stand p l e R sS m args below meth c T locs cells slots) (hx : p.tables.exec = Jvm.exec) {code : ByteArray} (hby : c.code = code) {pc : Nat} {Ls : Array Slot} {St : List Value} {i : Int} (z : Int32) (hd : decode code pc = .ok (.iconst i, 1)) (hz : Int32.ofInt i = z) (k : own_Ends p e below s G Q kc ks (T.setTop (mkF m (pc + 1) Ls (.int z :: St)))) : own_Ends p e below s G Q kc ks (T.setTop (mkF m pc Ls St)) := by subst hz; exact own_of (fun _ q => XS.iconst X.here hx rfl (hb hby hd) q) k
theorem own_bipush (X : Stand p l e R sS m args below meth c T locs cells slots) (hx : p.tables.exec = Jvm.exec) {code : ByteArray} (hby : c.code = code) {pc : Nat} {Ls : Array Slot} {St : List Value} {i : Int} (z : Int32) (hd : decode code pc = .ok (.bipush i, 2)) (hz : (Int8.ofInt i).toInt32 = z) (k : own_Ends p e below s G Q kc ks (T.setTop (mkF m (pc + 2) Ls (.int z :: St)))) : own_Ends p e below s G Q kc ks (T.setTop (mkF m pc Ls St)) := by subst hz; exact own_of (fun _ q => XS.bipush X.here hx rfl (hb hby hd) q) k
theorem own_sipush (X : Stand p l e R sS m args below meth c T locs cells slots) (hx : p.tables.exec = Jvm.exec) {code : ByteArray} (hby : c.code = code) {pc : Nat} {Ls : Array Slot} {St : List Value} {i : Int} (z : Int32) (hd : decode code pc = .ok (.sipush i, 3)) (hz : (Int16.ofInt i).toInt32 = z) (k : own_Ends p e below s G Q kc ks (T.setTop (mkF m (pc + 3) Ls (.int z :: St)))) : own_Ends p e below s G Q kc ks (T.setTop (mkF m pc Ls St)) := by subst hz; exact own_of (fun _ q => XS.sipush X.here hx rfl (hb hby hd) q) k
theorem own_lconst (X : Stand p l e R sS m args below meth c T locs cells slots) (hx : p.tables.exec = Jvm.exec) {code : ByteArray} (hby : c.code = code) {pc : Nat} {Ls : Array Slot} {St : List Value} {i : Fin 2} (z : Int64) (hd : decode code pc = .ok (.lconst i, 1)) (hz : Int64.ofNat i = z) (k : own_Ends p e below s G Q kc ks (T.setTop (mkF m (pc + 1) Ls (.long z :: St)))) : own_Ends p e below s G Q kc ks (T.setTop (mkF m pc Ls St)) := by subst hz; exact own_of (fun _ q => XT.lconst X.here hx rfl (hb hby hd) q) k
theorem own_goto (X : Stand p l e R sS m args below meth c T locs cells slots) (hx : p.tables.exec = Jvm.exec) {code : ByteArray} (hby : c.code = code) {Ls : Array Slot} {St : List Value} (pc pc' : Nat) {o : Int}  (hd : decode code pc = .ok (.goto o, 3)) (ho : 0 ≤ (pc : Int) + o) (hp : ((pc : Int) + o).toNat = pc') (k : own_Ends p e below s G Q kc ks (T.setTop (mkF m pc' Ls St))) : own_Ends p e below s G Q kc ks (T.setTop (mkF m pc Ls (St))) := own_of (fun _ q => XS.goto X.here hx rfl (pc0 := pc) (pc' := pc') rfl (hb hby hd) ho hp q) k
theorem own_ifYes (X : Stand p l e R sS m args below meth c T locs cells slots) (hx : p.tables.exec = Jvm.exec) {code : ByteArray} (hby : c.code = code) {Ls : Array Slot} {St : List Value} (pc pc' : Nat) {o : Int} {cd : ClassFile.Cond} {x : Int32} (hd : decode code pc = .ok (.ifCond cd o, 3)) (hc : ifCond.holds cd x = true) (ho : 0 ≤ (pc : Int) + o) (hp : ((pc : Int) + o).toNat = pc') (k : own_Ends p e below s G Q kc ks (T.setTop (mkF m pc' Ls St))) : own_Ends p e below s G Q kc ks (T.setTop (mkF m pc Ls (.int x :: St))) := own_of (fun _ q => XS.ifYes X.here hx rfl (pc0 := pc) (pc' := pc') rfl (hb hby hd) rfl hc ho hp q) k
theorem own_icmpYes (X : Stand p l e R sS m args below meth c T locs cells slots) (hx : p.tables.exec = Jvm.exec) {code : ByteArray} (hby : c.code = code) {Ls : Array Slot} {St : List Value} (pc pc' : Nat) {o : Int} {cd : ClassFile.Cond} {x y : Int32} (hd : decode code pc = .ok (.if_icmp cd o, 3)) (hc : if_icmp.holds cd x y = true) (ho : 0 ≤ (pc : Int) + o) (hp : ((pc : Int) + o).toNat = pc') (k : own_Ends p e below s G Q kc ks (T.setTop (mkF m pc' Ls St))) : own_Ends p e below s G Q kc ks (T.setTop (mkF m pc Ls (.int y :: .int x :: St))) := own_of (fun _ q => XS.icmpYes X.here hx rfl (pc0 := pc) (pc' := pc') rfl (hb hby hd) rfl hc ho hp q) k
theorem own_ifnullYes (X : Stand p l e R sS m args below meth c T locs cells slots) (hx : p.tables.exec = Jvm.exec) {code : ByteArray} (hby : c.code = code) {Ls : Array Slot} {St : List Value} (pc pc' : Nat) {o : Int}  (hd : decode code pc = .ok (.ifnull o, 3)) (ho : 0 ≤ (pc : Int) + o) (hp : ((pc : Int) + o).toNat = pc') (k : own_Ends p e below s G Q kc ks (T.setTop (mkF m pc' Ls St))) : own_Ends p e below s G Q kc ks (T.setTop (mkF m pc Ls (.null :: St))) := own_of (fun _ q => XS.ifnullYes X.here hx rfl (pc0 := pc) (pc' := pc') rfl (hb hby hd) rfl ho hp q) k
theorem own_ifnonnullYes (X : Stand p l e R sS m args below meth c T locs cells slots) (hx : p.tables.exec = Jvm.exec) {code : ByteArray} (hby : c.code = code) {Ls : Array Slot} {St : List Value} (pc pc' : Nat) {o : Int} {b : Addr} (hd : decode code pc = .ok (.ifnonnull o, 3)) (ho : 0 ≤ (pc : Int) + o) (hp : ((pc : Int) + o).toNat = pc') (k : own_Ends p e below s G Q kc ks (T.setTop (mkF m pc' Ls St))) : own_Ends p e below s G Q kc ks (T.setTop (mkF m pc Ls (.ref b :: St))) := own_of (fun _ q => XT.ifnonnullYes X.here hx rfl (pc0 := pc) (pc' := pc') rfl (hb hby hd) rfl ho hp q) k
theorem own_ifNo (X : Stand p l e R sS m args below meth c T locs cells slots) (hx : p.tables.exec = Jvm.exec) {code : ByteArray} (hby : c.code = code) {pc : Nat} {Ls : Array Slot} {St : List Value} {cd : ClassFile.Cond} {o : Int} {x : Int32} (hd : decode code pc = .ok (.ifCond cd o, 3)) (hc : ifCond.holds cd x = false) (k : own_Ends p e below s G Q kc ks (T.setTop (mkF m (pc + 3) Ls (St)))) : own_Ends p e below s G Q kc ks (T.setTop (mkF m pc Ls (.int x :: St))) := own_of (fun _ q => XS.ifNo X.here hx rfl (hb hby hd) rfl hc q) k
theorem own_icmpNo (X : Stand p l e R sS m args below meth c T locs cells slots) (hx : p.tables.exec = Jvm.exec) {code : ByteArray} (hby : c.code = code) {pc : Nat} {Ls : Array Slot} {St : List Value} {cd : ClassFile.Cond} {o : Int} {x y : Int32} (hd : decode code pc = .ok (.if_icmp cd o, 3)) (hc : if_icmp.holds cd x y = false) (k : own_Ends p e below s G Q kc ks (T.setTop (mkF m (pc + 3) Ls (St)))) : own_Ends p e below s G Q kc ks (T.setTop (mkF m pc Ls (.int y :: .int x :: St))) := own_of (fun _ q => XS.icmpNo X.here hx rfl (hb hby hd) rfl hc q) k
theorem own_ifnullNo (X : Stand p l e R sS m args below meth c T locs cells slots) (hx : p.tables.exec = Jvm.exec) {code : ByteArray} (hby : c.code = code) {pc : Nat} {Ls : Array Slot} {St : List Value} {o : Int} {b : Addr} (hd : decode code pc = .ok (.ifnull o, 3)) (k : own_Ends p e below s G Q kc ks (T.setTop (mkF m (pc + 3) Ls (St)))) : own_Ends p e below s G Q kc ks (T.setTop (mkF m pc Ls (.ref b :: St))) := own_of (fun _ q => XS.ifnullNo X.here hx rfl (hb hby hd) rfl q) k
theorem own_ifnonnullNo (X : Stand p l e R sS m args below meth c T locs cells slots) (hx : p.tables.exec = Jvm.exec) {code : ByteArray} (hby : c.code = code) {pc : Nat} {Ls : Array Slot} {St : List Value} {o : Int} (hd : decode code pc = .ok (.ifnonnull o, 3)) (k : own_Ends p e below s G Q kc ks (T.setTop (mkF m (pc + 3) Ls (St)))) : own_Ends p e below s G Q kc ks (T.setTop (mkF m pc Ls (.null :: St))) := own_of (fun _ q => XT.ifnonnullNo X.here hx rfl (hb hby hd) rfl q) k
end Own2
theorem own_w {Z : State} {a0 : Array Value} (hw : ∀ d ∈ tables_1, d.before a0 Z = true) (i : Nat) {d : Jvm.Cond} (h : tables_1[i]? = some d) : d.before a0 Z = true := hw _ (List.mem_of_getElem? h)
theorem own_eqk {args : Array Value} {s : State} {t : Term} {k : Int32} (h : (Cond.eq t (.int k)).value args s none s [] = some true) : t.eval args s none [] s = some (.int k) := by
  obtain ⟨x, y, ex, ey, k1, k2⟩ := cmp_v (Or.inl h)
  obtain rfl : y = .int k := (Option.some.inj ((Term.int_eval k).symm.trans ey)).symm
  obtain ⟨z, rfl⟩ := k2
  rw [ex, gotT (Cond.eq_ints ex ey) h]
theorem own_staKeep {Z : State} {h h' : Heap} {C n d : String} {v : Value} {ws : List Addr} (F : Sta Z h C n d v) (K : Keep h h' ws) (q : ∀ x ∈ ws, ∀ c : Cell, h[x]? = some c → c.vm.isStatics = false) : Sta Z h' C n d v := by
  obtain ⟨cf, i, k, f, st, cell, h1, h2, h3, h4, h5, h6, h7⟩ := F
  refine ⟨cf, i, k, f, st, cell, h1, h2, h3, h4, K.2.1 st cell h5 (fun z => ?_), h6, h7⟩
  have := q st z cell h5
  rw [h6] at this; cases this
theorem own_and3 (x : Int32) : (x &&& 3) = 0 ∨ (x &&& 3) = 1 ∨ (x &&& 3) = 2 ∨ (x &&& 3) = 3 := by
  have e1 := Jvm.Kit.i32_mask x 3 (k := 2) (by decide) (by decide)
  have c0 : (0 : Int32).toInt = 0 := by decide
  have c1 : (1 : Int32).toInt = 1 := by decide
  have c2 : (2 : Int32).toInt = 2 := by decide
  have c3 : (3 : Int32).toInt = 3 := by decide
  rw [← Int32.toInt_inj, ← Int32.toInt_inj, ← Int32.toInt_inj, ← Int32.toInt_inj, e1, c0, c1, c2, c3]
  omega
abbrev mN_0 : MethodName := ⟨"java/util/AbstractCollection", "<init>", "()V"⟩
theorem d6_0 : decode jdk_22_method_1_code 0 = .ok (.aload_n 0, 1) := by decide +kernel
theorem d6_1 : decode jdk_22_method_1_code 1 = .ok (.invokespecial 1, 3) := by decide +kernel
theorem d6_4 : decode jdk_22_method_1_code 4 = .ok (.return_, 1) := by decide +kernel
theorem pn_0 : plainName "java/util/AbstractCollection" = true := by first | (simp [plainName, overriddenIn]; done) | decide +kernel
theorem ef_ac (m : MethodId) (x0 : Addr) : entryFrame m #[(.ref x0)] 1 = mkF m 0 #[.val (.ref x0)] [] := by first | (simp [entryFrame, mkF, argsToLocals, Value.category]; done) | rfl
def Qac (h0 : Heap) (n0 : Nat) (v : Option Value) (h : Heap) (L : List Loc) : Prop := v = none ∧ Fr n0 L ∧ h = h0
set_option maxRecDepth 65536 in
set_option maxHeartbeats 40000000 in
theorem rmac (l : Launch) (Z : State) (a0 : Array Value) (hw : ∀ d ∈ tables_1, d.before a0 Z = true) (ws : List Jvm.Cond) (a1 : Addr) (h0 : Heap) (n0 : Nat) (Z0 : n0 ≤ h0.size)  :
    MetFree l mN_0 (head1 (Jvm.Cond.code mN_0 jdk_22_method_1_code 1 none :: ws) ({ frames := 1, cells := 0, slots := 0, locals := 12 } : Room)) (fun a U => a = #[(.ref a1)] ∧ Z.Warmed39 U.vm ∧ U.heap = h0) (fun _ _ _ _ _ => True) (fun _ U o U' => ∃ v L, o = .returned v ∧ (Qac h0 n0) v U'.heap L ∧ FrameEnd U o U' L ({ frames := 1, cells := 0, slots := 0, locals := 12 } : Room).cells ({ frames := 1, cells := 0, slots := 0, locals := 12 } : Room).slots) := by
  refine MetFree.of_bodySF (plainFor_of_name pn_0) hisR ?_
  intro p e s m args below meth c s₁ Bd hml0 hP hK
  obtain ⟨rfl, hZ, hh⟩ := hP
  have hx := Bd.exec
  have hby := Bd.bytes
  have hml : c.maxLocals = 1 := hml0
  have hown : s.vm.findClass "java/util/AbstractCollection" = some m.cls := findClass_of_methodNamed Bd.named
  have hnm := (name_of_methodNamed Bd.named Bd.method).1
  have hlk := Bd.notSynchronized
  have X0 : Stand p l e ({ frames := 1, cells := 0, slots := 0, locals := 12 } : Room) s m #[(.ref a1)] below meth c s₁ [] 0 0 := Stand.of_body Bd
  have e0 : s₁.heap = h0 := by rw [← hh, Bd.state]; rfl
  have N0 := Fr.nil n0
  show own_Ends p e below s FrameEnd (Qac h0 n0) 0 0 (s₁.setTop (entryFrame m #[(.ref a1)] 1))
  refine own_of (U' := (s₁.setTop (mkF m 0 #[.val (.ref a1)] []))) (fun _ k => castTop (ef_ac m a1) k) ?_
  refine own_aloadN X0 hx hby d6_0 rfl rfl ?_
  obtain ⟨T1, X1, e1, st1⟩ := initO X0 hx hZ hown (own_w hw 34 rfl) (own_w hw 7 rfl) (own_w hw 8 rfl) e0 (g := (mkF m 1 #[.val (.ref a1)] [(.ref a1)])) rfl (by rw [hml]; rfl) rfl (hb hby d6_1) (by decide) (W := 0) (by show 2 * 0 + _ ≤ _; exact Nat.le_of_eq rfl) (by decide)
  refine own_of (U' := (T1.setTop (mkF m 4 #[.val (.ref a1)] []))) (st1) ?_
  exact own_ret0 X1 hx hlk Bd.returns (hb hby d6_4) (by decide) (by decide) (⟨rfl, N0, e1⟩)
abbrev mN_1 : MethodName := ⟨"java/util/AbstractSet", "<init>", "()V"⟩
theorem pd_0 : parseMethodDescriptor "()V" = some ⟨[], none⟩ := by decide +kernel
theorem d5_0 : decode jdk_91_method_1_code 0 = .ok (.aload_n 0, 1) := by decide +kernel
theorem d5_1 : decode jdk_91_method_1_code 1 = .ok (.invokespecial 1, 3) := by decide +kernel
theorem d5_4 : decode jdk_91_method_1_code 4 = .ok (.return_, 1) := by decide +kernel
theorem pn_1 : plainName "java/util/AbstractSet" = true := by first | (simp [plainName, overriddenIn]; done) | decide +kernel
theorem ef_as (m : MethodId) (x0 : Addr) : entryFrame m #[(.ref x0)] 1 = mkF m 0 #[.val (.ref x0)] [] := by first | (simp [entryFrame, mkF, argsToLocals, Value.category]; done) | rfl
def Qas (h0 : Heap) (n0 : Nat) (v : Option Value) (h : Heap) (L : List Loc) : Prop := v = none ∧ Fr n0 L ∧ h = h0
set_option maxRecDepth 65536 in
set_option maxHeartbeats 40000000 in
theorem rmas (l : Launch) (Z : State) (a0 : Array Value) (hw : ∀ d ∈ tables_1, d.before a0 Z = true) (ws : List Jvm.Cond) (a1 : Addr) (h0 : Heap) (n0 : Nat) (Z0 : n0 ≤ h0.size)  :
    MetFree l mN_1 (head1 (Jvm.Cond.code mN_1 jdk_91_method_1_code 1 none :: ws) ({ frames := 2, cells := 0, slots := 0, locals := 24 } : Room)) (fun a U => a = #[(.ref a1)] ∧ Z.Warmed39 U.vm ∧ U.heap = h0) (fun _ _ _ _ _ => True) (fun _ U o U' => ∃ v L, o = .returned v ∧ (Qas h0 n0) v U'.heap L ∧ FrameEnd U o U' L ({ frames := 2, cells := 0, slots := 0, locals := 24 } : Room).cells ({ frames := 2, cells := 0, slots := 0, locals := 24 } : Room).slots) := by
  refine MetFree.of_bodySF (plainFor_of_name pn_1) hisR ?_
  intro p e s m args below meth c s₁ Bd hml0 hP hK
  obtain ⟨rfl, hZ, hh⟩ := hP
  have hx := Bd.exec
  have hby := Bd.bytes
  have hml : c.maxLocals = 1 := hml0
  have hown : s.vm.findClass "java/util/AbstractSet" = some m.cls := findClass_of_methodNamed Bd.named
  have hnm := (name_of_methodNamed Bd.named Bd.method).1
  have hlk := Bd.notSynchronized
  have X0 : Stand p l e ({ frames := 2, cells := 0, slots := 0, locals := 24 } : Room) s m #[(.ref a1)] below meth c s₁ [] 0 0 := Stand.of_body Bd
  have e0 : s₁.heap = h0 := by rw [← hh, Bd.state]; rfl
  have N0 := Fr.nil n0
  show own_Ends p e below s FrameEnd (Qas h0 n0) 0 0 (s₁.setTop (entryFrame m #[(.ref a1)] 1))
  refine own_of (U' := (s₁.setTop (mkF m 0 #[.val (.ref a1)] []))) (fun _ k => castTop (ef_as m a1) k) ?_
  refine own_aloadN X0 hx hby d5_0 rfl rfl ?_
  obtain ⟨_, _, ⟨T2, L2, k2, n2⟩, -, X2, ⟨Lc2, hQ2, l2, y2, z2⟩, st2⟩ := X0.specialBack hx (y := mN_0) rfl hown (mvT hZ (own_w hw 28 rfl)) (mvT hZ (own_w hw 29 rfl)) (mvT hZ (own_w hw 33 rfl)) (by decide) (backOf (W := 0) (rmac l Z a0 hw [] a1 h0 n0 Z0 ) hZ (own_w hw 33 rfl) (own_w hw 32 rfl) (by decide) (by decide)) (g := (mkF m 1 #[.val (.ref a1)] [(.ref a1)])) rfl (by rw [hml]; rfl) (Steps.refl _) (a := a1) (argsL := []) (rest := []) (lenOf pd_0 rfl) rfl (by show 2 * 0 + _ ≤ _; exact Nat.le_of_eq rfl) (hb hby d5_1) (fun _ _ => ⟨rfl, e0, (by decide : 0 + 0 ≤ _), (by decide : 0 + 0 ≤ _)⟩)
  dsimp only [Pt.U, Pt.locs, Pt.cells, Pt.slots] at X2 l2 y2 z2 st2 hQ2
  subst l2 y2 z2
  obtain ⟨rfl, Nq2, e2⟩ := hQ2
  have N2 := Fr.app N0 Nq2
  refine own_of (U' := (T2.setTop (mkF m 4 #[.val (.ref a1)] []))) (fun _ k => st2.trans k) ?_
  exact own_ret0 X2 hx hlk Bd.returns (hb hby d5_4) (by decide) (by decide) (⟨rfl, N2, e2⟩)
abbrev mN_2 : MethodName := ⟨"java/util/AbstractMap", "<init>", "()V"⟩
theorem d9_0 : decode jdk_71_method_1_code 0 = .ok (.aload_n 0, 1) := by decide +kernel
theorem d9_1 : decode jdk_71_method_1_code 1 = .ok (.invokespecial 1, 3) := by decide +kernel
theorem d9_4 : decode jdk_71_method_1_code 4 = .ok (.return_, 1) := by decide +kernel
theorem pn_2 : plainName "java/util/AbstractMap" = true := by first | (simp [plainName, overriddenIn]; done) | decide +kernel
theorem ef_am (m : MethodId) (x0 : Addr) : entryFrame m #[(.ref x0)] 1 = mkF m 0 #[.val (.ref x0)] [] := by first | (simp [entryFrame, mkF, argsToLocals, Value.category]; done) | rfl
def Qam (h0 : Heap) (n0 : Nat) (v : Option Value) (h : Heap) (L : List Loc) : Prop := v = none ∧ Fr n0 L ∧ h = h0
set_option maxRecDepth 65536 in
set_option maxHeartbeats 40000000 in
theorem rmam (l : Launch) (Z : State) (a0 : Array Value) (hw : ∀ d ∈ tables_1, d.before a0 Z = true) (ws : List Jvm.Cond) (a1 : Addr) (h0 : Heap) (n0 : Nat) (Z0 : n0 ≤ h0.size)  :
    MetFree l mN_2 (head1 (Jvm.Cond.code mN_2 jdk_71_method_1_code 1 none :: ws) ({ frames := 1, cells := 0, slots := 0, locals := 12 } : Room)) (fun a U => a = #[(.ref a1)] ∧ Z.Warmed39 U.vm ∧ U.heap = h0) (fun _ _ _ _ _ => True) (fun _ U o U' => ∃ v L, o = .returned v ∧ (Qam h0 n0) v U'.heap L ∧ FrameEnd U o U' L ({ frames := 1, cells := 0, slots := 0, locals := 12 } : Room).cells ({ frames := 1, cells := 0, slots := 0, locals := 12 } : Room).slots) := by
  refine MetFree.of_bodySF (plainFor_of_name pn_2) hisR ?_
  intro p e s m args below meth c s₁ Bd hml0 hP hK
  obtain ⟨rfl, hZ, hh⟩ := hP
  have hx := Bd.exec
  have hby := Bd.bytes
  have hml : c.maxLocals = 1 := hml0
  have hown : s.vm.findClass "java/util/AbstractMap" = some m.cls := findClass_of_methodNamed Bd.named
  have hnm := (name_of_methodNamed Bd.named Bd.method).1
  have hlk := Bd.notSynchronized
  have X0 : Stand p l e ({ frames := 1, cells := 0, slots := 0, locals := 12 } : Room) s m #[(.ref a1)] below meth c s₁ [] 0 0 := Stand.of_body Bd
  have e0 : s₁.heap = h0 := by rw [← hh, Bd.state]; rfl
  have N0 := Fr.nil n0
  show own_Ends p e below s FrameEnd (Qam h0 n0) 0 0 (s₁.setTop (entryFrame m #[(.ref a1)] 1))
  refine own_of (U' := (s₁.setTop (mkF m 0 #[.val (.ref a1)] []))) (fun _ k => castTop (ef_am m a1) k) ?_
  refine own_aloadN X0 hx hby d9_0 rfl rfl ?_
  obtain ⟨T3, X3, e3, st3⟩ := initO X0 hx hZ hown (own_w hw 54 rfl) (own_w hw 7 rfl) (own_w hw 8 rfl) e0 (g := (mkF m 1 #[.val (.ref a1)] [(.ref a1)])) rfl (by rw [hml]; rfl) rfl (hb hby d9_1) (by decide) (W := 0) (by show 2 * 0 + _ ≤ _; exact Nat.le_of_eq rfl) (by decide)
  refine own_of (U' := (T3.setTop (mkF m 4 #[.val (.ref a1)] []))) (st3) ?_
  exact own_ret0 X3 hx hlk Bd.returns (hb hby d9_4) (by decide) (by decide) (⟨rfl, N0, e3⟩)
abbrev mN_3 : MethodName := ⟨"java/lang/Float", "isNaN", "(F)Z"⟩
theorem d10_0 : decode jdk_118_method_6_code 0 = .ok (.fload_n 0, 1) := by decide +kernel
theorem d10_1 : decode jdk_118_method_6_code 1 = .ok (.fload_n 0, 1) := by decide +kernel
theorem d10_2 : decode jdk_118_method_6_code 2 = .ok (.fcmp .l, 1) := by decide +kernel
theorem d10_3 : decode jdk_118_method_6_code 3 = .ok (.ifCond .eq 7, 3) := by decide +kernel
theorem d10_10 : decode jdk_118_method_6_code 10 = .ok (.iconst 0, 1) := by decide +kernel
theorem d10_11 : decode jdk_118_method_6_code 11 = .ok (.ireturn, 1) := by decide +kernel
theorem pf_nan : plainFor mN_3 = true := by decide +kernel
theorem ef_nan (m : MethodId)  : entryFrame m #[(.float (1061158912 : UInt32))] 1 = mkF m 0 #[.val (.float (1061158912 : UInt32))] [] := by first | (simp [entryFrame, mkF, argsToLocals, Value.category]; done) | rfl
def Qnan  (h0 : Heap) (n0 : Nat) (v : Option Value) (h : Heap) (L : List Loc) : Prop := v = some (.int 0) ∧ Fr n0 L ∧ h = h0
set_option maxRecDepth 65536 in
set_option maxHeartbeats 40000000 in
theorem rmnan (l : Launch) (Z : State) (a0 : Array Value) (hw : ∀ d ∈ tables_1, d.before a0 Z = true) (ws : List Jvm.Cond)  (h0 : Heap) (n0 : Nat) (Z0 : n0 ≤ h0.size)  :
    MetFree l mN_3 (head1 (Jvm.Cond.code mN_3 jdk_118_method_6_code 1 (some .boolean) :: ws) ({ frames := 0, cells := 0, slots := 0, locals := 0 } : Room)) (fun a U => a = #[(.float (1061158912 : UInt32))] ∧ Z.Warmed39 U.vm ∧ U.heap = h0) (fun _ _ _ _ _ => True) (fun _ U o U' => ∃ v L, o = .returned v ∧ (Qnan h0 n0) v U'.heap L ∧ FrameEnd U o U' L ({ frames := 0, cells := 0, slots := 0, locals := 0 } : Room).cells ({ frames := 0, cells := 0, slots := 0, locals := 0 } : Room).slots) := by
  refine MetFree.of_bodySF pf_nan hisR ?_
  intro p e s m args below meth c s₁ Bd hml0 hP hK
  obtain ⟨rfl, hZ, hh⟩ := hP
  have hx := Bd.exec
  have hby := Bd.bytes
  have hml : c.maxLocals = 1 := hml0
  have hown : s.vm.findClass "java/lang/Float" = some m.cls := findClass_of_methodNamed Bd.named
  have hnm := (name_of_methodNamed Bd.named Bd.method).1
  have hlk := Bd.notSynchronized
  have X0 : Stand p l e ({ frames := 0, cells := 0, slots := 0, locals := 0 } : Room) s m #[(.float (1061158912 : UInt32))] below meth c s₁ [] 0 0 := Stand.of_body Bd
  have e0 : s₁.heap = h0 := by rw [← hh, Bd.state]; rfl
  have N0 := Fr.nil n0
  show own_Ends p e below s FrameEnd (Qnan h0 n0) 0 0 (s₁.setTop (entryFrame m #[(.float (1061158912 : UInt32))] 1))
  refine own_of (U' := (s₁.setTop (mkF m 0 #[.val (.float (1061158912 : UInt32))] []))) (fun _ k => castTop (ef_nan m) k) ?_
  refine own_of (U' := (s₁.setTop (mkF m 1 #[.val (.float (1061158912 : UInt32))] [(.float (1061158912 : UInt32))]))) (fun _ k => XS.floadN X0.here hx rfl (hb hby d10_0) rfl k) ?_
  refine own_of (U' := (s₁.setTop (mkF m 2 #[.val (.float (1061158912 : UInt32))] [(.float (1061158912 : UInt32)), (.float (1061158912 : UInt32))]))) (fun _ k => XS.floadN X0.here hx rfl (hb hby d10_1) rfl k) ?_
  refine own_of (U' := (s₁.setTop (mkF m 3 #[.val (.float (1061158912 : UInt32))] [(.int (0 : Int32))]))) (fun _ k => XS.fcmpS X0.here hx rfl (hb hby d10_2) rfl (v := (0 : Int32)) (by decide +kernel) k) ?_
  have hc3_4 : (0 : Int32) = (0 : Int32) := by decide
  refine own_ifYes X0 hx hby 3 10 d10_3 ((if0 _ _).trans (teq hc3_4).1) (by decide) (by decide) ?_
  refine own_iconst X0 hx hby 0 d10_10 rfl ?_
  exact own_retN X0 hx hlk (t := .boolean) Bd.returns (by simp) (hb hby d10_11) (by decide) (by decide) (⟨rfl, N0, e0⟩)
abbrev mN_4 : MethodName := ⟨"java/lang/Integer", "numberOfLeadingZeros", "(I)I"⟩
theorem d12_0 : decode jdk_33_method_47_code 0 = .ok (.iload_n 0, 1) := by decide +kernel
theorem d12_1 : decode jdk_33_method_47_code 1 = .ok (.ifCond .gt 14, 3) := by decide +kernel
theorem d12_15 : decode jdk_33_method_47_code 15 = .ok (.bipush 31, 2) := by decide +kernel
theorem d12_17 : decode jdk_33_method_47_code 17 = .ok (.istore_n 1, 1) := by decide +kernel
theorem d12_18 : decode jdk_33_method_47_code 18 = .ok (.iload_n 0, 1) := by decide +kernel
theorem d12_19 : decode jdk_33_method_47_code 19 = .ok (.ldc_w 264, 3) := by decide +kernel
theorem d12_22 : decode jdk_33_method_47_code 22 = .ok (.if_icmp .lt 11, 3) := by decide +kernel
theorem d12_33 : decode jdk_33_method_47_code 33 = .ok (.iload_n 0, 1) := by decide +kernel
theorem d12_34 : decode jdk_33_method_47_code 34 = .ok (.sipush 256, 3) := by decide +kernel
theorem d12_37 : decode jdk_33_method_47_code 37 = .ok (.if_icmp .lt 11, 3) := by decide +kernel
theorem d12_48 : decode jdk_33_method_47_code 48 = .ok (.iload_n 0, 1) := by decide +kernel
theorem d12_49 : decode jdk_33_method_47_code 49 = .ok (.bipush 16, 2) := by decide +kernel
theorem d12_51 : decode jdk_33_method_47_code 51 = .ok (.if_icmp .lt 10, 3) := by decide +kernel
theorem d12_61 : decode jdk_33_method_47_code 61 = .ok (.iload_n 0, 1) := by decide +kernel
theorem d12_62 : decode jdk_33_method_47_code 62 = .ok (.iconst 4, 1) := by decide +kernel
theorem d12_63 : decode jdk_33_method_47_code 63 = .ok (.if_icmp .lt 10, 3) := by decide +kernel
theorem d12_66 : decode jdk_33_method_47_code 66 = .ok (.iinc 1 (-2), 3) := by decide +kernel
theorem d12_69 : decode jdk_33_method_47_code 69 = .ok (.iload_n 0, 1) := by decide +kernel
theorem d12_70 : decode jdk_33_method_47_code 70 = .ok (.iconst 2, 1) := by decide +kernel
theorem d12_71 : decode jdk_33_method_47_code 71 = .ok (.iushr, 1) := by decide +kernel
theorem d12_72 : decode jdk_33_method_47_code 72 = .ok (.istore_n 0, 1) := by decide +kernel
theorem d12_73 : decode jdk_33_method_47_code 73 = .ok (.iload_n 1, 1) := by decide +kernel
theorem d12_74 : decode jdk_33_method_47_code 74 = .ok (.iload_n 0, 1) := by decide +kernel
theorem d12_75 : decode jdk_33_method_47_code 75 = .ok (.iconst 1, 1) := by decide +kernel
theorem d12_76 : decode jdk_33_method_47_code 76 = .ok (.iushr, 1) := by decide +kernel
theorem d12_77 : decode jdk_33_method_47_code 77 = .ok (.isub, 1) := by decide +kernel
theorem d12_78 : decode jdk_33_method_47_code 78 = .ok (.ireturn, 1) := by decide +kernel
theorem pn_3 : plainName "java/lang/Integer" = true := by first | (simp [plainName, overriddenIn]; done) | decide +kernel
theorem ef_nlz (m : MethodId)  : entryFrame m #[(.int (15 : Int32))] 2 = mkF m 0 #[.val (.int (15 : Int32)), .unset] [] := by first | (simp [entryFrame, mkF, argsToLocals, Value.category]; done) | rfl
def Qnlz  (h0 : Heap) (n0 : Nat) (v : Option Value) (h : Heap) (L : List Loc) : Prop := v = some (.int 28) ∧ Fr n0 L ∧ h = h0
set_option maxRecDepth 65536 in
set_option maxHeartbeats 40000000 in
theorem rmnlz (l : Launch) (Z : State) (a0 : Array Value) (hw : ∀ d ∈ tables_1, d.before a0 Z = true) (ws : List Jvm.Cond)  (h0 : Heap) (n0 : Nat) (Z0 : n0 ≤ h0.size)  :
    MetFree l mN_4 (head1 (Jvm.Cond.code mN_4 jdk_33_method_47_code 2 (some .int) :: ws) ({ frames := 0, cells := 0, slots := 0, locals := 0 } : Room)) (fun a U => a = #[(.int (15 : Int32))] ∧ Z.Warmed39 U.vm ∧ U.heap = h0) (fun _ _ _ _ _ => True) (fun _ U o U' => ∃ v L, o = .returned v ∧ (Qnlz h0 n0) v U'.heap L ∧ FrameEnd U o U' L ({ frames := 0, cells := 0, slots := 0, locals := 0 } : Room).cells ({ frames := 0, cells := 0, slots := 0, locals := 0 } : Room).slots) := by
  refine MetFree.of_bodySF (plainFor_of_name pn_3) hisR ?_
  intro p e s m args below meth c s₁ Bd hml0 hP hK
  obtain ⟨rfl, hZ, hh⟩ := hP
  have hx := Bd.exec
  have hby := Bd.bytes
  have hml : c.maxLocals = 2 := hml0
  have hown : s.vm.findClass "java/lang/Integer" = some m.cls := findClass_of_methodNamed Bd.named
  have hnm := (name_of_methodNamed Bd.named Bd.method).1
  have hlk := Bd.notSynchronized
  have X0 : Stand p l e ({ frames := 0, cells := 0, slots := 0, locals := 0 } : Room) s m #[(.int (15 : Int32))] below meth c s₁ [] 0 0 := Stand.of_body Bd
  have e0 : s₁.heap = h0 := by rw [← hh, Bd.state]; rfl
  have N0 := Fr.nil n0
  show own_Ends p e below s FrameEnd (Qnlz h0 n0) 0 0 (s₁.setTop (entryFrame m #[(.int (15 : Int32))] 2))
  refine own_of (U' := (s₁.setTop (mkF m 0 #[.val (.int (15 : Int32)), .unset] []))) (fun _ k => castTop (ef_nlz m) k) ?_
  refine own_iloadN X0 hx hby d12_0 rfl ?_
  have hc1_5 : (0 : Int32) < (15 : Int32) := by decide
  refine own_ifYes X0 hx hby 1 15 d12_1 ((if0 _ _).trans (tlt hc1_5).2.2.1) (by decide) (by decide) ?_
  refine own_bipush X0 hx hby 31 d12_15 rfl ?_
  refine own_istoreN X0 hx hby d12_17 (l' := #[.val (.int (15 : Int32)), .val (.int (31 : Int32))]) rfl ?_
  refine own_iloadN X0 hx hby d12_18 rfl ?_
  refine own_of (U' := (s₁.setTop (mkF m 22 #[.val (.int (15 : Int32)), .val (.int (31 : Int32))] [(.int (65536 : Int32)), (.int (15 : Int32))]))) (X0.ldcwInt hx hown (mvT hZ (own_w hw 69 rfl)) (g := (mkF m 19 #[.val (.int (15 : Int32)), .val (.int (31 : Int32))] [(.int (15 : Int32))])) rfl (hb hby d12_19)) ?_
  have hc22_6 : (15 : Int32) < (65536 : Int32) := by decide
  refine own_icmpYes X0 hx hby 22 33 d12_22 (tlt hc22_6).1 (by decide) (by decide) ?_
  refine own_iloadN X0 hx hby d12_33 rfl ?_
  refine own_sipush X0 hx hby 256 d12_34 rfl ?_
  have hc37_7 : (15 : Int32) < (256 : Int32) := by decide
  refine own_icmpYes X0 hx hby 37 48 d12_37 (tlt hc37_7).1 (by decide) (by decide) ?_
  refine own_iloadN X0 hx hby d12_48 rfl ?_
  refine own_bipush X0 hx hby 16 d12_49 rfl ?_
  have hc51_8 : (15 : Int32) < (16 : Int32) := by decide
  refine own_icmpYes X0 hx hby 51 61 d12_51 (tlt hc51_8).1 (by decide) (by decide) ?_
  refine own_iloadN X0 hx hby d12_61 rfl ?_
  refine own_iconst X0 hx hby 4 d12_62 rfl ?_
  have hc63_9 : ¬ ((15 : Int32) < (4 : Int32)) := by decide
  refine own_icmpNo X0 hx hby d12_63 (flt hc63_9).1 ?_
  refine own_iinc X0 hx hby d12_66 rfl (l' := #[.val (.int (15 : Int32)), .val (.int ((31 : Int32) + (-2 : Int32)))]) rfl ?_
  refine own_eq (U' := (s₁.setTop (mkF m 69 #[.val (.int (15 : Int32)), .val (.int (29 : Int32))] []))) (by rw [show ((31 : Int32) + (-2 : Int32)) = (29 : Int32) by decide]) ?_
  refine own_iloadN X0 hx hby d12_69 rfl ?_
  refine own_iconst X0 hx hby 2 d12_70 rfl ?_
  refine own_iushr X0 hx hby d12_71 ?_
  refine own_eq (U' := (s₁.setTop (mkF m 72 #[.val (.int (15 : Int32)), .val (.int (29 : Int32))] [(.int (3 : Int32))]))) (by rw [show (XT.ushr (15 : Int32) (2 : Int32)) = (3 : Int32) by decide]) ?_
  refine own_istoreN X0 hx hby d12_72 (l' := #[.val (.int (3 : Int32)), .val (.int (29 : Int32))]) rfl ?_
  refine own_iloadN X0 hx hby d12_73 rfl ?_
  refine own_iloadN X0 hx hby d12_74 rfl ?_
  refine own_iconst X0 hx hby 1 d12_75 rfl ?_
  refine own_iushr X0 hx hby d12_76 ?_
  refine own_eq (U' := (s₁.setTop (mkF m 77 #[.val (.int (3 : Int32)), .val (.int (29 : Int32))] [(.int (1 : Int32)), (.int (29 : Int32))]))) (by rw [show (XT.ushr (3 : Int32) (1 : Int32)) = (1 : Int32) by decide]) ?_
  refine own_isub X0 hx hby d12_77 ?_
  refine own_eq (U' := (s₁.setTop (mkF m 78 #[.val (.int (3 : Int32)), .val (.int (29 : Int32))] [(.int (28 : Int32))]))) (by rw [show ((29 : Int32) - (1 : Int32)) = (28 : Int32) by decide]) ?_
  exact own_retI X0 hx hlk Bd.returns (hb hby d12_78) (by decide) (by decide) (⟨rfl, N0, e0⟩)
abbrev mN_5 : MethodName := ⟨"java/util/HashMap", "tableSizeFor", "(I)I"⟩
theorem pd_1 : parseMethodDescriptor "(I)I" = some ⟨[.int], some .int⟩ := by decide +kernel
theorem d11_0 : decode jdk_69_method_4_code 0 = .ok (.iconst (-1), 1) := by decide +kernel
theorem d11_1 : decode jdk_69_method_4_code 1 = .ok (.iload_n 0, 1) := by decide +kernel
theorem d11_2 : decode jdk_69_method_4_code 2 = .ok (.iconst 1, 1) := by decide +kernel
theorem d11_3 : decode jdk_69_method_4_code 3 = .ok (.isub, 1) := by decide +kernel
theorem d11_4 : decode jdk_69_method_4_code 4 = .ok (.invokestatic 34, 3) := by decide +kernel
theorem d11_7 : decode jdk_69_method_4_code 7 = .ok (.iushr, 1) := by decide +kernel
theorem d11_8 : decode jdk_69_method_4_code 8 = .ok (.istore_n 1, 1) := by decide +kernel
theorem d11_9 : decode jdk_69_method_4_code 9 = .ok (.iload_n 1, 1) := by decide +kernel
theorem d11_10 : decode jdk_69_method_4_code 10 = .ok (.ifCond .ge 7, 3) := by decide +kernel
theorem d11_17 : decode jdk_69_method_4_code 17 = .ok (.iload_n 1, 1) := by decide +kernel
theorem d11_18 : decode jdk_69_method_4_code 18 = .ok (.ldc 42, 2) := by decide +kernel
theorem d11_20 : decode jdk_69_method_4_code 20 = .ok (.if_icmp .lt 8, 3) := by decide +kernel
theorem d11_28 : decode jdk_69_method_4_code 28 = .ok (.iload_n 1, 1) := by decide +kernel
theorem d11_29 : decode jdk_69_method_4_code 29 = .ok (.iconst 1, 1) := by decide +kernel
theorem d11_30 : decode jdk_69_method_4_code 30 = .ok (.iadd, 1) := by decide +kernel
theorem d11_31 : decode jdk_69_method_4_code 31 = .ok (.ireturn, 1) := by decide +kernel
theorem pn_4 : plainName "java/util/HashMap" = true := by first | (simp [plainName, overriddenIn]; done) | decide +kernel
theorem ef_tsf (m : MethodId)  : entryFrame m #[(.int (16 : Int32))] 2 = mkF m 0 #[.val (.int (16 : Int32)), .unset] [] := by first | (simp [entryFrame, mkF, argsToLocals, Value.category]; done) | rfl
def Qtsf  (h0 : Heap) (n0 : Nat) (v : Option Value) (h : Heap) (L : List Loc) : Prop := v = some (.int 16) ∧ Fr n0 L ∧ h = h0
set_option maxRecDepth 65536 in
set_option maxHeartbeats 40000000 in
theorem rmtsf (l : Launch) (Z : State) (a0 : Array Value) (hw : ∀ d ∈ tables_1, d.before a0 Z = true) (ws : List Jvm.Cond)  (h0 : Heap) (n0 : Nat) (Z0 : n0 ≤ h0.size)  :
    MetFree l mN_5 (head1 (Jvm.Cond.code mN_5 jdk_69_method_4_code 2 (some .int) :: ws) ({ frames := 1, cells := 0, slots := 0, locals := 14 } : Room)) (fun a U => a = #[(.int (16 : Int32))] ∧ Z.Warmed39 U.vm ∧ U.heap = h0) (fun _ _ _ _ _ => True) (fun _ U o U' => ∃ v L, o = .returned v ∧ (Qtsf h0 n0) v U'.heap L ∧ FrameEnd U o U' L ({ frames := 1, cells := 0, slots := 0, locals := 14 } : Room).cells ({ frames := 1, cells := 0, slots := 0, locals := 14 } : Room).slots) := by
  refine MetFree.of_bodySF (plainFor_of_name pn_4) hisR ?_
  intro p e s m args below meth c s₁ Bd hml0 hP hK
  obtain ⟨rfl, hZ, hh⟩ := hP
  have hx := Bd.exec
  have hby := Bd.bytes
  have hml : c.maxLocals = 2 := hml0
  have hown : s.vm.findClass "java/util/HashMap" = some m.cls := findClass_of_methodNamed Bd.named
  have hnm := (name_of_methodNamed Bd.named Bd.method).1
  have hlk := Bd.notSynchronized
  have X0 : Stand p l e ({ frames := 1, cells := 0, slots := 0, locals := 14 } : Room) s m #[(.int (16 : Int32))] below meth c s₁ [] 0 0 := Stand.of_body Bd
  have e0 : s₁.heap = h0 := by rw [← hh, Bd.state]; rfl
  have N0 := Fr.nil n0
  show own_Ends p e below s FrameEnd (Qtsf h0 n0) 0 0 (s₁.setTop (entryFrame m #[(.int (16 : Int32))] 2))
  refine own_of (U' := (s₁.setTop (mkF m 0 #[.val (.int (16 : Int32)), .unset] []))) (fun _ k => castTop (ef_tsf m) k) ?_
  refine own_iconst X0 hx hby (-1) d11_0 rfl ?_
  refine own_iloadN X0 hx hby d11_1 rfl ?_
  refine own_iconst X0 hx hby 1 d11_2 rfl ?_
  refine own_isub X0 hx hby d11_3 ?_
  refine own_eq (U' := (s₁.setTop (mkF m 4 #[.val (.int (16 : Int32)), .unset] [(.int (15 : Int32)), (.int (-1 : Int32))]))) (by rw [show ((16 : Int32) - (1 : Int32)) = (15 : Int32) by decide]) ?_
  obtain ⟨_, _, ⟨T10, L10, k10, n10⟩, -, X10, ⟨Lc10, hQ10, l10, y10, z10⟩, st10⟩ := Jvm.LawKit.callS X0 hx (y := mN_4) hown (mvT hZ (own_w hw 65 rfl)) (mvT hZ (own_w hw 66 rfl)) (mvT hZ (own_w hw 67 rfl)) (mvT hZ (own_w hw 68 rfl)) (by decide) (backOf (W := 1) (rmnlz l Z a0 hw []  h0 n0 Z0 ) hZ (own_w hw 68 rfl) (own_w hw 67 rfl) (by decide) (by decide)) (g := (mkF m 4 #[.val (.int (16 : Int32)), .unset] [(.int (15 : Int32)), (.int (-1 : Int32))])) rfl (by rw [hml]; rfl) (argsL := [(.int (15 : Int32))]) (rest := [(.int (-1 : Int32))]) (lenOf pd_1 rfl) rfl (by show 2 * 0 + _ ≤ _; exact Nat.le_of_eq rfl) (hb hby d11_4) (fun _ _ => ⟨rfl, e0, (by decide : 0 + 0 ≤ _), (by decide : 0 + 0 ≤ _)⟩)
  dsimp only [Pt.U, Pt.locs, Pt.cells, Pt.slots] at X10 l10 y10 z10 st10 hQ10
  subst l10 y10 z10
  obtain ⟨rfl, Nq10, e10⟩ := hQ10
  have N10 := Fr.app N0 Nq10
  refine own_of (U' := (T10.setTop (mkF m 7 #[.val (.int (16 : Int32)), .unset] [(.int (28 : Int32)), (.int (-1 : Int32))]))) (st10) ?_
  refine own_iushr X10 hx hby d11_7 ?_
  refine own_eq (U' := (T10.setTop (mkF m 8 #[.val (.int (16 : Int32)), .unset] [(.int (15 : Int32))]))) (by rw [show (XT.ushr (-1 : Int32) (28 : Int32)) = (15 : Int32) by decide]) ?_
  refine own_istoreN X10 hx hby d11_8 (l' := #[.val (.int (16 : Int32)), .val (.int (15 : Int32))]) rfl ?_
  refine own_iloadN X10 hx hby d11_9 rfl ?_
  have hc10_11 : ¬ ((15 : Int32) < (0 : Int32)) := by decide
  refine own_ifYes X10 hx hby 10 17 d11_10 ((if0 _ _).trans (flt hc10_11).2.1) (by decide) (by decide) ?_
  refine own_iloadN X10 hx hby d11_17 rfl ?_
  refine own_of (U' := (T10.setTop (mkF m 20 #[.val (.int (16 : Int32)), .val (.int (15 : Int32))] [(.int (1073741824 : Int32)), (.int (15 : Int32))]))) (X10.ldcInt hx hown (mvT hZ (own_w hw 55 rfl)) (g := (mkF m 18 #[.val (.int (16 : Int32)), .val (.int (15 : Int32))] [(.int (15 : Int32))])) rfl (hb hby d11_18)) ?_
  have hc20_12 : (15 : Int32) < (1073741824 : Int32) := by decide
  refine own_icmpYes X10 hx hby 20 28 d11_20 (tlt hc20_12).1 (by decide) (by decide) ?_
  refine own_iloadN X10 hx hby d11_28 rfl ?_
  refine own_iconst X10 hx hby 1 d11_29 rfl ?_
  refine own_iadd X10 hx hby d11_30 ?_
  refine own_eq (U' := (T10.setTop (mkF m 31 #[.val (.int (16 : Int32)), .val (.int (15 : Int32))] [(.int (16 : Int32))]))) (by rw [show ((15 : Int32) + (1 : Int32)) = (16 : Int32) by decide]) ?_
  exact own_retI X10 hx hlk Bd.returns (hb hby d11_31) (by decide) (by decide) (⟨rfl, N10, e10⟩)
abbrev mN_6 : MethodName := ⟨"java/util/HashMap", "<init>", "(IF)V"⟩
theorem pd_2 : parseMethodDescriptor "(F)Z" = some ⟨[.float], some .boolean⟩ := by decide +kernel
theorem d8_0 : decode jdk_69_method_5_code 0 = .ok (.aload_n 0, 1) := by decide +kernel
theorem d8_1 : decode jdk_69_method_5_code 1 = .ok (.invokespecial 43, 3) := by decide +kernel
theorem d8_4 : decode jdk_69_method_5_code 4 = .ok (.iload_n 1, 1) := by decide +kernel
theorem d8_5 : decode jdk_69_method_5_code 5 = .ok (.ifCond .ge 30, 3) := by decide +kernel
theorem d8_35 : decode jdk_69_method_5_code 35 = .ok (.iload_n 1, 1) := by decide +kernel
theorem d8_36 : decode jdk_69_method_5_code 36 = .ok (.ldc 42, 2) := by decide +kernel
theorem d8_38 : decode jdk_69_method_5_code 38 = .ok (.if_icmp .le 6, 3) := by decide +kernel
theorem d8_44 : decode jdk_69_method_5_code 44 = .ok (.fload_n 2, 1) := by decide +kernel
theorem d8_45 : decode jdk_69_method_5_code 45 = .ok (.fconst 0, 1) := by decide +kernel
theorem d8_46 : decode jdk_69_method_5_code 46 = .ok (.fcmp .g, 1) := by decide +kernel
theorem d8_47 : decode jdk_69_method_5_code 47 = .ok (.ifCond .le 10, 3) := by decide +kernel
theorem d8_50 : decode jdk_69_method_5_code 50 = .ok (.fload_n 2, 1) := by decide +kernel
theorem d8_51 : decode jdk_69_method_5_code 51 = .ok (.invokestatic 70, 3) := by decide +kernel
theorem d8_54 : decode jdk_69_method_5_code 54 = .ok (.ifCond .eq 30, 3) := by decide +kernel
theorem d8_84 : decode jdk_69_method_5_code 84 = .ok (.aload_n 0, 1) := by decide +kernel
theorem d8_85 : decode jdk_69_method_5_code 85 = .ok (.fload_n 2, 1) := by decide +kernel
theorem d8_86 : decode jdk_69_method_5_code 86 = .ok (.putfield 81, 3) := by decide +kernel
theorem d8_89 : decode jdk_69_method_5_code 89 = .ok (.aload_n 0, 1) := by decide +kernel
theorem d8_90 : decode jdk_69_method_5_code 90 = .ok (.iload_n 1, 1) := by decide +kernel
theorem d8_91 : decode jdk_69_method_5_code 91 = .ok (.invokestatic 85, 3) := by decide +kernel
theorem d8_94 : decode jdk_69_method_5_code 94 = .ok (.putfield 88, 3) := by decide +kernel
theorem d8_97 : decode jdk_69_method_5_code 97 = .ok (.return_, 1) := by decide +kernel
theorem ef_hm (m : MethodId) (x0 : Addr) : entryFrame m #[(.ref x0), (.int (16 : Int32)), (.float (1061158912 : UInt32))] 3 = mkF m 0 #[.val (.ref x0), .val (.int (16 : Int32)), .val (.float (1061158912 : UInt32))] [] := by first | (simp [entryFrame, mkF, argsToLocals, Value.category]; done) | rfl
def Qhm (Z : State) (a1 : Addr) (h0 : Heap) (n0 : Nat) (v : Option Value) (h : Heap) (L : List Loc) : Prop := v = none ∧ Fr n0 L ∧ Keep h0 h [a1] ∧ Fld Z h a1 "java/util/HashMap" "table" "[Ljava/util/HashMap$Node;" .null ∧ Fld Z h a1 "java/util/LinkedHashMap" "putMode" "I" (.int (0 : Int32)) ∧ Fld Z h a1 "java/util/LinkedHashMap" "accessOrder" "Z" (.int (0 : Int32))
set_option maxRecDepth 65536 in
set_option maxHeartbeats 40000000 in
theorem rmhm (l : Launch) (Z : State) (a0 : Array Value) (hw : ∀ d ∈ tables_1, d.before a0 Z = true) (ws : List Jvm.Cond) (a1 : Addr) (h0 : Heap) (n0 : Nat) (Z0 : n0 ≤ h0.size) (E1 : Exa Z h0 a1 "java/util/LinkedHashMap") (Ft : Fld Z h0 a1 "java/util/HashMap" "table" "[Ljava/util/HashMap$Node;" .null) (Fl : Fld Z h0 a1 "java/util/HashMap" "loadFactor" "F" (.float (0 : UInt32))) (Fh : Fld Z h0 a1 "java/util/HashMap" "threshold" "I" (.int (0 : Int32))) (Fp : Fld Z h0 a1 "java/util/LinkedHashMap" "putMode" "I" (.int (0 : Int32))) (Fa : Fld Z h0 a1 "java/util/LinkedHashMap" "accessOrder" "Z" (.int (0 : Int32))) (g_a1 : n0 ≤ a1) :
    MetFree l mN_6 (head1 (Jvm.Cond.code mN_6 jdk_69_method_5_code 3 none :: ws) ({ frames := 2, cells := 0, slots := 0, locals := 28 } : Room)) (fun a U => a = #[(.ref a1), (.int (16 : Int32)), (.float (1061158912 : UInt32))] ∧ Z.Warmed39 U.vm ∧ U.heap = h0) (fun _ _ _ _ _ => True) (fun _ U o U' => ∃ v L, o = .returned v ∧ (Qhm Z a1 h0 n0) v U'.heap L ∧ FrameEnd U o U' L ({ frames := 2, cells := 0, slots := 0, locals := 28 } : Room).cells ({ frames := 2, cells := 0, slots := 0, locals := 28 } : Room).slots) := by
  refine MetFree.of_bodySF (plainFor_of_name pn_4) hisR ?_
  intro p e s m args below meth c s₁ Bd hml0 hP hK
  obtain ⟨rfl, hZ, hh⟩ := hP
  have hx := Bd.exec
  have hby := Bd.bytes
  have hml : c.maxLocals = 3 := hml0
  have hown : s.vm.findClass "java/util/HashMap" = some m.cls := findClass_of_methodNamed Bd.named
  have hnm := (name_of_methodNamed Bd.named Bd.method).1
  have hlk := Bd.notSynchronized
  have X0 : Stand p l e ({ frames := 2, cells := 0, slots := 0, locals := 28 } : Room) s m #[(.ref a1), (.int (16 : Int32)), (.float (1061158912 : UInt32))] below meth c s₁ [] 0 0 := Stand.of_body Bd
  have e0 : s₁.heap = h0 := by rw [← hh, Bd.state]; rfl
  have N0 := Fr.nil n0
  have KK := Keep.refl h0 [a1]
  show own_Ends p e below s FrameEnd (Qhm Z a1 h0 n0) 0 0 (s₁.setTop (entryFrame m #[(.ref a1), (.int (16 : Int32)), (.float (1061158912 : UInt32))] 3))
  refine own_of (U' := (s₁.setTop (mkF m 0 #[.val (.ref a1), .val (.int (16 : Int32)), .val (.float (1061158912 : UInt32))] []))) (fun _ k => castTop (ef_hm m a1) k) ?_
  refine own_aloadN X0 hx hby d8_0 rfl rfl ?_
  obtain ⟨_, _, ⟨T13, L13, k13, n13⟩, -, X13, ⟨Lc13, hQ13, l13, y13, z13⟩, st13⟩ := X0.specialBack hx (y := mN_2) rfl hown (mvT hZ (own_w hw 48 rfl)) (mvT hZ (own_w hw 49 rfl)) (mvT hZ (own_w hw 53 rfl)) (by decide) (backOf (W := 0) (rmam l Z a0 hw [] a1 h0 n0 Z0 ) hZ (own_w hw 53 rfl) (own_w hw 52 rfl) (by decide) (by decide)) (g := (mkF m 1 #[.val (.ref a1), .val (.int (16 : Int32)), .val (.float (1061158912 : UInt32))] [(.ref a1)])) rfl (by rw [hml]; rfl) (Steps.refl _) (a := a1) (argsL := []) (rest := []) (lenOf pd_0 rfl) rfl (by show 2 * 0 + _ ≤ _; exact Nat.le_of_eq rfl) (hb hby d8_1) (fun _ _ => ⟨rfl, e0, (by decide : 0 + 0 ≤ _), (by decide : 0 + 0 ≤ _)⟩)
  dsimp only [Pt.U, Pt.locs, Pt.cells, Pt.slots] at X13 l13 y13 z13 st13 hQ13
  subst l13 y13 z13
  obtain ⟨rfl, Nq13, e13⟩ := hQ13
  have N13 := Fr.app N0 Nq13
  refine own_of (U' := (T13.setTop (mkF m 4 #[.val (.ref a1), .val (.int (16 : Int32)), .val (.float (1061158912 : UInt32))] []))) (fun _ k => st13.trans k) ?_
  refine own_iloadN X13 hx hby d8_4 rfl ?_
  have hc5_14 : ¬ ((16 : Int32) < (0 : Int32)) := by decide
  refine own_ifYes X13 hx hby 5 35 d8_5 ((if0 _ _).trans (flt hc5_14).2.1) (by decide) (by decide) ?_
  refine own_iloadN X13 hx hby d8_35 rfl ?_
  refine own_of (U' := (T13.setTop (mkF m 38 #[.val (.ref a1), .val (.int (16 : Int32)), .val (.float (1061158912 : UInt32))] [(.int (1073741824 : Int32)), (.int (16 : Int32))]))) (X13.ldcInt hx hown (mvT hZ (own_w hw 55 rfl)) (g := (mkF m 36 #[.val (.ref a1), .val (.int (16 : Int32)), .val (.float (1061158912 : UInt32))] [(.int (16 : Int32))])) rfl (hb hby d8_36)) ?_
  have hc38_15 : ¬ ((1073741824 : Int32) < (16 : Int32)) := by decide
  refine own_icmpYes X13 hx hby 38 44 d8_38 (flt hc38_15).2.2.2 (by decide) (by decide) ?_
  refine own_of (U' := (T13.setTop (mkF m 45 #[.val (.ref a1), .val (.int (16 : Int32)), .val (.float (1061158912 : UInt32))] [(.float (1061158912 : UInt32))]))) (fun _ k => XS.floadN X13.here hx rfl (hb hby d8_44) rfl k) ?_
  refine own_of (U' := (T13.setTop (mkF m 46 #[.val (.ref a1), .val (.int (16 : Int32)), .val (.float (1061158912 : UInt32))] [(.float (0 : UInt32)), (.float (1061158912 : UInt32))]))) (fun _ k => XS.fconst0 X13.here hx rfl (hb hby d8_45) (v := 0) (by decide +kernel) k) ?_
  refine own_of (U' := (T13.setTop (mkF m 47 #[.val (.ref a1), .val (.int (16 : Int32)), .val (.float (1061158912 : UInt32))] [(.int (1 : Int32))]))) (fun _ k => XS.fcmpS X13.here hx rfl (hb hby d8_46) rfl (v := (1 : Int32)) (by decide +kernel) k) ?_
  have hc47_16 : (0 : Int32) < (1 : Int32) := by decide
  refine own_ifNo X13 hx hby d8_47 ((if0 _ _).trans (tlt hc47_16).2.2.2) ?_
  refine own_of (U' := (T13.setTop (mkF m 51 #[.val (.ref a1), .val (.int (16 : Int32)), .val (.float (1061158912 : UInt32))] [(.float (1061158912 : UInt32))]))) (fun _ k => XS.floadN X13.here hx rfl (hb hby d8_50) rfl k) ?_
  obtain ⟨_, _, ⟨T17, L17, k17, n17⟩, -, X17, ⟨Lc17, hQ17, l17, y17, z17⟩, st17⟩ := Jvm.LawKit.callS X13 hx (y := mN_3) hown (mvT hZ (own_w hw 56 rfl)) (mvT hZ (own_w hw 57 rfl)) (mvT hZ (own_w hw 58 rfl)) (mvT hZ (own_w hw 59 rfl)) (by decide) (backOf (W := 0) (rmnan l Z a0 hw []  h0 n0 Z0 ) hZ (own_w hw 59 rfl) (own_w hw 58 rfl) (by decide) (by decide)) (g := (mkF m 51 #[.val (.ref a1), .val (.int (16 : Int32)), .val (.float (1061158912 : UInt32))] [(.float (1061158912 : UInt32))])) rfl (by rw [hml]; rfl) (argsL := [(.float (1061158912 : UInt32))]) (rest := []) (lenOf pd_2 rfl) rfl (by show 2 * 0 + _ ≤ _; exact Nat.le_of_eq rfl) (hb hby d8_51) (fun _ _ => ⟨rfl, e13, (by decide : 0 + 0 ≤ _), (by decide : 0 + 0 ≤ _)⟩)
  dsimp only [Pt.U, Pt.locs, Pt.cells, Pt.slots] at X17 l17 y17 z17 st17 hQ17
  subst l17 y17 z17
  obtain ⟨rfl, Nq17, e17⟩ := hQ17
  have N17 := Fr.app N13 Nq17
  refine own_of (U' := (T17.setTop (mkF m 54 #[.val (.ref a1), .val (.int (16 : Int32)), .val (.float (1061158912 : UInt32))] [(.int (0 : Int32))]))) (st17) ?_
  have hc54_18 : (0 : Int32) = (0 : Int32) := by decide
  refine own_ifYes X17 hx hby 54 84 d8_54 ((if0 _ _).trans (teq hc54_18).1) (by decide) (by decide) ?_
  refine own_aloadN X17 hx hby d8_84 rfl rfl ?_
  refine own_of (U' := (T17.setTop (mkF m 86 #[.val (.ref a1), .val (.int (16 : Int32)), .val (.float (1061158912 : UInt32))] [(.float (1061158912 : UInt32)), (.ref a1)]))) (fun _ k => XS.floadN X17.here hx rfl (hb hby d8_85) rfl k) ?_
  obtain ⟨T19, h19, X19, e19, W19, st19⟩ := putF X17 hx hZ hown (host := "") (Or.inl (own_w hw 60 rfl)) Via.refl e17 Fl E1 (Or.inr ⟨(own_w hw 61 rfl), rfl, hnm⟩) (own_w hw 36 rfl) (ty := .float) (by decide) rfl rfl (g := (mkF m 86 #[.val (.ref a1), .val (.int (16 : Int32)), .val (.float (1061158912 : UInt32))] [(.float (1061158912 : UInt32)), (.ref a1)])) rfl rfl (hb hby d8_86)
  replace Z0 := Nat.le_trans Z0 (Keep.of_wr W19).1
  replace E1 := E1.wr W19
  replace Ft := Ft.other W19 (Or.inr (slot_ne (Or.inl (own_w hw 121 rfl)) (Or.inr (own_w hw 61 rfl)) (by decide) (t := (.array (.object "java/util/HashMap$Node"))) (t' := .float) (by decide) (by decide)))
  replace Fl := Fl.same W19
  replace Fh := Fh.other W19 (Or.inr (slot_ne (Or.inl (own_w hw 71 rfl)) (Or.inr (own_w hw 61 rfl)) (by decide) (t := .int) (t' := .float) (by decide) (by decide)))
  replace Fp := Fp.other W19 (Or.inr (slot_ne (Or.inl (own_w hw 73 rfl)) (Or.inr (own_w hw 61 rfl)) (by decide) (t := .int) (t' := .float) (by decide) (by decide)))
  replace Fa := Fa.other W19 (Or.inr (slot_ne (Or.inr (own_w hw 75 rfl)) (Or.inr (own_w hw 61 rfl)) (by decide) (t := .boolean) (t' := .float) (by decide) (by decide)))
  replace KK := KK.wr W19 (Or.inl (List.mem_of_getElem? (i := 0) rfl))
  have N19 := Fr.snoc X19 N17 g_a1
  refine own_of (U' := (T19.setTop (mkF m 89 #[.val (.ref a1), .val (.int (16 : Int32)), .val (.float (1061158912 : UInt32))] []))) (st19) ?_
  refine own_aloadN X19 hx hby d8_89 rfl rfl ?_
  refine own_iloadN X19 hx hby d8_90 rfl ?_
  obtain ⟨_, _, ⟨T20, L20, k20, n20⟩, -, X20, ⟨Lc20, hQ20, l20, y20, z20⟩, st20⟩ := Jvm.LawKit.callS X19 hx (y := mN_5) hown (mvT hZ (own_w hw 62 rfl)) (mvT hZ (own_w hw 63 rfl)) (mvT hZ (own_w hw 46 rfl)) (mvT hZ (own_w hw 64 rfl)) (by decide) (backOf (W := 1) (rmtsf l Z a0 hw []  h19 n0 Z0 ) hZ (own_w hw 64 rfl) (own_w hw 46 rfl) (by decide) (by decide)) (g := (mkF m 91 #[.val (.ref a1), .val (.int (16 : Int32)), .val (.float (1061158912 : UInt32))] [(.int (16 : Int32)), (.ref a1)])) rfl (by rw [hml]; rfl) (argsL := [(.int (16 : Int32))]) (rest := [(.ref a1)]) (lenOf pd_1 rfl) rfl (by show 2 * 0 + _ ≤ _; exact Nat.le_of_eq rfl) (hb hby d8_91) (fun _ _ => ⟨rfl, e19, (by decide : 0 + 0 ≤ _), (by decide : 0 + 0 ≤ _)⟩)
  dsimp only [Pt.U, Pt.locs, Pt.cells, Pt.slots] at X20 l20 y20 z20 st20 hQ20
  subst l20 y20 z20
  obtain ⟨rfl, Nq20, e20⟩ := hQ20
  have N20 := Fr.app N19 Nq20
  refine own_of (U' := (T20.setTop (mkF m 94 #[.val (.ref a1), .val (.int (16 : Int32)), .val (.float (1061158912 : UInt32))] [(.int (16 : Int32)), (.ref a1)]))) (st20) ?_
  obtain ⟨T21, h21, X21, e21, W21, st21⟩ := putF X20 hx hZ hown (host := "") (Or.inl (own_w hw 70 rfl)) Via.refl e20 Fh E1 (Or.inl (own_w hw 71 rfl)) (own_w hw 36 rfl) (ty := .int) (by decide) rfl rfl (g := (mkF m 94 #[.val (.ref a1), .val (.int (16 : Int32)), .val (.float (1061158912 : UInt32))] [(.int (16 : Int32)), (.ref a1)])) rfl rfl (hb hby d8_94)
  replace Z0 := Nat.le_trans Z0 (Keep.of_wr W21).1
  replace E1 := E1.wr W21
  replace Ft := Ft.other W21 (Or.inr (slot_ne (Or.inl (own_w hw 121 rfl)) (Or.inl (own_w hw 71 rfl)) (by decide) (t := (.array (.object "java/util/HashMap$Node"))) (t' := .int) (by decide) (by decide)))
  replace Fl := Fl.other W21 (Or.inr (slot_ne (Or.inr (own_w hw 61 rfl)) (Or.inl (own_w hw 71 rfl)) (by decide) (t := .float) (t' := .int) (by decide) (by decide)))
  replace Fh := Fh.same W21
  replace Fp := Fp.other W21 (Or.inr (slot_ne (Or.inl (own_w hw 73 rfl)) (Or.inl (own_w hw 71 rfl)) (by decide) (t := .int) (t' := .int) (by decide) (by decide)))
  replace Fa := Fa.other W21 (Or.inr (slot_ne (Or.inr (own_w hw 75 rfl)) (Or.inl (own_w hw 71 rfl)) (by decide) (t := .boolean) (t' := .int) (by decide) (by decide)))
  replace KK := KK.wr W21 (Or.inl (List.mem_of_getElem? (i := 0) rfl))
  have N21 := Fr.snoc X21 N20 g_a1
  refine own_of (U' := (T21.setTop (mkF m 97 #[.val (.ref a1), .val (.int (16 : Int32)), .val (.float (1061158912 : UInt32))] []))) (st21) ?_
  exact own_ret0 X21 hx hlk Bd.returns (hb hby d8_97) (by decide) (by decide) (by rw [e21]; exact ⟨rfl, N21, KK, Ft, Fp, Fa⟩)
abbrev mN_7 : MethodName := ⟨"java/util/LinkedHashMap", "<init>", "(IF)V"⟩
theorem pd_3 : parseMethodDescriptor "(IF)V" = some ⟨[.int, .float], none⟩ := by decide +kernel
theorem d7_0 : decode jdk_94_method_14_code 0 = .ok (.aload_n 0, 1) := by decide +kernel
theorem d7_1 : decode jdk_94_method_14_code 1 = .ok (.iload_n 1, 1) := by decide +kernel
theorem d7_2 : decode jdk_94_method_14_code 2 = .ok (.fload_n 2, 1) := by decide +kernel
theorem d7_3 : decode jdk_94_method_14_code 3 = .ok (.invokespecial 81, 3) := by decide +kernel
theorem d7_6 : decode jdk_94_method_14_code 6 = .ok (.aload_n 0, 1) := by decide +kernel
theorem d7_7 : decode jdk_94_method_14_code 7 = .ok (.iconst 0, 1) := by decide +kernel
theorem d7_8 : decode jdk_94_method_14_code 8 = .ok (.putfield 1, 3) := by decide +kernel
theorem d7_11 : decode jdk_94_method_14_code 11 = .ok (.aload_n 0, 1) := by decide +kernel
theorem d7_12 : decode jdk_94_method_14_code 12 = .ok (.iconst 0, 1) := by decide +kernel
theorem d7_13 : decode jdk_94_method_14_code 13 = .ok (.putfield 64, 3) := by decide +kernel
theorem d7_16 : decode jdk_94_method_14_code 16 = .ok (.return_, 1) := by decide +kernel
theorem pn_5 : plainName "java/util/LinkedHashMap" = true := by first | (simp [plainName, overriddenIn]; done) | decide +kernel
theorem ef_lm (m : MethodId) (x0 : Addr) : entryFrame m #[(.ref x0), (.int (16 : Int32)), (.float (1061158912 : UInt32))] 3 = mkF m 0 #[.val (.ref x0), .val (.int (16 : Int32)), .val (.float (1061158912 : UInt32))] [] := by first | (simp [entryFrame, mkF, argsToLocals, Value.category]; done) | rfl
def Qlm (Z : State) (a1 : Addr) (h0 : Heap) (n0 : Nat) (v : Option Value) (h : Heap) (L : List Loc) : Prop := v = none ∧ Fr n0 L ∧ Keep h0 h [a1] ∧ Fld Z h a1 "java/util/HashMap" "table" "[Ljava/util/HashMap$Node;" .null
set_option maxRecDepth 65536 in
set_option maxHeartbeats 40000000 in
theorem rmlm (l : Launch) (Z : State) (a0 : Array Value) (hw : ∀ d ∈ tables_1, d.before a0 Z = true) (ws : List Jvm.Cond) (a1 : Addr) (h0 : Heap) (n0 : Nat) (Z0 : n0 ≤ h0.size) (E1 : Exa Z h0 a1 "java/util/LinkedHashMap") (Ft : Fld Z h0 a1 "java/util/HashMap" "table" "[Ljava/util/HashMap$Node;" .null) (Fl : Fld Z h0 a1 "java/util/HashMap" "loadFactor" "F" (.float (0 : UInt32))) (Fh : Fld Z h0 a1 "java/util/HashMap" "threshold" "I" (.int (0 : Int32))) (Fp : Fld Z h0 a1 "java/util/LinkedHashMap" "putMode" "I" (.int (0 : Int32))) (Fa : Fld Z h0 a1 "java/util/LinkedHashMap" "accessOrder" "Z" (.int (0 : Int32))) (g_a1 : n0 ≤ a1) :
    MetFree l mN_7 (head1 (Jvm.Cond.code mN_7 jdk_94_method_14_code 3 none :: ws) ({ frames := 3, cells := 0, slots := 0, locals := 42 } : Room)) (fun a U => a = #[(.ref a1), (.int (16 : Int32)), (.float (1061158912 : UInt32))] ∧ Z.Warmed39 U.vm ∧ U.heap = h0) (fun _ _ _ _ _ => True) (fun _ U o U' => ∃ v L, o = .returned v ∧ (Qlm Z a1 h0 n0) v U'.heap L ∧ FrameEnd U o U' L ({ frames := 3, cells := 0, slots := 0, locals := 42 } : Room).cells ({ frames := 3, cells := 0, slots := 0, locals := 42 } : Room).slots) := by
  refine MetFree.of_bodySF (plainFor_of_name pn_5) hisR ?_
  intro p e s m args below meth c s₁ Bd hml0 hP hK
  obtain ⟨rfl, hZ, hh⟩ := hP
  have hx := Bd.exec
  have hby := Bd.bytes
  have hml : c.maxLocals = 3 := hml0
  have hown : s.vm.findClass "java/util/LinkedHashMap" = some m.cls := findClass_of_methodNamed Bd.named
  have hnm := (name_of_methodNamed Bd.named Bd.method).1
  have hlk := Bd.notSynchronized
  have X0 : Stand p l e ({ frames := 3, cells := 0, slots := 0, locals := 42 } : Room) s m #[(.ref a1), (.int (16 : Int32)), (.float (1061158912 : UInt32))] below meth c s₁ [] 0 0 := Stand.of_body Bd
  have e0 : s₁.heap = h0 := by rw [← hh, Bd.state]; rfl
  have N0 := Fr.nil n0
  have KK := Keep.refl h0 [a1]
  show own_Ends p e below s FrameEnd (Qlm Z a1 h0 n0) 0 0 (s₁.setTop (entryFrame m #[(.ref a1), (.int (16 : Int32)), (.float (1061158912 : UInt32))] 3))
  refine own_of (U' := (s₁.setTop (mkF m 0 #[.val (.ref a1), .val (.int (16 : Int32)), .val (.float (1061158912 : UInt32))] []))) (fun _ k => castTop (ef_lm m a1) k) ?_
  refine own_aloadN X0 hx hby d7_0 rfl rfl ?_
  refine own_iloadN X0 hx hby d7_1 rfl ?_
  refine own_of (U' := (s₁.setTop (mkF m 3 #[.val (.ref a1), .val (.int (16 : Int32)), .val (.float (1061158912 : UInt32))] [(.float (1061158912 : UInt32)), (.int (16 : Int32)), (.ref a1)]))) (fun _ k => XS.floadN X0.here hx rfl (hb hby d7_2) rfl k) ?_
  obtain ⟨_, _, ⟨T22, L22, k22, n22⟩, -, X22, ⟨Lc22, hQ22, l22, y22, z22⟩, st22⟩ := X0.specialBack hx (y := mN_6) rfl hown (mvT hZ (own_w hw 42 rfl)) (mvT hZ (own_w hw 43 rfl)) (mvT hZ (own_w hw 47 rfl)) (by decide) (backOf (W := 0) (rmhm l Z a0 hw [] a1 h0 n0 Z0 E1 Ft Fl Fh Fp Fa g_a1) hZ (own_w hw 47 rfl) (own_w hw 46 rfl) (by decide) (by decide)) (g := (mkF m 3 #[.val (.ref a1), .val (.int (16 : Int32)), .val (.float (1061158912 : UInt32))] [(.float (1061158912 : UInt32)), (.int (16 : Int32)), (.ref a1)])) rfl (by rw [hml]; rfl) (Steps.refl _) (a := a1) (argsL := [(.int (16 : Int32)), (.float (1061158912 : UInt32))]) (rest := []) (lenOf pd_3 rfl) rfl (by show 2 * 0 + _ ≤ _; exact Nat.le_of_eq rfl) (hb hby d7_3) (fun _ _ => ⟨rfl, e0, (by decide : 0 + 0 ≤ _), (by decide : 0 + 0 ≤ _)⟩)
  dsimp only [Pt.U, Pt.locs, Pt.cells, Pt.slots] at X22 l22 y22 z22 st22 hQ22
  subst l22 y22 z22
  obtain ⟨rfl, Nq22, Kp22, Ft22, Fp22, Fa22⟩ := hQ22
  have N22 := Fr.app N0 Nq22
  replace Z0 := Nat.le_trans Z0 Kp22.1
  replace E1 := E1.keep Kp22
  replace KK := KK.trans Kp22 (allS (Or.inl (List.mem_of_getElem? (i := 0) rfl)) all0)
  refine own_of (U' := (T22.setTop (mkF m 6 #[.val (.ref a1), .val (.int (16 : Int32)), .val (.float (1061158912 : UInt32))] []))) (fun _ k => st22.trans k) ?_
  refine own_aloadN X22 hx hby d7_6 rfl rfl ?_
  refine own_iconst X22 hx hby 0 d7_7 rfl ?_
  obtain ⟨T23, h23, X23, e23, W23, st23⟩ := putF X22 hx hZ hown (host := "") (Or.inl (own_w hw 72 rfl)) Via.refl rfl Fp22 E1 (Or.inl (own_w hw 73 rfl)) (own_w hw 36 rfl) (ty := .int) (by decide) rfl rfl (g := (mkF m 8 #[.val (.ref a1), .val (.int (16 : Int32)), .val (.float (1061158912 : UInt32))] [(.int (0 : Int32)), (.ref a1)])) rfl rfl (hb hby d7_8)
  replace Z0 := Nat.le_trans Z0 (Keep.of_wr W23).1
  replace E1 := E1.wr W23
  replace KK := KK.wr W23 (Or.inl (List.mem_of_getElem? (i := 0) rfl))
  replace Ft22 := Ft22.other W23 (Or.inr (slot_ne (Or.inl (own_w hw 121 rfl)) (Or.inl (own_w hw 73 rfl)) (by decide) (t := (.array (.object "java/util/HashMap$Node"))) (t' := .int) (by decide) (by decide)))
  replace Fp22 := Fp22.same W23
  replace Fa22 := Fa22.other W23 (Or.inr (slot_ne (Or.inr (own_w hw 75 rfl)) (Or.inl (own_w hw 73 rfl)) (by decide) (t := .boolean) (t' := .int) (by decide) (by decide)))
  have N23 := Fr.snoc X23 N22 g_a1
  refine own_of (U' := (T23.setTop (mkF m 11 #[.val (.ref a1), .val (.int (16 : Int32)), .val (.float (1061158912 : UInt32))] []))) (st23) ?_
  refine own_aloadN X23 hx hby d7_11 rfl rfl ?_
  refine own_iconst X23 hx hby 0 d7_12 rfl ?_
  obtain ⟨T24, h24, X24, e24, W24, st24⟩ := putFN X23 hx hZ hown (own_w hw 74 rfl) Via.refl e23 Fa22 E1 (Or.inr ⟨(own_w hw 75 rfl), rfl, hnm⟩) (own_w hw 36 rfl) (ty := .boolean) (v' := (.int (0 : Int32))) (by decide) rfl (by decide) (g := (mkF m 13 #[.val (.ref a1), .val (.int (16 : Int32)), .val (.float (1061158912 : UInt32))] [(.int (0 : Int32)), (.ref a1)])) rfl rfl (hb hby d7_13)
  replace Z0 := Nat.le_trans Z0 (Keep.of_wr W24).1
  replace E1 := E1.wr W24
  replace KK := KK.wr W24 (Or.inl (List.mem_of_getElem? (i := 0) rfl))
  replace Ft22 := Ft22.other W24 (Or.inr (slot_ne (Or.inl (own_w hw 121 rfl)) (Or.inr (own_w hw 75 rfl)) (by decide) (t := (.array (.object "java/util/HashMap$Node"))) (t' := .boolean) (by decide) (by decide)))
  replace Fp22 := Fp22.other W24 (Or.inr (slot_ne (Or.inl (own_w hw 73 rfl)) (Or.inr (own_w hw 75 rfl)) (by decide) (t := .int) (t' := .boolean) (by decide) (by decide)))
  replace Fa22 := Fa22.same W24
  have N24 := Fr.snoc X24 N23 g_a1
  refine own_of (U' := (T24.setTop (mkF m 16 #[.val (.ref a1), .val (.int (16 : Int32)), .val (.float (1061158912 : UInt32))] []))) (st24) ?_
  exact own_ret0 X24 hx hlk Bd.returns (hb hby d7_16) (by decide) (by decide) (by rw [e24]; exact ⟨rfl, N24, KK, Ft22⟩)
abbrev mN_8 : MethodName := ⟨"java/util/HashSet", "<init>", "(IFZ)V"⟩
theorem d4_0 : decode jdk_93_method_5_code 0 = .ok (.aload_n 0, 1) := by decide +kernel
theorem d4_1 : decode jdk_93_method_5_code 1 = .ok (.invokespecial 1, 3) := by decide +kernel
theorem d4_4 : decode jdk_93_method_5_code 4 = .ok (.aload_n 0, 1) := by decide +kernel
theorem d4_5 : decode jdk_93_method_5_code 5 = .ok (.new 42, 3) := by decide +kernel
theorem d4_8 : decode jdk_93_method_5_code 8 = .ok (.dup, 1) := by decide +kernel
theorem d4_9 : decode jdk_93_method_5_code 9 = .ok (.iload_n 1, 1) := by decide +kernel
theorem d4_10 : decode jdk_93_method_5_code 10 = .ok (.fload_n 2, 1) := by decide +kernel
theorem d4_11 : decode jdk_93_method_5_code 11 = .ok (.invokespecial 44, 3) := by decide +kernel
theorem d4_14 : decode jdk_93_method_5_code 14 = .ok (.putfield 10, 3) := by decide +kernel
theorem d4_17 : decode jdk_93_method_5_code 17 = .ok (.return_, 1) := by decide +kernel
theorem pn_6 : plainName "java/util/HashSet" = true := by first | (simp [plainName, overriddenIn]; done) | decide +kernel
theorem ef_hs (m : MethodId) (x0 : Addr) : entryFrame m #[(.ref x0), (.int (16 : Int32)), (.float (1061158912 : UInt32)), (.int (1 : Int32))] 4 = mkF m 0 #[.val (.ref x0), .val (.int (16 : Int32)), .val (.float (1061158912 : UInt32)), .val (.int (1 : Int32))] [] := by first | (simp [entryFrame, mkF, argsToLocals, Value.category]; done) | rfl
def Qhs (Z : State) (a1 : Addr) (h0 : Heap) (n0 : Nat) (v : Option Value) (h : Heap) (L : List Loc) : Prop := v = none ∧ Fr n0 L ∧ Keep h0 h [a1] ∧ ∃ c : Addr, h0.size ≤ c ∧ Fld Z h a1 "java/util/HashSet" "map" "Ljava/util/HashMap;" (.ref c) ∧ Exa Z h c "java/util/LinkedHashMap" ∧ Fld Z h c "java/util/HashMap" "table" "[Ljava/util/HashMap$Node;" .null
set_option maxRecDepth 65536 in
set_option maxHeartbeats 40000000 in
theorem rmhs (l : Launch) (Z : State) (a0 : Array Value) (hw : ∀ d ∈ tables_1, d.before a0 Z = true) (ws : List Jvm.Cond) (a1 : Addr) (h0 : Heap) (n0 : Nat) (Z0 : n0 ≤ h0.size) (E1 : Exa Z h0 a1 "java/util/LinkedHashSet") (Fm : Fld Z h0 a1 "java/util/HashSet" "map" "Ljava/util/HashMap;" .null) (g_a1 : n0 ≤ a1) :
    MetFree l mN_8 (head1 (Jvm.Cond.code mN_8 jdk_93_method_5_code 4 none :: ws) ({ frames := 4, cells := 1, slots := 12, locals := 58 } : Room)) (fun a U => a = #[(.ref a1), (.int (16 : Int32)), (.float (1061158912 : UInt32)), (.int (1 : Int32))] ∧ Z.Warmed39 U.vm ∧ U.heap = h0) (fun _ _ _ _ _ => True) (fun _ U o U' => ∃ v L, o = .returned v ∧ (Qhs Z a1 h0 n0) v U'.heap L ∧ FrameEnd U o U' L ({ frames := 4, cells := 1, slots := 12, locals := 58 } : Room).cells ({ frames := 4, cells := 1, slots := 12, locals := 58 } : Room).slots) := by
  refine MetFree.of_bodySF (plainFor_of_name pn_6) hisR ?_
  intro p e s m args below meth c s₁ Bd hml0 hP hK
  obtain ⟨rfl, hZ, hh⟩ := hP
  have hx := Bd.exec
  have hby := Bd.bytes
  have hml : c.maxLocals = 4 := hml0
  have hown : s.vm.findClass "java/util/HashSet" = some m.cls := findClass_of_methodNamed Bd.named
  have hnm := (name_of_methodNamed Bd.named Bd.method).1
  have hlk := Bd.notSynchronized
  have X0 : Stand p l e ({ frames := 4, cells := 1, slots := 12, locals := 58 } : Room) s m #[(.ref a1), (.int (16 : Int32)), (.float (1061158912 : UInt32)), (.int (1 : Int32))] below meth c s₁ [] 0 0 := Stand.of_body Bd
  have e0 : s₁.heap = h0 := by rw [← hh, Bd.state]; rfl
  have N0 := Fr.nil n0
  have KK := Keep.refl h0 [a1]
  show own_Ends p e below s FrameEnd (Qhs Z a1 h0 n0) 1 12 (s₁.setTop (entryFrame m #[(.ref a1), (.int (16 : Int32)), (.float (1061158912 : UInt32)), (.int (1 : Int32))] 4))
  refine own_of (U' := (s₁.setTop (mkF m 0 #[.val (.ref a1), .val (.int (16 : Int32)), .val (.float (1061158912 : UInt32)), .val (.int (1 : Int32))] []))) (fun _ k => castTop (ef_hs m a1) k) ?_
  refine own_aloadN X0 hx hby d4_0 rfl rfl ?_
  obtain ⟨_, _, ⟨T25, L25, k25, n25⟩, -, X25, ⟨Lc25, hQ25, l25, y25, z25⟩, st25⟩ := X0.specialBack hx (y := mN_1) rfl hown (mvT hZ (own_w hw 22 rfl)) (mvT hZ (own_w hw 23 rfl)) (mvT hZ (own_w hw 27 rfl)) (by decide) (backOf (W := 0) (rmas l Z a0 hw [] a1 h0 n0 Z0 ) hZ (own_w hw 27 rfl) (own_w hw 26 rfl) (by decide) (by decide)) (g := (mkF m 1 #[.val (.ref a1), .val (.int (16 : Int32)), .val (.float (1061158912 : UInt32)), .val (.int (1 : Int32))] [(.ref a1)])) rfl (by rw [hml]; rfl) (Steps.refl _) (a := a1) (argsL := []) (rest := []) (lenOf pd_0 rfl) rfl (by show 2 * 0 + _ ≤ _; exact Nat.le_of_eq rfl) (hb hby d4_1) (fun _ _ => ⟨rfl, e0, (by decide : 0 + 0 ≤ _), (by decide : 0 + 0 ≤ _)⟩)
  dsimp only [Pt.U, Pt.locs, Pt.cells, Pt.slots] at X25 l25 y25 z25 st25 hQ25
  subst l25 y25 z25
  obtain ⟨rfl, Nq25, e25⟩ := hQ25
  have N25 := Fr.app N0 Nq25
  refine own_of (U' := (T25.setTop (mkF m 4 #[.val (.ref a1), .val (.int (16 : Int32)), .val (.float (1061158912 : UInt32)), .val (.int (1 : Int32))] []))) (fun _ k => st25.trans k) ?_
  refine own_aloadN X25 hx hby d4_4 rfl rfl ?_
  obtain ⟨T26, h26, X26, e26, E26, A26, D26, -, st26⟩ := newO X25 hx hZ hown (own_w hw 35 rfl) (own_w hw 36 rfl) (own_w hw 37 rfl) e25 (g := (mkF m 5 #[.val (.ref a1), .val (.int (16 : Int32)), .val (.float (1061158912 : UInt32)), .val (.int (1 : Int32))] [(.ref a1)])) rfl (hb hby d4_5) (by decide) (by decide)
  obtain ⟨b26, gz26⟩ : ∃ z, z = h0.size := ⟨_, rfl⟩
  rw [← gz26] at A26 D26 st26
  have g_b26 : n0 ≤ b26 := Nat.le_trans Z0 (Nat.le_of_eq gz26.symm)
  have sz_b26 : h0.size ≤ b26 := Nat.le_trans KK.1 (Nat.le_of_eq gz26.symm)
  have ne_a1_b26 : a1 ≠ b26 := Nat.ne_of_lt (Nat.lt_of_lt_of_le E1.lt (Nat.le_of_eq gz26.symm))
  replace Z0 := Nat.le_trans Z0 E26.1
  replace E1 := E1.ext E26
  replace Fm := Fm.ext E26
  replace KK := KK.ext E26
  have F26_loadFactor : Fld Z h26 b26 "java/util/HashMap" "loadFactor" "F" (.float (0 : UInt32)) := D26 (Or.inr (own_w hw 61 rfl)) (ty := .float) (by decide)
  have F26_threshold : Fld Z h26 b26 "java/util/HashMap" "threshold" "I" (.int (0 : Int32)) := D26 (Or.inl (own_w hw 71 rfl)) (ty := .int) (by decide)
  have F26_putMode : Fld Z h26 b26 "java/util/LinkedHashMap" "putMode" "I" (.int (0 : Int32)) := D26 (Or.inl (own_w hw 73 rfl)) (ty := .int) (by decide)
  have F26_accessOrder : Fld Z h26 b26 "java/util/LinkedHashMap" "accessOrder" "Z" (.int (0 : Int32)) := D26 (Or.inr (own_w hw 75 rfl)) (ty := .boolean) (by decide)
  have F26_table : Fld Z h26 b26 "java/util/HashMap" "table" "[Ljava/util/HashMap$Node;" .null := D26 (Or.inl (own_w hw 121 rfl)) (ty := (.array (.object "java/util/HashMap$Node"))) (by decide)
  refine own_of (U' := (T26.setTop (mkF m 8 #[.val (.ref a1), .val (.int (16 : Int32)), .val (.float (1061158912 : UInt32)), .val (.int (1 : Int32))] [(.ref b26), (.ref a1)]))) (st26) ?_
  refine own_dup X26 hx hby d4_8 rfl ?_
  refine own_iloadN X26 hx hby d4_9 rfl ?_
  refine own_of (U' := (T26.setTop (mkF m 11 #[.val (.ref a1), .val (.int (16 : Int32)), .val (.float (1061158912 : UInt32)), .val (.int (1 : Int32))] [(.float (1061158912 : UInt32)), (.int (16 : Int32)), (.ref b26), (.ref b26), (.ref a1)]))) (fun _ k => XS.floadN X26.here hx rfl (hb hby d4_10) rfl k) ?_
  obtain ⟨_, _, ⟨T27, L27, k27, n27⟩, -, X27, ⟨Lc27, hQ27, l27, y27, z27⟩, st27⟩ := X26.specialBack hx (y := mN_7) rfl hown (mvT hZ (own_w hw 38 rfl)) (mvT hZ (own_w hw 39 rfl)) (mvT hZ (own_w hw 41 rfl)) (by decide) (backOf (W := 2) (rmlm l Z a0 hw [] b26 h26 n0 Z0 A26 F26_table F26_loadFactor F26_threshold F26_putMode F26_accessOrder g_b26) hZ (own_w hw 41 rfl) (own_w hw 37 rfl) (by decide) (by decide)) (g := (mkF m 11 #[.val (.ref a1), .val (.int (16 : Int32)), .val (.float (1061158912 : UInt32)), .val (.int (1 : Int32))] [(.float (1061158912 : UInt32)), (.int (16 : Int32)), (.ref b26), (.ref b26), (.ref a1)])) rfl (by rw [hml]; rfl) (Steps.refl _) (a := b26) (argsL := [(.int (16 : Int32)), (.float (1061158912 : UInt32))]) (rest := [(.ref b26), (.ref a1)]) (lenOf pd_3 rfl) rfl (by show 2 * 0 + _ ≤ _; exact Nat.le_of_eq rfl) (hb hby d4_11) (fun _ _ => ⟨rfl, e26, (by decide : 1 + 0 ≤ _), (by decide : 12 + 0 ≤ _)⟩)
  dsimp only [Pt.U, Pt.locs, Pt.cells, Pt.slots] at X27 l27 y27 z27 st27 hQ27
  subst l27 y27 z27
  obtain ⟨rfl, Nq27, Kp27, Ft27⟩ := hQ27
  have N27 := Fr.app N25 Nq27
  replace Z0 := Nat.le_trans Z0 Kp27.1
  replace E1 := E1.keep Kp27
  replace Fm := Fm.keep Kp27 (ninS ne_a1_b26 nin0)
  replace KK := KK.trans Kp27 (allS (Or.inr sz_b26) all0)
  replace A26 := A26.keep Kp27
  refine own_of (U' := (T27.setTop (mkF m 14 #[.val (.ref a1), .val (.int (16 : Int32)), .val (.float (1061158912 : UInt32)), .val (.int (1 : Int32))] [(.ref b26), (.ref a1)]))) (fun _ k => st27.trans k) ?_
  obtain ⟨T28, h28, X28, e28, W28, st28⟩ := putF X27 hx hZ hown (host := "") (Or.inl (own_w hw 76 rfl)) Via.refl rfl Fm E1 (Or.inl (own_w hw 77 rfl)) (own_w hw 10 rfl) (ty := (.object "java/util/HashMap")) (by decide) rfl rfl (g := (mkF m 14 #[.val (.ref a1), .val (.int (16 : Int32)), .val (.float (1061158912 : UInt32)), .val (.int (1 : Int32))] [(.ref b26), (.ref a1)])) rfl rfl (hb hby d4_14)
  replace Z0 := Nat.le_trans Z0 (Keep.of_wr W28).1
  replace E1 := E1.wr W28
  replace Fm := Fm.same W28
  replace KK := KK.wr W28 (Or.inl (List.mem_of_getElem? (i := 0) rfl))
  replace A26 := A26.wr W28
  replace Ft27 := Ft27.other W28 (Or.inl (Ne.symm ne_a1_b26))
  have N28 := Fr.snoc X28 N27 g_a1
  refine own_of (U' := (T28.setTop (mkF m 17 #[.val (.ref a1), .val (.int (16 : Int32)), .val (.float (1061158912 : UInt32)), .val (.int (1 : Int32))] []))) (st28) ?_
  exact own_ret0 X28 hx hlk Bd.returns (hb hby d4_17) (by decide) (by decide) (by rw [e28]; exact ⟨rfl, N28, KK, b26, sz_b26, Fm, A26, Ft27⟩)
abbrev mN_9 : MethodName := ⟨"java/util/LinkedHashSet", "<init>", "()V"⟩
theorem pd_4 : parseMethodDescriptor "(IFZ)V" = some ⟨[.int, .float, .boolean], none⟩ := by decide +kernel
theorem d3_0 : decode jdk_2620_method_3_code 0 = .ok (.aload_n 0, 1) := by decide +kernel
theorem d3_1 : decode jdk_2620_method_3_code 1 = .ok (.bipush 16, 2) := by decide +kernel
theorem d3_3 : decode jdk_2620_method_3_code 3 = .ok (.ldc 7, 2) := by decide +kernel
theorem d3_5 : decode jdk_2620_method_3_code 5 = .ok (.iconst 1, 1) := by decide +kernel
theorem d3_6 : decode jdk_2620_method_3_code 6 = .ok (.invokespecial 1, 3) := by decide +kernel
theorem d3_9 : decode jdk_2620_method_3_code 9 = .ok (.return_, 1) := by decide +kernel
theorem pn_7 : plainName "java/util/LinkedHashSet" = true := by first | (simp [plainName, overriddenIn]; done) | decide +kernel
theorem ef_ls (m : MethodId) (x0 : Addr) : entryFrame m #[(.ref x0)] 1 = mkF m 0 #[.val (.ref x0)] [] := by first | (simp [entryFrame, mkF, argsToLocals, Value.category]; done) | rfl
def Qls (Z : State) (a1 : Addr) (h0 : Heap) (n0 : Nat) (v : Option Value) (h : Heap) (L : List Loc) : Prop := v = none ∧ Fr n0 L ∧ Keep h0 h [a1] ∧ ∃ c : Addr, h0.size ≤ c ∧ Fld Z h a1 "java/util/HashSet" "map" "Ljava/util/HashMap;" (.ref c) ∧ Exa Z h c "java/util/LinkedHashMap" ∧ Fld Z h c "java/util/HashMap" "table" "[Ljava/util/HashMap$Node;" .null
set_option maxRecDepth 65536 in
set_option maxHeartbeats 40000000 in
theorem rmls (l : Launch) (Z : State) (a0 : Array Value) (hw : ∀ d ∈ tables_1, d.before a0 Z = true) (ws : List Jvm.Cond) (a1 : Addr) (h0 : Heap) (n0 : Nat) (Z0 : n0 ≤ h0.size) (E1 : Exa Z h0 a1 "java/util/LinkedHashSet") (Fm : Fld Z h0 a1 "java/util/HashSet" "map" "Ljava/util/HashMap;" .null) (g_a1 : n0 ≤ a1) :
    MetFree l mN_9 (head1 (Jvm.Cond.code mN_9 jdk_2620_method_3_code 1 none :: ws) ({ frames := 5, cells := 1, slots := 12, locals := 73 } : Room)) (fun a U => a = #[(.ref a1)] ∧ Z.Warmed39 U.vm ∧ U.heap = h0) (fun _ _ _ _ _ => True) (fun _ U o U' => ∃ v L, o = .returned v ∧ (Qls Z a1 h0 n0) v U'.heap L ∧ FrameEnd U o U' L ({ frames := 5, cells := 1, slots := 12, locals := 73 } : Room).cells ({ frames := 5, cells := 1, slots := 12, locals := 73 } : Room).slots) := by
  refine MetFree.of_bodySF (plainFor_of_name pn_7) hisR ?_
  intro p e s m args below meth c s₁ Bd hml0 hP hK
  obtain ⟨rfl, hZ, hh⟩ := hP
  have hx := Bd.exec
  have hby := Bd.bytes
  have hml : c.maxLocals = 1 := hml0
  have hown : s.vm.findClass "java/util/LinkedHashSet" = some m.cls := findClass_of_methodNamed Bd.named
  have hnm := (name_of_methodNamed Bd.named Bd.method).1
  have hlk := Bd.notSynchronized
  have X0 : Stand p l e ({ frames := 5, cells := 1, slots := 12, locals := 73 } : Room) s m #[(.ref a1)] below meth c s₁ [] 0 0 := Stand.of_body Bd
  have e0 : s₁.heap = h0 := by rw [← hh, Bd.state]; rfl
  have N0 := Fr.nil n0
  have KK := Keep.refl h0 [a1]
  show own_Ends p e below s FrameEnd (Qls Z a1 h0 n0) 1 12 (s₁.setTop (entryFrame m #[(.ref a1)] 1))
  refine own_of (U' := (s₁.setTop (mkF m 0 #[.val (.ref a1)] []))) (fun _ k => castTop (ef_ls m a1) k) ?_
  refine own_aloadN X0 hx hby d3_0 rfl rfl ?_
  refine own_bipush X0 hx hby 16 d3_1 rfl ?_
  refine own_of (U' := (s₁.setTop (mkF m 5 #[.val (.ref a1)] [(.float (1061158912 : UInt32)), (.int (16 : Int32)), (.ref a1)]))) (X0.ldcFloatC hx hown (mvT hZ (own_w hw 15 rfl)) (g := (mkF m 3 #[.val (.ref a1)] [(.int (16 : Int32)), (.ref a1)])) rfl (hb hby d3_3)) ?_
  refine own_iconst X0 hx hby 1 d3_5 rfl ?_
  obtain ⟨_, _, ⟨T29, L29, k29, n29⟩, -, X29, ⟨Lc29, hQ29, l29, y29, z29⟩, st29⟩ := X0.specialBack hx (y := mN_8) rfl hown (mvT hZ (own_w hw 16 rfl)) (mvT hZ (own_w hw 17 rfl)) (mvT hZ (own_w hw 21 rfl)) (by decide) (backOf (W := 0) (rmhs l Z a0 hw [] a1 h0 n0 Z0 E1 Fm g_a1) hZ (own_w hw 21 rfl) (own_w hw 20 rfl) (by decide) (by decide)) (g := (mkF m 6 #[.val (.ref a1)] [(.int (1 : Int32)), (.float (1061158912 : UInt32)), (.int (16 : Int32)), (.ref a1)])) rfl (by rw [hml]; rfl) (Steps.refl _) (a := a1) (argsL := [(.int (16 : Int32)), (.float (1061158912 : UInt32)), (.int (1 : Int32))]) (rest := []) (lenOf pd_4 rfl) rfl (by show 2 * 0 + _ ≤ _; exact Nat.le_of_eq rfl) (hb hby d3_6) (fun _ _ => ⟨rfl, e0, (by decide : 0 + 1 ≤ _), (by decide : 0 + 12 ≤ _)⟩)
  dsimp only [Pt.U, Pt.locs, Pt.cells, Pt.slots] at X29 l29 y29 z29 st29 hQ29
  subst l29 y29 z29
  obtain ⟨rfl, Nq29, Kp29, c29, gq29, Fm29, Ec29, Ft29⟩ := hQ29
  have g_c29 : n0 ≤ c29 := Nat.le_trans Z0 gq29
  have sz_c29 : h0.size ≤ c29 := Nat.le_trans KK.1 gq29
  have ne_a1_c29 : a1 ≠ c29 := Nat.ne_of_lt (Nat.lt_of_lt_of_le E1.lt gq29)
  have N29 := Fr.app N0 Nq29
  replace Z0 := Nat.le_trans Z0 Kp29.1
  replace E1 := E1.keep Kp29
  replace KK := KK.trans Kp29 (allS (Or.inl (List.mem_of_getElem? (i := 0) rfl)) all0)
  refine own_of (U' := (T29.setTop (mkF m 9 #[.val (.ref a1)] []))) (fun _ k => st29.trans k) ?_
  exact own_ret0 X29 hx hlk Bd.returns (hb hby d3_9) (by decide) (by decide) (⟨rfl, N29, KK, c29, sz_c29, Fm29, Ec29, Ft29⟩)
abbrev mN_10 : MethodName := ⟨"com/example/svyazka/svyazka/http/Connections", "<init>", "()V"⟩
theorem d1_0 : decode prog_12_method_1_code 0 = .ok (.aload_n 0, 1) := by decide +kernel
theorem d1_1 : decode prog_12_method_1_code 1 = .ok (.invokespecial 1, 3) := by decide +kernel
theorem d1_4 : decode prog_12_method_1_code 4 = .ok (.aload_n 0, 1) := by decide +kernel
theorem d1_5 : decode prog_12_method_1_code 5 = .ok (.new 7, 3) := by decide +kernel
theorem d1_8 : decode prog_12_method_1_code 8 = .ok (.dup, 1) := by decide +kernel
theorem d1_9 : decode prog_12_method_1_code 9 = .ok (.invokespecial 9, 3) := by decide +kernel
theorem d1_12 : decode prog_12_method_1_code 12 = .ok (.putfield 10, 3) := by decide +kernel
theorem d1_15 : decode prog_12_method_1_code 15 = .ok (.return_, 1) := by decide +kernel
theorem pn_8 : plainName "com/example/svyazka/svyazka/http/Connections" = true := by first | (simp [plainName, overriddenIn]; done) | decide +kernel
theorem ef_cn (m : MethodId) (x0 : Addr) : entryFrame m #[(.ref x0)] 1 = mkF m 0 #[.val (.ref x0)] [] := by first | (simp [entryFrame, mkF, argsToLocals, Value.category]; done) | rfl
def Qcn (Z : State) (a1 : Addr) (h0 : Heap) (n0 : Nat) (v : Option Value) (h : Heap) (L : List Loc) : Prop := v = none ∧ Fr n0 L ∧ Keep h0 h [a1] ∧ Fld Z h a1 "com/example/svyazka/svyazka/http/Connections" "open" "I" (.int (0 : Int32)) ∧ Fld Z h a1 "com/example/svyazka/svyazka/http/Connections" "closing" "I" (.int (0 : Int32)) ∧ ∃ d c : Addr, h0.size ≤ d ∧ h0.size ≤ c ∧ d ≠ c ∧ Fld Z h a1 "com/example/svyazka/svyazka/http/Connections" "closable" "Ljava/util/Set;" (.ref d) ∧ Exa Z h d "java/util/LinkedHashSet" ∧ Fld Z h d "java/util/HashSet" "map" "Ljava/util/HashMap;" (.ref c) ∧ Exa Z h c "java/util/LinkedHashMap" ∧ Fld Z h c "java/util/HashMap" "table" "[Ljava/util/HashMap$Node;" .null
set_option maxRecDepth 65536 in
set_option maxHeartbeats 40000000 in
theorem rmcn (l : Launch) (Z : State) (a0 : Array Value) (hw : ∀ d ∈ tables_1, d.before a0 Z = true) (ws : List Jvm.Cond) (a1 : Addr) (h0 : Heap) (n0 : Nat) (Z0 : n0 ≤ h0.size) (E1 : Exa Z h0 a1 "com/example/svyazka/svyazka/http/Connections") (Fo : Fld Z h0 a1 "com/example/svyazka/svyazka/http/Connections" "open" "I" (.int (0 : Int32))) (Fg : Fld Z h0 a1 "com/example/svyazka/svyazka/http/Connections" "closing" "I" (.int (0 : Int32))) (Fc : Fld Z h0 a1 "com/example/svyazka/svyazka/http/Connections" "closable" "Ljava/util/Set;" .null) (g_a1 : n0 ≤ a1) :
    MetFree l mN_10 (head1 (Jvm.Cond.code mN_10 prog_12_method_1_code 1 none :: ws) ({ frames := 6, cells := 2, slots := 13, locals := 87 } : Room)) (fun a U => a = #[(.ref a1)] ∧ Z.Warmed39 U.vm ∧ U.heap = h0) (fun _ _ _ _ _ => True) (fun _ U o U' => ∃ v L, o = .returned v ∧ (Qcn Z a1 h0 n0) v U'.heap L ∧ FrameEnd U o U' L ({ frames := 6, cells := 2, slots := 13, locals := 87 } : Room).cells ({ frames := 6, cells := 2, slots := 13, locals := 87 } : Room).slots) := by
  refine MetFree.of_bodySF (plainFor_of_name pn_8) hisR ?_
  intro p e s m args below meth c s₁ Bd hml0 hP hK
  obtain ⟨rfl, hZ, hh⟩ := hP
  have hx := Bd.exec
  have hby := Bd.bytes
  have hml : c.maxLocals = 1 := hml0
  have hown : s.vm.findClass "com/example/svyazka/svyazka/http/Connections" = some m.cls := findClass_of_methodNamed Bd.named
  have hnm := (name_of_methodNamed Bd.named Bd.method).1
  have hlk := Bd.notSynchronized
  have X0 : Stand p l e ({ frames := 6, cells := 2, slots := 13, locals := 87 } : Room) s m #[(.ref a1)] below meth c s₁ [] 0 0 := Stand.of_body Bd
  have e0 : s₁.heap = h0 := by rw [← hh, Bd.state]; rfl
  have N0 := Fr.nil n0
  have KK := Keep.refl h0 [a1]
  show own_Ends p e below s FrameEnd (Qcn Z a1 h0 n0) 2 13 (s₁.setTop (entryFrame m #[(.ref a1)] 1))
  refine own_of (U' := (s₁.setTop (mkF m 0 #[.val (.ref a1)] []))) (fun _ k => castTop (ef_cn m a1) k) ?_
  refine own_aloadN X0 hx hby d1_0 rfl rfl ?_
  obtain ⟨T30, X30, e30, st30⟩ := initO X0 hx hZ hown (own_w hw 6 rfl) (own_w hw 7 rfl) (own_w hw 8 rfl) e0 (g := (mkF m 1 #[.val (.ref a1)] [(.ref a1)])) rfl (by rw [hml]; rfl) rfl (hb hby d1_1) (by decide) (W := 0) (by show 2 * 0 + _ ≤ _; exact Nat.le_of_eq rfl) (by decide)
  refine own_of (U' := (T30.setTop (mkF m 4 #[.val (.ref a1)] []))) (st30) ?_
  refine own_aloadN X30 hx hby d1_4 rfl rfl ?_
  obtain ⟨T31, h31, X31, e31, E31, A31, D31, -, st31⟩ := newO X30 hx hZ hown (own_w hw 9 rfl) (own_w hw 10 rfl) (own_w hw 11 rfl) e30 (g := (mkF m 5 #[.val (.ref a1)] [(.ref a1)])) rfl (hb hby d1_5) (by decide) (by decide)
  obtain ⟨b31, gz31⟩ : ∃ z, z = h0.size := ⟨_, rfl⟩
  rw [← gz31] at A31 D31 st31
  have g_b31 : n0 ≤ b31 := Nat.le_trans Z0 (Nat.le_of_eq gz31.symm)
  have sz_b31 : h0.size ≤ b31 := Nat.le_trans KK.1 (Nat.le_of_eq gz31.symm)
  have ne_a1_b31 : a1 ≠ b31 := Nat.ne_of_lt (Nat.lt_of_lt_of_le E1.lt (Nat.le_of_eq gz31.symm))
  replace Z0 := Nat.le_trans Z0 E31.1
  replace E1 := E1.ext E31
  replace Fo := Fo.ext E31
  replace Fg := Fg.ext E31
  replace Fc := Fc.ext E31
  replace KK := KK.ext E31
  have F31_map : Fld Z h31 b31 "java/util/HashSet" "map" "Ljava/util/HashMap;" .null := D31 (Or.inl (own_w hw 77 rfl)) (ty := (.object "java/util/HashMap")) (by decide)
  refine own_of (U' := (T31.setTop (mkF m 8 #[.val (.ref a1)] [(.ref b31), (.ref a1)]))) (st31) ?_
  refine own_dup X31 hx hby d1_8 rfl ?_
  obtain ⟨_, _, ⟨T32, L32, k32, n32⟩, -, X32, ⟨Lc32, hQ32, l32, y32, z32⟩, st32⟩ := X31.specialBack hx (y := mN_9) rfl hown (mvT hZ (own_w hw 12 rfl)) (mvT hZ (own_w hw 13 rfl)) (mvT hZ (own_w hw 14 rfl)) (by decide) (backOf (W := 2) (rmls l Z a0 hw [] b31 h31 n0 Z0 A31 F31_map g_b31) hZ (own_w hw 14 rfl) (own_w hw 11 rfl) (by decide) (by decide)) (g := (mkF m 9 #[.val (.ref a1)] [(.ref b31), (.ref b31), (.ref a1)])) rfl (by rw [hml]; rfl) (Steps.refl _) (a := b31) (argsL := []) (rest := [(.ref b31), (.ref a1)]) (lenOf pd_0 rfl) rfl (by show 2 * 0 + _ ≤ _; exact Nat.le_of_eq rfl) (hb hby d1_9) (fun _ _ => ⟨rfl, e31, (by decide : 1 + 1 ≤ _), (by decide : 1 + 12 ≤ _)⟩)
  dsimp only [Pt.U, Pt.locs, Pt.cells, Pt.slots] at X32 l32 y32 z32 st32 hQ32
  subst l32 y32 z32
  obtain ⟨rfl, Nq32, Kp32, c32, gq32, Fm32, Ec32, Ft32⟩ := hQ32
  have g_c32 : n0 ≤ c32 := Nat.le_trans Z0 gq32
  have sz_c32 : h0.size ≤ c32 := Nat.le_trans KK.1 gq32
  have ne_a1_c32 : a1 ≠ c32 := Nat.ne_of_lt (Nat.lt_of_lt_of_le E1.lt gq32)
  have ne_b31_c32 : b31 ≠ c32 := Nat.ne_of_lt (Nat.lt_of_lt_of_le A31.lt gq32)
  have N32 := Fr.app N0 Nq32
  replace Z0 := Nat.le_trans Z0 Kp32.1
  replace E1 := E1.keep Kp32
  replace Fo := Fo.keep Kp32 (ninS ne_a1_b31 nin0)
  replace Fg := Fg.keep Kp32 (ninS ne_a1_b31 nin0)
  replace Fc := Fc.keep Kp32 (ninS ne_a1_b31 nin0)
  replace KK := KK.trans Kp32 (allS (Or.inr sz_b31) all0)
  replace A31 := A31.keep Kp32
  refine own_of (U' := (T32.setTop (mkF m 12 #[.val (.ref a1)] [(.ref b31), (.ref a1)]))) (fun _ k => st32.trans k) ?_
  obtain ⟨T33, h33, X33, e33, W33, st33⟩ := putF X32 hx hZ hown (host := "") (Or.inl (own_w hw 78 rfl)) Via.refl rfl Fc E1 (Or.inr ⟨(own_w hw 79 rfl), rfl, hnm⟩) (own_w hw 1 rfl) (ty := (.object "java/util/Set")) (by decide) rfl rfl (g := (mkF m 12 #[.val (.ref a1)] [(.ref b31), (.ref a1)])) rfl rfl (hb hby d1_12)
  replace Z0 := Nat.le_trans Z0 (Keep.of_wr W33).1
  replace E1 := E1.wr W33
  replace Fo := Fo.other W33 (Or.inr (slot_ne (Or.inl (own_w hw 97 rfl)) (Or.inr (own_w hw 79 rfl)) (by decide) (t := .int) (t' := (.object "java/util/Set")) (by decide) (by decide)))
  replace Fg := Fg.other W33 (Or.inr (slot_ne (Or.inl (own_w hw 86 rfl)) (Or.inr (own_w hw 79 rfl)) (by decide) (t := .int) (t' := (.object "java/util/Set")) (by decide) (by decide)))
  replace Fc := Fc.same W33
  replace KK := KK.wr W33 (Or.inl (List.mem_of_getElem? (i := 0) rfl))
  replace A31 := A31.wr W33
  replace Fm32 := Fm32.other W33 (Or.inl (Ne.symm ne_a1_b31))
  replace Ec32 := Ec32.wr W33
  replace Ft32 := Ft32.other W33 (Or.inl (Ne.symm ne_a1_c32))
  have N33 := Fr.snoc X33 N32 g_a1
  refine own_of (U' := (T33.setTop (mkF m 15 #[.val (.ref a1)] []))) (st33) ?_
  exact own_ret0 X33 hx hlk Bd.returns (hb hby d1_15) (by decide) (by decide) (by rw [e33]; exact ⟨rfl, N33, KK, Fo, Fg, b31, c32, sz_b31, sz_c32, ne_b31_c32, Fc, A31, Fm32, Ec32, Ft32⟩)
abbrev mN_11 : MethodName := ⟨"java/util/HashMap", "hash", "(Ljava/lang/Object;)I"⟩
theorem d18_0 : decode jdk_69_method_1_code 0 = .ok (.aload_n 0, 1) := by decide +kernel
theorem d18_1 : decode jdk_69_method_1_code 1 = .ok (.ifnonnull 7, 3) := by decide +kernel
theorem d18_4 : decode jdk_69_method_1_code 4 = .ok (.iconst 0, 1) := by decide +kernel
theorem d18_5 : decode jdk_69_method_1_code 5 = .ok (.goto 14, 3) := by decide +kernel
theorem d18_19 : decode jdk_69_method_1_code 19 = .ok (.ireturn, 1) := by decide +kernel
theorem ef_ha (m : MethodId)  : entryFrame m #[.null] 2 = mkF m 0 #[.val .null, .unset] [] := by first | (simp [entryFrame, mkF, argsToLocals, Value.category]; done) | rfl
def Qha  (h0 : Heap) (n0 : Nat) (v : Option Value) (h : Heap) (L : List Loc) : Prop := v = some (.int 0) ∧ Fr n0 L ∧ h = h0
set_option maxRecDepth 65536 in
set_option maxHeartbeats 40000000 in
theorem rmha (l : Launch) (Z : State) (a0 : Array Value) (hw : ∀ d ∈ tables_1, d.before a0 Z = true) (ws : List Jvm.Cond)  (h0 : Heap) (n0 : Nat) (Z0 : n0 ≤ h0.size)  :
    MetFree l mN_11 (head1 (Jvm.Cond.code mN_11 jdk_69_method_1_code 2 (some .int) :: ws) ({ frames := 0, cells := 0, slots := 0, locals := 0 } : Room)) (fun a U => a = #[.null] ∧ Z.Warmed39 U.vm ∧ U.heap = h0) (fun _ _ _ _ _ => True) (fun _ U o U' => ∃ v L, o = .returned v ∧ (Qha h0 n0) v U'.heap L ∧ FrameEnd U o U' L ({ frames := 0, cells := 0, slots := 0, locals := 0 } : Room).cells ({ frames := 0, cells := 0, slots := 0, locals := 0 } : Room).slots) := by
  refine MetFree.of_bodySF (plainFor_of_name pn_4) hisR ?_
  intro p e s m args below meth c s₁ Bd hml0 hP hK
  obtain ⟨rfl, hZ, hh⟩ := hP
  have hx := Bd.exec
  have hby := Bd.bytes
  have hml : c.maxLocals = 2 := hml0
  have hown : s.vm.findClass "java/util/HashMap" = some m.cls := findClass_of_methodNamed Bd.named
  have hnm := (name_of_methodNamed Bd.named Bd.method).1
  have hlk := Bd.notSynchronized
  have X0 : Stand p l e ({ frames := 0, cells := 0, slots := 0, locals := 0 } : Room) s m #[.null] below meth c s₁ [] 0 0 := Stand.of_body Bd
  have e0 : s₁.heap = h0 := by rw [← hh, Bd.state]; rfl
  have N0 := Fr.nil n0
  show own_Ends p e below s FrameEnd (Qha h0 n0) 0 0 (s₁.setTop (entryFrame m #[.null] 2))
  refine own_of (U' := (s₁.setTop (mkF m 0 #[.val .null, .unset] []))) (fun _ k => castTop (ef_ha m) k) ?_
  refine own_aloadN X0 hx hby d18_0 rfl rfl ?_
  refine own_ifnonnullNo X0 hx hby d18_1 ?_
  refine own_iconst X0 hx hby 0 d18_4 rfl ?_
  refine own_goto X0 hx hby 5 19 d18_5 (by decide) (by decide) ?_
  exact own_retI X0 hx hlk Bd.returns (hb hby d18_19) (by decide) (by decide) (⟨rfl, N0, e0⟩)
abbrev mN_12 : MethodName := ⟨"java/util/HashMap", "removeNode", "(ILjava/lang/Object;Ljava/lang/Object;ZZ)Ljava/util/HashMap$Node;"⟩
theorem d19_0 : decode jdk_69_method_21_code 0 = .ok (.aload_n 0, 1) := by decide +kernel
theorem d19_1 : decode jdk_69_method_21_code 1 = .ok (.getfield 105, 3) := by decide +kernel
theorem d19_4 : decode jdk_69_method_21_code 4 = .ok (.dup, 1) := by decide +kernel
theorem d19_5 : decode jdk_69_method_21_code 5 = .ok (.astore 6, 2) := by decide +kernel
theorem d19_7 : decode jdk_69_method_21_code 7 = .ok (.ifnull 282, 3) := by decide +kernel
theorem d19_289 : decode jdk_69_method_21_code 289 = .ok (.aconst_null, 1) := by decide +kernel
theorem d19_290 : decode jdk_69_method_21_code 290 = .ok (.areturn, 1) := by decide +kernel
theorem ef_rn (m : MethodId) (x0 : Addr) : entryFrame m #[(.ref x0), (.int (0 : Int32)), .null, .null, (.int (0 : Int32)), (.int (1 : Int32))] 14 = mkF m 0 #[.val (.ref x0), .val (.int (0 : Int32)), .val .null, .val .null, .val (.int (0 : Int32)), .val (.int (1 : Int32)), .unset, .unset, .unset, .unset, .unset, .unset, .unset, .unset] [] := by first | (simp [entryFrame, mkF, argsToLocals, Value.category]; done) | rfl
def Qrn  (h0 : Heap) (n0 : Nat) (v : Option Value) (h : Heap) (L : List Loc) : Prop := v = some .null ∧ Fr n0 L ∧ h = h0
set_option maxRecDepth 65536 in
set_option maxHeartbeats 40000000 in
theorem rmrn (l : Launch) (Z : State) (a0 : Array Value) (hw : ∀ d ∈ tables_1, d.before a0 Z = true) (ws : List Jvm.Cond) (a1 : Addr) (h0 : Heap) (n0 : Nat) (Z0 : n0 ≤ h0.size) (Ft : Fld Z h0 a1 "java/util/HashMap" "table" "[Ljava/util/HashMap$Node;" .null) :
    MetFree l mN_12 (head1 (Jvm.Cond.code mN_12 jdk_69_method_21_code 14 (some (.object "java/util/HashMap$Node")) :: ws) ({ frames := 0, cells := 0, slots := 0, locals := 0 } : Room)) (fun a U => a = #[(.ref a1), (.int (0 : Int32)), .null, .null, (.int (0 : Int32)), (.int (1 : Int32))] ∧ Z.Warmed39 U.vm ∧ U.heap = h0) (fun _ _ _ _ _ => True) (fun _ U o U' => ∃ v L, o = .returned v ∧ (Qrn h0 n0) v U'.heap L ∧ FrameEnd U o U' L ({ frames := 0, cells := 0, slots := 0, locals := 0 } : Room).cells ({ frames := 0, cells := 0, slots := 0, locals := 0 } : Room).slots) := by
  refine MetFree.of_bodySF (plainFor_of_name pn_4) hisR ?_
  intro p e s m args below meth c s₁ Bd hml0 hP hK
  obtain ⟨rfl, hZ, hh⟩ := hP
  have hx := Bd.exec
  have hby := Bd.bytes
  have hml : c.maxLocals = 14 := hml0
  have hown : s.vm.findClass "java/util/HashMap" = some m.cls := findClass_of_methodNamed Bd.named
  have hnm := (name_of_methodNamed Bd.named Bd.method).1
  have hlk := Bd.notSynchronized
  have X0 : Stand p l e ({ frames := 0, cells := 0, slots := 0, locals := 0 } : Room) s m #[(.ref a1), (.int (0 : Int32)), .null, .null, (.int (0 : Int32)), (.int (1 : Int32))] below meth c s₁ [] 0 0 := Stand.of_body Bd
  have e0 : s₁.heap = h0 := by rw [← hh, Bd.state]; rfl
  have N0 := Fr.nil n0
  show own_Ends p e below s FrameEnd (Qrn h0 n0) 0 0 (s₁.setTop (entryFrame m #[(.ref a1), (.int (0 : Int32)), .null, .null, (.int (0 : Int32)), (.int (1 : Int32))] 14))
  refine own_of (U' := (s₁.setTop (mkF m 0 #[.val (.ref a1), .val (.int (0 : Int32)), .val .null, .val .null, .val (.int (0 : Int32)), .val (.int (1 : Int32)), .unset, .unset, .unset, .unset, .unset, .unset, .unset, .unset] []))) (fun _ k => castTop (ef_rn m a1) k) ?_
  refine own_aloadN X0 hx hby d19_0 rfl rfl ?_
  obtain ⟨T34, X34, e34, st34⟩ := getF X0 hx hZ hown (host := "") (Or.inl (own_w hw 120 rfl)) Via.refl e0 Ft (g := (mkF m 1 #[.val (.ref a1), .val (.int (0 : Int32)), .val .null, .val .null, .val (.int (0 : Int32)), .val (.int (1 : Int32)), .unset, .unset, .unset, .unset, .unset, .unset, .unset, .unset] [(.ref a1)])) rfl rfl (hb hby d19_1)
  refine own_of (U' := (T34.setTop (mkF m 4 #[.val (.ref a1), .val (.int (0 : Int32)), .val .null, .val .null, .val (.int (0 : Int32)), .val (.int (1 : Int32)), .unset, .unset, .unset, .unset, .unset, .unset, .unset, .unset] [.null]))) (st34) ?_
  refine own_dup X34 hx hby d19_4 rfl ?_
  refine own_astore X34 hx hby d19_5 rfl (l' := #[.val (.ref a1), .val (.int (0 : Int32)), .val .null, .val .null, .val (.int (0 : Int32)), .val (.int (1 : Int32)), .val .null, .unset, .unset, .unset, .unset, .unset, .unset, .unset]) rfl ?_
  refine own_ifnullYes X34 hx hby 7 289 d19_7 (by decide) (by decide) ?_
  refine own_aconstNull X34 hx hby d19_289 ?_
  exact own_retA X34 hx hlk Bd.returns rfl rfl (hb hby d19_290) (by decide) (by decide) (⟨rfl, N0, e34⟩)
abbrev mN_13 : MethodName := ⟨"java/util/HashMap", "remove", "(Ljava/lang/Object;)Ljava/lang/Object;"⟩
theorem pd_5 : parseMethodDescriptor "(Ljava/lang/Object;)I" = some ⟨[(.object "java/lang/Object")], some .int⟩ := by decide +kernel
theorem pd_6 : parseMethodDescriptor "(ILjava/lang/Object;Ljava/lang/Object;ZZ)Ljava/util/HashMap$Node;" = some ⟨[.int, (.object "java/lang/Object"), (.object "java/lang/Object"), .boolean, .boolean], some (.object "java/util/HashMap$Node")⟩ := by decide +kernel
theorem d17_0 : decode jdk_69_method_20_code 0 = .ok (.aload_n 0, 1) := by decide +kernel
theorem d17_1 : decode jdk_69_method_20_code 1 = .ok (.aload_n 1, 1) := by decide +kernel
theorem d17_2 : decode jdk_69_method_20_code 2 = .ok (.invokestatic 149, 3) := by decide +kernel
theorem d17_5 : decode jdk_69_method_20_code 5 = .ok (.aload_n 1, 1) := by decide +kernel
theorem d17_6 : decode jdk_69_method_20_code 6 = .ok (.aconst_null, 1) := by decide +kernel
theorem d17_7 : decode jdk_69_method_20_code 7 = .ok (.iconst 0, 1) := by decide +kernel
theorem d17_8 : decode jdk_69_method_20_code 8 = .ok (.iconst 1, 1) := by decide +kernel
theorem d17_9 : decode jdk_69_method_20_code 9 = .ok (.invokevirtual 228, 3) := by decide +kernel
theorem d17_12 : decode jdk_69_method_20_code 12 = .ok (.dup, 1) := by decide +kernel
theorem d17_13 : decode jdk_69_method_20_code 13 = .ok (.astore_n 2, 1) := by decide +kernel
theorem d17_14 : decode jdk_69_method_20_code 14 = .ok (.ifnonnull 7, 3) := by decide +kernel
theorem d17_17 : decode jdk_69_method_20_code 17 = .ok (.aconst_null, 1) := by decide +kernel
theorem d17_18 : decode jdk_69_method_20_code 18 = .ok (.goto 7, 3) := by decide +kernel
theorem d17_25 : decode jdk_69_method_20_code 25 = .ok (.areturn, 1) := by decide +kernel
theorem ef_rv (m : MethodId) (x0 : Addr) : entryFrame m #[(.ref x0), .null] 3 = mkF m 0 #[.val (.ref x0), .val .null, .unset] [] := by first | (simp [entryFrame, mkF, argsToLocals, Value.category]; done) | rfl
def Qrv  (h0 : Heap) (n0 : Nat) (v : Option Value) (h : Heap) (L : List Loc) : Prop := v = some .null ∧ Fr n0 L ∧ h = h0
set_option maxRecDepth 65536 in
set_option maxHeartbeats 40000000 in
theorem rmrv (l : Launch) (Z : State) (a0 : Array Value) (hw : ∀ d ∈ tables_1, d.before a0 Z = true) (ws : List Jvm.Cond) (a1 : Addr) (h0 : Heap) (n0 : Nat) (Z0 : n0 ≤ h0.size) (E1 : Exa Z h0 a1 "java/util/LinkedHashMap") (Ft : Fld Z h0 a1 "java/util/HashMap" "table" "[Ljava/util/HashMap$Node;" .null) :
    MetFree l mN_13 (head1 (Jvm.Cond.code mN_13 jdk_69_method_20_code 3 (some (.object "java/lang/Object")) :: ws) ({ frames := 1, cells := 0, slots := 0, locals := 25 } : Room)) (fun a U => a = #[(.ref a1), .null] ∧ Z.Warmed39 U.vm ∧ U.heap = h0) (fun _ _ _ _ _ => True) (fun _ U o U' => ∃ v L, o = .returned v ∧ (Qrv h0 n0) v U'.heap L ∧ FrameEnd U o U' L ({ frames := 1, cells := 0, slots := 0, locals := 25 } : Room).cells ({ frames := 1, cells := 0, slots := 0, locals := 25 } : Room).slots) := by
  refine MetFree.of_bodySF (plainFor_of_name pn_4) hisR ?_
  intro p e s m args below meth c s₁ Bd hml0 hP hK
  obtain ⟨rfl, hZ, hh⟩ := hP
  have hx := Bd.exec
  have hby := Bd.bytes
  have hml : c.maxLocals = 3 := hml0
  have hown : s.vm.findClass "java/util/HashMap" = some m.cls := findClass_of_methodNamed Bd.named
  have hnm := (name_of_methodNamed Bd.named Bd.method).1
  have hlk := Bd.notSynchronized
  have X0 : Stand p l e ({ frames := 1, cells := 0, slots := 0, locals := 25 } : Room) s m #[(.ref a1), .null] below meth c s₁ [] 0 0 := Stand.of_body Bd
  have e0 : s₁.heap = h0 := by rw [← hh, Bd.state]; rfl
  have N0 := Fr.nil n0
  show own_Ends p e below s FrameEnd (Qrv h0 n0) 0 0 (s₁.setTop (entryFrame m #[(.ref a1), .null] 3))
  refine own_of (U' := (s₁.setTop (mkF m 0 #[.val (.ref a1), .val .null, .unset] []))) (fun _ k => castTop (ef_rv m a1) k) ?_
  refine own_aloadN X0 hx hby d17_0 rfl rfl ?_
  refine own_aloadN X0 hx hby d17_1 rfl rfl ?_
  obtain ⟨_, _, ⟨T35, L35, k35, n35⟩, -, X35, ⟨Lc35, hQ35, l35, y35, z35⟩, st35⟩ := Jvm.LawKit.callS X0 hx (y := mN_11) hown (mvT hZ (own_w hw 112 rfl)) (mvT hZ (own_w hw 113 rfl)) (mvT hZ (own_w hw 46 rfl)) (mvT hZ (own_w hw 114 rfl)) (by decide) (backOf (W := 1) (rmha l Z a0 hw []  h0 n0 Z0 ) hZ (own_w hw 114 rfl) (own_w hw 46 rfl) (by decide) (by decide)) (g := (mkF m 2 #[.val (.ref a1), .val .null, .unset] [.null, (.ref a1)])) rfl (by rw [hml]; rfl) (argsL := [.null]) (rest := [(.ref a1)]) (lenOf pd_5 rfl) rfl (by show 2 * 0 + _ ≤ _; exact Nat.le_of_eq rfl) (hb hby d17_2) (fun _ _ => ⟨rfl, e0, (by decide : 0 + 0 ≤ _), (by decide : 0 + 0 ≤ _)⟩)
  dsimp only [Pt.U, Pt.locs, Pt.cells, Pt.slots] at X35 l35 y35 z35 st35 hQ35
  subst l35 y35 z35
  obtain ⟨rfl, Nq35, e35⟩ := hQ35
  have N35 := Fr.app N0 Nq35
  refine own_of (U' := (T35.setTop (mkF m 5 #[.val (.ref a1), .val .null, .unset] [(.int (0 : Int32)), (.ref a1)]))) (st35) ?_
  refine own_aloadN X35 hx hby d17_5 rfl rfl ?_
  refine own_aconstNull X35 hx hby d17_6 ?_
  refine own_iconst X35 hx hby 0 d17_7 rfl ?_
  refine own_iconst X35 hx hby 1 d17_8 rfl ?_
  obtain ⟨cq36, kq36, q36a, q36b, q36c⟩ := isOf hZ e35 E1
  obtain ⟨_, _, ⟨T36, L36, k36, n36⟩, -, X36, ⟨Lc36, hQ36, l36, y36, z36⟩, st36⟩ := X35.virtualBack hx (y := mN_12) (z := mN_12) hown (mvT hZ (own_w hw 115 rfl)) (mvT hZ (own_w hw 116 rfl)) (notFace_of_selects (args := #[]) (mvT hZ (own_w hw 118 rfl))) (mvT hZ (own_w hw 118 rfl)) (mvT hZ (own_w hw 117 rfl)) (by decide) (backOf (W := 0) (rmrn l Z a0 hw [] a1 h0 n0 Z0 Ft) hZ (own_w hw 119 rfl) (own_w hw 46 rfl) (by decide) (by decide)) q36a q36c (g := (mkF m 9 #[.val (.ref a1), .val .null, .unset] [(.int (1 : Int32)), (.int (0 : Int32)), .null, .null, (.int (0 : Int32)), (.ref a1)])) rfl (by rw [hml]; rfl) (Steps.refl _) (argsL := [(.int (0 : Int32)), .null, .null, (.int (0 : Int32)), (.int (1 : Int32))]) (rest := []) (lenOf pd_6 rfl) rfl (by show 2 * 0 + _ ≤ _; exact Nat.le_of_eq rfl) (hb hby d17_9) (fun _ _ => ⟨rfl, e35, (by decide : 0 + 0 ≤ _), (by decide : 0 + 0 ≤ _)⟩)
  dsimp only [Pt.U, Pt.locs, Pt.cells, Pt.slots] at X36 l36 y36 z36 st36 hQ36
  subst l36 y36 z36
  obtain ⟨rfl, Nq36, e36⟩ := hQ36
  have N36 := Fr.app N35 Nq36
  refine own_of (U' := (T36.setTop (mkF m 12 #[.val (.ref a1), .val .null, .unset] [.null]))) (fun _ k => st36.trans k) ?_
  refine own_dup X36 hx hby d17_12 rfl ?_
  refine own_astoreN X36 hx hby d17_13 rfl (l' := #[.val (.ref a1), .val .null, .val .null]) rfl ?_
  refine own_ifnonnullNo X36 hx hby d17_14 ?_
  refine own_aconstNull X36 hx hby d17_17 ?_
  refine own_goto X36 hx hby 18 25 d17_18 (by decide) (by decide) ?_
  exact own_retA X36 hx hlk Bd.returns rfl rfl (hb hby d17_25) (by decide) (by decide) (⟨rfl, N36, e36⟩)
abbrev mN_14 : MethodName := ⟨"java/util/HashSet", "remove", "(Ljava/lang/Object;)Z"⟩
theorem pd_7 : parseMethodDescriptor "(Ljava/lang/Object;)Ljava/lang/Object;" = some ⟨[(.object "java/lang/Object")], some (.object "java/lang/Object")⟩ := by decide +kernel
theorem d16_0 : decode jdk_93_method_11_code 0 = .ok (.aload_n 0, 1) := by decide +kernel
theorem d16_1 : decode jdk_93_method_11_code 1 = .ok (.getfield 10, 3) := by decide +kernel
theorem d16_4 : decode jdk_93_method_11_code 4 = .ok (.aload_n 1, 1) := by decide +kernel
theorem d16_5 : decode jdk_93_method_11_code 5 = .ok (.invokevirtual 72, 3) := by decide +kernel
theorem d16_8 : decode jdk_93_method_11_code 8 = .ok (.getstatic 64, 3) := by decide +kernel
theorem d16_11 : decode jdk_93_method_11_code 11 = .ok (.if_acmp .ne 7, 3) := by decide +kernel
theorem d16_18 : decode jdk_93_method_11_code 18 = .ok (.iconst 0, 1) := by decide +kernel
theorem d16_19 : decode jdk_93_method_11_code 19 = .ok (.ireturn, 1) := by decide +kernel
theorem ef_sr (m : MethodId) (x0 : Addr) : entryFrame m #[(.ref x0), .null] 2 = mkF m 0 #[.val (.ref x0), .val .null] [] := by first | (simp [entryFrame, mkF, argsToLocals, Value.category]; done) | rfl
def Qsr  (h0 : Heap) (n0 : Nat) (v : Option Value) (h : Heap) (L : List Loc) : Prop := v = some (.int 0) ∧ Fr n0 L ∧ h = h0
set_option maxRecDepth 65536 in
set_option maxHeartbeats 40000000 in
theorem rmsr (l : Launch) (Z : State) (a0 : Array Value) (hw : ∀ d ∈ tables_1, d.before a0 Z = true) (ws : List Jvm.Cond) (a1 mc kP : Addr) (h0 : Heap) (n0 : Nat) (Z0 : n0 ≤ h0.size) (Fm : Fld Z h0 a1 "java/util/HashSet" "map" "Ljava/util/HashMap;" (.ref mc)) (Ec : Exa Z h0 mc "java/util/LinkedHashMap") (Ft : Fld Z h0 mc "java/util/HashMap" "table" "[Ljava/util/HashMap$Node;" .null) (SP : Sta Z h0 "java/util/HashSet" "PRESENT" "Ljava/lang/Object;" (.ref kP)) :
    MetFree l mN_14 (head1 (Jvm.Cond.code mN_14 jdk_93_method_11_code 2 (some .boolean) :: ws) ({ frames := 2, cells := 0, slots := 0, locals := 39 } : Room)) (fun a U => a = #[(.ref a1), .null] ∧ Z.Warmed39 U.vm ∧ U.heap = h0) (fun _ _ _ _ _ => True) (fun _ U o U' => ∃ v L, o = .returned v ∧ (Qsr h0 n0) v U'.heap L ∧ FrameEnd U o U' L ({ frames := 2, cells := 0, slots := 0, locals := 39 } : Room).cells ({ frames := 2, cells := 0, slots := 0, locals := 39 } : Room).slots) := by
  refine MetFree.of_bodySF (plainFor_of_name pn_6) hisR ?_
  intro p e s m args below meth c s₁ Bd hml0 hP hK
  obtain ⟨rfl, hZ, hh⟩ := hP
  have hx := Bd.exec
  have hby := Bd.bytes
  have hml : c.maxLocals = 2 := hml0
  have hown : s.vm.findClass "java/util/HashSet" = some m.cls := findClass_of_methodNamed Bd.named
  have hnm := (name_of_methodNamed Bd.named Bd.method).1
  have hlk := Bd.notSynchronized
  have X0 : Stand p l e ({ frames := 2, cells := 0, slots := 0, locals := 39 } : Room) s m #[(.ref a1), .null] below meth c s₁ [] 0 0 := Stand.of_body Bd
  have e0 : s₁.heap = h0 := by rw [← hh, Bd.state]; rfl
  have N0 := Fr.nil n0
  show own_Ends p e below s FrameEnd (Qsr h0 n0) 0 0 (s₁.setTop (entryFrame m #[(.ref a1), .null] 2))
  refine own_of (U' := (s₁.setTop (mkF m 0 #[.val (.ref a1), .val .null] []))) (fun _ k => castTop (ef_sr m a1) k) ?_
  refine own_aloadN X0 hx hby d16_0 rfl rfl ?_
  obtain ⟨T37, X37, e37, st37⟩ := getF X0 hx hZ hown (host := "") (Or.inl (own_w hw 76 rfl)) Via.refl e0 Fm (g := (mkF m 1 #[.val (.ref a1), .val .null] [(.ref a1)])) rfl rfl (hb hby d16_1)
  refine own_of (U' := (T37.setTop (mkF m 4 #[.val (.ref a1), .val .null] [(.ref mc)]))) (st37) ?_
  refine own_aloadN X37 hx hby d16_4 rfl rfl ?_
  obtain ⟨cq38, kq38, q38a, q38b, q38c⟩ := isOf hZ e37 Ec
  obtain ⟨_, _, ⟨T38, L38, k38, n38⟩, -, X38, ⟨Lc38, hQ38, l38, y38, z38⟩, st38⟩ := X37.virtualBack hx (y := mN_13) (z := mN_13) hown (mvT hZ (own_w hw 107 rfl)) (mvT hZ (own_w hw 108 rfl)) (notFace_of_selects (args := #[]) (mvT hZ (own_w hw 110 rfl))) (mvT hZ (own_w hw 110 rfl)) (mvT hZ (own_w hw 109 rfl)) (by decide) (backOf (W := 0) (rmrv l Z a0 hw [] mc h0 n0 Z0 Ec Ft) hZ (own_w hw 111 rfl) (own_w hw 46 rfl) (by decide) (by decide)) q38a q38c (g := (mkF m 5 #[.val (.ref a1), .val .null] [.null, (.ref mc)])) rfl (by rw [hml]; rfl) (Steps.refl _) (argsL := [.null]) (rest := []) (lenOf pd_7 rfl) rfl (by show 2 * 0 + _ ≤ _; exact Nat.le_of_eq rfl) (hb hby d16_5) (fun _ _ => ⟨rfl, e37, (by decide : 0 + 0 ≤ _), (by decide : 0 + 0 ≤ _)⟩)
  dsimp only [Pt.U, Pt.locs, Pt.cells, Pt.slots] at X38 l38 y38 z38 st38 hQ38
  subst l38 y38 z38
  obtain ⟨rfl, Nq38, e38⟩ := hQ38
  have N38 := Fr.app N0 Nq38
  refine own_of (U' := (T38.setTop (mkF m 8 #[.val (.ref a1), .val .null] [.null]))) (fun _ k => st38.trans k) ?_
  obtain ⟨T39, X39, e39, st39⟩ := getS2 X38 hx hZ hown (host := "") (Or.inl (own_w hw 122 rfl)) Via.refl e38 SP (g := (mkF m 8 #[.val (.ref a1), .val .null] [.null])) rfl (hb hby d16_8)
  refine own_of (U' := (T39.setTop (mkF m 11 #[.val (.ref a1), .val .null] [(.ref kP), .null]))) (st39) ?_
  refine own_of (U' := (T39.setTop (mkF m 18 #[.val (.ref a1), .val .null] []))) (fun _ k => Jvm.RoadKit.acmp (g := (mkF m 11 #[.val (.ref a1), .val .null] [(.ref kP), .null])) X39 hx rfl rfl rfl (pc0 := 11) (pc' := 18) (same := false) rfl (hb hby d16_11) rfl (decide_eq_false nofun) (by decide) (by decide) k) ?_
  refine own_iconst X39 hx hby 0 d16_18 rfl ?_
  exact own_retN X39 hx hlk (t := .boolean) Bd.returns (by simp) (hb hby d16_19) (by decide) (by decide) (⟨rfl, N38, e39⟩)
def Qw (Z : State) (a1 : Addr) (g : Int32) (d : Addr) (h0 : Heap) (n0 : Nat) (v : Option Value) (h : Heap) (L : List Loc) : Prop := v = none ∧ Fr n0 L ∧ Keep h0 h [a1] ∧ (∃ o : Int32, Fld Z h a1 "com/example/svyazka/svyazka/http/Connections" "open" "I" (.int o)) ∧ Fld Z h a1 "com/example/svyazka/svyazka/http/Connections" "closing" "I" (.int g) ∧ Fld Z h a1 "com/example/svyazka/svyazka/http/Connections" "closable" "Ljava/util/Set;" (.ref d)
abbrev mN_15 : MethodName := ⟨"com/example/svyazka/svyazka/http/Connections", "closed", "(Lcom/example/svyazka/svyazka/http/Connection;)V"⟩
theorem pd_8 : parseMethodDescriptor "(Ljava/lang/Object;)Z" = some ⟨[(.object "java/lang/Object")], some .boolean⟩ := by decide +kernel
abbrev mN_16 : MethodName := ⟨"java/util/Set", "remove", "(Ljava/lang/Object;)Z"⟩
theorem d15_0 : decode prog_12_method_5_code 0 = .ok (.aload_n 0, 1) := by decide +kernel
theorem d15_1 : decode prog_12_method_5_code 1 = .ok (.dup, 1) := by decide +kernel
theorem d15_2 : decode prog_12_method_5_code 2 = .ok (.getfield 16, 3) := by decide +kernel
theorem d15_5 : decode prog_12_method_5_code 5 = .ok (.iconst 1, 1) := by decide +kernel
theorem d15_6 : decode prog_12_method_5_code 6 = .ok (.isub, 1) := by decide +kernel
theorem d15_7 : decode prog_12_method_5_code 7 = .ok (.putfield 16, 3) := by decide +kernel
theorem d15_10 : decode prog_12_method_5_code 10 = .ok (.aload_n 0, 1) := by decide +kernel
theorem d15_11 : decode prog_12_method_5_code 11 = .ok (.dup, 1) := by decide +kernel
theorem d15_12 : decode prog_12_method_5_code 12 = .ok (.getfield 29, 3) := by decide +kernel
theorem d15_15 : decode prog_12_method_5_code 15 = .ok (.iconst 1, 1) := by decide +kernel
theorem d15_16 : decode prog_12_method_5_code 16 = .ok (.iadd, 1) := by decide +kernel
theorem d15_17 : decode prog_12_method_5_code 17 = .ok (.putfield 29, 3) := by decide +kernel
theorem d15_20 : decode prog_12_method_5_code 20 = .ok (.aload_n 0, 1) := by decide +kernel
theorem d15_21 : decode prog_12_method_5_code 21 = .ok (.getfield 10, 3) := by decide +kernel
theorem d15_24 : decode prog_12_method_5_code 24 = .ok (.aload_n 1, 1) := by decide +kernel
theorem d15_25 : decode prog_12_method_5_code 25 = .ok (.invokeinterface 26 2, 5) := by decide +kernel
theorem d15_30 : decode prog_12_method_5_code 30 = .ok (.pop, 1) := by decide +kernel
theorem d15_31 : decode prog_12_method_5_code 31 = .ok (.return_, 1) := by decide +kernel
theorem ef_cd (m : MethodId) (x0 : Addr) : entryFrame m #[(.ref x0), .null] 2 = mkF m 0 #[.val (.ref x0), .val .null] [] := by first | (simp [entryFrame, mkF, argsToLocals, Value.category]; done) | rfl
set_option maxRecDepth 65536 in
set_option maxHeartbeats 40000000 in
theorem rmcd (l : Launch) (Z : State) (a0 : Array Value) (hw : ∀ d ∈ tables_1, d.before a0 Z = true) (ws : List Jvm.Cond) (a1 : Addr) (w1 w2 : Int32) (d mc kP : Addr) (h0 : Heap) (n0 : Nat) (Z0 : n0 ≤ h0.size) (E1 : Exa Z h0 a1 "com/example/svyazka/svyazka/http/Connections") (Fo : Fld Z h0 a1 "com/example/svyazka/svyazka/http/Connections" "open" "I" (.int w1)) (Fg : Fld Z h0 a1 "com/example/svyazka/svyazka/http/Connections" "closing" "I" (.int w2)) (Fc : Fld Z h0 a1 "com/example/svyazka/svyazka/http/Connections" "closable" "Ljava/util/Set;" (.ref d)) (Ed : Exa Z h0 d "java/util/LinkedHashSet") (Fm : Fld Z h0 d "java/util/HashSet" "map" "Ljava/util/HashMap;" (.ref mc)) (Ec : Exa Z h0 mc "java/util/LinkedHashMap") (Ft : Fld Z h0 mc "java/util/HashMap" "table" "[Ljava/util/HashMap$Node;" .null) (ned : a1 ≠ d) (nec : a1 ≠ mc) (g_a1 : n0 ≤ a1) (SP : Sta Z h0 "java/util/HashSet" "PRESENT" "Ljava/lang/Object;" (.ref kP)) :
    MetFree l mN_15 (head1 (Jvm.Cond.code mN_15 prog_12_method_5_code 2 none :: ws) ({ frames := 3, cells := 0, slots := 0, locals := 52 } : Room)) (fun a U => a = #[(.ref a1), .null] ∧ Z.Warmed39 U.vm ∧ U.heap = h0) (fun _ _ _ _ _ => True) (fun _ U o U' => ∃ v L, o = .returned v ∧ (Qw Z a1 (w2 + (1 : Int32)) d h0 n0) v U'.heap L ∧ FrameEnd U o U' L ({ frames := 3, cells := 0, slots := 0, locals := 52 } : Room).cells ({ frames := 3, cells := 0, slots := 0, locals := 52 } : Room).slots) := by
  refine MetFree.of_bodySF (plainFor_of_name pn_8) hisR ?_
  intro p e s m args below meth c s₁ Bd hml0 hP hK
  obtain ⟨rfl, hZ, hh⟩ := hP
  have hx := Bd.exec
  have hby := Bd.bytes
  have hml : c.maxLocals = 2 := hml0
  have hown : s.vm.findClass "com/example/svyazka/svyazka/http/Connections" = some m.cls := findClass_of_methodNamed Bd.named
  have hnm := (name_of_methodNamed Bd.named Bd.method).1
  have hlk := Bd.notSynchronized
  have X0 : Stand p l e ({ frames := 3, cells := 0, slots := 0, locals := 52 } : Room) s m #[(.ref a1), .null] below meth c s₁ [] 0 0 := Stand.of_body Bd
  have e0 : s₁.heap = h0 := by rw [← hh, Bd.state]; rfl
  have N0 := Fr.nil n0
  have KK := Keep.refl h0 [a1]
  show own_Ends p e below s FrameEnd (Qw Z a1 (w2 + (1 : Int32)) d h0 n0) 0 0 (s₁.setTop (entryFrame m #[(.ref a1), .null] 2))
  refine own_of (U' := (s₁.setTop (mkF m 0 #[.val (.ref a1), .val .null] []))) (fun _ k => castTop (ef_cd m a1) k) ?_
  refine own_aloadN X0 hx hby d15_0 rfl rfl ?_
  refine own_dup X0 hx hby d15_1 rfl ?_
  obtain ⟨T40, X40, e40, st40⟩ := getF X0 hx hZ hown (host := "") (Or.inl (own_w hw 96 rfl)) Via.refl e0 Fo (g := (mkF m 2 #[.val (.ref a1), .val .null] [(.ref a1), (.ref a1)])) rfl rfl (hb hby d15_2)
  refine own_of (U' := (T40.setTop (mkF m 5 #[.val (.ref a1), .val .null] [(.int w1), (.ref a1)]))) (st40) ?_
  refine own_iconst X40 hx hby 1 d15_5 rfl ?_
  refine own_isub X40 hx hby d15_6 ?_
  obtain ⟨T41, h41, X41, e41, W41, st41⟩ := putF X40 hx hZ hown (host := "") (Or.inl (own_w hw 96 rfl)) Via.refl e40 Fo E1 (Or.inl (own_w hw 97 rfl)) (own_w hw 1 rfl) (ty := .int) (by decide) rfl rfl (g := (mkF m 7 #[.val (.ref a1), .val .null] [(.int (w1 - (1 : Int32))), (.ref a1)])) rfl rfl (hb hby d15_7)
  replace Z0 := Nat.le_trans Z0 (Keep.of_wr W41).1
  replace E1 := E1.wr W41
  replace Fo := Fo.same W41
  replace Fg := Fg.other W41 (Or.inr (slot_ne (Or.inl (own_w hw 86 rfl)) (Or.inl (own_w hw 97 rfl)) (by decide) (t := .int) (t' := .int) (by decide) (by decide)))
  replace Fc := Fc.other W41 (Or.inr (slot_ne (Or.inr (own_w hw 79 rfl)) (Or.inl (own_w hw 97 rfl)) (by decide) (t := (.object "java/util/Set")) (t' := .int) (by decide) (by decide)))
  replace Ed := Ed.wr W41
  replace Fm := Fm.other W41 (Or.inl (Ne.symm ned))
  replace Ec := Ec.wr W41
  replace Ft := Ft.other W41 (Or.inl (Ne.symm nec))
  replace SP := SP.wr W41
  replace KK := KK.wr W41 (Or.inl (List.mem_of_getElem? (i := 0) rfl))
  have N41 := Fr.snoc X41 N0 g_a1
  refine own_of (U' := (T41.setTop (mkF m 10 #[.val (.ref a1), .val .null] []))) (st41) ?_
  refine own_aloadN X41 hx hby d15_10 rfl rfl ?_
  refine own_dup X41 hx hby d15_11 rfl ?_
  obtain ⟨T42, X42, e42, st42⟩ := getF X41 hx hZ hown (host := "") (Or.inl (own_w hw 85 rfl)) Via.refl e41 Fg (g := (mkF m 12 #[.val (.ref a1), .val .null] [(.ref a1), (.ref a1)])) rfl rfl (hb hby d15_12)
  refine own_of (U' := (T42.setTop (mkF m 15 #[.val (.ref a1), .val .null] [(.int w2), (.ref a1)]))) (st42) ?_
  refine own_iconst X42 hx hby 1 d15_15 rfl ?_
  refine own_iadd X42 hx hby d15_16 ?_
  obtain ⟨T43, h43, X43, e43, W43, st43⟩ := putF X42 hx hZ hown (host := "") (Or.inl (own_w hw 85 rfl)) Via.refl e42 Fg E1 (Or.inl (own_w hw 86 rfl)) (own_w hw 1 rfl) (ty := .int) (by decide) rfl rfl (g := (mkF m 17 #[.val (.ref a1), .val .null] [(.int (w2 + (1 : Int32))), (.ref a1)])) rfl rfl (hb hby d15_17)
  replace Z0 := Nat.le_trans Z0 (Keep.of_wr W43).1
  replace E1 := E1.wr W43
  replace Fo := Fo.other W43 (Or.inr (slot_ne (Or.inl (own_w hw 97 rfl)) (Or.inl (own_w hw 86 rfl)) (by decide) (t := .int) (t' := .int) (by decide) (by decide)))
  replace Fg := Fg.same W43
  replace Fc := Fc.other W43 (Or.inr (slot_ne (Or.inr (own_w hw 79 rfl)) (Or.inl (own_w hw 86 rfl)) (by decide) (t := (.object "java/util/Set")) (t' := .int) (by decide) (by decide)))
  replace Ed := Ed.wr W43
  replace Fm := Fm.other W43 (Or.inl (Ne.symm ned))
  replace Ec := Ec.wr W43
  replace Ft := Ft.other W43 (Or.inl (Ne.symm nec))
  replace SP := SP.wr W43
  replace KK := KK.wr W43 (Or.inl (List.mem_of_getElem? (i := 0) rfl))
  have N43 := Fr.snoc X43 N41 g_a1
  refine own_of (U' := (T43.setTop (mkF m 20 #[.val (.ref a1), .val .null] []))) (st43) ?_
  refine own_aloadN X43 hx hby d15_20 rfl rfl ?_
  obtain ⟨T44, X44, e44, st44⟩ := getF X43 hx hZ hown (host := "") (Or.inl (own_w hw 78 rfl)) Via.refl e43 Fc (g := (mkF m 21 #[.val (.ref a1), .val .null] [(.ref a1)])) rfl rfl (hb hby d15_21)
  refine own_of (U' := (T44.setTop (mkF m 24 #[.val (.ref a1), .val .null] [(.ref d)]))) (st44) ?_
  refine own_aloadN X44 hx hby d15_24 rfl rfl ?_
  obtain ⟨cq45, kq45, q45a, q45b, q45c⟩ := isOf hZ e44 Ed
  obtain ⟨_, _, ⟨T45, L45, k45, n45⟩, -, X45, ⟨Lc45, hQ45, l45, y45, z45⟩, st45⟩ := X44.interfaceBack hx (xi := mN_16) (y := mN_14) hown (mvT hZ (own_w hw 98 rfl)) (mvT hZ (own_w hw 99 rfl)) (mvT hZ (own_w hw 100 rfl)) (mvT hZ (own_w hw 101 rfl)) (mvT hZ (own_w hw 102 rfl)) (mvT hZ (own_w hw 103 rfl)) (mvT hZ (own_w hw 104 rfl)) (mvT hZ (own_w hw 105 rfl)) (by decide) (backOf (W := 0) (rmsr l Z a0 hw [] d mc kP h43 n0 Z0 Fm Ec Ft SP) hZ (own_w hw 106 rfl) (own_w hw 20 rfl) (by decide) (by decide)) q45a q45b q45c (g := (mkF m 25 #[.val (.ref a1), .val .null] [.null, (.ref d)])) rfl (by rw [hml]; rfl) (Steps.refl _) (argsL := [.null]) (rest := []) (lenOf pd_8 rfl) rfl (by show 2 * 0 + _ ≤ _; exact Nat.le_of_eq rfl) (hb hby d15_25) (fun _ _ => ⟨rfl, e44, (by decide : 0 + 0 ≤ _), (by decide : 0 + 0 ≤ _)⟩)
  dsimp only [Pt.U, Pt.locs, Pt.cells, Pt.slots] at X45 l45 y45 z45 st45 hQ45
  subst l45 y45 z45
  obtain ⟨rfl, Nq45, e45⟩ := hQ45
  have N45 := Fr.app N43 Nq45
  refine own_of (U' := (T45.setTop (mkF m 30 #[.val (.ref a1), .val .null] [(.int (0 : Int32))]))) (fun _ k => st45.trans k) ?_
  refine own_pop X45 hx hby d15_30 rfl ?_
  exact own_ret0 X45 hx hlk Bd.returns (hb hby d15_31) (by decide) (by decide) (by rw [e45]; exact ⟨rfl, N45, KK, ⟨_, Fo⟩, Fg, Fc⟩)
def own_cg (w : Int32) : Int32 := if 0 < w then 1 else 0
abbrev mN_17 : MethodName := ⟨"com/example/svyazka/svyazka/http/Connections", "closing", "()Z"⟩
theorem d13_0 : decode prog_12_method_8_code 0 = .ok (.aload_n 0, 1) := by decide +kernel
theorem d13_1 : decode prog_12_method_8_code 1 = .ok (.getfield 29, 3) := by decide +kernel
theorem d13_4 : decode prog_12_method_8_code 4 = .ok (.ifCond .le 7, 3) := by decide +kernel
theorem d13_7 : decode prog_12_method_8_code 7 = .ok (.iconst 1, 1) := by decide +kernel
theorem d13_8 : decode prog_12_method_8_code 8 = .ok (.goto 4, 3) := by decide +kernel
theorem d13_11 : decode prog_12_method_8_code 11 = .ok (.iconst 0, 1) := by decide +kernel
theorem d13_12 : decode prog_12_method_8_code 12 = .ok (.ireturn, 1) := by decide +kernel
theorem ef_cg (m : MethodId) (x0 : Addr) : entryFrame m #[(.ref x0)] 1 = mkF m 0 #[.val (.ref x0)] [] := by first | (simp [entryFrame, mkF, argsToLocals, Value.category]; done) | rfl
def Qcg (w2 : Int32) (h0 : Heap) (n0 : Nat) (v : Option Value) (h : Heap) (L : List Loc) : Prop := v = some (.int (own_cg w2)) ∧ Fr n0 L ∧ h = h0
set_option maxRecDepth 65536 in
set_option maxHeartbeats 40000000 in
theorem rmcg (l : Launch) (Z : State) (a0 : Array Value) (hw : ∀ d ∈ tables_1, d.before a0 Z = true) (ws : List Jvm.Cond) (a1 : Addr) (w2 : Int32) (h0 : Heap) (n0 : Nat) (Z0 : n0 ≤ h0.size) (Fg : Fld Z h0 a1 "com/example/svyazka/svyazka/http/Connections" "closing" "I" (.int w2)) :
    MetFree l mN_17 (head1 (Jvm.Cond.code mN_17 prog_12_method_8_code 1 (some .boolean) :: ws) ({ frames := 0, cells := 0, slots := 0, locals := 0 } : Room)) (fun a U => a = #[(.ref a1)] ∧ Z.Warmed39 U.vm ∧ U.heap = h0) (fun _ _ _ _ _ => True) (fun _ U o U' => ∃ v L, o = .returned v ∧ (Qcg w2 h0 n0) v U'.heap L ∧ FrameEnd U o U' L ({ frames := 0, cells := 0, slots := 0, locals := 0 } : Room).cells ({ frames := 0, cells := 0, slots := 0, locals := 0 } : Room).slots) := by
  refine MetFree.of_bodySF (plainFor_of_name pn_8) hisR ?_
  intro p e s m args below meth c s₁ Bd hml0 hP hK
  obtain ⟨rfl, hZ, hh⟩ := hP
  have hx := Bd.exec
  have hby := Bd.bytes
  have hml : c.maxLocals = 1 := hml0
  have hown : s.vm.findClass "com/example/svyazka/svyazka/http/Connections" = some m.cls := findClass_of_methodNamed Bd.named
  have hnm := (name_of_methodNamed Bd.named Bd.method).1
  have hlk := Bd.notSynchronized
  have X0 : Stand p l e ({ frames := 0, cells := 0, slots := 0, locals := 0 } : Room) s m #[(.ref a1)] below meth c s₁ [] 0 0 := Stand.of_body Bd
  have e0 : s₁.heap = h0 := by rw [← hh, Bd.state]; rfl
  have N0 := Fr.nil n0
  show own_Ends p e below s FrameEnd (Qcg w2 h0 n0) 0 0 (s₁.setTop (entryFrame m #[(.ref a1)] 1))
  refine own_of (U' := (s₁.setTop (mkF m 0 #[.val (.ref a1)] []))) (fun _ k => castTop (ef_cg m a1) k) ?_
  refine own_aloadN X0 hx hby d13_0 rfl rfl ?_
  obtain ⟨T46, X46, e46, st46⟩ := getF X0 hx hZ hown (host := "") (Or.inl (own_w hw 85 rfl)) Via.refl e0 Fg (g := (mkF m 1 #[.val (.ref a1)] [(.ref a1)])) rfl rfl (hb hby d13_1)
  refine own_of (U' := (T46.setTop (mkF m 4 #[.val (.ref a1)] [(.int w2)]))) (st46) ?_
  by_cases hc4_47 : (0 : Int32) < w2
  · skip
    refine own_ifNo X46 hx hby d13_4 ((if0 _ _).trans (tlt hc4_47).2.2.2) ?_
    refine own_iconst X46 hx hby 1 d13_7 rfl ?_
    refine own_goto X46 hx hby 8 12 d13_8 (by decide) (by decide) ?_
    exact own_retN X46 hx hlk (t := .boolean) Bd.returns (by simp) (hb hby d13_12) (by decide) (by decide) (⟨congrArg (fun z => some (Value.int z)) (show nar .boolean (1 : Int32) = own_cg w2 from by simp [own_cg, own_b0, own_b1, hc4_47]), N0, e46⟩)
  · skip
    refine own_ifYes X46 hx hby 4 11 d13_4 ((if0 _ _).trans (flt hc4_47).2.2.2) (by decide) (by decide) ?_
    refine own_iconst X46 hx hby 0 d13_11 rfl ?_
    exact own_retN X46 hx hlk (t := .boolean) Bd.returns (by simp) (hb hby d13_12) (by decide) (by decide) (⟨congrArg (fun z => some (Value.int z)) (show nar .boolean (0 : Int32) = own_cg w2 from by simp [own_cg, own_b0, own_b1, hc4_47]), N0, e46⟩)
abbrev mN_18 : MethodName := ⟨"com/example/svyazka/svyazka/http/Connections", "waited", "()V"⟩
theorem d20_0 : decode prog_12_method_6_code 0 = .ok (.aload_n 0, 1) := by decide +kernel
theorem d20_1 : decode prog_12_method_6_code 1 = .ok (.iconst 0, 1) := by decide +kernel
theorem d20_2 : decode prog_12_method_6_code 2 = .ok (.putfield 29, 3) := by decide +kernel
theorem d20_5 : decode prog_12_method_6_code 5 = .ok (.return_, 1) := by decide +kernel
theorem ef_wt (m : MethodId) (x0 : Addr) : entryFrame m #[(.ref x0)] 1 = mkF m 0 #[.val (.ref x0)] [] := by first | (simp [entryFrame, mkF, argsToLocals, Value.category]; done) | rfl
set_option maxRecDepth 65536 in
set_option maxHeartbeats 40000000 in
theorem rmwt (l : Launch) (Z : State) (a0 : Array Value) (hw : ∀ d ∈ tables_1, d.before a0 Z = true) (ws : List Jvm.Cond) (a1 : Addr) (w1 w2 : Int32) (d mc kP : Addr) (h0 : Heap) (n0 : Nat) (Z0 : n0 ≤ h0.size) (E1 : Exa Z h0 a1 "com/example/svyazka/svyazka/http/Connections") (Fo : Fld Z h0 a1 "com/example/svyazka/svyazka/http/Connections" "open" "I" (.int w1)) (Fg : Fld Z h0 a1 "com/example/svyazka/svyazka/http/Connections" "closing" "I" (.int w2)) (Fc : Fld Z h0 a1 "com/example/svyazka/svyazka/http/Connections" "closable" "Ljava/util/Set;" (.ref d)) (Ed : Exa Z h0 d "java/util/LinkedHashSet") (Fm : Fld Z h0 d "java/util/HashSet" "map" "Ljava/util/HashMap;" (.ref mc)) (Ec : Exa Z h0 mc "java/util/LinkedHashMap") (Ft : Fld Z h0 mc "java/util/HashMap" "table" "[Ljava/util/HashMap$Node;" .null) (ned : a1 ≠ d) (nec : a1 ≠ mc) (g_a1 : n0 ≤ a1) (SP : Sta Z h0 "java/util/HashSet" "PRESENT" "Ljava/lang/Object;" (.ref kP)) :
    MetFree l mN_18 (head1 (Jvm.Cond.code mN_18 prog_12_method_6_code 1 none :: ws) ({ frames := 0, cells := 0, slots := 0, locals := 0 } : Room)) (fun a U => a = #[(.ref a1)] ∧ Z.Warmed39 U.vm ∧ U.heap = h0) (fun _ _ _ _ _ => True) (fun _ U o U' => ∃ v L, o = .returned v ∧ (Qw Z a1 (0 : Int32) d h0 n0) v U'.heap L ∧ FrameEnd U o U' L ({ frames := 0, cells := 0, slots := 0, locals := 0 } : Room).cells ({ frames := 0, cells := 0, slots := 0, locals := 0 } : Room).slots) := by
  refine MetFree.of_bodySF (plainFor_of_name pn_8) hisR ?_
  intro p e s m args below meth c s₁ Bd hml0 hP hK
  obtain ⟨rfl, hZ, hh⟩ := hP
  have hx := Bd.exec
  have hby := Bd.bytes
  have hml : c.maxLocals = 1 := hml0
  have hown : s.vm.findClass "com/example/svyazka/svyazka/http/Connections" = some m.cls := findClass_of_methodNamed Bd.named
  have hnm := (name_of_methodNamed Bd.named Bd.method).1
  have hlk := Bd.notSynchronized
  have X0 : Stand p l e ({ frames := 0, cells := 0, slots := 0, locals := 0 } : Room) s m #[(.ref a1)] below meth c s₁ [] 0 0 := Stand.of_body Bd
  have e0 : s₁.heap = h0 := by rw [← hh, Bd.state]; rfl
  have N0 := Fr.nil n0
  have KK := Keep.refl h0 [a1]
  show own_Ends p e below s FrameEnd (Qw Z a1 (0 : Int32) d h0 n0) 0 0 (s₁.setTop (entryFrame m #[(.ref a1)] 1))
  refine own_of (U' := (s₁.setTop (mkF m 0 #[.val (.ref a1)] []))) (fun _ k => castTop (ef_wt m a1) k) ?_
  refine own_aloadN X0 hx hby d20_0 rfl rfl ?_
  refine own_iconst X0 hx hby 0 d20_1 rfl ?_
  obtain ⟨T48, h48, X48, e48, W48, st48⟩ := putF X0 hx hZ hown (host := "") (Or.inl (own_w hw 85 rfl)) Via.refl e0 Fg E1 (Or.inl (own_w hw 86 rfl)) (own_w hw 1 rfl) (ty := .int) (by decide) rfl rfl (g := (mkF m 2 #[.val (.ref a1)] [(.int (0 : Int32)), (.ref a1)])) rfl rfl (hb hby d20_2)
  replace Z0 := Nat.le_trans Z0 (Keep.of_wr W48).1
  replace E1 := E1.wr W48
  replace Fo := Fo.other W48 (Or.inr (slot_ne (Or.inl (own_w hw 97 rfl)) (Or.inl (own_w hw 86 rfl)) (by decide) (t := .int) (t' := .int) (by decide) (by decide)))
  replace Fg := Fg.same W48
  replace Fc := Fc.other W48 (Or.inr (slot_ne (Or.inr (own_w hw 79 rfl)) (Or.inl (own_w hw 86 rfl)) (by decide) (t := (.object "java/util/Set")) (t' := .int) (by decide) (by decide)))
  replace Ed := Ed.wr W48
  replace Fm := Fm.other W48 (Or.inl (Ne.symm ned))
  replace Ec := Ec.wr W48
  replace Ft := Ft.other W48 (Or.inl (Ne.symm nec))
  replace SP := SP.wr W48
  replace KK := KK.wr W48 (Or.inl (List.mem_of_getElem? (i := 0) rfl))
  have N48 := Fr.snoc X48 N0 g_a1
  refine own_of (U' := (T48.setTop (mkF m 5 #[.val (.ref a1)] []))) (st48) ?_
  exact own_ret0 X48 hx hlk Bd.returns (hb hby d20_5) (by decide) (by decide) (by rw [e48]; exact ⟨rfl, N48, KK, ⟨_, Fo⟩, Fg, Fc⟩)
abbrev mN_19 : MethodName := ⟨"com/example/svyazka/svyazka/http/ConnectionsClosingPinLaw", "closeTimes", "(Lcom/example/svyazka/svyazka/http/Connections;I)V"⟩
theorem pd_9 : parseMethodDescriptor "(Lcom/example/svyazka/svyazka/http/Connection;)V" = some ⟨[(.object "com/example/svyazka/svyazka/http/Connection")], none⟩ := by decide +kernel
theorem d14_0 : decode method_2_code 0 = .ok (.iload_n 1, 1) := by decide +kernel
theorem d14_1 : decode method_2_code 1 = .ok (.ifCond .le 8, 3) := by decide +kernel
theorem d14_4 : decode method_2_code 4 = .ok (.aload_n 0, 1) := by decide +kernel
theorem d14_5 : decode method_2_code 5 = .ok (.aconst_null, 1) := by decide +kernel
theorem d14_6 : decode method_2_code 6 = .ok (.invokevirtual 7, 3) := by decide +kernel
theorem d14_9 : decode method_2_code 9 = .ok (.iload_n 1, 1) := by decide +kernel
theorem d14_10 : decode method_2_code 10 = .ok (.iconst 1, 1) := by decide +kernel
theorem d14_11 : decode method_2_code 11 = .ok (.if_icmp .le 8, 3) := by decide +kernel
theorem d14_14 : decode method_2_code 14 = .ok (.aload_n 0, 1) := by decide +kernel
theorem d14_15 : decode method_2_code 15 = .ok (.aconst_null, 1) := by decide +kernel
theorem d14_16 : decode method_2_code 16 = .ok (.invokevirtual 7, 3) := by decide +kernel
theorem d14_19 : decode method_2_code 19 = .ok (.iload_n 1, 1) := by decide +kernel
theorem d14_20 : decode method_2_code 20 = .ok (.iconst 2, 1) := by decide +kernel
theorem d14_21 : decode method_2_code 21 = .ok (.if_icmp .le 8, 3) := by decide +kernel
theorem d14_24 : decode method_2_code 24 = .ok (.aload_n 0, 1) := by decide +kernel
theorem d14_25 : decode method_2_code 25 = .ok (.aconst_null, 1) := by decide +kernel
theorem d14_26 : decode method_2_code 26 = .ok (.invokevirtual 7, 3) := by decide +kernel
theorem d14_29 : decode method_2_code 29 = .ok (.return_, 1) := by decide +kernel
theorem pn_9 : plainName "com/example/svyazka/svyazka/http/ConnectionsClosingPinLaw" = true := by first | (simp [plainName, overriddenIn]; done) | decide +kernel
theorem ef_ct3 (m : MethodId) (x0 : Addr) : entryFrame m #[(.ref x0), (.int (3 : Int32))] 2 = mkF m 0 #[.val (.ref x0), .val (.int (3 : Int32))] [] := by first | (simp [entryFrame, mkF, argsToLocals, Value.category]; done) | rfl
set_option maxRecDepth 65536 in
set_option maxHeartbeats 40000000 in
theorem rmct3 (l : Launch) (Z : State) (a0 : Array Value) (hw : ∀ d ∈ tables_1, d.before a0 Z = true) (ws : List Jvm.Cond) (a1 : Addr) (w1 w2 : Int32) (d mc kP : Addr) (h0 : Heap) (n0 : Nat) (Z0 : n0 ≤ h0.size) (E1 : Exa Z h0 a1 "com/example/svyazka/svyazka/http/Connections") (Fo : Fld Z h0 a1 "com/example/svyazka/svyazka/http/Connections" "open" "I" (.int w1)) (Fg : Fld Z h0 a1 "com/example/svyazka/svyazka/http/Connections" "closing" "I" (.int w2)) (Fc : Fld Z h0 a1 "com/example/svyazka/svyazka/http/Connections" "closable" "Ljava/util/Set;" (.ref d)) (Ed : Exa Z h0 d "java/util/LinkedHashSet") (Fm : Fld Z h0 d "java/util/HashSet" "map" "Ljava/util/HashMap;" (.ref mc)) (Ec : Exa Z h0 mc "java/util/LinkedHashMap") (Ft : Fld Z h0 mc "java/util/HashMap" "table" "[Ljava/util/HashMap$Node;" .null) (ned : a1 ≠ d) (nec : a1 ≠ mc) (g_a1 : n0 ≤ a1) (SP : Sta Z h0 "java/util/HashSet" "PRESENT" "Ljava/lang/Object;" (.ref kP)) :
    MetFree l mN_19 (head1 (Jvm.Cond.code mN_19 method_2_code 2 none :: ws) ({ frames := 4, cells := 0, slots := 0, locals := 65 } : Room)) (fun a U => a = #[(.ref a1), (.int (3 : Int32))] ∧ Z.Warmed39 U.vm ∧ U.heap = h0) (fun _ _ _ _ _ => True) (fun _ U o U' => ∃ v L, o = .returned v ∧ (Qw Z a1 (((w2 + (1 : Int32)) + (1 : Int32)) + (1 : Int32)) d h0 n0) v U'.heap L ∧ FrameEnd U o U' L ({ frames := 4, cells := 0, slots := 0, locals := 65 } : Room).cells ({ frames := 4, cells := 0, slots := 0, locals := 65 } : Room).slots) := by
  refine MetFree.of_bodySF (plainFor_of_name pn_9) hisR ?_
  intro p e s m args below meth c s₁ Bd hml0 hP hK
  obtain ⟨rfl, hZ, hh⟩ := hP
  have hx := Bd.exec
  have hby := Bd.bytes
  have hml : c.maxLocals = 2 := hml0
  have hown : s.vm.findClass "com/example/svyazka/svyazka/http/ConnectionsClosingPinLaw" = some m.cls := findClass_of_methodNamed Bd.named
  have hnm := (name_of_methodNamed Bd.named Bd.method).1
  have hlk := Bd.notSynchronized
  have X0 : Stand p l e ({ frames := 4, cells := 0, slots := 0, locals := 65 } : Room) s m #[(.ref a1), (.int (3 : Int32))] below meth c s₁ [] 0 0 := Stand.of_body Bd
  have e0 : s₁.heap = h0 := by rw [← hh, Bd.state]; rfl
  have N0 := Fr.nil n0
  have KK := Keep.refl h0 [a1]
  show own_Ends p e below s FrameEnd (Qw Z a1 (((w2 + (1 : Int32)) + (1 : Int32)) + (1 : Int32)) d h0 n0) 0 0 (s₁.setTop (entryFrame m #[(.ref a1), (.int (3 : Int32))] 2))
  refine own_of (U' := (s₁.setTop (mkF m 0 #[.val (.ref a1), .val (.int (3 : Int32))] []))) (fun _ k => castTop (ef_ct3 m a1) k) ?_
  refine own_iloadN X0 hx hby d14_0 rfl ?_
  have hc1_49 : (0 : Int32) < (3 : Int32) := by decide
  refine own_ifNo X0 hx hby d14_1 ((if0 _ _).trans (tlt hc1_49).2.2.2) ?_
  refine own_aloadN X0 hx hby d14_4 rfl rfl ?_
  refine own_aconstNull X0 hx hby d14_5 ?_
  obtain ⟨cq50, kq50, q50a, q50b, q50c⟩ := isOf hZ e0 E1
  obtain ⟨_, _, ⟨T50, L50, k50, n50⟩, -, X50, ⟨Lc50, hQ50, l50, y50, z50⟩, st50⟩ := X0.virtualBack hx (y := mN_15) (z := mN_15) hown (mvT hZ (own_w hw 91 rfl)) (mvT hZ (own_w hw 92 rfl)) (notFace_of_selects (args := #[]) (mvT hZ (own_w hw 94 rfl))) (mvT hZ (own_w hw 94 rfl)) (mvT hZ (own_w hw 93 rfl)) (by decide) (backOf (W := 0) (rmcd l Z a0 hw [] a1 w1 w2 d mc kP h0 n0 Z0 E1 Fo Fg Fc Ed Fm Ec Ft ned nec g_a1 SP) hZ (own_w hw 95 rfl) (own_w hw 2 rfl) (by decide) (by decide)) q50a q50c (g := (mkF m 6 #[.val (.ref a1), .val (.int (3 : Int32))] [.null, (.ref a1)])) rfl (by rw [hml]; rfl) (Steps.refl _) (argsL := [.null]) (rest := []) (lenOf pd_9 rfl) rfl (by show 2 * 0 + _ ≤ _; exact Nat.le_of_eq rfl) (hb hby d14_6) (fun _ _ => ⟨rfl, e0, (by decide : 0 + 0 ≤ _), (by decide : 0 + 0 ≤ _)⟩)
  dsimp only [Pt.U, Pt.locs, Pt.cells, Pt.slots] at X50 l50 y50 z50 st50 hQ50
  subst l50 y50 z50
  obtain ⟨rfl, Nq50, Kp50, ⟨op50, Fo50⟩, Fg50, Fc50⟩ := hQ50
  have N50 := Fr.app N0 Nq50
  have nst_a1 := E1.nostat
  replace Z0 := Nat.le_trans Z0 Kp50.1
  replace E1 := E1.keep Kp50
  replace Ed := Ed.keep Kp50
  replace Fm := Fm.keep Kp50 (ninS (Ne.symm ned) nin0)
  replace Ec := Ec.keep Kp50
  replace Ft := Ft.keep Kp50 (ninS (Ne.symm nec) nin0)
  replace SP := own_staKeep SP Kp50 (nsS nst_a1 ns0)
  replace KK := KK.trans Kp50 (allS (Or.inl (List.mem_of_getElem? (i := 0) rfl)) all0)
  refine own_of (U' := (T50.setTop (mkF m 9 #[.val (.ref a1), .val (.int (3 : Int32))] []))) (fun _ k => st50.trans k) ?_
  refine own_iloadN X50 hx hby d14_9 rfl ?_
  refine own_iconst X50 hx hby 1 d14_10 rfl ?_
  have hc11_51 : (1 : Int32) < (3 : Int32) := by decide
  refine own_icmpNo X50 hx hby d14_11 (tlt hc11_51).2.2.2 ?_
  refine own_aloadN X50 hx hby d14_14 rfl rfl ?_
  refine own_aconstNull X50 hx hby d14_15 ?_
  obtain ⟨cq52, kq52, q52a, q52b, q52c⟩ := isOf hZ rfl E1
  obtain ⟨_, _, ⟨T52, L52, k52, n52⟩, -, X52, ⟨Lc52, hQ52, l52, y52, z52⟩, st52⟩ := X50.virtualBack hx (y := mN_15) (z := mN_15) hown (mvT hZ (own_w hw 91 rfl)) (mvT hZ (own_w hw 92 rfl)) (notFace_of_selects (args := #[]) (mvT hZ (own_w hw 94 rfl))) (mvT hZ (own_w hw 94 rfl)) (mvT hZ (own_w hw 93 rfl)) (by decide) (backOf (W := 0) (rmcd l Z a0 hw [] a1 op50 (w2 + (1 : Int32)) d mc kP T50.heap n0 Z0 E1 Fo50 Fg50 Fc50 Ed Fm Ec Ft ned nec g_a1 SP) hZ (own_w hw 95 rfl) (own_w hw 2 rfl) (by decide) (by decide)) q52a q52c (g := (mkF m 16 #[.val (.ref a1), .val (.int (3 : Int32))] [.null, (.ref a1)])) rfl (by rw [hml]; rfl) (Steps.refl _) (argsL := [.null]) (rest := []) (lenOf pd_9 rfl) rfl (by show 2 * 0 + _ ≤ _; exact Nat.le_of_eq rfl) (hb hby d14_16) (fun _ _ => ⟨rfl, rfl, (by decide : 0 + 0 ≤ _), (by decide : 0 + 0 ≤ _)⟩)
  dsimp only [Pt.U, Pt.locs, Pt.cells, Pt.slots] at X52 l52 y52 z52 st52 hQ52
  subst l52 y52 z52
  obtain ⟨rfl, Nq52, Kp52, ⟨op52, Fo52⟩, Fg52, Fc52⟩ := hQ52
  have N52 := Fr.app N50 Nq52
  have nst_a1 := E1.nostat
  replace Z0 := Nat.le_trans Z0 Kp52.1
  replace E1 := E1.keep Kp52
  replace Ed := Ed.keep Kp52
  replace Fm := Fm.keep Kp52 (ninS (Ne.symm ned) nin0)
  replace Ec := Ec.keep Kp52
  replace Ft := Ft.keep Kp52 (ninS (Ne.symm nec) nin0)
  replace SP := own_staKeep SP Kp52 (nsS nst_a1 ns0)
  replace KK := KK.trans Kp52 (allS (Or.inl (List.mem_of_getElem? (i := 0) rfl)) all0)
  refine own_of (U' := (T52.setTop (mkF m 19 #[.val (.ref a1), .val (.int (3 : Int32))] []))) (fun _ k => st52.trans k) ?_
  refine own_iloadN X52 hx hby d14_19 rfl ?_
  refine own_iconst X52 hx hby 2 d14_20 rfl ?_
  have hc21_53 : (2 : Int32) < (3 : Int32) := by decide
  refine own_icmpNo X52 hx hby d14_21 (tlt hc21_53).2.2.2 ?_
  refine own_aloadN X52 hx hby d14_24 rfl rfl ?_
  refine own_aconstNull X52 hx hby d14_25 ?_
  obtain ⟨cq54, kq54, q54a, q54b, q54c⟩ := isOf hZ rfl E1
  obtain ⟨_, _, ⟨T54, L54, k54, n54⟩, -, X54, ⟨Lc54, hQ54, l54, y54, z54⟩, st54⟩ := X52.virtualBack hx (y := mN_15) (z := mN_15) hown (mvT hZ (own_w hw 91 rfl)) (mvT hZ (own_w hw 92 rfl)) (notFace_of_selects (args := #[]) (mvT hZ (own_w hw 94 rfl))) (mvT hZ (own_w hw 94 rfl)) (mvT hZ (own_w hw 93 rfl)) (by decide) (backOf (W := 0) (rmcd l Z a0 hw [] a1 op52 ((w2 + (1 : Int32)) + (1 : Int32)) d mc kP T52.heap n0 Z0 E1 Fo52 Fg52 Fc52 Ed Fm Ec Ft ned nec g_a1 SP) hZ (own_w hw 95 rfl) (own_w hw 2 rfl) (by decide) (by decide)) q54a q54c (g := (mkF m 26 #[.val (.ref a1), .val (.int (3 : Int32))] [.null, (.ref a1)])) rfl (by rw [hml]; rfl) (Steps.refl _) (argsL := [.null]) (rest := []) (lenOf pd_9 rfl) rfl (by show 2 * 0 + _ ≤ _; exact Nat.le_of_eq rfl) (hb hby d14_26) (fun _ _ => ⟨rfl, rfl, (by decide : 0 + 0 ≤ _), (by decide : 0 + 0 ≤ _)⟩)
  dsimp only [Pt.U, Pt.locs, Pt.cells, Pt.slots] at X54 l54 y54 z54 st54 hQ54
  subst l54 y54 z54
  obtain ⟨rfl, Nq54, Kp54, ⟨op54, Fo54⟩, Fg54, Fc54⟩ := hQ54
  have N54 := Fr.app N52 Nq54
  have nst_a1 := E1.nostat
  replace Z0 := Nat.le_trans Z0 Kp54.1
  replace E1 := E1.keep Kp54
  replace Ed := Ed.keep Kp54
  replace Fm := Fm.keep Kp54 (ninS (Ne.symm ned) nin0)
  replace Ec := Ec.keep Kp54
  replace Ft := Ft.keep Kp54 (ninS (Ne.symm nec) nin0)
  replace SP := own_staKeep SP Kp54 (nsS nst_a1 ns0)
  replace KK := KK.trans Kp54 (allS (Or.inl (List.mem_of_getElem? (i := 0) rfl)) all0)
  refine own_of (U' := (T54.setTop (mkF m 29 #[.val (.ref a1), .val (.int (3 : Int32))] []))) (fun _ k => st54.trans k) ?_
  exact own_ret0 X54 hx hlk Bd.returns (hb hby d14_29) (by decide) (by decide) (⟨rfl, N54, KK, ⟨_, Fo54⟩, Fg54, Fc54⟩)
theorem ef_ct2 (m : MethodId) (x0 : Addr) : entryFrame m #[(.ref x0), (.int (2 : Int32))] 2 = mkF m 0 #[.val (.ref x0), .val (.int (2 : Int32))] [] := by first | (simp [entryFrame, mkF, argsToLocals, Value.category]; done) | rfl
set_option maxRecDepth 65536 in
set_option maxHeartbeats 40000000 in
theorem rmct2 (l : Launch) (Z : State) (a0 : Array Value) (hw : ∀ d ∈ tables_1, d.before a0 Z = true) (ws : List Jvm.Cond) (a1 : Addr) (w1 w2 : Int32) (d mc kP : Addr) (h0 : Heap) (n0 : Nat) (Z0 : n0 ≤ h0.size) (E1 : Exa Z h0 a1 "com/example/svyazka/svyazka/http/Connections") (Fo : Fld Z h0 a1 "com/example/svyazka/svyazka/http/Connections" "open" "I" (.int w1)) (Fg : Fld Z h0 a1 "com/example/svyazka/svyazka/http/Connections" "closing" "I" (.int w2)) (Fc : Fld Z h0 a1 "com/example/svyazka/svyazka/http/Connections" "closable" "Ljava/util/Set;" (.ref d)) (Ed : Exa Z h0 d "java/util/LinkedHashSet") (Fm : Fld Z h0 d "java/util/HashSet" "map" "Ljava/util/HashMap;" (.ref mc)) (Ec : Exa Z h0 mc "java/util/LinkedHashMap") (Ft : Fld Z h0 mc "java/util/HashMap" "table" "[Ljava/util/HashMap$Node;" .null) (ned : a1 ≠ d) (nec : a1 ≠ mc) (g_a1 : n0 ≤ a1) (SP : Sta Z h0 "java/util/HashSet" "PRESENT" "Ljava/lang/Object;" (.ref kP)) :
    MetFree l mN_19 (head1 (Jvm.Cond.code mN_19 method_2_code 2 none :: ws) ({ frames := 4, cells := 0, slots := 0, locals := 65 } : Room)) (fun a U => a = #[(.ref a1), (.int (2 : Int32))] ∧ Z.Warmed39 U.vm ∧ U.heap = h0) (fun _ _ _ _ _ => True) (fun _ U o U' => ∃ v L, o = .returned v ∧ (Qw Z a1 ((w2 + (1 : Int32)) + (1 : Int32)) d h0 n0) v U'.heap L ∧ FrameEnd U o U' L ({ frames := 4, cells := 0, slots := 0, locals := 65 } : Room).cells ({ frames := 4, cells := 0, slots := 0, locals := 65 } : Room).slots) := by
  refine MetFree.of_bodySF (plainFor_of_name pn_9) hisR ?_
  intro p e s m args below meth c s₁ Bd hml0 hP hK
  obtain ⟨rfl, hZ, hh⟩ := hP
  have hx := Bd.exec
  have hby := Bd.bytes
  have hml : c.maxLocals = 2 := hml0
  have hown : s.vm.findClass "com/example/svyazka/svyazka/http/ConnectionsClosingPinLaw" = some m.cls := findClass_of_methodNamed Bd.named
  have hnm := (name_of_methodNamed Bd.named Bd.method).1
  have hlk := Bd.notSynchronized
  have X0 : Stand p l e ({ frames := 4, cells := 0, slots := 0, locals := 65 } : Room) s m #[(.ref a1), (.int (2 : Int32))] below meth c s₁ [] 0 0 := Stand.of_body Bd
  have e0 : s₁.heap = h0 := by rw [← hh, Bd.state]; rfl
  have N0 := Fr.nil n0
  have KK := Keep.refl h0 [a1]
  show own_Ends p e below s FrameEnd (Qw Z a1 ((w2 + (1 : Int32)) + (1 : Int32)) d h0 n0) 0 0 (s₁.setTop (entryFrame m #[(.ref a1), (.int (2 : Int32))] 2))
  refine own_of (U' := (s₁.setTop (mkF m 0 #[.val (.ref a1), .val (.int (2 : Int32))] []))) (fun _ k => castTop (ef_ct2 m a1) k) ?_
  refine own_iloadN X0 hx hby d14_0 rfl ?_
  have hc1_55 : (0 : Int32) < (2 : Int32) := by decide
  refine own_ifNo X0 hx hby d14_1 ((if0 _ _).trans (tlt hc1_55).2.2.2) ?_
  refine own_aloadN X0 hx hby d14_4 rfl rfl ?_
  refine own_aconstNull X0 hx hby d14_5 ?_
  obtain ⟨cq56, kq56, q56a, q56b, q56c⟩ := isOf hZ e0 E1
  obtain ⟨_, _, ⟨T56, L56, k56, n56⟩, -, X56, ⟨Lc56, hQ56, l56, y56, z56⟩, st56⟩ := X0.virtualBack hx (y := mN_15) (z := mN_15) hown (mvT hZ (own_w hw 91 rfl)) (mvT hZ (own_w hw 92 rfl)) (notFace_of_selects (args := #[]) (mvT hZ (own_w hw 94 rfl))) (mvT hZ (own_w hw 94 rfl)) (mvT hZ (own_w hw 93 rfl)) (by decide) (backOf (W := 0) (rmcd l Z a0 hw [] a1 w1 w2 d mc kP h0 n0 Z0 E1 Fo Fg Fc Ed Fm Ec Ft ned nec g_a1 SP) hZ (own_w hw 95 rfl) (own_w hw 2 rfl) (by decide) (by decide)) q56a q56c (g := (mkF m 6 #[.val (.ref a1), .val (.int (2 : Int32))] [.null, (.ref a1)])) rfl (by rw [hml]; rfl) (Steps.refl _) (argsL := [.null]) (rest := []) (lenOf pd_9 rfl) rfl (by show 2 * 0 + _ ≤ _; exact Nat.le_of_eq rfl) (hb hby d14_6) (fun _ _ => ⟨rfl, e0, (by decide : 0 + 0 ≤ _), (by decide : 0 + 0 ≤ _)⟩)
  dsimp only [Pt.U, Pt.locs, Pt.cells, Pt.slots] at X56 l56 y56 z56 st56 hQ56
  subst l56 y56 z56
  obtain ⟨rfl, Nq56, Kp56, ⟨op56, Fo56⟩, Fg56, Fc56⟩ := hQ56
  have N56 := Fr.app N0 Nq56
  have nst_a1 := E1.nostat
  replace Z0 := Nat.le_trans Z0 Kp56.1
  replace E1 := E1.keep Kp56
  replace Ed := Ed.keep Kp56
  replace Fm := Fm.keep Kp56 (ninS (Ne.symm ned) nin0)
  replace Ec := Ec.keep Kp56
  replace Ft := Ft.keep Kp56 (ninS (Ne.symm nec) nin0)
  replace SP := own_staKeep SP Kp56 (nsS nst_a1 ns0)
  replace KK := KK.trans Kp56 (allS (Or.inl (List.mem_of_getElem? (i := 0) rfl)) all0)
  refine own_of (U' := (T56.setTop (mkF m 9 #[.val (.ref a1), .val (.int (2 : Int32))] []))) (fun _ k => st56.trans k) ?_
  refine own_iloadN X56 hx hby d14_9 rfl ?_
  refine own_iconst X56 hx hby 1 d14_10 rfl ?_
  have hc11_57 : (1 : Int32) < (2 : Int32) := by decide
  refine own_icmpNo X56 hx hby d14_11 (tlt hc11_57).2.2.2 ?_
  refine own_aloadN X56 hx hby d14_14 rfl rfl ?_
  refine own_aconstNull X56 hx hby d14_15 ?_
  obtain ⟨cq58, kq58, q58a, q58b, q58c⟩ := isOf hZ rfl E1
  obtain ⟨_, _, ⟨T58, L58, k58, n58⟩, -, X58, ⟨Lc58, hQ58, l58, y58, z58⟩, st58⟩ := X56.virtualBack hx (y := mN_15) (z := mN_15) hown (mvT hZ (own_w hw 91 rfl)) (mvT hZ (own_w hw 92 rfl)) (notFace_of_selects (args := #[]) (mvT hZ (own_w hw 94 rfl))) (mvT hZ (own_w hw 94 rfl)) (mvT hZ (own_w hw 93 rfl)) (by decide) (backOf (W := 0) (rmcd l Z a0 hw [] a1 op56 (w2 + (1 : Int32)) d mc kP T56.heap n0 Z0 E1 Fo56 Fg56 Fc56 Ed Fm Ec Ft ned nec g_a1 SP) hZ (own_w hw 95 rfl) (own_w hw 2 rfl) (by decide) (by decide)) q58a q58c (g := (mkF m 16 #[.val (.ref a1), .val (.int (2 : Int32))] [.null, (.ref a1)])) rfl (by rw [hml]; rfl) (Steps.refl _) (argsL := [.null]) (rest := []) (lenOf pd_9 rfl) rfl (by show 2 * 0 + _ ≤ _; exact Nat.le_of_eq rfl) (hb hby d14_16) (fun _ _ => ⟨rfl, rfl, (by decide : 0 + 0 ≤ _), (by decide : 0 + 0 ≤ _)⟩)
  dsimp only [Pt.U, Pt.locs, Pt.cells, Pt.slots] at X58 l58 y58 z58 st58 hQ58
  subst l58 y58 z58
  obtain ⟨rfl, Nq58, Kp58, ⟨op58, Fo58⟩, Fg58, Fc58⟩ := hQ58
  have N58 := Fr.app N56 Nq58
  have nst_a1 := E1.nostat
  replace Z0 := Nat.le_trans Z0 Kp58.1
  replace E1 := E1.keep Kp58
  replace Ed := Ed.keep Kp58
  replace Fm := Fm.keep Kp58 (ninS (Ne.symm ned) nin0)
  replace Ec := Ec.keep Kp58
  replace Ft := Ft.keep Kp58 (ninS (Ne.symm nec) nin0)
  replace SP := own_staKeep SP Kp58 (nsS nst_a1 ns0)
  replace KK := KK.trans Kp58 (allS (Or.inl (List.mem_of_getElem? (i := 0) rfl)) all0)
  refine own_of (U' := (T58.setTop (mkF m 19 #[.val (.ref a1), .val (.int (2 : Int32))] []))) (fun _ k => st58.trans k) ?_
  refine own_iloadN X58 hx hby d14_19 rfl ?_
  refine own_iconst X58 hx hby 2 d14_20 rfl ?_
  have hc21_59 : ¬ ((2 : Int32) < (2 : Int32)) := by decide
  refine own_icmpYes X58 hx hby 21 29 d14_21 (flt hc21_59).2.2.2 (by decide) (by decide) ?_
  exact own_ret0 X58 hx hlk Bd.returns (hb hby d14_29) (by decide) (by decide) (⟨rfl, N58, KK, ⟨_, Fo58⟩, Fg58, Fc58⟩)
theorem ef_ct1 (m : MethodId) (x0 : Addr) : entryFrame m #[(.ref x0), (.int (1 : Int32))] 2 = mkF m 0 #[.val (.ref x0), .val (.int (1 : Int32))] [] := by first | (simp [entryFrame, mkF, argsToLocals, Value.category]; done) | rfl
set_option maxRecDepth 65536 in
set_option maxHeartbeats 40000000 in
theorem rmct1 (l : Launch) (Z : State) (a0 : Array Value) (hw : ∀ d ∈ tables_1, d.before a0 Z = true) (ws : List Jvm.Cond) (a1 : Addr) (w1 w2 : Int32) (d mc kP : Addr) (h0 : Heap) (n0 : Nat) (Z0 : n0 ≤ h0.size) (E1 : Exa Z h0 a1 "com/example/svyazka/svyazka/http/Connections") (Fo : Fld Z h0 a1 "com/example/svyazka/svyazka/http/Connections" "open" "I" (.int w1)) (Fg : Fld Z h0 a1 "com/example/svyazka/svyazka/http/Connections" "closing" "I" (.int w2)) (Fc : Fld Z h0 a1 "com/example/svyazka/svyazka/http/Connections" "closable" "Ljava/util/Set;" (.ref d)) (Ed : Exa Z h0 d "java/util/LinkedHashSet") (Fm : Fld Z h0 d "java/util/HashSet" "map" "Ljava/util/HashMap;" (.ref mc)) (Ec : Exa Z h0 mc "java/util/LinkedHashMap") (Ft : Fld Z h0 mc "java/util/HashMap" "table" "[Ljava/util/HashMap$Node;" .null) (ned : a1 ≠ d) (nec : a1 ≠ mc) (g_a1 : n0 ≤ a1) (SP : Sta Z h0 "java/util/HashSet" "PRESENT" "Ljava/lang/Object;" (.ref kP)) :
    MetFree l mN_19 (head1 (Jvm.Cond.code mN_19 method_2_code 2 none :: ws) ({ frames := 4, cells := 0, slots := 0, locals := 65 } : Room)) (fun a U => a = #[(.ref a1), (.int (1 : Int32))] ∧ Z.Warmed39 U.vm ∧ U.heap = h0) (fun _ _ _ _ _ => True) (fun _ U o U' => ∃ v L, o = .returned v ∧ (Qw Z a1 (w2 + (1 : Int32)) d h0 n0) v U'.heap L ∧ FrameEnd U o U' L ({ frames := 4, cells := 0, slots := 0, locals := 65 } : Room).cells ({ frames := 4, cells := 0, slots := 0, locals := 65 } : Room).slots) := by
  refine MetFree.of_bodySF (plainFor_of_name pn_9) hisR ?_
  intro p e s m args below meth c s₁ Bd hml0 hP hK
  obtain ⟨rfl, hZ, hh⟩ := hP
  have hx := Bd.exec
  have hby := Bd.bytes
  have hml : c.maxLocals = 2 := hml0
  have hown : s.vm.findClass "com/example/svyazka/svyazka/http/ConnectionsClosingPinLaw" = some m.cls := findClass_of_methodNamed Bd.named
  have hnm := (name_of_methodNamed Bd.named Bd.method).1
  have hlk := Bd.notSynchronized
  have X0 : Stand p l e ({ frames := 4, cells := 0, slots := 0, locals := 65 } : Room) s m #[(.ref a1), (.int (1 : Int32))] below meth c s₁ [] 0 0 := Stand.of_body Bd
  have e0 : s₁.heap = h0 := by rw [← hh, Bd.state]; rfl
  have N0 := Fr.nil n0
  have KK := Keep.refl h0 [a1]
  show own_Ends p e below s FrameEnd (Qw Z a1 (w2 + (1 : Int32)) d h0 n0) 0 0 (s₁.setTop (entryFrame m #[(.ref a1), (.int (1 : Int32))] 2))
  refine own_of (U' := (s₁.setTop (mkF m 0 #[.val (.ref a1), .val (.int (1 : Int32))] []))) (fun _ k => castTop (ef_ct1 m a1) k) ?_
  refine own_iloadN X0 hx hby d14_0 rfl ?_
  have hc1_60 : (0 : Int32) < (1 : Int32) := by decide
  refine own_ifNo X0 hx hby d14_1 ((if0 _ _).trans (tlt hc1_60).2.2.2) ?_
  refine own_aloadN X0 hx hby d14_4 rfl rfl ?_
  refine own_aconstNull X0 hx hby d14_5 ?_
  obtain ⟨cq61, kq61, q61a, q61b, q61c⟩ := isOf hZ e0 E1
  obtain ⟨_, _, ⟨T61, L61, k61, n61⟩, -, X61, ⟨Lc61, hQ61, l61, y61, z61⟩, st61⟩ := X0.virtualBack hx (y := mN_15) (z := mN_15) hown (mvT hZ (own_w hw 91 rfl)) (mvT hZ (own_w hw 92 rfl)) (notFace_of_selects (args := #[]) (mvT hZ (own_w hw 94 rfl))) (mvT hZ (own_w hw 94 rfl)) (mvT hZ (own_w hw 93 rfl)) (by decide) (backOf (W := 0) (rmcd l Z a0 hw [] a1 w1 w2 d mc kP h0 n0 Z0 E1 Fo Fg Fc Ed Fm Ec Ft ned nec g_a1 SP) hZ (own_w hw 95 rfl) (own_w hw 2 rfl) (by decide) (by decide)) q61a q61c (g := (mkF m 6 #[.val (.ref a1), .val (.int (1 : Int32))] [.null, (.ref a1)])) rfl (by rw [hml]; rfl) (Steps.refl _) (argsL := [.null]) (rest := []) (lenOf pd_9 rfl) rfl (by show 2 * 0 + _ ≤ _; exact Nat.le_of_eq rfl) (hb hby d14_6) (fun _ _ => ⟨rfl, e0, (by decide : 0 + 0 ≤ _), (by decide : 0 + 0 ≤ _)⟩)
  dsimp only [Pt.U, Pt.locs, Pt.cells, Pt.slots] at X61 l61 y61 z61 st61 hQ61
  subst l61 y61 z61
  obtain ⟨rfl, Nq61, Kp61, ⟨op61, Fo61⟩, Fg61, Fc61⟩ := hQ61
  have N61 := Fr.app N0 Nq61
  have nst_a1 := E1.nostat
  replace Z0 := Nat.le_trans Z0 Kp61.1
  replace E1 := E1.keep Kp61
  replace Ed := Ed.keep Kp61
  replace Fm := Fm.keep Kp61 (ninS (Ne.symm ned) nin0)
  replace Ec := Ec.keep Kp61
  replace Ft := Ft.keep Kp61 (ninS (Ne.symm nec) nin0)
  replace SP := own_staKeep SP Kp61 (nsS nst_a1 ns0)
  replace KK := KK.trans Kp61 (allS (Or.inl (List.mem_of_getElem? (i := 0) rfl)) all0)
  refine own_of (U' := (T61.setTop (mkF m 9 #[.val (.ref a1), .val (.int (1 : Int32))] []))) (fun _ k => st61.trans k) ?_
  refine own_iloadN X61 hx hby d14_9 rfl ?_
  refine own_iconst X61 hx hby 1 d14_10 rfl ?_
  have hc11_62 : ¬ ((1 : Int32) < (1 : Int32)) := by decide
  refine own_icmpYes X61 hx hby 11 19 d14_11 (flt hc11_62).2.2.2 (by decide) (by decide) ?_
  refine own_iloadN X61 hx hby d14_19 rfl ?_
  refine own_iconst X61 hx hby 2 d14_20 rfl ?_
  have hc21_63 : ¬ ((2 : Int32) < (1 : Int32)) := by decide
  refine own_icmpYes X61 hx hby 21 29 d14_21 (flt hc21_63).2.2.2 (by decide) (by decide) ?_
  exact own_ret0 X61 hx hlk Bd.returns (hb hby d14_29) (by decide) (by decide) (⟨rfl, N61, KK, ⟨_, Fo61⟩, Fg61, Fc61⟩)
theorem ef_ct0 (m : MethodId) (x0 : Addr) : entryFrame m #[(.ref x0), (.int (0 : Int32))] 2 = mkF m 0 #[.val (.ref x0), .val (.int (0 : Int32))] [] := by first | (simp [entryFrame, mkF, argsToLocals, Value.category]; done) | rfl
set_option maxRecDepth 65536 in
set_option maxHeartbeats 40000000 in
theorem rmct0 (l : Launch) (Z : State) (a0 : Array Value) (hw : ∀ d ∈ tables_1, d.before a0 Z = true) (ws : List Jvm.Cond) (a1 : Addr) (w1 w2 : Int32) (d mc kP : Addr) (h0 : Heap) (n0 : Nat) (Z0 : n0 ≤ h0.size) (E1 : Exa Z h0 a1 "com/example/svyazka/svyazka/http/Connections") (Fo : Fld Z h0 a1 "com/example/svyazka/svyazka/http/Connections" "open" "I" (.int w1)) (Fg : Fld Z h0 a1 "com/example/svyazka/svyazka/http/Connections" "closing" "I" (.int w2)) (Fc : Fld Z h0 a1 "com/example/svyazka/svyazka/http/Connections" "closable" "Ljava/util/Set;" (.ref d)) (Ed : Exa Z h0 d "java/util/LinkedHashSet") (Fm : Fld Z h0 d "java/util/HashSet" "map" "Ljava/util/HashMap;" (.ref mc)) (Ec : Exa Z h0 mc "java/util/LinkedHashMap") (Ft : Fld Z h0 mc "java/util/HashMap" "table" "[Ljava/util/HashMap$Node;" .null) (ned : a1 ≠ d) (nec : a1 ≠ mc) (g_a1 : n0 ≤ a1) (SP : Sta Z h0 "java/util/HashSet" "PRESENT" "Ljava/lang/Object;" (.ref kP)) :
    MetFree l mN_19 (head1 (Jvm.Cond.code mN_19 method_2_code 2 none :: ws) ({ frames := 4, cells := 0, slots := 0, locals := 65 } : Room)) (fun a U => a = #[(.ref a1), (.int (0 : Int32))] ∧ Z.Warmed39 U.vm ∧ U.heap = h0) (fun _ _ _ _ _ => True) (fun _ U o U' => ∃ v L, o = .returned v ∧ (Qw Z a1 w2 d h0 n0) v U'.heap L ∧ FrameEnd U o U' L ({ frames := 4, cells := 0, slots := 0, locals := 65 } : Room).cells ({ frames := 4, cells := 0, slots := 0, locals := 65 } : Room).slots) := by
  refine MetFree.of_bodySF (plainFor_of_name pn_9) hisR ?_
  intro p e s m args below meth c s₁ Bd hml0 hP hK
  obtain ⟨rfl, hZ, hh⟩ := hP
  have hx := Bd.exec
  have hby := Bd.bytes
  have hml : c.maxLocals = 2 := hml0
  have hown : s.vm.findClass "com/example/svyazka/svyazka/http/ConnectionsClosingPinLaw" = some m.cls := findClass_of_methodNamed Bd.named
  have hnm := (name_of_methodNamed Bd.named Bd.method).1
  have hlk := Bd.notSynchronized
  have X0 : Stand p l e ({ frames := 4, cells := 0, slots := 0, locals := 65 } : Room) s m #[(.ref a1), (.int (0 : Int32))] below meth c s₁ [] 0 0 := Stand.of_body Bd
  have e0 : s₁.heap = h0 := by rw [← hh, Bd.state]; rfl
  have N0 := Fr.nil n0
  have KK := Keep.refl h0 [a1]
  show own_Ends p e below s FrameEnd (Qw Z a1 w2 d h0 n0) 0 0 (s₁.setTop (entryFrame m #[(.ref a1), (.int (0 : Int32))] 2))
  refine own_of (U' := (s₁.setTop (mkF m 0 #[.val (.ref a1), .val (.int (0 : Int32))] []))) (fun _ k => castTop (ef_ct0 m a1) k) ?_
  refine own_iloadN X0 hx hby d14_0 rfl ?_
  have hc1_64 : ¬ ((0 : Int32) < (0 : Int32)) := by decide
  refine own_ifYes X0 hx hby 1 9 d14_1 ((if0 _ _).trans (flt hc1_64).2.2.2) (by decide) (by decide) ?_
  refine own_iloadN X0 hx hby d14_9 rfl ?_
  refine own_iconst X0 hx hby 1 d14_10 rfl ?_
  have hc11_65 : ¬ ((1 : Int32) < (0 : Int32)) := by decide
  refine own_icmpYes X0 hx hby 11 19 d14_11 (flt hc11_65).2.2.2 (by decide) (by decide) ?_
  refine own_iloadN X0 hx hby d14_19 rfl ?_
  refine own_iconst X0 hx hby 2 d14_20 rfl ?_
  have hc21_66 : ¬ ((2 : Int32) < (0 : Int32)) := by decide
  refine own_icmpYes X0 hx hby 21 29 d14_21 (flt hc21_66).2.2.2 (by decide) (by decide) ?_
  exact own_ret0 X0 hx hlk Bd.returns (hb hby d14_29) (by decide) (by decide) (by rw [e0]; exact ⟨rfl, N0, KK, ⟨_, Fo⟩, Fg, Fc⟩)
theorem own_p0 (w : Int32) : w = w + 0 := (Int32.add_zero w).symm
theorem own_p1 (w : Int32) : w + 1 = w + 1 := rfl
theorem own_p2 (w : Int32) : w + 1 + 1 = w + 2 := by rw [Int32.add_assoc]; rfl
theorem own_p3 (w : Int32) : w + 1 + 1 + 1 = w + 3 := by rw [Int32.add_assoc, Int32.add_assoc]; rfl
theorem rmct (l : Launch) (Z : State) (a0 : Array Value) (hw : ∀ d ∈ tables_1, d.before a0 Z = true) (ws : List Jvm.Cond) (a1 : Addr) (w1 w2 : Int32) (d mc kP : Addr) (p2 : Int32) (h0 : Heap) (n0 : Nat) (Z0 : n0 ≤ h0.size) (E1 : Exa Z h0 a1 "com/example/svyazka/svyazka/http/Connections") (Fo : Fld Z h0 a1 "com/example/svyazka/svyazka/http/Connections" "open" "I" (.int w1)) (Fg : Fld Z h0 a1 "com/example/svyazka/svyazka/http/Connections" "closing" "I" (.int w2)) (Fc : Fld Z h0 a1 "com/example/svyazka/svyazka/http/Connections" "closable" "Ljava/util/Set;" (.ref d)) (Ed : Exa Z h0 d "java/util/LinkedHashSet") (Fm : Fld Z h0 d "java/util/HashSet" "map" "Ljava/util/HashMap;" (.ref mc)) (Ec : Exa Z h0 mc "java/util/LinkedHashMap") (Ft : Fld Z h0 mc "java/util/HashMap" "table" "[Ljava/util/HashMap$Node;" .null) (ned : a1 ≠ d) (nec : a1 ≠ mc) (g_a1 : n0 ≤ a1) (SP : Sta Z h0 "java/util/HashSet" "PRESENT" "Ljava/lang/Object;" (.ref kP)) (hp : p2 = 0 ∨ p2 = 1 ∨ p2 = 2 ∨ p2 = 3) :
    MetFree l mN_19 (head1 (Jvm.Cond.code mN_19 method_2_code 2 none :: ws) ({ frames := 4, cells := 0, slots := 0, locals := 65 } : Room)) (fun a U => a = #[(.ref a1), (.int p2)] ∧ Z.Warmed39 U.vm ∧ U.heap = h0) (fun _ _ _ _ _ => True) (fun _ U o U' => ∃ v L, o = .returned v ∧ (Qw Z a1 (w2 + p2) d h0 n0) v U'.heap L ∧ FrameEnd U o U' L ({ frames := 4, cells := 0, slots := 0, locals := 65 } : Room).cells ({ frames := 4, cells := 0, slots := 0, locals := 65 } : Room).slots) := by
  rcases hp with rfl | rfl | rfl | rfl
  · rw [← own_p0 w2]; exact rmct0 l Z a0 hw ws a1 w1 w2 d mc kP h0 n0 Z0 E1 Fo Fg Fc Ed Fm Ec Ft ned nec g_a1 SP
  · rw [← own_p1 w2]; exact rmct1 l Z a0 hw ws a1 w1 w2 d mc kP h0 n0 Z0 E1 Fo Fg Fc Ed Fm Ec Ft ned nec g_a1 SP
  · rw [← own_p2 w2]; exact rmct2 l Z a0 hw ws a1 w1 w2 d mc kP h0 n0 Z0 E1 Fo Fg Fc Ed Fm Ec Ft ned nec g_a1 SP
  · rw [← own_p3 w2]; exact rmct3 l Z a0 hw ws a1 w1 w2 d mc kP h0 n0 Z0 E1 Fo Fg Fc Ed Fm Ec Ft ned nec g_a1 SP
theorem pd_10 : parseMethodDescriptor "()Z" = some ⟨[], some .boolean⟩ := by decide +kernel
theorem pd_11 : parseMethodDescriptor "(Lcom/example/svyazka/svyazka/http/Connections;I)V" = some ⟨[(.object "com/example/svyazka/svyazka/http/Connections"), .int], none⟩ := by decide +kernel
theorem ef_0 (m : MethodId) (x0 : Int32) : entryFrame m #[(.int x0)] maxLocals = mkF m 0 #[.val (.int x0), .unset, .unset, .unset, .unset, .unset, .unset, .unset, .unset] [] := by first | (simp [entryFrame, mkF, argsToLocals, Value.category, maxLocals]; done) | rfl
def Q0 (n0 : Nat) (v : Option Value) (h : Heap) (L : List Loc) : Prop := v = some (.int 1) ∧ Fr n0 L
set_option maxRecDepth 65536 in
set_option maxHeartbeats 40000000 in
theorem rm0 (l : Launch) (Z : State) (a0 : Array Value) (hw : ∀ d ∈ tables_1, d.before a0 Z = true) (ws : List Jvm.Cond) (p1 : Int32) (kP : Addr) (h0 : Heap) (n0 : Nat) (Z0 : n0 ≤ h0.size) (SP : Sta Z h0 "java/util/HashSet" "PRESENT" "Ljava/lang/Object;" (.ref kP)) :
    MetFree l x (head1 (Jvm.Cond.code x code maxLocals ret :: ws) room_1) (fun a U => a = #[(.int p1)] ∧ Z.Warmed39 U.vm ∧ U.heap = h0) (fun _ _ _ _ _ => True) (fun _ U o U' => ∃ v L, o = .returned v ∧ (Q0 n0) v U'.heap L ∧ FrameEnd U o U' L 16 128) := by
  refine MetFree.of_bodySF (plainFor_of_name pn_9) hisR ?_
  intro p e s m args below meth c s₁ Bd hml0 hP hK
  obtain ⟨rfl, hZ, hh⟩ := hP
  have hx := Bd.exec
  have hby := Bd.bytes
  have hml : c.maxLocals = 9 := hml0
  have hown : s.vm.findClass "com/example/svyazka/svyazka/http/ConnectionsClosingPinLaw" = some m.cls := findClass_of_methodNamed Bd.named
  have hnm := (name_of_methodNamed Bd.named Bd.method).1
  have hlk := Bd.notSynchronized
  have X0 : Stand p l e room_1 s m #[(.int p1)] below meth c s₁ [] 0 0 := Stand.of_body Bd
  have e0 : s₁.heap = h0 := by rw [← hh, Bd.state]; rfl
  have N0 := Fr.nil n0
  show own_Ends p e below s FrameEnd (Q0 n0) 16 128 (s₁.setTop (entryFrame m #[(.int p1)] maxLocals))
  refine own_of (U' := (s₁.setTop (mkF m 0 #[.val (.int p1), .unset, .unset, .unset, .unset, .unset, .unset, .unset, .unset] []))) (fun _ k => castTop (ef_0 m p1) k) ?_
  refine own_iloadN X0 hx hby at_0 rfl ?_
  refine own_iconst X0 hx hby 3 at_1 rfl ?_
  refine own_iand X0 hx hby at_2 ?_
  obtain ⟨ka, hka⟩ : ∃ z, z = (p1 &&& (3 : Int32)) := ⟨_, rfl⟩
  refine own_eq (U' := (s₁.setTop (mkF m 3 #[.val (.int p1), .unset, .unset, .unset, .unset, .unset, .unset, .unset, .unset] [(.int ka)]))) (by rw [hka]) ?_
  refine own_istoreN X0 hx hby at_3 (l' := #[.val (.int p1), .val (.int ka), .unset, .unset, .unset, .unset, .unset, .unset, .unset]) rfl ?_
  have h4ka := own_and3 p1
  rw [← hka] at h4ka
  refine own_iloadN X0 hx hby at_4 rfl ?_
  refine own_iconst X0 hx hby 2 at_5 rfl ?_
  refine own_iushr X0 hx hby at_6 ?_
  refine own_iconst X0 hx hby 1 at_7 rfl ?_
  refine own_iand X0 hx hby at_8 ?_
  by_cases hc9_67 : ((XT.ushr p1 (2 : Int32)) &&& (1 : Int32)) = (0 : Int32)
  · skip
    refine own_ifYes X0 hx hby 9 16 at_9 ((if0 _ _).trans (teq hc9_67).1) (by decide) (by decide) ?_
    refine own_iconst X0 hx hby 0 at_16 rfl ?_
    refine own_istoreN X0 hx hby at_17 (l' := #[.val (.int p1), .val (.int ka), .val (.int (0 : Int32)), .unset, .unset, .unset, .unset, .unset, .unset]) rfl ?_
    refine own_iloadN X0 hx hby at_18 rfl ?_
    refine own_iconst X0 hx hby 3 at_19 rfl ?_
    refine own_iushr X0 hx hby at_20 ?_
    refine own_iconst X0 hx hby 3 at_21 rfl ?_
    refine own_iand X0 hx hby at_22 ?_
    obtain ⟨kb, hkb⟩ : ∃ z, z = ((XT.ushr p1 (3 : Int32)) &&& (3 : Int32)) := ⟨_, rfl⟩
    refine own_eq (U' := (s₁.setTop (mkF m 23 #[.val (.int p1), .val (.int ka), .val (.int (0 : Int32)), .unset, .unset, .unset, .unset, .unset, .unset] [(.int kb)]))) (by rw [hkb]) ?_
    refine own_istoreN X0 hx hby at_23 (l' := #[.val (.int p1), .val (.int ka), .val (.int (0 : Int32)), .val (.int kb), .unset, .unset, .unset, .unset, .unset]) rfl ?_
    have h4kb := own_and3 (XT.ushr p1 (3 : Int32))
    rw [← hkb] at h4kb
    obtain ⟨T68, h68, X68, e68, E68, A68, D68, -, st68⟩ := newO X0 hx hZ hown (own_w hw 0 rfl) (own_w hw 1 rfl) (own_w hw 2 rfl) e0 (g := (mkF m 24 #[.val (.int p1), .val (.int ka), .val (.int (0 : Int32)), .val (.int kb), .unset, .unset, .unset, .unset, .unset] [])) rfl (hb hby at_24) (by decide) (by decide)
    obtain ⟨b68, gz68⟩ : ∃ z, z = h0.size := ⟨_, rfl⟩
    rw [← gz68] at A68 D68 st68
    have g_b68 : n0 ≤ b68 := Nat.le_trans Z0 (Nat.le_of_eq gz68.symm)
    replace Z0 := Nat.le_trans Z0 E68.1
    replace SP := SP.ext E68
    have F68_closable : Fld Z h68 b68 "com/example/svyazka/svyazka/http/Connections" "closable" "Ljava/util/Set;" .null := D68 (Or.inr (own_w hw 79 rfl)) (ty := (.object "java/util/Set")) (by decide)
    have F68_closing : Fld Z h68 b68 "com/example/svyazka/svyazka/http/Connections" "closing" "I" (.int (0 : Int32)) := D68 (Or.inl (own_w hw 86 rfl)) (ty := .int) (by decide)
    have F68_open : Fld Z h68 b68 "com/example/svyazka/svyazka/http/Connections" "open" "I" (.int (0 : Int32)) := D68 (Or.inl (own_w hw 97 rfl)) (ty := .int) (by decide)
    refine own_of (U' := (T68.setTop (mkF m 27 #[.val (.int p1), .val (.int ka), .val (.int (0 : Int32)), .val (.int kb), .unset, .unset, .unset, .unset, .unset] [(.ref b68)]))) (st68) ?_
    refine own_dup X68 hx hby at_27 rfl ?_
    obtain ⟨_, _, ⟨T69, L69, k69, n69⟩, -, X69, ⟨Lc69, hQ69, l69, y69, z69⟩, st69⟩ := X68.specialBack hx (y := mN_10) rfl hown (mvT hZ (own_w hw 3 rfl)) (mvT hZ (own_w hw 4 rfl)) (mvT hZ (own_w hw 5 rfl)) (by decide) (backOf (W := 1) (rmcn l Z a0 hw [] b68 h68 n0 Z0 A68 F68_open F68_closing F68_closable g_b68) hZ (own_w hw 5 rfl) (own_w hw 2 rfl) (by decide) (by decide)) (g := (mkF m 28 #[.val (.int p1), .val (.int ka), .val (.int (0 : Int32)), .val (.int kb), .unset, .unset, .unset, .unset, .unset] [(.ref b68), (.ref b68)])) rfl (by rw [hml]; rfl) (Steps.refl _) (a := b68) (argsL := []) (rest := [(.ref b68)]) (lenOf pd_0 rfl) rfl (by show 2 * 0 + _ ≤ _; exact Nat.le_of_eq rfl) (hb hby at_28) (fun _ _ => ⟨rfl, e68, (by decide : 1 + 2 ≤ _), (by decide : 3 + 13 ≤ _)⟩)
    dsimp only [Pt.U, Pt.locs, Pt.cells, Pt.slots] at X69 l69 y69 z69 st69 hQ69
    subst l69 y69 z69
    obtain ⟨rfl, Nq69, Kp69, Fo69, Fg69, d69, c69, gd69, gc69, nd69, Fc69, Ed69, Fm69, Ec69, Ft69⟩ := hQ69
    have g_d69 : n0 ≤ d69 := Nat.le_trans Z0 gd69
    have ne_b68_d69 : b68 ≠ d69 := Nat.ne_of_lt (Nat.lt_of_lt_of_le A68.lt gd69)
    have g_c69 : n0 ≤ c69 := Nat.le_trans Z0 gc69
    have ne_b68_c69 : b68 ≠ c69 := Nat.ne_of_lt (Nat.lt_of_lt_of_le A68.lt gc69)
    have N69 := Fr.app N0 Nq69
    have nst_b68 := A68.nostat
    replace Z0 := Nat.le_trans Z0 Kp69.1
    replace SP := own_staKeep SP Kp69 (nsS nst_b68 ns0)
    replace A68 := A68.keep Kp69
    refine own_of (U' := (T69.setTop (mkF m 31 #[.val (.int p1), .val (.int ka), .val (.int (0 : Int32)), .val (.int kb), .unset, .unset, .unset, .unset, .unset] [(.ref b68)]))) (fun _ k => st69.trans k) ?_
    refine own_astore X69 hx hby at_31 rfl (l' := #[.val (.int p1), .val (.int ka), .val (.int (0 : Int32)), .val (.int kb), .val (.ref b68), .unset, .unset, .unset, .unset]) rfl ?_
    refine own_aload X69 hx hby at_33 rfl rfl ?_
    obtain ⟨cq70, kq70, q70a, q70b, q70c⟩ := isOf hZ rfl A68
    obtain ⟨_, _, ⟨T70, L70, k70, n70⟩, -, X70, ⟨Lc70, hQ70, l70, y70, z70⟩, st70⟩ := X69.virtualBack hx (y := mN_17) (z := mN_17) hown (mvT hZ (own_w hw 80 rfl)) (mvT hZ (own_w hw 81 rfl)) (notFace_of_selects (args := #[]) (mvT hZ (own_w hw 83 rfl))) (mvT hZ (own_w hw 83 rfl)) (mvT hZ (own_w hw 82 rfl)) (by decide) (backOf (W := 0) (rmcg l Z a0 hw [] b68 (0 : Int32) T69.heap n0 Z0 Fg69) hZ (own_w hw 84 rfl) (own_w hw 2 rfl) (by decide) (by decide)) q70a q70c (g := (mkF m 35 #[.val (.int p1), .val (.int ka), .val (.int (0 : Int32)), .val (.int kb), .val (.ref b68), .unset, .unset, .unset, .unset] [(.ref b68)])) rfl (by rw [hml]; rfl) (Steps.refl _) (argsL := []) (rest := []) (lenOf pd_10 rfl) rfl (by show 2 * 0 + _ ≤ _; exact Nat.le_of_eq rfl) (hb hby at_35) (fun _ _ => ⟨rfl, rfl, (by decide : 3 + 0 ≤ _), (by decide : 16 + 0 ≤ _)⟩)
    dsimp only [Pt.U, Pt.locs, Pt.cells, Pt.slots] at X70 l70 y70 z70 st70 hQ70
    subst l70 y70 z70
    obtain ⟨rfl, Nq70, e70⟩ := hQ70
    have N70 := Fr.app N69 Nq70
    refine own_of (U' := (T70.setTop (mkF m 38 #[.val (.int p1), .val (.int ka), .val (.int (0 : Int32)), .val (.int kb), .val (.ref b68), .unset, .unset, .unset, .unset] [(.int (own_cg (0 : Int32)))]))) (fun _ k => st70.trans k) ?_
    refine own_istore X70 hx hby at_38 (l' := #[.val (.int p1), .val (.int ka), .val (.int (0 : Int32)), .val (.int kb), .val (.ref b68), .val (.int (own_cg (0 : Int32))), .unset, .unset, .unset]) rfl ?_
    refine own_aload X70 hx hby at_40 rfl rfl ?_
    refine own_iloadN X70 hx hby at_42 rfl ?_
    obtain ⟨_, _, ⟨T71, L71, k71, n71⟩, -, X71, ⟨Lc71, hQ71, l71, y71, z71⟩, st71⟩ := Jvm.LawKit.callS X70 hx (y := mN_19) hown (mvT hZ (own_w hw 87 rfl)) (mvT hZ (own_w hw 88 rfl)) (mvT hZ (own_w hw 89 rfl)) (mvT hZ (own_w hw 90 rfl)) (by decide) (backOf (W := 0) (rmct l Z a0 hw [] b68 (0 : Int32) (0 : Int32) d69 c69 kP ka T69.heap n0 Z0 A68 Fo69 Fg69 Fc69 Ed69 Fm69 Ec69 Ft69 ne_b68_d69 ne_b68_c69 g_b68 SP h4ka) hZ (own_w hw 90 rfl) (own_w hw 89 rfl) (by decide) (by decide)) (g := (mkF m 43 #[.val (.int p1), .val (.int ka), .val (.int (0 : Int32)), .val (.int kb), .val (.ref b68), .val (.int (own_cg (0 : Int32))), .unset, .unset, .unset] [(.int ka), (.ref b68)])) rfl (by rw [hml]; rfl) (argsL := [(.ref b68), (.int ka)]) (rest := []) (lenOf pd_11 rfl) rfl (by show 2 * 0 + _ ≤ _; exact Nat.le_of_eq rfl) (hb hby at_43) (fun _ _ => ⟨rfl, e70, (by decide : 3 + 0 ≤ _), (by decide : 16 + 0 ≤ _)⟩)
    dsimp only [Pt.U, Pt.locs, Pt.cells, Pt.slots] at X71 l71 y71 z71 st71 hQ71
    subst l71 y71 z71
    obtain ⟨rfl, Nq71, Kp71, ⟨op71, Fo71⟩, Fg71, Fc71⟩ := hQ71
    have N71 := Fr.app N70 Nq71
    have nst_b68 := A68.nostat
    replace Z0 := Nat.le_trans Z0 Kp71.1
    replace SP := own_staKeep SP Kp71 (nsS nst_b68 ns0)
    replace A68 := A68.keep Kp71
    replace Ed69 := Ed69.keep Kp71
    replace Fm69 := Fm69.keep Kp71 (ninS (Ne.symm ne_b68_d69) nin0)
    replace Ec69 := Ec69.keep Kp71
    replace Ft69 := Ft69.keep Kp71 (ninS (Ne.symm ne_b68_c69) nin0)
    refine own_of (U' := (T71.setTop (mkF m 46 #[.val (.int p1), .val (.int ka), .val (.int (0 : Int32)), .val (.int kb), .val (.ref b68), .val (.int (own_cg (0 : Int32))), .unset, .unset, .unset] []))) (st71) ?_
    refine own_aload X71 hx hby at_46 rfl rfl ?_
    obtain ⟨cq72, kq72, q72a, q72b, q72c⟩ := isOf hZ rfl A68
    obtain ⟨_, _, ⟨T72, L72, k72, n72⟩, -, X72, ⟨Lc72, hQ72, l72, y72, z72⟩, st72⟩ := X71.virtualBack hx (y := mN_17) (z := mN_17) hown (mvT hZ (own_w hw 80 rfl)) (mvT hZ (own_w hw 81 rfl)) (notFace_of_selects (args := #[]) (mvT hZ (own_w hw 83 rfl))) (mvT hZ (own_w hw 83 rfl)) (mvT hZ (own_w hw 82 rfl)) (by decide) (backOf (W := 0) (rmcg l Z a0 hw [] b68 ((0 : Int32) + ka) T71.heap n0 Z0 Fg71) hZ (own_w hw 84 rfl) (own_w hw 2 rfl) (by decide) (by decide)) q72a q72c (g := (mkF m 48 #[.val (.int p1), .val (.int ka), .val (.int (0 : Int32)), .val (.int kb), .val (.ref b68), .val (.int (own_cg (0 : Int32))), .unset, .unset, .unset] [(.ref b68)])) rfl (by rw [hml]; rfl) (Steps.refl _) (argsL := []) (rest := []) (lenOf pd_10 rfl) rfl (by show 2 * 0 + _ ≤ _; exact Nat.le_of_eq rfl) (hb hby at_48) (fun _ _ => ⟨rfl, rfl, (by decide : 3 + 0 ≤ _), (by decide : 16 + 0 ≤ _)⟩)
    dsimp only [Pt.U, Pt.locs, Pt.cells, Pt.slots] at X72 l72 y72 z72 st72 hQ72
    subst l72 y72 z72
    obtain ⟨rfl, Nq72, e72⟩ := hQ72
    have N72 := Fr.app N71 Nq72
    refine own_of (U' := (T72.setTop (mkF m 51 #[.val (.int p1), .val (.int ka), .val (.int (0 : Int32)), .val (.int kb), .val (.ref b68), .val (.int (own_cg (0 : Int32))), .unset, .unset, .unset] [(.int (own_cg ((0 : Int32) + ka)))]))) (fun _ k => st72.trans k) ?_
    refine own_istore X72 hx hby at_51 (l' := #[.val (.int p1), .val (.int ka), .val (.int (0 : Int32)), .val (.int kb), .val (.ref b68), .val (.int (own_cg (0 : Int32))), .val (.int (own_cg ((0 : Int32) + ka))), .unset, .unset]) rfl ?_
    refine own_iloadN X72 hx hby at_53 rfl ?_
    have hc54_73 : (0 : Int32) = (0 : Int32) := by decide
    refine own_ifYes X72 hx hby 54 62 at_54 ((if0 _ _).trans (teq hc54_73).1) (by decide) (by decide) ?_
    refine own_aload X72 hx hby at_62 rfl rfl ?_
    refine own_iloadN X72 hx hby at_64 rfl ?_
    obtain ⟨_, _, ⟨T74, L74, k74, n74⟩, -, X74, ⟨Lc74, hQ74, l74, y74, z74⟩, st74⟩ := Jvm.LawKit.callS X72 hx (y := mN_19) hown (mvT hZ (own_w hw 87 rfl)) (mvT hZ (own_w hw 88 rfl)) (mvT hZ (own_w hw 89 rfl)) (mvT hZ (own_w hw 90 rfl)) (by decide) (backOf (W := 0) (rmct l Z a0 hw [] b68 op71 ((0 : Int32) + ka) d69 c69 kP kb T71.heap n0 Z0 A68 Fo71 Fg71 Fc71 Ed69 Fm69 Ec69 Ft69 ne_b68_d69 ne_b68_c69 g_b68 SP h4kb) hZ (own_w hw 90 rfl) (own_w hw 89 rfl) (by decide) (by decide)) (g := (mkF m 65 #[.val (.int p1), .val (.int ka), .val (.int (0 : Int32)), .val (.int kb), .val (.ref b68), .val (.int (own_cg (0 : Int32))), .val (.int (own_cg ((0 : Int32) + ka))), .unset, .unset] [(.int kb), (.ref b68)])) rfl (by rw [hml]; rfl) (argsL := [(.ref b68), (.int kb)]) (rest := []) (lenOf pd_11 rfl) rfl (by show 2 * 0 + _ ≤ _; exact Nat.le_of_eq rfl) (hb hby at_65) (fun _ _ => ⟨rfl, e72, (by decide : 3 + 0 ≤ _), (by decide : 16 + 0 ≤ _)⟩)
    dsimp only [Pt.U, Pt.locs, Pt.cells, Pt.slots] at X74 l74 y74 z74 st74 hQ74
    subst l74 y74 z74
    obtain ⟨rfl, Nq74, Kp74, ⟨op74, Fo74⟩, Fg74, Fc74⟩ := hQ74
    have N74 := Fr.app N72 Nq74
    have nst_b68 := A68.nostat
    replace Z0 := Nat.le_trans Z0 Kp74.1
    replace SP := own_staKeep SP Kp74 (nsS nst_b68 ns0)
    replace A68 := A68.keep Kp74
    replace Ed69 := Ed69.keep Kp74
    replace Fm69 := Fm69.keep Kp74 (ninS (Ne.symm ne_b68_d69) nin0)
    replace Ec69 := Ec69.keep Kp74
    replace Ft69 := Ft69.keep Kp74 (ninS (Ne.symm ne_b68_c69) nin0)
    refine own_of (U' := (T74.setTop (mkF m 68 #[.val (.int p1), .val (.int ka), .val (.int (0 : Int32)), .val (.int kb), .val (.ref b68), .val (.int (own_cg (0 : Int32))), .val (.int (own_cg ((0 : Int32) + ka))), .unset, .unset] []))) (st74) ?_
    refine own_iloadN X74 hx hby at_68 rfl ?_
    have hc69_75 : (0 : Int32) = (0 : Int32) := by decide
    refine own_ifYes X74 hx hby 69 76 at_69 ((if0 _ _).trans (teq hc69_75).1) (by decide) (by decide) ?_
    refine own_iloadN X74 hx hby at_76 rfl ?_
    refine own_iloadN X74 hx hby at_77 rfl ?_
    refine own_iadd X74 hx hby at_78 ?_
    refine own_istore X74 hx hby at_79 (l' := #[.val (.int p1), .val (.int ka), .val (.int (0 : Int32)), .val (.int kb), .val (.ref b68), .val (.int (own_cg (0 : Int32))), .val (.int (own_cg ((0 : Int32) + ka))), .val (.int (ka + kb)), .unset]) rfl ?_
    refine own_aload X74 hx hby at_81 rfl rfl ?_
    obtain ⟨cq76, kq76, q76a, q76b, q76c⟩ := isOf hZ rfl A68
    obtain ⟨_, _, ⟨T76, L76, k76, n76⟩, -, X76, ⟨Lc76, hQ76, l76, y76, z76⟩, st76⟩ := X74.virtualBack hx (y := mN_17) (z := mN_17) hown (mvT hZ (own_w hw 80 rfl)) (mvT hZ (own_w hw 81 rfl)) (notFace_of_selects (args := #[]) (mvT hZ (own_w hw 83 rfl))) (mvT hZ (own_w hw 83 rfl)) (mvT hZ (own_w hw 82 rfl)) (by decide) (backOf (W := 0) (rmcg l Z a0 hw [] b68 (((0 : Int32) + ka) + kb) T74.heap n0 Z0 Fg74) hZ (own_w hw 84 rfl) (own_w hw 2 rfl) (by decide) (by decide)) q76a q76c (g := (mkF m 83 #[.val (.int p1), .val (.int ka), .val (.int (0 : Int32)), .val (.int kb), .val (.ref b68), .val (.int (own_cg (0 : Int32))), .val (.int (own_cg ((0 : Int32) + ka))), .val (.int (ka + kb)), .unset] [(.ref b68)])) rfl (by rw [hml]; rfl) (Steps.refl _) (argsL := []) (rest := []) (lenOf pd_10 rfl) rfl (by show 2 * 0 + _ ≤ _; exact Nat.le_of_eq rfl) (hb hby at_83) (fun _ _ => ⟨rfl, rfl, (by decide : 3 + 0 ≤ _), (by decide : 16 + 0 ≤ _)⟩)
    dsimp only [Pt.U, Pt.locs, Pt.cells, Pt.slots] at X76 l76 y76 z76 st76 hQ76
    subst l76 y76 z76
    obtain ⟨rfl, Nq76, e76⟩ := hQ76
    have N76 := Fr.app N74 Nq76
    refine own_of (U' := (T76.setTop (mkF m 86 #[.val (.int p1), .val (.int ka), .val (.int (0 : Int32)), .val (.int kb), .val (.ref b68), .val (.int (own_cg (0 : Int32))), .val (.int (own_cg ((0 : Int32) + ka))), .val (.int (ka + kb)), .unset] [(.int (own_cg (((0 : Int32) + ka) + kb)))]))) (fun _ k => st76.trans k) ?_
    refine own_istore X76 hx hby at_86 (l' := #[.val (.int p1), .val (.int ka), .val (.int (0 : Int32)), .val (.int kb), .val (.ref b68), .val (.int (own_cg (0 : Int32))), .val (.int (own_cg ((0 : Int32) + ka))), .val (.int (ka + kb)), .val (.int (own_cg (((0 : Int32) + ka) + kb)))]) rfl ?_
    refine own_iload X76 hx hby at_88 rfl ?_
    have hc90_77 : (own_cg (0 : Int32)) = (0 : Int32) := by decide
    refine own_ifNo X76 hx hby at_90 ((if0 _ _).trans (teq hc90_77).2) ?_
    refine own_iload X76 hx hby at_93 rfl ?_
    refine own_iloadN X76 hx hby at_95 rfl ?_
    obtain ⟨qa, hqa⟩ : ∃ z : Int32, z = (if (0 : Int32) < ka then (1 : Int32) else (0 : Int32)) := ⟨_, rfl⟩
    suffices key96 : own_Ends p e below s FrameEnd (Q0 n0) 16 128 (T76.setTop (mkF m 104 #[.val (.int p1), .val (.int ka), .val (.int (0 : Int32)), .val (.int kb), .val (.ref b68), .val (.int (own_cg (0 : Int32))), .val (.int (own_cg ((0 : Int32) + ka))), .val (.int (ka + kb)), .val (.int (own_cg (((0 : Int32) + ka) + kb)))] [(.int qa), (.int (own_cg ((0 : Int32) + ka)))])) by
      by_cases hc96_78 : (0 : Int32) < ka
      · skip
        refine own_ifNo X76 hx hby at_96 ((if0 _ _).trans (tlt hc96_78).2.2.2) ?_
        refine own_iconst X76 hx hby 1 at_99 rfl ?_
        refine own_goto X76 hx hby 100 104 at_100 (by decide) (by decide) ?_
        have tqa : qa = (1 : Int32) := by rw [hqa, if_pos hc96_78]
        exact own_eq (by rw [tqa]) key96
      · skip
        refine own_ifYes X76 hx hby 96 103 at_96 ((if0 _ _).trans (flt hc96_78).2.2.2) (by decide) (by decide) ?_
        refine own_iconst X76 hx hby 0 at_103 rfl ?_
        have tqa : qa = (0 : Int32) := by rw [hqa, if_neg hc96_78]
        exact own_eq (by rw [tqa]) key96
    have hc104_79 : (own_cg ((0 : Int32) + ka)) = qa := by rw [hqa, Int32.zero_add]; rfl
    refine own_icmpNo X76 hx hby at_104 (teq hc104_79).2 ?_
    refine own_iload X76 hx hby at_107 rfl ?_
    refine own_iload X76 hx hby at_109 rfl ?_
    obtain ⟨qb, hqb⟩ : ∃ z : Int32, z = (if (0 : Int32) < (ka + kb) then (1 : Int32) else (0 : Int32)) := ⟨_, rfl⟩
    suffices key111 : own_Ends p e below s FrameEnd (Q0 n0) 16 128 (T76.setTop (mkF m 119 #[.val (.int p1), .val (.int ka), .val (.int (0 : Int32)), .val (.int kb), .val (.ref b68), .val (.int (own_cg (0 : Int32))), .val (.int (own_cg ((0 : Int32) + ka))), .val (.int (ka + kb)), .val (.int (own_cg (((0 : Int32) + ka) + kb)))] [(.int qb), (.int (own_cg (((0 : Int32) + ka) + kb)))])) by
      by_cases hc111_80 : (0 : Int32) < (ka + kb)
      · skip
        refine own_ifNo X76 hx hby at_111 ((if0 _ _).trans (tlt hc111_80).2.2.2) ?_
        refine own_iconst X76 hx hby 1 at_114 rfl ?_
        refine own_goto X76 hx hby 115 119 at_115 (by decide) (by decide) ?_
        have tqb : qb = (1 : Int32) := by rw [hqb, if_pos hc111_80]
        exact own_eq (by rw [tqb]) key111
      · skip
        refine own_ifYes X76 hx hby 111 118 at_111 ((if0 _ _).trans (flt hc111_80).2.2.2) (by decide) (by decide) ?_
        refine own_iconst X76 hx hby 0 at_118 rfl ?_
        have tqb : qb = (0 : Int32) := by rw [hqb, if_neg hc111_80]
        exact own_eq (by rw [tqb]) key111
    have hc119_81 : (own_cg (((0 : Int32) + ka) + kb)) = qb := by rw [hqb]; simp only [Int32.zero_add]; rfl
    refine own_icmpNo X76 hx hby at_119 (teq hc119_81).2 ?_
    refine own_iconst X76 hx hby 1 at_122 rfl ?_
    refine own_goto X76 hx hby 123 127 at_123 (by decide) (by decide) ?_
    exact own_retN X76 hx hlk (t := .boolean) Bd.returns (by simp) (hb hby at_127) (by decide) (by decide) (⟨rfl, N76⟩)
  · skip
    refine own_ifNo X0 hx hby at_9 ((if0 _ _).trans (feq hc9_67).1) ?_
    refine own_iconst X0 hx hby 1 at_12 rfl ?_
    refine own_goto X0 hx hby 13 17 at_13 (by decide) (by decide) ?_
    refine own_istoreN X0 hx hby at_17 (l' := #[.val (.int p1), .val (.int ka), .val (.int (1 : Int32)), .unset, .unset, .unset, .unset, .unset, .unset]) rfl ?_
    refine own_iloadN X0 hx hby at_18 rfl ?_
    refine own_iconst X0 hx hby 3 at_19 rfl ?_
    refine own_iushr X0 hx hby at_20 ?_
    refine own_iconst X0 hx hby 3 at_21 rfl ?_
    refine own_iand X0 hx hby at_22 ?_
    obtain ⟨kb, hkb⟩ : ∃ z, z = ((XT.ushr p1 (3 : Int32)) &&& (3 : Int32)) := ⟨_, rfl⟩
    refine own_eq (U' := (s₁.setTop (mkF m 23 #[.val (.int p1), .val (.int ka), .val (.int (1 : Int32)), .unset, .unset, .unset, .unset, .unset, .unset] [(.int kb)]))) (by rw [hkb]) ?_
    refine own_istoreN X0 hx hby at_23 (l' := #[.val (.int p1), .val (.int ka), .val (.int (1 : Int32)), .val (.int kb), .unset, .unset, .unset, .unset, .unset]) rfl ?_
    have h4kb := own_and3 (XT.ushr p1 (3 : Int32))
    rw [← hkb] at h4kb
    obtain ⟨T82, h82, X82, e82, E82, A82, D82, -, st82⟩ := newO X0 hx hZ hown (own_w hw 0 rfl) (own_w hw 1 rfl) (own_w hw 2 rfl) e0 (g := (mkF m 24 #[.val (.int p1), .val (.int ka), .val (.int (1 : Int32)), .val (.int kb), .unset, .unset, .unset, .unset, .unset] [])) rfl (hb hby at_24) (by decide) (by decide)
    obtain ⟨b82, gz82⟩ : ∃ z, z = h0.size := ⟨_, rfl⟩
    rw [← gz82] at A82 D82 st82
    have g_b82 : n0 ≤ b82 := Nat.le_trans Z0 (Nat.le_of_eq gz82.symm)
    replace Z0 := Nat.le_trans Z0 E82.1
    replace SP := SP.ext E82
    have F82_closable : Fld Z h82 b82 "com/example/svyazka/svyazka/http/Connections" "closable" "Ljava/util/Set;" .null := D82 (Or.inr (own_w hw 79 rfl)) (ty := (.object "java/util/Set")) (by decide)
    have F82_closing : Fld Z h82 b82 "com/example/svyazka/svyazka/http/Connections" "closing" "I" (.int (0 : Int32)) := D82 (Or.inl (own_w hw 86 rfl)) (ty := .int) (by decide)
    have F82_open : Fld Z h82 b82 "com/example/svyazka/svyazka/http/Connections" "open" "I" (.int (0 : Int32)) := D82 (Or.inl (own_w hw 97 rfl)) (ty := .int) (by decide)
    refine own_of (U' := (T82.setTop (mkF m 27 #[.val (.int p1), .val (.int ka), .val (.int (1 : Int32)), .val (.int kb), .unset, .unset, .unset, .unset, .unset] [(.ref b82)]))) (st82) ?_
    refine own_dup X82 hx hby at_27 rfl ?_
    obtain ⟨_, _, ⟨T83, L83, k83, n83⟩, -, X83, ⟨Lc83, hQ83, l83, y83, z83⟩, st83⟩ := X82.specialBack hx (y := mN_10) rfl hown (mvT hZ (own_w hw 3 rfl)) (mvT hZ (own_w hw 4 rfl)) (mvT hZ (own_w hw 5 rfl)) (by decide) (backOf (W := 1) (rmcn l Z a0 hw [] b82 h82 n0 Z0 A82 F82_open F82_closing F82_closable g_b82) hZ (own_w hw 5 rfl) (own_w hw 2 rfl) (by decide) (by decide)) (g := (mkF m 28 #[.val (.int p1), .val (.int ka), .val (.int (1 : Int32)), .val (.int kb), .unset, .unset, .unset, .unset, .unset] [(.ref b82), (.ref b82)])) rfl (by rw [hml]; rfl) (Steps.refl _) (a := b82) (argsL := []) (rest := [(.ref b82)]) (lenOf pd_0 rfl) rfl (by show 2 * 0 + _ ≤ _; exact Nat.le_of_eq rfl) (hb hby at_28) (fun _ _ => ⟨rfl, e82, (by decide : 1 + 2 ≤ _), (by decide : 3 + 13 ≤ _)⟩)
    dsimp only [Pt.U, Pt.locs, Pt.cells, Pt.slots] at X83 l83 y83 z83 st83 hQ83
    subst l83 y83 z83
    obtain ⟨rfl, Nq83, Kp83, Fo83, Fg83, d83, c83, gd83, gc83, nd83, Fc83, Ed83, Fm83, Ec83, Ft83⟩ := hQ83
    have g_d83 : n0 ≤ d83 := Nat.le_trans Z0 gd83
    have ne_b82_d83 : b82 ≠ d83 := Nat.ne_of_lt (Nat.lt_of_lt_of_le A82.lt gd83)
    have g_c83 : n0 ≤ c83 := Nat.le_trans Z0 gc83
    have ne_b82_c83 : b82 ≠ c83 := Nat.ne_of_lt (Nat.lt_of_lt_of_le A82.lt gc83)
    have N83 := Fr.app N0 Nq83
    have nst_b82 := A82.nostat
    replace Z0 := Nat.le_trans Z0 Kp83.1
    replace SP := own_staKeep SP Kp83 (nsS nst_b82 ns0)
    replace A82 := A82.keep Kp83
    refine own_of (U' := (T83.setTop (mkF m 31 #[.val (.int p1), .val (.int ka), .val (.int (1 : Int32)), .val (.int kb), .unset, .unset, .unset, .unset, .unset] [(.ref b82)]))) (fun _ k => st83.trans k) ?_
    refine own_astore X83 hx hby at_31 rfl (l' := #[.val (.int p1), .val (.int ka), .val (.int (1 : Int32)), .val (.int kb), .val (.ref b82), .unset, .unset, .unset, .unset]) rfl ?_
    refine own_aload X83 hx hby at_33 rfl rfl ?_
    obtain ⟨cq84, kq84, q84a, q84b, q84c⟩ := isOf hZ rfl A82
    obtain ⟨_, _, ⟨T84, L84, k84, n84⟩, -, X84, ⟨Lc84, hQ84, l84, y84, z84⟩, st84⟩ := X83.virtualBack hx (y := mN_17) (z := mN_17) hown (mvT hZ (own_w hw 80 rfl)) (mvT hZ (own_w hw 81 rfl)) (notFace_of_selects (args := #[]) (mvT hZ (own_w hw 83 rfl))) (mvT hZ (own_w hw 83 rfl)) (mvT hZ (own_w hw 82 rfl)) (by decide) (backOf (W := 0) (rmcg l Z a0 hw [] b82 (0 : Int32) T83.heap n0 Z0 Fg83) hZ (own_w hw 84 rfl) (own_w hw 2 rfl) (by decide) (by decide)) q84a q84c (g := (mkF m 35 #[.val (.int p1), .val (.int ka), .val (.int (1 : Int32)), .val (.int kb), .val (.ref b82), .unset, .unset, .unset, .unset] [(.ref b82)])) rfl (by rw [hml]; rfl) (Steps.refl _) (argsL := []) (rest := []) (lenOf pd_10 rfl) rfl (by show 2 * 0 + _ ≤ _; exact Nat.le_of_eq rfl) (hb hby at_35) (fun _ _ => ⟨rfl, rfl, (by decide : 3 + 0 ≤ _), (by decide : 16 + 0 ≤ _)⟩)
    dsimp only [Pt.U, Pt.locs, Pt.cells, Pt.slots] at X84 l84 y84 z84 st84 hQ84
    subst l84 y84 z84
    obtain ⟨rfl, Nq84, e84⟩ := hQ84
    have N84 := Fr.app N83 Nq84
    refine own_of (U' := (T84.setTop (mkF m 38 #[.val (.int p1), .val (.int ka), .val (.int (1 : Int32)), .val (.int kb), .val (.ref b82), .unset, .unset, .unset, .unset] [(.int (own_cg (0 : Int32)))]))) (fun _ k => st84.trans k) ?_
    refine own_istore X84 hx hby at_38 (l' := #[.val (.int p1), .val (.int ka), .val (.int (1 : Int32)), .val (.int kb), .val (.ref b82), .val (.int (own_cg (0 : Int32))), .unset, .unset, .unset]) rfl ?_
    refine own_aload X84 hx hby at_40 rfl rfl ?_
    refine own_iloadN X84 hx hby at_42 rfl ?_
    obtain ⟨_, _, ⟨T85, L85, k85, n85⟩, -, X85, ⟨Lc85, hQ85, l85, y85, z85⟩, st85⟩ := Jvm.LawKit.callS X84 hx (y := mN_19) hown (mvT hZ (own_w hw 87 rfl)) (mvT hZ (own_w hw 88 rfl)) (mvT hZ (own_w hw 89 rfl)) (mvT hZ (own_w hw 90 rfl)) (by decide) (backOf (W := 0) (rmct l Z a0 hw [] b82 (0 : Int32) (0 : Int32) d83 c83 kP ka T83.heap n0 Z0 A82 Fo83 Fg83 Fc83 Ed83 Fm83 Ec83 Ft83 ne_b82_d83 ne_b82_c83 g_b82 SP h4ka) hZ (own_w hw 90 rfl) (own_w hw 89 rfl) (by decide) (by decide)) (g := (mkF m 43 #[.val (.int p1), .val (.int ka), .val (.int (1 : Int32)), .val (.int kb), .val (.ref b82), .val (.int (own_cg (0 : Int32))), .unset, .unset, .unset] [(.int ka), (.ref b82)])) rfl (by rw [hml]; rfl) (argsL := [(.ref b82), (.int ka)]) (rest := []) (lenOf pd_11 rfl) rfl (by show 2 * 0 + _ ≤ _; exact Nat.le_of_eq rfl) (hb hby at_43) (fun _ _ => ⟨rfl, e84, (by decide : 3 + 0 ≤ _), (by decide : 16 + 0 ≤ _)⟩)
    dsimp only [Pt.U, Pt.locs, Pt.cells, Pt.slots] at X85 l85 y85 z85 st85 hQ85
    subst l85 y85 z85
    obtain ⟨rfl, Nq85, Kp85, ⟨op85, Fo85⟩, Fg85, Fc85⟩ := hQ85
    have N85 := Fr.app N84 Nq85
    have nst_b82 := A82.nostat
    replace Z0 := Nat.le_trans Z0 Kp85.1
    replace SP := own_staKeep SP Kp85 (nsS nst_b82 ns0)
    replace A82 := A82.keep Kp85
    replace Ed83 := Ed83.keep Kp85
    replace Fm83 := Fm83.keep Kp85 (ninS (Ne.symm ne_b82_d83) nin0)
    replace Ec83 := Ec83.keep Kp85
    replace Ft83 := Ft83.keep Kp85 (ninS (Ne.symm ne_b82_c83) nin0)
    refine own_of (U' := (T85.setTop (mkF m 46 #[.val (.int p1), .val (.int ka), .val (.int (1 : Int32)), .val (.int kb), .val (.ref b82), .val (.int (own_cg (0 : Int32))), .unset, .unset, .unset] []))) (st85) ?_
    refine own_aload X85 hx hby at_46 rfl rfl ?_
    obtain ⟨cq86, kq86, q86a, q86b, q86c⟩ := isOf hZ rfl A82
    obtain ⟨_, _, ⟨T86, L86, k86, n86⟩, -, X86, ⟨Lc86, hQ86, l86, y86, z86⟩, st86⟩ := X85.virtualBack hx (y := mN_17) (z := mN_17) hown (mvT hZ (own_w hw 80 rfl)) (mvT hZ (own_w hw 81 rfl)) (notFace_of_selects (args := #[]) (mvT hZ (own_w hw 83 rfl))) (mvT hZ (own_w hw 83 rfl)) (mvT hZ (own_w hw 82 rfl)) (by decide) (backOf (W := 0) (rmcg l Z a0 hw [] b82 ((0 : Int32) + ka) T85.heap n0 Z0 Fg85) hZ (own_w hw 84 rfl) (own_w hw 2 rfl) (by decide) (by decide)) q86a q86c (g := (mkF m 48 #[.val (.int p1), .val (.int ka), .val (.int (1 : Int32)), .val (.int kb), .val (.ref b82), .val (.int (own_cg (0 : Int32))), .unset, .unset, .unset] [(.ref b82)])) rfl (by rw [hml]; rfl) (Steps.refl _) (argsL := []) (rest := []) (lenOf pd_10 rfl) rfl (by show 2 * 0 + _ ≤ _; exact Nat.le_of_eq rfl) (hb hby at_48) (fun _ _ => ⟨rfl, rfl, (by decide : 3 + 0 ≤ _), (by decide : 16 + 0 ≤ _)⟩)
    dsimp only [Pt.U, Pt.locs, Pt.cells, Pt.slots] at X86 l86 y86 z86 st86 hQ86
    subst l86 y86 z86
    obtain ⟨rfl, Nq86, e86⟩ := hQ86
    have N86 := Fr.app N85 Nq86
    refine own_of (U' := (T86.setTop (mkF m 51 #[.val (.int p1), .val (.int ka), .val (.int (1 : Int32)), .val (.int kb), .val (.ref b82), .val (.int (own_cg (0 : Int32))), .unset, .unset, .unset] [(.int (own_cg ((0 : Int32) + ka)))]))) (fun _ k => st86.trans k) ?_
    refine own_istore X86 hx hby at_51 (l' := #[.val (.int p1), .val (.int ka), .val (.int (1 : Int32)), .val (.int kb), .val (.ref b82), .val (.int (own_cg (0 : Int32))), .val (.int (own_cg ((0 : Int32) + ka))), .unset, .unset]) rfl ?_
    refine own_iloadN X86 hx hby at_53 rfl ?_
    have hc54_87 : ¬ ((1 : Int32) = (0 : Int32)) := by decide
    refine own_ifNo X86 hx hby at_54 ((if0 _ _).trans (feq hc54_87).1) ?_
    refine own_aload X86 hx hby at_57 rfl rfl ?_
    obtain ⟨cq88, kq88, q88a, q88b, q88c⟩ := isOf hZ e86 A82
    obtain ⟨_, _, ⟨T88, L88, k88, n88⟩, -, X88, ⟨Lc88, hQ88, l88, y88, z88⟩, st88⟩ := X86.virtualBack hx (y := mN_18) (z := mN_18) hown (mvT hZ (own_w hw 123 rfl)) (mvT hZ (own_w hw 124 rfl)) (notFace_of_selects (args := #[]) (mvT hZ (own_w hw 126 rfl))) (mvT hZ (own_w hw 126 rfl)) (mvT hZ (own_w hw 125 rfl)) (by decide) (backOf (W := 0) (rmwt l Z a0 hw [] b82 op85 ((0 : Int32) + ka) d83 c83 kP T85.heap n0 Z0 A82 Fo85 Fg85 Fc85 Ed83 Fm83 Ec83 Ft83 ne_b82_d83 ne_b82_c83 g_b82 SP) hZ (own_w hw 127 rfl) (own_w hw 2 rfl) (by decide) (by decide)) q88a q88c (g := (mkF m 59 #[.val (.int p1), .val (.int ka), .val (.int (1 : Int32)), .val (.int kb), .val (.ref b82), .val (.int (own_cg (0 : Int32))), .val (.int (own_cg ((0 : Int32) + ka))), .unset, .unset] [(.ref b82)])) rfl (by rw [hml]; rfl) (Steps.refl _) (argsL := []) (rest := []) (lenOf pd_0 rfl) rfl (by show 2 * 0 + _ ≤ _; exact Nat.le_of_eq rfl) (hb hby at_59) (fun _ _ => ⟨rfl, e86, (by decide : 3 + 0 ≤ _), (by decide : 16 + 0 ≤ _)⟩)
    dsimp only [Pt.U, Pt.locs, Pt.cells, Pt.slots] at X88 l88 y88 z88 st88 hQ88
    subst l88 y88 z88
    obtain ⟨rfl, Nq88, Kp88, ⟨op88, Fo88⟩, Fg88, Fc88⟩ := hQ88
    have N88 := Fr.app N86 Nq88
    have nst_b82 := A82.nostat
    replace Z0 := Nat.le_trans Z0 Kp88.1
    replace SP := own_staKeep SP Kp88 (nsS nst_b82 ns0)
    replace A82 := A82.keep Kp88
    replace Ed83 := Ed83.keep Kp88
    replace Fm83 := Fm83.keep Kp88 (ninS (Ne.symm ne_b82_d83) nin0)
    replace Ec83 := Ec83.keep Kp88
    replace Ft83 := Ft83.keep Kp88 (ninS (Ne.symm ne_b82_c83) nin0)
    refine own_of (U' := (T88.setTop (mkF m 62 #[.val (.int p1), .val (.int ka), .val (.int (1 : Int32)), .val (.int kb), .val (.ref b82), .val (.int (own_cg (0 : Int32))), .val (.int (own_cg ((0 : Int32) + ka))), .unset, .unset] []))) (fun _ k => st88.trans k) ?_
    refine own_aload X88 hx hby at_62 rfl rfl ?_
    refine own_iloadN X88 hx hby at_64 rfl ?_
    obtain ⟨_, _, ⟨T89, L89, k89, n89⟩, -, X89, ⟨Lc89, hQ89, l89, y89, z89⟩, st89⟩ := Jvm.LawKit.callS X88 hx (y := mN_19) hown (mvT hZ (own_w hw 87 rfl)) (mvT hZ (own_w hw 88 rfl)) (mvT hZ (own_w hw 89 rfl)) (mvT hZ (own_w hw 90 rfl)) (by decide) (backOf (W := 0) (rmct l Z a0 hw [] b82 op88 (0 : Int32) d83 c83 kP kb T88.heap n0 Z0 A82 Fo88 Fg88 Fc88 Ed83 Fm83 Ec83 Ft83 ne_b82_d83 ne_b82_c83 g_b82 SP h4kb) hZ (own_w hw 90 rfl) (own_w hw 89 rfl) (by decide) (by decide)) (g := (mkF m 65 #[.val (.int p1), .val (.int ka), .val (.int (1 : Int32)), .val (.int kb), .val (.ref b82), .val (.int (own_cg (0 : Int32))), .val (.int (own_cg ((0 : Int32) + ka))), .unset, .unset] [(.int kb), (.ref b82)])) rfl (by rw [hml]; rfl) (argsL := [(.ref b82), (.int kb)]) (rest := []) (lenOf pd_11 rfl) rfl (by show 2 * 0 + _ ≤ _; exact Nat.le_of_eq rfl) (hb hby at_65) (fun _ _ => ⟨rfl, rfl, (by decide : 3 + 0 ≤ _), (by decide : 16 + 0 ≤ _)⟩)
    dsimp only [Pt.U, Pt.locs, Pt.cells, Pt.slots] at X89 l89 y89 z89 st89 hQ89
    subst l89 y89 z89
    obtain ⟨rfl, Nq89, Kp89, ⟨op89, Fo89⟩, Fg89, Fc89⟩ := hQ89
    have N89 := Fr.app N88 Nq89
    have nst_b82 := A82.nostat
    replace Z0 := Nat.le_trans Z0 Kp89.1
    replace SP := own_staKeep SP Kp89 (nsS nst_b82 ns0)
    replace A82 := A82.keep Kp89
    replace Ed83 := Ed83.keep Kp89
    replace Fm83 := Fm83.keep Kp89 (ninS (Ne.symm ne_b82_d83) nin0)
    replace Ec83 := Ec83.keep Kp89
    replace Ft83 := Ft83.keep Kp89 (ninS (Ne.symm ne_b82_c83) nin0)
    refine own_of (U' := (T89.setTop (mkF m 68 #[.val (.int p1), .val (.int ka), .val (.int (1 : Int32)), .val (.int kb), .val (.ref b82), .val (.int (own_cg (0 : Int32))), .val (.int (own_cg ((0 : Int32) + ka))), .unset, .unset] []))) (st89) ?_
    refine own_iloadN X89 hx hby at_68 rfl ?_
    have hc69_90 : ¬ ((1 : Int32) = (0 : Int32)) := by decide
    refine own_ifNo X89 hx hby at_69 ((if0 _ _).trans (feq hc69_90).1) ?_
    refine own_iloadN X89 hx hby at_72 rfl ?_
    refine own_goto X89 hx hby 73 79 at_73 (by decide) (by decide) ?_
    refine own_istore X89 hx hby at_79 (l' := #[.val (.int p1), .val (.int ka), .val (.int (1 : Int32)), .val (.int kb), .val (.ref b82), .val (.int (own_cg (0 : Int32))), .val (.int (own_cg ((0 : Int32) + ka))), .val (.int kb), .unset]) rfl ?_
    refine own_aload X89 hx hby at_81 rfl rfl ?_
    obtain ⟨cq91, kq91, q91a, q91b, q91c⟩ := isOf hZ rfl A82
    obtain ⟨_, _, ⟨T91, L91, k91, n91⟩, -, X91, ⟨Lc91, hQ91, l91, y91, z91⟩, st91⟩ := X89.virtualBack hx (y := mN_17) (z := mN_17) hown (mvT hZ (own_w hw 80 rfl)) (mvT hZ (own_w hw 81 rfl)) (notFace_of_selects (args := #[]) (mvT hZ (own_w hw 83 rfl))) (mvT hZ (own_w hw 83 rfl)) (mvT hZ (own_w hw 82 rfl)) (by decide) (backOf (W := 0) (rmcg l Z a0 hw [] b82 ((0 : Int32) + kb) T89.heap n0 Z0 Fg89) hZ (own_w hw 84 rfl) (own_w hw 2 rfl) (by decide) (by decide)) q91a q91c (g := (mkF m 83 #[.val (.int p1), .val (.int ka), .val (.int (1 : Int32)), .val (.int kb), .val (.ref b82), .val (.int (own_cg (0 : Int32))), .val (.int (own_cg ((0 : Int32) + ka))), .val (.int kb), .unset] [(.ref b82)])) rfl (by rw [hml]; rfl) (Steps.refl _) (argsL := []) (rest := []) (lenOf pd_10 rfl) rfl (by show 2 * 0 + _ ≤ _; exact Nat.le_of_eq rfl) (hb hby at_83) (fun _ _ => ⟨rfl, rfl, (by decide : 3 + 0 ≤ _), (by decide : 16 + 0 ≤ _)⟩)
    dsimp only [Pt.U, Pt.locs, Pt.cells, Pt.slots] at X91 l91 y91 z91 st91 hQ91
    subst l91 y91 z91
    obtain ⟨rfl, Nq91, e91⟩ := hQ91
    have N91 := Fr.app N89 Nq91
    refine own_of (U' := (T91.setTop (mkF m 86 #[.val (.int p1), .val (.int ka), .val (.int (1 : Int32)), .val (.int kb), .val (.ref b82), .val (.int (own_cg (0 : Int32))), .val (.int (own_cg ((0 : Int32) + ka))), .val (.int kb), .unset] [(.int (own_cg ((0 : Int32) + kb)))]))) (fun _ k => st91.trans k) ?_
    refine own_istore X91 hx hby at_86 (l' := #[.val (.int p1), .val (.int ka), .val (.int (1 : Int32)), .val (.int kb), .val (.ref b82), .val (.int (own_cg (0 : Int32))), .val (.int (own_cg ((0 : Int32) + ka))), .val (.int kb), .val (.int (own_cg ((0 : Int32) + kb)))]) rfl ?_
    refine own_iload X91 hx hby at_88 rfl ?_
    have hc90_92 : (own_cg (0 : Int32)) = (0 : Int32) := by decide
    refine own_ifNo X91 hx hby at_90 ((if0 _ _).trans (teq hc90_92).2) ?_
    refine own_iload X91 hx hby at_93 rfl ?_
    refine own_iloadN X91 hx hby at_95 rfl ?_
    obtain ⟨qa, hqa⟩ : ∃ z : Int32, z = (if (0 : Int32) < ka then (1 : Int32) else (0 : Int32)) := ⟨_, rfl⟩
    suffices key96 : own_Ends p e below s FrameEnd (Q0 n0) 16 128 (T91.setTop (mkF m 104 #[.val (.int p1), .val (.int ka), .val (.int (1 : Int32)), .val (.int kb), .val (.ref b82), .val (.int (own_cg (0 : Int32))), .val (.int (own_cg ((0 : Int32) + ka))), .val (.int kb), .val (.int (own_cg ((0 : Int32) + kb)))] [(.int qa), (.int (own_cg ((0 : Int32) + ka)))])) by
      by_cases hc96_93 : (0 : Int32) < ka
      · skip
        refine own_ifNo X91 hx hby at_96 ((if0 _ _).trans (tlt hc96_93).2.2.2) ?_
        refine own_iconst X91 hx hby 1 at_99 rfl ?_
        refine own_goto X91 hx hby 100 104 at_100 (by decide) (by decide) ?_
        have tqa : qa = (1 : Int32) := by rw [hqa, if_pos hc96_93]
        exact own_eq (by rw [tqa]) key96
      · skip
        refine own_ifYes X91 hx hby 96 103 at_96 ((if0 _ _).trans (flt hc96_93).2.2.2) (by decide) (by decide) ?_
        refine own_iconst X91 hx hby 0 at_103 rfl ?_
        have tqa : qa = (0 : Int32) := by rw [hqa, if_neg hc96_93]
        exact own_eq (by rw [tqa]) key96
    have hc104_94 : (own_cg ((0 : Int32) + ka)) = qa := by rw [hqa, Int32.zero_add]; rfl
    refine own_icmpNo X91 hx hby at_104 (teq hc104_94).2 ?_
    refine own_iload X91 hx hby at_107 rfl ?_
    refine own_iload X91 hx hby at_109 rfl ?_
    obtain ⟨qb, hqb⟩ : ∃ z : Int32, z = (if (0 : Int32) < kb then (1 : Int32) else (0 : Int32)) := ⟨_, rfl⟩
    suffices key111 : own_Ends p e below s FrameEnd (Q0 n0) 16 128 (T91.setTop (mkF m 119 #[.val (.int p1), .val (.int ka), .val (.int (1 : Int32)), .val (.int kb), .val (.ref b82), .val (.int (own_cg (0 : Int32))), .val (.int (own_cg ((0 : Int32) + ka))), .val (.int kb), .val (.int (own_cg ((0 : Int32) + kb)))] [(.int qb), (.int (own_cg ((0 : Int32) + kb)))])) by
      by_cases hc111_95 : (0 : Int32) < kb
      · skip
        refine own_ifNo X91 hx hby at_111 ((if0 _ _).trans (tlt hc111_95).2.2.2) ?_
        refine own_iconst X91 hx hby 1 at_114 rfl ?_
        refine own_goto X91 hx hby 115 119 at_115 (by decide) (by decide) ?_
        have tqb : qb = (1 : Int32) := by rw [hqb, if_pos hc111_95]
        exact own_eq (by rw [tqb]) key111
      · skip
        refine own_ifYes X91 hx hby 111 118 at_111 ((if0 _ _).trans (flt hc111_95).2.2.2) (by decide) (by decide) ?_
        refine own_iconst X91 hx hby 0 at_118 rfl ?_
        have tqb : qb = (0 : Int32) := by rw [hqb, if_neg hc111_95]
        exact own_eq (by rw [tqb]) key111
    have hc119_96 : (own_cg ((0 : Int32) + kb)) = qb := by rw [hqb]; simp only [Int32.zero_add]; rfl
    refine own_icmpNo X91 hx hby at_119 (teq hc119_96).2 ?_
    refine own_iconst X91 hx hby 1 at_122 rfl ?_
    refine own_goto X91 hx hby 123 127 at_123 (by decide) (by decide) ?_
    exact own_retN X91 hx hlk (t := .boolean) Bd.returns (by simp) (hb hby at_127) (by decide) (by decide) (⟨rfl, N91⟩)
set_option maxRecDepth 65536 in
set_option maxHeartbeats 40000000 in
theorem comes_1 {Post : Tables → Env → Array Value → State → Outcome → State → Prop} (hpost : ∀ tb e args s v u, (limb_1_1.after args s (.returned v) u = true ∧ limb_1_2.after args s (.returned v) u = true ∧ True) → FrameEnd s (.returned v) u (Jvm.fieldLocs frame_1_writes args s ++ Jvm.arrayLocs frame_1_arrays args s ++ Jvm.staticLocs frame_1_statics s) 16 128 → Post tb e args s (.returned v) u) :
    ArmFor flags0 classFile x code maxLocals ret World_1 tables_1 room_1 Calls_1 rest_1 Pre_1 Post := by
  intro l hfl _ _ p e ha hc hk s m args below hf hA hF happ hP
  obtain ⟨hcalls, hrest, hpre⟩ := hP
  obtain ⟨-, -, -, hnamed, -, -, -, hat⟩ := (Spec.applies_iff hf).mp happ
  obtain ⟨hg, hn⟩ := and_e (Cond.before_iff.mp (show (Jvm.Cond.and given_1 narrow_1).before args s = true from hpre))
  obtain ⟨hcount, hv0⟩ := and_e hg
  obtain ⟨w0, rfl⟩ : ∃ w0 : Value, args = #[w0] := by
    have hs : args.size = 1 := by simpa [Cond.value, given_1] using hcount
    obtain ⟨L⟩ := args
    match L, hs with
    | [w0], _ => exact ⟨w0, rfl⟩
  have hw := fun d (hd : d ∈ tables_1) => atoms_spec (ws := Jvm.Cond.code x code maxLocals ret :: tables_1) hat d (List.mem_cons_of_mem _ hd)
  have hfit : Fit s := fun {y c} hc i hi => by
    obtain ⟨ha, rfl⟩ := Array.getElem?_eq_some_iff.mp hc
    have q := List.all_eq_true.mp ((Array.all_eq_true_iff_forall_mem.mp hF) _ (Array.getElem_mem ha)) i (List.mem_range.mpr hi)
    simpa [Array.getElem?_eq_getElem hi] using q
  obtain ⟨hsets, hown0⟩ := atoms_of _ (rest_1_c_eq ▸ (show rest_1_c.before _ s = true from hrest))
  have hr0 := Cond.before_iff.mp hown0
  obtain ⟨i0, ei0⟩ := is_v hv0
  obtain rfl : w0 = (.int i0) := Option.some.inj ei0
  obtain ⟨kP, ekP⟩ := exa_v (Cond.before_iff.mp (hsets _ (List.mem_of_getElem? (i := 2) rfl)))
  have SP : Sta s s.heap "java/util/HashSet" "PRESENT" "Ljava/lang/Object;" (.ref kP) := Sta.start ekP (Or.inl (hsets _ (List.mem_of_getElem? (i := 1) rfl)))
  obtain ⟨n, o, h1, h2, h3, _, L, rfl, ⟨rfl, N⟩, hq⟩ := rm0 l s _ hw tables_1 i0 kP s.heap s.heap.size (Nat.le_refl _) SP p e ha hc hk s m _ below hf ((Spec.applies_iff_loose hf).mp happ).1 ⟨rfl, State.Warmed39.refl s, rfl⟩ trivial
  exact ⟨n, _, h1, h2, h3, hpost _ _ _ _ _ _ ⟨Cond.after_iff.mpr rfl, Cond.after_iff.mpr (eq_i res_at (Term.int_eval (1)) rfl), trivial⟩ ⟨hq.1, hq.2.1, (hq.2.2.sift fun y hy => Or.inr (N y hy)).mono (by decide) (by decide)⟩⟩
theorem main_1_1 : Claimed_1_1 := comes_1 fun _ _ _ _ _ _ h hF => ⟨h.1, hF⟩
theorem main_1_2 : Claimed_1_2 := comes_1 fun _ _ _ _ _ _ h hF => ⟨h.2.1, hF⟩
end Jvm.Pilot.@@N@@
namespace Jvm.Pilot.@@N@@
open Jvm Jvm.ClassFile Sem Op Lib Jvm.Free Jvm.Stand Jvm.Pilot.@@N@@.Jvm.D
/-! MADE BY PROGRAM (witnessworld.py) out of the Statement's table words and the real class files: 29 classes; the members and pool entries that the words name. The judged class is class 1, her method 2. -/
namespace start1
open Jvm.ClassFile
def u (s : String) : CpInfo := .utf8 (stringToUtf16 s)
/-- a pool by its gaps: so many unusable entries, then the entry; so many at the end -/
def gap : Nat → List CpInfo → List CpInfo
  | 0, r => r
  | n + 1, r => .unusable :: gap n r
def poolList (es : List (Nat × CpInfo)) (last : Nat) : List CpInfo := es.foldr (fun e r => gap e.1 (e.2 :: r)) (gap last [])
def pool (es : List (Nat × CpInfo)) (last : Nat) : Array CpInfo := ⟨poolList es last⟩
def fileOf (pool : Array CpInfo) (this : Nat) (attrs : Array Attribute := #[]) (ms : Array MethodInfo := #[]) (fl : Nat := 33) (sup : Nat := 0) (ifs : Array Nat := #[]) (fds : Array FieldInfo := #[]) : ClassFile where
  minorVersion := 0
  majorVersion := 65
  constantPool := pool
  accessFlags := fl
  thisClass := this
  superClass := sup
  interfaces := ifs
  fields := fds
  methods := ms
  attributes := attrs
def plain (name : String) (sup : Option ClassId) : Class where
  name := name
  kind := .ordinary
  loader := none
  accessFlags := 33
  super := sup
  interfaces := #[]
  cf := none
  fields := #[]
  methods := #[]
  instanceTypes := #[]
  staticTypes := #[]
  resolved := #[]
  callSites := []
  init := .initialized
  statics := none
  mirror := none

def pool0 : Array CpInfo := pool [(5, u "<init>"), (0, u "()V"), (1, .class_ 10), (1, u "java/lang/Object")] 113

def k0c0 : Code := { maxStack := 0, maxLocals := 1, code := object_method_1_code, exceptionTable := #[], attributes := #[] }
def k0m0 : Method := { name := "<init>", desc := "()V", sig := { parameters := [], returnType := none }, accessFlags := 1, code := some k0c0 }
/-- java/lang/Object -/
def k0 : Class := { plain "java/lang/Object" none with
  accessFlags := 33
  interfaces := #[]
  cf := some (fileOf pool0 8 #[] #[{ accessFlags := 1, nameIndex := 5, descriptorIndex := 6, attributes := #[] }] 33 0 #[] #[])
  fields := #[]
  methods := #[k0m0]
  instanceTypes := #[]
  staticTypes := #[]
  resolved := Array.replicate 124 none
  statics := none }

def pool1 : Array CpInfo := pool [(2, .class_ 4), (0, .nameAndType 5 6), (0, u "java/lang/Object"), (0, u "<init>"), (0, u "()V"), (0, .methodref 8 9), (0, .class_ 10), (0, .nameAndType 11 12), (0, u "com/example/svyazka/svyazka/http/Connections"), (0, u "closed"), (0, u "(Lcom/example/svyazka/svyazka/http/Connection;)V"), (0, .methodref 8 3), (0, .methodref 8 15), (0, .nameAndType 16 17), (0, u "closing"), (0, u "()Z"), (0, .methodref 19 20), (0, .class_ 21), (0, .nameAndType 22 23), (0, u "com/example/svyazka/svyazka/http/ConnectionsClosingPinLaw"), (0, u "closeTimes"), (0, u "(Lcom/example/svyazka/svyazka/http/Connections;I)V"), (0, .methodref 8 25), (0, .nameAndType 26 6), (0, u "waited"), (3, u "law"), (0, u "(I)Z")] 2

def k1m0 : Method := { name := "<init>", desc := "()V", sig := { parameters := [], returnType := none }, accessFlags := 1, code := none }
def k1c1 : Code := { maxStack := 2, maxLocals := 2, code := method_2_code, exceptionTable := #[], attributes := #[] }
def k1m1 : Method := { name := "closeTimes", desc := "(Lcom/example/svyazka/svyazka/http/Connections;I)V", sig := { parameters := [(.object "com/example/svyazka/svyazka/http/Connections"), .int], returnType := none }, accessFlags := 10, code := some k1c1 }
def k1c2 : Code := { maxStack := 2, maxLocals := 9, code := code, exceptionTable := #[], attributes := #[] }
def k1m2 : Method := { name := "law", desc := "(I)Z", sig := { parameters := [.int], returnType := some .boolean }, accessFlags := 9, code := some k1c2 }
/-- com/example/svyazka/svyazka/http/ConnectionsClosingPinLaw -/
def k1 : Class := { plain "com/example/svyazka/svyazka/http/ConnectionsClosingPinLaw" (some 0) with
  accessFlags := 49
  interfaces := #[]
  cf := some (fileOf pool1 19 #[] #[{ accessFlags := 1, nameIndex := 5, descriptorIndex := 6, attributes := #[] }, { accessFlags := 10, nameIndex := 22, descriptorIndex := 23, attributes := #[] }, { accessFlags := 9, nameIndex := 30, descriptorIndex := 31, attributes := #[] }] 49 2 #[] #[])
  fields := #[]
  methods := #[k1m0, k1m1, k1m2]
  instanceTypes := #[]
  staticTypes := #[]
  resolved := Array.replicate 34 none
  statics := none }

def pool2 : Array CpInfo := pool [(1, .methodref 2 3), (0, .class_ 4), (0, .nameAndType 5 6), (0, u "java/lang/Object"), (0, u "<init>"), (0, u "()V"), (0, .class_ 8), (0, u "java/util/LinkedHashSet"), (0, .methodref 7 3), (0, .fieldref 11 12), (0, .class_ 13), (0, .nameAndType 14 15), (0, u "com/example/svyazka/svyazka/http/Connections"), (0, u "closable"), (0, u "Ljava/util/Set;"), (0, .fieldref 11 17), (0, .nameAndType 18 19), (0, u "open"), (0, u "I"), (1, .class_ 23), (1, u "java/util/Set"), (1, u "(Ljava/lang/Object;)Z"), (0, .interfaceMethodref 21 27), (0, .nameAndType 28 25), (0, u "remove"), (0, .fieldref 11 30), (0, .nameAndType 31 19), (0, u "closing"), (12, u "()Z"), (24, u "(Lcom/example/svyazka/svyazka/http/Connection;)V"), (2, u "closed"), (0, u "waited")] 8

def k2c0 : Code := { maxStack := 3, maxLocals := 1, code := prog_12_method_1_code, exceptionTable := #[], attributes := #[] }
def k2m0 : Method := { name := "<init>", desc := "()V", sig := { parameters := [], returnType := none }, accessFlags := 0, code := some k2c0 }
def k2c1 : Code := { maxStack := 3, maxLocals := 2, code := prog_12_method_5_code, exceptionTable := #[], attributes := #[] }
def k2m1 : Method := { name := "closed", desc := "(Lcom/example/svyazka/svyazka/http/Connection;)V", sig := { parameters := [(.object "com/example/svyazka/svyazka/http/Connection")], returnType := none }, accessFlags := 0, code := some k2c1 }
def k2c2 : Code := { maxStack := 2, maxLocals := 1, code := prog_12_method_6_code, exceptionTable := #[], attributes := #[] }
def k2m2 : Method := { name := "waited", desc := "()V", sig := { parameters := [], returnType := none }, accessFlags := 0, code := some k2c2 }
def k2c3 : Code := { maxStack := 1, maxLocals := 1, code := prog_12_method_8_code, exceptionTable := #[], attributes := #[] }
def k2m3 : Method := { name := "closing", desc := "()Z", sig := { parameters := [], returnType := some .boolean }, accessFlags := 0, code := some k2c3 }
/-- com/example/svyazka/svyazka/http/Connections -/
def k2 : Class := { plain "com/example/svyazka/svyazka/http/Connections" (some 0) with
  accessFlags := 48
  interfaces := #[]
  cf := some (fileOf pool2 11 #[] #[{ accessFlags := 0, nameIndex := 5, descriptorIndex := 6, attributes := #[] }, { accessFlags := 0, nameIndex := 72, descriptorIndex := 69, attributes := #[] }, { accessFlags := 0, nameIndex := 73, descriptorIndex := 6, attributes := #[] }, { accessFlags := 0, nameIndex := 31, descriptorIndex := 44, attributes := #[] }] 48 2 #[] #[{ accessFlags := 18, nameIndex := 14, descriptorIndex := 15, attributes := #[] }, { accessFlags := 2, nameIndex := 18, descriptorIndex := 19, attributes := #[] }, { accessFlags := 2, nameIndex := 31, descriptorIndex := 19, attributes := #[] }])
  fields := #[{ name := "closable", type := (.object "java/util/Set"), accessFlags := 18, slot := 0, constantValue := 0 }, { name := "open", type := .int, accessFlags := 2, slot := 1, constantValue := 0 }, { name := "closing", type := .int, accessFlags := 2, slot := 2, constantValue := 0 }]
  methods := #[k2m0, k2m1, k2m2, k2m3]
  instanceTypes := #[(.object "java/util/Set"), .int, .int]
  staticTypes := #[]
  resolved := Array.replicate 82 none
  statics := none }

def pool3 : Array CpInfo := pool [(8, .class_ 10), (1, u "java/lang/Iterable"), (24, .class_ 36), (0, u "java/lang/Object")] 25

/-- java/lang/Iterable -/
def k3 : Class := { plain "java/lang/Iterable" (some 0) with
  accessFlags := 1537
  interfaces := #[]
  cf := some (fileOf pool3 8 #[] #[] 1537 35 #[] #[])
  fields := #[]
  methods := #[]
  instanceTypes := #[]
  staticTypes := #[]
  resolved := Array.replicate 62 none
  statics := none }

def pool4 : Array CpInfo := pool [(10, .class_ 12), (1, u "java/util/Collection"), (47, .class_ 61), (0, u "java/lang/Object"), (0, .class_ 63), (0, u "java/lang/Iterable")] 51

/-- java/util/Collection -/
def k4 : Class := { plain "java/util/Collection" (some 0) with
  accessFlags := 1537
  interfaces := #[3]
  cf := some (fileOf pool4 10 #[] #[] 1537 60 #[62] #[])
  fields := #[]
  methods := #[]
  instanceTypes := #[]
  staticTypes := #[]
  resolved := Array.replicate 115 none
  statics := none }

def pool5 : Array CpInfo := pool [(1, .methodref 2 3), (0, .class_ 4), (0, .nameAndType 5 6), (0, u "java/lang/Object"), (0, u "<init>"), (0, u "()V"), (1, .class_ 10), (1, u "java/util/AbstractCollection"), (66, .class_ 78), (0, u "java/util/Collection")] 81

def k5c0 : Code := { maxStack := 1, maxLocals := 1, code := jdk_22_method_1_code, exceptionTable := #[], attributes := #[] }
def k5m0 : Method := { name := "<init>", desc := "()V", sig := { parameters := [], returnType := none }, accessFlags := 4, code := some k5c0 }
/-- java/util/AbstractCollection -/
def k5 : Class := { plain "java/util/AbstractCollection" (some 0) with
  accessFlags := 1057
  interfaces := #[4]
  cf := some (fileOf pool5 8 #[] #[{ accessFlags := 4, nameIndex := 5, descriptorIndex := 6, attributes := #[] }] 1057 2 #[77] #[])
  fields := #[]
  methods := #[k5m0]
  instanceTypes := #[]
  staticTypes := #[]
  resolved := Array.replicate 160 none
  statics := none }

def pool6 : Array CpInfo := pool [(26, .class_ 27), (0, u "java/lang/Object"), (5, .class_ 34), (0, u "java/util/Set"), (1, .class_ 38), (1, u "java/util/Collection"), (21, u "(Ljava/lang/Object;)Z"), (8, u "remove")] 74

def k6m0 : Method := { name := "remove", desc := "(Ljava/lang/Object;)Z", sig := { parameters := [(.object "java/lang/Object")], returnType := some .boolean }, accessFlags := 1025, code := none }
/-- java/util/Set -/
def k6 : Class := { plain "java/util/Set" (some 0) with
  accessFlags := 1537
  interfaces := #[4]
  cf := some (fileOf pool6 33 #[] #[{ accessFlags := 1025, nameIndex := 69, descriptorIndex := 60, attributes := #[] }] 1537 26 #[36] #[])
  fields := #[]
  methods := #[k6m0]
  instanceTypes := #[]
  staticTypes := #[]
  resolved := Array.replicate 144 none
  statics := none }

def pool7 : Array CpInfo := pool [(1, .methodref 2 3), (0, .class_ 4), (0, .nameAndType 5 6), (0, u "java/util/AbstractCollection"), (0, u "<init>"), (0, u "()V"), (0, .class_ 8), (0, u "java/util/Set"), (7, .class_ 17), (0, u "java/util/AbstractSet")] 78

def k7c0 : Code := { maxStack := 1, maxLocals := 1, code := jdk_91_method_1_code, exceptionTable := #[], attributes := #[] }
def k7m0 : Method := { name := "<init>", desc := "()V", sig := { parameters := [], returnType := none }, accessFlags := 4, code := some k7c0 }
/-- java/util/AbstractSet -/
def k7 : Class := { plain "java/util/AbstractSet" (some 5) with
  accessFlags := 1057
  interfaces := #[6]
  cf := some (fileOf pool7 16 #[] #[{ accessFlags := 4, nameIndex := 5, descriptorIndex := 6, attributes := #[] }] 1057 2 #[7] #[])
  fields := #[]
  methods := #[k7m0]
  instanceTypes := #[]
  staticTypes := #[]
  resolved := Array.replicate 96 none
  statics := none }

def pool8 : Array CpInfo := pool [(1, .class_ 2), (0, u "java/lang/Cloneable"), (0, .class_ 4), (0, u "java/lang/Object")] 2

/-- java/lang/Cloneable -/
def k8 : Class := { plain "java/lang/Cloneable" (some 0) with
  accessFlags := 1537
  interfaces := #[]
  cf := some (fileOf pool8 1 #[] #[] 1537 3 #[] #[])
  fields := #[]
  methods := #[]
  instanceTypes := #[]
  staticTypes := #[]
  resolved := Array.replicate 7 none
  statics := none }

def pool9 : Array CpInfo := pool [(1, .class_ 2), (0, u "java/io/Serializable"), (0, .class_ 4), (0, u "java/lang/Object")] 2

/-- java/io/Serializable -/
def k9 : Class := { plain "java/io/Serializable" (some 0) with
  accessFlags := 1537
  interfaces := #[]
  cf := some (fileOf pool9 1 #[] #[] 1537 3 #[] #[])
  fields := #[]
  methods := #[]
  instanceTypes := #[]
  staticTypes := #[]
  resolved := Array.replicate 7 none
  statics := none }

def pool10 : Array CpInfo := pool [(1, .methodref 2 3), (0, .class_ 4), (0, .nameAndType 5 6), (0, u "java/util/AbstractSet"), (0, u "<init>"), (0, u "()V"), (0, .class_ 8), (0, u "java/util/HashMap"), (1, .fieldref 11 12), (0, .class_ 13), (0, .nameAndType 14 15), (0, u "java/util/HashSet"), (0, u "map"), (0, u "Ljava/util/HashMap;"), (21, .nameAndType 5 38), (0, u "(IF)V"), (3, .class_ 43), (0, u "java/util/LinkedHashMap"), (0, .methodref 42 37), (5, .class_ 52), (1, u "java/util/Set"), (10, u "(Ljava/lang/Object;)Z"), (0, .fieldref 11 65), (0, .nameAndType 66 67), (0, u "PRESENT"), (0, u "Ljava/lang/Object;"), (4, .methodref 7 73), (0, .nameAndType 74 75), (0, u "remove"), (0, u "(Ljava/lang/Object;)Ljava/lang/Object;"), (150, .class_ 227), (0, u "java/lang/Cloneable"), (0, .class_ 229), (0, u "java/io/Serializable"), (0, u "serialVersionUID"), (0, u "J"), (20, u "(IFZ)V")] 50

def k10m0 : Method := { name := "<init>", desc := "()V", sig := { parameters := [], returnType := none }, accessFlags := 1, code := none }
def k10c1 : Code := { maxStack := 5, maxLocals := 4, code := jdk_93_method_5_code, exceptionTable := #[], attributes := #[] }
def k10m1 : Method := { name := "<init>", desc := "(IFZ)V", sig := { parameters := [.int, .float, .boolean], returnType := none }, accessFlags := 0, code := some k10c1 }
def k10c2 : Code := { maxStack := 2, maxLocals := 2, code := jdk_93_method_11_code, exceptionTable := #[], attributes := #[] }
def k10m2 : Method := { name := "remove", desc := "(Ljava/lang/Object;)Z", sig := { parameters := [(.object "java/lang/Object")], returnType := some .boolean }, accessFlags := 1, code := some k10c2 }
/-- java/util/HashSet -/
def k10 : Class := { plain "java/util/HashSet" (some 7) with
  accessFlags := 33
  interfaces := #[6, 8, 9]
  cf := some (fileOf pool10 11 #[] #[{ accessFlags := 1, nameIndex := 5, descriptorIndex := 6, attributes := #[] }, { accessFlags := 0, nameIndex := 5, descriptorIndex := 252, attributes := #[] }, { accessFlags := 1, nameIndex := 74, descriptorIndex := 63, attributes := #[] }] 33 2 #[50, 226, 228] #[{ accessFlags := 24, nameIndex := 230, descriptorIndex := 231, attributes := #[] }, { accessFlags := 128, nameIndex := 14, descriptorIndex := 15, attributes := #[] }, { accessFlags := 24, nameIndex := 66, descriptorIndex := 67, attributes := #[] }])
  fields := #[{ name := "serialVersionUID", type := .long, accessFlags := 24, slot := 0, constantValue := 0 }, { name := "map", type := (.object "java/util/HashMap"), accessFlags := 128, slot := 0, constantValue := 0 }, { name := "PRESENT", type := (.object "java/lang/Object"), accessFlags := 24, slot := 1, constantValue := 0 }]
  methods := #[k10m0, k10m1, k10m2]
  instanceTypes := #[(.object "java/util/HashMap")]
  staticTypes := #[.long, (.object "java/lang/Object")]
  resolved := Array.replicate 303 none
  statics := some 0 }

def pool11 : Array CpInfo := pool [(8, .class_ 10), (1, u "java/util/SequencedCollection"), (15, .class_ 27), (0, u "java/lang/Object"), (0, .class_ 29), (0, u "java/util/Collection")] 27

/-- java/util/SequencedCollection -/
def k11 : Class := { plain "java/util/SequencedCollection" (some 0) with
  accessFlags := 1537
  interfaces := #[4]
  cf := some (fileOf pool11 8 #[] #[] 1537 26 #[28] #[])
  fields := #[]
  methods := #[]
  instanceTypes := #[]
  staticTypes := #[]
  resolved := Array.replicate 57 none
  statics := none }

def pool12 : Array CpInfo := pool [(2, .class_ 4), (1, u "java/util/SequencedSet"), (2, .class_ 8), (0, u "java/lang/Object"), (0, .class_ 10), (0, u "java/util/SequencedCollection"), (0, .class_ 12), (0, u "java/util/Set")] 13

/-- java/util/SequencedSet -/
def k12 : Class := { plain "java/util/SequencedSet" (some 0) with
  accessFlags := 1537
  interfaces := #[11, 6]
  cf := some (fileOf pool12 2 #[] #[] 1537 7 #[9, 11] #[])
  fields := #[]
  methods := #[]
  instanceTypes := #[]
  staticTypes := #[]
  resolved := Array.replicate 26 none
  statics := none }

def pool13 : Array CpInfo := pool [(1, .methodref 2 3), (0, .class_ 4), (0, .nameAndType 5 6), (0, u "java/util/HashSet"), (0, u "<init>"), (0, u "(IFZ)V"), (0, .float 1061158912), (19, .class_ 29), (1, u "java/util/LinkedHashSet"), (16, u "()V"), (44, .class_ 93), (1, u "java/util/SequencedSet"), (11, .class_ 106), (0, u "java/util/LinkedHashSet$1ReverseLinkedHashSetView"), (6, .class_ 114), (0, u "java/lang/Cloneable"), (0, .class_ 116), (0, u "java/io/Serializable"), (0, u "serialVersionUID"), (0, u "J")] 44

def k13c0 : Code := { maxStack := 4, maxLocals := 1, code := jdk_2620_method_3_code, exceptionTable := #[], attributes := #[] }
def k13m0 : Method := { name := "<init>", desc := "()V", sig := { parameters := [], returnType := none }, accessFlags := 1, code := some k13c0 }
/-- java/util/LinkedHashSet -/
def k13 : Class := { plain "java/util/LinkedHashSet" (some 10) with
  accessFlags := 33
  interfaces := #[12, 8, 9]
  cf := some (fileOf pool13 27 #[.nestMembers #[105]] #[{ accessFlags := 1, nameIndex := 5, descriptorIndex := 46, attributes := #[] }] 33 2 #[91, 113, 115] #[{ accessFlags := 26, nameIndex := 117, descriptorIndex := 118, attributes := #[] }])
  fields := #[{ name := "serialVersionUID", type := .long, accessFlags := 26, slot := 0, constantValue := 0 }]
  methods := #[k13m0]
  instanceTypes := #[(.object "java/util/HashMap")]
  staticTypes := #[.long]
  resolved := Array.replicate 163 none
  statics := none }

def pool14 : Array CpInfo := pool [(2, .class_ 4), (1, u "java/util/Map"), (31, .class_ 37), (0, u "java/util/Map$Entry"), (55, .class_ 94), (0, u "java/lang/Object")] 168

/-- java/util/Map -/
def k14 : Class := { plain "java/util/Map" (some 0) with
  accessFlags := 1537
  interfaces := #[]
  cf := some (fileOf pool14 2 #[.nestMembers #[36]] #[] 1537 93 #[] #[])
  fields := #[]
  methods := #[]
  instanceTypes := #[]
  staticTypes := #[]
  resolved := Array.replicate 263 none
  statics := none }

def pool15 : Array CpInfo := pool [(1, .methodref 2 3), (0, .class_ 4), (0, .nameAndType 5 6), (0, u "java/lang/Object"), (0, u "<init>"), (0, u "()V"), (1, .class_ 10), (1, u "java/util/AbstractMap"), (42, .class_ 54), (0, u "java/util/Map"), (9, u "keySet"), (0, u "Ljava/util/Set;"), (0, .class_ 67), (0, u "java/util/AbstractMap$1"), (5, u "values"), (0, u "Ljava/util/Collection;"), (0, .class_ 76), (0, u "java/util/AbstractMap$2"), (104, .class_ 182), (0, u "java/util/AbstractMap$ViewCollection"), (0, .class_ 184), (0, u "java/util/AbstractMap$SimpleImmutableEntry"), (0, .class_ 186), (0, u "java/util/AbstractMap$SimpleEntry"), (0, .class_ 188), (0, u "java/util/AbstractMap$2$1"), (0, .class_ 190), (0, u "java/util/AbstractMap$1$1")] 5

def k15c0 : Code := { maxStack := 1, maxLocals := 1, code := jdk_71_method_1_code, exceptionTable := #[], attributes := #[] }
def k15m0 : Method := { name := "<init>", desc := "()V", sig := { parameters := [], returnType := none }, accessFlags := 4, code := some k15c0 }
/-- java/util/AbstractMap -/
def k15 : Class := { plain "java/util/AbstractMap" (some 0) with
  accessFlags := 1057
  interfaces := #[14]
  cf := some (fileOf pool15 8 #[.nestMembers #[181, 183, 185, 75, 187, 66, 189]] #[{ accessFlags := 4, nameIndex := 5, descriptorIndex := 6, attributes := #[] }] 1057 2 #[53] #[{ accessFlags := 128, nameIndex := 64, descriptorIndex := 65, attributes := #[] }, { accessFlags := 128, nameIndex := 73, descriptorIndex := 74, attributes := #[] }])
  fields := #[{ name := "keySet", type := (.object "java/util/Set"), accessFlags := 128, slot := 0, constantValue := 0 }, { name := "values", type := (.object "java/util/Collection"), accessFlags := 128, slot := 1, constantValue := 0 }]
  methods := #[k15m0]
  instanceTypes := #[(.object "java/util/Set"), (.object "java/util/Collection")]
  staticTypes := #[]
  resolved := Array.replicate 196 none
  statics := none }

def pool16 : Array CpInfo := pool [(33, u "(Ljava/lang/Object;)I"), (0, .methodref 35 36), (0, .class_ 37), (0, .nameAndType 38 39), (0, u "java/lang/Integer"), (0, u "numberOfLeadingZeros"), (0, u "(I)I"), (0, .class_ 41), (0, u "java/util/HashMap"), (0, .integer 1073741824), (0, .methodref 44 45), (0, .class_ 46), (0, .nameAndType 47 48), (0, u "java/util/AbstractMap"), (0, u "<init>"), (0, u "()V"), (21, .methodref 71 72), (0, .class_ 73), (0, .nameAndType 74 75), (0, u "java/lang/Float"), (0, u "isNaN"), (0, u "(F)Z"), (5, .fieldref 40 82), (0, .nameAndType 83 84), (0, u "loadFactor"), (0, u "F"), (0, .methodref 40 86), (0, .nameAndType 87 39), (0, u "tableSizeFor"), (0, .fieldref 40 89), (0, .nameAndType 90 91), (0, u "threshold"), (0, u "I"), (3, u "(IF)V"), (5, .class_ 103), (1, u "java/util/Map"), (0, u "size"), (0, .fieldref 40 106), (0, .nameAndType 107 108), (0, u "table"), (0, u "[Ljava/util/HashMap$Node;"), (14, u "entrySet"), (25, .methodref 40 150), (0, .nameAndType 151 33), (0, u "hash"), (11, .class_ 165), (1, u "java/util/HashMap$Node"), (14, .class_ 181), (0, u "java/util/HashMap$TreeNode"), (22, u "modCount"), (23, .methodref 40 229), (0, .nameAndType 230 231), (0, u "removeNode"), (0, u "(ILjava/lang/Object;Ljava/lang/Object;ZZ)Ljava/util/HashMap$Node;"), (10, u "Ljava/util/Set;"), (0, .class_ 244), (0, u "java/util/HashMap$KeySet"), (18, .class_ 264), (0, u "java/util/HashMap$Values"), (3, .class_ 269), (0, u "java/util/HashMap$EntrySet"), (9, u "(Ljava/lang/Object;)Ljava/lang/Object;"), (66, .class_ 348), (1, u "java/util/HashMap$UnsafeHolder"), (43, .class_ 393), (0, u "java/lang/Cloneable"), (0, .class_ 395), (0, u "java/io/Serializable"), (0, u "serialVersionUID"), (0, u "J"), (3, u "DEFAULT_INITIAL_CAPACITY"), (1, u "MAXIMUM_CAPACITY"), (0, u "DEFAULT_LOAD_FACTOR"), (0, u "TREEIFY_THRESHOLD"), (1, u "UNTREEIFY_THRESHOLD"), (1, u "MIN_TREEIFY_CAPACITY"), (86, u "remove"), (99, .class_ 597), (0, u "java/util/HashMap$EntrySpliterator"), (0, .class_ 599), (0, u "java/util/HashMap$ValueSpliterator"), (0, .class_ 601), (0, u "java/util/HashMap$KeySpliterator"), (0, .class_ 603), (0, u "java/util/HashMap$HashMapSpliterator"), (0, .class_ 605), (0, u "java/util/HashMap$EntryIterator"), (0, .class_ 607), (0, u "java/util/HashMap$ValueIterator"), (0, .class_ 609), (0, u "java/util/HashMap$KeyIterator"), (0, .class_ 611), (0, u "java/util/HashMap$HashIterator")] 17

def k16c0 : Code := { maxStack := 3, maxLocals := 2, code := jdk_69_method_1_code, exceptionTable := #[], attributes := #[] }
def k16m0 : Method := { name := "hash", desc := "(Ljava/lang/Object;)I", sig := { parameters := [(.object "java/lang/Object")], returnType := some .int }, accessFlags := 24, code := some k16c0 }
def k16c1 : Code := { maxStack := 3, maxLocals := 2, code := jdk_69_method_4_code, exceptionTable := #[], attributes := #[] }
def k16m1 : Method := { name := "tableSizeFor", desc := "(I)I", sig := { parameters := [.int], returnType := some .int }, accessFlags := 24, code := some k16c1 }
def k16c2 : Code := { maxStack := 4, maxLocals := 3, code := jdk_69_method_5_code, exceptionTable := #[], attributes := #[] }
def k16m2 : Method := { name := "<init>", desc := "(IF)V", sig := { parameters := [.int, .float], returnType := none }, accessFlags := 1, code := some k16c2 }
def k16m3 : Method := { name := "<init>", desc := "()V", sig := { parameters := [], returnType := none }, accessFlags := 1, code := none }
def k16c4 : Code := { maxStack := 6, maxLocals := 3, code := jdk_69_method_20_code, exceptionTable := #[], attributes := #[] }
def k16m4 : Method := { name := "remove", desc := "(Ljava/lang/Object;)Ljava/lang/Object;", sig := { parameters := [(.object "java/lang/Object")], returnType := some (.object "java/lang/Object") }, accessFlags := 1, code := some k16c4 }
def k16c5 : Code := { maxStack := 4, maxLocals := 14, code := jdk_69_method_21_code, exceptionTable := #[], attributes := #[] }
def k16m5 : Method := { name := "removeNode", desc := "(ILjava/lang/Object;Ljava/lang/Object;ZZ)Ljava/util/HashMap$Node;", sig := { parameters := [.int, (.object "java/lang/Object"), (.object "java/lang/Object"), .boolean, .boolean], returnType := some (.object "java/util/HashMap$Node") }, accessFlags := 16, code := some k16c5 }
/-- java/util/HashMap -/
def k16 : Class := { plain "java/util/HashMap" (some 15) with
  accessFlags := 33
  interfaces := #[14, 8, 9]
  cf := some (fileOf pool16 40 #[.nestMembers #[180, 596, 598, 600, 602, 604, 606, 608, 610, 346, 268, 263, 243, 163]] #[{ accessFlags := 24, nameIndex := 151, descriptorIndex := 33, attributes := #[] }, { accessFlags := 24, nameIndex := 87, descriptorIndex := 39, attributes := #[] }, { accessFlags := 1, nameIndex := 47, descriptorIndex := 95, attributes := #[] }, { accessFlags := 1, nameIndex := 47, descriptorIndex := 48, attributes := #[] }, { accessFlags := 1, nameIndex := 496, descriptorIndex := 279, attributes := #[] }, { accessFlags := 16, nameIndex := 230, descriptorIndex := 231, attributes := #[] }] 33 44 #[101, 392, 394] #[{ accessFlags := 26, nameIndex := 396, descriptorIndex := 397, attributes := #[] }, { accessFlags := 24, nameIndex := 401, descriptorIndex := 91, attributes := #[] }, { accessFlags := 24, nameIndex := 403, descriptorIndex := 91, attributes := #[] }, { accessFlags := 24, nameIndex := 404, descriptorIndex := 84, attributes := #[] }, { accessFlags := 24, nameIndex := 405, descriptorIndex := 91, attributes := #[] }, { accessFlags := 24, nameIndex := 407, descriptorIndex := 91, attributes := #[] }, { accessFlags := 24, nameIndex := 409, descriptorIndex := 91, attributes := #[] }, { accessFlags := 128, nameIndex := 107, descriptorIndex := 108, attributes := #[] }, { accessFlags := 128, nameIndex := 123, descriptorIndex := 242, attributes := #[] }, { accessFlags := 128, nameIndex := 104, descriptorIndex := 91, attributes := #[] }, { accessFlags := 128, nameIndex := 204, descriptorIndex := 91, attributes := #[] }, { accessFlags := 0, nameIndex := 90, descriptorIndex := 91, attributes := #[] }, { accessFlags := 16, nameIndex := 83, descriptorIndex := 84, attributes := #[] }])
  fields := #[{ name := "serialVersionUID", type := .long, accessFlags := 26, slot := 0, constantValue := 0 }, { name := "DEFAULT_INITIAL_CAPACITY", type := .int, accessFlags := 24, slot := 1, constantValue := 0 }, { name := "MAXIMUM_CAPACITY", type := .int, accessFlags := 24, slot := 2, constantValue := 0 }, { name := "DEFAULT_LOAD_FACTOR", type := .float, accessFlags := 24, slot := 3, constantValue := 0 }, { name := "TREEIFY_THRESHOLD", type := .int, accessFlags := 24, slot := 4, constantValue := 0 }, { name := "UNTREEIFY_THRESHOLD", type := .int, accessFlags := 24, slot := 5, constantValue := 0 }, { name := "MIN_TREEIFY_CAPACITY", type := .int, accessFlags := 24, slot := 6, constantValue := 0 }, { name := "table", type := (.array (.object "java/util/HashMap$Node")), accessFlags := 128, slot := 2, constantValue := 0 }, { name := "entrySet", type := (.object "java/util/Set"), accessFlags := 128, slot := 3, constantValue := 0 }, { name := "size", type := .int, accessFlags := 128, slot := 4, constantValue := 0 }, { name := "modCount", type := .int, accessFlags := 128, slot := 5, constantValue := 0 }, { name := "threshold", type := .int, accessFlags := 0, slot := 6, constantValue := 0 }, { name := "loadFactor", type := .float, accessFlags := 16, slot := 7, constantValue := 0 }]
  methods := #[k16m0, k16m1, k16m2, k16m3, k16m4, k16m5]
  instanceTypes := #[(.object "java/util/Set"), (.object "java/util/Collection"), (.array (.object "java/util/HashMap$Node")), (.object "java/util/Set"), .int, .int, .int, .float]
  staticTypes := #[.long, .int, .int, .float, .int, .int, .int]
  resolved := Array.replicate 629 none
  statics := none }

def pool17 : Array CpInfo := pool [(2, .class_ 4), (1, u "java/util/SequencedMap"), (38, .class_ 44), (0, u "java/util/SequencedMap$1SeqKeySet"), (3, .class_ 49), (0, u "java/util/SequencedMap$1SeqValues"), (1, .class_ 52), (0, u "java/util/SequencedMap$1SeqEntrySet"), (1, .class_ 55), (0, u "java/lang/Object"), (0, .class_ 57), (0, u "java/util/Map")] 48

/-- java/util/SequencedMap -/
def k17 : Class := { plain "java/util/SequencedMap" (some 0) with
  accessFlags := 1537
  interfaces := #[14]
  cf := some (fileOf pool17 2 #[.nestMembers #[51, 48, 43]] #[] 1537 54 #[56] #[])
  fields := #[]
  methods := #[]
  instanceTypes := #[]
  staticTypes := #[]
  resolved := Array.replicate 106 none
  statics := none }

def pool18 : Array CpInfo := pool [(1, .fieldref 2 3), (0, .class_ 4), (0, .nameAndType 5 6), (0, u "java/util/LinkedHashMap"), (0, u "putMode"), (0, u "I"), (2, u "head"), (0, u "Ljava/util/LinkedHashMap$Entry;"), (2, u "tail"), (1, .class_ 17), (1, u "java/util/LinkedHashMap$Entry"), (5, .class_ 25), (1, u "java/util/HashMap"), (1, u "()V"), (2, u "<init>"), (33, .fieldref 2 65), (0, .nameAndType 66 67), (0, u "accessOrder"), (0, u "Z"), (13, .methodref 23 82), (0, .nameAndType 30 83), (0, u "(IF)V"), (37, .class_ 122), (0, u "java/util/LinkedHashMap$LinkedKeySet"), (20, .class_ 144), (0, u "java/util/LinkedHashMap$LinkedValues"), (9, .class_ 155), (0, u "java/util/LinkedHashMap$LinkedEntrySet"), (44, .class_ 201), (0, u "java/util/LinkedHashMap$ReversedLinkedHashMapView"), (3, .class_ 206), (0, u "java/util/SequencedMap"), (0, u "serialVersionUID"), (0, u "J"), (5, u "PUT_NORM"), (1, u "PUT_FIRST"), (1, u "PUT_LAST"), (143, .class_ 363), (0, u "java/util/LinkedHashMap$LinkedEntryIterator"), (0, .class_ 365), (0, u "java/util/LinkedHashMap$LinkedValueIterator"), (0, .class_ 367), (0, u "java/util/LinkedHashMap$LinkedKeyIterator"), (0, .class_ 369), (0, u "java/util/LinkedHashMap$LinkedHashIterator")] 16

def k18c0 : Code := { maxStack := 3, maxLocals := 3, code := jdk_94_method_14_code, exceptionTable := #[], attributes := #[] }
def k18m0 : Method := { name := "<init>", desc := "(IF)V", sig := { parameters := [.int, .float], returnType := none }, accessFlags := 1, code := some k18c0 }
def k18m1 : Method := { name := "<init>", desc := "()V", sig := { parameters := [], returnType := none }, accessFlags := 1, code := none }
/-- java/util/LinkedHashMap -/
def k18 : Class := { plain "java/util/LinkedHashMap" (some 16) with
  accessFlags := 33
  interfaces := #[17]
  cf := some (fileOf pool18 2 #[.nestMembers #[200, 362, 364, 366, 368, 154, 143, 121, 15]] #[{ accessFlags := 1, nameIndex := 30, descriptorIndex := 83, attributes := #[] }, { accessFlags := 1, nameIndex := 30, descriptorIndex := 27, attributes := #[] }] 33 23 #[205] #[{ accessFlags := 26, nameIndex := 207, descriptorIndex := 208, attributes := #[] }, { accessFlags := 128, nameIndex := 9, descriptorIndex := 10, attributes := #[] }, { accessFlags := 128, nameIndex := 13, descriptorIndex := 10, attributes := #[] }, { accessFlags := 16, nameIndex := 66, descriptorIndex := 67, attributes := #[] }, { accessFlags := 24, nameIndex := 214, descriptorIndex := 6, attributes := #[] }, { accessFlags := 24, nameIndex := 216, descriptorIndex := 6, attributes := #[] }, { accessFlags := 24, nameIndex := 218, descriptorIndex := 6, attributes := #[] }, { accessFlags := 128, nameIndex := 5, descriptorIndex := 6, attributes := #[] }])
  fields := #[{ name := "serialVersionUID", type := .long, accessFlags := 26, slot := 0, constantValue := 0 }, { name := "head", type := (.object "java/util/LinkedHashMap$Entry"), accessFlags := 128, slot := 8, constantValue := 0 }, { name := "tail", type := (.object "java/util/LinkedHashMap$Entry"), accessFlags := 128, slot := 9, constantValue := 0 }, { name := "accessOrder", type := .boolean, accessFlags := 16, slot := 10, constantValue := 0 }, { name := "PUT_NORM", type := .int, accessFlags := 24, slot := 1, constantValue := 0 }, { name := "PUT_FIRST", type := .int, accessFlags := 24, slot := 2, constantValue := 0 }, { name := "PUT_LAST", type := .int, accessFlags := 24, slot := 3, constantValue := 0 }, { name := "putMode", type := .int, accessFlags := 128, slot := 11, constantValue := 0 }]
  methods := #[k18m0, k18m1]
  instanceTypes := #[(.object "java/util/Set"), (.object "java/util/Collection"), (.array (.object "java/util/HashMap$Node")), (.object "java/util/Set"), .int, .int, .int, .float, (.object "java/util/LinkedHashMap$Entry"), (.object "java/util/LinkedHashMap$Entry"), .boolean, .int]
  staticTypes := #[.long, .int, .int, .int]
  resolved := Array.replicate 386 none
  statics := none }

def pool19 : Array CpInfo := pool [(2, .class_ 4), (1, u "java/lang/Object"), (0, u "<init>"), (0, u "()V"), (1, .class_ 10), (1, u "java/lang/Number"), (2, .class_ 14), (0, u "java/io/Serializable"), (0, u "serialVersionUID"), (0, u "J")] 20

def k19m0 : Method := { name := "<init>", desc := "()V", sig := { parameters := [], returnType := none }, accessFlags := 1, code := none }
/-- java/lang/Number -/
def k19 : Class := { plain "java/lang/Number" (some 0) with
  accessFlags := 1057
  interfaces := #[9]
  cf := some (fileOf pool19 8 #[] #[{ accessFlags := 1, nameIndex := 5, descriptorIndex := 6, attributes := #[] }] 1057 2 #[13] #[{ accessFlags := 26, nameIndex := 15, descriptorIndex := 16, attributes := #[] }])
  fields := #[{ name := "serialVersionUID", type := .long, accessFlags := 26, slot := 0, constantValue := 0 }]
  methods := #[k19m0]
  instanceTypes := #[]
  staticTypes := #[.long]
  resolved := Array.replicate 37 none
  statics := none }

def pool20 : Array CpInfo := pool [(1, .class_ 2), (0, u "java/lang/Comparable"), (0, .class_ 4), (0, u "java/lang/Object")] 7

/-- java/lang/Comparable -/
def k20 : Class := { plain "java/lang/Comparable" (some 0) with
  accessFlags := 1537
  interfaces := #[]
  cf := some (fileOf pool20 1 #[] #[] 1537 3 #[] #[])
  fields := #[]
  methods := #[]
  instanceTypes := #[]
  staticTypes := #[]
  resolved := Array.replicate 12 none
  statics := none }

def pool21 : Array CpInfo := pool [(1, .class_ 2), (0, u "java/lang/constant/Constable"), (0, .class_ 4), (0, u "java/lang/Object")] 6

/-- java/lang/constant/Constable -/
def k21 : Class := { plain "java/lang/constant/Constable" (some 0) with
  accessFlags := 1537
  interfaces := #[]
  cf := some (fileOf pool21 1 #[] #[] 1537 3 #[] #[])
  fields := #[]
  methods := #[]
  instanceTypes := #[]
  staticTypes := #[]
  resolved := Array.replicate 11 none
  statics := none }

def pool22 : Array CpInfo := pool [(1, .class_ 2), (0, u "java/lang/constant/ConstantDesc"), (0, .class_ 4), (0, u "java/lang/Object")] 32

/-- java/lang/constant/ConstantDesc -/
def k22 : Class := { plain "java/lang/constant/ConstantDesc" (some 0) with
  accessFlags := 1537
  interfaces := #[]
  cf := some (fileOf pool22 1 #[] #[] 1537 3 #[] #[])
  fields := #[]
  methods := #[]
  instanceTypes := #[]
  staticTypes := #[]
  resolved := Array.replicate 37 none
  statics := none }

def pool23 : Array CpInfo := pool [(1, .class_ 2), (0, u "java/lang/Float"), (48, .class_ 53), (1, u "java/lang/Number"), (3, u "value"), (0, u "F"), (2, u "isNaN"), (0, u "(F)Z"), (28, u "$assertionsDisabled"), (0, u "Z"), (52, u "TYPE"), (0, u "Ljava/lang/Class;"), (0, .class_ 148), (0, u "java/lang/Comparable"), (0, .class_ 150), (0, u "java/lang/constant/Constable"), (0, .class_ 152), (0, u "java/lang/constant/ConstantDesc"), (0, u "POSITIVE_INFINITY"), (1, u "NEGATIVE_INFINITY"), (1, u "NaN"), (1, u "MAX_VALUE"), (0, u "MIN_NORMAL"), (0, u "MIN_VALUE"), (1, u "SIZE"), (0, u "I"), (1, u "PRECISION"), (1, u "MAX_EXPONENT"), (1, u "MIN_EXPONENT"), (1, u "BYTES"), (3, u "serialVersionUID"), (0, u "J")] 101

def k23c0 : Code := { maxStack := 2, maxLocals := 1, code := jdk_118_method_6_code, exceptionTable := #[], attributes := #[] }
def k23m0 : Method := { name := "isNaN", desc := "(F)Z", sig := { parameters := [.float], returnType := some .boolean }, accessFlags := 9, code := some k23c0 }
/-- java/lang/Float -/
def k23 : Class := { plain "java/lang/Float" (some 19) with
  accessFlags := 49
  interfaces := #[20, 21, 22]
  cf := some (fileOf pool23 1 #[] #[{ accessFlags := 9, nameIndex := 61, descriptorIndex := 62, attributes := #[] }] 49 51 #[147, 149, 151] #[{ accessFlags := 25, nameIndex := 153, descriptorIndex := 58, attributes := #[] }, { accessFlags := 25, nameIndex := 155, descriptorIndex := 58, attributes := #[] }, { accessFlags := 25, nameIndex := 157, descriptorIndex := 58, attributes := #[] }, { accessFlags := 25, nameIndex := 159, descriptorIndex := 58, attributes := #[] }, { accessFlags := 25, nameIndex := 160, descriptorIndex := 58, attributes := #[] }, { accessFlags := 25, nameIndex := 161, descriptorIndex := 58, attributes := #[] }, { accessFlags := 25, nameIndex := 163, descriptorIndex := 164, attributes := #[] }, { accessFlags := 25, nameIndex := 166, descriptorIndex := 164, attributes := #[] }, { accessFlags := 25, nameIndex := 168, descriptorIndex := 164, attributes := #[] }, { accessFlags := 25, nameIndex := 170, descriptorIndex := 164, attributes := #[] }, { accessFlags := 25, nameIndex := 172, descriptorIndex := 164, attributes := #[] }, { accessFlags := 25, nameIndex := 145, descriptorIndex := 146, attributes := #[] }, { accessFlags := 18, nameIndex := 57, descriptorIndex := 58, attributes := #[] }, { accessFlags := 26, nameIndex := 176, descriptorIndex := 177, attributes := #[] }, { accessFlags := 4120, nameIndex := 91, descriptorIndex := 92, attributes := #[] }])
  fields := #[{ name := "POSITIVE_INFINITY", type := .float, accessFlags := 25, slot := 0, constantValue := 0 }, { name := "NEGATIVE_INFINITY", type := .float, accessFlags := 25, slot := 1, constantValue := 0 }, { name := "NaN", type := .float, accessFlags := 25, slot := 2, constantValue := 0 }, { name := "MAX_VALUE", type := .float, accessFlags := 25, slot := 3, constantValue := 0 }, { name := "MIN_NORMAL", type := .float, accessFlags := 25, slot := 4, constantValue := 0 }, { name := "MIN_VALUE", type := .float, accessFlags := 25, slot := 5, constantValue := 0 }, { name := "SIZE", type := .int, accessFlags := 25, slot := 6, constantValue := 0 }, { name := "PRECISION", type := .int, accessFlags := 25, slot := 7, constantValue := 0 }, { name := "MAX_EXPONENT", type := .int, accessFlags := 25, slot := 8, constantValue := 0 }, { name := "MIN_EXPONENT", type := .int, accessFlags := 25, slot := 9, constantValue := 0 }, { name := "BYTES", type := .int, accessFlags := 25, slot := 10, constantValue := 0 }, { name := "TYPE", type := (.object "java/lang/Class"), accessFlags := 25, slot := 11, constantValue := 0 }, { name := "value", type := .float, accessFlags := 18, slot := 0, constantValue := 0 }, { name := "serialVersionUID", type := .long, accessFlags := 26, slot := 12, constantValue := 0 }, { name := "$assertionsDisabled", type := .boolean, accessFlags := 4120, slot := 13, constantValue := 0 }]
  methods := #[k23m0]
  instanceTypes := #[.float]
  staticTypes := #[.float, .float, .float, .float, .float, .float, .int, .int, .int, .int, .int, (.object "java/lang/Class"), .long, .boolean]
  resolved := Array.replicate 279 none
  statics := none }

def pool24 : Array CpInfo := pool [(1, .class_ 2), (0, u "java/lang/Integer"), (16, u "digits"), (0, u "[C"), (32, u "numberOfLeadingZeros"), (0, u "(I)I"), (30, u "DigitOnes"), (0, u "[B"), (2, u "DigitTens"), (99, .class_ 190), (0, u "java/lang/Integer$IntegerCache"), (3, u "I"), (8, .class_ 204), (0, u "java/lang/Number"), (2, u "value"), (56, .integer 65536), (37, u "TYPE"), (0, u "Ljava/lang/Class;"), (0, .class_ 305), (0, u "java/lang/Comparable"), (0, .class_ 307), (0, u "java/lang/constant/Constable"), (0, .class_ 309), (0, u "java/lang/constant/ConstantDesc"), (0, u "MIN_VALUE"), (1, u "MAX_VALUE"), (3, u "SIZE"), (1, u "BYTES"), (1, u "serialVersionUID"), (0, u "J")] 131

def k24c0 : Code := { maxStack := 3, maxLocals := 2, code := jdk_33_method_47_code, exceptionTable := #[], attributes := #[] }
def k24m0 : Method := { name := "numberOfLeadingZeros", desc := "(I)I", sig := { parameters := [.int], returnType := some .int }, accessFlags := 9, code := some k24c0 }
/-- java/lang/Integer -/
def k24 : Class := { plain "java/lang/Integer" (some 19) with
  accessFlags := 49
  interfaces := #[20, 21, 22]
  cf := some (fileOf pool24 1 #[.nestMembers #[189]] #[{ accessFlags := 9, nameIndex := 53, descriptorIndex := 54, attributes := #[] }] 49 203 #[304, 306, 308] #[{ accessFlags := 25, nameIndex := 310, descriptorIndex := 194, attributes := #[] }, { accessFlags := 25, nameIndex := 312, descriptorIndex := 194, attributes := #[] }, { accessFlags := 25, nameIndex := 302, descriptorIndex := 303, attributes := #[] }, { accessFlags := 24, nameIndex := 19, descriptorIndex := 20, attributes := #[] }, { accessFlags := 24, nameIndex := 89, descriptorIndex := 86, attributes := #[] }, { accessFlags := 24, nameIndex := 85, descriptorIndex := 86, attributes := #[] }, { accessFlags := 18, nameIndex := 207, descriptorIndex := 194, attributes := #[] }, { accessFlags := 25, nameIndex := 316, descriptorIndex := 194, attributes := #[] }, { accessFlags := 25, nameIndex := 318, descriptorIndex := 194, attributes := #[] }, { accessFlags := 26, nameIndex := 320, descriptorIndex := 321, attributes := #[] }])
  fields := #[{ name := "MIN_VALUE", type := .int, accessFlags := 25, slot := 0, constantValue := 0 }, { name := "MAX_VALUE", type := .int, accessFlags := 25, slot := 1, constantValue := 0 }, { name := "TYPE", type := (.object "java/lang/Class"), accessFlags := 25, slot := 2, constantValue := 0 }, { name := "digits", type := (.array .char), accessFlags := 24, slot := 3, constantValue := 0 }, { name := "DigitTens", type := (.array .byte), accessFlags := 24, slot := 4, constantValue := 0 }, { name := "DigitOnes", type := (.array .byte), accessFlags := 24, slot := 5, constantValue := 0 }, { name := "value", type := .int, accessFlags := 18, slot := 0, constantValue := 0 }, { name := "SIZE", type := .int, accessFlags := 25, slot := 6, constantValue := 0 }, { name := "BYTES", type := .int, accessFlags := 25, slot := 7, constantValue := 0 }, { name := "serialVersionUID", type := .long, accessFlags := 26, slot := 8, constantValue := 0 }]
  methods := #[k24m0]
  instanceTypes := #[.int]
  staticTypes := #[.int, .int, (.object "java/lang/Class"), (.array .char), (.array .byte), (.array .byte), .int, .int, .long]
  resolved := Array.replicate 453 none
  statics := none }

/-- the primitive byte -/
def k25 : Class := { plain "byte" none with kind := .primitive 'B', accessFlags := 0x411 }
/-- [B -/
def k26 : Class := { plain "[B" (some 0) with kind := .array 25 .byte, interfaces := #[8, 9], accessFlags := 1041 }

/-- the primitive int -/
def k27 : Class := { plain "int" none with kind := .primitive 'I', accessFlags := 0x411 }
/-- [I -/
def k28 : Class := { plain "[I" (some 0) with kind := .array 27 .int, interfaces := #[8, 9], accessFlags := 1041 }

def heap : Heap := #[{ cls := 10, slots := #[.long 0, .ref 1], vm := .statics 10 },
  { cls := 0, slots := #[], vm := .none }]
def classes : Array Class := #[k0, k1, k2, k3, k4, k5, k6, k7, k8, k9, k10, k11, k12, k13, k14, k15, k16, k17, k18, k19, k20, k21, k22, k23, k24, k25, k26, k27, k28]
def interned : List (Array UInt16 × Addr) := []
def slotsUsed : Nat := 2
def theMethod : MethodId := ⟨1, 2⟩
def args0 : Array Value := #[.int 5]
def aboutOver (below : List Frame) : State where
  vm := { classes := classes, interned := interned.toArray }
  heap := heap
  slotsUsed := slotsUsed
  threads := #[{ frames := .invoking theMethod args0 :: below }]
def below0 : List Frame := [.native { method := ⟨0, 0⟩, args := #[] }]
def about1 : State := aboutOver below0
def p0 : Program := .bare "" "" ""
def e0 : Env := launch0.env 0 0 0
theorem w_frames : about1.frames = Frame.invoking theMethod args0 :: below0 := rfl
set_option maxRecDepth 65536 in
theorem w_args : argsFit about1.vm theMethod args0 = true := by decide +kernel
set_option maxRecDepth 65536 in
theorem w_heap : heapFits about1 = true := by decide +kernel
set_option maxRecDepth 65536 in
theorem w_runnable : about1.curStatus? = some .runnable := by decide +kernel
set_option maxRecDepth 65536 in
theorem w_alone : about1.alone = true := by decide +kernel
set_option maxRecDepth 65536 in
theorem w_named : about1.methodNamed? x = some theMethod := by decide +kernel
set_option maxRecDepth 65536 in
theorem w_hears : about1.hears theMethod below0 = true := by decide +kernel
set_option maxRecDepth 65536 in
theorem w_ripe : about1.ripe theMethod args0 below0 = true := by decide +kernel
theorem w_running : about1.status = .running := rfl
set_option maxRecDepth 65536 in
theorem w_room : about1.hasRoom e0.platform room_1 = true :=
  launch0.hasRoom_least _ room_1 (by decide +kernel) (by decide +kernel) (by decide +kernel) (by decide +kernel) (by decide +kernel) (by decide +kernel)
theorem allAtoms_all (ts : List Jvm.Cond) (a : Array Jvm.Value) (st : Jvm.State) : (allAtoms ts).before a st = ts.all (fun c => c.before a st) := by
  induction ts with
  | nil => rfl
  | cons c t ih =>
    show (Jvm.Cond.and c (allAtoms t)).before a st = _
    rw [Jvm.Cond.before_and, ih, List.all_cons]
def words1 : List Jvm.Cond := Jvm.Cond.code x code maxLocals ret :: tables_1
/-- a 'code' word, met by the world's own term for the bytes: nothing is compared byte by byte -/
theorem code_word {y : MethodName} {bytes : ByteArray} {mx : Nat} {rt : Option FieldType} {a : Array Value} {s : State} {m : MethodId} {meth : Method} {c : Code} (h1 : s.methodNamed? y = some m) (h2 : s.vm.method? m = some meth) (h3 : meth.code = some c) (h4 : c.code = bytes)
    (h5 : (c.maxLocals == mx && c.exceptionTable.isEmpty && decide (c.maxStack ≤ mostOperands) && decide (meth.sig.returnType = rt) && !meth.locks && decide (parseMethodDescriptor y.desc = some meth.sig)) = true) : (Jvm.Cond.code y bytes mx rt).before a s = true := by
  simp only [Bool.and_eq_true, beq_iff_eq, Bool.not_eq_true', decide_eq_true_eq] at h5
  obtain ⟨⟨⟨⟨⟨g1, g2⟩, g3⟩, g4⟩, g5⟩, g6⟩ := h5
  simp [Cond.before, Cond.holds, Cond.value, h1, h2, h3, h4, g1, g2, g3, g4, g5, g6]
def isCode : Jvm.Cond → Bool
  | .code _ _ _ _ => true
  | _ => false
theorem all_split {L : List Jvm.Cond} {P : Jvm.Cond → Bool} (h1 : L.all (fun c => isCode c || P c) = true) (h2 : ∀ c ∈ L.filter isCode, P c = true) : L.all P = true := by
  refine List.all_eq_true.mpr fun c hc => ?_
  have h := List.all_eq_true.mp h1 c hc
  rcases Bool.eq_false_or_eq_true (isCode c) with hi | hi
  · exact h2 c (List.mem_filter.mpr ⟨hc, hi⟩)
  · simpa [hi] using h
set_option maxRecDepth 65536 in
theorem w_c0 : (Jvm.Cond.code x code maxLocals ret).before args0 about1 = true := code_word (m := ⟨1, 2⟩) (meth := k1m2) (c := k1c2) (by decide +kernel) rfl rfl rfl (by decide +kernel)
set_option maxRecDepth 65536 in
theorem w_c1 : (Jvm.Cond.code ({ cls := "com/example/svyazka/svyazka/http/Connections", name := "<init>", desc := "()V" } : Jvm.MethodName) prog_12_method_1_code (1 : Nat) (Option.none : Option Jvm.ClassFile.FieldType)).before args0 about1 = true := code_word (m := ⟨2, 0⟩) (meth := k2m0) (c := k2c0) (by decide +kernel) rfl rfl rfl (by decide +kernel)
set_option maxRecDepth 65536 in
theorem w_c2 : (Jvm.Cond.code ({ cls := "java/lang/Object", name := "<init>", desc := "()V" } : Jvm.MethodName) object_method_1_code (1 : Nat) (Option.none : Option Jvm.ClassFile.FieldType)).before args0 about1 = true := code_word (m := ⟨0, 0⟩) (meth := k0m0) (c := k0c0) (by decide +kernel) rfl rfl rfl (by decide +kernel)
set_option maxRecDepth 65536 in
theorem w_c3 : (Jvm.Cond.code ({ cls := "java/util/LinkedHashSet", name := "<init>", desc := "()V" } : Jvm.MethodName) jdk_2620_method_3_code (1 : Nat) (Option.none : Option Jvm.ClassFile.FieldType)).before args0 about1 = true := code_word (m := ⟨13, 0⟩) (meth := k13m0) (c := k13c0) (by decide +kernel) rfl rfl rfl (by decide +kernel)
set_option maxRecDepth 65536 in
theorem w_c4 : (Jvm.Cond.code ({ cls := "java/util/HashSet", name := "<init>", desc := "(IFZ)V" } : Jvm.MethodName) jdk_93_method_5_code (4 : Nat) (Option.none : Option Jvm.ClassFile.FieldType)).before args0 about1 = true := code_word (m := ⟨10, 1⟩) (meth := k10m1) (c := k10c1) (by decide +kernel) rfl rfl rfl (by decide +kernel)
set_option maxRecDepth 65536 in
theorem w_c5 : (Jvm.Cond.code ({ cls := "java/util/AbstractSet", name := "<init>", desc := "()V" } : Jvm.MethodName) jdk_91_method_1_code (1 : Nat) (Option.none : Option Jvm.ClassFile.FieldType)).before args0 about1 = true := code_word (m := ⟨7, 0⟩) (meth := k7m0) (c := k7c0) (by decide +kernel) rfl rfl rfl (by decide +kernel)
set_option maxRecDepth 65536 in
theorem w_c6 : (Jvm.Cond.code ({ cls := "java/util/AbstractCollection", name := "<init>", desc := "()V" } : Jvm.MethodName) jdk_22_method_1_code (1 : Nat) (Option.none : Option Jvm.ClassFile.FieldType)).before args0 about1 = true := code_word (m := ⟨5, 0⟩) (meth := k5m0) (c := k5c0) (by decide +kernel) rfl rfl rfl (by decide +kernel)
set_option maxRecDepth 65536 in
theorem w_c7 : (Jvm.Cond.code ({ cls := "java/util/LinkedHashMap", name := "<init>", desc := "(IF)V" } : Jvm.MethodName) jdk_94_method_14_code (3 : Nat) (Option.none : Option Jvm.ClassFile.FieldType)).before args0 about1 = true := code_word (m := ⟨18, 0⟩) (meth := k18m0) (c := k18c0) (by decide +kernel) rfl rfl rfl (by decide +kernel)
set_option maxRecDepth 65536 in
theorem w_c8 : (Jvm.Cond.code ({ cls := "java/util/HashMap", name := "<init>", desc := "(IF)V" } : Jvm.MethodName) jdk_69_method_5_code (3 : Nat) (Option.none : Option Jvm.ClassFile.FieldType)).before args0 about1 = true := code_word (m := ⟨16, 2⟩) (meth := k16m2) (c := k16c2) (by decide +kernel) rfl rfl rfl (by decide +kernel)
set_option maxRecDepth 65536 in
theorem w_c9 : (Jvm.Cond.code ({ cls := "java/util/AbstractMap", name := "<init>", desc := "()V" } : Jvm.MethodName) jdk_71_method_1_code (1 : Nat) (Option.none : Option Jvm.ClassFile.FieldType)).before args0 about1 = true := code_word (m := ⟨15, 0⟩) (meth := k15m0) (c := k15c0) (by decide +kernel) rfl rfl rfl (by decide +kernel)
set_option maxRecDepth 65536 in
theorem w_c10 : (Jvm.Cond.code ({ cls := "java/lang/Float", name := "isNaN", desc := "(F)Z" } : Jvm.MethodName) jdk_118_method_6_code (1 : Nat) (Option.some Jvm.ClassFile.FieldType.boolean)).before args0 about1 = true := code_word (m := ⟨23, 0⟩) (meth := k23m0) (c := k23c0) (by decide +kernel) rfl rfl rfl (by decide +kernel)
set_option maxRecDepth 65536 in
theorem w_c11 : (Jvm.Cond.code ({ cls := "java/util/HashMap", name := "tableSizeFor", desc := "(I)I" } : Jvm.MethodName) jdk_69_method_4_code (2 : Nat) (Option.some Jvm.ClassFile.FieldType.int)).before args0 about1 = true := code_word (m := ⟨16, 1⟩) (meth := k16m1) (c := k16c1) (by decide +kernel) rfl rfl rfl (by decide +kernel)
set_option maxRecDepth 65536 in
theorem w_c12 : (Jvm.Cond.code ({ cls := "java/lang/Integer", name := "numberOfLeadingZeros", desc := "(I)I" } : Jvm.MethodName) jdk_33_method_47_code (2 : Nat) (Option.some Jvm.ClassFile.FieldType.int)).before args0 about1 = true := code_word (m := ⟨24, 0⟩) (meth := k24m0) (c := k24c0) (by decide +kernel) rfl rfl rfl (by decide +kernel)
set_option maxRecDepth 65536 in
theorem w_c13 : (Jvm.Cond.code ({ cls := "com/example/svyazka/svyazka/http/Connections", name := "closing", desc := "()Z" } : Jvm.MethodName) prog_12_method_8_code (1 : Nat) (Option.some Jvm.ClassFile.FieldType.boolean)).before args0 about1 = true := code_word (m := ⟨2, 3⟩) (meth := k2m3) (c := k2c3) (by decide +kernel) rfl rfl rfl (by decide +kernel)
set_option maxRecDepth 65536 in
theorem w_c14 : (Jvm.Cond.code ({ cls := "com/example/svyazka/svyazka/http/ConnectionsClosingPinLaw", name := "closeTimes", desc := "(Lcom/example/svyazka/svyazka/http/Connections;I)V" } : Jvm.MethodName) method_2_code (2 : Nat) (Option.none : Option Jvm.ClassFile.FieldType)).before args0 about1 = true := code_word (m := ⟨1, 1⟩) (meth := k1m1) (c := k1c1) (by decide +kernel) rfl rfl rfl (by decide +kernel)
set_option maxRecDepth 65536 in
theorem w_c15 : (Jvm.Cond.code ({ cls := "com/example/svyazka/svyazka/http/Connections", name := "closed", desc := "(Lcom/example/svyazka/svyazka/http/Connection;)V" } : Jvm.MethodName) prog_12_method_5_code (2 : Nat) (Option.none : Option Jvm.ClassFile.FieldType)).before args0 about1 = true := code_word (m := ⟨2, 1⟩) (meth := k2m1) (c := k2c1) (by decide +kernel) rfl rfl rfl (by decide +kernel)
set_option maxRecDepth 65536 in
theorem w_c16 : (Jvm.Cond.code ({ cls := "java/util/HashSet", name := "remove", desc := "(Ljava/lang/Object;)Z" } : Jvm.MethodName) jdk_93_method_11_code (2 : Nat) (Option.some Jvm.ClassFile.FieldType.boolean)).before args0 about1 = true := code_word (m := ⟨10, 2⟩) (meth := k10m2) (c := k10c2) (by decide +kernel) rfl rfl rfl (by decide +kernel)
set_option maxRecDepth 65536 in
theorem w_c17 : (Jvm.Cond.code ({ cls := "java/util/HashMap", name := "remove", desc := "(Ljava/lang/Object;)Ljava/lang/Object;" } : Jvm.MethodName) jdk_69_method_20_code (3 : Nat) (Option.some (Jvm.ClassFile.FieldType.object "java/lang/Object"))).before args0 about1 = true := code_word (m := ⟨16, 4⟩) (meth := k16m4) (c := k16c4) (by decide +kernel) rfl rfl rfl (by decide +kernel)
set_option maxRecDepth 65536 in
theorem w_c18 : (Jvm.Cond.code ({ cls := "java/util/HashMap", name := "hash", desc := "(Ljava/lang/Object;)I" } : Jvm.MethodName) jdk_69_method_1_code (2 : Nat) (Option.some Jvm.ClassFile.FieldType.int)).before args0 about1 = true := code_word (m := ⟨16, 0⟩) (meth := k16m0) (c := k16c0) (by decide +kernel) rfl rfl rfl (by decide +kernel)
set_option maxRecDepth 65536 in
theorem w_c19 : (Jvm.Cond.code ({ cls := "java/util/HashMap", name := "removeNode", desc := "(ILjava/lang/Object;Ljava/lang/Object;ZZ)Ljava/util/HashMap$Node;" } : Jvm.MethodName) jdk_69_method_21_code (14 : Nat) (Option.some (Jvm.ClassFile.FieldType.object "java/util/HashMap$Node"))).before args0 about1 = true := code_word (m := ⟨16, 5⟩) (meth := k16m5) (c := k16c5) (by decide +kernel) rfl rfl rfl (by decide +kernel)
set_option maxRecDepth 65536 in
theorem w_c20 : (Jvm.Cond.code ({ cls := "com/example/svyazka/svyazka/http/Connections", name := "waited", desc := "()V" } : Jvm.MethodName) prog_12_method_6_code (1 : Nat) (Option.none : Option Jvm.ClassFile.FieldType)).before args0 about1 = true := code_word (m := ⟨2, 2⟩) (meth := k2m2) (c := k2c2) (by decide +kernel) rfl rfl rfl (by decide +kernel)
def codes1 : List Jvm.Cond := [Jvm.Cond.code x code maxLocals ret, Jvm.Cond.code ({ cls := "com/example/svyazka/svyazka/http/Connections", name := "<init>", desc := "()V" } : Jvm.MethodName) prog_12_method_1_code (1 : Nat) (Option.none : Option Jvm.ClassFile.FieldType), Jvm.Cond.code ({ cls := "java/lang/Object", name := "<init>", desc := "()V" } : Jvm.MethodName) object_method_1_code (1 : Nat) (Option.none : Option Jvm.ClassFile.FieldType), Jvm.Cond.code ({ cls := "java/util/LinkedHashSet", name := "<init>", desc := "()V" } : Jvm.MethodName) jdk_2620_method_3_code (1 : Nat) (Option.none : Option Jvm.ClassFile.FieldType), Jvm.Cond.code ({ cls := "java/util/HashSet", name := "<init>", desc := "(IFZ)V" } : Jvm.MethodName) jdk_93_method_5_code (4 : Nat) (Option.none : Option Jvm.ClassFile.FieldType), Jvm.Cond.code ({ cls := "java/util/AbstractSet", name := "<init>", desc := "()V" } : Jvm.MethodName) jdk_91_method_1_code (1 : Nat) (Option.none : Option Jvm.ClassFile.FieldType), Jvm.Cond.code ({ cls := "java/util/AbstractCollection", name := "<init>", desc := "()V" } : Jvm.MethodName) jdk_22_method_1_code (1 : Nat) (Option.none : Option Jvm.ClassFile.FieldType), Jvm.Cond.code ({ cls := "java/util/LinkedHashMap", name := "<init>", desc := "(IF)V" } : Jvm.MethodName) jdk_94_method_14_code (3 : Nat) (Option.none : Option Jvm.ClassFile.FieldType), Jvm.Cond.code ({ cls := "java/util/HashMap", name := "<init>", desc := "(IF)V" } : Jvm.MethodName) jdk_69_method_5_code (3 : Nat) (Option.none : Option Jvm.ClassFile.FieldType), Jvm.Cond.code ({ cls := "java/util/AbstractMap", name := "<init>", desc := "()V" } : Jvm.MethodName) jdk_71_method_1_code (1 : Nat) (Option.none : Option Jvm.ClassFile.FieldType), Jvm.Cond.code ({ cls := "java/lang/Float", name := "isNaN", desc := "(F)Z" } : Jvm.MethodName) jdk_118_method_6_code (1 : Nat) (Option.some Jvm.ClassFile.FieldType.boolean), Jvm.Cond.code ({ cls := "java/util/HashMap", name := "tableSizeFor", desc := "(I)I" } : Jvm.MethodName) jdk_69_method_4_code (2 : Nat) (Option.some Jvm.ClassFile.FieldType.int), Jvm.Cond.code ({ cls := "java/lang/Integer", name := "numberOfLeadingZeros", desc := "(I)I" } : Jvm.MethodName) jdk_33_method_47_code (2 : Nat) (Option.some Jvm.ClassFile.FieldType.int), Jvm.Cond.code ({ cls := "com/example/svyazka/svyazka/http/Connections", name := "closing", desc := "()Z" } : Jvm.MethodName) prog_12_method_8_code (1 : Nat) (Option.some Jvm.ClassFile.FieldType.boolean), Jvm.Cond.code ({ cls := "com/example/svyazka/svyazka/http/ConnectionsClosingPinLaw", name := "closeTimes", desc := "(Lcom/example/svyazka/svyazka/http/Connections;I)V" } : Jvm.MethodName) method_2_code (2 : Nat) (Option.none : Option Jvm.ClassFile.FieldType), Jvm.Cond.code ({ cls := "com/example/svyazka/svyazka/http/Connections", name := "closed", desc := "(Lcom/example/svyazka/svyazka/http/Connection;)V" } : Jvm.MethodName) prog_12_method_5_code (2 : Nat) (Option.none : Option Jvm.ClassFile.FieldType), Jvm.Cond.code ({ cls := "java/util/HashSet", name := "remove", desc := "(Ljava/lang/Object;)Z" } : Jvm.MethodName) jdk_93_method_11_code (2 : Nat) (Option.some Jvm.ClassFile.FieldType.boolean), Jvm.Cond.code ({ cls := "java/util/HashMap", name := "remove", desc := "(Ljava/lang/Object;)Ljava/lang/Object;" } : Jvm.MethodName) jdk_69_method_20_code (3 : Nat) (Option.some (Jvm.ClassFile.FieldType.object "java/lang/Object")), Jvm.Cond.code ({ cls := "java/util/HashMap", name := "hash", desc := "(Ljava/lang/Object;)I" } : Jvm.MethodName) jdk_69_method_1_code (2 : Nat) (Option.some Jvm.ClassFile.FieldType.int), Jvm.Cond.code ({ cls := "java/util/HashMap", name := "removeNode", desc := "(ILjava/lang/Object;Ljava/lang/Object;ZZ)Ljava/util/HashMap$Node;" } : Jvm.MethodName) jdk_69_method_21_code (14 : Nat) (Option.some (Jvm.ClassFile.FieldType.object "java/util/HashMap$Node")), Jvm.Cond.code ({ cls := "com/example/svyazka/svyazka/http/Connections", name := "waited", desc := "()V" } : Jvm.MethodName) prog_12_method_6_code (1 : Nat) (Option.none : Option Jvm.ClassFile.FieldType)]
set_option maxRecDepth 65536 in
theorem codes_eq : words1.filter isCode = codes1 := rfl
theorem w_codes : ∀ c ∈ words1.filter isCode, c.before args0 about1 = true := by
  rw [codes_eq]
  intro c hc
  simp only [codes1, List.mem_cons, List.not_mem_nil, or_false] at hc
  rcases hc with rfl | rfl | rfl | rfl | rfl | rfl | rfl | rfl | rfl | rfl | rfl | rfl | rfl | rfl | rfl | rfl | rfl | rfl | rfl | rfl | rfl
  · exact w_c0
  · exact w_c1
  · exact w_c2
  · exact w_c3
  · exact w_c4
  · exact w_c5
  · exact w_c6
  · exact w_c7
  · exact w_c8
  · exact w_c9
  · exact w_c10
  · exact w_c11
  · exact w_c12
  · exact w_c13
  · exact w_c14
  · exact w_c15
  · exact w_c16
  · exact w_c17
  · exact w_c18
  · exact w_c19
  · exact w_c20
set_option maxRecDepth 65536 in
theorem w_t1 : (words1.take 24).all (fun c => isCode c || c.before args0 about1) = true := by decide +kernel
set_option maxRecDepth 65536 in
theorem w_t2 : ((words1.drop 24).take 24).all (fun c => isCode c || c.before args0 about1) = true := by decide +kernel
set_option maxRecDepth 65536 in
theorem w_t3 : (((words1.drop 24).drop 24).take 24).all (fun c => isCode c || c.before args0 about1) = true := by decide +kernel
set_option maxRecDepth 65536 in
theorem w_t4 : ((((words1.drop 24).drop 24).drop 24).take 24).all (fun c => isCode c || c.before args0 about1) = true := by decide +kernel
set_option maxRecDepth 65536 in
theorem w_t5 : (((((words1.drop 24).drop 24).drop 24).drop 24).take 24).all (fun c => isCode c || c.before args0 about1) = true := by decide +kernel
set_option maxRecDepth 65536 in
theorem w_t6 : (((((words1.drop 24).drop 24).drop 24).drop 24).drop 24).all (fun c => isCode c || c.before args0 about1) = true := by decide +kernel
theorem w_tables : (allAtoms (Jvm.Cond.code x code maxLocals ret :: tables_1)).before args0 about1 = true := by
  rw [allAtoms_all]
  show words1.all (fun c => c.before args0 about1) = true
  refine all_split ?_ w_codes
  rw [← List.take_append_drop 24 words1, List.all_append, w_t1, ← List.take_append_drop 24 (words1.drop 24), List.all_append, w_t2, ← List.take_append_drop 24 ((words1.drop 24).drop 24), List.all_append, w_t3, ← List.take_append_drop 24 (((words1.drop 24).drop 24).drop 24), List.all_append, w_t4, ← List.take_append_drop 24 ((((words1.drop 24).drop 24).drop 24).drop 24), List.all_append, w_t5, w_t6]
  rfl
set_option maxRecDepth 65536 in
theorem w_rest : rest_1_c.before args0 about1 = true := by decide +kernel
set_option maxRecDepth 65536 in
theorem w_case : (Jvm.Cond.and given_1 narrow_1).before args0 about1 = true := by decide +kernel
theorem w_applies : (headSpec (Jvm.Cond.code x code maxLocals ret :: tables_1) room_1).applies x e0.platform about1 = true :=
  (Spec.applies_iff w_frames).mpr ⟨w_running, w_runnable, w_alone, w_named, w_hears, w_ripe, w_room, w_tables⟩
theorem atStart : AtStart classFile x code maxLocals ret World_1 tables_1 room_1 Calls_1 rest_1 Pre_1 launch0 p0 e0 about1 theMethod args0 below0 :=
  ⟨lists_1, trivial, launch0.admits_env _ _ _, launch0.least_env, fairChoices_fair.cas, fairChoices_fair.clock, w_frames, w_args, w_heap, w_applies, trivial, w_rest, w_case⟩
end start1
theorem witness_1 : WitnessClaimed_1 := ⟨start1.p0, start1.e0, start1.about1, start1.theMethod, start1.args0, start1.below0, start1.atStart⟩
end Jvm.Pilot.@@N@@
