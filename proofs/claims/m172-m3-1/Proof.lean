import JvmDerived
import JvmDerived.Pilot.@@N@@Statement
import JvmDerived.Pilot.@@N@@Code
set_option linter.unusedVariables false
set_option linter.unusedSimpArgs false
@@BLOCK:NumsL.lean.txt@@
namespace Jvm.RoadKit
open Sem ClassFile Op Lib Jvm.Stand Jvm.Free Jvm.LawKit
section Own
variable {p : Program} {l : Launch} {e : Env} {R : Room} {s : State} {m : MethodId} {args : Array Value} {below : List Frame} {meth : Method} {c : Code} {T : State} {locs : List Loc} {cells slots : Nat}
def own_Go (p : Program) (e : Env) (below : List Frame) (F : Outcome → State → Prop) (U : State) : Prop := ∃ s₂ o, Steps p.tables e below U s₂ ∧ s₂.status = .running ∧ Ended s₂ below o ∧ F o s₂
def own_Fin (s : State) (C S : Nat) (Q : Option Value → Heap → List Loc → Prop) (o : Outcome) (U' : State) : Prop := ∃ v L, o = .returned v ∧ Q v U'.heap L ∧ FrameEnd s o U' L C S
theorem own_go {F : Outcome → State → Prop} {U U' : State} (h : ∀ t, Steps p.tables e below U' t → Steps p.tables e below U t) (g : own_Go p e below F U') : own_Go p e below F U := by
  obtain ⟨s₂, o, h1, h2⟩ := g
  exact ⟨s₂, o, h _ h1, h2⟩
theorem own_cast {F : Outcome → State → Prop} {g g' : JFrame} (q : g = g') (k : own_Go p e below F (T.setTop g')) : own_Go p e below F (T.setTop g) := q ▸ k
theorem own_ret (X : Stand p l e R s m args below meth c T locs cells slots) (hx : p.tables.exec = Jvm.exec) (hlk : meth.locks = false) {pc : Nat} {Ls : Array Slot} {w : Value} {t : FieldType} {i : Instr} {rest : List Value} (hret : meth.sig.returnType = some t) (hn : narrow t w = w)
    (hi : (i = .ireturn ∧ (t = .int ∨ t = .boolean ∨ t = .byte ∨ t = .char ∨ t = .short) ∧ ∃ z, w = .int z) ∨ (i = .lreturn ∧ t = .long ∧ ∃ z, w = .long z) ∨ (i = .dreturn ∧ t = .double ∧ ∃ z, w = .double z) ∨ (i = .freturn ∧ t = .float ∧ ∃ z, w = .float z) ∨ (i = .areturn ∧ t.isReference = true ∧ w.isRef = true))
    (hd : decode c.code pc = .ok (i, 1)) {Q : Option Value → Heap → List Loc → Prop} (hQ : Q (some w) T.heap locs) {C S : Nat} (hc : cells ≤ C) (hs : slots ≤ S) : own_Go p e below (own_Fin s C S Q) (T.setTop (mkF m pc Ls (w :: rest))) := by
  obtain ⟨fs, hr, hrun, hended, hW, hsame⟩ := X.leave (v := some w) (fun h => by rw [hret] at h; cases h) hlk
  exact ⟨_, _, retOut X hx hret hn hi hd hr, hrun, hended, _, _, rfl, hQ, ⟨_, rfl⟩, hW, hsame.mono hc hs⟩
theorem own_retN (X : Stand p l e R s m args below meth c T locs cells slots) (hx : p.tables.exec = Jvm.exec) (hlk : meth.locks = false) {pc : Nat} {Ls : Array Slot} {z : Int32} {t : FieldType} {rest : List Value} (hret : meth.sig.returnType = some t) (ht : t = .boolean ∨ t = .byte ∨ t = .char ∨ t = .short)
    (hd : decode c.code pc = .ok (.ireturn, 1)) {Q : Option Value → Heap → List Loc → Prop} (hQ : Q (some (.int (nar t z))) T.heap locs) {C S : Nat} (hc : cells ≤ C) (hs : slots ≤ S) : own_Go p e below (own_Fin s C S Q) (T.setTop (mkF m pc Ls (.int z :: rest))) := by
  obtain ⟨fs, hr, hrun, hended, hW, hsame⟩ := X.leave (v := some (.int (nar t z))) (fun h => by rw [hret] at h; cases h) hlk
  exact ⟨_, _, retN X hx hret ht hd hr, hrun, hended, _, _, rfl, hQ, ⟨_, rfl⟩, hW, hsame.mono hc hs⟩
theorem own_retV (X : Stand p l e R s m args below meth c T locs cells slots) (hx : p.tables.exec = Jvm.exec) (hlk : meth.locks = false) {pc : Nat} {Ls : Array Slot} (hret : meth.sig.returnType = none)
    (hd : decode c.code pc = .ok (.return_, 1)) {Q : Option Value → Heap → List Loc → Prop} (hQ : Q none T.heap locs) {C S : Nat} (hc : cells ≤ C) (hs : slots ≤ S) : own_Go p e below (own_Fin s C S Q) (T.setTop (mkF m pc Ls [])) := by
  obtain ⟨fs, hr, hrun, hended, hW, hsame⟩ := X.leave (v := none) (fun _ => rfl) hlk
  exact ⟨_, _, X.returnOut hx hret hd hr, hrun, hended, _, _, rfl, hQ, ⟨_, rfl⟩, hW, hsame.mono hc hs⟩
def own_FinW (s : State) (C S : Nat) (Q : Option Value → Heap → List Loc → Prop) (o : Outcome) (U' : State) : Prop := ∃ v L, o = .returned v ∧ Q v U'.heap L ∧ ReturnedEndW s o U' L C S
theorem own_monoW {t : State} {o : Outcome} {L : List Loc} {k n C S : Nat} (h : ReturnedEndW s o t L k n) (hc : k ≤ C) (hs : n ≤ S) : ReturnedEndW s o t L C S := ⟨h.1, h.2.1, h.2.2.1, h.2.2.2.mono hc hs⟩
theorem own_retW {vm₁ : Vm} (X : Stand p l e R (s.setVm vm₁) m args below meth c T locs cells slots) (hx : p.tables.exec = Jvm.exec) {n : Nat} (hS : s.Since vm₁ n) (hk : n ≤ T.heap.size) (hlk : meth.locks = false) {pc : Nat} {Ls : Array Slot} {w : Value} {t : FieldType} {i : Instr} {rest : List Value} (hret : meth.sig.returnType = some t) (hn : narrow t w = w)
    (hi : (i = .ireturn ∧ (t = .int ∨ t = .boolean ∨ t = .byte ∨ t = .char ∨ t = .short) ∧ ∃ z, w = .int z) ∨ (i = .lreturn ∧ t = .long ∧ ∃ z, w = .long z) ∨ (i = .dreturn ∧ t = .double ∧ ∃ z, w = .double z) ∨ (i = .freturn ∧ t = .float ∧ ∃ z, w = .float z) ∨ (i = .areturn ∧ t.isReference = true ∧ w.isRef = true))
    (hd : decode c.code pc = .ok (i, 1)) {Q : Option Value → Heap → List Loc → Prop} (hQ : Q (some w) T.heap locs) {C S : Nat} (hc : cells ≤ C) (hs : slots ≤ S) : own_Go p e below (own_FinW s C S Q) (T.setTop (mkF m pc Ls (w :: rest))) := by
  obtain ⟨fs, hr, hrun, hended, hW⟩ := X.leaveW hS hk (v := some w) (fun h => by rw [hret] at h; cases h) hlk
  exact ⟨_, _, retOut X hx hret hn hi hd hr, hrun, hended, _, _, rfl, hQ, own_monoW hW hc hs⟩
theorem own_retNW {vm₁ : Vm} (X : Stand p l e R (s.setVm vm₁) m args below meth c T locs cells slots) (hx : p.tables.exec = Jvm.exec) {n : Nat} (hS : s.Since vm₁ n) (hk : n ≤ T.heap.size) (hlk : meth.locks = false) {pc : Nat} {Ls : Array Slot} {z : Int32} {t : FieldType} {rest : List Value} (hret : meth.sig.returnType = some t) (ht : t = .boolean ∨ t = .byte ∨ t = .char ∨ t = .short)
    (hd : decode c.code pc = .ok (.ireturn, 1)) {Q : Option Value → Heap → List Loc → Prop} (hQ : Q (some (.int (nar t z))) T.heap locs) {C S : Nat} (hc : cells ≤ C) (hs : slots ≤ S) : own_Go p e below (own_FinW s C S Q) (T.setTop (mkF m pc Ls (.int z :: rest))) := by
  obtain ⟨fs, hr, hrun, hended, hW⟩ := X.leaveW hS hk (v := some (.int (nar t z))) (fun h => by rw [hret] at h; cases h) hlk
  exact ⟨_, _, retN X hx hret ht hd hr, hrun, hended, _, _, rfl, hQ, own_monoW hW hc hs⟩
theorem own_retVW {vm₁ : Vm} (X : Stand p l e R (s.setVm vm₁) m args below meth c T locs cells slots) (hx : p.tables.exec = Jvm.exec) {n : Nat} (hS : s.Since vm₁ n) (hk : n ≤ T.heap.size) (hlk : meth.locks = false) {pc : Nat} {Ls : Array Slot} (hret : meth.sig.returnType = none)
    (hd : decode c.code pc = .ok (.return_, 1)) {Q : Option Value → Heap → List Loc → Prop} (hQ : Q none T.heap locs) {C S : Nat} (hc : cells ≤ C) (hs : slots ≤ S) : own_Go p e below (own_FinW s C S Q) (T.setTop (mkF m pc Ls [])) := by
  obtain ⟨fs, hr, hrun, hended, hW⟩ := X.leaveW hS hk (v := none) (fun _ => rfl) hlk
  exact ⟨_, _, X.returnOut hx hret hd hr, hrun, hended, _, _, rfl, hQ, own_monoW hW hc hs⟩
def own_FinH (Z : State) (EL : List (String × Nat)) (s : State) (C S : Nat) (Q : Option Value → Heap → List Loc → Prop) (o : Outcome) (U' : State) : Prop := ∃ v L, o = .returned v ∧ Q v U'.heap L ∧ CHr Z EL s.vm s.heap U'.vm U'.heap ∧ ReturnedEndW s o U' L C S
theorem own_retH {Z : State} {EL : List (String × Nat)} {vm₁ : Vm} (X : Stand p l e R (s.setVm vm₁) m args below meth c T locs cells slots) (hx : p.tables.exec = Jvm.exec) {n : Nat} (hS : s.Since vm₁ n) (hk : n ≤ T.heap.size) (hC : CHr Z EL s.vm s.heap T.vm T.heap) (hlk : meth.locks = false) {pc : Nat} {Ls : Array Slot} {w : Value} {t : FieldType} {i : Instr} {rest : List Value} (hret : meth.sig.returnType = some t) (hn : narrow t w = w)
    (hi : (i = .ireturn ∧ (t = .int ∨ t = .boolean ∨ t = .byte ∨ t = .char ∨ t = .short) ∧ ∃ z, w = .int z) ∨ (i = .lreturn ∧ t = .long ∧ ∃ z, w = .long z) ∨ (i = .dreturn ∧ t = .double ∧ ∃ z, w = .double z) ∨ (i = .freturn ∧ t = .float ∧ ∃ z, w = .float z) ∨ (i = .areturn ∧ t.isReference = true ∧ w.isRef = true))
    (hd : decode c.code pc = .ok (i, 1)) {Q : Option Value → Heap → List Loc → Prop} (hQ : Q (some w) T.heap locs) {C S : Nat} (hc : cells ≤ C) (hs : slots ≤ S) : own_Go p e below (own_FinH Z EL s C S Q) (T.setTop (mkF m pc Ls (w :: rest))) := by
  obtain ⟨fs, hr, hrun, hended, hW⟩ := X.leaveW hS hk (v := some w) (fun h => by rw [hret] at h; cases h) hlk
  exact ⟨_, _, retOut X hx hret hn hi hd hr, hrun, hended, _, _, rfl, hQ, hC, own_monoW hW hc hs⟩
theorem own_retNH {Z : State} {EL : List (String × Nat)} {vm₁ : Vm} (X : Stand p l e R (s.setVm vm₁) m args below meth c T locs cells slots) (hx : p.tables.exec = Jvm.exec) {n : Nat} (hS : s.Since vm₁ n) (hk : n ≤ T.heap.size) (hC : CHr Z EL s.vm s.heap T.vm T.heap) (hlk : meth.locks = false) {pc : Nat} {Ls : Array Slot} {z : Int32} {t : FieldType} {rest : List Value} (hret : meth.sig.returnType = some t) (ht : t = .boolean ∨ t = .byte ∨ t = .char ∨ t = .short)
    (hd : decode c.code pc = .ok (.ireturn, 1)) {Q : Option Value → Heap → List Loc → Prop} (hQ : Q (some (.int (nar t z))) T.heap locs) {C S : Nat} (hc : cells ≤ C) (hs : slots ≤ S) : own_Go p e below (own_FinH Z EL s C S Q) (T.setTop (mkF m pc Ls (.int z :: rest))) := by
  obtain ⟨fs, hr, hrun, hended, hW⟩ := X.leaveW hS hk (v := some (.int (nar t z))) (fun h => by rw [hret] at h; cases h) hlk
  exact ⟨_, _, retN X hx hret ht hd hr, hrun, hended, _, _, rfl, hQ, hC, own_monoW hW hc hs⟩
theorem own_retVH {Z : State} {EL : List (String × Nat)} {vm₁ : Vm} (X : Stand p l e R (s.setVm vm₁) m args below meth c T locs cells slots) (hx : p.tables.exec = Jvm.exec) {n : Nat} (hS : s.Since vm₁ n) (hk : n ≤ T.heap.size) (hC : CHr Z EL s.vm s.heap T.vm T.heap) (hlk : meth.locks = false) {pc : Nat} {Ls : Array Slot} (hret : meth.sig.returnType = none)
    (hd : decode c.code pc = .ok (.return_, 1)) {Q : Option Value → Heap → List Loc → Prop} (hQ : Q none T.heap locs) {C S : Nat} (hc : cells ≤ C) (hs : slots ≤ S) : own_Go p e below (own_FinH Z EL s C S Q) (T.setTop (mkF m pc Ls [])) := by
  obtain ⟨fs, hr, hrun, hended, hW⟩ := X.leaveW hS hk (v := none) (fun _ => rfl) hlk
  exact ⟨_, _, X.returnOut hx hret hd hr, hrun, hended, _, _, rfl, hQ, hC, own_monoW hW hc hs⟩
theorem own_safe_null {Z : State} {EL : List (String × Nat)} {vm : Vm} {h : Heap} {x : Addr} (hal : Z.vm.Alike vm) (E : Exa Z h x "java/lang/String") (F : Fld Z h x "java/lang/String" "value" "[B" .null) : Safe Z EL vm h x := fun B => by
  obtain ⟨p, -, u, a, -, q, -, G, rfl | rfl⟩ := B
  · obtain ⟨cell, cf, k, i, f, f1, f2, -, -, -, -, f7⟩ := F
    cases (show h[q.sa]? = some q.sC from G.ha).symm.trans f1
    obtain ⟨cS, ⟨⟨-, -, -, ⟨cv, kv, iv, s4, -⟩, -, -, -, s8, -⟩, -⟩, -⟩ := G
    obtain ⟨k', hi, -⟩ := State.fieldFound?_setVm (s := Z) hal f2
    have s4' : (Z.setVm vm).fieldFound? "java/lang/String" "value" "[B" = some (cv, kv, iv, q.fSV) := s4
    cases hi.symm.trans s4'
    rw [f7] at s8
    cases s8
  · obtain ⟨cell, k, e1, e2, e3, -, -⟩ := E
    cases (show h[q.sd]? = some q.SA from G.hd).symm.trans e1
    obtain ⟨cS, -, -, f, -⟩ := G
    have f' : vm.findClass "[B" = some q.SA.cls := f
    rw [hal.findClass] at f'
    obtain ⟨k1, q1, q2⟩ := Vm.findClass_spec f'
    obtain ⟨k2, q3, q4⟩ := Vm.findClass_spec e2
    cases q1.symm.trans q3
    exact absurd (q2.symm.trans q4) (by decide)
def own_Met (l : Launch) (Z : State) (y : MethodName) (bytes : ByteArray) (maxL : Nat) (ret : Option FieldType) (ws : List Jvm.Cond) (rm : Room) (as : Array Value) (h0 : Heap) (Q : Option Value → Heap → List Loc → Prop) : Prop :=
  MetFree l y (head1 (Jvm.Cond.code y bytes maxL ret :: ws) rm) (fun a U => a = as ∧ Z.Warmed39 U.vm ∧ U.heap = h0) (fun _ _ _ _ _ => True) (fun _ U o U' => ∃ v L, o = .returned v ∧ Q v U'.heap L ∧ FrameEnd U o U' L rm.cells rm.slots)
def own_MetW (l : Launch) (Z : State) (y : MethodName) (bytes : ByteArray) (maxL : Nat) (ret : Option FieldType) (ws : List Jvm.Cond) (rm : Room) (as : Array Value) (h0 : Heap) (Q : Option Value → Heap → List Loc → Prop) : Prop :=
  MetFree l y (head1 (Jvm.Cond.code y bytes maxL ret :: ws) rm) (fun a U => a = as ∧ Z.Warmed39 U.vm ∧ U.heap = h0) (fun _ _ _ _ _ => True) (fun _ U o U' => ∃ v L, o = .returned v ∧ Q v U'.heap L ∧ ReturnedEndW U o U' L rm.cells rm.slots)
def own_MetH (l : Launch) (Z : State) (EL : List (String × Nat)) (y : MethodName) (bytes : ByteArray) (maxL : Nat) (ret : Option FieldType) (ws : List Jvm.Cond) (rm : Room) (as : Array Value) (h0 : Heap) (Q : Option Value → Heap → List Loc → Prop) : Prop :=
  MetFree l y (head1 (Jvm.Cond.code y bytes maxL ret :: ws) rm) (fun a U => a = as ∧ Z.Warmed39 U.vm ∧ U.heap = h0 ∧ CHv Z EL U.vm h0) (fun _ _ _ _ _ => True) (fun _ U o U' => ∃ v L, o = .returned v ∧ Q v U'.heap L ∧ CHr Z EL U.vm U.heap U'.vm U'.heap ∧ ReturnedEndW U o U' L rm.cells rm.slots)
theorem own_enter {Z : State} {y : MethodName} {bytes : ByteArray} {maxL : Nat} {ret : Option FieldType} {ws : List Jvm.Cond} {rm : Room} {as : Array Value} {h0 : Heap} {Q : Option Value → Heap → List Loc → Prop} {own : String} (hpl : plainFor y = true) (ho : y.cls = own)
    (H : ∀ (p : Program) (e : Env) (s : State) (m : MethodId) (below : List Frame) (meth : Method) (c : Code) (s₁ : State), meth.locks = false → meth.sig.returnType = ret → p.tables.exec = Jvm.exec → c.code = bytes → c.maxLocals = maxL → s.vm.findClass own = some m.cls → meth.name = y.name → Z.Warmed39 s.vm → Stand p l e rm s m as below meth c s₁ [] 0 0 → s₁.heap = h0 → own_Go p e below (own_Fin s rm.cells rm.slots Q) (s₁.setTop (entryFrame m as maxL))) :
    own_Met l Z y bytes maxL ret ws rm as h0 Q := by
  refine MetFree.of_bodySF hpl hisR ?_
  intro p e s m args below meth c s₁ Bd hml0 hP hK
  obtain ⟨rfl, hZ, hh⟩ := hP
  subst ho
  exact H p e s m below meth c s₁ Bd.notSynchronized Bd.returns Bd.exec Bd.bytes hml0 (findClass_of_methodNamed Bd.named) (name_of_methodNamed Bd.named Bd.method).1 hZ (Stand.of_body Bd) (by rw [← hh, Bd.state]; rfl)
theorem own_enterW {Z : State} {y : MethodName} {bytes : ByteArray} {maxL : Nat} {ret : Option FieldType} {ws : List Jvm.Cond} {rm : Room} {as : Array Value} {h0 : Heap} {Q : Option Value → Heap → List Loc → Prop} {own : String} (hpl : plainFor y = true) (ho : y.cls = own)
    (H : ∀ (p : Program) (e : Env) (s : State) (m : MethodId) (below : List Frame) (meth : Method) (c : Code) (s₁ : State), meth.locks = false → meth.sig.returnType = ret → p.tables.exec = Jvm.exec → c.code = bytes → c.maxLocals = maxL → s.vm.findClass own = some m.cls → meth.name = y.name → Z.Warmed39 s.vm → Stand p l e rm (s.setVm s.vm) m as below meth c s₁ [] 0 0 → s₁.heap = h0 → own_Go p e below (own_FinW s rm.cells rm.slots Q) (s₁.setTop (entryFrame m as maxL))) :
    own_MetW l Z y bytes maxL ret ws rm as h0 Q := by
  refine MetFree.of_bodySF hpl hisR ?_
  intro p e s m args below meth c s₁ Bd hml0 hP hK
  obtain ⟨rfl, hZ, hh⟩ := hP
  subst ho
  exact H p e s m below meth c s₁ Bd.notSynchronized Bd.returns Bd.exec Bd.bytes hml0 (findClass_of_methodNamed Bd.named) (name_of_methodNamed Bd.named Bd.method).1 hZ (Stand.of_body Bd) (by rw [← hh, Bd.state]; rfl)
theorem own_enterH {Z : State} {EL : List (String × Nat)} {y : MethodName} {bytes : ByteArray} {maxL : Nat} {ret : Option FieldType} {ws : List Jvm.Cond} {rm : Room} {as : Array Value} {h0 : Heap} {Q : Option Value → Heap → List Loc → Prop} {own : String} (hpl : plainFor y = true) (ho : y.cls = own)
    (H : ∀ (p : Program) (e : Env) (s : State) (m : MethodId) (below : List Frame) (meth : Method) (c : Code) (s₁ : State), meth.locks = false → meth.sig.returnType = ret → p.tables.exec = Jvm.exec → c.code = bytes → c.maxLocals = maxL → s.vm.findClass own = some m.cls → meth.name = y.name → Z.Warmed39 s.vm → s.heap = h0 → CHv Z EL s.vm h0 → Stand p l e rm (s.setVm s.vm) m as below meth c s₁ [] 0 0 → s₁.heap = h0 → own_Go p e below (own_FinH Z EL s rm.cells rm.slots Q) (s₁.setTop (entryFrame m as maxL))) :
    own_MetH l Z EL y bytes maxL ret ws rm as h0 Q := by
  refine MetFree.of_bodySF hpl hisR ?_
  intro p e s m args below meth c s₁ Bd hml0 hP hK
  obtain ⟨rfl, hZ, hh, hH⟩ := hP
  subst ho
  exact H p e s m below meth c s₁ Bd.notSynchronized Bd.returns Bd.exec Bd.bytes hml0 (findClass_of_methodNamed Bd.named) (name_of_methodNamed Bd.named Bd.method).1 hZ hh hH (Stand.of_body Bd) (by rw [← hh, Bd.state]; rfl)
end Own
end Jvm.RoadKit
/- laws to paste: Road.backV, Road.lenW, Road.chN, Road.codOf (cut by pick.py; bodies as the Statement names them) -/
namespace Jvm.Pilot.@@N@@
namespace StrChars
open Jvm Sem ClassFile Op Lib Jvm.Stand Jvm.Free.XT Jvm.Free.ALB Jvm.Free.JM Jvm.Free
open Jvm.Lib.Cold (StaticIs)
/-- a char array whose places are chars -/
def Ch (a : Addr) (A : Cell) (U : State) : Prop := Arr .char a A U ∧ Typed .char A
theorem Ch.mv {a : Addr} {A : Cell} {U U' : State} (h : Ch a A U) (hal : U.vm.Alike U'.vm) (hh : U'.heap = U.heap) : Ch a A U' := ⟨h.1.mv hal hh, h.2⟩
theorem Ch.keep {a : Addr} {A : Cell} {U U' : State} (h : Ch a A U) (hal : U.vm.Alike U'.vm) (hk : U'.heap[a]? = some A) : Ch a A U' := ⟨h.1.keep hal hk, h.2⟩
/-- what place i of a char[]'s cell holds -/
def cv (A : Cell) (i : Nat) : Int32 := match A.slots[i]? with | some (.int x) => x | _ => 0
theorem Ch.get {a : Addr} {A : Cell} {U : State} (h : Ch a A U) {i : Nat} (hi : i < A.slots.size) : A.slots[i]? = some (.int (cv A i)) := by
  have e := Array.getElem?_eq_getElem hi
  have f := h.2 i _ e
  unfold cv; rw [e]
  generalize A.slots[i] = v at f
  cases v <;> simp [fits] at f ⊢
/-- the byte that i2b leaves of a char -/
def lo8 (x : Int32) : Int32 := x.toInt8.toInt32
theorem fits_lo8 (y : Int32) : fits .byte (.int (lo8 y)) = true := by
  have h1 := y.toInt8.le_toInt
  have h2 := y.toInt8.toInt_lt
  simp only [lo8, fits, Bool.and_eq_true, decide_eq_true_eq, Int32.le_iff_toInt_le, Int8.toInt_toInt32, show (-128 : Int32).toInt = -128 from by decide, show (127 : Int32).toInt = 127 from by decide]
  omega
/-- A' is A but that each place j of lo .. hi - 1 holds f j -/
def Laid (A A' : Cell) (lo hi : Nat) (f : Nat → Value) : Prop := A'.cls = A.cls ∧ A'.vm = A.vm ∧ A'.slots.size = A.slots.size ∧ ∀ i, A'.slots[i]? = if lo ≤ i ∧ i < hi then some (f i) else A.slots[i]?
theorem Laid.zero (A : Cell) (lo : Nat) (f : Nat → Value) : Laid A A lo (lo + 0) f := ⟨rfl, rfl, rfl, fun i => by rw [if_neg (by omega)]⟩
theorem Laid.step {A Ak : Cell} {lo k : Nat} {f : Nat → Value} {v : Value} (h : Laid A Ak lo k f) (hlo : lo ≤ k) (hk : k < Ak.slots.size) (hv : v = f k) : Laid A (Ak.setSlot k v) lo (k + 1) f := by
  refine ⟨h.1, h.2.1, by simpa [Cell.setSlot] using h.2.2.1, fun i => ?_⟩
  by_cases e : k = i
  · subst e; rw [Cell.slots_setSlot_self v hk, if_pos (by omega), hv]
  · rw [Cell.slots_setSlot_ne v e, h.2.2.2 i]
    by_cases q : lo ≤ i ∧ i < k
    · rw [if_pos q, if_pos (by omega)]
    · rw [if_neg q, if_neg (by omega)]
def U16 : String := "java/lang/StringUTF16"
namespace Cmp5
def yN : MethodName := ⟨"java/lang/StringUTF16", "compress", "([CI[BII)I"⟩
abbrev yB : ByteArray := jdk_52_method_21_code
theorem d0 : decode yB 0 = .ok (.iconst 0, 1) := by decide +kernel
theorem d1 : decode yB 1 = .ok (.istore 5, 2) := by decide +kernel
theorem d3 : decode yB 3 = .ok (.iload 5, 2) := by decide +kernel
theorem d5 : decode yB 5 = .ok (.iload 4, 2) := by decide +kernel
theorem d7 : decode yB 7 = .ok (.if_icmp (.ge) 37, 3) := by decide +kernel
theorem d10 : decode yB 10 = .ok (.aload_n 0, 1) := by decide +kernel
theorem d11 : decode yB 11 = .ok (.iload_n 1, 1) := by decide +kernel
theorem d12 : decode yB 12 = .ok (.caload, 1) := by decide +kernel
theorem d13 : decode yB 13 = .ok (.istore 6, 2) := by decide +kernel
theorem d15 : decode yB 15 = .ok (.iload 6, 2) := by decide +kernel
theorem d17 : decode yB 17 = .ok (.sipush 255, 3) := by decide +kernel
theorem d20 : decode yB 20 = .ok (.if_icmp (.le) 6, 3) := by decide +kernel
theorem d26 : decode yB 26 = .ok (.aload_n 2, 1) := by decide +kernel
theorem d27 : decode yB 27 = .ok (.iload_n 3, 1) := by decide +kernel
theorem d28 : decode yB 28 = .ok (.iload 6, 2) := by decide +kernel
theorem d30 : decode yB 30 = .ok (.i2b, 1) := by decide +kernel
theorem d31 : decode yB 31 = .ok (.bastore, 1) := by decide +kernel
theorem d32 : decode yB 32 = .ok (.iinc 1 1, 3) := by decide +kernel
theorem d35 : decode yB 35 = .ok (.iinc 3 1, 3) := by decide +kernel
theorem d38 : decode yB 38 = .ok (.iinc 5 1, 3) := by decide +kernel
theorem d41 : decode yB 41 = .ok (.goto (-38), 3) := by decide +kernel
theorem d44 : decode yB 44 = .ok (.iload 4, 2) := by decide +kernel
theorem d46 : decode yB 46 = .ok (.ireturn, 1) := by decide +kernel
def site : List Cond := []
def tab : Cond := tabOf yN yB 7 (some .int) site
def P (b : Addr) (A : Cell) (d : Addr) (B : Cell) (o q len : Nat) (args : Array Value) (s : State) : Prop := args = #[.ref b, .int (Int32.ofNat o), .ref d, .int (Int32.ofNat q), .int (Int32.ofNat len)] ∧ Ch b A s ∧ Arr .byte d B s ∧ b ≠ d ∧ o + len ≤ A.slots.size ∧ q + len ≤ B.slots.size ∧ ∀ i, i < len → ¬ 255 < cv A (o + i)
def E (b : Addr) (A : Cell) (d : Addr) (B : Cell) (o q len : Nat) (r : Option Value) (s u : State) : Prop := r = some (.int (Int32.ofNat len)) ∧ ∃ B', Put d B' s u ∧ Laid B B' q (q + len) (fun j => Value.int (lo8 (cv A (o + (j - q)))))
/-- no char of the range above 255: len; the places written hold each char's low byte -/
theorem law (l : Launch) (b : Addr) (A : Cell) (d : Addr) (B : Cell) (o q len : Nat) : Law l yN 5 5 0 0 yB 7 (some .int) site (P b A d B o q len) (E b A d B o q len) (copyLocs d q len) 0 0 := by
  refine Law.of_walk (plainFor_of_name (by decide +kernel)) (by decide +kernel) (by decide +kernel) (by decide) (fun _ _ h => by rw [h.1]; rfl) (fun _ U U' hal hh h => ⟨h.1, h.2.1.mv hal hh, h.2.2.1.mv hal hh, h.2.2.2⟩) (fun r U U' V V' h1 hal h2 h => ⟨h.1, h.2.elim fun B' q => ⟨B', q.1.mv h1 h2, q.2⟩⟩) ?_
  intro p e s m args below meth c s₁ X0 hexec hbytes hml hret hlk hnm hown hh0 W hP
  obtain ⟨rfl, hA, hB, hne, l1, l2, hp⟩ := hP
  have c1 : Steps p.tables e below (s₁.setTop (entryFrame m #[.ref b, .int (Int32.ofNat o), .ref d, .int (Int32.ofNat q), .int (Int32.ofNat len)] 7)) (s₁.setTop (mkF m 0 #[.val (.ref b), .val (.int (Int32.ofNat o)), .val (.ref d), .val (.int (Int32.ofNat q)), .val (.int (Int32.ofNat len)), .unset, .unset] [])) := entry rfl
  have hA0 := hA.1.mv X0.warmed.alike hh0
  have hB0 := hB.mv X0.warmed.alike hh0
  have a31 := hA.1.2.2.2
  have c2 : Steps p.tables e below (s₁.setTop (entryFrame m #[.ref b, .int (Int32.ofNat o), .ref d, .int (Int32.ofNat q), .int (Int32.ofNat len)] 7)) (s₁.setTop (mkF m 3 #[.val (.ref b), .val (.int (Int32.ofNat o)), .val (.ref d), .val (.int (Int32.ofNat q)), .val (.int (Int32.ofNat len)), .val (.int 0), .unset] [])) := c1.trans (by
    refine iconstV X0.here hexec rfl 0 (hb hbytes d0) (by decide) ?_
    refine XS.istore X0.here hexec rfl (hb hbytes d1) rfl rfl ?_
    exact Steps.refl _)
  have loop : ∀ (r i : Nat), i + r = len → ∀ (z : Slot), (z = .unset ∨ ∃ w, z = .val w ∧ w.category = 1) → ∀ (Tl : State) (Bk : Cell), Stand p l e { frames := 0, locals := 0, cells := 0, slots := 0 } s m #[.ref b, .int (Int32.ofNat o), .ref d, .int (Int32.ofNat q), .int (Int32.ofNat len)] below meth c Tl ([] ++ copyLocs d q i) 0 0 → Put d Bk s₁ Tl → Laid B Bk q (q + i) (fun j => Value.int (lo8 (cv A (o + (j - q))))) →
      Steps p.tables e below (s₁.setTop (entryFrame m #[.ref b, .int (Int32.ofNat o), .ref d, .int (Int32.ofNat q), .int (Int32.ofNat len)] 7)) (Tl.setTop (mkF m 3 #[.val (.ref b), .val (.int (Int32.ofNat (o + i))), .val (.ref d), .val (.int (Int32.ofNat (q + i))), .val (.int (Int32.ofNat len)), .val (.int (Int32.ofNat i)), z] [])) → ∃ (T' : State) (B' : Cell) (z' : Slot), Stand p l e { frames := 0, locals := 0, cells := 0, slots := 0 } s m #[.ref b, .int (Int32.ofNat o), .ref d, .int (Int32.ofNat q), .int (Int32.ofNat len)] below meth c T' ([] ++ copyLocs d q len) 0 0 ∧ Put d B' s₁ T' ∧ Laid B B' q (q + len) (fun j => Value.int (lo8 (cv A (o + (j - q))))) ∧
      Steps p.tables e below (s₁.setTop (entryFrame m #[.ref b, .int (Int32.ofNat o), .ref d, .int (Int32.ofNat q), .int (Int32.ofNat len)] 7)) (T'.setTop (mkF m 3 #[.val (.ref b), .val (.int (Int32.ofNat (o + len))), .val (.ref d), .val (.int (Int32.ofNat (q + len))), .val (.int (Int32.ofNat len)), .val (.int (Int32.ofNat len)), z'] [])) := by
    intro r
    induction r with
    | zero =>
      intro i hi z hz Tl Bk Xl pl fl cl
      have hil : i = len := by omega
      rw [hil] at Xl fl cl
      exact ⟨Tl, Bk, z, Xl, pl, fl, cl⟩
    | succ r ih =>
      intro i hi z hz Tl Bk Xl pl fl cl
      have all := X0.warmed.alike.symm.trans Xl.warmed.alike
      have hAl := hA0.keep all (pl.other hne hA0.1)
      have hBk := hB0.like all pl.1 fl.1 fl.2.1 fl.2.2.1
      have hlt : q + i < Bk.slots.size := by rw [fl.2.2.1]; omega
      have c3 : Steps p.tables e below (s₁.setTop (entryFrame m #[.ref b, .int (Int32.ofNat o), .ref d, .int (Int32.ofNat q), .int (Int32.ofNat len)] 7)) (Tl.setTop (mkF m 12 #[.val (.ref b), .val (.int (Int32.ofNat (o + i))), .val (.ref d), .val (.int (Int32.ofNat (q + i))), .val (.int (Int32.ofNat len)), .val (.int (Int32.ofNat i)), z] [.int (Int32.ofNat (o + i)), .ref b])) := cl.trans (by
        refine XS.iload Xl.here hexec rfl (hb hbytes d3) rfl ?_
        refine XS.iload Xl.here hexec rfl (hb hbytes d5) rfl ?_
        refine XS.icmpNo Xl.here hexec rfl (hb hbytes d7) rfl (ii_ge_f (lt32 (by omega) (by omega))) ?_
        refine XS.aloadN Xl.here hexec rfl (hb hbytes d10) rfl rfl ?_
        refine XS.iloadN Xl.here hexec rfl (hb hbytes d11) rfl ?_
        exact Steps.refl _)
      have c4 : Steps p.tables e below (s₁.setTop (entryFrame m #[.ref b, .int (Int32.ofNat o), .ref d, .int (Int32.ofNat q), .int (Int32.ofNat len)] 7)) (Tl.setTop (mkF m 13 #[.val (.ref b), .val (.int (Int32.ofNat (o + i))), .val (.ref d), .val (.int (Int32.ofNat (q + i))), .val (.int (Int32.ofNat len)), .val (.int (Int32.ofNat i)), z] [.int (cv A (o + i))])) := c3.trans (by
        refine Xl.aget hexec hAl rfl (hA.get (i := o + i) (by omega)) rfl rfl (hb hbytes d12) ?_
        exact Steps.refl _)
      have c5 : Steps p.tables e below (s₁.setTop (entryFrame m #[.ref b, .int (Int32.ofNat o), .ref d, .int (Int32.ofNat q), .int (Int32.ofNat len)] 7)) (Tl.setTop (mkF m 15 #[.val (.ref b), .val (.int (Int32.ofNat (o + i))), .val (.ref d), .val (.int (Int32.ofNat (q + i))), .val (.int (Int32.ofNat len)), .val (.int (Int32.ofNat i)), .val (.int (cv A (o + i)))] [])) := c4.trans (by
        refine XS.istoreS Xl.here hexec rfl (hb hbytes d13) rfl rfl hz ?_
        exact Steps.refl _)
      have c6 : Steps p.tables e below (s₁.setTop (entryFrame m #[.ref b, .int (Int32.ofNat o), .ref d, .int (Int32.ofNat q), .int (Int32.ofNat len)] 7)) (Tl.setTop (mkF m 31 #[.val (.ref b), .val (.int (Int32.ofNat (o + i))), .val (.ref d), .val (.int (Int32.ofNat (q + i))), .val (.int (Int32.ofNat len)), .val (.int (Int32.ofNat i)), .val (.int (cv A (o + i)))] [.int (lo8 (cv A (o + i))), .int (Int32.ofNat (q + i)), .ref d])) := c5.trans (by
        refine XS.iload Xl.here hexec rfl (hb hbytes d15) rfl ?_
        refine sipushV Xl.here hexec rfl 255 (hb hbytes d17) (by decide) ?_
        refine XS.icmpYes Xl.here hexec rfl (pc0 := 20) rfl (hb hbytes d20) rfl (ii_le_t (hp i (by omega))) (by decide) rfl ?_
        refine XS.aloadN Xl.here hexec rfl (hb hbytes d26) rfl rfl ?_
        refine XS.iloadN Xl.here hexec rfl (hb hbytes d27) rfl ?_
        refine XS.iload Xl.here hexec rfl (hb hbytes d28) rfl ?_
        refine i2b Xl.here hexec rfl (hb hbytes d30) rfl ?_
        exact Steps.refl _)
      obtain ⟨T7, X7, p7, st7⟩ := Xl.aput hexec hBk rfl hlt rfl (fits_lo8 (cv A (o + i))) (g := (mkF m 31 #[.val (.ref b), .val (.int (Int32.ofNat (o + i))), .val (.ref d), .val (.int (Int32.ofNat (q + i))), .val (.int (Int32.ofNat len)), .val (.int (Int32.ofNat i)), .val (.int (cv A (o + i)))] [.int (lo8 (cv A (o + i))), .int (Int32.ofNat (q + i)), .ref d])) rfl (rest := []) rfl (hb hbytes d31)
      have c8 : Steps p.tables e below (s₁.setTop (entryFrame m #[.ref b, .int (Int32.ofNat o), .ref d, .int (Int32.ofNat q), .int (Int32.ofNat len)] 7)) (T7.setTop (mkF m 32 #[.val (.ref b), .val (.int (Int32.ofNat (o + i))), .val (.ref d), .val (.int (Int32.ofNat (q + i))), .val (.int (Int32.ofNat len)), .val (.int (Int32.ofNat i)), .val (.int (cv A (o + i)))] [])) := c6.trans (st7 _ (Steps.refl _))
      have c9 : Steps p.tables e below (s₁.setTop (entryFrame m #[.ref b, .int (Int32.ofNat o), .ref d, .int (Int32.ofNat q), .int (Int32.ofNat len)] 7)) (T7.setTop (mkF m 3 #[.val (.ref b), .val (.int (Int32.ofNat (o + i) + 1)), .val (.ref d), .val (.int (Int32.ofNat (q + i) + 1)), .val (.int (Int32.ofNat len)), .val (.int (Int32.ofNat i + 1)), .val (.int (cv A (o + i)))] [])) := c8.trans (by
        refine iincV X7.here hexec rfl 1 (hb hbytes d32) (by decide) rfl rfl ?_
        refine iincV X7.here hexec rfl 1 (hb hbytes d35) (by decide) rfl rfl ?_
        refine iincV X7.here hexec rfl 1 (hb hbytes d38) (by decide) rfl rfl ?_
        refine XS.goto X7.here hexec rfl (pc0 := 41) rfl (hb hbytes d41) (by decide) rfl ?_
        exact Steps.refl _)
      have c10 : Steps p.tables e below (s₁.setTop (entryFrame m #[.ref b, .int (Int32.ofNat o), .ref d, .int (Int32.ofNat q), .int (Int32.ofNat len)] 7)) (T7.setTop (mkF m 3 #[.val (.ref b), .val (.int (Int32.ofNat (o + (i + 1)))), .val (.ref d), .val (.int (Int32.ofNat (q + (i + 1)))), .val (.int (Int32.ofNat len)), .val (.int (Int32.ofNat (i + 1))), .val (.int (cv A (o + i)))] [])) := by
        have := c9
        rw [succ32, succ32, succ32] at this
        exact this
      exact ih (i + 1) (by omega) _ (Or.inr ⟨_, rfl, rfl⟩) T7 _ (by rw [copyLocs_step, ← List.append_assoc]; exact X7) (pl.trans p7) (fl.step (by omega) hlt (by simp)) c10
  obtain ⟨T9, B9, z9, X9, p9, f9, g9⟩ := loop len 0 (by omega) .unset (Or.inl rfl) s₁ B (by simpa [copyLocs] using X0) ⟨hB0.1, fun _ _ => rfl, rfl⟩ (Laid.zero _ _ _) c2
  have c11 : Steps p.tables e below (s₁.setTop (entryFrame m #[.ref b, .int (Int32.ofNat o), .ref d, .int (Int32.ofNat q), .int (Int32.ofNat len)] 7)) (T9.setTop (mkF m 46 #[.val (.ref b), .val (.int (Int32.ofNat (o + len))), .val (.ref d), .val (.int (Int32.ofNat (q + len))), .val (.int (Int32.ofNat len)), .val (.int (Int32.ofNat len)), z9] [.int (Int32.ofNat len)])) := g9.trans (by
    refine XS.iload X9.here hexec rfl (hb hbytes d3) rfl ?_
    refine XS.iload X9.here hexec rfl (hb hbytes d5) rfl ?_
    refine XS.icmpYes X9.here hexec rfl (pc0 := 7) rfl (hb hbytes d7) rfl (ii_ge_t (nlt32 (by omega) (Nat.le_refl _))) (by decide) rfl ?_
    refine XS.iload X9.here hexec rfl (hb hbytes d44) rfl ?_
    exact Steps.refl _)
  exact ⟨T9, some (.int (Int32.ofNat len)), _, _, _, X9, by simp, rfl, rfl, (fun h => by cases h), ⟨rfl, B9, p9.from hh0, f9⟩, fun fs hl => c11.trans (X9.ireturnOut hexec hret rfl (Or.inl rfl) (hb hbytes d46) hl)⟩
end Cmp5
namespace Cmp3
def yN : MethodName := ⟨"java/lang/StringUTF16", "compress", "([CII)[B"⟩
abbrev yB : ByteArray := jdk_52_method_16_code
theorem d0 : decode yB 0 = .ok (.iload_n 2, 1) := by decide +kernel
theorem d1 : decode yB 1 = .ok (.newarray .byte, 2) := by decide +kernel
theorem d3 : decode yB 3 = .ok (.astore_n 3, 1) := by decide +kernel
theorem d4 : decode yB 4 = .ok (.aload_n 0, 1) := by decide +kernel
theorem d5 : decode yB 5 = .ok (.iload_n 1, 1) := by decide +kernel
theorem d6 : decode yB 6 = .ok (.aload_n 3, 1) := by decide +kernel
theorem d7 : decode yB 7 = .ok (.iconst 0, 1) := by decide +kernel
theorem d8 : decode yB 8 = .ok (.iload_n 2, 1) := by decide +kernel
theorem d9 : decode yB 9 = .ok (.invokestatic 115, 3) := by decide +kernel
theorem d12 : decode yB 12 = .ok (.istore 4, 2) := by decide +kernel
theorem d14 : decode yB 14 = .ok (.iload 4, 2) := by decide +kernel
theorem d16 : decode yB 16 = .ok (.iload_n 2, 1) := by decide +kernel
theorem d17 : decode yB 17 = .ok (.if_icmp (.eq) 40, 3) := by decide +kernel
theorem d57 : decode yB 57 = .ok (.aload_n 3, 1) := by decide +kernel
theorem d58 : decode yB 58 = .ok (.areturn, 1) := by decide +kernel
def site : List Cond := [.arrayClass .byte, Cmp5.tab] ++ staticW U16 115 Cmp5.yN
def tab : Cond := tabOf yN yB 6 (some (.array .byte)) site
def P (b : Addr) (A : Cell) (o len : Nat) (args : Array Value) (s : State) : Prop := args = #[.ref b, .int (Int32.ofNat o), .int (Int32.ofNat len)] ∧ Ch b A s ∧ o + len ≤ A.slots.size ∧ len ≤ 536870912 ∧ ∀ i, i < len → ¬ 255 < cv A (o + i)
def E (b : Addr) (A : Cell) (o len : Nat) (r : Option Value) (s u : State) : Prop := NewArr .byte "[B" len (fun j => .int (lo8 (cv A (o + j)))) r s u ∧ u.heap.size = s.heap.size + 1
/-- no char of the range above 255: a new byte[] of their low bytes -/
theorem law (l : Launch) (b : Addr) (A : Cell) (o len : Nat) : Law l yN 3 3 1 18 yB 6 (some (.array .byte)) site (P b A o len) (E b A o len) [] 1 len := by
  refine Law.of_walk (plainFor_of_name (by decide +kernel)) (by decide +kernel) (by decide +kernel) (by decide) (fun _ _ h => by rw [h.1]; rfl) (fun _ U U' hal hh h => ⟨h.1, h.2.1.mv hal hh, h.2.2⟩) (fun r U U' V V' h1 hal h2 h => ⟨NewArr.mv r U U' V V' h1 hal h2 h.1, by rw [h1, h2]; exact h.2⟩) ?_
  intro p e s m args below meth c s₁ X0 hexec hbytes hml hret hlk hnm hown hh0 W hP
  obtain ⟨rfl, hA, l1, l2, hp⟩ := hP
  have a31 := hA.1.2.2.2
  have c1 : Steps p.tables e below (s₁.setTop (entryFrame m #[.ref b, .int (Int32.ofNat o), .int (Int32.ofNat len)] 6)) (s₁.setTop (mkF m 0 #[.val (.ref b), .val (.int (Int32.ofNat o)), .val (.int (Int32.ofNat len)), .unset, .unset, .unset] [])) := entry rfl
  have c2 : Steps p.tables e below (s₁.setTop (entryFrame m #[.ref b, .int (Int32.ofNat o), .int (Int32.ofNat len)] 6)) (s₁.setTop (mkF m 1 #[.val (.ref b), .val (.int (Int32.ofNat o)), .val (.int (Int32.ofNat len)), .unset, .unset, .unset] [.int (Int32.ofNat len)])) := c1.trans (by
    refine XS.iloadN X0.here hexec rfl (hb hbytes d0) rfl ?_
    exact Steps.refl _)
  obtain ⟨T3, B3, X3, ba3, bs3, bv3, bh3, bf3, st3⟩ := X0.anew hexec (atype := .byte) (wk W (.arrayClass .byte)) rfl (by show len * 1 ≤ _; omega) (by omega) (g := (mkF m 1 #[.val (.ref b), .val (.int (Int32.ofNat o)), .val (.int (Int32.ofNat len)), .unset, .unset, .unset] [.int (Int32.ofNat len)])) rfl (hb hbytes d1) (rest := []) rfl (Nat.le_refl _) (by show 0 + len ≤ len; omega)
  rw [hh0] at ba3 st3
  have kp3 : XT.Kept s T3 := (XT.Kept.of_eq hh0).push bh3
  have hA3 := hA.keep X3.warmed.alike (kp3 _ _ hA.1.1)
  have hne : b ≠ s.heap.size := hA.1.ne
  have c4 : Steps p.tables e below (s₁.setTop (entryFrame m #[.ref b, .int (Int32.ofNat o), .int (Int32.ofNat len)] 6)) (T3.setTop (mkF m 3 #[.val (.ref b), .val (.int (Int32.ofNat o)), .val (.int (Int32.ofNat len)), .unset, .unset, .unset] [.ref s.heap.size])) := c2.trans (st3 _ (Steps.refl _))
  have c5 : Steps p.tables e below (s₁.setTop (entryFrame m #[.ref b, .int (Int32.ofNat o), .int (Int32.ofNat len)] 6)) (T3.setTop (mkF m 9 #[.val (.ref b), .val (.int (Int32.ofNat o)), .val (.int (Int32.ofNat len)), .val (.ref s.heap.size), .unset, .unset] [.int (Int32.ofNat len), .int 0, .ref s.heap.size, .int (Int32.ofNat o), .ref b])) := c4.trans (by
    refine XS.astoreN X3.here hexec rfl (hb hbytes d3) rfl rfl rfl ?_
    refine XS.aloadN X3.here hexec rfl (hb hbytes d4) rfl rfl ?_
    refine XS.iloadN X3.here hexec rfl (hb hbytes d5) rfl ?_
    refine XS.aloadN X3.here hexec rfl (hb hbytes d6) rfl rfl ?_
    refine iconstV X3.here hexec rfl 0 (hb hbytes d7) (by decide) ?_
    refine XS.iloadN X3.here hexec rfl (hb hbytes d8) rfl ?_
    exact Steps.refl _)
  obtain ⟨v6, T6, X6, E6, g6⟩ := X3.callS hexec (Cmp5.law l b A s.heap.size B3 o 0 len) hown (wks W (staticW U16 115 Cmp5.yN)) (wk W Cmp5.tab) (W := 0) (Nat.le_of_ble_eq_true rfl) (Nat.le_of_ble_eq_true rfl) (Nat.le_refl _) (by show 0 + len + 0 ≤ len; omega) (g := (mkF m 9 #[.val (.ref b), .val (.int (Int32.ofNat o)), .val (.int (Int32.ofNat len)), .val (.ref s.heap.size), .unset, .unset] [.int (Int32.ofNat len), .int (Int32.ofNat 0), .ref s.heap.size, .int (Int32.ofNat o), .ref b])) rfl (by rw [hml]; rfl) c5 (argsL := [.ref b, .int (Int32.ofNat o), .ref s.heap.size, .int (Int32.ofNat 0), .int (Int32.ofNat len)]) (rest := []) rfl rfl (by show 2 * 0 + 0 ≤ _; decide) (hb hbytes d9) (⟨rfl, hA3, ba3, hne, l1, by rw [bs3]; simp, hp⟩)
  obtain ⟨rfl, B6, p6, f6⟩ := E6
  have c7 : Steps p.tables e below (s₁.setTop (entryFrame m #[.ref b, .int (Int32.ofNat o), .int (Int32.ofNat len)] 6)) (T6.setTop (mkF m 12 #[.val (.ref b), .val (.int (Int32.ofNat o)), .val (.int (Int32.ofNat len)), .val (.ref s.heap.size), .unset, .unset] [.int (Int32.ofNat len)])) := g6
  have c8 : Steps p.tables e below (s₁.setTop (entryFrame m #[.ref b, .int (Int32.ofNat o), .int (Int32.ofNat len)] 6)) (T6.setTop (mkF m 58 #[.val (.ref b), .val (.int (Int32.ofNat o)), .val (.int (Int32.ofNat len)), .val (.ref s.heap.size), .val (.int (Int32.ofNat len)), .unset] [.ref s.heap.size])) := c7.trans (by
    refine XS.istore X6.here hexec rfl (hb hbytes d12) rfl rfl ?_
    refine XS.iload X6.here hexec rfl (hb hbytes d14) rfl ?_
    refine XS.iloadN X6.here hexec rfl (hb hbytes d16) rfl ?_
    refine XS.icmpYes X6.here hexec rfl (pc0 := 17) rfl (hb hbytes d17) rfl (ii_eq_t rfl) (by decide) rfl ?_
    refine XS.aloadN X6.here hexec rfl (hb hbytes d57) rfl rfl ?_
    exact Steps.refl _)
  have X8 := X6.wide (L' := []) (cells' := 1) (slots' := len) (fun x hx hlt => by
    simp only [List.nil_append, copyLocs, List.mem_map, List.mem_range] at hx
    obtain ⟨i, -, rfl⟩ := hx
    exact absurd hlt (Nat.lt_irrefl _)) (Nat.le_refl _) (by omega)
  exact ⟨T6, some (.ref s.heap.size), _, _, _, X8, rfl, rfl, rfl, (fun h => by cases h), ⟨⟨rfl, B6, ba3.like (X3.warmed.alike.symm.trans X6.warmed.alike) p6.1 f6.1 f6.2.1 f6.2.2.1, f6.2.1.trans bv3, by rw [X6.warmed.alike.findClass, f6.1]; exact bf3, by rw [f6.2.2.1, bs3]; simp, fun j hj => by rw [f6.2.2.2 j, if_pos (by omega)]; rfl, kp3.put p6 (Nat.le_refl _)⟩, by rw [p6.2.2, bh3, hh0]; simp⟩, fun fs hl => c8.trans (X8.areturnOut hexec rfl hret rfl (hb hbytes d58) hl)⟩
end Cmp3
namespace CodL
def yN : MethodName := ⟨"java/lang/StringUTF16", "coderFromArrayLen", "([BI)B"⟩
abbrev yB : ByteArray := jdk_52_method_15_code
theorem d0 : decode yB 0 = .ok (.iload_n 1, 1) := by decide +kernel
theorem d1 : decode yB 1 = .ok (.aload_n 0, 1) := by decide +kernel
theorem d2 : decode yB 2 = .ok (.arraylength, 1) := by decide +kernel
theorem d3 : decode yB 3 = .ok (.isub, 1) := by decide +kernel
theorem d4 : decode yB 4 = .ok (.bipush 31, 2) := by decide +kernel
theorem d6 : decode yB 6 = .ok (.iushr, 1) := by decide +kernel
theorem d7 : decode yB 7 = .ok (.i2b, 1) := by decide +kernel
theorem d8 : decode yB 8 = .ok (.ireturn, 1) := by decide +kernel
def site : List Cond := []
def tab : Cond := tabOf yN yB 2 (some .byte) site
def P (d : Addr) (B : Cell) (args : Array Value) (s : State) : Prop := args = #[.ref d, .int (Int32.ofNat B.slots.size)] ∧ Arr .byte d B s
def E (r : Option Value) (s u : State) : Prop := XT.PureE (some (.int 0)) r s u
/-- an array as long as the number of chars: LATIN1 -/
theorem law (l : Launch) (d : Addr) (B : Cell) : Law l yN 2 2 0 0 yB 2 (some .byte) site (P d B) E [] 0 0 := by
  refine Law.of_walk (plainFor_of_name (by decide +kernel)) (by decide +kernel) (by decide +kernel) (by decide) (fun _ _ h => by rw [h.1]; rfl) (fun _ U U' hal hh h => ⟨h.1, h.2.mv hal hh⟩) (fun r U U' V V' h1 hal h2 h => XT.PureE.mv r U U' V V' h1 hal h2 h) ?_
  intro p e s m args below meth c s₁ X0 hexec hbytes hml hret hlk hnm hown hh0 W hP
  obtain ⟨rfl, hB⟩ := hP
  have hB0 := hB.mv X0.warmed.alike hh0
  have c1 : Steps p.tables e below (s₁.setTop (entryFrame m #[.ref d, .int (Int32.ofNat B.slots.size)] 2)) (s₁.setTop (mkF m 0 #[.val (.ref d), .val (.int (Int32.ofNat B.slots.size))] [])) := entry rfl
  have c2 : Steps p.tables e below (s₁.setTop (entryFrame m #[.ref d, .int (Int32.ofNat B.slots.size)] 2)) (s₁.setTop (mkF m 2 #[.val (.ref d), .val (.int (Int32.ofNat B.slots.size))] [.ref d, .int (Int32.ofNat B.slots.size)])) := c1.trans (by
    refine XS.iloadN X0.here hexec rfl (hb hbytes d0) rfl ?_
    refine XS.aloadN X0.here hexec rfl (hb hbytes d1) rfl rfl ?_
    exact Steps.refl _)
  have c3 : Steps p.tables e below (s₁.setTop (entryFrame m #[.ref d, .int (Int32.ofNat B.slots.size)] 2)) (s₁.setTop (mkF m 8 #[.val (.ref d), .val (.int (Int32.ofNat B.slots.size))] [.int (lo8 (ushr (Int32.ofNat B.slots.size - Int32.ofNat B.slots.size) 31))])) := c2.trans (by
    refine X0.alen hexec hB0 rfl rfl (hb hbytes d2) ?_
    refine XS.isub X0.here hexec rfl (hb hbytes d3) rfl ?_
    refine bipushV X0.here hexec rfl 31 (hb hbytes d4) (by decide) ?_
    refine iushr X0.here hexec rfl (hb hbytes d6) rfl ?_
    refine i2b X0.here hexec rfl (hb hbytes d7) rfl ?_
    exact Steps.refl _)
  have e0 : lo8 (ushr (Int32.ofNat B.slots.size - Int32.ofNat B.slots.size) 31) = 0 := by rw [Int32.sub_self]; decide
  rw [e0] at c3
  exact ⟨s₁, some (.int 0), _, _, _, X0, rfl, rfl, rfl, (fun h => by cases h), ⟨rfl, hh0⟩, fun fs hl => c3.trans (X0.ireturnOut hexec hret rfl (Or.inr (Or.inr (Or.inl rfl))) (hb hbytes d8) hl)⟩
end CodL
/-- the String at a is Latin-1 over a new byte[] (the heap's one new cell): the low bytes of the len chars of A from o on; every cell but a is kept -/
def Got (a : Addr) (D : Cell) (fV fC : Field) (A : Cell) (o len : Nat) (r : Option Value) (s u : State) : Prop := r = none ∧ ∃ D' V : Cell, Blank "java/lang/String" a D' u ∧ Same D D' [fV.slot, fC.slot] ∧ D'.slots[fV.slot]? = some (.ref s.heap.size) ∧ D'.slots[fC.slot]? = some (.int 0) ∧ Arr .byte s.heap.size V u ∧ V.vm = .none ∧ u.vm.findClass "[B" = some V.cls ∧ V.slots.size = len ∧ (∀ j, j < len → V.slots[j]? = some (.int (lo8 (cv A (o + j))))) ∧ (∀ (y : Addr) (c : Cell), y ≠ a → s.heap[y]? = some c → u.heap[y]? = some c) ∧ u.heap.size = s.heap.size + 1
theorem Got.mv {a : Addr} {D A : Cell} {fV fC : Field} {o len : Nat} : ∀ r (U U' V V' : State), U'.heap = U.heap → V.vm.Alike V'.vm → V'.heap = V.heap → Got a D fV fC A o len r U V → Got a D fV fC A o len r U' V' :=
  fun r U U' V V' h1 hal h2 ⟨e0, D', X, a1, a2, a3, a4, a5, a6, a7, a8, a9, a10, a11⟩ => ⟨e0, D', X, a1.mv hal h2, a2, by rw [h1]; exact a3, a4, by rw [h1]; exact a5.mv hal h2, a6, by rw [hal.findClass]; exact a7, a8, a9, by rw [h1, h2]; exact a10, by rw [h1, h2]; exact a11⟩
namespace New4
def yN : MethodName := ⟨"java/lang/String", "<init>", "([CIILjava/lang/Void;)V"⟩
abbrev yB : ByteArray := jdk_42_method_149_code
theorem d0 : decode yB 0 = .ok (.aload_n 0, 1) := by decide +kernel
theorem d1 : decode yB 1 = .ok (.invokespecial 1, 3) := by decide +kernel
theorem d4 : decode yB 4 = .ok (.iload_n 3, 1) := by decide +kernel
theorem d5 : decode yB 5 = .ok (.ifCond (.ne) 22, 3) := by decide +kernel
theorem d27 : decode yB 27 = .ok (.getstatic 38, 3) := by decide +kernel
theorem d30 : decode yB 30 = .ok (.ifCond (.eq) 28, 3) := by decide +kernel
theorem d33 : decode yB 33 = .ok (.aload_n 1, 1) := by decide +kernel
theorem d34 : decode yB 34 = .ok (.iload_n 2, 1) := by decide +kernel
theorem d35 : decode yB 35 = .ok (.iload_n 3, 1) := by decide +kernel
theorem d36 : decode yB 36 = .ok (.invokestatic 177, 3) := by decide +kernel
theorem d39 : decode yB 39 = .ok (.astore 5, 2) := by decide +kernel
theorem d41 : decode yB 41 = .ok (.aload_n 0, 1) := by decide +kernel
theorem d42 : decode yB 42 = .ok (.aload 5, 2) := by decide +kernel
theorem d44 : decode yB 44 = .ok (.iload_n 3, 1) := by decide +kernel
theorem d45 : decode yB 45 = .ok (.invokestatic 47, 3) := by decide +kernel
theorem d48 : decode yB 48 = .ok (.putfield 15, 3) := by decide +kernel
theorem d51 : decode yB 51 = .ok (.aload_n 0, 1) := by decide +kernel
theorem d52 : decode yB 52 = .ok (.aload 5, 2) := by decide +kernel
theorem d54 : decode yB 54 = .ok (.putfield 9, 3) := by decide +kernel
theorem d57 : decode yB 57 = .ok (.return_, 1) := by decide +kernel
def site : List Cond := [.fieldLink "java/lang/String" 38 "java/lang/String" "COMPACT_STRINGS" "Z", Cmp3.tab, CodL.tab, .laysFinal "java/lang/String" "java/lang/String" "value" "[B", .fieldLink "java/lang/String" 9 "java/lang/String" "value" "[B", .laysFinal "java/lang/String" "java/lang/String" "coder" "B", .fieldLink "java/lang/String" 15 "java/lang/String" "coder" "B"] ++ objW "java/lang/String" 1 ++ staticW "java/lang/String" 177 Cmp3.yN ++ staticW "java/lang/String" 47 CodL.yN
def tab : Cond := tabOf yN yB 6 none site
def P (a : Addr) (D : Cell) (fV fC : Field) (b : Addr) (A : Cell) (z : Int32) (o len : Nat) (args : Array Value) (s : State) : Prop := args = #[.ref a, .ref b, .int (Int32.ofNat o), .int (Int32.ofNat len), .null] ∧ Blank "java/lang/String" a D s ∧ Found "java/lang/String" "value" "[B" fV s ∧ Found "java/lang/String" "coder" "B" fC s ∧ Ch b A s ∧ StaticIs s "java/lang/String" "COMPACT_STRINGS" "Z" (.int z) ∧ ¬ z = 0 ∧ 0 < len ∧ o + len ≤ A.slots.size ∧ len ≤ 536870912 ∧ ∀ i, i < len → ¬ 255 < cv A (o + i)
def E (a : Addr) (D : Cell) (fV fC : Field) (A : Cell) (o len : Nat) (r : Option Value) (s u : State) : Prop := Got a D fV fC A o len r s u
/-- len > 0, no char of the range above 255: a Latin-1 String of their low bytes -/
theorem law (l : Launch) (a : Addr) (D : Cell) (fV fC : Field) (b : Addr) (A : Cell) (z : Int32) (o len : Nat) : Law l yN 5 4 2 35 yB 6 none site (P a D fV fC b A z o len) (E a D fV fC A o len) [⟨a, fC.slot⟩, ⟨a, fV.slot⟩] 1 len := by
  refine Law.of_walk (plainFor_of_name (by decide +kernel)) (by decide +kernel) (by decide +kernel) (by decide) (fun _ _ h => by rw [h.1]; rfl) (fun _ U U' hal hh h => ⟨h.1, h.2.1.mv hal hh, h.2.2.1.al hal, h.2.2.2.1.al hal, h.2.2.2.2.1.mv hal hh, h.2.2.2.2.2.1.there hal hh, h.2.2.2.2.2.2⟩) (fun r U U' V V' h1 hal h2 h => Got.mv r U U' V V' h1 hal h2 h) ?_
  intro p e s m args below meth c s₁ X0 hexec hbytes hml hret hlk hnm hown hh0 W hP
  obtain ⟨rfl, hB, f1, f2, hA, s1, hz, l0, l1, l2, hp⟩ := hP
  have a31 := hA.1.2.2.2
  have c1 : Steps p.tables e below (s₁.setTop (entryFrame m #[.ref a, .ref b, .int (Int32.ofNat o), .int (Int32.ofNat len), .null] 6)) (s₁.setTop (mkF m 0 #[.val (.ref a), .val (.ref b), .val (.int (Int32.ofNat o)), .val (.int (Int32.ofNat len)), .val .null, .unset] [])) := entry rfl
  have c2 : Steps p.tables e below (s₁.setTop (entryFrame m #[.ref a, .ref b, .int (Int32.ofNat o), .int (Int32.ofNat len), .null] 6)) (s₁.setTop (mkF m 1 #[.val (.ref a), .val (.ref b), .val (.int (Int32.ofNat o)), .val (.int (Int32.ofNat len)), .val .null, .unset] [.ref a])) := c1.trans (by
    refine XS.aloadN X0.here hexec rfl (hb hbytes d0) rfl rfl ?_
    exact Steps.refl _)
  obtain ⟨T3, X3, q3, st3⟩ := X0.oinit hexec hown (wks W (objW "java/lang/String" 1)) (g := (mkF m 1 #[.val (.ref a), .val (.ref b), .val (.int (Int32.ofNat o)), .val (.int (Int32.ofNat len)), .val .null, .unset] [.ref a])) rfl (by rw [hml]; rfl) (rest := []) rfl (hb hbytes d1) (W := 0) (by show 2 * 0 + 0 ≤ _; decide) (Nat.le_of_ble_eq_true rfl) (Nat.le_of_ble_eq_true rfl)
  have hh3 := q3.trans hh0
  have c4 : Steps p.tables e below (s₁.setTop (entryFrame m #[.ref a, .ref b, .int (Int32.ofNat o), .int (Int32.ofNat len), .null] 6)) (T3.setTop (mkF m 27 #[.val (.ref a), .val (.ref b), .val (.int (Int32.ofNat o)), .val (.int (Int32.ofNat len)), .val .null, .unset] [])) := (c2.trans (st3 _ (Steps.refl _))).trans (by
    refine XS.iloadN X3.here hexec rfl (hb hbytes d4) rfl ?_
    refine XS.ifYes X3.here hexec rfl (pc0 := 5) rfl (hb hbytes d5) rfl (i0_ne_t (nz32 (by omega) l0)) (by decide) rfl ?_
    exact Steps.refl _)
  obtain ⟨T5, X5, q5, st5⟩ := X3.sget hexec hown (wk W (.fieldLink "java/lang/String" 38 "java/lang/String" "COMPACT_STRINGS" "Z")) s1 (fun _ _ h => by rw [hh3]; exact h) (g := (mkF m 27 #[.val (.ref a), .val (.ref b), .val (.int (Int32.ofNat o)), .val (.int (Int32.ofNat len)), .val .null, .unset] [])) rfl (hb hbytes d27)
  have hh5 := q5.trans hh3
  have c6 : Steps p.tables e below (s₁.setTop (entryFrame m #[.ref a, .ref b, .int (Int32.ofNat o), .int (Int32.ofNat len), .null] 6)) (T5.setTop (mkF m 30 #[.val (.ref a), .val (.ref b), .val (.int (Int32.ofNat o)), .val (.int (Int32.ofNat len)), .val .null, .unset] [.int z])) := c4.trans (st5 _ (Steps.refl _))
  have c7 : Steps p.tables e below (s₁.setTop (entryFrame m #[.ref a, .ref b, .int (Int32.ofNat o), .int (Int32.ofNat len), .null] 6)) (T5.setTop (mkF m 36 #[.val (.ref a), .val (.ref b), .val (.int (Int32.ofNat o)), .val (.int (Int32.ofNat len)), .val .null, .unset] [.int (Int32.ofNat len), .int (Int32.ofNat o), .ref b])) := c6.trans (by
    refine XS.ifNo X5.here hexec rfl (hb hbytes d30) rfl (i0_eq_f hz) ?_
    refine XS.aloadN X5.here hexec rfl (hb hbytes d33) rfl rfl ?_
    refine XS.iloadN X5.here hexec rfl (hb hbytes d34) rfl ?_
    refine XS.iloadN X5.here hexec rfl (hb hbytes d35) rfl ?_
    exact Steps.refl _)
  obtain ⟨v8, T8, X8, E8, g8⟩ := X5.callS hexec (Cmp3.law l b A o len) hown (wks W (staticW "java/lang/String" 177 Cmp3.yN)) (wk W Cmp3.tab) (W := 0) (Nat.le_of_ble_eq_true rfl) (Nat.le_of_ble_eq_true rfl) (Nat.le_refl _) (by show 0 + len ≤ len; omega) (g := (mkF m 36 #[.val (.ref a), .val (.ref b), .val (.int (Int32.ofNat o)), .val (.int (Int32.ofNat len)), .val .null, .unset] [.int (Int32.ofNat len), .int (Int32.ofNat o), .ref b])) rfl (by rw [hml]; rfl) c7 (argsL := [.ref b, .int (Int32.ofNat o), .int (Int32.ofNat len)]) (rest := []) rfl rfl (by show 2 * 0 + 0 ≤ _; decide) (hb hbytes d36) (⟨rfl, hA.mv X5.warmed.alike hh5, l1, l2, hp⟩)
  obtain ⟨e8, z8⟩ := E8
  obtain ⟨rfl, N, n1, n2, n3, n4, n5, n6⟩ := NewArr.mv _ T5 s _ _ hh5.symm (Vm.Alike.refl _) rfl e8
  rw [hh5] at z8
  have hB1 := hB.keep X8.warmed.alike (n6 _ _ hB.1)
  have hne : s.heap.size ≠ a := (Nat.ne_of_lt (Array.getElem?_eq_some_iff.mp hB.1).1).symm
  have c9 : Steps p.tables e below (s₁.setTop (entryFrame m #[.ref a, .ref b, .int (Int32.ofNat o), .int (Int32.ofNat len), .null] 6)) (T8.setTop (mkF m 39 #[.val (.ref a), .val (.ref b), .val (.int (Int32.ofNat o)), .val (.int (Int32.ofNat len)), .val .null, .unset] [.ref s.heap.size])) := g8
  have c10 : Steps p.tables e below (s₁.setTop (entryFrame m #[.ref a, .ref b, .int (Int32.ofNat o), .int (Int32.ofNat len), .null] 6)) (T8.setTop (mkF m 45 #[.val (.ref a), .val (.ref b), .val (.int (Int32.ofNat o)), .val (.int (Int32.ofNat len)), .val .null, .val (.ref s.heap.size)] [.int (Int32.ofNat N.slots.size), .ref s.heap.size, .ref a])) := by
    have hc : Steps p.tables e below (s₁.setTop (entryFrame m #[.ref a, .ref b, .int (Int32.ofNat o), .int (Int32.ofNat len), .null] 6)) (T8.setTop (mkF m 45 #[.val (.ref a), .val (.ref b), .val (.int (Int32.ofNat o)), .val (.int (Int32.ofNat len)), .val .null, .val (.ref s.heap.size)] [.int (Int32.ofNat len), .ref s.heap.size, .ref a])) := c9.trans (by
      refine XS.astore X8.here hexec rfl (hb hbytes d39) rfl rfl rfl ?_
      refine XS.aloadN X8.here hexec rfl (hb hbytes d41) rfl rfl ?_
      refine XS.aload X8.here hexec rfl (hb hbytes d42) rfl rfl ?_
      refine XS.iloadN X8.here hexec rfl (hb hbytes d44) rfl ?_
      exact Steps.refl _)
    rw [n4]; exact hc
  obtain ⟨v11, T11, X11, E11, g11⟩ := X8.callS hexec (CodL.law l s.heap.size N) hown (wks W (staticW "java/lang/String" 47 CodL.yN)) (wk W CodL.tab) (W := 1) (Nat.le_of_ble_eq_true rfl) (Nat.le_of_ble_eq_true rfl) (Nat.le_refl _) (by show 0 + len + 0 ≤ len; omega) (g := (mkF m 45 #[.val (.ref a), .val (.ref b), .val (.int (Int32.ofNat o)), .val (.int (Int32.ofNat len)), .val .null, .val (.ref s.heap.size)] [.int (Int32.ofNat N.slots.size), .ref s.heap.size, .ref a])) rfl (by rw [hml]; rfl) c10 (argsL := [.ref s.heap.size, .int (Int32.ofNat N.slots.size)]) (rest := [.ref a]) rfl rfl (by show 2 * 0 + (1 + 0) ≤ _; decide) (hb hbytes d45) (⟨rfl, n1⟩)
  obtain ⟨rfl, q11⟩ := E11
  have hB11 := hB1.mv (X8.warmed.alike.symm.trans X11.warmed.alike) q11
  have c12 : Steps p.tables e below (s₁.setTop (entryFrame m #[.ref a, .ref b, .int (Int32.ofNat o), .int (Int32.ofNat len), .null] 6)) (T11.setTop (mkF m 48 #[.val (.ref a), .val (.ref b), .val (.int (Int32.ofNat o)), .val (.int (Int32.ofNat len)), .val .null, .val (.ref s.heap.size)] [.int 0, .ref a])) := g11
  obtain ⟨T13, X13, p13, bl13, sl13, st13⟩ := X11.finit hexec hown (wk W (.fieldLink "java/lang/String" 15 "java/lang/String" "coder" "B")) (Or.inr ⟨_, (wk W (.laysFinal "java/lang/String" "java/lang/String" "coder" "B"))⟩) (Or.inl ⟨rfl, hnm⟩) f2 (Or.inl rfl) hB11 (t := .byte) (by decide +kernel) rfl (g := (mkF m 48 #[.val (.ref a), .val (.ref b), .val (.int (Int32.ofNat o)), .val (.int (Int32.ofNat len)), .val .null, .val (.ref s.heap.size)] [.int 0, .ref a])) rfl (rest := []) rfl (hb hbytes d48)
  have c14 : Steps p.tables e below (s₁.setTop (entryFrame m #[.ref a, .ref b, .int (Int32.ofNat o), .int (Int32.ofNat len), .null] 6)) (T13.setTop (mkF m 54 #[.val (.ref a), .val (.ref b), .val (.int (Int32.ofNat o)), .val (.int (Int32.ofNat len)), .val .null, .val (.ref s.heap.size)] [.ref s.heap.size, .ref a])) := (c12.trans (st13 _ (Steps.refl _))).trans (by
    refine XS.aloadN X13.here hexec rfl (hb hbytes d51) rfl rfl ?_
    refine XS.aload X13.here hexec rfl (hb hbytes d52) rfl rfl ?_
    exact Steps.refl _)
  obtain ⟨T15, X15, p15, bl15, sl15, st15⟩ := X13.finit hexec hown (wk W (.fieldLink "java/lang/String" 9 "java/lang/String" "value" "[B")) (Or.inr ⟨_, (wk W (.laysFinal "java/lang/String" "java/lang/String" "value" "[B"))⟩) (Or.inl ⟨rfl, hnm⟩) f1 (Or.inl rfl) bl13 (t := (.array .byte)) (by decide +kernel) rfl (g := (mkF m 54 #[.val (.ref a), .val (.ref b), .val (.int (Int32.ofNat o)), .val (.int (Int32.ofNat len)), .val .null, .val (.ref s.heap.size)] [.ref s.heap.size, .ref a])) rfl (rest := []) rfl (hb hbytes d54)
  have c16 : Steps p.tables e below (s₁.setTop (entryFrame m #[.ref a, .ref b, .int (Int32.ofNat o), .int (Int32.ofNat len), .null] 6)) (T15.setTop (mkF m 57 #[.val (.ref a), .val (.ref b), .val (.int (Int32.ofNat o)), .val (.int (Int32.ofNat len)), .val .null, .val (.ref s.heap.size)] [])) := c14.trans (st15 _ (Steps.refl _))
  have ap := apart (Or.inr ⟨_, (wk W (.laysFinal "java/lang/String" "java/lang/String" "value" "[B"))⟩) (Or.inr ⟨_, (wk W (.laysFinal "java/lang/String" "java/lang/String" "coder" "B"))⟩) f1 f2 (t₁ := .array .byte) (t₂ := .byte) (by decide +kernel) (by decide +kernel) (by decide)
  have al := X8.warmed.alike.symm.trans X15.warmed.alike
  have n7 : T11.heap[s.heap.size]? = some N := by rw [q11]; exact n1.1
  exact ⟨T15, none, _, _, _, X15, by simp, rfl, by omega, (fun _ => rfl), ⟨rfl, _, N, bl15, ((Same.refl D _).set _ (by simp)).set _ (by simp), sl15, (Cell.slots_setSlot_ne _ ap).trans sl13, n1.keep al (p15.other hne (p13.other hne n7)), n2, by rw [al.findClass]; exact n3, n4, n5, fun y c h1 h2 => p15.other h1 (p13.other h1 (by rw [q11]; exact n6 y c h2)), by rw [p15.2.2, p13.2.2, q11]; exact z8⟩, fun fs hl => c16.trans (X15.returnOut hexec hret (hb hbytes d57) hl)⟩
end New4
namespace New1
def yN : MethodName := ⟨"java/lang/String", "<init>", "([C)V"⟩
abbrev yB : ByteArray := jdk_42_method_3_code
theorem d0 : decode yB 0 = .ok (.aload_n 0, 1) := by decide +kernel
theorem d1 : decode yB 1 = .ok (.aload_n 1, 1) := by decide +kernel
theorem d2 : decode yB 2 = .ok (.iconst 0, 1) := by decide +kernel
theorem d3 : decode yB 3 = .ok (.aload_n 1, 1) := by decide +kernel
theorem d4 : decode yB 4 = .ok (.arraylength, 1) := by decide +kernel
theorem d5 : decode yB 5 = .ok (.aconst_null, 1) := by decide +kernel
theorem d6 : decode yB 6 = .ok (.invokespecial 27, 3) := by decide +kernel
theorem d9 : decode yB 9 = .ok (.return_, 1) := by decide +kernel
def site : List Cond := [New4.tab] ++ initW "java/lang/String" 27 New4.yN
def tab : Cond := tabOf yN yB 2 none site
def P (a : Addr) (D : Cell) (fV fC : Field) (b : Addr) (A : Cell) (z : Int32) (args : Array Value) (s : State) : Prop := args = #[.ref a, .ref b] ∧ Blank "java/lang/String" a D s ∧ Found "java/lang/String" "value" "[B" fV s ∧ Found "java/lang/String" "coder" "B" fC s ∧ Ch b A s ∧ StaticIs s "java/lang/String" "COMPACT_STRINGS" "Z" (.int z) ∧ ¬ z = 0 ∧ 0 < A.slots.size ∧ A.slots.size ≤ 536870912 ∧ ∀ i, i < A.slots.size → ¬ 255 < cv A i
def E (a : Addr) (D : Cell) (fV fC : Field) (A : Cell) (r : Option Value) (s u : State) : Prop := Got a D fV fC A 0 A.slots.size r s u
/-- new String(chars), not empty, no char above 255: a Latin-1 String of their low bytes -/
theorem law (l : Launch) (a : Addr) (D : Cell) (fV fC : Field) (b : Addr) (A : Cell) (z : Int32) : Law l yN 2 1 3 52 yB 2 none site (P a D fV fC b A z) (E a D fV fC A) [⟨a, fC.slot⟩, ⟨a, fV.slot⟩] 1 A.slots.size := by
  refine Law.of_walk (plainFor_of_name (by decide +kernel)) (by decide +kernel) (by decide +kernel) (by decide) (fun _ _ h => by rw [h.1]; rfl) (fun _ U U' hal hh h => ⟨h.1, h.2.1.mv hal hh, h.2.2.1.al hal, h.2.2.2.1.al hal, h.2.2.2.2.1.mv hal hh, h.2.2.2.2.2.1.there hal hh, h.2.2.2.2.2.2⟩) (fun r U U' V V' h1 hal h2 h => Got.mv r U U' V V' h1 hal h2 h) ?_
  intro p e s m args below meth c s₁ X0 hexec hbytes hml hret hlk hnm hown hh0 W hP
  obtain ⟨rfl, hB, f1, f2, hA, s1, hz, l0, l2, hp⟩ := hP
  have c1 : Steps p.tables e below (s₁.setTop (entryFrame m #[.ref a, .ref b] 2)) (s₁.setTop (mkF m 0 #[.val (.ref a), .val (.ref b)] [])) := entry rfl
  have c2 : Steps p.tables e below (s₁.setTop (entryFrame m #[.ref a, .ref b] 2)) (s₁.setTop (mkF m 6 #[.val (.ref a), .val (.ref b)] [.null, .int (Int32.ofNat A.slots.size), .int 0, .ref b, .ref a])) := c1.trans (by
    refine XS.aloadN X0.here hexec rfl (hb hbytes d0) rfl rfl ?_
    refine XS.aloadN X0.here hexec rfl (hb hbytes d1) rfl rfl ?_
    refine iconstV X0.here hexec rfl 0 (hb hbytes d2) (by decide) ?_
    refine XS.aloadN X0.here hexec rfl (hb hbytes d3) rfl rfl ?_
    refine X0.alen hexec (hA.1.mv X0.warmed.alike hh0) rfl rfl (hb hbytes d4) ?_
    refine XS.aconstNull X0.here hexec rfl (hb hbytes d5) ?_
    exact Steps.refl _)
  obtain ⟨v3, T3, X3, E3, g3⟩ := X0.callN hexec (New4.law l a D fV fC b A z 0 A.slots.size) rfl hown (wks W (initW "java/lang/String" 27 New4.yN)) (W New4.tab (by simp only [site, List.mem_cons, List.mem_append, true_or, or_true])) (W := 0) (Nat.le_of_ble_eq_true rfl) (Nat.le_of_ble_eq_true rfl) (Nat.le_refl _) (by show 0 + A.slots.size ≤ A.slots.size; omega) (g := (mkF m 6 #[.val (.ref a), .val (.ref b)] [.null, .int (Int32.ofNat A.slots.size), .int (Int32.ofNat 0), .ref b, .ref a])) rfl (by rw [hml]; rfl) c2 (argsL := [.ref b, .int (Int32.ofNat 0), .int (Int32.ofNat A.slots.size), .null]) (rest := []) rfl rfl (by show 2 * 0 + 0 ≤ _; decide) (hb hbytes d6) (⟨rfl, hB.mv X0.warmed.alike hh0, f1.al X0.warmed.alike, f2.al X0.warmed.alike, hA.mv X0.warmed.alike hh0, s1.there X0.warmed.alike hh0, hz, l0, by omega, l2, fun i hi => by rw [Nat.zero_add]; exact hp i hi⟩)
  have e0 := Got.mv _ s₁ s _ _ hh0.symm (Vm.Alike.refl _) rfl E3
  obtain rfl := e0.1
  have c4 : Steps p.tables e below (s₁.setTop (entryFrame m #[.ref a, .ref b] 2)) (T3.setTop (mkF m 9 #[.val (.ref a), .val (.ref b)] [])) := g3
  exact ⟨T3, none, _, _, _, X3, by simp, rfl, by omega, (fun _ => rfl), e0, fun fs hl => c4.trans (X3.returnOut hexec hret (hb hbytes d9) hl)⟩
theorem pays {l : Launch} {R : Room} {p : Program} {e : Env} {below : List Frame} {s : State} {sargs : Array Value} {len W : Nat} (a : Addr) (D : Cell) (fV fC : Field) (b : Addr) (A : Cell) (z : Int32) (htab : tab.before sargs s = true) (hfr : 4 ≤ R.frames) (hlo : W + 65 ≤ R.locals) :
    Back l R p e below s sargs yN len W (fun A₁ a₁ => A₁.cells + 1 ≤ R.cells ∧ A₁.slots + A.slots.size ≤ R.slots ∧ P a D fV fC b A z a₁ A₁.U) (fun A₁ _ v₁ B₁ => E a D fV fC A v₁ A₁.U B₁.U ∧ B₁.locs = A₁.locs ++ [⟨a, fC.slot⟩, ⟨a, fV.slot⟩] ∧ B₁.cells = A₁.cells + 1 ∧ B₁.slots = A₁.slots + A.slots.size) :=
  (law l a D fV fC b A z).pays htab hfr (by omega)
end New1
/-- the byte, read back as charAt reads it, is the char -/
theorem lo8_mask {x : Int32} (h0 : ¬ x < 0) (h1 : ¬ 255 < x) : lo8 x &&& 255 = x := by
  have t : ∀ k : Fin 256, lo8 (Int32.ofNat k.val) &&& 255 = Int32.ofNat k.val := by decide +kernel
  rw [Int32.lt_iff_toInt_lt] at h0 h1
  have e0 : (0 : Int32).toInt = 0 := rfl
  have e1 : (255 : Int32).toInt = 255 := rfl
  obtain ⟨k, hk⟩ : ∃ k : Nat, x.toInt = k := ⟨x.toInt.toNat, by omega⟩
  have hx : x = Int32.ofNat k := Int32.toInt_inj.mp (by rw [hk, Int32.toInt_ofNat_small (by omega)])
  rw [hx]
  exact t ⟨k, by omega⟩
end StrChars
namespace StrChars.Road
open Jvm Sem ClassFile Op Lib Jvm.Stand Jvm.Free Jvm.Free.XT
open Jvm.Lib.Cold (StaticIs)
abbrev ST : String := "java/lang/String"
/-- every table word that New1's law asks, flat -/
abbrev words : List Jvm.Cond := [.code New1.yN New1.yB 2 none, .initialized ST, .methodLink ST 27 New4.yN, .instanceMethod New4.yN,
  .code New4.yN New4.yB 6 none, .fieldLink ST 38 ST "COMPACT_STRINGS" "Z", .laysFinal ST ST "value" "[B", .fieldLink ST 9 ST "value" "[B", .laysFinal ST ST "coder" "B", .fieldLink ST 15 ST "coder" "B",
  .methodLink ST 1 Lib.objectInit, .instanceMethod Lib.objectInit, .code Lib.objectInit ⟨#[0xb1]⟩ 1 none, .methodLink ST 177 Cmp3.yN, .static Cmp3.yN, .methodLink ST 47 CodL.yN, .static CodL.yN,
  .code Cmp3.yN Cmp3.yB 6 (some (.array .byte)), .initialized U16, .arrayClass .byte, .methodLink U16 115 Cmp5.yN, .static Cmp5.yN, .code Cmp5.yN Cmp5.yB 7 (some .int), .code CodL.yN CodL.yB 2 (some .byte)]
theorem tab_of {a : Array Value} {s : State} (h : ∀ w ∈ words, w.before a s = true) : New1.tab.before a s = true := by
  have h5 : Cmp5.tab.before a s = true := unparts (wk h (.code Cmp5.yN Cmp5.yB 7 (some .int))) (wks h (.initialized Cmp5.yN.cls :: Cmp5.site))
  have hc : CodL.tab.before a s = true := unparts (wk h (.code CodL.yN CodL.yB 2 (some .byte))) (wks h (.initialized CodL.yN.cls :: CodL.site))
  have q5 : ∀ w ∈ Cmp5.tab :: words, w.before a s = true := fun w hw => (List.mem_cons.mp hw).elim (fun e => e ▸ h5) (h w)
  have h3 : Cmp3.tab.before a s = true := unparts (wk q5 (.code Cmp3.yN Cmp3.yB 6 (some (.array .byte)))) (wks q5 (.initialized Cmp3.yN.cls :: Cmp3.site))
  have q3 : ∀ w ∈ Cmp3.tab :: CodL.tab :: words, w.before a s = true := fun w hw => (List.mem_cons.mp hw).elim (fun e => e ▸ h3) fun hw => (List.mem_cons.mp hw).elim (fun e => e ▸ hc) (h w)
  have h4 : New4.tab.before a s = true := unparts (wk q3 (.code New4.yN New4.yB 6 none)) (wks q3 (.initialized New4.yN.cls :: New4.site))
  have q4 : ∀ w ∈ New4.tab :: words, w.before a s = true := fun w hw => (List.mem_cons.mp hw).elim (fun e => e ▸ h4) (h w)
  exact unparts (wk q4 (.code New1.yN New1.yB 2 none)) (wks q4 (.initialized New1.yN.cls :: New1.site))
/-- the words ride from the start Z to the walk's own state -/
theorem moved {Z s : State} {a0 args : Array Value} (hZ : Z.Warmed39 s.vm) (hw : ∀ d ∈ words, d.before a0 Z = true) : ∀ d ∈ words, d.before args s = true := fun d hd => by
  have q := hw d hd
  have t : ∀ d ∈ words, d = .arrayClass .byte ∨ (d.onTables && d.keepsFace) = true := by decide +kernel
  rcases t d hd with rfl | t
  · exact RoadKit.mvA hZ q
  · exact RoadKit.mv hZ q t
/-- WHAT COMES BACK, over the tables of the start Z: h the heap at the call, h' behind it -/
def Q (Z : State) (x : Addr) (A : Cell) (h : Heap) (v : Option Value) (h' : Heap) (L : List Loc) : Prop := v = none ∧ (∀ y ∈ L, y.base = x) ∧ RoadKit.Keep h h' [x] ∧ h'.size = h.size + 1 ∧ RoadKit.Exa Z h' x ST ∧ RoadKit.Fld Z h' x ST "value" "[B" (.ref h.size) ∧ RoadKit.Fld Z h' x ST "coder" "B" (.int 0) ∧
  (∃ V : Cell, RoadKit.Arr Z h' h.size V .byte ∧ V.vm = .none ∧ Z.vm.findClass "[B" = some V.cls ∧ V.slots.size = A.slots.size ∧ ∀ j, j < A.slots.size → V.slots[j]? = some (.int (lo8 (cv A j)))) ∧
  ∀ (O n d : String) (w : Value), RoadKit.Fld Z h x O n d w → RoadKit.slotOf Z O n d ≠ RoadKit.slotOf Z ST "value" "[B" → RoadKit.slotOf Z O n d ≠ RoadKit.slotOf Z ST "coder" "B" → RoadKit.Fld Z h' x O n d w
/-- **new String(chars) AT A CALL, IN THE ROAD'S FORM**: for specialBack behind newO: x the fresh String, b the char[] with the cell A -/
theorem back {p : Program} {l : Launch} {e : Env} {R : Room} {s : State} {args : Array Value} {below : List Frame} {len W : Nat} {Z : State} {a0 : Array Value} {h : Heap} (hZ : Z.Warmed39 s.vm) (hw : ∀ d ∈ words, d.before a0 Z = true) {kI : Nat} (wi : (Jvm.Cond.instantiable ST kI).before a0 Z = true)
    {x b : Addr} {A : Cell} {z : Int32} {v0 c0 : Value} (E : RoadKit.Exa Z h x ST) (V : RoadKit.Fld Z h x ST "value" "[B" v0) (C : RoadKit.Fld Z h x ST "coder" "B" c0) (K : RoadKit.Arr Z h b A .char) (hty : Typed .char A) (S : RoadKit.Sta Z h ST "COMPACT_STRINGS" "Z" (.int z)) (hz : ¬ z = 0)
    (l0 : 0 < A.slots.size) (l2 : A.slots.size ≤ 536870912) (hp : ∀ i, i < A.slots.size → ¬ 255 < cv A i) (hfr : 4 ≤ R.frames) (hlo : W + 65 ≤ R.locals) :
    Back l R p e below s args New1.yN len W (fun P a => a = #[.ref x, .ref b] ∧ P.U.heap = h ∧ P.cells + 1 ≤ R.cells ∧ P.slots + A.slots.size ≤ R.slots)
      (fun P _ v B => ∃ L, Q Z x A h v B.U.heap L ∧ B.locs = P.locs ++ L ∧ B.cells = P.cells + 1 ∧ B.slots = P.slots + A.slots.size) := by
  intro m meth c P g ig mk a X hg hsize hdg hW hn hp'
  obtain ⟨rfl, rfl, r1, r2⟩ := hp'
  have al : Z.vm.Alike P.U.vm := hZ.alike.trans X.warmed.alike
  obtain ⟨D, cfV, kV, iV, fV, hD, gV, stV, knV, obV, asV, slV⟩ := id V
  obtain ⟨D', cfC, kC, iC, fC, hD', gC, stC, -, -, asC, slC⟩ := id C
  cases hD.symm.trans hD'
  obtain ⟨D2, kD, e1, e2, e3, e4, e5⟩ := id E
  cases hD.symm.trans e1
  obtain ⟨c2, k2, i1, i2, i3, -⟩ := Cond.instantiable_spec wi
  cases e2.symm.trans i1
  cases e3.symm.trans i2
  obtain ⟨kU, u1, u2⟩ := al.2.2 _ _ e3
  have hB : Blank ST x D P.U := ⟨hD, ⟨knV, fun q hq => by rw [hq] at obV; cases obV⟩, by rw [al.findClass]; exact e2, kU, u1, by rw [u2]; exact i3, by rw [u2]; exact e5 i3⟩
  have F1 : Found ST "value" "[B" fV P.U := ⟨SBG.found_only al ⟨cfV, kV, iV, gV⟩, stV⟩
  have F2 : Found ST "coder" "B" fC P.U := ⟨SBG.found_only al ⟨cfC, kC, iC, gC⟩, stC⟩
  have hA : Ch b A P.U := ⟨⟨K.1, State.isArrayOf_alike al K.2.1, K.2.2, by omega⟩, hty⟩
  have hS : StaticIs P.U ST "COMPACT_STRINGS" "Z" (.int z) := by
    obtain ⟨cfS, iS, kS, fS, st, cS, t1, t2, t3, t4, t5, t6, t7⟩ := S
    exact StaticIs.there (s := { Z with heap := P.U.heap }) ⟨cfS, iS, kS, fS, st, cS, t1, t2, t3, t4, t5, (fun q => by rw [q] at t6; cases t6), t7⟩ al rfl
  obtain ⟨v, B, X', ⟨⟨hv, E', V', q1, q2, q3, q4, q5, q6, q7, q8, q9, q10, q11⟩, hl, hc, hs⟩, st⟩ := New1.pays x D fV fC b A z (tab_of (moved hZ hw)) hfr hlo m meth c P g ig mk _ X hg hsize hdg hW hn ⟨r1, r2, rfl, hB, F1, F2, hA, hS, hz, l0, l2, hp⟩
  have al' : Z.vm.Alike B.U.vm := hZ.alike.trans X'.warmed.alike
  have hsz : E'.slots.size = D.slots.size := by
    obtain ⟨-, -, -, kB, w1, w2, w3⟩ := q1
    obtain ⟨kB', y1, y2⟩ := al'.2.2 _ _ e3
    rw [q2.2.1] at w1
    cases w1.symm.trans y1
    rw [w3, e5 i3, y2]
  refine ⟨v, B, X', ⟨_, ⟨hv, ?_, ⟨by omega, fun y cy hy hn' => q10 y cy (by simpa using hn') hy, fun y cy hy => ?_⟩, q11, ⟨E', _, q1.1, by rw [q2.2.1]; exact e2, by rw [q2.2.1]; exact e3, by rw [q2.1]; exact obV, fun _ => by rw [hsz]; exact e5 i3⟩,
    ⟨E', cfV, kV, iV, fV, q1.1, gV, stV, by rw [q2.1]; exact knV, by rw [q2.1]; exact obV, by rw [q2.2.1]; exact asV, q3⟩, ⟨E', cfC, kC, iC, fC, q1.1, gC, stC, by rw [q2.1]; exact knV, by rw [q2.1]; exact obV, by rw [q2.2.1]; exact asC, q4⟩,
    ⟨V', ⟨q5.1, State.isArrayOf_alike al'.symm q5.2.1, q5.2.2.1⟩, q6, by rw [← al'.findClass]; exact q7, q8, fun j hj => by have := q9 j hj; rwa [Nat.zero_add] at this⟩, fun O n d w F n1 n2 => ?_⟩, hl, hc, hs⟩, st⟩
  · intro y hy
    simp only [List.mem_cons, List.not_mem_nil, or_false] at hy
    rcases hy with rfl | rfl <;> rfl
  · by_cases q : y = x
    · subst q
      cases hD.symm.trans hy
      exact ⟨E', q1.1, q2.2.1, q2.1, hsz⟩
    · exact ⟨cy, q10 y cy q hy, rfl, rfl, rfl⟩
  · obtain ⟨D3, cf, k, i, f, g1, g2, g3, g4, g5, g6, g7⟩ := F
    cases hD.symm.trans g1
    simp only [RoadKit.slotOf, g2, gV, gC, Option.map_some, Option.getD_some] at n1 n2
    exact ⟨E', cf, k, i, f, q1.1, g2, g3, by rw [q2.1]; exact g4, by rw [q2.1]; exact g5, by rw [q2.2.1]; exact g6, by rw [q2.2.2 f.slot (by simp [n1, n2])]; exact g7⟩
end StrChars.Road
namespace StrChars.Road
open Jvm Sem ClassFile Op Lib Jvm.Stand Jvm.Free Jvm.Free.XT
/-- WHAT COMES BACK, the byte[] as a list of values -/
def QA (Z : State) (x : Addr) (zn : Int32) (cs : List Int32) (h : Heap) (v : Option Value) (h' : Heap) (L : List Loc) : Prop := v = none ∧ (∀ y ∈ L, y.base = x) ∧ RoadKit.Keep h h' [x] ∧ h'.size = h.size + 1 ∧ RoadKit.Exa Z h' x ST ∧ RoadKit.Fld Z h' x ST "value" "[B" (.ref h.size) ∧ RoadKit.Fld Z h' x ST "coder" "B" (.int 0) ∧
  (∃ kb, Z.vm.findClass "[B" = some kb ∧ RoadKit.Arv Z h' h.size kb .byte zn (cs.map fun c => .int (lo8 c)) (.int 0)) ∧
  ∀ (O n d : String) (w : Value), RoadKit.Fld Z h x O n d w → RoadKit.slotOf Z O n d ≠ RoadKit.slotOf Z ST "value" "[B" → RoadKit.slotOf Z O n d ≠ RoadKit.slotOf Z ST "coder" "B" → RoadKit.Fld Z h' x O n d w
/-- **new String(chars) AT A CALL, THE ARRAYS AS LISTS**: the char[] at b holds cs, not empty, no char above 255 -/
theorem backArv {p : Program} {l : Launch} {e : Env} {R : Room} {s : State} {args : Array Value} {below : List Frame} {len W : Nat} {Z : State} {a0 : Array Value} {h : Heap} (hZ : Z.Warmed39 s.vm) (hw : ∀ d ∈ words, d.before a0 Z = true) {kI : Nat} (wi : (Jvm.Cond.instantiable ST kI).before a0 Z = true)
    {x b : Addr} {k : ClassId} {zn z : Int32} {cs : List Int32} {dv v0 c0 : Value} (E : RoadKit.Exa Z h x ST) (V : RoadKit.Fld Z h x ST "value" "[B" v0) (C : RoadKit.Fld Z h x ST "coder" "B" c0) (K : RoadKit.Arv Z h b k .char zn (cs.map Value.int) dv) (S : RoadKit.Sta Z h ST "COMPACT_STRINGS" "Z" (.int z)) (hz : ¬ z = 0)
    (hlen : zn.toNatClampNeg = cs.length) (h0 : 0 < cs.length) (hbig : cs.length ≤ 536870912) (hall : ∀ c ∈ cs, ¬ 255 < c) (hfr : 4 ≤ R.frames) (hlo : W + 65 ≤ R.locals) :
    Back l R p e below s args New1.yN len W (fun P a => a = #[.ref x, .ref b] ∧ P.U.heap = h ∧ P.cells + 1 ≤ R.cells ∧ P.slots + cs.length ≤ R.slots)
      (fun P _ v B => ∃ L, QA Z x zn cs h v B.U.heap L ∧ B.locs = P.locs ++ L ∧ B.cells = P.cells + 1 ∧ B.slots = P.slots + cs.length) := by
  obtain ⟨A, K1, K2, K3, K4, K5, K6⟩ := K
  have e : A.slots.size = cs.length := K3.trans hlen
  have hat : ∀ (i : Nat) (hi : i < cs.length), A.slots[i]? = some (.int cs[i]) := fun i hi => by rw [K5 i (by omega)]; simp [List.getD_eq_getElem?_getD, hi]
  have hcv : ∀ (i : Nat) (hi : i < cs.length), cv A i = cs[i] := fun i hi => by unfold cv; rw [hat i hi]
  have hty : Typed .char A := fun i v hv => by
    have hi : i < A.slots.size := (Array.getElem?_eq_some_iff.mp hv).1
    have q := K5 i hi
    rw [hv] at q
    rw [Option.some.inj q]
    exact K6 i hi
  refine Back.mono (back hZ hw wi E V C K1 hty S hz (by omega) (by omega) (fun i hi => by rw [hcv i (by omega)]; exact hall _ (List.getElem_mem _)) hfr hlo) (fun P a hp => ⟨hp.1, hp.2.1, hp.2.2.1, by rw [e]; exact hp.2.2.2⟩) (fun P a v B hp hq => ?_)
  obtain ⟨L, ⟨q1, q2, q3, q4, q5, q6, q7, ⟨V', v1, v2, v3, v4, v5⟩, q9⟩, hl, hc, hs⟩ := hq
  refine ⟨L, ⟨q1, q2, q3, q4, q5, q6, q7, ⟨V'.cls, v3, V', v1, rfl, by rw [v4, e, hlen], K4, fun i hi => ?_, fun i hi => ?_⟩, q9⟩, hl, hc, by rw [hs, e]⟩
  · have hi' : i < cs.length := by omega
    rw [v5 i (by omega), hcv i hi']; simp [List.getD_eq_getElem?_getD, hi']
  · have hi' : i < cs.length := by omega
    simp only [List.getD_eq_getElem?_getD, List.getElem?_map, List.getElem?_eq_getElem hi', Option.map_some, Option.getD_some]
    exact fits_lo8 _
end StrChars.Road
namespace StrChars.Road
open Jvm Sem ClassFile Op Lib Jvm.Stand Jvm.Free Jvm.Free.XT
/-- WHAT COMES BACK, in the writer's own shape -/
def QV (Z : State) (x : Addr) (N : Int32) (bs : List Int32) (h : Heap) (n0 : Nat) (v : Option Value) (h' : Heap) (L : List Loc) : Prop := v = none ∧ RoadKit.Fr n0 L ∧ RoadKit.Keep h h' [x] ∧ RoadKit.Exa Z h' x ST ∧ RoadKit.Fld Z h' x ST "coder" "B" (.int 0) ∧
  ∃ (t : Addr) (kb : ClassId), n0 ≤ t ∧ h.size ≤ t ∧ ¬ t = x ∧ RoadKit.Fld Z h' x ST "value" "[B" (.ref t) ∧ RoadKit.Arv Z h' t kb .byte N (bs.map Value.int) (.int 0)
/-- **new String(chars) AT A CALL, FOR THE WRITER**: a char[] of n known ints, each 0 to 255 -/
theorem backV {p : Program} {l : Launch} {e : Env} {R : Room} {s : State} {args : Array Value} {below : List Frame} {len W : Nat} {Z : State} {a0 : Array Value} {h : Heap} (hZ : Z.Warmed39 s.vm) (hw : ∀ d ∈ words, d.before a0 Z = true) {kI : Nat} (wi : (Jvm.Cond.instantiable ST kI).before a0 Z = true)
    {x b : Addr} {kC : ClassId} {cs bs : List Int32} {d v0 c0 : Value} {z N : Int32} {n n0 : Nat} (hx0 : n0 ≤ x) (hh0 : n0 ≤ h.size) (E : RoadKit.Exa Z h x ST) (V : RoadKit.Fld Z h x ST "value" "[B" v0) (C : RoadKit.Fld Z h x ST "coder" "B" c0) (K : RoadKit.Arv Z h b kC .char N (cs.map Value.int) d) (S : RoadKit.Sta Z h ST "COMPACT_STRINGS" "Z" (.int z)) (hz : ¬ z = 0)
    (hn : cs.length = n) (hN : N = Int32.ofNat n) (l0 : 0 < n) (l2 : n ≤ 4000) (hp : ∀ c ∈ cs, ¬ c < 0 ∧ ¬ (255 : Int32) < c) (hb : bs = cs.map (fun c => c.toInt8.toInt32)) (hfr : 4 ≤ R.frames) (hlo : W + 65 ≤ R.locals) :
    Back l R p e below s args (⟨"java/lang/String", "<init>", "([C)V"⟩ : MethodName) len W (fun P a => a = #[.ref x, .ref b] ∧ P.U.heap = h ∧ P.cells + 1 ≤ R.cells ∧ P.slots + n ≤ R.slots)
      (fun P _ v B => ∃ L, QV Z x N bs h n0 v B.U.heap L ∧ B.locs = P.locs ++ L ∧ B.cells = P.cells + 1 ∧ B.slots = P.slots + n) := by
  subst hn hN hb
  refine Back.mono (backArv hZ hw wi E V C K S hz (n32 (by omega)) l0 (by omega) (fun c hc => (hp c hc).2) hfr hlo) (fun P a hp => hp) (fun P a v B hp hq => ?_)
  obtain ⟨L, ⟨q1, q2, q3, q4, q5, q6, q7, ⟨kb, v1, v2⟩, q9⟩, hl, hc, hs⟩ := hq
  exact ⟨L, ⟨q1, fun y hy => by rw [q2 y hy]; exact hx0, q3, q5, q7, h.size, kb, hh0, Nat.le_refl _, Nat.ne_of_gt E.lt, q6, by rw [List.map_map]; exact v2⟩, hl, hc, hs⟩
end StrChars.Road
namespace StrChars
open Jvm Sem ClassFile Op Lib Jvm.Stand Jvm.Free.XT Jvm.Free.ALB Jvm.Free.JM Jvm.Free
open Jvm.Lib.Cold (StaticIs)
def hi8 (x : Int32) : Int32 := lo8 (x >>> ((8 : Int32) &&& 31))
/-- what StringUTF16.getChar makes of two bytes -/
def pairCh (u v : Int32) : Int32 := (((u &&& 255) <<< ((0 : Int32) &&& 31)) ||| ((v &&& 255) <<< ((8 : Int32) &&& 31))).toUInt32.toUInt16.toUInt32.toInt32
theorem shr0 (c : Int32) : c >>> ((0 : Int32) &&& 31) = c := by
  have e : ((0 : Int32) &&& 31) = 0 := by decide
  rw [e]
  apply Int32.toBitVec_inj.mp
  rw [Int32.toBitVec_shiftRight]
  have e1 : ((0 : Int32).toBitVec.smod 32) = 0#32 := by decide
  rw [e1, BitVec.sshiftRight_eq']
  exact BitVec.sshiftRight_zero
theorem lo8_and (x : Int32) : (lo8 x &&& 255).toBitVec.toNat = x.toBitVec.toNat % 256 := by
  have h : (lo8 x).toBitVec = (x.toBitVec.signExtend 8).signExtend 32 := by rw [lo8, Int8.toBitVec_toInt32, Int32.toBitVec_toInt8]
  rw [Int32.toBitVec_and, BitVec.toNat_and, h]
  have e : ((x.toBitVec.signExtend 8).signExtend 32).toNat % 256 = x.toBitVec.toNat % 256 := by
    rw [BitVec.toNat_signExtend]
    have hlt := x.toBitVec.isLt
    simp only [BitVec.toNat_setWidth, BitVec.toNat_signExtend]
    split <;> split <;> omega
  rw [← e]
  exact Nat.and_two_pow_sub_one_eq_mod _ 8
theorem pair_says {c : Int32} (h0 : ¬ c < 0) (h1 : ¬ 65535 < c) : pairCh (lo8 c) (hi8 c) = c := by
  rw [Int32.lt_iff_toInt_lt] at h0 h1
  have e0 : (0 : Int32).toInt = 0 := rfl
  have e1 : (65535 : Int32).toInt = 65535 := rfl
  have hc : c.toInt = c.toBitVec.toNat := by
    have := c.toBitVec.isLt
    have e : c.toInt = c.toBitVec.toInt := rfl
    rw [e] at h0 h1
    rw [e]
    rw [BitVec.toInt_eq_toNat_cond] at h0 h1 ⊢
    split at h0 <;> split <;> omega
  have hn : c.toBitVec.toNat < 65536 := by omega
  have a1 := lo8_and c
  have a2 : (hi8 c &&& 255).toBitVec.toNat = c.toBitVec.toNat / 256 := by
    rw [hi8, lo8_and]
    have e : ((8 : Int32) &&& 31) = 8 := by decide
    rw [e, Int32.toBitVec_shiftRight]
    have e2 : ((8 : Int32).toBitVec.smod 32) = 8#32 := by decide
    rw [e2, BitVec.sshiftRight_eq', BitVec.toNat_sshiftRight_of_msb_false (by rw [BitVec.msb_eq_false_iff_two_mul_lt]; omega)]
    show c.toBitVec.toNat >>> 8 % 256 = _
    rw [Nat.shiftRight_eq_div_pow]
    omega
  unfold pairCh
  apply Int32.toBitVec_inj.mp
  apply BitVec.eq_of_toNat_eq
  have f0 : ((0 : Int32) &&& 31) = 0 := by decide
  have f8 : ((8 : Int32) &&& 31) = 8 := by decide
  rw [f0, f8]
  have g : (((lo8 c &&& 255) <<< (0 : Int32)) ||| ((hi8 c &&& 255) <<< (8 : Int32))).toBitVec.toNat = c.toBitVec.toNat := by
    rw [Int32.toBitVec_or, Int32.toBitVec_shiftLeft, Int32.toBitVec_shiftLeft]
    have s0 : ((0 : Int32).toBitVec.smod 32) = 0#32 := by decide
    have s8 : ((8 : Int32).toBitVec.smod 32) = 8#32 := by decide
    rw [s0, s8, BitVec.toNat_or]
    simp only [BitVec.shiftLeft_eq', BitVec.toNat_shiftLeft, a1, a2]
    show (c.toBitVec.toNat % 256) <<< 0 % 2 ^ 32 ||| (c.toBitVec.toNat / 256) <<< 8 % 2 ^ 32 = _
    rw [Nat.shiftLeft_zero, Nat.mod_eq_of_lt (show c.toBitVec.toNat % 256 < 2 ^ 32 by omega), Nat.mod_eq_of_lt (show (c.toBitVec.toNat / 256) <<< 8 < 2 ^ 32 by rw [Nat.shiftLeft_eq]; omega), Nat.or_comm, ← Nat.shiftLeft_add_eq_or_of_lt (by omega), Nat.shiftLeft_eq]
    omega
  show BitVec.toNat (((((lo8 c &&& 255) <<< (0 : Int32)) ||| ((hi8 c &&& 255) <<< (8 : Int32))).toBitVec.setWidth 16).setWidth 32) = _
  rw [BitVec.toNat_setWidth, BitVec.toNat_setWidth, g]
  omega
end StrChars
namespace StrChars
open Jvm Sem ClassFile Op Lib Jvm.Stand Jvm.Free.XT Jvm.Free.ALB Jvm.Free.JM Jvm.Free
open Jvm.Lib.Cold (StaticIs)
theorem shr1 {n : Nat} (h : 2 * n < 2 ^ 31) : Int32.ofNat (2 * n) >>> ((1 : Int32) &&& 31) = Int32.ofNat n := by
  have e : ((1 : Int32) &&& 31) = 1 := by decide
  rw [e]
  apply Int32.toBitVec_inj.mp
  rw [Int32.toBitVec_shiftRight]
  have e1 : ((1 : Int32).toBitVec.smod 32) = 1#32 := by decide
  have hm : (BitVec.ofNat 32 (2 * n)).toNat = 2 * n := by rw [BitVec.toNat_ofNat, Nat.mod_eq_of_lt (by omega)]
  rw [e1, BitVec.sshiftRight_eq']
  apply BitVec.eq_of_toNat_eq
  show ((BitVec.ofNat 32 (2 * n)).sshiftRight 1).toNat = (BitVec.ofNat 32 n).toNat
  rw [BitVec.toNat_sshiftRight_of_msb_false (by rw [BitVec.msb_eq_false_iff_two_mul_lt, hm]; omega), hm, BitVec.toNat_ofNat, Nat.shiftRight_eq_div_pow]
  omega
/-- charAt's cast of a byte read back -/
def chr8 (u : Int32) : Int32 := (u &&& 255).toUInt32.toUInt16.toUInt32.toInt32
theorem chr8_lo8 {c : Int32} (h0 : ¬ c < 0) (h1 : ¬ 255 < c) : chr8 (lo8 c) = c := by
  have t : ∀ k : Fin 256, (Int32.ofNat k.val).toUInt32.toUInt16.toUInt32.toInt32 = Int32.ofNat k.val := by decide +kernel
  unfold chr8
  rw [lo8_mask h0 h1]
  rw [Int32.lt_iff_toInt_lt] at h0 h1
  have e0 : (0 : Int32).toInt = 0 := rfl
  have e1 : (255 : Int32).toInt = 255 := rfl
  obtain ⟨k, hk⟩ : ∃ k : Nat, c.toInt = k := ⟨c.toInt.toNat, by omega⟩
  have hx : c = Int32.ofNat k := Int32.toInt_inj.mp (by rw [hk, Int32.toInt_ofNat_small (by omega)])
  rw [hx]
  exact t ⟨k, by omega⟩
theorem narrow_ch {c : Int32} (h0 : ¬ c < 0) (h1 : ¬ 65535 < c) : narrow .char (.int c) = .int c := by
  have q : narrow .char (.int (pairCh (lo8 c) (hi8 c))) = .int (pairCh (lo8 c) (hi8 c)) := narrow_c _
  rwa [pair_says h0 h1] at q
/-- the array's cell V codes the n chars f 0 .. f (n - 1) by the coder cd, as the JDK does: coder 1 just where some char is above 255 -/
def Cod (cd : Int32) (n : Nat) (f : Nat → Int32) (V : Cell) : Prop := (cd = 0 ∧ V.slots.size = n ∧ ∀ j, j < n → V.slots[j]? = some (.int (lo8 (f j))) ∧ ¬ 255 < f j) ∨ (cd = 1 ∧ V.slots.size = 2 * n ∧ (∀ j, j < n → V.slots[2 * j]? = some (.int (lo8 (f j))) ∧ V.slots[2 * j + 1]? = some (.int (hi8 (f j)))) ∧ ∃ j, j < n ∧ 255 < f j)
theorem Cod.cd {cd : Int32} {n : Nat} {f : Nat → Int32} {V : Cell} (h : Cod cd n f V) : cd = 0 ∨ cd = 1 := h.imp (fun q => q.1) fun q => q.1
theorem Cod.len {cd : Int32} {n : Nat} {f : Nat → Int32} {V : Cell} (h : Cod cd n f V) (hs : V.slots.size < 2 ^ 31) : Int32.ofNat V.slots.size >>> (cd &&& 31) = Int32.ofNat n := by
  rcases h with ⟨rfl, h, -⟩ | ⟨rfl, h, -⟩
  · rw [shr0, h]
  · rw [h, shr1 (by omega)]
/-- **x is a String of the n chars f 0 .. f (n - 1)**, Latin-1 or UTF-16; its array at t has the cell V -/
def Txt (x t : Addr) (V : Cell) (cd : Int32) (n : Nat) (f : Nat → Int32) (U : State) : Prop := Exact "java/lang/String" x U ∧ Has x "java/lang/String" "value" "[B" (.ref t) U ∧ Has x "java/lang/String" "coder" "B" (.int cd) U ∧ XT.Arr .byte t V U ∧ Cod cd n f V ∧ ∀ j, j < n → ¬ f j < 0 ∧ ¬ 65535 < f j
theorem Txt.mv {x t : Addr} {V : Cell} {cd : Int32} {n : Nat} {f : Nat → Int32} {U U' : State} (h : Txt x t V cd n f U) (hal : U.vm.Alike U'.vm) (hh : U'.heap = U.heap) : Txt x t V cd n f U' := ⟨h.1.mv hal hh, h.2.1.mv hal hh, h.2.2.1.mv hal hh, h.2.2.2.1.mv hal hh, h.2.2.2.2⟩
namespace Cdr
def yN : MethodName := ⟨"java/lang/String", "coder", "()B"⟩
abbrev yB : ByteArray := jdk_42_method_152_code
theorem d0 : decode yB 0 = .ok (.getstatic 38, 3) := by decide +kernel
theorem d3 : decode yB 3 = .ok (.ifCond (.eq) 10, 3) := by decide +kernel
theorem d6 : decode yB 6 = .ok (.aload_n 0, 1) := by decide +kernel
theorem d7 : decode yB 7 = .ok (.getfield 15, 3) := by decide +kernel
theorem d10 : decode yB 10 = .ok (.goto 4, 3) := by decide +kernel
theorem d14 : decode yB 14 = .ok (.ireturn, 1) := by decide +kernel
def site : List Cond := [.fieldLink "java/lang/String" 38 "java/lang/String" "COMPACT_STRINGS" "Z", .fieldLink "java/lang/String" 15 "java/lang/String" "coder" "B"]
def tab : Cond := tabOf yN yB 1 (some .byte) site
def P (x : Addr) (cd z : Int32) (args : Array Value) (s : State) : Prop := args = #[.ref x] ∧ Has x "java/lang/String" "coder" "B" (.int cd) s ∧ (cd = 0 ∨ cd = 1) ∧ StaticIs s "java/lang/String" "COMPACT_STRINGS" "Z" (.int z) ∧ ¬ z = 0
def E (cd : Int32) (r : Option Value) (s u : State) : Prop := XT.PureE (some (.int cd)) r s u
theorem law (l : Launch) (x : Addr) (cd z : Int32) : Law l yN 1 0 0 0 yB 1 (some .byte) site (P x cd z) (E cd) [] 0 0 := by
  refine Law.of_walk (plainFor_of_name (by decide +kernel)) (by decide +kernel) (by decide +kernel) (by decide) (fun _ _ h => by rw [h.1]; rfl) (fun _ U U' hal hh h => ⟨h.1, h.2.1.mv hal hh, h.2.2.1, h.2.2.2.1.there hal hh, h.2.2.2.2⟩) (fun r U U' V V' h1 hal h2 h => XT.PureE.mv r U U' V V' h1 hal h2 h) ?_
  intro p e s m args below meth c s₁ X0 hexec hbytes hml hret hlk hnm hown hh0 W hP
  obtain ⟨rfl, hx, hc, s1, hz⟩ := hP
  have c1 : Steps p.tables e below (s₁.setTop (entryFrame m #[.ref x] 1)) (s₁.setTop (mkF m 0 #[.val (.ref x)] [])) := entry rfl
  obtain ⟨T2, X2, q2, st2⟩ := X0.sget hexec hown (wk W (.fieldLink "java/lang/String" 38 "java/lang/String" "COMPACT_STRINGS" "Z")) s1 (fun _ _ h => by rw [hh0]; exact h) (g := (mkF m 0 #[.val (.ref x)] [])) rfl (hb hbytes d0)
  have hh2 := q2.trans hh0
  have c3 : Steps p.tables e below (s₁.setTop (entryFrame m #[.ref x] 1)) (T2.setTop (mkF m 7 #[.val (.ref x)] [.ref x])) := (c1.trans (st2 _ (Steps.refl _))).trans (by
    refine XS.ifNo X2.here hexec rfl (hb hbytes d3) rfl (i0_eq_f hz) ?_
    refine XS.aloadN X2.here hexec rfl (hb hbytes d6) rfl rfl ?_
    exact Steps.refl _)
  obtain ⟨T4, X4, q4, st4⟩ := X2.hget hexec hown (wk W (.fieldLink "java/lang/String" 15 "java/lang/String" "coder" "B")) (hx.mv X2.warmed.alike hh2) (g := (mkF m 7 #[.val (.ref x)] [.ref x])) rfl (rest := []) rfl (hb hbytes d7)
  have c5 : Steps p.tables e below (s₁.setTop (entryFrame m #[.ref x] 1)) (T4.setTop (mkF m 14 #[.val (.ref x)] [.int cd])) := (c3.trans (st4 _ (Steps.refl _))).trans (by
    refine XS.goto X4.here hexec rfl (pc0 := 10) rfl (hb hbytes d10) (by decide) rfl ?_
    exact Steps.refl _)
  exact ⟨T4, some (.int cd), _, _, _, X4, rfl, rfl, rfl, (fun h => by cases h), ⟨rfl, q4.trans hh2⟩, fun fs hl => c5.trans (X4.ireturnOut hexec hret (by rcases hc with rfl | rfl <;> rfl) (Or.inr (Or.inr (Or.inl rfl))) (hb hbytes d14) hl)⟩
end Cdr
namespace Len
def yN : MethodName := ⟨"java/lang/String", "length", "()I"⟩
abbrev yB : ByteArray := jdk_42_method_54_code
theorem d0 : decode yB 0 = .ok (.aload_n 0, 1) := by decide +kernel
theorem d1 : decode yB 1 = .ok (.getfield 9, 3) := by decide +kernel
theorem d4 : decode yB 4 = .ok (.arraylength, 1) := by decide +kernel
theorem d5 : decode yB 5 = .ok (.aload_n 0, 1) := by decide +kernel
theorem d6 : decode yB 6 = .ok (.invokevirtual 335, 3) := by decide +kernel
theorem d9 : decode yB 9 = .ok (.ishr, 1) := by decide +kernel
theorem d10 : decode yB 10 = .ok (.ireturn, 1) := by decide +kernel
def site : List Cond := [.fieldLink "java/lang/String" 9 "java/lang/String" "value" "[B", Cdr.tab] ++ virtW "java/lang/String" 335 "java/lang/String" Cdr.yN Cdr.yN
def tab : Cond := tabOf yN yB 1 (some .int) site
def P (x t : Addr) (V : Cell) (cd : Int32) (n : Nat) (f : Nat → Int32) (z : Int32) (args : Array Value) (s : State) : Prop := args = #[.ref x] ∧ Txt x t V cd n f s ∧ StaticIs s "java/lang/String" "COMPACT_STRINGS" "Z" (.int z) ∧ ¬ z = 0
def E (n : Nat) (r : Option Value) (s u : State) : Prop := XT.PureE (some (.int (Int32.ofNat n))) r s u
/-- length() of a String of n chars, in either coding -/
theorem law (l : Launch) (x t : Addr) (V : Cell) (cd : Int32) (n : Nat) (f : Nat → Int32) (z : Int32) : Law l yN 1 0 1 13 yB 1 (some .int) site (P x t V cd n f z) (E n) [] 0 0 := by
  refine Law.of_walk (plainFor_of_name (by decide +kernel)) (by decide +kernel) (by decide +kernel) (by decide) (fun _ _ h => by rw [h.1]; rfl) (fun _ U U' hal hh h => ⟨h.1, h.2.1.mv hal hh, h.2.2.1.there hal hh, h.2.2.2⟩) (fun r U U' V V' h1 hal h2 h => XT.PureE.mv r U U' V V' h1 hal h2 h) ?_
  intro p e s m args below meth c s₁ X0 hexec hbytes hml hret hlk hnm hown hh0 W hP
  obtain ⟨rfl, hx, s1, hz⟩ := hP
  have v31 := hx.2.2.2.1.2.2.2
  have c1 : Steps p.tables e below (s₁.setTop (entryFrame m #[.ref x] 1)) (s₁.setTop (mkF m 1 #[.val (.ref x)] [.ref x])) := Steps.trans (entry rfl) (by
    show Steps p.tables e below (s₁.setTop (mkF m 0 #[.val (.ref x)] [])) _
    refine XS.aloadN X0.here hexec rfl (hb hbytes d0) rfl rfl ?_
    exact Steps.refl _)
  obtain ⟨T2, X2, q2, st2⟩ := X0.hget hexec hown (wk W (.fieldLink "java/lang/String" 9 "java/lang/String" "value" "[B")) (hx.mv X0.warmed.alike hh0).2.1 (g := (mkF m 1 #[.val (.ref x)] [.ref x])) rfl (rest := []) rfl (hb hbytes d1)
  have hh2 := q2.trans hh0
  have hx2 := hx.mv X2.warmed.alike hh2
  have c3 : Steps p.tables e below (s₁.setTop (entryFrame m #[.ref x] 1)) (T2.setTop (mkF m 6 #[.val (.ref x)] [.ref x, .int (Int32.ofNat V.slots.size)])) := (c1.trans (st2 _ (Steps.refl _))).trans (by
    refine X2.alen hexec hx2.2.2.2.1 rfl rfl (hb hbytes d4) ?_
    refine XS.aloadN X2.here hexec rfl (hb hbytes d5) rfl rfl ?_
    exact Steps.refl _)
  obtain ⟨v4, T4, X4, E4, g4⟩ := X2.callV hexec (Cdr.law l x cd z) hown (wks W (virtW "java/lang/String" 335 "java/lang/String" Cdr.yN Cdr.yN)) rfl (by decide) (wk W Cdr.tab) (W := 1) (Nat.le_of_ble_eq_true rfl) (Nat.le_of_ble_eq_true rfl) (Nat.le_refl _) (Nat.le_refl _) (hx2.1.fc X2.warmed.alike) hx2.1.is (g := (mkF m 6 #[.val (.ref x)] [.ref x, .int (Int32.ofNat V.slots.size)])) rfl (by rw [hml]; rfl) c3 (argsL := []) (rest := [.int (Int32.ofNat V.slots.size)]) rfl rfl (by show 2 * 0 + (1 + 0) ≤ _; decide) (hb hbytes d6) (⟨rfl, hx2.2.2.1, hx.2.2.2.2.1.cd, s1.there X2.warmed.alike hh2, hz⟩)
  obtain ⟨rfl, q4⟩ := E4
  have c5 : Steps p.tables e below (s₁.setTop (entryFrame m #[.ref x] 1)) (T4.setTop (mkF m 10 #[.val (.ref x)] [.int (Int32.ofNat V.slots.size >>> (cd &&& 31))])) := Steps.trans g4 (by
    refine ishr X4.here hexec rfl (hb hbytes d9) rfl ?_
    exact Steps.refl _)
  rw [hx.2.2.2.2.1.len v31] at c5
  exact ⟨T4, some (.int (Int32.ofNat n)), _, _, _, X4, rfl, rfl, rfl, (fun h => by cases h), ⟨rfl, q4.trans hh2⟩, fun fs hl => c5.trans (X4.ireturnOut hexec hret rfl (Or.inl rfl) (hb hbytes d10) hl)⟩
theorem pays {l : Launch} {R : Room} {p : Program} {e : Env} {below : List Frame} {s : State} {sargs : Array Value} {len W : Nat} (x t : Addr) (V : Cell) (cd : Int32) (n : Nat) (f : Nat → Int32) (z : Int32) (htab : tab.before sargs s = true) (hfr : 2 ≤ R.frames) (hlo : W + 25 ≤ R.locals) :
    Back l R p e below s sargs yN len W (fun A₁ a₁ => A₁.cells + 0 ≤ R.cells ∧ A₁.slots + 0 ≤ R.slots ∧ P x t V cd n f z a₁ A₁.U) (fun A₁ _ v₁ B₁ => E n v₁ A₁.U B₁.U ∧ B₁.locs = A₁.locs ++ [] ∧ B₁.cells = A₁.cells + 0 ∧ B₁.slots = A₁.slots + 0) :=
  (law l x t V cd n f z).pays htab hfr (by omega)
end Len
namespace IsL
def yN : MethodName := ⟨"java/lang/String", "isLatin1", "()Z"⟩
abbrev yB : ByteArray := jdk_42_method_154_code
theorem d0 : decode yB 0 = .ok (.getstatic 38, 3) := by decide +kernel
theorem d3 : decode yB 3 = .ok (.ifCond (.eq) 14, 3) := by decide +kernel
theorem d6 : decode yB 6 = .ok (.aload_n 0, 1) := by decide +kernel
theorem d7 : decode yB 7 = .ok (.getfield 15, 3) := by decide +kernel
theorem d10 : decode yB 10 = .ok (.ifCond (.ne) 7, 3) := by decide +kernel
theorem d13 : decode yB 13 = .ok (.iconst 1, 1) := by decide +kernel
theorem d14 : decode yB 14 = .ok (.goto 4, 3) := by decide +kernel
theorem d17 : decode yB 17 = .ok (.iconst 0, 1) := by decide +kernel
theorem d18 : decode yB 18 = .ok (.ireturn, 1) := by decide +kernel
def site : List Cond := [.fieldLink "java/lang/String" 38 "java/lang/String" "COMPACT_STRINGS" "Z", .fieldLink "java/lang/String" 15 "java/lang/String" "coder" "B"]
def tab : Cond := tabOf yN yB 1 (some .boolean) site
def P (x : Addr) (cd z : Int32) (args : Array Value) (s : State) : Prop := args = #[.ref x] ∧ Has x "java/lang/String" "coder" "B" (.int cd) s ∧ (cd = 0 ∨ cd = 1) ∧ StaticIs s "java/lang/String" "COMPACT_STRINGS" "Z" (.int z) ∧ ¬ z = 0
def E (cd : Int32) (r : Option Value) (s u : State) : Prop := XT.PureE (some (.int (1 - cd))) r s u
theorem law (l : Launch) (x : Addr) (cd z : Int32) : Law l yN 1 0 0 0 yB 1 (some .boolean) site (P x cd z) (E cd) [] 0 0 := by
  refine Law.of_walk (plainFor_of_name (by decide +kernel)) (by decide +kernel) (by decide +kernel) (by decide) (fun _ _ h => by rw [h.1]; rfl) (fun _ U U' hal hh h => ⟨h.1, h.2.1.mv hal hh, h.2.2.1, h.2.2.2.1.there hal hh, h.2.2.2.2⟩) (fun r U U' V V' h1 hal h2 h => XT.PureE.mv r U U' V V' h1 hal h2 h) ?_
  intro p e s m args below meth c s₁ X0 hexec hbytes hml hret hlk hnm hown hh0 W hP
  obtain ⟨rfl, hx, hc, s1, hz⟩ := hP
  have c1 : Steps p.tables e below (s₁.setTop (entryFrame m #[.ref x] 1)) (s₁.setTop (mkF m 0 #[.val (.ref x)] [])) := entry rfl
  obtain ⟨T2, X2, q2, st2⟩ := X0.sget hexec hown (wk W (.fieldLink "java/lang/String" 38 "java/lang/String" "COMPACT_STRINGS" "Z")) s1 (fun _ _ h => by rw [hh0]; exact h) (g := (mkF m 0 #[.val (.ref x)] [])) rfl (hb hbytes d0)
  have hh2 := q2.trans hh0
  have c3 : Steps p.tables e below (s₁.setTop (entryFrame m #[.ref x] 1)) (T2.setTop (mkF m 7 #[.val (.ref x)] [.ref x])) := (c1.trans (st2 _ (Steps.refl _))).trans (by
    refine XS.ifNo X2.here hexec rfl (hb hbytes d3) rfl (i0_eq_f hz) ?_
    refine XS.aloadN X2.here hexec rfl (hb hbytes d6) rfl rfl ?_
    exact Steps.refl _)
  obtain ⟨T4, X4, q4, st4⟩ := X2.hget hexec hown (wk W (.fieldLink "java/lang/String" 15 "java/lang/String" "coder" "B")) (hx.mv X2.warmed.alike hh2) (g := (mkF m 7 #[.val (.ref x)] [.ref x])) rfl (rest := []) rfl (hb hbytes d7)
  have c5 : Steps p.tables e below (s₁.setTop (entryFrame m #[.ref x] 1)) (T4.setTop (mkF m 10 #[.val (.ref x)] [.int cd])) := c3.trans (st4 _ (Steps.refl _))
  have c6 : Steps p.tables e below (s₁.setTop (entryFrame m #[.ref x] 1)) (T4.setTop (mkF m 18 #[.val (.ref x)] [.int (1 - cd)])) := by
    rcases hc with rfl | rfl
    · exact c5.trans (by
        refine XS.ifNo X4.here hexec rfl (hb hbytes d10) rfl (i0_ne_f rfl) ?_
        refine iconstV X4.here hexec rfl 1 (hb hbytes d13) (by decide) ?_
        refine XS.goto X4.here hexec rfl (pc0 := 14) rfl (hb hbytes d14) (by decide) rfl ?_
        exact Steps.refl _)
    · exact c5.trans (by
        refine XS.ifYes X4.here hexec rfl (pc0 := 10) rfl (hb hbytes d10) rfl (i0_ne_t (by decide)) (by decide) rfl ?_
        refine iconstV X4.here hexec rfl 0 (hb hbytes d17) (by decide) ?_
        exact Steps.refl _)
  exact ⟨T4, some (.int (1 - cd)), _, _, _, X4, rfl, rfl, rfl, (fun h => by cases h), ⟨rfl, q4.trans hh2⟩, fun fs hl => c6.trans (X4.ireturnOut hexec hret (by rcases hc with rfl | rfl <;> rfl) (Or.inr (Or.inl rfl)) (hb hbytes d18) hl)⟩
end IsL
namespace LChA
def yN : MethodName := ⟨"java/lang/StringLatin1", "charAt", "([BI)C"⟩
abbrev yB : ByteArray := jdk_43_method_2_code
theorem d0 : decode yB 0 = .ok (.iload_n 1, 1) := by decide +kernel
theorem d1 : decode yB 1 = .ok (.aload_n 0, 1) := by decide +kernel
theorem d2 : decode yB 2 = .ok (.arraylength, 1) := by decide +kernel
theorem d3 : decode yB 3 = .ok (.invokestatic 9, 3) := by decide +kernel
theorem d6 : decode yB 6 = .ok (.aload_n 0, 1) := by decide +kernel
theorem d7 : decode yB 7 = .ok (.iload_n 1, 1) := by decide +kernel
theorem d8 : decode yB 8 = .ok (.baload, 1) := by decide +kernel
theorem d9 : decode yB 9 = .ok (.sipush 255, 3) := by decide +kernel
theorem d12 : decode yB 12 = .ok (.iand, 1) := by decide +kernel
theorem d13 : decode yB 13 = .ok (.i2c, 1) := by decide +kernel
theorem d14 : decode yB 14 = .ok (.ireturn, 1) := by decide +kernel
def site : List Cond := [JO.Str_checkIndex.tab] ++ staticW "java/lang/StringLatin1" 9 JO.Str_checkIndex.yN
def tab : Cond := tabOf yN yB 2 (some .char) site
def P (t : Addr) (V : Cell) (i : Nat) (u : Int32) (fm : Value) (args : Array Value) (s : State) : Prop := args = #[.ref t, .int (Int32.ofNat i)] ∧ XT.Arr .byte t V s ∧ V.slots[i]? = some (.int u) ∧ (StaticIs s "jdk/internal/util/Preconditions" "SIOOBE_FORMATTER" "Ljava/util/function/BiFunction;" fm ∧ fm.isRef = true)
def E (u : Int32) (r : Option Value) (s w : State) : Prop := XT.PureE (some (.int (chr8 u))) r s w
theorem law (l : Launch) (t : Addr) (V : Cell) (i : Nat) (u : Int32) (fm : Value) : Law l yN 2 2 2 27 yB 2 (some .char) site (P t V i u fm) (E u) [] 0 0 := by
  refine Law.of_walk (plainFor_of_name (by decide +kernel)) (by decide +kernel) (by decide +kernel) (by decide) (fun _ _ h => by rw [h.1]; rfl) (fun _ U U' hal hh h => ⟨h.1, h.2.1.mv hal hh, h.2.2.1, h.2.2.2.1.there hal hh, h.2.2.2.2⟩) (fun r U U' V V' h1 hal h2 h => XT.PureE.mv r U U' V V' h1 hal h2 h) ?_
  intro p e s m args below meth c s₁ X0 hexec hbytes hml hret hlk hnm hown hh0 W hP
  obtain ⟨rfl, hV, hu, s1, rf⟩ := hP
  have v31 := hV.2.2.2
  have hi : i < V.slots.size := (Array.getElem?_eq_some_iff.mp hu).1
  have c1 : Steps p.tables e below (s₁.setTop (entryFrame m #[.ref t, .int (Int32.ofNat i)] 2)) (s₁.setTop (mkF m 0 #[.val (.ref t), .val (.int (Int32.ofNat i))] [])) := entry rfl
  have c2 : Steps p.tables e below (s₁.setTop (entryFrame m #[.ref t, .int (Int32.ofNat i)] 2)) (s₁.setTop (mkF m 3 #[.val (.ref t), .val (.int (Int32.ofNat i))] [.int (Int32.ofNat V.slots.size), .int (Int32.ofNat i)])) := c1.trans (by
    refine XS.iloadN X0.here hexec rfl (hb hbytes d0) rfl ?_
    refine XS.aloadN X0.here hexec rfl (hb hbytes d1) rfl rfl ?_
    refine X0.alen hexec (hV.mv X0.warmed.alike hh0) rfl rfl (hb hbytes d2) ?_
    exact Steps.refl _)
  obtain ⟨v3, T3, X3, E3, g3⟩ := X0.callS hexec (JO.Str_checkIndex.law l (Int32.ofNat i) (Int32.ofNat V.slots.size) fm) hown (wks W (staticW "java/lang/StringLatin1" 9 JO.Str_checkIndex.yN)) (wk W JO.Str_checkIndex.tab) (W := 0) (Nat.le_of_ble_eq_true rfl) (Nat.le_of_ble_eq_true rfl) (Nat.le_refl _) (Nat.le_refl _) (g := (mkF m 3 #[.val (.ref t), .val (.int (Int32.ofNat i))] [.int (Int32.ofNat V.slots.size), .int (Int32.ofNat i)])) rfl (by rw [hml]; rfl) c2 (argsL := [.int (Int32.ofNat i), .int (Int32.ofNat V.slots.size)]) (rest := []) rfl rfl (by show 2 * 0 + 0 ≤ _; decide) (hb hbytes d3) (⟨rfl, rf, s1.there X0.warmed.alike hh0, Int32.ofNat_not_neg (by omega), lt32 v31 hi⟩)
  obtain ⟨rfl, q3⟩ := E3
  have hh3 := q3.trans hh0
  have c4 : Steps p.tables e below (s₁.setTop (entryFrame m #[.ref t, .int (Int32.ofNat i)] 2)) (T3.setTop (mkF m 14 #[.val (.ref t), .val (.int (Int32.ofNat i))] [.int (chr8 u)])) := Steps.trans g3 (by
    refine XS.aloadN X3.here hexec rfl (hb hbytes d6) rfl rfl ?_
    refine XS.iloadN X3.here hexec rfl (hb hbytes d7) rfl ?_
    refine X3.aget hexec (hV.mv X3.warmed.alike hh3) rfl hu rfl rfl (hb hbytes d8) ?_
    refine sipushV X3.here hexec rfl 255 (hb hbytes d9) (by decide) ?_
    refine XS.iand X3.here hexec rfl (hb hbytes d12) rfl ?_
    refine i2c X3.here hexec rfl (hb hbytes d13) rfl ?_
    exact Steps.refl _)
  exact ⟨T3, some (.int (chr8 u)), _, _, _, X3, rfl, rfl, rfl, (fun h => by cases h), ⟨rfl, hh3⟩, fun fs hl => c4.trans (X3.ireturnOut hexec hret (narrow_c _) (Or.inr (Or.inr (Or.inr (Or.inl rfl)))) (hb hbytes d14) hl)⟩
end LChA
end StrChars
namespace StrChars.Road
open Jvm Sem ClassFile Op Lib Jvm.Stand Jvm.Free Jvm.Free.XT
open Jvm.Lib.Cold (StaticIs)
theorem consq {a : Array Value} {s : State} {c : Jvm.Cond} {L : List Jvm.Cond} (h0 : c.before a s = true) (h : ∀ w ∈ L, w.before a s = true) : ∀ w ∈ c :: L, w.before a s = true := fun w hw => (List.mem_cons.mp hw).elim (fun e => e ▸ h0) (h w)
/-- the words of String.length(), either coding -/
abbrev wordsLen : List Jvm.Cond := [.code Len.yN Len.yB 1 (some .int), .initialized ST, .fieldLink ST 9 ST "value" "[B", .fieldLink ST 38 ST "COMPACT_STRINGS" "Z", .fieldLink ST 15 ST "coder" "B", .code Cdr.yN Cdr.yB 1 (some .byte), .methodLink ST 335 Cdr.yN, .declares Cdr.yN, .selects ST Cdr.yN Cdr.yN, .instanceMethod Cdr.yN]
theorem tabLen_of {a : Array Value} {s : State} (h : ∀ w ∈ wordsLen, w.before a s = true) : Len.tab.before a s = true := by
  have hc : Cdr.tab.before a s = true := unparts (wk h (.code Cdr.yN Cdr.yB 1 (some .byte))) (wks h (.initialized Cdr.yN.cls :: Cdr.site))
  have q := consq hc h
  exact unparts (wk q (.code Len.yN Len.yB 1 (some .int))) (wks q (.initialized Len.yN.cls :: Len.site))
theorem movedLen {Z s : State} {a0 args : Array Value} (hZ : Z.Warmed39 s.vm) (hw : ∀ d ∈ wordsLen, d.before a0 Z = true) : ∀ d ∈ wordsLen, d.before args s = true := fun d hd => by
  have q := hw d hd
  have t : ∀ d ∈ wordsLen, d = .arrayClass .byte ∨ (d.onTables && d.keepsFace) = true := by decide +kernel
  rcases t d hd with rfl | t
  · exact RoadKit.mvA hZ q
  · exact RoadKit.mv hZ q t
/-- the bytes of the chars cs, low before high -/
def wideBytes : List Int32 → List Value
  | [] => []
  | c :: cs => .int (lo8 c) :: .int (hi8 c) :: wideBytes cs
theorem wide_lo (d : Value) : ∀ (cs : List Int32) (j : Nat), j < cs.length → (wideBytes cs).getD (2 * j) d = .int (lo8 (cs.getD j 0))
  | [], j, h => absurd h (Nat.not_lt_zero j)
  | c :: cs, 0, _ => rfl
  | c :: cs, j + 1, h => by
    have q := wide_lo d cs j (by simpa using h)
    rw [show 2 * (j + 1) = 2 * j + 1 + 1 from by omega]
    simpa [wideBytes] using q
theorem wide_hi (d : Value) : ∀ (cs : List Int32) (j : Nat), j < cs.length → (wideBytes cs).getD (2 * j + 1) d = .int (hi8 (cs.getD j 0))
  | [], j, h => absurd h (Nat.not_lt_zero j)
  | c :: cs, 0, _ => rfl
  | c :: cs, j + 1, h => by
    have q := wide_hi d cs j (by simpa using h)
    rw [show 2 * (j + 1) + 1 = 2 * j + 1 + 1 + 1 from by omega]
    simpa [wideBytes] using q
theorem low_at (d : Value) (cs : List Int32) (j : Nat) (h : j < cs.length) : (cs.map fun c => Value.int (lo8 c)).getD j d = .int (lo8 (cs.getD j 0)) := by
  simp [List.getD_eq_getElem?_getD, h]
/-- an array of N2 bytes vs codes the chars cs by the coder cd -/
def CodA (cs : List Int32) (cd N2 : Int32) (vs : List Value) : Prop := (cd = 0 ∧ N2 = Int32.ofNat cs.length ∧ vs = (cs.map fun c => Value.int (lo8 c)) ∧ ∀ c ∈ cs, ¬ 255 < c) ∨ (cd = 1 ∧ N2 = Int32.ofNat (2 * cs.length) ∧ vs = wideBytes cs ∧ ∃ c ∈ cs, 255 < c)
theorem CodA.cod {cs : List Int32} {cd N2 : Int32} {vs : List Value} {V : Cell} (h : CodA cs cd N2 vs) (hn : 2 * cs.length < 2 ^ 31) (hs : V.slots.size = N2.toNatClampNeg) (hv : RoadKit.Has V vs (.int 0)) : Cod cd cs.length (fun j => cs.getD j 0) V := by
  rcases h with ⟨rfl, rfl, rfl, h⟩ | ⟨rfl, rfl, rfl, c, hc, hw⟩
  · rw [n32 (by omega)] at hs
    exact Or.inl ⟨rfl, hs, fun j hj => ⟨by rw [hv j (by omega), low_at _ _ _ hj], by
      have e : cs.getD j 0 = cs[j] := by simp [List.getD_eq_getElem?_getD, hj]
      show ¬ 255 < cs.getD j 0
      rw [e]; exact h _ (List.getElem_mem _)⟩⟩
  · rw [n32 (by omega)] at hs
    obtain ⟨j, hj, rfl⟩ := List.getElem_of_mem hc
    exact Or.inr ⟨rfl, hs, fun j hj => ⟨by rw [hv _ (by omega), wide_lo _ _ _ hj], by rw [hv _ (by omega), wide_hi _ _ _ hj]⟩, j, hj, by
      have e : cs.getD j 0 = cs[j] := by simp [List.getD_eq_getElem?_getD, hj]
      show 255 < cs.getD j 0
      rw [e]; exact hw⟩
/-- an object of exactly java/lang/String, its two fields found: as the laws ask it -/
theorem strObj {Z U : State} {a0 : Array Value} {kI : Nat} (wi : (Jvm.Cond.instantiable ST kI).before a0 Z = true) (al : Z.vm.Alike U.vm) {x : Addr} {v0 c0 : Value} (E : RoadKit.Exa Z U.heap x ST) (V : RoadKit.Fld Z U.heap x ST "value" "[B" v0) (C : RoadKit.Fld Z U.heap x ST "coder" "B" c0) :
    ∃ (D : Cell) (fV fC : Field), Blank ST x D U ∧ Found ST "value" "[B" fV U ∧ Found ST "coder" "B" fC U ∧ D.slots[fV.slot]? = some v0 ∧ D.slots[fC.slot]? = some c0 ∧ RoadKit.slotOf Z ST "value" "[B" = fV.slot ∧ RoadKit.slotOf Z ST "coder" "B" = fC.slot := by
  obtain ⟨D, cfV, kV, iV, fV, hD, gV, stV, knV, obV, asV, slV⟩ := V
  obtain ⟨D', cfC, kC, iC, fC, hD', gC, stC, -, -, asC, slC⟩ := C
  cases hD.symm.trans hD'
  obtain ⟨D2, kD, e1, e2, e3, e4, e5⟩ := E
  cases hD.symm.trans e1
  obtain ⟨c2, k2, i1, i2, i3, -⟩ := Cond.instantiable_spec wi
  cases e2.symm.trans i1
  cases e3.symm.trans i2
  obtain ⟨kU, u1, u2⟩ := al.2.2 _ _ e3
  exact ⟨D, fV, fC, ⟨hD, ⟨knV, fun q hq => by rw [hq] at obV; cases obV⟩, by rw [al.findClass]; exact e2, kU, u1, by rw [u2]; exact i3, by rw [u2]; exact e5 i3⟩, ⟨SBG.found_only al ⟨cfV, kV, iV, gV⟩, stV⟩, ⟨SBG.found_only al ⟨cfC, kC, iC, gC⟩, stC⟩, slV, slC, by simp [RoadKit.slotOf, gV], by simp [RoadKit.slotOf, gC]⟩
theorem sta_is {Z U : State} (al : Z.vm.Alike U.vm) {C n d : String} {v : Value} (S : RoadKit.Sta Z U.heap C n d v) : StaticIs U C n d v := by
  obtain ⟨cfS, iS, kS, fS, st, cS, t1, t2, t3, t4, t5, t6, t7⟩ := S
  exact StaticIs.there (s := { Z with heap := U.heap }) ⟨cfS, iS, kS, fS, st, cS, t1, t2, t3, t4, t5, (fun q => by rw [q] at t6; cases t6), t7⟩ al rfl
/-- **length() OF SUCH A STRING** -/
theorem lenW {p : Program} {l : Launch} {e : Env} {R : Room} {s : State} {args : Array Value} {below : List Frame} {len W : Nat} {Z : State} {a0 : Array Value} {h : Heap} (hZ : Z.Warmed39 s.vm) (hw : ∀ d ∈ wordsLen, d.before a0 Z = true) {kI : Nat} (wi : (Jvm.Cond.instantiable ST kI).before a0 Z = true)
    {x t : Addr} {kb : ClassId} {cs : List Int32} {cd N2 z : Int32} {vs : List Value} (E : RoadKit.Exa Z h x ST) (V : RoadKit.Fld Z h x ST "value" "[B" (.ref t)) (C : RoadKit.Fld Z h x ST "coder" "B" (.int cd)) (K : RoadKit.Arv Z h t kb .byte N2 vs (.int 0)) (hc : CodA cs cd N2 vs) (hb : ∀ c ∈ cs, ¬ c < 0 ∧ ¬ (65535 : Int32) < c)
    (S : RoadKit.Sta Z h ST "COMPACT_STRINGS" "Z" (.int z)) (hz : ¬ z = 0) (l2 : cs.length ≤ 4000) (hfr : 2 ≤ R.frames) (hlo : W + 25 ≤ R.locals) :
    Back l R p e below s args (⟨"java/lang/String", "length", "()I"⟩ : MethodName) len W (fun P a => a = #[.ref x] ∧ P.U.heap = h ∧ P.cells + 0 ≤ R.cells ∧ P.slots + 0 ≤ R.slots)
      (fun P _ v B => ∃ L, (v = some (.int (Int32.ofNat cs.length)) ∧ L = [] ∧ B.U.heap = h) ∧ B.locs = P.locs ++ L ∧ B.cells = P.cells + 0 ∧ B.slots = P.slots + 0) := by
  obtain ⟨A, K1, K2, K3, K4, K5, K6⟩ := K
  have hcod := hc.cod (by omega) K3 K5
  intro m meth c P g ig mk a X hg hsize hdg hW hn hp'
  obtain ⟨rfl, rfl, r1, r2⟩ := hp'
  have al : Z.vm.Alike P.U.vm := hZ.alike.trans X.warmed.alike
  obtain ⟨D, fV, fC, hB, F1, F2, g1, g2, -, -⟩ := strObj wi al E V C
  have hx : Txt x t A cd cs.length (fun j => cs.getD j 0) P.U := ⟨⟨_, hB.2.2.1, D, hB.1, rfl, by cases q : D.vm <;> first | rfl | exact absurd q (hB.2.1.2 _)⟩, Has.of hB F1 g1, Has.of hB F2 g2, ⟨K1.1, State.isArrayOf_alike al K1.2.1, K1.2.2, by rcases hcod with ⟨-, q, -⟩ | ⟨-, q, -⟩ <;> omega⟩, hcod, fun j hj => by
    have e : cs.getD j 0 = cs[j] := by simp [List.getD_eq_getElem?_getD, hj]
    show ¬ cs.getD j 0 < 0 ∧ ¬ 65535 < cs.getD j 0
    rw [e]; exact hb _ (List.getElem_mem _)⟩
  obtain ⟨v, B, X', ⟨⟨hv, hh⟩, hl, hk, hs⟩, st⟩ := Len.pays x t A cd cs.length (fun j => cs.getD j 0) z (tabLen_of (movedLen hZ hw)) hfr hlo m meth c P g ig mk _ X hg hsize hdg hW hn ⟨r1, r2, rfl, hx, sta_is al S, hz⟩
  exact ⟨v, B, X', ⟨[], ⟨hv, rfl, hh⟩, hl, hk, hs⟩, st⟩
end StrChars.Road
namespace StrChars.Road
open Jvm Sem ClassFile Op Lib Jvm.Stand Jvm.Free Jvm.Free.XT
open Jvm.Lib.Cold (StaticIs)
/-- the road's facts of a String, as the laws ask it -/
theorem txt_of {Z U : State} {a0 : Array Value} {kI : Nat} (wi : (Jvm.Cond.instantiable ST kI).before a0 Z = true) (al : Z.vm.Alike U.vm) {x t : Addr} {kb : ClassId} {cs : List Int32} {cd N2 : Int32} {vs : List Value} (E : RoadKit.Exa Z U.heap x ST) (V : RoadKit.Fld Z U.heap x ST "value" "[B" (.ref t)) (C : RoadKit.Fld Z U.heap x ST "coder" "B" (.int cd)) (K : RoadKit.Arv Z U.heap t kb .byte N2 vs (.int 0)) (hc : CodA cs cd N2 vs) (hb : ∀ c ∈ cs, ¬ c < 0 ∧ ¬ (65535 : Int32) < c) (l2 : cs.length ≤ 4000) :
    ∃ A, Txt x t A cd cs.length (fun j => cs.getD j 0) U := by
  obtain ⟨A, K1, K2, K3, K4, K5, K6⟩ := K
  have hcod := hc.cod (by omega) K3 K5
  obtain ⟨D, fV, fC, hB, F1, F2, g1, g2, -, -⟩ := strObj wi al E V C
  exact ⟨A, ⟨_, hB.2.2.1, D, hB.1, rfl, by cases q : D.vm <;> first | rfl | exact absurd q (hB.2.1.2 _)⟩, Has.of hB F1 g1, Has.of hB F2 g2, ⟨K1.1, State.isArrayOf_alike al K1.2.1, K1.2.2, by rcases hcod with ⟨-, q, -⟩ | ⟨-, q, -⟩ <;> omega⟩, hcod, fun j hj => by
    have e : cs.getD j 0 = cs[j] := by simp [List.getD_eq_getElem?_getD, hj]
    show ¬ cs.getD j 0 < 0 ∧ ¬ 65535 < cs.getD j 0
    rw [e]; exact hb _ (List.getElem_mem _)⟩
end StrChars.Road
namespace StrChars
open Jvm Sem ClassFile Op Lib Jvm.Stand Jvm.Free.XT Jvm.Free.ALB Jvm.Free.JM Jvm.Free
open Jvm.Lib.Cold (StaticIs)
namespace ChN
def yN : MethodName := ⟨"java/lang/String", "charAt", "(I)C"⟩
abbrev yB : ByteArray := jdk_42_method_56_code
theorem d0 : decode yB 0 = .ok (.aload_n 0, 1) := by decide +kernel
theorem d1 : decode yB 1 = .ok (.invokevirtual 492, 3) := by decide +kernel
theorem d4 : decode yB 4 = .ok (.ifCond (.eq) 12, 3) := by decide +kernel
theorem d7 : decode yB 7 = .ok (.aload_n 0, 1) := by decide +kernel
theorem d8 : decode yB 8 = .ok (.getfield 9, 3) := by decide +kernel
theorem d11 : decode yB 11 = .ok (.iload_n 1, 1) := by decide +kernel
theorem d12 : decode yB 12 = .ok (.invokestatic 495, 3) := by decide +kernel
theorem d15 : decode yB 15 = .ok (.ireturn, 1) := by decide +kernel
def site : List Cond := [.fieldLink "java/lang/String" 9 "java/lang/String" "value" "[B", IsL.tab, LChA.tab] ++ virtW "java/lang/String" 492 "java/lang/String" IsL.yN IsL.yN ++ staticW "java/lang/String" 495 LChA.yN
def tab : Cond := tabOf yN yB 2 (some .char) site
def P (x t : Addr) (V : Cell) (n : Nat) (f : Nat → Int32) (z : Int32) (fm : Value) (i : Nat) (args : Array Value) (s : State) : Prop := args = #[.ref x, .int (Int32.ofNat i)] ∧ Txt x t V 0 n f s ∧ i < n ∧ StaticIs s "java/lang/String" "COMPACT_STRINGS" "Z" (.int z) ∧ ¬ z = 0 ∧ StaticIs s "jdk/internal/util/Preconditions" "SIOOBE_FORMATTER" "Ljava/util/function/BiFunction;" fm ∧ fm.isRef = true
def E (f : Nat → Int32) (i : Nat) (r : Option Value) (s u : State) : Prop := XT.PureE (some (.int (f i))) r s u
/-- charAt(i) of a Latin-1 String of n chars, i < n: f i -/
theorem law (l : Launch) (x t : Addr) (V : Cell) (n : Nat) (f : Nat → Int32) (z : Int32) (fm : Value) (i : Nat) : Law l yN 2 1 3 40 yB 2 (some .char) site (P x t V n f z fm i) (E f i) [] 0 0 := by
  refine Law.of_walk (plainFor_of_name (by decide +kernel)) (by decide +kernel) (by decide +kernel) (by decide) (fun _ _ h => by rw [h.1]; rfl) (fun _ U U' hal hh h => ⟨h.1, h.2.1.mv hal hh, h.2.2.1, h.2.2.2.1.there hal hh, h.2.2.2.2.1, h.2.2.2.2.2.1.there hal hh, h.2.2.2.2.2.2⟩) (fun r U U' V V' h1 hal h2 h => XT.PureE.mv r U U' V V' h1 hal h2 h) ?_
  intro p e s m args below meth c s₁ X0 hexec hbytes hml hret hlk hnm hown hh0 W hP
  obtain ⟨rfl, hx, hi, s1, hz, s3, rf⟩ := hP
  have v31 := hx.2.2.2.1.2.2.2
  have hr := hx.2.2.2.2.2 i hi
  have hx0 := hx.mv X0.warmed.alike hh0
  have c1 : Steps p.tables e below (s₁.setTop (entryFrame m #[.ref x, .int (Int32.ofNat i)] 2)) (s₁.setTop (mkF m 1 #[.val (.ref x), .val (.int (Int32.ofNat i))] [.ref x])) := Steps.trans (entry rfl) (by
    show Steps p.tables e below (s₁.setTop (mkF m 0 #[.val (.ref x), .val (.int (Int32.ofNat i))] [])) _
    refine XS.aloadN X0.here hexec rfl (hb hbytes d0) rfl rfl ?_
    exact Steps.refl _)
  obtain ⟨v2, T2, X2, E2, g2⟩ := X0.callV hexec (IsL.law l x 0 z) hown (wks W (virtW "java/lang/String" 492 "java/lang/String" IsL.yN IsL.yN)) rfl (by decide) (wk W IsL.tab) (W := 0) (Nat.le_of_ble_eq_true rfl) (Nat.le_of_ble_eq_true rfl) (Nat.le_refl _) (Nat.le_refl _) (hx0.1.fc X0.warmed.alike) hx0.1.is (g := (mkF m 1 #[.val (.ref x), .val (.int (Int32.ofNat i))] [.ref x])) rfl (by rw [hml]; rfl) c1 (argsL := []) (rest := []) rfl rfl (by show 2 * 0 + 0 ≤ _; decide) (hb hbytes d1) (⟨rfl, hx0.2.2.1, hx.2.2.2.2.1.cd, s1.there X0.warmed.alike hh0, hz⟩)
  obtain ⟨rfl, q2⟩ := E2
  have hh2 := q2.trans hh0
  have hx2 := hx.mv X2.warmed.alike hh2
  obtain ⟨-, k1, k2⟩ | ⟨k0, -⟩ := hx.2.2.2.2.1
  · have c3 : Steps p.tables e below (s₁.setTop (entryFrame m #[.ref x, .int (Int32.ofNat i)] 2)) (T2.setTop (mkF m 8 #[.val (.ref x), .val (.int (Int32.ofNat i))] [.ref x])) := Steps.trans g2 (by
      refine XS.ifNo X2.here hexec rfl (hb hbytes d4) rfl (i0_eq_f (by decide)) ?_
      refine XS.aloadN X2.here hexec rfl (hb hbytes d7) rfl rfl ?_
      exact Steps.refl _)
    obtain ⟨T4, X4, q4, st4⟩ := X2.hget hexec hown (wk W (.fieldLink "java/lang/String" 9 "java/lang/String" "value" "[B")) hx2.2.1 (g := (mkF m 8 #[.val (.ref x), .val (.int (Int32.ofNat i))] [.ref x])) rfl (rest := []) rfl (hb hbytes d8)
    have hh4 := q4.trans hh2
    have c5 : Steps p.tables e below (s₁.setTop (entryFrame m #[.ref x, .int (Int32.ofNat i)] 2)) (T4.setTop (mkF m 12 #[.val (.ref x), .val (.int (Int32.ofNat i))] [.int (Int32.ofNat i), .ref t])) := (c3.trans (st4 _ (Steps.refl _))).trans (by
      refine XS.iloadN X4.here hexec rfl (hb hbytes d11) rfl ?_
      exact Steps.refl _)
    obtain ⟨v6, T6, X6, E6, g6⟩ := X4.callS hexec (LChA.law l t V i (lo8 (f i)) fm) hown (wks W (staticW "java/lang/String" 495 LChA.yN)) (wk W LChA.tab) (W := 0) (Nat.le_of_ble_eq_true rfl) (Nat.le_of_ble_eq_true rfl) (Nat.le_refl _) (Nat.le_refl _) (g := (mkF m 12 #[.val (.ref x), .val (.int (Int32.ofNat i))] [.int (Int32.ofNat i), .ref t])) rfl (by rw [hml]; rfl) c5 (argsL := [.ref t, .int (Int32.ofNat i)]) (rest := []) rfl rfl (by show 2 * 0 + 0 ≤ _; decide) (hb hbytes d12) (⟨rfl, hx.2.2.2.1.mv X4.warmed.alike hh4, (k2 i hi).1, s3.there X4.warmed.alike hh4, rf⟩)
    obtain ⟨rfl, q6⟩ := E6
    rw [chr8_lo8 hr.1 (k2 i hi).2] at g6
    exact ⟨T6, some (.int (f i)), _, _, _, X6, rfl, rfl, rfl, (fun h => by cases h), ⟨rfl, q6.trans hh4⟩, fun fs hl => Steps.trans g6 (X6.ireturnOut hexec hret (narrow_ch hr.1 hr.2) (Or.inr (Or.inr (Or.inr (Or.inl rfl)))) (hb hbytes d15) hl)⟩
  · exact absurd k0 (by decide)
theorem pays {l : Launch} {R : Room} {p : Program} {e : Env} {below : List Frame} {s : State} {sargs : Array Value} {len W : Nat} (x t : Addr) (V : Cell) (n : Nat) (f : Nat → Int32) (z : Int32) (fm : Value) (i : Nat) (htab : tab.before sargs s = true) (hfr : 4 ≤ R.frames) (hlo : W + 53 ≤ R.locals) :
    Back l R p e below s sargs yN len W (fun A₁ a₁ => A₁.cells + 0 ≤ R.cells ∧ A₁.slots + 0 ≤ R.slots ∧ P x t V n f z fm i a₁ A₁.U) (fun A₁ _ v₁ B₁ => E f i v₁ A₁.U B₁.U ∧ B₁.locs = A₁.locs ++ [] ∧ B₁.cells = A₁.cells + 0 ∧ B₁.slots = A₁.slots + 0) :=
  (law l x t V n f z fm i).pays htab hfr (by omega)
end ChN
end StrChars
namespace StrChars.Road
open Jvm Sem ClassFile Op Lib Jvm.Stand Jvm.Free Jvm.Free.XT
open Jvm.Lib.Cold (StaticIs)
/-- the words of String.charAt(int), the Latin-1 road alone -/
abbrev wordsChN : List Jvm.Cond := [.code ChN.yN ChN.yB 2 (some .char), .initialized ST, .fieldLink ST 9 ST "value" "[B", .fieldLink ST 38 ST "COMPACT_STRINGS" "Z", .fieldLink ST 15 ST "coder" "B", .code IsL.yN IsL.yB 1 (some .boolean), .methodLink ST 492 IsL.yN, .declares IsL.yN, .selects ST IsL.yN IsL.yN, .instanceMethod IsL.yN,
  .methodLink ST 495 LChA.yN, .static LChA.yN, .code LChA.yN LChA.yB 2 (some .char), .initialized "java/lang/StringLatin1", .methodLink "java/lang/StringLatin1" 9 JO.Str_checkIndex.yN, .static JO.Str_checkIndex.yN, .code JO.Str_checkIndex.yN JO.Str_checkIndex.yB 2 none,
  .fieldLink ST 1053 "jdk/internal/util/Preconditions" "SIOOBE_FORMATTER" "Ljava/util/function/BiFunction;", .methodLink ST 1059 JC.PreCheck.yN, .static JC.PreCheck.yN, .code JC.PreCheck.yN JC.PreCheck.yB 3 (some .int), .initialized "jdk/internal/util/Preconditions"]
theorem tabChN_of {a : Array Value} {s : State} (h : ∀ w ∈ wordsChN, w.before a s = true) : ChN.tab.before a s = true := by
  have hp : JC.PreCheck.tab.before a s = true := unparts (wk h (.code JC.PreCheck.yN JC.PreCheck.yB 3 (some .int))) (wks h (.initialized JC.PreCheck.yN.cls :: JC.PreCheck.site))
  have qk := consq hp h
  have hk : JO.Str_checkIndex.tab.before a s = true := unparts (wk qk (.code JO.Str_checkIndex.yN JO.Str_checkIndex.yB 2 none)) (wks qk (.initialized JO.Str_checkIndex.yN.cls :: JO.Str_checkIndex.site))
  have ql := consq hk h
  have hl : LChA.tab.before a s = true := unparts (wk ql (.code LChA.yN LChA.yB 2 (some .char))) (wks ql (.initialized LChA.yN.cls :: LChA.site))
  have hi : IsL.tab.before a s = true := unparts (wk h (.code IsL.yN IsL.yB 1 (some .boolean))) (wks h (.initialized IsL.yN.cls :: IsL.site))
  have q := consq hi (consq hl h)
  exact unparts (wk q (.code ChN.yN ChN.yB 2 (some .char))) (wks q (.initialized ChN.yN.cls :: ChN.site))
theorem movedChN {Z s : State} {a0 args : Array Value} (hZ : Z.Warmed39 s.vm) (hw : ∀ d ∈ wordsChN, d.before a0 Z = true) : ∀ d ∈ wordsChN, d.before args s = true := fun d hd => by
  have t : ∀ d ∈ wordsChN, (d.onTables && d.keepsFace) = true := by decide +kernel
  exact RoadKit.mv hZ (hw d hd) (t d hd)
/-- **charAt(i) OF A LATIN-1 STRING**, i < n: the char -/
theorem chN {p : Program} {l : Launch} {e : Env} {R : Room} {s : State} {args : Array Value} {below : List Frame} {len W : Nat} {Z : State} {a0 : Array Value} {h : Heap} (hZ : Z.Warmed39 s.vm) (hw : ∀ d ∈ wordsChN, d.before a0 Z = true) {kI : Nat} (wi : (Jvm.Cond.instantiable ST kI).before a0 Z = true)
    {x t : Addr} {kb : ClassId} {cs : List Int32} {N2 z : Int32} {vs : List Value} {fm : Value} {i : Nat} {j : Int32} (E : RoadKit.Exa Z h x ST) (V : RoadKit.Fld Z h x ST "value" "[B" (.ref t)) (C : RoadKit.Fld Z h x ST "coder" "B" (.int 0)) (K : RoadKit.Arv Z h t kb .byte N2 vs (.int 0)) (hc : CodA cs 0 N2 vs) (hb : ∀ c ∈ cs, ¬ c < 0 ∧ ¬ (65535 : Int32) < c)
    (S : RoadKit.Sta Z h ST "COMPACT_STRINGS" "Z" (.int z)) (hz : ¬ z = 0) (F : RoadKit.Sta Z h "jdk/internal/util/Preconditions" "SIOOBE_FORMATTER" "Ljava/util/function/BiFunction;" fm) (rf : fm.isRef = true) (l2 : cs.length ≤ 4000) (hi : i < cs.length) (hj : j = Int32.ofNat i) (hfr : 4 ≤ R.frames) (hlo : W + 53 ≤ R.locals) :
    Back l R p e below s args (⟨"java/lang/String", "charAt", "(I)C"⟩ : MethodName) len W (fun P a => a = #[.ref x, .int j] ∧ P.U.heap = h ∧ P.cells + 0 ≤ R.cells ∧ P.slots + 0 ≤ R.slots)
      (fun P _ v B => ∃ L, (v = some (.int (cs.getD i 0)) ∧ L = [] ∧ B.U.heap = h) ∧ B.locs = P.locs ++ L ∧ B.cells = P.cells + 0 ∧ B.slots = P.slots + 0) := by
  subst hj
  intro m meth c P g ig mk a X hg hsize hdg hW hn hp'
  obtain ⟨rfl, rfl, r1, r2⟩ := hp'
  have al : Z.vm.Alike P.U.vm := hZ.alike.trans X.warmed.alike
  obtain ⟨A, hx⟩ := txt_of wi al E V C K hc hb l2
  obtain ⟨v, B, X', ⟨⟨hv, hh⟩, hl, hk, hs⟩, st⟩ := ChN.pays x t A cs.length (fun j => cs.getD j 0) z fm i (tabChN_of (movedChN hZ hw)) hfr hlo m meth c P g ig mk _ X hg hsize hdg hW hn ⟨r1, r2, rfl, hx, hi, sta_is al S, hz, sta_is al F, rf⟩
  exact ⟨v, B, X', ⟨[], ⟨hv, rfl, hh⟩, hl, hk, hs⟩, st⟩
/-- what backV says of its String, as the contracts of this text ask it: cs's low bytes, coder 0 -/
theorem codOf {cs : List Int32} {n : Nat} (hn : cs.length = n) (hb : ∀ c ∈ cs, ¬ 255 < c) : CodA cs 0 (Int32.ofNat n) ((cs.map lo8).map Value.int) := Or.inl ⟨rfl, by rw [hn], by simp [List.map_map, Function.comp_def], hb⟩
end StrChars.Road
end Jvm.Pilot.@@N@@

namespace Jvm.Pilot.@@N@@
open Jvm Jvm.ClassFile Sem Op Lib Jvm.Free Jvm.Stand Jvm.LawKit Jvm.RoadKit Bundle Jvm.Pilot.@@N@@.Jvm.D
section Own
variable {t u : Term} {C n d : String} {a b : Addr} {z j : Int32} {args : Array Value} {s : State} {cl : Cell} {ty : FieldType}
theorem own_cmp_int (h : (Jvm.Cond.eq t (Term.int z)).value args s none s [] = some true) : t.eval args s none [] s = some (.int z) := by
  have e2 : (Term.int z).eval args s none [] s = some (.int z) := Term.int_eval z
  obtain ⟨u, w, f1, f2, k1, k2⟩ := cmp_v (Or.inl h)
  cases f2.symm.trans e2
  obtain ⟨q, rfl⟩ : ∃ q, u = .int q := k2
  have : (Jvm.Cond.eq t (Term.int z)).value args s none s [] = some (decide (q = z)) := by simp [Cond.value, f1, e2]
  rw [f1, gotT this h]
theorem own_fld (ht : t.eval args s none [] s = some (.ref a)) (h : (Jvm.Cond.eq (Term.field t C n d) (Term.int z)).value args s none s [] = some true) : Fld s s.heap a C n d (.int z) :=
  Fld.start ((fld_at ht).symm.trans (own_cmp_int h))
theorem own_fldR (ht : t.eval args s none [] s = some (.ref a)) (h : (Term.field t C n d).eval args s none [] s = some (.ref b)) : Fld s s.heap a C n d (.ref b) :=
  Fld.start ((fld_at ht).symm.trans h)
theorem own_len (ht : t.eval args s none [] s = some (.ref a)) (A : Arr s s.heap a cl ty) (h : (Jvm.Cond.eq (Term.length t) (Term.int z)).value args s none s [] = some true) : cl.slots.size < 2 ^ 31 ∧ cl.slots.size.toInt32 = z := by
  have e := own_cmp_int h
  have ha : s.arrayAt? a = some cl := A.fin (Vm.Alike.refl _)
  simp only [Term.eval, ht, ha, Option.bind_eq_bind, Option.bind_some] at e
  split at e
  · rename_i q
    cases e
    exact ⟨q, rfl⟩
  · cases e
theorem own_el (ht : t.eval args s none [] s = some (.ref a)) (A : Arr s s.heap a cl ty) (h : (Jvm.Cond.eq (Term.elem t (Term.int j)) (Term.int z)).value args s none s [] = some true) : cl.slots[j.toNatClampNeg]? = some (.int z) :=
  (elem_in (own_cmp_int h) ht (Term.int_eval j) A.1).2
theorem own_elR (hu : u.eval args s none [] s = some (.ref b)) (ht : t.eval args s none [] s = some (.ref a)) (A : Arr s s.heap a cl ty) (h : (Jvm.Cond.eq (Term.elem t (Term.int j)) u).value args s none s [] = some true) : cl.slots[j.toNatClampNeg]? = some (.ref b) := by
  obtain ⟨x, w, f1, f2, k1, k2⟩ := cmp_v (Or.inl h)
  cases f2.symm.trans hu
  have hx : x.isRef = true := k2.2
  have q := gotT (eq_R f1 hu hx rfl) h
  subst q
  exact (elem_in f1 ht (Term.int_eval j) A.1).2
end Own
theorem own_b8 (c : Int32) : c.toInt8.toInt32.toInt8.toInt32 = c.toInt8.toInt32 := by simp
theorem own_mask {P : Int32 → Prop} (M : Nat) (m : Int32) (hm : m.toBitVec.toNat < M) (h : ∀ k : Fin M, P (Int32.ofNat k.val)) (x : Int32) : P (x &&& m) := by
  have h1 : (x &&& m).toBitVec.toNat < M := by
    simp only [Int32.toBitVec_and, BitVec.toNat_and]
    exact Nat.lt_of_le_of_lt Nat.and_le_right hm
  have e : (x &&& m) = Int32.ofNat (x &&& m).toBitVec.toNat := by
    apply Int32.toBitVec_inj.mp
    show _ = BitVec.ofNat 32 _
    rw [BitVec.ofNat_toNat]; simp
  rw [e]
  exact h ⟨_, h1⟩
def own_B (c : Int32) : Prop := ¬ c < 0 ∧ ¬ (255 : Int32) < c
theorem own_fin256 {P : Int32 → Prop} (h : ∀ k : Fin 256, P (Int32.ofNat k.val)) {c : Int32} (b : own_B c) : P c := by
  have h1 : 0 ≤ c.toInt := by have := b.1; rw [Int32.lt_iff_toInt_lt] at this; have e : (0 : Int32).toInt = 0 := rfl; omega
  have h2 : c.toInt ≤ 255 := by have := b.2; rw [Int32.lt_iff_toInt_lt] at this; have e : (255 : Int32).toInt = 255 := rfl; omega
  have e : Int32.ofNat c.toInt.toNat = c := by
    have : Int32.ofInt ((c.toInt.toNat : Nat) : Int) = c := by rw [Int.toNat_of_nonneg h1]; exact Int32.ofInt_toInt c
    exact this
  have := h ⟨c.toInt.toNat, by omega⟩
  rw [e] at this
  exact this
theorem own_nc {c : Int32} (b : own_B c) : nar .char c = c := own_fin256 (P := fun c => nar .char c = c) (by decide +kernel) b
theorem own_fc {c : Int32} (b : own_B c) : fits .char (.int c) = true := own_nc b ▸ fits_nar_char c
theorem own_up (cs : List Int32) (h : ∀ c ∈ cs, own_B c) : ∀ c ∈ cs, ¬ c < 0 ∧ ¬ (65535 : Int32) < c := fun c hc => ⟨(h c hc).1, fun q => (h c hc).2 (by rw [Int32.lt_iff_toInt_lt] at q ⊢; have e1 : (65535 : Int32).toInt = 65535 := rfl; have e2 : (255 : Int32).toInt = 255 := rfl; omega)⟩
def own_at (l : List Int32) (i : Nat) : Int32 := l.getD i 0
def own_G (P D : Nat → Int32) (N : Nat) : Nat → Nat → Nat → Prop
  | 0, _, j => j = N
  | r + 1, k, j => (P k = 42 ∧ ∃ i, j ≤ i ∧ i ≤ N ∧ own_G P D N r (k + 1) i) ∨ (¬ P k = 42 ∧ j < N ∧ D j = P k ∧ own_G P D N r (k + 1) (j + 1))
def own_g (P D : Nat → Int32) (M N k j : Nat) : Prop := own_G P D N (M - k) k j
theorem own_gend {P D : Nat → Int32} {M N k j : Nat} (h : M = k) : own_g P D M N k j ↔ j = N := by
  have e : M - k = 0 := by omega
  show own_G P D N (M - k) k j ↔ j = N
  rw [e]
  exact Iff.rfl
theorem own_gstep {P D : Nat → Int32} {M N k j : Nat} (h : k < M) : own_g P D M N k j ↔ (P k = 42 ∧ ∃ i, j ≤ i ∧ i ≤ N ∧ own_g P D M N (k + 1) i) ∨ (¬ P k = 42 ∧ j < N ∧ D j = P k ∧ own_g P D M N (k + 1) (j + 1)) := by
  show own_G P D N (M - k) k j ↔ _
  rw [show M - k = (M - (k + 1)) + 1 by omega]
  exact Iff.rfl
theorem own_gstar {P D : Nat → Int32} {M N k j : Nat} (h : k < M) (s : P k = 42) : own_g P D M N k j ↔ ∃ i, j ≤ i ∧ i ≤ N ∧ own_g P D M N (k + 1) i := by
  rw [own_gstep h]
  constructor
  · intro q
    rcases q with q | q
    · exact q.2
    · exact absurd s q.1
  · intro q
    exact Or.inl ⟨s, q⟩
theorem own_glit {P D : Nat → Int32} {M N k j : Nat} (h : k < M) (s : ¬ P k = 42) : own_g P D M N k j ↔ j < N ∧ D j = P k ∧ own_g P D M N (k + 1) (j + 1) := by
  rw [own_gstep h]
  constructor
  · intro q
    rcases q with q | q
    · exact absurd q.1 s
    · exact q.2
  · intro q
    exact Or.inr ⟨s, q⟩
theorem own_gle {P D : Nat → Int32} {N : Nat} : ∀ (r k j : Nat), own_G P D N r k j → j ≤ N := by
  intro r
  cases r with
  | zero => intro k j h; exact Nat.le_of_eq h
  | succ r =>
    intro k j h
    rcases h with ⟨-, i, h1, h2, -⟩ | ⟨-, h1, -⟩
    · exact Nat.le_trans h1 h2
    · exact Nat.le_of_lt h1
theorem own_glits {P D : Nat → Int32} {M N a : Nat} : ∀ (d : Nat), (∀ i, i < d → ¬ P (a + i) = 42) → a + d ≤ M → ∀ k, own_g P D M N a k → k + d ≤ N ∧ own_g P D M N (a + d) (k + d) := by
  intro d
  induction d with
  | zero => intro _ _ k h; exact ⟨own_gle _ _ _ h, h⟩
  | succ d ih =>
    intro hl ha k h
    obtain ⟨-, h2⟩ := ih (fun i hi => hl i (by omega)) (by omega) k h
    obtain ⟨h3, -, h5⟩ := (own_glit (by omega) (hl d (by omega))).mp h2
    exact ⟨by omega, h5⟩
theorem own_gback {P D : Nat → Int32} {M N a r : Nat} : ∀ (d : Nat), (∀ i, i < d → ¬ P (a + i) = 42 ∧ D (r + i) = P (a + i)) → a + d ≤ M → r + d ≤ N → own_g P D M N (a + d) (r + d) → own_g P D M N a r := by
  intro d
  induction d with
  | zero => intro _ _ _ h; exact h
  | succ d ih =>
    intro hl ha hr h
    refine ih (fun i hi => hl i (by omega)) (by omega) (by omega) ?_
    exact (own_glit (by omega) (hl d (by omega)).1).mpr ⟨by omega, (hl d (by omega)).2, h⟩
theorem own_gcongr {P D P' D' : Nat → Int32} {M N : Nat} (hp : ∀ i, i < M → P i = P' i) (hd : ∀ i, i < N → D i = D' i) : ∀ (r k j : Nat), k + r ≤ M → (own_G P D N r k j ↔ own_G P' D' N r k j) := by
  intro r
  induction r with
  | zero => intro k j _; exact Iff.rfl
  | succ r ih =>
    intro k j hk
    have e := hp k (by omega)
    constructor
    · intro h
      rcases h with ⟨h1, i, h2, h3, h4⟩ | ⟨h1, h2, h3, h4⟩
      · exact Or.inl ⟨e ▸ h1, i, h2, h3, (ih (k + 1) i (by omega)).mp h4⟩
      · exact Or.inr ⟨e ▸ h1, h2, by rw [← hd j h2, ← e]; exact h3, (ih (k + 1) (j + 1) (by omega)).mp h4⟩
    · intro h
      rcases h with ⟨h1, i, h2, h3, h4⟩ | ⟨h1, h2, h3, h4⟩
      · exact Or.inl ⟨e.symm ▸ h1, i, h2, h3, (ih (k + 1) i (by omega)).mpr h4⟩
      · exact Or.inr ⟨e.symm ▸ h1, h2, by rw [hd j h2, e]; exact h3, (ih (k + 1) (j + 1) (by omega)).mpr h4⟩
def own_I (P D : Nat → Int32) (M N pi ti ri : Nat) (sv : Int32) : Prop :=
  pi ≤ M ∧ ti ≤ N ∧ ri ≤ ti ∧ ((sv = -1 ∧ (own_g P D M N 0 0 ↔ own_g P D M N pi ti)) ∨
    ∃ st d, sv = Int32.ofNat st ∧ pi = st + 1 + d ∧ ti = ri + d ∧ (∀ i, i < d → ¬ P (st + 1 + i) = 42 ∧ D (ri + i) = P (st + 1 + i)) ∧ (own_g P D M N 0 0 ↔ ∃ k, ri ≤ k ∧ k ≤ N ∧ own_g P D M N (st + 1) k))
theorem own_I0 {P D : Nat → Int32} {M N : Nat} : own_I P D M N 0 0 0 (-1) := ⟨Nat.zero_le _, Nat.zero_le _, Nat.le_refl _, Or.inl ⟨rfl, Iff.rfl⟩⟩
theorem own_Ia {P D : Nat → Int32} {M N pi ti ri : Nat} {sv : Int32} (I : own_I P D M N pi ti ri sv) (hp : pi < M) (s : P pi = 42) : own_I P D M N (pi + 1) ti ti (Int32.ofNat pi) := by
  obtain ⟨h1, h2, h3, h⟩ := I
  refine ⟨hp, h2, Nat.le_refl _, Or.inr ⟨pi, 0, rfl, rfl, rfl, fun i hi => absurd hi (Nat.not_lt_zero _), ?_⟩⟩
  rcases h with ⟨-, h⟩ | ⟨st, d, -, hpi, hti, seg, h⟩
  · exact h.trans (own_gstar hp s)
  · rw [h]
    constructor
    · intro q
      obtain ⟨k, k1, k2, k3⟩ := q
      obtain ⟨-, q2⟩ := own_glits d (fun i hi => (seg i hi).1) (by omega) k k3
      rw [← hpi] at q2
      obtain ⟨i, i1, i2, i3⟩ := (own_gstar hp s).mp q2
      exact ⟨i, by omega, i2, i3⟩
    · intro q
      refine ⟨ri, Nat.le_refl _, by omega, own_gback d seg (by omega) (by omega) ?_⟩
      rw [← hpi, ← hti]
      exact (own_gstar hp s).mpr q
theorem own_Ib {P D : Nat → Int32} {M N pi ti ri : Nat} {sv : Int32} (I : own_I P D M N pi ti ri sv) (ht : ti < N) (hp : pi < M) (s : ¬ P pi = 42) (q : P pi = D ti) : own_I P D M N (pi + 1) (ti + 1) ri sv := by
  obtain ⟨h1, h2, h3, h⟩ := I
  refine ⟨hp, ht, by omega, ?_⟩
  rcases h with ⟨e, h⟩ | ⟨st, d, e, hpi, hti, seg, h⟩
  · refine Or.inl ⟨e, h.trans ?_⟩
    rw [own_glit hp s]
    exact ⟨fun z => z.2.2, fun z => ⟨ht, q.symm, z⟩⟩
  · refine Or.inr ⟨st, d + 1, e, by omega, by omega, fun i hi => ?_, h⟩
    by_cases hd : i < d
    · exact seg i hd
    · have hd' : i = d := by omega
      rw [hd', ← hpi, ← hti]
      exact ⟨s, q.symm⟩
theorem own_Ic {P D : Nat → Int32} {M N pi ti ri : Nat} {sv : Int32} (I : own_I P D M N pi ti ri sv) (ht : ti < N) (s : pi < M → ¬ P pi = 42) (q : pi < M → ¬ P pi = D ti) :
    (sv = -1 ∧ ¬ own_g P D M N 0 0) ∨ ∃ st, sv = Int32.ofNat st ∧ st < M ∧ ri < N ∧ own_I P D M N (st + 1) (ri + 1) (ri + 1) (Int32.ofNat st) := by
  obtain ⟨h1, h2, h3, h⟩ := I
  have no : ¬ own_g P D M N pi ti := by
    intro z
    by_cases hp : pi < M
    · exact q hp ((own_glit hp (s hp)).mp z).2.1.symm
    · have := (own_gend (show M = pi by omega)).mp z
      omega
  rcases h with ⟨e, h⟩ | ⟨st, d, e, hpi, hti, seg, h⟩
  · exact Or.inl ⟨e, fun z => no (h.mp z)⟩
  · refine Or.inr ⟨st, e, by omega, by omega, by omega, by omega, Nat.le_refl _, Or.inr ⟨st, 0, rfl, rfl, rfl, fun i hi => absurd hi (Nat.not_lt_zero _), ?_⟩⟩
    rw [h]
    constructor
    · intro z
      obtain ⟨k, k1, k2, k3⟩ := z
      by_cases hk : k = ri
      · exfalso
        rw [hk] at k3
        obtain ⟨-, q2⟩ := own_glits d (fun i hi => (seg i hi).1) (by omega) ri k3
        rw [← hpi, ← hti] at q2
        exact no q2
      · exact ⟨k, by omega, k2, k3⟩
    · intro z
      obtain ⟨k, k1, k2, k3⟩ := z
      exact ⟨k, by omega, k2, k3⟩
theorem own_Ix {P D : Nat → Int32} {M N pi ti ri : Nat} {sv : Int32} (I : own_I P D M N pi ti ri sv) (ht : ¬ ti < N) : own_g P D M N 0 0 ↔ own_g P D M N pi N := by
  obtain ⟨h1, h2, h3, h⟩ := I
  have e : ti = N := by omega
  rcases h with ⟨-, h⟩ | ⟨st, d, -, hpi, hti, seg, h⟩
  · have q : own_g P D M N pi ti = own_g P D M N pi N := by rw [e]
    rw [← q]; exact h
  · rw [h]
    constructor
    · intro z
      obtain ⟨k, k1, k2, k3⟩ := z
      obtain ⟨q1, q2⟩ := own_glits d (fun i hi => (seg i hi).1) (by omega) k k3
      have hk : k + d = N := by omega
      rw [← hpi, hk] at q2
      exact q2
    · intro z
      refine ⟨ri, Nat.le_refl _, by omega, own_gback d seg (by omega) (by omega) ?_⟩
      rw [← hpi, ← hti, e]
      exact z
theorem own_X1 {P D : Nat → Int32} {M N pi : Nat} {A : Prop} (h : A ↔ own_g P D M N pi N) (hp : pi < M) (s : P pi = 42) : A ↔ own_g P D M N (pi + 1) N := by
  rw [h, own_gstar hp s]
  constructor
  · intro z
    obtain ⟨i, i1, i2, i3⟩ := z
    have hi : i = N := by omega
    rw [hi] at i3
    exact i3
  · intro z
    exact ⟨N, Nat.le_refl _, Nat.le_refl _, z⟩
theorem own_X2 {P D : Nat → Int32} {M N pi : Nat} {A : Prop} (h : A ↔ own_g P D M N pi N) (hp : pi < M) (s : ¬ P pi = 42) : ¬ A := by
  rw [h, own_glit hp s]
  exact fun z => Nat.lt_irrefl _ z.1
theorem own_X3 {P D : Nat → Int32} {M N pi : Nat} {A : Prop} (h : A ↔ own_g P D M N pi N) (hp : pi = M) : A := h.mpr ((own_gend hp.symm).mpr rfl)
def own_V (iv : Int32) (A : Prop) : Prop := (iv = 1 ∧ A) ∨ (iv = 0 ∧ ¬ A)
theorem own_Veq {a b : Int32} {A B : Prop} (h : own_V a A) (k : own_V b B) (e : A ↔ B) : a = b := by
  rcases h with ⟨rfl, h⟩ | ⟨rfl, h⟩ <;> rcases k with ⟨rfl, k⟩ | ⟨rfl, k⟩
  · rfl
  · exact absurd (e.mp h) k
  · exact absurd (e.mpr k) h
  · rfl
theorem own_take {l : List Int32} {n : Nat} (h : n ≤ l.length) : (l.take n).length = n ∧ ∀ i, i < n → own_at (l.take n) i = own_at l i := by
  refine ⟨by rw [List.length_take]; omega, fun i hi => ?_⟩
  show (l.take n).getD i 0 = l.getD i 0
  rw [List.getD_eq_getElem?_getD, List.getD_eq_getElem?_getD, List.getElem?_take, if_pos hi]
theorem own_ans {l d : List Int32} {a b : Nat} (ha : a ≤ l.length) (hb : b ≤ d.length) : own_g (own_at (l.take a)) (own_at (d.take b)) (l.take a).length (d.take b).length 0 0 ↔ own_g (own_at l) (own_at d) a b 0 0 := by
  rw [(own_take ha).1, (own_take hb).1]
  exact own_gcongr (own_take ha).2 (own_take hb).2 _ _ _ (by omega)
theorem own_lt {a b : Nat} (ha : a < 2 ^ 31) (hb : b < 2 ^ 31) : Int32.ofNat a < Int32.ofNat b ↔ a < b := Int32.ofNat_lt_iff_lt ha hb
theorem own_inj {a b : Nat} (ha : a < 2 ^ 31) (hb : b < 2 ^ 31) (h : Int32.ofNat a = Int32.ofNat b) : a = b := by
  rw [← Int32.toNatClampNeg_ofNat_of_lt ha, ← Int32.toNatClampNeg_ofNat_of_lt hb, h]
theorem own_eqn {a b : Nat} (h : a = b) : Int32.ofNat a = Int32.ofNat b := h ▸ rfl
theorem own_add (a b : Nat) : Int32.ofNat a + Int32.ofNat b = Int32.ofNat (a + b) := (Int32.ofNat_add a b).symm
theorem own_ge0 {a : Nat} (ha : a < 2 ^ 31) : ¬ Int32.ofNat a < (0 : Int32) := fun h => Nat.not_lt_zero _ ((own_lt (b := 0) ha (by decide)).mp h)
theorem own_ld {j : Nat} (h : j < 4) (a b c d : Int32) : ([(.int a), (.int b), (.int c), (.int d)] : List Value).getD (Int32.ofNat j).toNatClampNeg (.int (0 : Int32)) = .int (own_at [a, b, c, d] j) := by
  rcases (by omega : j = 0 ∨ j = 1 ∨ j = 2 ∨ j = 3) with rfl | rfl | rfl | rfl <;> rfl
theorem own_in4 {j : Nat} (h : j < 4) : ¬ Int32.ofNat j < 0 ∧ Int32.ofNat j < (4 : Int32) := ⟨own_ge0 (by omega), (own_lt (b := 4) (by omega) (by decide)).mpr h⟩
theorem own_mod5 (x : Int32) : ∃ k : Nat, k ≤ 4 ∧ (x &&& (7 : Int32)) % (5 : Int32) = Int32.ofNat k := by
  have h := own_mask (P := fun y => y % (5 : Int32) = 0 ∨ y % (5 : Int32) = 1 ∨ y % (5 : Int32) = 2 ∨ y % (5 : Int32) = 3 ∨ y % (5 : Int32) = 4) 8 7 (by decide) (by decide +kernel) x
  rcases h with h | h | h | h | h
  · exact ⟨0, by decide, h⟩
  · exact ⟨1, by decide, h⟩
  · exact ⟨2, by decide, h⟩
  · exact ⟨3, by decide, h⟩
  · exact ⟨4, by decide, h⟩
theorem own_mask64 {P : Int64 → Prop} (M : Nat) (m : Int64) (hm : m.toBitVec.toNat < M) (h : ∀ k : Fin M, P (Int64.ofNat k.val)) (x : Int64) : P (x &&& m) := by
  have h1 : (x &&& m).toBitVec.toNat < M := by
    simp only [Int64.toBitVec_and, BitVec.toNat_and]
    exact Nat.lt_of_le_of_lt Nat.and_le_right hm
  have e : (x &&& m) = Int64.ofNat (x &&& m).toBitVec.toNat := by
    apply Int64.toBitVec_inj.mp
    show _ = BitVec.ofNat 64 _
    rw [BitVec.ofNat_toNat]; simp
  rw [e]
  exact h ⟨_, h1⟩
theorem own_c64 (x : Int64) : own_B (nar .char ((x &&& (255 : Int64)).toInt32.toUInt32.toUInt16.toUInt32.toInt32)) := own_mask64 (P := fun y => own_B (nar .char (y.toInt32.toUInt32.toUInt16.toUInt32.toInt32))) 256 255 (by decide) (by unfold own_B; decide +kernel) x

theorem own_wS {Z : State} {a0 : Array Value} (hw : ∀ d ∈ tables_1, d.before a0 Z = true) : ∀ a ∈ Bundle.stringAtoms, a.before a0 Z = true := by
  intro a ha
  simp only [Bundle.stringAtoms, List.mem_cons, List.not_mem_nil, or_false] at ha
  rcases ha with rfl | rfl | rfl | rfl | rfl | rfl | rfl
  all_goals first | exact hw _ (List.mem_of_getElem? (i := 15) rfl) | exact hw _ (List.mem_of_getElem? (i := 14) rfl) | exact hw _ (List.mem_of_getElem? (i := 27) rfl) | exact hw _ (List.mem_of_getElem? (i := 28) rfl) | exact hw _ (List.mem_of_getElem? (i := 29) rfl) | exact hw _ (List.mem_of_getElem? (i := 30) rfl) | exact hw _ (List.mem_of_getElem? (i := 31) rfl)
theorem w_26 {Z : State} {a0 : Array Value} (hw : ∀ d ∈ tables_1, d.before a0 Z = true) : (Jvm.Cond.stringLink "java/lang/String" (7 : Nat) "").before a0 Z = true := hw _ (List.mem_of_getElem? (i := 26) rfl)
theorem own_EW {Z : State} {a0 : Array Value} (hw : ∀ d ∈ tables_1, d.before a0 Z = true) : EW Z a0 consts_1 := (EW.cons (w_26 hw) (by decide) EW.nil)
theorem own_held {tb : Tables} {e : Env} {args : Array Value} {s : State} (h : call_1_1 tb e args s) : ∀ p ∈ consts_1, Jvm.Lit.constHeld s p.1 p.2 := h
theorem own_compact {zv : Int32} {args : Array Value} {s : State} (ez : (Term.static "java/lang/String" "COMPACT_STRINGS" "Z").eval args s none [] s = some (.int zv)) (hz : ¬ zv = (0 : Int32)) : Jvm.Lit.compactW.before args s = true := by
  simp only [Jvm.Lit.compactW, Cond.before, Cond.holds, Cond.value, ez]
  simp [Term.eval, hz]
theorem own_wnew {Z : State} {a0 : Array Value} (hw : ∀ d ∈ tables_1, d.before a0 Z = true) : ∀ d ∈ StrChars.Road.words, d.before a0 Z = true := fun d hd => hw d ((by decide +kernel : ∀ d ∈ StrChars.Road.words, d ∈ tables_1) d hd)
theorem own_wlen {Z : State} {a0 : Array Value} (hw : ∀ d ∈ tables_1, d.before a0 Z = true) : ∀ d ∈ StrChars.Road.wordsLen, d.before a0 Z = true := fun d hd => hw d ((by decide +kernel : ∀ d ∈ StrChars.Road.wordsLen, d ∈ tables_1) d hd)
theorem own_wch {Z : State} {a0 : Array Value} (hw : ∀ d ∈ tables_1, d.before a0 Z = true) : ∀ d ∈ StrChars.Road.wordsChN, d.before a0 Z = true := fun d hd => hw d ((by decide +kernel : ∀ d ∈ StrChars.Road.wordsChN, d ∈ tables_1) d hd)
def Q_pch (Z : State) (bv : Int64) (h0 : Heap) (n0 : Nat) (v : Option Value) (h : Heap) (L : List Loc) : Prop := ∃ iv : Int32, v = some (.int iv) ∧ Fr n0 L ∧ own_B iv ∧ h = h0
theorem ef_pch (m : MethodId) (bv : Int64) : entryFrame m #[(.long bv)] 3 = mkF m 0 #[.val (.long bv), .second, .unset] [] := by first | (simp [entryFrame, mkF, argsToLocals, Value.category]; done) | rfl
theorem pn_0 : plainName "com/example/fathomsearch/fathomsearch/NamePatternMatchesPinLaw" = true := by first | (simp [plainName, overriddenIn]; done) | decide +kernel
theorem d_3_0 : decode method_3_code 0 = .ok (.lload_n 0, 1) := by decide +kernel
theorem w_5 {Z : State} {a0 : Array Value} (hw : ∀ d ∈ tables_1, d.before a0 Z = true) : (Jvm.Cond.constantLong "com/example/fathomsearch/fathomsearch/NamePatternMatchesPinLaw" (30 : Nat) (3 : Int64)).before a0 Z = true := hw _ (List.mem_of_getElem? (i := 5) rfl)
theorem d_3_1 : decode method_3_code 1 = .ok (.ldc2_w 30, 3) := by decide +kernel
theorem d_3_4 : decode method_3_code 4 = .ok (.land, 1) := by decide +kernel
theorem d_3_5 : decode method_3_code 5 = .ok (.l2i, 1) := by decide +kernel
theorem d_3_6 : decode method_3_code 6 = .ok (.istore_n 2, 1) := by decide +kernel
theorem d_3_7 : decode method_3_code 7 = .ok (.iload_n 2, 1) := by decide +kernel
theorem d_3_8 : decode method_3_code 8 = .ok (.ifCond .ne 6, 3) := by decide +kernel
theorem d_3_11 : decode method_3_code 11 = .ok (.bipush 42, 2) := by decide +kernel
theorem d_3_13 : decode method_3_code 13 = .ok (.ireturn, 1) := by decide +kernel
theorem d_3_14 : decode method_3_code 14 = .ok (.iload_n 2, 1) := by decide +kernel
theorem d_3_15 : decode method_3_code 15 = .ok (.iconst 1, 1) := by decide +kernel
theorem d_3_16 : decode method_3_code 16 = .ok (.if_icmp .ne 6, 3) := by decide +kernel
theorem d_3_19 : decode method_3_code 19 = .ok (.bipush 97, 2) := by decide +kernel
theorem d_3_21 : decode method_3_code 21 = .ok (.ireturn, 1) := by decide +kernel
theorem d_3_22 : decode method_3_code 22 = .ok (.iload_n 2, 1) := by decide +kernel
theorem d_3_23 : decode method_3_code 23 = .ok (.iconst 2, 1) := by decide +kernel
theorem d_3_24 : decode method_3_code 24 = .ok (.if_icmp .ne 6, 3) := by decide +kernel
theorem d_3_27 : decode method_3_code 27 = .ok (.bipush 98, 2) := by decide +kernel
theorem d_3_29 : decode method_3_code 29 = .ok (.ireturn, 1) := by decide +kernel
theorem d_3_30 : decode method_3_code 30 = .ok (.lload_n 0, 1) := by decide +kernel
theorem d_3_31 : decode method_3_code 31 = .ok (.iconst 2, 1) := by decide +kernel
theorem d_3_32 : decode method_3_code 32 = .ok (.lushr, 1) := by decide +kernel
theorem w_6 {Z : State} {a0 : Array Value} (hw : ∀ d ∈ tables_1, d.before a0 Z = true) : (Jvm.Cond.constantLong "com/example/fathomsearch/fathomsearch/NamePatternMatchesPinLaw" (32 : Nat) (255 : Int64)).before a0 Z = true := hw _ (List.mem_of_getElem? (i := 6) rfl)
theorem d_3_33 : decode method_3_code 33 = .ok (.ldc2_w 32, 3) := by decide +kernel
theorem d_3_36 : decode method_3_code 36 = .ok (.land, 1) := by decide +kernel
theorem d_3_37 : decode method_3_code 37 = .ok (.l2i, 1) := by decide +kernel
theorem d_3_38 : decode method_3_code 38 = .ok (.i2c, 1) := by decide +kernel
theorem d_3_39 : decode method_3_code 39 = .ok (.ireturn, 1) := by decide +kernel
set_option maxRecDepth 65536 in
set_option maxHeartbeats 40000000 in
theorem rm_pch (l : Launch) (Z : State) (a0 : Array Value) (hw : ∀ d ∈ tables_1, d.before a0 Z = true) (ws : List Jvm.Cond) (bv : Int64) (h0 : Heap) (n0 : Nat) (Z0 : n0 ≤ h0.size) :
    own_Met l Z (⟨"com/example/fathomsearch/fathomsearch/NamePatternMatchesPinLaw", "pch", "(J)C"⟩ : MethodName) method_3_code 3 (some .char) ws ({ frames := 0, cells := 0, slots := 0, locals := 0 } : Room) #[(.long bv)] h0 (Q_pch Z bv h0 n0) := by
  refine own_enter (own := "com/example/fathomsearch/fathomsearch/NamePatternMatchesPinLaw") (plainFor_of_name pn_0) rfl ?_
  intro p e s m below meth c s₁ hlk hret hx hby hml hown hnm hZ X0 e0
  have N0 := Fr.nil n0
  refine own_cast (ef_pch m bv) ?_
  show own_Go _ _ _ _ (s₁.setTop (mkF m 0 #[.val (.long bv), .second, .unset] []))
  refine own_go (fun t k => XS.lloadN X0.here hx rfl (hb hby d_3_0) rfl k) ?_
  show own_Go _ _ _ _ (s₁.setTop (mkF m 1 #[.val (.long bv), .second, .unset] [(.long bv)]))
  refine own_go (X0.ldc2Long hx hown (mvT hZ (w_5 hw)) (g := (mkF m 1 #[.val (.long bv), .second, .unset] [(.long bv)])) rfl (hb hby d_3_1)) ?_
  refine own_go (fun t k => XS.land X0.here hx rfl (hb hby d_3_4) rfl k) ?_
  refine own_go (fun t k => XS.l2i X0.here hx rfl (hb hby d_3_5) rfl k) ?_
  refine own_go (fun t k => XS.istoreN X0.here hx rfl (hb hby d_3_6) rfl (l' := #[.val (.long bv), .second, .val (.int ((bv &&& (3 : Int64)).toInt32))]) rfl k) ?_
  show own_Go _ _ _ _ (s₁.setTop (mkF m 7 #[.val (.long bv), .second, .val (.int ((bv &&& (3 : Int64)).toInt32))] []))
  refine own_go (fun t k => XS.iloadN X0.here hx rfl (hb hby d_3_7) rfl k) ?_
  by_cases hc101 : ((bv &&& (3 : Int64)).toInt32) = (0 : Int32)
  · show own_Go _ _ _ _ (s₁.setTop (mkF m 8 #[.val (.long bv), .second, .val (.int ((bv &&& (3 : Int64)).toInt32))] [(.int ((bv &&& (3 : Int64)).toInt32))]))
    refine own_go (fun t k => XS.ifNo X0.here hx rfl (hb hby d_3_8) rfl ((if0 _ _).trans (teq hc101).2) k) ?_
    refine own_go (fun t k => XS.bipush X0.here hx rfl (hb hby d_3_11) k) ?_
    show own_Go _ _ _ _ (s₁.setTop (mkF m 13 #[.val (.long bv), .second, .val (.int ((bv &&& (3 : Int64)).toInt32))] [(.int (42 : Int32))]))
    refine own_retN X0 hx hlk (t := .char) hret (by simp) (hb hby d_3_13) ?_ (by decide) (by decide)
    rw [e0]
    exact ⟨(42 : Int32), rfl, N0, (by constructor <;> decide), rfl⟩
  · show own_Go _ _ _ _ (s₁.setTop (mkF m 8 #[.val (.long bv), .second, .val (.int ((bv &&& (3 : Int64)).toInt32))] [(.int ((bv &&& (3 : Int64)).toInt32))]))
    refine own_go (fun t k => XS.ifYes X0.here hx rfl (pc0 := 8) (pc' := 14) rfl (hb hby d_3_8) rfl ((if0 _ _).trans (feq hc101).2) (by decide) (by decide) k) ?_
    refine own_go (fun t k => XS.iloadN X0.here hx rfl (hb hby d_3_14) rfl k) ?_
    refine own_go (fun t k => XS.iconst X0.here hx rfl (hb hby d_3_15) k) ?_
    by_cases hc102 : ((bv &&& (3 : Int64)).toInt32) = (1 : Int32)
    · show own_Go _ _ _ _ (s₁.setTop (mkF m 16 #[.val (.long bv), .second, .val (.int ((bv &&& (3 : Int64)).toInt32))] [(.int (1 : Int32)), (.int ((bv &&& (3 : Int64)).toInt32))]))
      refine own_go (fun t k => XS.icmpNo X0.here hx rfl (hb hby d_3_16) rfl (teq hc102).2 k) ?_
      refine own_go (fun t k => XS.bipush X0.here hx rfl (hb hby d_3_19) k) ?_
      show own_Go _ _ _ _ (s₁.setTop (mkF m 21 #[.val (.long bv), .second, .val (.int ((bv &&& (3 : Int64)).toInt32))] [(.int (97 : Int32))]))
      refine own_retN X0 hx hlk (t := .char) hret (by simp) (hb hby d_3_21) ?_ (by decide) (by decide)
      rw [e0]
      exact ⟨(97 : Int32), rfl, N0, (by constructor <;> decide), rfl⟩
    · show own_Go _ _ _ _ (s₁.setTop (mkF m 16 #[.val (.long bv), .second, .val (.int ((bv &&& (3 : Int64)).toInt32))] [(.int (1 : Int32)), (.int ((bv &&& (3 : Int64)).toInt32))]))
      refine own_go (fun t k => XS.icmpYes X0.here hx rfl (pc0 := 16) (pc' := 22) rfl (hb hby d_3_16) rfl (feq hc102).2 (by decide) (by decide) k) ?_
      refine own_go (fun t k => XS.iloadN X0.here hx rfl (hb hby d_3_22) rfl k) ?_
      refine own_go (fun t k => XS.iconst X0.here hx rfl (hb hby d_3_23) k) ?_
      by_cases hc103 : ((bv &&& (3 : Int64)).toInt32) = (2 : Int32)
      · show own_Go _ _ _ _ (s₁.setTop (mkF m 24 #[.val (.long bv), .second, .val (.int ((bv &&& (3 : Int64)).toInt32))] [(.int (2 : Int32)), (.int ((bv &&& (3 : Int64)).toInt32))]))
        refine own_go (fun t k => XS.icmpNo X0.here hx rfl (hb hby d_3_24) rfl (teq hc103).2 k) ?_
        refine own_go (fun t k => XS.bipush X0.here hx rfl (hb hby d_3_27) k) ?_
        show own_Go _ _ _ _ (s₁.setTop (mkF m 29 #[.val (.long bv), .second, .val (.int ((bv &&& (3 : Int64)).toInt32))] [(.int (98 : Int32))]))
        refine own_retN X0 hx hlk (t := .char) hret (by simp) (hb hby d_3_29) ?_ (by decide) (by decide)
        rw [e0]
        exact ⟨(98 : Int32), rfl, N0, (by constructor <;> decide), rfl⟩
      · show own_Go _ _ _ _ (s₁.setTop (mkF m 24 #[.val (.long bv), .second, .val (.int ((bv &&& (3 : Int64)).toInt32))] [(.int (2 : Int32)), (.int ((bv &&& (3 : Int64)).toInt32))]))
        refine own_go (fun t k => XS.icmpYes X0.here hx rfl (pc0 := 24) (pc' := 30) rfl (hb hby d_3_24) rfl (feq hc103).2 (by decide) (by decide) k) ?_
        refine own_go (fun t k => XS.lloadN X0.here hx rfl (hb hby d_3_30) rfl k) ?_
        refine own_go (fun t k => XS.iconst X0.here hx rfl (hb hby d_3_31) k) ?_
        refine own_go (fun t k => XS.lushr X0.here hx rfl (hb hby d_3_32) rfl k) ?_
        show own_Go _ _ _ _ (s₁.setTop (mkF m 33 #[.val (.long bv), .second, .val (.int ((bv &&& (3 : Int64)).toInt32))] [(.long ((bv.toUInt64 >>> ((2 : Int32) &&& 0x3f).toInt64.toUInt64).toInt64))]))
        refine own_go (X0.ldc2Long hx hown (mvT hZ (w_6 hw)) (g := (mkF m 33 #[.val (.long bv), .second, .val (.int ((bv &&& (3 : Int64)).toInt32))] [(.long ((bv.toUInt64 >>> ((2 : Int32) &&& 0x3f).toInt64.toUInt64).toInt64))])) rfl (hb hby d_3_33)) ?_
        refine own_go (fun t k => XS.land X0.here hx rfl (hb hby d_3_36) rfl k) ?_
        refine own_go (fun t k => XS.l2i X0.here hx rfl (hb hby d_3_37) rfl k) ?_
        refine own_go (fun t k => XS.i2c X0.here hx rfl (hb hby d_3_38) rfl k) ?_
        show own_Go _ _ _ _ (s₁.setTop (mkF m 39 #[.val (.long bv), .second, .val (.int ((bv &&& (3 : Int64)).toInt32))] [(.int (((((bv.toUInt64 >>> ((2 : Int32) &&& 0x3f).toInt64.toUInt64).toInt64) &&& (255 : Int64)).toInt32).toUInt32.toUInt16.toUInt32.toInt32))]))
        refine own_retN X0 hx hlk (t := .char) hret (by simp) (hb hby d_3_39) ?_ (by decide) (by decide)
        rw [e0]
        exact ⟨_, rfl, N0, own_c64 _, rfl⟩
def Q_nch (Z : State) (bv : Int64) (h0 : Heap) (n0 : Nat) (v : Option Value) (h : Heap) (L : List Loc) : Prop := ∃ iv : Int32, v = some (.int iv) ∧ Fr n0 L ∧ own_B iv ∧ h = h0
theorem ef_nch (m : MethodId) (bv : Int64) : entryFrame m #[(.long bv)] 3 = mkF m 0 #[.val (.long bv), .second, .unset] [] := by first | (simp [entryFrame, mkF, argsToLocals, Value.category]; done) | rfl
theorem d_4_0 : decode method_4_code 0 = .ok (.lload_n 0, 1) := by decide +kernel
theorem d_4_1 : decode method_4_code 1 = .ok (.ldc2_w 30, 3) := by decide +kernel
theorem d_4_4 : decode method_4_code 4 = .ok (.land, 1) := by decide +kernel
theorem d_4_5 : decode method_4_code 5 = .ok (.l2i, 1) := by decide +kernel
theorem d_4_6 : decode method_4_code 6 = .ok (.istore_n 2, 1) := by decide +kernel
theorem d_4_7 : decode method_4_code 7 = .ok (.iload_n 2, 1) := by decide +kernel
theorem d_4_8 : decode method_4_code 8 = .ok (.ifCond .ne 6, 3) := by decide +kernel
theorem d_4_11 : decode method_4_code 11 = .ok (.bipush 97, 2) := by decide +kernel
theorem d_4_13 : decode method_4_code 13 = .ok (.ireturn, 1) := by decide +kernel
theorem d_4_14 : decode method_4_code 14 = .ok (.iload_n 2, 1) := by decide +kernel
theorem d_4_15 : decode method_4_code 15 = .ok (.iconst 1, 1) := by decide +kernel
theorem d_4_16 : decode method_4_code 16 = .ok (.if_icmp .ne 6, 3) := by decide +kernel
theorem d_4_19 : decode method_4_code 19 = .ok (.bipush 98, 2) := by decide +kernel
theorem d_4_21 : decode method_4_code 21 = .ok (.ireturn, 1) := by decide +kernel
theorem d_4_22 : decode method_4_code 22 = .ok (.iload_n 2, 1) := by decide +kernel
theorem d_4_23 : decode method_4_code 23 = .ok (.iconst 2, 1) := by decide +kernel
theorem d_4_24 : decode method_4_code 24 = .ok (.if_icmp .ne 6, 3) := by decide +kernel
theorem d_4_27 : decode method_4_code 27 = .ok (.bipush 42, 2) := by decide +kernel
theorem d_4_29 : decode method_4_code 29 = .ok (.ireturn, 1) := by decide +kernel
theorem d_4_30 : decode method_4_code 30 = .ok (.lload_n 0, 1) := by decide +kernel
theorem d_4_31 : decode method_4_code 31 = .ok (.iconst 2, 1) := by decide +kernel
theorem d_4_32 : decode method_4_code 32 = .ok (.lushr, 1) := by decide +kernel
theorem d_4_33 : decode method_4_code 33 = .ok (.ldc2_w 32, 3) := by decide +kernel
theorem d_4_36 : decode method_4_code 36 = .ok (.land, 1) := by decide +kernel
theorem d_4_37 : decode method_4_code 37 = .ok (.l2i, 1) := by decide +kernel
theorem d_4_38 : decode method_4_code 38 = .ok (.i2c, 1) := by decide +kernel
theorem d_4_39 : decode method_4_code 39 = .ok (.ireturn, 1) := by decide +kernel
set_option maxRecDepth 65536 in
set_option maxHeartbeats 40000000 in
theorem rm_nch (l : Launch) (Z : State) (a0 : Array Value) (hw : ∀ d ∈ tables_1, d.before a0 Z = true) (ws : List Jvm.Cond) (bv : Int64) (h0 : Heap) (n0 : Nat) (Z0 : n0 ≤ h0.size) :
    own_Met l Z (⟨"com/example/fathomsearch/fathomsearch/NamePatternMatchesPinLaw", "nch", "(J)C"⟩ : MethodName) method_4_code 3 (some .char) ws ({ frames := 0, cells := 0, slots := 0, locals := 0 } : Room) #[(.long bv)] h0 (Q_nch Z bv h0 n0) := by
  refine own_enter (own := "com/example/fathomsearch/fathomsearch/NamePatternMatchesPinLaw") (plainFor_of_name pn_0) rfl ?_
  intro p e s m below meth c s₁ hlk hret hx hby hml hown hnm hZ X0 e0
  have N0 := Fr.nil n0
  refine own_cast (ef_nch m bv) ?_
  show own_Go _ _ _ _ (s₁.setTop (mkF m 0 #[.val (.long bv), .second, .unset] []))
  refine own_go (fun t k => XS.lloadN X0.here hx rfl (hb hby d_4_0) rfl k) ?_
  show own_Go _ _ _ _ (s₁.setTop (mkF m 1 #[.val (.long bv), .second, .unset] [(.long bv)]))
  refine own_go (X0.ldc2Long hx hown (mvT hZ (w_5 hw)) (g := (mkF m 1 #[.val (.long bv), .second, .unset] [(.long bv)])) rfl (hb hby d_4_1)) ?_
  refine own_go (fun t k => XS.land X0.here hx rfl (hb hby d_4_4) rfl k) ?_
  refine own_go (fun t k => XS.l2i X0.here hx rfl (hb hby d_4_5) rfl k) ?_
  refine own_go (fun t k => XS.istoreN X0.here hx rfl (hb hby d_4_6) rfl (l' := #[.val (.long bv), .second, .val (.int ((bv &&& (3 : Int64)).toInt32))]) rfl k) ?_
  show own_Go _ _ _ _ (s₁.setTop (mkF m 7 #[.val (.long bv), .second, .val (.int ((bv &&& (3 : Int64)).toInt32))] []))
  refine own_go (fun t k => XS.iloadN X0.here hx rfl (hb hby d_4_7) rfl k) ?_
  by_cases hc104 : ((bv &&& (3 : Int64)).toInt32) = (0 : Int32)
  · show own_Go _ _ _ _ (s₁.setTop (mkF m 8 #[.val (.long bv), .second, .val (.int ((bv &&& (3 : Int64)).toInt32))] [(.int ((bv &&& (3 : Int64)).toInt32))]))
    refine own_go (fun t k => XS.ifNo X0.here hx rfl (hb hby d_4_8) rfl ((if0 _ _).trans (teq hc104).2) k) ?_
    refine own_go (fun t k => XS.bipush X0.here hx rfl (hb hby d_4_11) k) ?_
    show own_Go _ _ _ _ (s₁.setTop (mkF m 13 #[.val (.long bv), .second, .val (.int ((bv &&& (3 : Int64)).toInt32))] [(.int (97 : Int32))]))
    refine own_retN X0 hx hlk (t := .char) hret (by simp) (hb hby d_4_13) ?_ (by decide) (by decide)
    rw [e0]
    exact ⟨(97 : Int32), rfl, N0, (by constructor <;> decide), rfl⟩
  · show own_Go _ _ _ _ (s₁.setTop (mkF m 8 #[.val (.long bv), .second, .val (.int ((bv &&& (3 : Int64)).toInt32))] [(.int ((bv &&& (3 : Int64)).toInt32))]))
    refine own_go (fun t k => XS.ifYes X0.here hx rfl (pc0 := 8) (pc' := 14) rfl (hb hby d_4_8) rfl ((if0 _ _).trans (feq hc104).2) (by decide) (by decide) k) ?_
    refine own_go (fun t k => XS.iloadN X0.here hx rfl (hb hby d_4_14) rfl k) ?_
    refine own_go (fun t k => XS.iconst X0.here hx rfl (hb hby d_4_15) k) ?_
    by_cases hc105 : ((bv &&& (3 : Int64)).toInt32) = (1 : Int32)
    · show own_Go _ _ _ _ (s₁.setTop (mkF m 16 #[.val (.long bv), .second, .val (.int ((bv &&& (3 : Int64)).toInt32))] [(.int (1 : Int32)), (.int ((bv &&& (3 : Int64)).toInt32))]))
      refine own_go (fun t k => XS.icmpNo X0.here hx rfl (hb hby d_4_16) rfl (teq hc105).2 k) ?_
      refine own_go (fun t k => XS.bipush X0.here hx rfl (hb hby d_4_19) k) ?_
      show own_Go _ _ _ _ (s₁.setTop (mkF m 21 #[.val (.long bv), .second, .val (.int ((bv &&& (3 : Int64)).toInt32))] [(.int (98 : Int32))]))
      refine own_retN X0 hx hlk (t := .char) hret (by simp) (hb hby d_4_21) ?_ (by decide) (by decide)
      rw [e0]
      exact ⟨(98 : Int32), rfl, N0, (by constructor <;> decide), rfl⟩
    · show own_Go _ _ _ _ (s₁.setTop (mkF m 16 #[.val (.long bv), .second, .val (.int ((bv &&& (3 : Int64)).toInt32))] [(.int (1 : Int32)), (.int ((bv &&& (3 : Int64)).toInt32))]))
      refine own_go (fun t k => XS.icmpYes X0.here hx rfl (pc0 := 16) (pc' := 22) rfl (hb hby d_4_16) rfl (feq hc105).2 (by decide) (by decide) k) ?_
      refine own_go (fun t k => XS.iloadN X0.here hx rfl (hb hby d_4_22) rfl k) ?_
      refine own_go (fun t k => XS.iconst X0.here hx rfl (hb hby d_4_23) k) ?_
      by_cases hc106 : ((bv &&& (3 : Int64)).toInt32) = (2 : Int32)
      · show own_Go _ _ _ _ (s₁.setTop (mkF m 24 #[.val (.long bv), .second, .val (.int ((bv &&& (3 : Int64)).toInt32))] [(.int (2 : Int32)), (.int ((bv &&& (3 : Int64)).toInt32))]))
        refine own_go (fun t k => XS.icmpNo X0.here hx rfl (hb hby d_4_24) rfl (teq hc106).2 k) ?_
        refine own_go (fun t k => XS.bipush X0.here hx rfl (hb hby d_4_27) k) ?_
        show own_Go _ _ _ _ (s₁.setTop (mkF m 29 #[.val (.long bv), .second, .val (.int ((bv &&& (3 : Int64)).toInt32))] [(.int (42 : Int32))]))
        refine own_retN X0 hx hlk (t := .char) hret (by simp) (hb hby d_4_29) ?_ (by decide) (by decide)
        rw [e0]
        exact ⟨(42 : Int32), rfl, N0, (by constructor <;> decide), rfl⟩
      · show own_Go _ _ _ _ (s₁.setTop (mkF m 24 #[.val (.long bv), .second, .val (.int ((bv &&& (3 : Int64)).toInt32))] [(.int (2 : Int32)), (.int ((bv &&& (3 : Int64)).toInt32))]))
        refine own_go (fun t k => XS.icmpYes X0.here hx rfl (pc0 := 24) (pc' := 30) rfl (hb hby d_4_24) rfl (feq hc106).2 (by decide) (by decide) k) ?_
        refine own_go (fun t k => XS.lloadN X0.here hx rfl (hb hby d_4_30) rfl k) ?_
        refine own_go (fun t k => XS.iconst X0.here hx rfl (hb hby d_4_31) k) ?_
        refine own_go (fun t k => XS.lushr X0.here hx rfl (hb hby d_4_32) rfl k) ?_
        show own_Go _ _ _ _ (s₁.setTop (mkF m 33 #[.val (.long bv), .second, .val (.int ((bv &&& (3 : Int64)).toInt32))] [(.long ((bv.toUInt64 >>> ((2 : Int32) &&& 0x3f).toInt64.toUInt64).toInt64))]))
        refine own_go (X0.ldc2Long hx hown (mvT hZ (w_6 hw)) (g := (mkF m 33 #[.val (.long bv), .second, .val (.int ((bv &&& (3 : Int64)).toInt32))] [(.long ((bv.toUInt64 >>> ((2 : Int32) &&& 0x3f).toInt64.toUInt64).toInt64))])) rfl (hb hby d_4_33)) ?_
        refine own_go (fun t k => XS.land X0.here hx rfl (hb hby d_4_36) rfl k) ?_
        refine own_go (fun t k => XS.l2i X0.here hx rfl (hb hby d_4_37) rfl k) ?_
        refine own_go (fun t k => XS.i2c X0.here hx rfl (hb hby d_4_38) rfl k) ?_
        show own_Go _ _ _ _ (s₁.setTop (mkF m 39 #[.val (.long bv), .second, .val (.int ((bv &&& (3 : Int64)).toInt32))] [(.int (((((bv.toUInt64 >>> ((2 : Int32) &&& 0x3f).toInt64.toUInt64).toInt64) &&& (255 : Int64)).toInt32).toUInt32.toUInt16.toUInt32.toInt32))]))
        refine own_retN X0 hx hlk (t := .char) hret (by simp) (hb hby d_4_39) ?_ (by decide) (by decide)
        rw [e0]
        exact ⟨_, rfl, N0, own_c64 _, rfl⟩
def Q_si0 (Z : State) (us : Addr) (ua : Addr) (h0 : Heap) (n0 : Nat) (v : Option Value) (h : Heap) (L : List Loc) : Prop := ∃ (ud : Addr) (kd : ClassId), v = none ∧ Fr n0 L ∧ Keep h0 h [us] ∧ Fld Z h us "java/lang/String" "coder" "B" (.int (0 : Int32)) ∧ Fld Z h us "java/lang/String" "value" "[B" (.ref ud) ∧ Arv Z h ud kd .byte (0 : Int32) [] (.int (0 : Int32))
theorem ef_si0 (m : MethodId) (us : Addr) (ua : Addr) : entryFrame m #[(.ref us), (.ref ua), (.int (0 : Int32)), (.int (0 : Int32)), .null] 6 = mkF m 0 #[.val (.ref us), .val (.ref ua), .val (.int (0 : Int32)), .val (.int (0 : Int32)), .val .null, .unset] [] := by first | (simp [entryFrame, mkF, argsToLocals, Value.category]; done) | rfl
theorem pn_1 : plainName "java/lang/String" = true := by first | (simp [plainName, overriddenIn]; done) | decide +kernel
theorem d_j42_149_0 : decode jdk_42_method_149_code 0 = .ok (.aload_n 0, 1) := by decide +kernel
theorem w_23 {Z : State} {a0 : Array Value} (hw : ∀ d ∈ tables_1, d.before a0 Z = true) : (Jvm.Cond.methodLink "java/lang/String" (1 : Nat) ({ cls := "java/lang/Object", name := "<init>", desc := "()V" } : Jvm.MethodName)).before a0 Z = true := hw _ (List.mem_of_getElem? (i := 23) rfl)
theorem w_25 {Z : State} {a0 : Array Value} (hw : ∀ d ∈ tables_1, d.before a0 Z = true) : (Jvm.Cond.code ({ cls := "java/lang/Object", name := "<init>", desc := "()V" } : Jvm.MethodName) object_method_1_code (1 : Nat) (Option.none : Option Jvm.ClassFile.FieldType)).before a0 Z = true := hw _ (List.mem_of_getElem? (i := 25) rfl)
theorem w_24 {Z : State} {a0 : Array Value} (hw : ∀ d ∈ tables_1, d.before a0 Z = true) : (Jvm.Cond.instanceMethod ({ cls := "java/lang/Object", name := "<init>", desc := "()V" } : Jvm.MethodName)).before a0 Z = true := hw _ (List.mem_of_getElem? (i := 24) rfl)
theorem d_j42_149_1 : decode jdk_42_method_149_code 1 = .ok (.invokespecial 1, 3) := by decide +kernel
theorem d_j42_149_4 : decode jdk_42_method_149_code 4 = .ok (.iload_n 3, 1) := by decide +kernel
theorem d_j42_149_5 : decode jdk_42_method_149_code 5 = .ok (.ifCond .ne 22, 3) := by decide +kernel
theorem d_j42_149_8 : decode jdk_42_method_149_code 8 = .ok (.aload_n 0, 1) := by decide +kernel
theorem d_j42_149_9 : decode jdk_42_method_149_code 9 = .ok (.ldc 7, 2) := by decide +kernel
theorem w_32 {Z : State} {a0 : Array Value} (hw : ∀ d ∈ tables_1, d.before a0 Z = true) : (Jvm.Cond.fieldLink "java/lang/String" (9 : Nat) "java/lang/String" "value" "[B").before a0 Z = true := hw _ (List.mem_of_getElem? (i := 32) rfl)
theorem d_j42_149_11 : decode jdk_42_method_149_code 11 = .ok (.getfield 9, 3) := by decide +kernel
theorem w_14 {Z : State} {a0 : Array Value} (hw : ∀ d ∈ tables_1, d.before a0 Z = true) : (Jvm.Cond.instantiable "java/lang/String" (4 : Nat)).before a0 Z = true := hw _ (List.mem_of_getElem? (i := 14) rfl)
theorem w_28 {Z : State} {a0 : Array Value} (hw : ∀ d ∈ tables_1, d.before a0 Z = true) : (Jvm.Cond.laysFinal "java/lang/String" "java/lang/String" "value" "[B").before a0 Z = true := hw _ (List.mem_of_getElem? (i := 28) rfl)
theorem d_j42_149_14 : decode jdk_42_method_149_code 14 = .ok (.putfield 9, 3) := by decide +kernel
theorem d_j42_149_17 : decode jdk_42_method_149_code 17 = .ok (.aload_n 0, 1) := by decide +kernel
theorem d_j42_149_18 : decode jdk_42_method_149_code 18 = .ok (.ldc 7, 2) := by decide +kernel
theorem w_33 {Z : State} {a0 : Array Value} (hw : ∀ d ∈ tables_1, d.before a0 Z = true) : (Jvm.Cond.fieldLink "java/lang/String" (15 : Nat) "java/lang/String" "coder" "B").before a0 Z = true := hw _ (List.mem_of_getElem? (i := 33) rfl)
theorem d_j42_149_20 : decode jdk_42_method_149_code 20 = .ok (.getfield 15, 3) := by decide +kernel
theorem w_29 {Z : State} {a0 : Array Value} (hw : ∀ d ∈ tables_1, d.before a0 Z = true) : (Jvm.Cond.laysFinal "java/lang/String" "java/lang/String" "coder" "B").before a0 Z = true := hw _ (List.mem_of_getElem? (i := 29) rfl)
theorem d_j42_149_23 : decode jdk_42_method_149_code 23 = .ok (.putfield 15, 3) := by decide +kernel
theorem d_j42_149_26 : decode jdk_42_method_149_code 26 = .ok (.return_, 1) := by decide +kernel
set_option maxRecDepth 65536 in
set_option maxHeartbeats 40000000 in
theorem rm_si0 (l : Launch) (Z : State) (a0 : Array Value) (hw : ∀ d ∈ tables_1, d.before a0 Z = true) (ws : List Jvm.Cond) (us ua : Addr) (h0 : Heap) (n0 : Nat) (Z0 : n0 ≤ h0.size) (q0 : n0 ≤ us) (Ex0 : Exa Z h0 us "java/lang/String") (Va0 : Fld Z h0 us "java/lang/String" "value" "[B" .null) (Cd0 : Fld Z h0 us "java/lang/String" "coder" "B" (.int (0 : Int32))) :
    own_MetH l Z consts_1 (⟨"java/lang/String", "<init>", "([CIILjava/lang/Void;)V"⟩ : MethodName) jdk_42_method_149_code 6 none ws ({ frames := 1, cells := 4, slots := 8, locals := 12 } : Room) #[(.ref us), (.ref ua), (.int (0 : Int32)), (.int (0 : Int32)), .null] h0 (Q_si0 Z us ua h0 n0) := by
  refine own_enterH (own := "java/lang/String") (plainFor_of_name pn_1) rfl ?_
  intro p e s m below meth c s₁ hlk hret hx hby hml hown hnm hZ hh hH X0 e0
  have N0 := Fr.nil n0
  refine own_cast (ef_si0 m us ua) ?_
  have hS : s.Since s.vm 0 := (State.WarmedH.refl s).since 0
  have hk : 0 ≤ h0.size := Nat.zero_le _
  have C0 : CHr Z consts_1 s.vm h0 s.vm h0 := CHr.refl hH
  have Sx : Safe Z consts_1 s.vm h0 us := own_safe_null hZ.alike Ex0 Va0
  show own_Go _ _ _ _ (s₁.setTop (mkF m 0 #[.val (.ref us), .val (.ref ua), .val (.int (0 : Int32)), .val (.int (0 : Int32)), .val .null, .unset] []))
  refine own_go (fun t k => XS.aloadN X0.here hx rfl (hb hby d_j42_149_0) rfl rfl k) ?_
  show own_Go _ _ _ _ (s₁.setTop (mkF m 1 #[.val (.ref us), .val (.ref ua), .val (.int (0 : Int32)), .val (.int (0 : Int32)), .val .null, .unset] [(.ref us)]))
  obtain ⟨T107, X107, e107, st107⟩ := initO X0 hx hZ hown (w_23 hw) (w_24 hw) (w_25 hw) e0 (g := (mkF m 1 #[.val (.ref us), .val (.ref ua), .val (.int (0 : Int32)), .val (.int (0 : Int32)), .val .null, .unset] [(.ref us)])) rfl (by rw [hml]; rfl) rfl (hb hby d_j42_149_1) (by decide) (W := 0) (by show 2 * 0 + _ ≤ _; exact Nat.le_of_eq rfl) (by decide)
  refine own_go st107 ?_
  refine own_go (fun t k => XS.iloadN X107.here hx rfl (hb hby d_j42_149_4) rfl k) ?_
  show own_Go _ _ _ _ (T107.setTop (mkF m 5 #[.val (.ref us), .val (.ref ua), .val (.int (0 : Int32)), .val (.int (0 : Int32)), .val .null, .unset] [(.int (0 : Int32))]))
  refine own_go (fun t k => XS.ifNo X107.here hx rfl (hb hby d_j42_149_5) rfl ((if0 _ _).trans (teq (by decide : (0 : Int32) = (0 : Int32))).2) k) ?_
  refine own_go (fun t k => XS.aloadN X107.here hx rfl (hb hby d_j42_149_8) rfl rfl k) ?_
  show own_Go _ _ _ _ (T107.setTop (mkF m 9 #[.val (.ref us), .val (.ref ua), .val (.int (0 : Int32)), .val (.int (0 : Int32)), .val .null, .unset] [(.ref us)]))
  obtain ⟨b108, T108, h108, k108, d108, kb108, X108, e108, E108, hS, hk, hZ, hown, A108, Fc108, Fv108, Va108, hia108, hib108, R108, -, hne108, st108⟩ := ldcCH X107 hx hZ hown (w_26 hw) (own_wS hw) e107 hS hk (own_EW hw) (List.mem_of_getElem? (i := 0) rfl) C0.1 (vs := []) (z := (0 : Int32)) ⟨by decide, rfl⟩ (by decide) rfl (g := (mkF m 9 #[.val (.ref us), .val (.ref ua), .val (.int (0 : Int32)), .val (.int (0 : Int32)), .val .null, .unset] [(.ref us)])) rfl (hb hby d_j42_149_9) (n := 0) (by decide) (by decide) (by decide) (by decide)
  refine own_go st108 ?_
  have Z108 : n0 ≤ h108.size := (Nat.le_trans Z0 E108.1)
  have C108 := C0.trans R108
  have K108 : Keep h0 h108 [us] := (Keep.refl h0 [us]).ext E108
  show own_Go _ _ _ _ (T108.setTop (mkF m 11 #[.val (.ref us), .val (.ref ua), .val (.int (0 : Int32)), .val (.int (0 : Int32)), .val .null, .unset] [(.ref b108), (.ref us)]))
  obtain ⟨T109, X109, e109, st109⟩ := getF X108 hx hZ hown (host := "") (Or.inl (w_32 hw)) Via.refl e108 Fv108 (g := (mkF m 11 #[.val (.ref us), .val (.ref ua), .val (.int (0 : Int32)), .val (.int (0 : Int32)), .val .null, .unset] [(.ref b108), (.ref us)])) rfl rfl (hb hby d_j42_149_11)
  refine own_go st109 ?_
  show own_Go _ _ _ _ (T109.setTop (mkF m 14 #[.val (.ref us), .val (.ref ua), .val (.int (0 : Int32)), .val (.int (0 : Int32)), .val .null, .unset] [(.ref d108), (.ref us)]))
  obtain ⟨T110, h110, X110, e110, W110, st110⟩ := putF X109 hx hZ hown (host := "") (Or.inl (w_32 hw)) Via.refl e109 (Va0.ext E108) (Ex0.ext E108) (Or.inr ⟨(w_28 hw), rfl, hnm⟩) (w_14 hw) (ty := (.array .byte)) (by decide) rfl rfl (g := (mkF m 14 #[.val (.ref us), .val (.ref ua), .val (.int (0 : Int32)), .val (.int (0 : Int32)), .val .null, .unset] [(.ref d108), (.ref us)])) rfl rfl (hb hby d_j42_149_14)
  refine own_go st110 ?_
  have F110 := (Va0.ext E108).same W110
  have C110 := C108.trans (CHr.wr W110 (R108.safe Ex0.lt Sx) C108.1)
  have Z110 : n0 ≤ h110.size := (Nat.le_trans Z108 (Nat.le_of_eq W110.size.symm))
  have N110 := Fr.snoc X110 N0 q0
  have K110 : Keep h0 h110 [us] := K108.wr W110 (Or.inl (List.mem_of_getElem? (i := 0) rfl))
  refine own_go (fun t k => XS.aloadN X110.here hx rfl (hb hby d_j42_149_17) rfl rfl k) ?_
  show own_Go _ _ _ _ (T110.setTop (mkF m 18 #[.val (.ref us), .val (.ref ua), .val (.int (0 : Int32)), .val (.int (0 : Int32)), .val .null, .unset] [(.ref us)]))
  have f111 := (Safe.wr W110 (R108.safe Ex0.lt Sx) C108.1 (R108.safe Ex0.lt Sx))
  obtain ⟨b112, T112, h112, k112, d112, kb112, X112, e112, E112, hS, hk, hZ, hown, A112, Fc112, Fv112, Va112, hia112, hib112, R112, -, hne112, st112⟩ := ldcCH X110 hx hZ hown (w_26 hw) (own_wS hw) e110 hS (Nat.le_trans hk (Nat.le_of_eq W110.size.symm)) (own_EW hw) (List.mem_of_getElem? (i := 0) rfl) C110.1 (vs := []) (z := (0 : Int32)) ⟨by decide, rfl⟩ (by decide) rfl (g := (mkF m 18 #[.val (.ref us), .val (.ref ua), .val (.int (0 : Int32)), .val (.int (0 : Int32)), .val .null, .unset] [(.ref us)])) rfl (hb hby d_j42_149_18) (n := 0) (by decide) (by decide) (by decide) (by decide)
  refine own_go st112 ?_
  have Z112 : n0 ≤ h112.size := (Nat.le_trans Z110 E112.1)
  have C112 := C110.trans R112
  have K112 : Keep h0 h112 [us] := K110.ext E112
  have f113 := (R112.safe (Nat.lt_of_lt_of_le Ex0.lt (Nat.le_trans E108.1 (Nat.le_of_eq W110.size.symm))) f111)
  show own_Go _ _ _ _ (T112.setTop (mkF m 20 #[.val (.ref us), .val (.ref ua), .val (.int (0 : Int32)), .val (.int (0 : Int32)), .val .null, .unset] [(.ref b112), (.ref us)]))
  obtain ⟨T114, X114, e114, st114⟩ := getF X112 hx hZ hown (host := "") (Or.inl (w_33 hw)) Via.refl e112 Fc112 (g := (mkF m 20 #[.val (.ref us), .val (.ref ua), .val (.int (0 : Int32)), .val (.int (0 : Int32)), .val .null, .unset] [(.ref b112), (.ref us)])) rfl rfl (hb hby d_j42_149_20)
  refine own_go st114 ?_
  show own_Go _ _ _ _ (T114.setTop (mkF m 23 #[.val (.ref us), .val (.ref ua), .val (.int (0 : Int32)), .val (.int (0 : Int32)), .val .null, .unset] [(.int (0 : Int32)), (.ref us)]))
  have f115 := (((Cd0.ext E108).other W110 (Or.inr (slot_ne (Or.inr (w_29 hw)) (Or.inr (w_28 hw)) (by decide) (t := .byte) (t' := (.array .byte)) (by decide) (by decide)))).ext E112)
  obtain ⟨T116, h116, X116, e116, W116, st116⟩ := putFN X114 hx hZ hown (w_33 hw) Via.refl e114 f115 (((Ex0.ext E108).wr W110).ext E112) (Or.inr ⟨(w_29 hw), rfl, hnm⟩) (w_14 hw) (ty := .byte) (v' := (.int (0 : Int32))) (by decide) rfl rfl (g := (mkF m 23 #[.val (.ref us), .val (.ref ua), .val (.int (0 : Int32)), .val (.int (0 : Int32)), .val .null, .unset] [(.int (0 : Int32)), (.ref us)])) rfl rfl (hb hby d_j42_149_23)
  refine own_go st116 ?_
  have F116 := f115.same W116
  have C116 := C112.trans (CHr.wr W116 f113 C112.1)
  have Z116 : n0 ≤ h116.size := (Nat.le_trans Z112 (Nat.le_of_eq W116.size.symm))
  have N116 := Fr.snoc X116 N110 q0
  have K116 : Keep h0 h116 [us] := K112.wr W116 (Or.inl (List.mem_of_getElem? (i := 0) rfl))
  have f117 := ((F110.ext E112).other W116 (Or.inr (slot_ne (Or.inr (w_28 hw)) (Or.inr (w_29 hw)) (by decide) (t := (.array .byte)) (t' := .byte) (by decide) (by decide))))
  have f118 := (((Va108.other W110 (Ne.symm (hne108 _ (R108.safe Ex0.lt Sx)).2)).ext E112).other W116 (Ne.symm (hne108 _ (R108.safe Ex0.lt Sx)).2))
  show own_Go _ _ _ _ (T116.setTop (mkF m 26 #[.val (.ref us), .val (.ref ua), .val (.int (0 : Int32)), .val (.int (0 : Int32)), .val .null, .unset] []))
  refine own_retVH X116 hx hS (Nat.le_trans (Nat.le_trans hk (Nat.le_of_eq W116.size.symm)) (Nat.le_of_eq (congrArg Array.size e116.symm))) (by rw [hh, e116]; exact C116.trans (CHv.at X116 hZ (own_EW hw) C116.1)) hlk hret (hb hby d_j42_149_26) ?_ (by decide) (by decide)
  rw [e116]
  exact ⟨d108, kb108, rfl, N116, K116, F116, f117, f118⟩
def Q_s0 (Z : State) (us : Addr) (ua : Addr) (ka : ClassId) (h0 : Heap) (n0 : Nat) (v : Option Value) (h : Heap) (L : List Loc) : Prop := ∃ (ud : Addr) (kd : ClassId), v = none ∧ Fr n0 L ∧ Keep h0 h [us] ∧ Fld Z h us "java/lang/String" "coder" "B" (.int (0 : Int32)) ∧ Fld Z h us "java/lang/String" "value" "[B" (.ref ud) ∧ Arv Z h ud kd .byte (0 : Int32) [] (.int (0 : Int32))
theorem ef_s0 (m : MethodId) (us : Addr) (ua : Addr) : entryFrame m #[(.ref us), (.ref ua)] 2 = mkF m 0 #[.val (.ref us), .val (.ref ua)] [] := by first | (simp [entryFrame, mkF, argsToLocals, Value.category]; done) | rfl
theorem d_j42_3_0 : decode jdk_42_method_3_code 0 = .ok (.aload_n 0, 1) := by decide +kernel
theorem d_j42_3_1 : decode jdk_42_method_3_code 1 = .ok (.aload_n 1, 1) := by decide +kernel
theorem d_j42_3_2 : decode jdk_42_method_3_code 2 = .ok (.iconst 0, 1) := by decide +kernel
theorem d_j42_3_3 : decode jdk_42_method_3_code 3 = .ok (.aload_n 1, 1) := by decide +kernel
theorem d_j42_3_4 : decode jdk_42_method_3_code 4 = .ok (.arraylength, 1) := by decide +kernel
theorem d_j42_3_5 : decode jdk_42_method_3_code 5 = .ok (.aconst_null, 1) := by decide +kernel
theorem w_19 {Z : State} {a0 : Array Value} (hw : ∀ d ∈ tables_1, d.before a0 Z = true) : (Jvm.Cond.methodLink "java/lang/String" (27 : Nat) ({ cls := "java/lang/String", name := "<init>", desc := "([CIILjava/lang/Void;)V" } : Jvm.MethodName)).before a0 Z = true := hw _ (List.mem_of_getElem? (i := 19) rfl)
theorem w_22 {Z : State} {a0 : Array Value} (hw : ∀ d ∈ tables_1, d.before a0 Z = true) : (Jvm.Cond.code ({ cls := "java/lang/String", name := "<init>", desc := "([CIILjava/lang/Void;)V" } : Jvm.MethodName) jdk_42_method_149_code (6 : Nat) (Option.none : Option Jvm.ClassFile.FieldType)).before a0 Z = true := hw _ (List.mem_of_getElem? (i := 22) rfl)
theorem w_15 {Z : State} {a0 : Array Value} (hw : ∀ d ∈ tables_1, d.before a0 Z = true) : (Jvm.Cond.initialized "java/lang/String").before a0 Z = true := hw _ (List.mem_of_getElem? (i := 15) rfl)
theorem pd_0 : parseMethodDescriptor "([CIILjava/lang/Void;)V" = some ⟨[(.array .char), .int, .int, (.object "java/lang/Void")], none⟩ := by decide +kernel
theorem d_j42_3_6 : decode jdk_42_method_3_code 6 = .ok (.invokespecial 27, 3) := by decide +kernel
theorem w_20 {Z : State} {a0 : Array Value} (hw : ∀ d ∈ tables_1, d.before a0 Z = true) : (Jvm.Cond.instanceMethod ({ cls := "java/lang/String", name := "<init>", desc := "([CIILjava/lang/Void;)V" } : Jvm.MethodName)).before a0 Z = true := hw _ (List.mem_of_getElem? (i := 20) rfl)
theorem d_j42_3_9 : decode jdk_42_method_3_code 9 = .ok (.return_, 1) := by decide +kernel
set_option maxRecDepth 65536 in
set_option maxHeartbeats 40000000 in
theorem rm_s0 (l : Launch) (Z : State) (a0 : Array Value) (hw : ∀ d ∈ tables_1, d.before a0 Z = true) (ws : List Jvm.Cond) (us ua : Addr) (ka : ClassId) (h0 : Heap) (n0 : Nat) (Z0 : n0 ≤ h0.size) (q0 : n0 ≤ us) (Ex0 : Exa Z h0 us "java/lang/String") (Va0 : Fld Z h0 us "java/lang/String" "value" "[B" .null) (Cd0 : Fld Z h0 us "java/lang/String" "coder" "B" (.int (0 : Int32))) (A0 : Arv Z h0 ua ka .char (0 : Int32) [] (.int (0 : Int32))) :
    own_MetH l Z consts_1 (⟨"java/lang/String", "<init>", "([C)V"⟩ : MethodName) jdk_42_method_3_code 2 none ws ({ frames := 2, cells := 4, slots := 8, locals := 29 } : Room) #[(.ref us), (.ref ua)] h0 (Q_s0 Z us ua ka h0 n0) := by
  refine own_enterH (own := "java/lang/String") (plainFor_of_name pn_1) rfl ?_
  intro p e s m below meth c s₁ hlk hret hx hby hml hown hnm hZ hh hH X0 e0
  have N0 := Fr.nil n0
  refine own_cast (ef_s0 m us ua) ?_
  have hS : s.Since s.vm 0 := (State.WarmedH.refl s).since 0
  have hk : 0 ≤ h0.size := Nat.zero_le _
  have C0 : CHr Z consts_1 s.vm h0 s.vm h0 := CHr.refl hH
  have Sx : Safe Z consts_1 s.vm h0 us := own_safe_null hZ.alike Ex0 Va0
  show own_Go _ _ _ _ (s₁.setTop (mkF m 0 #[.val (.ref us), .val (.ref ua)] []))
  refine own_go (fun t k => XS.aloadN X0.here hx rfl (hb hby d_j42_3_0) rfl rfl k) ?_
  refine own_go (fun t k => XS.aloadN X0.here hx rfl (hb hby d_j42_3_1) rfl rfl k) ?_
  refine own_go (fun t k => XS.iconst X0.here hx rfl (hb hby d_j42_3_2) k) ?_
  refine own_go (fun t k => XS.aloadN X0.here hx rfl (hb hby d_j42_3_3) rfl rfl k) ?_
  show own_Go _ _ _ _ (s₁.setTop (mkF m 4 #[.val (.ref us), .val (.ref ua)] [(.ref ua), (.int (0 : Int32)), (.ref ua), (.ref us)]))
  obtain ⟨cl119, Ar119, qk119, sz119, nn119, ha119, gf119⟩ := id A0
  refine own_go (X0.arraylength hx (by rw [e0]; exact Ar119.1) (State.isArrayOf_alike hZ.alike Ar119.2.1) (g := (mkF m 4 #[.val (.ref us), .val (.ref ua)] [(.ref ua), (.int (0 : Int32)), (.ref ua), (.ref us)])) rfl rfl (hb hby d_j42_3_4)) ?_
  rw [len_of sz119 nn119]
  refine own_go (fun t k => XS.aconstNull X0.here hx rfl (hb hby d_j42_3_5) k) ?_
  obtain ⟨_, _, ⟨T120, L120, k120, n120⟩, -, X120, hS120, hg120, ⟨Lc120, hQ120, l120, y120, z120, R120⟩, st120⟩ := X0.specialBackS hx (y := (⟨"java/lang/String", "<init>", "([CIILjava/lang/Void;)V"⟩ : MethodName)) rfl hown (mvT hZ (w_19 hw)) (mvT hZ (w_20 hw)) (mvT hZ (w_22 hw)) (by decide) (backOfSH (W := 0) (rm_si0 l Z a0 hw [] us ua h0 n0 Z0 q0 Ex0 Va0 Cd0) hZ (w_22 hw) (w_15 hw) (by decide) (by decide) (own_EW hw) C0.1) (g := (mkF m 6 #[.val (.ref us), .val (.ref ua)] [.null, (.int (0 : Int32)), (.int (0 : Int32)), (.ref ua), (.ref us)])) rfl (by rw [hml]; rfl) (Steps.refl _) (a := us) (argsL := [(.ref ua), (.int (0 : Int32)), (.int (0 : Int32)), .null]) (rest := []) (lenOf pd_0 rfl) rfl (by show 2 * 0 + _ ≤ _; exact Nat.le_of_eq rfl) (hb hby d_j42_3_6) (fun _ _ => ⟨rfl, e0, (by decide : 0 + 4 ≤ _), (by decide : 0 + 8 ≤ _)⟩)
  dsimp only [Pt.U, Pt.locs, Pt.cells, Pt.slots] at X120 l120 y120 z120 st120 hQ120 hS120 hg120 R120
  replace hS := foldS hS (Nat.le_trans hk (Nat.le_of_eq (congrArg Array.size e0.symm))) hS120 hg120
  have hZ := State.Warmed39.trans hZ hS120.1
  have hown : T120.vm.findClass "java/lang/String" = some m.cls := by rw [hS120.1.alike.findClass]; exact hown
  replace X120 : Stand p l e ({ frames := 2, cells := 4, slots := 8, locals := 29 } : Room) (s.setVm T120.vm) m #[(.ref us), (.ref ua)] below meth c T120 _ _ _ := X120
  subst l120 y120 z120
  generalize e120 : T120.heap = h120 at hQ120 R120
  obtain ⟨ud120, kd120, rfl, N120q, K120q, Ec120, Ev120, Ek120⟩ := hQ120
  have hk : T120.heap.size ≤ h120.size := Nat.le_of_eq (by rw [e120])
  have N120 := Fr.app N0 N120q
  refine own_go (fun t k => st120.trans k) ?_
  have C120 := C0.trans R120
  have Z120 : n0 ≤ h120.size := (Nat.le_trans Z0 K120q.1)
  have K120 : Keep h0 h120 [us] := (Keep.refl h0 [us]).trans K120q (allS (Or.inl (List.mem_of_getElem? (i := 0) rfl)) all0)
  have hi120 := Ek120.lt
  show own_Go _ _ _ _ (T120.setTop (mkF m 9 #[.val (.ref us), .val (.ref ua)] []))
  refine own_retVH X120 hx hS (Nat.le_trans hk (Nat.le_of_eq (congrArg Array.size e120.symm))) (by rw [hh, e120]; exact C120.trans (CHv.at X120 hZ (own_EW hw) C120.1)) hlk hret (hb hby d_j42_3_9) ?_ (by decide) (by decide)
  rw [e120]
  exact ⟨ud120, kd120, rfl, N120, K120, Ec120, Ev120, Ek120⟩
def Q_str (Z : State) (ua : Addr) (ka : ClassId) (c0_ : Int32) (c1_ : Int32) (c2_ : Int32) (c3_ : Int32) (pl : Nat) (zv : Int32) (gv : Value) (h0 : Heap) (n0 : Nat) (v : Option Value) (h : Heap) (L : List Loc) : Prop := ∃ (us ub : Addr) (kb : ClassId), v = some (.ref us) ∧ Fr n0 L ∧ Keep h0 h [] ∧ Exa Z h us "java/lang/String" ∧ Fld Z h us "java/lang/String" "coder" "B" (.int (0 : Int32)) ∧ Fld Z h us "java/lang/String" "value" "[B" (.ref ub) ∧ Arv Z h ub kb .byte (Int32.ofNat (List.take pl [c0_, c1_, c2_, c3_]).length) (((List.take pl [c0_, c1_, c2_, c3_]).map (fun c => c.toInt8.toInt32)).map Value.int) (.int (0 : Int32))
theorem ef_str (m : MethodId) (ua : Addr) (pl : Nat) : entryFrame m #[(.ref ua), (.int (Int32.ofNat pl))] 2 = mkF m 0 #[.val (.ref ua), .val (.int (Int32.ofNat pl))] [] := by first | (simp [entryFrame, mkF, argsToLocals, Value.category]; done) | rfl
theorem d_5_0 : decode method_5_code 0 = .ok (.iload_n 1, 1) := by decide +kernel
theorem d_5_1 : decode method_5_code 1 = .ok (.ifCond .ne 14, 3) := by decide +kernel
theorem w_13 {Z : State} {a0 : Array Value} (hw : ∀ d ∈ tables_1, d.before a0 Z = true) : (Jvm.Cond.classLink "com/example/fathomsearch/fathomsearch/NamePatternMatchesPinLaw" (34 : Nat) "java/lang/String").before a0 Z = true := hw _ (List.mem_of_getElem? (i := 13) rfl)
theorem d_5_4 : decode method_5_code 4 = .ok (.new 34, 3) := by decide +kernel
theorem d_5_7 : decode method_5_code 7 = .ok (.dup, 1) := by decide +kernel
theorem d_5_8 : decode method_5_code 8 = .ok (.iconst 0, 1) := by decide +kernel
theorem w_0 {Z : State} {a0 : Array Value} (hw : ∀ d ∈ tables_1, d.before a0 Z = true) : (Jvm.Cond.arrayClass Jvm.ClassFile.FieldType.char).before a0 Z = true := hw _ (List.mem_of_getElem? (i := 0) rfl)
theorem d_5_9 : decode method_5_code 9 = .ok (.newarray .char, 2) := by decide +kernel
theorem w_16 {Z : State} {a0 : Array Value} (hw : ∀ d ∈ tables_1, d.before a0 Z = true) : (Jvm.Cond.methodLink "com/example/fathomsearch/fathomsearch/NamePatternMatchesPinLaw" (36 : Nat) ({ cls := "java/lang/String", name := "<init>", desc := "([C)V" } : Jvm.MethodName)).before a0 Z = true := hw _ (List.mem_of_getElem? (i := 16) rfl)
theorem w_18 {Z : State} {a0 : Array Value} (hw : ∀ d ∈ tables_1, d.before a0 Z = true) : (Jvm.Cond.code ({ cls := "java/lang/String", name := "<init>", desc := "([C)V" } : Jvm.MethodName) jdk_42_method_3_code (2 : Nat) (Option.none : Option Jvm.ClassFile.FieldType)).before a0 Z = true := hw _ (List.mem_of_getElem? (i := 18) rfl)
theorem pd_1 : parseMethodDescriptor "([C)V" = some ⟨[(.array .char)], none⟩ := by decide +kernel
theorem d_5_11 : decode method_5_code 11 = .ok (.invokespecial 36, 3) := by decide +kernel
theorem w_17 {Z : State} {a0 : Array Value} (hw : ∀ d ∈ tables_1, d.before a0 Z = true) : (Jvm.Cond.instanceMethod ({ cls := "java/lang/String", name := "<init>", desc := "([C)V" } : Jvm.MethodName)).before a0 Z = true := hw _ (List.mem_of_getElem? (i := 17) rfl)
theorem d_5_14 : decode method_5_code 14 = .ok (.areturn, 1) := by decide +kernel
theorem d_5_15 : decode method_5_code 15 = .ok (.iload_n 1, 1) := by decide +kernel
theorem d_5_16 : decode method_5_code 16 = .ok (.iconst 1, 1) := by decide +kernel
theorem d_5_17 : decode method_5_code 17 = .ok (.if_icmp .ne 20, 3) := by decide +kernel
theorem d_5_20 : decode method_5_code 20 = .ok (.new 34, 3) := by decide +kernel
theorem d_5_23 : decode method_5_code 23 = .ok (.dup, 1) := by decide +kernel
theorem d_5_24 : decode method_5_code 24 = .ok (.iconst 1, 1) := by decide +kernel
theorem d_5_25 : decode method_5_code 25 = .ok (.newarray .char, 2) := by decide +kernel
theorem d_5_27 : decode method_5_code 27 = .ok (.dup, 1) := by decide +kernel
theorem d_5_28 : decode method_5_code 28 = .ok (.iconst 0, 1) := by decide +kernel
theorem d_5_29 : decode method_5_code 29 = .ok (.aload_n 0, 1) := by decide +kernel
theorem d_5_30 : decode method_5_code 30 = .ok (.iconst 0, 1) := by decide +kernel
theorem d_5_31 : decode method_5_code 31 = .ok (.caload, 1) := by decide +kernel
theorem d_5_32 : decode method_5_code 32 = .ok (.castore, 1) := by decide +kernel
theorem d_5_33 : decode method_5_code 33 = .ok (.invokespecial 36, 3) := by decide +kernel
theorem d_5_36 : decode method_5_code 36 = .ok (.areturn, 1) := by decide +kernel
theorem d_5_37 : decode method_5_code 37 = .ok (.iload_n 1, 1) := by decide +kernel
theorem d_5_38 : decode method_5_code 38 = .ok (.iconst 2, 1) := by decide +kernel
theorem d_5_39 : decode method_5_code 39 = .ok (.if_icmp .ne 26, 3) := by decide +kernel
theorem d_5_42 : decode method_5_code 42 = .ok (.new 34, 3) := by decide +kernel
theorem d_5_45 : decode method_5_code 45 = .ok (.dup, 1) := by decide +kernel
theorem d_5_46 : decode method_5_code 46 = .ok (.iconst 2, 1) := by decide +kernel
theorem d_5_47 : decode method_5_code 47 = .ok (.newarray .char, 2) := by decide +kernel
theorem d_5_49 : decode method_5_code 49 = .ok (.dup, 1) := by decide +kernel
theorem d_5_50 : decode method_5_code 50 = .ok (.iconst 0, 1) := by decide +kernel
theorem d_5_51 : decode method_5_code 51 = .ok (.aload_n 0, 1) := by decide +kernel
theorem d_5_52 : decode method_5_code 52 = .ok (.iconst 0, 1) := by decide +kernel
theorem d_5_53 : decode method_5_code 53 = .ok (.caload, 1) := by decide +kernel
theorem d_5_54 : decode method_5_code 54 = .ok (.castore, 1) := by decide +kernel
theorem d_5_55 : decode method_5_code 55 = .ok (.dup, 1) := by decide +kernel
theorem d_5_56 : decode method_5_code 56 = .ok (.iconst 1, 1) := by decide +kernel
theorem d_5_57 : decode method_5_code 57 = .ok (.aload_n 0, 1) := by decide +kernel
theorem d_5_58 : decode method_5_code 58 = .ok (.iconst 1, 1) := by decide +kernel
theorem d_5_59 : decode method_5_code 59 = .ok (.caload, 1) := by decide +kernel
theorem d_5_60 : decode method_5_code 60 = .ok (.castore, 1) := by decide +kernel
theorem d_5_61 : decode method_5_code 61 = .ok (.invokespecial 36, 3) := by decide +kernel
theorem d_5_64 : decode method_5_code 64 = .ok (.areturn, 1) := by decide +kernel
theorem d_5_65 : decode method_5_code 65 = .ok (.iload_n 1, 1) := by decide +kernel
theorem d_5_66 : decode method_5_code 66 = .ok (.iconst 3, 1) := by decide +kernel
theorem d_5_67 : decode method_5_code 67 = .ok (.if_icmp .ne 32, 3) := by decide +kernel
theorem d_5_70 : decode method_5_code 70 = .ok (.new 34, 3) := by decide +kernel
theorem d_5_73 : decode method_5_code 73 = .ok (.dup, 1) := by decide +kernel
theorem d_5_74 : decode method_5_code 74 = .ok (.iconst 3, 1) := by decide +kernel
theorem d_5_75 : decode method_5_code 75 = .ok (.newarray .char, 2) := by decide +kernel
theorem d_5_77 : decode method_5_code 77 = .ok (.dup, 1) := by decide +kernel
theorem d_5_78 : decode method_5_code 78 = .ok (.iconst 0, 1) := by decide +kernel
theorem d_5_79 : decode method_5_code 79 = .ok (.aload_n 0, 1) := by decide +kernel
theorem d_5_80 : decode method_5_code 80 = .ok (.iconst 0, 1) := by decide +kernel
theorem d_5_81 : decode method_5_code 81 = .ok (.caload, 1) := by decide +kernel
theorem d_5_82 : decode method_5_code 82 = .ok (.castore, 1) := by decide +kernel
theorem d_5_83 : decode method_5_code 83 = .ok (.dup, 1) := by decide +kernel
theorem d_5_84 : decode method_5_code 84 = .ok (.iconst 1, 1) := by decide +kernel
theorem d_5_85 : decode method_5_code 85 = .ok (.aload_n 0, 1) := by decide +kernel
theorem d_5_86 : decode method_5_code 86 = .ok (.iconst 1, 1) := by decide +kernel
theorem d_5_87 : decode method_5_code 87 = .ok (.caload, 1) := by decide +kernel
theorem d_5_88 : decode method_5_code 88 = .ok (.castore, 1) := by decide +kernel
theorem d_5_89 : decode method_5_code 89 = .ok (.dup, 1) := by decide +kernel
theorem d_5_90 : decode method_5_code 90 = .ok (.iconst 2, 1) := by decide +kernel
theorem d_5_91 : decode method_5_code 91 = .ok (.aload_n 0, 1) := by decide +kernel
theorem d_5_92 : decode method_5_code 92 = .ok (.iconst 2, 1) := by decide +kernel
theorem d_5_93 : decode method_5_code 93 = .ok (.caload, 1) := by decide +kernel
theorem d_5_94 : decode method_5_code 94 = .ok (.castore, 1) := by decide +kernel
theorem d_5_95 : decode method_5_code 95 = .ok (.invokespecial 36, 3) := by decide +kernel
theorem d_5_98 : decode method_5_code 98 = .ok (.areturn, 1) := by decide +kernel
theorem d_5_99 : decode method_5_code 99 = .ok (.new 34, 3) := by decide +kernel
theorem d_5_102 : decode method_5_code 102 = .ok (.dup, 1) := by decide +kernel
theorem d_5_103 : decode method_5_code 103 = .ok (.iconst 4, 1) := by decide +kernel
theorem d_5_104 : decode method_5_code 104 = .ok (.newarray .char, 2) := by decide +kernel
theorem d_5_106 : decode method_5_code 106 = .ok (.dup, 1) := by decide +kernel
theorem d_5_107 : decode method_5_code 107 = .ok (.iconst 0, 1) := by decide +kernel
theorem d_5_108 : decode method_5_code 108 = .ok (.aload_n 0, 1) := by decide +kernel
theorem d_5_109 : decode method_5_code 109 = .ok (.iconst 0, 1) := by decide +kernel
theorem d_5_110 : decode method_5_code 110 = .ok (.caload, 1) := by decide +kernel
theorem d_5_111 : decode method_5_code 111 = .ok (.castore, 1) := by decide +kernel
theorem d_5_112 : decode method_5_code 112 = .ok (.dup, 1) := by decide +kernel
theorem d_5_113 : decode method_5_code 113 = .ok (.iconst 1, 1) := by decide +kernel
theorem d_5_114 : decode method_5_code 114 = .ok (.aload_n 0, 1) := by decide +kernel
theorem d_5_115 : decode method_5_code 115 = .ok (.iconst 1, 1) := by decide +kernel
theorem d_5_116 : decode method_5_code 116 = .ok (.caload, 1) := by decide +kernel
theorem d_5_117 : decode method_5_code 117 = .ok (.castore, 1) := by decide +kernel
theorem d_5_118 : decode method_5_code 118 = .ok (.dup, 1) := by decide +kernel
theorem d_5_119 : decode method_5_code 119 = .ok (.iconst 2, 1) := by decide +kernel
theorem d_5_120 : decode method_5_code 120 = .ok (.aload_n 0, 1) := by decide +kernel
theorem d_5_121 : decode method_5_code 121 = .ok (.iconst 2, 1) := by decide +kernel
theorem d_5_122 : decode method_5_code 122 = .ok (.caload, 1) := by decide +kernel
theorem d_5_123 : decode method_5_code 123 = .ok (.castore, 1) := by decide +kernel
theorem d_5_124 : decode method_5_code 124 = .ok (.dup, 1) := by decide +kernel
theorem d_5_125 : decode method_5_code 125 = .ok (.iconst 3, 1) := by decide +kernel
theorem d_5_126 : decode method_5_code 126 = .ok (.aload_n 0, 1) := by decide +kernel
theorem d_5_127 : decode method_5_code 127 = .ok (.iconst 3, 1) := by decide +kernel
theorem d_5_128 : decode method_5_code 128 = .ok (.caload, 1) := by decide +kernel
theorem d_5_129 : decode method_5_code 129 = .ok (.castore, 1) := by decide +kernel
theorem d_5_130 : decode method_5_code 130 = .ok (.invokespecial 36, 3) := by decide +kernel
theorem d_5_133 : decode method_5_code 133 = .ok (.areturn, 1) := by decide +kernel
set_option maxRecDepth 65536 in
set_option maxHeartbeats 40000000 in
theorem rm_str (l : Launch) (Z : State) (a0 : Array Value) (hw : ∀ d ∈ tables_1, d.before a0 Z = true) (ws : List Jvm.Cond) (ua : Addr) (ka : ClassId) (c0_ c1_ c2_ c3_ : Int32) (pl : Nat) (zv : Int32) (gv : Value) (h0 : Heap) (n0 : Nat) (Z0 : n0 ≤ h0.size) (hpl : pl ≤ 4) (A0 : Arv Z h0 ua ka .char (4 : Int32) [(.int c0_), (.int c1_), (.int c2_), (.int c3_)] (.int (0 : Int32))) (B0 : own_B c0_) (B1 : own_B c1_) (B2 : own_B c2_) (B3 : own_B c3_) (O0 : Old Z n0 h0) (hzv : ¬ zv = (0 : Int32)) (S0 : Sta Z Z.heap "java/lang/String" "COMPACT_STRINGS" "Z" (.int zv)) (rgv : gv.isRef = true) (G0 : Sta Z Z.heap "jdk/internal/util/Preconditions" "SIOOBE_FORMATTER" "Ljava/util/function/BiFunction;" gv) :
    own_MetH l Z consts_1 (⟨"com/example/fathomsearch/fathomsearch/NamePatternMatchesPinLaw", "str", "([CI)Ljava/lang/String;"⟩ : MethodName) method_5_code 2 (some (.object "java/lang/String")) ws ({ frames := 4, cells := 6, slots := 12, locals := 66 } : Room) #[(.ref ua), (.int (Int32.ofNat pl))] h0 (Q_str Z ua ka c0_ c1_ c2_ c3_ pl zv gv h0 n0) := by
  refine own_enterH (own := "com/example/fathomsearch/fathomsearch/NamePatternMatchesPinLaw") (plainFor_of_name pn_0) rfl ?_
  intro p e s m below meth c s₁ hlk hret hx hby hml hown hnm hZ hh hH X0 e0
  have N0 := Fr.nil n0
  refine own_cast (ef_str m ua pl) ?_
  have hS : s.Since s.vm 0 := (State.WarmedH.refl s).since 0
  have hk : 0 ≤ h0.size := Nat.zero_le _
  have C0 : CHr Z consts_1 s.vm h0 s.vm h0 := CHr.refl hH
  rcases (by omega : pl = 0 ∨ pl = 1 ∨ pl = 2 ∨ pl = 3 ∨ pl = 4) with rfl | rfl | rfl | rfl | rfl
  · show own_Go _ _ _ _ (s₁.setTop (mkF m 0 #[.val (.ref ua), .val (.int (0 : Int32))] []))
    refine own_go (fun t k => XS.iloadN X0.here hx rfl (hb hby d_5_0) rfl k) ?_
    show own_Go _ _ _ _ (s₁.setTop (mkF m 1 #[.val (.ref ua), .val (.int (0 : Int32))] [(.int (0 : Int32))]))
    refine own_go (fun t k => XS.ifNo X0.here hx rfl (hb hby d_5_1) rfl ((if0 _ _).trans (teq (by decide : (0 : Int32) = (0 : Int32))).2) k) ?_
    show own_Go _ _ _ _ (s₁.setTop (mkF m 4 #[.val (.ref ua), .val (.int (0 : Int32))] []))
    obtain ⟨T121, h121, X121, e121, E121, A121, D121, -, st121⟩ := newO X0 hx hZ hown (w_13 hw) (w_14 hw) (w_15 hw) e0 (g := (mkF m 4 #[.val (.ref ua), .val (.int (0 : Int32))] [])) rfl (hb hby d_5_4) (by decide) (by decide)
    obtain ⟨b121, g121⟩ : ∃ z, z = h0.size := ⟨_, rfl⟩
    rw [← g121] at A121 D121 st121
    refine own_go st121 ?_
    have Sf121 : Safe Z consts_1 s.vm h0 b121 := Safe.new (Nat.le_of_eq g121.symm)
    have Z121 : n0 ≤ h121.size := (Nat.le_trans Z0 E121.1)
    have C121 := C0.trans (CHr.ext E121 C0.1)
    have K121 : Keep h0 h121 [] := (Keep.refl h0 []).ext E121
    have lo121 : h0.size ≤ b121 := Nat.le_of_eq g121.symm
    have q121 : n0 ≤ b121 := Nat.le_trans Z0 lo121
    have hi121 : b121 < h121.size := A121.lt
    have F121_28 : Fld Z h121 b121 "java/lang/String" "value" "[B" .null := D121 (Or.inr (w_28 hw)) (ty := (.array .byte)) (by decide)
    have F121_29 : Fld Z h121 b121 "java/lang/String" "coder" "B" (.int (0 : Int32)) := D121 (Or.inr (w_29 hw)) (ty := .byte) (by decide)
    refine own_go (fun t k => XS.dup X121.here hx rfl (hb hby d_5_7) rfl rfl k) ?_
    refine own_go (fun t k => XS.iconst X121.here hx rfl (hb hby d_5_8) k) ?_
    show own_Go _ _ _ _ (T121.setTop (mkF m 9 #[.val (.ref ua), .val (.int (0 : Int32))] [(.int (0 : Int32)), (.ref b121), (.ref b121)]))
    obtain ⟨T122, h122, k122, X122, e122, E122, A122, st122⟩ := newP (aty := .char) X121 hx hZ (w_0 hw) e121 (n := (0 : Int32)) (rest := [(.ref b121), (.ref b121)]) (g := (mkF m 9 #[.val (.ref ua), .val (.int (0 : Int32))] [(.int (0 : Int32)), (.ref b121), (.ref b121)])) rfl (hb hby d_5_9) rfl (by decide) (cap := 0) (by decide) (by decide) (by decide) (by decide)
    obtain ⟨b122, g122⟩ : ∃ z, z = h121.size := ⟨_, rfl⟩
    rw [← g122] at A122 st122
    refine own_go st122 ?_
    have Sf122 : Safe Z consts_1 s.vm h121 b122 := Safe.new (Nat.le_of_eq g122.symm)
    have Z122 : n0 ≤ h122.size := (Nat.le_trans Z121 E122.1)
    have C122 := C121.trans (CHr.ext E122 C121.1)
    have K122 : Keep h0 h122 [] := K121.ext E122
    have lo122 : h121.size ≤ b122 := Nat.le_of_eq g122.symm
    have q122 : n0 ≤ b122 := Nat.le_trans Z121 lo122
    have hi122 : b122 < h122.size := A122.lt
    have V122 : Arv Z h122 b122 k122 .char (0 : Int32) [] (.int (0 : Int32)) := (Arv.new A122 (by decide)).pad (pad_rep [] (.int (0 : Int32)) 0)
    obtain ⟨_, _, ⟨T123, L123, k123, n123⟩, -, X123, hS123, hg123, ⟨Lc123, hQ123, l123, y123, z123, R123⟩, st123⟩ := X122.specialBackS hx (y := (⟨"java/lang/String", "<init>", "([C)V"⟩ : MethodName)) rfl hown (mvT hZ (w_16 hw)) (mvT hZ (w_17 hw)) (mvT hZ (w_18 hw)) (by decide) (backOfSH (W := 1) (rm_s0 l Z a0 hw [] b121 b122 k122 h122 n0 Z122 q121 (A121.ext E122) (F121_28.ext E122) (F121_29.ext E122) V122) hZ (w_18 hw) (w_15 hw) (by decide) (by decide) (own_EW hw) C122.1) (g := (mkF m 11 #[.val (.ref ua), .val (.int (0 : Int32))] [(.ref b122), (.ref b121), (.ref b121)])) rfl (by rw [hml]; rfl) (Steps.refl _) (a := b121) (argsL := [(.ref b122)]) (rest := [(.ref b121)]) (lenOf pd_1 rfl) rfl (by show 2 * 0 + _ ≤ _; exact Nat.le_of_eq rfl) (hb hby d_5_11) (fun _ _ => ⟨rfl, e122, (by decide : 2 + 4 ≤ _), (by decide : 4 + 8 ≤ _)⟩)
    dsimp only [Pt.U, Pt.locs, Pt.cells, Pt.slots] at X123 l123 y123 z123 st123 hQ123 hS123 hg123 R123
    replace hS := foldS hS (Nat.le_trans (Nat.le_trans hk (Nat.le_trans E121.1 E122.1)) (Nat.le_of_eq (congrArg Array.size e122.symm))) hS123 hg123
    have hZ := State.Warmed39.trans hZ hS123.1
    have hown : T123.vm.findClass "com/example/fathomsearch/fathomsearch/NamePatternMatchesPinLaw" = some m.cls := by rw [hS123.1.alike.findClass]; exact hown
    replace X123 : Stand p l e ({ frames := 4, cells := 6, slots := 12, locals := 66 } : Room) (s.setVm T123.vm) m #[(.ref ua), (.int (Int32.ofNat 0))] below meth c T123 _ _ _ := X123
    subst l123 y123 z123
    generalize e123 : T123.heap = h123 at hQ123 R123
    obtain ⟨ud123, kd123, rfl, N123q, K123q, Ec123, Ev123, Ek123⟩ := hQ123
    have hk : T123.heap.size ≤ h123.size := Nat.le_of_eq (by rw [e123])
    have N123 := Fr.app N0 N123q
    refine own_go (fun t k => st123.trans k) ?_
    have C123 := C122.trans R123
    have Z123 : n0 ≤ h123.size := (Nat.le_trans Z122 K123q.1)
    have K123 : Keep h0 h123 [] := K122.trans K123q (allS (Or.inr lo121) all0)
    have hi123 := Ek123.lt
    show own_Go _ _ _ _ (T123.setTop (mkF m 14 #[.val (.ref ua), .val (.int (0 : Int32))] [(.ref b121)]))
    refine own_retH X123 hx hS (Nat.le_trans hk (Nat.le_of_eq (congrArg Array.size e123.symm))) (by rw [hh, e123]; exact C123.trans (CHv.at X123 hZ (own_EW hw) C123.1)) hlk hret rfl (Or.inr (Or.inr (Or.inr (Or.inr ⟨rfl, rfl, rfl⟩)))) (hb hby d_5_14) ?_ (by decide) (by decide)
    rw [e123]
    exact ⟨b121, ud123, kd123, rfl, N123, K123, ((A121.ext E122).keep K123q), Ec123, Ev123, Ek123⟩
  · show own_Go _ _ _ _ (s₁.setTop (mkF m 0 #[.val (.ref ua), .val (.int (1 : Int32))] []))
    refine own_go (fun t k => XS.iloadN X0.here hx rfl (hb hby d_5_0) rfl k) ?_
    show own_Go _ _ _ _ (s₁.setTop (mkF m 1 #[.val (.ref ua), .val (.int (1 : Int32))] [(.int (1 : Int32))]))
    refine own_go (fun t k => XS.ifYes X0.here hx rfl (pc0 := 1) (pc' := 15) rfl (hb hby d_5_1) rfl ((if0 _ _).trans (feq (by decide : ¬ ((1 : Int32) = (0 : Int32)))).2) (by decide) (by decide) k) ?_
    refine own_go (fun t k => XS.iloadN X0.here hx rfl (hb hby d_5_15) rfl k) ?_
    refine own_go (fun t k => XS.iconst X0.here hx rfl (hb hby d_5_16) k) ?_
    show own_Go _ _ _ _ (s₁.setTop (mkF m 17 #[.val (.ref ua), .val (.int (1 : Int32))] [(.int (1 : Int32)), (.int (1 : Int32))]))
    refine own_go (fun t k => XS.icmpNo X0.here hx rfl (hb hby d_5_17) rfl (teq (by decide : (1 : Int32) = (1 : Int32))).2 k) ?_
    show own_Go _ _ _ _ (s₁.setTop (mkF m 20 #[.val (.ref ua), .val (.int (1 : Int32))] []))
    obtain ⟨T124, h124, X124, e124, E124, A124, D124, -, st124⟩ := newO X0 hx hZ hown (w_13 hw) (w_14 hw) (w_15 hw) e0 (g := (mkF m 20 #[.val (.ref ua), .val (.int (1 : Int32))] [])) rfl (hb hby d_5_20) (by decide) (by decide)
    obtain ⟨b124, g124⟩ : ∃ z, z = h0.size := ⟨_, rfl⟩
    rw [← g124] at A124 D124 st124
    refine own_go st124 ?_
    have Sf124 : Safe Z consts_1 s.vm h0 b124 := Safe.new (Nat.le_of_eq g124.symm)
    have Z124 : n0 ≤ h124.size := (Nat.le_trans Z0 E124.1)
    have C124 := C0.trans (CHr.ext E124 C0.1)
    have K124 : Keep h0 h124 [] := (Keep.refl h0 []).ext E124
    have lo124 : h0.size ≤ b124 := Nat.le_of_eq g124.symm
    have q124 : n0 ≤ b124 := Nat.le_trans Z0 lo124
    have hi124 : b124 < h124.size := A124.lt
    have F124_28 : Fld Z h124 b124 "java/lang/String" "value" "[B" .null := D124 (Or.inr (w_28 hw)) (ty := (.array .byte)) (by decide)
    have F124_29 : Fld Z h124 b124 "java/lang/String" "coder" "B" (.int (0 : Int32)) := D124 (Or.inr (w_29 hw)) (ty := .byte) (by decide)
    refine own_go (fun t k => XS.dup X124.here hx rfl (hb hby d_5_23) rfl rfl k) ?_
    refine own_go (fun t k => XS.iconst X124.here hx rfl (hb hby d_5_24) k) ?_
    show own_Go _ _ _ _ (T124.setTop (mkF m 25 #[.val (.ref ua), .val (.int (1 : Int32))] [(.int (1 : Int32)), (.ref b124), (.ref b124)]))
    obtain ⟨T125, h125, k125, X125, e125, E125, A125, st125⟩ := newP (aty := .char) X124 hx hZ (w_0 hw) e124 (n := (1 : Int32)) (rest := [(.ref b124), (.ref b124)]) (g := (mkF m 25 #[.val (.ref ua), .val (.int (1 : Int32))] [(.int (1 : Int32)), (.ref b124), (.ref b124)])) rfl (hb hby d_5_25) rfl (by decide) (cap := 1) (by decide) (by decide) (by decide) (by decide)
    obtain ⟨b125, g125⟩ : ∃ z, z = h124.size := ⟨_, rfl⟩
    rw [← g125] at A125 st125
    refine own_go st125 ?_
    have Sf125 : Safe Z consts_1 s.vm h124 b125 := Safe.new (Nat.le_of_eq g125.symm)
    have Z125 : n0 ≤ h125.size := (Nat.le_trans Z124 E125.1)
    have C125 := C124.trans (CHr.ext E125 C124.1)
    have K125 : Keep h0 h125 [] := K124.ext E125
    have lo125 : h124.size ≤ b125 := Nat.le_of_eq g125.symm
    have q125 : n0 ≤ b125 := Nat.le_trans Z124 lo125
    have hi125 : b125 < h125.size := A125.lt
    have V125 : Arv Z h125 b125 k125 .char (1 : Int32) [(.int (0 : Int32))] (.int (0 : Int32)) := (Arv.new A125 (by decide)).pad (pad_rep [] (.int (0 : Int32)) 1)
    refine own_go (fun t k => XS.dup X125.here hx rfl (hb hby d_5_27) rfl rfl k) ?_
    refine own_go (fun t k => XS.iconst X125.here hx rfl (hb hby d_5_28) k) ?_
    refine own_go (fun t k => XS.aloadN X125.here hx rfl (hb hby d_5_29) rfl rfl k) ?_
    show own_Go _ _ _ _ (T125.setTop (mkF m 30 #[.val (.ref ua), .val (.int (1 : Int32))] [(.ref ua), (.int (0 : Int32)), (.ref b125), (.ref b125), (.ref b124), (.ref b124)]))
    refine own_go (fun t k => XS.iconst X125.here hx rfl (hb hby d_5_30) k) ?_
    show own_Go _ _ _ _ (T125.setTop (mkF m 31 #[.val (.ref ua), .val (.int (1 : Int32))] [(.int (0 : Int32)), (.ref ua), (.int (0 : Int32)), (.ref b125), (.ref b125), (.ref b124), (.ref b124)]))
    obtain ⟨cl126, Ar126, qk126, sz126, nn126, ha126, gf126⟩ := id ((A0.ext E124).ext E125)
    have hin126 : ¬ ((0 : Int32) < 0 ∨ cl126.slots.size ≤ ((0 : Int32)).toNatClampNeg) := inb_of sz126 ⟨by decide, by decide⟩
    have hat126 : cl126.slots[((0 : Int32)).toNatClampNeg]? = some (.int c0_) := ha126.at hin126 rfl
    refine own_go (X125.caload hx (j := (0 : Int32)) (v := (.int c0_)) (by rw [e125]; exact Ar126.1) (State.isArrayOf_alike hZ.alike Ar126.2.1) Ar126.2.2 hin126 hat126 (g := (mkF m 31 #[.val (.ref ua), .val (.int (1 : Int32))] [(.int (0 : Int32)), (.ref ua), (.int (0 : Int32)), (.ref b125), (.ref b125), (.ref b124), (.ref b124)])) rfl rfl (hb hby d_5_31)) ?_
    show own_Go _ _ _ _ (T125.setTop (mkF m 32 #[.val (.ref ua), .val (.int (1 : Int32))] [(.int c0_), (.int (0 : Int32)), (.ref b125), (.ref b125), (.ref b124), (.ref b124)]))
    obtain ⟨cl127, Ar127, qk127, sz127, nn127, ha127, gf127⟩ := id V125
    have hin127 : ¬ ((0 : Int32) < 0 ∨ cl127.slots.size ≤ ((0 : Int32)).toNatClampNeg) := inb_of sz127 ⟨by decide, by decide⟩
    obtain ⟨T128, h128, X128, e128, W128, st128⟩ := stC X125 hx hZ e125 Ar127 (j := (0 : Int32)) hin127 (g := (mkF m 32 #[.val (.ref ua), .val (.int (1 : Int32))] [(.int c0_), (.int (0 : Int32)), (.ref b125), (.ref b125), (.ref b124), (.ref b124)])) rfl rfl (hb hby d_5_32)
    refine own_go st128 ?_
    rw [(own_nc B0)] at W128
    have V128 : Arv Z h128 b125 k125 .char (1 : Int32) [(.int c0_)] (.int (0 : Int32)) := Arv.set Ar127 qk127 sz127 nn127 ha127 gf127 (own_fc B0) W128 0 rfl (Nat.le_of_ble_eq_true rfl)
    have C128 := C125.trans (CHr.wr W128 (Safe.ext E125 C124.1 Sf125) C125.1)
    have Z128 : n0 ≤ h128.size := (Nat.le_trans Z125 (Nat.le_of_eq W128.size.symm))
    have N128 := Fr.snoc X128 N0 q125
    have K128 : Keep h0 h128 [] := K125.wr W128 (Or.inr (Nat.le_trans E124.1 lo125))
    have f129 := ((F124_28.ext E125).other W128 (Or.inl (Nat.ne_of_lt (Nat.lt_of_lt_of_le hi124 lo125))))
    have f130 := ((F124_29.ext E125).other W128 (Or.inl (Nat.ne_of_lt (Nat.lt_of_lt_of_le hi124 lo125))))
    have f131 := (Safe.wr W128 (Safe.ext E125 C124.1 Sf125) C125.1 (Safe.ext E125 C124.1 (Safe.ext E124 C0.1 Sf124)))
    obtain ⟨_, _, ⟨T132, L132, k132, n132⟩, -, X132, ⟨Lc132, hQ132, l132, y132, z132⟩, st132⟩ := X128.specialBack hx (y := (⟨"java/lang/String", "<init>", "([C)V"⟩ : MethodName)) rfl hown (mvT hZ (w_16 hw)) (mvT hZ (w_17 hw)) (mvT hZ (w_18 hw)) (by decide) (StrChars.Road.backV (W := 1) hZ (own_wnew hw) (kI := 4) (w_14 hw) (cs := ([c0_] : List Int32)) (bs := (([c0_] : List Int32)).map (fun c => c.toInt8.toInt32)) (n := 1) q124 Z128 ((A124.ext E125).wr W128) f129 f130 V128 (S0.ext (((O0.ext E124).ext E125).wr W128 q125).2) hzv rfl rfl (by decide) (by decide) (List.forall_mem_cons.mpr ⟨B0, (List.forall_mem_nil _)⟩) rfl (by decide) (by decide)) (g := (mkF m 33 #[.val (.ref ua), .val (.int (1 : Int32))] [(.ref b125), (.ref b124), (.ref b124)])) rfl (by rw [hml]; rfl) (Steps.refl _) (a := b124) (argsL := [(.ref b125)]) (rest := [(.ref b124)]) (lenOf pd_1 rfl) rfl (by show 2 * 0 + _ ≤ _; exact Nat.le_of_eq rfl) (hb hby d_5_33) (fun _ _ => ⟨rfl, e128, (by decide : 2 + 1 ≤ _), (by decide : 5 + 1 ≤ _)⟩)
    dsimp only [Pt.U, Pt.locs, Pt.cells, Pt.slots] at X132 l132 y132 z132 st132 hQ132
    subst l132 y132 z132
    generalize e132 : T132.heap = h132 at hQ132
    obtain ⟨rfl, N132q, K132q, Ea132, Ec132, t132, kb132, q132, lo132, nt132, Ev132, Ek132⟩ := hQ132
    have N132 := Fr.app N128 N132q
    refine own_go (fun t k => st132.trans k) ?_
    have C132 := C128.trans (CHr.keep K132q (allS f131 all0) C128.1)
    have Z132 : n0 ≤ h132.size := (Nat.le_trans Z128 K132q.1)
    have K132 : Keep h0 h132 [] := K128.trans K132q (allS (Or.inr lo124) all0)
    have hi132 := Ek132.lt
    replace Ek132 : Arv Z h132 t132 kb132 .byte (1 : Int32) [(.int (c0_.toInt8.toInt32))] (.int (0 : Int32)) := Ek132
    show own_Go _ _ _ _ (T132.setTop (mkF m 36 #[.val (.ref ua), .val (.int (1 : Int32))] [(.ref b124)]))
    refine own_retH X132 hx hS (Nat.le_trans (Nat.le_trans hk (Nat.le_trans (Nat.le_trans (Nat.le_trans E124.1 E125.1) (Nat.le_of_eq W128.size.symm)) K132q.1)) (Nat.le_of_eq (congrArg Array.size e132.symm))) (by rw [hh, e132]; exact C132.trans (CHv.at X132 hZ (own_EW hw) C132.1)) hlk hret rfl (Or.inr (Or.inr (Or.inr (Or.inr ⟨rfl, rfl, rfl⟩)))) (hb hby d_5_36) ?_ (by decide) (by decide)
    rw [e132]
    exact ⟨b124, t132, kb132, rfl, N132, K132, Ea132, Ec132, Ev132, Ek132⟩
  · show own_Go _ _ _ _ (s₁.setTop (mkF m 0 #[.val (.ref ua), .val (.int (2 : Int32))] []))
    refine own_go (fun t k => XS.iloadN X0.here hx rfl (hb hby d_5_0) rfl k) ?_
    show own_Go _ _ _ _ (s₁.setTop (mkF m 1 #[.val (.ref ua), .val (.int (2 : Int32))] [(.int (2 : Int32))]))
    refine own_go (fun t k => XS.ifYes X0.here hx rfl (pc0 := 1) (pc' := 15) rfl (hb hby d_5_1) rfl ((if0 _ _).trans (feq (by decide : ¬ ((2 : Int32) = (0 : Int32)))).2) (by decide) (by decide) k) ?_
    refine own_go (fun t k => XS.iloadN X0.here hx rfl (hb hby d_5_15) rfl k) ?_
    refine own_go (fun t k => XS.iconst X0.here hx rfl (hb hby d_5_16) k) ?_
    show own_Go _ _ _ _ (s₁.setTop (mkF m 17 #[.val (.ref ua), .val (.int (2 : Int32))] [(.int (1 : Int32)), (.int (2 : Int32))]))
    refine own_go (fun t k => XS.icmpYes X0.here hx rfl (pc0 := 17) (pc' := 37) rfl (hb hby d_5_17) rfl (feq (by decide : ¬ ((2 : Int32) = (1 : Int32)))).2 (by decide) (by decide) k) ?_
    refine own_go (fun t k => XS.iloadN X0.here hx rfl (hb hby d_5_37) rfl k) ?_
    refine own_go (fun t k => XS.iconst X0.here hx rfl (hb hby d_5_38) k) ?_
    show own_Go _ _ _ _ (s₁.setTop (mkF m 39 #[.val (.ref ua), .val (.int (2 : Int32))] [(.int (2 : Int32)), (.int (2 : Int32))]))
    refine own_go (fun t k => XS.icmpNo X0.here hx rfl (hb hby d_5_39) rfl (teq (by decide : (2 : Int32) = (2 : Int32))).2 k) ?_
    show own_Go _ _ _ _ (s₁.setTop (mkF m 42 #[.val (.ref ua), .val (.int (2 : Int32))] []))
    obtain ⟨T133, h133, X133, e133, E133, A133, D133, -, st133⟩ := newO X0 hx hZ hown (w_13 hw) (w_14 hw) (w_15 hw) e0 (g := (mkF m 42 #[.val (.ref ua), .val (.int (2 : Int32))] [])) rfl (hb hby d_5_42) (by decide) (by decide)
    obtain ⟨b133, g133⟩ : ∃ z, z = h0.size := ⟨_, rfl⟩
    rw [← g133] at A133 D133 st133
    refine own_go st133 ?_
    have Sf133 : Safe Z consts_1 s.vm h0 b133 := Safe.new (Nat.le_of_eq g133.symm)
    have Z133 : n0 ≤ h133.size := (Nat.le_trans Z0 E133.1)
    have C133 := C0.trans (CHr.ext E133 C0.1)
    have K133 : Keep h0 h133 [] := (Keep.refl h0 []).ext E133
    have lo133 : h0.size ≤ b133 := Nat.le_of_eq g133.symm
    have q133 : n0 ≤ b133 := Nat.le_trans Z0 lo133
    have hi133 : b133 < h133.size := A133.lt
    have F133_28 : Fld Z h133 b133 "java/lang/String" "value" "[B" .null := D133 (Or.inr (w_28 hw)) (ty := (.array .byte)) (by decide)
    have F133_29 : Fld Z h133 b133 "java/lang/String" "coder" "B" (.int (0 : Int32)) := D133 (Or.inr (w_29 hw)) (ty := .byte) (by decide)
    refine own_go (fun t k => XS.dup X133.here hx rfl (hb hby d_5_45) rfl rfl k) ?_
    refine own_go (fun t k => XS.iconst X133.here hx rfl (hb hby d_5_46) k) ?_
    show own_Go _ _ _ _ (T133.setTop (mkF m 47 #[.val (.ref ua), .val (.int (2 : Int32))] [(.int (2 : Int32)), (.ref b133), (.ref b133)]))
    obtain ⟨T134, h134, k134, X134, e134, E134, A134, st134⟩ := newP (aty := .char) X133 hx hZ (w_0 hw) e133 (n := (2 : Int32)) (rest := [(.ref b133), (.ref b133)]) (g := (mkF m 47 #[.val (.ref ua), .val (.int (2 : Int32))] [(.int (2 : Int32)), (.ref b133), (.ref b133)])) rfl (hb hby d_5_47) rfl (by decide) (cap := 2) (by decide) (by decide) (by decide) (by decide)
    obtain ⟨b134, g134⟩ : ∃ z, z = h133.size := ⟨_, rfl⟩
    rw [← g134] at A134 st134
    refine own_go st134 ?_
    have Sf134 : Safe Z consts_1 s.vm h133 b134 := Safe.new (Nat.le_of_eq g134.symm)
    have Z134 : n0 ≤ h134.size := (Nat.le_trans Z133 E134.1)
    have C134 := C133.trans (CHr.ext E134 C133.1)
    have K134 : Keep h0 h134 [] := K133.ext E134
    have lo134 : h133.size ≤ b134 := Nat.le_of_eq g134.symm
    have q134 : n0 ≤ b134 := Nat.le_trans Z133 lo134
    have hi134 : b134 < h134.size := A134.lt
    have V134 : Arv Z h134 b134 k134 .char (2 : Int32) [(.int (0 : Int32)), (.int (0 : Int32))] (.int (0 : Int32)) := (Arv.new A134 (by decide)).pad (pad_rep [] (.int (0 : Int32)) 2)
    refine own_go (fun t k => XS.dup X134.here hx rfl (hb hby d_5_49) rfl rfl k) ?_
    refine own_go (fun t k => XS.iconst X134.here hx rfl (hb hby d_5_50) k) ?_
    refine own_go (fun t k => XS.aloadN X134.here hx rfl (hb hby d_5_51) rfl rfl k) ?_
    show own_Go _ _ _ _ (T134.setTop (mkF m 52 #[.val (.ref ua), .val (.int (2 : Int32))] [(.ref ua), (.int (0 : Int32)), (.ref b134), (.ref b134), (.ref b133), (.ref b133)]))
    refine own_go (fun t k => XS.iconst X134.here hx rfl (hb hby d_5_52) k) ?_
    show own_Go _ _ _ _ (T134.setTop (mkF m 53 #[.val (.ref ua), .val (.int (2 : Int32))] [(.int (0 : Int32)), (.ref ua), (.int (0 : Int32)), (.ref b134), (.ref b134), (.ref b133), (.ref b133)]))
    obtain ⟨cl135, Ar135, qk135, sz135, nn135, ha135, gf135⟩ := id ((A0.ext E133).ext E134)
    have hin135 : ¬ ((0 : Int32) < 0 ∨ cl135.slots.size ≤ ((0 : Int32)).toNatClampNeg) := inb_of sz135 ⟨by decide, by decide⟩
    have hat135 : cl135.slots[((0 : Int32)).toNatClampNeg]? = some (.int c0_) := ha135.at hin135 rfl
    refine own_go (X134.caload hx (j := (0 : Int32)) (v := (.int c0_)) (by rw [e134]; exact Ar135.1) (State.isArrayOf_alike hZ.alike Ar135.2.1) Ar135.2.2 hin135 hat135 (g := (mkF m 53 #[.val (.ref ua), .val (.int (2 : Int32))] [(.int (0 : Int32)), (.ref ua), (.int (0 : Int32)), (.ref b134), (.ref b134), (.ref b133), (.ref b133)])) rfl rfl (hb hby d_5_53)) ?_
    show own_Go _ _ _ _ (T134.setTop (mkF m 54 #[.val (.ref ua), .val (.int (2 : Int32))] [(.int c0_), (.int (0 : Int32)), (.ref b134), (.ref b134), (.ref b133), (.ref b133)]))
    obtain ⟨cl136, Ar136, qk136, sz136, nn136, ha136, gf136⟩ := id V134
    have hin136 : ¬ ((0 : Int32) < 0 ∨ cl136.slots.size ≤ ((0 : Int32)).toNatClampNeg) := inb_of sz136 ⟨by decide, by decide⟩
    obtain ⟨T137, h137, X137, e137, W137, st137⟩ := stC X134 hx hZ e134 Ar136 (j := (0 : Int32)) hin136 (g := (mkF m 54 #[.val (.ref ua), .val (.int (2 : Int32))] [(.int c0_), (.int (0 : Int32)), (.ref b134), (.ref b134), (.ref b133), (.ref b133)])) rfl rfl (hb hby d_5_54)
    refine own_go st137 ?_
    rw [(own_nc B0)] at W137
    have V137 : Arv Z h137 b134 k134 .char (2 : Int32) [(.int c0_), (.int (0 : Int32))] (.int (0 : Int32)) := Arv.set Ar136 qk136 sz136 nn136 ha136 gf136 (own_fc B0) W137 0 rfl (Nat.le_of_ble_eq_true rfl)
    have C137 := C134.trans (CHr.wr W137 (Safe.ext E134 C133.1 Sf134) C134.1)
    have Z137 : n0 ≤ h137.size := (Nat.le_trans Z134 (Nat.le_of_eq W137.size.symm))
    have N137 := Fr.snoc X137 N0 q134
    have K137 : Keep h0 h137 [] := K134.wr W137 (Or.inr (Nat.le_trans E133.1 lo134))
    refine own_go (fun t k => XS.dup X137.here hx rfl (hb hby d_5_55) rfl rfl k) ?_
    refine own_go (fun t k => XS.iconst X137.here hx rfl (hb hby d_5_56) k) ?_
    refine own_go (fun t k => XS.aloadN X137.here hx rfl (hb hby d_5_57) rfl rfl k) ?_
    show own_Go _ _ _ _ (T137.setTop (mkF m 58 #[.val (.ref ua), .val (.int (2 : Int32))] [(.ref ua), (.int (1 : Int32)), (.ref b134), (.ref b134), (.ref b133), (.ref b133)]))
    refine own_go (fun t k => XS.iconst X137.here hx rfl (hb hby d_5_58) k) ?_
    show own_Go _ _ _ _ (T137.setTop (mkF m 59 #[.val (.ref ua), .val (.int (2 : Int32))] [(.int (1 : Int32)), (.ref ua), (.int (1 : Int32)), (.ref b134), (.ref b134), (.ref b133), (.ref b133)]))
    have f138 := (((A0.ext E133).ext E134).other W137 (Nat.ne_of_lt (Nat.lt_of_lt_of_le A0.lt (Nat.le_trans E133.1 lo134))))
    obtain ⟨cl139, Ar139, qk139, sz139, nn139, ha139, gf139⟩ := id f138
    have hin139 : ¬ ((1 : Int32) < 0 ∨ cl139.slots.size ≤ ((1 : Int32)).toNatClampNeg) := inb_of sz139 ⟨by decide, by decide⟩
    have hat139 : cl139.slots[((1 : Int32)).toNatClampNeg]? = some (.int c1_) := ha139.at hin139 rfl
    refine own_go (X137.caload hx (j := (1 : Int32)) (v := (.int c1_)) (by rw [e137]; exact Ar139.1) (State.isArrayOf_alike hZ.alike Ar139.2.1) Ar139.2.2 hin139 hat139 (g := (mkF m 59 #[.val (.ref ua), .val (.int (2 : Int32))] [(.int (1 : Int32)), (.ref ua), (.int (1 : Int32)), (.ref b134), (.ref b134), (.ref b133), (.ref b133)])) rfl rfl (hb hby d_5_59)) ?_
    show own_Go _ _ _ _ (T137.setTop (mkF m 60 #[.val (.ref ua), .val (.int (2 : Int32))] [(.int c1_), (.int (1 : Int32)), (.ref b134), (.ref b134), (.ref b133), (.ref b133)]))
    obtain ⟨cl140, Ar140, qk140, sz140, nn140, ha140, gf140⟩ := id V137
    have hin140 : ¬ ((1 : Int32) < 0 ∨ cl140.slots.size ≤ ((1 : Int32)).toNatClampNeg) := inb_of sz140 ⟨by decide, by decide⟩
    obtain ⟨T141, h141, X141, e141, W141, st141⟩ := stC X137 hx hZ e137 Ar140 (j := (1 : Int32)) hin140 (g := (mkF m 60 #[.val (.ref ua), .val (.int (2 : Int32))] [(.int c1_), (.int (1 : Int32)), (.ref b134), (.ref b134), (.ref b133), (.ref b133)])) rfl rfl (hb hby d_5_60)
    refine own_go st141 ?_
    rw [(own_nc B1)] at W141
    have V141 : Arv Z h141 b134 k134 .char (2 : Int32) [(.int c0_), (.int c1_)] (.int (0 : Int32)) := Arv.set Ar140 qk140 sz140 nn140 ha140 gf140 (own_fc B1) W141 1 rfl (Nat.le_of_ble_eq_true rfl)
    have f142 := (Safe.wr W137 (Safe.ext E134 C133.1 Sf134) C134.1 (Safe.ext E134 C133.1 Sf134))
    have C141 := C137.trans (CHr.wr W141 f142 C137.1)
    have Z141 : n0 ≤ h141.size := (Nat.le_trans Z137 (Nat.le_of_eq W141.size.symm))
    have N141 := Fr.snoc X141 N137 q134
    have K141 : Keep h0 h141 [] := K137.wr W141 (Or.inr (Nat.le_trans E133.1 lo134))
    have f143 := (((F133_28.ext E134).other W137 (Or.inl (Nat.ne_of_lt (Nat.lt_of_lt_of_le hi133 lo134)))).other W141 (Or.inl (Nat.ne_of_lt (Nat.lt_of_lt_of_le hi133 lo134))))
    have f144 := (((F133_29.ext E134).other W137 (Or.inl (Nat.ne_of_lt (Nat.lt_of_lt_of_le hi133 lo134)))).other W141 (Or.inl (Nat.ne_of_lt (Nat.lt_of_lt_of_le hi133 lo134))))
    have f145 := (Safe.wr W141 f142 C137.1 (Safe.wr W137 (Safe.ext E134 C133.1 Sf134) C134.1 (Safe.ext E134 C133.1 (Safe.ext E133 C0.1 Sf133))))
    obtain ⟨_, _, ⟨T146, L146, k146, n146⟩, -, X146, ⟨Lc146, hQ146, l146, y146, z146⟩, st146⟩ := X141.specialBack hx (y := (⟨"java/lang/String", "<init>", "([C)V"⟩ : MethodName)) rfl hown (mvT hZ (w_16 hw)) (mvT hZ (w_17 hw)) (mvT hZ (w_18 hw)) (by decide) (StrChars.Road.backV (W := 1) hZ (own_wnew hw) (kI := 4) (w_14 hw) (cs := ([c0_, c1_] : List Int32)) (bs := (([c0_, c1_] : List Int32)).map (fun c => c.toInt8.toInt32)) (n := 2) q133 Z141 (((A133.ext E134).wr W137).wr W141) f143 f144 V141 (S0.ext ((((O0.ext E133).ext E134).wr W137 q134).wr W141 q134).2) hzv rfl rfl (by decide) (by decide) (List.forall_mem_cons.mpr ⟨B0, (List.forall_mem_cons.mpr ⟨B1, (List.forall_mem_nil _)⟩)⟩) rfl (by decide) (by decide)) (g := (mkF m 61 #[.val (.ref ua), .val (.int (2 : Int32))] [(.ref b134), (.ref b133), (.ref b133)])) rfl (by rw [hml]; rfl) (Steps.refl _) (a := b133) (argsL := [(.ref b134)]) (rest := [(.ref b133)]) (lenOf pd_1 rfl) rfl (by show 2 * 0 + _ ≤ _; exact Nat.le_of_eq rfl) (hb hby d_5_61) (fun _ _ => ⟨rfl, e141, (by decide : 2 + 1 ≤ _), (by decide : 6 + 2 ≤ _)⟩)
    dsimp only [Pt.U, Pt.locs, Pt.cells, Pt.slots] at X146 l146 y146 z146 st146 hQ146
    subst l146 y146 z146
    generalize e146 : T146.heap = h146 at hQ146
    obtain ⟨rfl, N146q, K146q, Ea146, Ec146, t146, kb146, q146, lo146, nt146, Ev146, Ek146⟩ := hQ146
    have N146 := Fr.app N141 N146q
    refine own_go (fun t k => st146.trans k) ?_
    have C146 := C141.trans (CHr.keep K146q (allS f145 all0) C141.1)
    have Z146 : n0 ≤ h146.size := (Nat.le_trans Z141 K146q.1)
    have K146 : Keep h0 h146 [] := K141.trans K146q (allS (Or.inr lo133) all0)
    have hi146 := Ek146.lt
    replace Ek146 : Arv Z h146 t146 kb146 .byte (2 : Int32) [(.int (c0_.toInt8.toInt32)), (.int (c1_.toInt8.toInt32))] (.int (0 : Int32)) := Ek146
    show own_Go _ _ _ _ (T146.setTop (mkF m 64 #[.val (.ref ua), .val (.int (2 : Int32))] [(.ref b133)]))
    refine own_retH X146 hx hS (Nat.le_trans (Nat.le_trans hk (Nat.le_trans (Nat.le_trans (Nat.le_trans (Nat.le_trans E133.1 E134.1) (Nat.le_of_eq W137.size.symm)) (Nat.le_of_eq W141.size.symm)) K146q.1)) (Nat.le_of_eq (congrArg Array.size e146.symm))) (by rw [hh, e146]; exact C146.trans (CHv.at X146 hZ (own_EW hw) C146.1)) hlk hret rfl (Or.inr (Or.inr (Or.inr (Or.inr ⟨rfl, rfl, rfl⟩)))) (hb hby d_5_64) ?_ (by decide) (by decide)
    rw [e146]
    exact ⟨b133, t146, kb146, rfl, N146, K146, Ea146, Ec146, Ev146, Ek146⟩
  · show own_Go _ _ _ _ (s₁.setTop (mkF m 0 #[.val (.ref ua), .val (.int (3 : Int32))] []))
    refine own_go (fun t k => XS.iloadN X0.here hx rfl (hb hby d_5_0) rfl k) ?_
    show own_Go _ _ _ _ (s₁.setTop (mkF m 1 #[.val (.ref ua), .val (.int (3 : Int32))] [(.int (3 : Int32))]))
    refine own_go (fun t k => XS.ifYes X0.here hx rfl (pc0 := 1) (pc' := 15) rfl (hb hby d_5_1) rfl ((if0 _ _).trans (feq (by decide : ¬ ((3 : Int32) = (0 : Int32)))).2) (by decide) (by decide) k) ?_
    refine own_go (fun t k => XS.iloadN X0.here hx rfl (hb hby d_5_15) rfl k) ?_
    refine own_go (fun t k => XS.iconst X0.here hx rfl (hb hby d_5_16) k) ?_
    show own_Go _ _ _ _ (s₁.setTop (mkF m 17 #[.val (.ref ua), .val (.int (3 : Int32))] [(.int (1 : Int32)), (.int (3 : Int32))]))
    refine own_go (fun t k => XS.icmpYes X0.here hx rfl (pc0 := 17) (pc' := 37) rfl (hb hby d_5_17) rfl (feq (by decide : ¬ ((3 : Int32) = (1 : Int32)))).2 (by decide) (by decide) k) ?_
    refine own_go (fun t k => XS.iloadN X0.here hx rfl (hb hby d_5_37) rfl k) ?_
    refine own_go (fun t k => XS.iconst X0.here hx rfl (hb hby d_5_38) k) ?_
    show own_Go _ _ _ _ (s₁.setTop (mkF m 39 #[.val (.ref ua), .val (.int (3 : Int32))] [(.int (2 : Int32)), (.int (3 : Int32))]))
    refine own_go (fun t k => XS.icmpYes X0.here hx rfl (pc0 := 39) (pc' := 65) rfl (hb hby d_5_39) rfl (feq (by decide : ¬ ((3 : Int32) = (2 : Int32)))).2 (by decide) (by decide) k) ?_
    refine own_go (fun t k => XS.iloadN X0.here hx rfl (hb hby d_5_65) rfl k) ?_
    refine own_go (fun t k => XS.iconst X0.here hx rfl (hb hby d_5_66) k) ?_
    show own_Go _ _ _ _ (s₁.setTop (mkF m 67 #[.val (.ref ua), .val (.int (3 : Int32))] [(.int (3 : Int32)), (.int (3 : Int32))]))
    refine own_go (fun t k => XS.icmpNo X0.here hx rfl (hb hby d_5_67) rfl (teq (by decide : (3 : Int32) = (3 : Int32))).2 k) ?_
    show own_Go _ _ _ _ (s₁.setTop (mkF m 70 #[.val (.ref ua), .val (.int (3 : Int32))] []))
    obtain ⟨T147, h147, X147, e147, E147, A147, D147, -, st147⟩ := newO X0 hx hZ hown (w_13 hw) (w_14 hw) (w_15 hw) e0 (g := (mkF m 70 #[.val (.ref ua), .val (.int (3 : Int32))] [])) rfl (hb hby d_5_70) (by decide) (by decide)
    obtain ⟨b147, g147⟩ : ∃ z, z = h0.size := ⟨_, rfl⟩
    rw [← g147] at A147 D147 st147
    refine own_go st147 ?_
    have Sf147 : Safe Z consts_1 s.vm h0 b147 := Safe.new (Nat.le_of_eq g147.symm)
    have Z147 : n0 ≤ h147.size := (Nat.le_trans Z0 E147.1)
    have C147 := C0.trans (CHr.ext E147 C0.1)
    have K147 : Keep h0 h147 [] := (Keep.refl h0 []).ext E147
    have lo147 : h0.size ≤ b147 := Nat.le_of_eq g147.symm
    have q147 : n0 ≤ b147 := Nat.le_trans Z0 lo147
    have hi147 : b147 < h147.size := A147.lt
    have F147_28 : Fld Z h147 b147 "java/lang/String" "value" "[B" .null := D147 (Or.inr (w_28 hw)) (ty := (.array .byte)) (by decide)
    have F147_29 : Fld Z h147 b147 "java/lang/String" "coder" "B" (.int (0 : Int32)) := D147 (Or.inr (w_29 hw)) (ty := .byte) (by decide)
    refine own_go (fun t k => XS.dup X147.here hx rfl (hb hby d_5_73) rfl rfl k) ?_
    refine own_go (fun t k => XS.iconst X147.here hx rfl (hb hby d_5_74) k) ?_
    show own_Go _ _ _ _ (T147.setTop (mkF m 75 #[.val (.ref ua), .val (.int (3 : Int32))] [(.int (3 : Int32)), (.ref b147), (.ref b147)]))
    obtain ⟨T148, h148, k148, X148, e148, E148, A148, st148⟩ := newP (aty := .char) X147 hx hZ (w_0 hw) e147 (n := (3 : Int32)) (rest := [(.ref b147), (.ref b147)]) (g := (mkF m 75 #[.val (.ref ua), .val (.int (3 : Int32))] [(.int (3 : Int32)), (.ref b147), (.ref b147)])) rfl (hb hby d_5_75) rfl (by decide) (cap := 3) (by decide) (by decide) (by decide) (by decide)
    obtain ⟨b148, g148⟩ : ∃ z, z = h147.size := ⟨_, rfl⟩
    rw [← g148] at A148 st148
    refine own_go st148 ?_
    have Sf148 : Safe Z consts_1 s.vm h147 b148 := Safe.new (Nat.le_of_eq g148.symm)
    have Z148 : n0 ≤ h148.size := (Nat.le_trans Z147 E148.1)
    have C148 := C147.trans (CHr.ext E148 C147.1)
    have K148 : Keep h0 h148 [] := K147.ext E148
    have lo148 : h147.size ≤ b148 := Nat.le_of_eq g148.symm
    have q148 : n0 ≤ b148 := Nat.le_trans Z147 lo148
    have hi148 : b148 < h148.size := A148.lt
    have V148 : Arv Z h148 b148 k148 .char (3 : Int32) [(.int (0 : Int32)), (.int (0 : Int32)), (.int (0 : Int32))] (.int (0 : Int32)) := (Arv.new A148 (by decide)).pad (pad_rep [] (.int (0 : Int32)) 3)
    refine own_go (fun t k => XS.dup X148.here hx rfl (hb hby d_5_77) rfl rfl k) ?_
    refine own_go (fun t k => XS.iconst X148.here hx rfl (hb hby d_5_78) k) ?_
    refine own_go (fun t k => XS.aloadN X148.here hx rfl (hb hby d_5_79) rfl rfl k) ?_
    show own_Go _ _ _ _ (T148.setTop (mkF m 80 #[.val (.ref ua), .val (.int (3 : Int32))] [(.ref ua), (.int (0 : Int32)), (.ref b148), (.ref b148), (.ref b147), (.ref b147)]))
    refine own_go (fun t k => XS.iconst X148.here hx rfl (hb hby d_5_80) k) ?_
    show own_Go _ _ _ _ (T148.setTop (mkF m 81 #[.val (.ref ua), .val (.int (3 : Int32))] [(.int (0 : Int32)), (.ref ua), (.int (0 : Int32)), (.ref b148), (.ref b148), (.ref b147), (.ref b147)]))
    obtain ⟨cl149, Ar149, qk149, sz149, nn149, ha149, gf149⟩ := id ((A0.ext E147).ext E148)
    have hin149 : ¬ ((0 : Int32) < 0 ∨ cl149.slots.size ≤ ((0 : Int32)).toNatClampNeg) := inb_of sz149 ⟨by decide, by decide⟩
    have hat149 : cl149.slots[((0 : Int32)).toNatClampNeg]? = some (.int c0_) := ha149.at hin149 rfl
    refine own_go (X148.caload hx (j := (0 : Int32)) (v := (.int c0_)) (by rw [e148]; exact Ar149.1) (State.isArrayOf_alike hZ.alike Ar149.2.1) Ar149.2.2 hin149 hat149 (g := (mkF m 81 #[.val (.ref ua), .val (.int (3 : Int32))] [(.int (0 : Int32)), (.ref ua), (.int (0 : Int32)), (.ref b148), (.ref b148), (.ref b147), (.ref b147)])) rfl rfl (hb hby d_5_81)) ?_
    show own_Go _ _ _ _ (T148.setTop (mkF m 82 #[.val (.ref ua), .val (.int (3 : Int32))] [(.int c0_), (.int (0 : Int32)), (.ref b148), (.ref b148), (.ref b147), (.ref b147)]))
    obtain ⟨cl150, Ar150, qk150, sz150, nn150, ha150, gf150⟩ := id V148
    have hin150 : ¬ ((0 : Int32) < 0 ∨ cl150.slots.size ≤ ((0 : Int32)).toNatClampNeg) := inb_of sz150 ⟨by decide, by decide⟩
    obtain ⟨T151, h151, X151, e151, W151, st151⟩ := stC X148 hx hZ e148 Ar150 (j := (0 : Int32)) hin150 (g := (mkF m 82 #[.val (.ref ua), .val (.int (3 : Int32))] [(.int c0_), (.int (0 : Int32)), (.ref b148), (.ref b148), (.ref b147), (.ref b147)])) rfl rfl (hb hby d_5_82)
    refine own_go st151 ?_
    rw [(own_nc B0)] at W151
    have V151 : Arv Z h151 b148 k148 .char (3 : Int32) [(.int c0_), (.int (0 : Int32)), (.int (0 : Int32))] (.int (0 : Int32)) := Arv.set Ar150 qk150 sz150 nn150 ha150 gf150 (own_fc B0) W151 0 rfl (Nat.le_of_ble_eq_true rfl)
    have C151 := C148.trans (CHr.wr W151 (Safe.ext E148 C147.1 Sf148) C148.1)
    have Z151 : n0 ≤ h151.size := (Nat.le_trans Z148 (Nat.le_of_eq W151.size.symm))
    have N151 := Fr.snoc X151 N0 q148
    have K151 : Keep h0 h151 [] := K148.wr W151 (Or.inr (Nat.le_trans E147.1 lo148))
    refine own_go (fun t k => XS.dup X151.here hx rfl (hb hby d_5_83) rfl rfl k) ?_
    refine own_go (fun t k => XS.iconst X151.here hx rfl (hb hby d_5_84) k) ?_
    refine own_go (fun t k => XS.aloadN X151.here hx rfl (hb hby d_5_85) rfl rfl k) ?_
    show own_Go _ _ _ _ (T151.setTop (mkF m 86 #[.val (.ref ua), .val (.int (3 : Int32))] [(.ref ua), (.int (1 : Int32)), (.ref b148), (.ref b148), (.ref b147), (.ref b147)]))
    refine own_go (fun t k => XS.iconst X151.here hx rfl (hb hby d_5_86) k) ?_
    show own_Go _ _ _ _ (T151.setTop (mkF m 87 #[.val (.ref ua), .val (.int (3 : Int32))] [(.int (1 : Int32)), (.ref ua), (.int (1 : Int32)), (.ref b148), (.ref b148), (.ref b147), (.ref b147)]))
    have f152 := (((A0.ext E147).ext E148).other W151 (Nat.ne_of_lt (Nat.lt_of_lt_of_le A0.lt (Nat.le_trans E147.1 lo148))))
    obtain ⟨cl153, Ar153, qk153, sz153, nn153, ha153, gf153⟩ := id f152
    have hin153 : ¬ ((1 : Int32) < 0 ∨ cl153.slots.size ≤ ((1 : Int32)).toNatClampNeg) := inb_of sz153 ⟨by decide, by decide⟩
    have hat153 : cl153.slots[((1 : Int32)).toNatClampNeg]? = some (.int c1_) := ha153.at hin153 rfl
    refine own_go (X151.caload hx (j := (1 : Int32)) (v := (.int c1_)) (by rw [e151]; exact Ar153.1) (State.isArrayOf_alike hZ.alike Ar153.2.1) Ar153.2.2 hin153 hat153 (g := (mkF m 87 #[.val (.ref ua), .val (.int (3 : Int32))] [(.int (1 : Int32)), (.ref ua), (.int (1 : Int32)), (.ref b148), (.ref b148), (.ref b147), (.ref b147)])) rfl rfl (hb hby d_5_87)) ?_
    show own_Go _ _ _ _ (T151.setTop (mkF m 88 #[.val (.ref ua), .val (.int (3 : Int32))] [(.int c1_), (.int (1 : Int32)), (.ref b148), (.ref b148), (.ref b147), (.ref b147)]))
    obtain ⟨cl154, Ar154, qk154, sz154, nn154, ha154, gf154⟩ := id V151
    have hin154 : ¬ ((1 : Int32) < 0 ∨ cl154.slots.size ≤ ((1 : Int32)).toNatClampNeg) := inb_of sz154 ⟨by decide, by decide⟩
    obtain ⟨T155, h155, X155, e155, W155, st155⟩ := stC X151 hx hZ e151 Ar154 (j := (1 : Int32)) hin154 (g := (mkF m 88 #[.val (.ref ua), .val (.int (3 : Int32))] [(.int c1_), (.int (1 : Int32)), (.ref b148), (.ref b148), (.ref b147), (.ref b147)])) rfl rfl (hb hby d_5_88)
    refine own_go st155 ?_
    rw [(own_nc B1)] at W155
    have V155 : Arv Z h155 b148 k148 .char (3 : Int32) [(.int c0_), (.int c1_), (.int (0 : Int32))] (.int (0 : Int32)) := Arv.set Ar154 qk154 sz154 nn154 ha154 gf154 (own_fc B1) W155 1 rfl (Nat.le_of_ble_eq_true rfl)
    have f156 := (Safe.wr W151 (Safe.ext E148 C147.1 Sf148) C148.1 (Safe.ext E148 C147.1 Sf148))
    have C155 := C151.trans (CHr.wr W155 f156 C151.1)
    have Z155 : n0 ≤ h155.size := (Nat.le_trans Z151 (Nat.le_of_eq W155.size.symm))
    have N155 := Fr.snoc X155 N151 q148
    have K155 : Keep h0 h155 [] := K151.wr W155 (Or.inr (Nat.le_trans E147.1 lo148))
    refine own_go (fun t k => XS.dup X155.here hx rfl (hb hby d_5_89) rfl rfl k) ?_
    refine own_go (fun t k => XS.iconst X155.here hx rfl (hb hby d_5_90) k) ?_
    refine own_go (fun t k => XS.aloadN X155.here hx rfl (hb hby d_5_91) rfl rfl k) ?_
    show own_Go _ _ _ _ (T155.setTop (mkF m 92 #[.val (.ref ua), .val (.int (3 : Int32))] [(.ref ua), (.int (2 : Int32)), (.ref b148), (.ref b148), (.ref b147), (.ref b147)]))
    refine own_go (fun t k => XS.iconst X155.here hx rfl (hb hby d_5_92) k) ?_
    show own_Go _ _ _ _ (T155.setTop (mkF m 93 #[.val (.ref ua), .val (.int (3 : Int32))] [(.int (2 : Int32)), (.ref ua), (.int (2 : Int32)), (.ref b148), (.ref b148), (.ref b147), (.ref b147)]))
    have f157 := (f152.other W155 (Nat.ne_of_lt (Nat.lt_of_lt_of_le A0.lt (Nat.le_trans E147.1 lo148))))
    obtain ⟨cl158, Ar158, qk158, sz158, nn158, ha158, gf158⟩ := id f157
    have hin158 : ¬ ((2 : Int32) < 0 ∨ cl158.slots.size ≤ ((2 : Int32)).toNatClampNeg) := inb_of sz158 ⟨by decide, by decide⟩
    have hat158 : cl158.slots[((2 : Int32)).toNatClampNeg]? = some (.int c2_) := ha158.at hin158 rfl
    refine own_go (X155.caload hx (j := (2 : Int32)) (v := (.int c2_)) (by rw [e155]; exact Ar158.1) (State.isArrayOf_alike hZ.alike Ar158.2.1) Ar158.2.2 hin158 hat158 (g := (mkF m 93 #[.val (.ref ua), .val (.int (3 : Int32))] [(.int (2 : Int32)), (.ref ua), (.int (2 : Int32)), (.ref b148), (.ref b148), (.ref b147), (.ref b147)])) rfl rfl (hb hby d_5_93)) ?_
    show own_Go _ _ _ _ (T155.setTop (mkF m 94 #[.val (.ref ua), .val (.int (3 : Int32))] [(.int c2_), (.int (2 : Int32)), (.ref b148), (.ref b148), (.ref b147), (.ref b147)]))
    obtain ⟨cl159, Ar159, qk159, sz159, nn159, ha159, gf159⟩ := id V155
    have hin159 : ¬ ((2 : Int32) < 0 ∨ cl159.slots.size ≤ ((2 : Int32)).toNatClampNeg) := inb_of sz159 ⟨by decide, by decide⟩
    obtain ⟨T160, h160, X160, e160, W160, st160⟩ := stC X155 hx hZ e155 Ar159 (j := (2 : Int32)) hin159 (g := (mkF m 94 #[.val (.ref ua), .val (.int (3 : Int32))] [(.int c2_), (.int (2 : Int32)), (.ref b148), (.ref b148), (.ref b147), (.ref b147)])) rfl rfl (hb hby d_5_94)
    refine own_go st160 ?_
    rw [(own_nc B2)] at W160
    have V160 : Arv Z h160 b148 k148 .char (3 : Int32) [(.int c0_), (.int c1_), (.int c2_)] (.int (0 : Int32)) := Arv.set Ar159 qk159 sz159 nn159 ha159 gf159 (own_fc B2) W160 2 rfl (Nat.le_of_ble_eq_true rfl)
    have C160 := C155.trans (CHr.wr W160 (Safe.wr W155 f156 C151.1 f156) C155.1)
    have Z160 : n0 ≤ h160.size := (Nat.le_trans Z155 (Nat.le_of_eq W160.size.symm))
    have N160 := Fr.snoc X160 N155 q148
    have K160 : Keep h0 h160 [] := K155.wr W160 (Or.inr (Nat.le_trans E147.1 lo148))
    have f161 := ((((F147_28.ext E148).other W151 (Or.inl (Nat.ne_of_lt (Nat.lt_of_lt_of_le hi147 lo148)))).other W155 (Or.inl (Nat.ne_of_lt (Nat.lt_of_lt_of_le hi147 lo148)))).other W160 (Or.inl (Nat.ne_of_lt (Nat.lt_of_lt_of_le hi147 lo148))))
    have f162 := ((((F147_29.ext E148).other W151 (Or.inl (Nat.ne_of_lt (Nat.lt_of_lt_of_le hi147 lo148)))).other W155 (Or.inl (Nat.ne_of_lt (Nat.lt_of_lt_of_le hi147 lo148)))).other W160 (Or.inl (Nat.ne_of_lt (Nat.lt_of_lt_of_le hi147 lo148))))
    have f163 := (((((O0.ext E147).ext E148).wr W151 q148).wr W155 q148).wr W160 q148)
    have f164 := (Safe.wr W160 (Safe.wr W155 f156 C151.1 f156) C155.1 (Safe.wr W155 f156 C151.1 (Safe.wr W151 (Safe.ext E148 C147.1 Sf148) C148.1 (Safe.ext E148 C147.1 (Safe.ext E147 C0.1 Sf147)))))
    obtain ⟨_, _, ⟨T165, L165, k165, n165⟩, -, X165, ⟨Lc165, hQ165, l165, y165, z165⟩, st165⟩ := X160.specialBack hx (y := (⟨"java/lang/String", "<init>", "([C)V"⟩ : MethodName)) rfl hown (mvT hZ (w_16 hw)) (mvT hZ (w_17 hw)) (mvT hZ (w_18 hw)) (by decide) (StrChars.Road.backV (W := 1) hZ (own_wnew hw) (kI := 4) (w_14 hw) (cs := ([c0_, c1_, c2_] : List Int32)) (bs := (([c0_, c1_, c2_] : List Int32)).map (fun c => c.toInt8.toInt32)) (n := 3) q147 Z160 ((((A147.ext E148).wr W151).wr W155).wr W160) f161 f162 V160 (S0.ext f163.2) hzv rfl rfl (by decide) (by decide) (List.forall_mem_cons.mpr ⟨B0, (List.forall_mem_cons.mpr ⟨B1, (List.forall_mem_cons.mpr ⟨B2, (List.forall_mem_nil _)⟩)⟩)⟩) rfl (by decide) (by decide)) (g := (mkF m 95 #[.val (.ref ua), .val (.int (3 : Int32))] [(.ref b148), (.ref b147), (.ref b147)])) rfl (by rw [hml]; rfl) (Steps.refl _) (a := b147) (argsL := [(.ref b148)]) (rest := [(.ref b147)]) (lenOf pd_1 rfl) rfl (by show 2 * 0 + _ ≤ _; exact Nat.le_of_eq rfl) (hb hby d_5_95) (fun _ _ => ⟨rfl, e160, (by decide : 2 + 1 ≤ _), (by decide : 7 + 3 ≤ _)⟩)
    dsimp only [Pt.U, Pt.locs, Pt.cells, Pt.slots] at X165 l165 y165 z165 st165 hQ165
    subst l165 y165 z165
    generalize e165 : T165.heap = h165 at hQ165
    obtain ⟨rfl, N165q, K165q, Ea165, Ec165, t165, kb165, q165, lo165, nt165, Ev165, Ek165⟩ := hQ165
    have N165 := Fr.app N160 N165q
    refine own_go (fun t k => st165.trans k) ?_
    have C165 := C160.trans (CHr.keep K165q (allS f164 all0) C160.1)
    have Z165 : n0 ≤ h165.size := (Nat.le_trans Z160 K165q.1)
    have K165 : Keep h0 h165 [] := K160.trans K165q (allS (Or.inr lo147) all0)
    have hi165 := Ek165.lt
    replace Ek165 : Arv Z h165 t165 kb165 .byte (3 : Int32) [(.int (c0_.toInt8.toInt32)), (.int (c1_.toInt8.toInt32)), (.int (c2_.toInt8.toInt32))] (.int (0 : Int32)) := Ek165
    show own_Go _ _ _ _ (T165.setTop (mkF m 98 #[.val (.ref ua), .val (.int (3 : Int32))] [(.ref b147)]))
    refine own_retH X165 hx hS (Nat.le_trans (Nat.le_trans hk (Nat.le_trans (Nat.le_trans (Nat.le_trans (Nat.le_trans (Nat.le_trans E147.1 E148.1) (Nat.le_of_eq W151.size.symm)) (Nat.le_of_eq W155.size.symm)) (Nat.le_of_eq W160.size.symm)) K165q.1)) (Nat.le_of_eq (congrArg Array.size e165.symm))) (by rw [hh, e165]; exact C165.trans (CHv.at X165 hZ (own_EW hw) C165.1)) hlk hret rfl (Or.inr (Or.inr (Or.inr (Or.inr ⟨rfl, rfl, rfl⟩)))) (hb hby d_5_98) ?_ (by decide) (by decide)
    rw [e165]
    exact ⟨b147, t165, kb165, rfl, N165, K165, Ea165, Ec165, Ev165, Ek165⟩
  · show own_Go _ _ _ _ (s₁.setTop (mkF m 0 #[.val (.ref ua), .val (.int (4 : Int32))] []))
    refine own_go (fun t k => XS.iloadN X0.here hx rfl (hb hby d_5_0) rfl k) ?_
    show own_Go _ _ _ _ (s₁.setTop (mkF m 1 #[.val (.ref ua), .val (.int (4 : Int32))] [(.int (4 : Int32))]))
    refine own_go (fun t k => XS.ifYes X0.here hx rfl (pc0 := 1) (pc' := 15) rfl (hb hby d_5_1) rfl ((if0 _ _).trans (feq (by decide : ¬ ((4 : Int32) = (0 : Int32)))).2) (by decide) (by decide) k) ?_
    refine own_go (fun t k => XS.iloadN X0.here hx rfl (hb hby d_5_15) rfl k) ?_
    refine own_go (fun t k => XS.iconst X0.here hx rfl (hb hby d_5_16) k) ?_
    show own_Go _ _ _ _ (s₁.setTop (mkF m 17 #[.val (.ref ua), .val (.int (4 : Int32))] [(.int (1 : Int32)), (.int (4 : Int32))]))
    refine own_go (fun t k => XS.icmpYes X0.here hx rfl (pc0 := 17) (pc' := 37) rfl (hb hby d_5_17) rfl (feq (by decide : ¬ ((4 : Int32) = (1 : Int32)))).2 (by decide) (by decide) k) ?_
    refine own_go (fun t k => XS.iloadN X0.here hx rfl (hb hby d_5_37) rfl k) ?_
    refine own_go (fun t k => XS.iconst X0.here hx rfl (hb hby d_5_38) k) ?_
    show own_Go _ _ _ _ (s₁.setTop (mkF m 39 #[.val (.ref ua), .val (.int (4 : Int32))] [(.int (2 : Int32)), (.int (4 : Int32))]))
    refine own_go (fun t k => XS.icmpYes X0.here hx rfl (pc0 := 39) (pc' := 65) rfl (hb hby d_5_39) rfl (feq (by decide : ¬ ((4 : Int32) = (2 : Int32)))).2 (by decide) (by decide) k) ?_
    refine own_go (fun t k => XS.iloadN X0.here hx rfl (hb hby d_5_65) rfl k) ?_
    refine own_go (fun t k => XS.iconst X0.here hx rfl (hb hby d_5_66) k) ?_
    show own_Go _ _ _ _ (s₁.setTop (mkF m 67 #[.val (.ref ua), .val (.int (4 : Int32))] [(.int (3 : Int32)), (.int (4 : Int32))]))
    refine own_go (fun t k => XS.icmpYes X0.here hx rfl (pc0 := 67) (pc' := 99) rfl (hb hby d_5_67) rfl (feq (by decide : ¬ ((4 : Int32) = (3 : Int32)))).2 (by decide) (by decide) k) ?_
    show own_Go _ _ _ _ (s₁.setTop (mkF m 99 #[.val (.ref ua), .val (.int (4 : Int32))] []))
    obtain ⟨T166, h166, X166, e166, E166, A166, D166, -, st166⟩ := newO X0 hx hZ hown (w_13 hw) (w_14 hw) (w_15 hw) e0 (g := (mkF m 99 #[.val (.ref ua), .val (.int (4 : Int32))] [])) rfl (hb hby d_5_99) (by decide) (by decide)
    obtain ⟨b166, g166⟩ : ∃ z, z = h0.size := ⟨_, rfl⟩
    rw [← g166] at A166 D166 st166
    refine own_go st166 ?_
    have Sf166 : Safe Z consts_1 s.vm h0 b166 := Safe.new (Nat.le_of_eq g166.symm)
    have Z166 : n0 ≤ h166.size := (Nat.le_trans Z0 E166.1)
    have C166 := C0.trans (CHr.ext E166 C0.1)
    have K166 : Keep h0 h166 [] := (Keep.refl h0 []).ext E166
    have lo166 : h0.size ≤ b166 := Nat.le_of_eq g166.symm
    have q166 : n0 ≤ b166 := Nat.le_trans Z0 lo166
    have hi166 : b166 < h166.size := A166.lt
    have F166_28 : Fld Z h166 b166 "java/lang/String" "value" "[B" .null := D166 (Or.inr (w_28 hw)) (ty := (.array .byte)) (by decide)
    have F166_29 : Fld Z h166 b166 "java/lang/String" "coder" "B" (.int (0 : Int32)) := D166 (Or.inr (w_29 hw)) (ty := .byte) (by decide)
    refine own_go (fun t k => XS.dup X166.here hx rfl (hb hby d_5_102) rfl rfl k) ?_
    refine own_go (fun t k => XS.iconst X166.here hx rfl (hb hby d_5_103) k) ?_
    show own_Go _ _ _ _ (T166.setTop (mkF m 104 #[.val (.ref ua), .val (.int (4 : Int32))] [(.int (4 : Int32)), (.ref b166), (.ref b166)]))
    obtain ⟨T167, h167, k167, X167, e167, E167, A167, st167⟩ := newP (aty := .char) X166 hx hZ (w_0 hw) e166 (n := (4 : Int32)) (rest := [(.ref b166), (.ref b166)]) (g := (mkF m 104 #[.val (.ref ua), .val (.int (4 : Int32))] [(.int (4 : Int32)), (.ref b166), (.ref b166)])) rfl (hb hby d_5_104) rfl (by decide) (cap := 4) (by decide) (by decide) (by decide) (by decide)
    obtain ⟨b167, g167⟩ : ∃ z, z = h166.size := ⟨_, rfl⟩
    rw [← g167] at A167 st167
    refine own_go st167 ?_
    have Sf167 : Safe Z consts_1 s.vm h166 b167 := Safe.new (Nat.le_of_eq g167.symm)
    have Z167 : n0 ≤ h167.size := (Nat.le_trans Z166 E167.1)
    have C167 := C166.trans (CHr.ext E167 C166.1)
    have K167 : Keep h0 h167 [] := K166.ext E167
    have lo167 : h166.size ≤ b167 := Nat.le_of_eq g167.symm
    have q167 : n0 ≤ b167 := Nat.le_trans Z166 lo167
    have hi167 : b167 < h167.size := A167.lt
    have V167 : Arv Z h167 b167 k167 .char (4 : Int32) [(.int (0 : Int32)), (.int (0 : Int32)), (.int (0 : Int32)), (.int (0 : Int32))] (.int (0 : Int32)) := (Arv.new A167 (by decide)).pad (pad_rep [] (.int (0 : Int32)) 4)
    refine own_go (fun t k => XS.dup X167.here hx rfl (hb hby d_5_106) rfl rfl k) ?_
    refine own_go (fun t k => XS.iconst X167.here hx rfl (hb hby d_5_107) k) ?_
    refine own_go (fun t k => XS.aloadN X167.here hx rfl (hb hby d_5_108) rfl rfl k) ?_
    show own_Go _ _ _ _ (T167.setTop (mkF m 109 #[.val (.ref ua), .val (.int (4 : Int32))] [(.ref ua), (.int (0 : Int32)), (.ref b167), (.ref b167), (.ref b166), (.ref b166)]))
    refine own_go (fun t k => XS.iconst X167.here hx rfl (hb hby d_5_109) k) ?_
    show own_Go _ _ _ _ (T167.setTop (mkF m 110 #[.val (.ref ua), .val (.int (4 : Int32))] [(.int (0 : Int32)), (.ref ua), (.int (0 : Int32)), (.ref b167), (.ref b167), (.ref b166), (.ref b166)]))
    obtain ⟨cl168, Ar168, qk168, sz168, nn168, ha168, gf168⟩ := id ((A0.ext E166).ext E167)
    have hin168 : ¬ ((0 : Int32) < 0 ∨ cl168.slots.size ≤ ((0 : Int32)).toNatClampNeg) := inb_of sz168 ⟨by decide, by decide⟩
    have hat168 : cl168.slots[((0 : Int32)).toNatClampNeg]? = some (.int c0_) := ha168.at hin168 rfl
    refine own_go (X167.caload hx (j := (0 : Int32)) (v := (.int c0_)) (by rw [e167]; exact Ar168.1) (State.isArrayOf_alike hZ.alike Ar168.2.1) Ar168.2.2 hin168 hat168 (g := (mkF m 110 #[.val (.ref ua), .val (.int (4 : Int32))] [(.int (0 : Int32)), (.ref ua), (.int (0 : Int32)), (.ref b167), (.ref b167), (.ref b166), (.ref b166)])) rfl rfl (hb hby d_5_110)) ?_
    show own_Go _ _ _ _ (T167.setTop (mkF m 111 #[.val (.ref ua), .val (.int (4 : Int32))] [(.int c0_), (.int (0 : Int32)), (.ref b167), (.ref b167), (.ref b166), (.ref b166)]))
    obtain ⟨cl169, Ar169, qk169, sz169, nn169, ha169, gf169⟩ := id V167
    have hin169 : ¬ ((0 : Int32) < 0 ∨ cl169.slots.size ≤ ((0 : Int32)).toNatClampNeg) := inb_of sz169 ⟨by decide, by decide⟩
    obtain ⟨T170, h170, X170, e170, W170, st170⟩ := stC X167 hx hZ e167 Ar169 (j := (0 : Int32)) hin169 (g := (mkF m 111 #[.val (.ref ua), .val (.int (4 : Int32))] [(.int c0_), (.int (0 : Int32)), (.ref b167), (.ref b167), (.ref b166), (.ref b166)])) rfl rfl (hb hby d_5_111)
    refine own_go st170 ?_
    rw [(own_nc B0)] at W170
    have V170 : Arv Z h170 b167 k167 .char (4 : Int32) [(.int c0_), (.int (0 : Int32)), (.int (0 : Int32)), (.int (0 : Int32))] (.int (0 : Int32)) := Arv.set Ar169 qk169 sz169 nn169 ha169 gf169 (own_fc B0) W170 0 rfl (Nat.le_of_ble_eq_true rfl)
    have C170 := C167.trans (CHr.wr W170 (Safe.ext E167 C166.1 Sf167) C167.1)
    have Z170 : n0 ≤ h170.size := (Nat.le_trans Z167 (Nat.le_of_eq W170.size.symm))
    have N170 := Fr.snoc X170 N0 q167
    have K170 : Keep h0 h170 [] := K167.wr W170 (Or.inr (Nat.le_trans E166.1 lo167))
    refine own_go (fun t k => XS.dup X170.here hx rfl (hb hby d_5_112) rfl rfl k) ?_
    refine own_go (fun t k => XS.iconst X170.here hx rfl (hb hby d_5_113) k) ?_
    refine own_go (fun t k => XS.aloadN X170.here hx rfl (hb hby d_5_114) rfl rfl k) ?_
    show own_Go _ _ _ _ (T170.setTop (mkF m 115 #[.val (.ref ua), .val (.int (4 : Int32))] [(.ref ua), (.int (1 : Int32)), (.ref b167), (.ref b167), (.ref b166), (.ref b166)]))
    refine own_go (fun t k => XS.iconst X170.here hx rfl (hb hby d_5_115) k) ?_
    show own_Go _ _ _ _ (T170.setTop (mkF m 116 #[.val (.ref ua), .val (.int (4 : Int32))] [(.int (1 : Int32)), (.ref ua), (.int (1 : Int32)), (.ref b167), (.ref b167), (.ref b166), (.ref b166)]))
    have f171 := (((A0.ext E166).ext E167).other W170 (Nat.ne_of_lt (Nat.lt_of_lt_of_le A0.lt (Nat.le_trans E166.1 lo167))))
    obtain ⟨cl172, Ar172, qk172, sz172, nn172, ha172, gf172⟩ := id f171
    have hin172 : ¬ ((1 : Int32) < 0 ∨ cl172.slots.size ≤ ((1 : Int32)).toNatClampNeg) := inb_of sz172 ⟨by decide, by decide⟩
    have hat172 : cl172.slots[((1 : Int32)).toNatClampNeg]? = some (.int c1_) := ha172.at hin172 rfl
    refine own_go (X170.caload hx (j := (1 : Int32)) (v := (.int c1_)) (by rw [e170]; exact Ar172.1) (State.isArrayOf_alike hZ.alike Ar172.2.1) Ar172.2.2 hin172 hat172 (g := (mkF m 116 #[.val (.ref ua), .val (.int (4 : Int32))] [(.int (1 : Int32)), (.ref ua), (.int (1 : Int32)), (.ref b167), (.ref b167), (.ref b166), (.ref b166)])) rfl rfl (hb hby d_5_116)) ?_
    show own_Go _ _ _ _ (T170.setTop (mkF m 117 #[.val (.ref ua), .val (.int (4 : Int32))] [(.int c1_), (.int (1 : Int32)), (.ref b167), (.ref b167), (.ref b166), (.ref b166)]))
    obtain ⟨cl173, Ar173, qk173, sz173, nn173, ha173, gf173⟩ := id V170
    have hin173 : ¬ ((1 : Int32) < 0 ∨ cl173.slots.size ≤ ((1 : Int32)).toNatClampNeg) := inb_of sz173 ⟨by decide, by decide⟩
    obtain ⟨T174, h174, X174, e174, W174, st174⟩ := stC X170 hx hZ e170 Ar173 (j := (1 : Int32)) hin173 (g := (mkF m 117 #[.val (.ref ua), .val (.int (4 : Int32))] [(.int c1_), (.int (1 : Int32)), (.ref b167), (.ref b167), (.ref b166), (.ref b166)])) rfl rfl (hb hby d_5_117)
    refine own_go st174 ?_
    rw [(own_nc B1)] at W174
    have V174 : Arv Z h174 b167 k167 .char (4 : Int32) [(.int c0_), (.int c1_), (.int (0 : Int32)), (.int (0 : Int32))] (.int (0 : Int32)) := Arv.set Ar173 qk173 sz173 nn173 ha173 gf173 (own_fc B1) W174 1 rfl (Nat.le_of_ble_eq_true rfl)
    have f175 := (Safe.wr W170 (Safe.ext E167 C166.1 Sf167) C167.1 (Safe.ext E167 C166.1 Sf167))
    have C174 := C170.trans (CHr.wr W174 f175 C170.1)
    have Z174 : n0 ≤ h174.size := (Nat.le_trans Z170 (Nat.le_of_eq W174.size.symm))
    have N174 := Fr.snoc X174 N170 q167
    have K174 : Keep h0 h174 [] := K170.wr W174 (Or.inr (Nat.le_trans E166.1 lo167))
    refine own_go (fun t k => XS.dup X174.here hx rfl (hb hby d_5_118) rfl rfl k) ?_
    refine own_go (fun t k => XS.iconst X174.here hx rfl (hb hby d_5_119) k) ?_
    refine own_go (fun t k => XS.aloadN X174.here hx rfl (hb hby d_5_120) rfl rfl k) ?_
    show own_Go _ _ _ _ (T174.setTop (mkF m 121 #[.val (.ref ua), .val (.int (4 : Int32))] [(.ref ua), (.int (2 : Int32)), (.ref b167), (.ref b167), (.ref b166), (.ref b166)]))
    refine own_go (fun t k => XS.iconst X174.here hx rfl (hb hby d_5_121) k) ?_
    show own_Go _ _ _ _ (T174.setTop (mkF m 122 #[.val (.ref ua), .val (.int (4 : Int32))] [(.int (2 : Int32)), (.ref ua), (.int (2 : Int32)), (.ref b167), (.ref b167), (.ref b166), (.ref b166)]))
    have f176 := (f171.other W174 (Nat.ne_of_lt (Nat.lt_of_lt_of_le A0.lt (Nat.le_trans E166.1 lo167))))
    obtain ⟨cl177, Ar177, qk177, sz177, nn177, ha177, gf177⟩ := id f176
    have hin177 : ¬ ((2 : Int32) < 0 ∨ cl177.slots.size ≤ ((2 : Int32)).toNatClampNeg) := inb_of sz177 ⟨by decide, by decide⟩
    have hat177 : cl177.slots[((2 : Int32)).toNatClampNeg]? = some (.int c2_) := ha177.at hin177 rfl
    refine own_go (X174.caload hx (j := (2 : Int32)) (v := (.int c2_)) (by rw [e174]; exact Ar177.1) (State.isArrayOf_alike hZ.alike Ar177.2.1) Ar177.2.2 hin177 hat177 (g := (mkF m 122 #[.val (.ref ua), .val (.int (4 : Int32))] [(.int (2 : Int32)), (.ref ua), (.int (2 : Int32)), (.ref b167), (.ref b167), (.ref b166), (.ref b166)])) rfl rfl (hb hby d_5_122)) ?_
    show own_Go _ _ _ _ (T174.setTop (mkF m 123 #[.val (.ref ua), .val (.int (4 : Int32))] [(.int c2_), (.int (2 : Int32)), (.ref b167), (.ref b167), (.ref b166), (.ref b166)]))
    obtain ⟨cl178, Ar178, qk178, sz178, nn178, ha178, gf178⟩ := id V174
    have hin178 : ¬ ((2 : Int32) < 0 ∨ cl178.slots.size ≤ ((2 : Int32)).toNatClampNeg) := inb_of sz178 ⟨by decide, by decide⟩
    obtain ⟨T179, h179, X179, e179, W179, st179⟩ := stC X174 hx hZ e174 Ar178 (j := (2 : Int32)) hin178 (g := (mkF m 123 #[.val (.ref ua), .val (.int (4 : Int32))] [(.int c2_), (.int (2 : Int32)), (.ref b167), (.ref b167), (.ref b166), (.ref b166)])) rfl rfl (hb hby d_5_123)
    refine own_go st179 ?_
    rw [(own_nc B2)] at W179
    have V179 : Arv Z h179 b167 k167 .char (4 : Int32) [(.int c0_), (.int c1_), (.int c2_), (.int (0 : Int32))] (.int (0 : Int32)) := Arv.set Ar178 qk178 sz178 nn178 ha178 gf178 (own_fc B2) W179 2 rfl (Nat.le_of_ble_eq_true rfl)
    have C179 := C174.trans (CHr.wr W179 (Safe.wr W174 f175 C170.1 f175) C174.1)
    have Z179 : n0 ≤ h179.size := (Nat.le_trans Z174 (Nat.le_of_eq W179.size.symm))
    have N179 := Fr.snoc X179 N174 q167
    have K179 : Keep h0 h179 [] := K174.wr W179 (Or.inr (Nat.le_trans E166.1 lo167))
    refine own_go (fun t k => XS.dup X179.here hx rfl (hb hby d_5_124) rfl rfl k) ?_
    refine own_go (fun t k => XS.iconst X179.here hx rfl (hb hby d_5_125) k) ?_
    refine own_go (fun t k => XS.aloadN X179.here hx rfl (hb hby d_5_126) rfl rfl k) ?_
    show own_Go _ _ _ _ (T179.setTop (mkF m 127 #[.val (.ref ua), .val (.int (4 : Int32))] [(.ref ua), (.int (3 : Int32)), (.ref b167), (.ref b167), (.ref b166), (.ref b166)]))
    refine own_go (fun t k => XS.iconst X179.here hx rfl (hb hby d_5_127) k) ?_
    show own_Go _ _ _ _ (T179.setTop (mkF m 128 #[.val (.ref ua), .val (.int (4 : Int32))] [(.int (3 : Int32)), (.ref ua), (.int (3 : Int32)), (.ref b167), (.ref b167), (.ref b166), (.ref b166)]))
    have f180 := (f176.other W179 (Nat.ne_of_lt (Nat.lt_of_lt_of_le A0.lt (Nat.le_trans E166.1 lo167))))
    obtain ⟨cl181, Ar181, qk181, sz181, nn181, ha181, gf181⟩ := id f180
    have hin181 : ¬ ((3 : Int32) < 0 ∨ cl181.slots.size ≤ ((3 : Int32)).toNatClampNeg) := inb_of sz181 ⟨by decide, by decide⟩
    have hat181 : cl181.slots[((3 : Int32)).toNatClampNeg]? = some (.int c3_) := ha181.at hin181 rfl
    refine own_go (X179.caload hx (j := (3 : Int32)) (v := (.int c3_)) (by rw [e179]; exact Ar181.1) (State.isArrayOf_alike hZ.alike Ar181.2.1) Ar181.2.2 hin181 hat181 (g := (mkF m 128 #[.val (.ref ua), .val (.int (4 : Int32))] [(.int (3 : Int32)), (.ref ua), (.int (3 : Int32)), (.ref b167), (.ref b167), (.ref b166), (.ref b166)])) rfl rfl (hb hby d_5_128)) ?_
    show own_Go _ _ _ _ (T179.setTop (mkF m 129 #[.val (.ref ua), .val (.int (4 : Int32))] [(.int c3_), (.int (3 : Int32)), (.ref b167), (.ref b167), (.ref b166), (.ref b166)]))
    obtain ⟨cl182, Ar182, qk182, sz182, nn182, ha182, gf182⟩ := id V179
    have hin182 : ¬ ((3 : Int32) < 0 ∨ cl182.slots.size ≤ ((3 : Int32)).toNatClampNeg) := inb_of sz182 ⟨by decide, by decide⟩
    obtain ⟨T183, h183, X183, e183, W183, st183⟩ := stC X179 hx hZ e179 Ar182 (j := (3 : Int32)) hin182 (g := (mkF m 129 #[.val (.ref ua), .val (.int (4 : Int32))] [(.int c3_), (.int (3 : Int32)), (.ref b167), (.ref b167), (.ref b166), (.ref b166)])) rfl rfl (hb hby d_5_129)
    refine own_go st183 ?_
    rw [(own_nc B3)] at W183
    have V183 : Arv Z h183 b167 k167 .char (4 : Int32) [(.int c0_), (.int c1_), (.int c2_), (.int c3_)] (.int (0 : Int32)) := Arv.set Ar182 qk182 sz182 nn182 ha182 gf182 (own_fc B3) W183 3 rfl (Nat.le_of_ble_eq_true rfl)
    have f184 := (Safe.wr W179 (Safe.wr W174 f175 C170.1 f175) C174.1 (Safe.wr W174 f175 C170.1 f175))
    have C183 := C179.trans (CHr.wr W183 f184 C179.1)
    have Z183 : n0 ≤ h183.size := (Nat.le_trans Z179 (Nat.le_of_eq W183.size.symm))
    have N183 := Fr.snoc X183 N179 q167
    have K183 : Keep h0 h183 [] := K179.wr W183 (Or.inr (Nat.le_trans E166.1 lo167))
    have f185 := (((((F166_28.ext E167).other W170 (Or.inl (Nat.ne_of_lt (Nat.lt_of_lt_of_le hi166 lo167)))).other W174 (Or.inl (Nat.ne_of_lt (Nat.lt_of_lt_of_le hi166 lo167)))).other W179 (Or.inl (Nat.ne_of_lt (Nat.lt_of_lt_of_le hi166 lo167)))).other W183 (Or.inl (Nat.ne_of_lt (Nat.lt_of_lt_of_le hi166 lo167))))
    have f186 := (((((F166_29.ext E167).other W170 (Or.inl (Nat.ne_of_lt (Nat.lt_of_lt_of_le hi166 lo167)))).other W174 (Or.inl (Nat.ne_of_lt (Nat.lt_of_lt_of_le hi166 lo167)))).other W179 (Or.inl (Nat.ne_of_lt (Nat.lt_of_lt_of_le hi166 lo167)))).other W183 (Or.inl (Nat.ne_of_lt (Nat.lt_of_lt_of_le hi166 lo167))))
    have f187 := ((((((O0.ext E166).ext E167).wr W170 q167).wr W174 q167).wr W179 q167).wr W183 q167)
    have f188 := (Safe.wr W183 f184 C179.1 (Safe.wr W179 (Safe.wr W174 f175 C170.1 f175) C174.1 (Safe.wr W174 f175 C170.1 (Safe.wr W170 (Safe.ext E167 C166.1 Sf167) C167.1 (Safe.ext E167 C166.1 (Safe.ext E166 C0.1 Sf166))))))
    obtain ⟨_, _, ⟨T189, L189, k189, n189⟩, -, X189, ⟨Lc189, hQ189, l189, y189, z189⟩, st189⟩ := X183.specialBack hx (y := (⟨"java/lang/String", "<init>", "([C)V"⟩ : MethodName)) rfl hown (mvT hZ (w_16 hw)) (mvT hZ (w_17 hw)) (mvT hZ (w_18 hw)) (by decide) (StrChars.Road.backV (W := 1) hZ (own_wnew hw) (kI := 4) (w_14 hw) (cs := ([c0_, c1_, c2_, c3_] : List Int32)) (bs := (([c0_, c1_, c2_, c3_] : List Int32)).map (fun c => c.toInt8.toInt32)) (n := 4) q166 Z183 (((((A166.ext E167).wr W170).wr W174).wr W179).wr W183) f185 f186 V183 (S0.ext f187.2) hzv rfl rfl (by decide) (by decide) (List.forall_mem_cons.mpr ⟨B0, (List.forall_mem_cons.mpr ⟨B1, (List.forall_mem_cons.mpr ⟨B2, (List.forall_mem_cons.mpr ⟨B3, (List.forall_mem_nil _)⟩)⟩)⟩)⟩) rfl (by decide) (by decide)) (g := (mkF m 130 #[.val (.ref ua), .val (.int (4 : Int32))] [(.ref b167), (.ref b166), (.ref b166)])) rfl (by rw [hml]; rfl) (Steps.refl _) (a := b166) (argsL := [(.ref b167)]) (rest := [(.ref b166)]) (lenOf pd_1 rfl) rfl (by show 2 * 0 + _ ≤ _; exact Nat.le_of_eq rfl) (hb hby d_5_130) (fun _ _ => ⟨rfl, e183, (by decide : 2 + 1 ≤ _), (by decide : 8 + 4 ≤ _)⟩)
    dsimp only [Pt.U, Pt.locs, Pt.cells, Pt.slots] at X189 l189 y189 z189 st189 hQ189
    subst l189 y189 z189
    generalize e189 : T189.heap = h189 at hQ189
    obtain ⟨rfl, N189q, K189q, Ea189, Ec189, t189, kb189, q189, lo189, nt189, Ev189, Ek189⟩ := hQ189
    have N189 := Fr.app N183 N189q
    refine own_go (fun t k => st189.trans k) ?_
    have C189 := C183.trans (CHr.keep K189q (allS f188 all0) C183.1)
    have Z189 : n0 ≤ h189.size := (Nat.le_trans Z183 K189q.1)
    have K189 : Keep h0 h189 [] := K183.trans K189q (allS (Or.inr lo166) all0)
    have hi189 := Ek189.lt
    replace Ek189 : Arv Z h189 t189 kb189 .byte (4 : Int32) [(.int (c0_.toInt8.toInt32)), (.int (c1_.toInt8.toInt32)), (.int (c2_.toInt8.toInt32)), (.int (c3_.toInt8.toInt32))] (.int (0 : Int32)) := Ek189
    show own_Go _ _ _ _ (T189.setTop (mkF m 133 #[.val (.ref ua), .val (.int (4 : Int32))] [(.ref b166)]))
    refine own_retH X189 hx hS (Nat.le_trans (Nat.le_trans hk (Nat.le_trans (Nat.le_trans (Nat.le_trans (Nat.le_trans (Nat.le_trans (Nat.le_trans E166.1 E167.1) (Nat.le_of_eq W170.size.symm)) (Nat.le_of_eq W174.size.symm)) (Nat.le_of_eq W179.size.symm)) (Nat.le_of_eq W183.size.symm)) K189q.1)) (Nat.le_of_eq (congrArg Array.size e189.symm))) (by rw [hh, e189]; exact C189.trans (CHv.at X189 hZ (own_EW hw) C189.1)) hlk hret rfl (Or.inr (Or.inr (Or.inr (Or.inr ⟨rfl, rfl, rfl⟩)))) (hb hby d_5_133) ?_ (by decide) (by decide)
    rw [e189]
    exact ⟨b166, t189, kb189, rfl, N189, K189, Ea189, Ec189, Ev189, Ek189⟩
def Q_m4 (Z : State) (c0_ : Int32) (c1_ : Int32) (c2_ : Int32) (c3_ : Int32) (d0_ : Int32) (d1_ : Int32) (d2_ : Int32) (d3_ : Int32) (pl : Nat) (nl : Nat) (j : Nat) (h0 : Heap) (n0 : Nat) (v : Option Value) (h : Heap) (L : List Loc) : Prop := ∃ iv : Int32, v = some (.int iv) ∧ Fr n0 L ∧ own_V iv (own_g (own_at [c0_, c1_, c2_, c3_]) (own_at [d0_, d1_, d2_, d3_]) pl nl 4 j) ∧ h = h0
theorem ef_m4 (m : MethodId) (nl : Nat) (j : Nat) : entryFrame m #[(.int (Int32.ofNat nl)), (.int (Int32.ofNat j))] 2 = mkF m 0 #[.val (.int (Int32.ofNat nl)), .val (.int (Int32.ofNat j))] [] := by first | (simp [entryFrame, mkF, argsToLocals, Value.category]; done) | rfl
theorem d_10_0 : decode method_10_code 0 = .ok (.iload_n 1, 1) := by decide +kernel
theorem d_10_1 : decode method_10_code 1 = .ok (.iload_n 0, 1) := by decide +kernel
theorem d_10_2 : decode method_10_code 2 = .ok (.if_icmp .ne 7, 3) := by decide +kernel
theorem d_10_5 : decode method_10_code 5 = .ok (.iconst 1, 1) := by decide +kernel
theorem d_10_6 : decode method_10_code 6 = .ok (.goto 4, 3) := by decide +kernel
theorem d_10_10 : decode method_10_code 10 = .ok (.ireturn, 1) := by decide +kernel
theorem d_10_9 : decode method_10_code 9 = .ok (.iconst 0, 1) := by decide +kernel
set_option maxRecDepth 65536 in
set_option maxHeartbeats 40000000 in
theorem rm_m4 (l : Launch) (Z : State) (a0 : Array Value) (hw : ∀ d ∈ tables_1, d.before a0 Z = true) (ws : List Jvm.Cond) (c0_ c1_ c2_ c3_ d0_ d1_ d2_ d3_ : Int32) (pl nl j : Nat) (h0 : Heap) (n0 : Nat) (Z0 : n0 ≤ h0.size) (e4 : pl = 4) (hj : j ≤ nl) (hn : nl ≤ 4) :
    own_Met l Z (⟨"com/example/fathomsearch/fathomsearch/NamePatternMatchesPinLaw", "m4", "(II)Z"⟩ : MethodName) method_10_code 2 (some .boolean) ws ({ frames := 0, cells := 0, slots := 0, locals := 0 } : Room) #[(.int (Int32.ofNat nl)), (.int (Int32.ofNat j))] h0 (Q_m4 Z c0_ c1_ c2_ c3_ d0_ d1_ d2_ d3_ pl nl j h0 n0) := by
  refine own_enter (own := "com/example/fathomsearch/fathomsearch/NamePatternMatchesPinLaw") (plainFor_of_name pn_0) rfl ?_
  intro p e s m below meth c s₁ hlk hret hx hby hml hown hnm hZ X0 e0
  have N0 := Fr.nil n0
  refine own_cast (ef_m4 m nl j) ?_
  show own_Go _ _ _ _ (s₁.setTop (mkF m 0 #[.val (.int (Int32.ofNat nl)), .val (.int (Int32.ofNat j))] []))
  refine own_go (fun t k => XS.iloadN X0.here hx rfl (hb hby d_10_0) rfl k) ?_
  refine own_go (fun t k => XS.iloadN X0.here hx rfl (hb hby d_10_1) rfl k) ?_
  by_cases e2 : j = nl
  · show own_Go _ _ _ _ (s₁.setTop (mkF m 2 #[.val (.int (Int32.ofNat nl)), .val (.int (Int32.ofNat j))] [(.int (Int32.ofNat nl)), (.int (Int32.ofNat j))]))
    refine own_go (fun t k => XS.icmpNo X0.here hx rfl (hb hby d_10_2) rfl (teq ((own_eqn (a := j) (b := nl) e2) : (Int32.ofNat j) = (Int32.ofNat nl))).2 k) ?_
    refine own_go (fun t k => XS.iconst X0.here hx rfl (hb hby d_10_5) k) ?_
    refine own_go (fun t k => XS.goto X0.here hx rfl (pc0 := 6) (pc' := 10) rfl (hb hby d_10_6) (by decide) (by decide) k) ?_
    show own_Go _ _ _ _ (s₁.setTop (mkF m 10 #[.val (.int (Int32.ofNat nl)), .val (.int (Int32.ofNat j))] [(.int (1 : Int32))]))
    refine own_retN X0 hx hlk (t := .boolean) hret (by simp) (hb hby d_10_10) ?_ (by decide) (by decide)
    rw [e0]
    exact ⟨1, rfl, N0, Or.inl ⟨rfl, (own_gend e4).mpr e2⟩, rfl⟩
  · show own_Go _ _ _ _ (s₁.setTop (mkF m 2 #[.val (.int (Int32.ofNat nl)), .val (.int (Int32.ofNat j))] [(.int (Int32.ofNat nl)), (.int (Int32.ofNat j))]))
    refine own_go (fun t k => XS.icmpYes X0.here hx rfl (pc0 := 2) (pc' := 9) rfl (hb hby d_10_2) rfl (feq ((fun q => e2 (own_inj (a := j) (b := nl) (by omega) (by omega) q)) : ¬ ((Int32.ofNat j) = (Int32.ofNat nl)))).2 (by decide) (by decide) k) ?_
    refine own_go (fun t k => XS.iconst X0.here hx rfl (hb hby d_10_9) k) ?_
    show own_Go _ _ _ _ (s₁.setTop (mkF m 10 #[.val (.int (Int32.ofNat nl)), .val (.int (Int32.ofNat j))] [(.int (0 : Int32))]))
    refine own_retN X0 hx hlk (t := .boolean) hret (by simp) (hb hby d_10_10) ?_ (by decide) (by decide)
    rw [e0]
    exact ⟨0, rfl, N0, Or.inr ⟨rfl, fun q => e2 ((own_gend e4).mp q)⟩, rfl⟩
def Q_m3 (Z : State) (up : Addr) (kp : ClassId) (un : Addr) (kn : ClassId) (c0_ : Int32) (c1_ : Int32) (c2_ : Int32) (c3_ : Int32) (d0_ : Int32) (d1_ : Int32) (d2_ : Int32) (d3_ : Int32) (pl : Nat) (nl : Nat) (j : Nat) (h0 : Heap) (n0 : Nat) (v : Option Value) (h : Heap) (L : List Loc) : Prop := ∃ iv : Int32, v = some (.int iv) ∧ Fr n0 L ∧ own_V iv (own_g (own_at [c0_, c1_, c2_, c3_]) (own_at [d0_, d1_, d2_, d3_]) pl nl 3 j) ∧ h = h0
theorem ef_m3 (m : MethodId) (up : Addr) (un : Addr) (pl : Nat) (nl : Nat) (j : Nat) : entryFrame m #[(.ref up), (.int (Int32.ofNat pl)), (.ref un), (.int (Int32.ofNat nl)), (.int (Int32.ofNat j))] 6 = mkF m 0 #[.val (.ref up), .val (.int (Int32.ofNat pl)), .val (.ref un), .val (.int (Int32.ofNat nl)), .val (.int (Int32.ofNat j)), .unset] [] := by first | (simp [entryFrame, mkF, argsToLocals, Value.category]; done) | rfl
theorem d_9_0 : decode method_9_code 0 = .ok (.iload_n 1, 1) := by decide +kernel
theorem d_9_1 : decode method_9_code 1 = .ok (.iconst 3, 1) := by decide +kernel
theorem d_9_2 : decode method_9_code 2 = .ok (.if_icmp .ne 15, 3) := by decide +kernel
theorem d_9_5 : decode method_9_code 5 = .ok (.iload 4, 2) := by decide +kernel
theorem d_9_7 : decode method_9_code 7 = .ok (.iload_n 3, 1) := by decide +kernel
theorem d_9_8 : decode method_9_code 8 = .ok (.if_icmp .ne 7, 3) := by decide +kernel
theorem d_9_11 : decode method_9_code 11 = .ok (.iconst 1, 1) := by decide +kernel
theorem d_9_12 : decode method_9_code 12 = .ok (.goto 4, 3) := by decide +kernel
theorem d_9_16 : decode method_9_code 16 = .ok (.ireturn, 1) := by decide +kernel
theorem d_9_15 : decode method_9_code 15 = .ok (.iconst 0, 1) := by decide +kernel
theorem d_9_17 : decode method_9_code 17 = .ok (.aload_n 0, 1) := by decide +kernel
theorem d_9_18 : decode method_9_code 18 = .ok (.iconst 3, 1) := by decide +kernel
theorem d_9_19 : decode method_9_code 19 = .ok (.caload, 1) := by decide +kernel
theorem d_9_20 : decode method_9_code 20 = .ok (.istore 5, 2) := by decide +kernel
theorem d_9_22 : decode method_9_code 22 = .ok (.iload 5, 2) := by decide +kernel
theorem d_9_24 : decode method_9_code 24 = .ok (.bipush 42, 2) := by decide +kernel
theorem d_9_26 : decode method_9_code 26 = .ok (.if_icmp .ne 94, 3) := by decide +kernel
theorem d_9_29 : decode method_9_code 29 = .ok (.iload_n 3, 1) := by decide +kernel
theorem d_9_30 : decode method_9_code 30 = .ok (.iload 4, 2) := by decide +kernel
theorem w_93 {Z : State} {a0 : Array Value} (hw : ∀ d ∈ tables_1, d.before a0 Z = true) : (Jvm.Cond.methodLink "com/example/fathomsearch/fathomsearch/NamePatternMatchesPinLaw" (48 : Nat) ({ cls := "com/example/fathomsearch/fathomsearch/NamePatternMatchesPinLaw", name := "m4", desc := "(II)Z" } : Jvm.MethodName)).before a0 Z = true := hw _ (List.mem_of_getElem? (i := 93) rfl)
theorem w_95 {Z : State} {a0 : Array Value} (hw : ∀ d ∈ tables_1, d.before a0 Z = true) : (Jvm.Cond.code ({ cls := "com/example/fathomsearch/fathomsearch/NamePatternMatchesPinLaw", name := "m4", desc := "(II)Z" } : Jvm.MethodName) method_10_code (2 : Nat) (Option.some Jvm.ClassFile.FieldType.boolean)).before a0 Z = true := hw _ (List.mem_of_getElem? (i := 95) rfl)
theorem w_3 {Z : State} {a0 : Array Value} (hw : ∀ d ∈ tables_1, d.before a0 Z = true) : (Jvm.Cond.initialized "com/example/fathomsearch/fathomsearch/NamePatternMatchesPinLaw").before a0 Z = true := hw _ (List.mem_of_getElem? (i := 3) rfl)
theorem pd_2 : parseMethodDescriptor "(II)Z" = some ⟨[.int, .int], some .boolean⟩ := by decide +kernel
theorem d_9_32 : decode method_9_code 32 = .ok (.invokestatic 48, 3) := by decide +kernel
theorem w_94 {Z : State} {a0 : Array Value} (hw : ∀ d ∈ tables_1, d.before a0 Z = true) : (Jvm.Cond.static ({ cls := "com/example/fathomsearch/fathomsearch/NamePatternMatchesPinLaw", name := "m4", desc := "(II)Z" } : Jvm.MethodName)).before a0 Z = true := hw _ (List.mem_of_getElem? (i := 94) rfl)
theorem d_9_35 : decode method_9_code 35 = .ok (.ifCond .ne 79, 3) := by decide +kernel
theorem d_9_114 : decode method_9_code 114 = .ok (.iconst 1, 1) := by decide +kernel
theorem d_9_115 : decode method_9_code 115 = .ok (.goto 4, 3) := by decide +kernel
theorem d_9_119 : decode method_9_code 119 = .ok (.ireturn, 1) := by decide +kernel
theorem d_9_38 : decode method_9_code 38 = .ok (.iload 4, 2) := by decide +kernel
theorem d_9_40 : decode method_9_code 40 = .ok (.iconst 1, 1) := by decide +kernel
theorem d_9_41 : decode method_9_code 41 = .ok (.iadd, 1) := by decide +kernel
theorem d_9_42 : decode method_9_code 42 = .ok (.iload_n 3, 1) := by decide +kernel
theorem d_9_43 : decode method_9_code 43 = .ok (.if_icmp .gt 14, 3) := by decide +kernel
theorem d_9_46 : decode method_9_code 46 = .ok (.iload_n 3, 1) := by decide +kernel
theorem d_9_47 : decode method_9_code 47 = .ok (.iload 4, 2) := by decide +kernel
theorem d_9_49 : decode method_9_code 49 = .ok (.iconst 1, 1) := by decide +kernel
theorem d_9_50 : decode method_9_code 50 = .ok (.iadd, 1) := by decide +kernel
theorem d_9_51 : decode method_9_code 51 = .ok (.invokestatic 48, 3) := by decide +kernel
theorem d_9_54 : decode method_9_code 54 = .ok (.ifCond .ne 60, 3) := by decide +kernel
theorem d_9_57 : decode method_9_code 57 = .ok (.iload 4, 2) := by decide +kernel
theorem d_9_59 : decode method_9_code 59 = .ok (.iconst 2, 1) := by decide +kernel
theorem d_9_60 : decode method_9_code 60 = .ok (.iadd, 1) := by decide +kernel
theorem d_9_61 : decode method_9_code 61 = .ok (.iload_n 3, 1) := by decide +kernel
theorem d_9_62 : decode method_9_code 62 = .ok (.if_icmp .gt 14, 3) := by decide +kernel
theorem d_9_65 : decode method_9_code 65 = .ok (.iload_n 3, 1) := by decide +kernel
theorem d_9_66 : decode method_9_code 66 = .ok (.iload 4, 2) := by decide +kernel
theorem d_9_68 : decode method_9_code 68 = .ok (.iconst 2, 1) := by decide +kernel
theorem d_9_69 : decode method_9_code 69 = .ok (.iadd, 1) := by decide +kernel
theorem d_9_70 : decode method_9_code 70 = .ok (.invokestatic 48, 3) := by decide +kernel
theorem d_9_73 : decode method_9_code 73 = .ok (.ifCond .ne 41, 3) := by decide +kernel
theorem d_9_76 : decode method_9_code 76 = .ok (.iload 4, 2) := by decide +kernel
theorem d_9_78 : decode method_9_code 78 = .ok (.iconst 3, 1) := by decide +kernel
theorem d_9_79 : decode method_9_code 79 = .ok (.iadd, 1) := by decide +kernel
theorem d_9_80 : decode method_9_code 80 = .ok (.iload_n 3, 1) := by decide +kernel
theorem d_9_81 : decode method_9_code 81 = .ok (.if_icmp .gt 14, 3) := by decide +kernel
theorem d_9_84 : decode method_9_code 84 = .ok (.iload_n 3, 1) := by decide +kernel
theorem d_9_85 : decode method_9_code 85 = .ok (.iload 4, 2) := by decide +kernel
theorem d_9_87 : decode method_9_code 87 = .ok (.iconst 3, 1) := by decide +kernel
theorem d_9_88 : decode method_9_code 88 = .ok (.iadd, 1) := by decide +kernel
theorem d_9_89 : decode method_9_code 89 = .ok (.invokestatic 48, 3) := by decide +kernel
theorem d_9_92 : decode method_9_code 92 = .ok (.ifCond .ne 22, 3) := by decide +kernel
theorem d_9_95 : decode method_9_code 95 = .ok (.iload 4, 2) := by decide +kernel
theorem d_9_97 : decode method_9_code 97 = .ok (.iconst 4, 1) := by decide +kernel
theorem d_9_98 : decode method_9_code 98 = .ok (.iadd, 1) := by decide +kernel
theorem d_9_99 : decode method_9_code 99 = .ok (.iload_n 3, 1) := by decide +kernel
theorem d_9_100 : decode method_9_code 100 = .ok (.if_icmp .gt 18, 3) := by decide +kernel
theorem d_9_103 : decode method_9_code 103 = .ok (.iload_n 3, 1) := by decide +kernel
theorem d_9_104 : decode method_9_code 104 = .ok (.iload 4, 2) := by decide +kernel
theorem d_9_106 : decode method_9_code 106 = .ok (.iconst 4, 1) := by decide +kernel
theorem d_9_107 : decode method_9_code 107 = .ok (.iadd, 1) := by decide +kernel
theorem d_9_108 : decode method_9_code 108 = .ok (.invokestatic 48, 3) := by decide +kernel
theorem d_9_111 : decode method_9_code 111 = .ok (.ifCond .eq 7, 3) := by decide +kernel
theorem d_9_118 : decode method_9_code 118 = .ok (.iconst 0, 1) := by decide +kernel
theorem d_9_120 : decode method_9_code 120 = .ok (.iload 4, 2) := by decide +kernel
theorem d_9_122 : decode method_9_code 122 = .ok (.iload_n 3, 1) := by decide +kernel
theorem d_9_123 : decode method_9_code 123 = .ok (.if_icmp .ge 27, 3) := by decide +kernel
theorem d_9_126 : decode method_9_code 126 = .ok (.aload_n 2, 1) := by decide +kernel
theorem d_9_127 : decode method_9_code 127 = .ok (.iload 4, 2) := by decide +kernel
theorem d_9_129 : decode method_9_code 129 = .ok (.caload, 1) := by decide +kernel
theorem d_9_130 : decode method_9_code 130 = .ok (.iload 5, 2) := by decide +kernel
theorem d_9_132 : decode method_9_code 132 = .ok (.if_icmp .ne 18, 3) := by decide +kernel
theorem d_9_135 : decode method_9_code 135 = .ok (.iload_n 3, 1) := by decide +kernel
theorem d_9_136 : decode method_9_code 136 = .ok (.iload 4, 2) := by decide +kernel
theorem d_9_138 : decode method_9_code 138 = .ok (.iconst 1, 1) := by decide +kernel
theorem d_9_139 : decode method_9_code 139 = .ok (.iadd, 1) := by decide +kernel
theorem d_9_140 : decode method_9_code 140 = .ok (.invokestatic 48, 3) := by decide +kernel
theorem d_9_143 : decode method_9_code 143 = .ok (.ifCond .eq 7, 3) := by decide +kernel
theorem d_9_146 : decode method_9_code 146 = .ok (.iconst 1, 1) := by decide +kernel
theorem d_9_147 : decode method_9_code 147 = .ok (.goto 4, 3) := by decide +kernel
theorem d_9_151 : decode method_9_code 151 = .ok (.ireturn, 1) := by decide +kernel
theorem d_9_150 : decode method_9_code 150 = .ok (.iconst 0, 1) := by decide +kernel
set_option maxRecDepth 65536 in
set_option maxHeartbeats 40000000 in
theorem rm_m3 (l : Launch) (Z : State) (a0 : Array Value) (hw : ∀ d ∈ tables_1, d.before a0 Z = true) (ws : List Jvm.Cond) (up : Addr) (kp : ClassId) (un : Addr) (kn : ClassId) (c0_ c1_ c2_ c3_ d0_ d1_ d2_ d3_ : Int32) (pl nl j : Nat) (h0 : Heap) (n0 : Nat) (Z0 : n0 ≤ h0.size) (hk : 3 ≤ pl) (h4 : pl ≤ 4) (hj : j ≤ nl) (hn : nl ≤ 4) (Ap : Arv Z h0 up kp .char (4 : Int32) [(.int c0_), (.int c1_), (.int c2_), (.int c3_)] (.int (0 : Int32))) (An : Arv Z h0 un kn .char (4 : Int32) [(.int d0_), (.int d1_), (.int d2_), (.int d3_)] (.int (0 : Int32))) :
    own_Met l Z (⟨"com/example/fathomsearch/fathomsearch/NamePatternMatchesPinLaw", "m3", "([CI[CII)Z"⟩ : MethodName) method_9_code 6 (some .boolean) ws ({ frames := 1, cells := 0, slots := 0, locals := 13 } : Room) #[(.ref up), (.int (Int32.ofNat pl)), (.ref un), (.int (Int32.ofNat nl)), (.int (Int32.ofNat j))] h0 (Q_m3 Z up kp un kn c0_ c1_ c2_ c3_ d0_ d1_ d2_ d3_ pl nl j h0 n0) := by
  refine own_enter (own := "com/example/fathomsearch/fathomsearch/NamePatternMatchesPinLaw") (plainFor_of_name pn_0) rfl ?_
  intro p e s m below meth c s₁ hlk hret hx hby hml hown hnm hZ X0 e0
  have N0 := Fr.nil n0
  refine own_cast (ef_m3 m up un pl nl j) ?_
  show own_Go _ _ _ _ (s₁.setTop (mkF m 0 #[.val (.ref up), .val (.int (Int32.ofNat pl)), .val (.ref un), .val (.int (Int32.ofNat nl)), .val (.int (Int32.ofNat j)), .unset] []))
  refine own_go (fun t k => XS.iloadN X0.here hx rfl (hb hby d_9_0) rfl k) ?_
  refine own_go (fun t k => XS.iconst X0.here hx rfl (hb hby d_9_1) k) ?_
  by_cases e1 : pl = 3
  · show own_Go _ _ _ _ (s₁.setTop (mkF m 2 #[.val (.ref up), .val (.int (Int32.ofNat pl)), .val (.ref un), .val (.int (Int32.ofNat nl)), .val (.int (Int32.ofNat j)), .unset] [(.int (3 : Int32)), (.int (Int32.ofNat pl))]))
    refine own_go (fun t k => XS.icmpNo X0.here hx rfl (hb hby d_9_2) rfl (teq ((own_eqn (a := pl) (b := 3) e1) : (Int32.ofNat pl) = (3 : Int32))).2 k) ?_
    refine own_go (fun t k => XS.iload X0.here hx rfl (hb hby d_9_5) rfl k) ?_
    refine own_go (fun t k => XS.iloadN X0.here hx rfl (hb hby d_9_7) rfl k) ?_
    by_cases e2 : j = nl
    · show own_Go _ _ _ _ (s₁.setTop (mkF m 8 #[.val (.ref up), .val (.int (Int32.ofNat pl)), .val (.ref un), .val (.int (Int32.ofNat nl)), .val (.int (Int32.ofNat j)), .unset] [(.int (Int32.ofNat nl)), (.int (Int32.ofNat j))]))
      refine own_go (fun t k => XS.icmpNo X0.here hx rfl (hb hby d_9_8) rfl (teq ((own_eqn (a := j) (b := nl) e2) : (Int32.ofNat j) = (Int32.ofNat nl))).2 k) ?_
      refine own_go (fun t k => XS.iconst X0.here hx rfl (hb hby d_9_11) k) ?_
      refine own_go (fun t k => XS.goto X0.here hx rfl (pc0 := 12) (pc' := 16) rfl (hb hby d_9_12) (by decide) (by decide) k) ?_
      show own_Go _ _ _ _ (s₁.setTop (mkF m 16 #[.val (.ref up), .val (.int (Int32.ofNat pl)), .val (.ref un), .val (.int (Int32.ofNat nl)), .val (.int (Int32.ofNat j)), .unset] [(.int (1 : Int32))]))
      refine own_retN X0 hx hlk (t := .boolean) hret (by simp) (hb hby d_9_16) ?_ (by decide) (by decide)
      rw [e0]
      exact ⟨1, rfl, N0, Or.inl ⟨rfl, (own_gend e1).mpr e2⟩, rfl⟩
    · show own_Go _ _ _ _ (s₁.setTop (mkF m 8 #[.val (.ref up), .val (.int (Int32.ofNat pl)), .val (.ref un), .val (.int (Int32.ofNat nl)), .val (.int (Int32.ofNat j)), .unset] [(.int (Int32.ofNat nl)), (.int (Int32.ofNat j))]))
      refine own_go (fun t k => XS.icmpYes X0.here hx rfl (pc0 := 8) (pc' := 15) rfl (hb hby d_9_8) rfl (feq ((fun q => e2 (own_inj (a := j) (b := nl) (by omega) (by omega) q)) : ¬ ((Int32.ofNat j) = (Int32.ofNat nl)))).2 (by decide) (by decide) k) ?_
      refine own_go (fun t k => XS.iconst X0.here hx rfl (hb hby d_9_15) k) ?_
      show own_Go _ _ _ _ (s₁.setTop (mkF m 16 #[.val (.ref up), .val (.int (Int32.ofNat pl)), .val (.ref un), .val (.int (Int32.ofNat nl)), .val (.int (Int32.ofNat j)), .unset] [(.int (0 : Int32))]))
      refine own_retN X0 hx hlk (t := .boolean) hret (by simp) (hb hby d_9_16) ?_ (by decide) (by decide)
      rw [e0]
      exact ⟨0, rfl, N0, Or.inr ⟨rfl, fun q => e2 ((own_gend e1).mp q)⟩, rfl⟩
  · have hlt : 3 < pl := by omega
    show own_Go _ _ _ _ (s₁.setTop (mkF m 2 #[.val (.ref up), .val (.int (Int32.ofNat pl)), .val (.ref un), .val (.int (Int32.ofNat nl)), .val (.int (Int32.ofNat j)), .unset] [(.int (3 : Int32)), (.int (Int32.ofNat pl))]))
    refine own_go (fun t k => XS.icmpYes X0.here hx rfl (pc0 := 2) (pc' := 17) rfl (hb hby d_9_2) rfl (feq ((fun q => e1 (own_inj (a := pl) (b := 3) (by omega) (by omega) q)) : ¬ ((Int32.ofNat pl) = (3 : Int32)))).2 (by decide) (by decide) k) ?_
    refine own_go (fun t k => XS.aloadN X0.here hx rfl (hb hby d_9_17) rfl rfl k) ?_
    refine own_go (fun t k => XS.iconst X0.here hx rfl (hb hby d_9_18) k) ?_
    show own_Go _ _ _ _ (s₁.setTop (mkF m 19 #[.val (.ref up), .val (.int (Int32.ofNat pl)), .val (.ref un), .val (.int (Int32.ofNat nl)), .val (.int (Int32.ofNat j)), .unset] [(.int (3 : Int32)), (.ref up)]))
    obtain ⟨cl190, Ar190, qk190, sz190, nn190, ha190, gf190⟩ := id Ap
    have hin190 : ¬ ((3 : Int32) < 0 ∨ cl190.slots.size ≤ ((3 : Int32)).toNatClampNeg) := inb_of sz190 ⟨by decide, by decide⟩
    have hat190 : cl190.slots[((3 : Int32)).toNatClampNeg]? = some (.int c3_) := ha190.at hin190 rfl
    refine own_go (X0.caload hx (j := (3 : Int32)) (v := (.int c3_)) (by rw [e0]; exact Ar190.1) (State.isArrayOf_alike hZ.alike Ar190.2.1) Ar190.2.2 hin190 hat190 (g := (mkF m 19 #[.val (.ref up), .val (.int (Int32.ofNat pl)), .val (.ref un), .val (.int (Int32.ofNat nl)), .val (.int (Int32.ofNat j)), .unset] [(.int (3 : Int32)), (.ref up)])) rfl rfl (hb hby d_9_19)) ?_
    refine own_go (fun t k => XS.istore X0.here hx rfl (hb hby d_9_20) rfl (l' := #[.val (.ref up), .val (.int (Int32.ofNat pl)), .val (.ref un), .val (.int (Int32.ofNat nl)), .val (.int (Int32.ofNat j)), .val (.int c3_)]) rfl k) ?_
    refine own_go (fun t k => XS.iload X0.here hx rfl (hb hby d_9_22) rfl k) ?_
    refine own_go (fun t k => XS.bipush X0.here hx rfl (hb hby d_9_24) k) ?_
    by_cases e3 : c3_ = 42
    · show own_Go _ _ _ _ (s₁.setTop (mkF m 26 #[.val (.ref up), .val (.int (Int32.ofNat pl)), .val (.ref un), .val (.int (Int32.ofNat nl)), .val (.int (Int32.ofNat j)), .val (.int c3_)] [(.int (42 : Int32)), (.int c3_)]))
      refine own_go (fun t k => XS.icmpNo X0.here hx rfl (hb hby d_9_26) rfl (teq (e3 : c3_ = (42 : Int32))).2 k) ?_
      refine own_go (fun t k => XS.iloadN X0.here hx rfl (hb hby d_9_29) rfl k) ?_
      refine own_go (fun t k => XS.iload X0.here hx rfl (hb hby d_9_30) rfl k) ?_
      obtain ⟨_, _, ⟨T191, L191, k191, n191⟩, -, X191, ⟨Lc191, hQ191, l191, y191, z191⟩, st191⟩ := Jvm.LawKit.callS X0 hx (y := (⟨"com/example/fathomsearch/fathomsearch/NamePatternMatchesPinLaw", "m4", "(II)Z"⟩ : MethodName)) hown (mvT hZ (w_93 hw)) (mvT hZ (w_94 hw)) (mvT hZ (w_3 hw)) (mvT hZ (w_95 hw)) (by decide) (backOf (W := 0) (rm_m4 l Z a0 hw [] c0_ c1_ c2_ c3_ d0_ d1_ d2_ d3_ pl nl j h0 n0 Z0 (by omega) (by omega) (by omega)) hZ (w_95 hw) (w_3 hw) (by decide) (by decide)) (g := (mkF m 32 #[.val (.ref up), .val (.int (Int32.ofNat pl)), .val (.ref un), .val (.int (Int32.ofNat nl)), .val (.int (Int32.ofNat j)), .val (.int c3_)] [(.int (Int32.ofNat j)), (.int (Int32.ofNat nl))])) rfl (by rw [hml]; rfl) (argsL := [(.int (Int32.ofNat nl)), (.int (Int32.ofNat j))]) (rest := []) (lenOf pd_2 rfl) rfl (by show 2 * 0 + _ ≤ _; exact Nat.le_of_eq rfl) (hb hby d_9_32) (fun _ _ => ⟨rfl, e0, (by decide : 0 + 0 ≤ _), (by decide : 0 + 0 ≤ _)⟩)
      dsimp only [Pt.U, Pt.locs, Pt.cells, Pt.slots] at X191 l191 y191 z191 st191 hQ191
      subst l191 y191 z191
      obtain ⟨iv191, rfl, N191q, hV191, e191⟩ := hQ191
      have N191 := Fr.app N0 N191q
      refine own_go st191 ?_
      rcases hV191 with ⟨rfl, t191⟩ | ⟨rfl, t191⟩
      · show own_Go _ _ _ _ (T191.setTop (mkF m 35 #[.val (.ref up), .val (.int (Int32.ofNat pl)), .val (.ref un), .val (.int (Int32.ofNat nl)), .val (.int (Int32.ofNat j)), .val (.int c3_)] [(.int (1 : Int32))]))
        refine own_go (fun t k => XS.ifYes X191.here hx rfl (pc0 := 35) (pc' := 114) rfl (hb hby d_9_35) rfl ((if0 _ _).trans (feq (by decide : ¬ ((1 : Int32) = (0 : Int32)))).2) (by decide) (by decide) k) ?_
        refine own_go (fun t k => XS.iconst X191.here hx rfl (hb hby d_9_114) k) ?_
        refine own_go (fun t k => XS.goto X191.here hx rfl (pc0 := 115) (pc' := 119) rfl (hb hby d_9_115) (by decide) (by decide) k) ?_
        show own_Go _ _ _ _ (T191.setTop (mkF m 119 #[.val (.ref up), .val (.int (Int32.ofNat pl)), .val (.ref un), .val (.int (Int32.ofNat nl)), .val (.int (Int32.ofNat j)), .val (.int c3_)] [(.int (1 : Int32))]))
        refine own_retN X191 hx hlk (t := .boolean) hret (by simp) (hb hby d_9_119) ?_ (by decide) (by decide)
        rw [e191]
        exact ⟨1, rfl, N191, Or.inl ⟨rfl, (own_gstar hlt e3).mpr ⟨j + 0, (by omega), (by omega), t191⟩⟩, rfl⟩
      · show own_Go _ _ _ _ (T191.setTop (mkF m 35 #[.val (.ref up), .val (.int (Int32.ofNat pl)), .val (.ref un), .val (.int (Int32.ofNat nl)), .val (.int (Int32.ofNat j)), .val (.int c3_)] [(.int (0 : Int32))]))
        refine own_go (fun t k => XS.ifNo X191.here hx rfl (hb hby d_9_35) rfl ((if0 _ _).trans (teq (by decide : (0 : Int32) = (0 : Int32))).2) k) ?_
        refine own_go (fun t k => XS.iload X191.here hx rfl (hb hby d_9_38) rfl k) ?_
        refine own_go (fun t k => XS.iconst X191.here hx rfl (hb hby d_9_40) k) ?_
        refine own_go (fun t k => XS.iadd X191.here hx rfl (hb hby d_9_41) rfl k) ?_
        show own_Go _ _ _ _ (T191.setTop (mkF m 42 #[.val (.ref up), .val (.int (Int32.ofNat pl)), .val (.ref un), .val (.int (Int32.ofNat nl)), .val (.int (Int32.ofNat j)), .val (.int c3_)] [(.int ((Int32.ofNat j) + (1 : Int32)))]))
        rw [show (Int32.ofNat j) + (1 : Int32) = Int32.ofNat (j + 1) from own_add j 1]
        show own_Go _ _ _ _ (T191.setTop (mkF m 42 #[.val (.ref up), .val (.int (Int32.ofNat pl)), .val (.ref un), .val (.int (Int32.ofNat nl)), .val (.int (Int32.ofNat j)), .val (.int c3_)] [(.int (Int32.ofNat (j + 1)))]))
        refine own_go (fun t k => XS.iloadN X191.here hx rfl (hb hby d_9_42) rfl k) ?_
        by_cases g1 : j + 1 ≤ nl
        · show own_Go _ _ _ _ (T191.setTop (mkF m 43 #[.val (.ref up), .val (.int (Int32.ofNat pl)), .val (.ref un), .val (.int (Int32.ofNat nl)), .val (.int (Int32.ofNat j)), .val (.int c3_)] [(.int (Int32.ofNat nl)), (.int (Int32.ofNat (j + 1)))]))
          refine own_go (fun t k => XS.icmpNo X191.here hx rfl (hb hby d_9_43) rfl (flt ((fun q => absurd ((own_lt (a := nl) (b := j + 1) (by omega) (by omega)).mp q) (by omega)) : ¬ ((Int32.ofNat nl) < (Int32.ofNat (j + 1))))).2.2.1 k) ?_
          refine own_go (fun t k => XS.iloadN X191.here hx rfl (hb hby d_9_46) rfl k) ?_
          refine own_go (fun t k => XS.iload X191.here hx rfl (hb hby d_9_47) rfl k) ?_
          refine own_go (fun t k => XS.iconst X191.here hx rfl (hb hby d_9_49) k) ?_
          show own_Go _ _ _ _ (T191.setTop (mkF m 50 #[.val (.ref up), .val (.int (Int32.ofNat pl)), .val (.ref un), .val (.int (Int32.ofNat nl)), .val (.int (Int32.ofNat j)), .val (.int c3_)] [(.int (1 : Int32)), (.int (Int32.ofNat j)), (.int (Int32.ofNat nl))]))
          refine own_go (fun t k => XS.iadd X191.here hx rfl (hb hby d_9_50) rfl k) ?_
          show own_Go _ _ _ _ (T191.setTop (mkF m 51 #[.val (.ref up), .val (.int (Int32.ofNat pl)), .val (.ref un), .val (.int (Int32.ofNat nl)), .val (.int (Int32.ofNat j)), .val (.int c3_)] [(.int ((Int32.ofNat j) + (1 : Int32))), (.int (Int32.ofNat nl))]))
          rw [show (Int32.ofNat j) + (1 : Int32) = Int32.ofNat (j + 1) from own_add j 1]
          show own_Go _ _ _ _ (T191.setTop (mkF m 51 #[.val (.ref up), .val (.int (Int32.ofNat pl)), .val (.ref un), .val (.int (Int32.ofNat nl)), .val (.int (Int32.ofNat j)), .val (.int c3_)] [(.int (Int32.ofNat (j + 1))), (.int (Int32.ofNat nl))]))
          obtain ⟨_, _, ⟨T192, L192, k192, n192⟩, -, X192, ⟨Lc192, hQ192, l192, y192, z192⟩, st192⟩ := Jvm.LawKit.callS X191 hx (y := (⟨"com/example/fathomsearch/fathomsearch/NamePatternMatchesPinLaw", "m4", "(II)Z"⟩ : MethodName)) hown (mvT hZ (w_93 hw)) (mvT hZ (w_94 hw)) (mvT hZ (w_3 hw)) (mvT hZ (w_95 hw)) (by decide) (backOf (W := 0) (rm_m4 l Z a0 hw [] c0_ c1_ c2_ c3_ d0_ d1_ d2_ d3_ pl nl (j + 1) h0 n0 Z0 (by omega) (by omega) (by omega)) hZ (w_95 hw) (w_3 hw) (by decide) (by decide)) (g := (mkF m 51 #[.val (.ref up), .val (.int (Int32.ofNat pl)), .val (.ref un), .val (.int (Int32.ofNat nl)), .val (.int (Int32.ofNat j)), .val (.int c3_)] [(.int (Int32.ofNat (j + 1))), (.int (Int32.ofNat nl))])) rfl (by rw [hml]; rfl) (argsL := [(.int (Int32.ofNat nl)), (.int (Int32.ofNat (j + 1)))]) (rest := []) (lenOf pd_2 rfl) rfl (by show 2 * 0 + _ ≤ _; exact Nat.le_of_eq rfl) (hb hby d_9_51) (fun _ _ => ⟨rfl, e191, (by decide : 0 + 0 ≤ _), (by decide : 0 + 0 ≤ _)⟩)
          dsimp only [Pt.U, Pt.locs, Pt.cells, Pt.slots] at X192 l192 y192 z192 st192 hQ192
          subst l192 y192 z192
          obtain ⟨iv192, rfl, N192q, hV192, e192⟩ := hQ192
          have N192 := Fr.app N191 N192q
          refine own_go st192 ?_
          rcases hV192 with ⟨rfl, t192⟩ | ⟨rfl, t192⟩
          · show own_Go _ _ _ _ (T192.setTop (mkF m 54 #[.val (.ref up), .val (.int (Int32.ofNat pl)), .val (.ref un), .val (.int (Int32.ofNat nl)), .val (.int (Int32.ofNat j)), .val (.int c3_)] [(.int (1 : Int32))]))
            refine own_go (fun t k => XS.ifYes X192.here hx rfl (pc0 := 54) (pc' := 114) rfl (hb hby d_9_54) rfl ((if0 _ _).trans (feq (by decide : ¬ ((1 : Int32) = (0 : Int32)))).2) (by decide) (by decide) k) ?_
            refine own_go (fun t k => XS.iconst X192.here hx rfl (hb hby d_9_114) k) ?_
            refine own_go (fun t k => XS.goto X192.here hx rfl (pc0 := 115) (pc' := 119) rfl (hb hby d_9_115) (by decide) (by decide) k) ?_
            show own_Go _ _ _ _ (T192.setTop (mkF m 119 #[.val (.ref up), .val (.int (Int32.ofNat pl)), .val (.ref un), .val (.int (Int32.ofNat nl)), .val (.int (Int32.ofNat j)), .val (.int c3_)] [(.int (1 : Int32))]))
            refine own_retN X192 hx hlk (t := .boolean) hret (by simp) (hb hby d_9_119) ?_ (by decide) (by decide)
            rw [e192]
            exact ⟨1, rfl, N192, Or.inl ⟨rfl, (own_gstar hlt e3).mpr ⟨j + 1, (by omega), (by omega), t192⟩⟩, rfl⟩
          · show own_Go _ _ _ _ (T192.setTop (mkF m 54 #[.val (.ref up), .val (.int (Int32.ofNat pl)), .val (.ref un), .val (.int (Int32.ofNat nl)), .val (.int (Int32.ofNat j)), .val (.int c3_)] [(.int (0 : Int32))]))
            refine own_go (fun t k => XS.ifNo X192.here hx rfl (hb hby d_9_54) rfl ((if0 _ _).trans (teq (by decide : (0 : Int32) = (0 : Int32))).2) k) ?_
            refine own_go (fun t k => XS.iload X192.here hx rfl (hb hby d_9_57) rfl k) ?_
            refine own_go (fun t k => XS.iconst X192.here hx rfl (hb hby d_9_59) k) ?_
            refine own_go (fun t k => XS.iadd X192.here hx rfl (hb hby d_9_60) rfl k) ?_
            show own_Go _ _ _ _ (T192.setTop (mkF m 61 #[.val (.ref up), .val (.int (Int32.ofNat pl)), .val (.ref un), .val (.int (Int32.ofNat nl)), .val (.int (Int32.ofNat j)), .val (.int c3_)] [(.int ((Int32.ofNat j) + (2 : Int32)))]))
            rw [show (Int32.ofNat j) + (2 : Int32) = Int32.ofNat (j + 2) from own_add j 2]
            show own_Go _ _ _ _ (T192.setTop (mkF m 61 #[.val (.ref up), .val (.int (Int32.ofNat pl)), .val (.ref un), .val (.int (Int32.ofNat nl)), .val (.int (Int32.ofNat j)), .val (.int c3_)] [(.int (Int32.ofNat (j + 2)))]))
            refine own_go (fun t k => XS.iloadN X192.here hx rfl (hb hby d_9_61) rfl k) ?_
            by_cases g2 : j + 2 ≤ nl
            · show own_Go _ _ _ _ (T192.setTop (mkF m 62 #[.val (.ref up), .val (.int (Int32.ofNat pl)), .val (.ref un), .val (.int (Int32.ofNat nl)), .val (.int (Int32.ofNat j)), .val (.int c3_)] [(.int (Int32.ofNat nl)), (.int (Int32.ofNat (j + 2)))]))
              refine own_go (fun t k => XS.icmpNo X192.here hx rfl (hb hby d_9_62) rfl (flt ((fun q => absurd ((own_lt (a := nl) (b := j + 2) (by omega) (by omega)).mp q) (by omega)) : ¬ ((Int32.ofNat nl) < (Int32.ofNat (j + 2))))).2.2.1 k) ?_
              refine own_go (fun t k => XS.iloadN X192.here hx rfl (hb hby d_9_65) rfl k) ?_
              refine own_go (fun t k => XS.iload X192.here hx rfl (hb hby d_9_66) rfl k) ?_
              refine own_go (fun t k => XS.iconst X192.here hx rfl (hb hby d_9_68) k) ?_
              show own_Go _ _ _ _ (T192.setTop (mkF m 69 #[.val (.ref up), .val (.int (Int32.ofNat pl)), .val (.ref un), .val (.int (Int32.ofNat nl)), .val (.int (Int32.ofNat j)), .val (.int c3_)] [(.int (2 : Int32)), (.int (Int32.ofNat j)), (.int (Int32.ofNat nl))]))
              refine own_go (fun t k => XS.iadd X192.here hx rfl (hb hby d_9_69) rfl k) ?_
              show own_Go _ _ _ _ (T192.setTop (mkF m 70 #[.val (.ref up), .val (.int (Int32.ofNat pl)), .val (.ref un), .val (.int (Int32.ofNat nl)), .val (.int (Int32.ofNat j)), .val (.int c3_)] [(.int ((Int32.ofNat j) + (2 : Int32))), (.int (Int32.ofNat nl))]))
              rw [show (Int32.ofNat j) + (2 : Int32) = Int32.ofNat (j + 2) from own_add j 2]
              show own_Go _ _ _ _ (T192.setTop (mkF m 70 #[.val (.ref up), .val (.int (Int32.ofNat pl)), .val (.ref un), .val (.int (Int32.ofNat nl)), .val (.int (Int32.ofNat j)), .val (.int c3_)] [(.int (Int32.ofNat (j + 2))), (.int (Int32.ofNat nl))]))
              obtain ⟨_, _, ⟨T193, L193, k193, n193⟩, -, X193, ⟨Lc193, hQ193, l193, y193, z193⟩, st193⟩ := Jvm.LawKit.callS X192 hx (y := (⟨"com/example/fathomsearch/fathomsearch/NamePatternMatchesPinLaw", "m4", "(II)Z"⟩ : MethodName)) hown (mvT hZ (w_93 hw)) (mvT hZ (w_94 hw)) (mvT hZ (w_3 hw)) (mvT hZ (w_95 hw)) (by decide) (backOf (W := 0) (rm_m4 l Z a0 hw [] c0_ c1_ c2_ c3_ d0_ d1_ d2_ d3_ pl nl (j + 2) h0 n0 Z0 (by omega) (by omega) (by omega)) hZ (w_95 hw) (w_3 hw) (by decide) (by decide)) (g := (mkF m 70 #[.val (.ref up), .val (.int (Int32.ofNat pl)), .val (.ref un), .val (.int (Int32.ofNat nl)), .val (.int (Int32.ofNat j)), .val (.int c3_)] [(.int (Int32.ofNat (j + 2))), (.int (Int32.ofNat nl))])) rfl (by rw [hml]; rfl) (argsL := [(.int (Int32.ofNat nl)), (.int (Int32.ofNat (j + 2)))]) (rest := []) (lenOf pd_2 rfl) rfl (by show 2 * 0 + _ ≤ _; exact Nat.le_of_eq rfl) (hb hby d_9_70) (fun _ _ => ⟨rfl, e192, (by decide : 0 + 0 ≤ _), (by decide : 0 + 0 ≤ _)⟩)
              dsimp only [Pt.U, Pt.locs, Pt.cells, Pt.slots] at X193 l193 y193 z193 st193 hQ193
              subst l193 y193 z193
              obtain ⟨iv193, rfl, N193q, hV193, e193⟩ := hQ193
              have N193 := Fr.app N192 N193q
              refine own_go st193 ?_
              rcases hV193 with ⟨rfl, t193⟩ | ⟨rfl, t193⟩
              · show own_Go _ _ _ _ (T193.setTop (mkF m 73 #[.val (.ref up), .val (.int (Int32.ofNat pl)), .val (.ref un), .val (.int (Int32.ofNat nl)), .val (.int (Int32.ofNat j)), .val (.int c3_)] [(.int (1 : Int32))]))
                refine own_go (fun t k => XS.ifYes X193.here hx rfl (pc0 := 73) (pc' := 114) rfl (hb hby d_9_73) rfl ((if0 _ _).trans (feq (by decide : ¬ ((1 : Int32) = (0 : Int32)))).2) (by decide) (by decide) k) ?_
                refine own_go (fun t k => XS.iconst X193.here hx rfl (hb hby d_9_114) k) ?_
                refine own_go (fun t k => XS.goto X193.here hx rfl (pc0 := 115) (pc' := 119) rfl (hb hby d_9_115) (by decide) (by decide) k) ?_
                show own_Go _ _ _ _ (T193.setTop (mkF m 119 #[.val (.ref up), .val (.int (Int32.ofNat pl)), .val (.ref un), .val (.int (Int32.ofNat nl)), .val (.int (Int32.ofNat j)), .val (.int c3_)] [(.int (1 : Int32))]))
                refine own_retN X193 hx hlk (t := .boolean) hret (by simp) (hb hby d_9_119) ?_ (by decide) (by decide)
                rw [e193]
                exact ⟨1, rfl, N193, Or.inl ⟨rfl, (own_gstar hlt e3).mpr ⟨j + 2, (by omega), (by omega), t193⟩⟩, rfl⟩
              · show own_Go _ _ _ _ (T193.setTop (mkF m 73 #[.val (.ref up), .val (.int (Int32.ofNat pl)), .val (.ref un), .val (.int (Int32.ofNat nl)), .val (.int (Int32.ofNat j)), .val (.int c3_)] [(.int (0 : Int32))]))
                refine own_go (fun t k => XS.ifNo X193.here hx rfl (hb hby d_9_73) rfl ((if0 _ _).trans (teq (by decide : (0 : Int32) = (0 : Int32))).2) k) ?_
                refine own_go (fun t k => XS.iload X193.here hx rfl (hb hby d_9_76) rfl k) ?_
                refine own_go (fun t k => XS.iconst X193.here hx rfl (hb hby d_9_78) k) ?_
                refine own_go (fun t k => XS.iadd X193.here hx rfl (hb hby d_9_79) rfl k) ?_
                show own_Go _ _ _ _ (T193.setTop (mkF m 80 #[.val (.ref up), .val (.int (Int32.ofNat pl)), .val (.ref un), .val (.int (Int32.ofNat nl)), .val (.int (Int32.ofNat j)), .val (.int c3_)] [(.int ((Int32.ofNat j) + (3 : Int32)))]))
                rw [show (Int32.ofNat j) + (3 : Int32) = Int32.ofNat (j + 3) from own_add j 3]
                show own_Go _ _ _ _ (T193.setTop (mkF m 80 #[.val (.ref up), .val (.int (Int32.ofNat pl)), .val (.ref un), .val (.int (Int32.ofNat nl)), .val (.int (Int32.ofNat j)), .val (.int c3_)] [(.int (Int32.ofNat (j + 3)))]))
                refine own_go (fun t k => XS.iloadN X193.here hx rfl (hb hby d_9_80) rfl k) ?_
                by_cases g3 : j + 3 ≤ nl
                · show own_Go _ _ _ _ (T193.setTop (mkF m 81 #[.val (.ref up), .val (.int (Int32.ofNat pl)), .val (.ref un), .val (.int (Int32.ofNat nl)), .val (.int (Int32.ofNat j)), .val (.int c3_)] [(.int (Int32.ofNat nl)), (.int (Int32.ofNat (j + 3)))]))
                  refine own_go (fun t k => XS.icmpNo X193.here hx rfl (hb hby d_9_81) rfl (flt ((fun q => absurd ((own_lt (a := nl) (b := j + 3) (by omega) (by omega)).mp q) (by omega)) : ¬ ((Int32.ofNat nl) < (Int32.ofNat (j + 3))))).2.2.1 k) ?_
                  refine own_go (fun t k => XS.iloadN X193.here hx rfl (hb hby d_9_84) rfl k) ?_
                  refine own_go (fun t k => XS.iload X193.here hx rfl (hb hby d_9_85) rfl k) ?_
                  refine own_go (fun t k => XS.iconst X193.here hx rfl (hb hby d_9_87) k) ?_
                  show own_Go _ _ _ _ (T193.setTop (mkF m 88 #[.val (.ref up), .val (.int (Int32.ofNat pl)), .val (.ref un), .val (.int (Int32.ofNat nl)), .val (.int (Int32.ofNat j)), .val (.int c3_)] [(.int (3 : Int32)), (.int (Int32.ofNat j)), (.int (Int32.ofNat nl))]))
                  refine own_go (fun t k => XS.iadd X193.here hx rfl (hb hby d_9_88) rfl k) ?_
                  show own_Go _ _ _ _ (T193.setTop (mkF m 89 #[.val (.ref up), .val (.int (Int32.ofNat pl)), .val (.ref un), .val (.int (Int32.ofNat nl)), .val (.int (Int32.ofNat j)), .val (.int c3_)] [(.int ((Int32.ofNat j) + (3 : Int32))), (.int (Int32.ofNat nl))]))
                  rw [show (Int32.ofNat j) + (3 : Int32) = Int32.ofNat (j + 3) from own_add j 3]
                  show own_Go _ _ _ _ (T193.setTop (mkF m 89 #[.val (.ref up), .val (.int (Int32.ofNat pl)), .val (.ref un), .val (.int (Int32.ofNat nl)), .val (.int (Int32.ofNat j)), .val (.int c3_)] [(.int (Int32.ofNat (j + 3))), (.int (Int32.ofNat nl))]))
                  obtain ⟨_, _, ⟨T194, L194, k194, n194⟩, -, X194, ⟨Lc194, hQ194, l194, y194, z194⟩, st194⟩ := Jvm.LawKit.callS X193 hx (y := (⟨"com/example/fathomsearch/fathomsearch/NamePatternMatchesPinLaw", "m4", "(II)Z"⟩ : MethodName)) hown (mvT hZ (w_93 hw)) (mvT hZ (w_94 hw)) (mvT hZ (w_3 hw)) (mvT hZ (w_95 hw)) (by decide) (backOf (W := 0) (rm_m4 l Z a0 hw [] c0_ c1_ c2_ c3_ d0_ d1_ d2_ d3_ pl nl (j + 3) h0 n0 Z0 (by omega) (by omega) (by omega)) hZ (w_95 hw) (w_3 hw) (by decide) (by decide)) (g := (mkF m 89 #[.val (.ref up), .val (.int (Int32.ofNat pl)), .val (.ref un), .val (.int (Int32.ofNat nl)), .val (.int (Int32.ofNat j)), .val (.int c3_)] [(.int (Int32.ofNat (j + 3))), (.int (Int32.ofNat nl))])) rfl (by rw [hml]; rfl) (argsL := [(.int (Int32.ofNat nl)), (.int (Int32.ofNat (j + 3)))]) (rest := []) (lenOf pd_2 rfl) rfl (by show 2 * 0 + _ ≤ _; exact Nat.le_of_eq rfl) (hb hby d_9_89) (fun _ _ => ⟨rfl, e193, (by decide : 0 + 0 ≤ _), (by decide : 0 + 0 ≤ _)⟩)
                  dsimp only [Pt.U, Pt.locs, Pt.cells, Pt.slots] at X194 l194 y194 z194 st194 hQ194
                  subst l194 y194 z194
                  obtain ⟨iv194, rfl, N194q, hV194, e194⟩ := hQ194
                  have N194 := Fr.app N193 N194q
                  refine own_go st194 ?_
                  rcases hV194 with ⟨rfl, t194⟩ | ⟨rfl, t194⟩
                  · show own_Go _ _ _ _ (T194.setTop (mkF m 92 #[.val (.ref up), .val (.int (Int32.ofNat pl)), .val (.ref un), .val (.int (Int32.ofNat nl)), .val (.int (Int32.ofNat j)), .val (.int c3_)] [(.int (1 : Int32))]))
                    refine own_go (fun t k => XS.ifYes X194.here hx rfl (pc0 := 92) (pc' := 114) rfl (hb hby d_9_92) rfl ((if0 _ _).trans (feq (by decide : ¬ ((1 : Int32) = (0 : Int32)))).2) (by decide) (by decide) k) ?_
                    refine own_go (fun t k => XS.iconst X194.here hx rfl (hb hby d_9_114) k) ?_
                    refine own_go (fun t k => XS.goto X194.here hx rfl (pc0 := 115) (pc' := 119) rfl (hb hby d_9_115) (by decide) (by decide) k) ?_
                    show own_Go _ _ _ _ (T194.setTop (mkF m 119 #[.val (.ref up), .val (.int (Int32.ofNat pl)), .val (.ref un), .val (.int (Int32.ofNat nl)), .val (.int (Int32.ofNat j)), .val (.int c3_)] [(.int (1 : Int32))]))
                    refine own_retN X194 hx hlk (t := .boolean) hret (by simp) (hb hby d_9_119) ?_ (by decide) (by decide)
                    rw [e194]
                    exact ⟨1, rfl, N194, Or.inl ⟨rfl, (own_gstar hlt e3).mpr ⟨j + 3, (by omega), (by omega), t194⟩⟩, rfl⟩
                  · show own_Go _ _ _ _ (T194.setTop (mkF m 92 #[.val (.ref up), .val (.int (Int32.ofNat pl)), .val (.ref un), .val (.int (Int32.ofNat nl)), .val (.int (Int32.ofNat j)), .val (.int c3_)] [(.int (0 : Int32))]))
                    refine own_go (fun t k => XS.ifNo X194.here hx rfl (hb hby d_9_92) rfl ((if0 _ _).trans (teq (by decide : (0 : Int32) = (0 : Int32))).2) k) ?_
                    refine own_go (fun t k => XS.iload X194.here hx rfl (hb hby d_9_95) rfl k) ?_
                    refine own_go (fun t k => XS.iconst X194.here hx rfl (hb hby d_9_97) k) ?_
                    refine own_go (fun t k => XS.iadd X194.here hx rfl (hb hby d_9_98) rfl k) ?_
                    show own_Go _ _ _ _ (T194.setTop (mkF m 99 #[.val (.ref up), .val (.int (Int32.ofNat pl)), .val (.ref un), .val (.int (Int32.ofNat nl)), .val (.int (Int32.ofNat j)), .val (.int c3_)] [(.int ((Int32.ofNat j) + (4 : Int32)))]))
                    rw [show (Int32.ofNat j) + (4 : Int32) = Int32.ofNat (j + 4) from own_add j 4]
                    show own_Go _ _ _ _ (T194.setTop (mkF m 99 #[.val (.ref up), .val (.int (Int32.ofNat pl)), .val (.ref un), .val (.int (Int32.ofNat nl)), .val (.int (Int32.ofNat j)), .val (.int c3_)] [(.int (Int32.ofNat (j + 4)))]))
                    refine own_go (fun t k => XS.iloadN X194.here hx rfl (hb hby d_9_99) rfl k) ?_
                    by_cases g4 : j + 4 ≤ nl
                    · show own_Go _ _ _ _ (T194.setTop (mkF m 100 #[.val (.ref up), .val (.int (Int32.ofNat pl)), .val (.ref un), .val (.int (Int32.ofNat nl)), .val (.int (Int32.ofNat j)), .val (.int c3_)] [(.int (Int32.ofNat nl)), (.int (Int32.ofNat (j + 4)))]))
                      refine own_go (fun t k => XS.icmpNo X194.here hx rfl (hb hby d_9_100) rfl (flt ((fun q => absurd ((own_lt (a := nl) (b := j + 4) (by omega) (by omega)).mp q) (by omega)) : ¬ ((Int32.ofNat nl) < (Int32.ofNat (j + 4))))).2.2.1 k) ?_
                      refine own_go (fun t k => XS.iloadN X194.here hx rfl (hb hby d_9_103) rfl k) ?_
                      refine own_go (fun t k => XS.iload X194.here hx rfl (hb hby d_9_104) rfl k) ?_
                      refine own_go (fun t k => XS.iconst X194.here hx rfl (hb hby d_9_106) k) ?_
                      show own_Go _ _ _ _ (T194.setTop (mkF m 107 #[.val (.ref up), .val (.int (Int32.ofNat pl)), .val (.ref un), .val (.int (Int32.ofNat nl)), .val (.int (Int32.ofNat j)), .val (.int c3_)] [(.int (4 : Int32)), (.int (Int32.ofNat j)), (.int (Int32.ofNat nl))]))
                      refine own_go (fun t k => XS.iadd X194.here hx rfl (hb hby d_9_107) rfl k) ?_
                      show own_Go _ _ _ _ (T194.setTop (mkF m 108 #[.val (.ref up), .val (.int (Int32.ofNat pl)), .val (.ref un), .val (.int (Int32.ofNat nl)), .val (.int (Int32.ofNat j)), .val (.int c3_)] [(.int ((Int32.ofNat j) + (4 : Int32))), (.int (Int32.ofNat nl))]))
                      rw [show (Int32.ofNat j) + (4 : Int32) = Int32.ofNat (j + 4) from own_add j 4]
                      show own_Go _ _ _ _ (T194.setTop (mkF m 108 #[.val (.ref up), .val (.int (Int32.ofNat pl)), .val (.ref un), .val (.int (Int32.ofNat nl)), .val (.int (Int32.ofNat j)), .val (.int c3_)] [(.int (Int32.ofNat (j + 4))), (.int (Int32.ofNat nl))]))
                      obtain ⟨_, _, ⟨T195, L195, k195, n195⟩, -, X195, ⟨Lc195, hQ195, l195, y195, z195⟩, st195⟩ := Jvm.LawKit.callS X194 hx (y := (⟨"com/example/fathomsearch/fathomsearch/NamePatternMatchesPinLaw", "m4", "(II)Z"⟩ : MethodName)) hown (mvT hZ (w_93 hw)) (mvT hZ (w_94 hw)) (mvT hZ (w_3 hw)) (mvT hZ (w_95 hw)) (by decide) (backOf (W := 0) (rm_m4 l Z a0 hw [] c0_ c1_ c2_ c3_ d0_ d1_ d2_ d3_ pl nl (j + 4) h0 n0 Z0 (by omega) (by omega) (by omega)) hZ (w_95 hw) (w_3 hw) (by decide) (by decide)) (g := (mkF m 108 #[.val (.ref up), .val (.int (Int32.ofNat pl)), .val (.ref un), .val (.int (Int32.ofNat nl)), .val (.int (Int32.ofNat j)), .val (.int c3_)] [(.int (Int32.ofNat (j + 4))), (.int (Int32.ofNat nl))])) rfl (by rw [hml]; rfl) (argsL := [(.int (Int32.ofNat nl)), (.int (Int32.ofNat (j + 4)))]) (rest := []) (lenOf pd_2 rfl) rfl (by show 2 * 0 + _ ≤ _; exact Nat.le_of_eq rfl) (hb hby d_9_108) (fun _ _ => ⟨rfl, e194, (by decide : 0 + 0 ≤ _), (by decide : 0 + 0 ≤ _)⟩)
                      dsimp only [Pt.U, Pt.locs, Pt.cells, Pt.slots] at X195 l195 y195 z195 st195 hQ195
                      subst l195 y195 z195
                      obtain ⟨iv195, rfl, N195q, hV195, e195⟩ := hQ195
                      have N195 := Fr.app N194 N195q
                      refine own_go st195 ?_
                      rcases hV195 with ⟨rfl, t195⟩ | ⟨rfl, t195⟩
                      · show own_Go _ _ _ _ (T195.setTop (mkF m 111 #[.val (.ref up), .val (.int (Int32.ofNat pl)), .val (.ref un), .val (.int (Int32.ofNat nl)), .val (.int (Int32.ofNat j)), .val (.int c3_)] [(.int (1 : Int32))]))
                        refine own_go (fun t k => XS.ifNo X195.here hx rfl (hb hby d_9_111) rfl ((if0 _ _).trans (feq (by decide : ¬ ((1 : Int32) = (0 : Int32)))).1) k) ?_
                        refine own_go (fun t k => XS.iconst X195.here hx rfl (hb hby d_9_114) k) ?_
                        refine own_go (fun t k => XS.goto X195.here hx rfl (pc0 := 115) (pc' := 119) rfl (hb hby d_9_115) (by decide) (by decide) k) ?_
                        show own_Go _ _ _ _ (T195.setTop (mkF m 119 #[.val (.ref up), .val (.int (Int32.ofNat pl)), .val (.ref un), .val (.int (Int32.ofNat nl)), .val (.int (Int32.ofNat j)), .val (.int c3_)] [(.int (1 : Int32))]))
                        refine own_retN X195 hx hlk (t := .boolean) hret (by simp) (hb hby d_9_119) ?_ (by decide) (by decide)
                        rw [e195]
                        exact ⟨1, rfl, N195, Or.inl ⟨rfl, (own_gstar hlt e3).mpr ⟨j + 4, (by omega), (by omega), t195⟩⟩, rfl⟩
                      · show own_Go _ _ _ _ (T195.setTop (mkF m 111 #[.val (.ref up), .val (.int (Int32.ofNat pl)), .val (.ref un), .val (.int (Int32.ofNat nl)), .val (.int (Int32.ofNat j)), .val (.int c3_)] [(.int (0 : Int32))]))
                        refine own_go (fun t k => XS.ifYes X195.here hx rfl (pc0 := 111) (pc' := 118) rfl (hb hby d_9_111) rfl ((if0 _ _).trans (teq (by decide : (0 : Int32) = (0 : Int32))).1) (by decide) (by decide) k) ?_
                        refine own_go (fun t k => XS.iconst X195.here hx rfl (hb hby d_9_118) k) ?_
                        have no_ : ¬ ∃ i, j ≤ i ∧ i ≤ nl ∧ own_g (own_at [c0_, c1_, c2_, c3_]) (own_at [d0_, d1_, d2_, d3_]) pl nl 4 i := by
                          intro q
                          obtain ⟨i, i1, i2, i3⟩ := q
                          rcases (by omega : i = j + 0 ∨ i = j + 1 ∨ i = j + 2 ∨ i = j + 3 ∨ i = j + 4) with rfl | rfl | rfl | rfl | rfl
                          · exact t191 i3
                          · exact t192 i3
                          · exact t193 i3
                          · exact t194 i3
                          · exact t195 i3
                        show own_Go _ _ _ _ (T195.setTop (mkF m 119 #[.val (.ref up), .val (.int (Int32.ofNat pl)), .val (.ref un), .val (.int (Int32.ofNat nl)), .val (.int (Int32.ofNat j)), .val (.int c3_)] [(.int (0 : Int32))]))
                        refine own_retN X195 hx hlk (t := .boolean) hret (by simp) (hb hby d_9_119) ?_ (by decide) (by decide)
                        rw [e195]
                        exact ⟨0, rfl, N195, Or.inr ⟨rfl, fun q => no_ (((own_gstar hlt e3)).mp q)⟩, rfl⟩
                    · show own_Go _ _ _ _ (T194.setTop (mkF m 100 #[.val (.ref up), .val (.int (Int32.ofNat pl)), .val (.ref un), .val (.int (Int32.ofNat nl)), .val (.int (Int32.ofNat j)), .val (.int c3_)] [(.int (Int32.ofNat nl)), (.int (Int32.ofNat (j + 4)))]))
                      refine own_go (fun t k => XS.icmpYes X194.here hx rfl (pc0 := 100) (pc' := 118) rfl (hb hby d_9_100) rfl (tlt (((own_lt (a := nl) (b := j + 4) (by omega) (by omega)).mpr (by omega)) : (Int32.ofNat nl) < (Int32.ofNat (j + 4)))).2.2.1 (by decide) (by decide) k) ?_
                      refine own_go (fun t k => XS.iconst X194.here hx rfl (hb hby d_9_118) k) ?_
                      have no_ : ¬ ∃ i, j ≤ i ∧ i ≤ nl ∧ own_g (own_at [c0_, c1_, c2_, c3_]) (own_at [d0_, d1_, d2_, d3_]) pl nl 4 i := by
                        intro q
                        obtain ⟨i, i1, i2, i3⟩ := q
                        rcases (by omega : i = j + 0 ∨ i = j + 1 ∨ i = j + 2 ∨ i = j + 3) with rfl | rfl | rfl | rfl
                        · exact t191 i3
                        · exact t192 i3
                        · exact t193 i3
                        · exact t194 i3
                      show own_Go _ _ _ _ (T194.setTop (mkF m 119 #[.val (.ref up), .val (.int (Int32.ofNat pl)), .val (.ref un), .val (.int (Int32.ofNat nl)), .val (.int (Int32.ofNat j)), .val (.int c3_)] [(.int (0 : Int32))]))
                      refine own_retN X194 hx hlk (t := .boolean) hret (by simp) (hb hby d_9_119) ?_ (by decide) (by decide)
                      rw [e194]
                      exact ⟨0, rfl, N194, Or.inr ⟨rfl, fun q => no_ (((own_gstar hlt e3)).mp q)⟩, rfl⟩
                · show own_Go _ _ _ _ (T193.setTop (mkF m 81 #[.val (.ref up), .val (.int (Int32.ofNat pl)), .val (.ref un), .val (.int (Int32.ofNat nl)), .val (.int (Int32.ofNat j)), .val (.int c3_)] [(.int (Int32.ofNat nl)), (.int (Int32.ofNat (j + 3)))]))
                  refine own_go (fun t k => XS.icmpYes X193.here hx rfl (pc0 := 81) (pc' := 95) rfl (hb hby d_9_81) rfl (tlt (((own_lt (a := nl) (b := j + 3) (by omega) (by omega)).mpr (by omega)) : (Int32.ofNat nl) < (Int32.ofNat (j + 3)))).2.2.1 (by decide) (by decide) k) ?_
                  refine own_go (fun t k => XS.iload X193.here hx rfl (hb hby d_9_95) rfl k) ?_
                  refine own_go (fun t k => XS.iconst X193.here hx rfl (hb hby d_9_97) k) ?_
                  refine own_go (fun t k => XS.iadd X193.here hx rfl (hb hby d_9_98) rfl k) ?_
                  show own_Go _ _ _ _ (T193.setTop (mkF m 99 #[.val (.ref up), .val (.int (Int32.ofNat pl)), .val (.ref un), .val (.int (Int32.ofNat nl)), .val (.int (Int32.ofNat j)), .val (.int c3_)] [(.int ((Int32.ofNat j) + (4 : Int32)))]))
                  rw [show (Int32.ofNat j) + (4 : Int32) = Int32.ofNat (j + 4) from own_add j 4]
                  show own_Go _ _ _ _ (T193.setTop (mkF m 99 #[.val (.ref up), .val (.int (Int32.ofNat pl)), .val (.ref un), .val (.int (Int32.ofNat nl)), .val (.int (Int32.ofNat j)), .val (.int c3_)] [(.int (Int32.ofNat (j + 4)))]))
                  refine own_go (fun t k => XS.iloadN X193.here hx rfl (hb hby d_9_99) rfl k) ?_
                  show own_Go _ _ _ _ (T193.setTop (mkF m 100 #[.val (.ref up), .val (.int (Int32.ofNat pl)), .val (.ref un), .val (.int (Int32.ofNat nl)), .val (.int (Int32.ofNat j)), .val (.int c3_)] [(.int (Int32.ofNat nl)), (.int (Int32.ofNat (j + 4)))]))
                  refine own_go (fun t k => XS.icmpYes X193.here hx rfl (pc0 := 100) (pc' := 118) rfl (hb hby d_9_100) rfl (tlt ((own_lt (a := nl) (b := j + 4) (by omega) (by omega)).mpr (by omega))).2.2.1 (by decide) (by decide) k) ?_
                  refine own_go (fun t k => XS.iconst X193.here hx rfl (hb hby d_9_118) k) ?_
                  have no_ : ¬ ∃ i, j ≤ i ∧ i ≤ nl ∧ own_g (own_at [c0_, c1_, c2_, c3_]) (own_at [d0_, d1_, d2_, d3_]) pl nl 4 i := by
                    intro q
                    obtain ⟨i, i1, i2, i3⟩ := q
                    rcases (by omega : i = j + 0 ∨ i = j + 1 ∨ i = j + 2) with rfl | rfl | rfl
                    · exact t191 i3
                    · exact t192 i3
                    · exact t193 i3
                  show own_Go _ _ _ _ (T193.setTop (mkF m 119 #[.val (.ref up), .val (.int (Int32.ofNat pl)), .val (.ref un), .val (.int (Int32.ofNat nl)), .val (.int (Int32.ofNat j)), .val (.int c3_)] [(.int (0 : Int32))]))
                  refine own_retN X193 hx hlk (t := .boolean) hret (by simp) (hb hby d_9_119) ?_ (by decide) (by decide)
                  rw [e193]
                  exact ⟨0, rfl, N193, Or.inr ⟨rfl, fun q => no_ (((own_gstar hlt e3)).mp q)⟩, rfl⟩
            · show own_Go _ _ _ _ (T192.setTop (mkF m 62 #[.val (.ref up), .val (.int (Int32.ofNat pl)), .val (.ref un), .val (.int (Int32.ofNat nl)), .val (.int (Int32.ofNat j)), .val (.int c3_)] [(.int (Int32.ofNat nl)), (.int (Int32.ofNat (j + 2)))]))
              refine own_go (fun t k => XS.icmpYes X192.here hx rfl (pc0 := 62) (pc' := 76) rfl (hb hby d_9_62) rfl (tlt (((own_lt (a := nl) (b := j + 2) (by omega) (by omega)).mpr (by omega)) : (Int32.ofNat nl) < (Int32.ofNat (j + 2)))).2.2.1 (by decide) (by decide) k) ?_
              refine own_go (fun t k => XS.iload X192.here hx rfl (hb hby d_9_76) rfl k) ?_
              refine own_go (fun t k => XS.iconst X192.here hx rfl (hb hby d_9_78) k) ?_
              refine own_go (fun t k => XS.iadd X192.here hx rfl (hb hby d_9_79) rfl k) ?_
              show own_Go _ _ _ _ (T192.setTop (mkF m 80 #[.val (.ref up), .val (.int (Int32.ofNat pl)), .val (.ref un), .val (.int (Int32.ofNat nl)), .val (.int (Int32.ofNat j)), .val (.int c3_)] [(.int ((Int32.ofNat j) + (3 : Int32)))]))
              rw [show (Int32.ofNat j) + (3 : Int32) = Int32.ofNat (j + 3) from own_add j 3]
              show own_Go _ _ _ _ (T192.setTop (mkF m 80 #[.val (.ref up), .val (.int (Int32.ofNat pl)), .val (.ref un), .val (.int (Int32.ofNat nl)), .val (.int (Int32.ofNat j)), .val (.int c3_)] [(.int (Int32.ofNat (j + 3)))]))
              refine own_go (fun t k => XS.iloadN X192.here hx rfl (hb hby d_9_80) rfl k) ?_
              show own_Go _ _ _ _ (T192.setTop (mkF m 81 #[.val (.ref up), .val (.int (Int32.ofNat pl)), .val (.ref un), .val (.int (Int32.ofNat nl)), .val (.int (Int32.ofNat j)), .val (.int c3_)] [(.int (Int32.ofNat nl)), (.int (Int32.ofNat (j + 3)))]))
              refine own_go (fun t k => XS.icmpYes X192.here hx rfl (pc0 := 81) (pc' := 95) rfl (hb hby d_9_81) rfl (tlt ((own_lt (a := nl) (b := j + 3) (by omega) (by omega)).mpr (by omega))).2.2.1 (by decide) (by decide) k) ?_
              refine own_go (fun t k => XS.iload X192.here hx rfl (hb hby d_9_95) rfl k) ?_
              refine own_go (fun t k => XS.iconst X192.here hx rfl (hb hby d_9_97) k) ?_
              refine own_go (fun t k => XS.iadd X192.here hx rfl (hb hby d_9_98) rfl k) ?_
              show own_Go _ _ _ _ (T192.setTop (mkF m 99 #[.val (.ref up), .val (.int (Int32.ofNat pl)), .val (.ref un), .val (.int (Int32.ofNat nl)), .val (.int (Int32.ofNat j)), .val (.int c3_)] [(.int ((Int32.ofNat j) + (4 : Int32)))]))
              rw [show (Int32.ofNat j) + (4 : Int32) = Int32.ofNat (j + 4) from own_add j 4]
              show own_Go _ _ _ _ (T192.setTop (mkF m 99 #[.val (.ref up), .val (.int (Int32.ofNat pl)), .val (.ref un), .val (.int (Int32.ofNat nl)), .val (.int (Int32.ofNat j)), .val (.int c3_)] [(.int (Int32.ofNat (j + 4)))]))
              refine own_go (fun t k => XS.iloadN X192.here hx rfl (hb hby d_9_99) rfl k) ?_
              show own_Go _ _ _ _ (T192.setTop (mkF m 100 #[.val (.ref up), .val (.int (Int32.ofNat pl)), .val (.ref un), .val (.int (Int32.ofNat nl)), .val (.int (Int32.ofNat j)), .val (.int c3_)] [(.int (Int32.ofNat nl)), (.int (Int32.ofNat (j + 4)))]))
              refine own_go (fun t k => XS.icmpYes X192.here hx rfl (pc0 := 100) (pc' := 118) rfl (hb hby d_9_100) rfl (tlt ((own_lt (a := nl) (b := j + 4) (by omega) (by omega)).mpr (by omega))).2.2.1 (by decide) (by decide) k) ?_
              refine own_go (fun t k => XS.iconst X192.here hx rfl (hb hby d_9_118) k) ?_
              have no_ : ¬ ∃ i, j ≤ i ∧ i ≤ nl ∧ own_g (own_at [c0_, c1_, c2_, c3_]) (own_at [d0_, d1_, d2_, d3_]) pl nl 4 i := by
                intro q
                obtain ⟨i, i1, i2, i3⟩ := q
                rcases (by omega : i = j + 0 ∨ i = j + 1) with rfl | rfl
                · exact t191 i3
                · exact t192 i3
              show own_Go _ _ _ _ (T192.setTop (mkF m 119 #[.val (.ref up), .val (.int (Int32.ofNat pl)), .val (.ref un), .val (.int (Int32.ofNat nl)), .val (.int (Int32.ofNat j)), .val (.int c3_)] [(.int (0 : Int32))]))
              refine own_retN X192 hx hlk (t := .boolean) hret (by simp) (hb hby d_9_119) ?_ (by decide) (by decide)
              rw [e192]
              exact ⟨0, rfl, N192, Or.inr ⟨rfl, fun q => no_ (((own_gstar hlt e3)).mp q)⟩, rfl⟩
        · show own_Go _ _ _ _ (T191.setTop (mkF m 43 #[.val (.ref up), .val (.int (Int32.ofNat pl)), .val (.ref un), .val (.int (Int32.ofNat nl)), .val (.int (Int32.ofNat j)), .val (.int c3_)] [(.int (Int32.ofNat nl)), (.int (Int32.ofNat (j + 1)))]))
          refine own_go (fun t k => XS.icmpYes X191.here hx rfl (pc0 := 43) (pc' := 57) rfl (hb hby d_9_43) rfl (tlt (((own_lt (a := nl) (b := j + 1) (by omega) (by omega)).mpr (by omega)) : (Int32.ofNat nl) < (Int32.ofNat (j + 1)))).2.2.1 (by decide) (by decide) k) ?_
          refine own_go (fun t k => XS.iload X191.here hx rfl (hb hby d_9_57) rfl k) ?_
          refine own_go (fun t k => XS.iconst X191.here hx rfl (hb hby d_9_59) k) ?_
          refine own_go (fun t k => XS.iadd X191.here hx rfl (hb hby d_9_60) rfl k) ?_
          show own_Go _ _ _ _ (T191.setTop (mkF m 61 #[.val (.ref up), .val (.int (Int32.ofNat pl)), .val (.ref un), .val (.int (Int32.ofNat nl)), .val (.int (Int32.ofNat j)), .val (.int c3_)] [(.int ((Int32.ofNat j) + (2 : Int32)))]))
          rw [show (Int32.ofNat j) + (2 : Int32) = Int32.ofNat (j + 2) from own_add j 2]
          show own_Go _ _ _ _ (T191.setTop (mkF m 61 #[.val (.ref up), .val (.int (Int32.ofNat pl)), .val (.ref un), .val (.int (Int32.ofNat nl)), .val (.int (Int32.ofNat j)), .val (.int c3_)] [(.int (Int32.ofNat (j + 2)))]))
          refine own_go (fun t k => XS.iloadN X191.here hx rfl (hb hby d_9_61) rfl k) ?_
          show own_Go _ _ _ _ (T191.setTop (mkF m 62 #[.val (.ref up), .val (.int (Int32.ofNat pl)), .val (.ref un), .val (.int (Int32.ofNat nl)), .val (.int (Int32.ofNat j)), .val (.int c3_)] [(.int (Int32.ofNat nl)), (.int (Int32.ofNat (j + 2)))]))
          refine own_go (fun t k => XS.icmpYes X191.here hx rfl (pc0 := 62) (pc' := 76) rfl (hb hby d_9_62) rfl (tlt ((own_lt (a := nl) (b := j + 2) (by omega) (by omega)).mpr (by omega))).2.2.1 (by decide) (by decide) k) ?_
          refine own_go (fun t k => XS.iload X191.here hx rfl (hb hby d_9_76) rfl k) ?_
          refine own_go (fun t k => XS.iconst X191.here hx rfl (hb hby d_9_78) k) ?_
          refine own_go (fun t k => XS.iadd X191.here hx rfl (hb hby d_9_79) rfl k) ?_
          show own_Go _ _ _ _ (T191.setTop (mkF m 80 #[.val (.ref up), .val (.int (Int32.ofNat pl)), .val (.ref un), .val (.int (Int32.ofNat nl)), .val (.int (Int32.ofNat j)), .val (.int c3_)] [(.int ((Int32.ofNat j) + (3 : Int32)))]))
          rw [show (Int32.ofNat j) + (3 : Int32) = Int32.ofNat (j + 3) from own_add j 3]
          show own_Go _ _ _ _ (T191.setTop (mkF m 80 #[.val (.ref up), .val (.int (Int32.ofNat pl)), .val (.ref un), .val (.int (Int32.ofNat nl)), .val (.int (Int32.ofNat j)), .val (.int c3_)] [(.int (Int32.ofNat (j + 3)))]))
          refine own_go (fun t k => XS.iloadN X191.here hx rfl (hb hby d_9_80) rfl k) ?_
          show own_Go _ _ _ _ (T191.setTop (mkF m 81 #[.val (.ref up), .val (.int (Int32.ofNat pl)), .val (.ref un), .val (.int (Int32.ofNat nl)), .val (.int (Int32.ofNat j)), .val (.int c3_)] [(.int (Int32.ofNat nl)), (.int (Int32.ofNat (j + 3)))]))
          refine own_go (fun t k => XS.icmpYes X191.here hx rfl (pc0 := 81) (pc' := 95) rfl (hb hby d_9_81) rfl (tlt ((own_lt (a := nl) (b := j + 3) (by omega) (by omega)).mpr (by omega))).2.2.1 (by decide) (by decide) k) ?_
          refine own_go (fun t k => XS.iload X191.here hx rfl (hb hby d_9_95) rfl k) ?_
          refine own_go (fun t k => XS.iconst X191.here hx rfl (hb hby d_9_97) k) ?_
          refine own_go (fun t k => XS.iadd X191.here hx rfl (hb hby d_9_98) rfl k) ?_
          show own_Go _ _ _ _ (T191.setTop (mkF m 99 #[.val (.ref up), .val (.int (Int32.ofNat pl)), .val (.ref un), .val (.int (Int32.ofNat nl)), .val (.int (Int32.ofNat j)), .val (.int c3_)] [(.int ((Int32.ofNat j) + (4 : Int32)))]))
          rw [show (Int32.ofNat j) + (4 : Int32) = Int32.ofNat (j + 4) from own_add j 4]
          show own_Go _ _ _ _ (T191.setTop (mkF m 99 #[.val (.ref up), .val (.int (Int32.ofNat pl)), .val (.ref un), .val (.int (Int32.ofNat nl)), .val (.int (Int32.ofNat j)), .val (.int c3_)] [(.int (Int32.ofNat (j + 4)))]))
          refine own_go (fun t k => XS.iloadN X191.here hx rfl (hb hby d_9_99) rfl k) ?_
          show own_Go _ _ _ _ (T191.setTop (mkF m 100 #[.val (.ref up), .val (.int (Int32.ofNat pl)), .val (.ref un), .val (.int (Int32.ofNat nl)), .val (.int (Int32.ofNat j)), .val (.int c3_)] [(.int (Int32.ofNat nl)), (.int (Int32.ofNat (j + 4)))]))
          refine own_go (fun t k => XS.icmpYes X191.here hx rfl (pc0 := 100) (pc' := 118) rfl (hb hby d_9_100) rfl (tlt ((own_lt (a := nl) (b := j + 4) (by omega) (by omega)).mpr (by omega))).2.2.1 (by decide) (by decide) k) ?_
          refine own_go (fun t k => XS.iconst X191.here hx rfl (hb hby d_9_118) k) ?_
          have no_ : ¬ ∃ i, j ≤ i ∧ i ≤ nl ∧ own_g (own_at [c0_, c1_, c2_, c3_]) (own_at [d0_, d1_, d2_, d3_]) pl nl 4 i := by
            intro q
            obtain ⟨i, i1, i2, i3⟩ := q
            rcases (by omega : i = j + 0) with rfl
            · exact t191 i3
          show own_Go _ _ _ _ (T191.setTop (mkF m 119 #[.val (.ref up), .val (.int (Int32.ofNat pl)), .val (.ref un), .val (.int (Int32.ofNat nl)), .val (.int (Int32.ofNat j)), .val (.int c3_)] [(.int (0 : Int32))]))
          refine own_retN X191 hx hlk (t := .boolean) hret (by simp) (hb hby d_9_119) ?_ (by decide) (by decide)
          rw [e191]
          exact ⟨0, rfl, N191, Or.inr ⟨rfl, fun q => no_ (((own_gstar hlt e3)).mp q)⟩, rfl⟩
    · show own_Go _ _ _ _ (s₁.setTop (mkF m 26 #[.val (.ref up), .val (.int (Int32.ofNat pl)), .val (.ref un), .val (.int (Int32.ofNat nl)), .val (.int (Int32.ofNat j)), .val (.int c3_)] [(.int (42 : Int32)), (.int c3_)]))
      refine own_go (fun t k => XS.icmpYes X0.here hx rfl (pc0 := 26) (pc' := 120) rfl (hb hby d_9_26) rfl (feq (e3 : ¬ (c3_ = (42 : Int32)))).2 (by decide) (by decide) k) ?_
      refine own_go (fun t k => XS.iload X0.here hx rfl (hb hby d_9_120) rfl k) ?_
      refine own_go (fun t k => XS.iloadN X0.here hx rfl (hb hby d_9_122) rfl k) ?_
      by_cases g0 : j < nl
      · show own_Go _ _ _ _ (s₁.setTop (mkF m 123 #[.val (.ref up), .val (.int (Int32.ofNat pl)), .val (.ref un), .val (.int (Int32.ofNat nl)), .val (.int (Int32.ofNat j)), .val (.int c3_)] [(.int (Int32.ofNat nl)), (.int (Int32.ofNat j))]))
        refine own_go (fun t k => XS.icmpNo X0.here hx rfl (hb hby d_9_123) rfl (tlt (((own_lt (by omega) (by omega)).mpr g0) : (Int32.ofNat j) < (Int32.ofNat nl))).2.1 k) ?_
        refine own_go (fun t k => XS.aloadN X0.here hx rfl (hb hby d_9_126) rfl rfl k) ?_
        refine own_go (fun t k => XS.iload X0.here hx rfl (hb hby d_9_127) rfl k) ?_
        show own_Go _ _ _ _ (s₁.setTop (mkF m 129 #[.val (.ref up), .val (.int (Int32.ofNat pl)), .val (.ref un), .val (.int (Int32.ofNat nl)), .val (.int (Int32.ofNat j)), .val (.int c3_)] [(.int (Int32.ofNat j)), (.ref un)]))
        obtain ⟨cl196, Ar196, qk196, sz196, nn196, ha196, gf196⟩ := id An
        have hin196 : ¬ ((Int32.ofNat j) < 0 ∨ cl196.slots.size ≤ ((Int32.ofNat j)).toNatClampNeg) := inb_of sz196 (own_in4 (by omega))
        have hat196 : cl196.slots[((Int32.ofNat j)).toNatClampNeg]? = some (.int (own_at [d0_, d1_, d2_, d3_] j)) := ha196.at hin196 (own_ld (by omega) _ _ _ _)
        refine own_go (X0.caload hx (j := (Int32.ofNat j)) (v := (.int (own_at [d0_, d1_, d2_, d3_] j))) (by rw [e0]; exact Ar196.1) (State.isArrayOf_alike hZ.alike Ar196.2.1) Ar196.2.2 hin196 hat196 (g := (mkF m 129 #[.val (.ref up), .val (.int (Int32.ofNat pl)), .val (.ref un), .val (.int (Int32.ofNat nl)), .val (.int (Int32.ofNat j)), .val (.int c3_)] [(.int (Int32.ofNat j)), (.ref un)])) rfl rfl (hb hby d_9_129)) ?_
        refine own_go (fun t k => XS.iload X0.here hx rfl (hb hby d_9_130) rfl k) ?_
        by_cases e5 : (own_at [d0_, d1_, d2_, d3_] j) = c3_
        · show own_Go _ _ _ _ (s₁.setTop (mkF m 132 #[.val (.ref up), .val (.int (Int32.ofNat pl)), .val (.ref un), .val (.int (Int32.ofNat nl)), .val (.int (Int32.ofNat j)), .val (.int c3_)] [(.int c3_), (.int (own_at [d0_, d1_, d2_, d3_] j))]))
          refine own_go (fun t k => XS.icmpNo X0.here hx rfl (hb hby d_9_132) rfl (teq (e5 : (own_at [d0_, d1_, d2_, d3_] j) = c3_)).2 k) ?_
          refine own_go (fun t k => XS.iloadN X0.here hx rfl (hb hby d_9_135) rfl k) ?_
          refine own_go (fun t k => XS.iload X0.here hx rfl (hb hby d_9_136) rfl k) ?_
          refine own_go (fun t k => XS.iconst X0.here hx rfl (hb hby d_9_138) k) ?_
          show own_Go _ _ _ _ (s₁.setTop (mkF m 139 #[.val (.ref up), .val (.int (Int32.ofNat pl)), .val (.ref un), .val (.int (Int32.ofNat nl)), .val (.int (Int32.ofNat j)), .val (.int c3_)] [(.int (1 : Int32)), (.int (Int32.ofNat j)), (.int (Int32.ofNat nl))]))
          refine own_go (fun t k => XS.iadd X0.here hx rfl (hb hby d_9_139) rfl k) ?_
          show own_Go _ _ _ _ (s₁.setTop (mkF m 140 #[.val (.ref up), .val (.int (Int32.ofNat pl)), .val (.ref un), .val (.int (Int32.ofNat nl)), .val (.int (Int32.ofNat j)), .val (.int c3_)] [(.int ((Int32.ofNat j) + (1 : Int32))), (.int (Int32.ofNat nl))]))
          rw [show (Int32.ofNat j) + (1 : Int32) = Int32.ofNat (j + 1) from own_add j 1]
          show own_Go _ _ _ _ (s₁.setTop (mkF m 140 #[.val (.ref up), .val (.int (Int32.ofNat pl)), .val (.ref un), .val (.int (Int32.ofNat nl)), .val (.int (Int32.ofNat j)), .val (.int c3_)] [(.int (Int32.ofNat (j + 1))), (.int (Int32.ofNat nl))]))
          obtain ⟨_, _, ⟨T197, L197, k197, n197⟩, -, X197, ⟨Lc197, hQ197, l197, y197, z197⟩, st197⟩ := Jvm.LawKit.callS X0 hx (y := (⟨"com/example/fathomsearch/fathomsearch/NamePatternMatchesPinLaw", "m4", "(II)Z"⟩ : MethodName)) hown (mvT hZ (w_93 hw)) (mvT hZ (w_94 hw)) (mvT hZ (w_3 hw)) (mvT hZ (w_95 hw)) (by decide) (backOf (W := 0) (rm_m4 l Z a0 hw [] c0_ c1_ c2_ c3_ d0_ d1_ d2_ d3_ pl nl (j + 1) h0 n0 Z0 (by omega) (by omega) (by omega)) hZ (w_95 hw) (w_3 hw) (by decide) (by decide)) (g := (mkF m 140 #[.val (.ref up), .val (.int (Int32.ofNat pl)), .val (.ref un), .val (.int (Int32.ofNat nl)), .val (.int (Int32.ofNat j)), .val (.int c3_)] [(.int (Int32.ofNat (j + 1))), (.int (Int32.ofNat nl))])) rfl (by rw [hml]; rfl) (argsL := [(.int (Int32.ofNat nl)), (.int (Int32.ofNat (j + 1)))]) (rest := []) (lenOf pd_2 rfl) rfl (by show 2 * 0 + _ ≤ _; exact Nat.le_of_eq rfl) (hb hby d_9_140) (fun _ _ => ⟨rfl, e0, (by decide : 0 + 0 ≤ _), (by decide : 0 + 0 ≤ _)⟩)
          dsimp only [Pt.U, Pt.locs, Pt.cells, Pt.slots] at X197 l197 y197 z197 st197 hQ197
          subst l197 y197 z197
          obtain ⟨iv197, rfl, N197q, hV197, e197⟩ := hQ197
          have N197 := Fr.app N0 N197q
          refine own_go st197 ?_
          rcases hV197 with ⟨rfl, t197⟩ | ⟨rfl, t197⟩
          · show own_Go _ _ _ _ (T197.setTop (mkF m 143 #[.val (.ref up), .val (.int (Int32.ofNat pl)), .val (.ref un), .val (.int (Int32.ofNat nl)), .val (.int (Int32.ofNat j)), .val (.int c3_)] [(.int (1 : Int32))]))
            refine own_go (fun t k => XS.ifNo X197.here hx rfl (hb hby d_9_143) rfl ((if0 _ _).trans (feq (by decide : ¬ ((1 : Int32) = (0 : Int32)))).1) k) ?_
            refine own_go (fun t k => XS.iconst X197.here hx rfl (hb hby d_9_146) k) ?_
            refine own_go (fun t k => XS.goto X197.here hx rfl (pc0 := 147) (pc' := 151) rfl (hb hby d_9_147) (by decide) (by decide) k) ?_
            show own_Go _ _ _ _ (T197.setTop (mkF m 151 #[.val (.ref up), .val (.int (Int32.ofNat pl)), .val (.ref un), .val (.int (Int32.ofNat nl)), .val (.int (Int32.ofNat j)), .val (.int c3_)] [(.int (1 : Int32))]))
            refine own_retN X197 hx hlk (t := .boolean) hret (by simp) (hb hby d_9_151) ?_ (by decide) (by decide)
            rw [e197]
            exact ⟨1, rfl, N197, Or.inl ⟨rfl, (own_glit hlt e3).mpr ⟨g0, e5, t197⟩⟩, rfl⟩
          · show own_Go _ _ _ _ (T197.setTop (mkF m 143 #[.val (.ref up), .val (.int (Int32.ofNat pl)), .val (.ref un), .val (.int (Int32.ofNat nl)), .val (.int (Int32.ofNat j)), .val (.int c3_)] [(.int (0 : Int32))]))
            refine own_go (fun t k => XS.ifYes X197.here hx rfl (pc0 := 143) (pc' := 150) rfl (hb hby d_9_143) rfl ((if0 _ _).trans (teq (by decide : (0 : Int32) = (0 : Int32))).1) (by decide) (by decide) k) ?_
            refine own_go (fun t k => XS.iconst X197.here hx rfl (hb hby d_9_150) k) ?_
            show own_Go _ _ _ _ (T197.setTop (mkF m 151 #[.val (.ref up), .val (.int (Int32.ofNat pl)), .val (.ref un), .val (.int (Int32.ofNat nl)), .val (.int (Int32.ofNat j)), .val (.int c3_)] [(.int (0 : Int32))]))
            refine own_retN X197 hx hlk (t := .boolean) hret (by simp) (hb hby d_9_151) ?_ (by decide) (by decide)
            rw [e197]
            exact ⟨0, rfl, N197, Or.inr ⟨rfl, fun q => t197 ((own_glit hlt e3).mp q).2.2⟩, rfl⟩
        · show own_Go _ _ _ _ (s₁.setTop (mkF m 132 #[.val (.ref up), .val (.int (Int32.ofNat pl)), .val (.ref un), .val (.int (Int32.ofNat nl)), .val (.int (Int32.ofNat j)), .val (.int c3_)] [(.int c3_), (.int (own_at [d0_, d1_, d2_, d3_] j))]))
          refine own_go (fun t k => XS.icmpYes X0.here hx rfl (pc0 := 132) (pc' := 150) rfl (hb hby d_9_132) rfl (feq (e5 : ¬ ((own_at [d0_, d1_, d2_, d3_] j) = c3_))).2 (by decide) (by decide) k) ?_
          refine own_go (fun t k => XS.iconst X0.here hx rfl (hb hby d_9_150) k) ?_
          show own_Go _ _ _ _ (s₁.setTop (mkF m 151 #[.val (.ref up), .val (.int (Int32.ofNat pl)), .val (.ref un), .val (.int (Int32.ofNat nl)), .val (.int (Int32.ofNat j)), .val (.int c3_)] [(.int (0 : Int32))]))
          refine own_retN X0 hx hlk (t := .boolean) hret (by simp) (hb hby d_9_151) ?_ (by decide) (by decide)
          rw [e0]
          exact ⟨0, rfl, N0, Or.inr ⟨rfl, fun q => e5 ((own_glit hlt e3).mp q).2.1⟩, rfl⟩
      · show own_Go _ _ _ _ (s₁.setTop (mkF m 123 #[.val (.ref up), .val (.int (Int32.ofNat pl)), .val (.ref un), .val (.int (Int32.ofNat nl)), .val (.int (Int32.ofNat j)), .val (.int c3_)] [(.int (Int32.ofNat nl)), (.int (Int32.ofNat j))]))
        refine own_go (fun t k => XS.icmpYes X0.here hx rfl (pc0 := 123) (pc' := 150) rfl (hb hby d_9_123) rfl (flt ((fun q => g0 ((own_lt (by omega) (by omega)).mp q)) : ¬ ((Int32.ofNat j) < (Int32.ofNat nl)))).2.1 (by decide) (by decide) k) ?_
        refine own_go (fun t k => XS.iconst X0.here hx rfl (hb hby d_9_150) k) ?_
        show own_Go _ _ _ _ (s₁.setTop (mkF m 151 #[.val (.ref up), .val (.int (Int32.ofNat pl)), .val (.ref un), .val (.int (Int32.ofNat nl)), .val (.int (Int32.ofNat j)), .val (.int c3_)] [(.int (0 : Int32))]))
        refine own_retN X0 hx hlk (t := .boolean) hret (by simp) (hb hby d_9_151) ?_ (by decide) (by decide)
        rw [e0]
        exact ⟨0, rfl, N0, Or.inr ⟨rfl, fun q => g0 ((own_glit hlt e3).mp q).1⟩, rfl⟩
def Q_m2 (Z : State) (up : Addr) (kp : ClassId) (un : Addr) (kn : ClassId) (c0_ : Int32) (c1_ : Int32) (c2_ : Int32) (c3_ : Int32) (d0_ : Int32) (d1_ : Int32) (d2_ : Int32) (d3_ : Int32) (pl : Nat) (nl : Nat) (j : Nat) (h0 : Heap) (n0 : Nat) (v : Option Value) (h : Heap) (L : List Loc) : Prop := ∃ iv : Int32, v = some (.int iv) ∧ Fr n0 L ∧ own_V iv (own_g (own_at [c0_, c1_, c2_, c3_]) (own_at [d0_, d1_, d2_, d3_]) pl nl 2 j) ∧ h = h0
theorem ef_m2 (m : MethodId) (up : Addr) (un : Addr) (pl : Nat) (nl : Nat) (j : Nat) : entryFrame m #[(.ref up), (.int (Int32.ofNat pl)), (.ref un), (.int (Int32.ofNat nl)), (.int (Int32.ofNat j))] 6 = mkF m 0 #[.val (.ref up), .val (.int (Int32.ofNat pl)), .val (.ref un), .val (.int (Int32.ofNat nl)), .val (.int (Int32.ofNat j)), .unset] [] := by first | (simp [entryFrame, mkF, argsToLocals, Value.category]; done) | rfl
theorem d_8_0 : decode method_8_code 0 = .ok (.iload_n 1, 1) := by decide +kernel
theorem d_8_1 : decode method_8_code 1 = .ok (.iconst 2, 1) := by decide +kernel
theorem d_8_2 : decode method_8_code 2 = .ok (.if_icmp .ne 15, 3) := by decide +kernel
theorem d_8_5 : decode method_8_code 5 = .ok (.iload 4, 2) := by decide +kernel
theorem d_8_7 : decode method_8_code 7 = .ok (.iload_n 3, 1) := by decide +kernel
theorem d_8_8 : decode method_8_code 8 = .ok (.if_icmp .ne 7, 3) := by decide +kernel
theorem d_8_11 : decode method_8_code 11 = .ok (.iconst 1, 1) := by decide +kernel
theorem d_8_12 : decode method_8_code 12 = .ok (.goto 4, 3) := by decide +kernel
theorem d_8_16 : decode method_8_code 16 = .ok (.ireturn, 1) := by decide +kernel
theorem d_8_15 : decode method_8_code 15 = .ok (.iconst 0, 1) := by decide +kernel
theorem d_8_17 : decode method_8_code 17 = .ok (.aload_n 0, 1) := by decide +kernel
theorem d_8_18 : decode method_8_code 18 = .ok (.iconst 2, 1) := by decide +kernel
theorem d_8_19 : decode method_8_code 19 = .ok (.caload, 1) := by decide +kernel
theorem d_8_20 : decode method_8_code 20 = .ok (.istore 5, 2) := by decide +kernel
theorem d_8_22 : decode method_8_code 22 = .ok (.iload 5, 2) := by decide +kernel
theorem d_8_24 : decode method_8_code 24 = .ok (.bipush 42, 2) := by decide +kernel
theorem d_8_26 : decode method_8_code 26 = .ok (.if_icmp .ne 109, 3) := by decide +kernel
theorem d_8_29 : decode method_8_code 29 = .ok (.aload_n 0, 1) := by decide +kernel
theorem d_8_30 : decode method_8_code 30 = .ok (.iload_n 1, 1) := by decide +kernel
theorem d_8_31 : decode method_8_code 31 = .ok (.aload_n 2, 1) := by decide +kernel
theorem d_8_32 : decode method_8_code 32 = .ok (.iload_n 3, 1) := by decide +kernel
theorem d_8_33 : decode method_8_code 33 = .ok (.iload 4, 2) := by decide +kernel
theorem w_90 {Z : State} {a0 : Array Value} (hw : ∀ d ∈ tables_1, d.before a0 Z = true) : (Jvm.Cond.methodLink "com/example/fathomsearch/fathomsearch/NamePatternMatchesPinLaw" (45 : Nat) ({ cls := "com/example/fathomsearch/fathomsearch/NamePatternMatchesPinLaw", name := "m3", desc := "([CI[CII)Z" } : Jvm.MethodName)).before a0 Z = true := hw _ (List.mem_of_getElem? (i := 90) rfl)
theorem w_92 {Z : State} {a0 : Array Value} (hw : ∀ d ∈ tables_1, d.before a0 Z = true) : (Jvm.Cond.code ({ cls := "com/example/fathomsearch/fathomsearch/NamePatternMatchesPinLaw", name := "m3", desc := "([CI[CII)Z" } : Jvm.MethodName) method_9_code (6 : Nat) (Option.some Jvm.ClassFile.FieldType.boolean)).before a0 Z = true := hw _ (List.mem_of_getElem? (i := 92) rfl)
theorem pd_3 : parseMethodDescriptor "([CI[CII)Z" = some ⟨[(.array .char), .int, (.array .char), .int, .int], some .boolean⟩ := by decide +kernel
theorem d_8_35 : decode method_8_code 35 = .ok (.invokestatic 45, 3) := by decide +kernel
theorem w_91 {Z : State} {a0 : Array Value} (hw : ∀ d ∈ tables_1, d.before a0 Z = true) : (Jvm.Cond.static ({ cls := "com/example/fathomsearch/fathomsearch/NamePatternMatchesPinLaw", name := "m3", desc := "([CI[CII)Z" } : Jvm.MethodName)).before a0 Z = true := hw _ (List.mem_of_getElem? (i := 91) rfl)
theorem d_8_38 : decode method_8_code 38 = .ok (.ifCond .ne 91, 3) := by decide +kernel
theorem d_8_129 : decode method_8_code 129 = .ok (.iconst 1, 1) := by decide +kernel
theorem d_8_130 : decode method_8_code 130 = .ok (.goto 4, 3) := by decide +kernel
theorem d_8_134 : decode method_8_code 134 = .ok (.ireturn, 1) := by decide +kernel
theorem d_8_41 : decode method_8_code 41 = .ok (.iload 4, 2) := by decide +kernel
theorem d_8_43 : decode method_8_code 43 = .ok (.iconst 1, 1) := by decide +kernel
theorem d_8_44 : decode method_8_code 44 = .ok (.iadd, 1) := by decide +kernel
theorem d_8_45 : decode method_8_code 45 = .ok (.iload_n 3, 1) := by decide +kernel
theorem d_8_46 : decode method_8_code 46 = .ok (.if_icmp .gt 17, 3) := by decide +kernel
theorem d_8_49 : decode method_8_code 49 = .ok (.aload_n 0, 1) := by decide +kernel
theorem d_8_50 : decode method_8_code 50 = .ok (.iload_n 1, 1) := by decide +kernel
theorem d_8_51 : decode method_8_code 51 = .ok (.aload_n 2, 1) := by decide +kernel
theorem d_8_52 : decode method_8_code 52 = .ok (.iload_n 3, 1) := by decide +kernel
theorem d_8_53 : decode method_8_code 53 = .ok (.iload 4, 2) := by decide +kernel
theorem d_8_55 : decode method_8_code 55 = .ok (.iconst 1, 1) := by decide +kernel
theorem d_8_56 : decode method_8_code 56 = .ok (.iadd, 1) := by decide +kernel
theorem d_8_57 : decode method_8_code 57 = .ok (.invokestatic 45, 3) := by decide +kernel
theorem d_8_60 : decode method_8_code 60 = .ok (.ifCond .ne 69, 3) := by decide +kernel
theorem d_8_63 : decode method_8_code 63 = .ok (.iload 4, 2) := by decide +kernel
theorem d_8_65 : decode method_8_code 65 = .ok (.iconst 2, 1) := by decide +kernel
theorem d_8_66 : decode method_8_code 66 = .ok (.iadd, 1) := by decide +kernel
theorem d_8_67 : decode method_8_code 67 = .ok (.iload_n 3, 1) := by decide +kernel
theorem d_8_68 : decode method_8_code 68 = .ok (.if_icmp .gt 17, 3) := by decide +kernel
theorem d_8_71 : decode method_8_code 71 = .ok (.aload_n 0, 1) := by decide +kernel
theorem d_8_72 : decode method_8_code 72 = .ok (.iload_n 1, 1) := by decide +kernel
theorem d_8_73 : decode method_8_code 73 = .ok (.aload_n 2, 1) := by decide +kernel
theorem d_8_74 : decode method_8_code 74 = .ok (.iload_n 3, 1) := by decide +kernel
theorem d_8_75 : decode method_8_code 75 = .ok (.iload 4, 2) := by decide +kernel
theorem d_8_77 : decode method_8_code 77 = .ok (.iconst 2, 1) := by decide +kernel
theorem d_8_78 : decode method_8_code 78 = .ok (.iadd, 1) := by decide +kernel
theorem d_8_79 : decode method_8_code 79 = .ok (.invokestatic 45, 3) := by decide +kernel
theorem d_8_82 : decode method_8_code 82 = .ok (.ifCond .ne 47, 3) := by decide +kernel
theorem d_8_85 : decode method_8_code 85 = .ok (.iload 4, 2) := by decide +kernel
theorem d_8_87 : decode method_8_code 87 = .ok (.iconst 3, 1) := by decide +kernel
theorem d_8_88 : decode method_8_code 88 = .ok (.iadd, 1) := by decide +kernel
theorem d_8_89 : decode method_8_code 89 = .ok (.iload_n 3, 1) := by decide +kernel
theorem d_8_90 : decode method_8_code 90 = .ok (.if_icmp .gt 17, 3) := by decide +kernel
theorem d_8_93 : decode method_8_code 93 = .ok (.aload_n 0, 1) := by decide +kernel
theorem d_8_94 : decode method_8_code 94 = .ok (.iload_n 1, 1) := by decide +kernel
theorem d_8_95 : decode method_8_code 95 = .ok (.aload_n 2, 1) := by decide +kernel
theorem d_8_96 : decode method_8_code 96 = .ok (.iload_n 3, 1) := by decide +kernel
theorem d_8_97 : decode method_8_code 97 = .ok (.iload 4, 2) := by decide +kernel
theorem d_8_99 : decode method_8_code 99 = .ok (.iconst 3, 1) := by decide +kernel
theorem d_8_100 : decode method_8_code 100 = .ok (.iadd, 1) := by decide +kernel
theorem d_8_101 : decode method_8_code 101 = .ok (.invokestatic 45, 3) := by decide +kernel
theorem d_8_104 : decode method_8_code 104 = .ok (.ifCond .ne 25, 3) := by decide +kernel
theorem d_8_107 : decode method_8_code 107 = .ok (.iload 4, 2) := by decide +kernel
theorem d_8_109 : decode method_8_code 109 = .ok (.iconst 4, 1) := by decide +kernel
theorem d_8_110 : decode method_8_code 110 = .ok (.iadd, 1) := by decide +kernel
theorem d_8_111 : decode method_8_code 111 = .ok (.iload_n 3, 1) := by decide +kernel
theorem d_8_112 : decode method_8_code 112 = .ok (.if_icmp .gt 21, 3) := by decide +kernel
theorem d_8_115 : decode method_8_code 115 = .ok (.aload_n 0, 1) := by decide +kernel
theorem d_8_116 : decode method_8_code 116 = .ok (.iload_n 1, 1) := by decide +kernel
theorem d_8_117 : decode method_8_code 117 = .ok (.aload_n 2, 1) := by decide +kernel
theorem d_8_118 : decode method_8_code 118 = .ok (.iload_n 3, 1) := by decide +kernel
theorem d_8_119 : decode method_8_code 119 = .ok (.iload 4, 2) := by decide +kernel
theorem d_8_121 : decode method_8_code 121 = .ok (.iconst 4, 1) := by decide +kernel
theorem d_8_122 : decode method_8_code 122 = .ok (.iadd, 1) := by decide +kernel
theorem d_8_123 : decode method_8_code 123 = .ok (.invokestatic 45, 3) := by decide +kernel
theorem d_8_126 : decode method_8_code 126 = .ok (.ifCond .eq 7, 3) := by decide +kernel
theorem d_8_133 : decode method_8_code 133 = .ok (.iconst 0, 1) := by decide +kernel
theorem d_8_135 : decode method_8_code 135 = .ok (.iload 4, 2) := by decide +kernel
theorem d_8_137 : decode method_8_code 137 = .ok (.iload_n 3, 1) := by decide +kernel
theorem d_8_138 : decode method_8_code 138 = .ok (.if_icmp .ge 30, 3) := by decide +kernel
theorem d_8_141 : decode method_8_code 141 = .ok (.aload_n 2, 1) := by decide +kernel
theorem d_8_142 : decode method_8_code 142 = .ok (.iload 4, 2) := by decide +kernel
theorem d_8_144 : decode method_8_code 144 = .ok (.caload, 1) := by decide +kernel
theorem d_8_145 : decode method_8_code 145 = .ok (.iload 5, 2) := by decide +kernel
theorem d_8_147 : decode method_8_code 147 = .ok (.if_icmp .ne 21, 3) := by decide +kernel
theorem d_8_150 : decode method_8_code 150 = .ok (.aload_n 0, 1) := by decide +kernel
theorem d_8_151 : decode method_8_code 151 = .ok (.iload_n 1, 1) := by decide +kernel
theorem d_8_152 : decode method_8_code 152 = .ok (.aload_n 2, 1) := by decide +kernel
theorem d_8_153 : decode method_8_code 153 = .ok (.iload_n 3, 1) := by decide +kernel
theorem d_8_154 : decode method_8_code 154 = .ok (.iload 4, 2) := by decide +kernel
theorem d_8_156 : decode method_8_code 156 = .ok (.iconst 1, 1) := by decide +kernel
theorem d_8_157 : decode method_8_code 157 = .ok (.iadd, 1) := by decide +kernel
theorem d_8_158 : decode method_8_code 158 = .ok (.invokestatic 45, 3) := by decide +kernel
theorem d_8_161 : decode method_8_code 161 = .ok (.ifCond .eq 7, 3) := by decide +kernel
theorem d_8_164 : decode method_8_code 164 = .ok (.iconst 1, 1) := by decide +kernel
theorem d_8_165 : decode method_8_code 165 = .ok (.goto 4, 3) := by decide +kernel
theorem d_8_169 : decode method_8_code 169 = .ok (.ireturn, 1) := by decide +kernel
theorem d_8_168 : decode method_8_code 168 = .ok (.iconst 0, 1) := by decide +kernel
set_option maxRecDepth 65536 in
set_option maxHeartbeats 40000000 in
theorem rm_m2 (l : Launch) (Z : State) (a0 : Array Value) (hw : ∀ d ∈ tables_1, d.before a0 Z = true) (ws : List Jvm.Cond) (up : Addr) (kp : ClassId) (un : Addr) (kn : ClassId) (c0_ c1_ c2_ c3_ d0_ d1_ d2_ d3_ : Int32) (pl nl j : Nat) (h0 : Heap) (n0 : Nat) (Z0 : n0 ≤ h0.size) (hk : 2 ≤ pl) (h4 : pl ≤ 4) (hj : j ≤ nl) (hn : nl ≤ 4) (Ap : Arv Z h0 up kp .char (4 : Int32) [(.int c0_), (.int c1_), (.int c2_), (.int c3_)] (.int (0 : Int32))) (An : Arv Z h0 un kn .char (4 : Int32) [(.int d0_), (.int d1_), (.int d2_), (.int d3_)] (.int (0 : Int32))) :
    own_Met l Z (⟨"com/example/fathomsearch/fathomsearch/NamePatternMatchesPinLaw", "m2", "([CI[CII)Z"⟩ : MethodName) method_8_code 6 (some .boolean) ws ({ frames := 2, cells := 0, slots := 0, locals := 30 } : Room) #[(.ref up), (.int (Int32.ofNat pl)), (.ref un), (.int (Int32.ofNat nl)), (.int (Int32.ofNat j))] h0 (Q_m2 Z up kp un kn c0_ c1_ c2_ c3_ d0_ d1_ d2_ d3_ pl nl j h0 n0) := by
  refine own_enter (own := "com/example/fathomsearch/fathomsearch/NamePatternMatchesPinLaw") (plainFor_of_name pn_0) rfl ?_
  intro p e s m below meth c s₁ hlk hret hx hby hml hown hnm hZ X0 e0
  have N0 := Fr.nil n0
  refine own_cast (ef_m2 m up un pl nl j) ?_
  show own_Go _ _ _ _ (s₁.setTop (mkF m 0 #[.val (.ref up), .val (.int (Int32.ofNat pl)), .val (.ref un), .val (.int (Int32.ofNat nl)), .val (.int (Int32.ofNat j)), .unset] []))
  refine own_go (fun t k => XS.iloadN X0.here hx rfl (hb hby d_8_0) rfl k) ?_
  refine own_go (fun t k => XS.iconst X0.here hx rfl (hb hby d_8_1) k) ?_
  by_cases e1 : pl = 2
  · show own_Go _ _ _ _ (s₁.setTop (mkF m 2 #[.val (.ref up), .val (.int (Int32.ofNat pl)), .val (.ref un), .val (.int (Int32.ofNat nl)), .val (.int (Int32.ofNat j)), .unset] [(.int (2 : Int32)), (.int (Int32.ofNat pl))]))
    refine own_go (fun t k => XS.icmpNo X0.here hx rfl (hb hby d_8_2) rfl (teq ((own_eqn (a := pl) (b := 2) e1) : (Int32.ofNat pl) = (2 : Int32))).2 k) ?_
    refine own_go (fun t k => XS.iload X0.here hx rfl (hb hby d_8_5) rfl k) ?_
    refine own_go (fun t k => XS.iloadN X0.here hx rfl (hb hby d_8_7) rfl k) ?_
    by_cases e2 : j = nl
    · show own_Go _ _ _ _ (s₁.setTop (mkF m 8 #[.val (.ref up), .val (.int (Int32.ofNat pl)), .val (.ref un), .val (.int (Int32.ofNat nl)), .val (.int (Int32.ofNat j)), .unset] [(.int (Int32.ofNat nl)), (.int (Int32.ofNat j))]))
      refine own_go (fun t k => XS.icmpNo X0.here hx rfl (hb hby d_8_8) rfl (teq ((own_eqn (a := j) (b := nl) e2) : (Int32.ofNat j) = (Int32.ofNat nl))).2 k) ?_
      refine own_go (fun t k => XS.iconst X0.here hx rfl (hb hby d_8_11) k) ?_
      refine own_go (fun t k => XS.goto X0.here hx rfl (pc0 := 12) (pc' := 16) rfl (hb hby d_8_12) (by decide) (by decide) k) ?_
      show own_Go _ _ _ _ (s₁.setTop (mkF m 16 #[.val (.ref up), .val (.int (Int32.ofNat pl)), .val (.ref un), .val (.int (Int32.ofNat nl)), .val (.int (Int32.ofNat j)), .unset] [(.int (1 : Int32))]))
      refine own_retN X0 hx hlk (t := .boolean) hret (by simp) (hb hby d_8_16) ?_ (by decide) (by decide)
      rw [e0]
      exact ⟨1, rfl, N0, Or.inl ⟨rfl, (own_gend e1).mpr e2⟩, rfl⟩
    · show own_Go _ _ _ _ (s₁.setTop (mkF m 8 #[.val (.ref up), .val (.int (Int32.ofNat pl)), .val (.ref un), .val (.int (Int32.ofNat nl)), .val (.int (Int32.ofNat j)), .unset] [(.int (Int32.ofNat nl)), (.int (Int32.ofNat j))]))
      refine own_go (fun t k => XS.icmpYes X0.here hx rfl (pc0 := 8) (pc' := 15) rfl (hb hby d_8_8) rfl (feq ((fun q => e2 (own_inj (a := j) (b := nl) (by omega) (by omega) q)) : ¬ ((Int32.ofNat j) = (Int32.ofNat nl)))).2 (by decide) (by decide) k) ?_
      refine own_go (fun t k => XS.iconst X0.here hx rfl (hb hby d_8_15) k) ?_
      show own_Go _ _ _ _ (s₁.setTop (mkF m 16 #[.val (.ref up), .val (.int (Int32.ofNat pl)), .val (.ref un), .val (.int (Int32.ofNat nl)), .val (.int (Int32.ofNat j)), .unset] [(.int (0 : Int32))]))
      refine own_retN X0 hx hlk (t := .boolean) hret (by simp) (hb hby d_8_16) ?_ (by decide) (by decide)
      rw [e0]
      exact ⟨0, rfl, N0, Or.inr ⟨rfl, fun q => e2 ((own_gend e1).mp q)⟩, rfl⟩
  · have hlt : 2 < pl := by omega
    show own_Go _ _ _ _ (s₁.setTop (mkF m 2 #[.val (.ref up), .val (.int (Int32.ofNat pl)), .val (.ref un), .val (.int (Int32.ofNat nl)), .val (.int (Int32.ofNat j)), .unset] [(.int (2 : Int32)), (.int (Int32.ofNat pl))]))
    refine own_go (fun t k => XS.icmpYes X0.here hx rfl (pc0 := 2) (pc' := 17) rfl (hb hby d_8_2) rfl (feq ((fun q => e1 (own_inj (a := pl) (b := 2) (by omega) (by omega) q)) : ¬ ((Int32.ofNat pl) = (2 : Int32)))).2 (by decide) (by decide) k) ?_
    refine own_go (fun t k => XS.aloadN X0.here hx rfl (hb hby d_8_17) rfl rfl k) ?_
    refine own_go (fun t k => XS.iconst X0.here hx rfl (hb hby d_8_18) k) ?_
    show own_Go _ _ _ _ (s₁.setTop (mkF m 19 #[.val (.ref up), .val (.int (Int32.ofNat pl)), .val (.ref un), .val (.int (Int32.ofNat nl)), .val (.int (Int32.ofNat j)), .unset] [(.int (2 : Int32)), (.ref up)]))
    obtain ⟨cl198, Ar198, qk198, sz198, nn198, ha198, gf198⟩ := id Ap
    have hin198 : ¬ ((2 : Int32) < 0 ∨ cl198.slots.size ≤ ((2 : Int32)).toNatClampNeg) := inb_of sz198 ⟨by decide, by decide⟩
    have hat198 : cl198.slots[((2 : Int32)).toNatClampNeg]? = some (.int c2_) := ha198.at hin198 rfl
    refine own_go (X0.caload hx (j := (2 : Int32)) (v := (.int c2_)) (by rw [e0]; exact Ar198.1) (State.isArrayOf_alike hZ.alike Ar198.2.1) Ar198.2.2 hin198 hat198 (g := (mkF m 19 #[.val (.ref up), .val (.int (Int32.ofNat pl)), .val (.ref un), .val (.int (Int32.ofNat nl)), .val (.int (Int32.ofNat j)), .unset] [(.int (2 : Int32)), (.ref up)])) rfl rfl (hb hby d_8_19)) ?_
    refine own_go (fun t k => XS.istore X0.here hx rfl (hb hby d_8_20) rfl (l' := #[.val (.ref up), .val (.int (Int32.ofNat pl)), .val (.ref un), .val (.int (Int32.ofNat nl)), .val (.int (Int32.ofNat j)), .val (.int c2_)]) rfl k) ?_
    refine own_go (fun t k => XS.iload X0.here hx rfl (hb hby d_8_22) rfl k) ?_
    refine own_go (fun t k => XS.bipush X0.here hx rfl (hb hby d_8_24) k) ?_
    by_cases e3 : c2_ = 42
    · show own_Go _ _ _ _ (s₁.setTop (mkF m 26 #[.val (.ref up), .val (.int (Int32.ofNat pl)), .val (.ref un), .val (.int (Int32.ofNat nl)), .val (.int (Int32.ofNat j)), .val (.int c2_)] [(.int (42 : Int32)), (.int c2_)]))
      refine own_go (fun t k => XS.icmpNo X0.here hx rfl (hb hby d_8_26) rfl (teq (e3 : c2_ = (42 : Int32))).2 k) ?_
      refine own_go (fun t k => XS.aloadN X0.here hx rfl (hb hby d_8_29) rfl rfl k) ?_
      refine own_go (fun t k => XS.iloadN X0.here hx rfl (hb hby d_8_30) rfl k) ?_
      refine own_go (fun t k => XS.aloadN X0.here hx rfl (hb hby d_8_31) rfl rfl k) ?_
      show own_Go _ _ _ _ (s₁.setTop (mkF m 32 #[.val (.ref up), .val (.int (Int32.ofNat pl)), .val (.ref un), .val (.int (Int32.ofNat nl)), .val (.int (Int32.ofNat j)), .val (.int c2_)] [(.ref un), (.int (Int32.ofNat pl)), (.ref up)]))
      refine own_go (fun t k => XS.iloadN X0.here hx rfl (hb hby d_8_32) rfl k) ?_
      refine own_go (fun t k => XS.iload X0.here hx rfl (hb hby d_8_33) rfl k) ?_
      obtain ⟨_, _, ⟨T199, L199, k199, n199⟩, -, X199, ⟨Lc199, hQ199, l199, y199, z199⟩, st199⟩ := Jvm.LawKit.callS X0 hx (y := (⟨"com/example/fathomsearch/fathomsearch/NamePatternMatchesPinLaw", "m3", "([CI[CII)Z"⟩ : MethodName)) hown (mvT hZ (w_90 hw)) (mvT hZ (w_91 hw)) (mvT hZ (w_3 hw)) (mvT hZ (w_92 hw)) (by decide) (backOf (W := 0) (rm_m3 l Z a0 hw [] up kp un kn c0_ c1_ c2_ c3_ d0_ d1_ d2_ d3_ pl nl j h0 n0 Z0 (by omega) (by omega) (by omega) (by omega) Ap An) hZ (w_92 hw) (w_3 hw) (by decide) (by decide)) (g := (mkF m 35 #[.val (.ref up), .val (.int (Int32.ofNat pl)), .val (.ref un), .val (.int (Int32.ofNat nl)), .val (.int (Int32.ofNat j)), .val (.int c2_)] [(.int (Int32.ofNat j)), (.int (Int32.ofNat nl)), (.ref un), (.int (Int32.ofNat pl)), (.ref up)])) rfl (by rw [hml]; rfl) (argsL := [(.ref up), (.int (Int32.ofNat pl)), (.ref un), (.int (Int32.ofNat nl)), (.int (Int32.ofNat j))]) (rest := []) (lenOf pd_3 rfl) rfl (by show 2 * 0 + _ ≤ _; exact Nat.le_of_eq rfl) (hb hby d_8_35) (fun _ _ => ⟨rfl, e0, (by decide : 0 + 0 ≤ _), (by decide : 0 + 0 ≤ _)⟩)
      dsimp only [Pt.U, Pt.locs, Pt.cells, Pt.slots] at X199 l199 y199 z199 st199 hQ199
      subst l199 y199 z199
      obtain ⟨iv199, rfl, N199q, hV199, e199⟩ := hQ199
      have N199 := Fr.app N0 N199q
      refine own_go st199 ?_
      rcases hV199 with ⟨rfl, t199⟩ | ⟨rfl, t199⟩
      · show own_Go _ _ _ _ (T199.setTop (mkF m 38 #[.val (.ref up), .val (.int (Int32.ofNat pl)), .val (.ref un), .val (.int (Int32.ofNat nl)), .val (.int (Int32.ofNat j)), .val (.int c2_)] [(.int (1 : Int32))]))
        refine own_go (fun t k => XS.ifYes X199.here hx rfl (pc0 := 38) (pc' := 129) rfl (hb hby d_8_38) rfl ((if0 _ _).trans (feq (by decide : ¬ ((1 : Int32) = (0 : Int32)))).2) (by decide) (by decide) k) ?_
        refine own_go (fun t k => XS.iconst X199.here hx rfl (hb hby d_8_129) k) ?_
        refine own_go (fun t k => XS.goto X199.here hx rfl (pc0 := 130) (pc' := 134) rfl (hb hby d_8_130) (by decide) (by decide) k) ?_
        show own_Go _ _ _ _ (T199.setTop (mkF m 134 #[.val (.ref up), .val (.int (Int32.ofNat pl)), .val (.ref un), .val (.int (Int32.ofNat nl)), .val (.int (Int32.ofNat j)), .val (.int c2_)] [(.int (1 : Int32))]))
        refine own_retN X199 hx hlk (t := .boolean) hret (by simp) (hb hby d_8_134) ?_ (by decide) (by decide)
        rw [e199]
        exact ⟨1, rfl, N199, Or.inl ⟨rfl, (own_gstar hlt e3).mpr ⟨j + 0, (by omega), (by omega), t199⟩⟩, rfl⟩
      · show own_Go _ _ _ _ (T199.setTop (mkF m 38 #[.val (.ref up), .val (.int (Int32.ofNat pl)), .val (.ref un), .val (.int (Int32.ofNat nl)), .val (.int (Int32.ofNat j)), .val (.int c2_)] [(.int (0 : Int32))]))
        refine own_go (fun t k => XS.ifNo X199.here hx rfl (hb hby d_8_38) rfl ((if0 _ _).trans (teq (by decide : (0 : Int32) = (0 : Int32))).2) k) ?_
        refine own_go (fun t k => XS.iload X199.here hx rfl (hb hby d_8_41) rfl k) ?_
        refine own_go (fun t k => XS.iconst X199.here hx rfl (hb hby d_8_43) k) ?_
        refine own_go (fun t k => XS.iadd X199.here hx rfl (hb hby d_8_44) rfl k) ?_
        show own_Go _ _ _ _ (T199.setTop (mkF m 45 #[.val (.ref up), .val (.int (Int32.ofNat pl)), .val (.ref un), .val (.int (Int32.ofNat nl)), .val (.int (Int32.ofNat j)), .val (.int c2_)] [(.int ((Int32.ofNat j) + (1 : Int32)))]))
        rw [show (Int32.ofNat j) + (1 : Int32) = Int32.ofNat (j + 1) from own_add j 1]
        show own_Go _ _ _ _ (T199.setTop (mkF m 45 #[.val (.ref up), .val (.int (Int32.ofNat pl)), .val (.ref un), .val (.int (Int32.ofNat nl)), .val (.int (Int32.ofNat j)), .val (.int c2_)] [(.int (Int32.ofNat (j + 1)))]))
        refine own_go (fun t k => XS.iloadN X199.here hx rfl (hb hby d_8_45) rfl k) ?_
        by_cases g1 : j + 1 ≤ nl
        · show own_Go _ _ _ _ (T199.setTop (mkF m 46 #[.val (.ref up), .val (.int (Int32.ofNat pl)), .val (.ref un), .val (.int (Int32.ofNat nl)), .val (.int (Int32.ofNat j)), .val (.int c2_)] [(.int (Int32.ofNat nl)), (.int (Int32.ofNat (j + 1)))]))
          refine own_go (fun t k => XS.icmpNo X199.here hx rfl (hb hby d_8_46) rfl (flt ((fun q => absurd ((own_lt (a := nl) (b := j + 1) (by omega) (by omega)).mp q) (by omega)) : ¬ ((Int32.ofNat nl) < (Int32.ofNat (j + 1))))).2.2.1 k) ?_
          refine own_go (fun t k => XS.aloadN X199.here hx rfl (hb hby d_8_49) rfl rfl k) ?_
          refine own_go (fun t k => XS.iloadN X199.here hx rfl (hb hby d_8_50) rfl k) ?_
          refine own_go (fun t k => XS.aloadN X199.here hx rfl (hb hby d_8_51) rfl rfl k) ?_
          show own_Go _ _ _ _ (T199.setTop (mkF m 52 #[.val (.ref up), .val (.int (Int32.ofNat pl)), .val (.ref un), .val (.int (Int32.ofNat nl)), .val (.int (Int32.ofNat j)), .val (.int c2_)] [(.ref un), (.int (Int32.ofNat pl)), (.ref up)]))
          refine own_go (fun t k => XS.iloadN X199.here hx rfl (hb hby d_8_52) rfl k) ?_
          refine own_go (fun t k => XS.iload X199.here hx rfl (hb hby d_8_53) rfl k) ?_
          refine own_go (fun t k => XS.iconst X199.here hx rfl (hb hby d_8_55) k) ?_
          refine own_go (fun t k => XS.iadd X199.here hx rfl (hb hby d_8_56) rfl k) ?_
          show own_Go _ _ _ _ (T199.setTop (mkF m 57 #[.val (.ref up), .val (.int (Int32.ofNat pl)), .val (.ref un), .val (.int (Int32.ofNat nl)), .val (.int (Int32.ofNat j)), .val (.int c2_)] [(.int ((Int32.ofNat j) + (1 : Int32))), (.int (Int32.ofNat nl)), (.ref un), (.int (Int32.ofNat pl)), (.ref up)]))
          rw [show (Int32.ofNat j) + (1 : Int32) = Int32.ofNat (j + 1) from own_add j 1]
          show own_Go _ _ _ _ (T199.setTop (mkF m 57 #[.val (.ref up), .val (.int (Int32.ofNat pl)), .val (.ref un), .val (.int (Int32.ofNat nl)), .val (.int (Int32.ofNat j)), .val (.int c2_)] [(.int (Int32.ofNat (j + 1))), (.int (Int32.ofNat nl)), (.ref un), (.int (Int32.ofNat pl)), (.ref up)]))
          obtain ⟨_, _, ⟨T200, L200, k200, n200⟩, -, X200, ⟨Lc200, hQ200, l200, y200, z200⟩, st200⟩ := Jvm.LawKit.callS X199 hx (y := (⟨"com/example/fathomsearch/fathomsearch/NamePatternMatchesPinLaw", "m3", "([CI[CII)Z"⟩ : MethodName)) hown (mvT hZ (w_90 hw)) (mvT hZ (w_91 hw)) (mvT hZ (w_3 hw)) (mvT hZ (w_92 hw)) (by decide) (backOf (W := 0) (rm_m3 l Z a0 hw [] up kp un kn c0_ c1_ c2_ c3_ d0_ d1_ d2_ d3_ pl nl (j + 1) h0 n0 Z0 (by omega) (by omega) (by omega) (by omega) Ap An) hZ (w_92 hw) (w_3 hw) (by decide) (by decide)) (g := (mkF m 57 #[.val (.ref up), .val (.int (Int32.ofNat pl)), .val (.ref un), .val (.int (Int32.ofNat nl)), .val (.int (Int32.ofNat j)), .val (.int c2_)] [(.int (Int32.ofNat (j + 1))), (.int (Int32.ofNat nl)), (.ref un), (.int (Int32.ofNat pl)), (.ref up)])) rfl (by rw [hml]; rfl) (argsL := [(.ref up), (.int (Int32.ofNat pl)), (.ref un), (.int (Int32.ofNat nl)), (.int (Int32.ofNat (j + 1)))]) (rest := []) (lenOf pd_3 rfl) rfl (by show 2 * 0 + _ ≤ _; exact Nat.le_of_eq rfl) (hb hby d_8_57) (fun _ _ => ⟨rfl, e199, (by decide : 0 + 0 ≤ _), (by decide : 0 + 0 ≤ _)⟩)
          dsimp only [Pt.U, Pt.locs, Pt.cells, Pt.slots] at X200 l200 y200 z200 st200 hQ200
          subst l200 y200 z200
          obtain ⟨iv200, rfl, N200q, hV200, e200⟩ := hQ200
          have N200 := Fr.app N199 N200q
          refine own_go st200 ?_
          rcases hV200 with ⟨rfl, t200⟩ | ⟨rfl, t200⟩
          · show own_Go _ _ _ _ (T200.setTop (mkF m 60 #[.val (.ref up), .val (.int (Int32.ofNat pl)), .val (.ref un), .val (.int (Int32.ofNat nl)), .val (.int (Int32.ofNat j)), .val (.int c2_)] [(.int (1 : Int32))]))
            refine own_go (fun t k => XS.ifYes X200.here hx rfl (pc0 := 60) (pc' := 129) rfl (hb hby d_8_60) rfl ((if0 _ _).trans (feq (by decide : ¬ ((1 : Int32) = (0 : Int32)))).2) (by decide) (by decide) k) ?_
            refine own_go (fun t k => XS.iconst X200.here hx rfl (hb hby d_8_129) k) ?_
            refine own_go (fun t k => XS.goto X200.here hx rfl (pc0 := 130) (pc' := 134) rfl (hb hby d_8_130) (by decide) (by decide) k) ?_
            show own_Go _ _ _ _ (T200.setTop (mkF m 134 #[.val (.ref up), .val (.int (Int32.ofNat pl)), .val (.ref un), .val (.int (Int32.ofNat nl)), .val (.int (Int32.ofNat j)), .val (.int c2_)] [(.int (1 : Int32))]))
            refine own_retN X200 hx hlk (t := .boolean) hret (by simp) (hb hby d_8_134) ?_ (by decide) (by decide)
            rw [e200]
            exact ⟨1, rfl, N200, Or.inl ⟨rfl, (own_gstar hlt e3).mpr ⟨j + 1, (by omega), (by omega), t200⟩⟩, rfl⟩
          · show own_Go _ _ _ _ (T200.setTop (mkF m 60 #[.val (.ref up), .val (.int (Int32.ofNat pl)), .val (.ref un), .val (.int (Int32.ofNat nl)), .val (.int (Int32.ofNat j)), .val (.int c2_)] [(.int (0 : Int32))]))
            refine own_go (fun t k => XS.ifNo X200.here hx rfl (hb hby d_8_60) rfl ((if0 _ _).trans (teq (by decide : (0 : Int32) = (0 : Int32))).2) k) ?_
            refine own_go (fun t k => XS.iload X200.here hx rfl (hb hby d_8_63) rfl k) ?_
            refine own_go (fun t k => XS.iconst X200.here hx rfl (hb hby d_8_65) k) ?_
            refine own_go (fun t k => XS.iadd X200.here hx rfl (hb hby d_8_66) rfl k) ?_
            show own_Go _ _ _ _ (T200.setTop (mkF m 67 #[.val (.ref up), .val (.int (Int32.ofNat pl)), .val (.ref un), .val (.int (Int32.ofNat nl)), .val (.int (Int32.ofNat j)), .val (.int c2_)] [(.int ((Int32.ofNat j) + (2 : Int32)))]))
            rw [show (Int32.ofNat j) + (2 : Int32) = Int32.ofNat (j + 2) from own_add j 2]
            show own_Go _ _ _ _ (T200.setTop (mkF m 67 #[.val (.ref up), .val (.int (Int32.ofNat pl)), .val (.ref un), .val (.int (Int32.ofNat nl)), .val (.int (Int32.ofNat j)), .val (.int c2_)] [(.int (Int32.ofNat (j + 2)))]))
            refine own_go (fun t k => XS.iloadN X200.here hx rfl (hb hby d_8_67) rfl k) ?_
            by_cases g2 : j + 2 ≤ nl
            · show own_Go _ _ _ _ (T200.setTop (mkF m 68 #[.val (.ref up), .val (.int (Int32.ofNat pl)), .val (.ref un), .val (.int (Int32.ofNat nl)), .val (.int (Int32.ofNat j)), .val (.int c2_)] [(.int (Int32.ofNat nl)), (.int (Int32.ofNat (j + 2)))]))
              refine own_go (fun t k => XS.icmpNo X200.here hx rfl (hb hby d_8_68) rfl (flt ((fun q => absurd ((own_lt (a := nl) (b := j + 2) (by omega) (by omega)).mp q) (by omega)) : ¬ ((Int32.ofNat nl) < (Int32.ofNat (j + 2))))).2.2.1 k) ?_
              refine own_go (fun t k => XS.aloadN X200.here hx rfl (hb hby d_8_71) rfl rfl k) ?_
              refine own_go (fun t k => XS.iloadN X200.here hx rfl (hb hby d_8_72) rfl k) ?_
              refine own_go (fun t k => XS.aloadN X200.here hx rfl (hb hby d_8_73) rfl rfl k) ?_
              show own_Go _ _ _ _ (T200.setTop (mkF m 74 #[.val (.ref up), .val (.int (Int32.ofNat pl)), .val (.ref un), .val (.int (Int32.ofNat nl)), .val (.int (Int32.ofNat j)), .val (.int c2_)] [(.ref un), (.int (Int32.ofNat pl)), (.ref up)]))
              refine own_go (fun t k => XS.iloadN X200.here hx rfl (hb hby d_8_74) rfl k) ?_
              refine own_go (fun t k => XS.iload X200.here hx rfl (hb hby d_8_75) rfl k) ?_
              refine own_go (fun t k => XS.iconst X200.here hx rfl (hb hby d_8_77) k) ?_
              refine own_go (fun t k => XS.iadd X200.here hx rfl (hb hby d_8_78) rfl k) ?_
              show own_Go _ _ _ _ (T200.setTop (mkF m 79 #[.val (.ref up), .val (.int (Int32.ofNat pl)), .val (.ref un), .val (.int (Int32.ofNat nl)), .val (.int (Int32.ofNat j)), .val (.int c2_)] [(.int ((Int32.ofNat j) + (2 : Int32))), (.int (Int32.ofNat nl)), (.ref un), (.int (Int32.ofNat pl)), (.ref up)]))
              rw [show (Int32.ofNat j) + (2 : Int32) = Int32.ofNat (j + 2) from own_add j 2]
              show own_Go _ _ _ _ (T200.setTop (mkF m 79 #[.val (.ref up), .val (.int (Int32.ofNat pl)), .val (.ref un), .val (.int (Int32.ofNat nl)), .val (.int (Int32.ofNat j)), .val (.int c2_)] [(.int (Int32.ofNat (j + 2))), (.int (Int32.ofNat nl)), (.ref un), (.int (Int32.ofNat pl)), (.ref up)]))
              obtain ⟨_, _, ⟨T201, L201, k201, n201⟩, -, X201, ⟨Lc201, hQ201, l201, y201, z201⟩, st201⟩ := Jvm.LawKit.callS X200 hx (y := (⟨"com/example/fathomsearch/fathomsearch/NamePatternMatchesPinLaw", "m3", "([CI[CII)Z"⟩ : MethodName)) hown (mvT hZ (w_90 hw)) (mvT hZ (w_91 hw)) (mvT hZ (w_3 hw)) (mvT hZ (w_92 hw)) (by decide) (backOf (W := 0) (rm_m3 l Z a0 hw [] up kp un kn c0_ c1_ c2_ c3_ d0_ d1_ d2_ d3_ pl nl (j + 2) h0 n0 Z0 (by omega) (by omega) (by omega) (by omega) Ap An) hZ (w_92 hw) (w_3 hw) (by decide) (by decide)) (g := (mkF m 79 #[.val (.ref up), .val (.int (Int32.ofNat pl)), .val (.ref un), .val (.int (Int32.ofNat nl)), .val (.int (Int32.ofNat j)), .val (.int c2_)] [(.int (Int32.ofNat (j + 2))), (.int (Int32.ofNat nl)), (.ref un), (.int (Int32.ofNat pl)), (.ref up)])) rfl (by rw [hml]; rfl) (argsL := [(.ref up), (.int (Int32.ofNat pl)), (.ref un), (.int (Int32.ofNat nl)), (.int (Int32.ofNat (j + 2)))]) (rest := []) (lenOf pd_3 rfl) rfl (by show 2 * 0 + _ ≤ _; exact Nat.le_of_eq rfl) (hb hby d_8_79) (fun _ _ => ⟨rfl, e200, (by decide : 0 + 0 ≤ _), (by decide : 0 + 0 ≤ _)⟩)
              dsimp only [Pt.U, Pt.locs, Pt.cells, Pt.slots] at X201 l201 y201 z201 st201 hQ201
              subst l201 y201 z201
              obtain ⟨iv201, rfl, N201q, hV201, e201⟩ := hQ201
              have N201 := Fr.app N200 N201q
              refine own_go st201 ?_
              rcases hV201 with ⟨rfl, t201⟩ | ⟨rfl, t201⟩
              · show own_Go _ _ _ _ (T201.setTop (mkF m 82 #[.val (.ref up), .val (.int (Int32.ofNat pl)), .val (.ref un), .val (.int (Int32.ofNat nl)), .val (.int (Int32.ofNat j)), .val (.int c2_)] [(.int (1 : Int32))]))
                refine own_go (fun t k => XS.ifYes X201.here hx rfl (pc0 := 82) (pc' := 129) rfl (hb hby d_8_82) rfl ((if0 _ _).trans (feq (by decide : ¬ ((1 : Int32) = (0 : Int32)))).2) (by decide) (by decide) k) ?_
                refine own_go (fun t k => XS.iconst X201.here hx rfl (hb hby d_8_129) k) ?_
                refine own_go (fun t k => XS.goto X201.here hx rfl (pc0 := 130) (pc' := 134) rfl (hb hby d_8_130) (by decide) (by decide) k) ?_
                show own_Go _ _ _ _ (T201.setTop (mkF m 134 #[.val (.ref up), .val (.int (Int32.ofNat pl)), .val (.ref un), .val (.int (Int32.ofNat nl)), .val (.int (Int32.ofNat j)), .val (.int c2_)] [(.int (1 : Int32))]))
                refine own_retN X201 hx hlk (t := .boolean) hret (by simp) (hb hby d_8_134) ?_ (by decide) (by decide)
                rw [e201]
                exact ⟨1, rfl, N201, Or.inl ⟨rfl, (own_gstar hlt e3).mpr ⟨j + 2, (by omega), (by omega), t201⟩⟩, rfl⟩
              · show own_Go _ _ _ _ (T201.setTop (mkF m 82 #[.val (.ref up), .val (.int (Int32.ofNat pl)), .val (.ref un), .val (.int (Int32.ofNat nl)), .val (.int (Int32.ofNat j)), .val (.int c2_)] [(.int (0 : Int32))]))
                refine own_go (fun t k => XS.ifNo X201.here hx rfl (hb hby d_8_82) rfl ((if0 _ _).trans (teq (by decide : (0 : Int32) = (0 : Int32))).2) k) ?_
                refine own_go (fun t k => XS.iload X201.here hx rfl (hb hby d_8_85) rfl k) ?_
                refine own_go (fun t k => XS.iconst X201.here hx rfl (hb hby d_8_87) k) ?_
                refine own_go (fun t k => XS.iadd X201.here hx rfl (hb hby d_8_88) rfl k) ?_
                show own_Go _ _ _ _ (T201.setTop (mkF m 89 #[.val (.ref up), .val (.int (Int32.ofNat pl)), .val (.ref un), .val (.int (Int32.ofNat nl)), .val (.int (Int32.ofNat j)), .val (.int c2_)] [(.int ((Int32.ofNat j) + (3 : Int32)))]))
                rw [show (Int32.ofNat j) + (3 : Int32) = Int32.ofNat (j + 3) from own_add j 3]
                show own_Go _ _ _ _ (T201.setTop (mkF m 89 #[.val (.ref up), .val (.int (Int32.ofNat pl)), .val (.ref un), .val (.int (Int32.ofNat nl)), .val (.int (Int32.ofNat j)), .val (.int c2_)] [(.int (Int32.ofNat (j + 3)))]))
                refine own_go (fun t k => XS.iloadN X201.here hx rfl (hb hby d_8_89) rfl k) ?_
                by_cases g3 : j + 3 ≤ nl
                · show own_Go _ _ _ _ (T201.setTop (mkF m 90 #[.val (.ref up), .val (.int (Int32.ofNat pl)), .val (.ref un), .val (.int (Int32.ofNat nl)), .val (.int (Int32.ofNat j)), .val (.int c2_)] [(.int (Int32.ofNat nl)), (.int (Int32.ofNat (j + 3)))]))
                  refine own_go (fun t k => XS.icmpNo X201.here hx rfl (hb hby d_8_90) rfl (flt ((fun q => absurd ((own_lt (a := nl) (b := j + 3) (by omega) (by omega)).mp q) (by omega)) : ¬ ((Int32.ofNat nl) < (Int32.ofNat (j + 3))))).2.2.1 k) ?_
                  refine own_go (fun t k => XS.aloadN X201.here hx rfl (hb hby d_8_93) rfl rfl k) ?_
                  refine own_go (fun t k => XS.iloadN X201.here hx rfl (hb hby d_8_94) rfl k) ?_
                  refine own_go (fun t k => XS.aloadN X201.here hx rfl (hb hby d_8_95) rfl rfl k) ?_
                  show own_Go _ _ _ _ (T201.setTop (mkF m 96 #[.val (.ref up), .val (.int (Int32.ofNat pl)), .val (.ref un), .val (.int (Int32.ofNat nl)), .val (.int (Int32.ofNat j)), .val (.int c2_)] [(.ref un), (.int (Int32.ofNat pl)), (.ref up)]))
                  refine own_go (fun t k => XS.iloadN X201.here hx rfl (hb hby d_8_96) rfl k) ?_
                  refine own_go (fun t k => XS.iload X201.here hx rfl (hb hby d_8_97) rfl k) ?_
                  refine own_go (fun t k => XS.iconst X201.here hx rfl (hb hby d_8_99) k) ?_
                  refine own_go (fun t k => XS.iadd X201.here hx rfl (hb hby d_8_100) rfl k) ?_
                  show own_Go _ _ _ _ (T201.setTop (mkF m 101 #[.val (.ref up), .val (.int (Int32.ofNat pl)), .val (.ref un), .val (.int (Int32.ofNat nl)), .val (.int (Int32.ofNat j)), .val (.int c2_)] [(.int ((Int32.ofNat j) + (3 : Int32))), (.int (Int32.ofNat nl)), (.ref un), (.int (Int32.ofNat pl)), (.ref up)]))
                  rw [show (Int32.ofNat j) + (3 : Int32) = Int32.ofNat (j + 3) from own_add j 3]
                  show own_Go _ _ _ _ (T201.setTop (mkF m 101 #[.val (.ref up), .val (.int (Int32.ofNat pl)), .val (.ref un), .val (.int (Int32.ofNat nl)), .val (.int (Int32.ofNat j)), .val (.int c2_)] [(.int (Int32.ofNat (j + 3))), (.int (Int32.ofNat nl)), (.ref un), (.int (Int32.ofNat pl)), (.ref up)]))
                  obtain ⟨_, _, ⟨T202, L202, k202, n202⟩, -, X202, ⟨Lc202, hQ202, l202, y202, z202⟩, st202⟩ := Jvm.LawKit.callS X201 hx (y := (⟨"com/example/fathomsearch/fathomsearch/NamePatternMatchesPinLaw", "m3", "([CI[CII)Z"⟩ : MethodName)) hown (mvT hZ (w_90 hw)) (mvT hZ (w_91 hw)) (mvT hZ (w_3 hw)) (mvT hZ (w_92 hw)) (by decide) (backOf (W := 0) (rm_m3 l Z a0 hw [] up kp un kn c0_ c1_ c2_ c3_ d0_ d1_ d2_ d3_ pl nl (j + 3) h0 n0 Z0 (by omega) (by omega) (by omega) (by omega) Ap An) hZ (w_92 hw) (w_3 hw) (by decide) (by decide)) (g := (mkF m 101 #[.val (.ref up), .val (.int (Int32.ofNat pl)), .val (.ref un), .val (.int (Int32.ofNat nl)), .val (.int (Int32.ofNat j)), .val (.int c2_)] [(.int (Int32.ofNat (j + 3))), (.int (Int32.ofNat nl)), (.ref un), (.int (Int32.ofNat pl)), (.ref up)])) rfl (by rw [hml]; rfl) (argsL := [(.ref up), (.int (Int32.ofNat pl)), (.ref un), (.int (Int32.ofNat nl)), (.int (Int32.ofNat (j + 3)))]) (rest := []) (lenOf pd_3 rfl) rfl (by show 2 * 0 + _ ≤ _; exact Nat.le_of_eq rfl) (hb hby d_8_101) (fun _ _ => ⟨rfl, e201, (by decide : 0 + 0 ≤ _), (by decide : 0 + 0 ≤ _)⟩)
                  dsimp only [Pt.U, Pt.locs, Pt.cells, Pt.slots] at X202 l202 y202 z202 st202 hQ202
                  subst l202 y202 z202
                  obtain ⟨iv202, rfl, N202q, hV202, e202⟩ := hQ202
                  have N202 := Fr.app N201 N202q
                  refine own_go st202 ?_
                  rcases hV202 with ⟨rfl, t202⟩ | ⟨rfl, t202⟩
                  · show own_Go _ _ _ _ (T202.setTop (mkF m 104 #[.val (.ref up), .val (.int (Int32.ofNat pl)), .val (.ref un), .val (.int (Int32.ofNat nl)), .val (.int (Int32.ofNat j)), .val (.int c2_)] [(.int (1 : Int32))]))
                    refine own_go (fun t k => XS.ifYes X202.here hx rfl (pc0 := 104) (pc' := 129) rfl (hb hby d_8_104) rfl ((if0 _ _).trans (feq (by decide : ¬ ((1 : Int32) = (0 : Int32)))).2) (by decide) (by decide) k) ?_
                    refine own_go (fun t k => XS.iconst X202.here hx rfl (hb hby d_8_129) k) ?_
                    refine own_go (fun t k => XS.goto X202.here hx rfl (pc0 := 130) (pc' := 134) rfl (hb hby d_8_130) (by decide) (by decide) k) ?_
                    show own_Go _ _ _ _ (T202.setTop (mkF m 134 #[.val (.ref up), .val (.int (Int32.ofNat pl)), .val (.ref un), .val (.int (Int32.ofNat nl)), .val (.int (Int32.ofNat j)), .val (.int c2_)] [(.int (1 : Int32))]))
                    refine own_retN X202 hx hlk (t := .boolean) hret (by simp) (hb hby d_8_134) ?_ (by decide) (by decide)
                    rw [e202]
                    exact ⟨1, rfl, N202, Or.inl ⟨rfl, (own_gstar hlt e3).mpr ⟨j + 3, (by omega), (by omega), t202⟩⟩, rfl⟩
                  · show own_Go _ _ _ _ (T202.setTop (mkF m 104 #[.val (.ref up), .val (.int (Int32.ofNat pl)), .val (.ref un), .val (.int (Int32.ofNat nl)), .val (.int (Int32.ofNat j)), .val (.int c2_)] [(.int (0 : Int32))]))
                    refine own_go (fun t k => XS.ifNo X202.here hx rfl (hb hby d_8_104) rfl ((if0 _ _).trans (teq (by decide : (0 : Int32) = (0 : Int32))).2) k) ?_
                    refine own_go (fun t k => XS.iload X202.here hx rfl (hb hby d_8_107) rfl k) ?_
                    refine own_go (fun t k => XS.iconst X202.here hx rfl (hb hby d_8_109) k) ?_
                    refine own_go (fun t k => XS.iadd X202.here hx rfl (hb hby d_8_110) rfl k) ?_
                    show own_Go _ _ _ _ (T202.setTop (mkF m 111 #[.val (.ref up), .val (.int (Int32.ofNat pl)), .val (.ref un), .val (.int (Int32.ofNat nl)), .val (.int (Int32.ofNat j)), .val (.int c2_)] [(.int ((Int32.ofNat j) + (4 : Int32)))]))
                    rw [show (Int32.ofNat j) + (4 : Int32) = Int32.ofNat (j + 4) from own_add j 4]
                    show own_Go _ _ _ _ (T202.setTop (mkF m 111 #[.val (.ref up), .val (.int (Int32.ofNat pl)), .val (.ref un), .val (.int (Int32.ofNat nl)), .val (.int (Int32.ofNat j)), .val (.int c2_)] [(.int (Int32.ofNat (j + 4)))]))
                    refine own_go (fun t k => XS.iloadN X202.here hx rfl (hb hby d_8_111) rfl k) ?_
                    by_cases g4 : j + 4 ≤ nl
                    · show own_Go _ _ _ _ (T202.setTop (mkF m 112 #[.val (.ref up), .val (.int (Int32.ofNat pl)), .val (.ref un), .val (.int (Int32.ofNat nl)), .val (.int (Int32.ofNat j)), .val (.int c2_)] [(.int (Int32.ofNat nl)), (.int (Int32.ofNat (j + 4)))]))
                      refine own_go (fun t k => XS.icmpNo X202.here hx rfl (hb hby d_8_112) rfl (flt ((fun q => absurd ((own_lt (a := nl) (b := j + 4) (by omega) (by omega)).mp q) (by omega)) : ¬ ((Int32.ofNat nl) < (Int32.ofNat (j + 4))))).2.2.1 k) ?_
                      refine own_go (fun t k => XS.aloadN X202.here hx rfl (hb hby d_8_115) rfl rfl k) ?_
                      refine own_go (fun t k => XS.iloadN X202.here hx rfl (hb hby d_8_116) rfl k) ?_
                      refine own_go (fun t k => XS.aloadN X202.here hx rfl (hb hby d_8_117) rfl rfl k) ?_
                      show own_Go _ _ _ _ (T202.setTop (mkF m 118 #[.val (.ref up), .val (.int (Int32.ofNat pl)), .val (.ref un), .val (.int (Int32.ofNat nl)), .val (.int (Int32.ofNat j)), .val (.int c2_)] [(.ref un), (.int (Int32.ofNat pl)), (.ref up)]))
                      refine own_go (fun t k => XS.iloadN X202.here hx rfl (hb hby d_8_118) rfl k) ?_
                      refine own_go (fun t k => XS.iload X202.here hx rfl (hb hby d_8_119) rfl k) ?_
                      refine own_go (fun t k => XS.iconst X202.here hx rfl (hb hby d_8_121) k) ?_
                      refine own_go (fun t k => XS.iadd X202.here hx rfl (hb hby d_8_122) rfl k) ?_
                      show own_Go _ _ _ _ (T202.setTop (mkF m 123 #[.val (.ref up), .val (.int (Int32.ofNat pl)), .val (.ref un), .val (.int (Int32.ofNat nl)), .val (.int (Int32.ofNat j)), .val (.int c2_)] [(.int ((Int32.ofNat j) + (4 : Int32))), (.int (Int32.ofNat nl)), (.ref un), (.int (Int32.ofNat pl)), (.ref up)]))
                      rw [show (Int32.ofNat j) + (4 : Int32) = Int32.ofNat (j + 4) from own_add j 4]
                      show own_Go _ _ _ _ (T202.setTop (mkF m 123 #[.val (.ref up), .val (.int (Int32.ofNat pl)), .val (.ref un), .val (.int (Int32.ofNat nl)), .val (.int (Int32.ofNat j)), .val (.int c2_)] [(.int (Int32.ofNat (j + 4))), (.int (Int32.ofNat nl)), (.ref un), (.int (Int32.ofNat pl)), (.ref up)]))
                      obtain ⟨_, _, ⟨T203, L203, k203, n203⟩, -, X203, ⟨Lc203, hQ203, l203, y203, z203⟩, st203⟩ := Jvm.LawKit.callS X202 hx (y := (⟨"com/example/fathomsearch/fathomsearch/NamePatternMatchesPinLaw", "m3", "([CI[CII)Z"⟩ : MethodName)) hown (mvT hZ (w_90 hw)) (mvT hZ (w_91 hw)) (mvT hZ (w_3 hw)) (mvT hZ (w_92 hw)) (by decide) (backOf (W := 0) (rm_m3 l Z a0 hw [] up kp un kn c0_ c1_ c2_ c3_ d0_ d1_ d2_ d3_ pl nl (j + 4) h0 n0 Z0 (by omega) (by omega) (by omega) (by omega) Ap An) hZ (w_92 hw) (w_3 hw) (by decide) (by decide)) (g := (mkF m 123 #[.val (.ref up), .val (.int (Int32.ofNat pl)), .val (.ref un), .val (.int (Int32.ofNat nl)), .val (.int (Int32.ofNat j)), .val (.int c2_)] [(.int (Int32.ofNat (j + 4))), (.int (Int32.ofNat nl)), (.ref un), (.int (Int32.ofNat pl)), (.ref up)])) rfl (by rw [hml]; rfl) (argsL := [(.ref up), (.int (Int32.ofNat pl)), (.ref un), (.int (Int32.ofNat nl)), (.int (Int32.ofNat (j + 4)))]) (rest := []) (lenOf pd_3 rfl) rfl (by show 2 * 0 + _ ≤ _; exact Nat.le_of_eq rfl) (hb hby d_8_123) (fun _ _ => ⟨rfl, e202, (by decide : 0 + 0 ≤ _), (by decide : 0 + 0 ≤ _)⟩)
                      dsimp only [Pt.U, Pt.locs, Pt.cells, Pt.slots] at X203 l203 y203 z203 st203 hQ203
                      subst l203 y203 z203
                      obtain ⟨iv203, rfl, N203q, hV203, e203⟩ := hQ203
                      have N203 := Fr.app N202 N203q
                      refine own_go st203 ?_
                      rcases hV203 with ⟨rfl, t203⟩ | ⟨rfl, t203⟩
                      · show own_Go _ _ _ _ (T203.setTop (mkF m 126 #[.val (.ref up), .val (.int (Int32.ofNat pl)), .val (.ref un), .val (.int (Int32.ofNat nl)), .val (.int (Int32.ofNat j)), .val (.int c2_)] [(.int (1 : Int32))]))
                        refine own_go (fun t k => XS.ifNo X203.here hx rfl (hb hby d_8_126) rfl ((if0 _ _).trans (feq (by decide : ¬ ((1 : Int32) = (0 : Int32)))).1) k) ?_
                        refine own_go (fun t k => XS.iconst X203.here hx rfl (hb hby d_8_129) k) ?_
                        refine own_go (fun t k => XS.goto X203.here hx rfl (pc0 := 130) (pc' := 134) rfl (hb hby d_8_130) (by decide) (by decide) k) ?_
                        show own_Go _ _ _ _ (T203.setTop (mkF m 134 #[.val (.ref up), .val (.int (Int32.ofNat pl)), .val (.ref un), .val (.int (Int32.ofNat nl)), .val (.int (Int32.ofNat j)), .val (.int c2_)] [(.int (1 : Int32))]))
                        refine own_retN X203 hx hlk (t := .boolean) hret (by simp) (hb hby d_8_134) ?_ (by decide) (by decide)
                        rw [e203]
                        exact ⟨1, rfl, N203, Or.inl ⟨rfl, (own_gstar hlt e3).mpr ⟨j + 4, (by omega), (by omega), t203⟩⟩, rfl⟩
                      · show own_Go _ _ _ _ (T203.setTop (mkF m 126 #[.val (.ref up), .val (.int (Int32.ofNat pl)), .val (.ref un), .val (.int (Int32.ofNat nl)), .val (.int (Int32.ofNat j)), .val (.int c2_)] [(.int (0 : Int32))]))
                        refine own_go (fun t k => XS.ifYes X203.here hx rfl (pc0 := 126) (pc' := 133) rfl (hb hby d_8_126) rfl ((if0 _ _).trans (teq (by decide : (0 : Int32) = (0 : Int32))).1) (by decide) (by decide) k) ?_
                        refine own_go (fun t k => XS.iconst X203.here hx rfl (hb hby d_8_133) k) ?_
                        have no_ : ¬ ∃ i, j ≤ i ∧ i ≤ nl ∧ own_g (own_at [c0_, c1_, c2_, c3_]) (own_at [d0_, d1_, d2_, d3_]) pl nl 3 i := by
                          intro q
                          obtain ⟨i, i1, i2, i3⟩ := q
                          rcases (by omega : i = j + 0 ∨ i = j + 1 ∨ i = j + 2 ∨ i = j + 3 ∨ i = j + 4) with rfl | rfl | rfl | rfl | rfl
                          · exact t199 i3
                          · exact t200 i3
                          · exact t201 i3
                          · exact t202 i3
                          · exact t203 i3
                        show own_Go _ _ _ _ (T203.setTop (mkF m 134 #[.val (.ref up), .val (.int (Int32.ofNat pl)), .val (.ref un), .val (.int (Int32.ofNat nl)), .val (.int (Int32.ofNat j)), .val (.int c2_)] [(.int (0 : Int32))]))
                        refine own_retN X203 hx hlk (t := .boolean) hret (by simp) (hb hby d_8_134) ?_ (by decide) (by decide)
                        rw [e203]
                        exact ⟨0, rfl, N203, Or.inr ⟨rfl, fun q => no_ (((own_gstar hlt e3)).mp q)⟩, rfl⟩
                    · show own_Go _ _ _ _ (T202.setTop (mkF m 112 #[.val (.ref up), .val (.int (Int32.ofNat pl)), .val (.ref un), .val (.int (Int32.ofNat nl)), .val (.int (Int32.ofNat j)), .val (.int c2_)] [(.int (Int32.ofNat nl)), (.int (Int32.ofNat (j + 4)))]))
                      refine own_go (fun t k => XS.icmpYes X202.here hx rfl (pc0 := 112) (pc' := 133) rfl (hb hby d_8_112) rfl (tlt (((own_lt (a := nl) (b := j + 4) (by omega) (by omega)).mpr (by omega)) : (Int32.ofNat nl) < (Int32.ofNat (j + 4)))).2.2.1 (by decide) (by decide) k) ?_
                      refine own_go (fun t k => XS.iconst X202.here hx rfl (hb hby d_8_133) k) ?_
                      have no_ : ¬ ∃ i, j ≤ i ∧ i ≤ nl ∧ own_g (own_at [c0_, c1_, c2_, c3_]) (own_at [d0_, d1_, d2_, d3_]) pl nl 3 i := by
                        intro q
                        obtain ⟨i, i1, i2, i3⟩ := q
                        rcases (by omega : i = j + 0 ∨ i = j + 1 ∨ i = j + 2 ∨ i = j + 3) with rfl | rfl | rfl | rfl
                        · exact t199 i3
                        · exact t200 i3
                        · exact t201 i3
                        · exact t202 i3
                      show own_Go _ _ _ _ (T202.setTop (mkF m 134 #[.val (.ref up), .val (.int (Int32.ofNat pl)), .val (.ref un), .val (.int (Int32.ofNat nl)), .val (.int (Int32.ofNat j)), .val (.int c2_)] [(.int (0 : Int32))]))
                      refine own_retN X202 hx hlk (t := .boolean) hret (by simp) (hb hby d_8_134) ?_ (by decide) (by decide)
                      rw [e202]
                      exact ⟨0, rfl, N202, Or.inr ⟨rfl, fun q => no_ (((own_gstar hlt e3)).mp q)⟩, rfl⟩
                · show own_Go _ _ _ _ (T201.setTop (mkF m 90 #[.val (.ref up), .val (.int (Int32.ofNat pl)), .val (.ref un), .val (.int (Int32.ofNat nl)), .val (.int (Int32.ofNat j)), .val (.int c2_)] [(.int (Int32.ofNat nl)), (.int (Int32.ofNat (j + 3)))]))
                  refine own_go (fun t k => XS.icmpYes X201.here hx rfl (pc0 := 90) (pc' := 107) rfl (hb hby d_8_90) rfl (tlt (((own_lt (a := nl) (b := j + 3) (by omega) (by omega)).mpr (by omega)) : (Int32.ofNat nl) < (Int32.ofNat (j + 3)))).2.2.1 (by decide) (by decide) k) ?_
                  refine own_go (fun t k => XS.iload X201.here hx rfl (hb hby d_8_107) rfl k) ?_
                  refine own_go (fun t k => XS.iconst X201.here hx rfl (hb hby d_8_109) k) ?_
                  refine own_go (fun t k => XS.iadd X201.here hx rfl (hb hby d_8_110) rfl k) ?_
                  show own_Go _ _ _ _ (T201.setTop (mkF m 111 #[.val (.ref up), .val (.int (Int32.ofNat pl)), .val (.ref un), .val (.int (Int32.ofNat nl)), .val (.int (Int32.ofNat j)), .val (.int c2_)] [(.int ((Int32.ofNat j) + (4 : Int32)))]))
                  rw [show (Int32.ofNat j) + (4 : Int32) = Int32.ofNat (j + 4) from own_add j 4]
                  show own_Go _ _ _ _ (T201.setTop (mkF m 111 #[.val (.ref up), .val (.int (Int32.ofNat pl)), .val (.ref un), .val (.int (Int32.ofNat nl)), .val (.int (Int32.ofNat j)), .val (.int c2_)] [(.int (Int32.ofNat (j + 4)))]))
                  refine own_go (fun t k => XS.iloadN X201.here hx rfl (hb hby d_8_111) rfl k) ?_
                  show own_Go _ _ _ _ (T201.setTop (mkF m 112 #[.val (.ref up), .val (.int (Int32.ofNat pl)), .val (.ref un), .val (.int (Int32.ofNat nl)), .val (.int (Int32.ofNat j)), .val (.int c2_)] [(.int (Int32.ofNat nl)), (.int (Int32.ofNat (j + 4)))]))
                  refine own_go (fun t k => XS.icmpYes X201.here hx rfl (pc0 := 112) (pc' := 133) rfl (hb hby d_8_112) rfl (tlt ((own_lt (a := nl) (b := j + 4) (by omega) (by omega)).mpr (by omega))).2.2.1 (by decide) (by decide) k) ?_
                  refine own_go (fun t k => XS.iconst X201.here hx rfl (hb hby d_8_133) k) ?_
                  have no_ : ¬ ∃ i, j ≤ i ∧ i ≤ nl ∧ own_g (own_at [c0_, c1_, c2_, c3_]) (own_at [d0_, d1_, d2_, d3_]) pl nl 3 i := by
                    intro q
                    obtain ⟨i, i1, i2, i3⟩ := q
                    rcases (by omega : i = j + 0 ∨ i = j + 1 ∨ i = j + 2) with rfl | rfl | rfl
                    · exact t199 i3
                    · exact t200 i3
                    · exact t201 i3
                  show own_Go _ _ _ _ (T201.setTop (mkF m 134 #[.val (.ref up), .val (.int (Int32.ofNat pl)), .val (.ref un), .val (.int (Int32.ofNat nl)), .val (.int (Int32.ofNat j)), .val (.int c2_)] [(.int (0 : Int32))]))
                  refine own_retN X201 hx hlk (t := .boolean) hret (by simp) (hb hby d_8_134) ?_ (by decide) (by decide)
                  rw [e201]
                  exact ⟨0, rfl, N201, Or.inr ⟨rfl, fun q => no_ (((own_gstar hlt e3)).mp q)⟩, rfl⟩
            · show own_Go _ _ _ _ (T200.setTop (mkF m 68 #[.val (.ref up), .val (.int (Int32.ofNat pl)), .val (.ref un), .val (.int (Int32.ofNat nl)), .val (.int (Int32.ofNat j)), .val (.int c2_)] [(.int (Int32.ofNat nl)), (.int (Int32.ofNat (j + 2)))]))
              refine own_go (fun t k => XS.icmpYes X200.here hx rfl (pc0 := 68) (pc' := 85) rfl (hb hby d_8_68) rfl (tlt (((own_lt (a := nl) (b := j + 2) (by omega) (by omega)).mpr (by omega)) : (Int32.ofNat nl) < (Int32.ofNat (j + 2)))).2.2.1 (by decide) (by decide) k) ?_
              refine own_go (fun t k => XS.iload X200.here hx rfl (hb hby d_8_85) rfl k) ?_
              refine own_go (fun t k => XS.iconst X200.here hx rfl (hb hby d_8_87) k) ?_
              refine own_go (fun t k => XS.iadd X200.here hx rfl (hb hby d_8_88) rfl k) ?_
              show own_Go _ _ _ _ (T200.setTop (mkF m 89 #[.val (.ref up), .val (.int (Int32.ofNat pl)), .val (.ref un), .val (.int (Int32.ofNat nl)), .val (.int (Int32.ofNat j)), .val (.int c2_)] [(.int ((Int32.ofNat j) + (3 : Int32)))]))
              rw [show (Int32.ofNat j) + (3 : Int32) = Int32.ofNat (j + 3) from own_add j 3]
              show own_Go _ _ _ _ (T200.setTop (mkF m 89 #[.val (.ref up), .val (.int (Int32.ofNat pl)), .val (.ref un), .val (.int (Int32.ofNat nl)), .val (.int (Int32.ofNat j)), .val (.int c2_)] [(.int (Int32.ofNat (j + 3)))]))
              refine own_go (fun t k => XS.iloadN X200.here hx rfl (hb hby d_8_89) rfl k) ?_
              show own_Go _ _ _ _ (T200.setTop (mkF m 90 #[.val (.ref up), .val (.int (Int32.ofNat pl)), .val (.ref un), .val (.int (Int32.ofNat nl)), .val (.int (Int32.ofNat j)), .val (.int c2_)] [(.int (Int32.ofNat nl)), (.int (Int32.ofNat (j + 3)))]))
              refine own_go (fun t k => XS.icmpYes X200.here hx rfl (pc0 := 90) (pc' := 107) rfl (hb hby d_8_90) rfl (tlt ((own_lt (a := nl) (b := j + 3) (by omega) (by omega)).mpr (by omega))).2.2.1 (by decide) (by decide) k) ?_
              refine own_go (fun t k => XS.iload X200.here hx rfl (hb hby d_8_107) rfl k) ?_
              refine own_go (fun t k => XS.iconst X200.here hx rfl (hb hby d_8_109) k) ?_
              refine own_go (fun t k => XS.iadd X200.here hx rfl (hb hby d_8_110) rfl k) ?_
              show own_Go _ _ _ _ (T200.setTop (mkF m 111 #[.val (.ref up), .val (.int (Int32.ofNat pl)), .val (.ref un), .val (.int (Int32.ofNat nl)), .val (.int (Int32.ofNat j)), .val (.int c2_)] [(.int ((Int32.ofNat j) + (4 : Int32)))]))
              rw [show (Int32.ofNat j) + (4 : Int32) = Int32.ofNat (j + 4) from own_add j 4]
              show own_Go _ _ _ _ (T200.setTop (mkF m 111 #[.val (.ref up), .val (.int (Int32.ofNat pl)), .val (.ref un), .val (.int (Int32.ofNat nl)), .val (.int (Int32.ofNat j)), .val (.int c2_)] [(.int (Int32.ofNat (j + 4)))]))
              refine own_go (fun t k => XS.iloadN X200.here hx rfl (hb hby d_8_111) rfl k) ?_
              show own_Go _ _ _ _ (T200.setTop (mkF m 112 #[.val (.ref up), .val (.int (Int32.ofNat pl)), .val (.ref un), .val (.int (Int32.ofNat nl)), .val (.int (Int32.ofNat j)), .val (.int c2_)] [(.int (Int32.ofNat nl)), (.int (Int32.ofNat (j + 4)))]))
              refine own_go (fun t k => XS.icmpYes X200.here hx rfl (pc0 := 112) (pc' := 133) rfl (hb hby d_8_112) rfl (tlt ((own_lt (a := nl) (b := j + 4) (by omega) (by omega)).mpr (by omega))).2.2.1 (by decide) (by decide) k) ?_
              refine own_go (fun t k => XS.iconst X200.here hx rfl (hb hby d_8_133) k) ?_
              have no_ : ¬ ∃ i, j ≤ i ∧ i ≤ nl ∧ own_g (own_at [c0_, c1_, c2_, c3_]) (own_at [d0_, d1_, d2_, d3_]) pl nl 3 i := by
                intro q
                obtain ⟨i, i1, i2, i3⟩ := q
                rcases (by omega : i = j + 0 ∨ i = j + 1) with rfl | rfl
                · exact t199 i3
                · exact t200 i3
              show own_Go _ _ _ _ (T200.setTop (mkF m 134 #[.val (.ref up), .val (.int (Int32.ofNat pl)), .val (.ref un), .val (.int (Int32.ofNat nl)), .val (.int (Int32.ofNat j)), .val (.int c2_)] [(.int (0 : Int32))]))
              refine own_retN X200 hx hlk (t := .boolean) hret (by simp) (hb hby d_8_134) ?_ (by decide) (by decide)
              rw [e200]
              exact ⟨0, rfl, N200, Or.inr ⟨rfl, fun q => no_ (((own_gstar hlt e3)).mp q)⟩, rfl⟩
        · show own_Go _ _ _ _ (T199.setTop (mkF m 46 #[.val (.ref up), .val (.int (Int32.ofNat pl)), .val (.ref un), .val (.int (Int32.ofNat nl)), .val (.int (Int32.ofNat j)), .val (.int c2_)] [(.int (Int32.ofNat nl)), (.int (Int32.ofNat (j + 1)))]))
          refine own_go (fun t k => XS.icmpYes X199.here hx rfl (pc0 := 46) (pc' := 63) rfl (hb hby d_8_46) rfl (tlt (((own_lt (a := nl) (b := j + 1) (by omega) (by omega)).mpr (by omega)) : (Int32.ofNat nl) < (Int32.ofNat (j + 1)))).2.2.1 (by decide) (by decide) k) ?_
          refine own_go (fun t k => XS.iload X199.here hx rfl (hb hby d_8_63) rfl k) ?_
          refine own_go (fun t k => XS.iconst X199.here hx rfl (hb hby d_8_65) k) ?_
          refine own_go (fun t k => XS.iadd X199.here hx rfl (hb hby d_8_66) rfl k) ?_
          show own_Go _ _ _ _ (T199.setTop (mkF m 67 #[.val (.ref up), .val (.int (Int32.ofNat pl)), .val (.ref un), .val (.int (Int32.ofNat nl)), .val (.int (Int32.ofNat j)), .val (.int c2_)] [(.int ((Int32.ofNat j) + (2 : Int32)))]))
          rw [show (Int32.ofNat j) + (2 : Int32) = Int32.ofNat (j + 2) from own_add j 2]
          show own_Go _ _ _ _ (T199.setTop (mkF m 67 #[.val (.ref up), .val (.int (Int32.ofNat pl)), .val (.ref un), .val (.int (Int32.ofNat nl)), .val (.int (Int32.ofNat j)), .val (.int c2_)] [(.int (Int32.ofNat (j + 2)))]))
          refine own_go (fun t k => XS.iloadN X199.here hx rfl (hb hby d_8_67) rfl k) ?_
          show own_Go _ _ _ _ (T199.setTop (mkF m 68 #[.val (.ref up), .val (.int (Int32.ofNat pl)), .val (.ref un), .val (.int (Int32.ofNat nl)), .val (.int (Int32.ofNat j)), .val (.int c2_)] [(.int (Int32.ofNat nl)), (.int (Int32.ofNat (j + 2)))]))
          refine own_go (fun t k => XS.icmpYes X199.here hx rfl (pc0 := 68) (pc' := 85) rfl (hb hby d_8_68) rfl (tlt ((own_lt (a := nl) (b := j + 2) (by omega) (by omega)).mpr (by omega))).2.2.1 (by decide) (by decide) k) ?_
          refine own_go (fun t k => XS.iload X199.here hx rfl (hb hby d_8_85) rfl k) ?_
          refine own_go (fun t k => XS.iconst X199.here hx rfl (hb hby d_8_87) k) ?_
          refine own_go (fun t k => XS.iadd X199.here hx rfl (hb hby d_8_88) rfl k) ?_
          show own_Go _ _ _ _ (T199.setTop (mkF m 89 #[.val (.ref up), .val (.int (Int32.ofNat pl)), .val (.ref un), .val (.int (Int32.ofNat nl)), .val (.int (Int32.ofNat j)), .val (.int c2_)] [(.int ((Int32.ofNat j) + (3 : Int32)))]))
          rw [show (Int32.ofNat j) + (3 : Int32) = Int32.ofNat (j + 3) from own_add j 3]
          show own_Go _ _ _ _ (T199.setTop (mkF m 89 #[.val (.ref up), .val (.int (Int32.ofNat pl)), .val (.ref un), .val (.int (Int32.ofNat nl)), .val (.int (Int32.ofNat j)), .val (.int c2_)] [(.int (Int32.ofNat (j + 3)))]))
          refine own_go (fun t k => XS.iloadN X199.here hx rfl (hb hby d_8_89) rfl k) ?_
          show own_Go _ _ _ _ (T199.setTop (mkF m 90 #[.val (.ref up), .val (.int (Int32.ofNat pl)), .val (.ref un), .val (.int (Int32.ofNat nl)), .val (.int (Int32.ofNat j)), .val (.int c2_)] [(.int (Int32.ofNat nl)), (.int (Int32.ofNat (j + 3)))]))
          refine own_go (fun t k => XS.icmpYes X199.here hx rfl (pc0 := 90) (pc' := 107) rfl (hb hby d_8_90) rfl (tlt ((own_lt (a := nl) (b := j + 3) (by omega) (by omega)).mpr (by omega))).2.2.1 (by decide) (by decide) k) ?_
          refine own_go (fun t k => XS.iload X199.here hx rfl (hb hby d_8_107) rfl k) ?_
          refine own_go (fun t k => XS.iconst X199.here hx rfl (hb hby d_8_109) k) ?_
          refine own_go (fun t k => XS.iadd X199.here hx rfl (hb hby d_8_110) rfl k) ?_
          show own_Go _ _ _ _ (T199.setTop (mkF m 111 #[.val (.ref up), .val (.int (Int32.ofNat pl)), .val (.ref un), .val (.int (Int32.ofNat nl)), .val (.int (Int32.ofNat j)), .val (.int c2_)] [(.int ((Int32.ofNat j) + (4 : Int32)))]))
          rw [show (Int32.ofNat j) + (4 : Int32) = Int32.ofNat (j + 4) from own_add j 4]
          show own_Go _ _ _ _ (T199.setTop (mkF m 111 #[.val (.ref up), .val (.int (Int32.ofNat pl)), .val (.ref un), .val (.int (Int32.ofNat nl)), .val (.int (Int32.ofNat j)), .val (.int c2_)] [(.int (Int32.ofNat (j + 4)))]))
          refine own_go (fun t k => XS.iloadN X199.here hx rfl (hb hby d_8_111) rfl k) ?_
          show own_Go _ _ _ _ (T199.setTop (mkF m 112 #[.val (.ref up), .val (.int (Int32.ofNat pl)), .val (.ref un), .val (.int (Int32.ofNat nl)), .val (.int (Int32.ofNat j)), .val (.int c2_)] [(.int (Int32.ofNat nl)), (.int (Int32.ofNat (j + 4)))]))
          refine own_go (fun t k => XS.icmpYes X199.here hx rfl (pc0 := 112) (pc' := 133) rfl (hb hby d_8_112) rfl (tlt ((own_lt (a := nl) (b := j + 4) (by omega) (by omega)).mpr (by omega))).2.2.1 (by decide) (by decide) k) ?_
          refine own_go (fun t k => XS.iconst X199.here hx rfl (hb hby d_8_133) k) ?_
          have no_ : ¬ ∃ i, j ≤ i ∧ i ≤ nl ∧ own_g (own_at [c0_, c1_, c2_, c3_]) (own_at [d0_, d1_, d2_, d3_]) pl nl 3 i := by
            intro q
            obtain ⟨i, i1, i2, i3⟩ := q
            rcases (by omega : i = j + 0) with rfl
            · exact t199 i3
          show own_Go _ _ _ _ (T199.setTop (mkF m 134 #[.val (.ref up), .val (.int (Int32.ofNat pl)), .val (.ref un), .val (.int (Int32.ofNat nl)), .val (.int (Int32.ofNat j)), .val (.int c2_)] [(.int (0 : Int32))]))
          refine own_retN X199 hx hlk (t := .boolean) hret (by simp) (hb hby d_8_134) ?_ (by decide) (by decide)
          rw [e199]
          exact ⟨0, rfl, N199, Or.inr ⟨rfl, fun q => no_ (((own_gstar hlt e3)).mp q)⟩, rfl⟩
    · show own_Go _ _ _ _ (s₁.setTop (mkF m 26 #[.val (.ref up), .val (.int (Int32.ofNat pl)), .val (.ref un), .val (.int (Int32.ofNat nl)), .val (.int (Int32.ofNat j)), .val (.int c2_)] [(.int (42 : Int32)), (.int c2_)]))
      refine own_go (fun t k => XS.icmpYes X0.here hx rfl (pc0 := 26) (pc' := 135) rfl (hb hby d_8_26) rfl (feq (e3 : ¬ (c2_ = (42 : Int32)))).2 (by decide) (by decide) k) ?_
      refine own_go (fun t k => XS.iload X0.here hx rfl (hb hby d_8_135) rfl k) ?_
      refine own_go (fun t k => XS.iloadN X0.here hx rfl (hb hby d_8_137) rfl k) ?_
      by_cases g0 : j < nl
      · show own_Go _ _ _ _ (s₁.setTop (mkF m 138 #[.val (.ref up), .val (.int (Int32.ofNat pl)), .val (.ref un), .val (.int (Int32.ofNat nl)), .val (.int (Int32.ofNat j)), .val (.int c2_)] [(.int (Int32.ofNat nl)), (.int (Int32.ofNat j))]))
        refine own_go (fun t k => XS.icmpNo X0.here hx rfl (hb hby d_8_138) rfl (tlt (((own_lt (by omega) (by omega)).mpr g0) : (Int32.ofNat j) < (Int32.ofNat nl))).2.1 k) ?_
        refine own_go (fun t k => XS.aloadN X0.here hx rfl (hb hby d_8_141) rfl rfl k) ?_
        refine own_go (fun t k => XS.iload X0.here hx rfl (hb hby d_8_142) rfl k) ?_
        show own_Go _ _ _ _ (s₁.setTop (mkF m 144 #[.val (.ref up), .val (.int (Int32.ofNat pl)), .val (.ref un), .val (.int (Int32.ofNat nl)), .val (.int (Int32.ofNat j)), .val (.int c2_)] [(.int (Int32.ofNat j)), (.ref un)]))
        obtain ⟨cl204, Ar204, qk204, sz204, nn204, ha204, gf204⟩ := id An
        have hin204 : ¬ ((Int32.ofNat j) < 0 ∨ cl204.slots.size ≤ ((Int32.ofNat j)).toNatClampNeg) := inb_of sz204 (own_in4 (by omega))
        have hat204 : cl204.slots[((Int32.ofNat j)).toNatClampNeg]? = some (.int (own_at [d0_, d1_, d2_, d3_] j)) := ha204.at hin204 (own_ld (by omega) _ _ _ _)
        refine own_go (X0.caload hx (j := (Int32.ofNat j)) (v := (.int (own_at [d0_, d1_, d2_, d3_] j))) (by rw [e0]; exact Ar204.1) (State.isArrayOf_alike hZ.alike Ar204.2.1) Ar204.2.2 hin204 hat204 (g := (mkF m 144 #[.val (.ref up), .val (.int (Int32.ofNat pl)), .val (.ref un), .val (.int (Int32.ofNat nl)), .val (.int (Int32.ofNat j)), .val (.int c2_)] [(.int (Int32.ofNat j)), (.ref un)])) rfl rfl (hb hby d_8_144)) ?_
        refine own_go (fun t k => XS.iload X0.here hx rfl (hb hby d_8_145) rfl k) ?_
        by_cases e5 : (own_at [d0_, d1_, d2_, d3_] j) = c2_
        · show own_Go _ _ _ _ (s₁.setTop (mkF m 147 #[.val (.ref up), .val (.int (Int32.ofNat pl)), .val (.ref un), .val (.int (Int32.ofNat nl)), .val (.int (Int32.ofNat j)), .val (.int c2_)] [(.int c2_), (.int (own_at [d0_, d1_, d2_, d3_] j))]))
          refine own_go (fun t k => XS.icmpNo X0.here hx rfl (hb hby d_8_147) rfl (teq (e5 : (own_at [d0_, d1_, d2_, d3_] j) = c2_)).2 k) ?_
          refine own_go (fun t k => XS.aloadN X0.here hx rfl (hb hby d_8_150) rfl rfl k) ?_
          refine own_go (fun t k => XS.iloadN X0.here hx rfl (hb hby d_8_151) rfl k) ?_
          refine own_go (fun t k => XS.aloadN X0.here hx rfl (hb hby d_8_152) rfl rfl k) ?_
          show own_Go _ _ _ _ (s₁.setTop (mkF m 153 #[.val (.ref up), .val (.int (Int32.ofNat pl)), .val (.ref un), .val (.int (Int32.ofNat nl)), .val (.int (Int32.ofNat j)), .val (.int c2_)] [(.ref un), (.int (Int32.ofNat pl)), (.ref up)]))
          refine own_go (fun t k => XS.iloadN X0.here hx rfl (hb hby d_8_153) rfl k) ?_
          refine own_go (fun t k => XS.iload X0.here hx rfl (hb hby d_8_154) rfl k) ?_
          refine own_go (fun t k => XS.iconst X0.here hx rfl (hb hby d_8_156) k) ?_
          refine own_go (fun t k => XS.iadd X0.here hx rfl (hb hby d_8_157) rfl k) ?_
          show own_Go _ _ _ _ (s₁.setTop (mkF m 158 #[.val (.ref up), .val (.int (Int32.ofNat pl)), .val (.ref un), .val (.int (Int32.ofNat nl)), .val (.int (Int32.ofNat j)), .val (.int c2_)] [(.int ((Int32.ofNat j) + (1 : Int32))), (.int (Int32.ofNat nl)), (.ref un), (.int (Int32.ofNat pl)), (.ref up)]))
          rw [show (Int32.ofNat j) + (1 : Int32) = Int32.ofNat (j + 1) from own_add j 1]
          show own_Go _ _ _ _ (s₁.setTop (mkF m 158 #[.val (.ref up), .val (.int (Int32.ofNat pl)), .val (.ref un), .val (.int (Int32.ofNat nl)), .val (.int (Int32.ofNat j)), .val (.int c2_)] [(.int (Int32.ofNat (j + 1))), (.int (Int32.ofNat nl)), (.ref un), (.int (Int32.ofNat pl)), (.ref up)]))
          obtain ⟨_, _, ⟨T205, L205, k205, n205⟩, -, X205, ⟨Lc205, hQ205, l205, y205, z205⟩, st205⟩ := Jvm.LawKit.callS X0 hx (y := (⟨"com/example/fathomsearch/fathomsearch/NamePatternMatchesPinLaw", "m3", "([CI[CII)Z"⟩ : MethodName)) hown (mvT hZ (w_90 hw)) (mvT hZ (w_91 hw)) (mvT hZ (w_3 hw)) (mvT hZ (w_92 hw)) (by decide) (backOf (W := 0) (rm_m3 l Z a0 hw [] up kp un kn c0_ c1_ c2_ c3_ d0_ d1_ d2_ d3_ pl nl (j + 1) h0 n0 Z0 (by omega) (by omega) (by omega) (by omega) Ap An) hZ (w_92 hw) (w_3 hw) (by decide) (by decide)) (g := (mkF m 158 #[.val (.ref up), .val (.int (Int32.ofNat pl)), .val (.ref un), .val (.int (Int32.ofNat nl)), .val (.int (Int32.ofNat j)), .val (.int c2_)] [(.int (Int32.ofNat (j + 1))), (.int (Int32.ofNat nl)), (.ref un), (.int (Int32.ofNat pl)), (.ref up)])) rfl (by rw [hml]; rfl) (argsL := [(.ref up), (.int (Int32.ofNat pl)), (.ref un), (.int (Int32.ofNat nl)), (.int (Int32.ofNat (j + 1)))]) (rest := []) (lenOf pd_3 rfl) rfl (by show 2 * 0 + _ ≤ _; exact Nat.le_of_eq rfl) (hb hby d_8_158) (fun _ _ => ⟨rfl, e0, (by decide : 0 + 0 ≤ _), (by decide : 0 + 0 ≤ _)⟩)
          dsimp only [Pt.U, Pt.locs, Pt.cells, Pt.slots] at X205 l205 y205 z205 st205 hQ205
          subst l205 y205 z205
          obtain ⟨iv205, rfl, N205q, hV205, e205⟩ := hQ205
          have N205 := Fr.app N0 N205q
          refine own_go st205 ?_
          rcases hV205 with ⟨rfl, t205⟩ | ⟨rfl, t205⟩
          · show own_Go _ _ _ _ (T205.setTop (mkF m 161 #[.val (.ref up), .val (.int (Int32.ofNat pl)), .val (.ref un), .val (.int (Int32.ofNat nl)), .val (.int (Int32.ofNat j)), .val (.int c2_)] [(.int (1 : Int32))]))
            refine own_go (fun t k => XS.ifNo X205.here hx rfl (hb hby d_8_161) rfl ((if0 _ _).trans (feq (by decide : ¬ ((1 : Int32) = (0 : Int32)))).1) k) ?_
            refine own_go (fun t k => XS.iconst X205.here hx rfl (hb hby d_8_164) k) ?_
            refine own_go (fun t k => XS.goto X205.here hx rfl (pc0 := 165) (pc' := 169) rfl (hb hby d_8_165) (by decide) (by decide) k) ?_
            show own_Go _ _ _ _ (T205.setTop (mkF m 169 #[.val (.ref up), .val (.int (Int32.ofNat pl)), .val (.ref un), .val (.int (Int32.ofNat nl)), .val (.int (Int32.ofNat j)), .val (.int c2_)] [(.int (1 : Int32))]))
            refine own_retN X205 hx hlk (t := .boolean) hret (by simp) (hb hby d_8_169) ?_ (by decide) (by decide)
            rw [e205]
            exact ⟨1, rfl, N205, Or.inl ⟨rfl, (own_glit hlt e3).mpr ⟨g0, e5, t205⟩⟩, rfl⟩
          · show own_Go _ _ _ _ (T205.setTop (mkF m 161 #[.val (.ref up), .val (.int (Int32.ofNat pl)), .val (.ref un), .val (.int (Int32.ofNat nl)), .val (.int (Int32.ofNat j)), .val (.int c2_)] [(.int (0 : Int32))]))
            refine own_go (fun t k => XS.ifYes X205.here hx rfl (pc0 := 161) (pc' := 168) rfl (hb hby d_8_161) rfl ((if0 _ _).trans (teq (by decide : (0 : Int32) = (0 : Int32))).1) (by decide) (by decide) k) ?_
            refine own_go (fun t k => XS.iconst X205.here hx rfl (hb hby d_8_168) k) ?_
            show own_Go _ _ _ _ (T205.setTop (mkF m 169 #[.val (.ref up), .val (.int (Int32.ofNat pl)), .val (.ref un), .val (.int (Int32.ofNat nl)), .val (.int (Int32.ofNat j)), .val (.int c2_)] [(.int (0 : Int32))]))
            refine own_retN X205 hx hlk (t := .boolean) hret (by simp) (hb hby d_8_169) ?_ (by decide) (by decide)
            rw [e205]
            exact ⟨0, rfl, N205, Or.inr ⟨rfl, fun q => t205 ((own_glit hlt e3).mp q).2.2⟩, rfl⟩
        · show own_Go _ _ _ _ (s₁.setTop (mkF m 147 #[.val (.ref up), .val (.int (Int32.ofNat pl)), .val (.ref un), .val (.int (Int32.ofNat nl)), .val (.int (Int32.ofNat j)), .val (.int c2_)] [(.int c2_), (.int (own_at [d0_, d1_, d2_, d3_] j))]))
          refine own_go (fun t k => XS.icmpYes X0.here hx rfl (pc0 := 147) (pc' := 168) rfl (hb hby d_8_147) rfl (feq (e5 : ¬ ((own_at [d0_, d1_, d2_, d3_] j) = c2_))).2 (by decide) (by decide) k) ?_
          refine own_go (fun t k => XS.iconst X0.here hx rfl (hb hby d_8_168) k) ?_
          show own_Go _ _ _ _ (s₁.setTop (mkF m 169 #[.val (.ref up), .val (.int (Int32.ofNat pl)), .val (.ref un), .val (.int (Int32.ofNat nl)), .val (.int (Int32.ofNat j)), .val (.int c2_)] [(.int (0 : Int32))]))
          refine own_retN X0 hx hlk (t := .boolean) hret (by simp) (hb hby d_8_169) ?_ (by decide) (by decide)
          rw [e0]
          exact ⟨0, rfl, N0, Or.inr ⟨rfl, fun q => e5 ((own_glit hlt e3).mp q).2.1⟩, rfl⟩
      · show own_Go _ _ _ _ (s₁.setTop (mkF m 138 #[.val (.ref up), .val (.int (Int32.ofNat pl)), .val (.ref un), .val (.int (Int32.ofNat nl)), .val (.int (Int32.ofNat j)), .val (.int c2_)] [(.int (Int32.ofNat nl)), (.int (Int32.ofNat j))]))
        refine own_go (fun t k => XS.icmpYes X0.here hx rfl (pc0 := 138) (pc' := 168) rfl (hb hby d_8_138) rfl (flt ((fun q => g0 ((own_lt (by omega) (by omega)).mp q)) : ¬ ((Int32.ofNat j) < (Int32.ofNat nl)))).2.1 (by decide) (by decide) k) ?_
        refine own_go (fun t k => XS.iconst X0.here hx rfl (hb hby d_8_168) k) ?_
        show own_Go _ _ _ _ (s₁.setTop (mkF m 169 #[.val (.ref up), .val (.int (Int32.ofNat pl)), .val (.ref un), .val (.int (Int32.ofNat nl)), .val (.int (Int32.ofNat j)), .val (.int c2_)] [(.int (0 : Int32))]))
        refine own_retN X0 hx hlk (t := .boolean) hret (by simp) (hb hby d_8_169) ?_ (by decide) (by decide)
        rw [e0]
        exact ⟨0, rfl, N0, Or.inr ⟨rfl, fun q => g0 ((own_glit hlt e3).mp q).1⟩, rfl⟩
def Q_m1 (Z : State) (up : Addr) (kp : ClassId) (un : Addr) (kn : ClassId) (c0_ : Int32) (c1_ : Int32) (c2_ : Int32) (c3_ : Int32) (d0_ : Int32) (d1_ : Int32) (d2_ : Int32) (d3_ : Int32) (pl : Nat) (nl : Nat) (j : Nat) (h0 : Heap) (n0 : Nat) (v : Option Value) (h : Heap) (L : List Loc) : Prop := ∃ iv : Int32, v = some (.int iv) ∧ Fr n0 L ∧ own_V iv (own_g (own_at [c0_, c1_, c2_, c3_]) (own_at [d0_, d1_, d2_, d3_]) pl nl 1 j) ∧ h = h0
theorem ef_m1 (m : MethodId) (up : Addr) (un : Addr) (pl : Nat) (nl : Nat) (j : Nat) : entryFrame m #[(.ref up), (.int (Int32.ofNat pl)), (.ref un), (.int (Int32.ofNat nl)), (.int (Int32.ofNat j))] 6 = mkF m 0 #[.val (.ref up), .val (.int (Int32.ofNat pl)), .val (.ref un), .val (.int (Int32.ofNat nl)), .val (.int (Int32.ofNat j)), .unset] [] := by first | (simp [entryFrame, mkF, argsToLocals, Value.category]; done) | rfl
theorem d_7_0 : decode method_7_code 0 = .ok (.iload_n 1, 1) := by decide +kernel
theorem d_7_1 : decode method_7_code 1 = .ok (.iconst 1, 1) := by decide +kernel
theorem d_7_2 : decode method_7_code 2 = .ok (.if_icmp .ne 15, 3) := by decide +kernel
theorem d_7_5 : decode method_7_code 5 = .ok (.iload 4, 2) := by decide +kernel
theorem d_7_7 : decode method_7_code 7 = .ok (.iload_n 3, 1) := by decide +kernel
theorem d_7_8 : decode method_7_code 8 = .ok (.if_icmp .ne 7, 3) := by decide +kernel
theorem d_7_11 : decode method_7_code 11 = .ok (.iconst 1, 1) := by decide +kernel
theorem d_7_12 : decode method_7_code 12 = .ok (.goto 4, 3) := by decide +kernel
theorem d_7_16 : decode method_7_code 16 = .ok (.ireturn, 1) := by decide +kernel
theorem d_7_15 : decode method_7_code 15 = .ok (.iconst 0, 1) := by decide +kernel
theorem d_7_17 : decode method_7_code 17 = .ok (.aload_n 0, 1) := by decide +kernel
theorem d_7_18 : decode method_7_code 18 = .ok (.iconst 1, 1) := by decide +kernel
theorem d_7_19 : decode method_7_code 19 = .ok (.caload, 1) := by decide +kernel
theorem d_7_20 : decode method_7_code 20 = .ok (.istore 5, 2) := by decide +kernel
theorem d_7_22 : decode method_7_code 22 = .ok (.iload 5, 2) := by decide +kernel
theorem d_7_24 : decode method_7_code 24 = .ok (.bipush 42, 2) := by decide +kernel
theorem d_7_26 : decode method_7_code 26 = .ok (.if_icmp .ne 109, 3) := by decide +kernel
theorem d_7_29 : decode method_7_code 29 = .ok (.aload_n 0, 1) := by decide +kernel
theorem d_7_30 : decode method_7_code 30 = .ok (.iload_n 1, 1) := by decide +kernel
theorem d_7_31 : decode method_7_code 31 = .ok (.aload_n 2, 1) := by decide +kernel
theorem d_7_32 : decode method_7_code 32 = .ok (.iload_n 3, 1) := by decide +kernel
theorem d_7_33 : decode method_7_code 33 = .ok (.iload 4, 2) := by decide +kernel
theorem w_87 {Z : State} {a0 : Array Value} (hw : ∀ d ∈ tables_1, d.before a0 Z = true) : (Jvm.Cond.methodLink "com/example/fathomsearch/fathomsearch/NamePatternMatchesPinLaw" (42 : Nat) ({ cls := "com/example/fathomsearch/fathomsearch/NamePatternMatchesPinLaw", name := "m2", desc := "([CI[CII)Z" } : Jvm.MethodName)).before a0 Z = true := hw _ (List.mem_of_getElem? (i := 87) rfl)
theorem w_89 {Z : State} {a0 : Array Value} (hw : ∀ d ∈ tables_1, d.before a0 Z = true) : (Jvm.Cond.code ({ cls := "com/example/fathomsearch/fathomsearch/NamePatternMatchesPinLaw", name := "m2", desc := "([CI[CII)Z" } : Jvm.MethodName) method_8_code (6 : Nat) (Option.some Jvm.ClassFile.FieldType.boolean)).before a0 Z = true := hw _ (List.mem_of_getElem? (i := 89) rfl)
theorem d_7_35 : decode method_7_code 35 = .ok (.invokestatic 42, 3) := by decide +kernel
theorem w_88 {Z : State} {a0 : Array Value} (hw : ∀ d ∈ tables_1, d.before a0 Z = true) : (Jvm.Cond.static ({ cls := "com/example/fathomsearch/fathomsearch/NamePatternMatchesPinLaw", name := "m2", desc := "([CI[CII)Z" } : Jvm.MethodName)).before a0 Z = true := hw _ (List.mem_of_getElem? (i := 88) rfl)
theorem d_7_38 : decode method_7_code 38 = .ok (.ifCond .ne 91, 3) := by decide +kernel
theorem d_7_129 : decode method_7_code 129 = .ok (.iconst 1, 1) := by decide +kernel
theorem d_7_130 : decode method_7_code 130 = .ok (.goto 4, 3) := by decide +kernel
theorem d_7_134 : decode method_7_code 134 = .ok (.ireturn, 1) := by decide +kernel
theorem d_7_41 : decode method_7_code 41 = .ok (.iload 4, 2) := by decide +kernel
theorem d_7_43 : decode method_7_code 43 = .ok (.iconst 1, 1) := by decide +kernel
theorem d_7_44 : decode method_7_code 44 = .ok (.iadd, 1) := by decide +kernel
theorem d_7_45 : decode method_7_code 45 = .ok (.iload_n 3, 1) := by decide +kernel
theorem d_7_46 : decode method_7_code 46 = .ok (.if_icmp .gt 17, 3) := by decide +kernel
theorem d_7_49 : decode method_7_code 49 = .ok (.aload_n 0, 1) := by decide +kernel
theorem d_7_50 : decode method_7_code 50 = .ok (.iload_n 1, 1) := by decide +kernel
theorem d_7_51 : decode method_7_code 51 = .ok (.aload_n 2, 1) := by decide +kernel
theorem d_7_52 : decode method_7_code 52 = .ok (.iload_n 3, 1) := by decide +kernel
theorem d_7_53 : decode method_7_code 53 = .ok (.iload 4, 2) := by decide +kernel
theorem d_7_55 : decode method_7_code 55 = .ok (.iconst 1, 1) := by decide +kernel
theorem d_7_56 : decode method_7_code 56 = .ok (.iadd, 1) := by decide +kernel
theorem d_7_57 : decode method_7_code 57 = .ok (.invokestatic 42, 3) := by decide +kernel
theorem d_7_60 : decode method_7_code 60 = .ok (.ifCond .ne 69, 3) := by decide +kernel
theorem d_7_63 : decode method_7_code 63 = .ok (.iload 4, 2) := by decide +kernel
theorem d_7_65 : decode method_7_code 65 = .ok (.iconst 2, 1) := by decide +kernel
theorem d_7_66 : decode method_7_code 66 = .ok (.iadd, 1) := by decide +kernel
theorem d_7_67 : decode method_7_code 67 = .ok (.iload_n 3, 1) := by decide +kernel
theorem d_7_68 : decode method_7_code 68 = .ok (.if_icmp .gt 17, 3) := by decide +kernel
theorem d_7_71 : decode method_7_code 71 = .ok (.aload_n 0, 1) := by decide +kernel
theorem d_7_72 : decode method_7_code 72 = .ok (.iload_n 1, 1) := by decide +kernel
theorem d_7_73 : decode method_7_code 73 = .ok (.aload_n 2, 1) := by decide +kernel
theorem d_7_74 : decode method_7_code 74 = .ok (.iload_n 3, 1) := by decide +kernel
theorem d_7_75 : decode method_7_code 75 = .ok (.iload 4, 2) := by decide +kernel
theorem d_7_77 : decode method_7_code 77 = .ok (.iconst 2, 1) := by decide +kernel
theorem d_7_78 : decode method_7_code 78 = .ok (.iadd, 1) := by decide +kernel
theorem d_7_79 : decode method_7_code 79 = .ok (.invokestatic 42, 3) := by decide +kernel
theorem d_7_82 : decode method_7_code 82 = .ok (.ifCond .ne 47, 3) := by decide +kernel
theorem d_7_85 : decode method_7_code 85 = .ok (.iload 4, 2) := by decide +kernel
theorem d_7_87 : decode method_7_code 87 = .ok (.iconst 3, 1) := by decide +kernel
theorem d_7_88 : decode method_7_code 88 = .ok (.iadd, 1) := by decide +kernel
theorem d_7_89 : decode method_7_code 89 = .ok (.iload_n 3, 1) := by decide +kernel
theorem d_7_90 : decode method_7_code 90 = .ok (.if_icmp .gt 17, 3) := by decide +kernel
theorem d_7_93 : decode method_7_code 93 = .ok (.aload_n 0, 1) := by decide +kernel
theorem d_7_94 : decode method_7_code 94 = .ok (.iload_n 1, 1) := by decide +kernel
theorem d_7_95 : decode method_7_code 95 = .ok (.aload_n 2, 1) := by decide +kernel
theorem d_7_96 : decode method_7_code 96 = .ok (.iload_n 3, 1) := by decide +kernel
theorem d_7_97 : decode method_7_code 97 = .ok (.iload 4, 2) := by decide +kernel
theorem d_7_99 : decode method_7_code 99 = .ok (.iconst 3, 1) := by decide +kernel
theorem d_7_100 : decode method_7_code 100 = .ok (.iadd, 1) := by decide +kernel
theorem d_7_101 : decode method_7_code 101 = .ok (.invokestatic 42, 3) := by decide +kernel
theorem d_7_104 : decode method_7_code 104 = .ok (.ifCond .ne 25, 3) := by decide +kernel
theorem d_7_107 : decode method_7_code 107 = .ok (.iload 4, 2) := by decide +kernel
theorem d_7_109 : decode method_7_code 109 = .ok (.iconst 4, 1) := by decide +kernel
theorem d_7_110 : decode method_7_code 110 = .ok (.iadd, 1) := by decide +kernel
theorem d_7_111 : decode method_7_code 111 = .ok (.iload_n 3, 1) := by decide +kernel
theorem d_7_112 : decode method_7_code 112 = .ok (.if_icmp .gt 21, 3) := by decide +kernel
theorem d_7_115 : decode method_7_code 115 = .ok (.aload_n 0, 1) := by decide +kernel
theorem d_7_116 : decode method_7_code 116 = .ok (.iload_n 1, 1) := by decide +kernel
theorem d_7_117 : decode method_7_code 117 = .ok (.aload_n 2, 1) := by decide +kernel
theorem d_7_118 : decode method_7_code 118 = .ok (.iload_n 3, 1) := by decide +kernel
theorem d_7_119 : decode method_7_code 119 = .ok (.iload 4, 2) := by decide +kernel
theorem d_7_121 : decode method_7_code 121 = .ok (.iconst 4, 1) := by decide +kernel
theorem d_7_122 : decode method_7_code 122 = .ok (.iadd, 1) := by decide +kernel
theorem d_7_123 : decode method_7_code 123 = .ok (.invokestatic 42, 3) := by decide +kernel
theorem d_7_126 : decode method_7_code 126 = .ok (.ifCond .eq 7, 3) := by decide +kernel
theorem d_7_133 : decode method_7_code 133 = .ok (.iconst 0, 1) := by decide +kernel
theorem d_7_135 : decode method_7_code 135 = .ok (.iload 4, 2) := by decide +kernel
theorem d_7_137 : decode method_7_code 137 = .ok (.iload_n 3, 1) := by decide +kernel
theorem d_7_138 : decode method_7_code 138 = .ok (.if_icmp .ge 30, 3) := by decide +kernel
theorem d_7_141 : decode method_7_code 141 = .ok (.aload_n 2, 1) := by decide +kernel
theorem d_7_142 : decode method_7_code 142 = .ok (.iload 4, 2) := by decide +kernel
theorem d_7_144 : decode method_7_code 144 = .ok (.caload, 1) := by decide +kernel
theorem d_7_145 : decode method_7_code 145 = .ok (.iload 5, 2) := by decide +kernel
theorem d_7_147 : decode method_7_code 147 = .ok (.if_icmp .ne 21, 3) := by decide +kernel
theorem d_7_150 : decode method_7_code 150 = .ok (.aload_n 0, 1) := by decide +kernel
theorem d_7_151 : decode method_7_code 151 = .ok (.iload_n 1, 1) := by decide +kernel
theorem d_7_152 : decode method_7_code 152 = .ok (.aload_n 2, 1) := by decide +kernel
theorem d_7_153 : decode method_7_code 153 = .ok (.iload_n 3, 1) := by decide +kernel
theorem d_7_154 : decode method_7_code 154 = .ok (.iload 4, 2) := by decide +kernel
theorem d_7_156 : decode method_7_code 156 = .ok (.iconst 1, 1) := by decide +kernel
theorem d_7_157 : decode method_7_code 157 = .ok (.iadd, 1) := by decide +kernel
theorem d_7_158 : decode method_7_code 158 = .ok (.invokestatic 42, 3) := by decide +kernel
theorem d_7_161 : decode method_7_code 161 = .ok (.ifCond .eq 7, 3) := by decide +kernel
theorem d_7_164 : decode method_7_code 164 = .ok (.iconst 1, 1) := by decide +kernel
theorem d_7_165 : decode method_7_code 165 = .ok (.goto 4, 3) := by decide +kernel
theorem d_7_169 : decode method_7_code 169 = .ok (.ireturn, 1) := by decide +kernel
theorem d_7_168 : decode method_7_code 168 = .ok (.iconst 0, 1) := by decide +kernel
set_option maxRecDepth 65536 in
set_option maxHeartbeats 40000000 in
theorem rm_m1 (l : Launch) (Z : State) (a0 : Array Value) (hw : ∀ d ∈ tables_1, d.before a0 Z = true) (ws : List Jvm.Cond) (up : Addr) (kp : ClassId) (un : Addr) (kn : ClassId) (c0_ c1_ c2_ c3_ d0_ d1_ d2_ d3_ : Int32) (pl nl j : Nat) (h0 : Heap) (n0 : Nat) (Z0 : n0 ≤ h0.size) (hk : 1 ≤ pl) (h4 : pl ≤ 4) (hj : j ≤ nl) (hn : nl ≤ 4) (Ap : Arv Z h0 up kp .char (4 : Int32) [(.int c0_), (.int c1_), (.int c2_), (.int c3_)] (.int (0 : Int32))) (An : Arv Z h0 un kn .char (4 : Int32) [(.int d0_), (.int d1_), (.int d2_), (.int d3_)] (.int (0 : Int32))) :
    own_Met l Z (⟨"com/example/fathomsearch/fathomsearch/NamePatternMatchesPinLaw", "m1", "([CI[CII)Z"⟩ : MethodName) method_7_code 6 (some .boolean) ws ({ frames := 3, cells := 0, slots := 0, locals := 47 } : Room) #[(.ref up), (.int (Int32.ofNat pl)), (.ref un), (.int (Int32.ofNat nl)), (.int (Int32.ofNat j))] h0 (Q_m1 Z up kp un kn c0_ c1_ c2_ c3_ d0_ d1_ d2_ d3_ pl nl j h0 n0) := by
  refine own_enter (own := "com/example/fathomsearch/fathomsearch/NamePatternMatchesPinLaw") (plainFor_of_name pn_0) rfl ?_
  intro p e s m below meth c s₁ hlk hret hx hby hml hown hnm hZ X0 e0
  have N0 := Fr.nil n0
  refine own_cast (ef_m1 m up un pl nl j) ?_
  show own_Go _ _ _ _ (s₁.setTop (mkF m 0 #[.val (.ref up), .val (.int (Int32.ofNat pl)), .val (.ref un), .val (.int (Int32.ofNat nl)), .val (.int (Int32.ofNat j)), .unset] []))
  refine own_go (fun t k => XS.iloadN X0.here hx rfl (hb hby d_7_0) rfl k) ?_
  refine own_go (fun t k => XS.iconst X0.here hx rfl (hb hby d_7_1) k) ?_
  by_cases e1 : pl = 1
  · show own_Go _ _ _ _ (s₁.setTop (mkF m 2 #[.val (.ref up), .val (.int (Int32.ofNat pl)), .val (.ref un), .val (.int (Int32.ofNat nl)), .val (.int (Int32.ofNat j)), .unset] [(.int (1 : Int32)), (.int (Int32.ofNat pl))]))
    refine own_go (fun t k => XS.icmpNo X0.here hx rfl (hb hby d_7_2) rfl (teq ((own_eqn (a := pl) (b := 1) e1) : (Int32.ofNat pl) = (1 : Int32))).2 k) ?_
    refine own_go (fun t k => XS.iload X0.here hx rfl (hb hby d_7_5) rfl k) ?_
    refine own_go (fun t k => XS.iloadN X0.here hx rfl (hb hby d_7_7) rfl k) ?_
    by_cases e2 : j = nl
    · show own_Go _ _ _ _ (s₁.setTop (mkF m 8 #[.val (.ref up), .val (.int (Int32.ofNat pl)), .val (.ref un), .val (.int (Int32.ofNat nl)), .val (.int (Int32.ofNat j)), .unset] [(.int (Int32.ofNat nl)), (.int (Int32.ofNat j))]))
      refine own_go (fun t k => XS.icmpNo X0.here hx rfl (hb hby d_7_8) rfl (teq ((own_eqn (a := j) (b := nl) e2) : (Int32.ofNat j) = (Int32.ofNat nl))).2 k) ?_
      refine own_go (fun t k => XS.iconst X0.here hx rfl (hb hby d_7_11) k) ?_
      refine own_go (fun t k => XS.goto X0.here hx rfl (pc0 := 12) (pc' := 16) rfl (hb hby d_7_12) (by decide) (by decide) k) ?_
      show own_Go _ _ _ _ (s₁.setTop (mkF m 16 #[.val (.ref up), .val (.int (Int32.ofNat pl)), .val (.ref un), .val (.int (Int32.ofNat nl)), .val (.int (Int32.ofNat j)), .unset] [(.int (1 : Int32))]))
      refine own_retN X0 hx hlk (t := .boolean) hret (by simp) (hb hby d_7_16) ?_ (by decide) (by decide)
      rw [e0]
      exact ⟨1, rfl, N0, Or.inl ⟨rfl, (own_gend e1).mpr e2⟩, rfl⟩
    · show own_Go _ _ _ _ (s₁.setTop (mkF m 8 #[.val (.ref up), .val (.int (Int32.ofNat pl)), .val (.ref un), .val (.int (Int32.ofNat nl)), .val (.int (Int32.ofNat j)), .unset] [(.int (Int32.ofNat nl)), (.int (Int32.ofNat j))]))
      refine own_go (fun t k => XS.icmpYes X0.here hx rfl (pc0 := 8) (pc' := 15) rfl (hb hby d_7_8) rfl (feq ((fun q => e2 (own_inj (a := j) (b := nl) (by omega) (by omega) q)) : ¬ ((Int32.ofNat j) = (Int32.ofNat nl)))).2 (by decide) (by decide) k) ?_
      refine own_go (fun t k => XS.iconst X0.here hx rfl (hb hby d_7_15) k) ?_
      show own_Go _ _ _ _ (s₁.setTop (mkF m 16 #[.val (.ref up), .val (.int (Int32.ofNat pl)), .val (.ref un), .val (.int (Int32.ofNat nl)), .val (.int (Int32.ofNat j)), .unset] [(.int (0 : Int32))]))
      refine own_retN X0 hx hlk (t := .boolean) hret (by simp) (hb hby d_7_16) ?_ (by decide) (by decide)
      rw [e0]
      exact ⟨0, rfl, N0, Or.inr ⟨rfl, fun q => e2 ((own_gend e1).mp q)⟩, rfl⟩
  · have hlt : 1 < pl := by omega
    show own_Go _ _ _ _ (s₁.setTop (mkF m 2 #[.val (.ref up), .val (.int (Int32.ofNat pl)), .val (.ref un), .val (.int (Int32.ofNat nl)), .val (.int (Int32.ofNat j)), .unset] [(.int (1 : Int32)), (.int (Int32.ofNat pl))]))
    refine own_go (fun t k => XS.icmpYes X0.here hx rfl (pc0 := 2) (pc' := 17) rfl (hb hby d_7_2) rfl (feq ((fun q => e1 (own_inj (a := pl) (b := 1) (by omega) (by omega) q)) : ¬ ((Int32.ofNat pl) = (1 : Int32)))).2 (by decide) (by decide) k) ?_
    refine own_go (fun t k => XS.aloadN X0.here hx rfl (hb hby d_7_17) rfl rfl k) ?_
    refine own_go (fun t k => XS.iconst X0.here hx rfl (hb hby d_7_18) k) ?_
    show own_Go _ _ _ _ (s₁.setTop (mkF m 19 #[.val (.ref up), .val (.int (Int32.ofNat pl)), .val (.ref un), .val (.int (Int32.ofNat nl)), .val (.int (Int32.ofNat j)), .unset] [(.int (1 : Int32)), (.ref up)]))
    obtain ⟨cl206, Ar206, qk206, sz206, nn206, ha206, gf206⟩ := id Ap
    have hin206 : ¬ ((1 : Int32) < 0 ∨ cl206.slots.size ≤ ((1 : Int32)).toNatClampNeg) := inb_of sz206 ⟨by decide, by decide⟩
    have hat206 : cl206.slots[((1 : Int32)).toNatClampNeg]? = some (.int c1_) := ha206.at hin206 rfl
    refine own_go (X0.caload hx (j := (1 : Int32)) (v := (.int c1_)) (by rw [e0]; exact Ar206.1) (State.isArrayOf_alike hZ.alike Ar206.2.1) Ar206.2.2 hin206 hat206 (g := (mkF m 19 #[.val (.ref up), .val (.int (Int32.ofNat pl)), .val (.ref un), .val (.int (Int32.ofNat nl)), .val (.int (Int32.ofNat j)), .unset] [(.int (1 : Int32)), (.ref up)])) rfl rfl (hb hby d_7_19)) ?_
    refine own_go (fun t k => XS.istore X0.here hx rfl (hb hby d_7_20) rfl (l' := #[.val (.ref up), .val (.int (Int32.ofNat pl)), .val (.ref un), .val (.int (Int32.ofNat nl)), .val (.int (Int32.ofNat j)), .val (.int c1_)]) rfl k) ?_
    refine own_go (fun t k => XS.iload X0.here hx rfl (hb hby d_7_22) rfl k) ?_
    refine own_go (fun t k => XS.bipush X0.here hx rfl (hb hby d_7_24) k) ?_
    by_cases e3 : c1_ = 42
    · show own_Go _ _ _ _ (s₁.setTop (mkF m 26 #[.val (.ref up), .val (.int (Int32.ofNat pl)), .val (.ref un), .val (.int (Int32.ofNat nl)), .val (.int (Int32.ofNat j)), .val (.int c1_)] [(.int (42 : Int32)), (.int c1_)]))
      refine own_go (fun t k => XS.icmpNo X0.here hx rfl (hb hby d_7_26) rfl (teq (e3 : c1_ = (42 : Int32))).2 k) ?_
      refine own_go (fun t k => XS.aloadN X0.here hx rfl (hb hby d_7_29) rfl rfl k) ?_
      refine own_go (fun t k => XS.iloadN X0.here hx rfl (hb hby d_7_30) rfl k) ?_
      refine own_go (fun t k => XS.aloadN X0.here hx rfl (hb hby d_7_31) rfl rfl k) ?_
      show own_Go _ _ _ _ (s₁.setTop (mkF m 32 #[.val (.ref up), .val (.int (Int32.ofNat pl)), .val (.ref un), .val (.int (Int32.ofNat nl)), .val (.int (Int32.ofNat j)), .val (.int c1_)] [(.ref un), (.int (Int32.ofNat pl)), (.ref up)]))
      refine own_go (fun t k => XS.iloadN X0.here hx rfl (hb hby d_7_32) rfl k) ?_
      refine own_go (fun t k => XS.iload X0.here hx rfl (hb hby d_7_33) rfl k) ?_
      obtain ⟨_, _, ⟨T207, L207, k207, n207⟩, -, X207, ⟨Lc207, hQ207, l207, y207, z207⟩, st207⟩ := Jvm.LawKit.callS X0 hx (y := (⟨"com/example/fathomsearch/fathomsearch/NamePatternMatchesPinLaw", "m2", "([CI[CII)Z"⟩ : MethodName)) hown (mvT hZ (w_87 hw)) (mvT hZ (w_88 hw)) (mvT hZ (w_3 hw)) (mvT hZ (w_89 hw)) (by decide) (backOf (W := 0) (rm_m2 l Z a0 hw [] up kp un kn c0_ c1_ c2_ c3_ d0_ d1_ d2_ d3_ pl nl j h0 n0 Z0 (by omega) (by omega) (by omega) (by omega) Ap An) hZ (w_89 hw) (w_3 hw) (by decide) (by decide)) (g := (mkF m 35 #[.val (.ref up), .val (.int (Int32.ofNat pl)), .val (.ref un), .val (.int (Int32.ofNat nl)), .val (.int (Int32.ofNat j)), .val (.int c1_)] [(.int (Int32.ofNat j)), (.int (Int32.ofNat nl)), (.ref un), (.int (Int32.ofNat pl)), (.ref up)])) rfl (by rw [hml]; rfl) (argsL := [(.ref up), (.int (Int32.ofNat pl)), (.ref un), (.int (Int32.ofNat nl)), (.int (Int32.ofNat j))]) (rest := []) (lenOf pd_3 rfl) rfl (by show 2 * 0 + _ ≤ _; exact Nat.le_of_eq rfl) (hb hby d_7_35) (fun _ _ => ⟨rfl, e0, (by decide : 0 + 0 ≤ _), (by decide : 0 + 0 ≤ _)⟩)
      dsimp only [Pt.U, Pt.locs, Pt.cells, Pt.slots] at X207 l207 y207 z207 st207 hQ207
      subst l207 y207 z207
      obtain ⟨iv207, rfl, N207q, hV207, e207⟩ := hQ207
      have N207 := Fr.app N0 N207q
      refine own_go st207 ?_
      rcases hV207 with ⟨rfl, t207⟩ | ⟨rfl, t207⟩
      · show own_Go _ _ _ _ (T207.setTop (mkF m 38 #[.val (.ref up), .val (.int (Int32.ofNat pl)), .val (.ref un), .val (.int (Int32.ofNat nl)), .val (.int (Int32.ofNat j)), .val (.int c1_)] [(.int (1 : Int32))]))
        refine own_go (fun t k => XS.ifYes X207.here hx rfl (pc0 := 38) (pc' := 129) rfl (hb hby d_7_38) rfl ((if0 _ _).trans (feq (by decide : ¬ ((1 : Int32) = (0 : Int32)))).2) (by decide) (by decide) k) ?_
        refine own_go (fun t k => XS.iconst X207.here hx rfl (hb hby d_7_129) k) ?_
        refine own_go (fun t k => XS.goto X207.here hx rfl (pc0 := 130) (pc' := 134) rfl (hb hby d_7_130) (by decide) (by decide) k) ?_
        show own_Go _ _ _ _ (T207.setTop (mkF m 134 #[.val (.ref up), .val (.int (Int32.ofNat pl)), .val (.ref un), .val (.int (Int32.ofNat nl)), .val (.int (Int32.ofNat j)), .val (.int c1_)] [(.int (1 : Int32))]))
        refine own_retN X207 hx hlk (t := .boolean) hret (by simp) (hb hby d_7_134) ?_ (by decide) (by decide)
        rw [e207]
        exact ⟨1, rfl, N207, Or.inl ⟨rfl, (own_gstar hlt e3).mpr ⟨j + 0, (by omega), (by omega), t207⟩⟩, rfl⟩
      · show own_Go _ _ _ _ (T207.setTop (mkF m 38 #[.val (.ref up), .val (.int (Int32.ofNat pl)), .val (.ref un), .val (.int (Int32.ofNat nl)), .val (.int (Int32.ofNat j)), .val (.int c1_)] [(.int (0 : Int32))]))
        refine own_go (fun t k => XS.ifNo X207.here hx rfl (hb hby d_7_38) rfl ((if0 _ _).trans (teq (by decide : (0 : Int32) = (0 : Int32))).2) k) ?_
        refine own_go (fun t k => XS.iload X207.here hx rfl (hb hby d_7_41) rfl k) ?_
        refine own_go (fun t k => XS.iconst X207.here hx rfl (hb hby d_7_43) k) ?_
        refine own_go (fun t k => XS.iadd X207.here hx rfl (hb hby d_7_44) rfl k) ?_
        show own_Go _ _ _ _ (T207.setTop (mkF m 45 #[.val (.ref up), .val (.int (Int32.ofNat pl)), .val (.ref un), .val (.int (Int32.ofNat nl)), .val (.int (Int32.ofNat j)), .val (.int c1_)] [(.int ((Int32.ofNat j) + (1 : Int32)))]))
        rw [show (Int32.ofNat j) + (1 : Int32) = Int32.ofNat (j + 1) from own_add j 1]
        show own_Go _ _ _ _ (T207.setTop (mkF m 45 #[.val (.ref up), .val (.int (Int32.ofNat pl)), .val (.ref un), .val (.int (Int32.ofNat nl)), .val (.int (Int32.ofNat j)), .val (.int c1_)] [(.int (Int32.ofNat (j + 1)))]))
        refine own_go (fun t k => XS.iloadN X207.here hx rfl (hb hby d_7_45) rfl k) ?_
        by_cases g1 : j + 1 ≤ nl
        · show own_Go _ _ _ _ (T207.setTop (mkF m 46 #[.val (.ref up), .val (.int (Int32.ofNat pl)), .val (.ref un), .val (.int (Int32.ofNat nl)), .val (.int (Int32.ofNat j)), .val (.int c1_)] [(.int (Int32.ofNat nl)), (.int (Int32.ofNat (j + 1)))]))
          refine own_go (fun t k => XS.icmpNo X207.here hx rfl (hb hby d_7_46) rfl (flt ((fun q => absurd ((own_lt (a := nl) (b := j + 1) (by omega) (by omega)).mp q) (by omega)) : ¬ ((Int32.ofNat nl) < (Int32.ofNat (j + 1))))).2.2.1 k) ?_
          refine own_go (fun t k => XS.aloadN X207.here hx rfl (hb hby d_7_49) rfl rfl k) ?_
          refine own_go (fun t k => XS.iloadN X207.here hx rfl (hb hby d_7_50) rfl k) ?_
          refine own_go (fun t k => XS.aloadN X207.here hx rfl (hb hby d_7_51) rfl rfl k) ?_
          show own_Go _ _ _ _ (T207.setTop (mkF m 52 #[.val (.ref up), .val (.int (Int32.ofNat pl)), .val (.ref un), .val (.int (Int32.ofNat nl)), .val (.int (Int32.ofNat j)), .val (.int c1_)] [(.ref un), (.int (Int32.ofNat pl)), (.ref up)]))
          refine own_go (fun t k => XS.iloadN X207.here hx rfl (hb hby d_7_52) rfl k) ?_
          refine own_go (fun t k => XS.iload X207.here hx rfl (hb hby d_7_53) rfl k) ?_
          refine own_go (fun t k => XS.iconst X207.here hx rfl (hb hby d_7_55) k) ?_
          refine own_go (fun t k => XS.iadd X207.here hx rfl (hb hby d_7_56) rfl k) ?_
          show own_Go _ _ _ _ (T207.setTop (mkF m 57 #[.val (.ref up), .val (.int (Int32.ofNat pl)), .val (.ref un), .val (.int (Int32.ofNat nl)), .val (.int (Int32.ofNat j)), .val (.int c1_)] [(.int ((Int32.ofNat j) + (1 : Int32))), (.int (Int32.ofNat nl)), (.ref un), (.int (Int32.ofNat pl)), (.ref up)]))
          rw [show (Int32.ofNat j) + (1 : Int32) = Int32.ofNat (j + 1) from own_add j 1]
          show own_Go _ _ _ _ (T207.setTop (mkF m 57 #[.val (.ref up), .val (.int (Int32.ofNat pl)), .val (.ref un), .val (.int (Int32.ofNat nl)), .val (.int (Int32.ofNat j)), .val (.int c1_)] [(.int (Int32.ofNat (j + 1))), (.int (Int32.ofNat nl)), (.ref un), (.int (Int32.ofNat pl)), (.ref up)]))
          obtain ⟨_, _, ⟨T208, L208, k208, n208⟩, -, X208, ⟨Lc208, hQ208, l208, y208, z208⟩, st208⟩ := Jvm.LawKit.callS X207 hx (y := (⟨"com/example/fathomsearch/fathomsearch/NamePatternMatchesPinLaw", "m2", "([CI[CII)Z"⟩ : MethodName)) hown (mvT hZ (w_87 hw)) (mvT hZ (w_88 hw)) (mvT hZ (w_3 hw)) (mvT hZ (w_89 hw)) (by decide) (backOf (W := 0) (rm_m2 l Z a0 hw [] up kp un kn c0_ c1_ c2_ c3_ d0_ d1_ d2_ d3_ pl nl (j + 1) h0 n0 Z0 (by omega) (by omega) (by omega) (by omega) Ap An) hZ (w_89 hw) (w_3 hw) (by decide) (by decide)) (g := (mkF m 57 #[.val (.ref up), .val (.int (Int32.ofNat pl)), .val (.ref un), .val (.int (Int32.ofNat nl)), .val (.int (Int32.ofNat j)), .val (.int c1_)] [(.int (Int32.ofNat (j + 1))), (.int (Int32.ofNat nl)), (.ref un), (.int (Int32.ofNat pl)), (.ref up)])) rfl (by rw [hml]; rfl) (argsL := [(.ref up), (.int (Int32.ofNat pl)), (.ref un), (.int (Int32.ofNat nl)), (.int (Int32.ofNat (j + 1)))]) (rest := []) (lenOf pd_3 rfl) rfl (by show 2 * 0 + _ ≤ _; exact Nat.le_of_eq rfl) (hb hby d_7_57) (fun _ _ => ⟨rfl, e207, (by decide : 0 + 0 ≤ _), (by decide : 0 + 0 ≤ _)⟩)
          dsimp only [Pt.U, Pt.locs, Pt.cells, Pt.slots] at X208 l208 y208 z208 st208 hQ208
          subst l208 y208 z208
          obtain ⟨iv208, rfl, N208q, hV208, e208⟩ := hQ208
          have N208 := Fr.app N207 N208q
          refine own_go st208 ?_
          rcases hV208 with ⟨rfl, t208⟩ | ⟨rfl, t208⟩
          · show own_Go _ _ _ _ (T208.setTop (mkF m 60 #[.val (.ref up), .val (.int (Int32.ofNat pl)), .val (.ref un), .val (.int (Int32.ofNat nl)), .val (.int (Int32.ofNat j)), .val (.int c1_)] [(.int (1 : Int32))]))
            refine own_go (fun t k => XS.ifYes X208.here hx rfl (pc0 := 60) (pc' := 129) rfl (hb hby d_7_60) rfl ((if0 _ _).trans (feq (by decide : ¬ ((1 : Int32) = (0 : Int32)))).2) (by decide) (by decide) k) ?_
            refine own_go (fun t k => XS.iconst X208.here hx rfl (hb hby d_7_129) k) ?_
            refine own_go (fun t k => XS.goto X208.here hx rfl (pc0 := 130) (pc' := 134) rfl (hb hby d_7_130) (by decide) (by decide) k) ?_
            show own_Go _ _ _ _ (T208.setTop (mkF m 134 #[.val (.ref up), .val (.int (Int32.ofNat pl)), .val (.ref un), .val (.int (Int32.ofNat nl)), .val (.int (Int32.ofNat j)), .val (.int c1_)] [(.int (1 : Int32))]))
            refine own_retN X208 hx hlk (t := .boolean) hret (by simp) (hb hby d_7_134) ?_ (by decide) (by decide)
            rw [e208]
            exact ⟨1, rfl, N208, Or.inl ⟨rfl, (own_gstar hlt e3).mpr ⟨j + 1, (by omega), (by omega), t208⟩⟩, rfl⟩
          · show own_Go _ _ _ _ (T208.setTop (mkF m 60 #[.val (.ref up), .val (.int (Int32.ofNat pl)), .val (.ref un), .val (.int (Int32.ofNat nl)), .val (.int (Int32.ofNat j)), .val (.int c1_)] [(.int (0 : Int32))]))
            refine own_go (fun t k => XS.ifNo X208.here hx rfl (hb hby d_7_60) rfl ((if0 _ _).trans (teq (by decide : (0 : Int32) = (0 : Int32))).2) k) ?_
            refine own_go (fun t k => XS.iload X208.here hx rfl (hb hby d_7_63) rfl k) ?_
            refine own_go (fun t k => XS.iconst X208.here hx rfl (hb hby d_7_65) k) ?_
            refine own_go (fun t k => XS.iadd X208.here hx rfl (hb hby d_7_66) rfl k) ?_
            show own_Go _ _ _ _ (T208.setTop (mkF m 67 #[.val (.ref up), .val (.int (Int32.ofNat pl)), .val (.ref un), .val (.int (Int32.ofNat nl)), .val (.int (Int32.ofNat j)), .val (.int c1_)] [(.int ((Int32.ofNat j) + (2 : Int32)))]))
            rw [show (Int32.ofNat j) + (2 : Int32) = Int32.ofNat (j + 2) from own_add j 2]
            show own_Go _ _ _ _ (T208.setTop (mkF m 67 #[.val (.ref up), .val (.int (Int32.ofNat pl)), .val (.ref un), .val (.int (Int32.ofNat nl)), .val (.int (Int32.ofNat j)), .val (.int c1_)] [(.int (Int32.ofNat (j + 2)))]))
            refine own_go (fun t k => XS.iloadN X208.here hx rfl (hb hby d_7_67) rfl k) ?_
            by_cases g2 : j + 2 ≤ nl
            · show own_Go _ _ _ _ (T208.setTop (mkF m 68 #[.val (.ref up), .val (.int (Int32.ofNat pl)), .val (.ref un), .val (.int (Int32.ofNat nl)), .val (.int (Int32.ofNat j)), .val (.int c1_)] [(.int (Int32.ofNat nl)), (.int (Int32.ofNat (j + 2)))]))
              refine own_go (fun t k => XS.icmpNo X208.here hx rfl (hb hby d_7_68) rfl (flt ((fun q => absurd ((own_lt (a := nl) (b := j + 2) (by omega) (by omega)).mp q) (by omega)) : ¬ ((Int32.ofNat nl) < (Int32.ofNat (j + 2))))).2.2.1 k) ?_
              refine own_go (fun t k => XS.aloadN X208.here hx rfl (hb hby d_7_71) rfl rfl k) ?_
              refine own_go (fun t k => XS.iloadN X208.here hx rfl (hb hby d_7_72) rfl k) ?_
              refine own_go (fun t k => XS.aloadN X208.here hx rfl (hb hby d_7_73) rfl rfl k) ?_
              show own_Go _ _ _ _ (T208.setTop (mkF m 74 #[.val (.ref up), .val (.int (Int32.ofNat pl)), .val (.ref un), .val (.int (Int32.ofNat nl)), .val (.int (Int32.ofNat j)), .val (.int c1_)] [(.ref un), (.int (Int32.ofNat pl)), (.ref up)]))
              refine own_go (fun t k => XS.iloadN X208.here hx rfl (hb hby d_7_74) rfl k) ?_
              refine own_go (fun t k => XS.iload X208.here hx rfl (hb hby d_7_75) rfl k) ?_
              refine own_go (fun t k => XS.iconst X208.here hx rfl (hb hby d_7_77) k) ?_
              refine own_go (fun t k => XS.iadd X208.here hx rfl (hb hby d_7_78) rfl k) ?_
              show own_Go _ _ _ _ (T208.setTop (mkF m 79 #[.val (.ref up), .val (.int (Int32.ofNat pl)), .val (.ref un), .val (.int (Int32.ofNat nl)), .val (.int (Int32.ofNat j)), .val (.int c1_)] [(.int ((Int32.ofNat j) + (2 : Int32))), (.int (Int32.ofNat nl)), (.ref un), (.int (Int32.ofNat pl)), (.ref up)]))
              rw [show (Int32.ofNat j) + (2 : Int32) = Int32.ofNat (j + 2) from own_add j 2]
              show own_Go _ _ _ _ (T208.setTop (mkF m 79 #[.val (.ref up), .val (.int (Int32.ofNat pl)), .val (.ref un), .val (.int (Int32.ofNat nl)), .val (.int (Int32.ofNat j)), .val (.int c1_)] [(.int (Int32.ofNat (j + 2))), (.int (Int32.ofNat nl)), (.ref un), (.int (Int32.ofNat pl)), (.ref up)]))
              obtain ⟨_, _, ⟨T209, L209, k209, n209⟩, -, X209, ⟨Lc209, hQ209, l209, y209, z209⟩, st209⟩ := Jvm.LawKit.callS X208 hx (y := (⟨"com/example/fathomsearch/fathomsearch/NamePatternMatchesPinLaw", "m2", "([CI[CII)Z"⟩ : MethodName)) hown (mvT hZ (w_87 hw)) (mvT hZ (w_88 hw)) (mvT hZ (w_3 hw)) (mvT hZ (w_89 hw)) (by decide) (backOf (W := 0) (rm_m2 l Z a0 hw [] up kp un kn c0_ c1_ c2_ c3_ d0_ d1_ d2_ d3_ pl nl (j + 2) h0 n0 Z0 (by omega) (by omega) (by omega) (by omega) Ap An) hZ (w_89 hw) (w_3 hw) (by decide) (by decide)) (g := (mkF m 79 #[.val (.ref up), .val (.int (Int32.ofNat pl)), .val (.ref un), .val (.int (Int32.ofNat nl)), .val (.int (Int32.ofNat j)), .val (.int c1_)] [(.int (Int32.ofNat (j + 2))), (.int (Int32.ofNat nl)), (.ref un), (.int (Int32.ofNat pl)), (.ref up)])) rfl (by rw [hml]; rfl) (argsL := [(.ref up), (.int (Int32.ofNat pl)), (.ref un), (.int (Int32.ofNat nl)), (.int (Int32.ofNat (j + 2)))]) (rest := []) (lenOf pd_3 rfl) rfl (by show 2 * 0 + _ ≤ _; exact Nat.le_of_eq rfl) (hb hby d_7_79) (fun _ _ => ⟨rfl, e208, (by decide : 0 + 0 ≤ _), (by decide : 0 + 0 ≤ _)⟩)
              dsimp only [Pt.U, Pt.locs, Pt.cells, Pt.slots] at X209 l209 y209 z209 st209 hQ209
              subst l209 y209 z209
              obtain ⟨iv209, rfl, N209q, hV209, e209⟩ := hQ209
              have N209 := Fr.app N208 N209q
              refine own_go st209 ?_
              rcases hV209 with ⟨rfl, t209⟩ | ⟨rfl, t209⟩
              · show own_Go _ _ _ _ (T209.setTop (mkF m 82 #[.val (.ref up), .val (.int (Int32.ofNat pl)), .val (.ref un), .val (.int (Int32.ofNat nl)), .val (.int (Int32.ofNat j)), .val (.int c1_)] [(.int (1 : Int32))]))
                refine own_go (fun t k => XS.ifYes X209.here hx rfl (pc0 := 82) (pc' := 129) rfl (hb hby d_7_82) rfl ((if0 _ _).trans (feq (by decide : ¬ ((1 : Int32) = (0 : Int32)))).2) (by decide) (by decide) k) ?_
                refine own_go (fun t k => XS.iconst X209.here hx rfl (hb hby d_7_129) k) ?_
                refine own_go (fun t k => XS.goto X209.here hx rfl (pc0 := 130) (pc' := 134) rfl (hb hby d_7_130) (by decide) (by decide) k) ?_
                show own_Go _ _ _ _ (T209.setTop (mkF m 134 #[.val (.ref up), .val (.int (Int32.ofNat pl)), .val (.ref un), .val (.int (Int32.ofNat nl)), .val (.int (Int32.ofNat j)), .val (.int c1_)] [(.int (1 : Int32))]))
                refine own_retN X209 hx hlk (t := .boolean) hret (by simp) (hb hby d_7_134) ?_ (by decide) (by decide)
                rw [e209]
                exact ⟨1, rfl, N209, Or.inl ⟨rfl, (own_gstar hlt e3).mpr ⟨j + 2, (by omega), (by omega), t209⟩⟩, rfl⟩
              · show own_Go _ _ _ _ (T209.setTop (mkF m 82 #[.val (.ref up), .val (.int (Int32.ofNat pl)), .val (.ref un), .val (.int (Int32.ofNat nl)), .val (.int (Int32.ofNat j)), .val (.int c1_)] [(.int (0 : Int32))]))
                refine own_go (fun t k => XS.ifNo X209.here hx rfl (hb hby d_7_82) rfl ((if0 _ _).trans (teq (by decide : (0 : Int32) = (0 : Int32))).2) k) ?_
                refine own_go (fun t k => XS.iload X209.here hx rfl (hb hby d_7_85) rfl k) ?_
                refine own_go (fun t k => XS.iconst X209.here hx rfl (hb hby d_7_87) k) ?_
                refine own_go (fun t k => XS.iadd X209.here hx rfl (hb hby d_7_88) rfl k) ?_
                show own_Go _ _ _ _ (T209.setTop (mkF m 89 #[.val (.ref up), .val (.int (Int32.ofNat pl)), .val (.ref un), .val (.int (Int32.ofNat nl)), .val (.int (Int32.ofNat j)), .val (.int c1_)] [(.int ((Int32.ofNat j) + (3 : Int32)))]))
                rw [show (Int32.ofNat j) + (3 : Int32) = Int32.ofNat (j + 3) from own_add j 3]
                show own_Go _ _ _ _ (T209.setTop (mkF m 89 #[.val (.ref up), .val (.int (Int32.ofNat pl)), .val (.ref un), .val (.int (Int32.ofNat nl)), .val (.int (Int32.ofNat j)), .val (.int c1_)] [(.int (Int32.ofNat (j + 3)))]))
                refine own_go (fun t k => XS.iloadN X209.here hx rfl (hb hby d_7_89) rfl k) ?_
                by_cases g3 : j + 3 ≤ nl
                · show own_Go _ _ _ _ (T209.setTop (mkF m 90 #[.val (.ref up), .val (.int (Int32.ofNat pl)), .val (.ref un), .val (.int (Int32.ofNat nl)), .val (.int (Int32.ofNat j)), .val (.int c1_)] [(.int (Int32.ofNat nl)), (.int (Int32.ofNat (j + 3)))]))
                  refine own_go (fun t k => XS.icmpNo X209.here hx rfl (hb hby d_7_90) rfl (flt ((fun q => absurd ((own_lt (a := nl) (b := j + 3) (by omega) (by omega)).mp q) (by omega)) : ¬ ((Int32.ofNat nl) < (Int32.ofNat (j + 3))))).2.2.1 k) ?_
                  refine own_go (fun t k => XS.aloadN X209.here hx rfl (hb hby d_7_93) rfl rfl k) ?_
                  refine own_go (fun t k => XS.iloadN X209.here hx rfl (hb hby d_7_94) rfl k) ?_
                  refine own_go (fun t k => XS.aloadN X209.here hx rfl (hb hby d_7_95) rfl rfl k) ?_
                  show own_Go _ _ _ _ (T209.setTop (mkF m 96 #[.val (.ref up), .val (.int (Int32.ofNat pl)), .val (.ref un), .val (.int (Int32.ofNat nl)), .val (.int (Int32.ofNat j)), .val (.int c1_)] [(.ref un), (.int (Int32.ofNat pl)), (.ref up)]))
                  refine own_go (fun t k => XS.iloadN X209.here hx rfl (hb hby d_7_96) rfl k) ?_
                  refine own_go (fun t k => XS.iload X209.here hx rfl (hb hby d_7_97) rfl k) ?_
                  refine own_go (fun t k => XS.iconst X209.here hx rfl (hb hby d_7_99) k) ?_
                  refine own_go (fun t k => XS.iadd X209.here hx rfl (hb hby d_7_100) rfl k) ?_
                  show own_Go _ _ _ _ (T209.setTop (mkF m 101 #[.val (.ref up), .val (.int (Int32.ofNat pl)), .val (.ref un), .val (.int (Int32.ofNat nl)), .val (.int (Int32.ofNat j)), .val (.int c1_)] [(.int ((Int32.ofNat j) + (3 : Int32))), (.int (Int32.ofNat nl)), (.ref un), (.int (Int32.ofNat pl)), (.ref up)]))
                  rw [show (Int32.ofNat j) + (3 : Int32) = Int32.ofNat (j + 3) from own_add j 3]
                  show own_Go _ _ _ _ (T209.setTop (mkF m 101 #[.val (.ref up), .val (.int (Int32.ofNat pl)), .val (.ref un), .val (.int (Int32.ofNat nl)), .val (.int (Int32.ofNat j)), .val (.int c1_)] [(.int (Int32.ofNat (j + 3))), (.int (Int32.ofNat nl)), (.ref un), (.int (Int32.ofNat pl)), (.ref up)]))
                  obtain ⟨_, _, ⟨T210, L210, k210, n210⟩, -, X210, ⟨Lc210, hQ210, l210, y210, z210⟩, st210⟩ := Jvm.LawKit.callS X209 hx (y := (⟨"com/example/fathomsearch/fathomsearch/NamePatternMatchesPinLaw", "m2", "([CI[CII)Z"⟩ : MethodName)) hown (mvT hZ (w_87 hw)) (mvT hZ (w_88 hw)) (mvT hZ (w_3 hw)) (mvT hZ (w_89 hw)) (by decide) (backOf (W := 0) (rm_m2 l Z a0 hw [] up kp un kn c0_ c1_ c2_ c3_ d0_ d1_ d2_ d3_ pl nl (j + 3) h0 n0 Z0 (by omega) (by omega) (by omega) (by omega) Ap An) hZ (w_89 hw) (w_3 hw) (by decide) (by decide)) (g := (mkF m 101 #[.val (.ref up), .val (.int (Int32.ofNat pl)), .val (.ref un), .val (.int (Int32.ofNat nl)), .val (.int (Int32.ofNat j)), .val (.int c1_)] [(.int (Int32.ofNat (j + 3))), (.int (Int32.ofNat nl)), (.ref un), (.int (Int32.ofNat pl)), (.ref up)])) rfl (by rw [hml]; rfl) (argsL := [(.ref up), (.int (Int32.ofNat pl)), (.ref un), (.int (Int32.ofNat nl)), (.int (Int32.ofNat (j + 3)))]) (rest := []) (lenOf pd_3 rfl) rfl (by show 2 * 0 + _ ≤ _; exact Nat.le_of_eq rfl) (hb hby d_7_101) (fun _ _ => ⟨rfl, e209, (by decide : 0 + 0 ≤ _), (by decide : 0 + 0 ≤ _)⟩)
                  dsimp only [Pt.U, Pt.locs, Pt.cells, Pt.slots] at X210 l210 y210 z210 st210 hQ210
                  subst l210 y210 z210
                  obtain ⟨iv210, rfl, N210q, hV210, e210⟩ := hQ210
                  have N210 := Fr.app N209 N210q
                  refine own_go st210 ?_
                  rcases hV210 with ⟨rfl, t210⟩ | ⟨rfl, t210⟩
                  · show own_Go _ _ _ _ (T210.setTop (mkF m 104 #[.val (.ref up), .val (.int (Int32.ofNat pl)), .val (.ref un), .val (.int (Int32.ofNat nl)), .val (.int (Int32.ofNat j)), .val (.int c1_)] [(.int (1 : Int32))]))
                    refine own_go (fun t k => XS.ifYes X210.here hx rfl (pc0 := 104) (pc' := 129) rfl (hb hby d_7_104) rfl ((if0 _ _).trans (feq (by decide : ¬ ((1 : Int32) = (0 : Int32)))).2) (by decide) (by decide) k) ?_
                    refine own_go (fun t k => XS.iconst X210.here hx rfl (hb hby d_7_129) k) ?_
                    refine own_go (fun t k => XS.goto X210.here hx rfl (pc0 := 130) (pc' := 134) rfl (hb hby d_7_130) (by decide) (by decide) k) ?_
                    show own_Go _ _ _ _ (T210.setTop (mkF m 134 #[.val (.ref up), .val (.int (Int32.ofNat pl)), .val (.ref un), .val (.int (Int32.ofNat nl)), .val (.int (Int32.ofNat j)), .val (.int c1_)] [(.int (1 : Int32))]))
                    refine own_retN X210 hx hlk (t := .boolean) hret (by simp) (hb hby d_7_134) ?_ (by decide) (by decide)
                    rw [e210]
                    exact ⟨1, rfl, N210, Or.inl ⟨rfl, (own_gstar hlt e3).mpr ⟨j + 3, (by omega), (by omega), t210⟩⟩, rfl⟩
                  · show own_Go _ _ _ _ (T210.setTop (mkF m 104 #[.val (.ref up), .val (.int (Int32.ofNat pl)), .val (.ref un), .val (.int (Int32.ofNat nl)), .val (.int (Int32.ofNat j)), .val (.int c1_)] [(.int (0 : Int32))]))
                    refine own_go (fun t k => XS.ifNo X210.here hx rfl (hb hby d_7_104) rfl ((if0 _ _).trans (teq (by decide : (0 : Int32) = (0 : Int32))).2) k) ?_
                    refine own_go (fun t k => XS.iload X210.here hx rfl (hb hby d_7_107) rfl k) ?_
                    refine own_go (fun t k => XS.iconst X210.here hx rfl (hb hby d_7_109) k) ?_
                    refine own_go (fun t k => XS.iadd X210.here hx rfl (hb hby d_7_110) rfl k) ?_
                    show own_Go _ _ _ _ (T210.setTop (mkF m 111 #[.val (.ref up), .val (.int (Int32.ofNat pl)), .val (.ref un), .val (.int (Int32.ofNat nl)), .val (.int (Int32.ofNat j)), .val (.int c1_)] [(.int ((Int32.ofNat j) + (4 : Int32)))]))
                    rw [show (Int32.ofNat j) + (4 : Int32) = Int32.ofNat (j + 4) from own_add j 4]
                    show own_Go _ _ _ _ (T210.setTop (mkF m 111 #[.val (.ref up), .val (.int (Int32.ofNat pl)), .val (.ref un), .val (.int (Int32.ofNat nl)), .val (.int (Int32.ofNat j)), .val (.int c1_)] [(.int (Int32.ofNat (j + 4)))]))
                    refine own_go (fun t k => XS.iloadN X210.here hx rfl (hb hby d_7_111) rfl k) ?_
                    by_cases g4 : j + 4 ≤ nl
                    · show own_Go _ _ _ _ (T210.setTop (mkF m 112 #[.val (.ref up), .val (.int (Int32.ofNat pl)), .val (.ref un), .val (.int (Int32.ofNat nl)), .val (.int (Int32.ofNat j)), .val (.int c1_)] [(.int (Int32.ofNat nl)), (.int (Int32.ofNat (j + 4)))]))
                      refine own_go (fun t k => XS.icmpNo X210.here hx rfl (hb hby d_7_112) rfl (flt ((fun q => absurd ((own_lt (a := nl) (b := j + 4) (by omega) (by omega)).mp q) (by omega)) : ¬ ((Int32.ofNat nl) < (Int32.ofNat (j + 4))))).2.2.1 k) ?_
                      refine own_go (fun t k => XS.aloadN X210.here hx rfl (hb hby d_7_115) rfl rfl k) ?_
                      refine own_go (fun t k => XS.iloadN X210.here hx rfl (hb hby d_7_116) rfl k) ?_
                      refine own_go (fun t k => XS.aloadN X210.here hx rfl (hb hby d_7_117) rfl rfl k) ?_
                      show own_Go _ _ _ _ (T210.setTop (mkF m 118 #[.val (.ref up), .val (.int (Int32.ofNat pl)), .val (.ref un), .val (.int (Int32.ofNat nl)), .val (.int (Int32.ofNat j)), .val (.int c1_)] [(.ref un), (.int (Int32.ofNat pl)), (.ref up)]))
                      refine own_go (fun t k => XS.iloadN X210.here hx rfl (hb hby d_7_118) rfl k) ?_
                      refine own_go (fun t k => XS.iload X210.here hx rfl (hb hby d_7_119) rfl k) ?_
                      refine own_go (fun t k => XS.iconst X210.here hx rfl (hb hby d_7_121) k) ?_
                      refine own_go (fun t k => XS.iadd X210.here hx rfl (hb hby d_7_122) rfl k) ?_
                      show own_Go _ _ _ _ (T210.setTop (mkF m 123 #[.val (.ref up), .val (.int (Int32.ofNat pl)), .val (.ref un), .val (.int (Int32.ofNat nl)), .val (.int (Int32.ofNat j)), .val (.int c1_)] [(.int ((Int32.ofNat j) + (4 : Int32))), (.int (Int32.ofNat nl)), (.ref un), (.int (Int32.ofNat pl)), (.ref up)]))
                      rw [show (Int32.ofNat j) + (4 : Int32) = Int32.ofNat (j + 4) from own_add j 4]
                      show own_Go _ _ _ _ (T210.setTop (mkF m 123 #[.val (.ref up), .val (.int (Int32.ofNat pl)), .val (.ref un), .val (.int (Int32.ofNat nl)), .val (.int (Int32.ofNat j)), .val (.int c1_)] [(.int (Int32.ofNat (j + 4))), (.int (Int32.ofNat nl)), (.ref un), (.int (Int32.ofNat pl)), (.ref up)]))
                      obtain ⟨_, _, ⟨T211, L211, k211, n211⟩, -, X211, ⟨Lc211, hQ211, l211, y211, z211⟩, st211⟩ := Jvm.LawKit.callS X210 hx (y := (⟨"com/example/fathomsearch/fathomsearch/NamePatternMatchesPinLaw", "m2", "([CI[CII)Z"⟩ : MethodName)) hown (mvT hZ (w_87 hw)) (mvT hZ (w_88 hw)) (mvT hZ (w_3 hw)) (mvT hZ (w_89 hw)) (by decide) (backOf (W := 0) (rm_m2 l Z a0 hw [] up kp un kn c0_ c1_ c2_ c3_ d0_ d1_ d2_ d3_ pl nl (j + 4) h0 n0 Z0 (by omega) (by omega) (by omega) (by omega) Ap An) hZ (w_89 hw) (w_3 hw) (by decide) (by decide)) (g := (mkF m 123 #[.val (.ref up), .val (.int (Int32.ofNat pl)), .val (.ref un), .val (.int (Int32.ofNat nl)), .val (.int (Int32.ofNat j)), .val (.int c1_)] [(.int (Int32.ofNat (j + 4))), (.int (Int32.ofNat nl)), (.ref un), (.int (Int32.ofNat pl)), (.ref up)])) rfl (by rw [hml]; rfl) (argsL := [(.ref up), (.int (Int32.ofNat pl)), (.ref un), (.int (Int32.ofNat nl)), (.int (Int32.ofNat (j + 4)))]) (rest := []) (lenOf pd_3 rfl) rfl (by show 2 * 0 + _ ≤ _; exact Nat.le_of_eq rfl) (hb hby d_7_123) (fun _ _ => ⟨rfl, e210, (by decide : 0 + 0 ≤ _), (by decide : 0 + 0 ≤ _)⟩)
                      dsimp only [Pt.U, Pt.locs, Pt.cells, Pt.slots] at X211 l211 y211 z211 st211 hQ211
                      subst l211 y211 z211
                      obtain ⟨iv211, rfl, N211q, hV211, e211⟩ := hQ211
                      have N211 := Fr.app N210 N211q
                      refine own_go st211 ?_
                      rcases hV211 with ⟨rfl, t211⟩ | ⟨rfl, t211⟩
                      · show own_Go _ _ _ _ (T211.setTop (mkF m 126 #[.val (.ref up), .val (.int (Int32.ofNat pl)), .val (.ref un), .val (.int (Int32.ofNat nl)), .val (.int (Int32.ofNat j)), .val (.int c1_)] [(.int (1 : Int32))]))
                        refine own_go (fun t k => XS.ifNo X211.here hx rfl (hb hby d_7_126) rfl ((if0 _ _).trans (feq (by decide : ¬ ((1 : Int32) = (0 : Int32)))).1) k) ?_
                        refine own_go (fun t k => XS.iconst X211.here hx rfl (hb hby d_7_129) k) ?_
                        refine own_go (fun t k => XS.goto X211.here hx rfl (pc0 := 130) (pc' := 134) rfl (hb hby d_7_130) (by decide) (by decide) k) ?_
                        show own_Go _ _ _ _ (T211.setTop (mkF m 134 #[.val (.ref up), .val (.int (Int32.ofNat pl)), .val (.ref un), .val (.int (Int32.ofNat nl)), .val (.int (Int32.ofNat j)), .val (.int c1_)] [(.int (1 : Int32))]))
                        refine own_retN X211 hx hlk (t := .boolean) hret (by simp) (hb hby d_7_134) ?_ (by decide) (by decide)
                        rw [e211]
                        exact ⟨1, rfl, N211, Or.inl ⟨rfl, (own_gstar hlt e3).mpr ⟨j + 4, (by omega), (by omega), t211⟩⟩, rfl⟩
                      · show own_Go _ _ _ _ (T211.setTop (mkF m 126 #[.val (.ref up), .val (.int (Int32.ofNat pl)), .val (.ref un), .val (.int (Int32.ofNat nl)), .val (.int (Int32.ofNat j)), .val (.int c1_)] [(.int (0 : Int32))]))
                        refine own_go (fun t k => XS.ifYes X211.here hx rfl (pc0 := 126) (pc' := 133) rfl (hb hby d_7_126) rfl ((if0 _ _).trans (teq (by decide : (0 : Int32) = (0 : Int32))).1) (by decide) (by decide) k) ?_
                        refine own_go (fun t k => XS.iconst X211.here hx rfl (hb hby d_7_133) k) ?_
                        have no_ : ¬ ∃ i, j ≤ i ∧ i ≤ nl ∧ own_g (own_at [c0_, c1_, c2_, c3_]) (own_at [d0_, d1_, d2_, d3_]) pl nl 2 i := by
                          intro q
                          obtain ⟨i, i1, i2, i3⟩ := q
                          rcases (by omega : i = j + 0 ∨ i = j + 1 ∨ i = j + 2 ∨ i = j + 3 ∨ i = j + 4) with rfl | rfl | rfl | rfl | rfl
                          · exact t207 i3
                          · exact t208 i3
                          · exact t209 i3
                          · exact t210 i3
                          · exact t211 i3
                        show own_Go _ _ _ _ (T211.setTop (mkF m 134 #[.val (.ref up), .val (.int (Int32.ofNat pl)), .val (.ref un), .val (.int (Int32.ofNat nl)), .val (.int (Int32.ofNat j)), .val (.int c1_)] [(.int (0 : Int32))]))
                        refine own_retN X211 hx hlk (t := .boolean) hret (by simp) (hb hby d_7_134) ?_ (by decide) (by decide)
                        rw [e211]
                        exact ⟨0, rfl, N211, Or.inr ⟨rfl, fun q => no_ (((own_gstar hlt e3)).mp q)⟩, rfl⟩
                    · show own_Go _ _ _ _ (T210.setTop (mkF m 112 #[.val (.ref up), .val (.int (Int32.ofNat pl)), .val (.ref un), .val (.int (Int32.ofNat nl)), .val (.int (Int32.ofNat j)), .val (.int c1_)] [(.int (Int32.ofNat nl)), (.int (Int32.ofNat (j + 4)))]))
                      refine own_go (fun t k => XS.icmpYes X210.here hx rfl (pc0 := 112) (pc' := 133) rfl (hb hby d_7_112) rfl (tlt (((own_lt (a := nl) (b := j + 4) (by omega) (by omega)).mpr (by omega)) : (Int32.ofNat nl) < (Int32.ofNat (j + 4)))).2.2.1 (by decide) (by decide) k) ?_
                      refine own_go (fun t k => XS.iconst X210.here hx rfl (hb hby d_7_133) k) ?_
                      have no_ : ¬ ∃ i, j ≤ i ∧ i ≤ nl ∧ own_g (own_at [c0_, c1_, c2_, c3_]) (own_at [d0_, d1_, d2_, d3_]) pl nl 2 i := by
                        intro q
                        obtain ⟨i, i1, i2, i3⟩ := q
                        rcases (by omega : i = j + 0 ∨ i = j + 1 ∨ i = j + 2 ∨ i = j + 3) with rfl | rfl | rfl | rfl
                        · exact t207 i3
                        · exact t208 i3
                        · exact t209 i3
                        · exact t210 i3
                      show own_Go _ _ _ _ (T210.setTop (mkF m 134 #[.val (.ref up), .val (.int (Int32.ofNat pl)), .val (.ref un), .val (.int (Int32.ofNat nl)), .val (.int (Int32.ofNat j)), .val (.int c1_)] [(.int (0 : Int32))]))
                      refine own_retN X210 hx hlk (t := .boolean) hret (by simp) (hb hby d_7_134) ?_ (by decide) (by decide)
                      rw [e210]
                      exact ⟨0, rfl, N210, Or.inr ⟨rfl, fun q => no_ (((own_gstar hlt e3)).mp q)⟩, rfl⟩
                · show own_Go _ _ _ _ (T209.setTop (mkF m 90 #[.val (.ref up), .val (.int (Int32.ofNat pl)), .val (.ref un), .val (.int (Int32.ofNat nl)), .val (.int (Int32.ofNat j)), .val (.int c1_)] [(.int (Int32.ofNat nl)), (.int (Int32.ofNat (j + 3)))]))
                  refine own_go (fun t k => XS.icmpYes X209.here hx rfl (pc0 := 90) (pc' := 107) rfl (hb hby d_7_90) rfl (tlt (((own_lt (a := nl) (b := j + 3) (by omega) (by omega)).mpr (by omega)) : (Int32.ofNat nl) < (Int32.ofNat (j + 3)))).2.2.1 (by decide) (by decide) k) ?_
                  refine own_go (fun t k => XS.iload X209.here hx rfl (hb hby d_7_107) rfl k) ?_
                  refine own_go (fun t k => XS.iconst X209.here hx rfl (hb hby d_7_109) k) ?_
                  refine own_go (fun t k => XS.iadd X209.here hx rfl (hb hby d_7_110) rfl k) ?_
                  show own_Go _ _ _ _ (T209.setTop (mkF m 111 #[.val (.ref up), .val (.int (Int32.ofNat pl)), .val (.ref un), .val (.int (Int32.ofNat nl)), .val (.int (Int32.ofNat j)), .val (.int c1_)] [(.int ((Int32.ofNat j) + (4 : Int32)))]))
                  rw [show (Int32.ofNat j) + (4 : Int32) = Int32.ofNat (j + 4) from own_add j 4]
                  show own_Go _ _ _ _ (T209.setTop (mkF m 111 #[.val (.ref up), .val (.int (Int32.ofNat pl)), .val (.ref un), .val (.int (Int32.ofNat nl)), .val (.int (Int32.ofNat j)), .val (.int c1_)] [(.int (Int32.ofNat (j + 4)))]))
                  refine own_go (fun t k => XS.iloadN X209.here hx rfl (hb hby d_7_111) rfl k) ?_
                  show own_Go _ _ _ _ (T209.setTop (mkF m 112 #[.val (.ref up), .val (.int (Int32.ofNat pl)), .val (.ref un), .val (.int (Int32.ofNat nl)), .val (.int (Int32.ofNat j)), .val (.int c1_)] [(.int (Int32.ofNat nl)), (.int (Int32.ofNat (j + 4)))]))
                  refine own_go (fun t k => XS.icmpYes X209.here hx rfl (pc0 := 112) (pc' := 133) rfl (hb hby d_7_112) rfl (tlt ((own_lt (a := nl) (b := j + 4) (by omega) (by omega)).mpr (by omega))).2.2.1 (by decide) (by decide) k) ?_
                  refine own_go (fun t k => XS.iconst X209.here hx rfl (hb hby d_7_133) k) ?_
                  have no_ : ¬ ∃ i, j ≤ i ∧ i ≤ nl ∧ own_g (own_at [c0_, c1_, c2_, c3_]) (own_at [d0_, d1_, d2_, d3_]) pl nl 2 i := by
                    intro q
                    obtain ⟨i, i1, i2, i3⟩ := q
                    rcases (by omega : i = j + 0 ∨ i = j + 1 ∨ i = j + 2) with rfl | rfl | rfl
                    · exact t207 i3
                    · exact t208 i3
                    · exact t209 i3
                  show own_Go _ _ _ _ (T209.setTop (mkF m 134 #[.val (.ref up), .val (.int (Int32.ofNat pl)), .val (.ref un), .val (.int (Int32.ofNat nl)), .val (.int (Int32.ofNat j)), .val (.int c1_)] [(.int (0 : Int32))]))
                  refine own_retN X209 hx hlk (t := .boolean) hret (by simp) (hb hby d_7_134) ?_ (by decide) (by decide)
                  rw [e209]
                  exact ⟨0, rfl, N209, Or.inr ⟨rfl, fun q => no_ (((own_gstar hlt e3)).mp q)⟩, rfl⟩
            · show own_Go _ _ _ _ (T208.setTop (mkF m 68 #[.val (.ref up), .val (.int (Int32.ofNat pl)), .val (.ref un), .val (.int (Int32.ofNat nl)), .val (.int (Int32.ofNat j)), .val (.int c1_)] [(.int (Int32.ofNat nl)), (.int (Int32.ofNat (j + 2)))]))
              refine own_go (fun t k => XS.icmpYes X208.here hx rfl (pc0 := 68) (pc' := 85) rfl (hb hby d_7_68) rfl (tlt (((own_lt (a := nl) (b := j + 2) (by omega) (by omega)).mpr (by omega)) : (Int32.ofNat nl) < (Int32.ofNat (j + 2)))).2.2.1 (by decide) (by decide) k) ?_
              refine own_go (fun t k => XS.iload X208.here hx rfl (hb hby d_7_85) rfl k) ?_
              refine own_go (fun t k => XS.iconst X208.here hx rfl (hb hby d_7_87) k) ?_
              refine own_go (fun t k => XS.iadd X208.here hx rfl (hb hby d_7_88) rfl k) ?_
              show own_Go _ _ _ _ (T208.setTop (mkF m 89 #[.val (.ref up), .val (.int (Int32.ofNat pl)), .val (.ref un), .val (.int (Int32.ofNat nl)), .val (.int (Int32.ofNat j)), .val (.int c1_)] [(.int ((Int32.ofNat j) + (3 : Int32)))]))
              rw [show (Int32.ofNat j) + (3 : Int32) = Int32.ofNat (j + 3) from own_add j 3]
              show own_Go _ _ _ _ (T208.setTop (mkF m 89 #[.val (.ref up), .val (.int (Int32.ofNat pl)), .val (.ref un), .val (.int (Int32.ofNat nl)), .val (.int (Int32.ofNat j)), .val (.int c1_)] [(.int (Int32.ofNat (j + 3)))]))
              refine own_go (fun t k => XS.iloadN X208.here hx rfl (hb hby d_7_89) rfl k) ?_
              show own_Go _ _ _ _ (T208.setTop (mkF m 90 #[.val (.ref up), .val (.int (Int32.ofNat pl)), .val (.ref un), .val (.int (Int32.ofNat nl)), .val (.int (Int32.ofNat j)), .val (.int c1_)] [(.int (Int32.ofNat nl)), (.int (Int32.ofNat (j + 3)))]))
              refine own_go (fun t k => XS.icmpYes X208.here hx rfl (pc0 := 90) (pc' := 107) rfl (hb hby d_7_90) rfl (tlt ((own_lt (a := nl) (b := j + 3) (by omega) (by omega)).mpr (by omega))).2.2.1 (by decide) (by decide) k) ?_
              refine own_go (fun t k => XS.iload X208.here hx rfl (hb hby d_7_107) rfl k) ?_
              refine own_go (fun t k => XS.iconst X208.here hx rfl (hb hby d_7_109) k) ?_
              refine own_go (fun t k => XS.iadd X208.here hx rfl (hb hby d_7_110) rfl k) ?_
              show own_Go _ _ _ _ (T208.setTop (mkF m 111 #[.val (.ref up), .val (.int (Int32.ofNat pl)), .val (.ref un), .val (.int (Int32.ofNat nl)), .val (.int (Int32.ofNat j)), .val (.int c1_)] [(.int ((Int32.ofNat j) + (4 : Int32)))]))
              rw [show (Int32.ofNat j) + (4 : Int32) = Int32.ofNat (j + 4) from own_add j 4]
              show own_Go _ _ _ _ (T208.setTop (mkF m 111 #[.val (.ref up), .val (.int (Int32.ofNat pl)), .val (.ref un), .val (.int (Int32.ofNat nl)), .val (.int (Int32.ofNat j)), .val (.int c1_)] [(.int (Int32.ofNat (j + 4)))]))
              refine own_go (fun t k => XS.iloadN X208.here hx rfl (hb hby d_7_111) rfl k) ?_
              show own_Go _ _ _ _ (T208.setTop (mkF m 112 #[.val (.ref up), .val (.int (Int32.ofNat pl)), .val (.ref un), .val (.int (Int32.ofNat nl)), .val (.int (Int32.ofNat j)), .val (.int c1_)] [(.int (Int32.ofNat nl)), (.int (Int32.ofNat (j + 4)))]))
              refine own_go (fun t k => XS.icmpYes X208.here hx rfl (pc0 := 112) (pc' := 133) rfl (hb hby d_7_112) rfl (tlt ((own_lt (a := nl) (b := j + 4) (by omega) (by omega)).mpr (by omega))).2.2.1 (by decide) (by decide) k) ?_
              refine own_go (fun t k => XS.iconst X208.here hx rfl (hb hby d_7_133) k) ?_
              have no_ : ¬ ∃ i, j ≤ i ∧ i ≤ nl ∧ own_g (own_at [c0_, c1_, c2_, c3_]) (own_at [d0_, d1_, d2_, d3_]) pl nl 2 i := by
                intro q
                obtain ⟨i, i1, i2, i3⟩ := q
                rcases (by omega : i = j + 0 ∨ i = j + 1) with rfl | rfl
                · exact t207 i3
                · exact t208 i3
              show own_Go _ _ _ _ (T208.setTop (mkF m 134 #[.val (.ref up), .val (.int (Int32.ofNat pl)), .val (.ref un), .val (.int (Int32.ofNat nl)), .val (.int (Int32.ofNat j)), .val (.int c1_)] [(.int (0 : Int32))]))
              refine own_retN X208 hx hlk (t := .boolean) hret (by simp) (hb hby d_7_134) ?_ (by decide) (by decide)
              rw [e208]
              exact ⟨0, rfl, N208, Or.inr ⟨rfl, fun q => no_ (((own_gstar hlt e3)).mp q)⟩, rfl⟩
        · show own_Go _ _ _ _ (T207.setTop (mkF m 46 #[.val (.ref up), .val (.int (Int32.ofNat pl)), .val (.ref un), .val (.int (Int32.ofNat nl)), .val (.int (Int32.ofNat j)), .val (.int c1_)] [(.int (Int32.ofNat nl)), (.int (Int32.ofNat (j + 1)))]))
          refine own_go (fun t k => XS.icmpYes X207.here hx rfl (pc0 := 46) (pc' := 63) rfl (hb hby d_7_46) rfl (tlt (((own_lt (a := nl) (b := j + 1) (by omega) (by omega)).mpr (by omega)) : (Int32.ofNat nl) < (Int32.ofNat (j + 1)))).2.2.1 (by decide) (by decide) k) ?_
          refine own_go (fun t k => XS.iload X207.here hx rfl (hb hby d_7_63) rfl k) ?_
          refine own_go (fun t k => XS.iconst X207.here hx rfl (hb hby d_7_65) k) ?_
          refine own_go (fun t k => XS.iadd X207.here hx rfl (hb hby d_7_66) rfl k) ?_
          show own_Go _ _ _ _ (T207.setTop (mkF m 67 #[.val (.ref up), .val (.int (Int32.ofNat pl)), .val (.ref un), .val (.int (Int32.ofNat nl)), .val (.int (Int32.ofNat j)), .val (.int c1_)] [(.int ((Int32.ofNat j) + (2 : Int32)))]))
          rw [show (Int32.ofNat j) + (2 : Int32) = Int32.ofNat (j + 2) from own_add j 2]
          show own_Go _ _ _ _ (T207.setTop (mkF m 67 #[.val (.ref up), .val (.int (Int32.ofNat pl)), .val (.ref un), .val (.int (Int32.ofNat nl)), .val (.int (Int32.ofNat j)), .val (.int c1_)] [(.int (Int32.ofNat (j + 2)))]))
          refine own_go (fun t k => XS.iloadN X207.here hx rfl (hb hby d_7_67) rfl k) ?_
          show own_Go _ _ _ _ (T207.setTop (mkF m 68 #[.val (.ref up), .val (.int (Int32.ofNat pl)), .val (.ref un), .val (.int (Int32.ofNat nl)), .val (.int (Int32.ofNat j)), .val (.int c1_)] [(.int (Int32.ofNat nl)), (.int (Int32.ofNat (j + 2)))]))
          refine own_go (fun t k => XS.icmpYes X207.here hx rfl (pc0 := 68) (pc' := 85) rfl (hb hby d_7_68) rfl (tlt ((own_lt (a := nl) (b := j + 2) (by omega) (by omega)).mpr (by omega))).2.2.1 (by decide) (by decide) k) ?_
          refine own_go (fun t k => XS.iload X207.here hx rfl (hb hby d_7_85) rfl k) ?_
          refine own_go (fun t k => XS.iconst X207.here hx rfl (hb hby d_7_87) k) ?_
          refine own_go (fun t k => XS.iadd X207.here hx rfl (hb hby d_7_88) rfl k) ?_
          show own_Go _ _ _ _ (T207.setTop (mkF m 89 #[.val (.ref up), .val (.int (Int32.ofNat pl)), .val (.ref un), .val (.int (Int32.ofNat nl)), .val (.int (Int32.ofNat j)), .val (.int c1_)] [(.int ((Int32.ofNat j) + (3 : Int32)))]))
          rw [show (Int32.ofNat j) + (3 : Int32) = Int32.ofNat (j + 3) from own_add j 3]
          show own_Go _ _ _ _ (T207.setTop (mkF m 89 #[.val (.ref up), .val (.int (Int32.ofNat pl)), .val (.ref un), .val (.int (Int32.ofNat nl)), .val (.int (Int32.ofNat j)), .val (.int c1_)] [(.int (Int32.ofNat (j + 3)))]))
          refine own_go (fun t k => XS.iloadN X207.here hx rfl (hb hby d_7_89) rfl k) ?_
          show own_Go _ _ _ _ (T207.setTop (mkF m 90 #[.val (.ref up), .val (.int (Int32.ofNat pl)), .val (.ref un), .val (.int (Int32.ofNat nl)), .val (.int (Int32.ofNat j)), .val (.int c1_)] [(.int (Int32.ofNat nl)), (.int (Int32.ofNat (j + 3)))]))
          refine own_go (fun t k => XS.icmpYes X207.here hx rfl (pc0 := 90) (pc' := 107) rfl (hb hby d_7_90) rfl (tlt ((own_lt (a := nl) (b := j + 3) (by omega) (by omega)).mpr (by omega))).2.2.1 (by decide) (by decide) k) ?_
          refine own_go (fun t k => XS.iload X207.here hx rfl (hb hby d_7_107) rfl k) ?_
          refine own_go (fun t k => XS.iconst X207.here hx rfl (hb hby d_7_109) k) ?_
          refine own_go (fun t k => XS.iadd X207.here hx rfl (hb hby d_7_110) rfl k) ?_
          show own_Go _ _ _ _ (T207.setTop (mkF m 111 #[.val (.ref up), .val (.int (Int32.ofNat pl)), .val (.ref un), .val (.int (Int32.ofNat nl)), .val (.int (Int32.ofNat j)), .val (.int c1_)] [(.int ((Int32.ofNat j) + (4 : Int32)))]))
          rw [show (Int32.ofNat j) + (4 : Int32) = Int32.ofNat (j + 4) from own_add j 4]
          show own_Go _ _ _ _ (T207.setTop (mkF m 111 #[.val (.ref up), .val (.int (Int32.ofNat pl)), .val (.ref un), .val (.int (Int32.ofNat nl)), .val (.int (Int32.ofNat j)), .val (.int c1_)] [(.int (Int32.ofNat (j + 4)))]))
          refine own_go (fun t k => XS.iloadN X207.here hx rfl (hb hby d_7_111) rfl k) ?_
          show own_Go _ _ _ _ (T207.setTop (mkF m 112 #[.val (.ref up), .val (.int (Int32.ofNat pl)), .val (.ref un), .val (.int (Int32.ofNat nl)), .val (.int (Int32.ofNat j)), .val (.int c1_)] [(.int (Int32.ofNat nl)), (.int (Int32.ofNat (j + 4)))]))
          refine own_go (fun t k => XS.icmpYes X207.here hx rfl (pc0 := 112) (pc' := 133) rfl (hb hby d_7_112) rfl (tlt ((own_lt (a := nl) (b := j + 4) (by omega) (by omega)).mpr (by omega))).2.2.1 (by decide) (by decide) k) ?_
          refine own_go (fun t k => XS.iconst X207.here hx rfl (hb hby d_7_133) k) ?_
          have no_ : ¬ ∃ i, j ≤ i ∧ i ≤ nl ∧ own_g (own_at [c0_, c1_, c2_, c3_]) (own_at [d0_, d1_, d2_, d3_]) pl nl 2 i := by
            intro q
            obtain ⟨i, i1, i2, i3⟩ := q
            rcases (by omega : i = j + 0) with rfl
            · exact t207 i3
          show own_Go _ _ _ _ (T207.setTop (mkF m 134 #[.val (.ref up), .val (.int (Int32.ofNat pl)), .val (.ref un), .val (.int (Int32.ofNat nl)), .val (.int (Int32.ofNat j)), .val (.int c1_)] [(.int (0 : Int32))]))
          refine own_retN X207 hx hlk (t := .boolean) hret (by simp) (hb hby d_7_134) ?_ (by decide) (by decide)
          rw [e207]
          exact ⟨0, rfl, N207, Or.inr ⟨rfl, fun q => no_ (((own_gstar hlt e3)).mp q)⟩, rfl⟩
    · show own_Go _ _ _ _ (s₁.setTop (mkF m 26 #[.val (.ref up), .val (.int (Int32.ofNat pl)), .val (.ref un), .val (.int (Int32.ofNat nl)), .val (.int (Int32.ofNat j)), .val (.int c1_)] [(.int (42 : Int32)), (.int c1_)]))
      refine own_go (fun t k => XS.icmpYes X0.here hx rfl (pc0 := 26) (pc' := 135) rfl (hb hby d_7_26) rfl (feq (e3 : ¬ (c1_ = (42 : Int32)))).2 (by decide) (by decide) k) ?_
      refine own_go (fun t k => XS.iload X0.here hx rfl (hb hby d_7_135) rfl k) ?_
      refine own_go (fun t k => XS.iloadN X0.here hx rfl (hb hby d_7_137) rfl k) ?_
      by_cases g0 : j < nl
      · show own_Go _ _ _ _ (s₁.setTop (mkF m 138 #[.val (.ref up), .val (.int (Int32.ofNat pl)), .val (.ref un), .val (.int (Int32.ofNat nl)), .val (.int (Int32.ofNat j)), .val (.int c1_)] [(.int (Int32.ofNat nl)), (.int (Int32.ofNat j))]))
        refine own_go (fun t k => XS.icmpNo X0.here hx rfl (hb hby d_7_138) rfl (tlt (((own_lt (by omega) (by omega)).mpr g0) : (Int32.ofNat j) < (Int32.ofNat nl))).2.1 k) ?_
        refine own_go (fun t k => XS.aloadN X0.here hx rfl (hb hby d_7_141) rfl rfl k) ?_
        refine own_go (fun t k => XS.iload X0.here hx rfl (hb hby d_7_142) rfl k) ?_
        show own_Go _ _ _ _ (s₁.setTop (mkF m 144 #[.val (.ref up), .val (.int (Int32.ofNat pl)), .val (.ref un), .val (.int (Int32.ofNat nl)), .val (.int (Int32.ofNat j)), .val (.int c1_)] [(.int (Int32.ofNat j)), (.ref un)]))
        obtain ⟨cl212, Ar212, qk212, sz212, nn212, ha212, gf212⟩ := id An
        have hin212 : ¬ ((Int32.ofNat j) < 0 ∨ cl212.slots.size ≤ ((Int32.ofNat j)).toNatClampNeg) := inb_of sz212 (own_in4 (by omega))
        have hat212 : cl212.slots[((Int32.ofNat j)).toNatClampNeg]? = some (.int (own_at [d0_, d1_, d2_, d3_] j)) := ha212.at hin212 (own_ld (by omega) _ _ _ _)
        refine own_go (X0.caload hx (j := (Int32.ofNat j)) (v := (.int (own_at [d0_, d1_, d2_, d3_] j))) (by rw [e0]; exact Ar212.1) (State.isArrayOf_alike hZ.alike Ar212.2.1) Ar212.2.2 hin212 hat212 (g := (mkF m 144 #[.val (.ref up), .val (.int (Int32.ofNat pl)), .val (.ref un), .val (.int (Int32.ofNat nl)), .val (.int (Int32.ofNat j)), .val (.int c1_)] [(.int (Int32.ofNat j)), (.ref un)])) rfl rfl (hb hby d_7_144)) ?_
        refine own_go (fun t k => XS.iload X0.here hx rfl (hb hby d_7_145) rfl k) ?_
        by_cases e5 : (own_at [d0_, d1_, d2_, d3_] j) = c1_
        · show own_Go _ _ _ _ (s₁.setTop (mkF m 147 #[.val (.ref up), .val (.int (Int32.ofNat pl)), .val (.ref un), .val (.int (Int32.ofNat nl)), .val (.int (Int32.ofNat j)), .val (.int c1_)] [(.int c1_), (.int (own_at [d0_, d1_, d2_, d3_] j))]))
          refine own_go (fun t k => XS.icmpNo X0.here hx rfl (hb hby d_7_147) rfl (teq (e5 : (own_at [d0_, d1_, d2_, d3_] j) = c1_)).2 k) ?_
          refine own_go (fun t k => XS.aloadN X0.here hx rfl (hb hby d_7_150) rfl rfl k) ?_
          refine own_go (fun t k => XS.iloadN X0.here hx rfl (hb hby d_7_151) rfl k) ?_
          refine own_go (fun t k => XS.aloadN X0.here hx rfl (hb hby d_7_152) rfl rfl k) ?_
          show own_Go _ _ _ _ (s₁.setTop (mkF m 153 #[.val (.ref up), .val (.int (Int32.ofNat pl)), .val (.ref un), .val (.int (Int32.ofNat nl)), .val (.int (Int32.ofNat j)), .val (.int c1_)] [(.ref un), (.int (Int32.ofNat pl)), (.ref up)]))
          refine own_go (fun t k => XS.iloadN X0.here hx rfl (hb hby d_7_153) rfl k) ?_
          refine own_go (fun t k => XS.iload X0.here hx rfl (hb hby d_7_154) rfl k) ?_
          refine own_go (fun t k => XS.iconst X0.here hx rfl (hb hby d_7_156) k) ?_
          refine own_go (fun t k => XS.iadd X0.here hx rfl (hb hby d_7_157) rfl k) ?_
          show own_Go _ _ _ _ (s₁.setTop (mkF m 158 #[.val (.ref up), .val (.int (Int32.ofNat pl)), .val (.ref un), .val (.int (Int32.ofNat nl)), .val (.int (Int32.ofNat j)), .val (.int c1_)] [(.int ((Int32.ofNat j) + (1 : Int32))), (.int (Int32.ofNat nl)), (.ref un), (.int (Int32.ofNat pl)), (.ref up)]))
          rw [show (Int32.ofNat j) + (1 : Int32) = Int32.ofNat (j + 1) from own_add j 1]
          show own_Go _ _ _ _ (s₁.setTop (mkF m 158 #[.val (.ref up), .val (.int (Int32.ofNat pl)), .val (.ref un), .val (.int (Int32.ofNat nl)), .val (.int (Int32.ofNat j)), .val (.int c1_)] [(.int (Int32.ofNat (j + 1))), (.int (Int32.ofNat nl)), (.ref un), (.int (Int32.ofNat pl)), (.ref up)]))
          obtain ⟨_, _, ⟨T213, L213, k213, n213⟩, -, X213, ⟨Lc213, hQ213, l213, y213, z213⟩, st213⟩ := Jvm.LawKit.callS X0 hx (y := (⟨"com/example/fathomsearch/fathomsearch/NamePatternMatchesPinLaw", "m2", "([CI[CII)Z"⟩ : MethodName)) hown (mvT hZ (w_87 hw)) (mvT hZ (w_88 hw)) (mvT hZ (w_3 hw)) (mvT hZ (w_89 hw)) (by decide) (backOf (W := 0) (rm_m2 l Z a0 hw [] up kp un kn c0_ c1_ c2_ c3_ d0_ d1_ d2_ d3_ pl nl (j + 1) h0 n0 Z0 (by omega) (by omega) (by omega) (by omega) Ap An) hZ (w_89 hw) (w_3 hw) (by decide) (by decide)) (g := (mkF m 158 #[.val (.ref up), .val (.int (Int32.ofNat pl)), .val (.ref un), .val (.int (Int32.ofNat nl)), .val (.int (Int32.ofNat j)), .val (.int c1_)] [(.int (Int32.ofNat (j + 1))), (.int (Int32.ofNat nl)), (.ref un), (.int (Int32.ofNat pl)), (.ref up)])) rfl (by rw [hml]; rfl) (argsL := [(.ref up), (.int (Int32.ofNat pl)), (.ref un), (.int (Int32.ofNat nl)), (.int (Int32.ofNat (j + 1)))]) (rest := []) (lenOf pd_3 rfl) rfl (by show 2 * 0 + _ ≤ _; exact Nat.le_of_eq rfl) (hb hby d_7_158) (fun _ _ => ⟨rfl, e0, (by decide : 0 + 0 ≤ _), (by decide : 0 + 0 ≤ _)⟩)
          dsimp only [Pt.U, Pt.locs, Pt.cells, Pt.slots] at X213 l213 y213 z213 st213 hQ213
          subst l213 y213 z213
          obtain ⟨iv213, rfl, N213q, hV213, e213⟩ := hQ213
          have N213 := Fr.app N0 N213q
          refine own_go st213 ?_
          rcases hV213 with ⟨rfl, t213⟩ | ⟨rfl, t213⟩
          · show own_Go _ _ _ _ (T213.setTop (mkF m 161 #[.val (.ref up), .val (.int (Int32.ofNat pl)), .val (.ref un), .val (.int (Int32.ofNat nl)), .val (.int (Int32.ofNat j)), .val (.int c1_)] [(.int (1 : Int32))]))
            refine own_go (fun t k => XS.ifNo X213.here hx rfl (hb hby d_7_161) rfl ((if0 _ _).trans (feq (by decide : ¬ ((1 : Int32) = (0 : Int32)))).1) k) ?_
            refine own_go (fun t k => XS.iconst X213.here hx rfl (hb hby d_7_164) k) ?_
            refine own_go (fun t k => XS.goto X213.here hx rfl (pc0 := 165) (pc' := 169) rfl (hb hby d_7_165) (by decide) (by decide) k) ?_
            show own_Go _ _ _ _ (T213.setTop (mkF m 169 #[.val (.ref up), .val (.int (Int32.ofNat pl)), .val (.ref un), .val (.int (Int32.ofNat nl)), .val (.int (Int32.ofNat j)), .val (.int c1_)] [(.int (1 : Int32))]))
            refine own_retN X213 hx hlk (t := .boolean) hret (by simp) (hb hby d_7_169) ?_ (by decide) (by decide)
            rw [e213]
            exact ⟨1, rfl, N213, Or.inl ⟨rfl, (own_glit hlt e3).mpr ⟨g0, e5, t213⟩⟩, rfl⟩
          · show own_Go _ _ _ _ (T213.setTop (mkF m 161 #[.val (.ref up), .val (.int (Int32.ofNat pl)), .val (.ref un), .val (.int (Int32.ofNat nl)), .val (.int (Int32.ofNat j)), .val (.int c1_)] [(.int (0 : Int32))]))
            refine own_go (fun t k => XS.ifYes X213.here hx rfl (pc0 := 161) (pc' := 168) rfl (hb hby d_7_161) rfl ((if0 _ _).trans (teq (by decide : (0 : Int32) = (0 : Int32))).1) (by decide) (by decide) k) ?_
            refine own_go (fun t k => XS.iconst X213.here hx rfl (hb hby d_7_168) k) ?_
            show own_Go _ _ _ _ (T213.setTop (mkF m 169 #[.val (.ref up), .val (.int (Int32.ofNat pl)), .val (.ref un), .val (.int (Int32.ofNat nl)), .val (.int (Int32.ofNat j)), .val (.int c1_)] [(.int (0 : Int32))]))
            refine own_retN X213 hx hlk (t := .boolean) hret (by simp) (hb hby d_7_169) ?_ (by decide) (by decide)
            rw [e213]
            exact ⟨0, rfl, N213, Or.inr ⟨rfl, fun q => t213 ((own_glit hlt e3).mp q).2.2⟩, rfl⟩
        · show own_Go _ _ _ _ (s₁.setTop (mkF m 147 #[.val (.ref up), .val (.int (Int32.ofNat pl)), .val (.ref un), .val (.int (Int32.ofNat nl)), .val (.int (Int32.ofNat j)), .val (.int c1_)] [(.int c1_), (.int (own_at [d0_, d1_, d2_, d3_] j))]))
          refine own_go (fun t k => XS.icmpYes X0.here hx rfl (pc0 := 147) (pc' := 168) rfl (hb hby d_7_147) rfl (feq (e5 : ¬ ((own_at [d0_, d1_, d2_, d3_] j) = c1_))).2 (by decide) (by decide) k) ?_
          refine own_go (fun t k => XS.iconst X0.here hx rfl (hb hby d_7_168) k) ?_
          show own_Go _ _ _ _ (s₁.setTop (mkF m 169 #[.val (.ref up), .val (.int (Int32.ofNat pl)), .val (.ref un), .val (.int (Int32.ofNat nl)), .val (.int (Int32.ofNat j)), .val (.int c1_)] [(.int (0 : Int32))]))
          refine own_retN X0 hx hlk (t := .boolean) hret (by simp) (hb hby d_7_169) ?_ (by decide) (by decide)
          rw [e0]
          exact ⟨0, rfl, N0, Or.inr ⟨rfl, fun q => e5 ((own_glit hlt e3).mp q).2.1⟩, rfl⟩
      · show own_Go _ _ _ _ (s₁.setTop (mkF m 138 #[.val (.ref up), .val (.int (Int32.ofNat pl)), .val (.ref un), .val (.int (Int32.ofNat nl)), .val (.int (Int32.ofNat j)), .val (.int c1_)] [(.int (Int32.ofNat nl)), (.int (Int32.ofNat j))]))
        refine own_go (fun t k => XS.icmpYes X0.here hx rfl (pc0 := 138) (pc' := 168) rfl (hb hby d_7_138) rfl (flt ((fun q => g0 ((own_lt (by omega) (by omega)).mp q)) : ¬ ((Int32.ofNat j) < (Int32.ofNat nl)))).2.1 (by decide) (by decide) k) ?_
        refine own_go (fun t k => XS.iconst X0.here hx rfl (hb hby d_7_168) k) ?_
        show own_Go _ _ _ _ (s₁.setTop (mkF m 169 #[.val (.ref up), .val (.int (Int32.ofNat pl)), .val (.ref un), .val (.int (Int32.ofNat nl)), .val (.int (Int32.ofNat j)), .val (.int c1_)] [(.int (0 : Int32))]))
        refine own_retN X0 hx hlk (t := .boolean) hret (by simp) (hb hby d_7_169) ?_ (by decide) (by decide)
        rw [e0]
        exact ⟨0, rfl, N0, Or.inr ⟨rfl, fun q => g0 ((own_glit hlt e3).mp q).1⟩, rfl⟩
def Q_m0 (Z : State) (up : Addr) (kp : ClassId) (un : Addr) (kn : ClassId) (c0_ : Int32) (c1_ : Int32) (c2_ : Int32) (c3_ : Int32) (d0_ : Int32) (d1_ : Int32) (d2_ : Int32) (d3_ : Int32) (pl : Nat) (nl : Nat) (j : Nat) (h0 : Heap) (n0 : Nat) (v : Option Value) (h : Heap) (L : List Loc) : Prop := ∃ iv : Int32, v = some (.int iv) ∧ Fr n0 L ∧ own_V iv (own_g (own_at [c0_, c1_, c2_, c3_]) (own_at [d0_, d1_, d2_, d3_]) pl nl 0 j) ∧ h = h0
theorem ef_m0 (m : MethodId) (up : Addr) (un : Addr) (pl : Nat) (nl : Nat) (j : Nat) : entryFrame m #[(.ref up), (.int (Int32.ofNat pl)), (.ref un), (.int (Int32.ofNat nl)), (.int (Int32.ofNat j))] 6 = mkF m 0 #[.val (.ref up), .val (.int (Int32.ofNat pl)), .val (.ref un), .val (.int (Int32.ofNat nl)), .val (.int (Int32.ofNat j)), .unset] [] := by first | (simp [entryFrame, mkF, argsToLocals, Value.category]; done) | rfl
theorem d_6_0 : decode method_6_code 0 = .ok (.iload_n 1, 1) := by decide +kernel
theorem d_6_1 : decode method_6_code 1 = .ok (.ifCond .ne 15, 3) := by decide +kernel
theorem d_6_4 : decode method_6_code 4 = .ok (.iload 4, 2) := by decide +kernel
theorem d_6_6 : decode method_6_code 6 = .ok (.iload_n 3, 1) := by decide +kernel
theorem d_6_7 : decode method_6_code 7 = .ok (.if_icmp .ne 7, 3) := by decide +kernel
theorem d_6_10 : decode method_6_code 10 = .ok (.iconst 1, 1) := by decide +kernel
theorem d_6_11 : decode method_6_code 11 = .ok (.goto 4, 3) := by decide +kernel
theorem d_6_15 : decode method_6_code 15 = .ok (.ireturn, 1) := by decide +kernel
theorem d_6_14 : decode method_6_code 14 = .ok (.iconst 0, 1) := by decide +kernel
theorem d_6_16 : decode method_6_code 16 = .ok (.aload_n 0, 1) := by decide +kernel
theorem d_6_17 : decode method_6_code 17 = .ok (.iconst 0, 1) := by decide +kernel
theorem d_6_18 : decode method_6_code 18 = .ok (.caload, 1) := by decide +kernel
theorem d_6_19 : decode method_6_code 19 = .ok (.istore 5, 2) := by decide +kernel
theorem d_6_21 : decode method_6_code 21 = .ok (.iload 5, 2) := by decide +kernel
theorem d_6_23 : decode method_6_code 23 = .ok (.bipush 42, 2) := by decide +kernel
theorem d_6_25 : decode method_6_code 25 = .ok (.if_icmp .ne 109, 3) := by decide +kernel
theorem d_6_28 : decode method_6_code 28 = .ok (.aload_n 0, 1) := by decide +kernel
theorem d_6_29 : decode method_6_code 29 = .ok (.iload_n 1, 1) := by decide +kernel
theorem d_6_30 : decode method_6_code 30 = .ok (.aload_n 2, 1) := by decide +kernel
theorem d_6_31 : decode method_6_code 31 = .ok (.iload_n 3, 1) := by decide +kernel
theorem d_6_32 : decode method_6_code 32 = .ok (.iload 4, 2) := by decide +kernel
theorem w_84 {Z : State} {a0 : Array Value} (hw : ∀ d ∈ tables_1, d.before a0 Z = true) : (Jvm.Cond.methodLink "com/example/fathomsearch/fathomsearch/NamePatternMatchesPinLaw" (39 : Nat) ({ cls := "com/example/fathomsearch/fathomsearch/NamePatternMatchesPinLaw", name := "m1", desc := "([CI[CII)Z" } : Jvm.MethodName)).before a0 Z = true := hw _ (List.mem_of_getElem? (i := 84) rfl)
theorem w_86 {Z : State} {a0 : Array Value} (hw : ∀ d ∈ tables_1, d.before a0 Z = true) : (Jvm.Cond.code ({ cls := "com/example/fathomsearch/fathomsearch/NamePatternMatchesPinLaw", name := "m1", desc := "([CI[CII)Z" } : Jvm.MethodName) method_7_code (6 : Nat) (Option.some Jvm.ClassFile.FieldType.boolean)).before a0 Z = true := hw _ (List.mem_of_getElem? (i := 86) rfl)
theorem d_6_34 : decode method_6_code 34 = .ok (.invokestatic 39, 3) := by decide +kernel
theorem w_85 {Z : State} {a0 : Array Value} (hw : ∀ d ∈ tables_1, d.before a0 Z = true) : (Jvm.Cond.static ({ cls := "com/example/fathomsearch/fathomsearch/NamePatternMatchesPinLaw", name := "m1", desc := "([CI[CII)Z" } : Jvm.MethodName)).before a0 Z = true := hw _ (List.mem_of_getElem? (i := 85) rfl)
theorem d_6_37 : decode method_6_code 37 = .ok (.ifCond .ne 91, 3) := by decide +kernel
theorem d_6_128 : decode method_6_code 128 = .ok (.iconst 1, 1) := by decide +kernel
theorem d_6_129 : decode method_6_code 129 = .ok (.goto 4, 3) := by decide +kernel
theorem d_6_133 : decode method_6_code 133 = .ok (.ireturn, 1) := by decide +kernel
theorem d_6_40 : decode method_6_code 40 = .ok (.iload 4, 2) := by decide +kernel
theorem d_6_42 : decode method_6_code 42 = .ok (.iconst 1, 1) := by decide +kernel
theorem d_6_43 : decode method_6_code 43 = .ok (.iadd, 1) := by decide +kernel
theorem d_6_44 : decode method_6_code 44 = .ok (.iload_n 3, 1) := by decide +kernel
theorem d_6_45 : decode method_6_code 45 = .ok (.if_icmp .gt 17, 3) := by decide +kernel
theorem d_6_48 : decode method_6_code 48 = .ok (.aload_n 0, 1) := by decide +kernel
theorem d_6_49 : decode method_6_code 49 = .ok (.iload_n 1, 1) := by decide +kernel
theorem d_6_50 : decode method_6_code 50 = .ok (.aload_n 2, 1) := by decide +kernel
theorem d_6_51 : decode method_6_code 51 = .ok (.iload_n 3, 1) := by decide +kernel
theorem d_6_52 : decode method_6_code 52 = .ok (.iload 4, 2) := by decide +kernel
theorem d_6_54 : decode method_6_code 54 = .ok (.iconst 1, 1) := by decide +kernel
theorem d_6_55 : decode method_6_code 55 = .ok (.iadd, 1) := by decide +kernel
theorem d_6_56 : decode method_6_code 56 = .ok (.invokestatic 39, 3) := by decide +kernel
theorem d_6_59 : decode method_6_code 59 = .ok (.ifCond .ne 69, 3) := by decide +kernel
theorem d_6_62 : decode method_6_code 62 = .ok (.iload 4, 2) := by decide +kernel
theorem d_6_64 : decode method_6_code 64 = .ok (.iconst 2, 1) := by decide +kernel
theorem d_6_65 : decode method_6_code 65 = .ok (.iadd, 1) := by decide +kernel
theorem d_6_66 : decode method_6_code 66 = .ok (.iload_n 3, 1) := by decide +kernel
theorem d_6_67 : decode method_6_code 67 = .ok (.if_icmp .gt 17, 3) := by decide +kernel
theorem d_6_70 : decode method_6_code 70 = .ok (.aload_n 0, 1) := by decide +kernel
theorem d_6_71 : decode method_6_code 71 = .ok (.iload_n 1, 1) := by decide +kernel
theorem d_6_72 : decode method_6_code 72 = .ok (.aload_n 2, 1) := by decide +kernel
theorem d_6_73 : decode method_6_code 73 = .ok (.iload_n 3, 1) := by decide +kernel
theorem d_6_74 : decode method_6_code 74 = .ok (.iload 4, 2) := by decide +kernel
theorem d_6_76 : decode method_6_code 76 = .ok (.iconst 2, 1) := by decide +kernel
theorem d_6_77 : decode method_6_code 77 = .ok (.iadd, 1) := by decide +kernel
theorem d_6_78 : decode method_6_code 78 = .ok (.invokestatic 39, 3) := by decide +kernel
theorem d_6_81 : decode method_6_code 81 = .ok (.ifCond .ne 47, 3) := by decide +kernel
theorem d_6_84 : decode method_6_code 84 = .ok (.iload 4, 2) := by decide +kernel
theorem d_6_86 : decode method_6_code 86 = .ok (.iconst 3, 1) := by decide +kernel
theorem d_6_87 : decode method_6_code 87 = .ok (.iadd, 1) := by decide +kernel
theorem d_6_88 : decode method_6_code 88 = .ok (.iload_n 3, 1) := by decide +kernel
theorem d_6_89 : decode method_6_code 89 = .ok (.if_icmp .gt 17, 3) := by decide +kernel
theorem d_6_92 : decode method_6_code 92 = .ok (.aload_n 0, 1) := by decide +kernel
theorem d_6_93 : decode method_6_code 93 = .ok (.iload_n 1, 1) := by decide +kernel
theorem d_6_94 : decode method_6_code 94 = .ok (.aload_n 2, 1) := by decide +kernel
theorem d_6_95 : decode method_6_code 95 = .ok (.iload_n 3, 1) := by decide +kernel
theorem d_6_96 : decode method_6_code 96 = .ok (.iload 4, 2) := by decide +kernel
theorem d_6_98 : decode method_6_code 98 = .ok (.iconst 3, 1) := by decide +kernel
theorem d_6_99 : decode method_6_code 99 = .ok (.iadd, 1) := by decide +kernel
theorem d_6_100 : decode method_6_code 100 = .ok (.invokestatic 39, 3) := by decide +kernel
theorem d_6_103 : decode method_6_code 103 = .ok (.ifCond .ne 25, 3) := by decide +kernel
theorem d_6_106 : decode method_6_code 106 = .ok (.iload 4, 2) := by decide +kernel
theorem d_6_108 : decode method_6_code 108 = .ok (.iconst 4, 1) := by decide +kernel
theorem d_6_109 : decode method_6_code 109 = .ok (.iadd, 1) := by decide +kernel
theorem d_6_110 : decode method_6_code 110 = .ok (.iload_n 3, 1) := by decide +kernel
theorem d_6_111 : decode method_6_code 111 = .ok (.if_icmp .gt 21, 3) := by decide +kernel
theorem d_6_114 : decode method_6_code 114 = .ok (.aload_n 0, 1) := by decide +kernel
theorem d_6_115 : decode method_6_code 115 = .ok (.iload_n 1, 1) := by decide +kernel
theorem d_6_116 : decode method_6_code 116 = .ok (.aload_n 2, 1) := by decide +kernel
theorem d_6_117 : decode method_6_code 117 = .ok (.iload_n 3, 1) := by decide +kernel
theorem d_6_118 : decode method_6_code 118 = .ok (.iload 4, 2) := by decide +kernel
theorem d_6_120 : decode method_6_code 120 = .ok (.iconst 4, 1) := by decide +kernel
theorem d_6_121 : decode method_6_code 121 = .ok (.iadd, 1) := by decide +kernel
theorem d_6_122 : decode method_6_code 122 = .ok (.invokestatic 39, 3) := by decide +kernel
theorem d_6_125 : decode method_6_code 125 = .ok (.ifCond .eq 7, 3) := by decide +kernel
theorem d_6_132 : decode method_6_code 132 = .ok (.iconst 0, 1) := by decide +kernel
theorem d_6_134 : decode method_6_code 134 = .ok (.iload 4, 2) := by decide +kernel
theorem d_6_136 : decode method_6_code 136 = .ok (.iload_n 3, 1) := by decide +kernel
theorem d_6_137 : decode method_6_code 137 = .ok (.if_icmp .ge 30, 3) := by decide +kernel
theorem d_6_140 : decode method_6_code 140 = .ok (.aload_n 2, 1) := by decide +kernel
theorem d_6_141 : decode method_6_code 141 = .ok (.iload 4, 2) := by decide +kernel
theorem d_6_143 : decode method_6_code 143 = .ok (.caload, 1) := by decide +kernel
theorem d_6_144 : decode method_6_code 144 = .ok (.iload 5, 2) := by decide +kernel
theorem d_6_146 : decode method_6_code 146 = .ok (.if_icmp .ne 21, 3) := by decide +kernel
theorem d_6_149 : decode method_6_code 149 = .ok (.aload_n 0, 1) := by decide +kernel
theorem d_6_150 : decode method_6_code 150 = .ok (.iload_n 1, 1) := by decide +kernel
theorem d_6_151 : decode method_6_code 151 = .ok (.aload_n 2, 1) := by decide +kernel
theorem d_6_152 : decode method_6_code 152 = .ok (.iload_n 3, 1) := by decide +kernel
theorem d_6_153 : decode method_6_code 153 = .ok (.iload 4, 2) := by decide +kernel
theorem d_6_155 : decode method_6_code 155 = .ok (.iconst 1, 1) := by decide +kernel
theorem d_6_156 : decode method_6_code 156 = .ok (.iadd, 1) := by decide +kernel
theorem d_6_157 : decode method_6_code 157 = .ok (.invokestatic 39, 3) := by decide +kernel
theorem d_6_160 : decode method_6_code 160 = .ok (.ifCond .eq 7, 3) := by decide +kernel
theorem d_6_163 : decode method_6_code 163 = .ok (.iconst 1, 1) := by decide +kernel
theorem d_6_164 : decode method_6_code 164 = .ok (.goto 4, 3) := by decide +kernel
theorem d_6_168 : decode method_6_code 168 = .ok (.ireturn, 1) := by decide +kernel
theorem d_6_167 : decode method_6_code 167 = .ok (.iconst 0, 1) := by decide +kernel
set_option maxRecDepth 65536 in
set_option maxHeartbeats 40000000 in
theorem rm_m0 (l : Launch) (Z : State) (a0 : Array Value) (hw : ∀ d ∈ tables_1, d.before a0 Z = true) (ws : List Jvm.Cond) (up : Addr) (kp : ClassId) (un : Addr) (kn : ClassId) (c0_ c1_ c2_ c3_ d0_ d1_ d2_ d3_ : Int32) (pl nl j : Nat) (h0 : Heap) (n0 : Nat) (Z0 : n0 ≤ h0.size) (hk : 0 ≤ pl) (h4 : pl ≤ 4) (hj : j ≤ nl) (hn : nl ≤ 4) (Ap : Arv Z h0 up kp .char (4 : Int32) [(.int c0_), (.int c1_), (.int c2_), (.int c3_)] (.int (0 : Int32))) (An : Arv Z h0 un kn .char (4 : Int32) [(.int d0_), (.int d1_), (.int d2_), (.int d3_)] (.int (0 : Int32))) :
    own_Met l Z (⟨"com/example/fathomsearch/fathomsearch/NamePatternMatchesPinLaw", "m0", "([CI[CII)Z"⟩ : MethodName) method_6_code 6 (some .boolean) ws ({ frames := 4, cells := 0, slots := 0, locals := 64 } : Room) #[(.ref up), (.int (Int32.ofNat pl)), (.ref un), (.int (Int32.ofNat nl)), (.int (Int32.ofNat j))] h0 (Q_m0 Z up kp un kn c0_ c1_ c2_ c3_ d0_ d1_ d2_ d3_ pl nl j h0 n0) := by
  refine own_enter (own := "com/example/fathomsearch/fathomsearch/NamePatternMatchesPinLaw") (plainFor_of_name pn_0) rfl ?_
  intro p e s m below meth c s₁ hlk hret hx hby hml hown hnm hZ X0 e0
  have N0 := Fr.nil n0
  refine own_cast (ef_m0 m up un pl nl j) ?_
  show own_Go _ _ _ _ (s₁.setTop (mkF m 0 #[.val (.ref up), .val (.int (Int32.ofNat pl)), .val (.ref un), .val (.int (Int32.ofNat nl)), .val (.int (Int32.ofNat j)), .unset] []))
  refine own_go (fun t k => XS.iloadN X0.here hx rfl (hb hby d_6_0) rfl k) ?_
  by_cases e1 : pl = 0
  · show own_Go _ _ _ _ (s₁.setTop (mkF m 1 #[.val (.ref up), .val (.int (Int32.ofNat pl)), .val (.ref un), .val (.int (Int32.ofNat nl)), .val (.int (Int32.ofNat j)), .unset] [(.int (Int32.ofNat pl))]))
    refine own_go (fun t k => XS.ifNo X0.here hx rfl (hb hby d_6_1) rfl ((if0 _ _).trans (teq ((own_eqn (a := pl) (b := 0) e1) : (Int32.ofNat pl) = (0 : Int32))).2) k) ?_
    refine own_go (fun t k => XS.iload X0.here hx rfl (hb hby d_6_4) rfl k) ?_
    refine own_go (fun t k => XS.iloadN X0.here hx rfl (hb hby d_6_6) rfl k) ?_
    by_cases e2 : j = nl
    · show own_Go _ _ _ _ (s₁.setTop (mkF m 7 #[.val (.ref up), .val (.int (Int32.ofNat pl)), .val (.ref un), .val (.int (Int32.ofNat nl)), .val (.int (Int32.ofNat j)), .unset] [(.int (Int32.ofNat nl)), (.int (Int32.ofNat j))]))
      refine own_go (fun t k => XS.icmpNo X0.here hx rfl (hb hby d_6_7) rfl (teq ((own_eqn (a := j) (b := nl) e2) : (Int32.ofNat j) = (Int32.ofNat nl))).2 k) ?_
      refine own_go (fun t k => XS.iconst X0.here hx rfl (hb hby d_6_10) k) ?_
      refine own_go (fun t k => XS.goto X0.here hx rfl (pc0 := 11) (pc' := 15) rfl (hb hby d_6_11) (by decide) (by decide) k) ?_
      show own_Go _ _ _ _ (s₁.setTop (mkF m 15 #[.val (.ref up), .val (.int (Int32.ofNat pl)), .val (.ref un), .val (.int (Int32.ofNat nl)), .val (.int (Int32.ofNat j)), .unset] [(.int (1 : Int32))]))
      refine own_retN X0 hx hlk (t := .boolean) hret (by simp) (hb hby d_6_15) ?_ (by decide) (by decide)
      rw [e0]
      exact ⟨1, rfl, N0, Or.inl ⟨rfl, (own_gend e1).mpr e2⟩, rfl⟩
    · show own_Go _ _ _ _ (s₁.setTop (mkF m 7 #[.val (.ref up), .val (.int (Int32.ofNat pl)), .val (.ref un), .val (.int (Int32.ofNat nl)), .val (.int (Int32.ofNat j)), .unset] [(.int (Int32.ofNat nl)), (.int (Int32.ofNat j))]))
      refine own_go (fun t k => XS.icmpYes X0.here hx rfl (pc0 := 7) (pc' := 14) rfl (hb hby d_6_7) rfl (feq ((fun q => e2 (own_inj (a := j) (b := nl) (by omega) (by omega) q)) : ¬ ((Int32.ofNat j) = (Int32.ofNat nl)))).2 (by decide) (by decide) k) ?_
      refine own_go (fun t k => XS.iconst X0.here hx rfl (hb hby d_6_14) k) ?_
      show own_Go _ _ _ _ (s₁.setTop (mkF m 15 #[.val (.ref up), .val (.int (Int32.ofNat pl)), .val (.ref un), .val (.int (Int32.ofNat nl)), .val (.int (Int32.ofNat j)), .unset] [(.int (0 : Int32))]))
      refine own_retN X0 hx hlk (t := .boolean) hret (by simp) (hb hby d_6_15) ?_ (by decide) (by decide)
      rw [e0]
      exact ⟨0, rfl, N0, Or.inr ⟨rfl, fun q => e2 ((own_gend e1).mp q)⟩, rfl⟩
  · have hlt : 0 < pl := by omega
    show own_Go _ _ _ _ (s₁.setTop (mkF m 1 #[.val (.ref up), .val (.int (Int32.ofNat pl)), .val (.ref un), .val (.int (Int32.ofNat nl)), .val (.int (Int32.ofNat j)), .unset] [(.int (Int32.ofNat pl))]))
    refine own_go (fun t k => XS.ifYes X0.here hx rfl (pc0 := 1) (pc' := 16) rfl (hb hby d_6_1) rfl ((if0 _ _).trans (feq ((fun q => e1 (own_inj (a := pl) (b := 0) (by omega) (by omega) q)) : ¬ ((Int32.ofNat pl) = (0 : Int32)))).2) (by decide) (by decide) k) ?_
    refine own_go (fun t k => XS.aloadN X0.here hx rfl (hb hby d_6_16) rfl rfl k) ?_
    refine own_go (fun t k => XS.iconst X0.here hx rfl (hb hby d_6_17) k) ?_
    show own_Go _ _ _ _ (s₁.setTop (mkF m 18 #[.val (.ref up), .val (.int (Int32.ofNat pl)), .val (.ref un), .val (.int (Int32.ofNat nl)), .val (.int (Int32.ofNat j)), .unset] [(.int (0 : Int32)), (.ref up)]))
    obtain ⟨cl214, Ar214, qk214, sz214, nn214, ha214, gf214⟩ := id Ap
    have hin214 : ¬ ((0 : Int32) < 0 ∨ cl214.slots.size ≤ ((0 : Int32)).toNatClampNeg) := inb_of sz214 ⟨by decide, by decide⟩
    have hat214 : cl214.slots[((0 : Int32)).toNatClampNeg]? = some (.int c0_) := ha214.at hin214 rfl
    refine own_go (X0.caload hx (j := (0 : Int32)) (v := (.int c0_)) (by rw [e0]; exact Ar214.1) (State.isArrayOf_alike hZ.alike Ar214.2.1) Ar214.2.2 hin214 hat214 (g := (mkF m 18 #[.val (.ref up), .val (.int (Int32.ofNat pl)), .val (.ref un), .val (.int (Int32.ofNat nl)), .val (.int (Int32.ofNat j)), .unset] [(.int (0 : Int32)), (.ref up)])) rfl rfl (hb hby d_6_18)) ?_
    refine own_go (fun t k => XS.istore X0.here hx rfl (hb hby d_6_19) rfl (l' := #[.val (.ref up), .val (.int (Int32.ofNat pl)), .val (.ref un), .val (.int (Int32.ofNat nl)), .val (.int (Int32.ofNat j)), .val (.int c0_)]) rfl k) ?_
    refine own_go (fun t k => XS.iload X0.here hx rfl (hb hby d_6_21) rfl k) ?_
    refine own_go (fun t k => XS.bipush X0.here hx rfl (hb hby d_6_23) k) ?_
    by_cases e3 : c0_ = 42
    · show own_Go _ _ _ _ (s₁.setTop (mkF m 25 #[.val (.ref up), .val (.int (Int32.ofNat pl)), .val (.ref un), .val (.int (Int32.ofNat nl)), .val (.int (Int32.ofNat j)), .val (.int c0_)] [(.int (42 : Int32)), (.int c0_)]))
      refine own_go (fun t k => XS.icmpNo X0.here hx rfl (hb hby d_6_25) rfl (teq (e3 : c0_ = (42 : Int32))).2 k) ?_
      refine own_go (fun t k => XS.aloadN X0.here hx rfl (hb hby d_6_28) rfl rfl k) ?_
      refine own_go (fun t k => XS.iloadN X0.here hx rfl (hb hby d_6_29) rfl k) ?_
      refine own_go (fun t k => XS.aloadN X0.here hx rfl (hb hby d_6_30) rfl rfl k) ?_
      show own_Go _ _ _ _ (s₁.setTop (mkF m 31 #[.val (.ref up), .val (.int (Int32.ofNat pl)), .val (.ref un), .val (.int (Int32.ofNat nl)), .val (.int (Int32.ofNat j)), .val (.int c0_)] [(.ref un), (.int (Int32.ofNat pl)), (.ref up)]))
      refine own_go (fun t k => XS.iloadN X0.here hx rfl (hb hby d_6_31) rfl k) ?_
      refine own_go (fun t k => XS.iload X0.here hx rfl (hb hby d_6_32) rfl k) ?_
      obtain ⟨_, _, ⟨T215, L215, k215, n215⟩, -, X215, ⟨Lc215, hQ215, l215, y215, z215⟩, st215⟩ := Jvm.LawKit.callS X0 hx (y := (⟨"com/example/fathomsearch/fathomsearch/NamePatternMatchesPinLaw", "m1", "([CI[CII)Z"⟩ : MethodName)) hown (mvT hZ (w_84 hw)) (mvT hZ (w_85 hw)) (mvT hZ (w_3 hw)) (mvT hZ (w_86 hw)) (by decide) (backOf (W := 0) (rm_m1 l Z a0 hw [] up kp un kn c0_ c1_ c2_ c3_ d0_ d1_ d2_ d3_ pl nl j h0 n0 Z0 (by omega) (by omega) (by omega) (by omega) Ap An) hZ (w_86 hw) (w_3 hw) (by decide) (by decide)) (g := (mkF m 34 #[.val (.ref up), .val (.int (Int32.ofNat pl)), .val (.ref un), .val (.int (Int32.ofNat nl)), .val (.int (Int32.ofNat j)), .val (.int c0_)] [(.int (Int32.ofNat j)), (.int (Int32.ofNat nl)), (.ref un), (.int (Int32.ofNat pl)), (.ref up)])) rfl (by rw [hml]; rfl) (argsL := [(.ref up), (.int (Int32.ofNat pl)), (.ref un), (.int (Int32.ofNat nl)), (.int (Int32.ofNat j))]) (rest := []) (lenOf pd_3 rfl) rfl (by show 2 * 0 + _ ≤ _; exact Nat.le_of_eq rfl) (hb hby d_6_34) (fun _ _ => ⟨rfl, e0, (by decide : 0 + 0 ≤ _), (by decide : 0 + 0 ≤ _)⟩)
      dsimp only [Pt.U, Pt.locs, Pt.cells, Pt.slots] at X215 l215 y215 z215 st215 hQ215
      subst l215 y215 z215
      obtain ⟨iv215, rfl, N215q, hV215, e215⟩ := hQ215
      have N215 := Fr.app N0 N215q
      refine own_go st215 ?_
      rcases hV215 with ⟨rfl, t215⟩ | ⟨rfl, t215⟩
      · show own_Go _ _ _ _ (T215.setTop (mkF m 37 #[.val (.ref up), .val (.int (Int32.ofNat pl)), .val (.ref un), .val (.int (Int32.ofNat nl)), .val (.int (Int32.ofNat j)), .val (.int c0_)] [(.int (1 : Int32))]))
        refine own_go (fun t k => XS.ifYes X215.here hx rfl (pc0 := 37) (pc' := 128) rfl (hb hby d_6_37) rfl ((if0 _ _).trans (feq (by decide : ¬ ((1 : Int32) = (0 : Int32)))).2) (by decide) (by decide) k) ?_
        refine own_go (fun t k => XS.iconst X215.here hx rfl (hb hby d_6_128) k) ?_
        refine own_go (fun t k => XS.goto X215.here hx rfl (pc0 := 129) (pc' := 133) rfl (hb hby d_6_129) (by decide) (by decide) k) ?_
        show own_Go _ _ _ _ (T215.setTop (mkF m 133 #[.val (.ref up), .val (.int (Int32.ofNat pl)), .val (.ref un), .val (.int (Int32.ofNat nl)), .val (.int (Int32.ofNat j)), .val (.int c0_)] [(.int (1 : Int32))]))
        refine own_retN X215 hx hlk (t := .boolean) hret (by simp) (hb hby d_6_133) ?_ (by decide) (by decide)
        rw [e215]
        exact ⟨1, rfl, N215, Or.inl ⟨rfl, (own_gstar hlt e3).mpr ⟨j + 0, (by omega), (by omega), t215⟩⟩, rfl⟩
      · show own_Go _ _ _ _ (T215.setTop (mkF m 37 #[.val (.ref up), .val (.int (Int32.ofNat pl)), .val (.ref un), .val (.int (Int32.ofNat nl)), .val (.int (Int32.ofNat j)), .val (.int c0_)] [(.int (0 : Int32))]))
        refine own_go (fun t k => XS.ifNo X215.here hx rfl (hb hby d_6_37) rfl ((if0 _ _).trans (teq (by decide : (0 : Int32) = (0 : Int32))).2) k) ?_
        refine own_go (fun t k => XS.iload X215.here hx rfl (hb hby d_6_40) rfl k) ?_
        refine own_go (fun t k => XS.iconst X215.here hx rfl (hb hby d_6_42) k) ?_
        refine own_go (fun t k => XS.iadd X215.here hx rfl (hb hby d_6_43) rfl k) ?_
        show own_Go _ _ _ _ (T215.setTop (mkF m 44 #[.val (.ref up), .val (.int (Int32.ofNat pl)), .val (.ref un), .val (.int (Int32.ofNat nl)), .val (.int (Int32.ofNat j)), .val (.int c0_)] [(.int ((Int32.ofNat j) + (1 : Int32)))]))
        rw [show (Int32.ofNat j) + (1 : Int32) = Int32.ofNat (j + 1) from own_add j 1]
        show own_Go _ _ _ _ (T215.setTop (mkF m 44 #[.val (.ref up), .val (.int (Int32.ofNat pl)), .val (.ref un), .val (.int (Int32.ofNat nl)), .val (.int (Int32.ofNat j)), .val (.int c0_)] [(.int (Int32.ofNat (j + 1)))]))
        refine own_go (fun t k => XS.iloadN X215.here hx rfl (hb hby d_6_44) rfl k) ?_
        by_cases g1 : j + 1 ≤ nl
        · show own_Go _ _ _ _ (T215.setTop (mkF m 45 #[.val (.ref up), .val (.int (Int32.ofNat pl)), .val (.ref un), .val (.int (Int32.ofNat nl)), .val (.int (Int32.ofNat j)), .val (.int c0_)] [(.int (Int32.ofNat nl)), (.int (Int32.ofNat (j + 1)))]))
          refine own_go (fun t k => XS.icmpNo X215.here hx rfl (hb hby d_6_45) rfl (flt ((fun q => absurd ((own_lt (a := nl) (b := j + 1) (by omega) (by omega)).mp q) (by omega)) : ¬ ((Int32.ofNat nl) < (Int32.ofNat (j + 1))))).2.2.1 k) ?_
          refine own_go (fun t k => XS.aloadN X215.here hx rfl (hb hby d_6_48) rfl rfl k) ?_
          refine own_go (fun t k => XS.iloadN X215.here hx rfl (hb hby d_6_49) rfl k) ?_
          refine own_go (fun t k => XS.aloadN X215.here hx rfl (hb hby d_6_50) rfl rfl k) ?_
          show own_Go _ _ _ _ (T215.setTop (mkF m 51 #[.val (.ref up), .val (.int (Int32.ofNat pl)), .val (.ref un), .val (.int (Int32.ofNat nl)), .val (.int (Int32.ofNat j)), .val (.int c0_)] [(.ref un), (.int (Int32.ofNat pl)), (.ref up)]))
          refine own_go (fun t k => XS.iloadN X215.here hx rfl (hb hby d_6_51) rfl k) ?_
          refine own_go (fun t k => XS.iload X215.here hx rfl (hb hby d_6_52) rfl k) ?_
          refine own_go (fun t k => XS.iconst X215.here hx rfl (hb hby d_6_54) k) ?_
          refine own_go (fun t k => XS.iadd X215.here hx rfl (hb hby d_6_55) rfl k) ?_
          show own_Go _ _ _ _ (T215.setTop (mkF m 56 #[.val (.ref up), .val (.int (Int32.ofNat pl)), .val (.ref un), .val (.int (Int32.ofNat nl)), .val (.int (Int32.ofNat j)), .val (.int c0_)] [(.int ((Int32.ofNat j) + (1 : Int32))), (.int (Int32.ofNat nl)), (.ref un), (.int (Int32.ofNat pl)), (.ref up)]))
          rw [show (Int32.ofNat j) + (1 : Int32) = Int32.ofNat (j + 1) from own_add j 1]
          show own_Go _ _ _ _ (T215.setTop (mkF m 56 #[.val (.ref up), .val (.int (Int32.ofNat pl)), .val (.ref un), .val (.int (Int32.ofNat nl)), .val (.int (Int32.ofNat j)), .val (.int c0_)] [(.int (Int32.ofNat (j + 1))), (.int (Int32.ofNat nl)), (.ref un), (.int (Int32.ofNat pl)), (.ref up)]))
          obtain ⟨_, _, ⟨T216, L216, k216, n216⟩, -, X216, ⟨Lc216, hQ216, l216, y216, z216⟩, st216⟩ := Jvm.LawKit.callS X215 hx (y := (⟨"com/example/fathomsearch/fathomsearch/NamePatternMatchesPinLaw", "m1", "([CI[CII)Z"⟩ : MethodName)) hown (mvT hZ (w_84 hw)) (mvT hZ (w_85 hw)) (mvT hZ (w_3 hw)) (mvT hZ (w_86 hw)) (by decide) (backOf (W := 0) (rm_m1 l Z a0 hw [] up kp un kn c0_ c1_ c2_ c3_ d0_ d1_ d2_ d3_ pl nl (j + 1) h0 n0 Z0 (by omega) (by omega) (by omega) (by omega) Ap An) hZ (w_86 hw) (w_3 hw) (by decide) (by decide)) (g := (mkF m 56 #[.val (.ref up), .val (.int (Int32.ofNat pl)), .val (.ref un), .val (.int (Int32.ofNat nl)), .val (.int (Int32.ofNat j)), .val (.int c0_)] [(.int (Int32.ofNat (j + 1))), (.int (Int32.ofNat nl)), (.ref un), (.int (Int32.ofNat pl)), (.ref up)])) rfl (by rw [hml]; rfl) (argsL := [(.ref up), (.int (Int32.ofNat pl)), (.ref un), (.int (Int32.ofNat nl)), (.int (Int32.ofNat (j + 1)))]) (rest := []) (lenOf pd_3 rfl) rfl (by show 2 * 0 + _ ≤ _; exact Nat.le_of_eq rfl) (hb hby d_6_56) (fun _ _ => ⟨rfl, e215, (by decide : 0 + 0 ≤ _), (by decide : 0 + 0 ≤ _)⟩)
          dsimp only [Pt.U, Pt.locs, Pt.cells, Pt.slots] at X216 l216 y216 z216 st216 hQ216
          subst l216 y216 z216
          obtain ⟨iv216, rfl, N216q, hV216, e216⟩ := hQ216
          have N216 := Fr.app N215 N216q
          refine own_go st216 ?_
          rcases hV216 with ⟨rfl, t216⟩ | ⟨rfl, t216⟩
          · show own_Go _ _ _ _ (T216.setTop (mkF m 59 #[.val (.ref up), .val (.int (Int32.ofNat pl)), .val (.ref un), .val (.int (Int32.ofNat nl)), .val (.int (Int32.ofNat j)), .val (.int c0_)] [(.int (1 : Int32))]))
            refine own_go (fun t k => XS.ifYes X216.here hx rfl (pc0 := 59) (pc' := 128) rfl (hb hby d_6_59) rfl ((if0 _ _).trans (feq (by decide : ¬ ((1 : Int32) = (0 : Int32)))).2) (by decide) (by decide) k) ?_
            refine own_go (fun t k => XS.iconst X216.here hx rfl (hb hby d_6_128) k) ?_
            refine own_go (fun t k => XS.goto X216.here hx rfl (pc0 := 129) (pc' := 133) rfl (hb hby d_6_129) (by decide) (by decide) k) ?_
            show own_Go _ _ _ _ (T216.setTop (mkF m 133 #[.val (.ref up), .val (.int (Int32.ofNat pl)), .val (.ref un), .val (.int (Int32.ofNat nl)), .val (.int (Int32.ofNat j)), .val (.int c0_)] [(.int (1 : Int32))]))
            refine own_retN X216 hx hlk (t := .boolean) hret (by simp) (hb hby d_6_133) ?_ (by decide) (by decide)
            rw [e216]
            exact ⟨1, rfl, N216, Or.inl ⟨rfl, (own_gstar hlt e3).mpr ⟨j + 1, (by omega), (by omega), t216⟩⟩, rfl⟩
          · show own_Go _ _ _ _ (T216.setTop (mkF m 59 #[.val (.ref up), .val (.int (Int32.ofNat pl)), .val (.ref un), .val (.int (Int32.ofNat nl)), .val (.int (Int32.ofNat j)), .val (.int c0_)] [(.int (0 : Int32))]))
            refine own_go (fun t k => XS.ifNo X216.here hx rfl (hb hby d_6_59) rfl ((if0 _ _).trans (teq (by decide : (0 : Int32) = (0 : Int32))).2) k) ?_
            refine own_go (fun t k => XS.iload X216.here hx rfl (hb hby d_6_62) rfl k) ?_
            refine own_go (fun t k => XS.iconst X216.here hx rfl (hb hby d_6_64) k) ?_
            refine own_go (fun t k => XS.iadd X216.here hx rfl (hb hby d_6_65) rfl k) ?_
            show own_Go _ _ _ _ (T216.setTop (mkF m 66 #[.val (.ref up), .val (.int (Int32.ofNat pl)), .val (.ref un), .val (.int (Int32.ofNat nl)), .val (.int (Int32.ofNat j)), .val (.int c0_)] [(.int ((Int32.ofNat j) + (2 : Int32)))]))
            rw [show (Int32.ofNat j) + (2 : Int32) = Int32.ofNat (j + 2) from own_add j 2]
            show own_Go _ _ _ _ (T216.setTop (mkF m 66 #[.val (.ref up), .val (.int (Int32.ofNat pl)), .val (.ref un), .val (.int (Int32.ofNat nl)), .val (.int (Int32.ofNat j)), .val (.int c0_)] [(.int (Int32.ofNat (j + 2)))]))
            refine own_go (fun t k => XS.iloadN X216.here hx rfl (hb hby d_6_66) rfl k) ?_
            by_cases g2 : j + 2 ≤ nl
            · show own_Go _ _ _ _ (T216.setTop (mkF m 67 #[.val (.ref up), .val (.int (Int32.ofNat pl)), .val (.ref un), .val (.int (Int32.ofNat nl)), .val (.int (Int32.ofNat j)), .val (.int c0_)] [(.int (Int32.ofNat nl)), (.int (Int32.ofNat (j + 2)))]))
              refine own_go (fun t k => XS.icmpNo X216.here hx rfl (hb hby d_6_67) rfl (flt ((fun q => absurd ((own_lt (a := nl) (b := j + 2) (by omega) (by omega)).mp q) (by omega)) : ¬ ((Int32.ofNat nl) < (Int32.ofNat (j + 2))))).2.2.1 k) ?_
              refine own_go (fun t k => XS.aloadN X216.here hx rfl (hb hby d_6_70) rfl rfl k) ?_
              refine own_go (fun t k => XS.iloadN X216.here hx rfl (hb hby d_6_71) rfl k) ?_
              refine own_go (fun t k => XS.aloadN X216.here hx rfl (hb hby d_6_72) rfl rfl k) ?_
              show own_Go _ _ _ _ (T216.setTop (mkF m 73 #[.val (.ref up), .val (.int (Int32.ofNat pl)), .val (.ref un), .val (.int (Int32.ofNat nl)), .val (.int (Int32.ofNat j)), .val (.int c0_)] [(.ref un), (.int (Int32.ofNat pl)), (.ref up)]))
              refine own_go (fun t k => XS.iloadN X216.here hx rfl (hb hby d_6_73) rfl k) ?_
              refine own_go (fun t k => XS.iload X216.here hx rfl (hb hby d_6_74) rfl k) ?_
              refine own_go (fun t k => XS.iconst X216.here hx rfl (hb hby d_6_76) k) ?_
              refine own_go (fun t k => XS.iadd X216.here hx rfl (hb hby d_6_77) rfl k) ?_
              show own_Go _ _ _ _ (T216.setTop (mkF m 78 #[.val (.ref up), .val (.int (Int32.ofNat pl)), .val (.ref un), .val (.int (Int32.ofNat nl)), .val (.int (Int32.ofNat j)), .val (.int c0_)] [(.int ((Int32.ofNat j) + (2 : Int32))), (.int (Int32.ofNat nl)), (.ref un), (.int (Int32.ofNat pl)), (.ref up)]))
              rw [show (Int32.ofNat j) + (2 : Int32) = Int32.ofNat (j + 2) from own_add j 2]
              show own_Go _ _ _ _ (T216.setTop (mkF m 78 #[.val (.ref up), .val (.int (Int32.ofNat pl)), .val (.ref un), .val (.int (Int32.ofNat nl)), .val (.int (Int32.ofNat j)), .val (.int c0_)] [(.int (Int32.ofNat (j + 2))), (.int (Int32.ofNat nl)), (.ref un), (.int (Int32.ofNat pl)), (.ref up)]))
              obtain ⟨_, _, ⟨T217, L217, k217, n217⟩, -, X217, ⟨Lc217, hQ217, l217, y217, z217⟩, st217⟩ := Jvm.LawKit.callS X216 hx (y := (⟨"com/example/fathomsearch/fathomsearch/NamePatternMatchesPinLaw", "m1", "([CI[CII)Z"⟩ : MethodName)) hown (mvT hZ (w_84 hw)) (mvT hZ (w_85 hw)) (mvT hZ (w_3 hw)) (mvT hZ (w_86 hw)) (by decide) (backOf (W := 0) (rm_m1 l Z a0 hw [] up kp un kn c0_ c1_ c2_ c3_ d0_ d1_ d2_ d3_ pl nl (j + 2) h0 n0 Z0 (by omega) (by omega) (by omega) (by omega) Ap An) hZ (w_86 hw) (w_3 hw) (by decide) (by decide)) (g := (mkF m 78 #[.val (.ref up), .val (.int (Int32.ofNat pl)), .val (.ref un), .val (.int (Int32.ofNat nl)), .val (.int (Int32.ofNat j)), .val (.int c0_)] [(.int (Int32.ofNat (j + 2))), (.int (Int32.ofNat nl)), (.ref un), (.int (Int32.ofNat pl)), (.ref up)])) rfl (by rw [hml]; rfl) (argsL := [(.ref up), (.int (Int32.ofNat pl)), (.ref un), (.int (Int32.ofNat nl)), (.int (Int32.ofNat (j + 2)))]) (rest := []) (lenOf pd_3 rfl) rfl (by show 2 * 0 + _ ≤ _; exact Nat.le_of_eq rfl) (hb hby d_6_78) (fun _ _ => ⟨rfl, e216, (by decide : 0 + 0 ≤ _), (by decide : 0 + 0 ≤ _)⟩)
              dsimp only [Pt.U, Pt.locs, Pt.cells, Pt.slots] at X217 l217 y217 z217 st217 hQ217
              subst l217 y217 z217
              obtain ⟨iv217, rfl, N217q, hV217, e217⟩ := hQ217
              have N217 := Fr.app N216 N217q
              refine own_go st217 ?_
              rcases hV217 with ⟨rfl, t217⟩ | ⟨rfl, t217⟩
              · show own_Go _ _ _ _ (T217.setTop (mkF m 81 #[.val (.ref up), .val (.int (Int32.ofNat pl)), .val (.ref un), .val (.int (Int32.ofNat nl)), .val (.int (Int32.ofNat j)), .val (.int c0_)] [(.int (1 : Int32))]))
                refine own_go (fun t k => XS.ifYes X217.here hx rfl (pc0 := 81) (pc' := 128) rfl (hb hby d_6_81) rfl ((if0 _ _).trans (feq (by decide : ¬ ((1 : Int32) = (0 : Int32)))).2) (by decide) (by decide) k) ?_
                refine own_go (fun t k => XS.iconst X217.here hx rfl (hb hby d_6_128) k) ?_
                refine own_go (fun t k => XS.goto X217.here hx rfl (pc0 := 129) (pc' := 133) rfl (hb hby d_6_129) (by decide) (by decide) k) ?_
                show own_Go _ _ _ _ (T217.setTop (mkF m 133 #[.val (.ref up), .val (.int (Int32.ofNat pl)), .val (.ref un), .val (.int (Int32.ofNat nl)), .val (.int (Int32.ofNat j)), .val (.int c0_)] [(.int (1 : Int32))]))
                refine own_retN X217 hx hlk (t := .boolean) hret (by simp) (hb hby d_6_133) ?_ (by decide) (by decide)
                rw [e217]
                exact ⟨1, rfl, N217, Or.inl ⟨rfl, (own_gstar hlt e3).mpr ⟨j + 2, (by omega), (by omega), t217⟩⟩, rfl⟩
              · show own_Go _ _ _ _ (T217.setTop (mkF m 81 #[.val (.ref up), .val (.int (Int32.ofNat pl)), .val (.ref un), .val (.int (Int32.ofNat nl)), .val (.int (Int32.ofNat j)), .val (.int c0_)] [(.int (0 : Int32))]))
                refine own_go (fun t k => XS.ifNo X217.here hx rfl (hb hby d_6_81) rfl ((if0 _ _).trans (teq (by decide : (0 : Int32) = (0 : Int32))).2) k) ?_
                refine own_go (fun t k => XS.iload X217.here hx rfl (hb hby d_6_84) rfl k) ?_
                refine own_go (fun t k => XS.iconst X217.here hx rfl (hb hby d_6_86) k) ?_
                refine own_go (fun t k => XS.iadd X217.here hx rfl (hb hby d_6_87) rfl k) ?_
                show own_Go _ _ _ _ (T217.setTop (mkF m 88 #[.val (.ref up), .val (.int (Int32.ofNat pl)), .val (.ref un), .val (.int (Int32.ofNat nl)), .val (.int (Int32.ofNat j)), .val (.int c0_)] [(.int ((Int32.ofNat j) + (3 : Int32)))]))
                rw [show (Int32.ofNat j) + (3 : Int32) = Int32.ofNat (j + 3) from own_add j 3]
                show own_Go _ _ _ _ (T217.setTop (mkF m 88 #[.val (.ref up), .val (.int (Int32.ofNat pl)), .val (.ref un), .val (.int (Int32.ofNat nl)), .val (.int (Int32.ofNat j)), .val (.int c0_)] [(.int (Int32.ofNat (j + 3)))]))
                refine own_go (fun t k => XS.iloadN X217.here hx rfl (hb hby d_6_88) rfl k) ?_
                by_cases g3 : j + 3 ≤ nl
                · show own_Go _ _ _ _ (T217.setTop (mkF m 89 #[.val (.ref up), .val (.int (Int32.ofNat pl)), .val (.ref un), .val (.int (Int32.ofNat nl)), .val (.int (Int32.ofNat j)), .val (.int c0_)] [(.int (Int32.ofNat nl)), (.int (Int32.ofNat (j + 3)))]))
                  refine own_go (fun t k => XS.icmpNo X217.here hx rfl (hb hby d_6_89) rfl (flt ((fun q => absurd ((own_lt (a := nl) (b := j + 3) (by omega) (by omega)).mp q) (by omega)) : ¬ ((Int32.ofNat nl) < (Int32.ofNat (j + 3))))).2.2.1 k) ?_
                  refine own_go (fun t k => XS.aloadN X217.here hx rfl (hb hby d_6_92) rfl rfl k) ?_
                  refine own_go (fun t k => XS.iloadN X217.here hx rfl (hb hby d_6_93) rfl k) ?_
                  refine own_go (fun t k => XS.aloadN X217.here hx rfl (hb hby d_6_94) rfl rfl k) ?_
                  show own_Go _ _ _ _ (T217.setTop (mkF m 95 #[.val (.ref up), .val (.int (Int32.ofNat pl)), .val (.ref un), .val (.int (Int32.ofNat nl)), .val (.int (Int32.ofNat j)), .val (.int c0_)] [(.ref un), (.int (Int32.ofNat pl)), (.ref up)]))
                  refine own_go (fun t k => XS.iloadN X217.here hx rfl (hb hby d_6_95) rfl k) ?_
                  refine own_go (fun t k => XS.iload X217.here hx rfl (hb hby d_6_96) rfl k) ?_
                  refine own_go (fun t k => XS.iconst X217.here hx rfl (hb hby d_6_98) k) ?_
                  refine own_go (fun t k => XS.iadd X217.here hx rfl (hb hby d_6_99) rfl k) ?_
                  show own_Go _ _ _ _ (T217.setTop (mkF m 100 #[.val (.ref up), .val (.int (Int32.ofNat pl)), .val (.ref un), .val (.int (Int32.ofNat nl)), .val (.int (Int32.ofNat j)), .val (.int c0_)] [(.int ((Int32.ofNat j) + (3 : Int32))), (.int (Int32.ofNat nl)), (.ref un), (.int (Int32.ofNat pl)), (.ref up)]))
                  rw [show (Int32.ofNat j) + (3 : Int32) = Int32.ofNat (j + 3) from own_add j 3]
                  show own_Go _ _ _ _ (T217.setTop (mkF m 100 #[.val (.ref up), .val (.int (Int32.ofNat pl)), .val (.ref un), .val (.int (Int32.ofNat nl)), .val (.int (Int32.ofNat j)), .val (.int c0_)] [(.int (Int32.ofNat (j + 3))), (.int (Int32.ofNat nl)), (.ref un), (.int (Int32.ofNat pl)), (.ref up)]))
                  obtain ⟨_, _, ⟨T218, L218, k218, n218⟩, -, X218, ⟨Lc218, hQ218, l218, y218, z218⟩, st218⟩ := Jvm.LawKit.callS X217 hx (y := (⟨"com/example/fathomsearch/fathomsearch/NamePatternMatchesPinLaw", "m1", "([CI[CII)Z"⟩ : MethodName)) hown (mvT hZ (w_84 hw)) (mvT hZ (w_85 hw)) (mvT hZ (w_3 hw)) (mvT hZ (w_86 hw)) (by decide) (backOf (W := 0) (rm_m1 l Z a0 hw [] up kp un kn c0_ c1_ c2_ c3_ d0_ d1_ d2_ d3_ pl nl (j + 3) h0 n0 Z0 (by omega) (by omega) (by omega) (by omega) Ap An) hZ (w_86 hw) (w_3 hw) (by decide) (by decide)) (g := (mkF m 100 #[.val (.ref up), .val (.int (Int32.ofNat pl)), .val (.ref un), .val (.int (Int32.ofNat nl)), .val (.int (Int32.ofNat j)), .val (.int c0_)] [(.int (Int32.ofNat (j + 3))), (.int (Int32.ofNat nl)), (.ref un), (.int (Int32.ofNat pl)), (.ref up)])) rfl (by rw [hml]; rfl) (argsL := [(.ref up), (.int (Int32.ofNat pl)), (.ref un), (.int (Int32.ofNat nl)), (.int (Int32.ofNat (j + 3)))]) (rest := []) (lenOf pd_3 rfl) rfl (by show 2 * 0 + _ ≤ _; exact Nat.le_of_eq rfl) (hb hby d_6_100) (fun _ _ => ⟨rfl, e217, (by decide : 0 + 0 ≤ _), (by decide : 0 + 0 ≤ _)⟩)
                  dsimp only [Pt.U, Pt.locs, Pt.cells, Pt.slots] at X218 l218 y218 z218 st218 hQ218
                  subst l218 y218 z218
                  obtain ⟨iv218, rfl, N218q, hV218, e218⟩ := hQ218
                  have N218 := Fr.app N217 N218q
                  refine own_go st218 ?_
                  rcases hV218 with ⟨rfl, t218⟩ | ⟨rfl, t218⟩
                  · show own_Go _ _ _ _ (T218.setTop (mkF m 103 #[.val (.ref up), .val (.int (Int32.ofNat pl)), .val (.ref un), .val (.int (Int32.ofNat nl)), .val (.int (Int32.ofNat j)), .val (.int c0_)] [(.int (1 : Int32))]))
                    refine own_go (fun t k => XS.ifYes X218.here hx rfl (pc0 := 103) (pc' := 128) rfl (hb hby d_6_103) rfl ((if0 _ _).trans (feq (by decide : ¬ ((1 : Int32) = (0 : Int32)))).2) (by decide) (by decide) k) ?_
                    refine own_go (fun t k => XS.iconst X218.here hx rfl (hb hby d_6_128) k) ?_
                    refine own_go (fun t k => XS.goto X218.here hx rfl (pc0 := 129) (pc' := 133) rfl (hb hby d_6_129) (by decide) (by decide) k) ?_
                    show own_Go _ _ _ _ (T218.setTop (mkF m 133 #[.val (.ref up), .val (.int (Int32.ofNat pl)), .val (.ref un), .val (.int (Int32.ofNat nl)), .val (.int (Int32.ofNat j)), .val (.int c0_)] [(.int (1 : Int32))]))
                    refine own_retN X218 hx hlk (t := .boolean) hret (by simp) (hb hby d_6_133) ?_ (by decide) (by decide)
                    rw [e218]
                    exact ⟨1, rfl, N218, Or.inl ⟨rfl, (own_gstar hlt e3).mpr ⟨j + 3, (by omega), (by omega), t218⟩⟩, rfl⟩
                  · show own_Go _ _ _ _ (T218.setTop (mkF m 103 #[.val (.ref up), .val (.int (Int32.ofNat pl)), .val (.ref un), .val (.int (Int32.ofNat nl)), .val (.int (Int32.ofNat j)), .val (.int c0_)] [(.int (0 : Int32))]))
                    refine own_go (fun t k => XS.ifNo X218.here hx rfl (hb hby d_6_103) rfl ((if0 _ _).trans (teq (by decide : (0 : Int32) = (0 : Int32))).2) k) ?_
                    refine own_go (fun t k => XS.iload X218.here hx rfl (hb hby d_6_106) rfl k) ?_
                    refine own_go (fun t k => XS.iconst X218.here hx rfl (hb hby d_6_108) k) ?_
                    refine own_go (fun t k => XS.iadd X218.here hx rfl (hb hby d_6_109) rfl k) ?_
                    show own_Go _ _ _ _ (T218.setTop (mkF m 110 #[.val (.ref up), .val (.int (Int32.ofNat pl)), .val (.ref un), .val (.int (Int32.ofNat nl)), .val (.int (Int32.ofNat j)), .val (.int c0_)] [(.int ((Int32.ofNat j) + (4 : Int32)))]))
                    rw [show (Int32.ofNat j) + (4 : Int32) = Int32.ofNat (j + 4) from own_add j 4]
                    show own_Go _ _ _ _ (T218.setTop (mkF m 110 #[.val (.ref up), .val (.int (Int32.ofNat pl)), .val (.ref un), .val (.int (Int32.ofNat nl)), .val (.int (Int32.ofNat j)), .val (.int c0_)] [(.int (Int32.ofNat (j + 4)))]))
                    refine own_go (fun t k => XS.iloadN X218.here hx rfl (hb hby d_6_110) rfl k) ?_
                    by_cases g4 : j + 4 ≤ nl
                    · show own_Go _ _ _ _ (T218.setTop (mkF m 111 #[.val (.ref up), .val (.int (Int32.ofNat pl)), .val (.ref un), .val (.int (Int32.ofNat nl)), .val (.int (Int32.ofNat j)), .val (.int c0_)] [(.int (Int32.ofNat nl)), (.int (Int32.ofNat (j + 4)))]))
                      refine own_go (fun t k => XS.icmpNo X218.here hx rfl (hb hby d_6_111) rfl (flt ((fun q => absurd ((own_lt (a := nl) (b := j + 4) (by omega) (by omega)).mp q) (by omega)) : ¬ ((Int32.ofNat nl) < (Int32.ofNat (j + 4))))).2.2.1 k) ?_
                      refine own_go (fun t k => XS.aloadN X218.here hx rfl (hb hby d_6_114) rfl rfl k) ?_
                      refine own_go (fun t k => XS.iloadN X218.here hx rfl (hb hby d_6_115) rfl k) ?_
                      refine own_go (fun t k => XS.aloadN X218.here hx rfl (hb hby d_6_116) rfl rfl k) ?_
                      show own_Go _ _ _ _ (T218.setTop (mkF m 117 #[.val (.ref up), .val (.int (Int32.ofNat pl)), .val (.ref un), .val (.int (Int32.ofNat nl)), .val (.int (Int32.ofNat j)), .val (.int c0_)] [(.ref un), (.int (Int32.ofNat pl)), (.ref up)]))
                      refine own_go (fun t k => XS.iloadN X218.here hx rfl (hb hby d_6_117) rfl k) ?_
                      refine own_go (fun t k => XS.iload X218.here hx rfl (hb hby d_6_118) rfl k) ?_
                      refine own_go (fun t k => XS.iconst X218.here hx rfl (hb hby d_6_120) k) ?_
                      refine own_go (fun t k => XS.iadd X218.here hx rfl (hb hby d_6_121) rfl k) ?_
                      show own_Go _ _ _ _ (T218.setTop (mkF m 122 #[.val (.ref up), .val (.int (Int32.ofNat pl)), .val (.ref un), .val (.int (Int32.ofNat nl)), .val (.int (Int32.ofNat j)), .val (.int c0_)] [(.int ((Int32.ofNat j) + (4 : Int32))), (.int (Int32.ofNat nl)), (.ref un), (.int (Int32.ofNat pl)), (.ref up)]))
                      rw [show (Int32.ofNat j) + (4 : Int32) = Int32.ofNat (j + 4) from own_add j 4]
                      show own_Go _ _ _ _ (T218.setTop (mkF m 122 #[.val (.ref up), .val (.int (Int32.ofNat pl)), .val (.ref un), .val (.int (Int32.ofNat nl)), .val (.int (Int32.ofNat j)), .val (.int c0_)] [(.int (Int32.ofNat (j + 4))), (.int (Int32.ofNat nl)), (.ref un), (.int (Int32.ofNat pl)), (.ref up)]))
                      obtain ⟨_, _, ⟨T219, L219, k219, n219⟩, -, X219, ⟨Lc219, hQ219, l219, y219, z219⟩, st219⟩ := Jvm.LawKit.callS X218 hx (y := (⟨"com/example/fathomsearch/fathomsearch/NamePatternMatchesPinLaw", "m1", "([CI[CII)Z"⟩ : MethodName)) hown (mvT hZ (w_84 hw)) (mvT hZ (w_85 hw)) (mvT hZ (w_3 hw)) (mvT hZ (w_86 hw)) (by decide) (backOf (W := 0) (rm_m1 l Z a0 hw [] up kp un kn c0_ c1_ c2_ c3_ d0_ d1_ d2_ d3_ pl nl (j + 4) h0 n0 Z0 (by omega) (by omega) (by omega) (by omega) Ap An) hZ (w_86 hw) (w_3 hw) (by decide) (by decide)) (g := (mkF m 122 #[.val (.ref up), .val (.int (Int32.ofNat pl)), .val (.ref un), .val (.int (Int32.ofNat nl)), .val (.int (Int32.ofNat j)), .val (.int c0_)] [(.int (Int32.ofNat (j + 4))), (.int (Int32.ofNat nl)), (.ref un), (.int (Int32.ofNat pl)), (.ref up)])) rfl (by rw [hml]; rfl) (argsL := [(.ref up), (.int (Int32.ofNat pl)), (.ref un), (.int (Int32.ofNat nl)), (.int (Int32.ofNat (j + 4)))]) (rest := []) (lenOf pd_3 rfl) rfl (by show 2 * 0 + _ ≤ _; exact Nat.le_of_eq rfl) (hb hby d_6_122) (fun _ _ => ⟨rfl, e218, (by decide : 0 + 0 ≤ _), (by decide : 0 + 0 ≤ _)⟩)
                      dsimp only [Pt.U, Pt.locs, Pt.cells, Pt.slots] at X219 l219 y219 z219 st219 hQ219
                      subst l219 y219 z219
                      obtain ⟨iv219, rfl, N219q, hV219, e219⟩ := hQ219
                      have N219 := Fr.app N218 N219q
                      refine own_go st219 ?_
                      rcases hV219 with ⟨rfl, t219⟩ | ⟨rfl, t219⟩
                      · show own_Go _ _ _ _ (T219.setTop (mkF m 125 #[.val (.ref up), .val (.int (Int32.ofNat pl)), .val (.ref un), .val (.int (Int32.ofNat nl)), .val (.int (Int32.ofNat j)), .val (.int c0_)] [(.int (1 : Int32))]))
                        refine own_go (fun t k => XS.ifNo X219.here hx rfl (hb hby d_6_125) rfl ((if0 _ _).trans (feq (by decide : ¬ ((1 : Int32) = (0 : Int32)))).1) k) ?_
                        refine own_go (fun t k => XS.iconst X219.here hx rfl (hb hby d_6_128) k) ?_
                        refine own_go (fun t k => XS.goto X219.here hx rfl (pc0 := 129) (pc' := 133) rfl (hb hby d_6_129) (by decide) (by decide) k) ?_
                        show own_Go _ _ _ _ (T219.setTop (mkF m 133 #[.val (.ref up), .val (.int (Int32.ofNat pl)), .val (.ref un), .val (.int (Int32.ofNat nl)), .val (.int (Int32.ofNat j)), .val (.int c0_)] [(.int (1 : Int32))]))
                        refine own_retN X219 hx hlk (t := .boolean) hret (by simp) (hb hby d_6_133) ?_ (by decide) (by decide)
                        rw [e219]
                        exact ⟨1, rfl, N219, Or.inl ⟨rfl, (own_gstar hlt e3).mpr ⟨j + 4, (by omega), (by omega), t219⟩⟩, rfl⟩
                      · show own_Go _ _ _ _ (T219.setTop (mkF m 125 #[.val (.ref up), .val (.int (Int32.ofNat pl)), .val (.ref un), .val (.int (Int32.ofNat nl)), .val (.int (Int32.ofNat j)), .val (.int c0_)] [(.int (0 : Int32))]))
                        refine own_go (fun t k => XS.ifYes X219.here hx rfl (pc0 := 125) (pc' := 132) rfl (hb hby d_6_125) rfl ((if0 _ _).trans (teq (by decide : (0 : Int32) = (0 : Int32))).1) (by decide) (by decide) k) ?_
                        refine own_go (fun t k => XS.iconst X219.here hx rfl (hb hby d_6_132) k) ?_
                        have no_ : ¬ ∃ i, j ≤ i ∧ i ≤ nl ∧ own_g (own_at [c0_, c1_, c2_, c3_]) (own_at [d0_, d1_, d2_, d3_]) pl nl 1 i := by
                          intro q
                          obtain ⟨i, i1, i2, i3⟩ := q
                          rcases (by omega : i = j + 0 ∨ i = j + 1 ∨ i = j + 2 ∨ i = j + 3 ∨ i = j + 4) with rfl | rfl | rfl | rfl | rfl
                          · exact t215 i3
                          · exact t216 i3
                          · exact t217 i3
                          · exact t218 i3
                          · exact t219 i3
                        show own_Go _ _ _ _ (T219.setTop (mkF m 133 #[.val (.ref up), .val (.int (Int32.ofNat pl)), .val (.ref un), .val (.int (Int32.ofNat nl)), .val (.int (Int32.ofNat j)), .val (.int c0_)] [(.int (0 : Int32))]))
                        refine own_retN X219 hx hlk (t := .boolean) hret (by simp) (hb hby d_6_133) ?_ (by decide) (by decide)
                        rw [e219]
                        exact ⟨0, rfl, N219, Or.inr ⟨rfl, fun q => no_ (((own_gstar hlt e3)).mp q)⟩, rfl⟩
                    · show own_Go _ _ _ _ (T218.setTop (mkF m 111 #[.val (.ref up), .val (.int (Int32.ofNat pl)), .val (.ref un), .val (.int (Int32.ofNat nl)), .val (.int (Int32.ofNat j)), .val (.int c0_)] [(.int (Int32.ofNat nl)), (.int (Int32.ofNat (j + 4)))]))
                      refine own_go (fun t k => XS.icmpYes X218.here hx rfl (pc0 := 111) (pc' := 132) rfl (hb hby d_6_111) rfl (tlt (((own_lt (a := nl) (b := j + 4) (by omega) (by omega)).mpr (by omega)) : (Int32.ofNat nl) < (Int32.ofNat (j + 4)))).2.2.1 (by decide) (by decide) k) ?_
                      refine own_go (fun t k => XS.iconst X218.here hx rfl (hb hby d_6_132) k) ?_
                      have no_ : ¬ ∃ i, j ≤ i ∧ i ≤ nl ∧ own_g (own_at [c0_, c1_, c2_, c3_]) (own_at [d0_, d1_, d2_, d3_]) pl nl 1 i := by
                        intro q
                        obtain ⟨i, i1, i2, i3⟩ := q
                        rcases (by omega : i = j + 0 ∨ i = j + 1 ∨ i = j + 2 ∨ i = j + 3) with rfl | rfl | rfl | rfl
                        · exact t215 i3
                        · exact t216 i3
                        · exact t217 i3
                        · exact t218 i3
                      show own_Go _ _ _ _ (T218.setTop (mkF m 133 #[.val (.ref up), .val (.int (Int32.ofNat pl)), .val (.ref un), .val (.int (Int32.ofNat nl)), .val (.int (Int32.ofNat j)), .val (.int c0_)] [(.int (0 : Int32))]))
                      refine own_retN X218 hx hlk (t := .boolean) hret (by simp) (hb hby d_6_133) ?_ (by decide) (by decide)
                      rw [e218]
                      exact ⟨0, rfl, N218, Or.inr ⟨rfl, fun q => no_ (((own_gstar hlt e3)).mp q)⟩, rfl⟩
                · show own_Go _ _ _ _ (T217.setTop (mkF m 89 #[.val (.ref up), .val (.int (Int32.ofNat pl)), .val (.ref un), .val (.int (Int32.ofNat nl)), .val (.int (Int32.ofNat j)), .val (.int c0_)] [(.int (Int32.ofNat nl)), (.int (Int32.ofNat (j + 3)))]))
                  refine own_go (fun t k => XS.icmpYes X217.here hx rfl (pc0 := 89) (pc' := 106) rfl (hb hby d_6_89) rfl (tlt (((own_lt (a := nl) (b := j + 3) (by omega) (by omega)).mpr (by omega)) : (Int32.ofNat nl) < (Int32.ofNat (j + 3)))).2.2.1 (by decide) (by decide) k) ?_
                  refine own_go (fun t k => XS.iload X217.here hx rfl (hb hby d_6_106) rfl k) ?_
                  refine own_go (fun t k => XS.iconst X217.here hx rfl (hb hby d_6_108) k) ?_
                  refine own_go (fun t k => XS.iadd X217.here hx rfl (hb hby d_6_109) rfl k) ?_
                  show own_Go _ _ _ _ (T217.setTop (mkF m 110 #[.val (.ref up), .val (.int (Int32.ofNat pl)), .val (.ref un), .val (.int (Int32.ofNat nl)), .val (.int (Int32.ofNat j)), .val (.int c0_)] [(.int ((Int32.ofNat j) + (4 : Int32)))]))
                  rw [show (Int32.ofNat j) + (4 : Int32) = Int32.ofNat (j + 4) from own_add j 4]
                  show own_Go _ _ _ _ (T217.setTop (mkF m 110 #[.val (.ref up), .val (.int (Int32.ofNat pl)), .val (.ref un), .val (.int (Int32.ofNat nl)), .val (.int (Int32.ofNat j)), .val (.int c0_)] [(.int (Int32.ofNat (j + 4)))]))
                  refine own_go (fun t k => XS.iloadN X217.here hx rfl (hb hby d_6_110) rfl k) ?_
                  show own_Go _ _ _ _ (T217.setTop (mkF m 111 #[.val (.ref up), .val (.int (Int32.ofNat pl)), .val (.ref un), .val (.int (Int32.ofNat nl)), .val (.int (Int32.ofNat j)), .val (.int c0_)] [(.int (Int32.ofNat nl)), (.int (Int32.ofNat (j + 4)))]))
                  refine own_go (fun t k => XS.icmpYes X217.here hx rfl (pc0 := 111) (pc' := 132) rfl (hb hby d_6_111) rfl (tlt ((own_lt (a := nl) (b := j + 4) (by omega) (by omega)).mpr (by omega))).2.2.1 (by decide) (by decide) k) ?_
                  refine own_go (fun t k => XS.iconst X217.here hx rfl (hb hby d_6_132) k) ?_
                  have no_ : ¬ ∃ i, j ≤ i ∧ i ≤ nl ∧ own_g (own_at [c0_, c1_, c2_, c3_]) (own_at [d0_, d1_, d2_, d3_]) pl nl 1 i := by
                    intro q
                    obtain ⟨i, i1, i2, i3⟩ := q
                    rcases (by omega : i = j + 0 ∨ i = j + 1 ∨ i = j + 2) with rfl | rfl | rfl
                    · exact t215 i3
                    · exact t216 i3
                    · exact t217 i3
                  show own_Go _ _ _ _ (T217.setTop (mkF m 133 #[.val (.ref up), .val (.int (Int32.ofNat pl)), .val (.ref un), .val (.int (Int32.ofNat nl)), .val (.int (Int32.ofNat j)), .val (.int c0_)] [(.int (0 : Int32))]))
                  refine own_retN X217 hx hlk (t := .boolean) hret (by simp) (hb hby d_6_133) ?_ (by decide) (by decide)
                  rw [e217]
                  exact ⟨0, rfl, N217, Or.inr ⟨rfl, fun q => no_ (((own_gstar hlt e3)).mp q)⟩, rfl⟩
            · show own_Go _ _ _ _ (T216.setTop (mkF m 67 #[.val (.ref up), .val (.int (Int32.ofNat pl)), .val (.ref un), .val (.int (Int32.ofNat nl)), .val (.int (Int32.ofNat j)), .val (.int c0_)] [(.int (Int32.ofNat nl)), (.int (Int32.ofNat (j + 2)))]))
              refine own_go (fun t k => XS.icmpYes X216.here hx rfl (pc0 := 67) (pc' := 84) rfl (hb hby d_6_67) rfl (tlt (((own_lt (a := nl) (b := j + 2) (by omega) (by omega)).mpr (by omega)) : (Int32.ofNat nl) < (Int32.ofNat (j + 2)))).2.2.1 (by decide) (by decide) k) ?_
              refine own_go (fun t k => XS.iload X216.here hx rfl (hb hby d_6_84) rfl k) ?_
              refine own_go (fun t k => XS.iconst X216.here hx rfl (hb hby d_6_86) k) ?_
              refine own_go (fun t k => XS.iadd X216.here hx rfl (hb hby d_6_87) rfl k) ?_
              show own_Go _ _ _ _ (T216.setTop (mkF m 88 #[.val (.ref up), .val (.int (Int32.ofNat pl)), .val (.ref un), .val (.int (Int32.ofNat nl)), .val (.int (Int32.ofNat j)), .val (.int c0_)] [(.int ((Int32.ofNat j) + (3 : Int32)))]))
              rw [show (Int32.ofNat j) + (3 : Int32) = Int32.ofNat (j + 3) from own_add j 3]
              show own_Go _ _ _ _ (T216.setTop (mkF m 88 #[.val (.ref up), .val (.int (Int32.ofNat pl)), .val (.ref un), .val (.int (Int32.ofNat nl)), .val (.int (Int32.ofNat j)), .val (.int c0_)] [(.int (Int32.ofNat (j + 3)))]))
              refine own_go (fun t k => XS.iloadN X216.here hx rfl (hb hby d_6_88) rfl k) ?_
              show own_Go _ _ _ _ (T216.setTop (mkF m 89 #[.val (.ref up), .val (.int (Int32.ofNat pl)), .val (.ref un), .val (.int (Int32.ofNat nl)), .val (.int (Int32.ofNat j)), .val (.int c0_)] [(.int (Int32.ofNat nl)), (.int (Int32.ofNat (j + 3)))]))
              refine own_go (fun t k => XS.icmpYes X216.here hx rfl (pc0 := 89) (pc' := 106) rfl (hb hby d_6_89) rfl (tlt ((own_lt (a := nl) (b := j + 3) (by omega) (by omega)).mpr (by omega))).2.2.1 (by decide) (by decide) k) ?_
              refine own_go (fun t k => XS.iload X216.here hx rfl (hb hby d_6_106) rfl k) ?_
              refine own_go (fun t k => XS.iconst X216.here hx rfl (hb hby d_6_108) k) ?_
              refine own_go (fun t k => XS.iadd X216.here hx rfl (hb hby d_6_109) rfl k) ?_
              show own_Go _ _ _ _ (T216.setTop (mkF m 110 #[.val (.ref up), .val (.int (Int32.ofNat pl)), .val (.ref un), .val (.int (Int32.ofNat nl)), .val (.int (Int32.ofNat j)), .val (.int c0_)] [(.int ((Int32.ofNat j) + (4 : Int32)))]))
              rw [show (Int32.ofNat j) + (4 : Int32) = Int32.ofNat (j + 4) from own_add j 4]
              show own_Go _ _ _ _ (T216.setTop (mkF m 110 #[.val (.ref up), .val (.int (Int32.ofNat pl)), .val (.ref un), .val (.int (Int32.ofNat nl)), .val (.int (Int32.ofNat j)), .val (.int c0_)] [(.int (Int32.ofNat (j + 4)))]))
              refine own_go (fun t k => XS.iloadN X216.here hx rfl (hb hby d_6_110) rfl k) ?_
              show own_Go _ _ _ _ (T216.setTop (mkF m 111 #[.val (.ref up), .val (.int (Int32.ofNat pl)), .val (.ref un), .val (.int (Int32.ofNat nl)), .val (.int (Int32.ofNat j)), .val (.int c0_)] [(.int (Int32.ofNat nl)), (.int (Int32.ofNat (j + 4)))]))
              refine own_go (fun t k => XS.icmpYes X216.here hx rfl (pc0 := 111) (pc' := 132) rfl (hb hby d_6_111) rfl (tlt ((own_lt (a := nl) (b := j + 4) (by omega) (by omega)).mpr (by omega))).2.2.1 (by decide) (by decide) k) ?_
              refine own_go (fun t k => XS.iconst X216.here hx rfl (hb hby d_6_132) k) ?_
              have no_ : ¬ ∃ i, j ≤ i ∧ i ≤ nl ∧ own_g (own_at [c0_, c1_, c2_, c3_]) (own_at [d0_, d1_, d2_, d3_]) pl nl 1 i := by
                intro q
                obtain ⟨i, i1, i2, i3⟩ := q
                rcases (by omega : i = j + 0 ∨ i = j + 1) with rfl | rfl
                · exact t215 i3
                · exact t216 i3
              show own_Go _ _ _ _ (T216.setTop (mkF m 133 #[.val (.ref up), .val (.int (Int32.ofNat pl)), .val (.ref un), .val (.int (Int32.ofNat nl)), .val (.int (Int32.ofNat j)), .val (.int c0_)] [(.int (0 : Int32))]))
              refine own_retN X216 hx hlk (t := .boolean) hret (by simp) (hb hby d_6_133) ?_ (by decide) (by decide)
              rw [e216]
              exact ⟨0, rfl, N216, Or.inr ⟨rfl, fun q => no_ (((own_gstar hlt e3)).mp q)⟩, rfl⟩
        · show own_Go _ _ _ _ (T215.setTop (mkF m 45 #[.val (.ref up), .val (.int (Int32.ofNat pl)), .val (.ref un), .val (.int (Int32.ofNat nl)), .val (.int (Int32.ofNat j)), .val (.int c0_)] [(.int (Int32.ofNat nl)), (.int (Int32.ofNat (j + 1)))]))
          refine own_go (fun t k => XS.icmpYes X215.here hx rfl (pc0 := 45) (pc' := 62) rfl (hb hby d_6_45) rfl (tlt (((own_lt (a := nl) (b := j + 1) (by omega) (by omega)).mpr (by omega)) : (Int32.ofNat nl) < (Int32.ofNat (j + 1)))).2.2.1 (by decide) (by decide) k) ?_
          refine own_go (fun t k => XS.iload X215.here hx rfl (hb hby d_6_62) rfl k) ?_
          refine own_go (fun t k => XS.iconst X215.here hx rfl (hb hby d_6_64) k) ?_
          refine own_go (fun t k => XS.iadd X215.here hx rfl (hb hby d_6_65) rfl k) ?_
          show own_Go _ _ _ _ (T215.setTop (mkF m 66 #[.val (.ref up), .val (.int (Int32.ofNat pl)), .val (.ref un), .val (.int (Int32.ofNat nl)), .val (.int (Int32.ofNat j)), .val (.int c0_)] [(.int ((Int32.ofNat j) + (2 : Int32)))]))
          rw [show (Int32.ofNat j) + (2 : Int32) = Int32.ofNat (j + 2) from own_add j 2]
          show own_Go _ _ _ _ (T215.setTop (mkF m 66 #[.val (.ref up), .val (.int (Int32.ofNat pl)), .val (.ref un), .val (.int (Int32.ofNat nl)), .val (.int (Int32.ofNat j)), .val (.int c0_)] [(.int (Int32.ofNat (j + 2)))]))
          refine own_go (fun t k => XS.iloadN X215.here hx rfl (hb hby d_6_66) rfl k) ?_
          show own_Go _ _ _ _ (T215.setTop (mkF m 67 #[.val (.ref up), .val (.int (Int32.ofNat pl)), .val (.ref un), .val (.int (Int32.ofNat nl)), .val (.int (Int32.ofNat j)), .val (.int c0_)] [(.int (Int32.ofNat nl)), (.int (Int32.ofNat (j + 2)))]))
          refine own_go (fun t k => XS.icmpYes X215.here hx rfl (pc0 := 67) (pc' := 84) rfl (hb hby d_6_67) rfl (tlt ((own_lt (a := nl) (b := j + 2) (by omega) (by omega)).mpr (by omega))).2.2.1 (by decide) (by decide) k) ?_
          refine own_go (fun t k => XS.iload X215.here hx rfl (hb hby d_6_84) rfl k) ?_
          refine own_go (fun t k => XS.iconst X215.here hx rfl (hb hby d_6_86) k) ?_
          refine own_go (fun t k => XS.iadd X215.here hx rfl (hb hby d_6_87) rfl k) ?_
          show own_Go _ _ _ _ (T215.setTop (mkF m 88 #[.val (.ref up), .val (.int (Int32.ofNat pl)), .val (.ref un), .val (.int (Int32.ofNat nl)), .val (.int (Int32.ofNat j)), .val (.int c0_)] [(.int ((Int32.ofNat j) + (3 : Int32)))]))
          rw [show (Int32.ofNat j) + (3 : Int32) = Int32.ofNat (j + 3) from own_add j 3]
          show own_Go _ _ _ _ (T215.setTop (mkF m 88 #[.val (.ref up), .val (.int (Int32.ofNat pl)), .val (.ref un), .val (.int (Int32.ofNat nl)), .val (.int (Int32.ofNat j)), .val (.int c0_)] [(.int (Int32.ofNat (j + 3)))]))
          refine own_go (fun t k => XS.iloadN X215.here hx rfl (hb hby d_6_88) rfl k) ?_
          show own_Go _ _ _ _ (T215.setTop (mkF m 89 #[.val (.ref up), .val (.int (Int32.ofNat pl)), .val (.ref un), .val (.int (Int32.ofNat nl)), .val (.int (Int32.ofNat j)), .val (.int c0_)] [(.int (Int32.ofNat nl)), (.int (Int32.ofNat (j + 3)))]))
          refine own_go (fun t k => XS.icmpYes X215.here hx rfl (pc0 := 89) (pc' := 106) rfl (hb hby d_6_89) rfl (tlt ((own_lt (a := nl) (b := j + 3) (by omega) (by omega)).mpr (by omega))).2.2.1 (by decide) (by decide) k) ?_
          refine own_go (fun t k => XS.iload X215.here hx rfl (hb hby d_6_106) rfl k) ?_
          refine own_go (fun t k => XS.iconst X215.here hx rfl (hb hby d_6_108) k) ?_
          refine own_go (fun t k => XS.iadd X215.here hx rfl (hb hby d_6_109) rfl k) ?_
          show own_Go _ _ _ _ (T215.setTop (mkF m 110 #[.val (.ref up), .val (.int (Int32.ofNat pl)), .val (.ref un), .val (.int (Int32.ofNat nl)), .val (.int (Int32.ofNat j)), .val (.int c0_)] [(.int ((Int32.ofNat j) + (4 : Int32)))]))
          rw [show (Int32.ofNat j) + (4 : Int32) = Int32.ofNat (j + 4) from own_add j 4]
          show own_Go _ _ _ _ (T215.setTop (mkF m 110 #[.val (.ref up), .val (.int (Int32.ofNat pl)), .val (.ref un), .val (.int (Int32.ofNat nl)), .val (.int (Int32.ofNat j)), .val (.int c0_)] [(.int (Int32.ofNat (j + 4)))]))
          refine own_go (fun t k => XS.iloadN X215.here hx rfl (hb hby d_6_110) rfl k) ?_
          show own_Go _ _ _ _ (T215.setTop (mkF m 111 #[.val (.ref up), .val (.int (Int32.ofNat pl)), .val (.ref un), .val (.int (Int32.ofNat nl)), .val (.int (Int32.ofNat j)), .val (.int c0_)] [(.int (Int32.ofNat nl)), (.int (Int32.ofNat (j + 4)))]))
          refine own_go (fun t k => XS.icmpYes X215.here hx rfl (pc0 := 111) (pc' := 132) rfl (hb hby d_6_111) rfl (tlt ((own_lt (a := nl) (b := j + 4) (by omega) (by omega)).mpr (by omega))).2.2.1 (by decide) (by decide) k) ?_
          refine own_go (fun t k => XS.iconst X215.here hx rfl (hb hby d_6_132) k) ?_
          have no_ : ¬ ∃ i, j ≤ i ∧ i ≤ nl ∧ own_g (own_at [c0_, c1_, c2_, c3_]) (own_at [d0_, d1_, d2_, d3_]) pl nl 1 i := by
            intro q
            obtain ⟨i, i1, i2, i3⟩ := q
            rcases (by omega : i = j + 0) with rfl
            · exact t215 i3
          show own_Go _ _ _ _ (T215.setTop (mkF m 133 #[.val (.ref up), .val (.int (Int32.ofNat pl)), .val (.ref un), .val (.int (Int32.ofNat nl)), .val (.int (Int32.ofNat j)), .val (.int c0_)] [(.int (0 : Int32))]))
          refine own_retN X215 hx hlk (t := .boolean) hret (by simp) (hb hby d_6_133) ?_ (by decide) (by decide)
          rw [e215]
          exact ⟨0, rfl, N215, Or.inr ⟨rfl, fun q => no_ (((own_gstar hlt e3)).mp q)⟩, rfl⟩
    · show own_Go _ _ _ _ (s₁.setTop (mkF m 25 #[.val (.ref up), .val (.int (Int32.ofNat pl)), .val (.ref un), .val (.int (Int32.ofNat nl)), .val (.int (Int32.ofNat j)), .val (.int c0_)] [(.int (42 : Int32)), (.int c0_)]))
      refine own_go (fun t k => XS.icmpYes X0.here hx rfl (pc0 := 25) (pc' := 134) rfl (hb hby d_6_25) rfl (feq (e3 : ¬ (c0_ = (42 : Int32)))).2 (by decide) (by decide) k) ?_
      refine own_go (fun t k => XS.iload X0.here hx rfl (hb hby d_6_134) rfl k) ?_
      refine own_go (fun t k => XS.iloadN X0.here hx rfl (hb hby d_6_136) rfl k) ?_
      by_cases g0 : j < nl
      · show own_Go _ _ _ _ (s₁.setTop (mkF m 137 #[.val (.ref up), .val (.int (Int32.ofNat pl)), .val (.ref un), .val (.int (Int32.ofNat nl)), .val (.int (Int32.ofNat j)), .val (.int c0_)] [(.int (Int32.ofNat nl)), (.int (Int32.ofNat j))]))
        refine own_go (fun t k => XS.icmpNo X0.here hx rfl (hb hby d_6_137) rfl (tlt (((own_lt (by omega) (by omega)).mpr g0) : (Int32.ofNat j) < (Int32.ofNat nl))).2.1 k) ?_
        refine own_go (fun t k => XS.aloadN X0.here hx rfl (hb hby d_6_140) rfl rfl k) ?_
        refine own_go (fun t k => XS.iload X0.here hx rfl (hb hby d_6_141) rfl k) ?_
        show own_Go _ _ _ _ (s₁.setTop (mkF m 143 #[.val (.ref up), .val (.int (Int32.ofNat pl)), .val (.ref un), .val (.int (Int32.ofNat nl)), .val (.int (Int32.ofNat j)), .val (.int c0_)] [(.int (Int32.ofNat j)), (.ref un)]))
        obtain ⟨cl220, Ar220, qk220, sz220, nn220, ha220, gf220⟩ := id An
        have hin220 : ¬ ((Int32.ofNat j) < 0 ∨ cl220.slots.size ≤ ((Int32.ofNat j)).toNatClampNeg) := inb_of sz220 (own_in4 (by omega))
        have hat220 : cl220.slots[((Int32.ofNat j)).toNatClampNeg]? = some (.int (own_at [d0_, d1_, d2_, d3_] j)) := ha220.at hin220 (own_ld (by omega) _ _ _ _)
        refine own_go (X0.caload hx (j := (Int32.ofNat j)) (v := (.int (own_at [d0_, d1_, d2_, d3_] j))) (by rw [e0]; exact Ar220.1) (State.isArrayOf_alike hZ.alike Ar220.2.1) Ar220.2.2 hin220 hat220 (g := (mkF m 143 #[.val (.ref up), .val (.int (Int32.ofNat pl)), .val (.ref un), .val (.int (Int32.ofNat nl)), .val (.int (Int32.ofNat j)), .val (.int c0_)] [(.int (Int32.ofNat j)), (.ref un)])) rfl rfl (hb hby d_6_143)) ?_
        refine own_go (fun t k => XS.iload X0.here hx rfl (hb hby d_6_144) rfl k) ?_
        by_cases e5 : (own_at [d0_, d1_, d2_, d3_] j) = c0_
        · show own_Go _ _ _ _ (s₁.setTop (mkF m 146 #[.val (.ref up), .val (.int (Int32.ofNat pl)), .val (.ref un), .val (.int (Int32.ofNat nl)), .val (.int (Int32.ofNat j)), .val (.int c0_)] [(.int c0_), (.int (own_at [d0_, d1_, d2_, d3_] j))]))
          refine own_go (fun t k => XS.icmpNo X0.here hx rfl (hb hby d_6_146) rfl (teq (e5 : (own_at [d0_, d1_, d2_, d3_] j) = c0_)).2 k) ?_
          refine own_go (fun t k => XS.aloadN X0.here hx rfl (hb hby d_6_149) rfl rfl k) ?_
          refine own_go (fun t k => XS.iloadN X0.here hx rfl (hb hby d_6_150) rfl k) ?_
          refine own_go (fun t k => XS.aloadN X0.here hx rfl (hb hby d_6_151) rfl rfl k) ?_
          show own_Go _ _ _ _ (s₁.setTop (mkF m 152 #[.val (.ref up), .val (.int (Int32.ofNat pl)), .val (.ref un), .val (.int (Int32.ofNat nl)), .val (.int (Int32.ofNat j)), .val (.int c0_)] [(.ref un), (.int (Int32.ofNat pl)), (.ref up)]))
          refine own_go (fun t k => XS.iloadN X0.here hx rfl (hb hby d_6_152) rfl k) ?_
          refine own_go (fun t k => XS.iload X0.here hx rfl (hb hby d_6_153) rfl k) ?_
          refine own_go (fun t k => XS.iconst X0.here hx rfl (hb hby d_6_155) k) ?_
          refine own_go (fun t k => XS.iadd X0.here hx rfl (hb hby d_6_156) rfl k) ?_
          show own_Go _ _ _ _ (s₁.setTop (mkF m 157 #[.val (.ref up), .val (.int (Int32.ofNat pl)), .val (.ref un), .val (.int (Int32.ofNat nl)), .val (.int (Int32.ofNat j)), .val (.int c0_)] [(.int ((Int32.ofNat j) + (1 : Int32))), (.int (Int32.ofNat nl)), (.ref un), (.int (Int32.ofNat pl)), (.ref up)]))
          rw [show (Int32.ofNat j) + (1 : Int32) = Int32.ofNat (j + 1) from own_add j 1]
          show own_Go _ _ _ _ (s₁.setTop (mkF m 157 #[.val (.ref up), .val (.int (Int32.ofNat pl)), .val (.ref un), .val (.int (Int32.ofNat nl)), .val (.int (Int32.ofNat j)), .val (.int c0_)] [(.int (Int32.ofNat (j + 1))), (.int (Int32.ofNat nl)), (.ref un), (.int (Int32.ofNat pl)), (.ref up)]))
          obtain ⟨_, _, ⟨T221, L221, k221, n221⟩, -, X221, ⟨Lc221, hQ221, l221, y221, z221⟩, st221⟩ := Jvm.LawKit.callS X0 hx (y := (⟨"com/example/fathomsearch/fathomsearch/NamePatternMatchesPinLaw", "m1", "([CI[CII)Z"⟩ : MethodName)) hown (mvT hZ (w_84 hw)) (mvT hZ (w_85 hw)) (mvT hZ (w_3 hw)) (mvT hZ (w_86 hw)) (by decide) (backOf (W := 0) (rm_m1 l Z a0 hw [] up kp un kn c0_ c1_ c2_ c3_ d0_ d1_ d2_ d3_ pl nl (j + 1) h0 n0 Z0 (by omega) (by omega) (by omega) (by omega) Ap An) hZ (w_86 hw) (w_3 hw) (by decide) (by decide)) (g := (mkF m 157 #[.val (.ref up), .val (.int (Int32.ofNat pl)), .val (.ref un), .val (.int (Int32.ofNat nl)), .val (.int (Int32.ofNat j)), .val (.int c0_)] [(.int (Int32.ofNat (j + 1))), (.int (Int32.ofNat nl)), (.ref un), (.int (Int32.ofNat pl)), (.ref up)])) rfl (by rw [hml]; rfl) (argsL := [(.ref up), (.int (Int32.ofNat pl)), (.ref un), (.int (Int32.ofNat nl)), (.int (Int32.ofNat (j + 1)))]) (rest := []) (lenOf pd_3 rfl) rfl (by show 2 * 0 + _ ≤ _; exact Nat.le_of_eq rfl) (hb hby d_6_157) (fun _ _ => ⟨rfl, e0, (by decide : 0 + 0 ≤ _), (by decide : 0 + 0 ≤ _)⟩)
          dsimp only [Pt.U, Pt.locs, Pt.cells, Pt.slots] at X221 l221 y221 z221 st221 hQ221
          subst l221 y221 z221
          obtain ⟨iv221, rfl, N221q, hV221, e221⟩ := hQ221
          have N221 := Fr.app N0 N221q
          refine own_go st221 ?_
          rcases hV221 with ⟨rfl, t221⟩ | ⟨rfl, t221⟩
          · show own_Go _ _ _ _ (T221.setTop (mkF m 160 #[.val (.ref up), .val (.int (Int32.ofNat pl)), .val (.ref un), .val (.int (Int32.ofNat nl)), .val (.int (Int32.ofNat j)), .val (.int c0_)] [(.int (1 : Int32))]))
            refine own_go (fun t k => XS.ifNo X221.here hx rfl (hb hby d_6_160) rfl ((if0 _ _).trans (feq (by decide : ¬ ((1 : Int32) = (0 : Int32)))).1) k) ?_
            refine own_go (fun t k => XS.iconst X221.here hx rfl (hb hby d_6_163) k) ?_
            refine own_go (fun t k => XS.goto X221.here hx rfl (pc0 := 164) (pc' := 168) rfl (hb hby d_6_164) (by decide) (by decide) k) ?_
            show own_Go _ _ _ _ (T221.setTop (mkF m 168 #[.val (.ref up), .val (.int (Int32.ofNat pl)), .val (.ref un), .val (.int (Int32.ofNat nl)), .val (.int (Int32.ofNat j)), .val (.int c0_)] [(.int (1 : Int32))]))
            refine own_retN X221 hx hlk (t := .boolean) hret (by simp) (hb hby d_6_168) ?_ (by decide) (by decide)
            rw [e221]
            exact ⟨1, rfl, N221, Or.inl ⟨rfl, (own_glit hlt e3).mpr ⟨g0, e5, t221⟩⟩, rfl⟩
          · show own_Go _ _ _ _ (T221.setTop (mkF m 160 #[.val (.ref up), .val (.int (Int32.ofNat pl)), .val (.ref un), .val (.int (Int32.ofNat nl)), .val (.int (Int32.ofNat j)), .val (.int c0_)] [(.int (0 : Int32))]))
            refine own_go (fun t k => XS.ifYes X221.here hx rfl (pc0 := 160) (pc' := 167) rfl (hb hby d_6_160) rfl ((if0 _ _).trans (teq (by decide : (0 : Int32) = (0 : Int32))).1) (by decide) (by decide) k) ?_
            refine own_go (fun t k => XS.iconst X221.here hx rfl (hb hby d_6_167) k) ?_
            show own_Go _ _ _ _ (T221.setTop (mkF m 168 #[.val (.ref up), .val (.int (Int32.ofNat pl)), .val (.ref un), .val (.int (Int32.ofNat nl)), .val (.int (Int32.ofNat j)), .val (.int c0_)] [(.int (0 : Int32))]))
            refine own_retN X221 hx hlk (t := .boolean) hret (by simp) (hb hby d_6_168) ?_ (by decide) (by decide)
            rw [e221]
            exact ⟨0, rfl, N221, Or.inr ⟨rfl, fun q => t221 ((own_glit hlt e3).mp q).2.2⟩, rfl⟩
        · show own_Go _ _ _ _ (s₁.setTop (mkF m 146 #[.val (.ref up), .val (.int (Int32.ofNat pl)), .val (.ref un), .val (.int (Int32.ofNat nl)), .val (.int (Int32.ofNat j)), .val (.int c0_)] [(.int c0_), (.int (own_at [d0_, d1_, d2_, d3_] j))]))
          refine own_go (fun t k => XS.icmpYes X0.here hx rfl (pc0 := 146) (pc' := 167) rfl (hb hby d_6_146) rfl (feq (e5 : ¬ ((own_at [d0_, d1_, d2_, d3_] j) = c0_))).2 (by decide) (by decide) k) ?_
          refine own_go (fun t k => XS.iconst X0.here hx rfl (hb hby d_6_167) k) ?_
          show own_Go _ _ _ _ (s₁.setTop (mkF m 168 #[.val (.ref up), .val (.int (Int32.ofNat pl)), .val (.ref un), .val (.int (Int32.ofNat nl)), .val (.int (Int32.ofNat j)), .val (.int c0_)] [(.int (0 : Int32))]))
          refine own_retN X0 hx hlk (t := .boolean) hret (by simp) (hb hby d_6_168) ?_ (by decide) (by decide)
          rw [e0]
          exact ⟨0, rfl, N0, Or.inr ⟨rfl, fun q => e5 ((own_glit hlt e3).mp q).2.1⟩, rfl⟩
      · show own_Go _ _ _ _ (s₁.setTop (mkF m 137 #[.val (.ref up), .val (.int (Int32.ofNat pl)), .val (.ref un), .val (.int (Int32.ofNat nl)), .val (.int (Int32.ofNat j)), .val (.int c0_)] [(.int (Int32.ofNat nl)), (.int (Int32.ofNat j))]))
        refine own_go (fun t k => XS.icmpYes X0.here hx rfl (pc0 := 137) (pc' := 167) rfl (hb hby d_6_137) rfl (flt ((fun q => g0 ((own_lt (by omega) (by omega)).mp q)) : ¬ ((Int32.ofNat j) < (Int32.ofNat nl)))).2.1 (by decide) (by decide) k) ?_
        refine own_go (fun t k => XS.iconst X0.here hx rfl (hb hby d_6_167) k) ?_
        show own_Go _ _ _ _ (s₁.setTop (mkF m 168 #[.val (.ref up), .val (.int (Int32.ofNat pl)), .val (.ref un), .val (.int (Int32.ofNat nl)), .val (.int (Int32.ofNat j)), .val (.int c0_)] [(.int (0 : Int32))]))
        refine own_retN X0 hx hlk (t := .boolean) hret (by simp) (hb hby d_6_168) ?_ (by decide) (by decide)
        rw [e0]
        exact ⟨0, rfl, N0, Or.inr ⟨rfl, fun q => g0 ((own_glit hlt e3).mp q).1⟩, rfl⟩
def Q_mt (Z : State) (us : Addr) (ub : Addr) (kb : ClassId) (ps : List Int32) (un : Addr) (uc : Addr) (kc : ClassId) (ns : List Int32) (zv : Int32) (gv : Value) (h0 : Heap) (n0 : Nat) (v : Option Value) (h : Heap) (L : List Loc) : Prop := ∃ iv : Int32, v = some (.int iv) ∧ Fr n0 L ∧ own_V iv (own_g (own_at ps) (own_at ns) ps.length ns.length 0 0) ∧ h = h0
theorem d_p6_2_99 : decode prog_6_method_2_code 99 = .ok (.iload_n 2, 1) := by decide +kernel
theorem d_p6_2_100 : decode prog_6_method_2_code 100 = .ok (.aload_n 0, 1) := by decide +kernel
theorem w_38 {Z : State} {a0 : Array Value} (hw : ∀ d ∈ tables_1, d.before a0 Z = true) : (Jvm.Cond.methodLink "com/example/fathomsearch/fathomsearch/NamePattern" (7 : Nat) ({ cls := "java/lang/String", name := "length", desc := "()I" } : Jvm.MethodName)).before a0 Z = true := hw _ (List.mem_of_getElem? (i := 38) rfl)
theorem w_42 {Z : State} {a0 : Array Value} (hw : ∀ d ∈ tables_1, d.before a0 Z = true) : (Jvm.Cond.code ({ cls := "java/lang/String", name := "length", desc := "()I" } : Jvm.MethodName) jdk_42_method_54_code (1 : Nat) (Option.some Jvm.ClassFile.FieldType.int)).before a0 Z = true := hw _ (List.mem_of_getElem? (i := 42) rfl)
theorem pd_4 : parseMethodDescriptor "()I" = some ⟨[], some .int⟩ := by decide +kernel
theorem d_p6_2_101 : decode prog_6_method_2_code 101 = .ok (.invokevirtual 7, 3) := by decide +kernel
theorem w_41 {Z : State} {a0 : Array Value} (hw : ∀ d ∈ tables_1, d.before a0 Z = true) : (Jvm.Cond.selects "java/lang/String" ({ cls := "java/lang/String", name := "length", desc := "()I" } : Jvm.MethodName) ({ cls := "java/lang/String", name := "length", desc := "()I" } : Jvm.MethodName)).before a0 Z = true := hw _ (List.mem_of_getElem? (i := 41) rfl)
theorem w_39 {Z : State} {a0 : Array Value} (hw : ∀ d ∈ tables_1, d.before a0 Z = true) : (Jvm.Cond.declares ({ cls := "java/lang/String", name := "length", desc := "()I" } : Jvm.MethodName)).before a0 Z = true := hw _ (List.mem_of_getElem? (i := 39) rfl)
theorem w_40 {Z : State} {a0 : Array Value} (hw : ∀ d ∈ tables_1, d.before a0 Z = true) : (Jvm.Cond.instanceMethod ({ cls := "java/lang/String", name := "length", desc := "()I" } : Jvm.MethodName)).before a0 Z = true := hw _ (List.mem_of_getElem? (i := 40) rfl)
theorem d_p6_2_104 : decode prog_6_method_2_code 104 = .ok (.if_icmp .ge 19, 3) := by decide +kernel
theorem d_p6_2_107 : decode prog_6_method_2_code 107 = .ok (.aload_n 0, 1) := by decide +kernel
theorem d_p6_2_108 : decode prog_6_method_2_code 108 = .ok (.iload_n 2, 1) := by decide +kernel
theorem w_62 {Z : State} {a0 : Array Value} (hw : ∀ d ∈ tables_1, d.before a0 Z = true) : (Jvm.Cond.methodLink "com/example/fathomsearch/fathomsearch/NamePattern" (13 : Nat) ({ cls := "java/lang/String", name := "charAt", desc := "(I)C" } : Jvm.MethodName)).before a0 Z = true := hw _ (List.mem_of_getElem? (i := 62) rfl)
theorem w_66 {Z : State} {a0 : Array Value} (hw : ∀ d ∈ tables_1, d.before a0 Z = true) : (Jvm.Cond.code ({ cls := "java/lang/String", name := "charAt", desc := "(I)C" } : Jvm.MethodName) jdk_42_method_56_code (2 : Nat) (Option.some Jvm.ClassFile.FieldType.char)).before a0 Z = true := hw _ (List.mem_of_getElem? (i := 66) rfl)
theorem pd_5 : parseMethodDescriptor "(I)C" = some ⟨[.int], some .char⟩ := by decide +kernel
theorem d_p6_2_109 : decode prog_6_method_2_code 109 = .ok (.invokevirtual 13, 3) := by decide +kernel
theorem w_65 {Z : State} {a0 : Array Value} (hw : ∀ d ∈ tables_1, d.before a0 Z = true) : (Jvm.Cond.selects "java/lang/String" ({ cls := "java/lang/String", name := "charAt", desc := "(I)C" } : Jvm.MethodName) ({ cls := "java/lang/String", name := "charAt", desc := "(I)C" } : Jvm.MethodName)).before a0 Z = true := hw _ (List.mem_of_getElem? (i := 65) rfl)
theorem w_63 {Z : State} {a0 : Array Value} (hw : ∀ d ∈ tables_1, d.before a0 Z = true) : (Jvm.Cond.declares ({ cls := "java/lang/String", name := "charAt", desc := "(I)C" } : Jvm.MethodName)).before a0 Z = true := hw _ (List.mem_of_getElem? (i := 63) rfl)
theorem w_64 {Z : State} {a0 : Array Value} (hw : ∀ d ∈ tables_1, d.before a0 Z = true) : (Jvm.Cond.instanceMethod ({ cls := "java/lang/String", name := "charAt", desc := "(I)C" } : Jvm.MethodName)).before a0 Z = true := hw _ (List.mem_of_getElem? (i := 64) rfl)
theorem d_p6_2_112 : decode prog_6_method_2_code 112 = .ok (.bipush 42, 2) := by decide +kernel
theorem d_p6_2_114 : decode prog_6_method_2_code 114 = .ok (.if_icmp .ne 9, 3) := by decide +kernel
theorem d_p6_2_117 : decode prog_6_method_2_code 117 = .ok (.iinc 2 1, 3) := by decide +kernel
theorem d_p6_2_120 : decode prog_6_method_2_code 120 = .ok (.goto (-21), 3) := by decide +kernel
theorem d_p6_2_123 : decode prog_6_method_2_code 123 = .ok (.iload_n 2, 1) := by decide +kernel
theorem d_p6_2_124 : decode prog_6_method_2_code 124 = .ok (.aload_n 0, 1) := by decide +kernel
theorem d_p6_2_125 : decode prog_6_method_2_code 125 = .ok (.invokevirtual 7, 3) := by decide +kernel
theorem d_p6_2_128 : decode prog_6_method_2_code 128 = .ok (.if_icmp .ne 7, 3) := by decide +kernel
theorem d_p6_2_135 : decode prog_6_method_2_code 135 = .ok (.iconst 0, 1) := by decide +kernel
theorem d_p6_2_136 : decode prog_6_method_2_code 136 = .ok (.ireturn, 1) := by decide +kernel
theorem d_p6_2_131 : decode prog_6_method_2_code 131 = .ok (.iconst 1, 1) := by decide +kernel
theorem d_p6_2_132 : decode prog_6_method_2_code 132 = .ok (.goto 4, 3) := by decide +kernel
set_option maxRecDepth 65536 in
set_option maxHeartbeats 40000000 in
theorem sg_mx {p : Program} {l : Launch} {e : Env} {s : State} {m : MethodId} {args : Array Value} {below : List Frame} {meth : Method} {c : Code} {T0 : State} {locs : List Loc} {cells slots : Nat} {Z : State} {a0 : Array Value} (hw : ∀ d ∈ tables_1, d.before a0 Z = true) {s3_ s4_ s5_ : Slot} {h0 : Heap} {n0 : Nat} (X0 : Stand p l e ({ frames := 4, cells := 0, slots := 0, locals := 60 } : Room) s m args below meth c T0 locs cells slots) (hlk : meth.locks = false) (hret : meth.sig.returnType = (some .boolean)) (hx : p.tables.exec = Jvm.exec) (hby : c.code = prog_6_method_2_code) (hml : c.maxLocals = 6) (hown : s.vm.findClass "com/example/fathomsearch/fathomsearch/NamePattern" = some m.cls) (hZ : Z.Warmed39 s.vm) (e0 : T0.heap = h0) (N0 : Fr n0 locs) (Z0 : n0 ≤ h0.size)
    (us ub : Addr) (kb : ClassId) (ps : List Int32) (un uc : Addr) (kc : ClassId) (ns : List Int32) (zv : Int32) (gv : Value) (B pi : Nat) (O0 : Old Z n0 h0) (hzv : ¬ zv = (0 : Int32)) (S0 : Sta Z Z.heap "java/lang/String" "COMPACT_STRINGS" "Z" (.int zv)) (rgv : gv.isRef = true) (G0 : Sta Z Z.heap "jdk/internal/util/Preconditions" "SIOOBE_FORMATTER" "Ljava/util/function/BiFunction;" gv) (Ex1 : Exa Z h0 us "java/lang/String") (Cd1 : Fld Z h0 us "java/lang/String" "coder" "B" (.int (0 : Int32))) (Va1 : Fld Z h0 us "java/lang/String" "value" "[B" (.ref ub)) (Ar1 : Arv Z h0 ub kb .byte (Int32.ofNat ps.length) ((ps.map (fun c => c.toInt8.toInt32)).map Value.int) (.int (0 : Int32))) (Ex2 : Exa Z h0 un "java/lang/String") (Cd2 : Fld Z h0 un "java/lang/String" "coder" "B" (.int (0 : Int32))) (Va2 : Fld Z h0 un "java/lang/String" "value" "[B" (.ref uc)) (Ar2 : Arv Z h0 uc kc .byte (Int32.ofNat ns.length) ((ns.map (fun c => c.toInt8.toInt32)).map Value.int) (.int (0 : Int32))) (hB : ∀ c ∈ ps, own_B c) (hD : ∀ c ∈ ns, own_B c) (l4 : ps.length ≤ 4) (l5 : ns.length ≤ 4) (ih : ∀ (T1 : State) (locs1 : List Loc) (X1 : Stand p l e ({ frames := 4, cells := 0, slots := 0, locals := 60 } : Room) s m args below meth c T1 locs1 cells slots) (e1 : T1.heap = h0) (N1 : Fr n0 locs1) (pi : Nat), ps.length - pi < B → pi ≤ ps.length → (own_g (own_at ps) (own_at ns) ps.length ns.length 0 0 ↔ own_g (own_at ps) (own_at ns) ps.length ns.length pi ns.length) → own_Go p e below (own_Fin s ({ frames := 4, cells := 0, slots := 0, locals := 60 } : Room).cells ({ frames := 4, cells := 0, slots := 0, locals := 60 } : Room).slots (Q_mt Z us ub kb ps un uc kc ns zv gv h0 n0)) (T1.setTop (mkF m 99 #[.val (.ref us), .val (.ref un), .val (.int (Int32.ofNat pi)), s3_, s4_, s5_] []))) (hm : ps.length - pi < B + 1) (hp : pi ≤ ps.length) (hI : own_g (own_at ps) (own_at ns) ps.length ns.length 0 0 ↔ own_g (own_at ps) (own_at ns) ps.length ns.length pi ns.length) (hcc : cells + 0 ≤ 0) (hss : slots + 0 ≤ 0) :
    own_Go p e below (own_Fin s ({ frames := 4, cells := 0, slots := 0, locals := 60 } : Room).cells ({ frames := 4, cells := 0, slots := 0, locals := 60 } : Room).slots (Q_mt Z us ub kb ps un uc kc ns zv gv h0 n0)) (T0.setTop (mkF m 99 #[.val (.ref us), .val (.ref un), .val (.int (Int32.ofNat pi)), s3_, s4_, s5_] [])) := by
  show own_Go _ _ _ _ (T0.setTop (mkF m 99 #[.val (.ref us), .val (.ref un), .val (.int (Int32.ofNat pi)), s3_, s4_, s5_] []))
  refine own_go (fun t k => XS.iloadN X0.here hx rfl (hb hby d_p6_2_99) rfl k) ?_
  refine own_go (fun t k => XS.aloadN X0.here hx rfl (hb hby d_p6_2_100) rfl rfl k) ?_
  have hD222 := StrChars.Road.codOf (cs := ps) rfl (fun x hx => (hB x hx).2)
  have hU222 := own_up _ hB
  obtain ⟨cq223, kq223, q223a, q223b, q223c⟩ := isOf hZ e0 Ex1
  obtain ⟨_, _, ⟨T223, L223, k223, n223⟩, -, X223, ⟨Lc223, hQ223, l223, y223, z223⟩, st223⟩ := X0.virtualBack hx (y := (⟨"java/lang/String", "length", "()I"⟩ : MethodName)) (z := (⟨"java/lang/String", "length", "()I"⟩ : MethodName)) hown (mvT hZ (w_38 hw)) (mvT hZ (w_39 hw)) (notFace_of_selects (args := #[]) (mvT hZ (w_41 hw))) (mvT hZ (w_41 hw)) (mvT hZ (w_40 hw)) (by decide) (StrChars.Road.lenW (W := 1) hZ (own_wlen hw) (kI := 4) (w_14 hw) (cs := ps) Ex1 Va1 Cd1 Ar1 hD222 hU222 (S0.ext O0.2) hzv (Nat.le_trans l4 (by decide)) (by decide) (by decide)) q223a q223c (g := (mkF m 101 #[.val (.ref us), .val (.ref un), .val (.int (Int32.ofNat pi)), s3_, s4_, s5_] [(.ref us), (.int (Int32.ofNat pi))])) rfl (by rw [hml]; rfl) (Steps.refl _) (argsL := []) (rest := [(.int (Int32.ofNat pi))]) (lenOf pd_4 rfl) rfl (by show 2 * 0 + _ ≤ _; exact Nat.le_of_eq rfl) (hb hby d_p6_2_101) (fun _ _ => ⟨rfl, e0, (by show _ ≤ 0; omega), (by show _ ≤ 0; omega)⟩)
  dsimp only [Pt.U, Pt.locs, Pt.cells, Pt.slots] at X223 l223 y223 z223 st223 hQ223
  subst l223 y223 z223
  obtain ⟨rfl, rfl, e223⟩ := hQ223
  have N223q : Fr n0 ([] : List Loc) := Fr.nil n0
  have N223 := Fr.app N0 N223q
  refine own_go (fun t k => st223.trans k) ?_
  by_cases hM : pi < ps.length
  · show own_Go _ _ _ _ (T223.setTop (mkF m 104 #[.val (.ref us), .val (.ref un), .val (.int (Int32.ofNat pi)), s3_, s4_, s5_] [(.int (Int32.ofNat ps.length)), (.int (Int32.ofNat pi))]))
    refine own_go (fun t k => XS.icmpNo X223.here hx rfl (hb hby d_p6_2_104) rfl (tlt (((own_lt (by omega) (by omega)).mpr hM) : (Int32.ofNat pi) < (Int32.ofNat ps.length))).2.1 k) ?_
    refine own_go (fun t k => XS.aloadN X223.here hx rfl (hb hby d_p6_2_107) rfl rfl k) ?_
    refine own_go (fun t k => XS.iloadN X223.here hx rfl (hb hby d_p6_2_108) rfl k) ?_
    have hD224 := StrChars.Road.codOf (cs := ps) rfl (fun x hx => (hB x hx).2)
    have hU224 := own_up _ hB
    obtain ⟨cq225, kq225, q225a, q225b, q225c⟩ := isOf hZ e223 Ex1
    obtain ⟨_, _, ⟨T225, L225, k225, n225⟩, -, X225, ⟨Lc225, hQ225, l225, y225, z225⟩, st225⟩ := X223.virtualBack hx (y := (⟨"java/lang/String", "charAt", "(I)C"⟩ : MethodName)) (z := (⟨"java/lang/String", "charAt", "(I)C"⟩ : MethodName)) hown (mvT hZ (w_62 hw)) (mvT hZ (w_63 hw)) (notFace_of_selects (args := #[]) (mvT hZ (w_65 hw))) (mvT hZ (w_65 hw)) (mvT hZ (w_64 hw)) (by decide) (StrChars.Road.chN (W := 0) hZ (own_wch hw) (kI := 4) (w_14 hw) (cs := ps) Ex1 Va1 Cd1 Ar1 hD224 hU224 (S0.ext O0.2) hzv (G0.ext O0.2) rgv (Nat.le_trans l4 (by decide)) (i := pi) hM (j := Int32.ofNat pi) rfl (by decide) (by decide)) q225a q225c (g := (mkF m 109 #[.val (.ref us), .val (.ref un), .val (.int (Int32.ofNat pi)), s3_, s4_, s5_] [(.int (Int32.ofNat pi)), (.ref us)])) rfl (by rw [hml]; rfl) (Steps.refl _) (argsL := [(.int (Int32.ofNat pi))]) (rest := []) (lenOf pd_5 rfl) rfl (by show 2 * 0 + _ ≤ _; exact Nat.le_of_eq rfl) (hb hby d_p6_2_109) (fun _ _ => ⟨rfl, e223, (by show _ ≤ 0; omega), (by show _ ≤ 0; omega)⟩)
    dsimp only [Pt.U, Pt.locs, Pt.cells, Pt.slots] at X225 l225 y225 z225 st225 hQ225
    subst l225 y225 z225
    obtain ⟨rfl, rfl, e225⟩ := hQ225
    have N225q : Fr n0 ([] : List Loc) := Fr.nil n0
    have N225 := Fr.app N223 N225q
    refine own_go (fun t k => st225.trans k) ?_
    show own_Go _ _ _ _ (T225.setTop (mkF m 112 #[.val (.ref us), .val (.ref un), .val (.int (Int32.ofNat pi)), s3_, s4_, s5_] [(.int (ps.getD pi 0))]))
    refine own_go (fun t k => XS.bipush X225.here hx rfl (hb hby d_p6_2_112) k) ?_
    by_cases h42 : ps.getD pi 0 = 42
    · show own_Go _ _ _ _ (T225.setTop (mkF m 114 #[.val (.ref us), .val (.ref un), .val (.int (Int32.ofNat pi)), s3_, s4_, s5_] [(.int (42 : Int32)), (.int (ps.getD pi 0))]))
      refine own_go (fun t k => XS.icmpNo X225.here hx rfl (hb hby d_p6_2_114) rfl (teq (h42 : (ps.getD pi 0) = (42 : Int32))).2 k) ?_
      refine own_go (fun t k => XS.iinc X225.here hx rfl (hb hby d_p6_2_117) rfl (l' := #[.val (.ref us), .val (.ref un), .val (.int ((Int32.ofNat pi) + (1 : Int32))), s3_, s4_, s5_]) rfl k) ?_
      refine own_go (fun t k => XS.goto X225.here hx rfl (pc0 := 120) (pc' := 99) rfl (hb hby d_p6_2_120) (by decide) (by decide) k) ?_
      show own_Go _ _ _ _ (T225.setTop (mkF m 99 #[.val (.ref us), .val (.ref un), .val (.int ((Int32.ofNat pi) + (1 : Int32))), s3_, s4_, s5_] []))
      rw [show (Int32.ofNat pi) + (1 : Int32) = Int32.ofNat (pi + 1) from own_add pi 1]
      exact ih _ _ X225 e225 N225 (pi + 1) (by omega) (by omega) (own_X1 hI hM h42)
    · show own_Go _ _ _ _ (T225.setTop (mkF m 114 #[.val (.ref us), .val (.ref un), .val (.int (Int32.ofNat pi)), s3_, s4_, s5_] [(.int (42 : Int32)), (.int (ps.getD pi 0))]))
      refine own_go (fun t k => XS.icmpYes X225.here hx rfl (pc0 := 114) (pc' := 123) rfl (hb hby d_p6_2_114) rfl (feq (h42 : ¬ ((ps.getD pi 0) = (42 : Int32)))).2 (by decide) (by decide) k) ?_
      refine own_go (fun t k => XS.iloadN X225.here hx rfl (hb hby d_p6_2_123) rfl k) ?_
      refine own_go (fun t k => XS.aloadN X225.here hx rfl (hb hby d_p6_2_124) rfl rfl k) ?_
      have hD226 := StrChars.Road.codOf (cs := ps) rfl (fun x hx => (hB x hx).2)
      have hU226 := own_up _ hB
      obtain ⟨cq227, kq227, q227a, q227b, q227c⟩ := isOf hZ e225 Ex1
      obtain ⟨_, _, ⟨T227, L227, k227, n227⟩, -, X227, ⟨Lc227, hQ227, l227, y227, z227⟩, st227⟩ := X225.virtualBack hx (y := (⟨"java/lang/String", "length", "()I"⟩ : MethodName)) (z := (⟨"java/lang/String", "length", "()I"⟩ : MethodName)) hown (mvT hZ (w_38 hw)) (mvT hZ (w_39 hw)) (notFace_of_selects (args := #[]) (mvT hZ (w_41 hw))) (mvT hZ (w_41 hw)) (mvT hZ (w_40 hw)) (by decide) (StrChars.Road.lenW (W := 1) hZ (own_wlen hw) (kI := 4) (w_14 hw) (cs := ps) Ex1 Va1 Cd1 Ar1 hD226 hU226 (S0.ext O0.2) hzv (Nat.le_trans l4 (by decide)) (by decide) (by decide)) q227a q227c (g := (mkF m 125 #[.val (.ref us), .val (.ref un), .val (.int (Int32.ofNat pi)), s3_, s4_, s5_] [(.ref us), (.int (Int32.ofNat pi))])) rfl (by rw [hml]; rfl) (Steps.refl _) (argsL := []) (rest := [(.int (Int32.ofNat pi))]) (lenOf pd_4 rfl) rfl (by show 2 * 0 + _ ≤ _; exact Nat.le_of_eq rfl) (hb hby d_p6_2_125) (fun _ _ => ⟨rfl, e225, (by show _ ≤ 0; omega), (by show _ ≤ 0; omega)⟩)
      dsimp only [Pt.U, Pt.locs, Pt.cells, Pt.slots] at X227 l227 y227 z227 st227 hQ227
      subst l227 y227 z227
      obtain ⟨rfl, rfl, e227⟩ := hQ227
      have N227q : Fr n0 ([] : List Loc) := Fr.nil n0
      have N227 := Fr.app N225 N227q
      refine own_go (fun t k => st227.trans k) ?_
      show own_Go _ _ _ _ (T227.setTop (mkF m 128 #[.val (.ref us), .val (.ref un), .val (.int (Int32.ofNat pi)), s3_, s4_, s5_] [(.int (Int32.ofNat ps.length)), (.int (Int32.ofNat pi))]))
      refine own_go (fun t k => XS.icmpYes X227.here hx rfl (pc0 := 128) (pc' := 135) rfl (hb hby d_p6_2_128) rfl (feq ((fun q => (Nat.ne_of_lt hM) (own_inj (a := pi) (b := ps.length) (by omega) (by omega) q)) : ¬ ((Int32.ofNat pi) = (Int32.ofNat ps.length)))).2 (by decide) (by decide) k) ?_
      refine own_go (fun t k => XS.iconst X227.here hx rfl (hb hby d_p6_2_135) k) ?_
      show own_Go _ _ _ _ (T227.setTop (mkF m 136 #[.val (.ref us), .val (.ref un), .val (.int (Int32.ofNat pi)), s3_, s4_, s5_] [(.int (0 : Int32))]))
      refine own_retN X227 hx hlk (t := .boolean) hret (by simp) (hb hby d_p6_2_136) ?_ (by show _ ≤ 0; omega) (by show _ ≤ 0; omega)
      rw [e227]
      exact ⟨0, rfl, N227, Or.inr ⟨rfl, own_X2 hI hM h42⟩, rfl⟩
  · show own_Go _ _ _ _ (T223.setTop (mkF m 104 #[.val (.ref us), .val (.ref un), .val (.int (Int32.ofNat pi)), s3_, s4_, s5_] [(.int (Int32.ofNat ps.length)), (.int (Int32.ofNat pi))]))
    refine own_go (fun t k => XS.icmpYes X223.here hx rfl (pc0 := 104) (pc' := 123) rfl (hb hby d_p6_2_104) rfl (flt ((fun q => hM ((own_lt (by omega) (by omega)).mp q)) : ¬ ((Int32.ofNat pi) < (Int32.ofNat ps.length)))).2.1 (by decide) (by decide) k) ?_
    refine own_go (fun t k => XS.iloadN X223.here hx rfl (hb hby d_p6_2_123) rfl k) ?_
    refine own_go (fun t k => XS.aloadN X223.here hx rfl (hb hby d_p6_2_124) rfl rfl k) ?_
    have hD228 := StrChars.Road.codOf (cs := ps) rfl (fun x hx => (hB x hx).2)
    have hU228 := own_up _ hB
    obtain ⟨cq229, kq229, q229a, q229b, q229c⟩ := isOf hZ e223 Ex1
    obtain ⟨_, _, ⟨T229, L229, k229, n229⟩, -, X229, ⟨Lc229, hQ229, l229, y229, z229⟩, st229⟩ := X223.virtualBack hx (y := (⟨"java/lang/String", "length", "()I"⟩ : MethodName)) (z := (⟨"java/lang/String", "length", "()I"⟩ : MethodName)) hown (mvT hZ (w_38 hw)) (mvT hZ (w_39 hw)) (notFace_of_selects (args := #[]) (mvT hZ (w_41 hw))) (mvT hZ (w_41 hw)) (mvT hZ (w_40 hw)) (by decide) (StrChars.Road.lenW (W := 1) hZ (own_wlen hw) (kI := 4) (w_14 hw) (cs := ps) Ex1 Va1 Cd1 Ar1 hD228 hU228 (S0.ext O0.2) hzv (Nat.le_trans l4 (by decide)) (by decide) (by decide)) q229a q229c (g := (mkF m 125 #[.val (.ref us), .val (.ref un), .val (.int (Int32.ofNat pi)), s3_, s4_, s5_] [(.ref us), (.int (Int32.ofNat pi))])) rfl (by rw [hml]; rfl) (Steps.refl _) (argsL := []) (rest := [(.int (Int32.ofNat pi))]) (lenOf pd_4 rfl) rfl (by show 2 * 0 + _ ≤ _; exact Nat.le_of_eq rfl) (hb hby d_p6_2_125) (fun _ _ => ⟨rfl, e223, (by show _ ≤ 0; omega), (by show _ ≤ 0; omega)⟩)
    dsimp only [Pt.U, Pt.locs, Pt.cells, Pt.slots] at X229 l229 y229 z229 st229 hQ229
    subst l229 y229 z229
    obtain ⟨rfl, rfl, e229⟩ := hQ229
    have N229q : Fr n0 ([] : List Loc) := Fr.nil n0
    have N229 := Fr.app N223 N229q
    refine own_go (fun t k => st229.trans k) ?_
    have hE : pi = ps.length := by omega
    show own_Go _ _ _ _ (T229.setTop (mkF m 128 #[.val (.ref us), .val (.ref un), .val (.int (Int32.ofNat pi)), s3_, s4_, s5_] [(.int (Int32.ofNat ps.length)), (.int (Int32.ofNat pi))]))
    refine own_go (fun t k => XS.icmpNo X229.here hx rfl (hb hby d_p6_2_128) rfl (teq (own_eqn (a := pi) (b := ps.length) hE)).2 k) ?_
    refine own_go (fun t k => XS.iconst X229.here hx rfl (hb hby d_p6_2_131) k) ?_
    refine own_go (fun t k => XS.goto X229.here hx rfl (pc0 := 132) (pc' := 136) rfl (hb hby d_p6_2_132) (by decide) (by decide) k) ?_
    show own_Go _ _ _ _ (T229.setTop (mkF m 136 #[.val (.ref us), .val (.ref un), .val (.int (Int32.ofNat pi)), s3_, s4_, s5_] [(.int (1 : Int32))]))
    refine own_retN X229 hx hlk (t := .boolean) hret (by simp) (hb hby d_p6_2_136) ?_ (by show _ ≤ 0; omega) (by show _ ≤ 0; omega)
    rw [e229]
    exact ⟨1, rfl, N229, Or.inl ⟨rfl, own_X3 hI hE⟩, rfl⟩
set_option maxRecDepth 65536 in
theorem own_mxl {p : Program} {l : Launch} {e : Env} {s : State} {m : MethodId} {args : Array Value} {below : List Frame} {meth : Method} {c : Code} {cells slots : Nat} {Z : State} {a0 : Array Value} (hw : ∀ d ∈ tables_1, d.before a0 Z = true) {s3_ s4_ s5_ : Slot} {h0 : Heap} {n0 : Nat} (hlk : meth.locks = false) (hret : meth.sig.returnType = (some .boolean)) (hx : p.tables.exec = Jvm.exec) (hby : c.code = prog_6_method_2_code) (hml : c.maxLocals = 6) (hown : s.vm.findClass "com/example/fathomsearch/fathomsearch/NamePattern" = some m.cls) (hZ : Z.Warmed39 s.vm) (Z0 : n0 ≤ h0.size) (us : Addr) (ub : Addr) (kb : ClassId) (ps : List Int32) (un : Addr) (uc : Addr) (kc : ClassId) (ns : List Int32) (zv : Int32) (gv : Value) (O0 : Old Z n0 h0) (hzv : ¬ zv = (0 : Int32)) (S0 : Sta Z Z.heap "java/lang/String" "COMPACT_STRINGS" "Z" (.int zv)) (rgv : gv.isRef = true) (G0 : Sta Z Z.heap "jdk/internal/util/Preconditions" "SIOOBE_FORMATTER" "Ljava/util/function/BiFunction;" gv) (Ex1 : Exa Z h0 us "java/lang/String") (Cd1 : Fld Z h0 us "java/lang/String" "coder" "B" (.int (0 : Int32))) (Va1 : Fld Z h0 us "java/lang/String" "value" "[B" (.ref ub)) (Ar1 : Arv Z h0 ub kb .byte (Int32.ofNat ps.length) ((ps.map (fun c => c.toInt8.toInt32)).map Value.int) (.int (0 : Int32))) (Ex2 : Exa Z h0 un "java/lang/String") (Cd2 : Fld Z h0 un "java/lang/String" "coder" "B" (.int (0 : Int32))) (Va2 : Fld Z h0 un "java/lang/String" "value" "[B" (.ref uc)) (Ar2 : Arv Z h0 uc kc .byte (Int32.ofNat ns.length) ((ns.map (fun c => c.toInt8.toInt32)).map Value.int) (.int (0 : Int32))) (hB : ∀ c ∈ ps, own_B c) (hD : ∀ c ∈ ns, own_B c) (l4 : ps.length ≤ 4) (l5 : ns.length ≤ 4) (hcc : cells + 0 ≤ 0) (hss : slots + 0 ≤ 0) : ∀ B : Nat, ∀ (T1 : State) (locs1 : List Loc) (X1 : Stand p l e ({ frames := 4, cells := 0, slots := 0, locals := 60 } : Room) s m args below meth c T1 locs1 cells slots) (e1 : T1.heap = h0) (N1 : Fr n0 locs1) (pi : Nat), ps.length - pi < B → pi ≤ ps.length → (own_g (own_at ps) (own_at ns) ps.length ns.length 0 0 ↔ own_g (own_at ps) (own_at ns) ps.length ns.length pi ns.length) → own_Go p e below (own_Fin s ({ frames := 4, cells := 0, slots := 0, locals := 60 } : Room).cells ({ frames := 4, cells := 0, slots := 0, locals := 60 } : Room).slots (Q_mt Z us ub kb ps un uc kc ns zv gv h0 n0)) (T1.setTop (mkF m 99 #[.val (.ref us), .val (.ref un), .val (.int (Int32.ofNat pi)), s3_, s4_, s5_] [])) := by
  intro B
  induction B with
  | zero => intro T1 locs1 X1 e1 N1 pi h; exact absurd h (Nat.not_lt_zero _)
  | succ B ih => intro T1 locs1 X1 e1 N1 pi h1 h2 h3; exact sg_mx hw X1 hlk hret hx hby hml hown hZ e1 N1 Z0 us ub kb ps un uc kc ns zv gv B pi O0 hzv S0 rgv G0 Ex1 Cd1 Va1 Ar1 Ex2 Cd2 Va2 Ar2 hB hD l4 l5 ih h1 h2 h3 hcc hss
theorem d_p6_2_10 : decode prog_6_method_2_code 10 = .ok (.iload_n 3, 1) := by decide +kernel
theorem d_p6_2_11 : decode prog_6_method_2_code 11 = .ok (.aload_n 1, 1) := by decide +kernel
theorem d_p6_2_12 : decode prog_6_method_2_code 12 = .ok (.invokevirtual 7, 3) := by decide +kernel
theorem d_p6_2_15 : decode prog_6_method_2_code 15 = .ok (.if_icmp .ge 84, 3) := by decide +kernel
theorem d_p6_2_18 : decode prog_6_method_2_code 18 = .ok (.iload_n 2, 1) := by decide +kernel
theorem d_p6_2_19 : decode prog_6_method_2_code 19 = .ok (.aload_n 0, 1) := by decide +kernel
theorem d_p6_2_20 : decode prog_6_method_2_code 20 = .ok (.invokevirtual 7, 3) := by decide +kernel
theorem d_p6_2_23 : decode prog_6_method_2_code 23 = .ok (.if_icmp .ge 25, 3) := by decide +kernel
theorem d_p6_2_26 : decode prog_6_method_2_code 26 = .ok (.aload_n 0, 1) := by decide +kernel
theorem d_p6_2_27 : decode prog_6_method_2_code 27 = .ok (.iload_n 2, 1) := by decide +kernel
theorem d_p6_2_28 : decode prog_6_method_2_code 28 = .ok (.invokevirtual 13, 3) := by decide +kernel
theorem d_p6_2_31 : decode prog_6_method_2_code 31 = .ok (.bipush 42, 2) := by decide +kernel
theorem d_p6_2_33 : decode prog_6_method_2_code 33 = .ok (.if_icmp .ne 15, 3) := by decide +kernel
theorem d_p6_2_36 : decode prog_6_method_2_code 36 = .ok (.iload_n 2, 1) := by decide +kernel
theorem d_p6_2_37 : decode prog_6_method_2_code 37 = .ok (.iinc 2 1, 3) := by decide +kernel
theorem d_p6_2_40 : decode prog_6_method_2_code 40 = .ok (.istore 4, 2) := by decide +kernel
theorem d_p6_2_42 : decode prog_6_method_2_code 42 = .ok (.iload_n 3, 1) := by decide +kernel
theorem d_p6_2_43 : decode prog_6_method_2_code 43 = .ok (.istore 5, 2) := by decide +kernel
theorem d_p6_2_45 : decode prog_6_method_2_code 45 = .ok (.goto (-35), 3) := by decide +kernel
theorem d_p6_2_48 : decode prog_6_method_2_code 48 = .ok (.iload_n 2, 1) := by decide +kernel
theorem d_p6_2_49 : decode prog_6_method_2_code 49 = .ok (.aload_n 0, 1) := by decide +kernel
theorem d_p6_2_50 : decode prog_6_method_2_code 50 = .ok (.invokevirtual 7, 3) := by decide +kernel
theorem d_p6_2_53 : decode prog_6_method_2_code 53 = .ok (.if_icmp .ge 25, 3) := by decide +kernel
theorem d_p6_2_56 : decode prog_6_method_2_code 56 = .ok (.aload_n 0, 1) := by decide +kernel
theorem d_p6_2_57 : decode prog_6_method_2_code 57 = .ok (.iload_n 2, 1) := by decide +kernel
theorem d_p6_2_58 : decode prog_6_method_2_code 58 = .ok (.invokevirtual 13, 3) := by decide +kernel
theorem d_p6_2_61 : decode prog_6_method_2_code 61 = .ok (.aload_n 1, 1) := by decide +kernel
theorem d_p6_2_62 : decode prog_6_method_2_code 62 = .ok (.iload_n 3, 1) := by decide +kernel
theorem d_p6_2_63 : decode prog_6_method_2_code 63 = .ok (.invokevirtual 13, 3) := by decide +kernel
theorem d_p6_2_66 : decode prog_6_method_2_code 66 = .ok (.if_icmp .ne 12, 3) := by decide +kernel
theorem d_p6_2_69 : decode prog_6_method_2_code 69 = .ok (.iinc 2 1, 3) := by decide +kernel
theorem d_p6_2_72 : decode prog_6_method_2_code 72 = .ok (.iinc 3 1, 3) := by decide +kernel
theorem d_p6_2_75 : decode prog_6_method_2_code 75 = .ok (.goto (-65), 3) := by decide +kernel
theorem d_p6_2_78 : decode prog_6_method_2_code 78 = .ok (.iload 4, 2) := by decide +kernel
theorem d_p6_2_80 : decode prog_6_method_2_code 80 = .ok (.ifCond .lt 17, 3) := by decide +kernel
theorem d_p6_2_97 : decode prog_6_method_2_code 97 = .ok (.iconst 0, 1) := by decide +kernel
theorem d_p6_2_98 : decode prog_6_method_2_code 98 = .ok (.ireturn, 1) := by decide +kernel
theorem d_p6_2_83 : decode prog_6_method_2_code 83 = .ok (.iload 4, 2) := by decide +kernel
theorem d_p6_2_85 : decode prog_6_method_2_code 85 = .ok (.iconst 1, 1) := by decide +kernel
theorem d_p6_2_86 : decode prog_6_method_2_code 86 = .ok (.iadd, 1) := by decide +kernel
theorem d_p6_2_87 : decode prog_6_method_2_code 87 = .ok (.istore_n 2, 1) := by decide +kernel
theorem d_p6_2_88 : decode prog_6_method_2_code 88 = .ok (.iinc 5 1, 3) := by decide +kernel
theorem d_p6_2_91 : decode prog_6_method_2_code 91 = .ok (.iload 5, 2) := by decide +kernel
theorem d_p6_2_93 : decode prog_6_method_2_code 93 = .ok (.istore_n 3, 1) := by decide +kernel
theorem d_p6_2_94 : decode prog_6_method_2_code 94 = .ok (.goto (-84), 3) := by decide +kernel
set_option maxRecDepth 65536 in
set_option maxHeartbeats 40000000 in
theorem sg_mt {p : Program} {l : Launch} {e : Env} {s : State} {m : MethodId} {args : Array Value} {below : List Frame} {meth : Method} {c : Code} {T0 : State} {locs : List Loc} {cells slots : Nat} {Z : State} {a0 : Array Value} (hw : ∀ d ∈ tables_1, d.before a0 Z = true)  {h0 : Heap} {n0 : Nat} (X0 : Stand p l e ({ frames := 4, cells := 0, slots := 0, locals := 60 } : Room) s m args below meth c T0 locs cells slots) (hlk : meth.locks = false) (hret : meth.sig.returnType = (some .boolean)) (hx : p.tables.exec = Jvm.exec) (hby : c.code = prog_6_method_2_code) (hml : c.maxLocals = 6) (hown : s.vm.findClass "com/example/fathomsearch/fathomsearch/NamePattern" = some m.cls) (hZ : Z.Warmed39 s.vm) (e0 : T0.heap = h0) (N0 : Fr n0 locs) (Z0 : n0 ≤ h0.size)
    (us ub : Addr) (kb : ClassId) (ps : List Int32) (un uc : Addr) (kc : ClassId) (ns : List Int32) (zv : Int32) (gv : Value) (A B pi ti ri : Nat) (sv : Int32) (O0 : Old Z n0 h0) (hzv : ¬ zv = (0 : Int32)) (S0 : Sta Z Z.heap "java/lang/String" "COMPACT_STRINGS" "Z" (.int zv)) (rgv : gv.isRef = true) (G0 : Sta Z Z.heap "jdk/internal/util/Preconditions" "SIOOBE_FORMATTER" "Ljava/util/function/BiFunction;" gv) (Ex1 : Exa Z h0 us "java/lang/String") (Cd1 : Fld Z h0 us "java/lang/String" "coder" "B" (.int (0 : Int32))) (Va1 : Fld Z h0 us "java/lang/String" "value" "[B" (.ref ub)) (Ar1 : Arv Z h0 ub kb .byte (Int32.ofNat ps.length) ((ps.map (fun c => c.toInt8.toInt32)).map Value.int) (.int (0 : Int32))) (Ex2 : Exa Z h0 un "java/lang/String") (Cd2 : Fld Z h0 un "java/lang/String" "coder" "B" (.int (0 : Int32))) (Va2 : Fld Z h0 un "java/lang/String" "value" "[B" (.ref uc)) (Ar2 : Arv Z h0 uc kc .byte (Int32.ofNat ns.length) ((ns.map (fun c => c.toInt8.toInt32)).map Value.int) (.int (0 : Int32))) (hB : ∀ c ∈ ps, own_B c) (hD : ∀ c ∈ ns, own_B c) (l4 : ps.length ≤ 4) (l5 : ns.length ≤ 4) (ihA : ∀ (T1 : State) (locs1 : List Loc) (X1 : Stand p l e ({ frames := 4, cells := 0, slots := 0, locals := 60 } : Room) s m args below meth c T1 locs1 cells slots) (e1 : T1.heap = h0) (N1 : Fr n0 locs1) (pi ti ri : Nat) (sv : Int32), ns.length - ri < A → ps.length - pi < (ps.length + 1) → own_I (own_at ps) (own_at ns) ps.length ns.length pi ti ri sv → own_Go p e below (own_Fin s ({ frames := 4, cells := 0, slots := 0, locals := 60 } : Room).cells ({ frames := 4, cells := 0, slots := 0, locals := 60 } : Room).slots (Q_mt Z us ub kb ps un uc kc ns zv gv h0 n0)) (T1.setTop (mkF m 10 #[.val (.ref us), .val (.ref un), .val (.int (Int32.ofNat pi)), .val (.int (Int32.ofNat ti)), .val (.int sv), .val (.int (Int32.ofNat ri))] []))) (ihB : ∀ (T1 : State) (locs1 : List Loc) (X1 : Stand p l e ({ frames := 4, cells := 0, slots := 0, locals := 60 } : Room) s m args below meth c T1 locs1 cells slots) (e1 : T1.heap = h0) (N1 : Fr n0 locs1) (pi ti ri : Nat) (sv : Int32), ns.length - ri < (A + 1) → ps.length - pi < B → own_I (own_at ps) (own_at ns) ps.length ns.length pi ti ri sv → own_Go p e below (own_Fin s ({ frames := 4, cells := 0, slots := 0, locals := 60 } : Room).cells ({ frames := 4, cells := 0, slots := 0, locals := 60 } : Room).slots (Q_mt Z us ub kb ps un uc kc ns zv gv h0 n0)) (T1.setTop (mkF m 10 #[.val (.ref us), .val (.ref un), .val (.int (Int32.ofNat pi)), .val (.int (Int32.ofNat ti)), .val (.int sv), .val (.int (Int32.ofNat ri))] []))) (hA : ns.length - ri < A + 1) (hm : ps.length - pi < B + 1) (I0 : own_I (own_at ps) (own_at ns) ps.length ns.length pi ti ri sv) (hcc : cells + 0 ≤ 0) (hss : slots + 0 ≤ 0) :
    own_Go p e below (own_Fin s ({ frames := 4, cells := 0, slots := 0, locals := 60 } : Room).cells ({ frames := 4, cells := 0, slots := 0, locals := 60 } : Room).slots (Q_mt Z us ub kb ps un uc kc ns zv gv h0 n0)) (T0.setTop (mkF m 10 #[.val (.ref us), .val (.ref un), .val (.int (Int32.ofNat pi)), .val (.int (Int32.ofNat ti)), .val (.int sv), .val (.int (Int32.ofNat ri))] [])) := by
  obtain ⟨I1, I2, I3, -⟩ := id I0
  show own_Go _ _ _ _ (T0.setTop (mkF m 10 #[.val (.ref us), .val (.ref un), .val (.int (Int32.ofNat pi)), .val (.int (Int32.ofNat ti)), .val (.int sv), .val (.int (Int32.ofNat ri))] []))
  refine own_go (fun t k => XS.iloadN X0.here hx rfl (hb hby d_p6_2_10) rfl k) ?_
  refine own_go (fun t k => XS.aloadN X0.here hx rfl (hb hby d_p6_2_11) rfl rfl k) ?_
  have hD230 := StrChars.Road.codOf (cs := ns) rfl (fun x hx => (hD x hx).2)
  have hU230 := own_up _ hD
  obtain ⟨cq231, kq231, q231a, q231b, q231c⟩ := isOf hZ e0 Ex2
  obtain ⟨_, _, ⟨T231, L231, k231, n231⟩, -, X231, ⟨Lc231, hQ231, l231, y231, z231⟩, st231⟩ := X0.virtualBack hx (y := (⟨"java/lang/String", "length", "()I"⟩ : MethodName)) (z := (⟨"java/lang/String", "length", "()I"⟩ : MethodName)) hown (mvT hZ (w_38 hw)) (mvT hZ (w_39 hw)) (notFace_of_selects (args := #[]) (mvT hZ (w_41 hw))) (mvT hZ (w_41 hw)) (mvT hZ (w_40 hw)) (by decide) (StrChars.Road.lenW (W := 1) hZ (own_wlen hw) (kI := 4) (w_14 hw) (cs := ns) Ex2 Va2 Cd2 Ar2 hD230 hU230 (S0.ext O0.2) hzv (Nat.le_trans l5 (by decide)) (by decide) (by decide)) q231a q231c (g := (mkF m 12 #[.val (.ref us), .val (.ref un), .val (.int (Int32.ofNat pi)), .val (.int (Int32.ofNat ti)), .val (.int sv), .val (.int (Int32.ofNat ri))] [(.ref un), (.int (Int32.ofNat ti))])) rfl (by rw [hml]; rfl) (Steps.refl _) (argsL := []) (rest := [(.int (Int32.ofNat ti))]) (lenOf pd_4 rfl) rfl (by show 2 * 0 + _ ≤ _; exact Nat.le_of_eq rfl) (hb hby d_p6_2_12) (fun _ _ => ⟨rfl, e0, (by show _ ≤ 0; omega), (by show _ ≤ 0; omega)⟩)
  dsimp only [Pt.U, Pt.locs, Pt.cells, Pt.slots] at X231 l231 y231 z231 st231 hQ231
  subst l231 y231 z231
  obtain ⟨rfl, rfl, e231⟩ := hQ231
  have N231q : Fr n0 ([] : List Loc) := Fr.nil n0
  have N231 := Fr.app N0 N231q
  refine own_go (fun t k => st231.trans k) ?_
  by_cases hN : ti < ns.length
  · show own_Go _ _ _ _ (T231.setTop (mkF m 15 #[.val (.ref us), .val (.ref un), .val (.int (Int32.ofNat pi)), .val (.int (Int32.ofNat ti)), .val (.int sv), .val (.int (Int32.ofNat ri))] [(.int (Int32.ofNat ns.length)), (.int (Int32.ofNat ti))]))
    refine own_go (fun t k => XS.icmpNo X231.here hx rfl (hb hby d_p6_2_15) rfl (tlt (((own_lt (by omega) (by omega)).mpr hN) : (Int32.ofNat ti) < (Int32.ofNat ns.length))).2.1 k) ?_
    refine own_go (fun t k => XS.iloadN X231.here hx rfl (hb hby d_p6_2_18) rfl k) ?_
    refine own_go (fun t k => XS.aloadN X231.here hx rfl (hb hby d_p6_2_19) rfl rfl k) ?_
    have hD232 := StrChars.Road.codOf (cs := ps) rfl (fun x hx => (hB x hx).2)
    have hU232 := own_up _ hB
    obtain ⟨cq233, kq233, q233a, q233b, q233c⟩ := isOf hZ e231 Ex1
    obtain ⟨_, _, ⟨T233, L233, k233, n233⟩, -, X233, ⟨Lc233, hQ233, l233, y233, z233⟩, st233⟩ := X231.virtualBack hx (y := (⟨"java/lang/String", "length", "()I"⟩ : MethodName)) (z := (⟨"java/lang/String", "length", "()I"⟩ : MethodName)) hown (mvT hZ (w_38 hw)) (mvT hZ (w_39 hw)) (notFace_of_selects (args := #[]) (mvT hZ (w_41 hw))) (mvT hZ (w_41 hw)) (mvT hZ (w_40 hw)) (by decide) (StrChars.Road.lenW (W := 1) hZ (own_wlen hw) (kI := 4) (w_14 hw) (cs := ps) Ex1 Va1 Cd1 Ar1 hD232 hU232 (S0.ext O0.2) hzv (Nat.le_trans l4 (by decide)) (by decide) (by decide)) q233a q233c (g := (mkF m 20 #[.val (.ref us), .val (.ref un), .val (.int (Int32.ofNat pi)), .val (.int (Int32.ofNat ti)), .val (.int sv), .val (.int (Int32.ofNat ri))] [(.ref us), (.int (Int32.ofNat pi))])) rfl (by rw [hml]; rfl) (Steps.refl _) (argsL := []) (rest := [(.int (Int32.ofNat pi))]) (lenOf pd_4 rfl) rfl (by show 2 * 0 + _ ≤ _; exact Nat.le_of_eq rfl) (hb hby d_p6_2_20) (fun _ _ => ⟨rfl, e231, (by show _ ≤ 0; omega), (by show _ ≤ 0; omega)⟩)
    dsimp only [Pt.U, Pt.locs, Pt.cells, Pt.slots] at X233 l233 y233 z233 st233 hQ233
    subst l233 y233 z233
    obtain ⟨rfl, rfl, e233⟩ := hQ233
    have N233q : Fr n0 ([] : List Loc) := Fr.nil n0
    have N233 := Fr.app N231 N233q
    refine own_go (fun t k => st233.trans k) ?_
    by_cases hM : pi < ps.length
    · show own_Go _ _ _ _ (T233.setTop (mkF m 23 #[.val (.ref us), .val (.ref un), .val (.int (Int32.ofNat pi)), .val (.int (Int32.ofNat ti)), .val (.int sv), .val (.int (Int32.ofNat ri))] [(.int (Int32.ofNat ps.length)), (.int (Int32.ofNat pi))]))
      refine own_go (fun t k => XS.icmpNo X233.here hx rfl (hb hby d_p6_2_23) rfl (tlt (((own_lt (by omega) (by omega)).mpr hM) : (Int32.ofNat pi) < (Int32.ofNat ps.length))).2.1 k) ?_
      refine own_go (fun t k => XS.aloadN X233.here hx rfl (hb hby d_p6_2_26) rfl rfl k) ?_
      refine own_go (fun t k => XS.iloadN X233.here hx rfl (hb hby d_p6_2_27) rfl k) ?_
      have hD234 := StrChars.Road.codOf (cs := ps) rfl (fun x hx => (hB x hx).2)
      have hU234 := own_up _ hB
      obtain ⟨cq235, kq235, q235a, q235b, q235c⟩ := isOf hZ e233 Ex1
      obtain ⟨_, _, ⟨T235, L235, k235, n235⟩, -, X235, ⟨Lc235, hQ235, l235, y235, z235⟩, st235⟩ := X233.virtualBack hx (y := (⟨"java/lang/String", "charAt", "(I)C"⟩ : MethodName)) (z := (⟨"java/lang/String", "charAt", "(I)C"⟩ : MethodName)) hown (mvT hZ (w_62 hw)) (mvT hZ (w_63 hw)) (notFace_of_selects (args := #[]) (mvT hZ (w_65 hw))) (mvT hZ (w_65 hw)) (mvT hZ (w_64 hw)) (by decide) (StrChars.Road.chN (W := 0) hZ (own_wch hw) (kI := 4) (w_14 hw) (cs := ps) Ex1 Va1 Cd1 Ar1 hD234 hU234 (S0.ext O0.2) hzv (G0.ext O0.2) rgv (Nat.le_trans l4 (by decide)) (i := pi) hM (j := Int32.ofNat pi) rfl (by decide) (by decide)) q235a q235c (g := (mkF m 28 #[.val (.ref us), .val (.ref un), .val (.int (Int32.ofNat pi)), .val (.int (Int32.ofNat ti)), .val (.int sv), .val (.int (Int32.ofNat ri))] [(.int (Int32.ofNat pi)), (.ref us)])) rfl (by rw [hml]; rfl) (Steps.refl _) (argsL := [(.int (Int32.ofNat pi))]) (rest := []) (lenOf pd_5 rfl) rfl (by show 2 * 0 + _ ≤ _; exact Nat.le_of_eq rfl) (hb hby d_p6_2_28) (fun _ _ => ⟨rfl, e233, (by show _ ≤ 0; omega), (by show _ ≤ 0; omega)⟩)
      dsimp only [Pt.U, Pt.locs, Pt.cells, Pt.slots] at X235 l235 y235 z235 st235 hQ235
      subst l235 y235 z235
      obtain ⟨rfl, rfl, e235⟩ := hQ235
      have N235q : Fr n0 ([] : List Loc) := Fr.nil n0
      have N235 := Fr.app N233 N235q
      refine own_go (fun t k => st235.trans k) ?_
      show own_Go _ _ _ _ (T235.setTop (mkF m 31 #[.val (.ref us), .val (.ref un), .val (.int (Int32.ofNat pi)), .val (.int (Int32.ofNat ti)), .val (.int sv), .val (.int (Int32.ofNat ri))] [(.int (ps.getD pi 0))]))
      refine own_go (fun t k => XS.bipush X235.here hx rfl (hb hby d_p6_2_31) k) ?_
      by_cases h42 : ps.getD pi 0 = 42
      · show own_Go _ _ _ _ (T235.setTop (mkF m 33 #[.val (.ref us), .val (.ref un), .val (.int (Int32.ofNat pi)), .val (.int (Int32.ofNat ti)), .val (.int sv), .val (.int (Int32.ofNat ri))] [(.int (42 : Int32)), (.int (ps.getD pi 0))]))
        refine own_go (fun t k => XS.icmpNo X235.here hx rfl (hb hby d_p6_2_33) rfl (teq (h42 : (ps.getD pi 0) = (42 : Int32))).2 k) ?_
        refine own_go (fun t k => XS.iloadN X235.here hx rfl (hb hby d_p6_2_36) rfl k) ?_
        refine own_go (fun t k => XS.iinc X235.here hx rfl (hb hby d_p6_2_37) rfl (l' := #[.val (.ref us), .val (.ref un), .val (.int ((Int32.ofNat pi) + (1 : Int32))), .val (.int (Int32.ofNat ti)), .val (.int sv), .val (.int (Int32.ofNat ri))]) rfl k) ?_
        refine own_go (fun t k => XS.istore X235.here hx rfl (hb hby d_p6_2_40) rfl (l' := #[.val (.ref us), .val (.ref un), .val (.int ((Int32.ofNat pi) + (1 : Int32))), .val (.int (Int32.ofNat ti)), .val (.int (Int32.ofNat pi)), .val (.int (Int32.ofNat ri))]) rfl k) ?_
        show own_Go _ _ _ _ (T235.setTop (mkF m 42 #[.val (.ref us), .val (.ref un), .val (.int ((Int32.ofNat pi) + (1 : Int32))), .val (.int (Int32.ofNat ti)), .val (.int (Int32.ofNat pi)), .val (.int (Int32.ofNat ri))] []))
        refine own_go (fun t k => XS.iloadN X235.here hx rfl (hb hby d_p6_2_42) rfl k) ?_
        refine own_go (fun t k => XS.istore X235.here hx rfl (hb hby d_p6_2_43) rfl (l' := #[.val (.ref us), .val (.ref un), .val (.int ((Int32.ofNat pi) + (1 : Int32))), .val (.int (Int32.ofNat ti)), .val (.int (Int32.ofNat pi)), .val (.int (Int32.ofNat ti))]) rfl k) ?_
        refine own_go (fun t k => XS.goto X235.here hx rfl (pc0 := 45) (pc' := 10) rfl (hb hby d_p6_2_45) (by decide) (by decide) k) ?_
        show own_Go _ _ _ _ (T235.setTop (mkF m 10 #[.val (.ref us), .val (.ref un), .val (.int ((Int32.ofNat pi) + (1 : Int32))), .val (.int (Int32.ofNat ti)), .val (.int (Int32.ofNat pi)), .val (.int (Int32.ofNat ti))] []))
        rw [show (Int32.ofNat pi) + (1 : Int32) = Int32.ofNat (pi + 1) from own_add pi 1]
        exact ihB _ _ X235 e235 N235 (pi + 1) ti ti (Int32.ofNat pi) (by omega) (by omega) (own_Ia I0 hM h42)
      · show own_Go _ _ _ _ (T235.setTop (mkF m 33 #[.val (.ref us), .val (.ref un), .val (.int (Int32.ofNat pi)), .val (.int (Int32.ofNat ti)), .val (.int sv), .val (.int (Int32.ofNat ri))] [(.int (42 : Int32)), (.int (ps.getD pi 0))]))
        refine own_go (fun t k => XS.icmpYes X235.here hx rfl (pc0 := 33) (pc' := 48) rfl (hb hby d_p6_2_33) rfl (feq (h42 : ¬ ((ps.getD pi 0) = (42 : Int32)))).2 (by decide) (by decide) k) ?_
        refine own_go (fun t k => XS.iloadN X235.here hx rfl (hb hby d_p6_2_48) rfl k) ?_
        refine own_go (fun t k => XS.aloadN X235.here hx rfl (hb hby d_p6_2_49) rfl rfl k) ?_
        have hD236 := StrChars.Road.codOf (cs := ps) rfl (fun x hx => (hB x hx).2)
        have hU236 := own_up _ hB
        obtain ⟨cq237, kq237, q237a, q237b, q237c⟩ := isOf hZ e235 Ex1
        obtain ⟨_, _, ⟨T237, L237, k237, n237⟩, -, X237, ⟨Lc237, hQ237, l237, y237, z237⟩, st237⟩ := X235.virtualBack hx (y := (⟨"java/lang/String", "length", "()I"⟩ : MethodName)) (z := (⟨"java/lang/String", "length", "()I"⟩ : MethodName)) hown (mvT hZ (w_38 hw)) (mvT hZ (w_39 hw)) (notFace_of_selects (args := #[]) (mvT hZ (w_41 hw))) (mvT hZ (w_41 hw)) (mvT hZ (w_40 hw)) (by decide) (StrChars.Road.lenW (W := 1) hZ (own_wlen hw) (kI := 4) (w_14 hw) (cs := ps) Ex1 Va1 Cd1 Ar1 hD236 hU236 (S0.ext O0.2) hzv (Nat.le_trans l4 (by decide)) (by decide) (by decide)) q237a q237c (g := (mkF m 50 #[.val (.ref us), .val (.ref un), .val (.int (Int32.ofNat pi)), .val (.int (Int32.ofNat ti)), .val (.int sv), .val (.int (Int32.ofNat ri))] [(.ref us), (.int (Int32.ofNat pi))])) rfl (by rw [hml]; rfl) (Steps.refl _) (argsL := []) (rest := [(.int (Int32.ofNat pi))]) (lenOf pd_4 rfl) rfl (by show 2 * 0 + _ ≤ _; exact Nat.le_of_eq rfl) (hb hby d_p6_2_50) (fun _ _ => ⟨rfl, e235, (by show _ ≤ 0; omega), (by show _ ≤ 0; omega)⟩)
        dsimp only [Pt.U, Pt.locs, Pt.cells, Pt.slots] at X237 l237 y237 z237 st237 hQ237
        subst l237 y237 z237
        obtain ⟨rfl, rfl, e237⟩ := hQ237
        have N237q : Fr n0 ([] : List Loc) := Fr.nil n0
        have N237 := Fr.app N235 N237q
        refine own_go (fun t k => st237.trans k) ?_
        show own_Go _ _ _ _ (T237.setTop (mkF m 53 #[.val (.ref us), .val (.ref un), .val (.int (Int32.ofNat pi)), .val (.int (Int32.ofNat ti)), .val (.int sv), .val (.int (Int32.ofNat ri))] [(.int (Int32.ofNat ps.length)), (.int (Int32.ofNat pi))]))
        refine own_go (fun t k => XS.icmpNo X237.here hx rfl (hb hby d_p6_2_53) rfl (tlt ((own_lt (by omega) (by omega)).mpr hM)).2.1 k) ?_
        refine own_go (fun t k => XS.aloadN X237.here hx rfl (hb hby d_p6_2_56) rfl rfl k) ?_
        refine own_go (fun t k => XS.iloadN X237.here hx rfl (hb hby d_p6_2_57) rfl k) ?_
        have hD238 := StrChars.Road.codOf (cs := ps) rfl (fun x hx => (hB x hx).2)
        have hU238 := own_up _ hB
        obtain ⟨cq239, kq239, q239a, q239b, q239c⟩ := isOf hZ e237 Ex1
        obtain ⟨_, _, ⟨T239, L239, k239, n239⟩, -, X239, ⟨Lc239, hQ239, l239, y239, z239⟩, st239⟩ := X237.virtualBack hx (y := (⟨"java/lang/String", "charAt", "(I)C"⟩ : MethodName)) (z := (⟨"java/lang/String", "charAt", "(I)C"⟩ : MethodName)) hown (mvT hZ (w_62 hw)) (mvT hZ (w_63 hw)) (notFace_of_selects (args := #[]) (mvT hZ (w_65 hw))) (mvT hZ (w_65 hw)) (mvT hZ (w_64 hw)) (by decide) (StrChars.Road.chN (W := 0) hZ (own_wch hw) (kI := 4) (w_14 hw) (cs := ps) Ex1 Va1 Cd1 Ar1 hD238 hU238 (S0.ext O0.2) hzv (G0.ext O0.2) rgv (Nat.le_trans l4 (by decide)) (i := pi) hM (j := Int32.ofNat pi) rfl (by decide) (by decide)) q239a q239c (g := (mkF m 58 #[.val (.ref us), .val (.ref un), .val (.int (Int32.ofNat pi)), .val (.int (Int32.ofNat ti)), .val (.int sv), .val (.int (Int32.ofNat ri))] [(.int (Int32.ofNat pi)), (.ref us)])) rfl (by rw [hml]; rfl) (Steps.refl _) (argsL := [(.int (Int32.ofNat pi))]) (rest := []) (lenOf pd_5 rfl) rfl (by show 2 * 0 + _ ≤ _; exact Nat.le_of_eq rfl) (hb hby d_p6_2_58) (fun _ _ => ⟨rfl, e237, (by show _ ≤ 0; omega), (by show _ ≤ 0; omega)⟩)
        dsimp only [Pt.U, Pt.locs, Pt.cells, Pt.slots] at X239 l239 y239 z239 st239 hQ239
        subst l239 y239 z239
        obtain ⟨rfl, rfl, e239⟩ := hQ239
        have N239q : Fr n0 ([] : List Loc) := Fr.nil n0
        have N239 := Fr.app N237 N239q
        refine own_go (fun t k => st239.trans k) ?_
        show own_Go _ _ _ _ (T239.setTop (mkF m 61 #[.val (.ref us), .val (.ref un), .val (.int (Int32.ofNat pi)), .val (.int (Int32.ofNat ti)), .val (.int sv), .val (.int (Int32.ofNat ri))] [(.int (ps.getD pi 0))]))
        refine own_go (fun t k => XS.aloadN X239.here hx rfl (hb hby d_p6_2_61) rfl rfl k) ?_
        refine own_go (fun t k => XS.iloadN X239.here hx rfl (hb hby d_p6_2_62) rfl k) ?_
        have hD240 := StrChars.Road.codOf (cs := ns) rfl (fun x hx => (hD x hx).2)
        have hU240 := own_up _ hD
        obtain ⟨cq241, kq241, q241a, q241b, q241c⟩ := isOf hZ e239 Ex2
        obtain ⟨_, _, ⟨T241, L241, k241, n241⟩, -, X241, ⟨Lc241, hQ241, l241, y241, z241⟩, st241⟩ := X239.virtualBack hx (y := (⟨"java/lang/String", "charAt", "(I)C"⟩ : MethodName)) (z := (⟨"java/lang/String", "charAt", "(I)C"⟩ : MethodName)) hown (mvT hZ (w_62 hw)) (mvT hZ (w_63 hw)) (notFace_of_selects (args := #[]) (mvT hZ (w_65 hw))) (mvT hZ (w_65 hw)) (mvT hZ (w_64 hw)) (by decide) (StrChars.Road.chN (W := 1) hZ (own_wch hw) (kI := 4) (w_14 hw) (cs := ns) Ex2 Va2 Cd2 Ar2 hD240 hU240 (S0.ext O0.2) hzv (G0.ext O0.2) rgv (Nat.le_trans l5 (by decide)) (i := ti) hN (j := Int32.ofNat ti) rfl (by decide) (by decide)) q241a q241c (g := (mkF m 63 #[.val (.ref us), .val (.ref un), .val (.int (Int32.ofNat pi)), .val (.int (Int32.ofNat ti)), .val (.int sv), .val (.int (Int32.ofNat ri))] [(.int (Int32.ofNat ti)), (.ref un), (.int (ps.getD pi 0))])) rfl (by rw [hml]; rfl) (Steps.refl _) (argsL := [(.int (Int32.ofNat ti))]) (rest := [(.int (ps.getD pi 0))]) (lenOf pd_5 rfl) rfl (by show 2 * 0 + _ ≤ _; exact Nat.le_of_eq rfl) (hb hby d_p6_2_63) (fun _ _ => ⟨rfl, e239, (by show _ ≤ 0; omega), (by show _ ≤ 0; omega)⟩)
        dsimp only [Pt.U, Pt.locs, Pt.cells, Pt.slots] at X241 l241 y241 z241 st241 hQ241
        subst l241 y241 z241
        obtain ⟨rfl, rfl, e241⟩ := hQ241
        have N241q : Fr n0 ([] : List Loc) := Fr.nil n0
        have N241 := Fr.app N239 N241q
        refine own_go (fun t k => st241.trans k) ?_
        by_cases hE : ps.getD pi 0 = ns.getD ti 0
        · show own_Go _ _ _ _ (T241.setTop (mkF m 66 #[.val (.ref us), .val (.ref un), .val (.int (Int32.ofNat pi)), .val (.int (Int32.ofNat ti)), .val (.int sv), .val (.int (Int32.ofNat ri))] [(.int (ns.getD ti 0)), (.int (ps.getD pi 0))]))
          refine own_go (fun t k => XS.icmpNo X241.here hx rfl (hb hby d_p6_2_66) rfl (teq (hE : (ps.getD pi 0) = (ns.getD ti 0))).2 k) ?_
          refine own_go (fun t k => XS.iinc X241.here hx rfl (hb hby d_p6_2_69) rfl (l' := #[.val (.ref us), .val (.ref un), .val (.int ((Int32.ofNat pi) + (1 : Int32))), .val (.int (Int32.ofNat ti)), .val (.int sv), .val (.int (Int32.ofNat ri))]) rfl k) ?_
          refine own_go (fun t k => XS.iinc X241.here hx rfl (hb hby d_p6_2_72) rfl (l' := #[.val (.ref us), .val (.ref un), .val (.int ((Int32.ofNat pi) + (1 : Int32))), .val (.int ((Int32.ofNat ti) + (1 : Int32))), .val (.int sv), .val (.int (Int32.ofNat ri))]) rfl k) ?_
          refine own_go (fun t k => XS.goto X241.here hx rfl (pc0 := 75) (pc' := 10) rfl (hb hby d_p6_2_75) (by decide) (by decide) k) ?_
          show own_Go _ _ _ _ (T241.setTop (mkF m 10 #[.val (.ref us), .val (.ref un), .val (.int ((Int32.ofNat pi) + (1 : Int32))), .val (.int ((Int32.ofNat ti) + (1 : Int32))), .val (.int sv), .val (.int (Int32.ofNat ri))] []))
          rw [show (Int32.ofNat pi) + (1 : Int32) = Int32.ofNat (pi + 1) from own_add pi 1, show (Int32.ofNat ti) + (1 : Int32) = Int32.ofNat (ti + 1) from own_add ti 1]
          exact ihB _ _ X241 e241 N241 (pi + 1) (ti + 1) ri sv (by omega) (by omega) (own_Ib I0 hN hM h42 hE)
        · show own_Go _ _ _ _ (T241.setTop (mkF m 66 #[.val (.ref us), .val (.ref un), .val (.int (Int32.ofNat pi)), .val (.int (Int32.ofNat ti)), .val (.int sv), .val (.int (Int32.ofNat ri))] [(.int (ns.getD ti 0)), (.int (ps.getD pi 0))]))
          refine own_go (fun t k => XS.icmpYes X241.here hx rfl (pc0 := 66) (pc' := 78) rfl (hb hby d_p6_2_66) rfl (feq (hE : ¬ ((ps.getD pi 0) = (ns.getD ti 0)))).2 (by decide) (by decide) k) ?_
          refine own_go (fun t k => XS.iload X241.here hx rfl (hb hby d_p6_2_78) rfl k) ?_
          rcases own_Ic I0 hN (fun _ => h42) (fun _ => hE) with ⟨e7, no7⟩ | ⟨st, e7, hst, hri, I7⟩
          · show own_Go _ _ _ _ (T241.setTop (mkF m 80 #[.val (.ref us), .val (.ref un), .val (.int (Int32.ofNat pi)), .val (.int (Int32.ofNat ti)), .val (.int sv), .val (.int (Int32.ofNat ri))] [(.int sv)]))
            refine own_go (fun t k => XS.ifYes X241.here hx rfl (pc0 := 80) (pc' := 97) rfl (hb hby d_p6_2_80) rfl ((if0 _ _).trans (tlt (by rw [e7]; decide : sv < (0 : Int32))).1) (by decide) (by decide) k) ?_
            refine own_go (fun t k => XS.iconst X241.here hx rfl (hb hby d_p6_2_97) k) ?_
            show own_Go _ _ _ _ (T241.setTop (mkF m 98 #[.val (.ref us), .val (.ref un), .val (.int (Int32.ofNat pi)), .val (.int (Int32.ofNat ti)), .val (.int sv), .val (.int (Int32.ofNat ri))] [(.int (0 : Int32))]))
            refine own_retN X241 hx hlk (t := .boolean) hret (by simp) (hb hby d_p6_2_98) ?_ (by show _ ≤ 0; omega) (by show _ ≤ 0; omega)
            rw [e241]
            exact ⟨0, rfl, N241, Or.inr ⟨rfl, no7⟩, rfl⟩
          · show own_Go _ _ _ _ (T241.setTop (mkF m 80 #[.val (.ref us), .val (.ref un), .val (.int (Int32.ofNat pi)), .val (.int (Int32.ofNat ti)), .val (.int sv), .val (.int (Int32.ofNat ri))] [(.int sv)]))
            refine own_go (fun t k => XS.ifNo X241.here hx rfl (hb hby d_p6_2_80) rfl ((if0 _ _).trans (flt (by rw [e7]; exact own_ge0 (by omega) : ¬ sv < (0 : Int32))).1) k) ?_
            refine own_go (fun t k => XS.iload X241.here hx rfl (hb hby d_p6_2_83) rfl k) ?_
            refine own_go (fun t k => XS.iconst X241.here hx rfl (hb hby d_p6_2_85) k) ?_
            refine own_go (fun t k => XS.iadd X241.here hx rfl (hb hby d_p6_2_86) rfl k) ?_
            show own_Go _ _ _ _ (T241.setTop (mkF m 87 #[.val (.ref us), .val (.ref un), .val (.int (Int32.ofNat pi)), .val (.int (Int32.ofNat ti)), .val (.int sv), .val (.int (Int32.ofNat ri))] [(.int (sv + (1 : Int32)))]))
            refine own_go (fun t k => XS.istoreN X241.here hx rfl (hb hby d_p6_2_87) rfl (l' := #[.val (.ref us), .val (.ref un), .val (.int (sv + (1 : Int32))), .val (.int (Int32.ofNat ti)), .val (.int sv), .val (.int (Int32.ofNat ri))]) rfl k) ?_
            refine own_go (fun t k => XS.iinc X241.here hx rfl (hb hby d_p6_2_88) rfl (l' := #[.val (.ref us), .val (.ref un), .val (.int (sv + (1 : Int32))), .val (.int (Int32.ofNat ti)), .val (.int sv), .val (.int ((Int32.ofNat ri) + (1 : Int32)))]) rfl k) ?_
            refine own_go (fun t k => XS.iload X241.here hx rfl (hb hby d_p6_2_91) rfl k) ?_
            refine own_go (fun t k => XS.istoreN X241.here hx rfl (hb hby d_p6_2_93) rfl (l' := #[.val (.ref us), .val (.ref un), .val (.int (sv + (1 : Int32))), .val (.int ((Int32.ofNat ri) + (1 : Int32))), .val (.int sv), .val (.int ((Int32.ofNat ri) + (1 : Int32)))]) rfl k) ?_
            show own_Go _ _ _ _ (T241.setTop (mkF m 94 #[.val (.ref us), .val (.ref un), .val (.int (sv + (1 : Int32))), .val (.int ((Int32.ofNat ri) + (1 : Int32))), .val (.int sv), .val (.int ((Int32.ofNat ri) + (1 : Int32)))] []))
            refine own_go (fun t k => XS.goto X241.here hx rfl (pc0 := 94) (pc' := 10) rfl (hb hby d_p6_2_94) (by decide) (by decide) k) ?_
            show own_Go _ _ _ _ (T241.setTop (mkF m 10 #[.val (.ref us), .val (.ref un), .val (.int (sv + (1 : Int32))), .val (.int ((Int32.ofNat ri) + (1 : Int32))), .val (.int sv), .val (.int ((Int32.ofNat ri) + (1 : Int32)))] []))
            rw [show sv + (1 : Int32) = Int32.ofNat (st + 1) from (by rw [e7]; exact own_add st 1), show (Int32.ofNat ri) + (1 : Int32) = Int32.ofNat (ri + 1) from own_add ri 1]
            exact ihA _ _ X241 e241 N241 (st + 1) (ri + 1) (ri + 1) sv (by omega) (by omega) (by rw [e7]; exact I7)
    · show own_Go _ _ _ _ (T233.setTop (mkF m 23 #[.val (.ref us), .val (.ref un), .val (.int (Int32.ofNat pi)), .val (.int (Int32.ofNat ti)), .val (.int sv), .val (.int (Int32.ofNat ri))] [(.int (Int32.ofNat ps.length)), (.int (Int32.ofNat pi))]))
      refine own_go (fun t k => XS.icmpYes X233.here hx rfl (pc0 := 23) (pc' := 48) rfl (hb hby d_p6_2_23) rfl (flt ((fun q => hM ((own_lt (by omega) (by omega)).mp q)) : ¬ ((Int32.ofNat pi) < (Int32.ofNat ps.length)))).2.1 (by decide) (by decide) k) ?_
      refine own_go (fun t k => XS.iloadN X233.here hx rfl (hb hby d_p6_2_48) rfl k) ?_
      refine own_go (fun t k => XS.aloadN X233.here hx rfl (hb hby d_p6_2_49) rfl rfl k) ?_
      have hD242 := StrChars.Road.codOf (cs := ps) rfl (fun x hx => (hB x hx).2)
      have hU242 := own_up _ hB
      obtain ⟨cq243, kq243, q243a, q243b, q243c⟩ := isOf hZ e233 Ex1
      obtain ⟨_, _, ⟨T243, L243, k243, n243⟩, -, X243, ⟨Lc243, hQ243, l243, y243, z243⟩, st243⟩ := X233.virtualBack hx (y := (⟨"java/lang/String", "length", "()I"⟩ : MethodName)) (z := (⟨"java/lang/String", "length", "()I"⟩ : MethodName)) hown (mvT hZ (w_38 hw)) (mvT hZ (w_39 hw)) (notFace_of_selects (args := #[]) (mvT hZ (w_41 hw))) (mvT hZ (w_41 hw)) (mvT hZ (w_40 hw)) (by decide) (StrChars.Road.lenW (W := 1) hZ (own_wlen hw) (kI := 4) (w_14 hw) (cs := ps) Ex1 Va1 Cd1 Ar1 hD242 hU242 (S0.ext O0.2) hzv (Nat.le_trans l4 (by decide)) (by decide) (by decide)) q243a q243c (g := (mkF m 50 #[.val (.ref us), .val (.ref un), .val (.int (Int32.ofNat pi)), .val (.int (Int32.ofNat ti)), .val (.int sv), .val (.int (Int32.ofNat ri))] [(.ref us), (.int (Int32.ofNat pi))])) rfl (by rw [hml]; rfl) (Steps.refl _) (argsL := []) (rest := [(.int (Int32.ofNat pi))]) (lenOf pd_4 rfl) rfl (by show 2 * 0 + _ ≤ _; exact Nat.le_of_eq rfl) (hb hby d_p6_2_50) (fun _ _ => ⟨rfl, e233, (by show _ ≤ 0; omega), (by show _ ≤ 0; omega)⟩)
      dsimp only [Pt.U, Pt.locs, Pt.cells, Pt.slots] at X243 l243 y243 z243 st243 hQ243
      subst l243 y243 z243
      obtain ⟨rfl, rfl, e243⟩ := hQ243
      have N243q : Fr n0 ([] : List Loc) := Fr.nil n0
      have N243 := Fr.app N233 N243q
      refine own_go (fun t k => st243.trans k) ?_
      show own_Go _ _ _ _ (T243.setTop (mkF m 53 #[.val (.ref us), .val (.ref un), .val (.int (Int32.ofNat pi)), .val (.int (Int32.ofNat ti)), .val (.int sv), .val (.int (Int32.ofNat ri))] [(.int (Int32.ofNat ps.length)), (.int (Int32.ofNat pi))]))
      refine own_go (fun t k => XS.icmpYes X243.here hx rfl (pc0 := 53) (pc' := 78) rfl (hb hby d_p6_2_53) rfl (flt (fun q => hM ((own_lt (by omega) (by omega)).mp q))).2.1 (by decide) (by decide) k) ?_
      refine own_go (fun t k => XS.iload X243.here hx rfl (hb hby d_p6_2_78) rfl k) ?_
      rcases own_Ic I0 hN (fun z => absurd z hM) (fun z => absurd z hM) with ⟨e7, no7⟩ | ⟨st, e7, hst, hri, I7⟩
      · show own_Go _ _ _ _ (T243.setTop (mkF m 80 #[.val (.ref us), .val (.ref un), .val (.int (Int32.ofNat pi)), .val (.int (Int32.ofNat ti)), .val (.int sv), .val (.int (Int32.ofNat ri))] [(.int sv)]))
        refine own_go (fun t k => XS.ifYes X243.here hx rfl (pc0 := 80) (pc' := 97) rfl (hb hby d_p6_2_80) rfl ((if0 _ _).trans (tlt (by rw [e7]; decide : sv < (0 : Int32))).1) (by decide) (by decide) k) ?_
        refine own_go (fun t k => XS.iconst X243.here hx rfl (hb hby d_p6_2_97) k) ?_
        show own_Go _ _ _ _ (T243.setTop (mkF m 98 #[.val (.ref us), .val (.ref un), .val (.int (Int32.ofNat pi)), .val (.int (Int32.ofNat ti)), .val (.int sv), .val (.int (Int32.ofNat ri))] [(.int (0 : Int32))]))
        refine own_retN X243 hx hlk (t := .boolean) hret (by simp) (hb hby d_p6_2_98) ?_ (by show _ ≤ 0; omega) (by show _ ≤ 0; omega)
        rw [e243]
        exact ⟨0, rfl, N243, Or.inr ⟨rfl, no7⟩, rfl⟩
      · show own_Go _ _ _ _ (T243.setTop (mkF m 80 #[.val (.ref us), .val (.ref un), .val (.int (Int32.ofNat pi)), .val (.int (Int32.ofNat ti)), .val (.int sv), .val (.int (Int32.ofNat ri))] [(.int sv)]))
        refine own_go (fun t k => XS.ifNo X243.here hx rfl (hb hby d_p6_2_80) rfl ((if0 _ _).trans (flt (by rw [e7]; exact own_ge0 (by omega) : ¬ sv < (0 : Int32))).1) k) ?_
        refine own_go (fun t k => XS.iload X243.here hx rfl (hb hby d_p6_2_83) rfl k) ?_
        refine own_go (fun t k => XS.iconst X243.here hx rfl (hb hby d_p6_2_85) k) ?_
        refine own_go (fun t k => XS.iadd X243.here hx rfl (hb hby d_p6_2_86) rfl k) ?_
        show own_Go _ _ _ _ (T243.setTop (mkF m 87 #[.val (.ref us), .val (.ref un), .val (.int (Int32.ofNat pi)), .val (.int (Int32.ofNat ti)), .val (.int sv), .val (.int (Int32.ofNat ri))] [(.int (sv + (1 : Int32)))]))
        refine own_go (fun t k => XS.istoreN X243.here hx rfl (hb hby d_p6_2_87) rfl (l' := #[.val (.ref us), .val (.ref un), .val (.int (sv + (1 : Int32))), .val (.int (Int32.ofNat ti)), .val (.int sv), .val (.int (Int32.ofNat ri))]) rfl k) ?_
        refine own_go (fun t k => XS.iinc X243.here hx rfl (hb hby d_p6_2_88) rfl (l' := #[.val (.ref us), .val (.ref un), .val (.int (sv + (1 : Int32))), .val (.int (Int32.ofNat ti)), .val (.int sv), .val (.int ((Int32.ofNat ri) + (1 : Int32)))]) rfl k) ?_
        refine own_go (fun t k => XS.iload X243.here hx rfl (hb hby d_p6_2_91) rfl k) ?_
        refine own_go (fun t k => XS.istoreN X243.here hx rfl (hb hby d_p6_2_93) rfl (l' := #[.val (.ref us), .val (.ref un), .val (.int (sv + (1 : Int32))), .val (.int ((Int32.ofNat ri) + (1 : Int32))), .val (.int sv), .val (.int ((Int32.ofNat ri) + (1 : Int32)))]) rfl k) ?_
        show own_Go _ _ _ _ (T243.setTop (mkF m 94 #[.val (.ref us), .val (.ref un), .val (.int (sv + (1 : Int32))), .val (.int ((Int32.ofNat ri) + (1 : Int32))), .val (.int sv), .val (.int ((Int32.ofNat ri) + (1 : Int32)))] []))
        refine own_go (fun t k => XS.goto X243.here hx rfl (pc0 := 94) (pc' := 10) rfl (hb hby d_p6_2_94) (by decide) (by decide) k) ?_
        show own_Go _ _ _ _ (T243.setTop (mkF m 10 #[.val (.ref us), .val (.ref un), .val (.int (sv + (1 : Int32))), .val (.int ((Int32.ofNat ri) + (1 : Int32))), .val (.int sv), .val (.int ((Int32.ofNat ri) + (1 : Int32)))] []))
        rw [show sv + (1 : Int32) = Int32.ofNat (st + 1) from (by rw [e7]; exact own_add st 1), show (Int32.ofNat ri) + (1 : Int32) = Int32.ofNat (ri + 1) from own_add ri 1]
        exact ihA _ _ X243 e243 N243 (st + 1) (ri + 1) (ri + 1) sv (by omega) (by omega) (by rw [e7]; exact I7)
  · show own_Go _ _ _ _ (T231.setTop (mkF m 15 #[.val (.ref us), .val (.ref un), .val (.int (Int32.ofNat pi)), .val (.int (Int32.ofNat ti)), .val (.int sv), .val (.int (Int32.ofNat ri))] [(.int (Int32.ofNat ns.length)), (.int (Int32.ofNat ti))]))
    refine own_go (fun t k => XS.icmpYes X231.here hx rfl (pc0 := 15) (pc' := 99) rfl (hb hby d_p6_2_15) rfl (flt ((fun q => hN ((own_lt (by omega) (by omega)).mp q)) : ¬ ((Int32.ofNat ti) < (Int32.ofNat ns.length)))).2.1 (by decide) (by decide) k) ?_
    show own_Go _ _ _ _ (T231.setTop (mkF m 99 #[.val (.ref us), .val (.ref un), .val (.int (Int32.ofNat pi)), .val (.int (Int32.ofNat ti)), .val (.int sv), .val (.int (Int32.ofNat ri))] []))
    exact own_mxl hw hlk hret hx hby hml hown hZ Z0 us ub kb ps un uc kc ns zv gv O0 hzv S0 rgv G0 Ex1 Cd1 Va1 Ar1 Ex2 Cd2 Va2 Ar2 hB hD l4 l5 hcc hss (ps.length - pi + 1) _ _ X231 e231 N231 pi (by omega) I1 (own_Ix I0 hN)
set_option maxRecDepth 65536 in
theorem own_mtl {p : Program} {l : Launch} {e : Env} {s : State} {m : MethodId} {args : Array Value} {below : List Frame} {meth : Method} {c : Code} {cells slots : Nat} {Z : State} {a0 : Array Value} (hw : ∀ d ∈ tables_1, d.before a0 Z = true) {h0 : Heap} {n0 : Nat} (hlk : meth.locks = false) (hret : meth.sig.returnType = (some .boolean)) (hx : p.tables.exec = Jvm.exec) (hby : c.code = prog_6_method_2_code) (hml : c.maxLocals = 6) (hown : s.vm.findClass "com/example/fathomsearch/fathomsearch/NamePattern" = some m.cls) (hZ : Z.Warmed39 s.vm) (Z0 : n0 ≤ h0.size) (us : Addr) (ub : Addr) (kb : ClassId) (ps : List Int32) (un : Addr) (uc : Addr) (kc : ClassId) (ns : List Int32) (zv : Int32) (gv : Value) (O0 : Old Z n0 h0) (hzv : ¬ zv = (0 : Int32)) (S0 : Sta Z Z.heap "java/lang/String" "COMPACT_STRINGS" "Z" (.int zv)) (rgv : gv.isRef = true) (G0 : Sta Z Z.heap "jdk/internal/util/Preconditions" "SIOOBE_FORMATTER" "Ljava/util/function/BiFunction;" gv) (Ex1 : Exa Z h0 us "java/lang/String") (Cd1 : Fld Z h0 us "java/lang/String" "coder" "B" (.int (0 : Int32))) (Va1 : Fld Z h0 us "java/lang/String" "value" "[B" (.ref ub)) (Ar1 : Arv Z h0 ub kb .byte (Int32.ofNat ps.length) ((ps.map (fun c => c.toInt8.toInt32)).map Value.int) (.int (0 : Int32))) (Ex2 : Exa Z h0 un "java/lang/String") (Cd2 : Fld Z h0 un "java/lang/String" "coder" "B" (.int (0 : Int32))) (Va2 : Fld Z h0 un "java/lang/String" "value" "[B" (.ref uc)) (Ar2 : Arv Z h0 uc kc .byte (Int32.ofNat ns.length) ((ns.map (fun c => c.toInt8.toInt32)).map Value.int) (.int (0 : Int32))) (hB : ∀ c ∈ ps, own_B c) (hD : ∀ c ∈ ns, own_B c) (l4 : ps.length ≤ 4) (l5 : ns.length ≤ 4) (hcc : cells + 0 ≤ 0) (hss : slots + 0 ≤ 0) : ∀ A B : Nat, ∀ (T1 : State) (locs1 : List Loc) (X1 : Stand p l e ({ frames := 4, cells := 0, slots := 0, locals := 60 } : Room) s m args below meth c T1 locs1 cells slots) (e1 : T1.heap = h0) (N1 : Fr n0 locs1) (pi ti ri : Nat) (sv : Int32), ns.length - ri < A → ps.length - pi < B → own_I (own_at ps) (own_at ns) ps.length ns.length pi ti ri sv → own_Go p e below (own_Fin s ({ frames := 4, cells := 0, slots := 0, locals := 60 } : Room).cells ({ frames := 4, cells := 0, slots := 0, locals := 60 } : Room).slots (Q_mt Z us ub kb ps un uc kc ns zv gv h0 n0)) (T1.setTop (mkF m 10 #[.val (.ref us), .val (.ref un), .val (.int (Int32.ofNat pi)), .val (.int (Int32.ofNat ti)), .val (.int sv), .val (.int (Int32.ofNat ri))] [])) := by
  intro A
  induction A with
  | zero => intro B T1 locs1 X1 e1 N1 pi ti ri sv h; exact absurd h (Nat.not_lt_zero _)
  | succ A ihA =>
    intro B
    induction B with
    | zero => intro T1 locs1 X1 e1 N1 pi ti ri sv hq h; exact absurd h (Nat.not_lt_zero _)
    | succ B ihB => intro T1 locs1 X1 e1 N1 pi ti ri sv h1 h2 I0; exact sg_mt hw X1 hlk hret hx hby hml hown hZ e1 N1 Z0 us ub kb ps un uc kc ns zv gv A B pi ti ri sv O0 hzv S0 rgv G0 Ex1 Cd1 Va1 Ar1 Ex2 Cd2 Va2 Ar2 hB hD l4 l5 (ihA _) ihB h1 h2 I0 hcc hss
theorem ef_mt (m : MethodId) (us : Addr) (un : Addr) : entryFrame m #[(.ref us), (.ref un)] 6 = mkF m 0 #[.val (.ref us), .val (.ref un), .unset, .unset, .unset, .unset] [] := by first | (simp [entryFrame, mkF, argsToLocals, Value.category]; done) | rfl
theorem pn_2 : plainName "com/example/fathomsearch/fathomsearch/NamePattern" = true := by first | (simp [plainName, overriddenIn]; done) | decide +kernel
theorem d_p6_2_0 : decode prog_6_method_2_code 0 = .ok (.iconst 0, 1) := by decide +kernel
theorem d_p6_2_1 : decode prog_6_method_2_code 1 = .ok (.istore_n 2, 1) := by decide +kernel
theorem d_p6_2_2 : decode prog_6_method_2_code 2 = .ok (.iconst 0, 1) := by decide +kernel
theorem d_p6_2_3 : decode prog_6_method_2_code 3 = .ok (.istore_n 3, 1) := by decide +kernel
theorem d_p6_2_4 : decode prog_6_method_2_code 4 = .ok (.iconst (-1), 1) := by decide +kernel
theorem d_p6_2_5 : decode prog_6_method_2_code 5 = .ok (.istore 4, 2) := by decide +kernel
theorem d_p6_2_7 : decode prog_6_method_2_code 7 = .ok (.iconst 0, 1) := by decide +kernel
theorem d_p6_2_8 : decode prog_6_method_2_code 8 = .ok (.istore 5, 2) := by decide +kernel
set_option maxRecDepth 65536 in
set_option maxHeartbeats 40000000 in
theorem rm_mt (l : Launch) (Z : State) (a0 : Array Value) (hw : ∀ d ∈ tables_1, d.before a0 Z = true) (ws : List Jvm.Cond) (us ub : Addr) (kb : ClassId) (ps : List Int32) (un uc : Addr) (kc : ClassId) (ns : List Int32) (zv : Int32) (gv : Value) (h0 : Heap) (n0 : Nat) (Z0 : n0 ≤ h0.size) (O0 : Old Z n0 h0) (hzv : ¬ zv = (0 : Int32)) (S0 : Sta Z Z.heap "java/lang/String" "COMPACT_STRINGS" "Z" (.int zv)) (rgv : gv.isRef = true) (G0 : Sta Z Z.heap "jdk/internal/util/Preconditions" "SIOOBE_FORMATTER" "Ljava/util/function/BiFunction;" gv) (Ex1 : Exa Z h0 us "java/lang/String") (Cd1 : Fld Z h0 us "java/lang/String" "coder" "B" (.int (0 : Int32))) (Va1 : Fld Z h0 us "java/lang/String" "value" "[B" (.ref ub)) (Ar1 : Arv Z h0 ub kb .byte (Int32.ofNat ps.length) ((ps.map (fun c => c.toInt8.toInt32)).map Value.int) (.int (0 : Int32))) (Ex2 : Exa Z h0 un "java/lang/String") (Cd2 : Fld Z h0 un "java/lang/String" "coder" "B" (.int (0 : Int32))) (Va2 : Fld Z h0 un "java/lang/String" "value" "[B" (.ref uc)) (Ar2 : Arv Z h0 uc kc .byte (Int32.ofNat ns.length) ((ns.map (fun c => c.toInt8.toInt32)).map Value.int) (.int (0 : Int32))) (hB : ∀ c ∈ ps, own_B c) (hD : ∀ c ∈ ns, own_B c) (l4 : ps.length ≤ 4) (l5 : ns.length ≤ 4) :
    own_Met l Z (⟨"com/example/fathomsearch/fathomsearch/NamePattern", "matches", "(Ljava/lang/String;Ljava/lang/String;)Z"⟩ : MethodName) prog_6_method_2_code 6 (some .boolean) ws ({ frames := 4, cells := 0, slots := 0, locals := 60 } : Room) #[(.ref us), (.ref un)] h0 (Q_mt Z us ub kb ps un uc kc ns zv gv h0 n0) := by
  refine own_enter (own := "com/example/fathomsearch/fathomsearch/NamePattern") (plainFor_of_name pn_2) rfl ?_
  intro p e s m below meth c s₁ hlk hret hx hby hml hown hnm hZ X0 e0
  have N0 := Fr.nil n0
  refine own_cast (ef_mt m us un) ?_
  show own_Go _ _ _ _ (s₁.setTop (mkF m 0 #[.val (.ref us), .val (.ref un), .unset, .unset, .unset, .unset] []))
  refine own_go (fun t k => XS.iconst X0.here hx rfl (hb hby d_p6_2_0) k) ?_
  refine own_go (fun t k => XS.istoreN X0.here hx rfl (hb hby d_p6_2_1) rfl (l' := #[.val (.ref us), .val (.ref un), .val (.int (0 : Int32)), .unset, .unset, .unset]) rfl k) ?_
  refine own_go (fun t k => XS.iconst X0.here hx rfl (hb hby d_p6_2_2) k) ?_
  refine own_go (fun t k => XS.istoreN X0.here hx rfl (hb hby d_p6_2_3) rfl (l' := #[.val (.ref us), .val (.ref un), .val (.int (0 : Int32)), .val (.int (0 : Int32)), .unset, .unset]) rfl k) ?_
  show own_Go _ _ _ _ (s₁.setTop (mkF m 4 #[.val (.ref us), .val (.ref un), .val (.int (0 : Int32)), .val (.int (0 : Int32)), .unset, .unset] []))
  refine own_go (fun t k => XS.iconst X0.here hx rfl (hb hby d_p6_2_4) k) ?_
  refine own_go (fun t k => XS.istore X0.here hx rfl (hb hby d_p6_2_5) rfl (l' := #[.val (.ref us), .val (.ref un), .val (.int (0 : Int32)), .val (.int (0 : Int32)), .val (.int (-1 : Int32)), .unset]) rfl k) ?_
  refine own_go (fun t k => XS.iconst X0.here hx rfl (hb hby d_p6_2_7) k) ?_
  refine own_go (fun t k => XS.istore X0.here hx rfl (hb hby d_p6_2_8) rfl (l' := #[.val (.ref us), .val (.ref un), .val (.int (0 : Int32)), .val (.int (0 : Int32)), .val (.int (-1 : Int32)), .val (.int (0 : Int32))]) rfl k) ?_
  show own_Go _ _ _ _ (s₁.setTop (mkF m 10 #[.val (.ref us), .val (.ref un), .val (.int (0 : Int32)), .val (.int (0 : Int32)), .val (.int (-1 : Int32)), .val (.int (0 : Int32))] []))
  exact own_mtl hw hlk hret hx hby hml hown hZ Z0 us ub kb ps un uc kc ns zv gv O0 hzv S0 rgv G0 Ex1 Cd1 Va1 Ar1 Ex2 Cd2 Va2 Ar2 hB hD l4 l5 (Nat.le_refl _) (Nat.le_refl _) (ns.length + 1) (ps.length + 1) _ _ X0 e0 N0 0 0 0 (-1) (by omega) (by omega) own_I0
def Q_law (Z : State) (bp : Int64) (bn : Int64) (iv : Int32) (zv : Int32) (gv : Value) (h0 : Heap) (n0 : Nat) (v : Option Value) (h : Heap) (L : List Loc) : Prop := v = some (.int 1) ∧ Fr n0 L
theorem ef_law (m : MethodId) (bp : Int64) (bn : Int64) (iv : Int32) : entryFrame m #[(.long bp), (.long bn), (.int iv)] maxLocals = mkF m 0 #[.val (.long bp), .second, .val (.long bn), .second, .val (.int iv), .unset, .unset, .unset, .unset, .unset, .unset] [] := by first | (simp [entryFrame, mkF, argsToLocals, Value.category, maxLocals]; done) | rfl
theorem w_1 {Z : State} {a0 : Array Value} (hw : ∀ d ∈ tables_1, d.before a0 Z = true) : (Jvm.Cond.methodLink "com/example/fathomsearch/fathomsearch/NamePatternMatchesPinLaw" (7 : Nat) ({ cls := "com/example/fathomsearch/fathomsearch/NamePatternMatchesPinLaw", name := "pch", desc := "(J)C" } : Jvm.MethodName)).before a0 Z = true := hw _ (List.mem_of_getElem? (i := 1) rfl)
theorem w_4 {Z : State} {a0 : Array Value} (hw : ∀ d ∈ tables_1, d.before a0 Z = true) : (Jvm.Cond.code ({ cls := "com/example/fathomsearch/fathomsearch/NamePatternMatchesPinLaw", name := "pch", desc := "(J)C" } : Jvm.MethodName) method_3_code (3 : Nat) (Option.some Jvm.ClassFile.FieldType.char)).before a0 Z = true := hw _ (List.mem_of_getElem? (i := 4) rfl)
theorem pd_6 : parseMethodDescriptor "(J)C" = some ⟨[.long], some .char⟩ := by decide +kernel
theorem w_2 {Z : State} {a0 : Array Value} (hw : ∀ d ∈ tables_1, d.before a0 Z = true) : (Jvm.Cond.static ({ cls := "com/example/fathomsearch/fathomsearch/NamePatternMatchesPinLaw", name := "pch", desc := "(J)C" } : Jvm.MethodName)).before a0 Z = true := hw _ (List.mem_of_getElem? (i := 2) rfl)
theorem w_7 {Z : State} {a0 : Array Value} (hw : ∀ d ∈ tables_1, d.before a0 Z = true) : (Jvm.Cond.methodLink "com/example/fathomsearch/fathomsearch/NamePatternMatchesPinLaw" (13 : Nat) ({ cls := "com/example/fathomsearch/fathomsearch/NamePatternMatchesPinLaw", name := "nch", desc := "(J)C" } : Jvm.MethodName)).before a0 Z = true := hw _ (List.mem_of_getElem? (i := 7) rfl)
theorem w_9 {Z : State} {a0 : Array Value} (hw : ∀ d ∈ tables_1, d.before a0 Z = true) : (Jvm.Cond.code ({ cls := "com/example/fathomsearch/fathomsearch/NamePatternMatchesPinLaw", name := "nch", desc := "(J)C" } : Jvm.MethodName) method_4_code (3 : Nat) (Option.some Jvm.ClassFile.FieldType.char)).before a0 Z = true := hw _ (List.mem_of_getElem? (i := 9) rfl)
theorem w_8 {Z : State} {a0 : Array Value} (hw : ∀ d ∈ tables_1, d.before a0 Z = true) : (Jvm.Cond.static ({ cls := "com/example/fathomsearch/fathomsearch/NamePatternMatchesPinLaw", name := "nch", desc := "(J)C" } : Jvm.MethodName)).before a0 Z = true := hw _ (List.mem_of_getElem? (i := 8) rfl)
theorem w_10 {Z : State} {a0 : Array Value} (hw : ∀ d ∈ tables_1, d.before a0 Z = true) : (Jvm.Cond.methodLink "com/example/fathomsearch/fathomsearch/NamePatternMatchesPinLaw" (16 : Nat) ({ cls := "com/example/fathomsearch/fathomsearch/NamePatternMatchesPinLaw", name := "str", desc := "([CI)Ljava/lang/String;" } : Jvm.MethodName)).before a0 Z = true := hw _ (List.mem_of_getElem? (i := 10) rfl)
theorem w_12 {Z : State} {a0 : Array Value} (hw : ∀ d ∈ tables_1, d.before a0 Z = true) : (Jvm.Cond.code ({ cls := "com/example/fathomsearch/fathomsearch/NamePatternMatchesPinLaw", name := "str", desc := "([CI)Ljava/lang/String;" } : Jvm.MethodName) method_5_code (2 : Nat) (Option.some (Jvm.ClassFile.FieldType.object "java/lang/String"))).before a0 Z = true := hw _ (List.mem_of_getElem? (i := 12) rfl)
theorem pd_7 : parseMethodDescriptor "([CI)Ljava/lang/String;" = some ⟨[(.array .char), .int], some (.object "java/lang/String")⟩ := by decide +kernel
theorem w_11 {Z : State} {a0 : Array Value} (hw : ∀ d ∈ tables_1, d.before a0 Z = true) : (Jvm.Cond.static ({ cls := "com/example/fathomsearch/fathomsearch/NamePatternMatchesPinLaw", name := "str", desc := "([CI)Ljava/lang/String;" } : Jvm.MethodName)).before a0 Z = true := hw _ (List.mem_of_getElem? (i := 11) rfl)
theorem w_34 {Z : State} {a0 : Array Value} (hw : ∀ d ∈ tables_1, d.before a0 Z = true) : (Jvm.Cond.methodLink "com/example/fathomsearch/fathomsearch/NamePatternMatchesPinLaw" (20 : Nat) ({ cls := "com/example/fathomsearch/fathomsearch/NamePattern", name := "matches", desc := "(Ljava/lang/String;Ljava/lang/String;)Z" } : Jvm.MethodName)).before a0 Z = true := hw _ (List.mem_of_getElem? (i := 34) rfl)
theorem w_37 {Z : State} {a0 : Array Value} (hw : ∀ d ∈ tables_1, d.before a0 Z = true) : (Jvm.Cond.code ({ cls := "com/example/fathomsearch/fathomsearch/NamePattern", name := "matches", desc := "(Ljava/lang/String;Ljava/lang/String;)Z" } : Jvm.MethodName) prog_6_method_2_code (6 : Nat) (Option.some Jvm.ClassFile.FieldType.boolean)).before a0 Z = true := hw _ (List.mem_of_getElem? (i := 37) rfl)
theorem w_36 {Z : State} {a0 : Array Value} (hw : ∀ d ∈ tables_1, d.before a0 Z = true) : (Jvm.Cond.initialized "com/example/fathomsearch/fathomsearch/NamePattern").before a0 Z = true := hw _ (List.mem_of_getElem? (i := 36) rfl)
theorem pd_8 : parseMethodDescriptor "(Ljava/lang/String;Ljava/lang/String;)Z" = some ⟨[(.object "java/lang/String"), (.object "java/lang/String")], some .boolean⟩ := by decide +kernel
theorem w_35 {Z : State} {a0 : Array Value} (hw : ∀ d ∈ tables_1, d.before a0 Z = true) : (Jvm.Cond.static ({ cls := "com/example/fathomsearch/fathomsearch/NamePattern", name := "matches", desc := "(Ljava/lang/String;Ljava/lang/String;)Z" } : Jvm.MethodName)).before a0 Z = true := hw _ (List.mem_of_getElem? (i := 35) rfl)
theorem w_49 {Z : State} {a0 : Array Value} (hw : ∀ d ∈ tables_1, d.before a0 Z = true) : (Jvm.Cond.methodLink "com/example/fathomsearch/fathomsearch/NamePatternMatchesPinLaw" (26 : Nat) ({ cls := "com/example/fathomsearch/fathomsearch/NamePatternMatchesPinLaw", name := "m0", desc := "([CI[CII)Z" } : Jvm.MethodName)).before a0 Z = true := hw _ (List.mem_of_getElem? (i := 49) rfl)
theorem w_51 {Z : State} {a0 : Array Value} (hw : ∀ d ∈ tables_1, d.before a0 Z = true) : (Jvm.Cond.code ({ cls := "com/example/fathomsearch/fathomsearch/NamePatternMatchesPinLaw", name := "m0", desc := "([CI[CII)Z" } : Jvm.MethodName) method_6_code (6 : Nat) (Option.some Jvm.ClassFile.FieldType.boolean)).before a0 Z = true := hw _ (List.mem_of_getElem? (i := 51) rfl)
theorem w_50 {Z : State} {a0 : Array Value} (hw : ∀ d ∈ tables_1, d.before a0 Z = true) : (Jvm.Cond.static ({ cls := "com/example/fathomsearch/fathomsearch/NamePatternMatchesPinLaw", name := "m0", desc := "([CI[CII)Z" } : Jvm.MethodName)).before a0 Z = true := hw _ (List.mem_of_getElem? (i := 50) rfl)
set_option maxRecDepth 65536 in
set_option maxHeartbeats 40000000 in
theorem rm_law (l : Launch) (Z : State) (a0 : Array Value) (hw : ∀ d ∈ tables_1, d.before a0 Z = true) (ws : List Jvm.Cond) (bp bn : Int64) (iv zv : Int32) (gv : Value) (h0 : Heap) (n0 : Nat) (Z0 : n0 ≤ h0.size) (O0 : Old Z n0 h0) (hzv : ¬ zv = (0 : Int32)) (S0 : Sta Z Z.heap "java/lang/String" "COMPACT_STRINGS" "Z" (.int zv)) (rgv : gv.isRef = true) (G0 : Sta Z Z.heap "jdk/internal/util/Preconditions" "SIOOBE_FORMATTER" "Ljava/util/function/BiFunction;" gv) :
    own_MetH l Z consts_1 x code maxLocals ret ws room_1 #[(.long bp), (.long bn), (.int iv)] h0 (Q_law Z bp bn iv zv gv h0 n0) := by
  refine own_enterH (own := "com/example/fathomsearch/fathomsearch/NamePatternMatchesPinLaw") (plainFor_of_name pn_0) rfl ?_
  intro p e s m below meth c s₁ hlk hret hx hby hml hown hnm hZ hh hH X0 e0
  have N0 := Fr.nil n0
  refine own_cast (ef_law m bp bn iv) ?_
  have hS : s.Since s.vm 0 := (State.WarmedH.refl s).since 0
  have hk : 0 ≤ h0.size := Nat.zero_le _
  have C0 : CHr Z consts_1 s.vm h0 s.vm h0 := CHr.refl hH
  show own_Go _ _ _ _ (s₁.setTop (mkF m 0 #[.val (.long bp), .second, .val (.long bn), .second, .val (.int iv), .unset, .unset, .unset, .unset, .unset, .unset] []))
  refine own_go (fun t k => XS.iload X0.here hx rfl (hb hby at_0) rfl k) ?_
  refine own_go (fun t k => XS.bipush X0.here hx rfl (hb hby at_2) k) ?_
  refine own_go (fun t k => XS.iand X0.here hx rfl (hb hby at_4) rfl k) ?_
  refine own_go (fun t k => XS.iconst X0.here hx rfl (hb hby at_5) k) ?_
  show own_Go _ _ _ _ (s₁.setTop (mkF m 6 #[.val (.long bp), .second, .val (.long bn), .second, .val (.int iv), .unset, .unset, .unset, .unset, .unset, .unset] [(.int (5 : Int32)), (.int (iv &&& (7 : Int32)))]))
  refine own_go (fun t k => iremM X0 hx rfl (hb hby at_6) rfl (by decide) k) ?_
  show own_Go _ _ _ _ (s₁.setTop (mkF m 7 #[.val (.long bp), .second, .val (.long bn), .second, .val (.int iv), .unset, .unset, .unset, .unset, .unset, .unset] [(.int ((iv &&& (7 : Int32)) % (5 : Int32)))]))
  obtain ⟨pl, hpl, epl⟩ := own_mod5 iv
  rw [epl]
  show own_Go _ _ _ _ (s₁.setTop (mkF m 7 #[.val (.long bp), .second, .val (.long bn), .second, .val (.int iv), .unset, .unset, .unset, .unset, .unset, .unset] [(.int (Int32.ofNat pl))]))
  refine own_go (fun t k => XS.istore X0.here hx rfl (hb hby at_7) rfl (l' := #[.val (.long bp), .second, .val (.long bn), .second, .val (.int iv), .val (.int (Int32.ofNat pl)), .unset, .unset, .unset, .unset, .unset]) rfl k) ?_
  refine own_go (fun t k => XS.iload X0.here hx rfl (hb hby at_9) rfl k) ?_
  refine own_go (fun t k => XS.iconst X0.here hx rfl (hb hby at_11) k) ?_
  refine own_go (fun t k => XS.iushr X0.here hx rfl (hb hby at_12) rfl k) ?_
  show own_Go _ _ _ _ (s₁.setTop (mkF m 13 #[.val (.long bp), .second, .val (.long bn), .second, .val (.int iv), .val (.int (Int32.ofNat pl)), .unset, .unset, .unset, .unset, .unset] [(.int ((iv.toUInt32 >>> ((3 : Int32) &&& 31).toUInt32).toInt32))]))
  refine own_go (fun t k => XS.bipush X0.here hx rfl (hb hby at_13) k) ?_
  refine own_go (fun t k => XS.iand X0.here hx rfl (hb hby at_15) rfl k) ?_
  refine own_go (fun t k => XS.iconst X0.here hx rfl (hb hby at_16) k) ?_
  show own_Go _ _ _ _ (s₁.setTop (mkF m 17 #[.val (.long bp), .second, .val (.long bn), .second, .val (.int iv), .val (.int (Int32.ofNat pl)), .unset, .unset, .unset, .unset, .unset] [(.int (5 : Int32)), (.int (((iv.toUInt32 >>> ((3 : Int32) &&& 31).toUInt32).toInt32) &&& (7 : Int32)))]))
  refine own_go (fun t k => iremM X0 hx rfl (hb hby at_17) rfl (by decide) k) ?_
  show own_Go _ _ _ _ (s₁.setTop (mkF m 18 #[.val (.long bp), .second, .val (.long bn), .second, .val (.int iv), .val (.int (Int32.ofNat pl)), .unset, .unset, .unset, .unset, .unset] [(.int ((((iv.toUInt32 >>> ((3 : Int32) &&& 31).toUInt32).toInt32) &&& (7 : Int32)) % (5 : Int32)))]))
  obtain ⟨nl, hnl, enl⟩ := own_mod5 ((iv.toUInt32 >>> ((3 : Int32) &&& 31).toUInt32).toInt32)
  rw [enl]
  show own_Go _ _ _ _ (s₁.setTop (mkF m 18 #[.val (.long bp), .second, .val (.long bn), .second, .val (.int iv), .val (.int (Int32.ofNat pl)), .unset, .unset, .unset, .unset, .unset] [(.int (Int32.ofNat nl))]))
  refine own_go (fun t k => XS.istore X0.here hx rfl (hb hby at_18) rfl (l' := #[.val (.long bp), .second, .val (.long bn), .second, .val (.int iv), .val (.int (Int32.ofNat pl)), .val (.int (Int32.ofNat nl)), .unset, .unset, .unset, .unset]) rfl k) ?_
  refine own_go (fun t k => XS.iconst X0.here hx rfl (hb hby at_20) k) ?_
  show own_Go _ _ _ _ (s₁.setTop (mkF m 21 #[.val (.long bp), .second, .val (.long bn), .second, .val (.int iv), .val (.int (Int32.ofNat pl)), .val (.int (Int32.ofNat nl)), .unset, .unset, .unset, .unset] [(.int (4 : Int32))]))
  obtain ⟨T244, h244, k244, X244, e244, E244, A244, st244⟩ := newP (aty := .char) X0 hx hZ (w_0 hw) e0 (n := (4 : Int32)) (rest := []) (g := (mkF m 21 #[.val (.long bp), .second, .val (.long bn), .second, .val (.int iv), .val (.int (Int32.ofNat pl)), .val (.int (Int32.ofNat nl)), .unset, .unset, .unset, .unset] [(.int (4 : Int32))])) rfl (hb hby at_21) rfl (by decide) (cap := 4) (by decide) (by decide) (by decide) (by decide)
  obtain ⟨b244, g244⟩ : ∃ z, z = h0.size := ⟨_, rfl⟩
  rw [← g244] at A244 st244
  refine own_go st244 ?_
  have Sf244 : Safe Z consts_1 s.vm h0 b244 := Safe.new (Nat.le_of_eq g244.symm)
  have Z244 : n0 ≤ h244.size := (Nat.le_trans Z0 E244.1)
  have C244 := C0.trans (CHr.ext E244 C0.1)
  have lo244 : h0.size ≤ b244 := Nat.le_of_eq g244.symm
  have q244 : n0 ≤ b244 := Nat.le_trans Z0 lo244
  have hi244 : b244 < h244.size := A244.lt
  have V244 : Arv Z h244 b244 k244 .char (4 : Int32) [(.int (0 : Int32)), (.int (0 : Int32)), (.int (0 : Int32)), (.int (0 : Int32))] (.int (0 : Int32)) := (Arv.new A244 (by decide)).pad (pad_rep [] (.int (0 : Int32)) 4)
  refine own_go (fun t k => XS.dup X244.here hx rfl (hb hby at_23) rfl rfl k) ?_
  refine own_go (fun t k => XS.iconst X244.here hx rfl (hb hby at_24) k) ?_
  refine own_go (fun t k => XS.lloadN X244.here hx rfl (hb hby at_25) rfl k) ?_
  show own_Go _ _ _ _ (T244.setTop (mkF m 26 #[.val (.long bp), .second, .val (.long bn), .second, .val (.int iv), .val (.int (Int32.ofNat pl)), .val (.int (Int32.ofNat nl)), .unset, .unset, .unset, .unset] [(.long bp), (.int (0 : Int32)), (.ref b244), (.ref b244)]))
  obtain ⟨_, _, ⟨T245, L245, k245, n245⟩, -, X245, ⟨Lc245, hQ245, l245, y245, z245⟩, st245⟩ := Jvm.LawKit.callS X244 hx (y := (⟨"com/example/fathomsearch/fathomsearch/NamePatternMatchesPinLaw", "pch", "(J)C"⟩ : MethodName)) hown (mvT hZ (w_1 hw)) (mvT hZ (w_2 hw)) (mvT hZ (w_3 hw)) (mvT hZ (w_4 hw)) (by decide) (backOf (W := 3) (rm_pch l Z a0 hw [] bp h244 n0 Z244 ) hZ (w_4 hw) (w_3 hw) (by decide) (by decide)) (g := (mkF m 26 #[.val (.long bp), .second, .val (.long bn), .second, .val (.int iv), .val (.int (Int32.ofNat pl)), .val (.int (Int32.ofNat nl)), .unset, .unset, .unset, .unset] [(.long bp), (.int (0 : Int32)), (.ref b244), (.ref b244)])) rfl (by rw [hml]; rfl) (argsL := [(.long bp)]) (rest := [(.int (0 : Int32)), (.ref b244), (.ref b244)]) (lenOf pd_6 rfl) rfl (by show 2 * 0 + _ ≤ _; exact Nat.le_of_eq rfl) (hb hby at_26) (fun _ _ => ⟨rfl, e244, (by decide : 1 + 0 ≤ _), (by decide : 4 + 0 ≤ _)⟩)
  dsimp only [Pt.U, Pt.locs, Pt.cells, Pt.slots] at X245 l245 y245 z245 st245 hQ245
  subst l245 y245 z245
  obtain ⟨c0_, rfl, N245q, B0, e245⟩ := hQ245
  have N245 := Fr.app N0 N245q
  refine own_go st245 ?_
  show own_Go _ _ _ _ (T245.setTop (mkF m 29 #[.val (.long bp), .second, .val (.long bn), .second, .val (.int iv), .val (.int (Int32.ofNat pl)), .val (.int (Int32.ofNat nl)), .unset, .unset, .unset, .unset] [(.int c0_), (.int (0 : Int32)), (.ref b244), (.ref b244)]))
  obtain ⟨cl246, Ar246, qk246, sz246, nn246, ha246, gf246⟩ := id V244
  have hin246 : ¬ ((0 : Int32) < 0 ∨ cl246.slots.size ≤ ((0 : Int32)).toNatClampNeg) := inb_of sz246 ⟨by decide, by decide⟩
  obtain ⟨T247, h247, X247, e247, W247, st247⟩ := stC X245 hx hZ e245 Ar246 (j := (0 : Int32)) hin246 (g := (mkF m 29 #[.val (.long bp), .second, .val (.long bn), .second, .val (.int iv), .val (.int (Int32.ofNat pl)), .val (.int (Int32.ofNat nl)), .unset, .unset, .unset, .unset] [(.int c0_), (.int (0 : Int32)), (.ref b244), (.ref b244)])) rfl rfl (hb hby at_29)
  refine own_go st247 ?_
  rw [(own_nc B0)] at W247
  have V247 : Arv Z h247 b244 k244 .char (4 : Int32) [(.int c0_), (.int (0 : Int32)), (.int (0 : Int32)), (.int (0 : Int32))] (.int (0 : Int32)) := Arv.set Ar246 qk246 sz246 nn246 ha246 gf246 (own_fc B0) W247 0 rfl (Nat.le_of_ble_eq_true rfl)
  have C247 := C244.trans (CHr.wr W247 (Safe.ext E244 C0.1 Sf244) C244.1)
  have Z247 : n0 ≤ h247.size := (Nat.le_trans Z244 (Nat.le_of_eq W247.size.symm))
  have N247 := Fr.snoc X247 N245 q244
  refine own_go (fun t k => XS.dup X247.here hx rfl (hb hby at_30) rfl rfl k) ?_
  refine own_go (fun t k => XS.iconst X247.here hx rfl (hb hby at_31) k) ?_
  refine own_go (fun t k => XS.lloadN X247.here hx rfl (hb hby at_32) rfl k) ?_
  show own_Go _ _ _ _ (T247.setTop (mkF m 33 #[.val (.long bp), .second, .val (.long bn), .second, .val (.int iv), .val (.int (Int32.ofNat pl)), .val (.int (Int32.ofNat nl)), .unset, .unset, .unset, .unset] [(.long bp), (.int (1 : Int32)), (.ref b244), (.ref b244)]))
  refine own_go (fun t k => XS.bipush X247.here hx rfl (hb hby at_33) k) ?_
  refine own_go (fun t k => XS.lushr X247.here hx rfl (hb hby at_35) rfl k) ?_
  obtain ⟨_, _, ⟨T248, L248, k248, n248⟩, -, X248, ⟨Lc248, hQ248, l248, y248, z248⟩, st248⟩ := Jvm.LawKit.callS X247 hx (y := (⟨"com/example/fathomsearch/fathomsearch/NamePatternMatchesPinLaw", "pch", "(J)C"⟩ : MethodName)) hown (mvT hZ (w_1 hw)) (mvT hZ (w_2 hw)) (mvT hZ (w_3 hw)) (mvT hZ (w_4 hw)) (by decide) (backOf (W := 3) (rm_pch l Z a0 hw [] ((bp.toUInt64 >>> ((10 : Int32) &&& 0x3f).toInt64.toUInt64).toInt64) h247 n0 Z247 ) hZ (w_4 hw) (w_3 hw) (by decide) (by decide)) (g := (mkF m 36 #[.val (.long bp), .second, .val (.long bn), .second, .val (.int iv), .val (.int (Int32.ofNat pl)), .val (.int (Int32.ofNat nl)), .unset, .unset, .unset, .unset] [(.long ((bp.toUInt64 >>> ((10 : Int32) &&& 0x3f).toInt64.toUInt64).toInt64)), (.int (1 : Int32)), (.ref b244), (.ref b244)])) rfl (by rw [hml]; rfl) (argsL := [(.long ((bp.toUInt64 >>> ((10 : Int32) &&& 0x3f).toInt64.toUInt64).toInt64))]) (rest := [(.int (1 : Int32)), (.ref b244), (.ref b244)]) (lenOf pd_6 rfl) rfl (by show 2 * 0 + _ ≤ _; exact Nat.le_of_eq rfl) (hb hby at_36) (fun _ _ => ⟨rfl, e247, (by decide : 1 + 0 ≤ _), (by decide : 4 + 0 ≤ _)⟩)
  dsimp only [Pt.U, Pt.locs, Pt.cells, Pt.slots] at X248 l248 y248 z248 st248 hQ248
  subst l248 y248 z248
  obtain ⟨c1_, rfl, N248q, B1, e248⟩ := hQ248
  have N248 := Fr.app N247 N248q
  refine own_go st248 ?_
  show own_Go _ _ _ _ (T248.setTop (mkF m 39 #[.val (.long bp), .second, .val (.long bn), .second, .val (.int iv), .val (.int (Int32.ofNat pl)), .val (.int (Int32.ofNat nl)), .unset, .unset, .unset, .unset] [(.int c1_), (.int (1 : Int32)), (.ref b244), (.ref b244)]))
  obtain ⟨cl249, Ar249, qk249, sz249, nn249, ha249, gf249⟩ := id V247
  have hin249 : ¬ ((1 : Int32) < 0 ∨ cl249.slots.size ≤ ((1 : Int32)).toNatClampNeg) := inb_of sz249 ⟨by decide, by decide⟩
  obtain ⟨T250, h250, X250, e250, W250, st250⟩ := stC X248 hx hZ e248 Ar249 (j := (1 : Int32)) hin249 (g := (mkF m 39 #[.val (.long bp), .second, .val (.long bn), .second, .val (.int iv), .val (.int (Int32.ofNat pl)), .val (.int (Int32.ofNat nl)), .unset, .unset, .unset, .unset] [(.int c1_), (.int (1 : Int32)), (.ref b244), (.ref b244)])) rfl rfl (hb hby at_39)
  refine own_go st250 ?_
  rw [(own_nc B1)] at W250
  have V250 : Arv Z h250 b244 k244 .char (4 : Int32) [(.int c0_), (.int c1_), (.int (0 : Int32)), (.int (0 : Int32))] (.int (0 : Int32)) := Arv.set Ar249 qk249 sz249 nn249 ha249 gf249 (own_fc B1) W250 1 rfl (Nat.le_of_ble_eq_true rfl)
  have f251 := (Safe.wr W247 (Safe.ext E244 C0.1 Sf244) C244.1 (Safe.ext E244 C0.1 Sf244))
  have C250 := C247.trans (CHr.wr W250 f251 C247.1)
  have Z250 : n0 ≤ h250.size := (Nat.le_trans Z247 (Nat.le_of_eq W250.size.symm))
  have N250 := Fr.snoc X250 N248 q244
  refine own_go (fun t k => XS.dup X250.here hx rfl (hb hby at_40) rfl rfl k) ?_
  refine own_go (fun t k => XS.iconst X250.here hx rfl (hb hby at_41) k) ?_
  refine own_go (fun t k => XS.lloadN X250.here hx rfl (hb hby at_42) rfl k) ?_
  show own_Go _ _ _ _ (T250.setTop (mkF m 43 #[.val (.long bp), .second, .val (.long bn), .second, .val (.int iv), .val (.int (Int32.ofNat pl)), .val (.int (Int32.ofNat nl)), .unset, .unset, .unset, .unset] [(.long bp), (.int (2 : Int32)), (.ref b244), (.ref b244)]))
  refine own_go (fun t k => XS.bipush X250.here hx rfl (hb hby at_43) k) ?_
  refine own_go (fun t k => XS.lushr X250.here hx rfl (hb hby at_45) rfl k) ?_
  obtain ⟨_, _, ⟨T252, L252, k252, n252⟩, -, X252, ⟨Lc252, hQ252, l252, y252, z252⟩, st252⟩ := Jvm.LawKit.callS X250 hx (y := (⟨"com/example/fathomsearch/fathomsearch/NamePatternMatchesPinLaw", "pch", "(J)C"⟩ : MethodName)) hown (mvT hZ (w_1 hw)) (mvT hZ (w_2 hw)) (mvT hZ (w_3 hw)) (mvT hZ (w_4 hw)) (by decide) (backOf (W := 3) (rm_pch l Z a0 hw [] ((bp.toUInt64 >>> ((20 : Int32) &&& 0x3f).toInt64.toUInt64).toInt64) h250 n0 Z250 ) hZ (w_4 hw) (w_3 hw) (by decide) (by decide)) (g := (mkF m 46 #[.val (.long bp), .second, .val (.long bn), .second, .val (.int iv), .val (.int (Int32.ofNat pl)), .val (.int (Int32.ofNat nl)), .unset, .unset, .unset, .unset] [(.long ((bp.toUInt64 >>> ((20 : Int32) &&& 0x3f).toInt64.toUInt64).toInt64)), (.int (2 : Int32)), (.ref b244), (.ref b244)])) rfl (by rw [hml]; rfl) (argsL := [(.long ((bp.toUInt64 >>> ((20 : Int32) &&& 0x3f).toInt64.toUInt64).toInt64))]) (rest := [(.int (2 : Int32)), (.ref b244), (.ref b244)]) (lenOf pd_6 rfl) rfl (by show 2 * 0 + _ ≤ _; exact Nat.le_of_eq rfl) (hb hby at_46) (fun _ _ => ⟨rfl, e250, (by decide : 1 + 0 ≤ _), (by decide : 4 + 0 ≤ _)⟩)
  dsimp only [Pt.U, Pt.locs, Pt.cells, Pt.slots] at X252 l252 y252 z252 st252 hQ252
  subst l252 y252 z252
  obtain ⟨c2_, rfl, N252q, B2, e252⟩ := hQ252
  have N252 := Fr.app N250 N252q
  refine own_go st252 ?_
  show own_Go _ _ _ _ (T252.setTop (mkF m 49 #[.val (.long bp), .second, .val (.long bn), .second, .val (.int iv), .val (.int (Int32.ofNat pl)), .val (.int (Int32.ofNat nl)), .unset, .unset, .unset, .unset] [(.int c2_), (.int (2 : Int32)), (.ref b244), (.ref b244)]))
  obtain ⟨cl253, Ar253, qk253, sz253, nn253, ha253, gf253⟩ := id V250
  have hin253 : ¬ ((2 : Int32) < 0 ∨ cl253.slots.size ≤ ((2 : Int32)).toNatClampNeg) := inb_of sz253 ⟨by decide, by decide⟩
  obtain ⟨T254, h254, X254, e254, W254, st254⟩ := stC X252 hx hZ e252 Ar253 (j := (2 : Int32)) hin253 (g := (mkF m 49 #[.val (.long bp), .second, .val (.long bn), .second, .val (.int iv), .val (.int (Int32.ofNat pl)), .val (.int (Int32.ofNat nl)), .unset, .unset, .unset, .unset] [(.int c2_), (.int (2 : Int32)), (.ref b244), (.ref b244)])) rfl rfl (hb hby at_49)
  refine own_go st254 ?_
  rw [(own_nc B2)] at W254
  have V254 : Arv Z h254 b244 k244 .char (4 : Int32) [(.int c0_), (.int c1_), (.int c2_), (.int (0 : Int32))] (.int (0 : Int32)) := Arv.set Ar253 qk253 sz253 nn253 ha253 gf253 (own_fc B2) W254 2 rfl (Nat.le_of_ble_eq_true rfl)
  have C254 := C250.trans (CHr.wr W254 (Safe.wr W250 f251 C247.1 f251) C250.1)
  have Z254 : n0 ≤ h254.size := (Nat.le_trans Z250 (Nat.le_of_eq W254.size.symm))
  have N254 := Fr.snoc X254 N252 q244
  refine own_go (fun t k => XS.dup X254.here hx rfl (hb hby at_50) rfl rfl k) ?_
  refine own_go (fun t k => XS.iconst X254.here hx rfl (hb hby at_51) k) ?_
  refine own_go (fun t k => XS.lloadN X254.here hx rfl (hb hby at_52) rfl k) ?_
  show own_Go _ _ _ _ (T254.setTop (mkF m 53 #[.val (.long bp), .second, .val (.long bn), .second, .val (.int iv), .val (.int (Int32.ofNat pl)), .val (.int (Int32.ofNat nl)), .unset, .unset, .unset, .unset] [(.long bp), (.int (3 : Int32)), (.ref b244), (.ref b244)]))
  refine own_go (fun t k => XS.bipush X254.here hx rfl (hb hby at_53) k) ?_
  refine own_go (fun t k => XS.lushr X254.here hx rfl (hb hby at_55) rfl k) ?_
  obtain ⟨_, _, ⟨T255, L255, k255, n255⟩, -, X255, ⟨Lc255, hQ255, l255, y255, z255⟩, st255⟩ := Jvm.LawKit.callS X254 hx (y := (⟨"com/example/fathomsearch/fathomsearch/NamePatternMatchesPinLaw", "pch", "(J)C"⟩ : MethodName)) hown (mvT hZ (w_1 hw)) (mvT hZ (w_2 hw)) (mvT hZ (w_3 hw)) (mvT hZ (w_4 hw)) (by decide) (backOf (W := 3) (rm_pch l Z a0 hw [] ((bp.toUInt64 >>> ((30 : Int32) &&& 0x3f).toInt64.toUInt64).toInt64) h254 n0 Z254 ) hZ (w_4 hw) (w_3 hw) (by decide) (by decide)) (g := (mkF m 56 #[.val (.long bp), .second, .val (.long bn), .second, .val (.int iv), .val (.int (Int32.ofNat pl)), .val (.int (Int32.ofNat nl)), .unset, .unset, .unset, .unset] [(.long ((bp.toUInt64 >>> ((30 : Int32) &&& 0x3f).toInt64.toUInt64).toInt64)), (.int (3 : Int32)), (.ref b244), (.ref b244)])) rfl (by rw [hml]; rfl) (argsL := [(.long ((bp.toUInt64 >>> ((30 : Int32) &&& 0x3f).toInt64.toUInt64).toInt64))]) (rest := [(.int (3 : Int32)), (.ref b244), (.ref b244)]) (lenOf pd_6 rfl) rfl (by show 2 * 0 + _ ≤ _; exact Nat.le_of_eq rfl) (hb hby at_56) (fun _ _ => ⟨rfl, e254, (by decide : 1 + 0 ≤ _), (by decide : 4 + 0 ≤ _)⟩)
  dsimp only [Pt.U, Pt.locs, Pt.cells, Pt.slots] at X255 l255 y255 z255 st255 hQ255
  subst l255 y255 z255
  obtain ⟨c3_, rfl, N255q, B3, e255⟩ := hQ255
  have N255 := Fr.app N254 N255q
  refine own_go st255 ?_
  show own_Go _ _ _ _ (T255.setTop (mkF m 59 #[.val (.long bp), .second, .val (.long bn), .second, .val (.int iv), .val (.int (Int32.ofNat pl)), .val (.int (Int32.ofNat nl)), .unset, .unset, .unset, .unset] [(.int c3_), (.int (3 : Int32)), (.ref b244), (.ref b244)]))
  obtain ⟨cl256, Ar256, qk256, sz256, nn256, ha256, gf256⟩ := id V254
  have hin256 : ¬ ((3 : Int32) < 0 ∨ cl256.slots.size ≤ ((3 : Int32)).toNatClampNeg) := inb_of sz256 ⟨by decide, by decide⟩
  obtain ⟨T257, h257, X257, e257, W257, st257⟩ := stC X255 hx hZ e255 Ar256 (j := (3 : Int32)) hin256 (g := (mkF m 59 #[.val (.long bp), .second, .val (.long bn), .second, .val (.int iv), .val (.int (Int32.ofNat pl)), .val (.int (Int32.ofNat nl)), .unset, .unset, .unset, .unset] [(.int c3_), (.int (3 : Int32)), (.ref b244), (.ref b244)])) rfl rfl (hb hby at_59)
  refine own_go st257 ?_
  rw [(own_nc B3)] at W257
  have V257 : Arv Z h257 b244 k244 .char (4 : Int32) [(.int c0_), (.int c1_), (.int c2_), (.int c3_)] (.int (0 : Int32)) := Arv.set Ar256 qk256 sz256 nn256 ha256 gf256 (own_fc B3) W257 3 rfl (Nat.le_of_ble_eq_true rfl)
  have f258 := (Safe.wr W254 (Safe.wr W250 f251 C247.1 f251) C250.1 (Safe.wr W250 f251 C247.1 f251))
  have C257 := C254.trans (CHr.wr W257 f258 C254.1)
  have Z257 : n0 ≤ h257.size := (Nat.le_trans Z254 (Nat.le_of_eq W257.size.symm))
  have N257 := Fr.snoc X257 N255 q244
  refine own_go (fun t k => XS.astore X257.here hx rfl (hb hby at_60) rfl rfl (l' := #[.val (.long bp), .second, .val (.long bn), .second, .val (.int iv), .val (.int (Int32.ofNat pl)), .val (.int (Int32.ofNat nl)), .val (.ref b244), .unset, .unset, .unset]) rfl k) ?_
  refine own_go (fun t k => XS.iconst X257.here hx rfl (hb hby at_62) k) ?_
  show own_Go _ _ _ _ (T257.setTop (mkF m 63 #[.val (.long bp), .second, .val (.long bn), .second, .val (.int iv), .val (.int (Int32.ofNat pl)), .val (.int (Int32.ofNat nl)), .val (.ref b244), .unset, .unset, .unset] [(.int (4 : Int32))]))
  obtain ⟨T259, h259, k259, X259, e259, E259, A259, st259⟩ := newP (aty := .char) X257 hx hZ (w_0 hw) e257 (n := (4 : Int32)) (rest := []) (g := (mkF m 63 #[.val (.long bp), .second, .val (.long bn), .second, .val (.int iv), .val (.int (Int32.ofNat pl)), .val (.int (Int32.ofNat nl)), .val (.ref b244), .unset, .unset, .unset] [(.int (4 : Int32))])) rfl (hb hby at_63) rfl (by decide) (cap := 4) (by decide) (by decide) (by decide) (by decide)
  obtain ⟨b259, g259⟩ : ∃ z, z = h257.size := ⟨_, rfl⟩
  rw [← g259] at A259 st259
  refine own_go st259 ?_
  have Sf259 : Safe Z consts_1 s.vm h257 b259 := Safe.new (Nat.le_of_eq g259.symm)
  have Z259 : n0 ≤ h259.size := (Nat.le_trans Z257 E259.1)
  have C259 := C257.trans (CHr.ext E259 C257.1)
  have lo259 : h257.size ≤ b259 := Nat.le_of_eq g259.symm
  have q259 : n0 ≤ b259 := Nat.le_trans Z257 lo259
  have hi259 : b259 < h259.size := A259.lt
  have V259 : Arv Z h259 b259 k259 .char (4 : Int32) [(.int (0 : Int32)), (.int (0 : Int32)), (.int (0 : Int32)), (.int (0 : Int32))] (.int (0 : Int32)) := (Arv.new A259 (by decide)).pad (pad_rep [] (.int (0 : Int32)) 4)
  refine own_go (fun t k => XS.dup X259.here hx rfl (hb hby at_65) rfl rfl k) ?_
  refine own_go (fun t k => XS.iconst X259.here hx rfl (hb hby at_66) k) ?_
  refine own_go (fun t k => XS.lloadN X259.here hx rfl (hb hby at_67) rfl k) ?_
  show own_Go _ _ _ _ (T259.setTop (mkF m 68 #[.val (.long bp), .second, .val (.long bn), .second, .val (.int iv), .val (.int (Int32.ofNat pl)), .val (.int (Int32.ofNat nl)), .val (.ref b244), .unset, .unset, .unset] [(.long bn), (.int (0 : Int32)), (.ref b259), (.ref b259)]))
  obtain ⟨_, _, ⟨T260, L260, k260, n260⟩, -, X260, ⟨Lc260, hQ260, l260, y260, z260⟩, st260⟩ := Jvm.LawKit.callS X259 hx (y := (⟨"com/example/fathomsearch/fathomsearch/NamePatternMatchesPinLaw", "nch", "(J)C"⟩ : MethodName)) hown (mvT hZ (w_7 hw)) (mvT hZ (w_8 hw)) (mvT hZ (w_3 hw)) (mvT hZ (w_9 hw)) (by decide) (backOf (W := 3) (rm_nch l Z a0 hw [] bn h259 n0 Z259 ) hZ (w_9 hw) (w_3 hw) (by decide) (by decide)) (g := (mkF m 68 #[.val (.long bp), .second, .val (.long bn), .second, .val (.int iv), .val (.int (Int32.ofNat pl)), .val (.int (Int32.ofNat nl)), .val (.ref b244), .unset, .unset, .unset] [(.long bn), (.int (0 : Int32)), (.ref b259), (.ref b259)])) rfl (by rw [hml]; rfl) (argsL := [(.long bn)]) (rest := [(.int (0 : Int32)), (.ref b259), (.ref b259)]) (lenOf pd_6 rfl) rfl (by show 2 * 0 + _ ≤ _; exact Nat.le_of_eq rfl) (hb hby at_68) (fun _ _ => ⟨rfl, e259, (by decide : 2 + 0 ≤ _), (by decide : 8 + 0 ≤ _)⟩)
  dsimp only [Pt.U, Pt.locs, Pt.cells, Pt.slots] at X260 l260 y260 z260 st260 hQ260
  subst l260 y260 z260
  obtain ⟨d0_, rfl, N260q, D0, e260⟩ := hQ260
  have N260 := Fr.app N257 N260q
  refine own_go st260 ?_
  show own_Go _ _ _ _ (T260.setTop (mkF m 71 #[.val (.long bp), .second, .val (.long bn), .second, .val (.int iv), .val (.int (Int32.ofNat pl)), .val (.int (Int32.ofNat nl)), .val (.ref b244), .unset, .unset, .unset] [(.int d0_), (.int (0 : Int32)), (.ref b259), (.ref b259)]))
  obtain ⟨cl261, Ar261, qk261, sz261, nn261, ha261, gf261⟩ := id V259
  have hin261 : ¬ ((0 : Int32) < 0 ∨ cl261.slots.size ≤ ((0 : Int32)).toNatClampNeg) := inb_of sz261 ⟨by decide, by decide⟩
  obtain ⟨T262, h262, X262, e262, W262, st262⟩ := stC X260 hx hZ e260 Ar261 (j := (0 : Int32)) hin261 (g := (mkF m 71 #[.val (.long bp), .second, .val (.long bn), .second, .val (.int iv), .val (.int (Int32.ofNat pl)), .val (.int (Int32.ofNat nl)), .val (.ref b244), .unset, .unset, .unset] [(.int d0_), (.int (0 : Int32)), (.ref b259), (.ref b259)])) rfl rfl (hb hby at_71)
  refine own_go st262 ?_
  rw [(own_nc D0)] at W262
  have V262 : Arv Z h262 b259 k259 .char (4 : Int32) [(.int d0_), (.int (0 : Int32)), (.int (0 : Int32)), (.int (0 : Int32))] (.int (0 : Int32)) := Arv.set Ar261 qk261 sz261 nn261 ha261 gf261 (own_fc D0) W262 0 rfl (Nat.le_of_ble_eq_true rfl)
  have C262 := C259.trans (CHr.wr W262 (Safe.ext E259 C257.1 Sf259) C259.1)
  have Z262 : n0 ≤ h262.size := (Nat.le_trans Z259 (Nat.le_of_eq W262.size.symm))
  have N262 := Fr.snoc X262 N260 q259
  refine own_go (fun t k => XS.dup X262.here hx rfl (hb hby at_72) rfl rfl k) ?_
  refine own_go (fun t k => XS.iconst X262.here hx rfl (hb hby at_73) k) ?_
  refine own_go (fun t k => XS.lloadN X262.here hx rfl (hb hby at_74) rfl k) ?_
  show own_Go _ _ _ _ (T262.setTop (mkF m 75 #[.val (.long bp), .second, .val (.long bn), .second, .val (.int iv), .val (.int (Int32.ofNat pl)), .val (.int (Int32.ofNat nl)), .val (.ref b244), .unset, .unset, .unset] [(.long bn), (.int (1 : Int32)), (.ref b259), (.ref b259)]))
  refine own_go (fun t k => XS.bipush X262.here hx rfl (hb hby at_75) k) ?_
  refine own_go (fun t k => XS.lushr X262.here hx rfl (hb hby at_77) rfl k) ?_
  obtain ⟨_, _, ⟨T263, L263, k263, n263⟩, -, X263, ⟨Lc263, hQ263, l263, y263, z263⟩, st263⟩ := Jvm.LawKit.callS X262 hx (y := (⟨"com/example/fathomsearch/fathomsearch/NamePatternMatchesPinLaw", "nch", "(J)C"⟩ : MethodName)) hown (mvT hZ (w_7 hw)) (mvT hZ (w_8 hw)) (mvT hZ (w_3 hw)) (mvT hZ (w_9 hw)) (by decide) (backOf (W := 3) (rm_nch l Z a0 hw [] ((bn.toUInt64 >>> ((10 : Int32) &&& 0x3f).toInt64.toUInt64).toInt64) h262 n0 Z262 ) hZ (w_9 hw) (w_3 hw) (by decide) (by decide)) (g := (mkF m 78 #[.val (.long bp), .second, .val (.long bn), .second, .val (.int iv), .val (.int (Int32.ofNat pl)), .val (.int (Int32.ofNat nl)), .val (.ref b244), .unset, .unset, .unset] [(.long ((bn.toUInt64 >>> ((10 : Int32) &&& 0x3f).toInt64.toUInt64).toInt64)), (.int (1 : Int32)), (.ref b259), (.ref b259)])) rfl (by rw [hml]; rfl) (argsL := [(.long ((bn.toUInt64 >>> ((10 : Int32) &&& 0x3f).toInt64.toUInt64).toInt64))]) (rest := [(.int (1 : Int32)), (.ref b259), (.ref b259)]) (lenOf pd_6 rfl) rfl (by show 2 * 0 + _ ≤ _; exact Nat.le_of_eq rfl) (hb hby at_78) (fun _ _ => ⟨rfl, e262, (by decide : 2 + 0 ≤ _), (by decide : 8 + 0 ≤ _)⟩)
  dsimp only [Pt.U, Pt.locs, Pt.cells, Pt.slots] at X263 l263 y263 z263 st263 hQ263
  subst l263 y263 z263
  obtain ⟨d1_, rfl, N263q, D1, e263⟩ := hQ263
  have N263 := Fr.app N262 N263q
  refine own_go st263 ?_
  show own_Go _ _ _ _ (T263.setTop (mkF m 81 #[.val (.long bp), .second, .val (.long bn), .second, .val (.int iv), .val (.int (Int32.ofNat pl)), .val (.int (Int32.ofNat nl)), .val (.ref b244), .unset, .unset, .unset] [(.int d1_), (.int (1 : Int32)), (.ref b259), (.ref b259)]))
  obtain ⟨cl264, Ar264, qk264, sz264, nn264, ha264, gf264⟩ := id V262
  have hin264 : ¬ ((1 : Int32) < 0 ∨ cl264.slots.size ≤ ((1 : Int32)).toNatClampNeg) := inb_of sz264 ⟨by decide, by decide⟩
  obtain ⟨T265, h265, X265, e265, W265, st265⟩ := stC X263 hx hZ e263 Ar264 (j := (1 : Int32)) hin264 (g := (mkF m 81 #[.val (.long bp), .second, .val (.long bn), .second, .val (.int iv), .val (.int (Int32.ofNat pl)), .val (.int (Int32.ofNat nl)), .val (.ref b244), .unset, .unset, .unset] [(.int d1_), (.int (1 : Int32)), (.ref b259), (.ref b259)])) rfl rfl (hb hby at_81)
  refine own_go st265 ?_
  rw [(own_nc D1)] at W265
  have V265 : Arv Z h265 b259 k259 .char (4 : Int32) [(.int d0_), (.int d1_), (.int (0 : Int32)), (.int (0 : Int32))] (.int (0 : Int32)) := Arv.set Ar264 qk264 sz264 nn264 ha264 gf264 (own_fc D1) W265 1 rfl (Nat.le_of_ble_eq_true rfl)
  have f266 := (Safe.wr W262 (Safe.ext E259 C257.1 Sf259) C259.1 (Safe.ext E259 C257.1 Sf259))
  have C265 := C262.trans (CHr.wr W265 f266 C262.1)
  have Z265 : n0 ≤ h265.size := (Nat.le_trans Z262 (Nat.le_of_eq W265.size.symm))
  have N265 := Fr.snoc X265 N263 q259
  refine own_go (fun t k => XS.dup X265.here hx rfl (hb hby at_82) rfl rfl k) ?_
  refine own_go (fun t k => XS.iconst X265.here hx rfl (hb hby at_83) k) ?_
  refine own_go (fun t k => XS.lloadN X265.here hx rfl (hb hby at_84) rfl k) ?_
  show own_Go _ _ _ _ (T265.setTop (mkF m 85 #[.val (.long bp), .second, .val (.long bn), .second, .val (.int iv), .val (.int (Int32.ofNat pl)), .val (.int (Int32.ofNat nl)), .val (.ref b244), .unset, .unset, .unset] [(.long bn), (.int (2 : Int32)), (.ref b259), (.ref b259)]))
  refine own_go (fun t k => XS.bipush X265.here hx rfl (hb hby at_85) k) ?_
  refine own_go (fun t k => XS.lushr X265.here hx rfl (hb hby at_87) rfl k) ?_
  obtain ⟨_, _, ⟨T267, L267, k267, n267⟩, -, X267, ⟨Lc267, hQ267, l267, y267, z267⟩, st267⟩ := Jvm.LawKit.callS X265 hx (y := (⟨"com/example/fathomsearch/fathomsearch/NamePatternMatchesPinLaw", "nch", "(J)C"⟩ : MethodName)) hown (mvT hZ (w_7 hw)) (mvT hZ (w_8 hw)) (mvT hZ (w_3 hw)) (mvT hZ (w_9 hw)) (by decide) (backOf (W := 3) (rm_nch l Z a0 hw [] ((bn.toUInt64 >>> ((20 : Int32) &&& 0x3f).toInt64.toUInt64).toInt64) h265 n0 Z265 ) hZ (w_9 hw) (w_3 hw) (by decide) (by decide)) (g := (mkF m 88 #[.val (.long bp), .second, .val (.long bn), .second, .val (.int iv), .val (.int (Int32.ofNat pl)), .val (.int (Int32.ofNat nl)), .val (.ref b244), .unset, .unset, .unset] [(.long ((bn.toUInt64 >>> ((20 : Int32) &&& 0x3f).toInt64.toUInt64).toInt64)), (.int (2 : Int32)), (.ref b259), (.ref b259)])) rfl (by rw [hml]; rfl) (argsL := [(.long ((bn.toUInt64 >>> ((20 : Int32) &&& 0x3f).toInt64.toUInt64).toInt64))]) (rest := [(.int (2 : Int32)), (.ref b259), (.ref b259)]) (lenOf pd_6 rfl) rfl (by show 2 * 0 + _ ≤ _; exact Nat.le_of_eq rfl) (hb hby at_88) (fun _ _ => ⟨rfl, e265, (by decide : 2 + 0 ≤ _), (by decide : 8 + 0 ≤ _)⟩)
  dsimp only [Pt.U, Pt.locs, Pt.cells, Pt.slots] at X267 l267 y267 z267 st267 hQ267
  subst l267 y267 z267
  obtain ⟨d2_, rfl, N267q, D2, e267⟩ := hQ267
  have N267 := Fr.app N265 N267q
  refine own_go st267 ?_
  show own_Go _ _ _ _ (T267.setTop (mkF m 91 #[.val (.long bp), .second, .val (.long bn), .second, .val (.int iv), .val (.int (Int32.ofNat pl)), .val (.int (Int32.ofNat nl)), .val (.ref b244), .unset, .unset, .unset] [(.int d2_), (.int (2 : Int32)), (.ref b259), (.ref b259)]))
  obtain ⟨cl268, Ar268, qk268, sz268, nn268, ha268, gf268⟩ := id V265
  have hin268 : ¬ ((2 : Int32) < 0 ∨ cl268.slots.size ≤ ((2 : Int32)).toNatClampNeg) := inb_of sz268 ⟨by decide, by decide⟩
  obtain ⟨T269, h269, X269, e269, W269, st269⟩ := stC X267 hx hZ e267 Ar268 (j := (2 : Int32)) hin268 (g := (mkF m 91 #[.val (.long bp), .second, .val (.long bn), .second, .val (.int iv), .val (.int (Int32.ofNat pl)), .val (.int (Int32.ofNat nl)), .val (.ref b244), .unset, .unset, .unset] [(.int d2_), (.int (2 : Int32)), (.ref b259), (.ref b259)])) rfl rfl (hb hby at_91)
  refine own_go st269 ?_
  rw [(own_nc D2)] at W269
  have V269 : Arv Z h269 b259 k259 .char (4 : Int32) [(.int d0_), (.int d1_), (.int d2_), (.int (0 : Int32))] (.int (0 : Int32)) := Arv.set Ar268 qk268 sz268 nn268 ha268 gf268 (own_fc D2) W269 2 rfl (Nat.le_of_ble_eq_true rfl)
  have C269 := C265.trans (CHr.wr W269 (Safe.wr W265 f266 C262.1 f266) C265.1)
  have Z269 : n0 ≤ h269.size := (Nat.le_trans Z265 (Nat.le_of_eq W269.size.symm))
  have N269 := Fr.snoc X269 N267 q259
  refine own_go (fun t k => XS.dup X269.here hx rfl (hb hby at_92) rfl rfl k) ?_
  refine own_go (fun t k => XS.iconst X269.here hx rfl (hb hby at_93) k) ?_
  refine own_go (fun t k => XS.lloadN X269.here hx rfl (hb hby at_94) rfl k) ?_
  show own_Go _ _ _ _ (T269.setTop (mkF m 95 #[.val (.long bp), .second, .val (.long bn), .second, .val (.int iv), .val (.int (Int32.ofNat pl)), .val (.int (Int32.ofNat nl)), .val (.ref b244), .unset, .unset, .unset] [(.long bn), (.int (3 : Int32)), (.ref b259), (.ref b259)]))
  refine own_go (fun t k => XS.bipush X269.here hx rfl (hb hby at_95) k) ?_
  refine own_go (fun t k => XS.lushr X269.here hx rfl (hb hby at_97) rfl k) ?_
  obtain ⟨_, _, ⟨T270, L270, k270, n270⟩, -, X270, ⟨Lc270, hQ270, l270, y270, z270⟩, st270⟩ := Jvm.LawKit.callS X269 hx (y := (⟨"com/example/fathomsearch/fathomsearch/NamePatternMatchesPinLaw", "nch", "(J)C"⟩ : MethodName)) hown (mvT hZ (w_7 hw)) (mvT hZ (w_8 hw)) (mvT hZ (w_3 hw)) (mvT hZ (w_9 hw)) (by decide) (backOf (W := 3) (rm_nch l Z a0 hw [] ((bn.toUInt64 >>> ((30 : Int32) &&& 0x3f).toInt64.toUInt64).toInt64) h269 n0 Z269 ) hZ (w_9 hw) (w_3 hw) (by decide) (by decide)) (g := (mkF m 98 #[.val (.long bp), .second, .val (.long bn), .second, .val (.int iv), .val (.int (Int32.ofNat pl)), .val (.int (Int32.ofNat nl)), .val (.ref b244), .unset, .unset, .unset] [(.long ((bn.toUInt64 >>> ((30 : Int32) &&& 0x3f).toInt64.toUInt64).toInt64)), (.int (3 : Int32)), (.ref b259), (.ref b259)])) rfl (by rw [hml]; rfl) (argsL := [(.long ((bn.toUInt64 >>> ((30 : Int32) &&& 0x3f).toInt64.toUInt64).toInt64))]) (rest := [(.int (3 : Int32)), (.ref b259), (.ref b259)]) (lenOf pd_6 rfl) rfl (by show 2 * 0 + _ ≤ _; exact Nat.le_of_eq rfl) (hb hby at_98) (fun _ _ => ⟨rfl, e269, (by decide : 2 + 0 ≤ _), (by decide : 8 + 0 ≤ _)⟩)
  dsimp only [Pt.U, Pt.locs, Pt.cells, Pt.slots] at X270 l270 y270 z270 st270 hQ270
  subst l270 y270 z270
  obtain ⟨d3_, rfl, N270q, D3, e270⟩ := hQ270
  have N270 := Fr.app N269 N270q
  refine own_go st270 ?_
  show own_Go _ _ _ _ (T270.setTop (mkF m 101 #[.val (.long bp), .second, .val (.long bn), .second, .val (.int iv), .val (.int (Int32.ofNat pl)), .val (.int (Int32.ofNat nl)), .val (.ref b244), .unset, .unset, .unset] [(.int d3_), (.int (3 : Int32)), (.ref b259), (.ref b259)]))
  obtain ⟨cl271, Ar271, qk271, sz271, nn271, ha271, gf271⟩ := id V269
  have hin271 : ¬ ((3 : Int32) < 0 ∨ cl271.slots.size ≤ ((3 : Int32)).toNatClampNeg) := inb_of sz271 ⟨by decide, by decide⟩
  obtain ⟨T272, h272, X272, e272, W272, st272⟩ := stC X270 hx hZ e270 Ar271 (j := (3 : Int32)) hin271 (g := (mkF m 101 #[.val (.long bp), .second, .val (.long bn), .second, .val (.int iv), .val (.int (Int32.ofNat pl)), .val (.int (Int32.ofNat nl)), .val (.ref b244), .unset, .unset, .unset] [(.int d3_), (.int (3 : Int32)), (.ref b259), (.ref b259)])) rfl rfl (hb hby at_101)
  refine own_go st272 ?_
  rw [(own_nc D3)] at W272
  have V272 : Arv Z h272 b259 k259 .char (4 : Int32) [(.int d0_), (.int d1_), (.int d2_), (.int d3_)] (.int (0 : Int32)) := Arv.set Ar271 qk271 sz271 nn271 ha271 gf271 (own_fc D3) W272 3 rfl (Nat.le_of_ble_eq_true rfl)
  have f273 := (Safe.wr W269 (Safe.wr W265 f266 C262.1 f266) C265.1 (Safe.wr W265 f266 C262.1 f266))
  have C272 := C269.trans (CHr.wr W272 f273 C269.1)
  have Z272 : n0 ≤ h272.size := (Nat.le_trans Z269 (Nat.le_of_eq W272.size.symm))
  have N272 := Fr.snoc X272 N270 q259
  refine own_go (fun t k => XS.astore X272.here hx rfl (hb hby at_102) rfl rfl (l' := #[.val (.long bp), .second, .val (.long bn), .second, .val (.int iv), .val (.int (Int32.ofNat pl)), .val (.int (Int32.ofNat nl)), .val (.ref b244), .val (.ref b259), .unset, .unset]) rfl k) ?_
  refine own_go (fun t k => XS.aload X272.here hx rfl (hb hby at_104) rfl rfl k) ?_
  refine own_go (fun t k => XS.iload X272.here hx rfl (hb hby at_106) rfl k) ?_
  have f274 := (((((V257.ext E259).other W262 (Nat.ne_of_lt (Nat.lt_of_lt_of_le hi244 (Nat.le_trans (Nat.le_trans (Nat.le_trans (Nat.le_trans (Nat.le_of_eq W247.size.symm) (Nat.le_of_eq W250.size.symm)) (Nat.le_of_eq W254.size.symm)) (Nat.le_of_eq W257.size.symm)) lo259)))).other W265 (Nat.ne_of_lt (Nat.lt_of_lt_of_le hi244 (Nat.le_trans (Nat.le_trans (Nat.le_trans (Nat.le_trans (Nat.le_of_eq W247.size.symm) (Nat.le_of_eq W250.size.symm)) (Nat.le_of_eq W254.size.symm)) (Nat.le_of_eq W257.size.symm)) lo259)))).other W269 (Nat.ne_of_lt (Nat.lt_of_lt_of_le hi244 (Nat.le_trans (Nat.le_trans (Nat.le_trans (Nat.le_trans (Nat.le_of_eq W247.size.symm) (Nat.le_of_eq W250.size.symm)) (Nat.le_of_eq W254.size.symm)) (Nat.le_of_eq W257.size.symm)) lo259)))).other W272 (Nat.ne_of_lt (Nat.lt_of_lt_of_le hi244 (Nat.le_trans (Nat.le_trans (Nat.le_trans (Nat.le_trans (Nat.le_of_eq W247.size.symm) (Nat.le_of_eq W250.size.symm)) (Nat.le_of_eq W254.size.symm)) (Nat.le_of_eq W257.size.symm)) lo259))))
  have f275 := ((((((((((O0.ext E244).wr W247 q244).wr W250 q244).wr W254 q244).wr W257 q244).ext E259).wr W262 q259).wr W265 q259).wr W269 q259).wr W272 q259)
  show own_Go _ _ _ _ (T272.setTop (mkF m 108 #[.val (.long bp), .second, .val (.long bn), .second, .val (.int iv), .val (.int (Int32.ofNat pl)), .val (.int (Int32.ofNat nl)), .val (.ref b244), .val (.ref b259), .unset, .unset] [(.int (Int32.ofNat pl)), (.ref b244)]))
  obtain ⟨_, _, ⟨T276, L276, k276, n276⟩, -, X276, hS276, hg276, ⟨Lc276, hQ276, l276, y276, z276, R276⟩, st276⟩ := callSS X272 hx (y := (⟨"com/example/fathomsearch/fathomsearch/NamePatternMatchesPinLaw", "str", "([CI)Ljava/lang/String;"⟩ : MethodName)) hown (mvT hZ (w_10 hw)) (mvT hZ (w_11 hw)) (mvT hZ (w_3 hw)) (mvT hZ (w_12 hw)) (by decide) (backOfSH (W := 0) (rm_str l Z a0 hw [] b244 k244 c0_ c1_ c2_ c3_ pl zv gv h272 n0 Z272 hpl f274 B0 B1 B2 B3 f275 hzv S0 rgv G0) hZ (w_12 hw) (w_3 hw) (by decide) (by decide) (own_EW hw) C272.1) (g := (mkF m 108 #[.val (.long bp), .second, .val (.long bn), .second, .val (.int iv), .val (.int (Int32.ofNat pl)), .val (.int (Int32.ofNat nl)), .val (.ref b244), .val (.ref b259), .unset, .unset] [(.int (Int32.ofNat pl)), (.ref b244)])) rfl (by rw [hml]; rfl) (argsL := [(.ref b244), (.int (Int32.ofNat pl))]) (rest := []) (lenOf pd_7 rfl) rfl (by show 2 * 0 + _ ≤ _; exact Nat.le_of_eq rfl) (hb hby at_108) (fun _ _ => ⟨rfl, e272, (by decide : 2 + 6 ≤ _), (by decide : 8 + 12 ≤ _)⟩)
  dsimp only [Pt.U, Pt.locs, Pt.cells, Pt.slots] at X276 l276 y276 z276 st276 hQ276 hS276 hg276 R276
  replace hS := foldS hS (Nat.le_trans (Nat.le_trans hk (Nat.le_trans (Nat.le_trans (Nat.le_trans (Nat.le_trans (Nat.le_trans (Nat.le_trans (Nat.le_trans (Nat.le_trans (Nat.le_trans E244.1 (Nat.le_of_eq W247.size.symm)) (Nat.le_of_eq W250.size.symm)) (Nat.le_of_eq W254.size.symm)) (Nat.le_of_eq W257.size.symm)) E259.1) (Nat.le_of_eq W262.size.symm)) (Nat.le_of_eq W265.size.symm)) (Nat.le_of_eq W269.size.symm)) (Nat.le_of_eq W272.size.symm))) (Nat.le_of_eq (congrArg Array.size e272.symm))) hS276 hg276
  have hZ := State.Warmed39.trans hZ hS276.1
  have hown : T276.vm.findClass "com/example/fathomsearch/fathomsearch/NamePatternMatchesPinLaw" = some m.cls := by rw [hS276.1.alike.findClass]; exact hown
  replace X276 : Stand p l e room_1 (s.setVm T276.vm) m #[(.long bp), (.long bn), (.int iv)] below meth c T276 _ _ _ := X276
  subst l276 y276 z276
  generalize e276 : T276.heap = h276 at hQ276 R276
  obtain ⟨us276, ub276, kb276, rfl, N276q, K276q, Ea276, Ec276, Ev276, Ek276⟩ := hQ276
  have hk : T276.heap.size ≤ h276.size := Nat.le_of_eq (by rw [e276])
  have N276 := Fr.app N272 N276q
  refine own_go (fun t k => st276.trans k) ?_
  have C276 := C272.trans R276
  have Z276 : n0 ≤ h276.size := (Nat.le_trans Z272 K276q.1)
  have hi276 := Ea276.lt
  have hj276 := Ek276.lt
  refine own_go (fun t k => XS.astore X276.here hx rfl (hb hby at_111) rfl rfl (l' := #[.val (.long bp), .second, .val (.long bn), .second, .val (.int iv), .val (.int (Int32.ofNat pl)), .val (.int (Int32.ofNat nl)), .val (.ref b244), .val (.ref b259), .val (.ref us276), .unset]) rfl k) ?_
  refine own_go (fun t k => XS.aload X276.here hx rfl (hb hby at_113) rfl rfl k) ?_
  refine own_go (fun t k => XS.iload X276.here hx rfl (hb hby at_115) rfl k) ?_
  show own_Go _ _ _ _ (T276.setTop (mkF m 117 #[.val (.long bp), .second, .val (.long bn), .second, .val (.int iv), .val (.int (Int32.ofNat pl)), .val (.int (Int32.ofNat nl)), .val (.ref b244), .val (.ref b259), .val (.ref us276), .unset] [(.int (Int32.ofNat nl)), (.ref b259)]))
  obtain ⟨_, _, ⟨T277, L277, k277, n277⟩, -, X277, hS277, hg277, ⟨Lc277, hQ277, l277, y277, z277, R277⟩, st277⟩ := callSS X276 hx (y := (⟨"com/example/fathomsearch/fathomsearch/NamePatternMatchesPinLaw", "str", "([CI)Ljava/lang/String;"⟩ : MethodName)) hown (mvT hZ (w_10 hw)) (mvT hZ (w_11 hw)) (mvT hZ (w_3 hw)) (mvT hZ (w_12 hw)) (by decide) (backOfSH (W := 0) (rm_str l Z a0 hw [] b259 k259 d0_ d1_ d2_ d3_ nl zv gv h276 n0 Z276 hnl (V272.keep K276q nin0) D0 D1 D2 D3 (f275.keep K276q all0) hzv S0 rgv G0) hZ (w_12 hw) (w_3 hw) (by decide) (by decide) (own_EW hw) C276.1) (g := (mkF m 117 #[.val (.long bp), .second, .val (.long bn), .second, .val (.int iv), .val (.int (Int32.ofNat pl)), .val (.int (Int32.ofNat nl)), .val (.ref b244), .val (.ref b259), .val (.ref us276), .unset] [(.int (Int32.ofNat nl)), (.ref b259)])) rfl (by rw [hml]; rfl) (argsL := [(.ref b259), (.int (Int32.ofNat nl))]) (rest := []) (lenOf pd_7 rfl) rfl (by show 2 * 0 + _ ≤ _; exact Nat.le_of_eq rfl) (hb hby at_117) (fun _ _ => ⟨rfl, e276, (by decide : 8 + 6 ≤ _), (by decide : 20 + 12 ≤ _)⟩)
  dsimp only [Pt.U, Pt.locs, Pt.cells, Pt.slots] at X277 l277 y277 z277 st277 hQ277 hS277 hg277 R277
  replace hS := foldS hS (Nat.le_trans hk (Nat.le_of_eq (congrArg Array.size e276.symm))) hS277 hg277
  have hZ := State.Warmed39.trans hZ hS277.1
  have hown : T277.vm.findClass "com/example/fathomsearch/fathomsearch/NamePatternMatchesPinLaw" = some m.cls := by rw [hS277.1.alike.findClass]; exact hown
  replace X277 : Stand p l e room_1 (s.setVm T277.vm) m #[(.long bp), (.long bn), (.int iv)] below meth c T277 _ _ _ := X277
  subst l277 y277 z277
  generalize e277 : T277.heap = h277 at hQ277 R277
  obtain ⟨us277, ub277, kb277, rfl, N277q, K277q, Ea277, Ec277, Ev277, Ek277⟩ := hQ277
  have hk : T277.heap.size ≤ h277.size := Nat.le_of_eq (by rw [e277])
  have N277 := Fr.app N276 N277q
  refine own_go (fun t k => st277.trans k) ?_
  have C277 := C276.trans R277
  have Z277 : n0 ≤ h277.size := (Nat.le_trans Z276 K277q.1)
  have hi277 := Ea277.lt
  have hj277 := Ek277.lt
  refine own_go (fun t k => XS.astore X277.here hx rfl (hb hby at_120) rfl rfl (l' := #[.val (.long bp), .second, .val (.long bn), .second, .val (.int iv), .val (.int (Int32.ofNat pl)), .val (.int (Int32.ofNat nl)), .val (.ref b244), .val (.ref b259), .val (.ref us276), .val (.ref us277)]) rfl k) ?_
  refine own_go (fun t k => XS.aload X277.here hx rfl (hb hby at_122) rfl rfl k) ?_
  refine own_go (fun t k => XS.aload X277.here hx rfl (hb hby at_124) rfl rfl k) ?_
  show own_Go _ _ _ _ (T277.setTop (mkF m 126 #[.val (.long bp), .second, .val (.long bn), .second, .val (.int iv), .val (.int (Int32.ofNat pl)), .val (.int (Int32.ofNat nl)), .val (.ref b244), .val (.ref b259), .val (.ref us276), .val (.ref us277)] [(.ref us277), (.ref us276)]))
  obtain ⟨_, _, ⟨T278, L278, k278, n278⟩, -, X278, ⟨Lc278, hQ278, l278, y278, z278⟩, st278⟩ := Jvm.LawKit.callS X277 hx (y := (⟨"com/example/fathomsearch/fathomsearch/NamePattern", "matches", "(Ljava/lang/String;Ljava/lang/String;)Z"⟩ : MethodName)) hown (mvT hZ (w_34 hw)) (mvT hZ (w_35 hw)) (mvT hZ (w_36 hw)) (mvT hZ (w_37 hw)) (by decide) (backOf (W := 0) (rm_mt l Z a0 hw [] us276 ub276 kb276 (List.take pl [c0_, c1_, c2_, c3_]) us277 ub277 kb277 (List.take nl [d0_, d1_, d2_, d3_]) zv gv h277 n0 Z277 ((f275.keep K276q all0).keep K277q all0) hzv S0 rgv G0 (Ea276.keep K277q) (Ec276.keep K277q nin0) (Ev276.keep K277q nin0) (Ek276.keep K277q nin0) Ea277 Ec277 Ev277 Ek277 (fun z hz => (List.forall_mem_cons.mpr ⟨B0, (List.forall_mem_cons.mpr ⟨B1, (List.forall_mem_cons.mpr ⟨B2, (List.forall_mem_cons.mpr ⟨B3, (List.forall_mem_nil _)⟩)⟩)⟩)⟩) z (List.mem_of_mem_take hz)) (fun z hz => (List.forall_mem_cons.mpr ⟨D0, (List.forall_mem_cons.mpr ⟨D1, (List.forall_mem_cons.mpr ⟨D2, (List.forall_mem_cons.mpr ⟨D3, (List.forall_mem_nil _)⟩)⟩)⟩)⟩) z (List.mem_of_mem_take hz)) (Nat.le_trans (Nat.le_of_eq (own_take (l := [c0_, c1_, c2_, c3_]) hpl).1) hpl) (Nat.le_trans (Nat.le_of_eq (own_take (l := [d0_, d1_, d2_, d3_]) hnl).1) hnl)) hZ (w_37 hw) (w_36 hw) (by decide) (by decide)) (g := (mkF m 126 #[.val (.long bp), .second, .val (.long bn), .second, .val (.int iv), .val (.int (Int32.ofNat pl)), .val (.int (Int32.ofNat nl)), .val (.ref b244), .val (.ref b259), .val (.ref us276), .val (.ref us277)] [(.ref us277), (.ref us276)])) rfl (by rw [hml]; rfl) (argsL := [(.ref us276), (.ref us277)]) (rest := []) (lenOf pd_8 rfl) rfl (by show 2 * 0 + _ ≤ _; exact Nat.le_of_eq rfl) (hb hby at_126) (fun _ _ => ⟨rfl, e277, (by decide : 14 + 0 ≤ _), (by decide : 32 + 0 ≤ _)⟩)
  dsimp only [Pt.U, Pt.locs, Pt.cells, Pt.slots] at X278 l278 y278 z278 st278 hQ278
  subst l278 y278 z278
  obtain ⟨iv278, rfl, N278q, hV278, e278⟩ := hQ278
  have N278 := Fr.app N277 N278q
  refine own_go st278 ?_
  refine own_go (fun t k => XS.aload X278.here hx rfl (hb hby at_129) rfl rfl k) ?_
  refine own_go (fun t k => XS.iload X278.here hx rfl (hb hby at_131) rfl k) ?_
  refine own_go (fun t k => XS.aload X278.here hx rfl (hb hby at_133) rfl rfl k) ?_
  show own_Go _ _ _ _ (T278.setTop (mkF m 135 #[.val (.long bp), .second, .val (.long bn), .second, .val (.int iv), .val (.int (Int32.ofNat pl)), .val (.int (Int32.ofNat nl)), .val (.ref b244), .val (.ref b259), .val (.ref us276), .val (.ref us277)] [(.ref b259), (.int (Int32.ofNat pl)), (.ref b244), (.int iv278)]))
  refine own_go (fun t k => XS.iload X278.here hx rfl (hb hby at_135) rfl k) ?_
  refine own_go (fun t k => XS.iconst X278.here hx rfl (hb hby at_137) k) ?_
  obtain ⟨_, _, ⟨T279, L279, k279, n279⟩, -, X279, ⟨Lc279, hQ279, l279, y279, z279⟩, st279⟩ := Jvm.LawKit.callS X278 hx (y := (⟨"com/example/fathomsearch/fathomsearch/NamePatternMatchesPinLaw", "m0", "([CI[CII)Z"⟩ : MethodName)) hown (mvT hZ (w_49 hw)) (mvT hZ (w_50 hw)) (mvT hZ (w_3 hw)) (mvT hZ (w_51 hw)) (by decide) (backOf (W := 1) (rm_m0 l Z a0 hw [] b244 k244 b259 k259 c0_ c1_ c2_ c3_ d0_ d1_ d2_ d3_ pl nl 0 h277 n0 Z277 (Nat.zero_le _) hpl (Nat.zero_le _) hnl ((f274.keep K276q nin0).keep K277q nin0) ((V272.keep K276q nin0).keep K277q nin0)) hZ (w_51 hw) (w_3 hw) (by decide) (by decide)) (g := (mkF m 138 #[.val (.long bp), .second, .val (.long bn), .second, .val (.int iv), .val (.int (Int32.ofNat pl)), .val (.int (Int32.ofNat nl)), .val (.ref b244), .val (.ref b259), .val (.ref us276), .val (.ref us277)] [(.int (0 : Int32)), (.int (Int32.ofNat nl)), (.ref b259), (.int (Int32.ofNat pl)), (.ref b244), (.int iv278)])) rfl (by rw [hml]; rfl) (argsL := [(.ref b244), (.int (Int32.ofNat pl)), (.ref b259), (.int (Int32.ofNat nl)), (.int (0 : Int32))]) (rest := [(.int iv278)]) (lenOf pd_3 rfl) rfl (by show 2 * 0 + _ ≤ _; exact Nat.le_of_eq rfl) (hb hby at_138) (fun _ _ => ⟨rfl, e278, (by decide : 14 + 0 ≤ _), (by decide : 32 + 0 ≤ _)⟩)
  dsimp only [Pt.U, Pt.locs, Pt.cells, Pt.slots] at X279 l279 y279 z279 st279 hQ279
  subst l279 y279 z279
  obtain ⟨iv279, rfl, N279q, hV279, e279⟩ := hQ279
  have N279 := Fr.app N278 N279q
  refine own_go st279 ?_
  show own_Go _ _ _ _ (T279.setTop (mkF m 141 #[.val (.long bp), .second, .val (.long bn), .second, .val (.int iv), .val (.int (Int32.ofNat pl)), .val (.int (Int32.ofNat nl)), .val (.ref b244), .val (.ref b259), .val (.ref us276), .val (.ref us277)] [(.int iv279), (.int iv278)]))
  refine own_go (fun t k => XS.icmpNo X279.here hx rfl (hb hby at_141) rfl (teq (own_Veq hV278 hV279 (own_ans hpl hnl))).2 k) ?_
  refine own_go (fun t k => XS.iconst X279.here hx rfl (hb hby at_144) k) ?_
  refine own_go (fun t k => XS.goto X279.here hx rfl (pc0 := 145) (pc' := 149) rfl (hb hby at_145) (by decide) (by decide) k) ?_
  show own_Go _ _ _ _ (T279.setTop (mkF m 149 #[.val (.long bp), .second, .val (.long bn), .second, .val (.int iv), .val (.int (Int32.ofNat pl)), .val (.int (Int32.ofNat nl)), .val (.ref b244), .val (.ref b259), .val (.ref us276), .val (.ref us277)] [(.int (1 : Int32))]))
  refine own_retNH X279 hx hS (Nat.le_trans hk (Nat.le_of_eq (congrArg Array.size e279.symm))) (by rw [hh, e279]; exact C277.trans (CHv.at X279 hZ (own_EW hw) C277.1)) hlk (t := .boolean) hret (by simp) (hb hby at_149) ?_ (by decide) (by decide)
  rw [e279]
  exact ⟨rfl, N279⟩
theorem w_27 {Z : State} {a0 : Array Value} (hw : ∀ d ∈ tables_1, d.before a0 Z = true) : (Jvm.Cond.arrayClass Jvm.ClassFile.FieldType.byte).before a0 Z = true := hw _ (List.mem_of_getElem? (i := 27) rfl)
set_option maxRecDepth 65536 in
set_option maxHeartbeats 40000000 in
theorem comes_1 {Post : Tables → Env → Array Value → State → Outcome → State → Prop} (hpost : ∀ tb e args s v u, (limb_1_1.after args s (.returned v) u = true ∧ limb_1_2.after args s (.returned v) u = true ∧ True) → ReturnedEndW s (.returned v) u (Jvm.fieldLocs frame_1_writes args s ++ Jvm.arrayLocs frame_1_arrays args s ++ Jvm.staticLocs frame_1_statics s) 32 1216 → Post tb e args s (.returned v) u) :
    ArmFor flags0 classFile x code maxLocals ret World_1 tables_1 room_1 Calls_1 rest_1 Pre_1 Post := by
  intro l hfl _ _ p e ha hc hk s m args below hf hA hF happ hP
  obtain ⟨hcalls, hrest, hpre⟩ := hP
  obtain ⟨-, -, -, hnamed, -, -, -, hat⟩ := (Spec.applies_iff hf).mp happ
  obtain ⟨hg, hn⟩ := and_e (Cond.before_iff.mp (show (Jvm.Cond.and given_1 narrow_1).before args s = true from hpre))
  obtain ⟨g1, g2⟩ := and_e hg
  obtain ⟨g3, g4⟩ := and_e g2
  obtain ⟨g5, g6⟩ := and_e g4
  obtain ⟨w0, w1, w2, rfl⟩ : ∃ w0 w1 w2 : Value, args = #[w0, w1, w2] := by
    have hs : args.size = 3 := by simpa [Cond.value, given_1] using g1
    obtain ⟨L⟩ := args
    match L, hs with
    | [w0, w1, w2], _ => exact ⟨w0, w1, w2, rfl⟩
  have hw := fun d (hd : d ∈ tables_1) => atoms_spec (ws := Jvm.Cond.code x code maxLocals ret :: tables_1) hat d (List.mem_cons_of_mem _ hd)
  have hfit : Fit s := fun {y c} hc i hi => by
    obtain ⟨ha, rfl⟩ := Array.getElem?_eq_some_iff.mp hc
    have q := List.all_eq_true.mp ((Array.all_eq_true_iff_forall_mem.mp hF) _ (Array.getElem_mem ha)) i (List.mem_range.mpr hi)
    simpa [Array.getElem?_eq_getElem hi] using q
  obtain ⟨hsets, hown0⟩ := atoms_of _ (rest_1_c_eq ▸ (show rest_1_c.before _ s = true from hrest))
  have hr0 := Cond.before_iff.mp hown0
  obtain ⟨i0, ei0⟩ := isL_v g3
  obtain rfl : w0 = (.long i0) := Option.some.inj ei0
  obtain ⟨i1, ei1⟩ := isL_v g5
  obtain rfl : w1 = (.long i1) := Option.some.inj ei1
  obtain ⟨i2, ei2⟩ := is_v g6
  obtain rfl : w2 = (.int i2) := Option.some.inj ei2
  obtain ⟨zv, ezv⟩ := is_v (Cond.before_iff.mp (hsets _ (List.mem_of_getElem? (i := 1) rfl)))
  have hzv : ¬ zv = (0 : Int32) := gotF (Cond.eq_ints ezv (Term.int_eval (0))) (not_v (Cond.before_iff.mp (hsets _ (List.mem_of_getElem? (i := 2) rfl))))
  have S0 := Sta.start ezv (Or.inl (hsets _ (List.mem_of_getElem? (i := 0) rfl)))
  obtain ⟨gv, egv, rgv⟩ := isR_v (Cond.before_iff.mp (hsets _ (List.mem_of_getElem? (i := 8) rfl)))
  have G0 := Sta.start egv (Or.inl (hsets _ (List.mem_of_getElem? (i := 7) rfl)))
  have hH : CHv s consts_1 s.vm s.heap := CHv.start (own_EW hw) (own_held hcalls.1) (own_compact (zv := zv) ezv hzv) (w_27 hw) (w_14 hw)
  obtain ⟨n, o, h1, h2, h3, _, L, rfl, ⟨rfl, N⟩, -, hq⟩ := rm_law l s _ hw tables_1 i0 i1 i2 zv gv s.heap s.heap.size (Nat.le_refl _) (Old.start s) hzv S0 rgv G0 p e ha hc hk s m _ below hf ((Spec.applies_iff_loose hf).mp happ).1 ⟨rfl, State.Warmed39.refl s, rfl, hH⟩ trivial
  refine ⟨n, _, h1, h2, h3, hpost _ _ _ _ _ _ ⟨Cond.after_iff.mpr rfl, Cond.after_iff.mpr (eq_i res_at (Term.int_eval (1)) rfl), trivial⟩ ⟨hq.1, hq.2.1, hq.2.2.1, (hq.2.2.2.sift fun y hy => Or.inr (N y hy)).mono (by decide) (by decide)⟩⟩
theorem main_1_1 : Claimed_1_1 := comes_1 fun _ _ _ _ _ _ h hF => ⟨h.1, hF⟩
theorem main_1_2 : Claimed_1_2 := comes_1 fun _ _ _ _ _ _ h hF => ⟨h.2.1, hF⟩
end Jvm.Pilot.@@N@@
namespace Jvm.Pilot.@@N@@
open Jvm Jvm.ClassFile Sem Op Lib Jvm.Free Jvm.Stand Jvm.Pilot.@@N@@.Jvm.D
/-! MADE BY PROGRAM (witnessworld.py) out of the Statement's table words and the real class files: 20 classes; the members and pool entries that the words name. The judged class is class 1, her method 1. -/
namespace start1
open Jvm.ClassFile
def u (s : String) : CpInfo := .utf8 (stringToUtf16 s)
/-- a pool by its gaps: so many unusable entries, then the entry; so many at the end -/
def gap : Nat → List CpInfo → List CpInfo
  | 0, r => r
  | n + 1, r => .unusable :: gap n r
def poolList (es : List (Nat × CpInfo)) (last : Nat) : List CpInfo := es.foldr (fun e r => gap e.1 (e.2 :: r)) (gap last [])
def pool (es : List (Nat × CpInfo)) (last : Nat) : Array CpInfo := ⟨poolList es last⟩
def fileOf (pool : Array CpInfo) (this : Nat) (attrs : Array Attribute := #[]) (ms : Array MethodInfo := #[]) (fl : Nat := 33) (sup : Nat := 0) (ifs : Array Nat := #[]) (fds : Array FieldInfo := #[]) : ClassFile where
  minorVersion := 0
  majorVersion := 65
  constantPool := pool
  accessFlags := fl
  thisClass := this
  superClass := sup
  interfaces := ifs
  fields := fds
  methods := ms
  attributes := attrs
def plain (name : String) (sup : Option ClassId) : Class where
  name := name
  kind := .ordinary
  loader := none
  accessFlags := 33
  super := sup
  interfaces := #[]
  cf := none
  fields := #[]
  methods := #[]
  instanceTypes := #[]
  staticTypes := #[]
  resolved := #[]
  callSites := []
  init := .initialized
  statics := none
  mirror := none

def pool0 : Array CpInfo := pool [(5, u "<init>"), (0, u "()V"), (1, .class_ 10), (1, u "java/lang/Object")] 113

def k0c0 : Code := { maxStack := 0, maxLocals := 1, code := object_method_1_code, exceptionTable := #[], attributes := #[] }
def k0m0 : Method := { name := "<init>", desc := "()V", sig := { parameters := [], returnType := none }, accessFlags := 1, code := some k0c0 }
/-- java/lang/Object -/
def k0 : Class := { plain "java/lang/Object" none with
  accessFlags := 33
  interfaces := #[]
  cf := some (fileOf pool0 8 #[] #[{ accessFlags := 1, nameIndex := 5, descriptorIndex := 6, attributes := #[] }] 33 0 #[] #[])
  fields := #[]
  methods := #[k0m0]
  instanceTypes := #[]
  staticTypes := #[]
  resolved := Array.replicate 124 none
  statics := none }

def pool1 : Array CpInfo := pool [(2, .class_ 4), (1, u "java/lang/Object"), (0, u "<init>"), (0, u "()V"), (0, .methodref 8 9), (0, .class_ 10), (0, .nameAndType 11 12), (0, u "com/example/fathomsearch/fathomsearch/NamePatternMatchesPinLaw"), (0, u "pch"), (0, u "(J)C"), (0, .methodref 8 14), (0, .nameAndType 15 12), (0, u "nch"), (0, .methodref 8 17), (0, .nameAndType 18 19), (0, u "str"), (0, u "([CI)Ljava/lang/String;"), (0, .methodref 21 22), (0, .class_ 23), (0, .nameAndType 24 25), (0, u "com/example/fathomsearch/fathomsearch/NamePattern"), (0, u "matches"), (0, u "(Ljava/lang/String;Ljava/lang/String;)Z"), (0, .methodref 8 27), (0, .nameAndType 28 29), (0, u "m0"), (0, u "([CI[CII)Z"), (0, .long 3), (1, .long 255), (1, .class_ 35), (0, u "java/lang/String"), (0, .methodref 34 37), (0, .nameAndType 5 38), (0, u "([C)V"), (0, .methodref 8 40), (0, .nameAndType 41 29), (0, u "m1"), (0, .methodref 8 43), (0, .nameAndType 44 29), (0, u "m2"), (0, .methodref 8 46), (0, .nameAndType 47 29), (0, u "m3"), (0, .methodref 8 49), (0, .nameAndType 50 51), (0, u "m4"), (0, u "(II)Z"), (2, u "law"), (0, u "(JJI)Z")] 5

def k1m0 : Method := { name := "<init>", desc := "()V", sig := { parameters := [], returnType := none }, accessFlags := 2, code := none }
def k1c1 : Code := { maxStack := 6, maxLocals := 11, code := code, exceptionTable := #[], attributes := #[] }
def k1m1 : Method := { name := "law", desc := "(JJI)Z", sig := { parameters := [.long, .long, .int], returnType := some .boolean }, accessFlags := 9, code := some k1c1 }
def k1c2 : Code := { maxStack := 4, maxLocals := 3, code := method_3_code, exceptionTable := #[], attributes := #[] }
def k1m2 : Method := { name := "pch", desc := "(J)C", sig := { parameters := [.long], returnType := some .char }, accessFlags := 10, code := some k1c2 }
def k1c3 : Code := { maxStack := 4, maxLocals := 3, code := method_4_code, exceptionTable := #[], attributes := #[] }
def k1m3 : Method := { name := "nch", desc := "(J)C", sig := { parameters := [.long], returnType := some .char }, accessFlags := 10, code := some k1c3 }
def k1c4 : Code := { maxStack := 7, maxLocals := 2, code := method_5_code, exceptionTable := #[], attributes := #[] }
def k1m4 : Method := { name := "str", desc := "([CI)Ljava/lang/String;", sig := { parameters := [(.array .char), .int], returnType := some (.object "java/lang/String") }, accessFlags := 10, code := some k1c4 }
def k1c5 : Code := { maxStack := 6, maxLocals := 6, code := method_6_code, exceptionTable := #[], attributes := #[] }
def k1m5 : Method := { name := "m0", desc := "([CI[CII)Z", sig := { parameters := [(.array .char), .int, (.array .char), .int, .int], returnType := some .boolean }, accessFlags := 10, code := some k1c5 }
def k1c6 : Code := { maxStack := 6, maxLocals := 6, code := method_7_code, exceptionTable := #[], attributes := #[] }
def k1m6 : Method := { name := "m1", desc := "([CI[CII)Z", sig := { parameters := [(.array .char), .int, (.array .char), .int, .int], returnType := some .boolean }, accessFlags := 10, code := some k1c6 }
def k1c7 : Code := { maxStack := 6, maxLocals := 6, code := method_8_code, exceptionTable := #[], attributes := #[] }
def k1m7 : Method := { name := "m2", desc := "([CI[CII)Z", sig := { parameters := [(.array .char), .int, (.array .char), .int, .int], returnType := some .boolean }, accessFlags := 10, code := some k1c7 }
def k1c8 : Code := { maxStack := 3, maxLocals := 6, code := method_9_code, exceptionTable := #[], attributes := #[] }
def k1m8 : Method := { name := "m3", desc := "([CI[CII)Z", sig := { parameters := [(.array .char), .int, (.array .char), .int, .int], returnType := some .boolean }, accessFlags := 10, code := some k1c8 }
def k1c9 : Code := { maxStack := 2, maxLocals := 2, code := method_10_code, exceptionTable := #[], attributes := #[] }
def k1m9 : Method := { name := "m4", desc := "(II)Z", sig := { parameters := [.int, .int], returnType := some .boolean }, accessFlags := 10, code := some k1c9 }
/-- com/example/fathomsearch/fathomsearch/NamePatternMatchesPinLaw -/
def k1 : Class := { plain "com/example/fathomsearch/fathomsearch/NamePatternMatchesPinLaw" (some 0) with
  accessFlags := 49
  interfaces := #[]
  cf := some (fileOf pool1 8 #[] #[{ accessFlags := 2, nameIndex := 5, descriptorIndex := 6, attributes := #[] }, { accessFlags := 9, nameIndex := 54, descriptorIndex := 55, attributes := #[] }, { accessFlags := 10, nameIndex := 11, descriptorIndex := 12, attributes := #[] }, { accessFlags := 10, nameIndex := 15, descriptorIndex := 12, attributes := #[] }, { accessFlags := 10, nameIndex := 18, descriptorIndex := 19, attributes := #[] }, { accessFlags := 10, nameIndex := 28, descriptorIndex := 29, attributes := #[] }, { accessFlags := 10, nameIndex := 41, descriptorIndex := 29, attributes := #[] }, { accessFlags := 10, nameIndex := 44, descriptorIndex := 29, attributes := #[] }, { accessFlags := 10, nameIndex := 47, descriptorIndex := 29, attributes := #[] }, { accessFlags := 10, nameIndex := 50, descriptorIndex := 51, attributes := #[] }] 49 2 #[] #[])
  fields := #[]
  methods := #[k1m0, k1m1, k1m2, k1m3, k1m4, k1m5, k1m6, k1m7, k1m8, k1m9]
  instanceTypes := #[]
  staticTypes := #[]
  resolved := Array.replicate 61 none
  statics := none }

def pool2 : Array CpInfo := pool [(1, .class_ 2), (0, u "java/io/Serializable"), (0, .class_ 4), (0, u "java/lang/Object")] 2

/-- java/io/Serializable -/
def k2 : Class := { plain "java/io/Serializable" (some 0) with
  accessFlags := 1537
  interfaces := #[]
  cf := some (fileOf pool2 1 #[] #[] 1537 3 #[] #[])
  fields := #[]
  methods := #[]
  instanceTypes := #[]
  staticTypes := #[]
  resolved := Array.replicate 7 none
  statics := none }

def pool3 : Array CpInfo := pool [(1, .class_ 2), (0, u "java/lang/Comparable"), (0, .class_ 4), (0, u "java/lang/Object")] 7

/-- java/lang/Comparable -/
def k3 : Class := { plain "java/lang/Comparable" (some 0) with
  accessFlags := 1537
  interfaces := #[]
  cf := some (fileOf pool3 1 #[] #[] 1537 3 #[] #[])
  fields := #[]
  methods := #[]
  instanceTypes := #[]
  staticTypes := #[]
  resolved := Array.replicate 12 none
  statics := none }

def pool4 : Array CpInfo := pool [(2, .class_ 4), (1, u "java/lang/CharSequence"), (42, .class_ 48), (0, u "java/lang/CharSequence$1CodePointIterator"), (10, .class_ 60), (0, u "java/lang/CharSequence$1CharIterator"), (5, .class_ 67), (0, u "java/lang/Object")] 63

/-- java/lang/CharSequence -/
def k4 : Class := { plain "java/lang/CharSequence" (some 0) with
  accessFlags := 1537
  interfaces := #[]
  cf := some (fileOf pool4 2 #[.nestMembers #[47, 59]] #[] 1537 66 #[] #[])
  fields := #[]
  methods := #[]
  instanceTypes := #[]
  staticTypes := #[]
  resolved := Array.replicate 131 none
  statics := none }

def pool5 : Array CpInfo := pool [(1, .class_ 2), (0, u "java/lang/constant/Constable"), (0, .class_ 4), (0, u "java/lang/Object")] 6

/-- java/lang/constant/Constable -/
def k5 : Class := { plain "java/lang/constant/Constable" (some 0) with
  accessFlags := 1537
  interfaces := #[]
  cf := some (fileOf pool5 1 #[] #[] 1537 3 #[] #[])
  fields := #[]
  methods := #[]
  instanceTypes := #[]
  staticTypes := #[]
  resolved := Array.replicate 11 none
  statics := none }

def pool6 : Array CpInfo := pool [(1, .class_ 2), (0, u "java/lang/constant/ConstantDesc"), (0, .class_ 4), (0, u "java/lang/Object")] 32

/-- java/lang/constant/ConstantDesc -/
def k6 : Class := { plain "java/lang/constant/ConstantDesc" (some 0) with
  accessFlags := 1537
  interfaces := #[]
  cf := some (fileOf pool6 1 #[] #[] 1537 3 #[] #[])
  fields := #[]
  methods := #[]
  instanceTypes := #[]
  staticTypes := #[]
  resolved := Array.replicate 37 none
  statics := none }

def pool7 : Array CpInfo := pool [(1, .methodref 2 3), (0, .class_ 4), (0, .nameAndType 5 6), (0, u "java/lang/Object"), (0, u "<init>"), (0, u "()V"), (0, .string 8), (0, u ""), (0, .fieldref 10 11), (0, .class_ 12), (0, .nameAndType 13 14), (0, u "java/lang/String"), (0, u "value"), (0, u "[B"), (0, .fieldref 10 16), (0, .nameAndType 17 18), (0, u "coder"), (0, u "B"), (2, u "hash"), (0, u "I"), (2, u "hashIsZero"), (0, u "Z"), (0, .methodref 10 28), (0, .nameAndType 5 29), (0, u "([CIILjava/lang/Void;)V"), (8, .fieldref 10 39), (0, .nameAndType 40 26), (0, u "COMPACT_STRINGS"), (1, .class_ 44), (1, u "java/lang/StringUTF16"), (0, u "compress"), (1, .methodref 42 48), (0, .nameAndType 49 50), (0, u "coderFromArrayLen"), (0, u "([BI)B"), (56, .class_ 109), (1, u "java/lang/StringLatin1"), (32, u "()Z"), (34, .methodref 42 178), (0, .nameAndType 45 179), (0, u "([CII)[B"), (154, u "()I"), (0, .methodref 10 336), (0, .nameAndType 17 337), (0, u "()B"), (25, u "([BI)C"), (27, u "(II)V"), (35, u "(I)C"), (64, .methodref 10 493), (0, .nameAndType 494 142), (0, u "isLatin1"), (0, .methodref 107 496), (0, .nameAndType 497 363), (0, u "charAt"), (3, u "checkIndex"), (5, u "length"), (67, .class_ 576), (0, u "java/lang/CharSequence"), (22, u "CASE_INSENSITIVE_ORDER"), (0, u "Ljava/util/Comparator;"), (409, u "([C)V"), (42, .fieldref 1054 1055), (0, .class_ 1056), (0, .nameAndType 1057 1058), (0, u "jdk/internal/util/Preconditions"), (0, u "SIOOBE_FORMATTER"), (0, u "Ljava/util/function/BiFunction;"), (0, .methodref 1054 1060), (0, .nameAndType 501 1061), (0, u "(IILjava/util/function/BiFunction;)I"), (39, u "serialPersistentFields"), (0, u "[Ljava/io/ObjectStreamField;"), (0, .class_ 1104), (0, u "java/lang/String$CaseInsensitiveComparator"), (1, .class_ 1107), (0, u "java/io/Serializable"), (0, .class_ 1109), (0, u "java/lang/Comparable"), (0, .class_ 1111), (0, u "java/lang/constant/Constable"), (0, .class_ 1113), (0, u "java/lang/constant/ConstantDesc"), (2, u "serialVersionUID"), (0, u "J"), (3, u "REPL"), (0, u "C"), (2, u "LATIN1"), (1, u "UTF16")] 323

def k7m0 : Method := { name := "<init>", desc := "()V", sig := { parameters := [], returnType := none }, accessFlags := 1, code := none }
def k7c1 : Code := { maxStack := 5, maxLocals := 2, code := jdk_42_method_3_code, exceptionTable := #[], attributes := #[] }
def k7m1 : Method := { name := "<init>", desc := "([C)V", sig := { parameters := [(.array .char)], returnType := none }, accessFlags := 1, code := some k7c1 }
def k7c2 : Code := { maxStack := 2, maxLocals := 1, code := jdk_42_method_54_code, exceptionTable := #[], attributes := #[] }
def k7m2 : Method := { name := "length", desc := "()I", sig := { parameters := [], returnType := some .int }, accessFlags := 1, code := some k7c2 }
def k7c3 : Code := { maxStack := 2, maxLocals := 2, code := jdk_42_method_56_code, exceptionTable := #[], attributes := #[] }
def k7m3 : Method := { name := "charAt", desc := "(I)C", sig := { parameters := [.int], returnType := some .char }, accessFlags := 1, code := some k7c3 }
def k7c4 : Code := { maxStack := 4, maxLocals := 6, code := jdk_42_method_149_code, exceptionTable := #[], attributes := #[] }
def k7m4 : Method := { name := "<init>", desc := "([CIILjava/lang/Void;)V", sig := { parameters := [(.array .char), .int, .int, (.object "java/lang/Void")], returnType := none }, accessFlags := 2, code := some k7c4 }
def k7c5 : Code := { maxStack := 1, maxLocals := 1, code := jdk_42_method_152_code, exceptionTable := #[], attributes := #[] }
def k7m5 : Method := { name := "coder", desc := "()B", sig := { parameters := [], returnType := some .byte }, accessFlags := 0, code := some k7c5 }
def k7c6 : Code := { maxStack := 1, maxLocals := 1, code := jdk_42_method_154_code, exceptionTable := #[], attributes := #[] }
def k7m6 : Method := { name := "isLatin1", desc := "()Z", sig := { parameters := [], returnType := some .boolean }, accessFlags := 0, code := some k7c6 }
def k7c7 : Code := { maxStack := 3, maxLocals := 2, code := jdk_42_method_155_code, exceptionTable := #[], attributes := #[] }
def k7m7 : Method := { name := "checkIndex", desc := "(II)V", sig := { parameters := [.int, .int], returnType := none }, accessFlags := 8, code := some k7c7 }
/-- java/lang/String -/
def k7 : Class := { plain "java/lang/String" (some 0) with
  accessFlags := 49
  interfaces := #[2, 3, 4, 5, 6]
  cf := some (fileOf pool7 10 #[.nestMembers #[1103]] #[{ accessFlags := 1, nameIndex := 5, descriptorIndex := 6, attributes := #[] }, { accessFlags := 1, nameIndex := 5, descriptorIndex := 1010, attributes := #[] }, { accessFlags := 1, nameIndex := 507, descriptorIndex := 334, attributes := #[] }, { accessFlags := 1, nameIndex := 497, descriptorIndex := 427, attributes := #[] }, { accessFlags := 2, nameIndex := 5, descriptorIndex := 29, attributes := #[] }, { accessFlags := 0, nameIndex := 17, descriptorIndex := 337, attributes := #[] }, { accessFlags := 0, nameIndex := 494, descriptorIndex := 142, attributes := #[] }, { accessFlags := 8, nameIndex := 501, descriptorIndex := 391, attributes := #[] }] 49 2 #[1106, 1108, 575, 1110, 1112] #[{ accessFlags := 18, nameIndex := 13, descriptorIndex := 14, attributes := #[] }, { accessFlags := 18, nameIndex := 17, descriptorIndex := 18, attributes := #[] }, { accessFlags := 2, nameIndex := 21, descriptorIndex := 22, attributes := #[] }, { accessFlags := 2, nameIndex := 25, descriptorIndex := 26, attributes := #[] }, { accessFlags := 26, nameIndex := 1116, descriptorIndex := 1117, attributes := #[] }, { accessFlags := 24, nameIndex := 40, descriptorIndex := 26, attributes := #[] }, { accessFlags := 26, nameIndex := 1101, descriptorIndex := 1102, attributes := #[] }, { accessFlags := 26, nameIndex := 1121, descriptorIndex := 1122, attributes := #[] }, { accessFlags := 25, nameIndex := 599, descriptorIndex := 600, attributes := #[] }, { accessFlags := 24, nameIndex := 1125, descriptorIndex := 18, attributes := #[] }, { accessFlags := 24, nameIndex := 1127, descriptorIndex := 18, attributes := #[] }])
  fields := #[{ name := "value", type := (.array .byte), accessFlags := 18, slot := 0, constantValue := 0 }, { name := "coder", type := .byte, accessFlags := 18, slot := 1, constantValue := 0 }, { name := "hash", type := .int, accessFlags := 2, slot := 2, constantValue := 0 }, { name := "hashIsZero", type := .boolean, accessFlags := 2, slot := 3, constantValue := 0 }, { name := "serialVersionUID", type := .long, accessFlags := 26, slot := 0, constantValue := 0 }, { name := "COMPACT_STRINGS", type := .boolean, accessFlags := 24, slot := 1, constantValue := 0 }, { name := "serialPersistentFields", type := (.array (.object "java/io/ObjectStreamField")), accessFlags := 26, slot := 2, constantValue := 0 }, { name := "REPL", type := .char, accessFlags := 26, slot := 3, constantValue := 0 }, { name := "CASE_INSENSITIVE_ORDER", type := (.object "java/util/Comparator"), accessFlags := 25, slot := 4, constantValue := 0 }, { name := "LATIN1", type := .byte, accessFlags := 24, slot := 5, constantValue := 0 }, { name := "UTF16", type := .byte, accessFlags := 24, slot := 6, constantValue := 0 }]
  methods := #[k7m0, k7m1, k7m2, k7m3, k7m4, k7m5, k7m6, k7m7]
  instanceTypes := #[(.array .byte), .byte, .int, .boolean]
  staticTypes := #[.long, .boolean, (.array (.object "java/io/ObjectStreamField")), .char, (.object "java/util/Comparator"), .byte, .byte]
  resolved := Array.replicate 1451 none
  statics := some 0 }

def pool8 : Array CpInfo := pool [(2, .class_ 4), (1, u "java/lang/Object"), (0, u "<init>"), (0, u "()V"), (0, .methodref 8 9), (0, .class_ 10), (0, .nameAndType 11 12), (0, u "java/lang/String"), (0, u "length"), (0, u "()I"), (0, .methodref 8 14), (0, .nameAndType 15 16), (0, u "charAt"), (0, u "(I)C"), (12, .class_ 30), (0, u "com/example/fathomsearch/fathomsearch/NamePattern"), (2, u "matches"), (0, u "(Ljava/lang/String;Ljava/lang/String;)Z")] 4

def k8m0 : Method := { name := "<init>", desc := "()V", sig := { parameters := [], returnType := none }, accessFlags := 2, code := none }
def k8c1 : Code := { maxStack := 3, maxLocals := 6, code := prog_6_method_2_code, exceptionTable := #[], attributes := #[] }
def k8m1 : Method := { name := "matches", desc := "(Ljava/lang/String;Ljava/lang/String;)Z", sig := { parameters := [(.object "java/lang/String"), (.object "java/lang/String")], returnType := some .boolean }, accessFlags := 8, code := some k8c1 }
/-- com/example/fathomsearch/fathomsearch/NamePattern -/
def k8 : Class := { plain "com/example/fathomsearch/fathomsearch/NamePattern" (some 0) with
  accessFlags := 48
  interfaces := #[]
  cf := some (fileOf pool8 29 #[] #[{ accessFlags := 2, nameIndex := 5, descriptorIndex := 6, attributes := #[] }, { accessFlags := 8, nameIndex := 33, descriptorIndex := 34, attributes := #[] }] 48 2 #[] #[])
  fields := #[]
  methods := #[k8m0, k8m1]
  instanceTypes := #[]
  staticTypes := #[]
  resolved := Array.replicate 39 none
  statics := none }

def pool9 : Array CpInfo := pool [(6, .class_ 8), (1, u "java/lang/Object"), (0, u "<init>"), (0, u "()V"), (1, .class_ 14), (1, u "java/lang/StringUTF16"), (31, u "$assertionsDisabled"), (0, u "Z"), (13, u "HI_BYTE_SHIFT"), (0, u "I"), (2, u "LO_BYTE_SHIFT"), (49, .methodref 12 116), (0, .nameAndType 117 118), (0, u "compress"), (0, u "([CI[BII)I"), (3, u "([CII)[B"), (138, u "coderFromArrayLen"), (0, u "([BI)B"), (106, .class_ 371), (1, u "java/lang/StringUTF16$LinesSpliterator"), (58, u "MAX_LENGTH"), (196, .class_ 628), (0, u "java/lang/StringUTF16$CodePointsSpliterator"), (0, .class_ 630), (0, u "java/lang/StringUTF16$CharsSpliterator")] 4

def k9m0 : Method := { name := "<init>", desc := "()V", sig := { parameters := [], returnType := none }, accessFlags := 0, code := none }
def k9c1 : Code := { maxStack := 2, maxLocals := 2, code := jdk_52_method_15_code, exceptionTable := #[], attributes := #[] }
def k9m1 : Method := { name := "coderFromArrayLen", desc := "([BI)B", sig := { parameters := [(.array .byte), .int], returnType := some .byte }, accessFlags := 8, code := some k9c1 }
def k9c2 : Code := { maxStack := 5, maxLocals := 6, code := jdk_52_method_16_code, exceptionTable := #[], attributes := #[] }
def k9m2 : Method := { name := "compress", desc := "([CII)[B", sig := { parameters := [(.array .char), .int, .int], returnType := some (.array .byte) }, accessFlags := 9, code := some k9c2 }
def k9c3 : Code := { maxStack := 3, maxLocals := 7, code := jdk_52_method_21_code, exceptionTable := #[], attributes := #[] }
def k9m3 : Method := { name := "compress", desc := "([CI[BII)I", sig := { parameters := [(.array .char), .int, (.array .byte), .int, .int], returnType := some .int }, accessFlags := 9, code := some k9c3 }
/-- java/lang/StringUTF16 -/
def k9 : Class := { plain "java/lang/StringUTF16" (some 0) with
  accessFlags := 48
  interfaces := #[]
  cf := some (fileOf pool9 12 #[.nestMembers #[627, 629, 369]] #[{ accessFlags := 0, nameIndex := 9, descriptorIndex := 10, attributes := #[] }, { accessFlags := 8, nameIndex := 261, descriptorIndex := 262, attributes := #[] }, { accessFlags := 9, nameIndex := 117, descriptorIndex := 122, attributes := #[] }, { accessFlags := 9, nameIndex := 117, descriptorIndex := 118, attributes := #[] }] 48 6 #[] #[{ accessFlags := 26, nameIndex := 61, descriptorIndex := 62, attributes := #[] }, { accessFlags := 26, nameIndex := 65, descriptorIndex := 62, attributes := #[] }, { accessFlags := 24, nameIndex := 430, descriptorIndex := 62, attributes := #[] }, { accessFlags := 4120, nameIndex := 46, descriptorIndex := 47, attributes := #[] }])
  fields := #[{ name := "HI_BYTE_SHIFT", type := .int, accessFlags := 26, slot := 0, constantValue := 0 }, { name := "LO_BYTE_SHIFT", type := .int, accessFlags := 26, slot := 1, constantValue := 0 }, { name := "MAX_LENGTH", type := .int, accessFlags := 24, slot := 2, constantValue := 0 }, { name := "$assertionsDisabled", type := .boolean, accessFlags := 4120, slot := 3, constantValue := 0 }]
  methods := #[k9m0, k9m1, k9m2, k9m3]
  instanceTypes := #[]
  staticTypes := #[.int, .int, .int, .boolean]
  resolved := Array.replicate 635 none
  statics := none }

def pool10 : Array CpInfo := pool [(1, .class_ 2), (0, u "java/lang/String"), (1, .class_ 6), (1, u "java/lang/Object"), (0, u "<init>"), (0, u "()V"), (0, .methodref 1 10), (0, .nameAndType 11 12), (0, u "checkIndex"), (0, u "(II)V"), (1, .class_ 16), (1, u "java/lang/StringLatin1"), (36, u "([BI)C"), (67, u "$assertionsDisabled"), (0, u "Z"), (98, .class_ 223), (1, u "java/lang/StringLatin1$LinesSpliterator"), (28, u "charAt"), (137, .class_ 391), (0, u "java/lang/StringLatin1$CharsSpliterator")] 3

def k10m0 : Method := { name := "<init>", desc := "()V", sig := { parameters := [], returnType := none }, accessFlags := 0, code := none }
def k10c1 : Code := { maxStack := 2, maxLocals := 2, code := jdk_43_method_2_code, exceptionTable := #[], attributes := #[] }
def k10m1 : Method := { name := "charAt", desc := "([BI)C", sig := { parameters := [(.array .byte), .int], returnType := some .char }, accessFlags := 9, code := some k10c1 }
/-- java/lang/StringLatin1 -/
def k10 : Class := { plain "java/lang/StringLatin1" (some 0) with
  accessFlags := 48
  interfaces := #[]
  cf := some (fileOf pool10 14 #[.nestMembers #[390, 221]] #[{ accessFlags := 0, nameIndex := 7, descriptorIndex := 8, attributes := #[] }, { accessFlags := 9, nameIndex := 252, descriptorIndex := 53, attributes := #[] }] 48 4 #[] #[{ accessFlags := 4120, nameIndex := 121, descriptorIndex := 122, attributes := #[] }])
  fields := #[{ name := "$assertionsDisabled", type := .boolean, accessFlags := 4120, slot := 0, constantValue := 0 }]
  methods := #[k10m0, k10m1]
  instanceTypes := #[]
  staticTypes := #[.boolean]
  resolved := Array.replicate 395 none
  statics := none }

def pool11 : Array CpInfo := pool [(2, .class_ 4), (1, u "java/lang/Object"), (0, u "<init>"), (0, u "()V"), (17, .class_ 26), (1, u "jdk/internal/util/Preconditions"), (6, u "checkIndex"), (21, .class_ 56), (0, u "jdk/internal/util/Preconditions$4"), (57, .class_ 115), (0, u "jdk/internal/util/Preconditions$1"), (7, u "SIOOBE_FORMATTER"), (0, u "Ljava/util/function/BiFunction;"), (0, .class_ 126), (0, u "jdk/internal/util/Preconditions$2"), (3, u "AIOOBE_FORMATTER"), (0, .class_ 132), (0, u "jdk/internal/util/Preconditions$3"), (3, u "IOOBE_FORMATTER"), (41, u "(IILjava/util/function/BiFunction;)I")] 15

def k11m0 : Method := { name := "<init>", desc := "()V", sig := { parameters := [], returnType := none }, accessFlags := 1, code := none }
def k11c1 : Code := { maxStack := 3, maxLocals := 3, code := jdk_41_method_11_code, exceptionTable := #[], attributes := #[] }
def k11m1 : Method := { name := "checkIndex", desc := "(IILjava/util/function/BiFunction;)I", sig := { parameters := [.int, .int, (.object "java/util/function/BiFunction")], returnType := some .int }, accessFlags := 9, code := some k11c1 }
/-- jdk/internal/util/Preconditions -/
def k11 : Class := { plain "jdk/internal/util/Preconditions" (some 0) with
  accessFlags := 33
  interfaces := #[]
  cf := some (fileOf pool11 24 #[.nestMembers #[55, 131, 125, 114]] #[{ accessFlags := 1, nameIndex := 5, descriptorIndex := 6, attributes := #[] }, { accessFlags := 9, nameIndex := 33, descriptorIndex := 178, attributes := #[] }] 33 2 #[] #[{ accessFlags := 25, nameIndex := 123, descriptorIndex := 124, attributes := #[] }, { accessFlags := 25, nameIndex := 130, descriptorIndex := 124, attributes := #[] }, { accessFlags := 25, nameIndex := 136, descriptorIndex := 124, attributes := #[] }])
  fields := #[{ name := "SIOOBE_FORMATTER", type := (.object "java/util/function/BiFunction"), accessFlags := 25, slot := 0, constantValue := 0 }, { name := "AIOOBE_FORMATTER", type := (.object "java/util/function/BiFunction"), accessFlags := 25, slot := 1, constantValue := 0 }, { name := "IOOBE_FORMATTER", type := (.object "java/util/function/BiFunction"), accessFlags := 25, slot := 2, constantValue := 0 }]
  methods := #[k11m0, k11m1]
  instanceTypes := #[]
  staticTypes := #[(.object "java/util/function/BiFunction"), (.object "java/util/function/BiFunction"), (.object "java/util/function/BiFunction")]
  resolved := Array.replicate 194 none
  statics := some 1 }

def pool12 : Array CpInfo := pool [(9, u "<init>"), (6, .class_ 18), (1, u "java/lang/Object"), (0, u "()V"), (1, .class_ 23), (1, u "jdk/internal/util/ArraysSupport"), (0, u "LOG2_ARRAY_LONG_INDEX_SCALE"), (0, u "I"), (2, u "U"), (0, u "Ljdk/internal/misc/Unsafe;"), (8, u "BIG_ENDIAN"), (0, u "Z"), (8, u "LOG2_BYTE_BIT_SIZE"), (4, u "LOG2_ARRAY_INT_INDEX_SCALE"), (54, u "JLA"), (0, u "Ljdk/internal/access/JavaLangAccess;"), (11, u "LOG2_ARRAY_BOOLEAN_INDEX_SCALE"), (9, u "LOG2_ARRAY_BYTE_INDEX_SCALE"), (5, u "LOG2_ARRAY_CHAR_INDEX_SCALE"), (5, u "LOG2_ARRAY_SHORT_INDEX_SCALE"), (18, u "LOG2_ARRAY_FLOAT_INDEX_SCALE"), (24, u "LOG2_ARRAY_DOUBLE_INDEX_SCALE"), (89, u "T_BOOLEAN"), (2, u "T_CHAR"), (1, u "T_FLOAT"), (1, u "T_DOUBLE"), (1, u "T_BYTE"), (1, u "T_SHORT"), (1, u "T_INT"), (1, u "T_LONG"), (1, u "SOFT_MAX_ARRAY_LENGTH")] 83

def k12m0 : Method := { name := "<init>", desc := "()V", sig := { parameters := [], returnType := none }, accessFlags := 2, code := none }
/-- jdk/internal/util/ArraysSupport -/
def k12 : Class := { plain "jdk/internal/util/ArraysSupport" (some 0) with
  accessFlags := 33
  interfaces := #[]
  cf := some (fileOf pool12 21 #[] #[{ accessFlags := 2, nameIndex := 9, descriptorIndex := 19, attributes := #[] }] 33 16 #[] #[{ accessFlags := 24, nameIndex := 28, descriptorIndex := 29, attributes := #[] }, { accessFlags := 26, nameIndex := 38, descriptorIndex := 39, attributes := #[] }, { accessFlags := 25, nameIndex := 121, descriptorIndex := 25, attributes := #[] }, { accessFlags := 25, nameIndex := 131, descriptorIndex := 25, attributes := #[] }, { accessFlags := 25, nameIndex := 137, descriptorIndex := 25, attributes := #[] }, { accessFlags := 25, nameIndex := 143, descriptorIndex := 25, attributes := #[] }, { accessFlags := 25, nameIndex := 53, descriptorIndex := 25, attributes := #[] }, { accessFlags := 25, nameIndex := 24, descriptorIndex := 25, attributes := #[] }, { accessFlags := 25, nameIndex := 162, descriptorIndex := 25, attributes := #[] }, { accessFlags := 25, nameIndex := 187, descriptorIndex := 25, attributes := #[] }, { accessFlags := 26, nameIndex := 48, descriptorIndex := 25, attributes := #[] }, { accessFlags := 25, nameIndex := 277, descriptorIndex := 25, attributes := #[] }, { accessFlags := 25, nameIndex := 280, descriptorIndex := 25, attributes := #[] }, { accessFlags := 25, nameIndex := 282, descriptorIndex := 25, attributes := #[] }, { accessFlags := 25, nameIndex := 284, descriptorIndex := 25, attributes := #[] }, { accessFlags := 25, nameIndex := 286, descriptorIndex := 25, attributes := #[] }, { accessFlags := 25, nameIndex := 288, descriptorIndex := 25, attributes := #[] }, { accessFlags := 25, nameIndex := 290, descriptorIndex := 25, attributes := #[] }, { accessFlags := 25, nameIndex := 292, descriptorIndex := 25, attributes := #[] }, { accessFlags := 26, nameIndex := 108, descriptorIndex := 109, attributes := #[] }, { accessFlags := 25, nameIndex := 294, descriptorIndex := 25, attributes := #[] }])
  fields := #[{ name := "U", type := (.object "jdk/internal/misc/Unsafe"), accessFlags := 24, slot := 0, constantValue := 0 }, { name := "BIG_ENDIAN", type := .boolean, accessFlags := 26, slot := 1, constantValue := 0 }, { name := "LOG2_ARRAY_BOOLEAN_INDEX_SCALE", type := .int, accessFlags := 25, slot := 2, constantValue := 0 }, { name := "LOG2_ARRAY_BYTE_INDEX_SCALE", type := .int, accessFlags := 25, slot := 3, constantValue := 0 }, { name := "LOG2_ARRAY_CHAR_INDEX_SCALE", type := .int, accessFlags := 25, slot := 4, constantValue := 0 }, { name := "LOG2_ARRAY_SHORT_INDEX_SCALE", type := .int, accessFlags := 25, slot := 5, constantValue := 0 }, { name := "LOG2_ARRAY_INT_INDEX_SCALE", type := .int, accessFlags := 25, slot := 6, constantValue := 0 }, { name := "LOG2_ARRAY_LONG_INDEX_SCALE", type := .int, accessFlags := 25, slot := 7, constantValue := 0 }, { name := "LOG2_ARRAY_FLOAT_INDEX_SCALE", type := .int, accessFlags := 25, slot := 8, constantValue := 0 }, { name := "LOG2_ARRAY_DOUBLE_INDEX_SCALE", type := .int, accessFlags := 25, slot := 9, constantValue := 0 }, { name := "LOG2_BYTE_BIT_SIZE", type := .int, accessFlags := 26, slot := 10, constantValue := 0 }, { name := "T_BOOLEAN", type := .int, accessFlags := 25, slot := 11, constantValue := 0 }, { name := "T_CHAR", type := .int, accessFlags := 25, slot := 12, constantValue := 0 }, { name := "T_FLOAT", type := .int, accessFlags := 25, slot := 13, constantValue := 0 }, { name := "T_DOUBLE", type := .int, accessFlags := 25, slot := 14, constantValue := 0 }, { name := "T_BYTE", type := .int, accessFlags := 25, slot := 15, constantValue := 0 }, { name := "T_SHORT", type := .int, accessFlags := 25, slot := 16, constantValue := 0 }, { name := "T_INT", type := .int, accessFlags := 25, slot := 17, constantValue := 0 }, { name := "T_LONG", type := .int, accessFlags := 25, slot := 18, constantValue := 0 }, { name := "JLA", type := (.object "jdk/internal/access/JavaLangAccess"), accessFlags := 26, slot := 19, constantValue := 0 }, { name := "SOFT_MAX_ARRAY_LENGTH", type := .int, accessFlags := 25, slot := 20, constantValue := 0 }]
  methods := #[k12m0]
  instanceTypes := #[]
  staticTypes := #[(.object "jdk/internal/misc/Unsafe"), .boolean, .int, .int, .int, .int, .int, .int, .int, .int, .int, .int, .int, .int, .int, .int, .int, .int, .int, (.object "jdk/internal/access/JavaLangAccess"), .int]
  resolved := Array.replicate 378 none
  statics := none }

def pool13 : Array CpInfo := pool [(1, u "java/lang/Cloneable"), (0, .class_ 1), (0, u "java/lang/Object"), (0, .class_ 3)] 3

/-- java/lang/Cloneable -/
def k13 : Class := { plain "java/lang/Cloneable" (some 0) with
  accessFlags := 1537
  interfaces := #[]
  cf := some (fileOf pool13 2 #[] #[] 1537 4 #[] #[])
  fields := #[]
  methods := #[]
  instanceTypes := #[]
  staticTypes := #[]
  resolved := Array.replicate 8 none
  statics := none }

/-- the primitive byte -/
def k14 : Class := { plain "byte" none with kind := .primitive 'B', accessFlags := 0x411 }
/-- [B -/
def k15 : Class := { plain "[B" (some 0) with kind := .array 14 .byte, interfaces := #[13, 2], accessFlags := 1041 }

/-- the primitive char -/
def k16 : Class := { plain "char" none with kind := .primitive 'C', accessFlags := 0x411 }
/-- [C -/
def k17 : Class := { plain "[C" (some 0) with kind := .array 16 .char, interfaces := #[13, 2], accessFlags := 1041 }

/-- the primitive int -/
def k18 : Class := { plain "int" none with kind := .primitive 'I', accessFlags := 0x411 }
/-- [I -/
def k19 : Class := { plain "[I" (some 0) with kind := .array 18 .int, interfaces := #[13, 2], accessFlags := 1041 }

def heap : Heap := #[{ cls := 7, slots := #[.long 0, .int 1, .null, .int 0, .null, .int 0, .int 0], vm := .statics 7 },
  { cls := 11, slots := #[.null, .null, .null], vm := .statics 11 }]
def classes : Array Class := #[k0, k1, k2, k3, k4, k5, k6, k7, k8, k9, k10, k11, k12, k13, k14, k15, k16, k17, k18, k19]
def interned : List (Array UInt16 × Addr) := []
def slotsUsed : Nat := 10
def theMethod : MethodId := ⟨1, 1⟩
def args0 : Array Value := #[.long 5, .long 6, .int 10]
def aboutOver (below : List Frame) : State where
  vm := { classes := classes, interned := interned.toArray }
  heap := heap
  slotsUsed := slotsUsed
  threads := #[{ frames := .invoking theMethod args0 :: below }]
def below0 : List Frame := [.native { method := ⟨0, 0⟩, args := #[] }]
def about1 : State := aboutOver below0
def p0 : Program := .bare "" "" ""
def e0 : Env := launch0.env 0 0 0
theorem w_frames : about1.frames = Frame.invoking theMethod args0 :: below0 := rfl
set_option maxRecDepth 65536 in
theorem w_args : argsFit about1.vm theMethod args0 = true := by decide +kernel
set_option maxRecDepth 65536 in
theorem w_heap : heapFits about1 = true := by decide +kernel
set_option maxRecDepth 65536 in
theorem w_runnable : about1.curStatus? = some .runnable := by decide +kernel
set_option maxRecDepth 65536 in
theorem w_alone : about1.alone = true := by decide +kernel
set_option maxRecDepth 65536 in
theorem w_named : about1.methodNamed? x = some theMethod := by decide +kernel
set_option maxRecDepth 65536 in
theorem w_hears : about1.hears theMethod below0 = true := by decide +kernel
set_option maxRecDepth 65536 in
theorem w_ripe : about1.ripe theMethod args0 below0 = true := by decide +kernel
theorem w_running : about1.status = .running := rfl
set_option maxRecDepth 65536 in
theorem w_room : about1.hasRoom e0.platform room_1 = true :=
  launch0.hasRoom_least _ room_1 (by decide +kernel) (by decide +kernel) (by decide +kernel) (by decide +kernel) (by decide +kernel) (by decide +kernel)
theorem allAtoms_all (ts : List Jvm.Cond) (a : Array Jvm.Value) (st : Jvm.State) : (allAtoms ts).before a st = ts.all (fun c => c.before a st) := by
  induction ts with
  | nil => rfl
  | cons c t ih =>
    show (Jvm.Cond.and c (allAtoms t)).before a st = _
    rw [Jvm.Cond.before_and, ih, List.all_cons]
def words1 : List Jvm.Cond := Jvm.Cond.code x code maxLocals ret :: tables_1
/-- a 'code' word, met by the world's own term for the bytes: nothing is compared byte by byte -/
theorem code_word {y : MethodName} {bytes : ByteArray} {mx : Nat} {rt : Option FieldType} {a : Array Value} {s : State} {m : MethodId} {meth : Method} {c : Code} (h1 : s.methodNamed? y = some m) (h2 : s.vm.method? m = some meth) (h3 : meth.code = some c) (h4 : c.code = bytes)
    (h5 : (c.maxLocals == mx && c.exceptionTable.isEmpty && decide (c.maxStack ≤ mostOperands) && decide (meth.sig.returnType = rt) && !meth.locks && decide (parseMethodDescriptor y.desc = some meth.sig)) = true) : (Jvm.Cond.code y bytes mx rt).before a s = true := by
  simp only [Bool.and_eq_true, beq_iff_eq, Bool.not_eq_true', decide_eq_true_eq] at h5
  obtain ⟨⟨⟨⟨⟨g1, g2⟩, g3⟩, g4⟩, g5⟩, g6⟩ := h5
  simp [Cond.before, Cond.holds, Cond.value, h1, h2, h3, h4, g1, g2, g3, g4, g5, g6]
def isCode : Jvm.Cond → Bool
  | .code _ _ _ _ => true
  | _ => false
theorem all_split {L : List Jvm.Cond} {P : Jvm.Cond → Bool} (h1 : L.all (fun c => isCode c || P c) = true) (h2 : ∀ c ∈ L.filter isCode, P c = true) : L.all P = true := by
  refine List.all_eq_true.mpr fun c hc => ?_
  have h := List.all_eq_true.mp h1 c hc
  rcases Bool.eq_false_or_eq_true (isCode c) with hi | hi
  · exact h2 c (List.mem_filter.mpr ⟨hc, hi⟩)
  · simpa [hi] using h
set_option maxRecDepth 65536 in
theorem w_c0 : (Jvm.Cond.code x code maxLocals ret).before args0 about1 = true := code_word (m := ⟨1, 1⟩) (meth := k1m1) (c := k1c1) (by decide +kernel) rfl rfl rfl (by decide +kernel)
set_option maxRecDepth 65536 in
theorem w_c1 : (Jvm.Cond.code ({ cls := "com/example/fathomsearch/fathomsearch/NamePatternMatchesPinLaw", name := "pch", desc := "(J)C" } : Jvm.MethodName) method_3_code (3 : Nat) (Option.some Jvm.ClassFile.FieldType.char)).before args0 about1 = true := code_word (m := ⟨1, 2⟩) (meth := k1m2) (c := k1c2) (by decide +kernel) rfl rfl rfl (by decide +kernel)
set_option maxRecDepth 65536 in
theorem w_c2 : (Jvm.Cond.code ({ cls := "com/example/fathomsearch/fathomsearch/NamePatternMatchesPinLaw", name := "nch", desc := "(J)C" } : Jvm.MethodName) method_4_code (3 : Nat) (Option.some Jvm.ClassFile.FieldType.char)).before args0 about1 = true := code_word (m := ⟨1, 3⟩) (meth := k1m3) (c := k1c3) (by decide +kernel) rfl rfl rfl (by decide +kernel)
set_option maxRecDepth 65536 in
theorem w_c3 : (Jvm.Cond.code ({ cls := "com/example/fathomsearch/fathomsearch/NamePatternMatchesPinLaw", name := "str", desc := "([CI)Ljava/lang/String;" } : Jvm.MethodName) method_5_code (2 : Nat) (Option.some (Jvm.ClassFile.FieldType.object "java/lang/String"))).before args0 about1 = true := code_word (m := ⟨1, 4⟩) (meth := k1m4) (c := k1c4) (by decide +kernel) rfl rfl rfl (by decide +kernel)
set_option maxRecDepth 65536 in
theorem w_c4 : (Jvm.Cond.code ({ cls := "java/lang/String", name := "<init>", desc := "([C)V" } : Jvm.MethodName) jdk_42_method_3_code (2 : Nat) (Option.none : Option Jvm.ClassFile.FieldType)).before args0 about1 = true := code_word (m := ⟨7, 1⟩) (meth := k7m1) (c := k7c1) (by decide +kernel) rfl rfl rfl (by decide +kernel)
set_option maxRecDepth 65536 in
theorem w_c5 : (Jvm.Cond.code ({ cls := "java/lang/String", name := "<init>", desc := "([CIILjava/lang/Void;)V" } : Jvm.MethodName) jdk_42_method_149_code (6 : Nat) (Option.none : Option Jvm.ClassFile.FieldType)).before args0 about1 = true := code_word (m := ⟨7, 4⟩) (meth := k7m4) (c := k7c4) (by decide +kernel) rfl rfl rfl (by decide +kernel)
set_option maxRecDepth 65536 in
theorem w_c6 : (Jvm.Cond.code ({ cls := "java/lang/Object", name := "<init>", desc := "()V" } : Jvm.MethodName) object_method_1_code (1 : Nat) (Option.none : Option Jvm.ClassFile.FieldType)).before args0 about1 = true := code_word (m := ⟨0, 0⟩) (meth := k0m0) (c := k0c0) (by decide +kernel) rfl rfl rfl (by decide +kernel)
set_option maxRecDepth 65536 in
theorem w_c7 : (Jvm.Cond.code ({ cls := "com/example/fathomsearch/fathomsearch/NamePattern", name := "matches", desc := "(Ljava/lang/String;Ljava/lang/String;)Z" } : Jvm.MethodName) prog_6_method_2_code (6 : Nat) (Option.some Jvm.ClassFile.FieldType.boolean)).before args0 about1 = true := code_word (m := ⟨8, 1⟩) (meth := k8m1) (c := k8c1) (by decide +kernel) rfl rfl rfl (by decide +kernel)
set_option maxRecDepth 65536 in
theorem w_c8 : (Jvm.Cond.code ({ cls := "java/lang/String", name := "length", desc := "()I" } : Jvm.MethodName) jdk_42_method_54_code (1 : Nat) (Option.some Jvm.ClassFile.FieldType.int)).before args0 about1 = true := code_word (m := ⟨7, 2⟩) (meth := k7m2) (c := k7c2) (by decide +kernel) rfl rfl rfl (by decide +kernel)
set_option maxRecDepth 65536 in
theorem w_c9 : (Jvm.Cond.code ({ cls := "java/lang/String", name := "coder", desc := "()B" } : Jvm.MethodName) jdk_42_method_152_code (1 : Nat) (Option.some Jvm.ClassFile.FieldType.byte)).before args0 about1 = true := code_word (m := ⟨7, 5⟩) (meth := k7m5) (c := k7c5) (by decide +kernel) rfl rfl rfl (by decide +kernel)
set_option maxRecDepth 65536 in
theorem w_c10 : (Jvm.Cond.code ({ cls := "com/example/fathomsearch/fathomsearch/NamePatternMatchesPinLaw", name := "m0", desc := "([CI[CII)Z" } : Jvm.MethodName) method_6_code (6 : Nat) (Option.some Jvm.ClassFile.FieldType.boolean)).before args0 about1 = true := code_word (m := ⟨1, 5⟩) (meth := k1m5) (c := k1c5) (by decide +kernel) rfl rfl rfl (by decide +kernel)
set_option maxRecDepth 65536 in
theorem w_c11 : (Jvm.Cond.code ({ cls := "java/lang/StringUTF16", name := "compress", desc := "([CII)[B" } : Jvm.MethodName) jdk_52_method_16_code (6 : Nat) (Option.some (Jvm.ClassFile.FieldType.array Jvm.ClassFile.FieldType.byte))).before args0 about1 = true := code_word (m := ⟨9, 2⟩) (meth := k9m2) (c := k9c2) (by decide +kernel) rfl rfl rfl (by decide +kernel)
set_option maxRecDepth 65536 in
theorem w_c12 : (Jvm.Cond.code ({ cls := "java/lang/StringUTF16", name := "compress", desc := "([CI[BII)I" } : Jvm.MethodName) jdk_52_method_21_code (7 : Nat) (Option.some Jvm.ClassFile.FieldType.int)).before args0 about1 = true := code_word (m := ⟨9, 3⟩) (meth := k9m3) (c := k9c3) (by decide +kernel) rfl rfl rfl (by decide +kernel)
set_option maxRecDepth 65536 in
theorem w_c13 : (Jvm.Cond.code ({ cls := "java/lang/StringUTF16", name := "coderFromArrayLen", desc := "([BI)B" } : Jvm.MethodName) jdk_52_method_15_code (2 : Nat) (Option.some Jvm.ClassFile.FieldType.byte)).before args0 about1 = true := code_word (m := ⟨9, 1⟩) (meth := k9m1) (c := k9c1) (by decide +kernel) rfl rfl rfl (by decide +kernel)
set_option maxRecDepth 65536 in
theorem w_c14 : (Jvm.Cond.code ({ cls := "java/lang/String", name := "charAt", desc := "(I)C" } : Jvm.MethodName) jdk_42_method_56_code (2 : Nat) (Option.some Jvm.ClassFile.FieldType.char)).before args0 about1 = true := code_word (m := ⟨7, 3⟩) (meth := k7m3) (c := k7c3) (by decide +kernel) rfl rfl rfl (by decide +kernel)
set_option maxRecDepth 65536 in
theorem w_c15 : (Jvm.Cond.code ({ cls := "java/lang/String", name := "isLatin1", desc := "()Z" } : Jvm.MethodName) jdk_42_method_154_code (1 : Nat) (Option.some Jvm.ClassFile.FieldType.boolean)).before args0 about1 = true := code_word (m := ⟨7, 6⟩) (meth := k7m6) (c := k7c6) (by decide +kernel) rfl rfl rfl (by decide +kernel)
set_option maxRecDepth 65536 in
theorem w_c16 : (Jvm.Cond.code ({ cls := "java/lang/StringLatin1", name := "charAt", desc := "([BI)C" } : Jvm.MethodName) jdk_43_method_2_code (2 : Nat) (Option.some Jvm.ClassFile.FieldType.char)).before args0 about1 = true := code_word (m := ⟨10, 1⟩) (meth := k10m1) (c := k10c1) (by decide +kernel) rfl rfl rfl (by decide +kernel)
set_option maxRecDepth 65536 in
theorem w_c17 : (Jvm.Cond.code ({ cls := "java/lang/String", name := "checkIndex", desc := "(II)V" } : Jvm.MethodName) jdk_42_method_155_code (2 : Nat) (Option.none : Option Jvm.ClassFile.FieldType)).before args0 about1 = true := code_word (m := ⟨7, 7⟩) (meth := k7m7) (c := k7c7) (by decide +kernel) rfl rfl rfl (by decide +kernel)
set_option maxRecDepth 65536 in
theorem w_c18 : (Jvm.Cond.code ({ cls := "jdk/internal/util/Preconditions", name := "checkIndex", desc := "(IILjava/util/function/BiFunction;)I" } : Jvm.MethodName) jdk_41_method_11_code (3 : Nat) (Option.some Jvm.ClassFile.FieldType.int)).before args0 about1 = true := code_word (m := ⟨11, 1⟩) (meth := k11m1) (c := k11c1) (by decide +kernel) rfl rfl rfl (by decide +kernel)
set_option maxRecDepth 65536 in
theorem w_c19 : (Jvm.Cond.code ({ cls := "com/example/fathomsearch/fathomsearch/NamePatternMatchesPinLaw", name := "m1", desc := "([CI[CII)Z" } : Jvm.MethodName) method_7_code (6 : Nat) (Option.some Jvm.ClassFile.FieldType.boolean)).before args0 about1 = true := code_word (m := ⟨1, 6⟩) (meth := k1m6) (c := k1c6) (by decide +kernel) rfl rfl rfl (by decide +kernel)
set_option maxRecDepth 65536 in
theorem w_c20 : (Jvm.Cond.code ({ cls := "com/example/fathomsearch/fathomsearch/NamePatternMatchesPinLaw", name := "m2", desc := "([CI[CII)Z" } : Jvm.MethodName) method_8_code (6 : Nat) (Option.some Jvm.ClassFile.FieldType.boolean)).before args0 about1 = true := code_word (m := ⟨1, 7⟩) (meth := k1m7) (c := k1c7) (by decide +kernel) rfl rfl rfl (by decide +kernel)
set_option maxRecDepth 65536 in
theorem w_c21 : (Jvm.Cond.code ({ cls := "com/example/fathomsearch/fathomsearch/NamePatternMatchesPinLaw", name := "m3", desc := "([CI[CII)Z" } : Jvm.MethodName) method_9_code (6 : Nat) (Option.some Jvm.ClassFile.FieldType.boolean)).before args0 about1 = true := code_word (m := ⟨1, 8⟩) (meth := k1m8) (c := k1c8) (by decide +kernel) rfl rfl rfl (by decide +kernel)
set_option maxRecDepth 65536 in
theorem w_c22 : (Jvm.Cond.code ({ cls := "com/example/fathomsearch/fathomsearch/NamePatternMatchesPinLaw", name := "m4", desc := "(II)Z" } : Jvm.MethodName) method_10_code (2 : Nat) (Option.some Jvm.ClassFile.FieldType.boolean)).before args0 about1 = true := code_word (m := ⟨1, 9⟩) (meth := k1m9) (c := k1c9) (by decide +kernel) rfl rfl rfl (by decide +kernel)
def codes1 : List Jvm.Cond := [Jvm.Cond.code x code maxLocals ret, Jvm.Cond.code ({ cls := "com/example/fathomsearch/fathomsearch/NamePatternMatchesPinLaw", name := "pch", desc := "(J)C" } : Jvm.MethodName) method_3_code (3 : Nat) (Option.some Jvm.ClassFile.FieldType.char), Jvm.Cond.code ({ cls := "com/example/fathomsearch/fathomsearch/NamePatternMatchesPinLaw", name := "nch", desc := "(J)C" } : Jvm.MethodName) method_4_code (3 : Nat) (Option.some Jvm.ClassFile.FieldType.char), Jvm.Cond.code ({ cls := "com/example/fathomsearch/fathomsearch/NamePatternMatchesPinLaw", name := "str", desc := "([CI)Ljava/lang/String;" } : Jvm.MethodName) method_5_code (2 : Nat) (Option.some (Jvm.ClassFile.FieldType.object "java/lang/String")), Jvm.Cond.code ({ cls := "java/lang/String", name := "<init>", desc := "([C)V" } : Jvm.MethodName) jdk_42_method_3_code (2 : Nat) (Option.none : Option Jvm.ClassFile.FieldType), Jvm.Cond.code ({ cls := "java/lang/String", name := "<init>", desc := "([CIILjava/lang/Void;)V" } : Jvm.MethodName) jdk_42_method_149_code (6 : Nat) (Option.none : Option Jvm.ClassFile.FieldType), Jvm.Cond.code ({ cls := "java/lang/Object", name := "<init>", desc := "()V" } : Jvm.MethodName) object_method_1_code (1 : Nat) (Option.none : Option Jvm.ClassFile.FieldType), Jvm.Cond.code ({ cls := "com/example/fathomsearch/fathomsearch/NamePattern", name := "matches", desc := "(Ljava/lang/String;Ljava/lang/String;)Z" } : Jvm.MethodName) prog_6_method_2_code (6 : Nat) (Option.some Jvm.ClassFile.FieldType.boolean), Jvm.Cond.code ({ cls := "java/lang/String", name := "length", desc := "()I" } : Jvm.MethodName) jdk_42_method_54_code (1 : Nat) (Option.some Jvm.ClassFile.FieldType.int), Jvm.Cond.code ({ cls := "java/lang/String", name := "coder", desc := "()B" } : Jvm.MethodName) jdk_42_method_152_code (1 : Nat) (Option.some Jvm.ClassFile.FieldType.byte), Jvm.Cond.code ({ cls := "com/example/fathomsearch/fathomsearch/NamePatternMatchesPinLaw", name := "m0", desc := "([CI[CII)Z" } : Jvm.MethodName) method_6_code (6 : Nat) (Option.some Jvm.ClassFile.FieldType.boolean), Jvm.Cond.code ({ cls := "java/lang/StringUTF16", name := "compress", desc := "([CII)[B" } : Jvm.MethodName) jdk_52_method_16_code (6 : Nat) (Option.some (Jvm.ClassFile.FieldType.array Jvm.ClassFile.FieldType.byte)), Jvm.Cond.code ({ cls := "java/lang/StringUTF16", name := "compress", desc := "([CI[BII)I" } : Jvm.MethodName) jdk_52_method_21_code (7 : Nat) (Option.some Jvm.ClassFile.FieldType.int), Jvm.Cond.code ({ cls := "java/lang/StringUTF16", name := "coderFromArrayLen", desc := "([BI)B" } : Jvm.MethodName) jdk_52_method_15_code (2 : Nat) (Option.some Jvm.ClassFile.FieldType.byte), Jvm.Cond.code ({ cls := "java/lang/String", name := "charAt", desc := "(I)C" } : Jvm.MethodName) jdk_42_method_56_code (2 : Nat) (Option.some Jvm.ClassFile.FieldType.char), Jvm.Cond.code ({ cls := "java/lang/String", name := "isLatin1", desc := "()Z" } : Jvm.MethodName) jdk_42_method_154_code (1 : Nat) (Option.some Jvm.ClassFile.FieldType.boolean), Jvm.Cond.code ({ cls := "java/lang/StringLatin1", name := "charAt", desc := "([BI)C" } : Jvm.MethodName) jdk_43_method_2_code (2 : Nat) (Option.some Jvm.ClassFile.FieldType.char), Jvm.Cond.code ({ cls := "java/lang/String", name := "checkIndex", desc := "(II)V" } : Jvm.MethodName) jdk_42_method_155_code (2 : Nat) (Option.none : Option Jvm.ClassFile.FieldType), Jvm.Cond.code ({ cls := "jdk/internal/util/Preconditions", name := "checkIndex", desc := "(IILjava/util/function/BiFunction;)I" } : Jvm.MethodName) jdk_41_method_11_code (3 : Nat) (Option.some Jvm.ClassFile.FieldType.int), Jvm.Cond.code ({ cls := "com/example/fathomsearch/fathomsearch/NamePatternMatchesPinLaw", name := "m1", desc := "([CI[CII)Z" } : Jvm.MethodName) method_7_code (6 : Nat) (Option.some Jvm.ClassFile.FieldType.boolean), Jvm.Cond.code ({ cls := "com/example/fathomsearch/fathomsearch/NamePatternMatchesPinLaw", name := "m2", desc := "([CI[CII)Z" } : Jvm.MethodName) method_8_code (6 : Nat) (Option.some Jvm.ClassFile.FieldType.boolean), Jvm.Cond.code ({ cls := "com/example/fathomsearch/fathomsearch/NamePatternMatchesPinLaw", name := "m3", desc := "([CI[CII)Z" } : Jvm.MethodName) method_9_code (6 : Nat) (Option.some Jvm.ClassFile.FieldType.boolean), Jvm.Cond.code ({ cls := "com/example/fathomsearch/fathomsearch/NamePatternMatchesPinLaw", name := "m4", desc := "(II)Z" } : Jvm.MethodName) method_10_code (2 : Nat) (Option.some Jvm.ClassFile.FieldType.boolean)]
set_option maxRecDepth 65536 in
theorem codes_eq : words1.filter isCode = codes1 := rfl
theorem w_codes : ∀ c ∈ words1.filter isCode, c.before args0 about1 = true := by
  rw [codes_eq]
  intro c hc
  simp only [codes1, List.mem_cons, List.not_mem_nil, or_false] at hc
  rcases hc with rfl | rfl | rfl | rfl | rfl | rfl | rfl | rfl | rfl | rfl | rfl | rfl | rfl | rfl | rfl | rfl | rfl | rfl | rfl | rfl | rfl | rfl | rfl
  · exact w_c0
  · exact w_c1
  · exact w_c2
  · exact w_c3
  · exact w_c4
  · exact w_c5
  · exact w_c6
  · exact w_c7
  · exact w_c8
  · exact w_c9
  · exact w_c10
  · exact w_c11
  · exact w_c12
  · exact w_c13
  · exact w_c14
  · exact w_c15
  · exact w_c16
  · exact w_c17
  · exact w_c18
  · exact w_c19
  · exact w_c20
  · exact w_c21
  · exact w_c22
set_option maxRecDepth 65536 in
theorem w_t1 : (words1.take 24).all (fun c => isCode c || c.before args0 about1) = true := by decide +kernel
set_option maxRecDepth 65536 in
theorem w_t2 : ((words1.drop 24).take 24).all (fun c => isCode c || c.before args0 about1) = true := by decide +kernel
set_option maxRecDepth 65536 in
theorem w_t3 : (((words1.drop 24).drop 24).take 24).all (fun c => isCode c || c.before args0 about1) = true := by decide +kernel
set_option maxRecDepth 65536 in
theorem w_t4 : ((((words1.drop 24).drop 24).drop 24).take 24).all (fun c => isCode c || c.before args0 about1) = true := by decide +kernel
set_option maxRecDepth 65536 in
theorem w_t5 : ((((words1.drop 24).drop 24).drop 24).drop 24).all (fun c => isCode c || c.before args0 about1) = true := by decide +kernel
theorem w_tables : (allAtoms (Jvm.Cond.code x code maxLocals ret :: tables_1)).before args0 about1 = true := by
  rw [allAtoms_all]
  show words1.all (fun c => c.before args0 about1) = true
  refine all_split ?_ w_codes
  rw [← List.take_append_drop 24 words1, List.all_append, w_t1, ← List.take_append_drop 24 (words1.drop 24), List.all_append, w_t2, ← List.take_append_drop 24 ((words1.drop 24).drop 24), List.all_append, w_t3, ← List.take_append_drop 24 (((words1.drop 24).drop 24).drop 24), List.all_append, w_t4, w_t5]
  rfl
set_option maxRecDepth 65536 in
theorem w_rest : rest_1_c.before args0 about1 = true := by decide +kernel
set_option maxRecDepth 65536 in
theorem w_case : (Jvm.Cond.and given_1 narrow_1).before args0 about1 = true := by decide +kernel
set_option maxRecDepth 65536 in
theorem w_consts : constsHeld consts_1 about1 := Jvm.Lit.constsHeldB_iff.mp (by decide +kernel)
theorem w_applies : (headSpec (Jvm.Cond.code x code maxLocals ret :: tables_1) room_1).applies x e0.platform about1 = true :=
  (Spec.applies_iff w_frames).mpr ⟨w_running, w_runnable, w_alone, w_named, w_hears, w_ripe, w_room, w_tables⟩
theorem atStart : AtStart classFile x code maxLocals ret World_1 tables_1 room_1 Calls_1 rest_1 Pre_1 launch0 p0 e0 about1 theMethod args0 below0 :=
  ⟨lists_1, trivial, launch0.admits_env _ _ _, launch0.least_env, fairChoices_fair.cas, fairChoices_fair.clock, w_frames, w_args, w_heap, w_applies, ⟨w_consts, trivial⟩, w_rest, w_case⟩
end start1
theorem witness_1 : WitnessClaimed_1 := ⟨start1.p0, start1.e0, start1.about1, start1.theMethod, start1.args0, start1.below0, start1.atStart⟩
end Jvm.Pilot.@@N@@
