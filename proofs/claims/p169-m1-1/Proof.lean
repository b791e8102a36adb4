import JvmDerived
import JvmDerived.Pilot.@@N@@Statement
import JvmDerived.Pilot.@@N@@Code
set_option linter.unusedVariables false
set_option linter.unusedSimpArgs false
namespace Jvm.Pilot.@@N@@
open Jvm Jvm.ClassFile Sem Op Lib Jvm.Free Jvm.Stand Jvm.LawKit Jvm.RoadKit Bundle Jvm.Pilot.@@N@@.Jvm.D
section Own
variable {p : Program} {l : Launch} {e : Env} {R : Room} {s : State} {m : MethodId} {args : Array Value} {below : List Frame} {meth : Method} {c : Code} {Z : State} {a0 : Array Value} {EL : List (String × Nat)} {n0 : Nat} {y : MethodName} {bytes : ByteArray} {maxL : Nat} {ret : Option FieldType} {b : State} {T : State} {h : Heap} {locs : List Loc} {cells slots : Nat} {P : Outcome → State → Prop} {pc pc' : Nat} {Ls : Array Slot} {st : List Value}
def Goes (tb : Tables) (e : Env) (below : List Frame) (P : Outcome → State → Prop) (A : State) : Prop := ∃ s₂ o, Steps tb e below A s₂ ∧ s₂.status = .running ∧ Ended s₂ below o ∧ P o s₂
theorem go {tb : Tables} {A B : State} (q : ∀ t, Steps tb e below B t → Steps tb e below A t) (k : Goes tb e below P B) : Goes tb e below P A := by
  obtain ⟨t, o, h, r⟩ := k
  exact ⟨t, o, q t h, r⟩
def Sfe (Z : State) (EL : List (String × Nat)) (vm : Vm) (h : Heap) (x : Addr) : Prop := Safe Z EL vm h x
theorem sfe_new {vm : Vm} {x : Addr} (q : h.size ≤ x) : Sfe Z EL vm h x := Safe.new q
def Bs (Z : State) (a0 : Array Value) (EL : List (String × Nat)) (s b : State) (h : Heap) : Prop := (∃ vm0 k0, b = s.setVm vm0 ∧ s.Since vm0 k0 ∧ k0 ≤ h.size) ∧ CHr Z EL s.vm s.heap b.vm h ∧ EW Z a0 EL
def Wk (p : Program) (l : Launch) (e : Env) (R : Room) (s : State) (m : MethodId) (args : Array Value) (below : List Frame) (meth : Method) (c : Code) (Z : State) (a0 : Array Value) (EL : List (String × Nat)) (n0 : Nat) (y : MethodName) (bytes : ByteArray) (maxL : Nat) (ret : Option FieldType) (b : State) (T : State) (h : Heap) (locs : List Loc) (cells slots : Nat) : Prop := Stand p l e R b m args below meth c T locs cells slots ∧ T.heap = h ∧ Fr n0 locs ∧ p.tables.exec = Jvm.exec ∧ Z.Warmed39 b.vm ∧ b.vm.findClass y.cls = some m.cls ∧ c.code = bytes ∧ c.maxLocals = maxL ∧ meth.sig.returnType = ret ∧ meth.locks = false ∧ meth.name = y.name ∧ Old Z n0 h ∧ Bs Z a0 EL s b h
theorem Wk.X (K : Wk p l e R s m args below meth c Z a0 EL n0 y bytes maxL ret b T h locs cells slots) : Stand p l e R b m args below meth c T locs cells slots := K.1
theorem Wk.eT (K : Wk p l e R s m args below meth c Z a0 EL n0 y bytes maxL ret b T h locs cells slots) : T.heap = h := K.2.1
theorem Wk.fr (K : Wk p l e R s m args below meth c Z a0 EL n0 y bytes maxL ret b T h locs cells slots) : Fr n0 locs := K.2.2.1
theorem Wk.hx (K : Wk p l e R s m args below meth c Z a0 EL n0 y bytes maxL ret b T h locs cells slots) : p.tables.exec = Jvm.exec := K.2.2.2.1
theorem Wk.hZ (K : Wk p l e R s m args below meth c Z a0 EL n0 y bytes maxL ret b T h locs cells slots) : Z.Warmed39 b.vm := K.2.2.2.2.1
theorem Wk.hown (K : Wk p l e R s m args below meth c Z a0 EL n0 y bytes maxL ret b T h locs cells slots) : b.vm.findClass y.cls = some m.cls := K.2.2.2.2.2.1
theorem Wk.hby (K : Wk p l e R s m args below meth c Z a0 EL n0 y bytes maxL ret b T h locs cells slots) : c.code = bytes := K.2.2.2.2.2.2.1
theorem Wk.hml (K : Wk p l e R s m args below meth c Z a0 EL n0 y bytes maxL ret b T h locs cells slots) : c.maxLocals = maxL := K.2.2.2.2.2.2.2.1
theorem Wk.hret (K : Wk p l e R s m args below meth c Z a0 EL n0 y bytes maxL ret b T h locs cells slots) : meth.sig.returnType = ret := K.2.2.2.2.2.2.2.2.1
theorem Wk.hlk (K : Wk p l e R s m args below meth c Z a0 EL n0 y bytes maxL ret b T h locs cells slots) : meth.locks = false := K.2.2.2.2.2.2.2.2.2.1
theorem Wk.hnm (K : Wk p l e R s m args below meth c Z a0 EL n0 y bytes maxL ret b T h locs cells slots) : meth.name = y.name := K.2.2.2.2.2.2.2.2.2.2.1
theorem Wk.old (K : Wk p l e R s m args below meth c Z a0 EL n0 y bytes maxL ret b T h locs cells slots) : Old Z n0 h := K.2.2.2.2.2.2.2.2.2.2.2.1
theorem Wk.bs (K : Wk p l e R s m args below meth c Z a0 EL n0 y bytes maxL ret b T h locs cells slots) : Bs Z a0 EL s b h := K.2.2.2.2.2.2.2.2.2.2.2.2
theorem Wk.at (K : Wk p l e R s m args below meth c Z a0 EL n0 y bytes maxL ret b T h locs cells slots) : At T m c below := K.X.here
theorem Wk.move (K : Wk p l e R s m args below meth c Z a0 EL n0 y bytes maxL ret b T h locs cells slots) {T' : State} {h' : Heap} {locs' : List Loc} {cells' slots' : Nat} (X : Stand p l e R b m args below meth c T' locs' cells' slots') (eT : T'.heap = h') (hF : Fr n0 locs') (hO : Old Z n0 h') (hB : Bs Z a0 EL s b h') : Wk p l e R s m args below meth c Z a0 EL n0 y bytes maxL ret b T' h' locs' cells' slots' := ⟨X, eT, hF, K.hx, K.hZ, K.hown, K.hby, K.hml, K.hret, K.hlk, K.hnm, hO, hB⟩
theorem k_iload (K : Wk p l e R s m args below meth c Z a0 EL n0 y bytes maxL ret b T h locs cells slots) {i : Int32} {k : Nat} (hd : decode bytes pc = .ok (.iload k, 2)) (hp : pc + 2 = pc') (hl : Ls[k]? = some (.val (.int i))) (k : Goes p.tables e below P (T.setTop (mkF m pc' Ls (.int i :: st)))) : Goes p.tables e below P (T.setTop (mkF m pc Ls st)) := by
  subst hp
  exact go (fun t q => XS.iload K.at K.hx rfl (hb K.hby hd) hl q) k
theorem k_iloadN (K : Wk p l e R s m args below meth c Z a0 EL n0 y bytes maxL ret b T h locs cells slots) {i : Int32} {k : Fin 4} (hd : decode bytes pc = .ok (.iload_n k, 1)) (hp : pc + 1 = pc') (hl : Ls[k.val]? = some (.val (.int i))) (k : Goes p.tables e below P (T.setTop (mkF m pc' Ls (.int i :: st)))) : Goes p.tables e below P (T.setTop (mkF m pc Ls st)) := by
  subst hp
  exact go (fun t q => XS.iloadN K.at K.hx rfl (hb K.hby hd) hl q) k
theorem k_lload (K : Wk p l e R s m args below meth c Z a0 EL n0 y bytes maxL ret b T h locs cells slots) {i : Int64} {k : Nat} (hd : decode bytes pc = .ok (.lload k, 2)) (hp : pc + 2 = pc') (hl : Ls[k]? = some (.val (.long i))) (k : Goes p.tables e below P (T.setTop (mkF m pc' Ls (.long i :: st)))) : Goes p.tables e below P (T.setTop (mkF m pc Ls st)) := by
  subst hp
  exact go (fun t q => XT.lload K.at K.hx rfl (hb K.hby hd) hl q) k
theorem k_lloadN (K : Wk p l e R s m args below meth c Z a0 EL n0 y bytes maxL ret b T h locs cells slots) {i : Int64} {k : Fin 4} (hd : decode bytes pc = .ok (.lload_n k, 1)) (hp : pc + 1 = pc') (hl : Ls[k.val]? = some (.val (.long i))) (k : Goes p.tables e below P (T.setTop (mkF m pc' Ls (.long i :: st)))) : Goes p.tables e below P (T.setTop (mkF m pc Ls st)) := by
  subst hp
  exact go (fun t q => XT.lloadN K.at K.hx rfl (hb K.hby hd) hl q) k
theorem k_aload (K : Wk p l e R s m args below meth c Z a0 EL n0 y bytes maxL ret b T h locs cells slots) {v : Value} {k : Nat} (hd : decode bytes pc = .ok (.aload k, 2)) (hp : pc + 2 = pc') (hl : Ls[k]? = some (.val v)) (hv : v.isRef = true) (k : Goes p.tables e below P (T.setTop (mkF m pc' Ls (v :: st)))) : Goes p.tables e below P (T.setTop (mkF m pc Ls st)) := by
  subst hp
  exact go (fun t q => XS.aload K.at K.hx rfl (hb K.hby hd) hl hv q) k
theorem k_aloadN (K : Wk p l e R s m args below meth c Z a0 EL n0 y bytes maxL ret b T h locs cells slots) {v : Value} {k : Fin 4} (hd : decode bytes pc = .ok (.aload_n k, 1)) (hp : pc + 1 = pc') (hl : Ls[k.val]? = some (.val v)) (hv : v.isRef = true) (k : Goes p.tables e below P (T.setTop (mkF m pc' Ls (v :: st)))) : Goes p.tables e below P (T.setTop (mkF m pc Ls st)) := by
  subst hp
  exact go (fun t q => XS.aloadN K.at K.hx rfl (hb K.hby hd) hl hv q) k
theorem k_istore (K : Wk p l e R s m args below meth c Z a0 EL n0 y bytes maxL ret b T h locs cells slots) {i : Int32} {k : Nat} {L' : Array Slot} (hd : decode bytes pc = .ok (.istore k, 2)) (hp : pc + 2 = pc') (hl : storeLocals Ls k (.int i) = some L') (k : Goes p.tables e below P (T.setTop (mkF m pc' L' st))) : Goes p.tables e below P (T.setTop (mkF m pc Ls (.int i :: st))) := by
  subst hp
  exact go (fun t q => XS.istore K.at K.hx rfl (hb K.hby hd) rfl hl q) k
theorem k_istoreN (K : Wk p l e R s m args below meth c Z a0 EL n0 y bytes maxL ret b T h locs cells slots) {i : Int32} {k : Fin 4} {L' : Array Slot} (hd : decode bytes pc = .ok (.istore_n k, 1)) (hp : pc + 1 = pc') (hl : storeLocals Ls k.val (.int i) = some L') (k : Goes p.tables e below P (T.setTop (mkF m pc' L' st))) : Goes p.tables e below P (T.setTop (mkF m pc Ls (.int i :: st))) := by
  subst hp
  exact go (fun t q => XS.istoreN K.at K.hx rfl (hb K.hby hd) rfl hl q) k
theorem k_lstore (K : Wk p l e R s m args below meth c Z a0 EL n0 y bytes maxL ret b T h locs cells slots) {i : Int64} {k : Nat} {L' : Array Slot} (hd : decode bytes pc = .ok (.lstore k, 2)) (hp : pc + 2 = pc') (hl : storeLocals Ls k (.long i) = some L') (k : Goes p.tables e below P (T.setTop (mkF m pc' L' st))) : Goes p.tables e below P (T.setTop (mkF m pc Ls (.long i :: st))) := by
  subst hp
  exact go (fun t q => XT.lstore K.at K.hx rfl (hb K.hby hd) rfl hl q) k
theorem k_lstoreN (K : Wk p l e R s m args below meth c Z a0 EL n0 y bytes maxL ret b T h locs cells slots) {i : Int64} {k : Fin 4} {L' : Array Slot} (hd : decode bytes pc = .ok (.lstore_n k, 1)) (hp : pc + 1 = pc') (hl : storeLocals Ls k.val (.long i) = some L') (k : Goes p.tables e below P (T.setTop (mkF m pc' L' st))) : Goes p.tables e below P (T.setTop (mkF m pc Ls (.long i :: st))) := by
  subst hp
  exact go (fun t q => XT.lstoreN K.at K.hx rfl (hb K.hby hd) rfl hl q) k
theorem k_astore (K : Wk p l e R s m args below meth c Z a0 EL n0 y bytes maxL ret b T h locs cells slots) {v : Value} {k : Nat} {L' : Array Slot} (hd : decode bytes pc = .ok (.astore k, 2)) (hp : pc + 2 = pc') (hv : v.isRef = true) (hl : storeLocals Ls k v = some L') (k : Goes p.tables e below P (T.setTop (mkF m pc' L' st))) : Goes p.tables e below P (T.setTop (mkF m pc Ls (v :: st))) := by
  subst hp
  exact go (fun t q => XS.astore K.at K.hx rfl (hb K.hby hd) rfl hv hl q) k
theorem k_astoreN (K : Wk p l e R s m args below meth c Z a0 EL n0 y bytes maxL ret b T h locs cells slots) {v : Value} {k : Fin 4} {L' : Array Slot} (hd : decode bytes pc = .ok (.astore_n k, 1)) (hp : pc + 1 = pc') (hv : v.isRef = true) (hl : storeLocals Ls k.val v = some L') (k : Goes p.tables e below P (T.setTop (mkF m pc' L' st))) : Goes p.tables e below P (T.setTop (mkF m pc Ls (v :: st))) := by
  subst hp
  exact go (fun t q => XS.astoreN K.at K.hx rfl (hb K.hby hd) rfl hv hl q) k
theorem k_iconst (K : Wk p l e R s m args below meth c Z a0 EL n0 y bytes maxL ret b T h locs cells slots) {i : Int} (v : Int32) (hd : decode bytes pc = .ok (.iconst i, 1)) (hp : pc + 1 = pc') (hv : Int32.ofInt i = v) (k : Goes p.tables e below P (T.setTop (mkF m pc' Ls (.int v :: st)))) : Goes p.tables e below P (T.setTop (mkF m pc Ls st)) := by
  subst hp
  exact go (fun t q => XT.iconstV K.at K.hx rfl v (hb K.hby hd) hv q) k
theorem k_bipush (K : Wk p l e R s m args below meth c Z a0 EL n0 y bytes maxL ret b T h locs cells slots) {i : Int} (v : Int32) (hd : decode bytes pc = .ok (.bipush i, 2)) (hp : pc + 2 = pc') (hv : (Int8.ofInt i).toInt32 = v) (k : Goes p.tables e below P (T.setTop (mkF m pc' Ls (.int v :: st)))) : Goes p.tables e below P (T.setTop (mkF m pc Ls st)) := by
  subst hp
  exact go (fun t q => XT.bipushV K.at K.hx rfl v (hb K.hby hd) hv q) k
theorem k_sipush (K : Wk p l e R s m args below meth c Z a0 EL n0 y bytes maxL ret b T h locs cells slots) {i : Int} (v : Int32) (hd : decode bytes pc = .ok (.sipush i, 3)) (hp : pc + 3 = pc') (hv : (Int16.ofInt i).toInt32 = v) (k : Goes p.tables e below P (T.setTop (mkF m pc' Ls (.int v :: st)))) : Goes p.tables e below P (T.setTop (mkF m pc Ls st)) := by
  subst hp
  exact go (fun t q => XT.sipushV K.at K.hx rfl v (hb K.hby hd) hv q) k
theorem k_lconst (K : Wk p l e R s m args below meth c Z a0 EL n0 y bytes maxL ret b T h locs cells slots) {i : Fin 2} (v : Int64) (hd : decode bytes pc = .ok (.lconst i, 1)) (hp : pc + 1 = pc') (hv : Int64.ofNat i = v) (k : Goes p.tables e below P (T.setTop (mkF m pc' Ls (.long v :: st)))) : Goes p.tables e below P (T.setTop (mkF m pc Ls st)) := by
  subst hp
  exact go (fun t q => XT.lconstV K.at K.hx rfl v (hb K.hby hd) hv q) k
theorem k_aconst_null (K : Wk p l e R s m args below meth c Z a0 EL n0 y bytes maxL ret b T h locs cells slots)  (hd : decode bytes pc = .ok (.aconst_null, 1)) (hp : pc + 1 = pc') (k : Goes p.tables e below P (T.setTop (mkF m pc' Ls (.null :: st)))) : Goes p.tables e below P (T.setTop (mkF m pc Ls st)) := by
  subst hp
  exact go (fun t q => XS.aconstNull K.at K.hx rfl (hb K.hby hd) q) k
theorem k_ldcI (K : Wk p l e R s m args below meth c Z a0 EL n0 y bytes maxL ret b T h locs cells slots) {i : Nat} {v : Int32} (wd : (Cond.constant y.cls i v).before a0 Z = true) (hd : decode bytes pc = .ok (.ldc i, 2)) (hp : pc + 2 = pc') (k : Goes p.tables e below P (T.setTop (mkF m pc' Ls (.int v :: st)))) : Goes p.tables e below P (T.setTop (mkF m pc Ls st)) := by
  subst hp
  exact go (fun t q => Stand.ldcI K.X K.hx K.hown (mvT K.hZ wd) rfl (hb K.hby hd) q) k
theorem k_ldcWI (K : Wk p l e R s m args below meth c Z a0 EL n0 y bytes maxL ret b T h locs cells slots) {i : Nat} {v : Int32} (wd : (Cond.constant y.cls i v).before a0 Z = true) (hd : decode bytes pc = .ok (.ldc_w i, 3)) (hp : pc + 3 = pc') (k : Goes p.tables e below P (T.setTop (mkF m pc' Ls (.int v :: st)))) : Goes p.tables e below P (T.setTop (mkF m pc Ls st)) := by
  subst hp
  exact go (fun t q => Stand.ldcWI K.X K.hx K.hown (mvT K.hZ wd) rfl (hb K.hby hd) q) k
theorem k_ldcJ (K : Wk p l e R s m args below meth c Z a0 EL n0 y bytes maxL ret b T h locs cells slots) {i : Nat} {v : Int64} (wd : (Cond.constantLong y.cls i v).before a0 Z = true) (hd : decode bytes pc = .ok (.ldc2_w i, 3)) (hp : pc + 3 = pc') (k : Goes p.tables e below P (T.setTop (mkF m pc' Ls (.long v :: st)))) : Goes p.tables e below P (T.setTop (mkF m pc Ls st)) := by
  subst hp
  exact go (fun t q => Stand.ldc2J K.X K.hx K.hown (mvT K.hZ wd) rfl (hb K.hby hd) q) k
theorem k_iadd (K : Wk p l e R s m args below meth c Z a0 EL n0 y bytes maxL ret b T h locs cells slots) {i j : Int32} (hd : decode bytes pc = .ok (.iadd, 1)) (hp : pc + 1 = pc') (k : Goes p.tables e below P (T.setTop (mkF m pc' Ls (.int (i + j) :: st)))) : Goes p.tables e below P (T.setTop (mkF m pc Ls (.int j :: .int i :: st))) := by
  subst hp
  exact go (fun t q => XS.iadd K.at K.hx rfl (hb K.hby hd) rfl q) k
theorem k_isub (K : Wk p l e R s m args below meth c Z a0 EL n0 y bytes maxL ret b T h locs cells slots) {i j : Int32} (hd : decode bytes pc = .ok (.isub, 1)) (hp : pc + 1 = pc') (k : Goes p.tables e below P (T.setTop (mkF m pc' Ls (.int (i - j) :: st)))) : Goes p.tables e below P (T.setTop (mkF m pc Ls (.int j :: .int i :: st))) := by
  subst hp
  exact go (fun t q => XS.isub K.at K.hx rfl (hb K.hby hd) rfl q) k
theorem k_imul (K : Wk p l e R s m args below meth c Z a0 EL n0 y bytes maxL ret b T h locs cells slots) {i j : Int32} (hd : decode bytes pc = .ok (.imul, 1)) (hp : pc + 1 = pc') (k : Goes p.tables e below P (T.setTop (mkF m pc' Ls (.int (i * j) :: st)))) : Goes p.tables e below P (T.setTop (mkF m pc Ls (.int j :: .int i :: st))) := by
  subst hp
  exact go (fun t q => XS.imul K.at K.hx rfl (hb K.hby hd) rfl q) k
theorem k_iand (K : Wk p l e R s m args below meth c Z a0 EL n0 y bytes maxL ret b T h locs cells slots) {i j : Int32} (hd : decode bytes pc = .ok (.iand, 1)) (hp : pc + 1 = pc') (k : Goes p.tables e below P (T.setTop (mkF m pc' Ls (.int (i &&& j) :: st)))) : Goes p.tables e below P (T.setTop (mkF m pc Ls (.int j :: .int i :: st))) := by
  subst hp
  exact go (fun t q => XS.iand K.at K.hx rfl (hb K.hby hd) rfl q) k
theorem k_ior (K : Wk p l e R s m args below meth c Z a0 EL n0 y bytes maxL ret b T h locs cells slots) {i j : Int32} (hd : decode bytes pc = .ok (.ior, 1)) (hp : pc + 1 = pc') (k : Goes p.tables e below P (T.setTop (mkF m pc' Ls (.int (i ||| j) :: st)))) : Goes p.tables e below P (T.setTop (mkF m pc Ls (.int j :: .int i :: st))) := by
  subst hp
  exact go (fun t q => XT.ior K.at K.hx rfl (hb K.hby hd) rfl q) k
theorem k_ixor (K : Wk p l e R s m args below meth c Z a0 EL n0 y bytes maxL ret b T h locs cells slots) {i j : Int32} (hd : decode bytes pc = .ok (.ixor, 1)) (hp : pc + 1 = pc') (k : Goes p.tables e below P (T.setTop (mkF m pc' Ls (.int (i ^^^ j) :: st)))) : Goes p.tables e below P (T.setTop (mkF m pc Ls (.int j :: .int i :: st))) := by
  subst hp
  exact go (fun t q => XT.ixor K.at K.hx rfl (hb K.hby hd) rfl q) k
theorem k_ishl (K : Wk p l e R s m args below meth c Z a0 EL n0 y bytes maxL ret b T h locs cells slots) {i j : Int32} (hd : decode bytes pc = .ok (.ishl, 1)) (hp : pc + 1 = pc') (k : Goes p.tables e below P (T.setTop (mkF m pc' Ls (.int (i <<< (j &&& 31)) :: st)))) : Goes p.tables e below P (T.setTop (mkF m pc Ls (.int j :: .int i :: st))) := by
  subst hp
  exact go (fun t q => XT.ishl K.at K.hx rfl (hb K.hby hd) rfl q) k
theorem k_ishr (K : Wk p l e R s m args below meth c Z a0 EL n0 y bytes maxL ret b T h locs cells slots) {i j : Int32} (hd : decode bytes pc = .ok (.ishr, 1)) (hp : pc + 1 = pc') (k : Goes p.tables e below P (T.setTop (mkF m pc' Ls (.int (i >>> (j &&& 31)) :: st)))) : Goes p.tables e below P (T.setTop (mkF m pc Ls (.int j :: .int i :: st))) := by
  subst hp
  exact go (fun t q => XT.ishr K.at K.hx rfl (hb K.hby hd) rfl q) k
theorem k_iushr (K : Wk p l e R s m args below meth c Z a0 EL n0 y bytes maxL ret b T h locs cells slots) {i j : Int32} (hd : decode bytes pc = .ok (.iushr, 1)) (hp : pc + 1 = pc') (k : Goes p.tables e below P (T.setTop (mkF m pc' Ls (.int (XT.ushr i j) :: st)))) : Goes p.tables e below P (T.setTop (mkF m pc Ls (.int j :: .int i :: st))) := by
  subst hp
  exact go (fun t q => XT.iushr K.at K.hx rfl (hb K.hby hd) rfl q) k
theorem k_ladd (K : Wk p l e R s m args below meth c Z a0 EL n0 y bytes maxL ret b T h locs cells slots) {i j : Int64} (hd : decode bytes pc = .ok (.ladd, 1)) (hp : pc + 1 = pc') (k : Goes p.tables e below P (T.setTop (mkF m pc' Ls (.long (i + j) :: st)))) : Goes p.tables e below P (T.setTop (mkF m pc Ls (.long j :: .long i :: st))) := by
  subst hp
  exact go (fun t q => XT.ladd K.at K.hx rfl (hb K.hby hd) rfl q) k
theorem k_lsub (K : Wk p l e R s m args below meth c Z a0 EL n0 y bytes maxL ret b T h locs cells slots) {i j : Int64} (hd : decode bytes pc = .ok (.lsub, 1)) (hp : pc + 1 = pc') (k : Goes p.tables e below P (T.setTop (mkF m pc' Ls (.long (i - j) :: st)))) : Goes p.tables e below P (T.setTop (mkF m pc Ls (.long j :: .long i :: st))) := by
  subst hp
  exact go (fun t q => XT.lsub K.at K.hx rfl (hb K.hby hd) rfl q) k
theorem k_lmul (K : Wk p l e R s m args below meth c Z a0 EL n0 y bytes maxL ret b T h locs cells slots) {i j : Int64} (hd : decode bytes pc = .ok (.lmul, 1)) (hp : pc + 1 = pc') (k : Goes p.tables e below P (T.setTop (mkF m pc' Ls (.long (i * j) :: st)))) : Goes p.tables e below P (T.setTop (mkF m pc Ls (.long j :: .long i :: st))) := by
  subst hp
  exact go (fun t q => XT.lmul K.at K.hx rfl (hb K.hby hd) rfl q) k
theorem k_land (K : Wk p l e R s m args below meth c Z a0 EL n0 y bytes maxL ret b T h locs cells slots) {i j : Int64} (hd : decode bytes pc = .ok (.land, 1)) (hp : pc + 1 = pc') (k : Goes p.tables e below P (T.setTop (mkF m pc' Ls (.long (i &&& j) :: st)))) : Goes p.tables e below P (T.setTop (mkF m pc Ls (.long j :: .long i :: st))) := by
  subst hp
  exact go (fun t q => XT.land K.at K.hx rfl (hb K.hby hd) rfl q) k
theorem k_lor (K : Wk p l e R s m args below meth c Z a0 EL n0 y bytes maxL ret b T h locs cells slots) {i j : Int64} (hd : decode bytes pc = .ok (.lor, 1)) (hp : pc + 1 = pc') (k : Goes p.tables e below P (T.setTop (mkF m pc' Ls (.long (i ||| j) :: st)))) : Goes p.tables e below P (T.setTop (mkF m pc Ls (.long j :: .long i :: st))) := by
  subst hp
  exact go (fun t q => XT.lor K.at K.hx rfl (hb K.hby hd) rfl q) k
theorem k_lxor (K : Wk p l e R s m args below meth c Z a0 EL n0 y bytes maxL ret b T h locs cells slots) {i j : Int64} (hd : decode bytes pc = .ok (.lxor, 1)) (hp : pc + 1 = pc') (k : Goes p.tables e below P (T.setTop (mkF m pc' Ls (.long (i ^^^ j) :: st)))) : Goes p.tables e below P (T.setTop (mkF m pc Ls (.long j :: .long i :: st))) := by
  subst hp
  exact go (fun t q => XT.lxor K.at K.hx rfl (hb K.hby hd) rfl q) k
theorem k_lshl (K : Wk p l e R s m args below meth c Z a0 EL n0 y bytes maxL ret b T h locs cells slots) {i : Int64} {j : Int32} (hd : decode bytes pc = .ok (.lshl, 1)) (hp : pc + 1 = pc') (k : Goes p.tables e below P (T.setTop (mkF m pc' Ls (.long (i <<< (j.toInt64 &&& 63)) :: st)))) : Goes p.tables e below P (T.setTop (mkF m pc Ls (.int j :: .long i :: st))) := by
  subst hp
  exact go (fun t q => XT.lshl K.at K.hx rfl (hb K.hby hd) rfl q) k
theorem k_lshr (K : Wk p l e R s m args below meth c Z a0 EL n0 y bytes maxL ret b T h locs cells slots) {i : Int64} {j : Int32} (hd : decode bytes pc = .ok (.lshr, 1)) (hp : pc + 1 = pc') (k : Goes p.tables e below P (T.setTop (mkF m pc' Ls (.long (i >>> (j.toInt64 &&& 63)) :: st)))) : Goes p.tables e below P (T.setTop (mkF m pc Ls (.int j :: .long i :: st))) := by
  subst hp
  exact go (fun t q => XT.lshr K.at K.hx rfl (hb K.hby hd) rfl q) k
theorem k_lushr (K : Wk p l e R s m args below meth c Z a0 EL n0 y bytes maxL ret b T h locs cells slots) {i : Int64} {j : Int32} (hd : decode bytes pc = .ok (.lushr, 1)) (hp : pc + 1 = pc') (k : Goes p.tables e below P (T.setTop (mkF m pc' Ls (.long (XT.ushrL i j) :: st)))) : Goes p.tables e below P (T.setTop (mkF m pc Ls (.int j :: .long i :: st))) := by
  subst hp
  exact go (fun t q => XT.lushr K.at K.hx rfl (hb K.hby hd) rfl q) k
theorem k_idiv (K : Wk p l e R s m args below meth c Z a0 EL n0 y bytes maxL ret b T h locs cells slots) {i j : Int32} (hd : decode bytes pc = .ok (.idiv, 1)) (hp : pc + 1 = pc') (hj : j ≠ 0) (k : Goes p.tables e below P (T.setTop (mkF m pc' Ls (.int (i / j) :: st)))) : Goes p.tables e below P (T.setTop (mkF m pc Ls (.int j :: .int i :: st))) := by
  subst hp
  exact go (fun t q => XS.idiv K.at K.hx rfl (hb K.hby hd) rfl hj q) k
theorem k_irem (K : Wk p l e R s m args below meth c Z a0 EL n0 y bytes maxL ret b T h locs cells slots) {i j : Int32} (hd : decode bytes pc = .ok (.irem, 1)) (hp : pc + 1 = pc') (hj : j ≠ 0) (k : Goes p.tables e below P (T.setTop (mkF m pc' Ls (.int (i % j) :: st)))) : Goes p.tables e below P (T.setTop (mkF m pc Ls (.int j :: .int i :: st))) := by
  subst hp
  exact go (fun t q => Jvm.RoadKit.iremM K.X K.hx rfl (hb K.hby hd) rfl hj q) k
theorem k_ldiv (K : Wk p l e R s m args below meth c Z a0 EL n0 y bytes maxL ret b T h locs cells slots) {i j : Int64} (hd : decode bytes pc = .ok (.ldiv, 1)) (hp : pc + 1 = pc') (hj : j ≠ 0) (k : Goes p.tables e below P (T.setTop (mkF m pc' Ls (.long (i / j) :: st)))) : Goes p.tables e below P (T.setTop (mkF m pc Ls (.long j :: .long i :: st))) := by
  subst hp
  exact go (fun t q => XT.ldiv K.at K.hx rfl (hb K.hby hd) rfl hj q) k
theorem k_lrem (K : Wk p l e R s m args below meth c Z a0 EL n0 y bytes maxL ret b T h locs cells slots) {i j : Int64} (hd : decode bytes pc = .ok (.lrem, 1)) (hp : pc + 1 = pc') (hj : j ≠ 0) (k : Goes p.tables e below P (T.setTop (mkF m pc' Ls (.long (i - (i / j) * j) :: st)))) : Goes p.tables e below P (T.setTop (mkF m pc Ls (.long j :: .long i :: st))) := by
  subst hp
  exact go (fun t q => XT.lrem K.at K.hx rfl (hb K.hby hd) rfl hj q) k
theorem k_lcmp (K : Wk p l e R s m args below meth c Z a0 EL n0 y bytes maxL ret b T h locs cells slots) {i j : Int64} (hd : decode bytes pc = .ok (.lcmp, 1)) (hp : pc + 1 = pc') (k : Goes p.tables e below P (T.setTop (mkF m pc' Ls (.int (XT.cmpL i j) :: st)))) : Goes p.tables e below P (T.setTop (mkF m pc Ls (.long j :: .long i :: st))) := by
  subst hp
  exact go (fun t q => XT.lcmp K.at K.hx rfl (hb K.hby hd) rfl q) k
theorem k_ineg (K : Wk p l e R s m args below meth c Z a0 EL n0 y bytes maxL ret b T h locs cells slots) {i : Int32} (hd : decode bytes pc = .ok (.ineg, 1)) (hp : pc + 1 = pc') (k : Goes p.tables e below P (T.setTop (mkF m pc' Ls (.int (-i) :: st)))) : Goes p.tables e below P (T.setTop (mkF m pc Ls (.int i :: st))) := by
  subst hp
  exact go (fun t q => XS.ineg K.at K.hx rfl (hb K.hby hd) rfl q) k
theorem k_lneg (K : Wk p l e R s m args below meth c Z a0 EL n0 y bytes maxL ret b T h locs cells slots) {i : Int64} (hd : decode bytes pc = .ok (.lneg, 1)) (hp : pc + 1 = pc') (k : Goes p.tables e below P (T.setTop (mkF m pc' Ls (.long (-i) :: st)))) : Goes p.tables e below P (T.setTop (mkF m pc Ls (.long i :: st))) := by
  subst hp
  exact go (fun t q => XT.lneg K.at K.hx rfl (hb K.hby hd) rfl q) k
theorem k_i2l (K : Wk p l e R s m args below meth c Z a0 EL n0 y bytes maxL ret b T h locs cells slots) {i : Int32} (hd : decode bytes pc = .ok (.i2l, 1)) (hp : pc + 1 = pc') (k : Goes p.tables e below P (T.setTop (mkF m pc' Ls (.long i.toInt64 :: st)))) : Goes p.tables e below P (T.setTop (mkF m pc Ls (.int i :: st))) := by
  subst hp
  exact go (fun t q => XT.i2l K.at K.hx rfl (hb K.hby hd) rfl q) k
theorem k_l2i (K : Wk p l e R s m args below meth c Z a0 EL n0 y bytes maxL ret b T h locs cells slots) {i : Int64} (hd : decode bytes pc = .ok (.l2i, 1)) (hp : pc + 1 = pc') (k : Goes p.tables e below P (T.setTop (mkF m pc' Ls (.int i.toInt32 :: st)))) : Goes p.tables e below P (T.setTop (mkF m pc Ls (.long i :: st))) := by
  subst hp
  exact go (fun t q => XT.l2i K.at K.hx rfl (hb K.hby hd) rfl q) k
theorem k_i2b (K : Wk p l e R s m args below meth c Z a0 EL n0 y bytes maxL ret b T h locs cells slots) {i : Int32} (hd : decode bytes pc = .ok (.i2b, 1)) (hp : pc + 1 = pc') (k : Goes p.tables e below P (T.setTop (mkF m pc' Ls (.int i.toInt8.toInt32 :: st)))) : Goes p.tables e below P (T.setTop (mkF m pc Ls (.int i :: st))) := by
  subst hp
  exact go (fun t q => XT.i2b K.at K.hx rfl (hb K.hby hd) rfl q) k
theorem k_i2c (K : Wk p l e R s m args below meth c Z a0 EL n0 y bytes maxL ret b T h locs cells slots) {i : Int32} (hd : decode bytes pc = .ok (.i2c, 1)) (hp : pc + 1 = pc') (k : Goes p.tables e below P (T.setTop (mkF m pc' Ls (.int i.toUInt32.toUInt16.toUInt32.toInt32 :: st)))) : Goes p.tables e below P (T.setTop (mkF m pc Ls (.int i :: st))) := by
  subst hp
  exact go (fun t q => XT.i2c K.at K.hx rfl (hb K.hby hd) rfl q) k
theorem k_i2s (K : Wk p l e R s m args below meth c Z a0 EL n0 y bytes maxL ret b T h locs cells slots) {i : Int32} (hd : decode bytes pc = .ok (.i2s, 1)) (hp : pc + 1 = pc') (k : Goes p.tables e below P (T.setTop (mkF m pc' Ls (.int i.toInt16.toInt32 :: st)))) : Goes p.tables e below P (T.setTop (mkF m pc Ls (.int i :: st))) := by
  subst hp
  exact go (fun t q => XT.i2s K.at K.hx rfl (hb K.hby hd) rfl q) k
theorem k_iinc (K : Wk p l e R s m args below meth c Z a0 EL n0 y bytes maxL ret b T h locs cells slots) {i : Int32} {k : Nat} {ct : Int} {L' : Array Slot} (v : Int32) (hd : decode bytes pc = .ok (.iinc k ct, 3)) (hp : pc + 3 = pc') (hv : Int32.ofInt ct = v) (hl : Ls[k]? = some (.val (.int i))) (hl' : storeLocals Ls k (.int (i + v)) = some L') (k : Goes p.tables e below P (T.setTop (mkF m pc' L' st))) : Goes p.tables e below P (T.setTop (mkF m pc Ls st)) := by
  subst hp
  exact go (fun t q => XT.iincV K.at K.hx rfl v (hb K.hby hd) hv hl hl' q) k
theorem k_dup (K : Wk p l e R s m args below meth c Z a0 EL n0 y bytes maxL ret b T h locs cells slots) {v : Value} (hd : decode bytes pc = .ok (.dup, 1)) (hp : pc + 1 = pc') (hc : v.category = 1) (k : Goes p.tables e below P (T.setTop (mkF m pc' Ls (v :: v :: st)))) : Goes p.tables e below P (T.setTop (mkF m pc Ls (v :: st))) := by
  subst hp
  exact go (fun t q => XS.dup K.at K.hx rfl (hb K.hby hd) rfl hc q) k
theorem k_pop (K : Wk p l e R s m args below meth c Z a0 EL n0 y bytes maxL ret b T h locs cells slots) {v : Value} (hd : decode bytes pc = .ok (.pop, 1)) (hp : pc + 1 = pc') (hc : v.category = 1) (k : Goes p.tables e below P (T.setTop (mkF m pc' Ls st))) : Goes p.tables e below P (T.setTop (mkF m pc Ls (v :: st))) := by
  subst hp
  exact go (fun t q => XT.pop K.at K.hx rfl (hb K.hby hd) rfl hc q) k
theorem k_dup_x1 (K : Wk p l e R s m args below meth c Z a0 EL n0 y bytes maxL ret b T h locs cells slots) {v u : Value} (hd : decode bytes pc = .ok (.dup_x1, 1)) (hp : pc + 1 = pc') (hc : v.category = 1) (hc' : u.category = 1) (k : Goes p.tables e below P (T.setTop (mkF m pc' Ls (v :: u :: v :: st)))) : Goes p.tables e below P (T.setTop (mkF m pc Ls (v :: u :: st))) := by
  subst hp
  exact go (fun t q => XT.dupX1 K.at K.hx rfl (hb K.hby hd) rfl hc hc' q) k
theorem k_dup2J (K : Wk p l e R s m args below meth c Z a0 EL n0 y bytes maxL ret b T h locs cells slots) {i : Int64} (hd : decode bytes pc = .ok (.dup2, 1)) (hp : pc + 1 = pc') (k : Goes p.tables e below P (T.setTop (mkF m pc' Ls (.long i :: .long i :: st)))) : Goes p.tables e below P (T.setTop (mkF m pc Ls (.long i :: st))) := by
  subst hp
  refine go (fun t q => ?_) k
  have hd' := (hb K.hby hd)
  have hA := K.at
  have hx := K.hx
  jvm_step hA [hA.top, hx, hd', Value.category]
  exact q
theorem k_dup2II (K : Wk p l e R s m args below meth c Z a0 EL n0 y bytes maxL ret b T h locs cells slots) {i j : Int32} (hd : decode bytes pc = .ok (.dup2, 1)) (hp : pc + 1 = pc') (k : Goes p.tables e below P (T.setTop (mkF m pc' Ls (.int j :: .int i :: .int j :: .int i :: st)))) : Goes p.tables e below P (T.setTop (mkF m pc Ls (.int j :: .int i :: st))) := by
  subst hp
  refine go (fun t q => ?_) k
  have hd' := (hb K.hby hd)
  have hA := K.at
  have hx := K.hx
  jvm_step hA [hA.top, hx, hd', Value.category]
  exact q
theorem k_dup2AI (K : Wk p l e R s m args below meth c Z a0 EL n0 y bytes maxL ret b T h locs cells slots) {a : Addr} {j : Int32} (hd : decode bytes pc = .ok (.dup2, 1)) (hp : pc + 1 = pc') (k : Goes p.tables e below P (T.setTop (mkF m pc' Ls (.int j :: .ref a :: .int j :: .ref a :: st)))) : Goes p.tables e below P (T.setTop (mkF m pc Ls (.int j :: .ref a :: st))) := by
  subst hp
  refine go (fun t q => ?_) k
  have hd' := (hb K.hby hd)
  have hA := K.at
  have hx := K.hx
  jvm_step hA [hA.top, hx, hd', Value.category]
  exact q
theorem k_pop2J (K : Wk p l e R s m args below meth c Z a0 EL n0 y bytes maxL ret b T h locs cells slots) {i : Int64} (hd : decode bytes pc = .ok (.pop2, 1)) (hp : pc + 1 = pc') (k : Goes p.tables e below P (T.setTop (mkF m pc' Ls st))) : Goes p.tables e below P (T.setTop (mkF m pc Ls (.long i :: st))) := by
  subst hp
  refine go (fun t q => ?_) k
  have hd' := (hb K.hby hd)
  have hA := K.at
  have hx := K.hx
  jvm_step hA [hA.top, hx, hd', Value.category]
  exact q
theorem k_dup_x2AI (K : Wk p l e R s m args below meth c Z a0 EL n0 y bytes maxL ret b T h locs cells slots) {a : Addr} {i j : Int32} (hd : decode bytes pc = .ok (.dup_x2, 1)) (hp : pc + 1 = pc') (k : Goes p.tables e below P (T.setTop (mkF m pc' Ls (.int i :: .int j :: .ref a :: .int i :: st)))) : Goes p.tables e below P (T.setTop (mkF m pc Ls (.int i :: .int j :: .ref a :: st))) := by
  subst hp
  refine go (fun t q => ?_) k
  have hd' := (hb K.hby hd)
  have hA := K.at
  have hx := K.hx
  jvm_step hA [hA.top, hx, hd', Value.category]
  exact q
theorem k_dup2_x1JA (K : Wk p l e R s m args below meth c Z a0 EL n0 y bytes maxL ret b T h locs cells slots) {i : Int64} {a : Addr} (hd : decode bytes pc = .ok (.dup2_x1, 1)) (hp : pc + 1 = pc') (k : Goes p.tables e below P (T.setTop (mkF m pc' Ls (.long i :: .ref a :: .long i :: st)))) : Goes p.tables e below P (T.setTop (mkF m pc Ls (.long i :: .ref a :: st))) := by
  subst hp
  refine go (fun t q => ?_) k
  have hd' := (hb K.hby hd)
  have hA := K.at
  have hx := K.hx
  jvm_step hA [hA.top, hx, hd', Value.category]
  exact q
theorem k_dup2_x2JAI (K : Wk p l e R s m args below meth c Z a0 EL n0 y bytes maxL ret b T h locs cells slots) {i : Int64} {a : Addr} {j : Int32} (hd : decode bytes pc = .ok (.dup2_x2, 1)) (hp : pc + 1 = pc') (k : Goes p.tables e below P (T.setTop (mkF m pc' Ls (.long i :: .int j :: .ref a :: .long i :: st)))) : Goes p.tables e below P (T.setTop (mkF m pc Ls (.long i :: .int j :: .ref a :: st))) := by
  subst hp
  refine go (fun t q => ?_) k
  have hd' := (hb K.hby hd)
  have hA := K.at
  have hx := K.hx
  jvm_step hA [hA.top, hx, hd', Value.category]
  exact q
theorem k_goto (K : Wk p l e R s m args below meth c Z a0 EL n0 y bytes maxL ret b T h locs cells slots) {o : Int} (hd : decode bytes pc = .ok (.goto o, 3)) (ho : 0 ≤ (pc : Int) + o) (hp : ((pc : Int) + o).toNat = pc') (k : Goes p.tables e below P (T.setTop (mkF m pc' Ls st))) : Goes p.tables e below P (T.setTop (mkF m pc Ls st)) := go (fun t q => XS.goto K.at K.hx rfl rfl (hb K.hby hd) ho hp q) k
theorem k_icmp_eq (K : Wk p l e R s m args below meth c Z a0 EL n0 y bytes maxL ret b T h locs cells slots) {i j : Int32} {o : Int} {pc2 : Nat} (hd : decode bytes pc = .ok (.if_icmp .eq o, 3)) (ho : 0 ≤ (pc : Int) + o) (hp : ((pc : Int) + o).toNat = pc') (hp2 : pc + 3 = pc2) (kT : i = j → Goes p.tables e below P (T.setTop (mkF m pc' Ls st))) (kF : ¬ i = j → Goes p.tables e below P (T.setTop (mkF m pc2 Ls st))) : Goes p.tables e below P (T.setTop (mkF m pc Ls (.int j :: .int i :: st))) := by
  subst hp2
  by_cases q : i = j
  · exact go (fun t r => XS.icmpYes K.at K.hx rfl rfl (hb K.hby hd) rfl (XT.ii_eq_t q) ho hp r) (kT q)
  · exact go (fun t r => XS.icmpNo K.at K.hx rfl (hb K.hby hd) rfl (XT.ii_eq_f q) r) (kF q)
theorem k_if_eq (K : Wk p l e R s m args below meth c Z a0 EL n0 y bytes maxL ret b T h locs cells slots) {i : Int32} {o : Int} {pc2 : Nat} (hd : decode bytes pc = .ok (.ifCond .eq o, 3)) (ho : 0 ≤ (pc : Int) + o) (hp : ((pc : Int) + o).toNat = pc') (hp2 : pc + 3 = pc2) (kT : i = 0 → Goes p.tables e below P (T.setTop (mkF m pc' Ls st))) (kF : ¬ i = 0 → Goes p.tables e below P (T.setTop (mkF m pc2 Ls st))) : Goes p.tables e below P (T.setTop (mkF m pc Ls (.int i :: st))) := by
  subst hp2
  by_cases q : i = 0
  · exact go (fun t r => XS.ifYes K.at K.hx rfl rfl (hb K.hby hd) rfl (XT.i0_eq_t q) ho hp r) (kT q)
  · exact go (fun t r => XS.ifNo K.at K.hx rfl (hb K.hby hd) rfl (XT.i0_eq_f q) r) (kF q)
theorem k_lif_eq (K : Wk p l e R s m args below meth c Z a0 EL n0 y bytes maxL ret b T h locs cells slots) {i j : Int64} {o : Int} {pc2 : Nat} (hd : decode bytes pc = .ok (.ifCond .eq o, 3)) (ho : 0 ≤ (pc : Int) + o) (hp : ((pc : Int) + o).toNat = pc') (hp2 : pc + 3 = pc2) (kT : i = j → Goes p.tables e below P (T.setTop (mkF m pc' Ls st))) (kF : ¬ i = j → Goes p.tables e below P (T.setTop (mkF m pc2 Ls st))) : Goes p.tables e below P (T.setTop (mkF m pc Ls (.int (XT.cmpL i j) :: st))) := by
  subst hp2
  by_cases q : i = j
  · exact go (fun t r => XS.ifYes K.at K.hx rfl rfl (hb K.hby hd) rfl (XT.ll_eq_t q) ho hp r) (kT q)
  · exact go (fun t r => XS.ifNo K.at K.hx rfl (hb K.hby hd) rfl (XT.ll_eq_f q) r) (kF q)
theorem k_icmp_ne (K : Wk p l e R s m args below meth c Z a0 EL n0 y bytes maxL ret b T h locs cells slots) {i j : Int32} {o : Int} {pc2 : Nat} (hd : decode bytes pc = .ok (.if_icmp .ne o, 3)) (ho : 0 ≤ (pc : Int) + o) (hp : ((pc : Int) + o).toNat = pc') (hp2 : pc + 3 = pc2) (kT : ¬ i = j → Goes p.tables e below P (T.setTop (mkF m pc' Ls st))) (kF : i = j → Goes p.tables e below P (T.setTop (mkF m pc2 Ls st))) : Goes p.tables e below P (T.setTop (mkF m pc Ls (.int j :: .int i :: st))) := by
  subst hp2
  by_cases q : ¬ i = j
  · exact go (fun t r => XS.icmpYes K.at K.hx rfl rfl (hb K.hby hd) rfl (XT.ii_ne_t q) ho hp r) (kT q)
  · exact go (fun t r => XS.icmpNo K.at K.hx rfl (hb K.hby hd) rfl (XT.ii_ne_f (Classical.not_not.mp q)) r) (kF (Classical.not_not.mp q))
theorem k_if_ne (K : Wk p l e R s m args below meth c Z a0 EL n0 y bytes maxL ret b T h locs cells slots) {i : Int32} {o : Int} {pc2 : Nat} (hd : decode bytes pc = .ok (.ifCond .ne o, 3)) (ho : 0 ≤ (pc : Int) + o) (hp : ((pc : Int) + o).toNat = pc') (hp2 : pc + 3 = pc2) (kT : ¬ i = 0 → Goes p.tables e below P (T.setTop (mkF m pc' Ls st))) (kF : i = 0 → Goes p.tables e below P (T.setTop (mkF m pc2 Ls st))) : Goes p.tables e below P (T.setTop (mkF m pc Ls (.int i :: st))) := by
  subst hp2
  by_cases q : ¬ i = 0
  · exact go (fun t r => XS.ifYes K.at K.hx rfl rfl (hb K.hby hd) rfl (XT.i0_ne_t q) ho hp r) (kT q)
  · exact go (fun t r => XS.ifNo K.at K.hx rfl (hb K.hby hd) rfl (XT.i0_ne_f (Classical.not_not.mp q)) r) (kF (Classical.not_not.mp q))
theorem k_lif_ne (K : Wk p l e R s m args below meth c Z a0 EL n0 y bytes maxL ret b T h locs cells slots) {i j : Int64} {o : Int} {pc2 : Nat} (hd : decode bytes pc = .ok (.ifCond .ne o, 3)) (ho : 0 ≤ (pc : Int) + o) (hp : ((pc : Int) + o).toNat = pc') (hp2 : pc + 3 = pc2) (kT : ¬ i = j → Goes p.tables e below P (T.setTop (mkF m pc' Ls st))) (kF : i = j → Goes p.tables e below P (T.setTop (mkF m pc2 Ls st))) : Goes p.tables e below P (T.setTop (mkF m pc Ls (.int (XT.cmpL i j) :: st))) := by
  subst hp2
  by_cases q : ¬ i = j
  · exact go (fun t r => XS.ifYes K.at K.hx rfl rfl (hb K.hby hd) rfl (XT.ll_ne_t q) ho hp r) (kT q)
  · exact go (fun t r => XS.ifNo K.at K.hx rfl (hb K.hby hd) rfl (XT.ll_ne_f (Classical.not_not.mp q)) r) (kF (Classical.not_not.mp q))
theorem k_icmp_lt (K : Wk p l e R s m args below meth c Z a0 EL n0 y bytes maxL ret b T h locs cells slots) {i j : Int32} {o : Int} {pc2 : Nat} (hd : decode bytes pc = .ok (.if_icmp .lt o, 3)) (ho : 0 ≤ (pc : Int) + o) (hp : ((pc : Int) + o).toNat = pc') (hp2 : pc + 3 = pc2) (kT : i < j → Goes p.tables e below P (T.setTop (mkF m pc' Ls st))) (kF : ¬ i < j → Goes p.tables e below P (T.setTop (mkF m pc2 Ls st))) : Goes p.tables e below P (T.setTop (mkF m pc Ls (.int j :: .int i :: st))) := by
  subst hp2
  by_cases q : i < j
  · exact go (fun t r => XS.icmpYes K.at K.hx rfl rfl (hb K.hby hd) rfl (XT.ii_lt_t q) ho hp r) (kT q)
  · exact go (fun t r => XS.icmpNo K.at K.hx rfl (hb K.hby hd) rfl (XT.ii_lt_f q) r) (kF q)
theorem k_if_lt (K : Wk p l e R s m args below meth c Z a0 EL n0 y bytes maxL ret b T h locs cells slots) {i : Int32} {o : Int} {pc2 : Nat} (hd : decode bytes pc = .ok (.ifCond .lt o, 3)) (ho : 0 ≤ (pc : Int) + o) (hp : ((pc : Int) + o).toNat = pc') (hp2 : pc + 3 = pc2) (kT : i < 0 → Goes p.tables e below P (T.setTop (mkF m pc' Ls st))) (kF : ¬ i < 0 → Goes p.tables e below P (T.setTop (mkF m pc2 Ls st))) : Goes p.tables e below P (T.setTop (mkF m pc Ls (.int i :: st))) := by
  subst hp2
  by_cases q : i < 0
  · exact go (fun t r => XS.ifYes K.at K.hx rfl rfl (hb K.hby hd) rfl (XT.i0_lt_t q) ho hp r) (kT q)
  · exact go (fun t r => XS.ifNo K.at K.hx rfl (hb K.hby hd) rfl (XT.i0_lt_f q) r) (kF q)
theorem k_lif_lt (K : Wk p l e R s m args below meth c Z a0 EL n0 y bytes maxL ret b T h locs cells slots) {i j : Int64} {o : Int} {pc2 : Nat} (hd : decode bytes pc = .ok (.ifCond .lt o, 3)) (ho : 0 ≤ (pc : Int) + o) (hp : ((pc : Int) + o).toNat = pc') (hp2 : pc + 3 = pc2) (kT : i < j → Goes p.tables e below P (T.setTop (mkF m pc' Ls st))) (kF : ¬ i < j → Goes p.tables e below P (T.setTop (mkF m pc2 Ls st))) : Goes p.tables e below P (T.setTop (mkF m pc Ls (.int (XT.cmpL i j) :: st))) := by
  subst hp2
  by_cases q : i < j
  · exact go (fun t r => XS.ifYes K.at K.hx rfl rfl (hb K.hby hd) rfl (XT.ll_lt_t q) ho hp r) (kT q)
  · exact go (fun t r => XS.ifNo K.at K.hx rfl (hb K.hby hd) rfl (XT.ll_lt_f q) r) (kF q)
theorem k_icmp_ge (K : Wk p l e R s m args below meth c Z a0 EL n0 y bytes maxL ret b T h locs cells slots) {i j : Int32} {o : Int} {pc2 : Nat} (hd : decode bytes pc = .ok (.if_icmp .ge o, 3)) (ho : 0 ≤ (pc : Int) + o) (hp : ((pc : Int) + o).toNat = pc') (hp2 : pc + 3 = pc2) (kT : ¬ i < j → Goes p.tables e below P (T.setTop (mkF m pc' Ls st))) (kF : i < j → Goes p.tables e below P (T.setTop (mkF m pc2 Ls st))) : Goes p.tables e below P (T.setTop (mkF m pc Ls (.int j :: .int i :: st))) := by
  subst hp2
  by_cases q : ¬ i < j
  · exact go (fun t r => XS.icmpYes K.at K.hx rfl rfl (hb K.hby hd) rfl (XT.ii_ge_t q) ho hp r) (kT q)
  · exact go (fun t r => XS.icmpNo K.at K.hx rfl (hb K.hby hd) rfl (XT.ii_ge_f (Classical.not_not.mp q)) r) (kF (Classical.not_not.mp q))
theorem k_if_ge (K : Wk p l e R s m args below meth c Z a0 EL n0 y bytes maxL ret b T h locs cells slots) {i : Int32} {o : Int} {pc2 : Nat} (hd : decode bytes pc = .ok (.ifCond .ge o, 3)) (ho : 0 ≤ (pc : Int) + o) (hp : ((pc : Int) + o).toNat = pc') (hp2 : pc + 3 = pc2) (kT : ¬ i < 0 → Goes p.tables e below P (T.setTop (mkF m pc' Ls st))) (kF : i < 0 → Goes p.tables e below P (T.setTop (mkF m pc2 Ls st))) : Goes p.tables e below P (T.setTop (mkF m pc Ls (.int i :: st))) := by
  subst hp2
  by_cases q : ¬ i < 0
  · exact go (fun t r => XS.ifYes K.at K.hx rfl rfl (hb K.hby hd) rfl (XT.i0_ge_t q) ho hp r) (kT q)
  · exact go (fun t r => XS.ifNo K.at K.hx rfl (hb K.hby hd) rfl (XT.i0_ge_f (Classical.not_not.mp q)) r) (kF (Classical.not_not.mp q))
theorem k_lif_ge (K : Wk p l e R s m args below meth c Z a0 EL n0 y bytes maxL ret b T h locs cells slots) {i j : Int64} {o : Int} {pc2 : Nat} (hd : decode bytes pc = .ok (.ifCond .ge o, 3)) (ho : 0 ≤ (pc : Int) + o) (hp : ((pc : Int) + o).toNat = pc') (hp2 : pc + 3 = pc2) (kT : ¬ i < j → Goes p.tables e below P (T.setTop (mkF m pc' Ls st))) (kF : i < j → Goes p.tables e below P (T.setTop (mkF m pc2 Ls st))) : Goes p.tables e below P (T.setTop (mkF m pc Ls (.int (XT.cmpL i j) :: st))) := by
  subst hp2
  by_cases q : ¬ i < j
  · exact go (fun t r => XS.ifYes K.at K.hx rfl rfl (hb K.hby hd) rfl (XT.ll_ge_t q) ho hp r) (kT q)
  · exact go (fun t r => XS.ifNo K.at K.hx rfl (hb K.hby hd) rfl (XT.ll_ge_f (Classical.not_not.mp q)) r) (kF (Classical.not_not.mp q))
theorem k_icmp_gt (K : Wk p l e R s m args below meth c Z a0 EL n0 y bytes maxL ret b T h locs cells slots) {i j : Int32} {o : Int} {pc2 : Nat} (hd : decode bytes pc = .ok (.if_icmp .gt o, 3)) (ho : 0 ≤ (pc : Int) + o) (hp : ((pc : Int) + o).toNat = pc') (hp2 : pc + 3 = pc2) (kT : j < i → Goes p.tables e below P (T.setTop (mkF m pc' Ls st))) (kF : ¬ j < i → Goes p.tables e below P (T.setTop (mkF m pc2 Ls st))) : Goes p.tables e below P (T.setTop (mkF m pc Ls (.int j :: .int i :: st))) := by
  subst hp2
  by_cases q : j < i
  · exact go (fun t r => XS.icmpYes K.at K.hx rfl rfl (hb K.hby hd) rfl (XT.ii_gt_t q) ho hp r) (kT q)
  · exact go (fun t r => XS.icmpNo K.at K.hx rfl (hb K.hby hd) rfl (XT.ii_gt_f q) r) (kF q)
theorem k_if_gt (K : Wk p l e R s m args below meth c Z a0 EL n0 y bytes maxL ret b T h locs cells slots) {i : Int32} {o : Int} {pc2 : Nat} (hd : decode bytes pc = .ok (.ifCond .gt o, 3)) (ho : 0 ≤ (pc : Int) + o) (hp : ((pc : Int) + o).toNat = pc') (hp2 : pc + 3 = pc2) (kT : 0 < i → Goes p.tables e below P (T.setTop (mkF m pc' Ls st))) (kF : ¬ 0 < i → Goes p.tables e below P (T.setTop (mkF m pc2 Ls st))) : Goes p.tables e below P (T.setTop (mkF m pc Ls (.int i :: st))) := by
  subst hp2
  by_cases q : 0 < i
  · exact go (fun t r => XS.ifYes K.at K.hx rfl rfl (hb K.hby hd) rfl (XT.i0_gt_t q) ho hp r) (kT q)
  · exact go (fun t r => XS.ifNo K.at K.hx rfl (hb K.hby hd) rfl (XT.i0_gt_f q) r) (kF q)
theorem k_lif_gt (K : Wk p l e R s m args below meth c Z a0 EL n0 y bytes maxL ret b T h locs cells slots) {i j : Int64} {o : Int} {pc2 : Nat} (hd : decode bytes pc = .ok (.ifCond .gt o, 3)) (ho : 0 ≤ (pc : Int) + o) (hp : ((pc : Int) + o).toNat = pc') (hp2 : pc + 3 = pc2) (kT : j < i → Goes p.tables e below P (T.setTop (mkF m pc' Ls st))) (kF : ¬ j < i → Goes p.tables e below P (T.setTop (mkF m pc2 Ls st))) : Goes p.tables e below P (T.setTop (mkF m pc Ls (.int (XT.cmpL i j) :: st))) := by
  subst hp2
  by_cases q : j < i
  · exact go (fun t r => XS.ifYes K.at K.hx rfl rfl (hb K.hby hd) rfl (XT.ll_gt_t q) ho hp r) (kT q)
  · exact go (fun t r => XS.ifNo K.at K.hx rfl (hb K.hby hd) rfl (XT.ll_gt_f q) r) (kF q)
theorem k_icmp_le (K : Wk p l e R s m args below meth c Z a0 EL n0 y bytes maxL ret b T h locs cells slots) {i j : Int32} {o : Int} {pc2 : Nat} (hd : decode bytes pc = .ok (.if_icmp .le o, 3)) (ho : 0 ≤ (pc : Int) + o) (hp : ((pc : Int) + o).toNat = pc') (hp2 : pc + 3 = pc2) (kT : ¬ j < i → Goes p.tables e below P (T.setTop (mkF m pc' Ls st))) (kF : j < i → Goes p.tables e below P (T.setTop (mkF m pc2 Ls st))) : Goes p.tables e below P (T.setTop (mkF m pc Ls (.int j :: .int i :: st))) := by
  subst hp2
  by_cases q : ¬ j < i
  · exact go (fun t r => XS.icmpYes K.at K.hx rfl rfl (hb K.hby hd) rfl (XT.ii_le_t q) ho hp r) (kT q)
  · exact go (fun t r => XS.icmpNo K.at K.hx rfl (hb K.hby hd) rfl (XT.ii_le_f (Classical.not_not.mp q)) r) (kF (Classical.not_not.mp q))
theorem k_if_le (K : Wk p l e R s m args below meth c Z a0 EL n0 y bytes maxL ret b T h locs cells slots) {i : Int32} {o : Int} {pc2 : Nat} (hd : decode bytes pc = .ok (.ifCond .le o, 3)) (ho : 0 ≤ (pc : Int) + o) (hp : ((pc : Int) + o).toNat = pc') (hp2 : pc + 3 = pc2) (kT : ¬ 0 < i → Goes p.tables e below P (T.setTop (mkF m pc' Ls st))) (kF : 0 < i → Goes p.tables e below P (T.setTop (mkF m pc2 Ls st))) : Goes p.tables e below P (T.setTop (mkF m pc Ls (.int i :: st))) := by
  subst hp2
  by_cases q : ¬ 0 < i
  · exact go (fun t r => XS.ifYes K.at K.hx rfl rfl (hb K.hby hd) rfl (XT.i0_le_t q) ho hp r) (kT q)
  · exact go (fun t r => XS.ifNo K.at K.hx rfl (hb K.hby hd) rfl (XT.i0_le_f (Classical.not_not.mp q)) r) (kF (Classical.not_not.mp q))
theorem k_lif_le (K : Wk p l e R s m args below meth c Z a0 EL n0 y bytes maxL ret b T h locs cells slots) {i j : Int64} {o : Int} {pc2 : Nat} (hd : decode bytes pc = .ok (.ifCond .le o, 3)) (ho : 0 ≤ (pc : Int) + o) (hp : ((pc : Int) + o).toNat = pc') (hp2 : pc + 3 = pc2) (kT : ¬ j < i → Goes p.tables e below P (T.setTop (mkF m pc' Ls st))) (kF : j < i → Goes p.tables e below P (T.setTop (mkF m pc2 Ls st))) : Goes p.tables e below P (T.setTop (mkF m pc Ls (.int (XT.cmpL i j) :: st))) := by
  subst hp2
  by_cases q : ¬ j < i
  · exact go (fun t r => XS.ifYes K.at K.hx rfl rfl (hb K.hby hd) rfl (XT.ll_le_t q) ho hp r) (kT q)
  · exact go (fun t r => XS.ifNo K.at K.hx rfl (hb K.hby hd) rfl (XT.ll_le_f (Classical.not_not.mp q)) r) (kF (Classical.not_not.mp q))
theorem k_acmp_eq (K : Wk p l e R s m args below meth c Z a0 EL n0 y bytes maxL ret b T h locs cells slots) {u v : Value} (hu : u.isRef = true) (hv : v.isRef = true) {o : Int} {pc2 : Nat} (hd : decode bytes pc = .ok (.if_acmp .eq o, 3)) (ho : 0 ≤ (pc : Int) + o) (hp : ((pc : Int) + o).toNat = pc') (hp2 : pc + 3 = pc2) (kE : u = v → Goes p.tables e below P (T.setTop (mkF m pc' Ls st))) (kN : ¬ u = v → Goes p.tables e below P (T.setTop (mkF m pc2 Ls st))) : Goes p.tables e below P (T.setTop (mkF m pc Ls (v :: u :: st))) := by
  subst hp2 hp
  by_cases q : u = v
  · exact go (fun t r => Jvm.RoadKit.acmp (g := mkF m pc Ls (v :: u :: st)) K.X K.hx rfl hu hv (pc0 := pc) (same := true) rfl (hb K.hby hd) rfl (decide_eq_true q) ho rfl r) (kE q)
  · exact go (fun t r => Jvm.RoadKit.acmp (g := mkF m pc Ls (v :: u :: st)) K.X K.hx rfl hu hv (pc0 := pc) (same := false) rfl (hb K.hby hd) rfl (decide_eq_false q) ho rfl r) (kN q)
theorem k_acmp_ne (K : Wk p l e R s m args below meth c Z a0 EL n0 y bytes maxL ret b T h locs cells slots) {u v : Value} (hu : u.isRef = true) (hv : v.isRef = true) {o : Int} {pc2 : Nat} (hd : decode bytes pc = .ok (.if_acmp .ne o, 3)) (ho : 0 ≤ (pc : Int) + o) (hp : ((pc : Int) + o).toNat = pc') (hp2 : pc + 3 = pc2) (kE : u = v → Goes p.tables e below P (T.setTop (mkF m pc2 Ls st))) (kN : ¬ u = v → Goes p.tables e below P (T.setTop (mkF m pc' Ls st))) : Goes p.tables e below P (T.setTop (mkF m pc Ls (v :: u :: st))) := by
  subst hp2 hp
  by_cases q : u = v
  · exact go (fun t r => Jvm.RoadKit.acmp (g := mkF m pc Ls (v :: u :: st)) K.X K.hx rfl hu hv (pc0 := pc) (same := true) rfl (hb K.hby hd) rfl (decide_eq_true q) ho rfl r) (kE q)
  · exact go (fun t r => Jvm.RoadKit.acmp (g := mkF m pc Ls (v :: u :: st)) K.X K.hx rfl hu hv (pc0 := pc) (same := false) rfl (hb K.hby hd) rfl (decide_eq_false q) ho rfl r) (kN q)
theorem k_ifnull (K : Wk p l e R s m args below meth c Z a0 EL n0 y bytes maxL ret b T h locs cells slots) {v : Value} (hv : v.isRef = true) {o : Int} {pc2 : Nat} (hd : decode bytes pc = .ok (.ifnull o, 3)) (ho : 0 ≤ (pc : Int) + o) (hp : ((pc : Int) + o).toNat = pc') (hp2 : pc + 3 = pc2) (kT : v = .null → Goes p.tables e below P (T.setTop (mkF m pc' Ls st))) (kF : ¬ v = .null → Goes p.tables e below P (T.setTop (mkF m pc2 Ls st))) : Goes p.tables e below P (T.setTop (mkF m pc Ls (v :: st))) := by
  subst hp2
  by_cases qn : v = .null
  · exact go (fun t r => XT.nullYes K.at K.hx rfl rfl (hb K.hby hd) rfl qn ho hp r) (kT qn)
  · exact go (fun t r => XT.nullNo K.at K.hx rfl (hb K.hby hd) rfl hv qn r) (kF qn)
theorem k_ifnonnull (K : Wk p l e R s m args below meth c Z a0 EL n0 y bytes maxL ret b T h locs cells slots) {v : Value} (hv : v.isRef = true) {o : Int} {pc2 : Nat} (hd : decode bytes pc = .ok (.ifnonnull o, 3)) (ho : 0 ≤ (pc : Int) + o) (hp : ((pc : Int) + o).toNat = pc') (hp2 : pc + 3 = pc2) (kT : ¬ v = .null → Goes p.tables e below P (T.setTop (mkF m pc' Ls st))) (kF : v = .null → Goes p.tables e below P (T.setTop (mkF m pc2 Ls st))) : Goes p.tables e below P (T.setTop (mkF m pc Ls (v :: st))) := by
  subst hp2
  by_cases qn : v = .null
  · exact go (fun t r => XT.nonnullNo K.at K.hx rfl (hb K.hby hd) rfl qn r) (kF qn)
  · exact go (fun t r => XT.nonnullYes K.at K.hx rfl rfl (hb K.hby hd) rfl hv qn ho hp r) (kT qn)
theorem k_getF (K : Wk p l e R s m args below meth c Z a0 EL n0 y bytes maxL ret b T h locs cells slots) {R0 O n d : String} {i : Nat} {a : Addr} {v : Value} (wd : (Cond.fieldLink y.cls i R0 n d).before a0 Z = true) (via : Via Z R0 O n d) (F : Fld Z h a O n d v) (hd : decode bytes pc = .ok (.getfield i, 3)) (hp : pc + 3 = pc') (k : ∀ T', Wk p l e R s m args below meth c Z a0 EL n0 y bytes maxL ret b T' h locs cells slots → Goes p.tables e below P (T'.setTop (mkF m pc' Ls (v :: st)))) : Goes p.tables e below P (T.setTop (mkF m pc Ls (.ref a :: st))) := by
  subst hp
  obtain ⟨T', X', e', q⟩ := Jvm.RoadKit.getF K.X K.hx K.hZ (host := "") K.hown (Or.inl wd) via K.eT F (g := mkF m pc Ls (.ref a :: st)) rfl rfl (hb K.hby hd)
  exact go q (k T' (K.move X' e' K.fr K.old K.bs))
theorem k_getFN (K : Wk p l e R s m args below meth c Z a0 EL n0 y bytes maxL ret b T h locs cells slots) {R0 O n d host : String} {i : Nat} {a : Addr} {v : Value} (wd : (Cond.fieldLinkNest y.cls i R0 n d host).before a0 Z = true) (via : Via Z R0 O n d) (F : Fld Z h a O n d v) (hd : decode bytes pc = .ok (.getfield i, 3)) (hp : pc + 3 = pc') (k : ∀ T', Wk p l e R s m args below meth c Z a0 EL n0 y bytes maxL ret b T' h locs cells slots → Goes p.tables e below P (T'.setTop (mkF m pc' Ls (v :: st)))) : Goes p.tables e below P (T.setTop (mkF m pc Ls (.ref a :: st))) := by
  subst hp
  obtain ⟨T', X', e', q⟩ := Jvm.RoadKit.getF K.X K.hx K.hZ K.hown (Or.inr wd) via K.eT F (g := mkF m pc Ls (.ref a :: st)) rfl rfl (hb K.hby hd)
  exact go q (k T' (K.move X' e' K.fr K.old K.bs))
theorem k_getS (K : Wk p l e R s m args below meth c Z a0 EL n0 y bytes maxL ret b T h locs cells slots) {R0 O n d : String} {i : Nat} {v : Value} (wd : (Cond.fieldLink y.cls i R0 n d).before a0 Z = true) (via : Via Z R0 O n d) (F : Sta Z Z.heap O n d v) (hd : decode bytes pc = .ok (.getstatic i, 3)) (hp : pc + 3 = pc') (k : ∀ T', Wk p l e R s m args below meth c Z a0 EL n0 y bytes maxL ret b T' h locs cells slots → Goes p.tables e below P (T'.setTop (mkF m pc' Ls (v :: st)))) : Goes p.tables e below P (T.setTop (mkF m pc Ls st)) := by
  subst hp
  obtain ⟨T', X', e', q⟩ := getS2 K.X K.hx K.hZ K.hown (host := "") (Or.inl wd) via K.eT (F.ext K.old.2) (g := mkF m pc Ls st) rfl (hb K.hby hd)
  exact go q (k T' (K.move X' e' K.fr K.old K.bs))
theorem k_getSN (K : Wk p l e R s m args below meth c Z a0 EL n0 y bytes maxL ret b T h locs cells slots) {R0 O n d host : String} {i : Nat} {v : Value} (wd : (Cond.fieldLinkNest y.cls i R0 n d host).before a0 Z = true) (via : Via Z R0 O n d) (F : Sta Z Z.heap O n d v) (hd : decode bytes pc = .ok (.getstatic i, 3)) (hp : pc + 3 = pc') (k : ∀ T', Wk p l e R s m args below meth c Z a0 EL n0 y bytes maxL ret b T' h locs cells slots → Goes p.tables e below P (T'.setTop (mkF m pc' Ls (v :: st)))) : Goes p.tables e below P (T.setTop (mkF m pc Ls st)) := by
  subst hp
  obtain ⟨T', X', e', q⟩ := getS2 K.X K.hx K.hZ K.hown (Or.inr wd) via K.eT (F.ext K.old.2) (g := mkF m pc Ls st) rfl (hb K.hby hd)
  exact go q (k T' (K.move X' e' K.fr K.old K.bs))
theorem k_castY (K : Wk p l e R s m args below meth c Z a0 EL n0 y bytes maxL ret b T h locs cells slots) {C : String} {i : Nat} {a : Addr} (wd : (Cond.classLink y.cls i C).before a0 Z = true) (F : Ins Z h a C true) (hd : decode bytes pc = .ok (.checkcast i, 3)) (hp : pc + 3 = pc') (k : ∀ T', Wk p l e R s m args below meth c Z a0 EL n0 y bytes maxL ret b T' h locs cells slots → Goes p.tables e below P (T'.setTop (mkF m pc' Ls (.ref a :: st)))) : Goes p.tables e below P (T.setTop (mkF m pc Ls (.ref a :: st))) := by
  subst hp
  obtain ⟨T', X', e', q⟩ := castY K.X K.hx K.hZ K.hown wd K.eT F (g := mkF m pc Ls (.ref a :: st)) rfl rfl (hb K.hby hd)
  exact go q (k T' (K.move X' e' K.fr K.old K.bs))
theorem k_instY (K : Wk p l e R s m args below meth c Z a0 EL n0 y bytes maxL ret b T h locs cells slots) {C : String} {i : Nat} {a : Addr} (wd : (Cond.classLink y.cls i C).before a0 Z = true) (F : Ins Z h a C true) (hd : decode bytes pc = .ok (.instanceof i, 3)) (hp : pc + 3 = pc') (k : ∀ T', Wk p l e R s m args below meth c Z a0 EL n0 y bytes maxL ret b T' h locs cells slots → Goes p.tables e below P (T'.setTop (mkF m pc' Ls (.int 1 :: st)))) : Goes p.tables e below P (T.setTop (mkF m pc Ls (.ref a :: st))) := by
  subst hp
  obtain ⟨T', X', e', q⟩ := instY K.X K.hx K.hZ K.hown wd K.eT F (g := mkF m pc Ls (.ref a :: st)) rfl rfl (hb K.hby hd)
  exact go q (k T' (K.move X' e' K.fr K.old K.bs))
theorem instN_at (X : Stand p l e R s m args below meth c T locs cells slots) (hx : p.tables.exec = Jvm.exec) (hZ : Z.Warmed39 s.vm) {own C D : String} {index : Nat} (hown : s.vm.findClass own = some m.cls) (w : (Cond.classLink own index C).before a0 Z = true) (eT : T.heap = h) {a : Addr} (F : Ins Z h a C false) (E : Exa Z h a D)
    {g : JFrame} (hg : g.method = m) {rest : List Value} (hs : g.stack = .ref a :: rest) (hd : decode c.code g.pc = .ok (.instanceof index, 3)) : ∃ T', Stand p l e R s m args below meth c T' locs cells slots ∧ T'.heap = h ∧ ∀ target, Steps p.tables e below (T'.setTop { g with pc := g.pc + 3, stack := .int 0 :: rest }) target → Steps p.tables e below (T.setTop g) target := by
  obtain ⟨cell, cT, h1, h2, h3⟩ := F
  obtain ⟨cell', k, e1, -, e3, e4, -⟩ := E
  cases h1.symm.trans e1
  obtain ⟨k', q, -⟩ := hZ.alike.2.2 _ _ e3
  obtain ⟨vm', X', st⟩ := Jvm.Sym.instanceofNoAt X hx hown (mvT hZ w) (by rw [eT]; exact h1) e4 q (by rw [hZ.alike.findClass]; exact h2) (by rw [hZ.alike.assignable]; simpa [e4] using h3) hg hs hd
  exact ⟨_, X', eT, st⟩
theorem k_instN (K : Wk p l e R s m args below meth c Z a0 EL n0 y bytes maxL ret b T h locs cells slots) {C D : String} {i : Nat} {a : Addr} (wd : (Cond.classLink y.cls i C).before a0 Z = true) (F : Ins Z h a C false) (E : Exa Z h a D) (hd : decode bytes pc = .ok (.instanceof i, 3)) (hp : pc + 3 = pc') (k : ∀ T', Wk p l e R s m args below meth c Z a0 EL n0 y bytes maxL ret b T' h locs cells slots → Goes p.tables e below P (T'.setTop (mkF m pc' Ls (.int 0 :: st)))) : Goes p.tables e below P (T.setTop (mkF m pc Ls (.ref a :: st))) := by
  subst hp
  obtain ⟨T', X', e', q⟩ := instN_at K.X K.hx K.hZ K.hown wd K.eT F E (g := mkF m pc Ls (.ref a :: st)) rfl rfl (hb K.hby hd)
  exact go q (k T' (K.move X' e' K.fr K.old K.bs))
theorem k_instNull (K : Wk p l e R s m args below meth c Z a0 EL n0 y bytes maxL ret b T h locs cells slots) {i : Nat} (hd : decode bytes pc = .ok (.instanceof i, 3)) (hp : pc + 3 = pc') (k : Goes p.tables e below P (T.setTop (mkF m pc' Ls (.int 0 :: st)))) : Goes p.tables e below P (T.setTop (mkF m pc Ls (.null :: st))) := by
  subst hp
  exact go (fun t q => K.X.instanceofNull K.hx (g := mkF m pc Ls (.null :: st)) rfl rfl (hb K.hby hd) _ q) k
theorem k_castNull (K : Wk p l e R s m args below meth c Z a0 EL n0 y bytes maxL ret b T h locs cells slots) {i : Nat} (hd : decode bytes pc = .ok (.checkcast i, 3)) (hp : pc + 3 = pc') (k : Goes p.tables e below P (T.setTop (mkF m pc' Ls (.null :: st)))) : Goes p.tables e below P (T.setTop (mkF m pc Ls (.null :: st))) := by
  subst hp
  exact go (fun t q => K.X.checkcastNull K.hx (g := mkF m pc Ls (.null :: st)) rfl rfl (hb K.hby hd) _ q) k
theorem k_iaload (K : Wk p l e R s m args below meth c Z a0 EL n0 y bytes maxL ret b T h locs cells slots) {a : Addr} {kk : ClassId} {z j : Int32} {vs : List Value} {dv : Value} {v : Int32} (F : Arv Z h a kk .int z vs dv) (hj : ¬ j < 0 ∧ j < z) (hv : vs.getD j.toNatClampNeg dv = .int v) (hd : decode bytes pc = .ok (.iaload, 1)) (hp : pc + 1 = pc') (k : Goes p.tables e below P (T.setTop (mkF m pc' Ls (.int v :: st)))) : Goes p.tables e below P (T.setTop (mkF m pc Ls (.int j :: .ref a :: st))) := by
  subst hp
  obtain ⟨cl, Ar, -, S, -, H, -⟩ := F
  exact go (fun t q => K.X.iaload K.hx (j := j) (v := .int v) (by rw [K.eT]; exact Ar.1) (State.isArrayOf_alike K.hZ.alike Ar.2.1) Ar.2.2 (inb_of S hj) (H.at (inb_of S hj) hv) (g := mkF m pc Ls (.int j :: .ref a :: st)) rfl rfl (hb K.hby hd) _ q) k
theorem k_caload (K : Wk p l e R s m args below meth c Z a0 EL n0 y bytes maxL ret b T h locs cells slots) {a : Addr} {kk : ClassId} {z j : Int32} {vs : List Value} {dv : Value} {v : Int32} (F : Arv Z h a kk .char z vs dv) (hj : ¬ j < 0 ∧ j < z) (hv : vs.getD j.toNatClampNeg dv = .int v) (hd : decode bytes pc = .ok (.caload, 1)) (hp : pc + 1 = pc') (k : Goes p.tables e below P (T.setTop (mkF m pc' Ls (.int v :: st)))) : Goes p.tables e below P (T.setTop (mkF m pc Ls (.int j :: .ref a :: st))) := by
  subst hp
  obtain ⟨cl, Ar, -, S, -, H, -⟩ := F
  exact go (fun t q => K.X.caload K.hx (j := j) (v := .int v) (by rw [K.eT]; exact Ar.1) (State.isArrayOf_alike K.hZ.alike Ar.2.1) Ar.2.2 (inb_of S hj) (H.at (inb_of S hj) hv) (g := mkF m pc Ls (.int j :: .ref a :: st)) rfl rfl (hb K.hby hd) _ q) k
theorem k_baload (K : Wk p l e R s m args below meth c Z a0 EL n0 y bytes maxL ret b T h locs cells slots) {a : Addr} {kk : ClassId} {z j : Int32} {vs : List Value} {dv : Value} {v : Int32} (F : Arv Z h a kk .byte z vs dv) (hj : ¬ j < 0 ∧ j < z) (hv : vs.getD j.toNatClampNeg dv = .int v) (hd : decode bytes pc = .ok (.baload, 1)) (hp : pc + 1 = pc') (k : Goes p.tables e below P (T.setTop (mkF m pc' Ls (.int v :: st)))) : Goes p.tables e below P (T.setTop (mkF m pc Ls (.int j :: .ref a :: st))) := by
  subst hp
  obtain ⟨cl, Ar, -, S, -, H, -⟩ := F
  exact go (fun t q => K.X.baloadBytes K.hx (j := j) (v := .int v) (by rw [K.eT]; exact Ar.1) (State.isArrayOf_alike K.hZ.alike Ar.2.1) Ar.2.2 (inb_of S hj) (H.at (inb_of S hj) hv) (g := mkF m pc Ls (.int j :: .ref a :: st)) rfl rfl (hb K.hby hd) _ q) k
theorem k_laload (K : Wk p l e R s m args below meth c Z a0 EL n0 y bytes maxL ret b T h locs cells slots) {a : Addr} {kk : ClassId} {z j : Int32} {vs : List Value} {dv : Value} {v : Int64} (F : Arv Z h a kk .long z vs dv) (hj : ¬ j < 0 ∧ j < z) (hv : vs.getD j.toNatClampNeg dv = .long v) (hd : decode bytes pc = .ok (.laload, 1)) (hp : pc + 1 = pc') (k : Goes p.tables e below P (T.setTop (mkF m pc' Ls (.long v :: st)))) : Goes p.tables e below P (T.setTop (mkF m pc Ls (.int j :: .ref a :: st))) := by
  subst hp
  obtain ⟨cl, Ar, -, S, -, H, -⟩ := F
  exact go (fun t q => K.X.laload K.hx (j := j) (v := .long v) (by rw [K.eT]; exact Ar.1) (State.isArrayOf_alike K.hZ.alike Ar.2.1) Ar.2.2 (inb_of S hj) (H.at (inb_of S hj) hv) (g := mkF m pc Ls (.int j :: .ref a :: st)) rfl rfl (hb K.hby hd) _ q) k
theorem k_aaload (K : Wk p l e R s m args below meth c Z a0 EL n0 y bytes maxL ret b T h locs cells slots) {a : Addr} {kk : ClassId} {ty : FieldType} {z j : Int32} {vs : List Value} {dv v : Value} (F : Arv Z h a kk ty z vs dv) (hty : ty.isReference = true) (hj : ¬ j < 0 ∧ j < z) (hv : vs.getD j.toNatClampNeg dv = v) (hd : decode bytes pc = .ok (.aaload, 1)) (hp : pc + 1 = pc') (k : Goes p.tables e below P (T.setTop (mkF m pc' Ls (v :: st)))) : Goes p.tables e below P (T.setTop (mkF m pc Ls (.int j :: .ref a :: st))) := by
  subst hp
  obtain ⟨cl, Ar, -, S, -, H, -⟩ := F
  exact go (fun t q => K.X.aaload K.hx (j := j) (v := v) (by rw [K.eT]; exact Ar.1) (State.isArrayOf_alike K.hZ.alike Ar.2.1) hty Ar.2.2 (inb_of S hj) (H.at (inb_of S hj) hv) (g := mkF m pc Ls (.int j :: .ref a :: st)) rfl rfl (hb K.hby hd) _ q) k
theorem k_len (K : Wk p l e R s m args below meth c Z a0 EL n0 y bytes maxL ret b T h locs cells slots) {a : Addr} {kk : ClassId} {ty : FieldType} {z : Int32} {vs : List Value} {dv : Value} (F : Arv Z h a kk ty z vs dv) (hd : decode bytes pc = .ok (.arraylength, 1)) (hp : pc + 1 = pc') (k : Goes p.tables e below P (T.setTop (mkF m pc' Ls (.int z :: st)))) : Goes p.tables e below P (T.setTop (mkF m pc Ls (.ref a :: st))) := by
  subst hp
  obtain ⟨cl, Ar, -, S, N, -, -⟩ := F
  refine go (fun t q => K.X.arraylength K.hx (by rw [K.eT]; exact Ar.1) (State.isArrayOf_alike K.hZ.alike Ar.2.1) (g := mkF m pc Ls (.ref a :: st)) rfl rfl (hb K.hby hd) _ (by rw [len_of S N]; exact q)) k
theorem bs_ext (K : Wk p l e R s m args below meth c Z a0 EL n0 y bytes maxL ret b T h locs cells slots) {h' : Heap} (E : Ext h h') : Bs Z a0 EL s b h' := by
  obtain ⟨⟨vm0, k0, e1, e2, e3⟩, e4, e5⟩ := K.bs
  exact ⟨⟨vm0, k0, e1, e2, Nat.le_trans e3 E.1⟩, e4.trans (CHr.ext E e4.1), e5⟩
theorem bs_wr (K : Wk p l e R s m args below meth c Z a0 EL n0 y bytes maxL ret b T h locs cells slots) {h' : Heap} {a : Addr} {sl : Nat} {v : Value} (W : Wr h h' a sl v) (sf : Sfe Z EL b.vm h a) : Bs Z a0 EL s b h' := by
  obtain ⟨⟨vm0, k0, e1, e2, e3⟩, e4, e5⟩ := K.bs
  exact ⟨⟨vm0, k0, e1, e2, by rw [W.size]; exact e3⟩, e4.trans (CHr.wr W sf e4.1), e5⟩
theorem sfe_ext (K : Wk p l e R s m args below meth c Z a0 EL n0 y bytes maxL ret b T h locs cells slots) {h' : Heap} (E : Ext h h') (x : Addr) (_ : x < h.size) (q : Sfe Z EL b.vm h x) : Sfe Z EL b.vm h' x := Safe.ext E K.bs.2.1.1 q
theorem sfe_wr (K : Wk p l e R s m args below meth c Z a0 EL n0 y bytes maxL ret b T h locs cells slots) {h' : Heap} {a : Addr} {sl : Nat} {v : Value} (W : Wr h h' a sl v) (sf : Sfe Z EL b.vm h a) (x : Addr) (_ : x < h.size) (q : Sfe Z EL b.vm h x) : Sfe Z EL b.vm h' x := Safe.wr W sf K.bs.2.1.1 q
theorem sfe_ext_new (K : Wk p l e R s m args below meth c Z a0 EL n0 y bytes maxL ret b T h locs cells slots) {h' : Heap} (E : Ext h h') : Sfe Z EL b.vm h' h.size := fun B => sfe_new (Nat.le_refl _) ((CHv.step K.bs.2.1.1 fun _ _ _ q => E.2 _ _ q).2 _ B)
theorem k_new (K : Wk p l e R s m args below meth c Z a0 EL n0 y bytes maxL ret b T h locs cells slots) {C : String} {i n : Nat} (wl : (Cond.classLink y.cls i C).before a0 Z = true) (wi : (Cond.instantiable C n).before a0 Z = true) (wz : (Cond.initialized C).before a0 Z = true) (hd : decode bytes pc = .ok (.new i, 3)) (hp : pc + 3 = pc') (hce : cells + 1 ≤ R.cells) (hsl : slots + n ≤ R.slots) (k : ∀ T' h' a, a = h.size → Wk p l e R s m args below meth c Z a0 EL n0 y bytes maxL ret b T' h' locs (cells + 1) (slots + n) → Ext h h' → (∀ x, x < h.size → Sfe Z EL b.vm h x → Sfe Z EL b.vm h' x) → Sfe Z EL b.vm h' a → Exa Z h' a C → (∀ {O nm d : String} {ty : FieldType}, Laid Z a0 C O nm d → parseFieldDescriptor d = some ty → Fld Z h' a O nm d (defaultValue ty)) → Unt h' a → Goes p.tables e below P (T'.setTop (mkF m pc' Ls (.ref a :: st)))) : Goes p.tables e below P (T.setTop (mkF m pc Ls st)) := by
  subst hp
  obtain ⟨T', h', X', e', E', A', D', U', q⟩ := newO K.X K.hx K.hZ K.hown wl wi wz K.eT (g := mkF m pc Ls st) rfl (hb K.hby hd) hce hsl
  exact go q (k T' h' _ rfl (K.move X' e' K.fr (K.old.ext E') (bs_ext K E')) E' (sfe_ext K E') (sfe_ext_new K E') A' D' U')
theorem k_putF (K : Wk p l e R s m args below meth c Z a0 EL n0 y bytes maxL ret b T h locs cells slots) {R0 O n d C : String} {i kk : Nat} {ty : FieldType} {a : Addr} {v old : Value} (wd : (Cond.fieldLink y.cls i R0 n d).before a0 Z = true) (via : Via Z R0 O n d) (F : Fld Z h a O n d old) (E : Exa Z h a C) (L : (Cond.lays C O n d).before a0 Z = true ∨ ((Cond.laysFinal C O n d).before a0 Z = true ∧ y.cls = O ∧ y.name = "<init>")) (wi : (Cond.instantiable C kk).before a0 Z = true) (hty : parseFieldDescriptor d = some ty) (hn : narrow ty v = v) (hf : fits ty v = true) (ga : n0 ≤ a) (sf : Sfe Z EL b.vm h a) (hd : decode bytes pc = .ok (.putfield i, 3)) (hp : pc + 3 = pc') (k : ∀ T' h', Wk p l e R s m args below meth c Z a0 EL n0 y bytes maxL ret b T' h' (locs ++ [⟨a, Jvm.RoadKit.slotOf Z O n d⟩]) cells slots → Wr h h' a (Jvm.RoadKit.slotOf Z O n d) v → (∀ x, x < h.size → Sfe Z EL b.vm h x → Sfe Z EL b.vm h' x) → Goes p.tables e below P (T'.setTop (mkF m pc' Ls st))) : Goes p.tables e below P (T.setTop (mkF m pc Ls (v :: .ref a :: st))) := by
  subst hp
  obtain ⟨T', h', X', e', W', q⟩ := putF K.X K.hx K.hZ (host := "") K.hown (Or.inl wd) via K.eT F E (L.imp id fun ⟨q1, q2, q3⟩ => ⟨q1, q2, K.hnm.trans q3⟩) wi hty hn hf (g := mkF m pc Ls (v :: .ref a :: st)) rfl rfl (hb K.hby hd)
  exact go q (k T' h' (K.move X' e' (Fr.snoc X' K.fr ga) (K.old.wr W' ga) (bs_wr K W' sf)) W' (sfe_wr K W' sf))
theorem k_putFH (K : Wk p l e R s m args below meth c Z a0 EL n0 y bytes maxL ret b T h locs cells slots) {R0 O n d C host : String} {i kk : Nat} {ty : FieldType} {a : Addr} {v old : Value} (wd : (Cond.fieldLinkNest y.cls i R0 n d host).before a0 Z = true) (via : Via Z R0 O n d) (F : Fld Z h a O n d old) (E : Exa Z h a C) (L : (Cond.lays C O n d).before a0 Z = true ∨ ((Cond.laysFinal C O n d).before a0 Z = true ∧ y.cls = O ∧ y.name = "<init>")) (wi : (Cond.instantiable C kk).before a0 Z = true) (hty : parseFieldDescriptor d = some ty) (hn : narrow ty v = v) (hf : fits ty v = true) (ga : n0 ≤ a) (sf : Sfe Z EL b.vm h a) (hd : decode bytes pc = .ok (.putfield i, 3)) (hp : pc + 3 = pc') (k : ∀ T' h', Wk p l e R s m args below meth c Z a0 EL n0 y bytes maxL ret b T' h' (locs ++ [⟨a, Jvm.RoadKit.slotOf Z O n d⟩]) cells slots → Wr h h' a (Jvm.RoadKit.slotOf Z O n d) v → (∀ x, x < h.size → Sfe Z EL b.vm h x → Sfe Z EL b.vm h' x) → Goes p.tables e below P (T'.setTop (mkF m pc' Ls st))) : Goes p.tables e below P (T.setTop (mkF m pc Ls (v :: .ref a :: st))) := by
  subst hp
  obtain ⟨T', h', X', e', W', q⟩ := putF K.X K.hx K.hZ K.hown (Or.inr wd) via K.eT F E (L.imp id fun ⟨q1, q2, q3⟩ => ⟨q1, q2, K.hnm.trans q3⟩) wi hty hn hf (g := mkF m pc Ls (v :: .ref a :: st)) rfl rfl (hb K.hby hd)
  exact go q (k T' h' (K.move X' e' (Fr.snoc X' K.fr ga) (K.old.wr W' ga) (bs_wr K W' sf)) W' (sfe_wr K W' sf))
theorem k_putFN (K : Wk p l e R s m args below meth c Z a0 EL n0 y bytes maxL ret b T h locs cells slots) {R0 O n d C : String} {i kk : Nat} {ty : FieldType} {a : Addr} {v v' old : Value} (wd : (Cond.fieldLink y.cls i R0 n d).before a0 Z = true) (via : Via Z R0 O n d) (F : Fld Z h a O n d old) (E : Exa Z h a C) (L : (Cond.lays C O n d).before a0 Z = true ∨ ((Cond.laysFinal C O n d).before a0 Z = true ∧ y.cls = O ∧ y.name = "<init>")) (wi : (Cond.instantiable C kk).before a0 Z = true) (hty : parseFieldDescriptor d = some ty) (hn : narrow ty v = v') (hf : fits ty v' = true) (ga : n0 ≤ a) (sf : Sfe Z EL b.vm h a) (hd : decode bytes pc = .ok (.putfield i, 3)) (hp : pc + 3 = pc') (k : ∀ T' h', Wk p l e R s m args below meth c Z a0 EL n0 y bytes maxL ret b T' h' (locs ++ [⟨a, Jvm.RoadKit.slotOf Z O n d⟩]) cells slots → Wr h h' a (Jvm.RoadKit.slotOf Z O n d) v' → (∀ x, x < h.size → Sfe Z EL b.vm h x → Sfe Z EL b.vm h' x) → Goes p.tables e below P (T'.setTop (mkF m pc' Ls st))) : Goes p.tables e below P (T.setTop (mkF m pc Ls (v :: .ref a :: st))) := by
  subst hp
  obtain ⟨T', h', X', e', W', q⟩ := putFN K.X K.hx K.hZ K.hown wd via K.eT F E (L.imp id fun ⟨q1, q2, q3⟩ => ⟨q1, q2, K.hnm.trans q3⟩) wi hty hn hf (g := mkF m pc Ls (v :: .ref a :: st)) rfl rfl (hb K.hby hd)
  exact go q (k T' h' (K.move X' e' (Fr.snoc X' K.fr ga) (K.old.wr W' ga) (bs_wr K W' sf)) W' (sfe_wr K W' sf))
theorem k_newarray (K : Wk p l e R s m args below meth c Z a0 EL n0 y bytes maxL ret b T h locs cells slots) {aty : ArrayType} {z : Int32} (wa : (Cond.arrayClass (newarray.typeOf aty)).before a0 Z = true) (hz : ¬ z < 0) {cap : Nat} (hcap : z.toNatClampNeg ≤ cap) (hbig : cap * 8 ≤ 536870912) (hd : decode bytes pc = .ok (.newarray aty, 2)) (hp : pc + 2 = pc') (hce : cells + 1 ≤ R.cells) (hsl : slots + cap ≤ R.slots) (k : ∀ T' h' a kk, a = h.size → Wk p l e R s m args below meth c Z a0 EL n0 y bytes maxL ret b T' h' locs (cells + 1) (slots + cap) → Ext h h' → (∀ x, x < h.size → Sfe Z EL b.vm h x → Sfe Z EL b.vm h' x) → Sfe Z EL b.vm h' a → Arv Z h' a kk (newarray.typeOf aty) z [] (defaultValue (newarray.typeOf aty)) → Goes p.tables e below P (T'.setTop (mkF m pc' Ls (.ref a :: st)))) : Goes p.tables e below P (T.setTop (mkF m pc Ls (.int z :: st))) := by
  subst hp
  obtain ⟨T', h', kk, X', e', E', A', q⟩ := newP K.X K.hx K.hZ wa K.eT (g := mkF m pc Ls (.int z :: st)) rfl (hb K.hby hd) rfl hz hcap hbig hce hsl
  exact go q (k T' h' _ kk rfl (K.move X' e' K.fr (K.old.ext E') (bs_ext K E')) E' (sfe_ext K E') (sfe_ext_new K E') (Arv.new A' hz))
theorem k_anewarray (K : Wk p l e R s m args below meth c Z a0 EL n0 y bytes maxL ret b T h locs cells slots) {C : String} {i : Nat} {z : Int32} (wl : (Cond.classLink y.cls i C).before a0 Z = true) (wa : (Cond.arrayOver (.object C)).before a0 Z = true) (hz : ¬ z < 0) {cap : Nat} (hcap : z.toNatClampNeg ≤ cap) (hbig : cap * 8 ≤ 536870912) (hd : decode bytes pc = .ok (.anewarray i, 3)) (hp : pc + 3 = pc') (hce : cells + 1 ≤ R.cells) (hsl : slots + cap ≤ R.slots) (k : ∀ T' h' a kk, a = h.size → Wk p l e R s m args below meth c Z a0 EL n0 y bytes maxL ret b T' h' locs (cells + 1) (slots + cap) → Ext h h' → (∀ x, x < h.size → Sfe Z EL b.vm h x → Sfe Z EL b.vm h' x) → Sfe Z EL b.vm h' a → Arv Z h' a kk (.object C) z [] .null → Ovr Z kk C → Goes p.tables e below P (T'.setTop (mkF m pc' Ls (.ref a :: st)))) : Goes p.tables e below P (T.setTop (mkF m pc Ls (.int z :: st))) := by
  subst hp
  obtain ⟨T', h', kk, X', e', E', A', O', q⟩ := newR K.X K.hx K.hZ K.hown wl wa K.eT (g := mkF m pc Ls (.int z :: st)) rfl (hb K.hby hd) rfl hz hcap hbig hce hsl
  exact go q (k T' h' _ kk rfl (K.move X' e' K.fr (K.old.ext E') (bs_ext K E')) E' (sfe_ext K E') (sfe_ext_new K E') (Arv.new A' hz) O')
theorem k_iastore (K : Wk p l e R s m args below meth c Z a0 EL n0 y bytes maxL ret b T h locs cells slots) {a : Addr} {kk : ClassId} {z j : Int32} {vs : List Value} {dv : Value} {v : Int32} (F : Arv Z h a kk .int z vs dv) (hj : ¬ j < 0 ∧ j < z) (hlen : j.toNatClampNeg < vs.length) (ga : n0 ≤ a) (sf : Sfe Z EL b.vm h a) (hd : decode bytes pc = .ok (.iastore, 1)) (hp : pc + 1 = pc') (k : ∀ T' h', Wk p l e R s m args below meth c Z a0 EL n0 y bytes maxL ret b T' h' (locs ++ [⟨a, j.toNatClampNeg⟩]) cells slots → Wr h h' a j.toNatClampNeg (.int v) → (∀ x, x < h.size → Sfe Z EL b.vm h x → Sfe Z EL b.vm h' x) → Arv Z h' a kk .int z (vs.set j.toNatClampNeg (.int v)) dv → Goes p.tables e below P (T'.setTop (mkF m pc' Ls st))) : Goes p.tables e below P (T.setTop (mkF m pc Ls (.int v :: .int j :: .ref a :: st))) := by
  subst hp
  obtain ⟨cl, Ar, q1, S, N, H, G⟩ := F
  obtain ⟨T', h', X', e', W', q⟩ := stI K.X K.hx K.hZ K.eT Ar (j := j) (inb_of S hj) (g := mkF m pc Ls (.int v :: .int j :: .ref a :: st)) rfl rfl (hb K.hby hd)
  exact go q (k T' h' (K.move X' e' (Fr.snoc X' K.fr ga) (K.old.wr W' ga) (bs_wr K W' sf)) W' (sfe_wr K W' sf) (Arv.set Ar q1 S N H G rfl W' _ rfl hlen))
theorem k_castore (K : Wk p l e R s m args below meth c Z a0 EL n0 y bytes maxL ret b T h locs cells slots) {a : Addr} {kk : ClassId} {z j : Int32} {vs : List Value} {dv : Value} {v : Int32} (F : Arv Z h a kk .char z vs dv) (hj : ¬ j < 0 ∧ j < z) (hlen : j.toNatClampNeg < vs.length) (ga : n0 ≤ a) (sf : Sfe Z EL b.vm h a) (hd : decode bytes pc = .ok (.castore, 1)) (hp : pc + 1 = pc') (k : ∀ T' h', Wk p l e R s m args below meth c Z a0 EL n0 y bytes maxL ret b T' h' (locs ++ [⟨a, j.toNatClampNeg⟩]) cells slots → Wr h h' a j.toNatClampNeg (.int (nar .char v)) → (∀ x, x < h.size → Sfe Z EL b.vm h x → Sfe Z EL b.vm h' x) → Arv Z h' a kk .char z (vs.set j.toNatClampNeg (.int (nar .char v))) dv → Goes p.tables e below P (T'.setTop (mkF m pc' Ls st))) : Goes p.tables e below P (T.setTop (mkF m pc Ls (.int v :: .int j :: .ref a :: st))) := by
  subst hp
  obtain ⟨cl, Ar, q1, S, N, H, G⟩ := F
  obtain ⟨T', h', X', e', W', q⟩ := stC K.X K.hx K.hZ K.eT Ar (j := j) (inb_of S hj) (g := mkF m pc Ls (.int v :: .int j :: .ref a :: st)) rfl rfl (hb K.hby hd)
  exact go q (k T' h' (K.move X' e' (Fr.snoc X' K.fr ga) (K.old.wr W' ga) (bs_wr K W' sf)) W' (sfe_wr K W' sf) (Arv.set Ar q1 S N H G (fits_nar_char _) W' _ rfl hlen))
theorem k_bastore (K : Wk p l e R s m args below meth c Z a0 EL n0 y bytes maxL ret b T h locs cells slots) {a : Addr} {kk : ClassId} {z j : Int32} {vs : List Value} {dv : Value} {v : Int32} (F : Arv Z h a kk .byte z vs dv) (hj : ¬ j < 0 ∧ j < z) (hlen : j.toNatClampNeg < vs.length) (ga : n0 ≤ a) (sf : Sfe Z EL b.vm h a) (hd : decode bytes pc = .ok (.bastore, 1)) (hp : pc + 1 = pc') (k : ∀ T' h', Wk p l e R s m args below meth c Z a0 EL n0 y bytes maxL ret b T' h' (locs ++ [⟨a, j.toNatClampNeg⟩]) cells slots → Wr h h' a j.toNatClampNeg (.int (nar .byte v)) → (∀ x, x < h.size → Sfe Z EL b.vm h x → Sfe Z EL b.vm h' x) → Arv Z h' a kk .byte z (vs.set j.toNatClampNeg (.int (nar .byte v))) dv → Goes p.tables e below P (T'.setTop (mkF m pc' Ls st))) : Goes p.tables e below P (T.setTop (mkF m pc Ls (.int v :: .int j :: .ref a :: st))) := by
  subst hp
  obtain ⟨cl, Ar, q1, S, N, H, G⟩ := F
  obtain ⟨T', h', X', e', W', q⟩ := stB K.X K.hx K.hZ K.eT Ar (j := j) (inb_of S hj) (g := mkF m pc Ls (.int v :: .int j :: .ref a :: st)) rfl rfl (hb K.hby hd)
  exact go q (k T' h' (K.move X' e' (Fr.snoc X' K.fr ga) (K.old.wr W' ga) (bs_wr K W' sf)) W' (sfe_wr K W' sf) (Arv.set Ar q1 S N H G (fits_nar_byte _) W' _ rfl hlen))
theorem k_lastore (K : Wk p l e R s m args below meth c Z a0 EL n0 y bytes maxL ret b T h locs cells slots) {a : Addr} {kk : ClassId} {z j : Int32} {vs : List Value} {dv : Value} {v : Int64} (F : Arv Z h a kk .long z vs dv) (hj : ¬ j < 0 ∧ j < z) (hlen : j.toNatClampNeg < vs.length) (ga : n0 ≤ a) (sf : Sfe Z EL b.vm h a) (hd : decode bytes pc = .ok (.lastore, 1)) (hp : pc + 1 = pc') (k : ∀ T' h', Wk p l e R s m args below meth c Z a0 EL n0 y bytes maxL ret b T' h' (locs ++ [⟨a, j.toNatClampNeg⟩]) cells slots → Wr h h' a j.toNatClampNeg (.long v) → (∀ x, x < h.size → Sfe Z EL b.vm h x → Sfe Z EL b.vm h' x) → Arv Z h' a kk .long z (vs.set j.toNatClampNeg (.long v)) dv → Goes p.tables e below P (T'.setTop (mkF m pc' Ls st))) : Goes p.tables e below P (T.setTop (mkF m pc Ls (.long v :: .int j :: .ref a :: st))) := by
  subst hp
  obtain ⟨cl, Ar, q1, S, N, H, G⟩ := F
  obtain ⟨T', h', X', e', W', q⟩ := stJ K.X K.hx K.hZ K.eT Ar (j := j) (inb_of S hj) (g := mkF m pc Ls (.long v :: .int j :: .ref a :: st)) rfl rfl (hb K.hby hd)
  exact go q (k T' h' (K.move X' e' (Fr.snoc X' K.fr ga) (K.old.wr W' ga) (bs_wr K W' sf)) W' (sfe_wr K W' sf) (Arv.set Ar q1 S N H G rfl W' _ rfl hlen))
theorem k_aastore (K : Wk p l e R s m args below meth c Z a0 EL n0 y bytes maxL ret b T h locs cells slots) {a : Addr} {kk : ClassId} {ty : FieldType} {z j : Int32} {vs : List Value} {dv v : Value} (F : Arv Z h a kk ty z vs dv) (hty : ty.isReference = true) (hs : Sto Z h a v) (hfit : fits ty v = true) (hj : ¬ j < 0 ∧ j < z) (hlen : j.toNatClampNeg < vs.length) (ga : n0 ≤ a) (sf : Sfe Z EL b.vm h a) (hd : decode bytes pc = .ok (.aastore, 1)) (hp : pc + 1 = pc') (k : ∀ T' h', Wk p l e R s m args below meth c Z a0 EL n0 y bytes maxL ret b T' h' (locs ++ [⟨a, j.toNatClampNeg⟩]) cells slots → Wr h h' a j.toNatClampNeg v → (∀ x, x < h.size → Sfe Z EL b.vm h x → Sfe Z EL b.vm h' x) → Arv Z h' a kk ty z (vs.set j.toNatClampNeg v) dv → Goes p.tables e below P (T'.setTop (mkF m pc' Ls st))) : Goes p.tables e below P (T.setTop (mkF m pc Ls (v :: .int j :: .ref a :: st))) := by
  subst hp
  obtain ⟨cl, Ar, q1, S, N, H, G⟩ := F
  obtain ⟨T', h', X', e', W', q⟩ := stR K.X K.hx K.hZ K.eT Ar (j := j) (inb_of S hj) hty hs (g := mkF m pc Ls (v :: .int j :: .ref a :: st)) rfl rfl (hb K.hby hd)
  exact go q (k T' h' (K.move X' e' (Fr.snoc X' K.fr ga) (K.old.wr W' ga) (bs_wr K W' sf)) W' (sfe_wr K W' sf) (Arv.set Ar q1 S N H G hfit W' _ rfl hlen))
theorem k_clone (K : Wk p l e R s m args below meth c Z a0 EL n0 y bytes maxL ret b T h locs cells slots) {i : Nat} {ad : String} {a : Addr} {kk : ClassId} {ty : FieldType} {z : Int32} {vs : List Value} {dv : Value} (w1 : (Cond.methodLink y.cls i ⟨ad, "clone", "()Ljava/lang/Object;"⟩).before a0 Z = true) (w2 : (Cond.sameMethod ad "java/lang/Object" "clone" "()Ljava/lang/Object;").before a0 Z = true) (w3 : (Cond.native ⟨"java/lang/Object", "clone", "()Ljava/lang/Object;"⟩).before a0 Z = true) (w4 : (Cond.instanceMethod ⟨"java/lang/Object", "clone", "()Ljava/lang/Object;"⟩).before a0 Z = true) (w5 : (Cond.selects ad ⟨ad, "clone", "()Ljava/lang/Object;"⟩ ⟨"java/lang/Object", "clone", "()Ljava/lang/Object;"⟩).before a0 Z = true) (w6 : (Cond.castable ad "java/lang/Cloneable").before a0 Z = true) (F : Arv Z Z.heap a kk ty z vs dv) (E : Exa Z Z.heap a ad) (hfit : Fit Z) (hd : decode bytes pc = .ok (.invokevirtual i, 3)) (hp : pc + 3 = pc') (hsz : Ls.size = maxL) (hfr : 1 ≤ R.frames) (W : Nat) (hW : (st.map fun v => v.category).sum ≤ W) (hlo : W + 14 ≤ R.locals) {cap : Nat} (hcap : z.toNatClampNeg ≤ cap) (hce : cells + 1 ≤ R.cells) (hsl : slots + cap ≤ R.slots) (k : ∀ T' h' a', a' = h.size → Wk p l e R s m args below meth c Z a0 EL n0 y bytes maxL ret b T' h' locs (cells + 1) (slots + cap) → Ext h h' → (∀ x, x < h.size → Sfe Z EL b.vm h x → Sfe Z EL b.vm h' x) → Sfe Z EL b.vm h' a' → Arv Z h' a' kk ty z vs dv → Exa Z h' a' ad → Goes p.tables e below P (T'.setTop (mkF m pc' Ls (.ref a' :: st)))) : Goes p.tables e below P (T.setTop (mkF m pc Ls (.ref a :: st))) := by
  subst hp
  obtain ⟨cl, Ar, q1, S, N, H, G⟩ := F
  obtain ⟨T', h', X', e', E', A', D', q⟩ := cloneA K.X K.hx K.hZ K.hown w1 w2 w3 w4 w5 w6 K.eT (Ar.ext K.old.2) (E.ext K.old.2) (FitC.start hfit Ar) (g := mkF m pc Ls (.ref a :: st)) rfl (hsz.trans K.hml.symm) rfl (hb K.hby hd) hfr (W := W) (cap := cap) (by show 2 * 0 + _ ≤ _; rw [Nat.mul_zero, Nat.zero_add]; exact hW) hlo (by rw [S]; exact hcap) hce hsl
  exact go q (k T' h' _ rfl (K.move X' e' K.fr (K.old.ext E') (bs_ext K E')) E' (sfe_ext K E') (sfe_ext_new K E') ⟨_, A', q1, S, N, H, G⟩ D')
theorem bs_keep (K : Wk p l e R s m args below meth c Z a0 EL n0 y bytes maxL ret b T h locs cells slots) {h' : Heap} {da : Addr} (KQ : Keep h h' [da]) (sf : Sfe Z EL b.vm h da) : Bs Z a0 EL s b h' := by
  obtain ⟨⟨vm0, k0, e1, e2, e3⟩, e4, e5⟩ := K.bs
  exact ⟨⟨vm0, k0, e1, e2, Nat.le_trans e3 KQ.1⟩, e4.trans (CHr.keep KQ (allS sf all0) e4.1), e5⟩
theorem sfe_keep (K : Wk p l e R s m args below meth c Z a0 EL n0 y bytes maxL ret b T h locs cells slots) {h' : Heap} {da : Addr} (KQ : Keep h h' [da]) (sf : Sfe Z EL b.vm h da) (x : Addr) (_ : x < h.size) (q : Sfe Z EL b.vm h x) : Sfe Z EL b.vm h' x := Safe.keep KQ (allS sf all0) K.bs.2.1.1 q
theorem k_arraycopy (K : Wk p l e R s m args below meth c Z a0 EL n0 y bytes maxL ret b T h locs cells slots) {i : Nat} {sa da : Addr} {ks kd : ClassId} {ty : FieldType} {zs zd sp dp nn : Int32} {vs vd us : List Value} {dv dd : Value} (wl : (Cond.methodLink y.cls i Jvm.Stand.acN).before a0 Z = true) (wn : (Cond.native Jvm.Stand.acN).before a0 Z = true) (wt : (Cond.static Jvm.Stand.acN).before a0 Z = true) (wz : (Cond.initialized "java/lang/System").before a0 Z = true) (A : Arv Z h sa ks ty zs vs dv) (B : Arv Z h da kd ty zd vd dd) (hty : refKind ty = false) (h1 : ¬ sp < 0) (h2 : ¬ dp < 0) (h3 : ¬ nn < 0) (h4 : sp.toNatClampNeg + nn.toNatClampNeg ≤ zs.toNatClampNeg) (h5 : dp.toNatClampNeg + nn.toNatClampNeg ≤ zd.toNatClampNeg) (hus : us = (List.range nn.toNatClampNeg).map fun i => vs.getD (sp.toNatClampNeg + i) dv) (hl : dp.toNatClampNeg + nn.toNatClampNeg ≤ vd.length) (ga : n0 ≤ da) (sf : Sfe Z EL b.vm h da) (hd : decode bytes pc = .ok (.invokestatic i, 3)) (hp : pc + 3 = pc') (hsz : Ls.size = maxL) (hfr : 1 ≤ R.frames) (W : Nat) (hW : (st.map fun v => v.category).sum ≤ W) (hlo : W + 18 ≤ R.locals) (k : ∀ T' h' locs', Wk p l e R s m args below meth c Z a0 EL n0 y bytes maxL ret b T' h' locs' cells slots → Keep h h' [da] → (∀ x, x < h.size → Sfe Z EL b.vm h x → Sfe Z EL b.vm h' x) → Arv Z h' da kd ty zd (vd.take dp.toNatClampNeg ++ us ++ vd.drop (dp.toNatClampNeg + nn.toNatClampNeg)) dd → Goes p.tables e below P (T'.setTop (mkF m pc' Ls st))) : Goes p.tables e below P (T.setTop (mkF m pc Ls (.int nn :: .int dp :: .ref da :: .int sp :: .ref sa :: st))) := by
  subst hp
  obtain ⟨T', h', L', X', e', N', KQ, V', q⟩ := cpA K.X K.hx K.hZ K.hown wl wn wt wz K.eT A B (Or.inl ⟨rfl, hty⟩) h1 h2 h3 h4 h5 hus hl K.fr ga (g := mkF m pc Ls (.int nn :: .int dp :: .ref da :: .int sp :: .ref sa :: st)) rfl (hsz.trans K.hml.symm) rfl (hb K.hby hd) hfr (W := W) (by show 2 * 0 + _ ≤ _; rw [Nat.mul_zero, Nat.zero_add]; exact hW) hlo
  exact go q (k T' h' L' (K.move X' e' N' (K.old.keep KQ (allS ga all0)) (bs_keep K KQ sf)) KQ (sfe_keep K KQ sf) V')
theorem own_nf {args : Array Value} {C0 : String} {y' yy : MethodName} (hc : y'.cls = yy.cls) (ws : (Cond.selects C0 y' y').before args b = true) : NotFace b yy := fun r0 h0 => by
  obtain ⟨c2, r2, m2, q1, q2, q3, q4, kP, hkP, hkPi⟩ := Cond.selects_spec ws
  have e1 := findClass_of_methodNamed h0
  have e2 := findClass_of_methodNamed q3
  rw [hc] at e2
  have e3 := Option.some.inj (e1.symm.trans e2)
  exact ⟨kP, by rw [e3]; exact hkP, hkPi⟩
theorem own_same {args : Array Value} {C0 : String} {y' yy : MethodName} (hc : y'.cls = yy.cls) (ws : (Cond.selects C0 y' y').before args b = true) (wi : (Cond.instanceMethod yy).before args b = true) (hy : yy.cls ≠ "java/lang/invoke/MethodHandle" ∧ yy.cls ≠ "java/lang/invoke/VarHandle") : (Cond.sameMethod yy.cls yy.cls yy.name yy.desc).before args b = true := by
  obtain ⟨mk, methM, hnamed, hmethM, -, -⟩ := Cond.instanceMethod_spec wi
  obtain ⟨kP, hk, hki⟩ := own_nf hc ws mk hnamed
  have hfound := State.methodFound?_of_named hnamed hy
  have hcl := findClass_of_methodNamed hnamed
  have hn2 : b.methodNamed? ⟨yy.cls, yy.name, yy.desc⟩ = some mk := hnamed
  simp only [Cond.before, Cond.holds, Cond.value, hcl, hfound, hn2, hk]
  simp [hki]
theorem own_priv2 (K : Wk p l e R s m args below meth c Z a0 EL n0 y bytes maxL ret b T h locs cells slots) {C0 : String} {yy : MethodName} (ws : (Cond.selects C0 yy yy).before a0 Z = true) (wim : (Cond.instanceMethod yy).before a0 Z = true) (wpr : (Cond.privateMethod yy).before a0 Z = true) (hy : yy.cls ≠ "java/lang/invoke/MethodHandle" ∧ yy.cls ≠ "java/lang/invoke/VarHandle") : (Cond.selects yy.cls yy yy).before a0 b = true := by
  have wi : (Cond.instanceMethod yy).before a0 b = true := mvT K.hZ wim
  obtain ⟨mk, methM, hnamed, hmethM, -, -⟩ := Cond.instanceMethod_spec wi
  obtain ⟨kP, hk, hki⟩ := own_nf (args := a0) rfl (mvT K.hZ ws) mk hnamed
  exact selects_self_of_private (findClass_of_methodNamed hnamed) hk hki (Cond.privateMethod_at (mvP K.hZ wpr (args := #[]))) wi hy
def FinW (Z : State) (EL : List (String × Nat)) (U : State) (n0 : Nat) (rm : Room) (Q : Option Value → Heap → (Addr → Prop) → Prop) (o : Outcome) (U' : State) : Prop := ∃ v L, o = .returned v ∧ (Fr n0 L ∧ Old Z n0 U'.heap ∧ Q v U'.heap (Sfe Z EL U'.vm U'.heap)) ∧ CHr Z EL U.vm U.heap U'.vm U'.heap ∧ ReturnedEndW U o U' L rm.cells rm.slots
def Ct (l : Launch) (Z : State) (EL : List (String × Nat)) (n0 : Nat) (y : MethodName) (bytes : ByteArray) (maxL : Nat) (ret : Option FieldType) (rm : Room) (as : Array Value) (h : Heap) (SP : List Addr) (Q : Option Value → Heap → (Addr → Prop) → Prop) : Prop := ∀ ws, MetFree l y (head1 (Cond.code y bytes maxL ret :: ws) rm) (fun a U => a = as ∧ Z.Warmed39 U.vm ∧ U.heap = h ∧ (∀ x ∈ SP, Sfe Z EL U.vm h x) ∧ CHv Z EL U.vm h) (fun _ _ _ _ _ => True) (fun _ U o U' => ∃ v L, o = .returned v ∧ (Fr n0 L ∧ Old Z n0 U'.heap ∧ Q v U'.heap (Sfe Z EL U'.vm U'.heap)) ∧ CHr Z EL U.vm U.heap U'.vm U'.heap ∧ ReturnedEndW U o U' L rm.cells rm.slots)
theorem Ct.of {as : Array Value} {rm : Room} {SP : List Addr} {Q : Option Value → Heap → (Addr → Prop) → Prop} (LE : Array Slot) (hEW : EW Z a0 EL) (hO : Old Z n0 h) (hpl : plainFor y = true) (hef : ∀ m, entryFrame m as maxL = mkF m 0 LE []) (body : ∀ {p : Program} {e : Env} {s : State} {m : MethodId} {below : List Frame} {meth : Method} {c : Code} {b T : State}, Wk p l e rm s m as below meth c Z a0 EL n0 y bytes maxL ret b T h [] 0 0 → (∀ x ∈ SP, Sfe Z EL b.vm h x) → Goes p.tables e below (FinW Z EL s n0 rm Q) (T.setTop (mkF m 0 LE []))) : Ct l Z EL n0 y bytes maxL ret rm as h SP Q := by
  intro ws
  refine MetFree.of_bodySF hpl hisR ?_
  intro p e s m args below meth c s₁ Bd hml0 hP hK
  obtain ⟨ha, hZ, hh, hSP, hC⟩ := hP
  subst ha
  have K : Wk p l e rm s m args below meth c Z a0 EL n0 y bytes maxL ret s s₁ h [] 0 0 := ⟨Stand.of_body Bd, by rw [← hh, Bd.state]; rfl, Fr.nil n0, Bd.exec, hZ, findClass_of_methodNamed Bd.named, Bd.bytes, hml0, Bd.returns, Bd.notSynchronized, (name_of_methodNamed Bd.named Bd.method).1, hO, ⟨⟨s.vm, 0, rfl, State.WarmedH.since (State.WarmedH.refl s) 0, Nat.zero_le _⟩, by rw [hh]; exact CHr.refl hC, hEW⟩⟩
  obtain ⟨t, o, h1, h2, h3, h4⟩ := body K hSP
  exact ⟨t, o, castTop (hef m) h1, h2, h3, h4⟩
theorem k_return (K : Wk p l e R s m args below meth c Z a0 EL n0 y bytes maxL ret b T h locs cells slots) {Q : Option Value → Heap → (Addr → Prop) → Prop} (hd : decode bytes pc = .ok (.return_, 1)) (hr : ret = none) (hq : ∀ sf : Addr → Prop, (∀ x, x < h.size → Sfe Z EL b.vm h x → sf x) → Q none h sf) (hc : cells ≤ R.cells) (hs : slots ≤ R.slots) : Goes p.tables e below (FinW Z EL s n0 R Q) (T.setTop (mkF m pc Ls [])) := by
  have hbs := K.bs
  obtain ⟨⟨vm0, k0, eb, hS, hk⟩, hCH, hEW⟩ := hbs
  subst eb
  have A := CHv.at K.X K.hZ hEW hCH.1
  obtain ⟨fs, hr', hrun, hended, hend⟩ := K.X.leaveW hS (by rw [K.eT]; exact hk) (v := none) (fun _ => rfl) K.hlk
  refine ⟨_, _, ?_, hrun, hended, _, _, rfl, ⟨K.fr, ?_, ?_⟩, ?_, ⟨hend.1, hend.2.1, hend.2.2.1, hend.2.2.2.mono hc hs⟩⟩
  · exact K.X.returnOut K.hx (K.hret.trans hr) (hb K.hby hd) hr'
  · show Old Z n0 T.heap
    rw [K.eT]; exact K.old
  · show Q _ T.heap (Sfe Z EL T.vm T.heap)
    rw [K.eT]; exact hq _ fun x hx q => CHr.safe A hx q
  · show CHr Z EL s.vm s.heap T.vm T.heap
    rw [K.eT]; exact hCH.trans A
theorem k_ret (K : Wk p l e R s m args below meth c Z a0 EL n0 y bytes maxL ret b T h locs cells slots) {Q : Option Value → Heap → (Addr → Prop) → Prop} {t : FieldType} {v : Value} {i : Instr} (hd : decode bytes pc = .ok (i, 1)) (hr : ret = some t) (hn : narrow t v = v) (hi : (i = .ireturn ∧ (t = .int ∨ t = .boolean ∨ t = .byte ∨ t = .char ∨ t = .short) ∧ ∃ z, v = .int z) ∨ (i = .lreturn ∧ t = .long ∧ ∃ z, v = .long z) ∨ (i = .dreturn ∧ t = .double ∧ ∃ z, v = .double z) ∨ (i = .freturn ∧ t = .float ∧ ∃ z, v = .float z) ∨ (i = .areturn ∧ t.isReference = true ∧ v.isRef = true)) (hq : ∀ sf : Addr → Prop, (∀ x, x < h.size → Sfe Z EL b.vm h x → sf x) → Q (some v) h sf) (hc : cells ≤ R.cells) (hs : slots ≤ R.slots) : Goes p.tables e below (FinW Z EL s n0 R Q) (T.setTop (mkF m pc Ls (v :: st))) := by
  have hbs := K.bs
  obtain ⟨⟨vm0, k0, eb, hS, hk⟩, hCH, hEW⟩ := hbs
  subst eb
  have A := CHv.at K.X K.hZ hEW hCH.1
  obtain ⟨fs, hr', hrun, hended, hend⟩ := K.X.leaveW hS (by rw [K.eT]; exact hk) (v := some v) (fun h => by rw [K.hret, hr] at h; cases h) K.hlk
  refine ⟨_, _, ?_, hrun, hended, _, _, rfl, ⟨K.fr, ?_, ?_⟩, ?_, ⟨hend.1, hend.2.1, hend.2.2.1, hend.2.2.2.mono hc hs⟩⟩
  · exact retOut K.X K.hx (K.hret.trans hr) hn hi (hb K.hby hd) hr'
  · show Old Z n0 T.heap
    rw [K.eT]; exact K.old
  · show Q _ T.heap (Sfe Z EL T.vm T.heap)
    rw [K.eT]; exact hq _ fun x hx q => CHr.safe A hx q
  · show CHr Z EL s.vm s.heap T.vm T.heap
    rw [K.eT]; exact hCH.trans A
theorem k_iret (K : Wk p l e R s m args below meth c Z a0 EL n0 y bytes maxL ret b T h locs cells slots) {Q : Option Value → Heap → (Addr → Prop) → Prop} {i : Int32} (hd : decode bytes pc = .ok (.ireturn, 1)) (hr : ret = some .int) (hq : ∀ sf : Addr → Prop, (∀ x, x < h.size → Sfe Z EL b.vm h x → sf x) → Q (some (.int i)) h sf) (hc : cells ≤ R.cells) (hs : slots ≤ R.slots) : Goes p.tables e below (FinW Z EL s n0 R Q) (T.setTop (mkF m pc Ls (.int i :: st))) := k_ret K hd hr rfl (Or.inl ⟨rfl, Or.inl rfl, i, rfl⟩) hq hc hs
theorem k_lret (K : Wk p l e R s m args below meth c Z a0 EL n0 y bytes maxL ret b T h locs cells slots) {Q : Option Value → Heap → (Addr → Prop) → Prop} {i : Int64} (hd : decode bytes pc = .ok (.lreturn, 1)) (hr : ret = some .long) (hq : ∀ sf : Addr → Prop, (∀ x, x < h.size → Sfe Z EL b.vm h x → sf x) → Q (some (.long i)) h sf) (hc : cells ≤ R.cells) (hs : slots ≤ R.slots) : Goes p.tables e below (FinW Z EL s n0 R Q) (T.setTop (mkF m pc Ls (.long i :: st))) := k_ret K hd hr rfl (Or.inr (Or.inl ⟨rfl, rfl, i, rfl⟩)) hq hc hs
theorem k_aret (K : Wk p l e R s m args below meth c Z a0 EL n0 y bytes maxL ret b T h locs cells slots) {Q : Option Value → Heap → (Addr → Prop) → Prop} {v : Value} {t : FieldType} (hd : decode bytes pc = .ok (.areturn, 1)) (hr : ret = some t) (ht : t.isReference = true) (hv : v.isRef = true) (hq : ∀ sf : Addr → Prop, (∀ x, x < h.size → Sfe Z EL b.vm h x → sf x) → Q (some v) h sf) (hc : cells ≤ R.cells) (hs : slots ≤ R.slots) : Goes p.tables e below (FinW Z EL s n0 R Q) (T.setTop (mkF m pc Ls (v :: st))) := k_ret K hd hr (by cases t <;> first | rfl | cases ht) (Or.inr (Or.inr (Or.inr (Or.inr ⟨rfl, ht, hv⟩)))) hq hc hs
theorem k_nret (K : Wk p l e R s m args below meth c Z a0 EL n0 y bytes maxL ret b T h locs cells slots) {Q : Option Value → Heap → (Addr → Prop) → Prop} {i : Int32} {t : FieldType} (hd : decode bytes pc = .ok (.ireturn, 1)) (hr : ret = some t) (ht : t = .boolean ∨ t = .byte ∨ t = .char ∨ t = .short) (hn : narrow t (.int i) = .int i) (hq : ∀ sf : Addr → Prop, (∀ x, x < h.size → Sfe Z EL b.vm h x → sf x) → Q (some (.int i)) h sf) (hc : cells ≤ R.cells) (hs : slots ≤ R.slots) : Goes p.tables e below (FinW Z EL s n0 R Q) (T.setTop (mkF m pc Ls (.int i :: st))) := k_ret K hd hr hn (Or.inl ⟨rfl, Or.inr ht, i, rfl⟩) hq hc hs
def Pu (w : Option Value) (h : Heap) (v : Option Value) (h' : Heap) (_ : Addr → Prop) : Prop := v = w ∧ h' = h
theorem own_back {yy : MethodName} {yb : ByteArray} {yml : Nat} {yret : Option FieldType} {rm : Room} {len W : Nat} {as' : Array Value} {SP : List Addr} {Q : Option Value → Heap → (Addr → Prop) → Prop} {vm0 : Vm} (hM : Ct l Z EL n0 yy yb yml yret rm as' h SP Q) (hZ : Z.Warmed39 vm0) (wc : (Cond.code yy yb yml yret).before a0 Z = true) (wz : (Cond.initialized yy.cls).before a0 Z = true) (hf : rm.frames + 1 ≤ R.frames) (hl : W + (yml + 11) + rm.locals ≤ R.locals) (hEL : EW Z a0 EL) (H : CHv Z EL vm0 h) (hSP : ∀ x ∈ SP, x < h.size ∧ Sfe Z EL vm0 h x) :
    BackS l R p e below (s.setVm vm0) args yy len W (fun A a => a = as' ∧ A.U.heap = h ∧ A.cells + rm.cells ≤ R.cells ∧ A.slots + rm.slots ≤ R.slots)
      (fun A _ v B => ∃ L, (Fr n0 L ∧ Old Z n0 B.U.heap ∧ Q v B.U.heap (Sfe Z EL B.U.vm B.U.heap)) ∧ B.locs = A.locs ++ L ∧ B.cells = A.cells + rm.cells ∧ B.slots = A.slots + rm.slots ∧ CHr Z EL vm0 h B.U.vm B.U.heap) :=
  BackS.of_freeW (bytes := yb) (maxL := yml) (ret := yret) (E := fun _ first o t L k n => k = rm.cells ∧ n = rm.slots ∧ (∃ v, o = .returned v ∧ (Fr n0 L ∧ Old Z n0 t.heap ∧ Q v t.heap (Sfe Z EL t.vm t.heap))) ∧ CHr Z EL first.vm first.heap t.vm t.heap) (hM []) hf hl
    (fun m meth c A a Y hp => have hU : Z.Warmed39 A.U.vm := wtrans (s := s.setVm vm0) hZ Y.warmed
      ⟨by show (Cond.and _ .tt).before a A.U = true; rw [Cond.before_and, mvT hU wc]; rfl, mvT hU wc, mvT hU wz, hp.2.2.1, hp.2.2.2⟩)
    (fun m meth c A a g mk Y hp => have q := CHv.at Y hZ hEL H
      ⟨hp.1, wtrans (s := s.setVm vm0) hZ Y.warmed, hp.2.1, fun x hx => CHr.safe q (hSP x hx).1 (hSP x hx).2, q.1⟩) (fun _ _ _ _ _ _ _ _ _ => trivial)
    (fun _ _ _ _ ⟨v, L, h1, h2, h3, h4⟩ => ⟨L, _, _, h4, rfl, rfl, ⟨v, h1, h2⟩, h3⟩)
    (fun m meth c A a g mk v t L k n Y hp _ _ ⟨e1, e2, ⟨v', e3, e4⟩, e5⟩ => by
      cases e3; subst e1 e2
      refine ⟨L, e4, rfl, rfl, rfl, (CHv.at Y hZ hEL H).trans ?_⟩
      rw [← hp.2.1]; exact e5)
theorem callSS (X : Stand p l e R s m args below meth c T locs cells slots) (hexec : p.tables.exec = Jvm.exec) {own : String} {index : Nat} {yy : MethodName} {yb : ByteArray} {yml : Nat} {yret : Option FieldType}
    (hown : s.vm.findClass own = some m.cls) (hlink : (Cond.methodLink own index yy).before args s = true) (hstat : (Cond.static yy).before args s = true) (hinit : (Cond.initialized yy.cls).before args s = true)
    (hcode : (Cond.code yy yb yml yret).before args s = true) (hy : yy.cls ≠ "java/lang/invoke/MethodHandle" ∧ yy.cls ≠ "java/lang/invoke/VarHandle")
    {W : Nat} {Pre : Pt → Array Value → Prop} {Post : Pt → Array Value → Option Value → Pt → Prop} (hK : BackS l R p e below s args yy 3 W Pre Post)
    {g : JFrame} (hg : g.method = m) (hsize : g.locals.size = c.maxLocals) {argsL rest : List Value} (hlen : ∀ sig, parseMethodDescriptor yy.desc = some sig → argsL.length = sig.parameters.length)
    (hstack : g.stack = argsL.reverse ++ rest) (hW : 2 * g.monitorRoom + (rest.map fun v => v.category).sum ≤ W) (hdg : decode c.code g.pc = .ok (.invokestatic index, 3))
    (hpre : ∀ vm₁, s.WarmedH vm₁ → Pre ⟨T.setVm vm₁, locs, cells, slots⟩ argsL.toArray) :
    ∃ (v : Option Value) (vm₁ : Vm) (B : Pt), s.WarmedH vm₁ ∧ Stand p l e R (s.setVm B.U.vm) m args below meth c B.U B.locs B.cells B.slots ∧ s.Since B.U.vm B.U.heap.size ∧ T.heap.size ≤ B.U.heap.size ∧ Post ⟨T.setVm vm₁, locs, cells, slots⟩ argsL.toArray v B ∧
      Steps p.tables e below (T.setTop g) (B.U.setTop { g with pc := g.pc + 3, stack := v.toList ++ rest }) := by
  obtain ⟨mk, hnamed⟩ := Cond.code_named hcode
  obtain ⟨methM, cM, hmethM, -, -, -, -, -, -, hsigM⟩ := Cond.code_spec hnamed hcode
  exact X.staticBackS hexec hown hlink hstat hinit hnamed hmethM hsigM hy hK hg hsize (Steps.refl _) hlen hstack hW hdg hpre
theorem wk_called (K : Wk p l e R s m args below meth c Z a0 EL n0 y bytes maxL ret b T h locs cells slots) {b0 T' : State} {Lc : List Loc} {c' n' : Nat} (eb : b = s.setVm b0.vm) (X' : Stand p l e R (b.setVm T'.vm) m args below meth c T' (locs ++ Lc) c' n') (hS : b.Since T'.vm T'.heap.size) (hsz : T.heap.size ≤ T'.heap.size) (hCH : CHr Z EL b.vm h T'.vm T'.heap) (hF : Fr n0 Lc) (hO : Old Z n0 T'.heap) : Wk p l e R s m args below meth c Z a0 EL n0 y bytes maxL ret (b.setVm T'.vm) T' T'.heap (locs ++ Lc) c' n' := by
  obtain ⟨⟨vm0, k0, eb', g1, g2⟩, g3, g4⟩ := K.bs
  subst eb'
  have hW : Z.Warmed39 T'.vm := State.Warmed39.trans (t := s.setVm vm0) K.hZ hS.1
  have hf : T'.vm.findClass y.cls = some m.cls := by rw [hS.1.alike.findClass]; exact K.hown
  exact ⟨X', rfl, K.fr.app hF, K.hx, hW, hf, K.hby, K.hml, K.hret, K.hlk, K.hnm, hO, ⟨⟨T'.vm, T'.heap.size, rfl, g1.trans hS (by rw [K.eT] at hsz; exact Nat.le_trans g2 hsz), Nat.le_refl _⟩, g3.trans hCH, g4⟩⟩
theorem k_static (K : Wk p l e R s m args below meth c Z a0 EL n0 y bytes maxL ret b T h locs cells slots) {i : Nat} {yy : MethodName} {yb : ByteArray} {yml : Nat} {yret : Option FieldType} {rm : Room} {SP : List Addr} {Q : Option Value → Heap → (Addr → Prop) → Prop} {ps : List FieldType} {r : Option FieldType} (argsL rest : List Value) (W : Nat) (wl : (Cond.methodLink y.cls i yy).before a0 Z = true) (ws : (Cond.static yy).before a0 Z = true) (wz : (Cond.initialized yy.cls).before a0 Z = true) (wc : (Cond.code yy yb yml yret).before a0 Z = true) (hy : yy.cls ≠ "java/lang/invoke/MethodHandle" ∧ yy.cls ≠ "java/lang/invoke/VarHandle") (hpd : parseMethodDescriptor yy.desc = some ⟨ps, r⟩) (C : Ct l Z EL n0 yy yb yml yret rm argsL.toArray h SP Q) (hd : decode bytes pc = .ok (.invokestatic i, 3)) (hSP : ∀ x ∈ SP, x < h.size ∧ Sfe Z EL b.vm h x) (hp : pc + 3 = pc') (hsz : Ls.size = maxL) (hlen : argsL.length = ps.length) (hst : st = argsL.reverse ++ rest) (hW : (rest.map fun v => v.category).sum ≤ W) (hfr : rm.frames + 1 ≤ R.frames) (hlo : W + (yml + 11) + rm.locals ≤ R.locals) (hce : cells + rm.cells ≤ R.cells) (hsl : slots + rm.slots ≤ R.slots) (k : ∀ b' T' h' locs' v, Wk p l e R s m args below meth c Z a0 EL n0 y bytes maxL ret b' T' h' locs' (cells + rm.cells) (slots + rm.slots) → (∀ x, x < h.size → Sfe Z EL b.vm h x → Sfe Z EL b'.vm h' x) → Q v h' (Sfe Z EL b'.vm h') → Goes p.tables e below P (T'.setTop (mkF m pc' Ls (v.toList ++ rest)))) : Goes p.tables e below P (T.setTop (mkF m pc Ls st)) := by
  subst hp
  obtain ⟨⟨vm0, k0, eb, g1, g2⟩, g3, g4⟩ := K.bs
  subst eb
  obtain ⟨v, vm1, ⟨T', L', c', n'⟩, -, X', hS', hsz', ⟨Lc, ⟨hF, hO', hQ⟩, l', y', z', hCH⟩, q⟩ := callSS K.X K.hx (yy := yy) K.hown (mvT K.hZ wl) (mvT K.hZ ws) (mvT K.hZ wz) (mvT K.hZ wc) hy (own_back (s := s) (vm0 := vm0) (W := W) C K.hZ wc wz hfr hlo g4 g3.1 hSP) (g := mkF m pc Ls st) rfl (hsz.trans K.hml.symm) (argsL := argsL) (rest := rest) (lenOf hpd hlen) hst (by show 2 * 0 + _ ≤ _; rw [Nat.mul_zero, Nat.zero_add]; exact hW) (hb K.hby hd) (fun _ _ => ⟨rfl, K.eT, hce, hsl⟩)
  dsimp only [Pt.U, Pt.locs, Pt.cells, Pt.slots] at X' l' y' z' q hQ hCH hS' hsz' hO'
  subst l' y' z'
  exact go (fun _ z => q.trans z) (k _ _ _ _ _ (wk_called K (b0 := (s.setVm vm0)) rfl X' hS' hsz' hCH hF hO') (fun x hx z => CHr.safe hCH hx z) hQ)
theorem k_staticP (K : Wk p l e R s m args below meth c Z a0 EL n0 y bytes maxL ret b T h locs cells slots) {i : Nat} {yy : MethodName} {yb : ByteArray} {yml : Nat} {yret : Option FieldType} {rm : Room} {SP : List Addr} {ps : List FieldType} {r : Option FieldType} (argsL rest : List Value) (W : Nat) (wl : (Cond.methodLink y.cls i yy).before a0 Z = true) (ws : (Cond.static yy).before a0 Z = true) (wz : (Cond.initialized yy.cls).before a0 Z = true) (wc : (Cond.code yy yb yml yret).before a0 Z = true) (hy : yy.cls ≠ "java/lang/invoke/MethodHandle" ∧ yy.cls ≠ "java/lang/invoke/VarHandle") (hpd : parseMethodDescriptor yy.desc = some ⟨ps, r⟩) {vv : Option Value} (C : Ct l Z EL n0 yy yb yml yret rm argsL.toArray h SP (Pu vv h)) (hd : decode bytes pc = .ok (.invokestatic i, 3)) (hSP : ∀ x ∈ SP, x < h.size ∧ Sfe Z EL b.vm h x) (hp : pc + 3 = pc') (hsz : Ls.size = maxL) (hlen : argsL.length = ps.length) (hst : st = argsL.reverse ++ rest) (hW : (rest.map fun v => v.category).sum ≤ W) (hfr : rm.frames + 1 ≤ R.frames) (hlo : W + (yml + 11) + rm.locals ≤ R.locals) (hce : cells + rm.cells ≤ R.cells) (hsl : slots + rm.slots ≤ R.slots) (k : ∀ b' T' locs', Wk p l e R s m args below meth c Z a0 EL n0 y bytes maxL ret b' T' h locs' (cells + rm.cells) (slots + rm.slots) → (∀ x, x < h.size → Sfe Z EL b.vm h x → Sfe Z EL b'.vm h x) → Goes p.tables e below P (T'.setTop (mkF m pc' Ls (vv.toList ++ rest)))) : Goes p.tables e below P (T.setTop (mkF m pc Ls st)) := k_static K argsL rest W wl ws wz wc hy hpd C hd hSP hp hsz hlen hst hW hfr hlo hce hsl (fun b' T' h' locs' v K' tr q => by obtain ⟨rfl, rfl⟩ := q; exact k _ _ _ K' tr)
theorem k_special (K : Wk p l e R s m args below meth c Z a0 EL n0 y bytes maxL ret b T h locs cells slots) {i : Nat} {yy : MethodName} {yb : ByteArray} {yml : Nat} {yret : Option FieldType} {rm : Room} {SP : List Addr} {Q : Option Value → Heap → (Addr → Prop) → Prop} {ps : List FieldType} {r : Option FieldType} (argsL rest : List Value) (W : Nat) {a : Addr} (wl : (Cond.methodLink y.cls i yy).before a0 Z = true) (wi : (Cond.instanceMethod yy).before a0 Z = true) (wz : (Cond.initialized yy.cls).before a0 Z = true) (wc : (Cond.code yy yb yml yret).before a0 Z = true) (hin : yy.name = "<init>") (hnr : yret = none) (hy : yy.cls ≠ "java/lang/invoke/MethodHandle" ∧ yy.cls ≠ "java/lang/invoke/VarHandle") (hpd : parseMethodDescriptor yy.desc = some ⟨ps, r⟩) (C : Ct l Z EL n0 yy yb yml yret rm (.ref a :: argsL).toArray h SP Q) (hd : decode bytes pc = .ok (.invokespecial i, 3)) (hSP : ∀ x ∈ SP, x < h.size ∧ Sfe Z EL b.vm h x) (hp : pc + 3 = pc') (hsz : Ls.size = maxL) (hlen : argsL.length = ps.length) (hst : st = argsL.reverse ++ .ref a :: rest) (hW : (rest.map fun v => v.category).sum ≤ W) (hfr : rm.frames + 1 ≤ R.frames) (hlo : W + (yml + 11) + rm.locals ≤ R.locals) (hce : cells + rm.cells ≤ R.cells) (hsl : slots + rm.slots ≤ R.slots) (k : ∀ b' T' h' locs' v, Wk p l e R s m args below meth c Z a0 EL n0 y bytes maxL ret b' T' h' locs' (cells + rm.cells) (slots + rm.slots) → (∀ x, x < h.size → Sfe Z EL b.vm h x → Sfe Z EL b'.vm h' x) → Q v h' (Sfe Z EL b'.vm h') → Goes p.tables e below P (T'.setTop (mkF m pc' Ls (v.toList ++ rest)))) : Goes p.tables e below P (T.setTop (mkF m pc Ls st)) := by
  subst hp
  subst hnr
  obtain ⟨⟨vm0, k0, eb, g1, g2⟩, g3, g4⟩ := K.bs
  subst eb
  obtain ⟨v, vm1, ⟨T', L', c', n'⟩, -, X', hS', hsz', ⟨Lc, ⟨hF, hO', hQ⟩, l', y', z', hCH⟩, q⟩ := K.X.specialBackS K.hx (y := yy) hin K.hown (mvT K.hZ wl) (mvT K.hZ wi) (mvT K.hZ wc) hy (own_back (s := s) (vm0 := vm0) (W := W) C K.hZ wc wz hfr hlo g4 g3.1 hSP) (g := mkF m pc Ls st) rfl (hsz.trans K.hml.symm) (Steps.refl _) (a := a) (argsL := argsL) (rest := rest) (lenOf hpd hlen) hst (by show 2 * 0 + _ ≤ _; rw [Nat.mul_zero, Nat.zero_add]; exact hW) (hb K.hby hd) (fun _ _ => ⟨rfl, K.eT, hce, hsl⟩)
  dsimp only [Pt.U, Pt.locs, Pt.cells, Pt.slots] at X' l' y' z' q hQ hCH hS' hsz' hO'
  subst l' y' z'
  exact go (fun _ z => q.trans z) (k _ _ _ _ _ (wk_called K (b0 := (s.setVm vm0)) rfl X' hS' hsz' hCH hF hO') (fun x hx z => CHr.safe hCH hx z) hQ)
theorem k_specialP (K : Wk p l e R s m args below meth c Z a0 EL n0 y bytes maxL ret b T h locs cells slots) {i : Nat} {yy : MethodName} {yb : ByteArray} {yml : Nat} {yret : Option FieldType} {rm : Room} {SP : List Addr} {ps : List FieldType} {r : Option FieldType} (argsL rest : List Value) (W : Nat) {a : Addr} (wl : (Cond.methodLink y.cls i yy).before a0 Z = true) (wi : (Cond.instanceMethod yy).before a0 Z = true) (wz : (Cond.initialized yy.cls).before a0 Z = true) (wc : (Cond.code yy yb yml yret).before a0 Z = true) (hin : yy.name = "<init>") (hnr : yret = none) (hy : yy.cls ≠ "java/lang/invoke/MethodHandle" ∧ yy.cls ≠ "java/lang/invoke/VarHandle") (hpd : parseMethodDescriptor yy.desc = some ⟨ps, r⟩) {vv : Option Value} (C : Ct l Z EL n0 yy yb yml yret rm (.ref a :: argsL).toArray h SP (Pu vv h)) (hd : decode bytes pc = .ok (.invokespecial i, 3)) (hSP : ∀ x ∈ SP, x < h.size ∧ Sfe Z EL b.vm h x) (hp : pc + 3 = pc') (hsz : Ls.size = maxL) (hlen : argsL.length = ps.length) (hst : st = argsL.reverse ++ .ref a :: rest) (hW : (rest.map fun v => v.category).sum ≤ W) (hfr : rm.frames + 1 ≤ R.frames) (hlo : W + (yml + 11) + rm.locals ≤ R.locals) (hce : cells + rm.cells ≤ R.cells) (hsl : slots + rm.slots ≤ R.slots) (k : ∀ b' T' locs', Wk p l e R s m args below meth c Z a0 EL n0 y bytes maxL ret b' T' h locs' (cells + rm.cells) (slots + rm.slots) → (∀ x, x < h.size → Sfe Z EL b.vm h x → Sfe Z EL b'.vm h x) → Goes p.tables e below P (T'.setTop (mkF m pc' Ls (vv.toList ++ rest)))) : Goes p.tables e below P (T.setTop (mkF m pc Ls st)) := k_special K argsL rest W wl wi wz wc hin hnr hy hpd C hd hSP hp hsz hlen hst hW hfr hlo hce hsl (fun b' T' h' locs' v K' tr q => by obtain ⟨rfl, rfl⟩ := q; exact k _ _ _ K' tr)
theorem k_virtual (K : Wk p l e R s m args below meth c Z a0 EL n0 y bytes maxL ret b T h locs cells slots) {i : Nat} {yy : MethodName} {yb : ByteArray} {yml : Nat} {yret : Option FieldType} {rm : Room} {SP : List Addr} {Q : Option Value → Heap → (Addr → Prop) → Prop} {ps : List FieldType} {r : Option FieldType} (argsL rest : List Value) (W : Nat) {a : Addr} {C0 : String} {yv : MethodName} (wl : (Cond.methodLink y.cls i yv).before a0 Z = true) (wd : (Cond.declares yv).before a0 Z = true) (wi : (Cond.instanceMethod yy).before a0 Z = true) (wse : (Cond.selects C0 yv yy).before a0 Z = true) (wz : (Cond.initialized yy.cls).before a0 Z = true) (wc : (Cond.code yy yb yml yret).before a0 Z = true) (hnf : NotFace b yv) (hvd : yv.desc = yy.desc) (hyv : yv.cls ≠ "java/lang/invoke/MethodHandle" ∧ yv.cls ≠ "java/lang/invoke/VarHandle") (E : Exa Z h a C0) (hy : yy.cls ≠ "java/lang/invoke/MethodHandle" ∧ yy.cls ≠ "java/lang/invoke/VarHandle") (hpd : parseMethodDescriptor yy.desc = some ⟨ps, r⟩) (C : Ct l Z EL n0 yy yb yml yret rm (.ref a :: argsL).toArray h SP Q) (hd : decode bytes pc = .ok (.invokevirtual i, 3)) (hSP : ∀ x ∈ SP, x < h.size ∧ Sfe Z EL b.vm h x) (hp : pc + 3 = pc') (hsz : Ls.size = maxL) (hlen : argsL.length = ps.length) (hst : st = argsL.reverse ++ .ref a :: rest) (hW : (rest.map fun v => v.category).sum ≤ W) (hfr : rm.frames + 1 ≤ R.frames) (hlo : W + (yml + 11) + rm.locals ≤ R.locals) (hce : cells + rm.cells ≤ R.cells) (hsl : slots + rm.slots ≤ R.slots) (k : ∀ b' T' h' locs' v, Wk p l e R s m args below meth c Z a0 EL n0 y bytes maxL ret b' T' h' locs' (cells + rm.cells) (slots + rm.slots) → (∀ x, x < h.size → Sfe Z EL b.vm h x → Sfe Z EL b'.vm h' x) → Q v h' (Sfe Z EL b'.vm h') → Goes p.tables e below P (T'.setTop (mkF m pc' Ls (v.toList ++ rest)))) : Goes p.tables e below P (T.setTop (mkF m pc Ls st)) := by
  subst hp
  obtain ⟨cq, kq, qa, qb, qc⟩ := isOf K.hZ K.eT E
  obtain ⟨⟨vm0, k0, eb, g1, g2⟩, g3, g4⟩ := K.bs
  subst eb
  obtain ⟨v, vm1, ⟨T', L', c', n'⟩, -, X', hS', hsz', ⟨Lc, ⟨hF, hO', hQ⟩, l', y', z', hCH⟩, q⟩ := K.X.virtualBackS K.hx (y := yv) (z := yy) K.hown (mvT K.hZ wl) (mvT K.hZ wd) hnf (mvT K.hZ wse) (mvT K.hZ wi) hyv (own_back (s := s) (vm0 := vm0) (W := W) C K.hZ wc wz hfr hlo g4 g3.1 hSP) qa qc (g := mkF m pc Ls st) rfl (hsz.trans K.hml.symm) (Steps.refl _) (argsL := argsL) (rest := rest) (lenOf (hvd ▸ hpd) hlen) hst (by show 2 * 0 + _ ≤ _; rw [Nat.mul_zero, Nat.zero_add]; exact hW) (hb K.hby hd) (fun _ _ => ⟨rfl, K.eT, hce, hsl⟩)
  dsimp only [Pt.U, Pt.locs, Pt.cells, Pt.slots] at X' l' y' z' q hQ hCH hS' hsz' hO'
  subst l' y' z'
  exact go (fun _ z => q.trans z) (k _ _ _ _ _ (wk_called K (b0 := (s.setVm vm0)) rfl X' hS' hsz' hCH hF hO') (fun x hx z => CHr.safe hCH hx z) hQ)
theorem k_virtualP (K : Wk p l e R s m args below meth c Z a0 EL n0 y bytes maxL ret b T h locs cells slots) {i : Nat} {yy : MethodName} {yb : ByteArray} {yml : Nat} {yret : Option FieldType} {rm : Room} {SP : List Addr} {ps : List FieldType} {r : Option FieldType} (argsL rest : List Value) (W : Nat) {a : Addr} {C0 : String} {yv : MethodName} (wl : (Cond.methodLink y.cls i yv).before a0 Z = true) (wd : (Cond.declares yv).before a0 Z = true) (wi : (Cond.instanceMethod yy).before a0 Z = true) (wse : (Cond.selects C0 yv yy).before a0 Z = true) (wz : (Cond.initialized yy.cls).before a0 Z = true) (wc : (Cond.code yy yb yml yret).before a0 Z = true) (hnf : NotFace b yv) (hvd : yv.desc = yy.desc) (hyv : yv.cls ≠ "java/lang/invoke/MethodHandle" ∧ yv.cls ≠ "java/lang/invoke/VarHandle") (E : Exa Z h a C0) (hy : yy.cls ≠ "java/lang/invoke/MethodHandle" ∧ yy.cls ≠ "java/lang/invoke/VarHandle") (hpd : parseMethodDescriptor yy.desc = some ⟨ps, r⟩) {vv : Option Value} (C : Ct l Z EL n0 yy yb yml yret rm (.ref a :: argsL).toArray h SP (Pu vv h)) (hd : decode bytes pc = .ok (.invokevirtual i, 3)) (hSP : ∀ x ∈ SP, x < h.size ∧ Sfe Z EL b.vm h x) (hp : pc + 3 = pc') (hsz : Ls.size = maxL) (hlen : argsL.length = ps.length) (hst : st = argsL.reverse ++ .ref a :: rest) (hW : (rest.map fun v => v.category).sum ≤ W) (hfr : rm.frames + 1 ≤ R.frames) (hlo : W + (yml + 11) + rm.locals ≤ R.locals) (hce : cells + rm.cells ≤ R.cells) (hsl : slots + rm.slots ≤ R.slots) (k : ∀ b' T' locs', Wk p l e R s m args below meth c Z a0 EL n0 y bytes maxL ret b' T' h locs' (cells + rm.cells) (slots + rm.slots) → (∀ x, x < h.size → Sfe Z EL b.vm h x → Sfe Z EL b'.vm h x) → Goes p.tables e below P (T'.setTop (mkF m pc' Ls (vv.toList ++ rest)))) : Goes p.tables e below P (T.setTop (mkF m pc Ls st)) := k_virtual K argsL rest W wl wd wi wse wz wc hnf hvd hyv E hy hpd C hd hSP hp hsz hlen hst hW hfr hlo hce hsl (fun b' T' h' locs' v K' tr q => by obtain ⟨rfl, rfl⟩ := q; exact k _ _ _ K' tr)
theorem own_sel {args args' : Array Value} {C0 : String} {yv yy : MethodName} (w : (Cond.selects C0 yv yy).before args b = true) : (Cond.selects C0 yv yy).before args' b = true := mvT (State.Warmed39.refl b) w
theorem own_priv (K : Wk p l e R s m args below meth c Z a0 EL n0 y bytes maxL ret b T h locs cells slots) {C0 : String} {n : Nat} {yy : MethodName} (hc0 : C0 = yy.cls) (wi : (Cond.instantiable C0 n).before a0 Z = true) (wim : (Cond.instanceMethod yy).before a0 Z = true) (wpr : (Cond.privateMethod yy).before a0 Z = true) (hy : yy.cls ≠ "java/lang/invoke/MethodHandle" ∧ yy.cls ≠ "java/lang/invoke/VarHandle") : (Cond.selects yy.cls yy yy).before a0 b = true := by
  subst hc0
  have q : (Cond.instantiable yy.cls n).before a0 b = true := mvT K.hZ wi
  obtain ⟨c, k, h1, h2, h3, h4, -⟩ := Cond.instantiable_spec q
  simp only [Bool.or_eq_false_iff] at h4
  exact selects_self_of_private h1 h2 h4.1 (Cond.privateMethod_at (mvP K.hZ wpr (args := #[]))) (mvT K.hZ wim) hy
theorem k_private (K : Wk p l e R s m args below meth c Z a0 EL n0 y bytes maxL ret b T h locs cells slots) {i : Nat} {yy : MethodName} {yb : ByteArray} {yml : Nat} {yret : Option FieldType} {rm : Room} {SP : List Addr} {Q : Option Value → Heap → (Addr → Prop) → Prop} {ps : List FieldType} {r : Option FieldType} (argsL rest : List Value) (W : Nat) {a : Addr} {C0 : String} (wl : (Cond.methodLink y.cls i yy).before a0 Z = true) (wi : (Cond.instanceMethod yy).before a0 Z = true) (wse : (Cond.selects yy.cls yy yy).before a0 b = true) (wpr : (Cond.privateMethod yy).before a0 Z = true) (wz : (Cond.initialized yy.cls).before a0 Z = true) (wc : (Cond.code yy yb yml yret).before a0 Z = true) (E : Exa Z h a C0) (hy : yy.cls ≠ "java/lang/invoke/MethodHandle" ∧ yy.cls ≠ "java/lang/invoke/VarHandle") (hpd : parseMethodDescriptor yy.desc = some ⟨ps, r⟩) (C : Ct l Z EL n0 yy yb yml yret rm (.ref a :: argsL).toArray h SP Q) (hd : decode bytes pc = .ok (.invokevirtual i, 3)) (hSP : ∀ x ∈ SP, x < h.size ∧ Sfe Z EL b.vm h x) (hp : pc + 3 = pc') (hsz : Ls.size = maxL) (hlen : argsL.length = ps.length) (hst : st = argsL.reverse ++ .ref a :: rest) (hW : (rest.map fun v => v.category).sum ≤ W) (hfr : rm.frames + 1 ≤ R.frames) (hlo : W + (yml + 11) + rm.locals ≤ R.locals) (hce : cells + rm.cells ≤ R.cells) (hsl : slots + rm.slots ≤ R.slots) (k : ∀ b' T' h' locs' v, Wk p l e R s m args below meth c Z a0 EL n0 y bytes maxL ret b' T' h' locs' (cells + rm.cells) (slots + rm.slots) → (∀ x, x < h.size → Sfe Z EL b.vm h x → Sfe Z EL b'.vm h' x) → Q v h' (Sfe Z EL b'.vm h') → Goes p.tables e below P (T'.setTop (mkF m pc' Ls (v.toList ++ rest)))) : Goes p.tables e below P (T.setTop (mkF m pc Ls st)) := by
  subst hp
  obtain ⟨cq, qa, qb⟩ := E.cell
  obtain ⟨⟨vm0, k0, eb, g1, g2⟩, g3, g4⟩ := K.bs
  subst eb
  obtain ⟨v, vm1, ⟨T', L', c', n'⟩, -, X', hS', hsz', ⟨Lc, ⟨hF, hO', hQ⟩, l', y', z', hCH⟩, q⟩ := K.X.privateBackS K.hx (y := yy) K.hown (mvT K.hZ wl) (mvT K.hZ wi) (own_sel wse) (Cond.privateMethod_at (mvP K.hZ wpr (args := #[]))) (mvT K.hZ wc) hy (own_back (s := s) (vm0 := vm0) (W := W) C K.hZ wc wz hfr hlo g4 g3.1 hSP) (g := mkF m pc Ls st) rfl (hsz.trans K.hml.symm) (Steps.refl _) (a := a) (by rw [K.eT]; exact qa) qb (argsL := argsL) (rest := rest) (lenOf hpd hlen) hst (by show 2 * 0 + _ ≤ _; rw [Nat.mul_zero, Nat.zero_add]; exact hW) (hb K.hby hd) (fun _ _ => ⟨rfl, K.eT, hce, hsl⟩)
  dsimp only [Pt.U, Pt.locs, Pt.cells, Pt.slots] at X' l' y' z' q hQ hCH hS' hsz' hO'
  subst l' y' z'
  exact go (fun _ z => q.trans z) (k _ _ _ _ _ (wk_called K (b0 := (s.setVm vm0)) rfl X' hS' hsz' hCH hF hO') (fun x hx z => CHr.safe hCH hx z) hQ)
theorem k_privateP (K : Wk p l e R s m args below meth c Z a0 EL n0 y bytes maxL ret b T h locs cells slots) {i : Nat} {yy : MethodName} {yb : ByteArray} {yml : Nat} {yret : Option FieldType} {rm : Room} {SP : List Addr} {ps : List FieldType} {r : Option FieldType} (argsL rest : List Value) (W : Nat) {a : Addr} {C0 : String} (wl : (Cond.methodLink y.cls i yy).before a0 Z = true) (wi : (Cond.instanceMethod yy).before a0 Z = true) (wse : (Cond.selects yy.cls yy yy).before a0 b = true) (wpr : (Cond.privateMethod yy).before a0 Z = true) (wz : (Cond.initialized yy.cls).before a0 Z = true) (wc : (Cond.code yy yb yml yret).before a0 Z = true) (E : Exa Z h a C0) (hy : yy.cls ≠ "java/lang/invoke/MethodHandle" ∧ yy.cls ≠ "java/lang/invoke/VarHandle") (hpd : parseMethodDescriptor yy.desc = some ⟨ps, r⟩) {vv : Option Value} (C : Ct l Z EL n0 yy yb yml yret rm (.ref a :: argsL).toArray h SP (Pu vv h)) (hd : decode bytes pc = .ok (.invokevirtual i, 3)) (hSP : ∀ x ∈ SP, x < h.size ∧ Sfe Z EL b.vm h x) (hp : pc + 3 = pc') (hsz : Ls.size = maxL) (hlen : argsL.length = ps.length) (hst : st = argsL.reverse ++ .ref a :: rest) (hW : (rest.map fun v => v.category).sum ≤ W) (hfr : rm.frames + 1 ≤ R.frames) (hlo : W + (yml + 11) + rm.locals ≤ R.locals) (hce : cells + rm.cells ≤ R.cells) (hsl : slots + rm.slots ≤ R.slots) (k : ∀ b' T' locs', Wk p l e R s m args below meth c Z a0 EL n0 y bytes maxL ret b' T' h locs' (cells + rm.cells) (slots + rm.slots) → (∀ x, x < h.size → Sfe Z EL b.vm h x → Sfe Z EL b'.vm h x) → Goes p.tables e below P (T'.setTop (mkF m pc' Ls (vv.toList ++ rest)))) : Goes p.tables e below P (T.setTop (mkF m pc Ls st)) := k_private K argsL rest W wl wi wse wpr wz wc E hy hpd C hd hSP hp hsz hlen hst hW hfr hlo hce hsl (fun b' T' h' locs' v K' tr q => by obtain ⟨rfl, rfl⟩ := q; exact k _ _ _ K' tr)
theorem k_interface (K : Wk p l e R s m args below meth c Z a0 EL n0 y bytes maxL ret b T h locs cells slots) {i : Nat} {yy : MethodName} {yb : ByteArray} {yml : Nat} {yret : Option FieldType} {rm : Room} {SP : List Addr} {Q : Option Value → Heap → (Addr → Prop) → Prop} {ps : List FieldType} {r : Option FieldType} (argsL rest : List Value) (W : Nat) {a : Addr} {C0 : String} {yv : MethodName} {cnt : Nat} (wl : (Cond.methodLink y.cls i yv).before a0 Z = true) (wd : (Cond.declares yv).before a0 Z = true) (wf : (Cond.interfaceMethod yv.cls yv.cls yv.name yv.desc).before args b = true) (wse : (Cond.selects C0 yv yy).before a0 Z = true) (wi : (Cond.instanceMethod yy).before a0 Z = true) (wpu : (Cond.publicMethod yy).before a0 Z = true) (wun : (Cond.unhidden C0 yv.name yv.desc).before a0 Z = true) (wca : (Cond.castable C0 yv.cls).before a0 Z = true) (wz : (Cond.initialized yy.cls).before a0 Z = true) (wc : (Cond.code yy yb yml yret).before a0 Z = true) (hvd : yv.desc = yy.desc) (hyv : yv.cls ≠ "java/lang/invoke/MethodHandle" ∧ yv.cls ≠ "java/lang/invoke/VarHandle") (E : Exa Z h a C0) (hy : yy.cls ≠ "java/lang/invoke/MethodHandle" ∧ yy.cls ≠ "java/lang/invoke/VarHandle") (hpd : parseMethodDescriptor yy.desc = some ⟨ps, r⟩) (C : Ct l Z EL n0 yy yb yml yret rm (.ref a :: argsL).toArray h SP Q) (hd : decode bytes pc = .ok (.invokeinterface i cnt, 5)) (hSP : ∀ x ∈ SP, x < h.size ∧ Sfe Z EL b.vm h x) (hp : pc + 5 = pc') (hsz : Ls.size = maxL) (hlen : argsL.length = ps.length) (hst : st = argsL.reverse ++ .ref a :: rest) (hW : (rest.map fun v => v.category).sum ≤ W) (hfr : rm.frames + 1 ≤ R.frames) (hlo : W + (yml + 11) + rm.locals ≤ R.locals) (hce : cells + rm.cells ≤ R.cells) (hsl : slots + rm.slots ≤ R.slots) (k : ∀ b' T' h' locs' v, Wk p l e R s m args below meth c Z a0 EL n0 y bytes maxL ret b' T' h' locs' (cells + rm.cells) (slots + rm.slots) → (∀ x, x < h.size → Sfe Z EL b.vm h x → Sfe Z EL b'.vm h' x) → Q v h' (Sfe Z EL b'.vm h') → Goes p.tables e below P (T'.setTop (mkF m pc' Ls (v.toList ++ rest)))) : Goes p.tables e below P (T.setTop (mkF m pc Ls st)) := by
  subst hp
  obtain ⟨cq, kq, qa, qb, qc⟩ := isOf K.hZ K.eT E
  obtain ⟨⟨vm0, k0, eb, g1, g2⟩, g3, g4⟩ := K.bs
  subst eb
  obtain ⟨v, vm1, ⟨T', L', c', n'⟩, -, X', hS', hsz', ⟨Lc, ⟨hF, hO', hQ⟩, l', y', z', hCH⟩, q⟩ := K.X.interfaceBackS K.hx (xi := yv) (y := yy) K.hown (mvT K.hZ wl) (mvT K.hZ wd) wf (mvT K.hZ wse) (mvT K.hZ wi) (mvT K.hZ wpu) (mvT K.hZ wun) (mvT K.hZ wca) hyv (own_back (s := s) (vm0 := vm0) (W := W) C K.hZ wc wz hfr hlo g4 g3.1 hSP) qa qb qc (g := mkF m pc Ls st) rfl (hsz.trans K.hml.symm) (Steps.refl _) (argsL := argsL) (rest := rest) (lenOf (hvd ▸ hpd) hlen) hst (by show 2 * 0 + _ ≤ _; rw [Nat.mul_zero, Nat.zero_add]; exact hW) (hb K.hby hd) (fun _ _ => ⟨rfl, K.eT, hce, hsl⟩)
  dsimp only [Pt.U, Pt.locs, Pt.cells, Pt.slots] at X' l' y' z' q hQ hCH hS' hsz' hO'
  subst l' y' z'
  exact go (fun _ z => q.trans z) (k _ _ _ _ _ (wk_called K (b0 := (s.setVm vm0)) rfl X' hS' hsz' hCH hF hO') (fun x hx z => CHr.safe hCH hx z) hQ)
theorem k_interfaceP (K : Wk p l e R s m args below meth c Z a0 EL n0 y bytes maxL ret b T h locs cells slots) {i : Nat} {yy : MethodName} {yb : ByteArray} {yml : Nat} {yret : Option FieldType} {rm : Room} {SP : List Addr} {ps : List FieldType} {r : Option FieldType} (argsL rest : List Value) (W : Nat) {a : Addr} {C0 : String} {yv : MethodName} {cnt : Nat} (wl : (Cond.methodLink y.cls i yv).before a0 Z = true) (wd : (Cond.declares yv).before a0 Z = true) (wf : (Cond.interfaceMethod yv.cls yv.cls yv.name yv.desc).before args b = true) (wse : (Cond.selects C0 yv yy).before a0 Z = true) (wi : (Cond.instanceMethod yy).before a0 Z = true) (wpu : (Cond.publicMethod yy).before a0 Z = true) (wun : (Cond.unhidden C0 yv.name yv.desc).before a0 Z = true) (wca : (Cond.castable C0 yv.cls).before a0 Z = true) (wz : (Cond.initialized yy.cls).before a0 Z = true) (wc : (Cond.code yy yb yml yret).before a0 Z = true) (hvd : yv.desc = yy.desc) (hyv : yv.cls ≠ "java/lang/invoke/MethodHandle" ∧ yv.cls ≠ "java/lang/invoke/VarHandle") (E : Exa Z h a C0) (hy : yy.cls ≠ "java/lang/invoke/MethodHandle" ∧ yy.cls ≠ "java/lang/invoke/VarHandle") (hpd : parseMethodDescriptor yy.desc = some ⟨ps, r⟩) {vv : Option Value} (C : Ct l Z EL n0 yy yb yml yret rm (.ref a :: argsL).toArray h SP (Pu vv h)) (hd : decode bytes pc = .ok (.invokeinterface i cnt, 5)) (hSP : ∀ x ∈ SP, x < h.size ∧ Sfe Z EL b.vm h x) (hp : pc + 5 = pc') (hsz : Ls.size = maxL) (hlen : argsL.length = ps.length) (hst : st = argsL.reverse ++ .ref a :: rest) (hW : (rest.map fun v => v.category).sum ≤ W) (hfr : rm.frames + 1 ≤ R.frames) (hlo : W + (yml + 11) + rm.locals ≤ R.locals) (hce : cells + rm.cells ≤ R.cells) (hsl : slots + rm.slots ≤ R.slots) (k : ∀ b' T' locs', Wk p l e R s m args below meth c Z a0 EL n0 y bytes maxL ret b' T' h locs' (cells + rm.cells) (slots + rm.slots) → (∀ x, x < h.size → Sfe Z EL b.vm h x → Sfe Z EL b'.vm h x) → Goes p.tables e below P (T'.setTop (mkF m pc' Ls (vv.toList ++ rest)))) : Goes p.tables e below P (T.setTop (mkF m pc Ls st)) := k_interface K argsL rest W wl wd wf wse wi wpu wun wca wz wc hvd hyv E hy hpd C hd hSP hp hsz hlen hst hW hfr hlo hce hsl (fun b' T' h' locs' v K' tr q => by obtain ⟨rfl, rfl⟩ := q; exact k _ _ _ K' tr)
theorem k_super (K : Wk p l e R s m args below meth c Z a0 EL n0 y bytes maxL ret b T h locs cells slots) {i : Nat} {yy : MethodName} {yb : ByteArray} {yml : Nat} {yret : Option FieldType} {rm : Room} {SP : List Addr} {Q : Option Value → Heap → (Addr → Prop) → Prop} {ps : List FieldType} {r : Option FieldType} (argsL rest : List Value) (W : Nat) {a : Addr} {C0 : String} (wl : (Cond.methodLink y.cls i yy).before a0 Z = true) (wsm : (Cond.sameMethod yy.cls yy.cls yy.name yy.desc).before a0 Z = true) (wi : (Cond.instanceMethod yy).before a0 Z = true) (wsu : (Cond.superclass y.cls yy.cls).before a0 Z = true) (hni : yy.name ≠ "<init>") (wz : (Cond.initialized yy.cls).before a0 Z = true) (wc : (Cond.code yy yb yml yret).before a0 Z = true) (E : Ins Z h a C0 true) (hy : yy.cls ≠ "java/lang/invoke/MethodHandle" ∧ yy.cls ≠ "java/lang/invoke/VarHandle") (hpd : parseMethodDescriptor yy.desc = some ⟨ps, r⟩) (C : Ct l Z EL n0 yy yb yml yret rm (.ref a :: argsL).toArray h SP Q) (hd : decode bytes pc = .ok (.invokespecial i, 3)) (hSP : ∀ x ∈ SP, x < h.size ∧ Sfe Z EL b.vm h x) (hp : pc + 3 = pc') (hsz : Ls.size = maxL) (hlen : argsL.length = ps.length) (hst : st = argsL.reverse ++ .ref a :: rest) (hW : (rest.map fun v => v.category).sum ≤ W) (hfr : rm.frames + 1 ≤ R.frames) (hlo : W + (yml + 11) + rm.locals ≤ R.locals) (hce : cells + rm.cells ≤ R.cells) (hsl : slots + rm.slots ≤ R.slots) (k : ∀ b' T' h' locs' v, Wk p l e R s m args below meth c Z a0 EL n0 y bytes maxL ret b' T' h' locs' (cells + rm.cells) (slots + rm.slots) → (∀ x, x < h.size → Sfe Z EL b.vm h x → Sfe Z EL b'.vm h' x) → Q v h' (Sfe Z EL b'.vm h') → Goes p.tables e below P (T'.setTop (mkF m pc' Ls (v.toList ++ rest)))) : Goes p.tables e below P (T.setTop (mkF m pc Ls st)) := by
  subst hp
  obtain ⟨⟨vm0, k0, eb, g1, g2⟩, g3, g4⟩ := K.bs
  subst eb
  obtain ⟨v, vm1, ⟨T', L', c', n'⟩, -, X', hS', hsz', ⟨Lc, ⟨hF, hO', hQ⟩, l', y', z', hCH⟩, q⟩ := superBackS K.X K.hx K.hZ (y := yy) K.hown wl wsm wi wsu hni (own_back (s := s) (vm0 := vm0) (W := W) C K.hZ wc wz hfr hlo g4 g3.1 hSP) K.eT E (g := mkF m pc Ls st) rfl (hsz.trans K.hml.symm) wc (argsL := argsL) (rest := rest) (lenOf hpd hlen) hst (by show 2 * 0 + _ ≤ _; rw [Nat.mul_zero, Nat.zero_add]; exact hW) (hb K.hby hd) (fun _ _ => ⟨rfl, K.eT, hce, hsl⟩)
  dsimp only [Pt.U, Pt.locs, Pt.cells, Pt.slots] at X' l' y' z' q hQ hCH hS' hsz' hO'
  subst l' y' z'
  exact go (fun _ z => q.trans z) (k _ _ _ _ _ (wk_called K (b0 := (s.setVm vm0)) rfl X' hS' hsz' hCH hF hO') (fun x hx z => CHr.safe hCH hx z) hQ)
theorem k_superP (K : Wk p l e R s m args below meth c Z a0 EL n0 y bytes maxL ret b T h locs cells slots) {i : Nat} {yy : MethodName} {yb : ByteArray} {yml : Nat} {yret : Option FieldType} {rm : Room} {SP : List Addr} {ps : List FieldType} {r : Option FieldType} (argsL rest : List Value) (W : Nat) {a : Addr} {C0 : String} (wl : (Cond.methodLink y.cls i yy).before a0 Z = true) (wsm : (Cond.sameMethod yy.cls yy.cls yy.name yy.desc).before a0 Z = true) (wi : (Cond.instanceMethod yy).before a0 Z = true) (wsu : (Cond.superclass y.cls yy.cls).before a0 Z = true) (hni : yy.name ≠ "<init>") (wz : (Cond.initialized yy.cls).before a0 Z = true) (wc : (Cond.code yy yb yml yret).before a0 Z = true) (E : Ins Z h a C0 true) (hy : yy.cls ≠ "java/lang/invoke/MethodHandle" ∧ yy.cls ≠ "java/lang/invoke/VarHandle") (hpd : parseMethodDescriptor yy.desc = some ⟨ps, r⟩) {vv : Option Value} (C : Ct l Z EL n0 yy yb yml yret rm (.ref a :: argsL).toArray h SP (Pu vv h)) (hd : decode bytes pc = .ok (.invokespecial i, 3)) (hSP : ∀ x ∈ SP, x < h.size ∧ Sfe Z EL b.vm h x) (hp : pc + 3 = pc') (hsz : Ls.size = maxL) (hlen : argsL.length = ps.length) (hst : st = argsL.reverse ++ .ref a :: rest) (hW : (rest.map fun v => v.category).sum ≤ W) (hfr : rm.frames + 1 ≤ R.frames) (hlo : W + (yml + 11) + rm.locals ≤ R.locals) (hce : cells + rm.cells ≤ R.cells) (hsl : slots + rm.slots ≤ R.slots) (k : ∀ b' T' locs', Wk p l e R s m args below meth c Z a0 EL n0 y bytes maxL ret b' T' h locs' (cells + rm.cells) (slots + rm.slots) → (∀ x, x < h.size → Sfe Z EL b.vm h x → Sfe Z EL b'.vm h x) → Goes p.tables e below P (T'.setTop (mkF m pc' Ls (vv.toList ++ rest)))) : Goes p.tables e below P (T.setTop (mkF m pc Ls st)) := k_super K argsL rest W wl wsm wi wsu hni wz wc E hy hpd C hd hSP hp hsz hlen hst hW hfr hlo hce hsl (fun b' T' h' locs' v K' tr q => by obtain ⟨rfl, rfl⟩ := q; exact k _ _ _ K' tr)
theorem k_initO (K : Wk p l e R s m args below meth c Z a0 EL n0 y bytes maxL ret b T h locs cells slots) {i : Nat} {a : Addr} (wl : (Cond.methodLink y.cls i Lib.objectInit).before a0 Z = true) (wi : (Cond.instanceMethod Lib.objectInit).before a0 Z = true) (wc : (Cond.code Lib.objectInit ⟨#[0xb1]⟩ 1 none).before a0 Z = true) (hd : decode bytes pc = .ok (.invokespecial i, 3)) (hp : pc + 3 = pc') (hsz : Ls.size = maxL) (hfr : 1 ≤ R.frames) (W : Nat) (hW : (st.map fun v => v.category).sum ≤ W) (hlo : W + 12 ≤ R.locals) (k : ∀ T', Wk p l e R s m args below meth c Z a0 EL n0 y bytes maxL ret b T' h locs cells slots → Goes p.tables e below P (T'.setTop (mkF m pc' Ls st))) : Goes p.tables e below P (T.setTop (mkF m pc Ls (.ref a :: st))) := by
  subst hp
  obtain ⟨T', X', e', q⟩ := initO K.X K.hx K.hZ K.hown wl wi wc K.eT (g := mkF m pc Ls (.ref a :: st)) rfl (hsz.trans K.hml.symm) rfl (hb K.hby hd) hfr (W := W) (by show 2 * 0 + _ ≤ _; rw [Nat.mul_zero, Nat.zero_add]; exact hW) hlo
  exact go q (k T' (K.move X' e' K.fr K.old K.bs))
theorem k_ldcS (K : Wk p l e R s m args below meth c Z a0 EL n0 y bytes maxL ret b T h locs cells slots) {i : Nat} {text : String} {vs : List Value} {z : Int32} (wd : (Cond.stringLink y.cls i text).before a0 Z = true) (wS : ∀ a ∈ Bundle.stringAtoms, a.before a0 Z = true) (hmem : (y.cls, i) ∈ EL) (ht : (∀ c ∈ text.toList, c.toNat < 256) ∧ text.toList.map (fun c => Value.int (Jvm.Lit.byteI c.toNat.toUInt16)) = vs) (hz : ¬ z < 0) (hl : z.toNatClampNeg = vs.length) (n : Nat) (hn : 4 * text.toList.length ≤ n) (hbig : n ≤ 536870912) (hd : decode bytes pc = .ok (.ldc i, 2)) (hp : pc + 2 = pc') (hce : cells + 2 ≤ R.cells) (hsl : slots + (n + 4) ≤ R.slots) (k : ∀ b' T' h' a d kd, Wk p l e R s m args below meth c Z a0 EL n0 y bytes maxL ret b' T' h' locs (cells + 2) (slots + (n + 4)) → Ext h h' → (∀ x, x < h.size → Sfe Z EL b.vm h x → Sfe Z EL b'.vm h' x) → Exa Z h' a "java/lang/String" → Fld Z h' a "java/lang/String" "coder" "B" (.int 0) → Fld Z h' a "java/lang/String" "value" "[B" (.ref d) → Arv Z h' d kd .byte z vs (.int 0) → (∀ x, Sfe Z EL b'.vm h' x → x ≠ a ∧ x ≠ d) → Goes p.tables e below P (T'.setTop (mkF m pc' Ls (.ref a :: st)))) : Goes p.tables e below P (T.setTop (mkF m pc Ls st)) := by
  subst hp
  obtain ⟨⟨vm0, k0, eb, g1, g2⟩, g3, g4⟩ := K.bs
  subst eb
  obtain ⟨a, T', h', k1, d, kd, X', e', E', hS', hk1, hW, hf, A1, A2, A3, A4, -, -, hCr, -, hne, q⟩ := ldcCH K.X K.hx K.hZ K.hown wd wS K.eT g1 g2 g4 hmem g3.1 ht hz hl (g := mkF m pc Ls st) rfl (hb K.hby hd) hn hbig hce hsl
  exact go q (k (s.setVm T'.vm) T' h' a d kd ⟨X', e', K.fr, K.hx, hW, hf, K.hby, K.hml, K.hret, K.hlk, K.hnm, K.old.ext E', ⟨⟨T'.vm, k1, rfl, hS', hk1⟩, g3.trans hCr, g4⟩⟩ E' (fun x hx z => CHr.safe hCr hx z) A1 A2 A3 A4 hne)
theorem k_ldcO (K : Wk p l e R s m args below meth c Z a0 EL n0 y bytes maxL ret b T h locs cells slots) {i : Nat} {text : String} (wd : (Cond.stringLink y.cls i text).before a0 Z = true) (wS : ∀ a ∈ Bundle.stringAtoms, a.before a0 Z = true) (n : Nat) (hn : 4 * text.toList.length ≤ n) (hbig : n ≤ 536870912) (hd : decode bytes pc = .ok (.ldc i, 2)) (hp : pc + 2 = pc') (hce : cells + 2 ≤ R.cells) (hsl : slots + (n + 4) ≤ R.slots) (k : ∀ b' T' h' a, Wk p l e R s m args below meth c Z a0 EL n0 y bytes maxL ret b' T' h' locs (cells + 2) (slots + (n + 4)) → Ext h h' → (∀ x, x < h.size → Sfe Z EL b.vm h x → Sfe Z EL b'.vm h' x) → Goes p.tables e below P (T'.setTop (mkF m pc' Ls (.ref a :: st)))) : Goes p.tables e below P (T.setTop (mkF m pc Ls st)) := by
  subst hp
  obtain ⟨⟨vm0, k0, eb, g1, g2⟩, g3, g4⟩ := K.bs
  subst eb
  obtain ⟨a, T', h', k1, X', e', E', hS', hk1, hW, hf, hCr, -, q⟩ := ldcOH K.X K.hx K.hZ K.hown wd wS K.eT g1 g2 g4 g3.1 (g := mkF m pc Ls st) rfl (hb K.hby hd) hn hbig hce hsl
  exact go q (k (s.setVm T'.vm) T' h' a ⟨X', e', K.fr, K.hx, hW, hf, K.hby, K.hml, K.hret, K.hlk, K.hnm, K.old.ext E', ⟨⟨T'.vm, k1, rfl, hS', hk1⟩, g3.trans hCr, g4⟩⟩ E' (fun x hx z => CHr.safe hCr hx z))
end Own
abbrev Tb (a0 : Array Value) (Z : State) : Prop := ∀ d ∈ tables_1, d.before a0 Z = true
def EL0 : List (String × Nat) := consts_1
theorem own_refc {v : Value} (h : v.isRef = true) : v = .null ∨ ∃ r, v = .ref r := by cases v <;> simp_all [Value.isRef]
theorem own_n0 {Z : State} {n0 : Nat} {h : Heap} (O : Old Z n0 h) : n0 ≤ h.size := O.1 ▸ O.2.1
theorem own_ne {x a : Addr} {h : Heap} (q : x < h.size) (g : a = h.size) : x ≠ a := fun e => by rw [e, g] at q; exact Nat.lt_irrefl _ q
theorem own_ne2 {x a : Addr} {h : Heap} (q : x < h.size) (g : h.size ≤ a) : x ≠ a := Nat.ne_of_lt (Nat.lt_of_lt_of_le q g)
theorem own_old {Z : State} {n0 : Nat} {h : Heap} {a : Addr} (O : Old Z n0 h) (g : a = h.size) : n0 ≤ a := g ▸ own_n0 O
def Str (Z : State) (h : Heap) (a b : Addr) (k : ClassId) (cd z : Int32) (vs : List Value) : Prop := Exa Z h a "java/lang/String" ∧ Fld Z h a "java/lang/String" "coder" "B" (.int cd) ∧ Fld Z h a "java/lang/String" "value" "[B" (.ref b) ∧ Arv Z h b k .byte z vs (.int 0)
section StrFacts
variable {Z : State} {h h' : Heap} {a b x : Addr} {k : ClassId} {cd z : Int32} {vs : List Value} {sl : Nat} {v : Value} {ws : List Addr}
theorem Str.ext (S : Str Z h a b k cd z vs) (E : Ext h h') : Str Z h' a b k cd z vs := ⟨S.1.ext E, S.2.1.ext E, S.2.2.1.ext E, S.2.2.2.ext E⟩
theorem Str.keep (S : Str Z h a b k cd z vs) (K : Keep h h' ws) (q1 : a ∉ ws) (q2 : b ∉ ws) : Str Z h' a b k cd z vs := ⟨S.1.keep K, S.2.1.keep K q1, S.2.2.1.keep K q1, S.2.2.2.keep K q2⟩
theorem Str.other (S : Str Z h a b k cd z vs) (W : Wr h h' x sl v) (q1 : a ≠ x) (q2 : b ≠ x) : Str Z h' a b k cd z vs := ⟨S.1.wr W, S.2.1.other W (Or.inl q1), S.2.2.1.other W (Or.inl q1), S.2.2.2.other W q2⟩
theorem Str.lt (S : Str Z h a b k cd z vs) : a < h.size := S.1.lt
theorem Str.blt (S : Str Z h a b k cd z vs) : b < h.size := S.2.2.2.lt
end StrFacts
theorem own_i32 {a b : Int32} : a < b ↔ a.toInt < b.toInt := Int32.lt_iff_toInt_lt
theorem own_i32e {a b : Int32} (h : a.toInt = b.toInt) : a = b := Int32.toInt_inj.mp h
theorem own_0 : (0 : Int32).toInt = 0 := by decide
theorem own_1 : (1 : Int32).toInt = 1 := by decide
theorem own_255 : (255 : Int32).toInt = 255 := by decide
theorem own_add1 {i : Int32} {n : Nat} (h : i.toInt = n) (hn : n < 2147483647) : (i + 1).toInt = (n + 1 : Nat) := by
  rw [XT.add32 (by rw [h, own_1]; constructor <;> omega), h, own_1]; omega
theorem own_clamp {i : Int32} {n : Nat} (h : i.toInt = n) : i.toNatClampNeg = n := by rw [Int32.toNatClampNeg, h]; rfl
theorem own_in {i z : Int32} {n m : Nat} (h : i.toInt = n) (hz : z.toInt = m) (q : n < m) : ¬ i < 0 ∧ i < z := by
  rw [own_i32, own_i32, h, hz, own_0]; omega
def byteV (c : Int32) : Value := .int c.toInt8.toInt32
def preN : List Int32 → Nat
  | [] => 0
  | c :: t => if (255 : Int32) < c then 0 else preN t + 1
def fillL (cs : List Int32) (i : Nat) : List Value := (cs.take i).map byteV ++ List.replicate (cs.length - i) (.int 0)
theorem fillL_len (cs : List Int32) (i : Nat) (h : i ≤ cs.length) : (fillL cs i).length = cs.length := by simp [fillL]; omega
theorem fillL_zero (cs : List Int32) : fillL cs 0 = List.replicate cs.length (.int 0) := by simp [fillL]
theorem fillL_set (cs : List Int32) (i : Nat) (h : i < cs.length) : (fillL cs i).set i (byteV cs[i]) = fillL cs (i + 1) := by
  apply List.ext_getElem?
  intro j
  have e1 : (List.take i (List.map byteV cs)).length = i := by simp; omega
  simp only [fillL, List.getElem?_set, List.map_take, List.getElem?_append, List.length_take, List.length_map, List.getElem?_take, List.getElem?_map, List.getElem?_replicate, List.length_append, List.length_replicate]
  rcases Nat.lt_trichotomy j i with q | q | q
  · simp [show ¬ i = j by omega, show j < i by omega, show j < i + 1 by omega, show j < cs.length by omega, show i < cs.length by omega, Nat.min_eq_left (show i ≤ cs.length by omega), Nat.min_eq_left (show i + 1 ≤ cs.length by omega)]
  · subst q; simp [h, Nat.min_eq_left (show j ≤ cs.length by omega), Nat.min_eq_left (show j + 1 ≤ cs.length by omega)]; omega
  · simp [show ¬ i = j by omega, show ¬ j < i by omega, show ¬ j < i + 1 by omega, Nat.min_eq_left (show i ≤ cs.length by omega), Nat.min_eq_left (show i + 1 ≤ cs.length by omega), show ¬ j < i from by omega]
    congr 1
    apply propext; omega
theorem preN_le : ∀ cs : List Int32, preN cs ≤ cs.length
  | [] => Nat.le_refl _
  | c :: t => by unfold preN; split <;> simp; exact preN_le t
theorem preN_at : ∀ (cs : List Int32) (i : Nat) (h : i < cs.length), (∀ j (hj : j < i), ¬ (255 : Int32) < cs[j]) → (255 : Int32) < cs[i] → preN cs = i
  | c :: t, 0, h, _, q => by unfold preN; exact if_pos q
  | c :: t, i + 1, h, hl, q => by
    unfold preN
    have h0 : ¬ (255 : Int32) < c := hl 0 (by omega)
    rw [if_neg h0, preN_at t i (by simpa using h) (fun j hj => hl (j + 1) (by omega)) q]
theorem preN_all : ∀ (cs : List Int32), (∀ j (hj : j < cs.length), ¬ (255 : Int32) < cs[j]) → preN cs = cs.length
  | [], _ => rfl
  | c :: t, h => by
    have h0 : ¬ (255 : Int32) < c := h 0 (by simp)
    unfold preN; rw [if_neg h0, preN_all t fun j hj => h (j + 1) (by simpa using hj)]; rfl
theorem own_byte (c : Int32) : nar .byte c.toInt8.toInt32 = c.toInt8.toInt32 := by simp [nar]
theorem own_getD (cs : List Int32) (i : Nat) (h : i < cs.length) : (cs.map Value.int).getD i (.int 0) = .int cs[i] := by simp [List.getD_eq_getElem?_getD, h]
theorem d_jdk_52_method_21_code_0 : decode jdk_52_method_21_code 0 = .ok (.iconst 0, 1) := by decide +kernel
theorem d_jdk_52_method_21_code_1 : decode jdk_52_method_21_code 1 = .ok (.istore 5, 2) := by decide +kernel
theorem d_jdk_52_method_21_code_3 : decode jdk_52_method_21_code 3 = .ok (.iload 5, 2) := by decide +kernel
theorem d_jdk_52_method_21_code_5 : decode jdk_52_method_21_code 5 = .ok (.iload 4, 2) := by decide +kernel
theorem d_jdk_52_method_21_code_7 : decode jdk_52_method_21_code 7 = .ok (.if_icmp .ge 37, 3) := by decide +kernel
theorem d_jdk_52_method_21_code_44 : decode jdk_52_method_21_code 44 = .ok (.iload 4, 2) := by decide +kernel
theorem d_jdk_52_method_21_code_46 : decode jdk_52_method_21_code 46 = .ok (.ireturn, 1) := by decide +kernel
theorem d_jdk_52_method_21_code_10 : decode jdk_52_method_21_code 10 = .ok (.aload_n 0, 1) := by decide +kernel
theorem d_jdk_52_method_21_code_11 : decode jdk_52_method_21_code 11 = .ok (.iload_n 1, 1) := by decide +kernel
theorem d_jdk_52_method_21_code_12 : decode jdk_52_method_21_code 12 = .ok (.caload, 1) := by decide +kernel
theorem d_jdk_52_method_21_code_13 : decode jdk_52_method_21_code 13 = .ok (.istore 6, 2) := by decide +kernel
theorem d_jdk_52_method_21_code_15 : decode jdk_52_method_21_code 15 = .ok (.iload 6, 2) := by decide +kernel
theorem d_jdk_52_method_21_code_17 : decode jdk_52_method_21_code 17 = .ok (.sipush 255, 3) := by decide +kernel
theorem d_jdk_52_method_21_code_20 : decode jdk_52_method_21_code 20 = .ok (.if_icmp .le 6, 3) := by decide +kernel
theorem d_jdk_52_method_21_code_26 : decode jdk_52_method_21_code 26 = .ok (.aload_n 2, 1) := by decide +kernel
theorem d_jdk_52_method_21_code_27 : decode jdk_52_method_21_code 27 = .ok (.iload_n 3, 1) := by decide +kernel
theorem d_jdk_52_method_21_code_28 : decode jdk_52_method_21_code 28 = .ok (.iload 6, 2) := by decide +kernel
theorem d_jdk_52_method_21_code_30 : decode jdk_52_method_21_code 30 = .ok (.i2b, 1) := by decide +kernel
theorem d_jdk_52_method_21_code_31 : decode jdk_52_method_21_code 31 = .ok (.bastore, 1) := by decide +kernel
theorem d_jdk_52_method_21_code_32 : decode jdk_52_method_21_code 32 = .ok (.iinc 1 1, 3) := by decide +kernel
theorem d_jdk_52_method_21_code_35 : decode jdk_52_method_21_code 35 = .ok (.iinc 3 1, 3) := by decide +kernel
theorem d_jdk_52_method_21_code_38 : decode jdk_52_method_21_code 38 = .ok (.iinc 5 1, 3) := by decide +kernel
theorem d_jdk_52_method_21_code_41 : decode jdk_52_method_21_code 41 = .ok (.goto (-38), 3) := by decide +kernel
theorem d_jdk_52_method_21_code_23 : decode jdk_52_method_21_code 23 = .ok (.iload 5, 2) := by decide +kernel
theorem d_jdk_52_method_21_code_25 : decode jdk_52_method_21_code 25 = .ok (.ireturn, 1) := by decide +kernel
theorem pl_java_lang_StringUTF16 : plainName "java/lang/StringUTF16" = true := by first | (simp [plainName, overriddenIn]; done) | decide +kernel
set_option maxRecDepth 65536 in
set_option maxHeartbeats 40000000 in
theorem c_compress5 (l : Launch) (Z : State) (a0 : Array Value) (hw : Tb a0 Z) (hEW : EW Z a0 EL0) (n0 : Nat) (va d : Addr) (kv kd : ClassId) (n : Int32) (cs : List Int32) (h0 : Heap) (O : Old Z n0 h0) (hn : n.toInt = cs.length) (hb : cs.length ≤ 4000) (V1 : Arv Z h0 va kv .char n (cs.map Value.int) (.int 0)) (V2 : Arv Z h0 d kd .byte n (List.replicate cs.length (.int 0)) (.int 0)) (ne_va_d : va ≠ d) (ga_d : n0 ≤ d) :
    Ct l Z EL0 n0 (⟨"java/lang/StringUTF16", "compress", "([CI[BII)I"⟩ : MethodName) jdk_52_method_21_code 7 (some .int) ({ frames := 0, cells := 0, slots := 0, locals := 0 } : Room) #[(.ref va), (.int (0 : Int32)), (.ref d), (.int (0 : Int32)), (.int n)] h0 [d] (fun v h _ => v = some (.int (Int32.ofNat (preN cs))) ∧ Keep h0 h [d] ∧ Arv Z h d kd .byte n (fillL cs (preN cs)) (.int 0)) := by
  refine Ct.of (a0 := a0) #[.val (.ref va), .val (.int (0 : Int32)), .val (.ref d), .val (.int (0 : Int32)), .val (.int n), .unset, .unset] hEW O (plainFor_of_name pl_java_lang_StringUTF16) (fun m => by first | (simp [entryFrame, mkF, argsToLocals, Value.category]; done) | rfl) ?_
  intro p_ e_ s_ m_ below_ meth_ c_ b_ T_ K hSP
  refine k_iconst K (0 : Int32) d_jdk_52_method_21_code_0 (pc' := 1) rfl rfl ?_
  refine k_istore K d_jdk_52_method_21_code_1 (pc' := 3) (L' := #[.val (.ref va), .val (.int (0 : Int32)), .val (.ref d), .val (.int (0 : Int32)), .val (.int n), .val (.int (0 : Int32)), .unset]) rfl rfl ?_
  have LOOP : ∀ (k : Nat) (i : Int32) (j : Nat) (hj : i.toInt = j) (hk : j + k = cs.length) (hlow : ∀ x (hx : x < j), ¬ (255 : Int32) < cs[x]) (s6 : Slot) (hs6 : s6 = .unset ∨ ∃ w, s6 = .val (.int w)) (bl Tl : State) (hl : Heap) (Ll : List Loc), Wk p_ l e_ ({ frames := 0, cells := 0, slots := 0, locals := 0 } : Room) s_ m_ #[(.ref va), (.int (0 : Int32)), (.ref d), (.int (0 : Int32)), (.int n)] below_ meth_ c_ Z a0 EL0 n0 (⟨"java/lang/StringUTF16", "compress", "([CI[BII)I"⟩ : MethodName) jdk_52_method_21_code 7 (some .int) bl Tl hl Ll 0 0 → (Keep h0 hl [d]) → (Arv Z hl va kv .char n (cs.map Value.int) (.int 0)) → (Arv Z hl d kd .byte n (fillL cs j) (.int 0)) → (Sfe Z EL0 bl.vm hl d) → Goes p_.tables e_ below_ (FinW Z EL0 s_ n0 ({ frames := 0, cells := 0, slots := 0, locals := 0 } : Room) (fun v h _ => v = some (.int (Int32.ofNat (preN cs))) ∧ Keep h0 h [d] ∧ Arv Z h d kd .byte n (fillL cs (preN cs)) (.int 0))) (Tl.setTop (mkF m_ 3 #[.val (.ref va), .val (.int i), .val (.ref d), .val (.int i), .val (.int n), .val (.int i), s6] [])) := by
    intro k
    induction k with
    | zero =>
      intro i j hj hk hlow s6 hs6 bl Tl hl Ll Kl KP V_va V_d sf_d
      refine k_iload Kl d_jdk_52_method_21_code_3 (pc' := 5) rfl rfl ?_
      refine k_iload Kl d_jdk_52_method_21_code_5 (pc' := 7) rfl rfl ?_
      refine k_icmp_ge Kl d_jdk_52_method_21_code_7 (by decide) (pc' := 44) (pc2 := 10) (by decide) rfl (fun hc7 => ?_) (fun q => absurd q (by rw [own_i32, hj, hn]; omega))
      refine k_iload Kl d_jdk_52_method_21_code_44 (pc' := 46) rfl rfl ?_
      have ej : j = cs.length := by omega
      subst ej
      have ep := preN_all cs hlow
      have en : n = Int32.ofNat (preN cs) := own_i32e (by rw [hn, ep, Int32.toInt_ofNat_of_lt (by omega)])
      exact k_iret Kl d_jdk_52_method_21_code_46 rfl (fun sf ht => ⟨by rw [en], KP, by rw [ep]; exact V_d⟩) (by decide) (by decide)
    | succ k ih =>
      intro i j hj hk hlow s6 hs6 bl Tl hl Ll Kl KP V_va V_d sf_d
      have hjl : j < cs.length := by omega
      refine k_iload Kl d_jdk_52_method_21_code_3 (pc' := 5) rfl rfl ?_
      refine k_iload Kl d_jdk_52_method_21_code_5 (pc' := 7) rfl rfl ?_
      refine k_icmp_ge Kl d_jdk_52_method_21_code_7 (by decide) (pc' := 44) (pc2 := 10) (by decide) rfl (fun q => absurd (by rw [own_i32, hj, hn]; omega) q) (fun hc7 => ?_)
      refine k_aloadN Kl d_jdk_52_method_21_code_10 (pc' := 11) rfl rfl rfl ?_
      refine k_iloadN Kl d_jdk_52_method_21_code_11 (pc' := 12) rfl rfl ?_
      refine k_caload Kl (j := i) V_va (own_in hj hn hjl) (by rw [own_clamp hj]; exact own_getD cs j hjl) d_jdk_52_method_21_code_12 (pc' := 13) rfl ?_
      refine k_istore Kl d_jdk_52_method_21_code_13 (pc' := 15) (L' := #[.val (.ref va), .val (.int i), .val (.ref d), .val (.int i), .val (.int n), .val (.int i), .val (.int cs[j])]) rfl (by rcases hs6 with rfl | ⟨w, rfl⟩ <;> rfl) ?_
      refine k_iload Kl d_jdk_52_method_21_code_15 (pc' := 17) rfl rfl ?_
      refine k_sipush Kl (255 : Int32) d_jdk_52_method_21_code_17 (pc' := 20) rfl rfl ?_
      refine k_icmp_le Kl d_jdk_52_method_21_code_20 (by decide) (pc' := 26) (pc2 := 23) (by decide) rfl (fun hc20 => ?_) (fun hc20 => ?_)
      · refine k_aloadN Kl d_jdk_52_method_21_code_26 (pc' := 27) rfl rfl rfl ?_
        refine k_iloadN Kl d_jdk_52_method_21_code_27 (pc' := 28) rfl rfl ?_
        refine k_iload Kl d_jdk_52_method_21_code_28 (pc' := 30) rfl rfl ?_
        refine k_i2b Kl d_jdk_52_method_21_code_30 (pc' := 31) rfl ?_
        refine k_bastore Kl (j := i) V_d (own_in hj hn hjl) (by rw [own_clamp hj, fillL_len cs j (by omega)]; exact hjl) ga_d sf_d d_jdk_52_method_21_code_31 (pc' := 32) rfl ?_
        intro T2 h2 K2 W2 tr2 V2
        replace sf_d := tr2 d V_d.lt sf_d
        replace V_va := V_va.other W2 ne_va_d
        replace KP := KP.wr W2 (Or.inl (by simp))
        replace V_d := V2
        rw [own_clamp hj, own_byte] at V_d
        replace V_d := (fillL_set cs j hjl) ▸ V_d
        refine k_iinc K2 (1 : Int32) d_jdk_52_method_21_code_32 (pc' := 35) (L' := #[.val (.ref va), .val (.int (i + (1 : Int32))), .val (.ref d), .val (.int i), .val (.int n), .val (.int i), .val (.int cs[j])]) rfl rfl rfl rfl ?_
        refine k_iinc K2 (1 : Int32) d_jdk_52_method_21_code_35 (pc' := 38) (L' := #[.val (.ref va), .val (.int (i + (1 : Int32))), .val (.ref d), .val (.int (i + (1 : Int32))), .val (.int n), .val (.int i), .val (.int cs[j])]) rfl rfl rfl rfl ?_
        refine k_iinc K2 (1 : Int32) d_jdk_52_method_21_code_38 (pc' := 41) (L' := #[.val (.ref va), .val (.int (i + (1 : Int32))), .val (.ref d), .val (.int (i + (1 : Int32))), .val (.int n), .val (.int (i + (1 : Int32))), .val (.int cs[j])]) rfl rfl rfl rfl ?_
        refine k_goto K2 d_jdk_52_method_21_code_41 (by decide) (pc' := 3) (by decide) ?_
        exact ih (i + 1) (j + 1) (own_add1 hj (by omega)) (by omega) (fun x hx => by
          rcases Nat.lt_or_ge x j with q | q
          · exact hlow x q
          · have e1 : x = j := by omega
            subst e1; exact hc20) _ (Or.inr ⟨_, rfl⟩) _ _ _ _ K2 KP V_va V_d sf_d
      · refine k_iload Kl d_jdk_52_method_21_code_23 (pc' := 25) rfl rfl ?_
        have hhi : (255 : Int32) < cs[j] := hc20
        have ep := preN_at cs j hjl hlow hhi
        have en : i = Int32.ofNat (preN cs) := own_i32e (by rw [hj, ep, Int32.toInt_ofNat_of_lt (by omega)])
        exact k_iret Kl d_jdk_52_method_21_code_25 rfl (fun sf ht => ⟨by rw [en], KP, by rw [ep]; exact V_d⟩) (by decide) (by decide)
  exact LOOP cs.length (0 : Int32) 0 rfl (by omega) (fun x hx => absurd hx (Nat.not_lt_zero _)) _ (Or.inl rfl) _ _ _ _ K (Keep.refl _ _) V1 (by rw [fillL_zero]; exact V2) (hSP d (by simp))
def loB (c : Int32) : Value := .int ((c >>> ((0 : Int32) &&& 31)).toInt8.toInt32)
def hiB (c : Int32) : Value := .int ((c >>> ((8 : Int32) &&& 31)).toInt8.toInt32)
def fill2 (cs : List Int32) (i : Nat) : List Value := (cs.take i).flatMap (fun c => [loB c, hiB c]) ++ List.replicate (2 * (cs.length - i)) (.int 0)
theorem flat_len (cs : List Int32) : (cs.flatMap (fun c => [loB c, hiB c])).length = 2 * cs.length := by
  induction cs with
  | nil => rfl
  | cons c t ih => simp only [List.flatMap_cons, List.length_append, ih, List.length_cons, List.length_nil]; omega
theorem fill2_len (cs : List Int32) (i : Nat) (h : i ≤ cs.length) : (fill2 cs i).length = 2 * cs.length := by
  simp only [fill2, List.length_append, flat_len, List.length_take, List.length_replicate]; omega
theorem fill2_zero (cs : List Int32) : fill2 cs 0 = List.replicate (2 * cs.length) (.int 0) := by simp [fill2]
theorem fill2_set (cs : List Int32) (i : Nat) (h : i < cs.length) : ((fill2 cs i).set (2 * i) (loB cs[i])).set (2 * i + 1) (hiB cs[i]) = fill2 cs (i + 1) := by
  have e0 : (cs.take i).length = i := by simp; omega
  have e1 : ((cs.take i).flatMap (fun c => [loB c, hiB c])).length = 2 * i := by rw [flat_len, e0]
  have e2 : 2 * (cs.length - i) = (2 * (cs.length - (i + 1)) + 1) + 1 := by omega
  have e3 : cs.take (i + 1) = cs.take i ++ [cs[i]] := by rw [List.take_succ_eq_append_getElem h]
  unfold fill2
  rw [e3, e2, List.replicate_succ, List.replicate_succ, List.flatMap_append]
  rw [List.set_append_right _ _ (by rw [e1]; exact Nat.le_refl _), e1, Nat.sub_self]
  rw [List.set_append_right _ _ (by rw [e1]; omega), e1, show 2 * i + 1 - 2 * i = 1 by omega]
  simp
theorem fill2_lo (cs : List Int32) (j : Nat) (h : j < cs.length) : (fill2 cs cs.length).getD (2 * j) (.int 0) = loB cs[j] := by
  unfold fill2
  rw [List.take_length, Nat.sub_self, Nat.mul_zero, List.replicate_zero, List.append_nil]
  induction cs generalizing j with
  | nil => exact absurd h (Nat.not_lt_zero _)
  | cons c t ih =>
    cases j with
    | zero => rfl
    | succ j => rw [List.flatMap_cons, show 2 * (j + 1) = 2 * j + 1 + 1 by omega]; exact ih j (by simpa using h)
theorem fill2_hi (cs : List Int32) (j : Nat) (h : j < cs.length) : (fill2 cs cs.length).getD (2 * j + 1) (.int 0) = hiB cs[j] := by
  unfold fill2
  rw [List.take_length, Nat.sub_self, Nat.mul_zero, List.replicate_zero, List.append_nil]
  induction cs generalizing j with
  | nil => exact absurd h (Nat.not_lt_zero _)
  | cons c t ih =>
    cases j with
    | zero => rfl
    | succ j => rw [List.flatMap_cons, show 2 * (j + 1) + 1 = 2 * j + 1 + 1 + 1 by omega]; exact ih j (by simpa using h)
theorem own_dbl {i : Int32} {n : Nat} (h : i.toInt = n) (hn : n < 1000000000) : (i <<< ((1 : Int32) &&& 31)).toInt = (2 * n : Nat) := by
  have hb : i.toBitVec.toNat = n := by
    have q : i.toBitVec.toInt = n := h
    rw [BitVec.toInt_eq_toNat_cond] at q
    have := i.toBitVec.isLt
    split at q <;> omega
  have e1 : (i <<< ((1 : Int32) &&& 31)).toBitVec = i.toBitVec <<< 1 := rfl
  have e2 : (i.toBitVec <<< 1).toNat = 2 * n := by rw [BitVec.toNat_shiftLeft, hb, Nat.shiftLeft_eq]; omega
  show (i <<< ((1 : Int32) &&& 31)).toBitVec.toInt = _
  rw [e1, BitVec.toInt_eq_toNat_cond, e2]; split <;> omega
theorem own_nat {c : Int32} {n : Nat} (h : c.toInt = n) : c.toBitVec.toNat = n := by
  have q : c.toBitVec.toInt = n := h
  have hn : c.toInt < 2 ^ 31 := Int32.toInt_lt c
  rw [BitVec.toInt_eq_toNat_cond] at q
  have := c.toBitVec.isLt
  split at q <;> omega
theorem own_toInt {c : Int32} (h : c.toBitVec.toNat < 2147483648) : c.toInt = c.toBitVec.toNat := by
  show c.toBitVec.toInt = _
  rw [BitVec.toInt_eq_toNat_cond]; split <;> omega
theorem own_i2cN (x : Int32) : (x.toUInt32.toUInt16.toUInt32.toInt32).toBitVec.toNat = x.toBitVec.toNat % 65536 := by
  have e : (x.toUInt32.toUInt16.toUInt32.toInt32).toBitVec = (x.toBitVec.setWidth 16).setWidth 32 := rfl
  rw [e, BitVec.toNat_setWidth, BitVec.toNat_setWidth]; omega
theorem own_i2c (x : Int32) : 0 ≤ (x.toUInt32.toUInt16.toUInt32.toInt32).toInt ∧ (x.toUInt32.toUInt16.toUInt32.toInt32).toInt < 65536 := by
  have h := own_i2cN x
  rw [own_toInt (by rw [h]; omega), h]; omega
theorem own_i2cI {c : Int32} (h1 : 0 ≤ c.toInt) (h2 : c.toInt < 65536) : c.toUInt32.toUInt16.toUInt32.toInt32 = c := by
  obtain ⟨n, hn⟩ := Int.eq_ofNat_of_zero_le h1
  have e := own_nat hn
  apply Int32.toBitVec_inj.mp
  apply BitVec.eq_of_toNat_eq
  rw [own_i2cN, e]; omega
theorem own_narrowc {c : Int32} (h1 : 0 ≤ c.toInt) (h2 : c.toInt < 65536) : narrow .char (.int c) = .int c := by
  show Value.int c.toUInt32.toUInt16.toUInt32.toInt32 = _
  rw [own_i2cI h1 h2]
theorem own_shr0 (n : Int32) : n >>> ((0 : Int32) &&& 31) = n := by
  apply Int32.toBitVec_inj.mp
  show n.toBitVec.sshiftRight 0 = n.toBitVec
  simp
theorem own_low (x : Int32) : (x.toInt8.toInt32 &&& 255).toBitVec.toNat = x.toBitVec.toNat % 256 := by
  have e : (x.toInt8.toInt32 &&& 255).toBitVec = ((x.toBitVec.signExtend 8).signExtend 32) &&& 255#32 := rfl
  have e8 : x.toBitVec.signExtend 8 = x.toBitVec.setWidth 8 := BitVec.signExtend_eq_setWidth_of_le _ (by decide)
  have e2 : ((x.toBitVec.setWidth 8).signExtend 32) &&& 255#32 = (x.toBitVec.setWidth 8).setWidth 32 := by
    apply BitVec.eq_of_getLsbD_eq
    intro i hi
    have h255 : (255#32).getLsbD i = decide (i < 8) := by
      have := (by decide : ∀ i : Fin 32, (255#32).getLsbD i.val = decide (i.val < 8)) ⟨i, hi⟩
      exact this
    rw [BitVec.getLsbD_and, h255, BitVec.getLsbD_signExtend, BitVec.getLsbD_setWidth]
    by_cases q : i < 8
    · simp [hi, q]
    · simp [q]
  rw [e, e8, e2, BitVec.toNat_setWidth, BitVec.toNat_setWidth]; omega
theorem own_dblN {i : Int32} {n : Nat} (h : i.toInt = n) (hn : n < 1000000000) : (i <<< ((1 : Int32) &&& 31)).toBitVec.toNat = 2 * n := by
  show (i.toBitVec <<< 1).toNat = _
  rw [BitVec.toNat_shiftLeft, own_nat h, Nat.shiftLeft_eq]; omega
theorem own_half {n : Int32} {m : Nat} (hn : n.toInt = m) (hm : m ≤ 4000) : (n <<< ((1 : Int32) &&& 31)) >>> ((1 : Int32) &&& 31) = n := by
  have e := own_dblN hn (by omega)
  generalize n <<< ((1 : Int32) &&& 31) = z at e
  apply Int32.toBitVec_inj.mp
  apply BitVec.eq_of_toNat_eq
  show (z.toBitVec.sshiftRight 1).toNat = _
  rw [BitVec.sshiftRight_eq_of_msb_false (by rw [BitVec.msb_eq_decide, e]; simp; omega), BitVec.toNat_ushiftRight, e, Nat.shiftRight_eq_div_pow, own_nat hn]; omega
theorem own_ush0 (n : Int32) : (Jvm.Free.XT.ushr (n - n) (31 : Int32)).toInt8.toInt32 = 0 := by
  have e : n - n = 0 := by simp
  rw [e]; decide
theorem own_ush1 {n : Int32} {m : Nat} (hn : n.toInt = m) (h1 : 1 ≤ m) (hm : m ≤ 4000) : (Jvm.Free.XT.ushr (n - n <<< ((1 : Int32) &&& 31)) (31 : Int32)).toInt8.toInt32 = 1 := by
  have e := own_dblN hn (by omega)
  have e1 : Jvm.Free.XT.ushr (n - n <<< ((1 : Int32) &&& 31)) (31 : Int32) = 1 := by
    generalize n <<< ((1 : Int32) &&& 31) = z at e
    apply Int32.toBitVec_inj.mp
    apply BitVec.eq_of_toNat_eq
    show ((n.toBitVec - z.toBitVec) >>> 31).toNat = 1
    rw [BitVec.toNat_ushiftRight, BitVec.toNat_sub, own_nat hn, e, Nat.shiftRight_eq_div_pow]; omega
  rw [e1]; decide
theorem own_join (c : Int32) (h1 : 0 ≤ c.toInt) (h2 : c.toInt < 65536) : ((((c >>> ((0 : Int32) &&& 31)).toInt8.toInt32 &&& 255) <<< ((0 : Int32) &&& 31)) ||| (((c >>> ((8 : Int32) &&& 31)).toInt8.toInt32 &&& 255) <<< ((8 : Int32) &&& 31))).toUInt32.toUInt16.toUInt32.toInt32 = c := by
  obtain ⟨n, hn⟩ := Int.eq_ofNat_of_zero_le h1
  have e := own_nat hn
  have hN : n < 65536 := by omega
  rw [own_shr0]
  have a1 := own_low c
  have a2 := own_low (c >>> ((8 : Int32) &&& 31))
  have s8 : (c >>> ((8 : Int32) &&& 31)).toBitVec.toNat = n / 256 := by
    show (c.toBitVec.sshiftRight 8).toNat = _
    rw [BitVec.sshiftRight_eq_of_msb_false (by rw [BitVec.msb_eq_decide, e]; simp; omega), BitVec.toNat_ushiftRight, e, Nat.shiftRight_eq_div_pow]
  rw [s8] at a2
  rw [e] at a1
  generalize (c.toInt8.toInt32 &&& 255) = p at a1
  generalize ((c >>> ((8 : Int32) &&& 31)).toInt8.toInt32 &&& 255) = q at a2
  apply Int32.toBitVec_inj.mp
  apply BitVec.eq_of_toNat_eq
  rw [own_i2cN, e]
  have b1 : (p <<< ((0 : Int32) &&& 31)).toBitVec = p.toBitVec := by
    show p.toBitVec <<< 0 = _
    simp
  have b2 : (q <<< ((8 : Int32) &&& 31)).toBitVec.toNat = (n / 256 % 256) * 256 := by
    show (q.toBitVec <<< 8).toNat = _
    rw [BitVec.toNat_shiftLeft, a2, Nat.shiftLeft_eq]; omega
  have b3 : (p <<< ((0 : Int32) &&& 31) ||| q <<< ((8 : Int32) &&& 31)).toBitVec.toNat = n % 256 ||| (n / 256 % 256) * 256 := by
    show ((p <<< ((0 : Int32) &&& 31)).toBitVec ||| (q <<< ((8 : Int32) &&& 31)).toBitVec).toNat = _
    rw [BitVec.toNat_or, b1, b2, a1]
  rw [b3]
  have b4 : n % 256 ||| (n / 256 % 256) * 256 = n := by
    rw [Nat.or_comm, Nat.mul_comm, show (256 : Nat) = 2 ^ 8 by decide, ← Nat.two_pow_add_eq_or_of_lt (Nat.mod_lt _ (by decide))]; omega
  rw [b4]; omega
theorem preN_gt : ∀ (cs : List Int32) (h : preN cs < cs.length), (255 : Int32) < cs[preN cs]
  | [], h => absurd h (Nat.not_lt_zero _)
  | c :: t, h => by
    by_cases q : (255 : Int32) < c
    · have e : preN (c :: t) = 0 := if_pos q
      simpa [e] using q
    · have e : preN (c :: t) = preN t + 1 := if_neg q
      have h2 : preN t < t.length := by rw [e] at h; simpa using h
      simpa [e] using preN_gt t h2
def strCd (cs : List Int32) : Int32 := if preN cs = cs.length then 0 else 1
def strVs (cs : List Int32) : List Value := if preN cs = cs.length then fillL cs cs.length else fill2 cs cs.length
def strZ (n : Int32) (cs : List Int32) : Int32 := if preN cs = cs.length then n else n <<< ((1 : Int32) &&& 31)
theorem strCd_01 (cs : List Int32) : strCd cs = 0 ∨ strCd cs = 1 := by unfold strCd; split <;> simp
theorem strCd_n (cs : List Int32) : narrow .byte (.int (strCd cs)) = .int (strCd cs) := by rcases strCd_01 cs with q | q <;> rw [q] <;> rfl
theorem strCd_f (cs : List Int32) : fits .byte (.int (strCd cs)) = true := by rcases strCd_01 cs with q | q <;> rw [q] <;> rfl
theorem own_ofN {n : Nat} (h : n ≤ 4000) : (Int32.ofNat n).toInt = n := Int32.toInt_ofNat_of_lt (by omega)
theorem own_cfal {n : Int32} {cs : List Int32} (hn : n.toInt = cs.length) (h1 : 1 ≤ cs.length) (hb : cs.length ≤ 4000) : ((XT.ushr (n - strZ n cs) (31 : Int32)).toInt8.toInt32) = strCd cs := by
  unfold strZ strCd
  split
  · exact own_ush0 n
  · exact own_ush1 hn h1 hb
theorem own_len {n : Int32} {cs : List Int32} (hn : n.toInt = cs.length) (hb : cs.length ≤ 4000) : strZ n cs >>> (strCd cs &&& 31) = n := by
  unfold strZ strCd
  split
  · exact own_shr0 n
  · exact own_half hn hb
theorem preN_lat {cs : List Int32} (h : ∀ c ∈ cs, 0 ≤ c.toInt ∧ c.toInt < 256) : preN cs = cs.length := preN_all cs fun j hj => by
  rw [own_i32, own_255]; have := (h cs[j] (List.getElem_mem hj)).2; omega
theorem own_strCd {cs : List Int32} (h : ∀ c ∈ cs, 0 ≤ c.toInt ∧ c.toInt < 256) : strCd cs = 0 := if_pos (preN_lat h)
theorem own_strZ {n : Int32} {cs : List Int32} (h : ∀ c ∈ cs, 0 ≤ c.toInt ∧ c.toInt < 256) : strZ n cs = n := if_pos (preN_lat h)
theorem own_strVs {cs : List Int32} (h : ∀ c ∈ cs, 0 ≤ c.toInt ∧ c.toInt < 256) : strVs cs = (cs.map fun c => c.toInt8.toInt32).map Value.int := by
  rw [strVs, if_pos (preN_lat h), fillL, List.take_length, Nat.sub_self, List.replicate_zero, List.append_nil, List.map_map]; rfl
theorem d_jdk_52_method_16_code_0 : decode jdk_52_method_16_code 0 = .ok (.iload_n 2, 1) := by decide +kernel
theorem d_jdk_52_method_16_code_1 : decode jdk_52_method_16_code 1 = .ok (.newarray .byte, 2) := by decide +kernel
theorem w22 {Z : State} {a0 : Array Value} (hw : Tb a0 Z) : (Jvm.Cond.arrayClass Jvm.ClassFile.FieldType.byte).before a0 Z = true := hw _ (List.mem_of_getElem? (i := 22) rfl)
theorem d_jdk_52_method_16_code_3 : decode jdk_52_method_16_code 3 = .ok (.astore_n 3, 1) := by decide +kernel
theorem d_jdk_52_method_16_code_4 : decode jdk_52_method_16_code 4 = .ok (.aload_n 0, 1) := by decide +kernel
theorem d_jdk_52_method_16_code_5 : decode jdk_52_method_16_code 5 = .ok (.iload_n 1, 1) := by decide +kernel
theorem d_jdk_52_method_16_code_6 : decode jdk_52_method_16_code 6 = .ok (.aload_n 3, 1) := by decide +kernel
theorem d_jdk_52_method_16_code_7 : decode jdk_52_method_16_code 7 = .ok (.iconst 0, 1) := by decide +kernel
theorem d_jdk_52_method_16_code_8 : decode jdk_52_method_16_code 8 = .ok (.iload_n 2, 1) := by decide +kernel
theorem d_jdk_52_method_16_code_9 : decode jdk_52_method_16_code 9 = .ok (.invokestatic 115, 3) := by decide +kernel
theorem w83 {Z : State} {a0 : Array Value} (hw : Tb a0 Z) : (Jvm.Cond.methodLink "java/lang/StringUTF16" (115 : Nat) ({ cls := "java/lang/StringUTF16", name := "compress", desc := "([CI[BII)I" } : Jvm.MethodName)).before a0 Z = true := hw _ (List.mem_of_getElem? (i := 83) rfl)
theorem w81 {Z : State} {a0 : Array Value} (hw : Tb a0 Z) : (Jvm.Cond.initialized "java/lang/StringUTF16").before a0 Z = true := hw _ (List.mem_of_getElem? (i := 81) rfl)
theorem w85 {Z : State} {a0 : Array Value} (hw : Tb a0 Z) : (Jvm.Cond.code ({ cls := "java/lang/StringUTF16", name := "compress", desc := "([CI[BII)I" } : Jvm.MethodName) jdk_52_method_21_code (7 : Nat) (Option.some Jvm.ClassFile.FieldType.int)).before a0 Z = true := hw _ (List.mem_of_getElem? (i := 85) rfl)
theorem w84 {Z : State} {a0 : Array Value} (hw : Tb a0 Z) : (Jvm.Cond.static ({ cls := "java/lang/StringUTF16", name := "compress", desc := "([CI[BII)I" } : Jvm.MethodName)).before a0 Z = true := hw _ (List.mem_of_getElem? (i := 84) rfl)
theorem pd___CI_BII_I_3760 : parseMethodDescriptor "([CI[BII)I" = some ⟨[(.array .char), .int, (.array .byte), .int, .int], some .int⟩ := by decide +kernel
theorem d_jdk_52_method_16_code_12 : decode jdk_52_method_16_code 12 = .ok (.istore 4, 2) := by decide +kernel
theorem d_jdk_52_method_16_code_14 : decode jdk_52_method_16_code 14 = .ok (.iload 4, 2) := by decide +kernel
theorem d_jdk_52_method_16_code_16 : decode jdk_52_method_16_code 16 = .ok (.iload_n 2, 1) := by decide +kernel
theorem d_jdk_52_method_16_code_17 : decode jdk_52_method_16_code 17 = .ok (.if_icmp .eq 40, 3) := by decide +kernel
theorem d_jdk_52_method_3_code_0 : decode jdk_52_method_3_code 0 = .ok (.iload_n 0, 1) := by decide +kernel
theorem d_jdk_52_method_3_code_1 : decode jdk_52_method_3_code 1 = .ok (.ifCond .ge 11, 3) := by decide +kernel
theorem d_jdk_52_method_3_code_12 : decode jdk_52_method_3_code 12 = .ok (.iload_n 0, 1) := by decide +kernel
theorem d_jdk_52_method_3_code_13 : decode jdk_52_method_3_code 13 = .ok (.ldc 20, 2) := by decide +kernel
theorem w95 {Z : State} {a0 : Array Value} (hw : Tb a0 Z) : (Jvm.Cond.constant "java/lang/StringUTF16" (20 : Nat) (1073741823 : Int32)).before a0 Z = true := hw _ (List.mem_of_getElem? (i := 95) rfl)
theorem d_jdk_52_method_3_code_15 : decode jdk_52_method_3_code 15 = .ok (.if_icmp .lt 40, 3) := by decide +kernel
theorem d_jdk_52_method_3_code_55 : decode jdk_52_method_3_code 55 = .ok (.iload_n 0, 1) := by decide +kernel
theorem d_jdk_52_method_3_code_56 : decode jdk_52_method_3_code 56 = .ok (.iconst 1, 1) := by decide +kernel
theorem d_jdk_52_method_3_code_57 : decode jdk_52_method_3_code 57 = .ok (.ishl, 1) := by decide +kernel
theorem d_jdk_52_method_3_code_58 : decode jdk_52_method_3_code 58 = .ok (.ireturn, 1) := by decide +kernel
set_option maxRecDepth 65536 in
set_option maxHeartbeats 40000000 in
theorem c_nbl (l : Launch) (Z : State) (a0 : Array Value) (hw : Tb a0 Z) (hEW : EW Z a0 EL0) (n0 : Nat) (n : Int32) (m : Nat) (h0 : Heap) (O : Old Z n0 h0) (hn : n.toInt = m) (hm : m ≤ 4000) :
    Ct l Z EL0 n0 (⟨"java/lang/StringUTF16", "newBytesLength", "(I)I"⟩ : MethodName) jdk_52_method_3_code 1 (some .int) ({ frames := 0, cells := 0, slots := 0, locals := 0 } : Room) #[(.int n)] h0 [] (Pu (some (.int (n <<< ((1 : Int32) &&& 31)))) h0) := by
  refine Ct.of (a0 := a0) #[.val (.int n)] hEW O (plainFor_of_name pl_java_lang_StringUTF16) (fun m => by first | (simp [entryFrame, mkF, argsToLocals, Value.category]; done) | rfl) ?_
  intro p_ e_ s_ m_ below_ meth_ c_ b_ T_ K hSP
  refine k_iloadN K d_jdk_52_method_3_code_0 (pc' := 1) rfl rfl ?_
  refine k_if_ge K d_jdk_52_method_3_code_1 (by decide) (pc' := 12) (pc2 := 4) (by decide) rfl (fun hc1 => ?_) (fun q => absurd q (by rw [own_i32, own_0, hn]; omega))
  refine k_iloadN K d_jdk_52_method_3_code_12 (pc' := 13) rfl rfl ?_
  refine k_ldcI K (w95 hw) d_jdk_52_method_3_code_13 (pc' := 15) rfl ?_
  refine k_icmp_lt K d_jdk_52_method_3_code_15 (by decide) (pc' := 55) (pc2 := 18) (by decide) rfl (fun hc15 => ?_) (fun q => absurd (by rw [own_i32, hn, show (1073741823 : Int32).toInt = 1073741823 by decide]; omega) q)
  refine k_iloadN K d_jdk_52_method_3_code_55 (pc' := 56) rfl rfl ?_
  refine k_iconst K (1 : Int32) d_jdk_52_method_3_code_56 (pc' := 57) rfl rfl ?_
  refine k_ishl K d_jdk_52_method_3_code_57 (pc' := 58) rfl ?_
  exact k_iret K d_jdk_52_method_3_code_58 rfl (fun sf ht => ⟨rfl, rfl⟩) (by decide) (by decide)
theorem d_jdk_52_method_2_code_0 : decode jdk_52_method_2_code 0 = .ok (.iload_n 0, 1) := by decide +kernel
theorem d_jdk_52_method_2_code_1 : decode jdk_52_method_2_code 1 = .ok (.invokestatic 11, 3) := by decide +kernel
theorem w92 {Z : State} {a0 : Array Value} (hw : Tb a0 Z) : (Jvm.Cond.methodLink "java/lang/StringUTF16" (11 : Nat) ({ cls := "java/lang/StringUTF16", name := "newBytesLength", desc := "(I)I" } : Jvm.MethodName)).before a0 Z = true := hw _ (List.mem_of_getElem? (i := 92) rfl)
theorem w94 {Z : State} {a0 : Array Value} (hw : Tb a0 Z) : (Jvm.Cond.code ({ cls := "java/lang/StringUTF16", name := "newBytesLength", desc := "(I)I" } : Jvm.MethodName) jdk_52_method_3_code (1 : Nat) (Option.some Jvm.ClassFile.FieldType.int)).before a0 Z = true := hw _ (List.mem_of_getElem? (i := 94) rfl)
theorem w93 {Z : State} {a0 : Array Value} (hw : Tb a0 Z) : (Jvm.Cond.static ({ cls := "java/lang/StringUTF16", name := "newBytesLength", desc := "(I)I" } : Jvm.MethodName)).before a0 Z = true := hw _ (List.mem_of_getElem? (i := 93) rfl)
theorem pd__I_I_601 : parseMethodDescriptor "(I)I" = some ⟨[.int], some .int⟩ := by decide +kernel
theorem d_jdk_52_method_2_code_4 : decode jdk_52_method_2_code 4 = .ok (.newarray .byte, 2) := by decide +kernel
theorem d_jdk_52_method_2_code_6 : decode jdk_52_method_2_code 6 = .ok (.areturn, 1) := by decide +kernel
set_option maxRecDepth 65536 in
set_option maxHeartbeats 40000000 in
theorem c_nbf (l : Launch) (Z : State) (a0 : Array Value) (hw : Tb a0 Z) (hEW : EW Z a0 EL0) (n0 : Nat) (n : Int32) (m : Nat) (h0 : Heap) (O : Old Z n0 h0) (hn : n.toInt = m) (hm : m ≤ 4) :
    Ct l Z EL0 n0 (⟨"java/lang/StringUTF16", "newBytesFor", "(I)[B"⟩ : MethodName) jdk_52_method_2_code 1 (some (.array .byte)) ({ frames := 1, cells := 1, slots := 8, locals := 12 } : Room) #[(.int n)] h0 [] (fun v h sf => ∃ d kd, v = some (.ref d) ∧ h0.size ≤ d ∧ Keep h0 h [] ∧ Arv Z h d kd .byte (n <<< ((1 : Int32) &&& 31)) (List.replicate (2 * m) (.int 0)) (.int 0) ∧ sf d) := by
  refine Ct.of (a0 := a0) #[.val (.int n)] hEW O (plainFor_of_name pl_java_lang_StringUTF16) (fun m => by first | (simp [entryFrame, mkF, argsToLocals, Value.category]; done) | rfl) ?_
  intro p_ e_ s_ m_ below_ meth_ c_ b_ T_ K hSP
  have KP := Keep.refl h0 []
  refine k_iloadN K d_jdk_52_method_2_code_0 (pc' := 1) rfl rfl ?_
  refine k_staticP K [(.int n)] [] 0 (w92 hw) (w93 hw) (w81 hw) (w94 hw) (by decide) pd__I_I_601 (c_nbl l Z a0 hw hEW n0 n m h0 K.old hn (by omega)) d_jdk_52_method_2_code_1 nofun (pc' := 4) rfl rfl rfl rfl (Nat.le_of_eq rfl) (by decide) (by decide) (by decide) (by decide) ?_
  intro b5 T5 L5 K5 tr5
  show Goes p_.tables e_ below_ _ (T5.setTop (mkF m_ 4 #[.val (.int n)] [(.int (n <<< ((1 : Int32) &&& 31)))]))
  have hz := own_dbl hn (by omega)
  refine k_newarray K5 (aty := .byte) (z := (n <<< ((1 : Int32) &&& 31))) (w22 hw) (by rw [own_i32, own_0, hz]; omega) (cap := 8) (by rw [own_clamp hz]; omega) (by decide) d_jdk_52_method_2_code_4 (pc' := 6) rfl (by decide) (by decide) ?_
  intro T6 h6 a6 ka6 g6 K6 E6 tr6 sf_a6 V_a6
  have ga_a6 : n0 ≤ a6 := own_old K5.old g6
  have sz_a6 : h0.size ≤ a6 := g6 ▸ KP.1
  replace KP := KP.ext E6
  replace V_a6 : Arv Z h6 a6 ka6 .byte (n <<< ((1 : Int32) &&& 31)) (List.replicate (2 * m) (.int (0 : Int32))) (.int (0 : Int32)) := V_a6.pad (pad_rep [] (.int (0 : Int32)) (2 * m))
  exact k_aret K6 d_jdk_52_method_2_code_6 rfl rfl rfl (fun sf ht => ⟨_, _, rfl, sz_a6, KP, V_a6, ht _ V_a6.lt sf_a6⟩) (by decide) (by decide)
theorem d_jdk_52_method_4_code_0 : decode jdk_52_method_4_code 0 = .ok (.getstatic 44, 3) := by decide +kernel
theorem w99 {Z : State} {a0 : Array Value} (hw : Tb a0 Z) : (Jvm.Cond.fieldLink "java/lang/StringUTF16" (44 : Nat) "java/lang/StringUTF16" "$assertionsDisabled" "Z").before a0 Z = true := hw _ (List.mem_of_getElem? (i := 99) rfl)
theorem d_jdk_52_method_4_code_3 : decode jdk_52_method_4_code 3 = .ok (.ifCond .ne 25, 3) := by decide +kernel
theorem d_jdk_52_method_4_code_28 : decode jdk_52_method_4_code 28 = .ok (.iload_n 1, 1) := by decide +kernel
theorem d_jdk_52_method_4_code_29 : decode jdk_52_method_4_code 29 = .ok (.iconst 1, 1) := by decide +kernel
theorem d_jdk_52_method_4_code_30 : decode jdk_52_method_4_code 30 = .ok (.ishl, 1) := by decide +kernel
theorem d_jdk_52_method_4_code_31 : decode jdk_52_method_4_code 31 = .ok (.istore_n 1, 1) := by decide +kernel
theorem d_jdk_52_method_4_code_32 : decode jdk_52_method_4_code 32 = .ok (.aload_n 0, 1) := by decide +kernel
theorem d_jdk_52_method_4_code_33 : decode jdk_52_method_4_code 33 = .ok (.iload_n 1, 1) := by decide +kernel
theorem d_jdk_52_method_4_code_34 : decode jdk_52_method_4_code 34 = .ok (.iinc 1 1, 3) := by decide +kernel
theorem d_jdk_52_method_4_code_37 : decode jdk_52_method_4_code 37 = .ok (.iload_n 2, 1) := by decide +kernel
theorem d_jdk_52_method_4_code_38 : decode jdk_52_method_4_code 38 = .ok (.getstatic 59, 3) := by decide +kernel
theorem w100 {Z : State} {a0 : Array Value} (hw : Tb a0 Z) : (Jvm.Cond.fieldLink "java/lang/StringUTF16" (59 : Nat) "java/lang/StringUTF16" "HI_BYTE_SHIFT" "I").before a0 Z = true := hw _ (List.mem_of_getElem? (i := 100) rfl)
theorem d_jdk_52_method_4_code_41 : decode jdk_52_method_4_code 41 = .ok (.ishr, 1) := by decide +kernel
theorem d_jdk_52_method_4_code_42 : decode jdk_52_method_4_code 42 = .ok (.i2b, 1) := by decide +kernel
theorem d_jdk_52_method_4_code_43 : decode jdk_52_method_4_code 43 = .ok (.bastore, 1) := by decide +kernel
theorem d_jdk_52_method_4_code_44 : decode jdk_52_method_4_code 44 = .ok (.aload_n 0, 1) := by decide +kernel
theorem d_jdk_52_method_4_code_45 : decode jdk_52_method_4_code 45 = .ok (.iload_n 1, 1) := by decide +kernel
theorem d_jdk_52_method_4_code_46 : decode jdk_52_method_4_code 46 = .ok (.iload_n 2, 1) := by decide +kernel
theorem d_jdk_52_method_4_code_47 : decode jdk_52_method_4_code 47 = .ok (.getstatic 63, 3) := by decide +kernel
theorem w101 {Z : State} {a0 : Array Value} (hw : Tb a0 Z) : (Jvm.Cond.fieldLink "java/lang/StringUTF16" (63 : Nat) "java/lang/StringUTF16" "LO_BYTE_SHIFT" "I").before a0 Z = true := hw _ (List.mem_of_getElem? (i := 101) rfl)
theorem d_jdk_52_method_4_code_50 : decode jdk_52_method_4_code 50 = .ok (.ishr, 1) := by decide +kernel
theorem d_jdk_52_method_4_code_51 : decode jdk_52_method_4_code 51 = .ok (.i2b, 1) := by decide +kernel
theorem d_jdk_52_method_4_code_52 : decode jdk_52_method_4_code 52 = .ok (.bastore, 1) := by decide +kernel
theorem d_jdk_52_method_4_code_53 : decode jdk_52_method_4_code 53 = .ok (.return_, 1) := by decide +kernel
set_option maxRecDepth 65536 in
set_option maxHeartbeats 40000000 in
theorem c_putChar (l : Launch) (Z : State) (a0 : Array Value) (hw : Tb a0 Z) (hEW : EW Z a0 EL0) (n0 : Nat) (d : Addr) (kd : ClassId) (i c z : Int32) (j m : Nat) (vs : List Value) (h0 : Heap) (O : Old Z n0 h0) (hj : i.toInt = j) (hjm : j < m) (hm : m ≤ 4000) (hz : z.toInt = (2 * m : Nat)) (hvs : vs.length = 2 * m) (V_d : Arv Z h0 d kd .byte z vs (.int 0)) (ga_d : n0 ≤ d) (SA : Sta Z Z.heap "java/lang/StringUTF16" "$assertionsDisabled" "Z" (.int 1)) (SH : Sta Z Z.heap "java/lang/StringUTF16" "HI_BYTE_SHIFT" "I" (.int 0)) (SL : Sta Z Z.heap "java/lang/StringUTF16" "LO_BYTE_SHIFT" "I" (.int 8)) :
    Ct l Z EL0 n0 (⟨"java/lang/StringUTF16", "putChar", "([BII)V"⟩ : MethodName) jdk_52_method_4_code 3 none ({ frames := 0, cells := 0, slots := 0, locals := 0 } : Room) #[(.ref d), (.int i), (.int c)] h0 [d] (fun v h _ => v = none ∧ Keep h0 h [d] ∧ Arv Z h d kd .byte z ((vs.set (2 * j) (loB c)).set (2 * j + 1) (hiB c)) (.int 0)) := by
  refine Ct.of (a0 := a0) #[.val (.ref d), .val (.int i), .val (.int c)] hEW O (plainFor_of_name pl_java_lang_StringUTF16) (fun m => by first | (simp [entryFrame, mkF, argsToLocals, Value.category]; done) | rfl) ?_
  intro p_ e_ s_ m_ below_ meth_ c_ b_ T_ K hSP
  have KP := Keep.refl h0 [d]
  have sf_d := hSP d (by simp)
  refine k_getS K (w99 hw) Via.refl SA d_jdk_52_method_4_code_0 (pc' := 3) rfl ?_
  intro T7 K7
  refine k_if_ne K7 d_jdk_52_method_4_code_3 (by decide) (pc' := 28) (pc2 := 6) (by decide) rfl (fun hc3 => ?_) (fun q => absurd q (by decide))
  refine k_iloadN K7 d_jdk_52_method_4_code_28 (pc' := 29) rfl rfl ?_
  refine k_iconst K7 (1 : Int32) d_jdk_52_method_4_code_29 (pc' := 30) rfl rfl ?_
  refine k_ishl K7 d_jdk_52_method_4_code_30 (pc' := 31) rfl ?_
  refine k_istoreN K7 d_jdk_52_method_4_code_31 (pc' := 32) (L' := #[.val (.ref d), .val (.int (i <<< ((1 : Int32) &&& 31))), .val (.int c)]) rfl rfl ?_
  have hi := own_dbl hj (by omega)
  have hi1 := own_add1 hi (by omega)
  generalize hii : i <<< ((1 : Int32) &&& 31) = i2 at hi hi1 ⊢
  refine k_aloadN K7 d_jdk_52_method_4_code_32 (pc' := 33) rfl rfl rfl ?_
  refine k_iloadN K7 d_jdk_52_method_4_code_33 (pc' := 34) rfl rfl ?_
  refine k_iinc K7 (1 : Int32) d_jdk_52_method_4_code_34 (pc' := 37) (L' := #[.val (.ref d), .val (.int (i2 + (1 : Int32))), .val (.int c)]) rfl rfl rfl rfl ?_
  refine k_iloadN K7 d_jdk_52_method_4_code_37 (pc' := 38) rfl rfl ?_
  refine k_getS K7 (w100 hw) Via.refl SH d_jdk_52_method_4_code_38 (pc' := 41) rfl ?_
  intro T8 K8
  refine k_ishr K8 d_jdk_52_method_4_code_41 (pc' := 42) rfl ?_
  refine k_i2b K8 d_jdk_52_method_4_code_42 (pc' := 43) rfl ?_
  refine k_bastore K8 (j := i2) V_d (own_in hi hz (by omega)) (by rw [own_clamp hi, hvs]; omega) ga_d sf_d d_jdk_52_method_4_code_43 (pc' := 44) rfl ?_
  intro T9 h9 K9 W9 tr9 V9
  replace sf_d := tr9 d V_d.lt sf_d
  replace KP := KP.wr W9 (Or.inl (by simp))
  replace V_d := V9
  rw [own_clamp hi, own_byte] at V_d
  replace V_d : Arv Z h9 d kd .byte z (vs.set (2 * j) (loB c)) (.int 0) := V_d
  refine k_aloadN K9 d_jdk_52_method_4_code_44 (pc' := 45) rfl rfl rfl ?_
  refine k_iloadN K9 d_jdk_52_method_4_code_45 (pc' := 46) rfl rfl ?_
  refine k_iloadN K9 d_jdk_52_method_4_code_46 (pc' := 47) rfl rfl ?_
  refine k_getS K9 (w101 hw) Via.refl SL d_jdk_52_method_4_code_47 (pc' := 50) rfl ?_
  intro T10 K10
  refine k_ishr K10 d_jdk_52_method_4_code_50 (pc' := 51) rfl ?_
  refine k_i2b K10 d_jdk_52_method_4_code_51 (pc' := 52) rfl ?_
  refine k_bastore K10 (j := (i2 + (1 : Int32))) V_d (own_in hi1 hz (by omega)) (by rw [own_clamp hi1, List.length_set, hvs]; omega) ga_d sf_d d_jdk_52_method_4_code_52 (pc' := 53) rfl ?_
  intro T11 h11 K11 W11 tr11 V11
  replace sf_d := tr11 d V_d.lt sf_d
  replace KP := KP.wr W11 (Or.inl (by simp))
  replace V_d := V11
  rw [own_clamp hi1, own_byte] at V_d
  replace V_d : Arv Z h11 d kd .byte z ((vs.set (2 * j) (loB c)).set (2 * j + 1) (hiB c)) (.int 0) := V_d
  exact k_return K11 d_jdk_52_method_4_code_53 rfl (fun sf ht => ⟨rfl, KP, V_d⟩) (by decide) (by decide)
theorem d_jdk_52_method_14_code_0 : decode jdk_52_method_14_code 0 = .ok (.iload_n 2, 1) := by decide +kernel
theorem d_jdk_52_method_14_code_1 : decode jdk_52_method_14_code 1 = .ok (.invokestatic 107, 3) := by decide +kernel
theorem w89 {Z : State} {a0 : Array Value} (hw : Tb a0 Z) : (Jvm.Cond.methodLink "java/lang/StringUTF16" (107 : Nat) ({ cls := "java/lang/StringUTF16", name := "newBytesFor", desc := "(I)[B" } : Jvm.MethodName)).before a0 Z = true := hw _ (List.mem_of_getElem? (i := 89) rfl)
theorem w91 {Z : State} {a0 : Array Value} (hw : Tb a0 Z) : (Jvm.Cond.code ({ cls := "java/lang/StringUTF16", name := "newBytesFor", desc := "(I)[B" } : Jvm.MethodName) jdk_52_method_2_code (1 : Nat) (Option.some (Jvm.ClassFile.FieldType.array Jvm.ClassFile.FieldType.byte))).before a0 Z = true := hw _ (List.mem_of_getElem? (i := 91) rfl)
theorem w90 {Z : State} {a0 : Array Value} (hw : Tb a0 Z) : (Jvm.Cond.static ({ cls := "java/lang/StringUTF16", name := "newBytesFor", desc := "(I)[B" } : Jvm.MethodName)).before a0 Z = true := hw _ (List.mem_of_getElem? (i := 90) rfl)
theorem pd__I__B_1003 : parseMethodDescriptor "(I)[B" = some ⟨[.int], some (.array .byte)⟩ := by decide +kernel
theorem d_jdk_52_method_14_code_4 : decode jdk_52_method_14_code 4 = .ok (.astore_n 3, 1) := by decide +kernel
theorem d_jdk_52_method_14_code_5 : decode jdk_52_method_14_code 5 = .ok (.iconst 0, 1) := by decide +kernel
theorem d_jdk_52_method_14_code_6 : decode jdk_52_method_14_code 6 = .ok (.istore 4, 2) := by decide +kernel
theorem d_jdk_52_method_14_code_8 : decode jdk_52_method_14_code 8 = .ok (.iload 4, 2) := by decide +kernel
theorem d_jdk_52_method_14_code_10 : decode jdk_52_method_14_code 10 = .ok (.iload_n 2, 1) := by decide +kernel
theorem d_jdk_52_method_14_code_11 : decode jdk_52_method_14_code 11 = .ok (.if_icmp .ge 21, 3) := by decide +kernel
theorem d_jdk_52_method_14_code_32 : decode jdk_52_method_14_code 32 = .ok (.aload_n 3, 1) := by decide +kernel
theorem d_jdk_52_method_14_code_33 : decode jdk_52_method_14_code 33 = .ok (.areturn, 1) := by decide +kernel
theorem d_jdk_52_method_14_code_14 : decode jdk_52_method_14_code 14 = .ok (.aload_n 3, 1) := by decide +kernel
theorem d_jdk_52_method_14_code_15 : decode jdk_52_method_14_code 15 = .ok (.iload 4, 2) := by decide +kernel
theorem d_jdk_52_method_14_code_17 : decode jdk_52_method_14_code 17 = .ok (.aload_n 0, 1) := by decide +kernel
theorem d_jdk_52_method_14_code_18 : decode jdk_52_method_14_code 18 = .ok (.iload_n 1, 1) := by decide +kernel
theorem d_jdk_52_method_14_code_19 : decode jdk_52_method_14_code 19 = .ok (.caload, 1) := by decide +kernel
theorem d_jdk_52_method_14_code_20 : decode jdk_52_method_14_code 20 = .ok (.invokestatic 111, 3) := by decide +kernel
theorem w96 {Z : State} {a0 : Array Value} (hw : Tb a0 Z) : (Jvm.Cond.methodLink "java/lang/StringUTF16" (111 : Nat) ({ cls := "java/lang/StringUTF16", name := "putChar", desc := "([BII)V" } : Jvm.MethodName)).before a0 Z = true := hw _ (List.mem_of_getElem? (i := 96) rfl)
theorem w98 {Z : State} {a0 : Array Value} (hw : Tb a0 Z) : (Jvm.Cond.code ({ cls := "java/lang/StringUTF16", name := "putChar", desc := "([BII)V" } : Jvm.MethodName) jdk_52_method_4_code (3 : Nat) (Option.none : Option Jvm.ClassFile.FieldType)).before a0 Z = true := hw _ (List.mem_of_getElem? (i := 98) rfl)
theorem w97 {Z : State} {a0 : Array Value} (hw : Tb a0 Z) : (Jvm.Cond.static ({ cls := "java/lang/StringUTF16", name := "putChar", desc := "([BII)V" } : Jvm.MethodName)).before a0 Z = true := hw _ (List.mem_of_getElem? (i := 97) rfl)
theorem pd___BII_V_1925 : parseMethodDescriptor "([BII)V" = some ⟨[(.array .byte), .int, .int], none⟩ := by decide +kernel
theorem d_jdk_52_method_14_code_23 : decode jdk_52_method_14_code 23 = .ok (.iinc 1 1, 3) := by decide +kernel
theorem d_jdk_52_method_14_code_26 : decode jdk_52_method_14_code 26 = .ok (.iinc 4 1, 3) := by decide +kernel
theorem d_jdk_52_method_14_code_29 : decode jdk_52_method_14_code 29 = .ok (.goto (-21), 3) := by decide +kernel
set_option maxRecDepth 65536 in
set_option maxHeartbeats 40000000 in
theorem c_toBytes3 (l : Launch) (Z : State) (a0 : Array Value) (hw : Tb a0 Z) (hEW : EW Z a0 EL0) (n0 : Nat) (va : Addr) (kv : ClassId) (n : Int32) (cs : List Int32) (h0 : Heap) (O : Old Z n0 h0) (hn : n.toInt = cs.length) (hb : cs.length ≤ 4) (V_va : Arv Z h0 va kv .char n (cs.map Value.int) (.int 0)) (SA : Sta Z Z.heap "java/lang/StringUTF16" "$assertionsDisabled" "Z" (.int 1)) (SH : Sta Z Z.heap "java/lang/StringUTF16" "HI_BYTE_SHIFT" "I" (.int 0)) (SL : Sta Z Z.heap "java/lang/StringUTF16" "LO_BYTE_SHIFT" "I" (.int 8)) :
    Ct l Z EL0 n0 (⟨"java/lang/StringUTF16", "toBytes", "([CII)[B"⟩ : MethodName) jdk_52_method_14_code 5 (some (.array .byte)) ({ frames := 2, cells := 1, slots := 8, locals := 24 } : Room) #[(.ref va), (.int (0 : Int32)), (.int n)] h0 [] (fun v h sf => ∃ d kd, v = some (.ref d) ∧ h0.size ≤ d ∧ Keep h0 h [] ∧ Arv Z h d kd .byte (n <<< ((1 : Int32) &&& 31)) (fill2 cs cs.length) (.int 0) ∧ sf d) := by
  refine Ct.of (a0 := a0) #[.val (.ref va), .val (.int (0 : Int32)), .val (.int n), .unset, .unset] hEW O (plainFor_of_name pl_java_lang_StringUTF16) (fun m => by first | (simp [entryFrame, mkF, argsToLocals, Value.category]; done) | rfl) ?_
  intro p_ e_ s_ m_ below_ meth_ c_ b_ T_ K hSP
  have KP := Keep.refl h0 []
  refine k_iloadN K d_jdk_52_method_14_code_0 (pc' := 1) rfl rfl ?_
  refine k_static K [(.int n)] [] 0 (w89 hw) (w90 hw) (w81 hw) (w91 hw) (by decide) pd__I__B_1003 (c_nbf l Z a0 hw hEW n0 n cs.length h0 K.old hn hb) d_jdk_52_method_14_code_1 nofun (pc' := 4) rfl rfl rfl rfl (Nat.le_of_eq rfl) (by decide) (by decide) (by decide) (by decide) ?_
  intro b12 T12 h12 L12 v12 K12 tr12 q12
  obtain ⟨d, kd, rfl, hd, KQ, V_d, sf_d⟩ := q12
  have ga_d : n0 ≤ d := Nat.le_trans (own_n0 K.old) hd
  have sz_d : h0.size ≤ d := Nat.le_trans KP.1 hd
  have ne_va_d : va ≠ d := own_ne2 V_va.lt hd
  replace V_va := V_va.keep KQ nin0
  replace KP := KP.trans KQ all0
  show Goes p_.tables e_ below_ _ (T12.setTop (mkF m_ 4 #[.val (.ref va), .val (.int (0 : Int32)), .val (.int n), .unset, .unset] [(.ref d)]))
  refine k_astoreN K12 d_jdk_52_method_14_code_4 (pc' := 5) (L' := #[.val (.ref va), .val (.int (0 : Int32)), .val (.int n), .val (.ref d), .unset]) rfl rfl rfl ?_
  refine k_iconst K12 (0 : Int32) d_jdk_52_method_14_code_5 (pc' := 6) rfl rfl ?_
  refine k_istore K12 d_jdk_52_method_14_code_6 (pc' := 8) (L' := #[.val (.ref va), .val (.int (0 : Int32)), .val (.int n), .val (.ref d), .val (.int (0 : Int32))]) rfl rfl ?_
  have hz := own_dbl hn (by omega)
  rw [← fill2_zero] at V_d
  have LOOP : ∀ (k : Nat) (i : Int32) (j : Nat) (hj : i.toInt = j) (hk : j + k = cs.length) (bl Tl : State) (hl : Heap) (Ll : List Loc), Wk p_ l e_ ({ frames := 2, cells := 1, slots := 8, locals := 24 } : Room) s_ m_ #[(.ref va), (.int (0 : Int32)), (.int n)] below_ meth_ c_ Z a0 EL0 n0 (⟨"java/lang/StringUTF16", "toBytes", "([CII)[B"⟩ : MethodName) jdk_52_method_14_code 5 (some (.array .byte)) bl Tl hl Ll 1 8 → (Keep h0 hl []) → (Arv Z hl va kv .char n (cs.map Value.int) (.int 0)) → (Arv Z hl d kd .byte (n <<< ((1 : Int32) &&& 31)) (fill2 cs j) (.int 0)) → (Sfe Z EL0 bl.vm hl d) → Goes p_.tables e_ below_ (FinW Z EL0 s_ n0 ({ frames := 2, cells := 1, slots := 8, locals := 24 } : Room) (fun v h sf => ∃ d kd, v = some (.ref d) ∧ h0.size ≤ d ∧ Keep h0 h [] ∧ Arv Z h d kd .byte (n <<< ((1 : Int32) &&& 31)) (fill2 cs cs.length) (.int 0) ∧ sf d)) (Tl.setTop (mkF m_ 8 #[.val (.ref va), .val (.int i), .val (.int n), .val (.ref d), .val (.int i)] [])) := by
    intro k
    induction k with
    | zero =>
      intro i j hj hk bl Tl hl Ll Kl KP V_va V_d sf_d
      refine k_iload Kl d_jdk_52_method_14_code_8 (pc' := 10) rfl rfl ?_
      refine k_iloadN Kl d_jdk_52_method_14_code_10 (pc' := 11) rfl rfl ?_
      refine k_icmp_ge Kl d_jdk_52_method_14_code_11 (by decide) (pc' := 32) (pc2 := 14) (by decide) rfl (fun hc11 => ?_) (fun q => absurd q (by rw [own_i32, hj, hn]; omega))
      refine k_aloadN Kl d_jdk_52_method_14_code_32 (pc' := 33) rfl rfl rfl ?_
      have ej : j = cs.length := by omega
      subst ej
      exact k_aret Kl d_jdk_52_method_14_code_33 rfl rfl rfl (fun sf ht => ⟨d, kd, rfl, sz_d, KP, V_d, ht _ V_d.lt sf_d⟩) (by decide) (by decide)
    | succ k ih =>
      intro i j hj hk bl Tl hl Ll Kl KP V_va V_d sf_d
      have hjl : j < cs.length := by omega
      refine k_iload Kl d_jdk_52_method_14_code_8 (pc' := 10) rfl rfl ?_
      refine k_iloadN Kl d_jdk_52_method_14_code_10 (pc' := 11) rfl rfl ?_
      refine k_icmp_ge Kl d_jdk_52_method_14_code_11 (by decide) (pc' := 32) (pc2 := 14) (by decide) rfl (fun q => absurd (by rw [own_i32, hj, hn]; omega) q) (fun hc11 => ?_)
      refine k_aloadN Kl d_jdk_52_method_14_code_14 (pc' := 15) rfl rfl rfl ?_
      refine k_iload Kl d_jdk_52_method_14_code_15 (pc' := 17) rfl rfl ?_
      refine k_aloadN Kl d_jdk_52_method_14_code_17 (pc' := 18) rfl rfl rfl ?_
      refine k_iloadN Kl d_jdk_52_method_14_code_18 (pc' := 19) rfl rfl ?_
      refine k_caload Kl (j := i) V_va (own_in hj hn hjl) (by rw [own_clamp hj]; exact own_getD cs j hjl) d_jdk_52_method_14_code_19 (pc' := 20) rfl ?_
      refine k_static Kl [(.ref d), (.int i), (.int cs[j])] [] 0 (w96 hw) (w97 hw) (w81 hw) (w98 hw) (by decide) pd___BII_V_1925 (c_putChar l Z a0 hw hEW n0 d kd i cs[j] (n <<< ((1 : Int32) &&& 31)) j cs.length (fill2 cs j) hl Kl.old hj hjl (by omega) hz (fill2_len cs j (by omega)) V_d ga_d SA SH SL) d_jdk_52_method_14_code_20 (fun x hx => by cases List.mem_singleton.mp hx; exact ⟨V_d.lt, sf_d⟩) (pc' := 23) rfl rfl rfl rfl (Nat.le_of_eq rfl) (by decide) (by decide) (by decide) (by decide) ?_
      intro b14 T14 h14 L14 v14 K14 tr14 q14
      obtain ⟨rfl, KQ, V2⟩ := q14
      replace sf_d := tr14 d V_d.lt sf_d
      replace V_va := V_va.keep KQ (ninS ne_va_d nin0)
      replace KP := KP.trans KQ (allS (Or.inr sz_d) all0)
      replace V_d := (fill2_set cs j hjl) ▸ V2
      show Goes p_.tables e_ below_ _ (T14.setTop (mkF m_ 23 #[.val (.ref va), .val (.int i), .val (.int n), .val (.ref d), .val (.int i)] []))
      refine k_iinc K14 (1 : Int32) d_jdk_52_method_14_code_23 (pc' := 26) (L' := #[.val (.ref va), .val (.int (i + (1 : Int32))), .val (.int n), .val (.ref d), .val (.int i)]) rfl rfl rfl rfl ?_
      refine k_iinc K14 (1 : Int32) d_jdk_52_method_14_code_26 (pc' := 29) (L' := #[.val (.ref va), .val (.int (i + (1 : Int32))), .val (.int n), .val (.ref d), .val (.int (i + (1 : Int32)))]) rfl rfl rfl rfl ?_
      refine k_goto K14 d_jdk_52_method_14_code_29 (by decide) (pc' := 8) (by decide) ?_
      exact ih (i + 1) (j + 1) (own_add1 hj (by omega)) (by omega) _ _ _ _ K14 KP V_va V_d sf_d
  exact LOOP cs.length (0 : Int32) 0 rfl (by omega) _ _ _ _ K12 KP V_va V_d sf_d
theorem d_jdk_52_method_5_code_0 : decode jdk_52_method_5_code 0 = .ok (.getstatic 44, 3) := by decide +kernel
theorem d_jdk_52_method_5_code_3 : decode jdk_52_method_5_code 3 = .ok (.ifCond .ne 25, 3) := by decide +kernel
theorem d_jdk_52_method_5_code_28 : decode jdk_52_method_5_code 28 = .ok (.iload_n 1, 1) := by decide +kernel
theorem d_jdk_52_method_5_code_29 : decode jdk_52_method_5_code 29 = .ok (.iconst 1, 1) := by decide +kernel
theorem d_jdk_52_method_5_code_30 : decode jdk_52_method_5_code 30 = .ok (.ishl, 1) := by decide +kernel
theorem d_jdk_52_method_5_code_31 : decode jdk_52_method_5_code 31 = .ok (.istore_n 1, 1) := by decide +kernel
theorem d_jdk_52_method_5_code_32 : decode jdk_52_method_5_code 32 = .ok (.aload_n 0, 1) := by decide +kernel
theorem d_jdk_52_method_5_code_33 : decode jdk_52_method_5_code 33 = .ok (.iload_n 1, 1) := by decide +kernel
theorem d_jdk_52_method_5_code_34 : decode jdk_52_method_5_code 34 = .ok (.iinc 1 1, 3) := by decide +kernel
theorem d_jdk_52_method_5_code_37 : decode jdk_52_method_5_code 37 = .ok (.baload, 1) := by decide +kernel
theorem d_jdk_52_method_5_code_38 : decode jdk_52_method_5_code 38 = .ok (.sipush 255, 3) := by decide +kernel
theorem d_jdk_52_method_5_code_41 : decode jdk_52_method_5_code 41 = .ok (.iand, 1) := by decide +kernel
theorem d_jdk_52_method_5_code_42 : decode jdk_52_method_5_code 42 = .ok (.getstatic 59, 3) := by decide +kernel
theorem d_jdk_52_method_5_code_45 : decode jdk_52_method_5_code 45 = .ok (.ishl, 1) := by decide +kernel
theorem d_jdk_52_method_5_code_46 : decode jdk_52_method_5_code 46 = .ok (.aload_n 0, 1) := by decide +kernel
theorem d_jdk_52_method_5_code_47 : decode jdk_52_method_5_code 47 = .ok (.iload_n 1, 1) := by decide +kernel
theorem d_jdk_52_method_5_code_48 : decode jdk_52_method_5_code 48 = .ok (.baload, 1) := by decide +kernel
theorem d_jdk_52_method_5_code_49 : decode jdk_52_method_5_code 49 = .ok (.sipush 255, 3) := by decide +kernel
theorem d_jdk_52_method_5_code_52 : decode jdk_52_method_5_code 52 = .ok (.iand, 1) := by decide +kernel
theorem d_jdk_52_method_5_code_53 : decode jdk_52_method_5_code 53 = .ok (.getstatic 63, 3) := by decide +kernel
theorem d_jdk_52_method_5_code_56 : decode jdk_52_method_5_code 56 = .ok (.ishl, 1) := by decide +kernel
theorem d_jdk_52_method_5_code_57 : decode jdk_52_method_5_code 57 = .ok (.ior, 1) := by decide +kernel
theorem d_jdk_52_method_5_code_58 : decode jdk_52_method_5_code 58 = .ok (.i2c, 1) := by decide +kernel
theorem d_jdk_52_method_5_code_59 : decode jdk_52_method_5_code 59 = .ok (.ireturn, 1) := by decide +kernel
set_option maxRecDepth 65536 in
set_option maxHeartbeats 40000000 in
theorem c_getChar (l : Launch) (Z : State) (a0 : Array Value) (hw : Tb a0 Z) (hEW : EW Z a0 EL0) (n0 : Nat) (d : Addr) (kd : ClassId) (i z : Int32) (j : Nat) (cs : List Int32) (h0 : Heap) (O : Old Z n0 h0) (hj : i.toInt = j) (hjl : j < cs.length) (hm : cs.length ≤ 4000) (hz : z.toInt = (2 * cs.length : Nat)) (hc : ∀ c ∈ cs, 0 ≤ c.toInt ∧ c.toInt < 65536) (V_d : Arv Z h0 d kd .byte z (fill2 cs cs.length) (.int 0)) (SA : Sta Z Z.heap "java/lang/StringUTF16" "$assertionsDisabled" "Z" (.int 1)) (SH : Sta Z Z.heap "java/lang/StringUTF16" "HI_BYTE_SHIFT" "I" (.int 0)) (SL : Sta Z Z.heap "java/lang/StringUTF16" "LO_BYTE_SHIFT" "I" (.int 8)) :
    Ct l Z EL0 n0 (⟨"java/lang/StringUTF16", "getChar", "([BI)C"⟩ : MethodName) jdk_52_method_5_code 2 (some .char) ({ frames := 0, cells := 0, slots := 0, locals := 0 } : Room) #[(.ref d), (.int i)] h0 [] (Pu (some (.int cs[j])) h0) := by
  refine Ct.of (a0 := a0) #[.val (.ref d), .val (.int i)] hEW O (plainFor_of_name pl_java_lang_StringUTF16) (fun m => by first | (simp [entryFrame, mkF, argsToLocals, Value.category]; done) | rfl) ?_
  intro p_ e_ s_ m_ below_ meth_ c_ b_ T_ K hSP
  refine k_getS K (w99 hw) Via.refl SA d_jdk_52_method_5_code_0 (pc' := 3) rfl ?_
  intro T15 K15
  refine k_if_ne K15 d_jdk_52_method_5_code_3 (by decide) (pc' := 28) (pc2 := 6) (by decide) rfl (fun hc3 => ?_) (fun q => absurd q (by decide))
  refine k_iloadN K15 d_jdk_52_method_5_code_28 (pc' := 29) rfl rfl ?_
  refine k_iconst K15 (1 : Int32) d_jdk_52_method_5_code_29 (pc' := 30) rfl rfl ?_
  refine k_ishl K15 d_jdk_52_method_5_code_30 (pc' := 31) rfl ?_
  refine k_istoreN K15 d_jdk_52_method_5_code_31 (pc' := 32) (L' := #[.val (.ref d), .val (.int (i <<< ((1 : Int32) &&& 31)))]) rfl rfl ?_
  have hi := own_dbl hj (by omega)
  have hi1 := own_add1 hi (by omega)
  generalize hii : i <<< ((1 : Int32) &&& 31) = i2 at hi hi1 ⊢
  refine k_aloadN K15 d_jdk_52_method_5_code_32 (pc' := 33) rfl rfl rfl ?_
  refine k_iloadN K15 d_jdk_52_method_5_code_33 (pc' := 34) rfl rfl ?_
  refine k_iinc K15 (1 : Int32) d_jdk_52_method_5_code_34 (pc' := 37) (L' := #[.val (.ref d), .val (.int (i2 + (1 : Int32)))]) rfl rfl rfl rfl ?_
  refine k_baload K15 (j := i2) V_d (own_in hi hz (by omega)) (by rw [own_clamp hi]; exact fill2_lo cs j hjl) d_jdk_52_method_5_code_37 (pc' := 38) rfl ?_
  refine k_sipush K15 (255 : Int32) d_jdk_52_method_5_code_38 (pc' := 41) rfl rfl ?_
  refine k_iand K15 d_jdk_52_method_5_code_41 (pc' := 42) rfl ?_
  refine k_getS K15 (w100 hw) Via.refl SH d_jdk_52_method_5_code_42 (pc' := 45) rfl ?_
  intro T16 K16
  refine k_ishl K16 d_jdk_52_method_5_code_45 (pc' := 46) rfl ?_
  refine k_aloadN K16 d_jdk_52_method_5_code_46 (pc' := 47) rfl rfl rfl ?_
  refine k_iloadN K16 d_jdk_52_method_5_code_47 (pc' := 48) rfl rfl ?_
  refine k_baload K16 (j := (i2 + (1 : Int32))) V_d (own_in hi1 hz (by omega)) (by rw [own_clamp hi1]; exact fill2_hi cs j hjl) d_jdk_52_method_5_code_48 (pc' := 49) rfl ?_
  refine k_sipush K16 (255 : Int32) d_jdk_52_method_5_code_49 (pc' := 52) rfl rfl ?_
  refine k_iand K16 d_jdk_52_method_5_code_52 (pc' := 53) rfl ?_
  refine k_getS K16 (w101 hw) Via.refl SL d_jdk_52_method_5_code_53 (pc' := 56) rfl ?_
  intro T17 K17
  refine k_ishl K17 d_jdk_52_method_5_code_56 (pc' := 57) rfl ?_
  refine k_ior K17 d_jdk_52_method_5_code_57 (pc' := 58) rfl ?_
  refine k_i2c K17 d_jdk_52_method_5_code_58 (pc' := 59) rfl ?_
  have hcj := hc cs[j] (List.getElem_mem hjl)
  have ej := own_join cs[j] hcj.1 hcj.2
  rw [ej]
  exact k_nret K17 d_jdk_52_method_5_code_59 rfl (by simp) (own_narrowc hcj.1 hcj.2) (fun sf ht => ⟨rfl, rfl⟩) (by decide) (by decide)
theorem d_jdk_52_method_16_code_57 : decode jdk_52_method_16_code 57 = .ok (.aload_n 3, 1) := by decide +kernel
theorem d_jdk_52_method_16_code_58 : decode jdk_52_method_16_code 58 = .ok (.areturn, 1) := by decide +kernel
theorem d_jdk_52_method_16_code_20 : decode jdk_52_method_16_code 20 = .ok (.aload_n 0, 1) := by decide +kernel
theorem d_jdk_52_method_16_code_21 : decode jdk_52_method_16_code 21 = .ok (.iload_n 1, 1) := by decide +kernel
theorem d_jdk_52_method_16_code_22 : decode jdk_52_method_16_code 22 = .ok (.iload_n 2, 1) := by decide +kernel
theorem d_jdk_52_method_16_code_23 : decode jdk_52_method_16_code 23 = .ok (.invokestatic 119, 3) := by decide +kernel
theorem w86 {Z : State} {a0 : Array Value} (hw : Tb a0 Z) : (Jvm.Cond.methodLink "java/lang/StringUTF16" (119 : Nat) ({ cls := "java/lang/StringUTF16", name := "toBytes", desc := "([CII)[B" } : Jvm.MethodName)).before a0 Z = true := hw _ (List.mem_of_getElem? (i := 86) rfl)
theorem w88 {Z : State} {a0 : Array Value} (hw : Tb a0 Z) : (Jvm.Cond.code ({ cls := "java/lang/StringUTF16", name := "toBytes", desc := "([CII)[B" } : Jvm.MethodName) jdk_52_method_14_code (5 : Nat) (Option.some (Jvm.ClassFile.FieldType.array Jvm.ClassFile.FieldType.byte))).before a0 Z = true := hw _ (List.mem_of_getElem? (i := 88) rfl)
theorem w87 {Z : State} {a0 : Array Value} (hw : Tb a0 Z) : (Jvm.Cond.static ({ cls := "java/lang/StringUTF16", name := "toBytes", desc := "([CII)[B" } : Jvm.MethodName)).before a0 Z = true := hw _ (List.mem_of_getElem? (i := 87) rfl)
theorem pd___CII__B_2491 : parseMethodDescriptor "([CII)[B" = some ⟨[(.array .char), .int, .int], some (.array .byte)⟩ := by decide +kernel
theorem d_jdk_52_method_16_code_26 : decode jdk_52_method_16_code 26 = .ok (.astore 5, 2) := by decide +kernel
theorem d_jdk_52_method_16_code_28 : decode jdk_52_method_16_code 28 = .ok (.aload 5, 2) := by decide +kernel
theorem d_jdk_52_method_16_code_30 : decode jdk_52_method_16_code 30 = .ok (.iload 4, 2) := by decide +kernel
theorem d_jdk_52_method_16_code_32 : decode jdk_52_method_16_code 32 = .ok (.invokestatic 71, 3) := by decide +kernel
theorem w102 {Z : State} {a0 : Array Value} (hw : Tb a0 Z) : (Jvm.Cond.methodLink "java/lang/StringUTF16" (71 : Nat) ({ cls := "java/lang/StringUTF16", name := "getChar", desc := "([BI)C" } : Jvm.MethodName)).before a0 Z = true := hw _ (List.mem_of_getElem? (i := 102) rfl)
theorem w104 {Z : State} {a0 : Array Value} (hw : Tb a0 Z) : (Jvm.Cond.code ({ cls := "java/lang/StringUTF16", name := "getChar", desc := "([BI)C" } : Jvm.MethodName) jdk_52_method_5_code (2 : Nat) (Option.some Jvm.ClassFile.FieldType.char)).before a0 Z = true := hw _ (List.mem_of_getElem? (i := 104) rfl)
theorem w103 {Z : State} {a0 : Array Value} (hw : Tb a0 Z) : (Jvm.Cond.static ({ cls := "java/lang/StringUTF16", name := "getChar", desc := "([BI)C" } : Jvm.MethodName)).before a0 Z = true := hw _ (List.mem_of_getElem? (i := 103) rfl)
theorem pd___BI_C_1319 : parseMethodDescriptor "([BI)C" = some ⟨[(.array .byte), .int], some .char⟩ := by decide +kernel
theorem d_jdk_52_method_16_code_35 : decode jdk_52_method_16_code 35 = .ok (.sipush 255, 3) := by decide +kernel
theorem d_jdk_52_method_16_code_38 : decode jdk_52_method_16_code 38 = .ok (.if_icmp .gt 16, 3) := by decide +kernel
theorem d_jdk_52_method_16_code_54 : decode jdk_52_method_16_code 54 = .ok (.aload 5, 2) := by decide +kernel
theorem d_jdk_52_method_16_code_56 : decode jdk_52_method_16_code 56 = .ok (.areturn, 1) := by decide +kernel
set_option maxRecDepth 65536 in
set_option maxHeartbeats 40000000 in
theorem c_compress3 (l : Launch) (Z : State) (a0 : Array Value) (hw : Tb a0 Z) (hEW : EW Z a0 EL0) (n0 : Nat) (va : Addr) (kv : ClassId) (n : Int32) (cs : List Int32) (h0 : Heap) (O : Old Z n0 h0) (hn : n.toInt = cs.length) (hb : cs.length ≤ 4) (hc : ∀ c ∈ cs, 0 ≤ c.toInt ∧ c.toInt < 65536) (V_va : Arv Z h0 va kv .char n (cs.map Value.int) (.int 0)) (SA : Sta Z Z.heap "java/lang/StringUTF16" "$assertionsDisabled" "Z" (.int 1)) (SH : Sta Z Z.heap "java/lang/StringUTF16" "HI_BYTE_SHIFT" "I" (.int 0)) (SL : Sta Z Z.heap "java/lang/StringUTF16" "LO_BYTE_SHIFT" "I" (.int 8)) :
    Ct l Z EL0 n0 (⟨"java/lang/StringUTF16", "compress", "([CII)[B"⟩ : MethodName) jdk_52_method_16_code 6 (some (.array .byte)) ({ frames := 3, cells := 2, slots := 12, locals := 40 } : Room) #[(.ref va), (.int (0 : Int32)), (.int n)] h0 [] (fun v h sf => ∃ d kd, v = some (.ref d) ∧ h0.size ≤ d ∧ Keep h0 h [] ∧ Arv Z h d kd .byte (strZ n cs) (strVs cs) (.int 0) ∧ sf d) := by
  refine Ct.of (a0 := a0) #[.val (.ref va), .val (.int (0 : Int32)), .val (.int n), .unset, .unset, .unset] hEW O (plainFor_of_name pl_java_lang_StringUTF16) (fun m => by first | (simp [entryFrame, mkF, argsToLocals, Value.category]; done) | rfl) ?_
  intro p_ e_ s_ m_ below_ meth_ c_ b_ T_ K hSP
  have KP := Keep.refl h0 []
  refine k_iloadN K d_jdk_52_method_16_code_0 (pc' := 1) rfl rfl ?_
  refine k_newarray K (aty := .byte) (z := n) (w22 hw) (by rw [own_i32, own_0, hn]; omega) (cap := 4) (by rw [own_clamp hn]; omega) (by decide) d_jdk_52_method_16_code_1 (pc' := 3) rfl (by decide) (by decide) ?_
  intro T3 h3 a3 ka3 g3 K3 E3 tr3 sf_a3 V_a3
  have ga_a3 : n0 ≤ a3 := own_old K.old g3
  have sz_a3 : h0.size ≤ a3 := g3 ▸ KP.1
  have ne_va_a3 : va ≠ a3 := own_ne V_va.lt g3
  replace V_va := V_va.ext E3
  replace KP := KP.ext E3
  replace V_a3 : Arv Z h3 a3 ka3 .byte n (List.replicate cs.length (.int (0 : Int32))) (.int (0 : Int32)) := V_a3.pad (pad_rep [] (.int (0 : Int32)) cs.length)
  refine k_astoreN K3 d_jdk_52_method_16_code_3 (pc' := 4) (L' := #[.val (.ref va), .val (.int (0 : Int32)), .val (.int n), .val (.ref a3), .unset, .unset]) rfl rfl rfl ?_
  refine k_aloadN K3 d_jdk_52_method_16_code_4 (pc' := 5) rfl rfl rfl ?_
  refine k_iloadN K3 d_jdk_52_method_16_code_5 (pc' := 6) rfl rfl ?_
  refine k_aloadN K3 d_jdk_52_method_16_code_6 (pc' := 7) rfl rfl rfl ?_
  refine k_iconst K3 (0 : Int32) d_jdk_52_method_16_code_7 (pc' := 8) rfl rfl ?_
  refine k_iloadN K3 d_jdk_52_method_16_code_8 (pc' := 9) rfl rfl ?_
  refine k_static K3 [(.ref va), (.int (0 : Int32)), (.ref a3), (.int (0 : Int32)), (.int n)] [] 0 (w83 hw) (w84 hw) (w81 hw) (w85 hw) (by decide) pd___CI_BII_I_3760 (c_compress5 l Z a0 hw hEW n0 va a3 kv ka3 n cs h3 K3.old hn (by omega) V_va V_a3 ne_va_a3 ga_a3) d_jdk_52_method_16_code_9 (fun x hx => by cases List.mem_singleton.mp hx; exact ⟨V_a3.lt, sf_a3⟩) (pc' := 12) rfl rfl rfl rfl (Nat.le_of_eq rfl) (by decide) (by decide) (by decide) (by decide) ?_
  intro b4 T4 h4 L4 v4 K4 tr4 q4
  obtain ⟨rfl, KQ, V2⟩ := q4
  replace sf_a3 := tr4 a3 V_a3.lt sf_a3
  replace V_va := V_va.keep KQ (ninS ne_va_a3 nin0)
  replace KP := KP.trans KQ (allS (Or.inr sz_a3) all0)
  have V_a3 := V2
  have hp := own_ofN (Nat.le_trans (preN_le cs) (show cs.length ≤ 4000 by omega))
  generalize hpp : Int32.ofNat (preN cs) = p1 at hp ⊢
  show Goes p_.tables e_ below_ _ (T4.setTop (mkF m_ 12 #[.val (.ref va), .val (.int (0 : Int32)), .val (.int n), .val (.ref a3), .unset, .unset] [(.int p1)]))
  refine k_istore K4 d_jdk_52_method_16_code_12 (pc' := 14) (L' := #[.val (.ref va), .val (.int (0 : Int32)), .val (.int n), .val (.ref a3), .val (.int p1), .unset]) rfl rfl ?_
  refine k_iload K4 d_jdk_52_method_16_code_14 (pc' := 16) rfl rfl ?_
  refine k_iloadN K4 d_jdk_52_method_16_code_16 (pc' := 17) rfl rfl ?_
  refine k_icmp_eq K4 d_jdk_52_method_16_code_17 (by decide) (pc' := 57) (pc2 := 20) (by decide) rfl (fun hc17 => ?_) (fun hc17 => ?_)
  · refine k_aloadN K4 d_jdk_52_method_16_code_57 (pc' := 58) rfl rfl rfl ?_
    have ep : preN cs = cs.length := by have q := congrArg Int32.toInt hc17; rw [hp, hn] at q; omega
    exact k_aret K4 d_jdk_52_method_16_code_58 rfl rfl rfl (fun sf ht => ⟨a3, ka3, rfl, sz_a3, KP, by rw [strZ, strVs, if_pos ep, if_pos ep, ← ep]; exact V_a3, ht _ V_a3.lt sf_a3⟩) (by decide) (by decide)
  · have ep : ¬ preN cs = cs.length := fun q => hc17 (own_i32e (by rw [hp, hn, q]))
    have hlt : preN cs < cs.length := Nat.lt_of_le_of_ne (preN_le cs) ep
    refine k_aloadN K4 d_jdk_52_method_16_code_20 (pc' := 21) rfl rfl rfl ?_
    refine k_iloadN K4 d_jdk_52_method_16_code_21 (pc' := 22) rfl rfl ?_
    refine k_iloadN K4 d_jdk_52_method_16_code_22 (pc' := 23) rfl rfl ?_
    refine k_static K4 [(.ref va), (.int (0 : Int32)), (.int n)] [] 0 (w86 hw) (w87 hw) (w81 hw) (w88 hw) (by decide) pd___CII__B_2491 (c_toBytes3 l Z a0 hw hEW n0 va kv n cs h4 K4.old hn hb V_va SA SH SL) d_jdk_52_method_16_code_23 nofun (pc' := 26) rfl rfl rfl rfl (Nat.le_of_eq rfl) (by decide) (by decide) (by decide) (by decide) ?_
    intro b18 T18 h18 L18 v18 K18 tr18 q18
    obtain ⟨d, kd, rfl, hd, KQ, V_d, sf_d⟩ := q18
    have ga_d : n0 ≤ d := Nat.le_trans (own_n0 K4.old) hd
    have sz_d : h0.size ≤ d := Nat.le_trans KP.1 hd
    have ne_va_d : va ≠ d := own_ne2 V_va.lt hd
    have ne_a3_d : a3 ≠ d := own_ne2 V_a3.lt hd
    replace sf_a3 := tr18 a3 V_a3.lt sf_a3
    replace V_va := V_va.keep KQ nin0
    replace V_a3 := V_a3.keep KQ nin0
    replace KP := KP.trans KQ all0
    show Goes p_.tables e_ below_ _ (T18.setTop (mkF m_ 26 #[.val (.ref va), .val (.int (0 : Int32)), .val (.int n), .val (.ref a3), .val (.int p1), .unset] [(.ref d)]))
    refine k_astore K18 d_jdk_52_method_16_code_26 (pc' := 28) (L' := #[.val (.ref va), .val (.int (0 : Int32)), .val (.int n), .val (.ref a3), .val (.int p1), .val (.ref d)]) rfl rfl rfl ?_
    refine k_aload K18 d_jdk_52_method_16_code_28 (pc' := 30) rfl rfl rfl ?_
    refine k_iload K18 d_jdk_52_method_16_code_30 (pc' := 32) rfl rfl ?_
    refine k_staticP K18 [(.ref d), (.int p1)] [] 0 (w102 hw) (w103 hw) (w81 hw) (w104 hw) (by decide) pd___BI_C_1319 (c_getChar l Z a0 hw hEW n0 d kd p1 (n <<< ((1 : Int32) &&& 31)) (preN cs) cs h18 K18.old hp hlt (by omega) (own_dbl hn (by omega)) hc V_d SA SH SL) d_jdk_52_method_16_code_32 nofun (pc' := 35) rfl rfl rfl rfl (Nat.le_of_eq rfl) (by decide) (by decide) (by decide) (by decide) ?_
    intro b19 T19 L19 K19 tr19
    show Goes p_.tables e_ below_ _ (T19.setTop (mkF m_ 35 #[.val (.ref va), .val (.int (0 : Int32)), .val (.int n), .val (.ref a3), .val (.int p1), .val (.ref d)] [(.int cs[preN cs])]))
    replace sf_a3 := tr19 a3 V_a3.lt sf_a3
    replace sf_d := tr19 d V_d.lt sf_d
    refine k_sipush K19 (255 : Int32) d_jdk_52_method_16_code_35 (pc' := 38) rfl rfl ?_
    refine k_icmp_gt K19 d_jdk_52_method_16_code_38 (by decide) (pc' := 54) (pc2 := 41) (by decide) rfl (fun hc38 => ?_) (fun q => absurd (preN_gt cs hlt) q)
    refine k_aload K19 d_jdk_52_method_16_code_54 (pc' := 56) rfl rfl rfl ?_
    exact k_aret K19 d_jdk_52_method_16_code_56 rfl rfl rfl (fun sf ht => ⟨d, kd, rfl, sz_d, KP, by rw [strZ, strVs, if_neg ep, if_neg ep]; exact V_d, ht _ V_d.lt sf_d⟩) (by decide) (by decide)
theorem d_jdk_52_method_15_code_0 : decode jdk_52_method_15_code 0 = .ok (.iload_n 1, 1) := by decide +kernel
theorem d_jdk_52_method_15_code_1 : decode jdk_52_method_15_code 1 = .ok (.aload_n 0, 1) := by decide +kernel
theorem d_jdk_52_method_15_code_2 : decode jdk_52_method_15_code 2 = .ok (.arraylength, 1) := by decide +kernel
theorem d_jdk_52_method_15_code_3 : decode jdk_52_method_15_code 3 = .ok (.isub, 1) := by decide +kernel
theorem d_jdk_52_method_15_code_4 : decode jdk_52_method_15_code 4 = .ok (.bipush 31, 2) := by decide +kernel
theorem d_jdk_52_method_15_code_6 : decode jdk_52_method_15_code 6 = .ok (.iushr, 1) := by decide +kernel
theorem d_jdk_52_method_15_code_7 : decode jdk_52_method_15_code 7 = .ok (.i2b, 1) := by decide +kernel
theorem d_jdk_52_method_15_code_8 : decode jdk_52_method_15_code 8 = .ok (.ireturn, 1) := by decide +kernel
set_option maxRecDepth 65536 in
set_option maxHeartbeats 40000000 in
theorem c_cfal (l : Launch) (Z : State) (a0 : Array Value) (hw : Tb a0 Z) (hEW : EW Z a0 EL0) (n0 : Nat) (d : Addr) (kd : ClassId) (n z cd : Int32) (vs : List Value) (h0 : Heap) (O : Old Z n0 h0) (V_d : Arv Z h0 d kd .byte z vs (.int 0)) (hcd : cd = 0 ∨ cd = 1) (he : ((XT.ushr (n - z) (31 : Int32)).toInt8.toInt32) = cd) :
    Ct l Z EL0 n0 (⟨"java/lang/StringUTF16", "coderFromArrayLen", "([BI)B"⟩ : MethodName) jdk_52_method_15_code 2 (some .byte) ({ frames := 0, cells := 0, slots := 0, locals := 0 } : Room) #[(.ref d), (.int n)] h0 [] (Pu (some (.int cd)) h0) := by
  refine Ct.of (a0 := a0) #[.val (.ref d), .val (.int n)] hEW O (plainFor_of_name pl_java_lang_StringUTF16) (fun m => by first | (simp [entryFrame, mkF, argsToLocals, Value.category]; done) | rfl) ?_
  intro p_ e_ s_ m_ below_ meth_ c_ b_ T_ K hSP
  refine k_iloadN K d_jdk_52_method_15_code_0 (pc' := 1) rfl rfl ?_
  refine k_aloadN K d_jdk_52_method_15_code_1 (pc' := 2) rfl rfl rfl ?_
  refine k_len K V_d d_jdk_52_method_15_code_2 (pc' := 3) rfl ?_
  refine k_isub K d_jdk_52_method_15_code_3 (pc' := 4) rfl ?_
  refine k_bipush K (31 : Int32) d_jdk_52_method_15_code_4 (pc' := 6) rfl rfl ?_
  refine k_iushr K d_jdk_52_method_15_code_6 (pc' := 7) rfl ?_
  refine k_i2b K d_jdk_52_method_15_code_7 (pc' := 8) rfl ?_
  rw [he]
  exact k_nret K d_jdk_52_method_15_code_8 rfl (by simp) (by rcases hcd with rfl | rfl <;> rfl) (fun sf ht => ⟨rfl, rfl⟩) (by decide) (by decide)
theorem d_jdk_42_method_149_code_0 : decode jdk_42_method_149_code 0 = .ok (.aload_n 0, 1) := by decide +kernel
theorem d_jdk_42_method_149_code_1 : decode jdk_42_method_149_code 1 = .ok (.invokespecial 1, 3) := by decide +kernel
theorem w18 {Z : State} {a0 : Array Value} (hw : Tb a0 Z) : (Jvm.Cond.methodLink "java/lang/String" (1 : Nat) ({ cls := "java/lang/Object", name := "<init>", desc := "()V" } : Jvm.MethodName)).before a0 Z = true := hw _ (List.mem_of_getElem? (i := 18) rfl)
theorem w19 {Z : State} {a0 : Array Value} (hw : Tb a0 Z) : (Jvm.Cond.instanceMethod ({ cls := "java/lang/Object", name := "<init>", desc := "()V" } : Jvm.MethodName)).before a0 Z = true := hw _ (List.mem_of_getElem? (i := 19) rfl)
theorem w20 {Z : State} {a0 : Array Value} (hw : Tb a0 Z) : (Jvm.Cond.code ({ cls := "java/lang/Object", name := "<init>", desc := "()V" } : Jvm.MethodName) object_method_1_code (1 : Nat) (Option.none : Option Jvm.ClassFile.FieldType)).before a0 Z = true := hw _ (List.mem_of_getElem? (i := 20) rfl)
theorem d_jdk_42_method_149_code_4 : decode jdk_42_method_149_code 4 = .ok (.iload_n 3, 1) := by decide +kernel
theorem d_jdk_42_method_149_code_5 : decode jdk_42_method_149_code 5 = .ok (.ifCond .ne 22, 3) := by decide +kernel
theorem d_jdk_42_method_149_code_27 : decode jdk_42_method_149_code 27 = .ok (.getstatic 38, 3) := by decide +kernel
theorem w53 {Z : State} {a0 : Array Value} (hw : Tb a0 Z) : (Jvm.Cond.fieldLink "java/lang/String" (38 : Nat) "java/lang/String" "COMPACT_STRINGS" "Z").before a0 Z = true := hw _ (List.mem_of_getElem? (i := 53) rfl)
theorem d_jdk_42_method_149_code_30 : decode jdk_42_method_149_code 30 = .ok (.ifCond .eq 28, 3) := by decide +kernel
theorem d_jdk_42_method_149_code_33 : decode jdk_42_method_149_code 33 = .ok (.aload_n 1, 1) := by decide +kernel
theorem d_jdk_42_method_149_code_34 : decode jdk_42_method_149_code 34 = .ok (.iload_n 2, 1) := by decide +kernel
theorem d_jdk_42_method_149_code_35 : decode jdk_42_method_149_code 35 = .ok (.iload_n 3, 1) := by decide +kernel
theorem d_jdk_42_method_149_code_36 : decode jdk_42_method_149_code 36 = .ok (.invokestatic 177, 3) := by decide +kernel
theorem w79 {Z : State} {a0 : Array Value} (hw : Tb a0 Z) : (Jvm.Cond.methodLink "java/lang/String" (177 : Nat) ({ cls := "java/lang/StringUTF16", name := "compress", desc := "([CII)[B" } : Jvm.MethodName)).before a0 Z = true := hw _ (List.mem_of_getElem? (i := 79) rfl)
theorem w82 {Z : State} {a0 : Array Value} (hw : Tb a0 Z) : (Jvm.Cond.code ({ cls := "java/lang/StringUTF16", name := "compress", desc := "([CII)[B" } : Jvm.MethodName) jdk_52_method_16_code (6 : Nat) (Option.some (Jvm.ClassFile.FieldType.array Jvm.ClassFile.FieldType.byte))).before a0 Z = true := hw _ (List.mem_of_getElem? (i := 82) rfl)
theorem w80 {Z : State} {a0 : Array Value} (hw : Tb a0 Z) : (Jvm.Cond.static ({ cls := "java/lang/StringUTF16", name := "compress", desc := "([CII)[B" } : Jvm.MethodName)).before a0 Z = true := hw _ (List.mem_of_getElem? (i := 80) rfl)
theorem d_jdk_42_method_149_code_39 : decode jdk_42_method_149_code 39 = .ok (.astore 5, 2) := by decide +kernel
theorem d_jdk_42_method_149_code_41 : decode jdk_42_method_149_code 41 = .ok (.aload_n 0, 1) := by decide +kernel
theorem d_jdk_42_method_149_code_42 : decode jdk_42_method_149_code 42 = .ok (.aload 5, 2) := by decide +kernel
theorem d_jdk_42_method_149_code_44 : decode jdk_42_method_149_code 44 = .ok (.iload_n 3, 1) := by decide +kernel
theorem d_jdk_42_method_149_code_45 : decode jdk_42_method_149_code 45 = .ok (.invokestatic 47, 3) := by decide +kernel
theorem w105 {Z : State} {a0 : Array Value} (hw : Tb a0 Z) : (Jvm.Cond.methodLink "java/lang/String" (47 : Nat) ({ cls := "java/lang/StringUTF16", name := "coderFromArrayLen", desc := "([BI)B" } : Jvm.MethodName)).before a0 Z = true := hw _ (List.mem_of_getElem? (i := 105) rfl)
theorem w107 {Z : State} {a0 : Array Value} (hw : Tb a0 Z) : (Jvm.Cond.code ({ cls := "java/lang/StringUTF16", name := "coderFromArrayLen", desc := "([BI)B" } : Jvm.MethodName) jdk_52_method_15_code (2 : Nat) (Option.some Jvm.ClassFile.FieldType.byte)).before a0 Z = true := hw _ (List.mem_of_getElem? (i := 107) rfl)
theorem w106 {Z : State} {a0 : Array Value} (hw : Tb a0 Z) : (Jvm.Cond.static ({ cls := "java/lang/StringUTF16", name := "coderFromArrayLen", desc := "([BI)B" } : Jvm.MethodName)).before a0 Z = true := hw _ (List.mem_of_getElem? (i := 106) rfl)
theorem pd___BI_B_1313 : parseMethodDescriptor "([BI)B" = some ⟨[(.array .byte), .int], some .byte⟩ := by decide +kernel
theorem d_jdk_42_method_149_code_48 : decode jdk_42_method_149_code 48 = .ok (.putfield 15, 3) := by decide +kernel
theorem w28 {Z : State} {a0 : Array Value} (hw : Tb a0 Z) : (Jvm.Cond.fieldLink "java/lang/String" (15 : Nat) "java/lang/String" "coder" "B").before a0 Z = true := hw _ (List.mem_of_getElem? (i := 28) rfl)
theorem w24 {Z : State} {a0 : Array Value} (hw : Tb a0 Z) : (Jvm.Cond.laysFinal "java/lang/String" "java/lang/String" "coder" "B").before a0 Z = true := hw _ (List.mem_of_getElem? (i := 24) rfl)
theorem w9 {Z : State} {a0 : Array Value} (hw : Tb a0 Z) : (Jvm.Cond.instantiable "java/lang/String" (4 : Nat)).before a0 Z = true := hw _ (List.mem_of_getElem? (i := 9) rfl)
theorem w23 {Z : State} {a0 : Array Value} (hw : Tb a0 Z) : (Jvm.Cond.laysFinal "java/lang/String" "java/lang/String" "value" "[B").before a0 Z = true := hw _ (List.mem_of_getElem? (i := 23) rfl)
theorem d_jdk_42_method_149_code_51 : decode jdk_42_method_149_code 51 = .ok (.aload_n 0, 1) := by decide +kernel
theorem d_jdk_42_method_149_code_52 : decode jdk_42_method_149_code 52 = .ok (.aload 5, 2) := by decide +kernel
theorem d_jdk_42_method_149_code_54 : decode jdk_42_method_149_code 54 = .ok (.putfield 9, 3) := by decide +kernel
theorem w27 {Z : State} {a0 : Array Value} (hw : Tb a0 Z) : (Jvm.Cond.fieldLink "java/lang/String" (9 : Nat) "java/lang/String" "value" "[B").before a0 Z = true := hw _ (List.mem_of_getElem? (i := 27) rfl)
theorem d_jdk_42_method_149_code_57 : decode jdk_42_method_149_code 57 = .ok (.return_, 1) := by decide +kernel
theorem d_jdk_42_method_149_code_8 : decode jdk_42_method_149_code 8 = .ok (.aload_n 0, 1) := by decide +kernel
theorem d_jdk_42_method_149_code_9 : decode jdk_42_method_149_code 9 = .ok (.ldc 7, 2) := by decide +kernel
theorem w10 {Z : State} {a0 : Array Value} (hw : Tb a0 Z) : (Jvm.Cond.initialized "java/lang/String").before a0 Z = true := hw _ (List.mem_of_getElem? (i := 10) rfl)
theorem w25 {Z : State} {a0 : Array Value} (hw : Tb a0 Z) : (Jvm.Cond.soleField "java/lang/String" "value").before a0 Z = true := hw _ (List.mem_of_getElem? (i := 25) rfl)
theorem w26 {Z : State} {a0 : Array Value} (hw : Tb a0 Z) : (Jvm.Cond.soleField "java/lang/String" "coder").before a0 Z = true := hw _ (List.mem_of_getElem? (i := 26) rfl)
theorem own_wS {Z : State} {a0 : Array Value} (hw : Tb a0 Z) : ∀ a ∈ Bundle.stringAtoms, a.before a0 Z = true := fun d hd => by
  simp only [Bundle.stringAtoms, List.mem_cons, List.not_mem_nil, or_false] at hd
  rcases hd with rfl | rfl | rfl | rfl | rfl | rfl | rfl
  · exact (w10 hw)
  · exact (w9 hw)
  · exact (w22 hw)
  · exact (w23 hw)
  · exact (w24 hw)
  · exact (w25 hw)
  · exact (w26 hw)
theorem w21 {Z : State} {a0 : Array Value} (hw : Tb a0 Z) : (Jvm.Cond.stringLink "java/lang/String" (7 : Nat) "").before a0 Z = true := hw _ (List.mem_of_getElem? (i := 21) rfl)
theorem d_jdk_42_method_149_code_11 : decode jdk_42_method_149_code 11 = .ok (.getfield 9, 3) := by decide +kernel
theorem d_jdk_42_method_149_code_14 : decode jdk_42_method_149_code 14 = .ok (.putfield 9, 3) := by decide +kernel
theorem d_jdk_42_method_149_code_17 : decode jdk_42_method_149_code 17 = .ok (.aload_n 0, 1) := by decide +kernel
theorem d_jdk_42_method_149_code_18 : decode jdk_42_method_149_code 18 = .ok (.ldc 7, 2) := by decide +kernel
theorem d_jdk_42_method_149_code_20 : decode jdk_42_method_149_code 20 = .ok (.getfield 15, 3) := by decide +kernel
theorem d_jdk_42_method_149_code_23 : decode jdk_42_method_149_code 23 = .ok (.putfield 15, 3) := by decide +kernel
theorem d_jdk_42_method_149_code_26 : decode jdk_42_method_149_code 26 = .ok (.return_, 1) := by decide +kernel
theorem pl_java_lang_String : plainName "java/lang/String" = true := by first | (simp [plainName, overriddenIn]; done) | decide +kernel
set_option maxRecDepth 65536 in
set_option maxHeartbeats 40000000 in
theorem c_init149a (l : Launch) (Z : State) (a0 : Array Value) (hw : Tb a0 Z) (hEW : EW Z a0 EL0) (n0 : Nat) (a va : Addr) (kv : ClassId) (n : Int32) (cs : List Int32) (u1 u2 : Value) (cs0 : Int32) (h0 : Heap) (O : Old Z n0 h0) (hn : n.toInt = cs.length) (hb : cs.length ≤ 4) (hc : ∀ c ∈ cs, 0 ≤ c.toInt ∧ c.toInt < 65536) (V_va : Arv Z h0 va kv .char n (cs.map Value.int) (.int 0)) (X_a : Exa Z h0 a "java/lang/String") (F_a_value : Fld Z h0 a "java/lang/String" "value" "[B" u1) (F_a_coder : Fld Z h0 a "java/lang/String" "coder" "B" u2) (ga_a : n0 ≤ a) (ne_a_va : a ≠ va) (SC : Sta Z Z.heap "java/lang/String" "COMPACT_STRINGS" "Z" (.int cs0)) (hcs : ¬ cs0 = 0) (SA : Sta Z Z.heap "java/lang/StringUTF16" "$assertionsDisabled" "Z" (.int 1)) (SH : Sta Z Z.heap "java/lang/StringUTF16" "HI_BYTE_SHIFT" "I" (.int 0)) (SL : Sta Z Z.heap "java/lang/StringUTF16" "LO_BYTE_SHIFT" "I" (.int 8)) :
    Ct l Z EL0 n0 (⟨"java/lang/String", "<init>", "([CIILjava/lang/Void;)V"⟩ : MethodName) jdk_42_method_149_code 6 none ({ frames := 4, cells := 4, slots := 12, locals := 57 } : Room) #[(.ref a), (.ref va), (.int (0 : Int32)), (.int n), .null] h0 [a] (fun v h sf => v = none ∧ Keep h0 h [a] ∧ ∃ d kd, Str Z h a d kd (strCd cs) (strZ n cs) (strVs cs)) := by
  refine Ct.of (a0 := a0) #[.val (.ref a), .val (.ref va), .val (.int (0 : Int32)), .val (.int n), .val .null, .unset] hEW O (plainFor_of_name pl_java_lang_String) (fun m => by first | (simp [entryFrame, mkF, argsToLocals, Value.category]; done) | rfl) ?_
  intro p_ e_ s_ m_ below_ meth_ c_ b_ T_ K hSP
  have KP := Keep.refl h0 [a]
  have sf_a := hSP a (by simp)
  refine k_aloadN K d_jdk_42_method_149_code_0 (pc' := 1) rfl rfl rfl ?_
  refine k_initO K (w18 hw) (w19 hw) (w20 hw) d_jdk_42_method_149_code_1 (pc' := 4) rfl rfl (by decide) 0 (Nat.le_of_eq rfl) (by decide) ?_
  intro T20 K20
  refine k_iloadN K20 d_jdk_42_method_149_code_4 (pc' := 5) rfl rfl ?_
  refine k_if_ne K20 d_jdk_42_method_149_code_5 (by decide) (pc' := 27) (pc2 := 8) (by decide) rfl (fun hc5 => ?_) (fun hc5 => ?_)
  · have h1 : 1 ≤ cs.length := by
      rcases Nat.eq_zero_or_pos cs.length with q | q
      · exact absurd (own_i32e (by rw [hn, q]; rfl)) hc5
      · exact q
    refine k_getS K20 (w53 hw) Via.refl SC d_jdk_42_method_149_code_27 (pc' := 30) rfl ?_
    intro T21 K21
    refine k_if_eq K21 d_jdk_42_method_149_code_30 (by decide) (pc' := 58) (pc2 := 33) (by decide) rfl (fun q => absurd q hcs) (fun hc30 => ?_)
    refine k_aloadN K21 d_jdk_42_method_149_code_33 (pc' := 34) rfl rfl rfl ?_
    refine k_iloadN K21 d_jdk_42_method_149_code_34 (pc' := 35) rfl rfl ?_
    refine k_iloadN K21 d_jdk_42_method_149_code_35 (pc' := 36) rfl rfl ?_
    refine k_static K21 [(.ref va), (.int (0 : Int32)), (.int n)] [] 0 (w79 hw) (w80 hw) (w81 hw) (w82 hw) (by decide) pd___CII__B_2491 (c_compress3 l Z a0 hw hEW n0 va kv n cs h0 K21.old hn hb hc V_va SA SH SL) d_jdk_42_method_149_code_36 nofun (pc' := 39) rfl rfl rfl rfl (Nat.le_of_eq rfl) (by decide) (by decide) (by decide) (by decide) ?_
    intro b22 T22 h22 L22 v22 K22 tr22 q22
    obtain ⟨d, kd, rfl, hd, KQ, V_d, sf_d⟩ := q22
    have ga_d : n0 ≤ d := Nat.le_trans (own_n0 K21.old) hd
    have sz_d : h0.size ≤ d := Nat.le_trans KP.1 hd
    have ne_va_d : va ≠ d := own_ne2 V_va.lt hd
    have ne_a_d : a ≠ d := own_ne2 X_a.lt hd
    replace sf_a := tr22 a X_a.lt sf_a
    replace V_va := V_va.keep KQ nin0
    replace X_a := X_a.keep KQ
    replace F_a_value := F_a_value.keep KQ nin0
    replace F_a_coder := F_a_coder.keep KQ nin0
    replace KP := KP.trans KQ all0
    show Goes p_.tables e_ below_ _ (T22.setTop (mkF m_ 39 #[.val (.ref a), .val (.ref va), .val (.int (0 : Int32)), .val (.int n), .val .null, .unset] [(.ref d)]))
    refine k_astore K22 d_jdk_42_method_149_code_39 (pc' := 41) (L' := #[.val (.ref a), .val (.ref va), .val (.int (0 : Int32)), .val (.int n), .val .null, .val (.ref d)]) rfl rfl rfl ?_
    refine k_aloadN K22 d_jdk_42_method_149_code_41 (pc' := 42) rfl rfl rfl ?_
    refine k_aload K22 d_jdk_42_method_149_code_42 (pc' := 44) rfl rfl rfl ?_
    refine k_iloadN K22 d_jdk_42_method_149_code_44 (pc' := 45) rfl rfl ?_
    refine k_staticP K22 [(.ref d), (.int n)] [(.ref a)] 1 (w105 hw) (w106 hw) (w81 hw) (w107 hw) (by decide) pd___BI_B_1313 (c_cfal l Z a0 hw hEW n0 d kd n (strZ n cs) (strCd cs) (strVs cs) h22 K22.old V_d (strCd_01 cs) (own_cfal hn h1 (by omega))) d_jdk_42_method_149_code_45 nofun (pc' := 48) rfl rfl rfl rfl (Nat.le_of_eq rfl) (by decide) (by decide) (by decide) (by decide) ?_
    intro b23 T23 L23 K23 tr23
    show Goes p_.tables e_ below_ _ (T23.setTop (mkF m_ 48 #[.val (.ref a), .val (.ref va), .val (.int (0 : Int32)), .val (.int n), .val .null, .val (.ref d)] [(.int (strCd cs)), (.ref a)]))
    replace sf_a := tr23 a X_a.lt sf_a
    refine k_putF K23 (w28 hw) Via.refl F_a_coder X_a (Or.inr ⟨(w24 hw), rfl, rfl⟩) (w9 hw) (ty := .byte) (by decide) (strCd_n cs) (strCd_f cs) ga_a sf_a d_jdk_42_method_149_code_48 (pc' := 51) rfl ?_
    intro T24 h24 K24 W24 tr24
    have F24 := F_a_coder.same W24
    replace sf_a := tr24 a X_a.lt sf_a
    replace V_va := V_va.other W24 (Ne.symm ne_a_va)
    replace X_a := X_a.wr W24
    replace F_a_value := F_a_value.other W24 (Or.inr (slot_ne (Or.inr (w23 hw)) (Or.inr (w24 hw)) (by decide) (t := (.array .byte)) (t' := .byte) (by decide) (by decide)))
    replace V_d := V_d.other W24 (Ne.symm ne_a_d)
    replace KP := KP.wr W24 (Or.inl (by simp))
    replace F_a_coder := F24
    refine k_aloadN K24 d_jdk_42_method_149_code_51 (pc' := 52) rfl rfl rfl ?_
    refine k_aload K24 d_jdk_42_method_149_code_52 (pc' := 54) rfl rfl rfl ?_
    refine k_putF K24 (w27 hw) Via.refl F_a_value X_a (Or.inr ⟨(w23 hw), rfl, rfl⟩) (w9 hw) (ty := (.array .byte)) (by decide) rfl rfl ga_a sf_a d_jdk_42_method_149_code_54 (pc' := 57) rfl ?_
    intro T25 h25 K25 W25 tr25
    have F25 := F_a_value.same W25
    replace sf_a := tr25 a X_a.lt sf_a
    replace V_va := V_va.other W25 (Ne.symm ne_a_va)
    replace X_a := X_a.wr W25
    replace F_a_coder := F_a_coder.other W25 (Or.inr (slot_ne (Or.inr (w24 hw)) (Or.inr (w23 hw)) (by decide) (t := .byte) (t' := (.array .byte)) (by decide) (by decide)))
    replace V_d := V_d.other W25 (Ne.symm ne_a_d)
    replace KP := KP.wr W25 (Or.inl (by simp))
    replace F_a_value := F25
    exact k_return K25 d_jdk_42_method_149_code_57 rfl (fun sf ht => ⟨rfl, KP, d, kd, X_a, F_a_coder, F_a_value, V_d⟩) (by decide) (by decide)
  · obtain rfl : cs = [] := List.eq_nil_of_length_eq_zero (by rw [hc5, own_0] at hn; omega)
    subst hc5
    refine k_aloadN K20 d_jdk_42_method_149_code_8 (pc' := 9) rfl rfl rfl ?_
    refine k_ldcS K20 (vs := ([] : List Int32).map Value.int) (z := 0) (w21 hw) (own_wS hw) (by decide) ⟨by decide, by decide⟩ (by decide) (by decide) 0 (by decide) (by decide) d_jdk_42_method_149_code_9 (pc' := 11) rfl (by decide) (by decide) ?_
    intro b26 T26 h26 s26 e26 ke26 K26 E26 tr26 X1 X2 X3 X4 nd26
    replace sf_a := tr26 a X_a.lt sf_a
    replace X_a := X_a.ext E26
    replace F_a_value := F_a_value.ext E26
    replace F_a_coder := F_a_coder.ext E26
    replace KP := KP.ext E26
    have S_s26 : Str Z h26 s26 e26 ke26 0 0 (([] : List Int32).map Value.int) := ⟨X1, X2, X3, X4⟩
    have ne_a_s26 : a ≠ s26 := (nd26 a sf_a).1
    have ne_a_e26 : a ≠ e26 := (nd26 a sf_a).2
    show Goes p_.tables e_ below_ _ (T26.setTop (mkF m_ 11 #[.val (.ref a), .val (.ref va), .val (.int (0 : Int32)), .val (.int (0 : Int32)), .val .null, .unset] [(.ref s26), (.ref a)]))
    refine k_getF K26 (w27 hw) Via.refl S_s26.2.2.1 d_jdk_42_method_149_code_11 (pc' := 14) rfl ?_
    intro T27 K27
    refine k_putF K27 (w27 hw) Via.refl F_a_value X_a (Or.inr ⟨(w23 hw), rfl, rfl⟩) (w9 hw) (ty := (.array .byte)) (by decide) rfl rfl ga_a sf_a d_jdk_42_method_149_code_14 (pc' := 17) rfl ?_
    intro T28 h28 K28 W28 tr28
    have F28 := F_a_value.same W28
    replace sf_a := tr28 a X_a.lt sf_a
    replace X_a := X_a.wr W28
    replace F_a_coder := F_a_coder.other W28 (Or.inr (slot_ne (Or.inr (w24 hw)) (Or.inr (w23 hw)) (by decide) (t := .byte) (t' := (.array .byte)) (by decide) (by decide)))
    replace S_s26 := S_s26.other W28 (Ne.symm ne_a_s26) (Ne.symm ne_a_e26)
    replace KP := KP.wr W28 (Or.inl (by simp))
    replace F_a_value := F28
    refine k_aloadN K28 d_jdk_42_method_149_code_17 (pc' := 18) rfl rfl rfl ?_
    refine k_ldcS K28 (vs := ([] : List Int32).map Value.int) (z := 0) (w21 hw) (own_wS hw) (by decide) ⟨by decide, by decide⟩ (by decide) (by decide) 0 (by decide) (by decide) d_jdk_42_method_149_code_18 (pc' := 20) rfl (by decide) (by decide) ?_
    intro b29 T29 h29 s29 e29 ke29 K29 E29 tr29 X1 X2 X3 X4 nd29
    replace sf_a := tr29 a X_a.lt sf_a
    replace X_a := X_a.ext E29
    replace F_a_value := F_a_value.ext E29
    replace F_a_coder := F_a_coder.ext E29
    replace S_s26 := S_s26.ext E29
    replace KP := KP.ext E29
    have S_s29 : Str Z h29 s29 e29 ke29 0 0 (([] : List Int32).map Value.int) := ⟨X1, X2, X3, X4⟩
    have ne_a_s29 : a ≠ s29 := (nd29 a sf_a).1
    have ne_a_e29 : a ≠ e29 := (nd29 a sf_a).2
    show Goes p_.tables e_ below_ _ (T29.setTop (mkF m_ 20 #[.val (.ref a), .val (.ref va), .val (.int (0 : Int32)), .val (.int (0 : Int32)), .val .null, .unset] [(.ref s29), (.ref a)]))
    refine k_getF K29 (w28 hw) Via.refl S_s29.2.1 d_jdk_42_method_149_code_20 (pc' := 23) rfl ?_
    intro T30 K30
    refine k_putF K30 (w28 hw) Via.refl F_a_coder X_a (Or.inr ⟨(w24 hw), rfl, rfl⟩) (w9 hw) (ty := .byte) (by decide) rfl rfl ga_a sf_a d_jdk_42_method_149_code_23 (pc' := 26) rfl ?_
    intro T31 h31 K31 W31 tr31
    have F31 := F_a_coder.same W31
    replace sf_a := tr31 a X_a.lt sf_a
    replace X_a := X_a.wr W31
    replace F_a_value := F_a_value.other W31 (Or.inr (slot_ne (Or.inr (w23 hw)) (Or.inr (w24 hw)) (by decide) (t := (.array .byte)) (t' := .byte) (by decide) (by decide)))
    replace S_s26 := S_s26.other W31 (Ne.symm ne_a_s26) (Ne.symm ne_a_e26)
    replace S_s29 := S_s29.other W31 (Ne.symm ne_a_s29) (Ne.symm ne_a_e29)
    replace KP := KP.wr W31 (Or.inl (by simp))
    replace F_a_coder := F31
    exact k_return K31 d_jdk_42_method_149_code_26 rfl (fun sf ht => ⟨rfl, KP, e26, ke26, X_a, F_a_coder, F_a_value, S_s26.2.2.2⟩) (by decide) (by decide)
theorem d_jdk_42_method_3_code_0 : decode jdk_42_method_3_code 0 = .ok (.aload_n 0, 1) := by decide +kernel
theorem d_jdk_42_method_3_code_1 : decode jdk_42_method_3_code 1 = .ok (.aload_n 1, 1) := by decide +kernel
theorem d_jdk_42_method_3_code_2 : decode jdk_42_method_3_code 2 = .ok (.iconst 0, 1) := by decide +kernel
theorem d_jdk_42_method_3_code_3 : decode jdk_42_method_3_code 3 = .ok (.aload_n 1, 1) := by decide +kernel
theorem d_jdk_42_method_3_code_4 : decode jdk_42_method_3_code 4 = .ok (.arraylength, 1) := by decide +kernel
theorem d_jdk_42_method_3_code_5 : decode jdk_42_method_3_code 5 = .ok (.aconst_null, 1) := by decide +kernel
theorem d_jdk_42_method_3_code_6 : decode jdk_42_method_3_code 6 = .ok (.invokespecial 27, 3) := by decide +kernel
theorem w14 {Z : State} {a0 : Array Value} (hw : Tb a0 Z) : (Jvm.Cond.methodLink "java/lang/String" (27 : Nat) ({ cls := "java/lang/String", name := "<init>", desc := "([CIILjava/lang/Void;)V" } : Jvm.MethodName)).before a0 Z = true := hw _ (List.mem_of_getElem? (i := 14) rfl)
theorem w17 {Z : State} {a0 : Array Value} (hw : Tb a0 Z) : (Jvm.Cond.code ({ cls := "java/lang/String", name := "<init>", desc := "([CIILjava/lang/Void;)V" } : Jvm.MethodName) jdk_42_method_149_code (6 : Nat) (Option.none : Option Jvm.ClassFile.FieldType)).before a0 Z = true := hw _ (List.mem_of_getElem? (i := 17) rfl)
theorem w15 {Z : State} {a0 : Array Value} (hw : Tb a0 Z) : (Jvm.Cond.instanceMethod ({ cls := "java/lang/String", name := "<init>", desc := "([CIILjava/lang/Void;)V" } : Jvm.MethodName)).before a0 Z = true := hw _ (List.mem_of_getElem? (i := 15) rfl)
theorem pd___CIILjava_lang_Void__V_3625 : parseMethodDescriptor "([CIILjava/lang/Void;)V" = some ⟨[(.array .char), .int, .int, (.object "java/lang/Void")], none⟩ := by decide +kernel
theorem d_jdk_42_method_3_code_9 : decode jdk_42_method_3_code 9 = .ok (.return_, 1) := by decide +kernel
set_option maxRecDepth 65536 in
set_option maxHeartbeats 40000000 in
theorem c_init3a (l : Launch) (Z : State) (a0 : Array Value) (hw : Tb a0 Z) (hEW : EW Z a0 EL0) (n0 : Nat) (a va : Addr) (kv : ClassId) (n : Int32) (cs : List Int32) (u1 u2 : Value) (cs0 : Int32) (h0 : Heap) (O : Old Z n0 h0) (hn : n.toInt = cs.length) (hb : cs.length ≤ 4) (hc : ∀ c ∈ cs, 0 ≤ c.toInt ∧ c.toInt < 65536) (V_va : Arv Z h0 va kv .char n (cs.map Value.int) (.int 0)) (X_a : Exa Z h0 a "java/lang/String") (F_a_value : Fld Z h0 a "java/lang/String" "value" "[B" u1) (F_a_coder : Fld Z h0 a "java/lang/String" "coder" "B" u2) (ga_a : n0 ≤ a) (ne_a_va : a ≠ va) (SC : Sta Z Z.heap "java/lang/String" "COMPACT_STRINGS" "Z" (.int cs0)) (hcs : ¬ cs0 = 0) (SA : Sta Z Z.heap "java/lang/StringUTF16" "$assertionsDisabled" "Z" (.int 1)) (SH : Sta Z Z.heap "java/lang/StringUTF16" "HI_BYTE_SHIFT" "I" (.int 0)) (SL : Sta Z Z.heap "java/lang/StringUTF16" "LO_BYTE_SHIFT" "I" (.int 8)) :
    Ct l Z EL0 n0 (⟨"java/lang/String", "<init>", "([C)V"⟩ : MethodName) jdk_42_method_3_code 2 none ({ frames := 5, cells := 4, slots := 12, locals := 74 } : Room) #[(.ref a), (.ref va)] h0 [a] (fun v h sf => v = none ∧ Keep h0 h [a] ∧ ∃ d kd, Str Z h a d kd (strCd cs) (strZ n cs) (strVs cs)) := by
  refine Ct.of (a0 := a0) #[.val (.ref a), .val (.ref va)] hEW O (plainFor_of_name pl_java_lang_String) (fun m => by first | (simp [entryFrame, mkF, argsToLocals, Value.category]; done) | rfl) ?_
  intro p_ e_ s_ m_ below_ meth_ c_ b_ T_ K hSP
  refine k_aloadN K d_jdk_42_method_3_code_0 (pc' := 1) rfl rfl rfl ?_
  refine k_aloadN K d_jdk_42_method_3_code_1 (pc' := 2) rfl rfl rfl ?_
  refine k_iconst K (0 : Int32) d_jdk_42_method_3_code_2 (pc' := 3) rfl rfl ?_
  refine k_aloadN K d_jdk_42_method_3_code_3 (pc' := 4) rfl rfl rfl ?_
  refine k_len K V_va d_jdk_42_method_3_code_4 (pc' := 5) rfl ?_
  refine k_aconst_null K d_jdk_42_method_3_code_5 (pc' := 6) rfl ?_
  refine k_special K [(.ref va), (.int (0 : Int32)), (.int n), .null] [] 0 (w14 hw) (w15 hw) (w10 hw) (w17 hw) rfl rfl (by decide) pd___CIILjava_lang_Void__V_3625 (c_init149a l Z a0 hw hEW n0 a va kv n cs u1 u2 cs0 h0 K.old hn hb hc V_va X_a F_a_value F_a_coder ga_a ne_a_va SC hcs SA SH SL) d_jdk_42_method_3_code_6 (fun x hx => by cases List.mem_singleton.mp hx; exact ⟨X_a.lt, hSP a (by simp)⟩) (pc' := 9) rfl rfl rfl rfl (Nat.le_of_eq rfl) (by decide) (by decide) (by decide) (by decide) ?_
  intro b32 T32 h32 L32 v32 K32 tr32 q32
  obtain ⟨rfl, KQ, d, kd, S⟩ := q32
  show Goes p_.tables e_ below_ _ (T32.setTop (mkF m_ 9 #[.val (.ref a), .val (.ref va)] []))
  exact k_return K32 d_jdk_42_method_3_code_9 rfl (fun sf ht => ⟨rfl, KQ, d, kd, S⟩) (by decide) (by decide)
theorem d_jdk_42_method_152_code_0 : decode jdk_42_method_152_code 0 = .ok (.getstatic 38, 3) := by decide +kernel
theorem d_jdk_42_method_152_code_3 : decode jdk_42_method_152_code 3 = .ok (.ifCond .eq 10, 3) := by decide +kernel
theorem d_jdk_42_method_152_code_6 : decode jdk_42_method_152_code 6 = .ok (.aload_n 0, 1) := by decide +kernel
theorem d_jdk_42_method_152_code_7 : decode jdk_42_method_152_code 7 = .ok (.getfield 15, 3) := by decide +kernel
theorem d_jdk_42_method_152_code_10 : decode jdk_42_method_152_code 10 = .ok (.goto 4, 3) := by decide +kernel
theorem d_jdk_42_method_152_code_14 : decode jdk_42_method_152_code 14 = .ok (.ireturn, 1) := by decide +kernel
set_option maxRecDepth 65536 in
set_option maxHeartbeats 40000000 in
theorem c_coder (l : Launch) (Z : State) (a0 : Array Value) (hw : Tb a0 Z) (hEW : EW Z a0 EL0) (n0 : Nat) (a b : Addr) (k : ClassId) (cd z : Int32) (vs : List Value) (cs0 : Int32) (h0 : Heap) (O : Old Z n0 h0) (S : Str Z h0 a b k cd z vs) (hcd : cd = 0 ∨ cd = 1) (SC : Sta Z Z.heap "java/lang/String" "COMPACT_STRINGS" "Z" (.int cs0)) (hcs : ¬ cs0 = 0) :
    Ct l Z EL0 n0 (⟨"java/lang/String", "coder", "()B"⟩ : MethodName) jdk_42_method_152_code 1 (some .byte) ({ frames := 0, cells := 0, slots := 0, locals := 0 } : Room) #[(.ref a)] h0 [] (Pu (some (.int cd)) h0) := by
  refine Ct.of (a0 := a0) #[.val (.ref a)] hEW O (plainFor_of_name pl_java_lang_String) (fun m => by first | (simp [entryFrame, mkF, argsToLocals, Value.category]; done) | rfl) ?_
  intro p_ e_ s_ m_ below_ meth_ c_ b_ T_ K hSP
  refine k_getS K (w53 hw) Via.refl SC d_jdk_42_method_152_code_0 (pc' := 3) rfl ?_
  intro T33 K33
  refine k_if_eq K33 d_jdk_42_method_152_code_3 (by decide) (pc' := 13) (pc2 := 6) (by decide) rfl (fun q => absurd q hcs) (fun hc3 => ?_)
  refine k_aloadN K33 d_jdk_42_method_152_code_6 (pc' := 7) rfl rfl rfl ?_
  refine k_getF K33 (w28 hw) Via.refl S.2.1 d_jdk_42_method_152_code_7 (pc' := 10) rfl ?_
  intro T34 K34
  refine k_goto K34 d_jdk_42_method_152_code_10 (by decide) (pc' := 14) (by decide) ?_
  exact k_nret K34 d_jdk_42_method_152_code_14 rfl (by simp) (by rcases hcd with rfl | rfl <;> rfl) (fun sf ht => ⟨rfl, rfl⟩) (by decide) (by decide)
theorem d_jdk_42_method_54_code_0 : decode jdk_42_method_54_code 0 = .ok (.aload_n 0, 1) := by decide +kernel
theorem d_jdk_42_method_54_code_1 : decode jdk_42_method_54_code 1 = .ok (.getfield 9, 3) := by decide +kernel
theorem d_jdk_42_method_54_code_4 : decode jdk_42_method_54_code 4 = .ok (.arraylength, 1) := by decide +kernel
theorem d_jdk_42_method_54_code_5 : decode jdk_42_method_54_code 5 = .ok (.aload_n 0, 1) := by decide +kernel
theorem d_jdk_42_method_54_code_6 : decode jdk_42_method_54_code 6 = .ok (.invokevirtual 335, 3) := by decide +kernel
theorem w48 {Z : State} {a0 : Array Value} (hw : Tb a0 Z) : (Jvm.Cond.methodLink "java/lang/String" (335 : Nat) ({ cls := "java/lang/String", name := "coder", desc := "()B" } : Jvm.MethodName)).before a0 Z = true := hw _ (List.mem_of_getElem? (i := 48) rfl)
theorem w52 {Z : State} {a0 : Array Value} (hw : Tb a0 Z) : (Jvm.Cond.code ({ cls := "java/lang/String", name := "coder", desc := "()B" } : Jvm.MethodName) jdk_42_method_152_code (1 : Nat) (Option.some Jvm.ClassFile.FieldType.byte)).before a0 Z = true := hw _ (List.mem_of_getElem? (i := 52) rfl)
theorem w51 {Z : State} {a0 : Array Value} (hw : Tb a0 Z) : (Jvm.Cond.selects "java/lang/String" ({ cls := "java/lang/String", name := "coder", desc := "()B" } : Jvm.MethodName) ({ cls := "java/lang/String", name := "coder", desc := "()B" } : Jvm.MethodName)).before a0 Z = true := hw _ (List.mem_of_getElem? (i := 51) rfl)
theorem w49 {Z : State} {a0 : Array Value} (hw : Tb a0 Z) : (Jvm.Cond.declares ({ cls := "java/lang/String", name := "coder", desc := "()B" } : Jvm.MethodName)).before a0 Z = true := hw _ (List.mem_of_getElem? (i := 49) rfl)
theorem w50 {Z : State} {a0 : Array Value} (hw : Tb a0 Z) : (Jvm.Cond.instanceMethod ({ cls := "java/lang/String", name := "coder", desc := "()B" } : Jvm.MethodName)).before a0 Z = true := hw _ (List.mem_of_getElem? (i := 50) rfl)
theorem pd___B_320 : parseMethodDescriptor "()B" = some ⟨[], some .byte⟩ := by decide +kernel
theorem d_jdk_42_method_54_code_9 : decode jdk_42_method_54_code 9 = .ok (.ishr, 1) := by decide +kernel
theorem d_jdk_42_method_54_code_10 : decode jdk_42_method_54_code 10 = .ok (.ireturn, 1) := by decide +kernel
set_option maxRecDepth 65536 in
set_option maxHeartbeats 40000000 in
theorem c_length (l : Launch) (Z : State) (a0 : Array Value) (hw : Tb a0 Z) (hEW : EW Z a0 EL0) (n0 : Nat) (a b : Addr) (k : ClassId) (cd z : Int32) (vs : List Value) (cs0 : Int32) (h0 : Heap) (O : Old Z n0 h0) (S : Str Z h0 a b k cd z vs) (hcd : cd = 0 ∨ cd = 1) (SC : Sta Z Z.heap "java/lang/String" "COMPACT_STRINGS" "Z" (.int cs0)) (hcs : ¬ cs0 = 0) :
    Ct l Z EL0 n0 (⟨"java/lang/String", "length", "()I"⟩ : MethodName) jdk_42_method_54_code 1 (some .int) ({ frames := 1, cells := 0, slots := 0, locals := 13 } : Room) #[(.ref a)] h0 [] (Pu (some (.int (z >>> (cd &&& 31)))) h0) := by
  refine Ct.of (a0 := a0) #[.val (.ref a)] hEW O (plainFor_of_name pl_java_lang_String) (fun m => by first | (simp [entryFrame, mkF, argsToLocals, Value.category]; done) | rfl) ?_
  intro p_ e_ s_ m_ below_ meth_ c_ b_ T_ K hSP
  refine k_aloadN K d_jdk_42_method_54_code_0 (pc' := 1) rfl rfl rfl ?_
  refine k_getF K (w27 hw) Via.refl S.2.2.1 d_jdk_42_method_54_code_1 (pc' := 4) rfl ?_
  intro T35 K35
  refine k_len K35 S.2.2.2 d_jdk_42_method_54_code_4 (pc' := 5) rfl ?_
  refine k_aloadN K35 d_jdk_42_method_54_code_5 (pc' := 6) rfl rfl rfl ?_
  refine k_virtualP K35 [] [(.int z)] 1 (w48 hw) (w49 hw) (w50 hw) (w51 hw) (w10 hw) (w52 hw) (notFace_of_selects (args := #[]) (mvT K35.hZ (w51 hw))) rfl (by decide) S.1 (by decide) pd___B_320 (c_coder l Z a0 hw hEW n0 a b k cd z vs cs0 h0 K35.old S hcd SC hcs) d_jdk_42_method_54_code_6 nofun (pc' := 9) rfl rfl rfl rfl (Nat.le_of_eq rfl) (by decide) (by decide) (by decide) (by decide) ?_
  intro b36 T36 L36 K36 tr36
  show Goes p_.tables e_ below_ _ (T36.setTop (mkF m_ 9 #[.val (.ref a)] [(.int cd), (.int z)]))
  refine k_ishr K36 d_jdk_42_method_54_code_9 (pc' := 10) rfl ?_
  exact k_iret K36 d_jdk_42_method_54_code_10 rfl (fun sf ht => ⟨rfl, rfl⟩) (by decide) (by decide)
theorem own_ch8 {c : Int32} (h : 0 ≤ c.toInt ∧ c.toInt < 256) : (c.toInt8.toInt32 &&& 255).toUInt32.toUInt16.toUInt32.toInt32 = c := by
  obtain ⟨n, hn⟩ := Int.eq_ofNat_of_zero_le h.1
  have e := own_nat hn
  apply Int32.toBitVec_inj.mp
  apply BitVec.eq_of_toNat_eq
  rw [own_i2cN, own_low, e]; omega
theorem preN_low : ∀ (cs : List Int32), preN cs = cs.length → ∀ c ∈ cs, ¬ (255 : Int32) < c
  | [], _, c, q => nomatch q
  | c :: t, h, d, hd => by
    unfold preN at h
    split at h
    · simp at h
    · rename_i q
      rcases List.mem_cons.mp hd with rfl | r
      · exact q
      · exact preN_low t (by simpa using h) d r
theorem strVs_lat {cs : List Int32} (ep : preN cs = cs.length) : strVs cs = (cs.map fun c => c.toInt8.toInt32).map Value.int := by
  rw [strVs, if_pos ep, fillL, List.take_length, Nat.sub_self, List.replicate_zero, List.append_nil, List.map_map]; rfl
theorem own_ifNe {P : Prop} [Decidable P] (h : ¬ (if P then (1 : Int32) else 0) = 0) : P := Classical.byContradiction fun q => h (if_neg q)
theorem own_ifEq {P : Prop} [Decidable P] (h : (if P then (1 : Int32) else 0) = 0) : ¬ P := fun q => by rw [if_pos q] at h; exact absurd h (by decide)
theorem d_jdk_42_method_154_code_0 : decode jdk_42_method_154_code 0 = .ok (.getstatic 38, 3) := by decide +kernel
theorem d_jdk_42_method_154_code_3 : decode jdk_42_method_154_code 3 = .ok (.ifCond .eq 14, 3) := by decide +kernel
theorem d_jdk_42_method_154_code_6 : decode jdk_42_method_154_code 6 = .ok (.aload_n 0, 1) := by decide +kernel
theorem d_jdk_42_method_154_code_7 : decode jdk_42_method_154_code 7 = .ok (.getfield 15, 3) := by decide +kernel
theorem d_jdk_42_method_154_code_10 : decode jdk_42_method_154_code 10 = .ok (.ifCond .ne 7, 3) := by decide +kernel
theorem d_jdk_42_method_154_code_17 : decode jdk_42_method_154_code 17 = .ok (.iconst 0, 1) := by decide +kernel
theorem d_jdk_42_method_154_code_18 : decode jdk_42_method_154_code 18 = .ok (.ireturn, 1) := by decide +kernel
theorem d_jdk_42_method_154_code_13 : decode jdk_42_method_154_code 13 = .ok (.iconst 1, 1) := by decide +kernel
theorem d_jdk_42_method_154_code_14 : decode jdk_42_method_154_code 14 = .ok (.goto 4, 3) := by decide +kernel
set_option maxRecDepth 65536 in
set_option maxHeartbeats 40000000 in
theorem c_isLatin1 (l : Launch) (Z : State) (a0 : Array Value) (hw : Tb a0 Z) (hEW : EW Z a0 EL0) (n0 : Nat) (a b : Addr) (k : ClassId) (cd z : Int32) (vs : List Value) (cs0 : Int32) (h0 : Heap) (O : Old Z n0 h0) (S : Str Z h0 a b k cd z vs) (hcd : cd = 0 ∨ cd = 1) (SC : Sta Z Z.heap "java/lang/String" "COMPACT_STRINGS" "Z" (.int cs0)) (hcs : ¬ cs0 = 0) :
    Ct l Z EL0 n0 (⟨"java/lang/String", "isLatin1", "()Z"⟩ : MethodName) jdk_42_method_154_code 1 (some .boolean) ({ frames := 0, cells := 0, slots := 0, locals := 0 } : Room) #[(.ref a)] h0 [] (Pu (some (.int (if cd = 0 then 1 else 0))) h0) := by
  refine Ct.of (a0 := a0) #[.val (.ref a)] hEW O (plainFor_of_name pl_java_lang_String) (fun m => by first | (simp [entryFrame, mkF, argsToLocals, Value.category]; done) | rfl) ?_
  intro p_ e_ s_ m_ below_ meth_ c_ b_ T_ K hSP
  refine k_getS K (w53 hw) Via.refl SC d_jdk_42_method_154_code_0 (pc' := 3) rfl ?_
  intro T37 K37
  refine k_if_eq K37 d_jdk_42_method_154_code_3 (by decide) (pc' := 17) (pc2 := 6) (by decide) rfl (fun q => absurd q hcs) (fun hc3 => ?_)
  refine k_aloadN K37 d_jdk_42_method_154_code_6 (pc' := 7) rfl rfl rfl ?_
  refine k_getF K37 (w28 hw) Via.refl S.2.1 d_jdk_42_method_154_code_7 (pc' := 10) rfl ?_
  intro T38 K38
  refine k_if_ne K38 d_jdk_42_method_154_code_10 (by decide) (pc' := 17) (pc2 := 13) (by decide) rfl (fun hc10 => ?_) (fun hc10 => ?_)
  · refine k_iconst K38 (0 : Int32) d_jdk_42_method_154_code_17 (pc' := 18) rfl rfl ?_
    exact k_nret K38 d_jdk_42_method_154_code_18 rfl (by simp) rfl (fun sf ht => ⟨by rw [if_neg hc10], rfl⟩) (by decide) (by decide)
  · refine k_iconst K38 (1 : Int32) d_jdk_42_method_154_code_13 (pc' := 14) rfl rfl ?_
    refine k_goto K38 d_jdk_42_method_154_code_14 (by decide) (pc' := 18) (by decide) ?_
    exact k_nret K38 d_jdk_42_method_154_code_18 rfl (by simp) rfl (fun sf ht => ⟨by rw [if_pos hc10], rfl⟩) (by decide) (by decide)
theorem d_jdk_41_method_11_code_0 : decode jdk_41_method_11_code 0 = .ok (.iload_n 0, 1) := by decide +kernel
theorem d_jdk_41_method_11_code_1 : decode jdk_41_method_11_code 1 = .ok (.ifCond .lt 8, 3) := by decide +kernel
theorem d_jdk_41_method_11_code_4 : decode jdk_41_method_11_code 4 = .ok (.iload_n 0, 1) := by decide +kernel
theorem d_jdk_41_method_11_code_5 : decode jdk_41_method_11_code 5 = .ok (.iload_n 1, 1) := by decide +kernel
theorem d_jdk_41_method_11_code_6 : decode jdk_41_method_11_code 6 = .ok (.if_icmp .lt 10, 3) := by decide +kernel
theorem d_jdk_41_method_11_code_16 : decode jdk_41_method_11_code 16 = .ok (.iload_n 0, 1) := by decide +kernel
theorem d_jdk_41_method_11_code_17 : decode jdk_41_method_11_code 17 = .ok (.ireturn, 1) := by decide +kernel
theorem pl_jdk_internal_util_Preconditions : plainName "jdk/internal/util/Preconditions" = true := by first | (simp [plainName, overriddenIn]; done) | decide +kernel
set_option maxRecDepth 65536 in
set_option maxHeartbeats 40000000 in
theorem c_checkIndexP (l : Launch) (Z : State) (a0 : Array Value) (hw : Tb a0 Z) (hEW : EW Z a0 EL0) (n0 : Nat) (i n : Int32) (ff : Value) (h0 : Heap) (O : Old Z n0 h0) (hff : ff.isRef = true) (h1 : ¬ i < 0) (h2 : i < n) :
    Ct l Z EL0 n0 (⟨"jdk/internal/util/Preconditions", "checkIndex", "(IILjava/util/function/BiFunction;)I"⟩ : MethodName) jdk_41_method_11_code 3 (some .int) ({ frames := 0, cells := 0, slots := 0, locals := 0 } : Room) #[(.int i), (.int n), ff] h0 [] (Pu (some (.int i)) h0) := by
  refine Ct.of (a0 := a0) #[.val (.int i), .val (.int n), .val ff] hEW O (plainFor_of_name pl_jdk_internal_util_Preconditions) (fun m => by rcases own_refc hff with rfl | ⟨r, rfl⟩ <;> first | (simp [entryFrame, mkF, argsToLocals, Value.category]; done) | rfl) ?_
  intro p_ e_ s_ m_ below_ meth_ c_ b_ T_ K hSP
  refine k_iloadN K d_jdk_41_method_11_code_0 (pc' := 1) rfl rfl ?_
  refine k_if_lt K d_jdk_41_method_11_code_1 (by decide) (pc' := 9) (pc2 := 4) (by decide) rfl (fun q => absurd q h1) (fun hc1 => ?_)
  refine k_iloadN K d_jdk_41_method_11_code_4 (pc' := 5) rfl rfl ?_
  refine k_iloadN K d_jdk_41_method_11_code_5 (pc' := 6) rfl rfl ?_
  refine k_icmp_lt K d_jdk_41_method_11_code_6 (by decide) (pc' := 16) (pc2 := 9) (by decide) rfl (fun hc6 => ?_) (fun q => absurd h2 q)
  refine k_iloadN K d_jdk_41_method_11_code_16 (pc' := 17) rfl rfl ?_
  exact k_iret K d_jdk_41_method_11_code_17 rfl (fun sf ht => ⟨rfl, rfl⟩) (by decide) (by decide)
theorem d_jdk_42_method_155_code_0 : decode jdk_42_method_155_code 0 = .ok (.iload_n 0, 1) := by decide +kernel
theorem d_jdk_42_method_155_code_1 : decode jdk_42_method_155_code 1 = .ok (.iload_n 1, 1) := by decide +kernel
theorem d_jdk_42_method_155_code_2 : decode jdk_42_method_155_code 2 = .ok (.getstatic 1053, 3) := by decide +kernel
theorem w128 {Z : State} {a0 : Array Value} (hw : Tb a0 Z) : (Jvm.Cond.fieldLink "java/lang/String" (1053 : Nat) "jdk/internal/util/Preconditions" "SIOOBE_FORMATTER" "Ljava/util/function/BiFunction;").before a0 Z = true := hw _ (List.mem_of_getElem? (i := 128) rfl)
theorem d_jdk_42_method_155_code_5 : decode jdk_42_method_155_code 5 = .ok (.invokestatic 1059, 3) := by decide +kernel
theorem w130 {Z : State} {a0 : Array Value} (hw : Tb a0 Z) : (Jvm.Cond.methodLink "java/lang/String" (1059 : Nat) ({ cls := "jdk/internal/util/Preconditions", name := "checkIndex", desc := "(IILjava/util/function/BiFunction;)I" } : Jvm.MethodName)).before a0 Z = true := hw _ (List.mem_of_getElem? (i := 130) rfl)
theorem w129 {Z : State} {a0 : Array Value} (hw : Tb a0 Z) : (Jvm.Cond.initialized "jdk/internal/util/Preconditions").before a0 Z = true := hw _ (List.mem_of_getElem? (i := 129) rfl)
theorem w132 {Z : State} {a0 : Array Value} (hw : Tb a0 Z) : (Jvm.Cond.code ({ cls := "jdk/internal/util/Preconditions", name := "checkIndex", desc := "(IILjava/util/function/BiFunction;)I" } : Jvm.MethodName) jdk_41_method_11_code (3 : Nat) (Option.some Jvm.ClassFile.FieldType.int)).before a0 Z = true := hw _ (List.mem_of_getElem? (i := 132) rfl)
theorem w131 {Z : State} {a0 : Array Value} (hw : Tb a0 Z) : (Jvm.Cond.static ({ cls := "jdk/internal/util/Preconditions", name := "checkIndex", desc := "(IILjava/util/function/BiFunction;)I" } : Jvm.MethodName)).before a0 Z = true := hw _ (List.mem_of_getElem? (i := 131) rfl)
theorem pd__IILjava_util_function_BiFunction__I_2091 : parseMethodDescriptor "(IILjava/util/function/BiFunction;)I" = some ⟨[.int, .int, (.object "java/util/function/BiFunction")], some .int⟩ := by decide +kernel
theorem d_jdk_42_method_155_code_8 : decode jdk_42_method_155_code 8 = .ok (.pop, 1) := by decide +kernel
theorem d_jdk_42_method_155_code_9 : decode jdk_42_method_155_code 9 = .ok (.return_, 1) := by decide +kernel
set_option maxRecDepth 65536 in
set_option maxHeartbeats 40000000 in
theorem c_checkIndexS (l : Launch) (Z : State) (a0 : Array Value) (hw : Tb a0 Z) (hEW : EW Z a0 EL0) (n0 : Nat) (i n : Int32) (ff : Value) (h0 : Heap) (O : Old Z n0 h0) (SF : Sta Z Z.heap "jdk/internal/util/Preconditions" "SIOOBE_FORMATTER" "Ljava/util/function/BiFunction;" ff) (hff : ff.isRef = true) (h1 : ¬ i < 0) (h2 : i < n) :
    Ct l Z EL0 n0 (⟨"java/lang/String", "checkIndex", "(II)V"⟩ : MethodName) jdk_42_method_155_code 2 none ({ frames := 1, cells := 0, slots := 0, locals := 14 } : Room) #[(.int i), (.int n)] h0 [] (Pu none h0) := by
  refine Ct.of (a0 := a0) #[.val (.int i), .val (.int n)] hEW O (plainFor_of_name pl_java_lang_String) (fun m => by first | (simp [entryFrame, mkF, argsToLocals, Value.category]; done) | rfl) ?_
  intro p_ e_ s_ m_ below_ meth_ c_ b_ T_ K hSP
  refine k_iloadN K d_jdk_42_method_155_code_0 (pc' := 1) rfl rfl ?_
  refine k_iloadN K d_jdk_42_method_155_code_1 (pc' := 2) rfl rfl ?_
  refine k_getS K (w128 hw) Via.refl SF d_jdk_42_method_155_code_2 (pc' := 5) rfl ?_
  intro T39 K39
  refine k_staticP K39 [(.int i), (.int n), ff] [] 0 (w130 hw) (w131 hw) (w129 hw) (w132 hw) (by decide) pd__IILjava_util_function_BiFunction__I_2091 (c_checkIndexP l Z a0 hw hEW n0 i n ff h0 K39.old hff h1 h2) d_jdk_42_method_155_code_5 nofun (pc' := 8) rfl rfl rfl rfl (Nat.le_of_eq rfl) (by decide) (by decide) (by decide) (by decide) ?_
  intro b40 T40 L40 K40 tr40
  show Goes p_.tables e_ below_ _ (T40.setTop (mkF m_ 8 #[.val (.int i), .val (.int n)] [(.int i)]))
  refine k_pop K40 d_jdk_42_method_155_code_8 (pc' := 9) rfl rfl ?_
  exact k_return K40 d_jdk_42_method_155_code_9 rfl (fun sf ht => ⟨rfl, rfl⟩) (by decide) (by decide)
theorem d_jdk_43_method_2_code_0 : decode jdk_43_method_2_code 0 = .ok (.iload_n 1, 1) := by decide +kernel
theorem d_jdk_43_method_2_code_1 : decode jdk_43_method_2_code 1 = .ok (.aload_n 0, 1) := by decide +kernel
theorem d_jdk_43_method_2_code_2 : decode jdk_43_method_2_code 2 = .ok (.arraylength, 1) := by decide +kernel
theorem d_jdk_43_method_2_code_3 : decode jdk_43_method_2_code 3 = .ok (.invokestatic 9, 3) := by decide +kernel
theorem w125 {Z : State} {a0 : Array Value} (hw : Tb a0 Z) : (Jvm.Cond.methodLink "java/lang/StringLatin1" (9 : Nat) ({ cls := "java/lang/String", name := "checkIndex", desc := "(II)V" } : Jvm.MethodName)).before a0 Z = true := hw _ (List.mem_of_getElem? (i := 125) rfl)
theorem w127 {Z : State} {a0 : Array Value} (hw : Tb a0 Z) : (Jvm.Cond.code ({ cls := "java/lang/String", name := "checkIndex", desc := "(II)V" } : Jvm.MethodName) jdk_42_method_155_code (2 : Nat) (Option.none : Option Jvm.ClassFile.FieldType)).before a0 Z = true := hw _ (List.mem_of_getElem? (i := 127) rfl)
theorem w126 {Z : State} {a0 : Array Value} (hw : Tb a0 Z) : (Jvm.Cond.static ({ cls := "java/lang/String", name := "checkIndex", desc := "(II)V" } : Jvm.MethodName)).before a0 Z = true := hw _ (List.mem_of_getElem? (i := 126) rfl)
theorem pd__II_V_999 : parseMethodDescriptor "(II)V" = some ⟨[.int, .int], none⟩ := by decide +kernel
theorem d_jdk_43_method_2_code_6 : decode jdk_43_method_2_code 6 = .ok (.aload_n 0, 1) := by decide +kernel
theorem d_jdk_43_method_2_code_7 : decode jdk_43_method_2_code 7 = .ok (.iload_n 1, 1) := by decide +kernel
theorem d_jdk_43_method_2_code_8 : decode jdk_43_method_2_code 8 = .ok (.baload, 1) := by decide +kernel
theorem d_jdk_43_method_2_code_9 : decode jdk_43_method_2_code 9 = .ok (.sipush 255, 3) := by decide +kernel
theorem d_jdk_43_method_2_code_12 : decode jdk_43_method_2_code 12 = .ok (.iand, 1) := by decide +kernel
theorem d_jdk_43_method_2_code_13 : decode jdk_43_method_2_code 13 = .ok (.i2c, 1) := by decide +kernel
theorem d_jdk_43_method_2_code_14 : decode jdk_43_method_2_code 14 = .ok (.ireturn, 1) := by decide +kernel
theorem pl_java_lang_StringLatin1 : plainName "java/lang/StringLatin1" = true := by first | (simp [plainName, overriddenIn]; done) | decide +kernel
set_option maxRecDepth 65536 in
set_option maxHeartbeats 40000000 in
theorem c_l1charAt (l : Launch) (Z : State) (a0 : Array Value) (hw : Tb a0 Z) (hEW : EW Z a0 EL0) (n0 : Nat) (e : Addr) (ke : ClassId) (z i x : Int32) (vs : List Value) (ff : Value) (h0 : Heap) (O : Old Z n0 h0) (SF : Sta Z Z.heap "jdk/internal/util/Preconditions" "SIOOBE_FORMATTER" "Ljava/util/function/BiFunction;" ff) (hff : ff.isRef = true) (V_e : Arv Z h0 e ke .byte z vs (.int 0)) (h1 : ¬ i < 0) (h2 : i < z) (hv : vs.getD i.toNatClampNeg (.int 0) = .int x) :
    Ct l Z EL0 n0 (⟨"java/lang/StringLatin1", "charAt", "([BI)C"⟩ : MethodName) jdk_43_method_2_code 2 (some .char) ({ frames := 2, cells := 0, slots := 0, locals := 27 } : Room) #[(.ref e), (.int i)] h0 [] (Pu (some (.int (x &&& 255).toUInt32.toUInt16.toUInt32.toInt32)) h0) := by
  refine Ct.of (a0 := a0) #[.val (.ref e), .val (.int i)] hEW O (plainFor_of_name pl_java_lang_StringLatin1) (fun m => by first | (simp [entryFrame, mkF, argsToLocals, Value.category]; done) | rfl) ?_
  intro p_ e_ s_ m_ below_ meth_ c_ b_ T_ K hSP
  refine k_iloadN K d_jdk_43_method_2_code_0 (pc' := 1) rfl rfl ?_
  refine k_aloadN K d_jdk_43_method_2_code_1 (pc' := 2) rfl rfl rfl ?_
  refine k_len K V_e d_jdk_43_method_2_code_2 (pc' := 3) rfl ?_
  refine k_staticP K [(.int i), (.int z)] [] 0 (w125 hw) (w126 hw) (w10 hw) (w127 hw) (by decide) pd__II_V_999 (c_checkIndexS l Z a0 hw hEW n0 i z ff h0 K.old SF hff h1 h2) d_jdk_43_method_2_code_3 nofun (pc' := 6) rfl rfl rfl rfl (Nat.le_of_eq rfl) (by decide) (by decide) (by decide) (by decide) ?_
  intro b41 T41 L41 K41 tr41
  show Goes p_.tables e_ below_ _ (T41.setTop (mkF m_ 6 #[.val (.ref e), .val (.int i)] []))
  refine k_aloadN K41 d_jdk_43_method_2_code_6 (pc' := 7) rfl rfl rfl ?_
  refine k_iloadN K41 d_jdk_43_method_2_code_7 (pc' := 8) rfl rfl ?_
  refine k_baload K41 (j := i) V_e ⟨h1, h2⟩ hv d_jdk_43_method_2_code_8 (pc' := 9) rfl ?_
  have hr := own_i2c (x &&& 255)
  refine k_sipush K41 (255 : Int32) d_jdk_43_method_2_code_9 (pc' := 12) rfl rfl ?_
  refine k_iand K41 d_jdk_43_method_2_code_12 (pc' := 13) rfl ?_
  refine k_i2c K41 d_jdk_43_method_2_code_13 (pc' := 14) rfl ?_
  exact k_nret K41 d_jdk_43_method_2_code_14 rfl (by simp) (own_narrowc hr.1 hr.2) (fun sf ht => ⟨rfl, rfl⟩) (by decide) (by decide)
theorem d_jdk_52_method_6_code_0 : decode jdk_52_method_6_code 0 = .ok (.aload_n 0, 1) := by decide +kernel
theorem d_jdk_52_method_6_code_1 : decode jdk_52_method_6_code 1 = .ok (.arraylength, 1) := by decide +kernel
theorem d_jdk_52_method_6_code_2 : decode jdk_52_method_6_code 2 = .ok (.iconst 1, 1) := by decide +kernel
theorem d_jdk_52_method_6_code_3 : decode jdk_52_method_6_code 3 = .ok (.ishr, 1) := by decide +kernel
theorem d_jdk_52_method_6_code_4 : decode jdk_52_method_6_code 4 = .ok (.ireturn, 1) := by decide +kernel
set_option maxRecDepth 65536 in
set_option maxHeartbeats 40000000 in
theorem c_u16length (l : Launch) (Z : State) (a0 : Array Value) (hw : Tb a0 Z) (hEW : EW Z a0 EL0) (n0 : Nat) (d : Addr) (kd : ClassId) (z : Int32) (vs : List Value) (h0 : Heap) (O : Old Z n0 h0) (V_d : Arv Z h0 d kd .byte z vs (.int 0)) :
    Ct l Z EL0 n0 (⟨"java/lang/StringUTF16", "length", "([B)I"⟩ : MethodName) jdk_52_method_6_code 1 (some .int) ({ frames := 0, cells := 0, slots := 0, locals := 0 } : Room) #[(.ref d)] h0 [] (Pu (some (.int (z >>> ((1 : Int32) &&& 31)))) h0) := by
  refine Ct.of (a0 := a0) #[.val (.ref d)] hEW O (plainFor_of_name pl_java_lang_StringUTF16) (fun m => by first | (simp [entryFrame, mkF, argsToLocals, Value.category]; done) | rfl) ?_
  intro p_ e_ s_ m_ below_ meth_ c_ b_ T_ K hSP
  refine k_aloadN K d_jdk_52_method_6_code_0 (pc' := 1) rfl rfl rfl ?_
  refine k_len K V_d d_jdk_52_method_6_code_1 (pc' := 2) rfl ?_
  refine k_iconst K (1 : Int32) d_jdk_52_method_6_code_2 (pc' := 3) rfl rfl ?_
  refine k_ishr K d_jdk_52_method_6_code_3 (pc' := 4) rfl ?_
  exact k_iret K d_jdk_52_method_6_code_4 rfl (fun sf ht => ⟨rfl, rfl⟩) (by decide) (by decide)
theorem d_jdk_52_method_91_code_0 : decode jdk_52_method_91_code 0 = .ok (.iload_n 0, 1) := by decide +kernel
theorem d_jdk_52_method_91_code_1 : decode jdk_52_method_91_code 1 = .ok (.aload_n 1, 1) := by decide +kernel
theorem d_jdk_52_method_91_code_2 : decode jdk_52_method_91_code 2 = .ok (.invokestatic 48, 3) := by decide +kernel
theorem w152 {Z : State} {a0 : Array Value} (hw : Tb a0 Z) : (Jvm.Cond.methodLink "java/lang/StringUTF16" (48 : Nat) ({ cls := "java/lang/StringUTF16", name := "length", desc := "([B)I" } : Jvm.MethodName)).before a0 Z = true := hw _ (List.mem_of_getElem? (i := 152) rfl)
theorem w154 {Z : State} {a0 : Array Value} (hw : Tb a0 Z) : (Jvm.Cond.code ({ cls := "java/lang/StringUTF16", name := "length", desc := "([B)I" } : Jvm.MethodName) jdk_52_method_6_code (1 : Nat) (Option.some Jvm.ClassFile.FieldType.int)).before a0 Z = true := hw _ (List.mem_of_getElem? (i := 154) rfl)
theorem w153 {Z : State} {a0 : Array Value} (hw : Tb a0 Z) : (Jvm.Cond.static ({ cls := "java/lang/StringUTF16", name := "length", desc := "([B)I" } : Jvm.MethodName)).before a0 Z = true := hw _ (List.mem_of_getElem? (i := 153) rfl)
theorem pd___B_I_949 : parseMethodDescriptor "([B)I" = some ⟨[(.array .byte)], some .int⟩ := by decide +kernel
theorem d_jdk_52_method_91_code_5 : decode jdk_52_method_91_code 5 = .ok (.invokestatic 414, 3) := by decide +kernel
theorem w155 {Z : State} {a0 : Array Value} (hw : Tb a0 Z) : (Jvm.Cond.methodLink "java/lang/StringUTF16" (414 : Nat) ({ cls := "java/lang/String", name := "checkIndex", desc := "(II)V" } : Jvm.MethodName)).before a0 Z = true := hw _ (List.mem_of_getElem? (i := 155) rfl)
theorem d_jdk_52_method_91_code_8 : decode jdk_52_method_91_code 8 = .ok (.return_, 1) := by decide +kernel
set_option maxRecDepth 65536 in
set_option maxHeartbeats 40000000 in
theorem c_u16checkIndex (l : Launch) (Z : State) (a0 : Array Value) (hw : Tb a0 Z) (hEW : EW Z a0 EL0) (n0 : Nat) (d : Addr) (kd : ClassId) (n i : Int32) (j : Nat) (cs : List Int32) (ff : Value) (h0 : Heap) (O : Old Z n0 h0) (SF : Sta Z Z.heap "jdk/internal/util/Preconditions" "SIOOBE_FORMATTER" "Ljava/util/function/BiFunction;" ff) (hff : ff.isRef = true) (hn : n.toInt = cs.length) (hb : cs.length ≤ 4000) (hj : i.toInt = j) (hjl : j < cs.length) (V_d : Arv Z h0 d kd .byte (n <<< ((1 : Int32) &&& 31)) (fill2 cs cs.length) (.int 0))  :
    Ct l Z EL0 n0 (⟨"java/lang/StringUTF16", "checkIndex", "(I[B)V"⟩ : MethodName) jdk_52_method_91_code 2 none ({ frames := 2, cells := 0, slots := 0, locals := 27 } : Room) #[(.int i), (.ref d)] h0 [] (Pu none h0) := by
  refine Ct.of (a0 := a0) #[.val (.int i), .val (.ref d)] hEW O (plainFor_of_name pl_java_lang_StringUTF16) (fun m => by first | (simp [entryFrame, mkF, argsToLocals, Value.category]; done) | rfl) ?_
  intro p_ e_ s_ m_ below_ meth_ c_ b_ T_ K hSP
  refine k_iloadN K d_jdk_52_method_91_code_0 (pc' := 1) rfl rfl ?_
  refine k_aloadN K d_jdk_52_method_91_code_1 (pc' := 2) rfl rfl rfl ?_
  refine k_staticP K [(.ref d)] [(.int i)] 1 (w152 hw) (w153 hw) (w81 hw) (w154 hw) (by decide) pd___B_I_949 (c_u16length l Z a0 hw hEW n0 d kd _ _ h0 K.old V_d) d_jdk_52_method_91_code_2 nofun (pc' := 5) rfl rfl rfl rfl (Nat.le_of_eq rfl) (by decide) (by decide) (by decide) (by decide) ?_
  intro b42 T42 L42 K42 tr42
  show Goes p_.tables e_ below_ _ (T42.setTop (mkF m_ 5 #[.val (.int i), .val (.ref d)] [(.int ((n <<< ((1 : Int32) &&& 31)) >>> ((1 : Int32) &&& 31))), (.int i)]))
  rw [own_half hn hb]
  have hin := own_in hj hn hjl
  refine k_staticP K42 [(.int i), (.int n)] [] 0 (w155 hw) (w126 hw) (w10 hw) (w127 hw) (by decide) pd__II_V_999 (c_checkIndexS l Z a0 hw hEW n0 i n ff h0 K42.old SF hff hin.1 hin.2) d_jdk_52_method_91_code_5 nofun (pc' := 8) rfl rfl rfl rfl (Nat.le_of_eq rfl) (by decide) (by decide) (by decide) (by decide) ?_
  intro b43 T43 L43 K43 tr43
  show Goes p_.tables e_ below_ _ (T43.setTop (mkF m_ 8 #[.val (.int i), .val (.ref d)] []))
  exact k_return K43 d_jdk_52_method_91_code_8 rfl (fun sf ht => ⟨rfl, rfl⟩) (by decide) (by decide)
theorem d_jdk_52_method_83_code_0 : decode jdk_52_method_83_code 0 = .ok (.iload_n 1, 1) := by decide +kernel
theorem d_jdk_52_method_83_code_1 : decode jdk_52_method_83_code 1 = .ok (.aload_n 0, 1) := by decide +kernel
theorem d_jdk_52_method_83_code_2 : decode jdk_52_method_83_code 2 = .ok (.invokestatic 67, 3) := by decide +kernel
theorem w149 {Z : State} {a0 : Array Value} (hw : Tb a0 Z) : (Jvm.Cond.methodLink "java/lang/StringUTF16" (67 : Nat) ({ cls := "java/lang/StringUTF16", name := "checkIndex", desc := "(I[B)V" } : Jvm.MethodName)).before a0 Z = true := hw _ (List.mem_of_getElem? (i := 149) rfl)
theorem w151 {Z : State} {a0 : Array Value} (hw : Tb a0 Z) : (Jvm.Cond.code ({ cls := "java/lang/StringUTF16", name := "checkIndex", desc := "(I[B)V" } : Jvm.MethodName) jdk_52_method_91_code (2 : Nat) (Option.none : Option Jvm.ClassFile.FieldType)).before a0 Z = true := hw _ (List.mem_of_getElem? (i := 151) rfl)
theorem w150 {Z : State} {a0 : Array Value} (hw : Tb a0 Z) : (Jvm.Cond.static ({ cls := "java/lang/StringUTF16", name := "checkIndex", desc := "(I[B)V" } : Jvm.MethodName)).before a0 Z = true := hw _ (List.mem_of_getElem? (i := 150) rfl)
theorem pd__I_B_V_1444 : parseMethodDescriptor "(I[B)V" = some ⟨[.int, (.array .byte)], none⟩ := by decide +kernel
theorem d_jdk_52_method_83_code_5 : decode jdk_52_method_83_code 5 = .ok (.aload_n 0, 1) := by decide +kernel
theorem d_jdk_52_method_83_code_6 : decode jdk_52_method_83_code 6 = .ok (.iload_n 1, 1) := by decide +kernel
theorem d_jdk_52_method_83_code_7 : decode jdk_52_method_83_code 7 = .ok (.invokestatic 71, 3) := by decide +kernel
theorem d_jdk_52_method_83_code_10 : decode jdk_52_method_83_code 10 = .ok (.ireturn, 1) := by decide +kernel
set_option maxRecDepth 65536 in
set_option maxHeartbeats 40000000 in
theorem c_u16charAt (l : Launch) (Z : State) (a0 : Array Value) (hw : Tb a0 Z) (hEW : EW Z a0 EL0) (n0 : Nat) (d : Addr) (kd : ClassId) (n i : Int32) (j : Nat) (cs : List Int32) (ff : Value) (h0 : Heap) (O : Old Z n0 h0) (SF : Sta Z Z.heap "jdk/internal/util/Preconditions" "SIOOBE_FORMATTER" "Ljava/util/function/BiFunction;" ff) (hff : ff.isRef = true) (hn : n.toInt = cs.length) (hb : cs.length ≤ 4000) (hj : i.toInt = j) (hjl : j < cs.length) (V_d : Arv Z h0 d kd .byte (n <<< ((1 : Int32) &&& 31)) (fill2 cs cs.length) (.int 0)) (hc : ∀ c ∈ cs, 0 ≤ c.toInt ∧ c.toInt < 65536) (SA : Sta Z Z.heap "java/lang/StringUTF16" "$assertionsDisabled" "Z" (.int 1)) (SH : Sta Z Z.heap "java/lang/StringUTF16" "HI_BYTE_SHIFT" "I" (.int 0)) (SL : Sta Z Z.heap "java/lang/StringUTF16" "LO_BYTE_SHIFT" "I" (.int 8)) :
    Ct l Z EL0 n0 (⟨"java/lang/StringUTF16", "charAt", "([BI)C"⟩ : MethodName) jdk_52_method_83_code 2 (some .char) ({ frames := 3, cells := 0, slots := 0, locals := 40 } : Room) #[(.ref d), (.int i)] h0 [] (Pu (some (.int cs[j])) h0) := by
  refine Ct.of (a0 := a0) #[.val (.ref d), .val (.int i)] hEW O (plainFor_of_name pl_java_lang_StringUTF16) (fun m => by first | (simp [entryFrame, mkF, argsToLocals, Value.category]; done) | rfl) ?_
  intro p_ e_ s_ m_ below_ meth_ c_ b_ T_ K hSP
  refine k_iloadN K d_jdk_52_method_83_code_0 (pc' := 1) rfl rfl ?_
  refine k_aloadN K d_jdk_52_method_83_code_1 (pc' := 2) rfl rfl rfl ?_
  refine k_staticP K [(.int i), (.ref d)] [] 0 (w149 hw) (w150 hw) (w81 hw) (w151 hw) (by decide) pd__I_B_V_1444 (c_u16checkIndex l Z a0 hw hEW n0 d kd n i j cs ff h0 K.old SF hff hn hb hj hjl V_d) d_jdk_52_method_83_code_2 nofun (pc' := 5) rfl rfl rfl rfl (Nat.le_of_eq rfl) (by decide) (by decide) (by decide) (by decide) ?_
  intro b44 T44 L44 K44 tr44
  show Goes p_.tables e_ below_ _ (T44.setTop (mkF m_ 5 #[.val (.ref d), .val (.int i)] []))
  refine k_aloadN K44 d_jdk_52_method_83_code_5 (pc' := 6) rfl rfl rfl ?_
  refine k_iloadN K44 d_jdk_52_method_83_code_6 (pc' := 7) rfl rfl ?_
  refine k_staticP K44 [(.ref d), (.int i)] [] 0 (w102 hw) (w103 hw) (w81 hw) (w104 hw) (by decide) pd___BI_C_1319 (c_getChar l Z a0 hw hEW n0 d kd i (n <<< ((1 : Int32) &&& 31)) j cs h0 K44.old hj hjl hb (own_dbl hn (by omega)) hc V_d SA SH SL) d_jdk_52_method_83_code_7 nofun (pc' := 10) rfl rfl rfl rfl (Nat.le_of_eq rfl) (by decide) (by decide) (by decide) (by decide) ?_
  intro b45 T45 L45 K45 tr45
  show Goes p_.tables e_ below_ _ (T45.setTop (mkF m_ 10 #[.val (.ref d), .val (.int i)] [(.int cs[j])]))
  have hcj := hc cs[j] (List.getElem_mem hjl)
  exact k_nret K45 d_jdk_52_method_83_code_10 rfl (by simp) (own_narrowc hcj.1 hcj.2) (fun sf ht => ⟨rfl, rfl⟩) (by decide) (by decide)
theorem d_jdk_42_method_56_code_0 : decode jdk_42_method_56_code 0 = .ok (.aload_n 0, 1) := by decide +kernel
theorem d_jdk_42_method_56_code_1 : decode jdk_42_method_56_code 1 = .ok (.invokevirtual 492, 3) := by decide +kernel
theorem w116 {Z : State} {a0 : Array Value} (hw : Tb a0 Z) : (Jvm.Cond.methodLink "java/lang/String" (492 : Nat) ({ cls := "java/lang/String", name := "isLatin1", desc := "()Z" } : Jvm.MethodName)).before a0 Z = true := hw _ (List.mem_of_getElem? (i := 116) rfl)
theorem w120 {Z : State} {a0 : Array Value} (hw : Tb a0 Z) : (Jvm.Cond.code ({ cls := "java/lang/String", name := "isLatin1", desc := "()Z" } : Jvm.MethodName) jdk_42_method_154_code (1 : Nat) (Option.some Jvm.ClassFile.FieldType.boolean)).before a0 Z = true := hw _ (List.mem_of_getElem? (i := 120) rfl)
theorem w119 {Z : State} {a0 : Array Value} (hw : Tb a0 Z) : (Jvm.Cond.selects "java/lang/String" ({ cls := "java/lang/String", name := "isLatin1", desc := "()Z" } : Jvm.MethodName) ({ cls := "java/lang/String", name := "isLatin1", desc := "()Z" } : Jvm.MethodName)).before a0 Z = true := hw _ (List.mem_of_getElem? (i := 119) rfl)
theorem w117 {Z : State} {a0 : Array Value} (hw : Tb a0 Z) : (Jvm.Cond.declares ({ cls := "java/lang/String", name := "isLatin1", desc := "()Z" } : Jvm.MethodName)).before a0 Z = true := hw _ (List.mem_of_getElem? (i := 117) rfl)
theorem w118 {Z : State} {a0 : Array Value} (hw : Tb a0 Z) : (Jvm.Cond.instanceMethod ({ cls := "java/lang/String", name := "isLatin1", desc := "()Z" } : Jvm.MethodName)).before a0 Z = true := hw _ (List.mem_of_getElem? (i := 118) rfl)
theorem pd___Z_392 : parseMethodDescriptor "()Z" = some ⟨[], some .boolean⟩ := by decide +kernel
theorem d_jdk_42_method_56_code_4 : decode jdk_42_method_56_code 4 = .ok (.ifCond .eq 12, 3) := by decide +kernel
theorem d_jdk_42_method_56_code_16 : decode jdk_42_method_56_code 16 = .ok (.aload_n 0, 1) := by decide +kernel
theorem d_jdk_42_method_56_code_17 : decode jdk_42_method_56_code 17 = .ok (.getfield 9, 3) := by decide +kernel
theorem d_jdk_42_method_56_code_20 : decode jdk_42_method_56_code 20 = .ok (.iload_n 1, 1) := by decide +kernel
theorem d_jdk_42_method_56_code_21 : decode jdk_42_method_56_code 21 = .ok (.invokestatic 498, 3) := by decide +kernel
theorem w146 {Z : State} {a0 : Array Value} (hw : Tb a0 Z) : (Jvm.Cond.methodLink "java/lang/String" (498 : Nat) ({ cls := "java/lang/StringUTF16", name := "charAt", desc := "([BI)C" } : Jvm.MethodName)).before a0 Z = true := hw _ (List.mem_of_getElem? (i := 146) rfl)
theorem w148 {Z : State} {a0 : Array Value} (hw : Tb a0 Z) : (Jvm.Cond.code ({ cls := "java/lang/StringUTF16", name := "charAt", desc := "([BI)C" } : Jvm.MethodName) jdk_52_method_83_code (2 : Nat) (Option.some Jvm.ClassFile.FieldType.char)).before a0 Z = true := hw _ (List.mem_of_getElem? (i := 148) rfl)
theorem w147 {Z : State} {a0 : Array Value} (hw : Tb a0 Z) : (Jvm.Cond.static ({ cls := "java/lang/StringUTF16", name := "charAt", desc := "([BI)C" } : Jvm.MethodName)).before a0 Z = true := hw _ (List.mem_of_getElem? (i := 147) rfl)
theorem d_jdk_42_method_56_code_24 : decode jdk_42_method_56_code 24 = .ok (.ireturn, 1) := by decide +kernel
theorem d_jdk_42_method_56_code_7 : decode jdk_42_method_56_code 7 = .ok (.aload_n 0, 1) := by decide +kernel
theorem d_jdk_42_method_56_code_8 : decode jdk_42_method_56_code 8 = .ok (.getfield 9, 3) := by decide +kernel
theorem d_jdk_42_method_56_code_11 : decode jdk_42_method_56_code 11 = .ok (.iload_n 1, 1) := by decide +kernel
theorem d_jdk_42_method_56_code_12 : decode jdk_42_method_56_code 12 = .ok (.invokestatic 495, 3) := by decide +kernel
theorem w121 {Z : State} {a0 : Array Value} (hw : Tb a0 Z) : (Jvm.Cond.methodLink "java/lang/String" (495 : Nat) ({ cls := "java/lang/StringLatin1", name := "charAt", desc := "([BI)C" } : Jvm.MethodName)).before a0 Z = true := hw _ (List.mem_of_getElem? (i := 121) rfl)
theorem w123 {Z : State} {a0 : Array Value} (hw : Tb a0 Z) : (Jvm.Cond.initialized "java/lang/StringLatin1").before a0 Z = true := hw _ (List.mem_of_getElem? (i := 123) rfl)
theorem w124 {Z : State} {a0 : Array Value} (hw : Tb a0 Z) : (Jvm.Cond.code ({ cls := "java/lang/StringLatin1", name := "charAt", desc := "([BI)C" } : Jvm.MethodName) jdk_43_method_2_code (2 : Nat) (Option.some Jvm.ClassFile.FieldType.char)).before a0 Z = true := hw _ (List.mem_of_getElem? (i := 124) rfl)
theorem w122 {Z : State} {a0 : Array Value} (hw : Tb a0 Z) : (Jvm.Cond.static ({ cls := "java/lang/StringLatin1", name := "charAt", desc := "([BI)C" } : Jvm.MethodName)).before a0 Z = true := hw _ (List.mem_of_getElem? (i := 122) rfl)
theorem d_jdk_42_method_56_code_15 : decode jdk_42_method_56_code 15 = .ok (.ireturn, 1) := by decide +kernel
set_option maxRecDepth 65536 in
set_option maxHeartbeats 40000000 in
theorem c_charAtU (l : Launch) (Z : State) (a0 : Array Value) (hw : Tb a0 Z) (hEW : EW Z a0 EL0) (n0 : Nat) (a d : Addr) (kd : ClassId) (n i : Int32) (j : Nat) (cs : List Int32) (ff : Value) (cs0 : Int32) (h0 : Heap) (O : Old Z n0 h0) (SF : Sta Z Z.heap "jdk/internal/util/Preconditions" "SIOOBE_FORMATTER" "Ljava/util/function/BiFunction;" ff) (hff : ff.isRef = true) (hn : n.toInt = cs.length) (hb : cs.length ≤ 4000) (hj : i.toInt = j) (hjl : j < cs.length) (hc : ∀ c ∈ cs, 0 ≤ c.toInt ∧ c.toInt < 65536) (S : Str Z h0 a d kd (strCd cs) (strZ n cs) (strVs cs)) (SC : Sta Z Z.heap "java/lang/String" "COMPACT_STRINGS" "Z" (.int cs0)) (hcs : ¬ cs0 = 0) (SA : Sta Z Z.heap "java/lang/StringUTF16" "$assertionsDisabled" "Z" (.int 1)) (SH : Sta Z Z.heap "java/lang/StringUTF16" "HI_BYTE_SHIFT" "I" (.int 0)) (SL : Sta Z Z.heap "java/lang/StringUTF16" "LO_BYTE_SHIFT" "I" (.int 8)) :
    Ct l Z EL0 n0 (⟨"java/lang/String", "charAt", "(I)C"⟩ : MethodName) jdk_42_method_56_code 2 (some .char) ({ frames := 4, cells := 0, slots := 0, locals := 53 } : Room) #[(.ref a), (.int i)] h0 [] (Pu (some (.int cs[j])) h0) := by
  refine Ct.of (a0 := a0) #[.val (.ref a), .val (.int i)] hEW O (plainFor_of_name pl_java_lang_String) (fun m => by first | (simp [entryFrame, mkF, argsToLocals, Value.category]; done) | rfl) ?_
  intro p_ e_ s_ m_ below_ meth_ c_ b_ T_ K hSP
  have hcj := hc cs[j] (List.getElem_mem hjl)
  have hin := own_in hj hn hjl
  refine k_aloadN K d_jdk_42_method_56_code_0 (pc' := 1) rfl rfl rfl ?_
  refine k_virtualP K [] [] 0 (w116 hw) (w117 hw) (w118 hw) (w119 hw) (w10 hw) (w120 hw) (notFace_of_selects (args := #[]) (mvT K.hZ (w119 hw))) rfl (by decide) S.1 (by decide) pd___Z_392 (c_isLatin1 l Z a0 hw hEW n0 a d kd (strCd cs) (strZ n cs) (strVs cs) cs0 h0 K.old S (strCd_01 cs) SC hcs) d_jdk_42_method_56_code_1 nofun (pc' := 4) rfl rfl rfl rfl (Nat.le_of_eq rfl) (by decide) (by decide) (by decide) (by decide) ?_
  intro b46 T46 L46 K46 tr46
  show Goes p_.tables e_ below_ _ (T46.setTop (mkF m_ 4 #[.val (.ref a), .val (.int i)] [(.int (if strCd cs = 0 then 1 else 0))]))
  refine k_if_eq K46 d_jdk_42_method_56_code_4 (by decide) (pc' := 16) (pc2 := 7) (by decide) rfl (fun hc4 => ?_) (fun hc4 => ?_)
  · have ep : ¬ preN cs = cs.length := fun q => own_ifEq hc4 (by rw [strCd, if_pos q])
    have V_d := S.2.2.2
    rw [strZ, strVs, if_neg ep, if_neg ep] at V_d
    refine k_aloadN K46 d_jdk_42_method_56_code_16 (pc' := 17) rfl rfl rfl ?_
    refine k_getF K46 (w27 hw) Via.refl S.2.2.1 d_jdk_42_method_56_code_17 (pc' := 20) rfl ?_
    intro T47 K47
    refine k_iloadN K47 d_jdk_42_method_56_code_20 (pc' := 21) rfl rfl ?_
    refine k_staticP K47 [(.ref d), (.int i)] [] 0 (w146 hw) (w147 hw) (w81 hw) (w148 hw) (by decide) pd___BI_C_1319 (c_u16charAt l Z a0 hw hEW n0 d kd n i j cs ff h0 K47.old SF hff hn hb hj hjl V_d hc SA SH SL) d_jdk_42_method_56_code_21 nofun (pc' := 24) rfl rfl rfl rfl (Nat.le_of_eq rfl) (by decide) (by decide) (by decide) (by decide) ?_
    intro b48 T48 L48 K48 tr48
    show Goes p_.tables e_ below_ _ (T48.setTop (mkF m_ 24 #[.val (.ref a), .val (.int i)] [(.int cs[j])]))
    exact k_nret K48 d_jdk_42_method_56_code_24 rfl (by simp) (own_narrowc hcj.1 hcj.2) (fun sf ht => ⟨rfl, rfl⟩) (by decide) (by decide)
  · have ep : preN cs = cs.length := Classical.byContradiction fun q => by
      have r := own_ifNe hc4
      rw [strCd, if_neg q] at r; exact absurd r (by decide)
    have V_d := S.2.2.2
    rw [strVs_lat ep, strZ, if_pos ep] at V_d
    have hlow := preN_low cs ep cs[j] (List.getElem_mem hjl)
    rw [own_i32, own_255] at hlow
    have ech := own_ch8 (c := cs[j]) ⟨hcj.1, by omega⟩
    refine k_aloadN K46 d_jdk_42_method_56_code_7 (pc' := 8) rfl rfl rfl ?_
    refine k_getF K46 (w27 hw) Via.refl S.2.2.1 d_jdk_42_method_56_code_8 (pc' := 11) rfl ?_
    intro T49 K49
    refine k_iloadN K49 d_jdk_42_method_56_code_11 (pc' := 12) rfl rfl ?_
    refine k_staticP K49 [(.ref d), (.int i)] [] 0 (w121 hw) (w122 hw) (w123 hw) (w124 hw) (by decide) pd___BI_C_1319 (c_l1charAt l Z a0 hw hEW n0 d kd n i (cs[j].toInt8.toInt32) _ ff h0 K49.old SF hff V_d hin.1 hin.2 (by rw [own_clamp hj]; simp [List.getD_eq_getElem?_getD, hjl])) d_jdk_42_method_56_code_12 nofun (pc' := 15) rfl rfl rfl rfl (Nat.le_of_eq rfl) (by decide) (by decide) (by decide) (by decide) ?_
    intro b50 T50 L50 K50 tr50
    show Goes p_.tables e_ below_ _ (T50.setTop (mkF m_ 15 #[.val (.ref a), .val (.int i)] [(.int (cs[j].toInt8.toInt32 &&& 255).toUInt32.toUInt16.toUInt32.toInt32)]))
    rw [ech]
    exact k_nret K50 d_jdk_42_method_56_code_15 rfl (by simp) (own_narrowc hcj.1 hcj.2) (fun sf ht => ⟨rfl, rfl⟩) (by decide) (by decide)
theorem d_jdk_30_method_1_code_0 : decode jdk_30_method_1_code 0 = .ok (.aload_n 0, 1) := by decide +kernel
theorem d_jdk_30_method_1_code_1 : decode jdk_30_method_1_code 1 = .ok (.invokespecial 1, 3) := by decide +kernel
theorem w64 {Z : State} {a0 : Array Value} (hw : Tb a0 Z) : (Jvm.Cond.methodLink "java/lang/Record" (1 : Nat) ({ cls := "java/lang/Object", name := "<init>", desc := "()V" } : Jvm.MethodName)).before a0 Z = true := hw _ (List.mem_of_getElem? (i := 64) rfl)
theorem d_jdk_30_method_1_code_4 : decode jdk_30_method_1_code 4 = .ok (.return_, 1) := by decide +kernel
theorem pl_java_lang_Record : plainName "java/lang/Record" = true := by first | (simp [plainName, overriddenIn]; done) | decide +kernel
set_option maxRecDepth 65536 in
set_option maxHeartbeats 40000000 in
theorem c_recordInit (l : Launch) (Z : State) (a0 : Array Value) (hw : Tb a0 Z) (hEW : EW Z a0 EL0) (n0 : Nat) (a : Addr) (h0 : Heap) (O : Old Z n0 h0)  :
    Ct l Z EL0 n0 (⟨"java/lang/Record", "<init>", "()V"⟩ : MethodName) jdk_30_method_1_code 1 none ({ frames := 1, cells := 0, slots := 0, locals := 12 } : Room) #[(.ref a)] h0 [] (Pu none h0) := by
  refine Ct.of (a0 := a0) #[.val (.ref a)] hEW O (plainFor_of_name pl_java_lang_Record) (fun m => by first | (simp [entryFrame, mkF, argsToLocals, Value.category]; done) | rfl) ?_
  intro p_ e_ s_ m_ below_ meth_ c_ b_ T_ K hSP
  refine k_aloadN K d_jdk_30_method_1_code_0 (pc' := 1) rfl rfl rfl ?_
  refine k_initO K (w64 hw) (w19 hw) (w20 hw) d_jdk_30_method_1_code_1 (pc' := 4) rfl rfl (by decide) 0 (Nat.le_of_eq rfl) (by decide) ?_
  intro T51 K51
  exact k_return K51 d_jdk_30_method_1_code_4 rfl (fun sf ht => ⟨rfl, rfl⟩) (by decide) (by decide)
def cl (c : Int32) : Fin 5 := if c = 10 then 0 else if c = 13 then 1 else if ¬ c < 55296 ∧ c < 56320 then 2 else if ¬ c < 56320 ∧ c < 57344 then 3 else 4
theorem cl_lf (c : Int32) : cl c = 0 ↔ c = 10 := by
  unfold cl
  by_cases h1 : c = 10
  · rw [if_pos h1]; exact ⟨fun _ => h1, fun _ => rfl⟩
  · rw [if_neg h1]
    refine ⟨fun q => ?_, fun q => absurd q h1⟩
    exfalso; revert q; split
    · decide
    · split
      · decide
      · split <;> decide
theorem cl_cr (c : Int32) : cl c = 1 ↔ c = 13 := by
  unfold cl
  by_cases h1 : c = 10
  · subst h1; decide
  · rw [if_neg h1]
    by_cases h2 : c = 13
    · rw [if_pos h2]; exact ⟨fun _ => h2, fun _ => rfl⟩
    · rw [if_neg h2]
      refine ⟨fun q => ?_, fun q => absurd q h2⟩
      exfalso; revert q; split
      · decide
      · split <;> decide
theorem cl_hi (c : Int32) : cl c = 2 ↔ (¬ c < 55296 ∧ c < 56320) := by
  unfold cl
  by_cases h1 : c = 10
  · subst h1; decide
  by_cases h2 : c = 13
  · subst h2; decide
  rw [if_neg h1, if_neg h2]
  by_cases h3 : ¬ c < 55296 ∧ c < 56320
  · rw [if_pos h3]; exact ⟨fun _ => h3, fun _ => rfl⟩
  · rw [if_neg h3]; split
    · exact ⟨fun q => absurd q (by decide), fun q => absurd q h3⟩
    · exact ⟨fun q => absurd q (by decide), fun q => absurd q h3⟩
theorem cl_lo (c : Int32) : cl c = 3 ↔ (¬ c < 56320 ∧ c < 57344) := by
  unfold cl
  by_cases h1 : c = 10
  · subst h1; decide
  by_cases h2 : c = 13
  · subst h2; decide
  rw [if_neg h1, if_neg h2]
  by_cases h3 : ¬ c < 55296 ∧ c < 56320
  · rw [if_pos h3]; exact ⟨fun q => absurd q (by decide), fun q => absurd h3.2 q.1⟩
  · rw [if_neg h3]
    by_cases h4 : ¬ c < 56320 ∧ c < 57344
    · rw [if_pos h4]; exact ⟨fun _ => h4, fun _ => rfl⟩
    · rw [if_neg h4]; exact ⟨fun q => absurd q (by decide), fun q => absurd q h4⟩
theorem own_56319 {c : Int32} : ¬ (56319 : Int32) < c ↔ c < 56320 := by
  rw [own_i32, own_i32, show (56319 : Int32).toInt = 56319 by decide, show (56320 : Int32).toInt = 56320 by decide]; omega
theorem own_57343 {c : Int32} : ¬ (57343 : Int32) < c ↔ c < 57344 := by
  rw [own_i32, own_i32, show (57343 : Int32).toInt = 57343 by decide, show (57344 : Int32).toInt = 57344 by decide]; omega
def crC (t : List (Fin 5)) (n j : Nat) : Bool := t.getD j 4 == 1 && (decide (j + 1 < n) && t.getD (j + 1) 4 == 0)
def endC (t : List (Fin 5)) (n j : Nat) : Bool := (t.getD j 4 == 0 || t.getD j 4 == 1) && !crC t n j
def pairC (t : List (Fin 5)) (j : Nat) : Bool := decide (0 < j) && (t.getD j 4 == 3 && t.getD (j - 1) 4 == 2)
def goC (t : List (Fin 5)) : Nat → Nat × Nat
  | 0 => (1, 1)
  | j + 1 => if endC t t.length j then ((goC t j).1 + 1, 1) else if pairC t j then goC t j else ((goC t j).1, (goC t j).2 + 1)
def endN (t : List (Fin 5)) (n o j : Nat) : Nat := if decide (j < o) && endC t n j then 1 else 0
def widN (t : List (Fin 5)) (o kk j : Nat) : Nat := if decide (j < o) && (decide (kk ≤ j) && !pairC t j) then 1 else 0
def kN (a b c d : Nat) : Nat := if d = 1 then 4 else if c = 1 then 3 else if b = 1 then 2 else if a = 1 then 1 else 0
theorem endN_01 (t : List (Fin 5)) (n o j : Nat) : endN t n o j = 0 ∨ endN t n o j = 1 := by unfold endN; split <;> simp
def kI : Nat → Int32
  | 0 => -1
  | 1 => 0
  | 2 => 1
  | 3 => 2
  | _ => 3
theorem kI_at : ∀ k, k ≤ 4 → (kI k).toInt = (k : Int) - 1
  | 0, _ => by decide
  | 1, _ => by decide
  | 2, _ => by decide
  | 3, _ => by decide
  | 4, _ => by decide
theorem goC_b (t : List (Fin 5)) : ∀ j, 1 ≤ (goC t j).1 ∧ (goC t j).1 ≤ j + 1 ∧ 1 ≤ (goC t j).2 ∧ (goC t j).2 ≤ j + 1
  | 0 => by simp [goC]
  | j + 1 => by
    have h := goC_b t j
    unfold goC
    split
    · simp; omega
    · split
      · omega
      · simp; omega
theorem plainL : ∀ (a b c d n o : Fin 5), o.val ≤ n.val →
    (1 + endN [a, b, c, d] n o 0 + endN [a, b, c, d] n o 1 + endN [a, b, c, d] n o 2 + endN [a, b, c, d] n o 3 = (goC ([a, b, c, d].take n) o).1 ∧
     1 + widN [a, b, c, d] o (kN (endN [a, b, c, d] n o 0) (endN [a, b, c, d] n o 1) (endN [a, b, c, d] n o 2) (endN [a, b, c, d] n o 3)) 0 + widN [a, b, c, d] o (kN (endN [a, b, c, d] n o 0) (endN [a, b, c, d] n o 1) (endN [a, b, c, d] n o 2) (endN [a, b, c, d] n o 3)) 1 + widN [a, b, c, d] o (kN (endN [a, b, c, d] n o 0) (endN [a, b, c, d] n o 1) (endN [a, b, c, d] n o 2) (endN [a, b, c, d] n o 3)) 2 + widN [a, b, c, d] o (kN (endN [a, b, c, d] n o 0) (endN [a, b, c, d] n o 1) (endN [a, b, c, d] n o 2) (endN [a, b, c, d] n o 3)) 3 = (goC ([a, b, c, d].take n) o).2) := by decide +kernel
theorem own_cg (cs : List Int32) (j : Nat) (h : j < cs.length) : (cs.map cl).getD j 4 = cl cs[j] := by simp [List.getD_eq_getElem?_getD, h]
theorem own_sub1 {i : Int32} {n : Nat} (h : i.toInt = n) (hn : 1 ≤ n) (hm : n ≤ 4000) : (i - 1).toInt = (n - 1 : Nat) := by
  rw [XT.sub32 (by rw [h, own_1]; constructor <;> omega), h, own_1]; omega
def dr (x : Int32) : Int32 := if x &&& 7 = 0 then 10 else if x &&& 7 = 1 then 13 else if x &&& 7 = 2 then ((55296 : Int32) + (XT.ushr x (3 : Int32) &&& 1023)).toUInt32.toUInt16.toUInt32.toInt32 else if x &&& 7 = 3 then ((56320 : Int32) + (XT.ushr x (3 : Int32) &&& 1023)).toUInt32.toUInt16.toUInt32.toInt32 else (XT.ushr x (3 : Int32) &&& 65535).toUInt32.toUInt16.toUInt32.toInt32
theorem dr_b (x : Int32) : 0 ≤ (dr x).toInt ∧ (dr x).toInt < 65536 := by
  unfold dr
  split
  · decide
  · split
    · decide
    · split
      · exact own_i2c _
      · split
        · exact own_i2c _
        · exact own_i2c _
def t4 (a b c d : Int32) : List Int32 := [dr a, dr b, dr c, dr d]
theorem own_andN (x : Int32) (k : Nat) (m : Int32) (hm : m.toBitVec.toNat = 2 ^ k - 1) : (x &&& m).toBitVec.toNat = x.toBitVec.toNat % 2 ^ k := by
  show (x.toBitVec &&& m.toBitVec).toNat = _
  rw [BitVec.toNat_and, hm]; exact Nat.and_two_pow_sub_one_eq_mod _ k
theorem own_n5 (x : Int32) : (x &&& 7) % 5 = 0 ∨ (x &&& 7) % 5 = 1 ∨ (x &&& 7) % 5 = 2 ∨ (x &&& 7) % 5 = 3 ∨ (x &&& 7) % 5 = 4 := by
  have e := own_andN x 3 7 (by decide)
  have key : ∀ k : Int32, (x &&& 7).toBitVec.toNat = k.toBitVec.toNat → x &&& 7 = k := fun k q => Int32.toBitVec_inj.mp (BitVec.eq_of_toNat_eq q)
  have h8 : x.toBitVec.toNat % 2 ^ 3 = 0 ∨ x.toBitVec.toNat % 2 ^ 3 = 1 ∨ x.toBitVec.toNat % 2 ^ 3 = 2 ∨ x.toBitVec.toNat % 2 ^ 3 = 3 ∨ x.toBitVec.toNat % 2 ^ 3 = 4 ∨ x.toBitVec.toNat % 2 ^ 3 = 5 ∨ x.toBitVec.toNat % 2 ^ 3 = 6 ∨ x.toBitVec.toNat % 2 ^ 3 = 7 := by omega
  rcases h8 with q | q | q | q | q | q | q | q
  · rw [key 0 (e.trans q)]; decide
  · rw [key 1 (e.trans q)]; decide
  · rw [key 2 (e.trans q)]; decide
  · rw [key 3 (e.trans q)]; decide
  · rw [key 4 (e.trans q)]; decide
  · rw [key 5 (e.trans q)]; decide
  · rw [key 6 (e.trans q)]; decide
  · rw [key 7 (e.trans q)]; decide
theorem own_off (x m : Int32) (n : Nat) (hm : m.toInt = (n + 1 : Nat)) : ∃ o : Nat, o ≤ n ∧ ((x &&& 65535) % m).toInt = o := by
  have e := own_andN x 16 65535 (by decide)
  have h1 : (x &&& 65535).toInt = (x.toBitVec.toNat % 2 ^ 16 : Nat) := by rw [own_toInt (by rw [e]; omega), e]
  refine ⟨x.toBitVec.toNat % 2 ^ 16 % (n + 1), Nat.lt_succ_iff.mp (Nat.mod_lt _ (Nat.succ_pos _)), ?_⟩
  rw [Int32.toInt_mod, h1, hm]
  exact (Int.ofNat_tmod _ _).symm
theorem d_method_2_code_0 : decode method_2_code 0 = .ok (.iload_n 0, 1) := by decide +kernel
theorem d_method_2_code_1 : decode method_2_code 1 = .ok (.bipush 7, 2) := by decide +kernel
theorem d_method_2_code_3 : decode method_2_code 3 = .ok (.iand, 1) := by decide +kernel
theorem d_method_2_code_4 : decode method_2_code 4 = .ok (.istore_n 1, 1) := by decide +kernel
theorem d_method_2_code_5 : decode method_2_code 5 = .ok (.iload_n 0, 1) := by decide +kernel
theorem d_method_2_code_6 : decode method_2_code 6 = .ok (.iconst 3, 1) := by decide +kernel
theorem d_method_2_code_7 : decode method_2_code 7 = .ok (.iushr, 1) := by decide +kernel
theorem d_method_2_code_8 : decode method_2_code 8 = .ok (.istore_n 2, 1) := by decide +kernel
theorem d_method_2_code_9 : decode method_2_code 9 = .ok (.iload_n 1, 1) := by decide +kernel
theorem d_method_2_code_10 : decode method_2_code 10 = .ok (.ifCond .ne 6, 3) := by decide +kernel
theorem d_method_2_code_16 : decode method_2_code 16 = .ok (.iload_n 1, 1) := by decide +kernel
theorem d_method_2_code_17 : decode method_2_code 17 = .ok (.iconst 1, 1) := by decide +kernel
theorem d_method_2_code_18 : decode method_2_code 18 = .ok (.if_icmp .ne 6, 3) := by decide +kernel
theorem d_method_2_code_24 : decode method_2_code 24 = .ok (.iload_n 1, 1) := by decide +kernel
theorem d_method_2_code_25 : decode method_2_code 25 = .ok (.iconst 2, 1) := by decide +kernel
theorem d_method_2_code_26 : decode method_2_code 26 = .ok (.if_icmp .ne 13, 3) := by decide +kernel
theorem d_method_2_code_39 : decode method_2_code 39 = .ok (.iload_n 1, 1) := by decide +kernel
theorem d_method_2_code_40 : decode method_2_code 40 = .ok (.iconst 3, 1) := by decide +kernel
theorem d_method_2_code_41 : decode method_2_code 41 = .ok (.if_icmp .ne 13, 3) := by decide +kernel
theorem d_method_2_code_54 : decode method_2_code 54 = .ok (.iload_n 2, 1) := by decide +kernel
theorem d_method_2_code_55 : decode method_2_code 55 = .ok (.ldc 9, 2) := by decide +kernel
theorem w0 {Z : State} {a0 : Array Value} (hw : Tb a0 Z) : (Jvm.Cond.constant "com/example/object_sieve/objectsieve/query/TextPositionOfPinLaw" (9 : Nat) (65535 : Int32)).before a0 Z = true := hw _ (List.mem_of_getElem? (i := 0) rfl)
theorem d_method_2_code_57 : decode method_2_code 57 = .ok (.iand, 1) := by decide +kernel
theorem d_method_2_code_58 : decode method_2_code 58 = .ok (.i2c, 1) := by decide +kernel
theorem d_method_2_code_59 : decode method_2_code 59 = .ok (.ireturn, 1) := by decide +kernel
theorem d_method_2_code_44 : decode method_2_code 44 = .ok (.ldc 8, 2) := by decide +kernel
theorem w6 {Z : State} {a0 : Array Value} (hw : Tb a0 Z) : (Jvm.Cond.constant "com/example/object_sieve/objectsieve/query/TextPositionOfPinLaw" (8 : Nat) (56320 : Int32)).before a0 Z = true := hw _ (List.mem_of_getElem? (i := 6) rfl)
theorem d_method_2_code_46 : decode method_2_code 46 = .ok (.iload_n 2, 1) := by decide +kernel
theorem d_method_2_code_47 : decode method_2_code 47 = .ok (.sipush 1023, 3) := by decide +kernel
theorem d_method_2_code_50 : decode method_2_code 50 = .ok (.iand, 1) := by decide +kernel
theorem d_method_2_code_51 : decode method_2_code 51 = .ok (.iadd, 1) := by decide +kernel
theorem d_method_2_code_52 : decode method_2_code 52 = .ok (.i2c, 1) := by decide +kernel
theorem d_method_2_code_53 : decode method_2_code 53 = .ok (.ireturn, 1) := by decide +kernel
theorem d_method_2_code_29 : decode method_2_code 29 = .ok (.ldc 7, 2) := by decide +kernel
theorem w7 {Z : State} {a0 : Array Value} (hw : Tb a0 Z) : (Jvm.Cond.constant "com/example/object_sieve/objectsieve/query/TextPositionOfPinLaw" (7 : Nat) (55296 : Int32)).before a0 Z = true := hw _ (List.mem_of_getElem? (i := 7) rfl)
theorem d_method_2_code_31 : decode method_2_code 31 = .ok (.iload_n 2, 1) := by decide +kernel
theorem d_method_2_code_32 : decode method_2_code 32 = .ok (.sipush 1023, 3) := by decide +kernel
theorem d_method_2_code_35 : decode method_2_code 35 = .ok (.iand, 1) := by decide +kernel
theorem d_method_2_code_36 : decode method_2_code 36 = .ok (.iadd, 1) := by decide +kernel
theorem d_method_2_code_37 : decode method_2_code 37 = .ok (.i2c, 1) := by decide +kernel
theorem d_method_2_code_38 : decode method_2_code 38 = .ok (.ireturn, 1) := by decide +kernel
theorem d_method_2_code_21 : decode method_2_code 21 = .ok (.bipush 13, 2) := by decide +kernel
theorem d_method_2_code_23 : decode method_2_code 23 = .ok (.ireturn, 1) := by decide +kernel
theorem d_method_2_code_13 : decode method_2_code 13 = .ok (.bipush 10, 2) := by decide +kernel
theorem d_method_2_code_15 : decode method_2_code 15 = .ok (.ireturn, 1) := by decide +kernel
theorem pl_com_example_object_sieve_objectsieve_query_TextPositionOfPinLaw : plainName "com/example/object_sieve/objectsieve/query/TextPositionOfPinLaw" = true := by first | (simp [plainName, overriddenIn]; done) | decide +kernel
set_option maxRecDepth 65536 in
set_option maxHeartbeats 40000000 in
theorem c_draw (l : Launch) (Z : State) (a0 : Array Value) (hw : Tb a0 Z) (hEW : EW Z a0 EL0) (n0 : Nat) (x : Int32) (h0 : Heap) (O : Old Z n0 h0)  :
    Ct l Z EL0 n0 (⟨"com/example/object_sieve/objectsieve/query/TextPositionOfPinLaw", "draw", "(I)C"⟩ : MethodName) method_2_code 3 (some .char) ({ frames := 0, cells := 0, slots := 0, locals := 0 } : Room) #[(.int x)] h0 [] (Pu (some (.int (dr x))) h0) := by
  refine Ct.of (a0 := a0) #[.val (.int x), .unset, .unset] hEW O (plainFor_of_name pl_com_example_object_sieve_objectsieve_query_TextPositionOfPinLaw) (fun m => by first | (simp [entryFrame, mkF, argsToLocals, Value.category]; done) | rfl) ?_
  intro p_ e_ s_ m_ below_ meth_ c_ b_ T_ K hSP
  have hx := dr_b x
  refine k_iloadN K d_method_2_code_0 (pc' := 1) rfl rfl ?_
  refine k_bipush K (7 : Int32) d_method_2_code_1 (pc' := 3) rfl rfl ?_
  refine k_iand K d_method_2_code_3 (pc' := 4) rfl ?_
  refine k_istoreN K d_method_2_code_4 (pc' := 5) (L' := #[.val (.int x), .val (.int (x &&& (7 : Int32))), .unset]) rfl rfl ?_
  refine k_iloadN K d_method_2_code_5 (pc' := 6) rfl rfl ?_
  refine k_iconst K (3 : Int32) d_method_2_code_6 (pc' := 7) rfl rfl ?_
  refine k_iushr K d_method_2_code_7 (pc' := 8) rfl ?_
  refine k_istoreN K d_method_2_code_8 (pc' := 9) (L' := #[.val (.int x), .val (.int (x &&& (7 : Int32))), .val (.int (XT.ushr x (3 : Int32)))]) rfl rfl ?_
  refine k_iloadN K d_method_2_code_9 (pc' := 10) rfl rfl ?_
  refine k_if_ne K d_method_2_code_10 (by decide) (pc' := 16) (pc2 := 13) (by decide) rfl (fun hc10 => ?_) (fun hc10 => ?_)
  · refine k_iloadN K d_method_2_code_16 (pc' := 17) rfl rfl ?_
    refine k_iconst K (1 : Int32) d_method_2_code_17 (pc' := 18) rfl rfl ?_
    refine k_icmp_ne K d_method_2_code_18 (by decide) (pc' := 24) (pc2 := 21) (by decide) rfl (fun hc18 => ?_) (fun hc18 => ?_)
    · refine k_iloadN K d_method_2_code_24 (pc' := 25) rfl rfl ?_
      refine k_iconst K (2 : Int32) d_method_2_code_25 (pc' := 26) rfl rfl ?_
      refine k_icmp_ne K d_method_2_code_26 (by decide) (pc' := 39) (pc2 := 29) (by decide) rfl (fun hc26 => ?_) (fun hc26 => ?_)
      · refine k_iloadN K d_method_2_code_39 (pc' := 40) rfl rfl ?_
        refine k_iconst K (3 : Int32) d_method_2_code_40 (pc' := 41) rfl rfl ?_
        refine k_icmp_ne K d_method_2_code_41 (by decide) (pc' := 54) (pc2 := 44) (by decide) rfl (fun hc41 => ?_) (fun hc41 => ?_)
        · refine k_iloadN K d_method_2_code_54 (pc' := 55) rfl rfl ?_
          refine k_ldcI K (w0 hw) d_method_2_code_55 (pc' := 57) rfl ?_
          refine k_iand K d_method_2_code_57 (pc' := 58) rfl ?_
          refine k_i2c K d_method_2_code_58 (pc' := 59) rfl ?_
          have e1 : (((XT.ushr x (3 : Int32)) &&& (65535 : Int32)).toUInt32.toUInt16.toUInt32.toInt32) = dr x := by rw [dr, if_neg hc10, if_neg hc18, if_neg hc26, if_neg hc41]
          rw [e1]
          exact k_nret K d_method_2_code_59 rfl (by simp) (own_narrowc hx.1 hx.2) (fun sf ht => ⟨rfl, rfl⟩) (by decide) (by decide)
        · refine k_ldcI K (w6 hw) d_method_2_code_44 (pc' := 46) rfl ?_
          refine k_iloadN K d_method_2_code_46 (pc' := 47) rfl rfl ?_
          refine k_sipush K (1023 : Int32) d_method_2_code_47 (pc' := 50) rfl rfl ?_
          refine k_iand K d_method_2_code_50 (pc' := 51) rfl ?_
          refine k_iadd K d_method_2_code_51 (pc' := 52) rfl ?_
          refine k_i2c K d_method_2_code_52 (pc' := 53) rfl ?_
          have e1 : (((56320 : Int32) + ((XT.ushr x (3 : Int32)) &&& (1023 : Int32))).toUInt32.toUInt16.toUInt32.toInt32) = dr x := by rw [dr, if_neg hc10, if_neg hc18, if_neg hc26, if_pos hc41]
          rw [e1]
          exact k_nret K d_method_2_code_53 rfl (by simp) (own_narrowc hx.1 hx.2) (fun sf ht => ⟨rfl, rfl⟩) (by decide) (by decide)
      · refine k_ldcI K (w7 hw) d_method_2_code_29 (pc' := 31) rfl ?_
        refine k_iloadN K d_method_2_code_31 (pc' := 32) rfl rfl ?_
        refine k_sipush K (1023 : Int32) d_method_2_code_32 (pc' := 35) rfl rfl ?_
        refine k_iand K d_method_2_code_35 (pc' := 36) rfl ?_
        refine k_iadd K d_method_2_code_36 (pc' := 37) rfl ?_
        refine k_i2c K d_method_2_code_37 (pc' := 38) rfl ?_
        have e1 : (((55296 : Int32) + ((XT.ushr x (3 : Int32)) &&& (1023 : Int32))).toUInt32.toUInt16.toUInt32.toInt32) = dr x := by rw [dr, if_neg hc10, if_neg hc18, if_pos hc26]
        rw [e1]
        exact k_nret K d_method_2_code_38 rfl (by simp) (own_narrowc hx.1 hx.2) (fun sf ht => ⟨rfl, rfl⟩) (by decide) (by decide)
    · refine k_bipush K (13 : Int32) d_method_2_code_21 (pc' := 23) rfl rfl ?_
      have e1 : (13 : Int32) = dr x := by rw [dr, if_neg hc10, if_pos hc18]
      rw [e1]
      exact k_nret K d_method_2_code_23 rfl (by simp) (own_narrowc hx.1 hx.2) (fun sf ht => ⟨rfl, rfl⟩) (by decide) (by decide)
  · refine k_bipush K (10 : Int32) d_method_2_code_13 (pc' := 15) rfl rfl ?_
    have e1 : (10 : Int32) = dr x := by rw [dr, if_pos hc10]
    rw [e1]
    exact k_nret K d_method_2_code_15 rfl (by simp) (own_narrowc hx.1 hx.2) (fun sf ht => ⟨rfl, rfl⟩) (by decide) (by decide)
theorem d_jdk_89_method_15_code_0 : decode jdk_89_method_15_code 0 = .ok (.iload_n 0, 1) := by decide +kernel
theorem d_jdk_89_method_15_code_1 : decode jdk_89_method_15_code 1 = .ok (.ldc 76, 2) := by decide +kernel
theorem w137 {Z : State} {a0 : Array Value} (hw : Tb a0 Z) : (Jvm.Cond.constant "java/lang/Character" (76 : Nat) (56320 : Int32)).before a0 Z = true := hw _ (List.mem_of_getElem? (i := 137) rfl)
theorem d_jdk_89_method_15_code_3 : decode jdk_89_method_15_code 3 = .ok (.if_icmp .lt 13, 3) := by decide +kernel
theorem d_jdk_89_method_15_code_16 : decode jdk_89_method_15_code 16 = .ok (.iconst 0, 1) := by decide +kernel
theorem d_jdk_89_method_15_code_17 : decode jdk_89_method_15_code 17 = .ok (.ireturn, 1) := by decide +kernel
theorem d_jdk_89_method_15_code_6 : decode jdk_89_method_15_code 6 = .ok (.iload_n 0, 1) := by decide +kernel
theorem d_jdk_89_method_15_code_7 : decode jdk_89_method_15_code 7 = .ok (.ldc 77, 2) := by decide +kernel
theorem w156 {Z : State} {a0 : Array Value} (hw : Tb a0 Z) : (Jvm.Cond.constant "java/lang/Character" (77 : Nat) (57344 : Int32)).before a0 Z = true := hw _ (List.mem_of_getElem? (i := 156) rfl)
theorem d_jdk_89_method_15_code_9 : decode jdk_89_method_15_code 9 = .ok (.if_icmp .ge 7, 3) := by decide +kernel
theorem d_jdk_89_method_15_code_12 : decode jdk_89_method_15_code 12 = .ok (.iconst 1, 1) := by decide +kernel
theorem d_jdk_89_method_15_code_13 : decode jdk_89_method_15_code 13 = .ok (.goto 4, 3) := by decide +kernel
theorem pl_java_lang_Character : plainName "java/lang/Character" = true := by first | (simp [plainName, overriddenIn]; done) | decide +kernel
set_option maxRecDepth 65536 in
set_option maxHeartbeats 40000000 in
theorem c_jlow (l : Launch) (Z : State) (a0 : Array Value) (hw : Tb a0 Z) (hEW : EW Z a0 EL0) (n0 : Nat) (c : Int32) (h0 : Heap) (O : Old Z n0 h0)  :
    Ct l Z EL0 n0 (⟨"java/lang/Character", "isLowSurrogate", "(C)Z"⟩ : MethodName) jdk_89_method_15_code 1 (some .boolean) ({ frames := 0, cells := 0, slots := 0, locals := 0 } : Room) #[(.int c)] h0 [] (Pu (some (.int (if cl c = 3 then 1 else 0))) h0) := by
  refine Ct.of (a0 := a0) #[.val (.int c)] hEW O (plainFor_of_name pl_java_lang_Character) (fun m => by first | (simp [entryFrame, mkF, argsToLocals, Value.category]; done) | rfl) ?_
  intro p_ e_ s_ m_ below_ meth_ c_ b_ T_ K hSP
  refine k_iloadN K d_jdk_89_method_15_code_0 (pc' := 1) rfl rfl ?_
  refine k_ldcI K (w137 hw) d_jdk_89_method_15_code_1 (pc' := 3) rfl ?_
  refine k_icmp_lt K d_jdk_89_method_15_code_3 (by decide) (pc' := 16) (pc2 := 6) (by decide) rfl (fun hc3 => ?_) (fun hc3 => ?_)
  · refine k_iconst K (0 : Int32) d_jdk_89_method_15_code_16 (pc' := 17) rfl rfl ?_
    exact k_nret K d_jdk_89_method_15_code_17 rfl (by simp) rfl (fun sf ht => ⟨by rw [if_neg fun q => ((cl_lo c).mp q).1 hc3], rfl⟩) (by decide) (by decide)
  · refine k_iloadN K d_jdk_89_method_15_code_6 (pc' := 7) rfl rfl ?_
    refine k_ldcI K (w156 hw) d_jdk_89_method_15_code_7 (pc' := 9) rfl ?_
    refine k_icmp_ge K d_jdk_89_method_15_code_9 (by decide) (pc' := 16) (pc2 := 12) (by decide) rfl (fun hc9 => ?_) (fun hc9 => ?_)
    · refine k_iconst K (0 : Int32) d_jdk_89_method_15_code_16 (pc' := 17) rfl rfl ?_
      exact k_nret K d_jdk_89_method_15_code_17 rfl (by simp) rfl (fun sf ht => ⟨by rw [if_neg fun q => hc9 ((cl_lo c).mp q).2], rfl⟩) (by decide) (by decide)
    · refine k_iconst K (1 : Int32) d_jdk_89_method_15_code_12 (pc' := 13) rfl rfl ?_
      refine k_goto K d_jdk_89_method_15_code_13 (by decide) (pc' := 17) (by decide) ?_
      exact k_nret K d_jdk_89_method_15_code_17 rfl (by simp) rfl (fun sf ht => ⟨by rw [if_pos ((cl_lo c).mpr ⟨hc3, hc9⟩)], rfl⟩) (by decide) (by decide)
theorem d_jdk_89_method_14_code_0 : decode jdk_89_method_14_code 0 = .ok (.iload_n 0, 1) := by decide +kernel
theorem d_jdk_89_method_14_code_1 : decode jdk_89_method_14_code 1 = .ok (.ldc 75, 2) := by decide +kernel
theorem w160 {Z : State} {a0 : Array Value} (hw : Tb a0 Z) : (Jvm.Cond.constant "java/lang/Character" (75 : Nat) (55296 : Int32)).before a0 Z = true := hw _ (List.mem_of_getElem? (i := 160) rfl)
theorem d_jdk_89_method_14_code_3 : decode jdk_89_method_14_code 3 = .ok (.if_icmp .lt 13, 3) := by decide +kernel
theorem d_jdk_89_method_14_code_16 : decode jdk_89_method_14_code 16 = .ok (.iconst 0, 1) := by decide +kernel
theorem d_jdk_89_method_14_code_17 : decode jdk_89_method_14_code 17 = .ok (.ireturn, 1) := by decide +kernel
theorem d_jdk_89_method_14_code_6 : decode jdk_89_method_14_code 6 = .ok (.iload_n 0, 1) := by decide +kernel
theorem d_jdk_89_method_14_code_7 : decode jdk_89_method_14_code 7 = .ok (.ldc 76, 2) := by decide +kernel
theorem d_jdk_89_method_14_code_9 : decode jdk_89_method_14_code 9 = .ok (.if_icmp .ge 7, 3) := by decide +kernel
theorem d_jdk_89_method_14_code_12 : decode jdk_89_method_14_code 12 = .ok (.iconst 1, 1) := by decide +kernel
theorem d_jdk_89_method_14_code_13 : decode jdk_89_method_14_code 13 = .ok (.goto 4, 3) := by decide +kernel
set_option maxRecDepth 65536 in
set_option maxHeartbeats 40000000 in
theorem c_jhigh (l : Launch) (Z : State) (a0 : Array Value) (hw : Tb a0 Z) (hEW : EW Z a0 EL0) (n0 : Nat) (c : Int32) (h0 : Heap) (O : Old Z n0 h0)  :
    Ct l Z EL0 n0 (⟨"java/lang/Character", "isHighSurrogate", "(C)Z"⟩ : MethodName) jdk_89_method_14_code 1 (some .boolean) ({ frames := 0, cells := 0, slots := 0, locals := 0 } : Room) #[(.int c)] h0 [] (Pu (some (.int (if cl c = 2 then 1 else 0))) h0) := by
  refine Ct.of (a0 := a0) #[.val (.int c)] hEW O (plainFor_of_name pl_java_lang_Character) (fun m => by first | (simp [entryFrame, mkF, argsToLocals, Value.category]; done) | rfl) ?_
  intro p_ e_ s_ m_ below_ meth_ c_ b_ T_ K hSP
  refine k_iloadN K d_jdk_89_method_14_code_0 (pc' := 1) rfl rfl ?_
  refine k_ldcI K (w160 hw) d_jdk_89_method_14_code_1 (pc' := 3) rfl ?_
  refine k_icmp_lt K d_jdk_89_method_14_code_3 (by decide) (pc' := 16) (pc2 := 6) (by decide) rfl (fun hc3 => ?_) (fun hc3 => ?_)
  · refine k_iconst K (0 : Int32) d_jdk_89_method_14_code_16 (pc' := 17) rfl rfl ?_
    exact k_nret K d_jdk_89_method_14_code_17 rfl (by simp) rfl (fun sf ht => ⟨by rw [if_neg fun q => ((cl_hi c).mp q).1 hc3], rfl⟩) (by decide) (by decide)
  · refine k_iloadN K d_jdk_89_method_14_code_6 (pc' := 7) rfl rfl ?_
    refine k_ldcI K (w137 hw) d_jdk_89_method_14_code_7 (pc' := 9) rfl ?_
    refine k_icmp_ge K d_jdk_89_method_14_code_9 (by decide) (pc' := 16) (pc2 := 12) (by decide) rfl (fun hc9 => ?_) (fun hc9 => ?_)
    · refine k_iconst K (0 : Int32) d_jdk_89_method_14_code_16 (pc' := 17) rfl rfl ?_
      exact k_nret K d_jdk_89_method_14_code_17 rfl (by simp) rfl (fun sf ht => ⟨by rw [if_neg fun q => hc9 ((cl_hi c).mp q).2], rfl⟩) (by decide) (by decide)
    · refine k_iconst K (1 : Int32) d_jdk_89_method_14_code_12 (pc' := 13) rfl rfl ?_
      refine k_goto K d_jdk_89_method_14_code_13 (by decide) (pc' := 17) (by decide) ?_
      exact k_nret K d_jdk_89_method_14_code_17 rfl (by simp) rfl (fun sf ht => ⟨by rw [if_pos ((cl_hi c).mpr ⟨hc3, hc9⟩)], rfl⟩) (by decide) (by decide)
theorem d_method_4_code_0 : decode method_4_code 0 = .ok (.iload_n 0, 1) := by decide +kernel
theorem d_method_4_code_1 : decode method_4_code 1 = .ok (.ldc 8, 2) := by decide +kernel
theorem d_method_4_code_3 : decode method_4_code 3 = .ok (.if_icmp .lt 13, 3) := by decide +kernel
theorem d_method_4_code_16 : decode method_4_code 16 = .ok (.iconst 0, 1) := by decide +kernel
theorem d_method_4_code_17 : decode method_4_code 17 = .ok (.ireturn, 1) := by decide +kernel
theorem d_method_4_code_6 : decode method_4_code 6 = .ok (.iload_n 0, 1) := by decide +kernel
theorem d_method_4_code_7 : decode method_4_code 7 = .ok (.ldc 11, 2) := by decide +kernel
theorem w141 {Z : State} {a0 : Array Value} (hw : Tb a0 Z) : (Jvm.Cond.constant "com/example/object_sieve/objectsieve/query/TextPositionOfPinLaw" (11 : Nat) (57343 : Int32)).before a0 Z = true := hw _ (List.mem_of_getElem? (i := 141) rfl)
theorem d_method_4_code_9 : decode method_4_code 9 = .ok (.if_icmp .gt 7, 3) := by decide +kernel
theorem d_method_4_code_12 : decode method_4_code 12 = .ok (.iconst 1, 1) := by decide +kernel
theorem d_method_4_code_13 : decode method_4_code 13 = .ok (.goto 4, 3) := by decide +kernel
set_option maxRecDepth 65536 in
set_option maxHeartbeats 40000000 in
theorem c_llow (l : Launch) (Z : State) (a0 : Array Value) (hw : Tb a0 Z) (hEW : EW Z a0 EL0) (n0 : Nat) (c : Int32) (h0 : Heap) (O : Old Z n0 h0)  :
    Ct l Z EL0 n0 (⟨"com/example/object_sieve/objectsieve/query/TextPositionOfPinLaw", "isLow", "(C)Z"⟩ : MethodName) method_4_code 1 (some .boolean) ({ frames := 0, cells := 0, slots := 0, locals := 0 } : Room) #[(.int c)] h0 [] (Pu (some (.int (if cl c = 3 then 1 else 0))) h0) := by
  refine Ct.of (a0 := a0) #[.val (.int c)] hEW O (plainFor_of_name pl_com_example_object_sieve_objectsieve_query_TextPositionOfPinLaw) (fun m => by first | (simp [entryFrame, mkF, argsToLocals, Value.category]; done) | rfl) ?_
  intro p_ e_ s_ m_ below_ meth_ c_ b_ T_ K hSP
  refine k_iloadN K d_method_4_code_0 (pc' := 1) rfl rfl ?_
  refine k_ldcI K (w6 hw) d_method_4_code_1 (pc' := 3) rfl ?_
  refine k_icmp_lt K d_method_4_code_3 (by decide) (pc' := 16) (pc2 := 6) (by decide) rfl (fun hc3 => ?_) (fun hc3 => ?_)
  · refine k_iconst K (0 : Int32) d_method_4_code_16 (pc' := 17) rfl rfl ?_
    exact k_nret K d_method_4_code_17 rfl (by simp) rfl (fun sf ht => ⟨by rw [if_neg fun q => ((cl_lo c).mp q).1 hc3], rfl⟩) (by decide) (by decide)
  · refine k_iloadN K d_method_4_code_6 (pc' := 7) rfl rfl ?_
    refine k_ldcI K (w141 hw) d_method_4_code_7 (pc' := 9) rfl ?_
    refine k_icmp_gt K d_method_4_code_9 (by decide) (pc' := 16) (pc2 := 12) (by decide) rfl (fun hc9 => ?_) (fun hc9 => ?_)
    · refine k_iconst K (0 : Int32) d_method_4_code_16 (pc' := 17) rfl rfl ?_
      exact k_nret K d_method_4_code_17 rfl (by simp) rfl (fun sf ht => ⟨by rw [if_neg fun q => own_57343.mpr ((cl_lo c).mp q).2 hc9], rfl⟩) (by decide) (by decide)
    · refine k_iconst K (1 : Int32) d_method_4_code_12 (pc' := 13) rfl rfl ?_
      refine k_goto K d_method_4_code_13 (by decide) (pc' := 17) (by decide) ?_
      exact k_nret K d_method_4_code_17 rfl (by simp) rfl (fun sf ht => ⟨by rw [if_pos ((cl_lo c).mpr ⟨hc3, own_57343.mp hc9⟩)], rfl⟩) (by decide) (by decide)
theorem d_method_3_code_0 : decode method_3_code 0 = .ok (.iload_n 0, 1) := by decide +kernel
theorem d_method_3_code_1 : decode method_3_code 1 = .ok (.ldc 7, 2) := by decide +kernel
theorem d_method_3_code_3 : decode method_3_code 3 = .ok (.if_icmp .lt 13, 3) := by decide +kernel
theorem d_method_3_code_16 : decode method_3_code 16 = .ok (.iconst 0, 1) := by decide +kernel
theorem d_method_3_code_17 : decode method_3_code 17 = .ok (.ireturn, 1) := by decide +kernel
theorem d_method_3_code_6 : decode method_3_code 6 = .ok (.iload_n 0, 1) := by decide +kernel
theorem d_method_3_code_7 : decode method_3_code 7 = .ok (.ldc 10, 2) := by decide +kernel
theorem w145 {Z : State} {a0 : Array Value} (hw : Tb a0 Z) : (Jvm.Cond.constant "com/example/object_sieve/objectsieve/query/TextPositionOfPinLaw" (10 : Nat) (56319 : Int32)).before a0 Z = true := hw _ (List.mem_of_getElem? (i := 145) rfl)
theorem d_method_3_code_9 : decode method_3_code 9 = .ok (.if_icmp .gt 7, 3) := by decide +kernel
theorem d_method_3_code_12 : decode method_3_code 12 = .ok (.iconst 1, 1) := by decide +kernel
theorem d_method_3_code_13 : decode method_3_code 13 = .ok (.goto 4, 3) := by decide +kernel
set_option maxRecDepth 65536 in
set_option maxHeartbeats 40000000 in
theorem c_lhigh (l : Launch) (Z : State) (a0 : Array Value) (hw : Tb a0 Z) (hEW : EW Z a0 EL0) (n0 : Nat) (c : Int32) (h0 : Heap) (O : Old Z n0 h0)  :
    Ct l Z EL0 n0 (⟨"com/example/object_sieve/objectsieve/query/TextPositionOfPinLaw", "isHigh", "(C)Z"⟩ : MethodName) method_3_code 1 (some .boolean) ({ frames := 0, cells := 0, slots := 0, locals := 0 } : Room) #[(.int c)] h0 [] (Pu (some (.int (if cl c = 2 then 1 else 0))) h0) := by
  refine Ct.of (a0 := a0) #[.val (.int c)] hEW O (plainFor_of_name pl_com_example_object_sieve_objectsieve_query_TextPositionOfPinLaw) (fun m => by first | (simp [entryFrame, mkF, argsToLocals, Value.category]; done) | rfl) ?_
  intro p_ e_ s_ m_ below_ meth_ c_ b_ T_ K hSP
  refine k_iloadN K d_method_3_code_0 (pc' := 1) rfl rfl ?_
  refine k_ldcI K (w7 hw) d_method_3_code_1 (pc' := 3) rfl ?_
  refine k_icmp_lt K d_method_3_code_3 (by decide) (pc' := 16) (pc2 := 6) (by decide) rfl (fun hc3 => ?_) (fun hc3 => ?_)
  · refine k_iconst K (0 : Int32) d_method_3_code_16 (pc' := 17) rfl rfl ?_
    exact k_nret K d_method_3_code_17 rfl (by simp) rfl (fun sf ht => ⟨by rw [if_neg fun q => ((cl_hi c).mp q).1 hc3], rfl⟩) (by decide) (by decide)
  · refine k_iloadN K d_method_3_code_6 (pc' := 7) rfl rfl ?_
    refine k_ldcI K (w145 hw) d_method_3_code_7 (pc' := 9) rfl ?_
    refine k_icmp_gt K d_method_3_code_9 (by decide) (pc' := 16) (pc2 := 12) (by decide) rfl (fun hc9 => ?_) (fun hc9 => ?_)
    · refine k_iconst K (0 : Int32) d_method_3_code_16 (pc' := 17) rfl rfl ?_
      exact k_nret K d_method_3_code_17 rfl (by simp) rfl (fun sf ht => ⟨by rw [if_neg fun q => own_56319.mpr ((cl_hi c).mp q).2 hc9], rfl⟩) (by decide) (by decide)
    · refine k_iconst K (1 : Int32) d_method_3_code_12 (pc' := 13) rfl rfl ?_
      refine k_goto K d_method_3_code_13 (by decide) (pc' := 17) (by decide) ?_
      exact k_nret K d_method_3_code_17 rfl (by simp) rfl (fun sf ht => ⟨by rw [if_pos ((cl_hi c).mpr ⟨hc3, own_56319.mp hc9⟩)], rfl⟩) (by decide) (by decide)
theorem d_method_5_code_0 : decode method_5_code 0 = .ok (.iload_n 3, 1) := by decide +kernel
theorem d_method_5_code_1 : decode method_5_code 1 = .ok (.iload_n 2, 1) := by decide +kernel
theorem d_method_5_code_2 : decode method_5_code 2 = .ok (.if_icmp .lt 5, 3) := by decide +kernel
theorem d_method_5_code_7 : decode method_5_code 7 = .ok (.aload_n 0, 1) := by decide +kernel
theorem d_method_5_code_8 : decode method_5_code 8 = .ok (.iload_n 3, 1) := by decide +kernel
theorem d_method_5_code_9 : decode method_5_code 9 = .ok (.caload, 1) := by decide +kernel
theorem d_method_5_code_10 : decode method_5_code 10 = .ok (.istore 4, 2) := by decide +kernel
theorem d_method_5_code_12 : decode method_5_code 12 = .ok (.iload 4, 2) := by decide +kernel
theorem d_method_5_code_14 : decode method_5_code 14 = .ok (.bipush 10, 2) := by decide +kernel
theorem d_method_5_code_16 : decode method_5_code 16 = .ok (.if_icmp .ne 5, 3) := by decide +kernel
theorem d_method_5_code_21 : decode method_5_code 21 = .ok (.iload 4, 2) := by decide +kernel
theorem d_method_5_code_23 : decode method_5_code 23 = .ok (.bipush 13, 2) := by decide +kernel
theorem d_method_5_code_25 : decode method_5_code 25 = .ok (.if_icmp .ne 24, 3) := by decide +kernel
theorem d_method_5_code_49 : decode method_5_code 49 = .ok (.iconst 0, 1) := by decide +kernel
theorem d_method_5_code_50 : decode method_5_code 50 = .ok (.ireturn, 1) := by decide +kernel
theorem d_method_5_code_28 : decode method_5_code 28 = .ok (.iload_n 3, 1) := by decide +kernel
theorem d_method_5_code_29 : decode method_5_code 29 = .ok (.iconst 1, 1) := by decide +kernel
theorem d_method_5_code_30 : decode method_5_code 30 = .ok (.iadd, 1) := by decide +kernel
theorem d_method_5_code_31 : decode method_5_code 31 = .ok (.iload_n 1, 1) := by decide +kernel
theorem d_method_5_code_32 : decode method_5_code 32 = .ok (.if_icmp .ge 15, 3) := by decide +kernel
theorem d_method_5_code_47 : decode method_5_code 47 = .ok (.iconst 1, 1) := by decide +kernel
theorem d_method_5_code_48 : decode method_5_code 48 = .ok (.ireturn, 1) := by decide +kernel
theorem d_method_5_code_35 : decode method_5_code 35 = .ok (.aload_n 0, 1) := by decide +kernel
theorem d_method_5_code_36 : decode method_5_code 36 = .ok (.iload_n 3, 1) := by decide +kernel
theorem d_method_5_code_37 : decode method_5_code 37 = .ok (.iconst 1, 1) := by decide +kernel
theorem d_method_5_code_38 : decode method_5_code 38 = .ok (.iadd, 1) := by decide +kernel
theorem d_method_5_code_39 : decode method_5_code 39 = .ok (.caload, 1) := by decide +kernel
theorem d_method_5_code_40 : decode method_5_code 40 = .ok (.bipush 10, 2) := by decide +kernel
theorem d_method_5_code_42 : decode method_5_code 42 = .ok (.if_icmp .ne 5, 3) := by decide +kernel
theorem d_method_5_code_45 : decode method_5_code 45 = .ok (.iconst 0, 1) := by decide +kernel
theorem d_method_5_code_46 : decode method_5_code 46 = .ok (.ireturn, 1) := by decide +kernel
theorem d_method_5_code_19 : decode method_5_code 19 = .ok (.iconst 1, 1) := by decide +kernel
theorem d_method_5_code_20 : decode method_5_code 20 = .ok (.ireturn, 1) := by decide +kernel
theorem d_method_5_code_5 : decode method_5_code 5 = .ok (.iconst 0, 1) := by decide +kernel
theorem d_method_5_code_6 : decode method_5_code 6 = .ok (.ireturn, 1) := by decide +kernel
set_option maxRecDepth 65536 in
set_option maxHeartbeats 40000000 in
theorem c_ends (l : Launch) (Z : State) (a0 : Array Value) (hw : Tb a0 Z) (hEW : EW Z a0 EL0) (n0 : Nat) (va : Addr) (kv : ClassId) (n off i : Int32) (nn oo j : Nat) (ts : List Int32) (h0 : Heap) (O : Old Z n0 h0) (V_t : Arv Z h0 va kv .char 4 (ts.map Value.int) (.int 0)) (hts : ts.length = 4) (hj : i.toInt = j) (hj4 : j < 4) (hn : n.toInt = nn) (hn4 : nn ≤ 4) (ho : off.toInt = oo) :
    Ct l Z EL0 n0 (⟨"com/example/object_sieve/objectsieve/query/TextPositionOfPinLaw", "endsBefore", "([CIII)I"⟩ : MethodName) method_5_code 5 (some .int) ({ frames := 0, cells := 0, slots := 0, locals := 0 } : Room) #[(.ref va), (.int n), (.int off), (.int i)] h0 [] (Pu (some (.int (Int32.ofNat (endN (ts.map cl) nn oo j)))) h0) := by
  refine Ct.of (a0 := a0) #[.val (.ref va), .val (.int n), .val (.int off), .val (.int i), .unset] hEW O (plainFor_of_name pl_com_example_object_sieve_objectsieve_query_TextPositionOfPinLaw) (fun m => by first | (simp [entryFrame, mkF, argsToLocals, Value.category]; done) | rfl) ?_
  intro p_ e_ s_ m_ below_ meth_ c_ b_ T_ K hSP
  refine k_iloadN K d_method_5_code_0 (pc' := 1) rfl rfl ?_
  refine k_iloadN K d_method_5_code_1 (pc' := 2) rfl rfl ?_
  refine k_icmp_lt K d_method_5_code_2 (by decide) (pc' := 7) (pc2 := 5) (by decide) rfl (fun hc2 => ?_) (fun hc2 => ?_)
  · have hjo : j < oo := by rw [own_i32, hj, ho] at hc2; omega
    have hjl : j < ts.length := by omega
    have g1 := List.getElem?_eq_getElem hjl
    refine k_aloadN K d_method_5_code_7 (pc' := 8) rfl rfl rfl ?_
    refine k_iloadN K d_method_5_code_8 (pc' := 9) rfl rfl ?_
    refine k_caload K (j := i) V_t (own_in hj (show (4 : Int32).toInt = (4 : Nat) by decide) hj4) (by rw [own_clamp hj]; exact own_getD ts j hjl) d_method_5_code_9 (pc' := 10) rfl ?_
    refine k_istore K d_method_5_code_10 (pc' := 12) (L' := #[.val (.ref va), .val (.int n), .val (.int off), .val (.int i), .val (.int ts[j])]) rfl rfl ?_
    refine k_iload K d_method_5_code_12 (pc' := 14) rfl rfl ?_
    refine k_bipush K (10 : Int32) d_method_5_code_14 (pc' := 16) rfl rfl ?_
    refine k_icmp_ne K d_method_5_code_16 (by decide) (pc' := 21) (pc2 := 19) (by decide) rfl (fun hc16 => ?_) (fun hc16 => ?_)
    · have k10 : ¬ cl ts[j] = 0 := fun q => hc16 ((cl_lf _).mp q)
      refine k_iload K d_method_5_code_21 (pc' := 23) rfl rfl ?_
      refine k_bipush K (13 : Int32) d_method_5_code_23 (pc' := 25) rfl rfl ?_
      refine k_icmp_ne K d_method_5_code_25 (by decide) (pc' := 49) (pc2 := 28) (by decide) rfl (fun hc25 => ?_) (fun hc25 => ?_)
      · refine k_iconst K (0 : Int32) d_method_5_code_49 (pc' := 50) rfl rfl ?_
        have k13 : ¬ cl ts[j] = 1 := fun q => hc25 ((cl_cr _).mp q)
        exact k_iret K d_method_5_code_50 rfl (fun sf ht => ⟨by rw [show endN (ts.map cl) nn oo j = 0 from by simp [endN, endC, g1, k10, k13]]; rfl, rfl⟩) (by decide) (by decide)
      · have k13 : cl ts[j] = 1 := (cl_cr _).mpr hc25
        have hj1 := own_add1 hj (by omega)
        refine k_iloadN K d_method_5_code_28 (pc' := 29) rfl rfl ?_
        refine k_iconst K (1 : Int32) d_method_5_code_29 (pc' := 30) rfl rfl ?_
        refine k_iadd K d_method_5_code_30 (pc' := 31) rfl ?_
        refine k_iloadN K d_method_5_code_31 (pc' := 32) rfl rfl ?_
        refine k_icmp_ge K d_method_5_code_32 (by decide) (pc' := 47) (pc2 := 35) (by decide) rfl (fun hc32 => ?_) (fun hc32 => ?_)
        · refine k_iconst K (1 : Int32) d_method_5_code_47 (pc' := 48) rfl rfl ?_
          have hb1 : ¬ j + 1 < nn := by rw [own_i32, hj1, hn] at hc32; omega
          exact k_iret K d_method_5_code_48 rfl (fun sf ht => ⟨by rw [show endN (ts.map cl) nn oo j = 1 from by simp [endN, endC, crC, g1, k13, hjo, hb1]]; rfl, rfl⟩) (by decide) (by decide)
        · have hb1 : j + 1 < nn := by rw [own_i32, hj1, hn] at hc32; omega
          have hjl1 : j + 1 < ts.length := by omega
          have g2 := List.getElem?_eq_getElem hjl1
          refine k_aloadN K d_method_5_code_35 (pc' := 36) rfl rfl rfl ?_
          refine k_iloadN K d_method_5_code_36 (pc' := 37) rfl rfl ?_
          refine k_iconst K (1 : Int32) d_method_5_code_37 (pc' := 38) rfl rfl ?_
          refine k_iadd K d_method_5_code_38 (pc' := 39) rfl ?_
          refine k_caload K (j := (i + (1 : Int32))) V_t (own_in hj1 (show (4 : Int32).toInt = (4 : Nat) by decide) (by omega)) (by rw [own_clamp hj1]; exact own_getD ts (j + 1) hjl1) d_method_5_code_39 (pc' := 40) rfl ?_
          refine k_bipush K (10 : Int32) d_method_5_code_40 (pc' := 42) rfl rfl ?_
          refine k_icmp_ne K d_method_5_code_42 (by decide) (pc' := 47) (pc2 := 45) (by decide) rfl (fun hc42 => ?_) (fun hc42 => ?_)
          · refine k_iconst K (1 : Int32) d_method_5_code_47 (pc' := 48) rfl rfl ?_
            have k2 : ¬ cl ts[j + 1] = 0 := fun q => hc42 ((cl_lf _).mp q)
            exact k_iret K d_method_5_code_48 rfl (fun sf ht => ⟨by rw [show endN (ts.map cl) nn oo j = 1 from by simp [endN, endC, crC, g1, g2, k13, hjo, hb1, k2]]; rfl, rfl⟩) (by decide) (by decide)
          · refine k_iconst K (0 : Int32) d_method_5_code_45 (pc' := 46) rfl rfl ?_
            have k2 : cl ts[j + 1] = 0 := (cl_lf _).mpr hc42
            exact k_iret K d_method_5_code_46 rfl (fun sf ht => ⟨by rw [show endN (ts.map cl) nn oo j = 0 from by simp [endN, endC, crC, g1, g2, k13, hb1, k2]]; rfl, rfl⟩) (by decide) (by decide)
    · refine k_iconst K (1 : Int32) d_method_5_code_19 (pc' := 20) rfl rfl ?_
      have k10 : cl ts[j] = 0 := (cl_lf _).mpr hc16
      exact k_iret K d_method_5_code_20 rfl (fun sf ht => ⟨by rw [show endN (ts.map cl) nn oo j = 1 from by simp [endN, endC, crC, g1, k10, hjo]]; rfl, rfl⟩) (by decide) (by decide)
  · refine k_iconst K (0 : Int32) d_method_5_code_5 (pc' := 6) rfl rfl ?_
    have hjo : ¬ j < oo := by rw [own_i32, hj, ho] at hc2; omega
    exact k_iret K d_method_5_code_6 rfl (fun sf ht => ⟨by rw [show endN (ts.map cl) nn oo j = 0 from by simp [endN, hjo]]; rfl, rfl⟩) (by decide) (by decide)
theorem d_method_6_code_0 : decode method_6_code 0 = .ok (.iload_n 3, 1) := by decide +kernel
theorem d_method_6_code_1 : decode method_6_code 1 = .ok (.iload_n 1, 1) := by decide +kernel
theorem d_method_6_code_2 : decode method_6_code 2 = .ok (.if_icmp .ge 8, 3) := by decide +kernel
theorem d_method_6_code_10 : decode method_6_code 10 = .ok (.iconst 0, 1) := by decide +kernel
theorem d_method_6_code_11 : decode method_6_code 11 = .ok (.ireturn, 1) := by decide +kernel
theorem d_method_6_code_5 : decode method_6_code 5 = .ok (.iload_n 3, 1) := by decide +kernel
theorem d_method_6_code_6 : decode method_6_code 6 = .ok (.iload_n 2, 1) := by decide +kernel
theorem d_method_6_code_7 : decode method_6_code 7 = .ok (.if_icmp .gt 5, 3) := by decide +kernel
theorem d_method_6_code_12 : decode method_6_code 12 = .ok (.iload_n 3, 1) := by decide +kernel
theorem d_method_6_code_13 : decode method_6_code 13 = .ok (.ifCond .le 25, 3) := by decide +kernel
theorem d_method_6_code_38 : decode method_6_code 38 = .ok (.iconst 1, 1) := by decide +kernel
theorem d_method_6_code_39 : decode method_6_code 39 = .ok (.ireturn, 1) := by decide +kernel
theorem d_method_6_code_16 : decode method_6_code 16 = .ok (.aload_n 0, 1) := by decide +kernel
theorem d_method_6_code_17 : decode method_6_code 17 = .ok (.iload_n 3, 1) := by decide +kernel
theorem d_method_6_code_18 : decode method_6_code 18 = .ok (.caload, 1) := by decide +kernel
theorem d_method_6_code_19 : decode method_6_code 19 = .ok (.invokestatic 12, 3) := by decide +kernel
theorem w138 {Z : State} {a0 : Array Value} (hw : Tb a0 Z) : (Jvm.Cond.methodLink "com/example/object_sieve/objectsieve/query/TextPositionOfPinLaw" (12 : Nat) ({ cls := "com/example/object_sieve/objectsieve/query/TextPositionOfPinLaw", name := "isLow", desc := "(C)Z" } : Jvm.MethodName)).before a0 Z = true := hw _ (List.mem_of_getElem? (i := 138) rfl)
theorem w4 {Z : State} {a0 : Array Value} (hw : Tb a0 Z) : (Jvm.Cond.initialized "com/example/object_sieve/objectsieve/query/TextPositionOfPinLaw").before a0 Z = true := hw _ (List.mem_of_getElem? (i := 4) rfl)
theorem w140 {Z : State} {a0 : Array Value} (hw : Tb a0 Z) : (Jvm.Cond.code ({ cls := "com/example/object_sieve/objectsieve/query/TextPositionOfPinLaw", name := "isLow", desc := "(C)Z" } : Jvm.MethodName) method_4_code (1 : Nat) (Option.some Jvm.ClassFile.FieldType.boolean)).before a0 Z = true := hw _ (List.mem_of_getElem? (i := 140) rfl)
theorem w139 {Z : State} {a0 : Array Value} (hw : Tb a0 Z) : (Jvm.Cond.static ({ cls := "com/example/object_sieve/objectsieve/query/TextPositionOfPinLaw", name := "isLow", desc := "(C)Z" } : Jvm.MethodName)).before a0 Z = true := hw _ (List.mem_of_getElem? (i := 139) rfl)
theorem pd__C_Z_657 : parseMethodDescriptor "(C)Z" = some ⟨[.char], some .boolean⟩ := by decide +kernel
theorem d_method_6_code_22 : decode method_6_code 22 = .ok (.ifCond .eq 16, 3) := by decide +kernel
theorem d_method_6_code_25 : decode method_6_code 25 = .ok (.aload_n 0, 1) := by decide +kernel
theorem d_method_6_code_26 : decode method_6_code 26 = .ok (.iload_n 3, 1) := by decide +kernel
theorem d_method_6_code_27 : decode method_6_code 27 = .ok (.iconst 1, 1) := by decide +kernel
theorem d_method_6_code_28 : decode method_6_code 28 = .ok (.isub, 1) := by decide +kernel
theorem d_method_6_code_29 : decode method_6_code 29 = .ok (.caload, 1) := by decide +kernel
theorem d_method_6_code_30 : decode method_6_code 30 = .ok (.invokestatic 18, 3) := by decide +kernel
theorem w142 {Z : State} {a0 : Array Value} (hw : Tb a0 Z) : (Jvm.Cond.methodLink "com/example/object_sieve/objectsieve/query/TextPositionOfPinLaw" (18 : Nat) ({ cls := "com/example/object_sieve/objectsieve/query/TextPositionOfPinLaw", name := "isHigh", desc := "(C)Z" } : Jvm.MethodName)).before a0 Z = true := hw _ (List.mem_of_getElem? (i := 142) rfl)
theorem w144 {Z : State} {a0 : Array Value} (hw : Tb a0 Z) : (Jvm.Cond.code ({ cls := "com/example/object_sieve/objectsieve/query/TextPositionOfPinLaw", name := "isHigh", desc := "(C)Z" } : Jvm.MethodName) method_3_code (1 : Nat) (Option.some Jvm.ClassFile.FieldType.boolean)).before a0 Z = true := hw _ (List.mem_of_getElem? (i := 144) rfl)
theorem w143 {Z : State} {a0 : Array Value} (hw : Tb a0 Z) : (Jvm.Cond.static ({ cls := "com/example/object_sieve/objectsieve/query/TextPositionOfPinLaw", name := "isHigh", desc := "(C)Z" } : Jvm.MethodName)).before a0 Z = true := hw _ (List.mem_of_getElem? (i := 143) rfl)
theorem d_method_6_code_33 : decode method_6_code 33 = .ok (.ifCond .eq 5, 3) := by decide +kernel
theorem d_method_6_code_36 : decode method_6_code 36 = .ok (.iconst 0, 1) := by decide +kernel
theorem d_method_6_code_37 : decode method_6_code 37 = .ok (.ireturn, 1) := by decide +kernel
set_option maxRecDepth 65536 in
set_option maxHeartbeats 40000000 in
theorem c_width (l : Launch) (Z : State) (a0 : Array Value) (hw : Tb a0 Z) (hEW : EW Z a0 EL0) (n0 : Nat) (va : Addr) (kv : ClassId) (off k15 i : Int32) (oo kk j : Nat) (ts : List Int32) (h0 : Heap) (O : Old Z n0 h0) (V_t : Arv Z h0 va kv .char 4 (ts.map Value.int) (.int 0)) (hts : ts.length = 4) (hj : i.toInt = j) (hj4 : j < 4) (ho : off.toInt = oo) (hk : k15.toInt = (kk : Int) - 1) :
    Ct l Z EL0 n0 (⟨"com/example/object_sieve/objectsieve/query/TextPositionOfPinLaw", "width", "([CIII)I"⟩ : MethodName) method_6_code 4 (some .int) ({ frames := 1, cells := 0, slots := 0, locals := 12 } : Room) #[(.ref va), (.int off), (.int k15), (.int i)] h0 [] (Pu (some (.int (Int32.ofNat (widN (ts.map cl) oo kk j)))) h0) := by
  refine Ct.of (a0 := a0) #[.val (.ref va), .val (.int off), .val (.int k15), .val (.int i)] hEW O (plainFor_of_name pl_com_example_object_sieve_objectsieve_query_TextPositionOfPinLaw) (fun m => by first | (simp [entryFrame, mkF, argsToLocals, Value.category]; done) | rfl) ?_
  intro p_ e_ s_ m_ below_ meth_ c_ b_ T_ K hSP
  refine k_iloadN K d_method_6_code_0 (pc' := 1) rfl rfl ?_
  refine k_iloadN K d_method_6_code_1 (pc' := 2) rfl rfl ?_
  refine k_icmp_ge K d_method_6_code_2 (by decide) (pc' := 10) (pc2 := 5) (by decide) rfl (fun hc2 => ?_) (fun hc2 => ?_)
  · refine k_iconst K (0 : Int32) d_method_6_code_10 (pc' := 11) rfl rfl ?_
    have hq : ¬ j < oo := by rw [own_i32, hj, ho] at hc2; omega
    exact k_iret K d_method_6_code_11 rfl (fun sf ht => ⟨by rw [show widN (ts.map cl) oo kk j = 0 from by simp [widN, hq]]; rfl, rfl⟩) (by decide) (by decide)
  · have hjo : j < oo := by rw [own_i32, hj, ho] at hc2; omega
    refine k_iloadN K d_method_6_code_5 (pc' := 6) rfl rfl ?_
    refine k_iloadN K d_method_6_code_6 (pc' := 7) rfl rfl ?_
    refine k_icmp_gt K d_method_6_code_7 (by decide) (pc' := 12) (pc2 := 10) (by decide) rfl (fun hc7 => ?_) (fun hc7 => ?_)
    · have hkj : kk ≤ j := by rw [own_i32, hj, hk] at hc7; omega
      refine k_iloadN K d_method_6_code_12 (pc' := 13) rfl rfl ?_
      refine k_if_le K d_method_6_code_13 (by decide) (pc' := 38) (pc2 := 16) (by decide) rfl (fun hc13 => ?_) (fun hc13 => ?_)
      · refine k_iconst K (1 : Int32) d_method_6_code_38 (pc' := 39) rfl rfl ?_
        have j0 : j = 0 := by rw [own_i32, hj, own_0] at hc13; omega
        exact k_iret K d_method_6_code_39 rfl (fun sf ht => ⟨by rw [show widN (ts.map cl) oo kk j = 1 from by subst j0; simp [widN, pairC, hjo, hkj]]; rfl, rfl⟩) (by decide) (by decide)
      · have j1 : 0 < j := by rw [own_i32, hj, own_0] at hc13; omega
        have hjl : j < ts.length := by omega
        have g1 := List.getElem?_eq_getElem hjl
        have hs1 := own_sub1 hj (by omega) (by omega)
        have hjm : j - 1 < ts.length := by omega
        have g2 := List.getElem?_eq_getElem hjm
        refine k_aloadN K d_method_6_code_16 (pc' := 17) rfl rfl rfl ?_
        refine k_iloadN K d_method_6_code_17 (pc' := 18) rfl rfl ?_
        refine k_caload K (j := i) V_t (own_in hj (show (4 : Int32).toInt = (4 : Nat) by decide) hj4) (by rw [own_clamp hj]; exact own_getD ts j hjl) d_method_6_code_18 (pc' := 19) rfl ?_
        refine k_staticP K [(.int ts[j])] [] 0 (w138 hw) (w139 hw) (w4 hw) (w140 hw) (by decide) pd__C_Z_657 (c_llow l Z a0 hw hEW n0 ts[j] h0 K.old ) d_method_6_code_19 nofun (pc' := 22) rfl rfl rfl rfl (Nat.le_of_eq rfl) (by decide) (by decide) (by decide) (by decide) ?_
        intro b52 T52 L52 K52 tr52
        show Goes p_.tables e_ below_ _ (T52.setTop (mkF m_ 22 #[.val (.ref va), .val (.int off), .val (.int k15), .val (.int i)] [(.int (if cl ts[j] = 3 then 1 else 0))]))
        refine k_if_eq K52 d_method_6_code_22 (by decide) (pc' := 38) (pc2 := 25) (by decide) rfl (fun hc22 => ?_) (fun hc22 => ?_)
        · refine k_iconst K52 (1 : Int32) d_method_6_code_38 (pc' := 39) rfl rfl ?_
          have q := own_ifEq hc22
          exact k_iret K52 d_method_6_code_39 rfl (fun sf ht => ⟨by rw [show widN (ts.map cl) oo kk j = 1 from by simp [widN, pairC, g1, hjo, hkj, q]]; rfl, rfl⟩) (by decide) (by decide)
        · have q := own_ifNe hc22
          refine k_aloadN K52 d_method_6_code_25 (pc' := 26) rfl rfl rfl ?_
          refine k_iloadN K52 d_method_6_code_26 (pc' := 27) rfl rfl ?_
          refine k_iconst K52 (1 : Int32) d_method_6_code_27 (pc' := 28) rfl rfl ?_
          refine k_isub K52 d_method_6_code_28 (pc' := 29) rfl ?_
          refine k_caload K52 (j := (i - (1 : Int32))) V_t (own_in hs1 (show (4 : Int32).toInt = (4 : Nat) by decide) (by omega)) (by rw [own_clamp hs1]; exact own_getD ts (j - 1) hjm) d_method_6_code_29 (pc' := 30) rfl ?_
          refine k_staticP K52 [(.int ts[j - 1])] [] 0 (w142 hw) (w143 hw) (w4 hw) (w144 hw) (by decide) pd__C_Z_657 (c_lhigh l Z a0 hw hEW n0 ts[j - 1] h0 K52.old ) d_method_6_code_30 nofun (pc' := 33) rfl rfl rfl rfl (Nat.le_of_eq rfl) (by decide) (by decide) (by decide) (by decide) ?_
          intro b53 T53 L53 K53 tr53
          show Goes p_.tables e_ below_ _ (T53.setTop (mkF m_ 33 #[.val (.ref va), .val (.int off), .val (.int k15), .val (.int i)] [(.int (if cl ts[j - 1] = 2 then 1 else 0))]))
          refine k_if_eq K53 d_method_6_code_33 (by decide) (pc' := 38) (pc2 := 36) (by decide) rfl (fun hc33 => ?_) (fun hc33 => ?_)
          · refine k_iconst K53 (1 : Int32) d_method_6_code_38 (pc' := 39) rfl rfl ?_
            have r := own_ifEq hc33
            exact k_iret K53 d_method_6_code_39 rfl (fun sf ht => ⟨by rw [show widN (ts.map cl) oo kk j = 1 from by simp [widN, pairC, g1, g2, hjo, hkj, q, r]]; rfl, rfl⟩) (by decide) (by decide)
          · refine k_iconst K53 (0 : Int32) d_method_6_code_36 (pc' := 37) rfl rfl ?_
            have r := own_ifNe hc33
            exact k_iret K53 d_method_6_code_37 rfl (fun sf ht => ⟨by rw [show widN (ts.map cl) oo kk j = 0 from by simp [widN, pairC, g1, g2, j1, q, r]]; rfl, rfl⟩) (by decide) (by decide)
    · refine k_iconst K (0 : Int32) d_method_6_code_10 (pc' := 11) rfl rfl ?_
      have hq : ¬ kk ≤ j := by rw [own_i32, hj, hk] at hc7; omega
      exact k_iret K d_method_6_code_11 rfl (fun sf ht => ⟨by rw [show widN (ts.map cl) oo kk j = 0 from by simp [widN, hq]]; rfl, rfl⟩) (by decide) (by decide)
theorem d_prog_8_method_1_code_0 : decode prog_8_method_1_code 0 = .ok (.aload_n 0, 1) := by decide +kernel
theorem d_prog_8_method_1_code_1 : decode prog_8_method_1_code 1 = .ok (.invokespecial 1, 3) := by decide +kernel
theorem w59 {Z : State} {a0 : Array Value} (hw : Tb a0 Z) : (Jvm.Cond.methodLink "com/example/object_sieve/objectsieve/query/TextPosition" (1 : Nat) ({ cls := "java/lang/Record", name := "<init>", desc := "()V" } : Jvm.MethodName)).before a0 Z = true := hw _ (List.mem_of_getElem? (i := 59) rfl)
theorem w62 {Z : State} {a0 : Array Value} (hw : Tb a0 Z) : (Jvm.Cond.initialized "java/lang/Record").before a0 Z = true := hw _ (List.mem_of_getElem? (i := 62) rfl)
theorem w63 {Z : State} {a0 : Array Value} (hw : Tb a0 Z) : (Jvm.Cond.code ({ cls := "java/lang/Record", name := "<init>", desc := "()V" } : Jvm.MethodName) jdk_30_method_1_code (1 : Nat) (Option.none : Option Jvm.ClassFile.FieldType)).before a0 Z = true := hw _ (List.mem_of_getElem? (i := 63) rfl)
theorem w60 {Z : State} {a0 : Array Value} (hw : Tb a0 Z) : (Jvm.Cond.instanceMethod ({ cls := "java/lang/Record", name := "<init>", desc := "()V" } : Jvm.MethodName)).before a0 Z = true := hw _ (List.mem_of_getElem? (i := 60) rfl)
theorem pd___V_380 : parseMethodDescriptor "()V" = some ⟨[], none⟩ := by decide +kernel
theorem d_prog_8_method_1_code_4 : decode prog_8_method_1_code 4 = .ok (.iload_n 1, 1) := by decide +kernel
theorem d_prog_8_method_1_code_5 : decode prog_8_method_1_code 5 = .ok (.iconst 1, 1) := by decide +kernel
theorem d_prog_8_method_1_code_6 : decode prog_8_method_1_code 6 = .ok (.if_icmp .lt 8, 3) := by decide +kernel
theorem d_prog_8_method_1_code_9 : decode prog_8_method_1_code 9 = .ok (.iload_n 2, 1) := by decide +kernel
theorem d_prog_8_method_1_code_10 : decode prog_8_method_1_code 10 = .ok (.iconst 1, 1) := by decide +kernel
theorem d_prog_8_method_1_code_11 : decode prog_8_method_1_code 11 = .ok (.if_icmp .ge 18, 3) := by decide +kernel
theorem d_prog_8_method_1_code_29 : decode prog_8_method_1_code 29 = .ok (.aload_n 0, 1) := by decide +kernel
theorem d_prog_8_method_1_code_30 : decode prog_8_method_1_code 30 = .ok (.iload_n 1, 1) := by decide +kernel
theorem d_prog_8_method_1_code_31 : decode prog_8_method_1_code 31 = .ok (.putfield 16, 3) := by decide +kernel
theorem w65 {Z : State} {a0 : Array Value} (hw : Tb a0 Z) : (Jvm.Cond.fieldLink "com/example/object_sieve/objectsieve/query/TextPosition" (16 : Nat) "com/example/object_sieve/objectsieve/query/TextPosition" "line" "I").before a0 Z = true := hw _ (List.mem_of_getElem? (i := 65) rfl)
theorem w66 {Z : State} {a0 : Array Value} (hw : Tb a0 Z) : (Jvm.Cond.laysFinal "com/example/object_sieve/objectsieve/query/TextPosition" "com/example/object_sieve/objectsieve/query/TextPosition" "line" "I").before a0 Z = true := hw _ (List.mem_of_getElem? (i := 66) rfl)
theorem w55 {Z : State} {a0 : Array Value} (hw : Tb a0 Z) : (Jvm.Cond.instantiable "com/example/object_sieve/objectsieve/query/TextPosition" (2 : Nat)).before a0 Z = true := hw _ (List.mem_of_getElem? (i := 55) rfl)
theorem w68 {Z : State} {a0 : Array Value} (hw : Tb a0 Z) : (Jvm.Cond.laysFinal "com/example/object_sieve/objectsieve/query/TextPosition" "com/example/object_sieve/objectsieve/query/TextPosition" "column" "I").before a0 Z = true := hw _ (List.mem_of_getElem? (i := 68) rfl)
theorem d_prog_8_method_1_code_34 : decode prog_8_method_1_code 34 = .ok (.aload_n 0, 1) := by decide +kernel
theorem d_prog_8_method_1_code_35 : decode prog_8_method_1_code 35 = .ok (.iload_n 2, 1) := by decide +kernel
theorem d_prog_8_method_1_code_36 : decode prog_8_method_1_code 36 = .ok (.putfield 22, 3) := by decide +kernel
theorem w67 {Z : State} {a0 : Array Value} (hw : Tb a0 Z) : (Jvm.Cond.fieldLink "com/example/object_sieve/objectsieve/query/TextPosition" (22 : Nat) "com/example/object_sieve/objectsieve/query/TextPosition" "column" "I").before a0 Z = true := hw _ (List.mem_of_getElem? (i := 67) rfl)
theorem d_prog_8_method_1_code_39 : decode prog_8_method_1_code 39 = .ok (.return_, 1) := by decide +kernel
theorem pl_com_example_object_sieve_objectsieve_query_TextPosition : plainName "com/example/object_sieve/objectsieve/query/TextPosition" = true := by first | (simp [plainName, overriddenIn]; done) | decide +kernel
set_option maxRecDepth 65536 in
set_option maxHeartbeats 40000000 in
theorem c_tpinit (l : Launch) (Z : State) (a0 : Array Value) (hw : Tb a0 Z) (hEW : EW Z a0 EL0) (n0 : Nat) (p : Addr) (li ci : Int32) (u1 u2 : Value) (h0 : Heap) (O : Old Z n0 h0) (X_p : Exa Z h0 p "com/example/object_sieve/objectsieve/query/TextPosition") (F_p_line : Fld Z h0 p "com/example/object_sieve/objectsieve/query/TextPosition" "line" "I" u1) (F_p_column : Fld Z h0 p "com/example/object_sieve/objectsieve/query/TextPosition" "column" "I" u2) (ga_p : n0 ≤ p) (h1 : ¬ li < 1) (h2 : ¬ ci < 1) :
    Ct l Z EL0 n0 (⟨"com/example/object_sieve/objectsieve/query/TextPosition", "<init>", "(II)V"⟩ : MethodName) prog_8_method_1_code 3 none ({ frames := 2, cells := 0, slots := 0, locals := 24 } : Room) #[(.ref p), (.int li), (.int ci)] h0 [p] (fun v h sf => v = none ∧ Exa Z h p "com/example/object_sieve/objectsieve/query/TextPosition" ∧ Fld Z h p "com/example/object_sieve/objectsieve/query/TextPosition" "line" "I" (.int li) ∧ Fld Z h p "com/example/object_sieve/objectsieve/query/TextPosition" "column" "I" (.int ci)) := by
  refine Ct.of (a0 := a0) #[.val (.ref p), .val (.int li), .val (.int ci)] hEW O (plainFor_of_name pl_com_example_object_sieve_objectsieve_query_TextPosition) (fun m => by first | (simp [entryFrame, mkF, argsToLocals, Value.category]; done) | rfl) ?_
  intro p_ e_ s_ m_ below_ meth_ c_ b_ T_ K hSP
  have sf_p := hSP p (by simp)
  refine k_aloadN K d_prog_8_method_1_code_0 (pc' := 1) rfl rfl rfl ?_
  refine k_specialP K [] [] 0 (w59 hw) (w60 hw) (w62 hw) (w63 hw) rfl rfl (by decide) pd___V_380 (c_recordInit l Z a0 hw hEW n0 p h0 K.old ) d_prog_8_method_1_code_1 nofun (pc' := 4) rfl rfl rfl rfl (Nat.le_of_eq rfl) (by decide) (by decide) (by decide) (by decide) ?_
  intro b54 T54 L54 K54 tr54
  show Goes p_.tables e_ below_ _ (T54.setTop (mkF m_ 4 #[.val (.ref p), .val (.int li), .val (.int ci)] []))
  replace sf_p := tr54 p X_p.lt sf_p
  refine k_iloadN K54 d_prog_8_method_1_code_4 (pc' := 5) rfl rfl ?_
  refine k_iconst K54 (1 : Int32) d_prog_8_method_1_code_5 (pc' := 6) rfl rfl ?_
  refine k_icmp_lt K54 d_prog_8_method_1_code_6 (by decide) (pc' := 14) (pc2 := 9) (by decide) rfl (fun q => absurd q h1) (fun hc6 => ?_)
  refine k_iloadN K54 d_prog_8_method_1_code_9 (pc' := 10) rfl rfl ?_
  refine k_iconst K54 (1 : Int32) d_prog_8_method_1_code_10 (pc' := 11) rfl rfl ?_
  refine k_icmp_ge K54 d_prog_8_method_1_code_11 (by decide) (pc' := 29) (pc2 := 14) (by decide) rfl (fun hc11 => ?_) (fun q => absurd q h2)
  refine k_aloadN K54 d_prog_8_method_1_code_29 (pc' := 30) rfl rfl rfl ?_
  refine k_iloadN K54 d_prog_8_method_1_code_30 (pc' := 31) rfl rfl ?_
  refine k_putF K54 (w65 hw) Via.refl F_p_line X_p (Or.inr ⟨(w66 hw), rfl, rfl⟩) (w55 hw) (ty := .int) (by decide) rfl rfl ga_p sf_p d_prog_8_method_1_code_31 (pc' := 34) rfl ?_
  intro T55 h55 K55 W55 tr55
  have F55 := F_p_line.same W55
  replace sf_p := tr55 p X_p.lt sf_p
  replace X_p := X_p.wr W55
  replace F_p_column := F_p_column.other W55 (Or.inr (slot_ne (Or.inr (w68 hw)) (Or.inr (w66 hw)) (by decide) (t := .int) (t' := .int) (by decide) (by decide)))
  replace F_p_line := F55
  refine k_aloadN K55 d_prog_8_method_1_code_34 (pc' := 35) rfl rfl rfl ?_
  refine k_iloadN K55 d_prog_8_method_1_code_35 (pc' := 36) rfl rfl ?_
  refine k_putF K55 (w67 hw) Via.refl F_p_column X_p (Or.inr ⟨(w68 hw), rfl, rfl⟩) (w55 hw) (ty := .int) (by decide) rfl rfl ga_p sf_p d_prog_8_method_1_code_36 (pc' := 39) rfl ?_
  intro T56 h56 K56 W56 tr56
  have F56 := F_p_column.same W56
  replace sf_p := tr56 p X_p.lt sf_p
  replace X_p := X_p.wr W56
  replace F_p_line := F_p_line.other W56 (Or.inr (slot_ne (Or.inr (w66 hw)) (Or.inr (w68 hw)) (by decide) (t := .int) (t' := .int) (by decide) (by decide)))
  replace F_p_column := F56
  exact k_return K56 d_prog_8_method_1_code_39 rfl (fun sf ht => ⟨rfl, X_p, F_p_line, F_p_column⟩) (by decide) (by decide)
theorem d_prog_8_method_6_code_0 : decode prog_8_method_6_code 0 = .ok (.aload_n 0, 1) := by decide +kernel
theorem d_prog_8_method_6_code_1 : decode prog_8_method_6_code 1 = .ok (.getfield 16, 3) := by decide +kernel
theorem d_prog_8_method_6_code_4 : decode prog_8_method_6_code 4 = .ok (.ireturn, 1) := by decide +kernel
set_option maxRecDepth 65536 in
set_option maxHeartbeats 40000000 in
theorem c_line (l : Launch) (Z : State) (a0 : Array Value) (hw : Tb a0 Z) (hEW : EW Z a0 EL0) (n0 : Nat) (p : Addr) (x : Int32) (h0 : Heap) (O : Old Z n0 h0) (F : Fld Z h0 p "com/example/object_sieve/objectsieve/query/TextPosition" "line" "I" (.int x)) :
    Ct l Z EL0 n0 (⟨"com/example/object_sieve/objectsieve/query/TextPosition", "line", "()I"⟩ : MethodName) prog_8_method_6_code 1 (some .int) ({ frames := 0, cells := 0, slots := 0, locals := 0 } : Room) #[(.ref p)] h0 [] (Pu (some (.int x)) h0) := by
  refine Ct.of (a0 := a0) #[.val (.ref p)] hEW O (plainFor_of_name pl_com_example_object_sieve_objectsieve_query_TextPosition) (fun m => by first | (simp [entryFrame, mkF, argsToLocals, Value.category]; done) | rfl) ?_
  intro p_ e_ s_ m_ below_ meth_ c_ b_ T_ K hSP
  refine k_aloadN K d_prog_8_method_6_code_0 (pc' := 1) rfl rfl rfl ?_
  refine k_getF K (w65 hw) Via.refl F d_prog_8_method_6_code_1 (pc' := 4) rfl ?_
  intro T57 K57
  exact k_iret K57 d_prog_8_method_6_code_4 rfl (fun sf ht => ⟨rfl, rfl⟩) (by decide) (by decide)
theorem d_prog_8_method_7_code_0 : decode prog_8_method_7_code 0 = .ok (.aload_n 0, 1) := by decide +kernel
theorem d_prog_8_method_7_code_1 : decode prog_8_method_7_code 1 = .ok (.getfield 22, 3) := by decide +kernel
theorem d_prog_8_method_7_code_4 : decode prog_8_method_7_code 4 = .ok (.ireturn, 1) := by decide +kernel
set_option maxRecDepth 65536 in
set_option maxHeartbeats 40000000 in
theorem c_column (l : Launch) (Z : State) (a0 : Array Value) (hw : Tb a0 Z) (hEW : EW Z a0 EL0) (n0 : Nat) (p : Addr) (x : Int32) (h0 : Heap) (O : Old Z n0 h0) (F : Fld Z h0 p "com/example/object_sieve/objectsieve/query/TextPosition" "column" "I" (.int x)) :
    Ct l Z EL0 n0 (⟨"com/example/object_sieve/objectsieve/query/TextPosition", "column", "()I"⟩ : MethodName) prog_8_method_7_code 1 (some .int) ({ frames := 0, cells := 0, slots := 0, locals := 0 } : Room) #[(.ref p)] h0 [] (Pu (some (.int x)) h0) := by
  refine Ct.of (a0 := a0) #[.val (.ref p)] hEW O (plainFor_of_name pl_com_example_object_sieve_objectsieve_query_TextPosition) (fun m => by first | (simp [entryFrame, mkF, argsToLocals, Value.category]; done) | rfl) ?_
  intro p_ e_ s_ m_ below_ meth_ c_ b_ T_ K hSP
  refine k_aloadN K d_prog_8_method_7_code_0 (pc' := 1) rfl rfl rfl ?_
  refine k_getF K (w67 hw) Via.refl F d_prog_8_method_7_code_1 (pc' := 4) rfl ?_
  intro T58 K58
  exact k_iret K58 d_prog_8_method_7_code_4 rfl (fun sf ht => ⟨rfl, rfl⟩) (by decide) (by decide)
theorem d_prog_8_method_2_code_0 : decode prog_8_method_2_code 0 = .ok (.iload_n 1, 1) := by decide +kernel
theorem d_prog_8_method_2_code_1 : decode prog_8_method_2_code 1 = .ok (.ifCond .lt 13, 3) := by decide +kernel
theorem d_prog_8_method_2_code_4 : decode prog_8_method_2_code 4 = .ok (.iload_n 1, 1) := by decide +kernel
theorem d_prog_8_method_2_code_5 : decode prog_8_method_2_code 5 = .ok (.aload_n 0, 1) := by decide +kernel
theorem d_prog_8_method_2_code_6 : decode prog_8_method_2_code 6 = .ok (.invokeinterface 25 1, 5) := by decide +kernel
theorem w39 {Z : State} {a0 : Array Value} (hw : Tb a0 Z) : (Jvm.Cond.methodLink "com/example/object_sieve/objectsieve/query/TextPosition" (25 : Nat) ({ cls := "java/lang/CharSequence", name := "length", desc := "()I" } : Jvm.MethodName)).before a0 Z = true := hw _ (List.mem_of_getElem? (i := 39) rfl)
theorem w47 {Z : State} {a0 : Array Value} (hw : Tb a0 Z) : (Jvm.Cond.code ({ cls := "java/lang/String", name := "length", desc := "()I" } : Jvm.MethodName) jdk_42_method_54_code (1 : Nat) (Option.some Jvm.ClassFile.FieldType.int)).before a0 Z = true := hw _ (List.mem_of_getElem? (i := 47) rfl)
theorem w40 {Z : State} {a0 : Array Value} (hw : Tb a0 Z) : (Jvm.Cond.declares ({ cls := "java/lang/CharSequence", name := "length", desc := "()I" } : Jvm.MethodName)).before a0 Z = true := hw _ (List.mem_of_getElem? (i := 40) rfl)
theorem w41 {Z : State} {a0 : Array Value} (hw : Tb a0 Z) : (Jvm.Cond.interfaceMethod "java/lang/CharSequence" "java/lang/CharSequence" "length" "()I").before a0 Z = true := hw _ (List.mem_of_getElem? (i := 41) rfl)
theorem w42 {Z : State} {a0 : Array Value} (hw : Tb a0 Z) : (Jvm.Cond.selects "java/lang/String" ({ cls := "java/lang/CharSequence", name := "length", desc := "()I" } : Jvm.MethodName) ({ cls := "java/lang/String", name := "length", desc := "()I" } : Jvm.MethodName)).before a0 Z = true := hw _ (List.mem_of_getElem? (i := 42) rfl)
theorem w43 {Z : State} {a0 : Array Value} (hw : Tb a0 Z) : (Jvm.Cond.instanceMethod ({ cls := "java/lang/String", name := "length", desc := "()I" } : Jvm.MethodName)).before a0 Z = true := hw _ (List.mem_of_getElem? (i := 43) rfl)
theorem w44 {Z : State} {a0 : Array Value} (hw : Tb a0 Z) : (Jvm.Cond.publicMethod ({ cls := "java/lang/String", name := "length", desc := "()I" } : Jvm.MethodName)).before a0 Z = true := hw _ (List.mem_of_getElem? (i := 44) rfl)
theorem w45 {Z : State} {a0 : Array Value} (hw : Tb a0 Z) : (Jvm.Cond.unhidden "java/lang/String" "length" "()I").before a0 Z = true := hw _ (List.mem_of_getElem? (i := 45) rfl)
theorem w46 {Z : State} {a0 : Array Value} (hw : Tb a0 Z) : (Jvm.Cond.castable "java/lang/String" "java/lang/CharSequence").before a0 Z = true := hw _ (List.mem_of_getElem? (i := 46) rfl)
theorem pd___I_341 : parseMethodDescriptor "()I" = some ⟨[], some .int⟩ := by decide +kernel
theorem d_prog_8_method_2_code_11 : decode prog_8_method_2_code 11 = .ok (.if_icmp .le 23, 3) := by decide +kernel
theorem d_prog_8_method_2_code_34 : decode prog_8_method_2_code 34 = .ok (.iconst 1, 1) := by decide +kernel
theorem d_prog_8_method_2_code_35 : decode prog_8_method_2_code 35 = .ok (.istore_n 2, 1) := by decide +kernel
theorem d_prog_8_method_2_code_36 : decode prog_8_method_2_code 36 = .ok (.iconst 1, 1) := by decide +kernel
theorem d_prog_8_method_2_code_37 : decode prog_8_method_2_code 37 = .ok (.istore_n 3, 1) := by decide +kernel
theorem d_prog_8_method_2_code_38 : decode prog_8_method_2_code 38 = .ok (.iconst 0, 1) := by decide +kernel
theorem d_prog_8_method_2_code_39 : decode prog_8_method_2_code 39 = .ok (.istore 4, 2) := by decide +kernel
theorem d_prog_8_method_2_code_41 : decode prog_8_method_2_code 41 = .ok (.iload 4, 2) := by decide +kernel
theorem d_prog_8_method_2_code_43 : decode prog_8_method_2_code 43 = .ok (.iload_n 1, 1) := by decide +kernel
theorem d_prog_8_method_2_code_44 : decode prog_8_method_2_code 44 = .ok (.if_icmp .ge 144, 3) := by decide +kernel
theorem d_prog_8_method_2_code_188 : decode prog_8_method_2_code 188 = .ok (.new 17, 3) := by decide +kernel
theorem w54 {Z : State} {a0 : Array Value} (hw : Tb a0 Z) : (Jvm.Cond.classLink "com/example/object_sieve/objectsieve/query/TextPosition" (17 : Nat) "com/example/object_sieve/objectsieve/query/TextPosition").before a0 Z = true := hw _ (List.mem_of_getElem? (i := 54) rfl)
theorem w37 {Z : State} {a0 : Array Value} (hw : Tb a0 Z) : (Jvm.Cond.initialized "com/example/object_sieve/objectsieve/query/TextPosition").before a0 Z = true := hw _ (List.mem_of_getElem? (i := 37) rfl)
theorem d_prog_8_method_2_code_191 : decode prog_8_method_2_code 191 = .ok (.dup, 1) := by decide +kernel
theorem d_prog_8_method_2_code_192 : decode prog_8_method_2_code 192 = .ok (.iload_n 2, 1) := by decide +kernel
theorem d_prog_8_method_2_code_193 : decode prog_8_method_2_code 193 = .ok (.iload_n 3, 1) := by decide +kernel
theorem d_prog_8_method_2_code_194 : decode prog_8_method_2_code 194 = .ok (.invokespecial 48, 3) := by decide +kernel
theorem w56 {Z : State} {a0 : Array Value} (hw : Tb a0 Z) : (Jvm.Cond.methodLink "com/example/object_sieve/objectsieve/query/TextPosition" (48 : Nat) ({ cls := "com/example/object_sieve/objectsieve/query/TextPosition", name := "<init>", desc := "(II)V" } : Jvm.MethodName)).before a0 Z = true := hw _ (List.mem_of_getElem? (i := 56) rfl)
theorem w58 {Z : State} {a0 : Array Value} (hw : Tb a0 Z) : (Jvm.Cond.code ({ cls := "com/example/object_sieve/objectsieve/query/TextPosition", name := "<init>", desc := "(II)V" } : Jvm.MethodName) prog_8_method_1_code (3 : Nat) (Option.none : Option Jvm.ClassFile.FieldType)).before a0 Z = true := hw _ (List.mem_of_getElem? (i := 58) rfl)
theorem w57 {Z : State} {a0 : Array Value} (hw : Tb a0 Z) : (Jvm.Cond.instanceMethod ({ cls := "com/example/object_sieve/objectsieve/query/TextPosition", name := "<init>", desc := "(II)V" } : Jvm.MethodName)).before a0 Z = true := hw _ (List.mem_of_getElem? (i := 57) rfl)
theorem d_prog_8_method_2_code_197 : decode prog_8_method_2_code 197 = .ok (.areturn, 1) := by decide +kernel
theorem d_prog_8_method_2_code_159 : decode prog_8_method_2_code 159 = .ok (.istore 8, 2) := by decide +kernel
theorem d_prog_8_method_2_code_161 : decode prog_8_method_2_code 161 = .ok (.iload 7, 2) := by decide +kernel
theorem d_prog_8_method_2_code_163 : decode prog_8_method_2_code 163 = .ok (.ifCond .eq 11, 3) := by decide +kernel
theorem d_prog_8_method_2_code_174 : decode prog_8_method_2_code 174 = .ok (.iload 8, 2) := by decide +kernel
theorem d_prog_8_method_2_code_176 : decode prog_8_method_2_code 176 = .ok (.ifCond .ne 6, 3) := by decide +kernel
theorem d_prog_8_method_2_code_182 : decode prog_8_method_2_code 182 = .ok (.iinc 4 1, 3) := by decide +kernel
theorem d_prog_8_method_2_code_185 : decode prog_8_method_2_code 185 = .ok (.goto (-144), 3) := by decide +kernel
theorem d_prog_8_method_2_code_179 : decode prog_8_method_2_code 179 = .ok (.iinc 3 1, 3) := by decide +kernel
theorem d_prog_8_method_2_code_166 : decode prog_8_method_2_code 166 = .ok (.iinc 2 1, 3) := by decide +kernel
theorem d_prog_8_method_2_code_169 : decode prog_8_method_2_code 169 = .ok (.iconst 1, 1) := by decide +kernel
theorem d_prog_8_method_2_code_170 : decode prog_8_method_2_code 170 = .ok (.istore_n 3, 1) := by decide +kernel
theorem d_prog_8_method_2_code_171 : decode prog_8_method_2_code 171 = .ok (.goto 11, 3) := by decide +kernel
theorem d_prog_8_method_2_code_123 : decode prog_8_method_2_code 123 = .ok (.istore 7, 2) := by decide +kernel
theorem d_prog_8_method_2_code_125 : decode prog_8_method_2_code 125 = .ok (.iload 5, 2) := by decide +kernel
theorem d_prog_8_method_2_code_127 : decode prog_8_method_2_code 127 = .ok (.invokestatic 39, 3) := by decide +kernel
theorem w133 {Z : State} {a0 : Array Value} (hw : Tb a0 Z) : (Jvm.Cond.methodLink "com/example/object_sieve/objectsieve/query/TextPosition" (39 : Nat) ({ cls := "java/lang/Character", name := "isLowSurrogate", desc := "(C)Z" } : Jvm.MethodName)).before a0 Z = true := hw _ (List.mem_of_getElem? (i := 133) rfl)
theorem w135 {Z : State} {a0 : Array Value} (hw : Tb a0 Z) : (Jvm.Cond.initialized "java/lang/Character").before a0 Z = true := hw _ (List.mem_of_getElem? (i := 135) rfl)
theorem w136 {Z : State} {a0 : Array Value} (hw : Tb a0 Z) : (Jvm.Cond.code ({ cls := "java/lang/Character", name := "isLowSurrogate", desc := "(C)Z" } : Jvm.MethodName) jdk_89_method_15_code (1 : Nat) (Option.some Jvm.ClassFile.FieldType.boolean)).before a0 Z = true := hw _ (List.mem_of_getElem? (i := 136) rfl)
theorem w134 {Z : State} {a0 : Array Value} (hw : Tb a0 Z) : (Jvm.Cond.static ({ cls := "java/lang/Character", name := "isLowSurrogate", desc := "(C)Z" } : Jvm.MethodName)).before a0 Z = true := hw _ (List.mem_of_getElem? (i := 134) rfl)
theorem d_prog_8_method_2_code_130 : decode prog_8_method_2_code 130 = .ok (.ifCond .eq 28, 3) := by decide +kernel
theorem d_prog_8_method_2_code_158 : decode prog_8_method_2_code 158 = .ok (.iconst 0, 1) := by decide +kernel
theorem d_prog_8_method_2_code_133 : decode prog_8_method_2_code 133 = .ok (.iload 4, 2) := by decide +kernel
theorem d_prog_8_method_2_code_135 : decode prog_8_method_2_code 135 = .ok (.ifCond .le 23, 3) := by decide +kernel
theorem d_prog_8_method_2_code_138 : decode prog_8_method_2_code 138 = .ok (.aload_n 0, 1) := by decide +kernel
theorem d_prog_8_method_2_code_139 : decode prog_8_method_2_code 139 = .ok (.iload 4, 2) := by decide +kernel
theorem d_prog_8_method_2_code_141 : decode prog_8_method_2_code 141 = .ok (.iconst 1, 1) := by decide +kernel
theorem d_prog_8_method_2_code_142 : decode prog_8_method_2_code 142 = .ok (.isub, 1) := by decide +kernel
theorem d_prog_8_method_2_code_143 : decode prog_8_method_2_code 143 = .ok (.invokeinterface 35 2, 5) := by decide +kernel
theorem w108 {Z : State} {a0 : Array Value} (hw : Tb a0 Z) : (Jvm.Cond.methodLink "com/example/object_sieve/objectsieve/query/TextPosition" (35 : Nat) ({ cls := "java/lang/CharSequence", name := "charAt", desc := "(I)C" } : Jvm.MethodName)).before a0 Z = true := hw _ (List.mem_of_getElem? (i := 108) rfl)
theorem w115 {Z : State} {a0 : Array Value} (hw : Tb a0 Z) : (Jvm.Cond.code ({ cls := "java/lang/String", name := "charAt", desc := "(I)C" } : Jvm.MethodName) jdk_42_method_56_code (2 : Nat) (Option.some Jvm.ClassFile.FieldType.char)).before a0 Z = true := hw _ (List.mem_of_getElem? (i := 115) rfl)
theorem w109 {Z : State} {a0 : Array Value} (hw : Tb a0 Z) : (Jvm.Cond.declares ({ cls := "java/lang/CharSequence", name := "charAt", desc := "(I)C" } : Jvm.MethodName)).before a0 Z = true := hw _ (List.mem_of_getElem? (i := 109) rfl)
theorem w110 {Z : State} {a0 : Array Value} (hw : Tb a0 Z) : (Jvm.Cond.interfaceMethod "java/lang/CharSequence" "java/lang/CharSequence" "charAt" "(I)C").before a0 Z = true := hw _ (List.mem_of_getElem? (i := 110) rfl)
theorem w111 {Z : State} {a0 : Array Value} (hw : Tb a0 Z) : (Jvm.Cond.selects "java/lang/String" ({ cls := "java/lang/CharSequence", name := "charAt", desc := "(I)C" } : Jvm.MethodName) ({ cls := "java/lang/String", name := "charAt", desc := "(I)C" } : Jvm.MethodName)).before a0 Z = true := hw _ (List.mem_of_getElem? (i := 111) rfl)
theorem w112 {Z : State} {a0 : Array Value} (hw : Tb a0 Z) : (Jvm.Cond.instanceMethod ({ cls := "java/lang/String", name := "charAt", desc := "(I)C" } : Jvm.MethodName)).before a0 Z = true := hw _ (List.mem_of_getElem? (i := 112) rfl)
theorem w113 {Z : State} {a0 : Array Value} (hw : Tb a0 Z) : (Jvm.Cond.publicMethod ({ cls := "java/lang/String", name := "charAt", desc := "(I)C" } : Jvm.MethodName)).before a0 Z = true := hw _ (List.mem_of_getElem? (i := 113) rfl)
theorem w114 {Z : State} {a0 : Array Value} (hw : Tb a0 Z) : (Jvm.Cond.unhidden "java/lang/String" "charAt" "(I)C").before a0 Z = true := hw _ (List.mem_of_getElem? (i := 114) rfl)
theorem pd__I_C_577 : parseMethodDescriptor "(I)C" = some ⟨[.int], some .char⟩ := by decide +kernel
theorem d_prog_8_method_2_code_148 : decode prog_8_method_2_code 148 = .ok (.invokestatic 45, 3) := by decide +kernel
theorem w157 {Z : State} {a0 : Array Value} (hw : Tb a0 Z) : (Jvm.Cond.methodLink "com/example/object_sieve/objectsieve/query/TextPosition" (45 : Nat) ({ cls := "java/lang/Character", name := "isHighSurrogate", desc := "(C)Z" } : Jvm.MethodName)).before a0 Z = true := hw _ (List.mem_of_getElem? (i := 157) rfl)
theorem w159 {Z : State} {a0 : Array Value} (hw : Tb a0 Z) : (Jvm.Cond.code ({ cls := "java/lang/Character", name := "isHighSurrogate", desc := "(C)Z" } : Jvm.MethodName) jdk_89_method_14_code (1 : Nat) (Option.some Jvm.ClassFile.FieldType.boolean)).before a0 Z = true := hw _ (List.mem_of_getElem? (i := 159) rfl)
theorem w158 {Z : State} {a0 : Array Value} (hw : Tb a0 Z) : (Jvm.Cond.static ({ cls := "java/lang/Character", name := "isHighSurrogate", desc := "(C)Z" } : Jvm.MethodName)).before a0 Z = true := hw _ (List.mem_of_getElem? (i := 158) rfl)
theorem d_prog_8_method_2_code_151 : decode prog_8_method_2_code 151 = .ok (.ifCond .eq 7, 3) := by decide +kernel
theorem d_prog_8_method_2_code_154 : decode prog_8_method_2_code 154 = .ok (.iconst 1, 1) := by decide +kernel
theorem d_prog_8_method_2_code_155 : decode prog_8_method_2_code 155 = .ok (.goto 4, 3) := by decide +kernel
theorem d_prog_8_method_2_code_97 : decode prog_8_method_2_code 97 = .ok (.istore 6, 2) := by decide +kernel
theorem d_prog_8_method_2_code_99 : decode prog_8_method_2_code 99 = .ok (.iload 5, 2) := by decide +kernel
theorem d_prog_8_method_2_code_101 : decode prog_8_method_2_code 101 = .ok (.bipush 10, 2) := by decide +kernel
theorem d_prog_8_method_2_code_103 : decode prog_8_method_2_code 103 = .ok (.if_icmp .eq 10, 3) := by decide +kernel
theorem d_prog_8_method_2_code_113 : decode prog_8_method_2_code 113 = .ok (.iload 6, 2) := by decide +kernel
theorem d_prog_8_method_2_code_115 : decode prog_8_method_2_code 115 = .ok (.ifCond .ne 7, 3) := by decide +kernel
theorem d_prog_8_method_2_code_122 : decode prog_8_method_2_code 122 = .ok (.iconst 0, 1) := by decide +kernel
theorem d_prog_8_method_2_code_118 : decode prog_8_method_2_code 118 = .ok (.iconst 1, 1) := by decide +kernel
theorem d_prog_8_method_2_code_119 : decode prog_8_method_2_code 119 = .ok (.goto 4, 3) := by decide +kernel
theorem d_prog_8_method_2_code_106 : decode prog_8_method_2_code 106 = .ok (.iload 5, 2) := by decide +kernel
theorem d_prog_8_method_2_code_108 : decode prog_8_method_2_code 108 = .ok (.bipush 13, 2) := by decide +kernel
theorem d_prog_8_method_2_code_110 : decode prog_8_method_2_code 110 = .ok (.if_icmp .ne 12, 3) := by decide +kernel
theorem d_prog_8_method_2_code_47 : decode prog_8_method_2_code 47 = .ok (.aload_n 0, 1) := by decide +kernel
theorem d_prog_8_method_2_code_48 : decode prog_8_method_2_code 48 = .ok (.iload 4, 2) := by decide +kernel
theorem d_prog_8_method_2_code_50 : decode prog_8_method_2_code 50 = .ok (.invokeinterface 35 2, 5) := by decide +kernel
theorem d_prog_8_method_2_code_55 : decode prog_8_method_2_code 55 = .ok (.istore 5, 2) := by decide +kernel
theorem d_prog_8_method_2_code_57 : decode prog_8_method_2_code 57 = .ok (.iload 5, 2) := by decide +kernel
theorem d_prog_8_method_2_code_59 : decode prog_8_method_2_code 59 = .ok (.bipush 13, 2) := by decide +kernel
theorem d_prog_8_method_2_code_61 : decode prog_8_method_2_code 61 = .ok (.if_icmp .ne 35, 3) := by decide +kernel
theorem d_prog_8_method_2_code_96 : decode prog_8_method_2_code 96 = .ok (.iconst 0, 1) := by decide +kernel
theorem d_prog_8_method_2_code_64 : decode prog_8_method_2_code 64 = .ok (.iload 4, 2) := by decide +kernel
theorem d_prog_8_method_2_code_66 : decode prog_8_method_2_code 66 = .ok (.iconst 1, 1) := by decide +kernel
theorem d_prog_8_method_2_code_67 : decode prog_8_method_2_code 67 = .ok (.iadd, 1) := by decide +kernel
theorem d_prog_8_method_2_code_68 : decode prog_8_method_2_code 68 = .ok (.aload_n 0, 1) := by decide +kernel
theorem d_prog_8_method_2_code_69 : decode prog_8_method_2_code 69 = .ok (.invokeinterface 25 1, 5) := by decide +kernel
theorem d_prog_8_method_2_code_74 : decode prog_8_method_2_code 74 = .ok (.if_icmp .ge 22, 3) := by decide +kernel
theorem d_prog_8_method_2_code_77 : decode prog_8_method_2_code 77 = .ok (.aload_n 0, 1) := by decide +kernel
theorem d_prog_8_method_2_code_78 : decode prog_8_method_2_code 78 = .ok (.iload 4, 2) := by decide +kernel
theorem d_prog_8_method_2_code_80 : decode prog_8_method_2_code 80 = .ok (.iconst 1, 1) := by decide +kernel
theorem d_prog_8_method_2_code_81 : decode prog_8_method_2_code 81 = .ok (.iadd, 1) := by decide +kernel
theorem d_prog_8_method_2_code_82 : decode prog_8_method_2_code 82 = .ok (.invokeinterface 35 2, 5) := by decide +kernel
theorem d_prog_8_method_2_code_87 : decode prog_8_method_2_code 87 = .ok (.bipush 10, 2) := by decide +kernel
theorem d_prog_8_method_2_code_89 : decode prog_8_method_2_code 89 = .ok (.if_icmp .ne 7, 3) := by decide +kernel
theorem d_prog_8_method_2_code_92 : decode prog_8_method_2_code 92 = .ok (.iconst 1, 1) := by decide +kernel
theorem d_prog_8_method_2_code_93 : decode prog_8_method_2_code 93 = .ok (.goto 4, 3) := by decide +kernel
set_option maxRecDepth 65536 in
set_option maxHeartbeats 40000000 in
theorem c_of (l : Launch) (Z : State) (a0 : Array Value) (hw : Tb a0 Z) (hEW : EW Z a0 EL0) (n0 : Nat) (a d : Addr) (kd : ClassId) (n off : Int32) (oo : Nat) (cs : List Int32) (ff : Value) (cs0 : Int32) (h0 : Heap) (O : Old Z n0 h0) (SF : Sta Z Z.heap "jdk/internal/util/Preconditions" "SIOOBE_FORMATTER" "Ljava/util/function/BiFunction;" ff) (hff : ff.isRef = true) (hn : n.toInt = cs.length) (hb : cs.length ≤ 4) (hc : ∀ c ∈ cs, 0 ≤ c.toInt ∧ c.toInt < 65536) (S : Str Z h0 a d kd (strCd cs) (strZ n cs) (strVs cs)) (ho : off.toInt = oo) (hle : oo ≤ cs.length) (SC : Sta Z Z.heap "java/lang/String" "COMPACT_STRINGS" "Z" (.int cs0)) (hcs : ¬ cs0 = 0) (SA : Sta Z Z.heap "java/lang/StringUTF16" "$assertionsDisabled" "Z" (.int 1)) (SH : Sta Z Z.heap "java/lang/StringUTF16" "HI_BYTE_SHIFT" "I" (.int 0)) (SL : Sta Z Z.heap "java/lang/StringUTF16" "LO_BYTE_SHIFT" "I" (.int 8)) :
    Ct l Z EL0 n0 (⟨"com/example/object_sieve/objectsieve/query/TextPosition", "of", "(Ljava/lang/CharSequence;I)Lcom/example/object_sieve/objectsieve/query/TextPosition;"⟩ : MethodName) prog_8_method_2_code 9 (some (.object "com/example/object_sieve/objectsieve/query/TextPosition")) ({ frames := 5, cells := 1, slots := 2, locals := 66 } : Room) #[(.ref a), (.int off)] h0 [] (fun v h sf => ∃ p, v = some (.ref p) ∧ Exa Z h p "com/example/object_sieve/objectsieve/query/TextPosition" ∧ Fld Z h p "com/example/object_sieve/objectsieve/query/TextPosition" "line" "I" (.int (Int32.ofNat (goC (cs.map cl) oo).1)) ∧ Fld Z h p "com/example/object_sieve/objectsieve/query/TextPosition" "column" "I" (.int (Int32.ofNat (goC (cs.map cl) oo).2))) := by
  refine Ct.of (a0 := a0) #[.val (.ref a), .val (.int off), .unset, .unset, .unset, .unset, .unset, .unset, .unset] hEW O (plainFor_of_name pl_com_example_object_sieve_objectsieve_query_TextPosition) (fun m => by first | (simp [entryFrame, mkF, argsToLocals, Value.category]; done) | rfl) ?_
  intro p_ e_ s_ m_ below_ meth_ c_ b_ T_ K hSP
  have hb4 : cs.length ≤ 4000 := by omega
  have hml : (cs.map cl).length = cs.length := by simp
  refine k_iloadN K d_prog_8_method_2_code_0 (pc' := 1) rfl rfl ?_
  refine k_if_lt K d_prog_8_method_2_code_1 (by decide) (pc' := 14) (pc2 := 4) (by decide) rfl (fun q => absurd q (by rw [own_i32, ho, own_0]; omega)) (fun hc1 => ?_)
  refine k_iloadN K d_prog_8_method_2_code_4 (pc' := 5) rfl rfl ?_
  refine k_aloadN K d_prog_8_method_2_code_5 (pc' := 6) rfl rfl rfl ?_
  refine k_interfaceP K [] [(.int off)] 1 (w39 hw) (w40 hw) (mvT K.hZ (w41 hw)) (w42 hw) (w43 hw) (w44 hw) (w45 hw) (w46 hw) (w10 hw) (w47 hw) rfl (by decide) S.1 (by decide) pd___I_341 (c_length l Z a0 hw hEW n0 a d kd (strCd cs) (strZ n cs) (strVs cs) cs0 h0 K.old S (strCd_01 cs) SC hcs) d_prog_8_method_2_code_6 nofun (pc' := 11) rfl rfl rfl rfl (Nat.le_of_eq rfl) (by decide) (by decide) (by decide) (by decide) ?_
  intro b59 T59 L59 K59 tr59
  show Goes p_.tables e_ below_ _ (T59.setTop (mkF m_ 11 #[.val (.ref a), .val (.int off), .unset, .unset, .unset, .unset, .unset, .unset, .unset] [(.int (strZ n cs >>> (strCd cs &&& 31))), (.int off)]))
  rw [own_len hn hb4]
  refine k_icmp_le K59 d_prog_8_method_2_code_11 (by decide) (pc' := 34) (pc2 := 14) (by decide) rfl (fun hc11 => ?_) (fun q => absurd q (by rw [own_i32, hn, ho]; omega))
  refine k_iconst K59 (1 : Int32) d_prog_8_method_2_code_34 (pc' := 35) rfl rfl ?_
  refine k_istoreN K59 d_prog_8_method_2_code_35 (pc' := 36) (L' := #[.val (.ref a), .val (.int off), .val (.int (1 : Int32)), .unset, .unset, .unset, .unset, .unset, .unset]) rfl rfl ?_
  refine k_iconst K59 (1 : Int32) d_prog_8_method_2_code_36 (pc' := 37) rfl rfl ?_
  refine k_istoreN K59 d_prog_8_method_2_code_37 (pc' := 38) (L' := #[.val (.ref a), .val (.int off), .val (.int (1 : Int32)), .val (.int (1 : Int32)), .unset, .unset, .unset, .unset, .unset]) rfl rfl ?_
  refine k_iconst K59 (0 : Int32) d_prog_8_method_2_code_38 (pc' := 39) rfl rfl ?_
  refine k_istore K59 d_prog_8_method_2_code_39 (pc' := 41) (L' := #[.val (.ref a), .val (.int off), .val (.int (1 : Int32)), .val (.int (1 : Int32)), .val (.int (0 : Int32)), .unset, .unset, .unset, .unset]) rfl rfl ?_
  have LOOP : ∀ (k : Nat) (li ci ii : Int32) (j : Nat) (hj : ii.toInt = j) (hk : j + k = oo) (hli : li.toInt = (goC (cs.map cl) j).1) (hci : ci.toInt = (goC (cs.map cl) j).2) (s5 : Slot) (hs5 : s5 = .unset ∨ ∃ w, s5 = .val (.int w)) (s6 : Slot) (hs6 : s6 = .unset ∨ ∃ w, s6 = .val (.int w)) (s7 : Slot) (hs7 : s7 = .unset ∨ ∃ w, s7 = .val (.int w)) (s8 : Slot) (hs8 : s8 = .unset ∨ ∃ w, s8 = .val (.int w)) (bl Tl : State) (hl : Heap) (Ll : List Loc), Wk p_ l e_ ({ frames := 5, cells := 1, slots := 2, locals := 66 } : Room) s_ m_ #[(.ref a), (.int off)] below_ meth_ c_ Z a0 EL0 n0 (⟨"com/example/object_sieve/objectsieve/query/TextPosition", "of", "(Ljava/lang/CharSequence;I)Lcom/example/object_sieve/objectsieve/query/TextPosition;"⟩ : MethodName) prog_8_method_2_code 9 (some (.object "com/example/object_sieve/objectsieve/query/TextPosition")) bl Tl hl Ll 0 0 → (hl = h0) → Goes p_.tables e_ below_ (FinW Z EL0 s_ n0 ({ frames := 5, cells := 1, slots := 2, locals := 66 } : Room) (fun v h sf => ∃ p, v = some (.ref p) ∧ Exa Z h p "com/example/object_sieve/objectsieve/query/TextPosition" ∧ Fld Z h p "com/example/object_sieve/objectsieve/query/TextPosition" "line" "I" (.int (Int32.ofNat (goC (cs.map cl) oo).1)) ∧ Fld Z h p "com/example/object_sieve/objectsieve/query/TextPosition" "column" "I" (.int (Int32.ofNat (goC (cs.map cl) oo).2)))) (Tl.setTop (mkF m_ 41 #[.val (.ref a), .val (.int off), .val (.int li), .val (.int ci), .val (.int ii), s5, s6, s7, s8] [])) := by
    intro k
    induction k with
    | zero =>
      intro li ci ii j hj hk hli hci s5 hs5 s6 hs6 s7 hs7 s8 hs8 bl Tl hl Ll Kl ehl
      subst ehl
      have ej : j = oo := by omega
      subst ej
      have gb := goC_b (cs.map cl) j
      have el : li = Int32.ofNat (goC (cs.map cl) j).1 := own_i32e (by rw [hli, Int32.toInt_ofNat_of_lt (by omega)])
      have ec : ci = Int32.ofNat (goC (cs.map cl) j).2 := own_i32e (by rw [hci, Int32.toInt_ofNat_of_lt (by omega)])
      refine k_iload Kl d_prog_8_method_2_code_41 (pc' := 43) rfl rfl ?_
      refine k_iloadN Kl d_prog_8_method_2_code_43 (pc' := 44) rfl rfl ?_
      refine k_icmp_ge Kl d_prog_8_method_2_code_44 (by decide) (pc' := 188) (pc2 := 47) (by decide) rfl (fun hc44 => ?_) (fun q => absurd q (by rw [own_i32, hj, ho]; omega))
      refine k_new Kl (w54 hw) (w55 hw) (w37 hw) d_prog_8_method_2_code_188 (pc' := 191) rfl (by decide) (by decide) ?_
      intro T61 h61 a61 g61 K61 E61 tr61 sf_a61 X_a61 D61 U61
      have ga_a61 : n0 ≤ a61 := own_old Kl.old g61
      have F_a61_line : Fld Z h61 a61 "com/example/object_sieve/objectsieve/query/TextPosition" "line" "I" (.int (0 : Int32)) := D61 (Or.inr (w66 hw)) (ty := .int) (by decide)
      have F_a61_column : Fld Z h61 a61 "com/example/object_sieve/objectsieve/query/TextPosition" "column" "I" (.int (0 : Int32)) := D61 (Or.inr (w68 hw)) (ty := .int) (by decide)
      refine k_dup K61 d_prog_8_method_2_code_191 (pc' := 192) rfl rfl ?_
      refine k_iloadN K61 d_prog_8_method_2_code_192 (pc' := 193) rfl rfl ?_
      refine k_iloadN K61 d_prog_8_method_2_code_193 (pc' := 194) rfl rfl ?_
      refine k_special K61 [(.int li), (.int ci)] [(.ref a61)] 1 (w56 hw) (w57 hw) (w37 hw) (w58 hw) rfl rfl (by decide) pd__II_V_999 (c_tpinit l Z a0 hw hEW n0 a61 li ci _ _ h61 K61.old X_a61 F_a61_line F_a61_column ga_a61 (by rw [own_i32, hli, own_1]; omega) (by rw [own_i32, hci, own_1]; omega)) d_prog_8_method_2_code_194 (fun x hx => by cases List.mem_singleton.mp hx; exact ⟨X_a61.lt, sf_a61⟩) (pc' := 197) rfl rfl rfl rfl (Nat.le_of_eq rfl) (by decide) (by decide) (by decide) (by decide) ?_
      intro b62 T62 h62 L62 v62 K62 tr62 q62
      obtain ⟨rfl, q1, q2, q3⟩ := q62
      rw [el] at q2
      rw [ec] at q3
      show Goes p_.tables e_ below_ _ (T62.setTop (mkF m_ 197 #[.val (.ref a), .val (.int off), .val (.int li), .val (.int ci), .val (.int ii), s5, s6, s7, s8] [(.ref a61)]))
      exact k_aret K62 d_prog_8_method_2_code_197 rfl rfl rfl (fun sf ht => ⟨a61, rfl, q1, q2, q3⟩) (by decide) (by decide)
    | succ k ih =>
      intro li ci ii j hj hk hli hci s5 hs5 s6 hs6 s7 hs7 s8 hs8 bl Tl hl Ll Kl ehl
      subst ehl
      have hjl : j < cs.length := by omega
      have gb := goC_b (cs.map cl) j
      have g1 := List.getElem?_eq_getElem hjl
      have hj1 := own_add1 hj (by omega)
      have JC : ∀ (f6 f7 f8 : Int32) (hf7 : f7 = if endC (cs.map cl) (cs.map cl).length j = true then 1 else 0) (hf8 : f8 = if pairC (cs.map cl) j = true then 1 else 0) (b63 T63 : State) (L63 : List Loc), Wk p_ l e_ ({ frames := 5, cells := 1, slots := 2, locals := 66 } : Room) s_ m_ #[(.ref a), (.int off)] below_ meth_ c_ Z a0 EL0 n0 (⟨"com/example/object_sieve/objectsieve/query/TextPosition", "of", "(Ljava/lang/CharSequence;I)Lcom/example/object_sieve/objectsieve/query/TextPosition;"⟩ : MethodName) prog_8_method_2_code 9 (some (.object "com/example/object_sieve/objectsieve/query/TextPosition")) b63 T63 hl L63 0 0 → Goes p_.tables e_ below_ (FinW Z EL0 s_ n0 ({ frames := 5, cells := 1, slots := 2, locals := 66 } : Room) (fun v h sf => ∃ p, v = some (.ref p) ∧ Exa Z h p "com/example/object_sieve/objectsieve/query/TextPosition" ∧ Fld Z h p "com/example/object_sieve/objectsieve/query/TextPosition" "line" "I" (.int (Int32.ofNat (goC (cs.map cl) oo).1)) ∧ Fld Z h p "com/example/object_sieve/objectsieve/query/TextPosition" "column" "I" (.int (Int32.ofNat (goC (cs.map cl) oo).2)))) (T63.setTop (mkF m_ 159 #[.val (.ref a), .val (.int off), .val (.int li), .val (.int ci), .val (.int ii), .val (.int cs[j]), .val (.int f6), .val (.int f7), s8] [(.int f8)])) := by
        intro f6 f7 f8 hf7 hf8 b63 T63 L63 K63
        refine k_istore K63 d_prog_8_method_2_code_159 (pc' := 161) (L' := #[.val (.ref a), .val (.int off), .val (.int li), .val (.int ci), .val (.int ii), .val (.int cs[j]), .val (.int f6), .val (.int f7), .val (.int f8)]) rfl (by rcases hs8 with rfl | ⟨w, rfl⟩ <;> rfl) ?_
        refine k_iload K63 d_prog_8_method_2_code_161 (pc' := 163) rfl rfl ?_
        refine k_if_eq K63 d_prog_8_method_2_code_163 (by decide) (pc' := 174) (pc2 := 166) (by decide) rfl (fun hc163 => ?_) (fun hc163 => ?_)
        · have hE : ¬ endC (cs.map cl) (cs.map cl).length j = true := own_ifEq (hf7 ▸ hc163)
          refine k_iload K63 d_prog_8_method_2_code_174 (pc' := 176) rfl rfl ?_
          refine k_if_ne K63 d_prog_8_method_2_code_176 (by decide) (pc' := 182) (pc2 := 179) (by decide) rfl (fun hc176 => ?_) (fun hc176 => ?_)
          · have hP : pairC (cs.map cl) j = true := own_ifNe (hf8 ▸ hc176)
            refine k_iinc K63 (1 : Int32) d_prog_8_method_2_code_182 (pc' := 185) (L' := #[.val (.ref a), .val (.int off), .val (.int li), .val (.int ci), .val (.int (ii + (1 : Int32))), .val (.int cs[j]), .val (.int f6), .val (.int f7), .val (.int f8)]) rfl rfl rfl rfl ?_
            refine k_goto K63 d_prog_8_method_2_code_185 (by decide) (pc' := 41) (by decide) ?_
            exact ih _ _ _ (j + 1) hj1 (by omega) (by rw [goC, if_neg hE, if_pos hP]; exact hli) (by rw [goC, if_neg hE, if_pos hP]; exact hci) _ (Or.inr ⟨_, rfl⟩) _ (Or.inr ⟨_, rfl⟩) _ (Or.inr ⟨_, rfl⟩) _ (Or.inr ⟨_, rfl⟩) _ _ _ _ K63 rfl
          · have hP : ¬ pairC (cs.map cl) j = true := own_ifEq (hf8 ▸ hc176)
            refine k_iinc K63 (1 : Int32) d_prog_8_method_2_code_179 (pc' := 182) (L' := #[.val (.ref a), .val (.int off), .val (.int li), .val (.int (ci + (1 : Int32))), .val (.int ii), .val (.int cs[j]), .val (.int f6), .val (.int f7), .val (.int f8)]) rfl rfl rfl rfl ?_
            refine k_iinc K63 (1 : Int32) d_prog_8_method_2_code_182 (pc' := 185) (L' := #[.val (.ref a), .val (.int off), .val (.int li), .val (.int (ci + (1 : Int32))), .val (.int (ii + (1 : Int32))), .val (.int cs[j]), .val (.int f6), .val (.int f7), .val (.int f8)]) rfl rfl rfl rfl ?_
            refine k_goto K63 d_prog_8_method_2_code_185 (by decide) (pc' := 41) (by decide) ?_
            exact ih _ _ _ (j + 1) hj1 (by omega) (by rw [goC, if_neg hE, if_neg hP]; exact hli) (by rw [goC, if_neg hE, if_neg hP]; exact own_add1 hci (by omega)) _ (Or.inr ⟨_, rfl⟩) _ (Or.inr ⟨_, rfl⟩) _ (Or.inr ⟨_, rfl⟩) _ (Or.inr ⟨_, rfl⟩) _ _ _ _ K63 rfl
        · have hE : endC (cs.map cl) (cs.map cl).length j = true := own_ifNe (hf7 ▸ hc163)
          refine k_iinc K63 (1 : Int32) d_prog_8_method_2_code_166 (pc' := 169) (L' := #[.val (.ref a), .val (.int off), .val (.int (li + (1 : Int32))), .val (.int ci), .val (.int ii), .val (.int cs[j]), .val (.int f6), .val (.int f7), .val (.int f8)]) rfl rfl rfl rfl ?_
          refine k_iconst K63 (1 : Int32) d_prog_8_method_2_code_169 (pc' := 170) rfl rfl ?_
          refine k_istoreN K63 d_prog_8_method_2_code_170 (pc' := 171) (L' := #[.val (.ref a), .val (.int off), .val (.int (li + (1 : Int32))), .val (.int (1 : Int32)), .val (.int ii), .val (.int cs[j]), .val (.int f6), .val (.int f7), .val (.int f8)]) rfl rfl ?_
          refine k_goto K63 d_prog_8_method_2_code_171 (by decide) (pc' := 182) (by decide) ?_
          refine k_iinc K63 (1 : Int32) d_prog_8_method_2_code_182 (pc' := 185) (L' := #[.val (.ref a), .val (.int off), .val (.int (li + (1 : Int32))), .val (.int (1 : Int32)), .val (.int (ii + (1 : Int32))), .val (.int cs[j]), .val (.int f6), .val (.int f7), .val (.int f8)]) rfl rfl rfl rfl ?_
          refine k_goto K63 d_prog_8_method_2_code_185 (by decide) (pc' := 41) (by decide) ?_
          exact ih _ _ _ (j + 1) hj1 (by omega) (by rw [goC, if_pos hE]; exact own_add1 hli (by omega)) (by rw [goC, if_pos hE]; rfl) _ (Or.inr ⟨_, rfl⟩) _ (Or.inr ⟨_, rfl⟩) _ (Or.inr ⟨_, rfl⟩) _ (Or.inr ⟨_, rfl⟩) _ _ _ _ K63 rfl
      have JB : ∀ (f6 f7 : Int32) (hf7 : f7 = if endC (cs.map cl) (cs.map cl).length j = true then 1 else 0) (b64 T64 : State) (L64 : List Loc), Wk p_ l e_ ({ frames := 5, cells := 1, slots := 2, locals := 66 } : Room) s_ m_ #[(.ref a), (.int off)] below_ meth_ c_ Z a0 EL0 n0 (⟨"com/example/object_sieve/objectsieve/query/TextPosition", "of", "(Ljava/lang/CharSequence;I)Lcom/example/object_sieve/objectsieve/query/TextPosition;"⟩ : MethodName) prog_8_method_2_code 9 (some (.object "com/example/object_sieve/objectsieve/query/TextPosition")) b64 T64 hl L64 0 0 → Goes p_.tables e_ below_ (FinW Z EL0 s_ n0 ({ frames := 5, cells := 1, slots := 2, locals := 66 } : Room) (fun v h sf => ∃ p, v = some (.ref p) ∧ Exa Z h p "com/example/object_sieve/objectsieve/query/TextPosition" ∧ Fld Z h p "com/example/object_sieve/objectsieve/query/TextPosition" "line" "I" (.int (Int32.ofNat (goC (cs.map cl) oo).1)) ∧ Fld Z h p "com/example/object_sieve/objectsieve/query/TextPosition" "column" "I" (.int (Int32.ofNat (goC (cs.map cl) oo).2)))) (T64.setTop (mkF m_ 123 #[.val (.ref a), .val (.int off), .val (.int li), .val (.int ci), .val (.int ii), .val (.int cs[j]), .val (.int f6), s7, s8] [(.int f7)])) := by
        intro f6 f7 hf7 b64 T64 L64 K64
        refine k_istore K64 d_prog_8_method_2_code_123 (pc' := 125) (L' := #[.val (.ref a), .val (.int off), .val (.int li), .val (.int ci), .val (.int ii), .val (.int cs[j]), .val (.int f6), .val (.int f7), s8]) rfl (by rcases hs7 with rfl | ⟨w, rfl⟩ <;> rfl) ?_
        refine k_iload K64 d_prog_8_method_2_code_125 (pc' := 127) rfl rfl ?_
        refine k_staticP K64 [(.int cs[j])] [] 0 (w133 hw) (w134 hw) (w135 hw) (w136 hw) (by decide) pd__C_Z_657 (c_jlow l Z a0 hw hEW n0 cs[j] hl K64.old ) d_prog_8_method_2_code_127 nofun (pc' := 130) rfl rfl rfl rfl (Nat.le_of_eq rfl) (by decide) (by decide) (by decide) (by decide) ?_
        intro b65 T65 L65 K65 tr65
        show Goes p_.tables e_ below_ _ (T65.setTop (mkF m_ 130 #[.val (.ref a), .val (.int off), .val (.int li), .val (.int ci), .val (.int ii), .val (.int cs[j]), .val (.int f6), .val (.int f7), s8] [(.int (if cl cs[j] = 3 then 1 else 0))]))
        refine k_if_eq K65 d_prog_8_method_2_code_130 (by decide) (pc' := 158) (pc2 := 133) (by decide) rfl (fun hc130 => ?_) (fun hc130 => ?_)
        · have q := own_ifEq hc130
          refine k_iconst K65 (0 : Int32) d_prog_8_method_2_code_158 (pc' := 159) rfl rfl ?_
          exact JC _ _ _ hf7 (by rw [if_neg (by simp [pairC, g1, q])]) _ _ _ K65
        · have q := own_ifNe hc130
          refine k_iload K65 d_prog_8_method_2_code_133 (pc' := 135) rfl rfl ?_
          refine k_if_le K65 d_prog_8_method_2_code_135 (by decide) (pc' := 158) (pc2 := 138) (by decide) rfl (fun hc135 => ?_) (fun hc135 => ?_)
          · have j0 : ¬ 0 < j := by rw [own_i32, hj, own_0] at hc135; omega
            refine k_iconst K65 (0 : Int32) d_prog_8_method_2_code_158 (pc' := 159) rfl rfl ?_
            exact JC _ _ _ hf7 (by rw [if_neg (by simp [pairC, j0])]) _ _ _ K65
          · have j0 : 0 < j := by rw [own_i32, hj, own_0] at hc135; omega
            have hs1 := own_sub1 hj (by omega) (by omega)
            have hjm : j - 1 < cs.length := by omega
            have g2 := List.getElem?_eq_getElem hjm
            refine k_aloadN K65 d_prog_8_method_2_code_138 (pc' := 139) rfl rfl rfl ?_
            refine k_iload K65 d_prog_8_method_2_code_139 (pc' := 141) rfl rfl ?_
            refine k_iconst K65 (1 : Int32) d_prog_8_method_2_code_141 (pc' := 142) rfl rfl ?_
            refine k_isub K65 d_prog_8_method_2_code_142 (pc' := 143) rfl ?_
            refine k_interfaceP K65 [(.int (ii - (1 : Int32)))] [] 0 (w108 hw) (w109 hw) (mvT K65.hZ (w110 hw)) (w111 hw) (w112 hw) (w113 hw) (w114 hw) (w46 hw) (w10 hw) (w115 hw) rfl (by decide) S.1 (by decide) pd__I_C_577 (c_charAtU l Z a0 hw hEW n0 a d kd n (ii - 1) (j - 1) cs ff cs0 hl K65.old SF hff hn hb4 hs1 hjm hc S SC hcs SA SH SL) d_prog_8_method_2_code_143 nofun (pc' := 148) rfl rfl rfl rfl (Nat.le_of_eq rfl) (by decide) (by decide) (by decide) (by decide) ?_
            intro b66 T66 L66 K66 tr66
            show Goes p_.tables e_ below_ _ (T66.setTop (mkF m_ 148 #[.val (.ref a), .val (.int off), .val (.int li), .val (.int ci), .val (.int ii), .val (.int cs[j]), .val (.int f6), .val (.int f7), s8] [(.int cs[(j - 1)])]))
            refine k_staticP K66 [(.int cs[(j - 1)])] [] 0 (w157 hw) (w158 hw) (w135 hw) (w159 hw) (by decide) pd__C_Z_657 (c_jhigh l Z a0 hw hEW n0 cs[j - 1] hl K66.old ) d_prog_8_method_2_code_148 nofun (pc' := 151) rfl rfl rfl rfl (Nat.le_of_eq rfl) (by decide) (by decide) (by decide) (by decide) ?_
            intro b67 T67 L67 K67 tr67
            show Goes p_.tables e_ below_ _ (T67.setTop (mkF m_ 151 #[.val (.ref a), .val (.int off), .val (.int li), .val (.int ci), .val (.int ii), .val (.int cs[j]), .val (.int f6), .val (.int f7), s8] [(.int (if cl cs[j - 1] = 2 then 1 else 0))]))
            refine k_if_eq K67 d_prog_8_method_2_code_151 (by decide) (pc' := 158) (pc2 := 154) (by decide) rfl (fun hc151 => ?_) (fun hc151 => ?_)
            · have r := own_ifEq hc151
              refine k_iconst K67 (0 : Int32) d_prog_8_method_2_code_158 (pc' := 159) rfl rfl ?_
              exact JC _ _ _ hf7 (by rw [if_neg (by simp [pairC, g2, r])]) _ _ _ K67
            · have r := own_ifNe hc151
              refine k_iconst K67 (1 : Int32) d_prog_8_method_2_code_154 (pc' := 155) rfl rfl ?_
              refine k_goto K67 d_prog_8_method_2_code_155 (by decide) (pc' := 159) (by decide) ?_
              exact JC _ _ _ hf7 (by rw [if_pos (by simp [pairC, g1, g2, j0, q, r])]) _ _ _ K67
      have JA : ∀ (f6 : Int32) (hf6 : f6 = if crC (cs.map cl) (cs.map cl).length j = true then 1 else 0) (b68 T68 : State) (L68 : List Loc), Wk p_ l e_ ({ frames := 5, cells := 1, slots := 2, locals := 66 } : Room) s_ m_ #[(.ref a), (.int off)] below_ meth_ c_ Z a0 EL0 n0 (⟨"com/example/object_sieve/objectsieve/query/TextPosition", "of", "(Ljava/lang/CharSequence;I)Lcom/example/object_sieve/objectsieve/query/TextPosition;"⟩ : MethodName) prog_8_method_2_code 9 (some (.object "com/example/object_sieve/objectsieve/query/TextPosition")) b68 T68 hl L68 0 0 → Goes p_.tables e_ below_ (FinW Z EL0 s_ n0 ({ frames := 5, cells := 1, slots := 2, locals := 66 } : Room) (fun v h sf => ∃ p, v = some (.ref p) ∧ Exa Z h p "com/example/object_sieve/objectsieve/query/TextPosition" ∧ Fld Z h p "com/example/object_sieve/objectsieve/query/TextPosition" "line" "I" (.int (Int32.ofNat (goC (cs.map cl) oo).1)) ∧ Fld Z h p "com/example/object_sieve/objectsieve/query/TextPosition" "column" "I" (.int (Int32.ofNat (goC (cs.map cl) oo).2)))) (T68.setTop (mkF m_ 97 #[.val (.ref a), .val (.int off), .val (.int li), .val (.int ci), .val (.int ii), .val (.int cs[j]), s6, s7, s8] [(.int f6)])) := by
        intro f6 hf6 b68 T68 L68 K68
        refine k_istore K68 d_prog_8_method_2_code_97 (pc' := 99) (L' := #[.val (.ref a), .val (.int off), .val (.int li), .val (.int ci), .val (.int ii), .val (.int cs[j]), .val (.int f6), s7, s8]) rfl (by rcases hs6 with rfl | ⟨w, rfl⟩ <;> rfl) ?_
        refine k_iload K68 d_prog_8_method_2_code_99 (pc' := 101) rfl rfl ?_
        refine k_bipush K68 (10 : Int32) d_prog_8_method_2_code_101 (pc' := 103) rfl rfl ?_
        refine k_icmp_eq K68 d_prog_8_method_2_code_103 (by decide) (pc' := 113) (pc2 := 106) (by decide) rfl (fun hc103 => ?_) (fun hc103 => ?_)
        · have k10 : cl cs[j] = 0 := (cl_lf _).mpr hc103
          refine k_iload K68 d_prog_8_method_2_code_113 (pc' := 115) rfl rfl ?_
          refine k_if_ne K68 d_prog_8_method_2_code_115 (by decide) (pc' := 122) (pc2 := 118) (by decide) rfl (fun hc115 => ?_) (fun hc115 => ?_)
          · have q := own_ifNe (hf6 ▸ hc115)
            rw [hml] at q
            refine k_iconst K68 (0 : Int32) d_prog_8_method_2_code_122 (pc' := 123) rfl rfl ?_
            exact JB _ _ (by rw [if_neg (by simp [endC, q])]) _ _ _ K68
          · have q := own_ifEq (hf6 ▸ hc115)
            rw [hml] at q
            refine k_iconst K68 (1 : Int32) d_prog_8_method_2_code_118 (pc' := 119) rfl rfl ?_
            refine k_goto K68 d_prog_8_method_2_code_119 (by decide) (pc' := 123) (by decide) ?_
            exact JB _ _ (by rw [if_pos (by simp only [Bool.not_eq_true] at q; simp [endC, g1, k10, q])]) _ _ _ K68
        · have k10 : ¬ cl cs[j] = 0 := fun q => hc103 ((cl_lf _).mp q)
          refine k_iload K68 d_prog_8_method_2_code_106 (pc' := 108) rfl rfl ?_
          refine k_bipush K68 (13 : Int32) d_prog_8_method_2_code_108 (pc' := 110) rfl rfl ?_
          refine k_icmp_ne K68 d_prog_8_method_2_code_110 (by decide) (pc' := 122) (pc2 := 113) (by decide) rfl (fun hc110 => ?_) (fun hc110 => ?_)
          · have k13 : ¬ cl cs[j] = 1 := fun q => hc110 ((cl_cr _).mp q)
            refine k_iconst K68 (0 : Int32) d_prog_8_method_2_code_122 (pc' := 123) rfl rfl ?_
            exact JB _ _ (by rw [if_neg (by simp [endC, g1, k10, k13])]) _ _ _ K68
          · have k13 : cl cs[j] = 1 := (cl_cr _).mpr hc110
            refine k_iload K68 d_prog_8_method_2_code_113 (pc' := 115) rfl rfl ?_
            refine k_if_ne K68 d_prog_8_method_2_code_115 (by decide) (pc' := 122) (pc2 := 118) (by decide) rfl (fun hc115 => ?_) (fun hc115 => ?_)
            · have q := own_ifNe (hf6 ▸ hc115)
              rw [hml] at q
              refine k_iconst K68 (0 : Int32) d_prog_8_method_2_code_122 (pc' := 123) rfl rfl ?_
              exact JB _ _ (by rw [if_neg (by simp [endC, q])]) _ _ _ K68
            · have q := own_ifEq (hf6 ▸ hc115)
              rw [hml] at q
              refine k_iconst K68 (1 : Int32) d_prog_8_method_2_code_118 (pc' := 119) rfl rfl ?_
              refine k_goto K68 d_prog_8_method_2_code_119 (by decide) (pc' := 123) (by decide) ?_
              exact JB _ _ (by rw [if_pos (by simp only [Bool.not_eq_true] at q; simp [endC, g1, k13, q])]) _ _ _ K68
      refine k_iload Kl d_prog_8_method_2_code_41 (pc' := 43) rfl rfl ?_
      refine k_iloadN Kl d_prog_8_method_2_code_43 (pc' := 44) rfl rfl ?_
      refine k_icmp_ge Kl d_prog_8_method_2_code_44 (by decide) (pc' := 188) (pc2 := 47) (by decide) rfl (fun q => absurd (by rw [own_i32, hj, ho]; omega) q) (fun hc44 => ?_)
      refine k_aloadN Kl d_prog_8_method_2_code_47 (pc' := 48) rfl rfl rfl ?_
      refine k_iload Kl d_prog_8_method_2_code_48 (pc' := 50) rfl rfl ?_
      refine k_interfaceP Kl [(.int ii)] [] 0 (w108 hw) (w109 hw) (mvT Kl.hZ (w110 hw)) (w111 hw) (w112 hw) (w113 hw) (w114 hw) (w46 hw) (w10 hw) (w115 hw) rfl (by decide) S.1 (by decide) pd__I_C_577 (c_charAtU l Z a0 hw hEW n0 a d kd n ii j cs ff cs0 hl Kl.old SF hff hn hb4 hj hjl hc S SC hcs SA SH SL) d_prog_8_method_2_code_50 nofun (pc' := 55) rfl rfl rfl rfl (Nat.le_of_eq rfl) (by decide) (by decide) (by decide) (by decide) ?_
      intro b69 T69 L69 K69 tr69
      show Goes p_.tables e_ below_ _ (T69.setTop (mkF m_ 55 #[.val (.ref a), .val (.int off), .val (.int li), .val (.int ci), .val (.int ii), s5, s6, s7, s8] [(.int cs[j])]))
      refine k_istore K69 d_prog_8_method_2_code_55 (pc' := 57) (L' := #[.val (.ref a), .val (.int off), .val (.int li), .val (.int ci), .val (.int ii), .val (.int cs[j]), s6, s7, s8]) rfl (by rcases hs5 with rfl | ⟨w, rfl⟩ <;> rfl) ?_
      refine k_iload K69 d_prog_8_method_2_code_57 (pc' := 59) rfl rfl ?_
      refine k_bipush K69 (13 : Int32) d_prog_8_method_2_code_59 (pc' := 61) rfl rfl ?_
      refine k_icmp_ne K69 d_prog_8_method_2_code_61 (by decide) (pc' := 96) (pc2 := 64) (by decide) rfl (fun hc61 => ?_) (fun hc61 => ?_)
      · have k13 : ¬ cl cs[j] = 1 := fun q => hc61 ((cl_cr _).mp q)
        refine k_iconst K69 (0 : Int32) d_prog_8_method_2_code_96 (pc' := 97) rfl rfl ?_
        exact JA _ (by rw [if_neg (by simp [crC, g1, k13])]) _ _ _ K69
      · have k13 : cl cs[j] = 1 := (cl_cr _).mpr hc61
        refine k_iload K69 d_prog_8_method_2_code_64 (pc' := 66) rfl rfl ?_
        refine k_iconst K69 (1 : Int32) d_prog_8_method_2_code_66 (pc' := 67) rfl rfl ?_
        refine k_iadd K69 d_prog_8_method_2_code_67 (pc' := 68) rfl ?_
        refine k_aloadN K69 d_prog_8_method_2_code_68 (pc' := 69) rfl rfl rfl ?_
        refine k_interfaceP K69 [] [(.int (ii + (1 : Int32)))] 1 (w39 hw) (w40 hw) (mvT K69.hZ (w41 hw)) (w42 hw) (w43 hw) (w44 hw) (w45 hw) (w46 hw) (w10 hw) (w47 hw) rfl (by decide) S.1 (by decide) pd___I_341 (c_length l Z a0 hw hEW n0 a d kd (strCd cs) (strZ n cs) (strVs cs) cs0 hl K69.old S (strCd_01 cs) SC hcs) d_prog_8_method_2_code_69 nofun (pc' := 74) rfl rfl rfl rfl (Nat.le_of_eq rfl) (by decide) (by decide) (by decide) (by decide) ?_
        intro b70 T70 L70 K70 tr70
        show Goes p_.tables e_ below_ _ (T70.setTop (mkF m_ 74 #[.val (.ref a), .val (.int off), .val (.int li), .val (.int ci), .val (.int ii), .val (.int cs[j]), s6, s7, s8] [(.int (strZ n cs >>> (strCd cs &&& 31))), (.int (ii + (1 : Int32)))]))
        rw [own_len hn hb4]
        refine k_icmp_ge K70 d_prog_8_method_2_code_74 (by decide) (pc' := 96) (pc2 := 77) (by decide) rfl (fun hc74 => ?_) (fun hc74 => ?_)
        · have hb1 : ¬ j + 1 < cs.length := by rw [own_i32, hj1, hn] at hc74; omega
          refine k_iconst K70 (0 : Int32) d_prog_8_method_2_code_96 (pc' := 97) rfl rfl ?_
          exact JA _ (by rw [if_neg (by simp [crC, hml, hb1])]) _ _ _ K70
        · have hb1 : j + 1 < cs.length := by rw [own_i32, hj1, hn] at hc74; omega
          have g2 := List.getElem?_eq_getElem hb1
          refine k_aloadN K70 d_prog_8_method_2_code_77 (pc' := 78) rfl rfl rfl ?_
          refine k_iload K70 d_prog_8_method_2_code_78 (pc' := 80) rfl rfl ?_
          refine k_iconst K70 (1 : Int32) d_prog_8_method_2_code_80 (pc' := 81) rfl rfl ?_
          refine k_iadd K70 d_prog_8_method_2_code_81 (pc' := 82) rfl ?_
          refine k_interfaceP K70 [(.int (ii + (1 : Int32)))] [] 0 (w108 hw) (w109 hw) (mvT K70.hZ (w110 hw)) (w111 hw) (w112 hw) (w113 hw) (w114 hw) (w46 hw) (w10 hw) (w115 hw) rfl (by decide) S.1 (by decide) pd__I_C_577 (c_charAtU l Z a0 hw hEW n0 a d kd n (ii + 1) (j + 1) cs ff cs0 hl K70.old SF hff hn hb4 hj1 hb1 hc S SC hcs SA SH SL) d_prog_8_method_2_code_82 nofun (pc' := 87) rfl rfl rfl rfl (Nat.le_of_eq rfl) (by decide) (by decide) (by decide) (by decide) ?_
          intro b71 T71 L71 K71 tr71
          show Goes p_.tables e_ below_ _ (T71.setTop (mkF m_ 87 #[.val (.ref a), .val (.int off), .val (.int li), .val (.int ci), .val (.int ii), .val (.int cs[j]), s6, s7, s8] [(.int cs[(j + 1)])]))
          refine k_bipush K71 (10 : Int32) d_prog_8_method_2_code_87 (pc' := 89) rfl rfl ?_
          refine k_icmp_ne K71 d_prog_8_method_2_code_89 (by decide) (pc' := 96) (pc2 := 92) (by decide) rfl (fun hc89 => ?_) (fun hc89 => ?_)
          · have k2 : ¬ cl cs[j + 1] = 0 := fun q => hc89 ((cl_lf _).mp q)
            refine k_iconst K71 (0 : Int32) d_prog_8_method_2_code_96 (pc' := 97) rfl rfl ?_
            exact JA _ (by rw [if_neg (by simp [crC, g2, k2])]) _ _ _ K71
          · have k2 : cl cs[j + 1] = 0 := (cl_lf _).mpr hc89
            refine k_iconst K71 (1 : Int32) d_prog_8_method_2_code_92 (pc' := 93) rfl rfl ?_
            refine k_goto K71 d_prog_8_method_2_code_93 (by decide) (pc' := 97) (by decide) ?_
            exact JA _ (by rw [if_pos (by simp [crC, g1, g2, hml, k13, hb1, k2])]) _ _ _ K71
  exact LOOP oo 1 1 0 0 rfl (by omega) rfl rfl _ (Or.inl rfl) _ (Or.inl rfl) _ (Or.inl rfl) _ (Or.inl rfl) _ _ _ _ K59 rfl
theorem w8 {Z : State} {a0 : Array Value} (hw : Tb a0 Z) : (Jvm.Cond.classLink "com/example/object_sieve/objectsieve/query/TextPositionOfPinLaw" (25 : Nat) "java/lang/String").before a0 Z = true := hw _ (List.mem_of_getElem? (i := 8) rfl)
theorem w11 {Z : State} {a0 : Array Value} (hw : Tb a0 Z) : (Jvm.Cond.methodLink "com/example/object_sieve/objectsieve/query/TextPositionOfPinLaw" (27 : Nat) ({ cls := "java/lang/String", name := "<init>", desc := "([C)V" } : Jvm.MethodName)).before a0 Z = true := hw _ (List.mem_of_getElem? (i := 11) rfl)
theorem w13 {Z : State} {a0 : Array Value} (hw : Tb a0 Z) : (Jvm.Cond.code ({ cls := "java/lang/String", name := "<init>", desc := "([C)V" } : Jvm.MethodName) jdk_42_method_3_code (2 : Nat) (Option.none : Option Jvm.ClassFile.FieldType)).before a0 Z = true := hw _ (List.mem_of_getElem? (i := 13) rfl)
theorem w12 {Z : State} {a0 : Array Value} (hw : Tb a0 Z) : (Jvm.Cond.instanceMethod ({ cls := "java/lang/String", name := "<init>", desc := "([C)V" } : Jvm.MethodName)).before a0 Z = true := hw _ (List.mem_of_getElem? (i := 12) rfl)
theorem pd___C_V_1017 : parseMethodDescriptor "([C)V" = some ⟨[(.array .char)], none⟩ := by decide +kernel
theorem w29 {Z : State} {a0 : Array Value} (hw : Tb a0 Z) : (Jvm.Cond.methodLink "com/example/object_sieve/objectsieve/query/TextPositionOfPinLaw" (30 : Nat) ({ cls := "com/example/object_sieve/objectsieve/query/TextPositionOfPinLaw", name := "endsBefore", desc := "([CIII)I" } : Jvm.MethodName)).before a0 Z = true := hw _ (List.mem_of_getElem? (i := 29) rfl)
theorem w31 {Z : State} {a0 : Array Value} (hw : Tb a0 Z) : (Jvm.Cond.code ({ cls := "com/example/object_sieve/objectsieve/query/TextPositionOfPinLaw", name := "endsBefore", desc := "([CIII)I" } : Jvm.MethodName) method_5_code (5 : Nat) (Option.some Jvm.ClassFile.FieldType.int)).before a0 Z = true := hw _ (List.mem_of_getElem? (i := 31) rfl)
theorem w30 {Z : State} {a0 : Array Value} (hw : Tb a0 Z) : (Jvm.Cond.static ({ cls := "com/example/object_sieve/objectsieve/query/TextPositionOfPinLaw", name := "endsBefore", desc := "([CIII)I" } : Jvm.MethodName)).before a0 Z = true := hw _ (List.mem_of_getElem? (i := 30) rfl)
theorem pd___CIII_I_2389 : parseMethodDescriptor "([CIII)I" = some ⟨[(.array .char), .int, .int, .int], some .int⟩ := by decide +kernel
theorem w32 {Z : State} {a0 : Array Value} (hw : Tb a0 Z) : (Jvm.Cond.methodLink "com/example/object_sieve/objectsieve/query/TextPositionOfPinLaw" (34 : Nat) ({ cls := "com/example/object_sieve/objectsieve/query/TextPositionOfPinLaw", name := "width", desc := "([CIII)I" } : Jvm.MethodName)).before a0 Z = true := hw _ (List.mem_of_getElem? (i := 32) rfl)
theorem w34 {Z : State} {a0 : Array Value} (hw : Tb a0 Z) : (Jvm.Cond.code ({ cls := "com/example/object_sieve/objectsieve/query/TextPositionOfPinLaw", name := "width", desc := "([CIII)I" } : Jvm.MethodName) method_6_code (4 : Nat) (Option.some Jvm.ClassFile.FieldType.int)).before a0 Z = true := hw _ (List.mem_of_getElem? (i := 34) rfl)
theorem w33 {Z : State} {a0 : Array Value} (hw : Tb a0 Z) : (Jvm.Cond.static ({ cls := "com/example/object_sieve/objectsieve/query/TextPositionOfPinLaw", name := "width", desc := "([CIII)I" } : Jvm.MethodName)).before a0 Z = true := hw _ (List.mem_of_getElem? (i := 33) rfl)
theorem w35 {Z : State} {a0 : Array Value} (hw : Tb a0 Z) : (Jvm.Cond.methodLink "com/example/object_sieve/objectsieve/query/TextPositionOfPinLaw" (37 : Nat) ({ cls := "com/example/object_sieve/objectsieve/query/TextPosition", name := "of", desc := "(Ljava/lang/CharSequence;I)Lcom/example/object_sieve/objectsieve/query/TextPosition;" } : Jvm.MethodName)).before a0 Z = true := hw _ (List.mem_of_getElem? (i := 35) rfl)
theorem w38 {Z : State} {a0 : Array Value} (hw : Tb a0 Z) : (Jvm.Cond.code ({ cls := "com/example/object_sieve/objectsieve/query/TextPosition", name := "of", desc := "(Ljava/lang/CharSequence;I)Lcom/example/object_sieve/objectsieve/query/TextPosition;" } : Jvm.MethodName) prog_8_method_2_code (9 : Nat) (Option.some (Jvm.ClassFile.FieldType.object "com/example/object_sieve/objectsieve/query/TextPosition"))).before a0 Z = true := hw _ (List.mem_of_getElem? (i := 38) rfl)
theorem w36 {Z : State} {a0 : Array Value} (hw : Tb a0 Z) : (Jvm.Cond.static ({ cls := "com/example/object_sieve/objectsieve/query/TextPosition", name := "of", desc := "(Ljava/lang/CharSequence;I)Lcom/example/object_sieve/objectsieve/query/TextPosition;" } : Jvm.MethodName)).before a0 Z = true := hw _ (List.mem_of_getElem? (i := 36) rfl)
theorem pd__Ljava_lang_CharSequence_I_Lcom_example_object_sieve_objects_6221 : parseMethodDescriptor "(Ljava/lang/CharSequence;I)Lcom/example/object_sieve/objectsieve/query/TextPosition;" = some ⟨[(.object "java/lang/CharSequence"), .int], some (.object "com/example/object_sieve/objectsieve/query/TextPosition")⟩ := by decide +kernel
theorem w69 {Z : State} {a0 : Array Value} (hw : Tb a0 Z) : (Jvm.Cond.methodLink "com/example/object_sieve/objectsieve/query/TextPositionOfPinLaw" (43 : Nat) ({ cls := "com/example/object_sieve/objectsieve/query/TextPosition", name := "line", desc := "()I" } : Jvm.MethodName)).before a0 Z = true := hw _ (List.mem_of_getElem? (i := 69) rfl)
theorem w73 {Z : State} {a0 : Array Value} (hw : Tb a0 Z) : (Jvm.Cond.code ({ cls := "com/example/object_sieve/objectsieve/query/TextPosition", name := "line", desc := "()I" } : Jvm.MethodName) prog_8_method_6_code (1 : Nat) (Option.some Jvm.ClassFile.FieldType.int)).before a0 Z = true := hw _ (List.mem_of_getElem? (i := 73) rfl)
theorem w72 {Z : State} {a0 : Array Value} (hw : Tb a0 Z) : (Jvm.Cond.selects "com/example/object_sieve/objectsieve/query/TextPosition" ({ cls := "com/example/object_sieve/objectsieve/query/TextPosition", name := "line", desc := "()I" } : Jvm.MethodName) ({ cls := "com/example/object_sieve/objectsieve/query/TextPosition", name := "line", desc := "()I" } : Jvm.MethodName)).before a0 Z = true := hw _ (List.mem_of_getElem? (i := 72) rfl)
theorem w70 {Z : State} {a0 : Array Value} (hw : Tb a0 Z) : (Jvm.Cond.declares ({ cls := "com/example/object_sieve/objectsieve/query/TextPosition", name := "line", desc := "()I" } : Jvm.MethodName)).before a0 Z = true := hw _ (List.mem_of_getElem? (i := 70) rfl)
theorem w71 {Z : State} {a0 : Array Value} (hw : Tb a0 Z) : (Jvm.Cond.instanceMethod ({ cls := "com/example/object_sieve/objectsieve/query/TextPosition", name := "line", desc := "()I" } : Jvm.MethodName)).before a0 Z = true := hw _ (List.mem_of_getElem? (i := 71) rfl)
theorem w74 {Z : State} {a0 : Array Value} (hw : Tb a0 Z) : (Jvm.Cond.methodLink "com/example/object_sieve/objectsieve/query/TextPositionOfPinLaw" (47 : Nat) ({ cls := "com/example/object_sieve/objectsieve/query/TextPosition", name := "column", desc := "()I" } : Jvm.MethodName)).before a0 Z = true := hw _ (List.mem_of_getElem? (i := 74) rfl)
theorem w78 {Z : State} {a0 : Array Value} (hw : Tb a0 Z) : (Jvm.Cond.code ({ cls := "com/example/object_sieve/objectsieve/query/TextPosition", name := "column", desc := "()I" } : Jvm.MethodName) prog_8_method_7_code (1 : Nat) (Option.some Jvm.ClassFile.FieldType.int)).before a0 Z = true := hw _ (List.mem_of_getElem? (i := 78) rfl)
theorem w77 {Z : State} {a0 : Array Value} (hw : Tb a0 Z) : (Jvm.Cond.selects "com/example/object_sieve/objectsieve/query/TextPosition" ({ cls := "com/example/object_sieve/objectsieve/query/TextPosition", name := "column", desc := "()I" } : Jvm.MethodName) ({ cls := "com/example/object_sieve/objectsieve/query/TextPosition", name := "column", desc := "()I" } : Jvm.MethodName)).before a0 Z = true := hw _ (List.mem_of_getElem? (i := 77) rfl)
theorem w75 {Z : State} {a0 : Array Value} (hw : Tb a0 Z) : (Jvm.Cond.declares ({ cls := "com/example/object_sieve/objectsieve/query/TextPosition", name := "column", desc := "()I" } : Jvm.MethodName)).before a0 Z = true := hw _ (List.mem_of_getElem? (i := 75) rfl)
theorem w76 {Z : State} {a0 : Array Value} (hw : Tb a0 Z) : (Jvm.Cond.instanceMethod ({ cls := "com/example/object_sieve/objectsieve/query/TextPosition", name := "column", desc := "()I" } : Jvm.MethodName)).before a0 Z = true := hw _ (List.mem_of_getElem? (i := 76) rfl)
theorem w1 {Z : State} {a0 : Array Value} (hw : Tb a0 Z) : (Jvm.Cond.arrayClass Jvm.ClassFile.FieldType.char).before a0 Z = true := hw _ (List.mem_of_getElem? (i := 1) rfl)
theorem w2 {Z : State} {a0 : Array Value} (hw : Tb a0 Z) : (Jvm.Cond.methodLink "com/example/object_sieve/objectsieve/query/TextPositionOfPinLaw" (21 : Nat) ({ cls := "com/example/object_sieve/objectsieve/query/TextPositionOfPinLaw", name := "draw", desc := "(I)C" } : Jvm.MethodName)).before a0 Z = true := hw _ (List.mem_of_getElem? (i := 2) rfl)
theorem w5 {Z : State} {a0 : Array Value} (hw : Tb a0 Z) : (Jvm.Cond.code ({ cls := "com/example/object_sieve/objectsieve/query/TextPositionOfPinLaw", name := "draw", desc := "(I)C" } : Jvm.MethodName) method_2_code (3 : Nat) (Option.some Jvm.ClassFile.FieldType.char)).before a0 Z = true := hw _ (List.mem_of_getElem? (i := 5) rfl)
theorem w3 {Z : State} {a0 : Array Value} (hw : Tb a0 Z) : (Jvm.Cond.static ({ cls := "com/example/object_sieve/objectsieve/query/TextPositionOfPinLaw", name := "draw", desc := "(I)C" } : Jvm.MethodName)).before a0 Z = true := hw _ (List.mem_of_getElem? (i := 3) rfl)
set_option maxRecDepth 65536 in
set_option maxHeartbeats 40000000 in
theorem c_law (l : Launch) (Z : State) (a0 : Array Value) (hw : Tb a0 Z) (hEW : EW Z a0 EL0) (n0 : Nat) (xa xb xc xd xs : Int32) (ff : Value) (cs0 : Int32) (h0 : Heap) (O : Old Z n0 h0) (SF : Sta Z Z.heap "jdk/internal/util/Preconditions" "SIOOBE_FORMATTER" "Ljava/util/function/BiFunction;" ff) (hff : ff.isRef = true) (SC : Sta Z Z.heap "java/lang/String" "COMPACT_STRINGS" "Z" (.int cs0)) (hcs : ¬ cs0 = 0) (SA : Sta Z Z.heap "java/lang/StringUTF16" "$assertionsDisabled" "Z" (.int 1)) (SH : Sta Z Z.heap "java/lang/StringUTF16" "HI_BYTE_SHIFT" "I" (.int 0)) (SL : Sta Z Z.heap "java/lang/StringUTF16" "LO_BYTE_SHIFT" "I" (.int 8)) :
    Ct l Z EL0 n0 x code maxLocals ret room_1 #[(.int xa), (.int xb), (.int xc), (.int xd), (.int xs)] h0 [] (fun v _ _ => v = some (.int 1) ∧ True) := by
  refine Ct.of (a0 := a0) #[.val (.int xa), .val (.int xb), .val (.int xc), .val (.int xd), .val (.int xs), .unset, .unset, .unset, .unset, .unset, .unset, .unset, .unset, .unset, .unset, .unset, .unset, .unset] hEW O (plainFor_of_name pl_com_example_object_sieve_objectsieve_query_TextPositionOfPinLaw) (fun m => by first | (simp [entryFrame, mkF, argsToLocals, Value.category, maxLocals]; done) | rfl) ?_
  intro p_ e_ s_ m_ below_ meth_ c_ b_ T_ K hSP
  have hdr : ∀ c ∈ (t4 xa xb xc xd), 0 ≤ c.toInt ∧ c.toInt < 65536 := by
    intro c hc
    simp only [t4, List.mem_cons, List.not_mem_nil, or_false] at hc
    rcases hc with rfl | rfl | rfl | rfl <;> exact dr_b _
  have J : ∀ (n off : Int32) (nn oo : Nat) (hn : n.toInt = nn) (ho : off.toInt = oo) (hle : oo ≤ nn) (h4 : nn ≤ 4) (ta sa : Addr) (kt ks : ClassId) (bl Tl : State) (hl : Heap) (Ll : List Loc), Wk p_ l e_ room_1 s_ m_ #[(.int xa), (.int xb), (.int xc), (.int xd), (.int xs)] below_ meth_ c_ Z a0 EL0 n0 x code maxLocals ret bl Tl hl Ll 2 8 → (Arv Z hl ta kt .char 4 ((t4 xa xb xc xd).map Value.int) (.int 0)) → (Arv Z hl sa ks .char n (((t4 xa xb xc xd).take nn).map Value.int) (.int 0)) → Goes p_.tables e_ below_ (FinW Z EL0 s_ n0 room_1 (fun v _ _ => v = some (.int 1) ∧ True)) (Tl.setTop (mkF m_ 175 #[.val (.int xa), .val (.int xb), .val (.int xc), .val (.int xd), .val (.int xs), .val (.int n), .val (.int off), .val (.ref ta), .val (.ref sa), .unset, .unset, .unset, .unset, .unset, .unset, .unset, .unset, .unset] [])) := by
    intro n off nn oo hn ho hle h4 ta sa kt ks bl Tl hl Ll Kl V_ta V_sa
    have hnl : n.toInt = ((t4 xa xb xc xd).take nn).length := by rw [hn, List.length_take]; simp [t4]; omega
    have hl4 : ((t4 xa xb xc xd).take nn).length ≤ 4 := by rw [List.length_take]; simp [t4]; omega
    have hcl : ∀ c ∈ (t4 xa xb xc xd).take nn, 0 ≤ c.toInt ∧ c.toInt < 65536 := fun c hc => hdr c (List.mem_of_mem_take hc)
    have hts : (t4 xa xb xc xd).length = 4 := rfl
    refine k_new Kl (w8 hw) (w9 hw) (w10 hw) at_175 (pc' := 178) rfl (by decide) (by decide) ?_
    intro T72 h72 a72 g72 K72 E72 tr72 sf_a72 X_a72 D72 U72
    have ga_a72 : n0 ≤ a72 := own_old Kl.old g72
    have ne_ta_a72 : ta ≠ a72 := own_ne V_ta.lt g72
    have ne_sa_a72 : sa ≠ a72 := own_ne V_sa.lt g72
    replace V_ta := V_ta.ext E72
    replace V_sa := V_sa.ext E72
    have F_a72_value : Fld Z h72 a72 "java/lang/String" "value" "[B" .null := D72 (Or.inr (w23 hw)) (ty := (.array .byte)) (by decide)
    have F_a72_coder : Fld Z h72 a72 "java/lang/String" "coder" "B" (.int (0 : Int32)) := D72 (Or.inr (w24 hw)) (ty := .byte) (by decide)
    refine k_dup K72 at_178 (pc' := 179) rfl rfl ?_
    refine k_aload K72 at_179 (pc' := 181) rfl rfl rfl ?_
    refine k_special K72 [(.ref sa)] [(.ref a72)] 1 (w11 hw) (w12 hw) (w10 hw) (w13 hw) rfl rfl (by decide) pd___C_V_1017 (c_init3a l Z a0 hw hEW n0 a72 sa ks n ((t4 xa xb xc xd).take nn) _ _ cs0 h72 K72.old hnl hl4 hcl V_sa X_a72 F_a72_value F_a72_coder ga_a72 (Ne.symm ne_sa_a72) SC hcs SA SH SL) at_181 (fun x hx => by cases List.mem_singleton.mp hx; exact ⟨X_a72.lt, sf_a72⟩) (pc' := 184) rfl rfl rfl rfl (Nat.le_of_eq rfl) (by decide) (by decide) (by decide) (by decide) ?_
    intro b73 T73 h73 L73 v73 K73 tr73 q73
    obtain ⟨rfl, KQ, d, kd, S⟩ := q73
    replace V_ta := V_ta.keep KQ (ninS ne_ta_a72 nin0)
    show Goes p_.tables e_ below_ _ (T73.setTop (mkF m_ 184 #[.val (.int xa), .val (.int xb), .val (.int xc), .val (.int xd), .val (.int xs), .val (.int n), .val (.int off), .val (.ref ta), .val (.ref sa), .unset, .unset, .unset, .unset, .unset, .unset, .unset, .unset, .unset] [(.ref a72)]))
    refine k_astore K73 at_184 (pc' := 186) (L' := #[.val (.int xa), .val (.int xb), .val (.int xc), .val (.int xd), .val (.int xs), .val (.int n), .val (.int off), .val (.ref ta), .val (.ref sa), .val (.ref a72), .unset, .unset, .unset, .unset, .unset, .unset, .unset, .unset]) rfl rfl rfl ?_
    refine k_aload K73 at_186 (pc' := 188) rfl rfl rfl ?_
    refine k_iload K73 at_188 (pc' := 190) rfl rfl ?_
    refine k_iload K73 at_190 (pc' := 192) rfl rfl ?_
    refine k_iconst K73 (0 : Int32) at_192 (pc' := 193) rfl rfl ?_
    refine k_staticP K73 [(.ref ta), (.int n), (.int off), (.int (0 : Int32))] [] 0 (w29 hw) (w30 hw) (w4 hw) (w31 hw) (by decide) pd___CIII_I_2389 (c_ends l Z a0 hw hEW n0 ta kt n off 0 nn oo 0 (t4 xa xb xc xd) h73 K73.old V_ta hts rfl (by decide) hn h4 ho) at_193 nofun (pc' := 196) rfl rfl rfl rfl (Nat.le_of_eq rfl) (by decide) (by decide) (by decide) (by decide) ?_
    intro b74 T74 L74 K74 tr74
    show Goes p_.tables e_ below_ _ (T74.setTop (mkF m_ 196 #[.val (.int xa), .val (.int xb), .val (.int xc), .val (.int xd), .val (.int xs), .val (.int n), .val (.int off), .val (.ref ta), .val (.ref sa), .val (.ref a72), .unset, .unset, .unset, .unset, .unset, .unset, .unset, .unset] [(.int (Int32.ofNat (endN ((t4 xa xb xc xd).map cl) nn oo 0)))]))
    refine k_istore K74 at_196 (pc' := 198) (L' := #[.val (.int xa), .val (.int xb), .val (.int xc), .val (.int xd), .val (.int xs), .val (.int n), .val (.int off), .val (.ref ta), .val (.ref sa), .val (.ref a72), .val (.int (Int32.ofNat (endN ((t4 xa xb xc xd).map cl) nn oo 0))), .unset, .unset, .unset, .unset, .unset, .unset, .unset]) rfl rfl ?_
    refine k_aload K74 at_198 (pc' := 200) rfl rfl rfl ?_
    refine k_iload K74 at_200 (pc' := 202) rfl rfl ?_
    refine k_iload K74 at_202 (pc' := 204) rfl rfl ?_
    refine k_iconst K74 (1 : Int32) at_204 (pc' := 205) rfl rfl ?_
    refine k_staticP K74 [(.ref ta), (.int n), (.int off), (.int (1 : Int32))] [] 0 (w29 hw) (w30 hw) (w4 hw) (w31 hw) (by decide) pd___CIII_I_2389 (c_ends l Z a0 hw hEW n0 ta kt n off 1 nn oo 1 (t4 xa xb xc xd) h73 K74.old V_ta hts rfl (by decide) hn h4 ho) at_205 nofun (pc' := 208) rfl rfl rfl rfl (Nat.le_of_eq rfl) (by decide) (by decide) (by decide) (by decide) ?_
    intro b75 T75 L75 K75 tr75
    show Goes p_.tables e_ below_ _ (T75.setTop (mkF m_ 208 #[.val (.int xa), .val (.int xb), .val (.int xc), .val (.int xd), .val (.int xs), .val (.int n), .val (.int off), .val (.ref ta), .val (.ref sa), .val (.ref a72), .val (.int (Int32.ofNat (endN ((t4 xa xb xc xd).map cl) nn oo 0))), .unset, .unset, .unset, .unset, .unset, .unset, .unset] [(.int (Int32.ofNat (endN ((t4 xa xb xc xd).map cl) nn oo 1)))]))
    refine k_istore K75 at_208 (pc' := 210) (L' := #[.val (.int xa), .val (.int xb), .val (.int xc), .val (.int xd), .val (.int xs), .val (.int n), .val (.int off), .val (.ref ta), .val (.ref sa), .val (.ref a72), .val (.int (Int32.ofNat (endN ((t4 xa xb xc xd).map cl) nn oo 0))), .val (.int (Int32.ofNat (endN ((t4 xa xb xc xd).map cl) nn oo 1))), .unset, .unset, .unset, .unset, .unset, .unset]) rfl rfl ?_
    refine k_aload K75 at_210 (pc' := 212) rfl rfl rfl ?_
    refine k_iload K75 at_212 (pc' := 214) rfl rfl ?_
    refine k_iload K75 at_214 (pc' := 216) rfl rfl ?_
    refine k_iconst K75 (2 : Int32) at_216 (pc' := 217) rfl rfl ?_
    refine k_staticP K75 [(.ref ta), (.int n), (.int off), (.int (2 : Int32))] [] 0 (w29 hw) (w30 hw) (w4 hw) (w31 hw) (by decide) pd___CIII_I_2389 (c_ends l Z a0 hw hEW n0 ta kt n off 2 nn oo 2 (t4 xa xb xc xd) h73 K75.old V_ta hts rfl (by decide) hn h4 ho) at_217 nofun (pc' := 220) rfl rfl rfl rfl (Nat.le_of_eq rfl) (by decide) (by decide) (by decide) (by decide) ?_
    intro b76 T76 L76 K76 tr76
    show Goes p_.tables e_ below_ _ (T76.setTop (mkF m_ 220 #[.val (.int xa), .val (.int xb), .val (.int xc), .val (.int xd), .val (.int xs), .val (.int n), .val (.int off), .val (.ref ta), .val (.ref sa), .val (.ref a72), .val (.int (Int32.ofNat (endN ((t4 xa xb xc xd).map cl) nn oo 0))), .val (.int (Int32.ofNat (endN ((t4 xa xb xc xd).map cl) nn oo 1))), .unset, .unset, .unset, .unset, .unset, .unset] [(.int (Int32.ofNat (endN ((t4 xa xb xc xd).map cl) nn oo 2)))]))
    refine k_istore K76 at_220 (pc' := 222) (L' := #[.val (.int xa), .val (.int xb), .val (.int xc), .val (.int xd), .val (.int xs), .val (.int n), .val (.int off), .val (.ref ta), .val (.ref sa), .val (.ref a72), .val (.int (Int32.ofNat (endN ((t4 xa xb xc xd).map cl) nn oo 0))), .val (.int (Int32.ofNat (endN ((t4 xa xb xc xd).map cl) nn oo 1))), .val (.int (Int32.ofNat (endN ((t4 xa xb xc xd).map cl) nn oo 2))), .unset, .unset, .unset, .unset, .unset]) rfl rfl ?_
    refine k_aload K76 at_222 (pc' := 224) rfl rfl rfl ?_
    refine k_iload K76 at_224 (pc' := 226) rfl rfl ?_
    refine k_iload K76 at_226 (pc' := 228) rfl rfl ?_
    refine k_iconst K76 (3 : Int32) at_228 (pc' := 229) rfl rfl ?_
    refine k_staticP K76 [(.ref ta), (.int n), (.int off), (.int (3 : Int32))] [] 0 (w29 hw) (w30 hw) (w4 hw) (w31 hw) (by decide) pd___CIII_I_2389 (c_ends l Z a0 hw hEW n0 ta kt n off 3 nn oo 3 (t4 xa xb xc xd) h73 K76.old V_ta hts rfl (by decide) hn h4 ho) at_229 nofun (pc' := 232) rfl rfl rfl rfl (Nat.le_of_eq rfl) (by decide) (by decide) (by decide) (by decide) ?_
    intro b77 T77 L77 K77 tr77
    show Goes p_.tables e_ below_ _ (T77.setTop (mkF m_ 232 #[.val (.int xa), .val (.int xb), .val (.int xc), .val (.int xd), .val (.int xs), .val (.int n), .val (.int off), .val (.ref ta), .val (.ref sa), .val (.ref a72), .val (.int (Int32.ofNat (endN ((t4 xa xb xc xd).map cl) nn oo 0))), .val (.int (Int32.ofNat (endN ((t4 xa xb xc xd).map cl) nn oo 1))), .val (.int (Int32.ofNat (endN ((t4 xa xb xc xd).map cl) nn oo 2))), .unset, .unset, .unset, .unset, .unset] [(.int (Int32.ofNat (endN ((t4 xa xb xc xd).map cl) nn oo 3)))]))
    refine k_istore K77 at_232 (pc' := 234) (L' := #[.val (.int xa), .val (.int xb), .val (.int xc), .val (.int xd), .val (.int xs), .val (.int n), .val (.int off), .val (.ref ta), .val (.ref sa), .val (.ref a72), .val (.int (Int32.ofNat (endN ((t4 xa xb xc xd).map cl) nn oo 0))), .val (.int (Int32.ofNat (endN ((t4 xa xb xc xd).map cl) nn oo 1))), .val (.int (Int32.ofNat (endN ((t4 xa xb xc xd).map cl) nn oo 2))), .val (.int (Int32.ofNat (endN ((t4 xa xb xc xd).map cl) nn oo 3))), .unset, .unset, .unset, .unset]) rfl rfl ?_
    refine k_iconst K77 (1 : Int32) at_234 (pc' := 235) rfl rfl ?_
    refine k_iload K77 at_235 (pc' := 237) rfl rfl ?_
    refine k_iadd K77 at_237 (pc' := 238) rfl ?_
    refine k_iload K77 at_238 (pc' := 240) rfl rfl ?_
    refine k_iadd K77 at_240 (pc' := 241) rfl ?_
    refine k_iload K77 at_241 (pc' := 243) rfl rfl ?_
    refine k_iadd K77 at_243 (pc' := 244) rfl ?_
    refine k_iload K77 at_244 (pc' := 246) rfl rfl ?_
    refine k_iadd K77 at_246 (pc' := 247) rfl ?_
    refine k_istore K77 at_247 (pc' := 249) (L' := #[.val (.int xa), .val (.int xb), .val (.int xc), .val (.int xd), .val (.int xs), .val (.int n), .val (.int off), .val (.ref ta), .val (.ref sa), .val (.ref a72), .val (.int (Int32.ofNat (endN ((t4 xa xb xc xd).map cl) nn oo 0))), .val (.int (Int32.ofNat (endN ((t4 xa xb xc xd).map cl) nn oo 1))), .val (.int (Int32.ofNat (endN ((t4 xa xb xc xd).map cl) nn oo 2))), .val (.int (Int32.ofNat (endN ((t4 xa xb xc xd).map cl) nn oo 3))), .val (.int (((((1 : Int32) + (Int32.ofNat (endN ((t4 xa xb xc xd).map cl) nn oo 0))) + (Int32.ofNat (endN ((t4 xa xb xc xd).map cl) nn oo 1))) + (Int32.ofNat (endN ((t4 xa xb xc xd).map cl) nn oo 2))) + (Int32.ofNat (endN ((t4 xa xb xc xd).map cl) nn oo 3)))), .unset, .unset, .unset]) rfl rfl ?_
    refine k_iconst K77 (-1 : Int32) at_249 (pc' := 250) rfl rfl ?_
    refine k_istore K77 at_250 (pc' := 252) (L' := #[.val (.int xa), .val (.int xb), .val (.int xc), .val (.int xd), .val (.int xs), .val (.int n), .val (.int off), .val (.ref ta), .val (.ref sa), .val (.ref a72), .val (.int (Int32.ofNat (endN ((t4 xa xb xc xd).map cl) nn oo 0))), .val (.int (Int32.ofNat (endN ((t4 xa xb xc xd).map cl) nn oo 1))), .val (.int (Int32.ofNat (endN ((t4 xa xb xc xd).map cl) nn oo 2))), .val (.int (Int32.ofNat (endN ((t4 xa xb xc xd).map cl) nn oo 3))), .val (.int (((((1 : Int32) + (Int32.ofNat (endN ((t4 xa xb xc xd).map cl) nn oo 0))) + (Int32.ofNat (endN ((t4 xa xb xc xd).map cl) nn oo 1))) + (Int32.ofNat (endN ((t4 xa xb xc xd).map cl) nn oo 2))) + (Int32.ofNat (endN ((t4 xa xb xc xd).map cl) nn oo 3)))), .val (.int (-1 : Int32)), .unset, .unset]) rfl rfl ?_
    have J15 : ∀ (k15 : Int32) (hk : k15.toInt = ((kN (endN ((t4 xa xb xc xd).map cl) nn oo 0) (endN ((t4 xa xb xc xd).map cl) nn oo 1) (endN ((t4 xa xb xc xd).map cl) nn oo 2) (endN ((t4 xa xb xc xd).map cl) nn oo 3)) : Int) - 1) (b78 T78 : State) (L78 : List Loc), Wk p_ l e_ room_1 s_ m_ #[(.int xa), (.int xb), (.int xc), (.int xd), (.int xs)] below_ meth_ c_ Z a0 EL0 n0 x code maxLocals ret b78 T78 h73 L78 7 24 → Goes p_.tables e_ below_ (FinW Z EL0 s_ n0 room_1 (fun v _ _ => v = some (.int 1) ∧ True)) (T78.setTop (mkF m_ 288 #[.val (.int xa), .val (.int xb), .val (.int xc), .val (.int xd), .val (.int xs), .val (.int n), .val (.int off), .val (.ref ta), .val (.ref sa), .val (.ref a72), .val (.int (Int32.ofNat (endN ((t4 xa xb xc xd).map cl) nn oo 0))), .val (.int (Int32.ofNat (endN ((t4 xa xb xc xd).map cl) nn oo 1))), .val (.int (Int32.ofNat (endN ((t4 xa xb xc xd).map cl) nn oo 2))), .val (.int (Int32.ofNat (endN ((t4 xa xb xc xd).map cl) nn oo 3))), .val (.int (((((1 : Int32) + (Int32.ofNat (endN ((t4 xa xb xc xd).map cl) nn oo 0))) + (Int32.ofNat (endN ((t4 xa xb xc xd).map cl) nn oo 1))) + (Int32.ofNat (endN ((t4 xa xb xc xd).map cl) nn oo 2))) + (Int32.ofNat (endN ((t4 xa xb xc xd).map cl) nn oo 3)))), .val (.int k15), .unset, .unset] [])) := by
      intro k15 hk b78 T78 L78 K78
      refine k_iconst K78 (1 : Int32) at_288 (pc' := 289) rfl rfl ?_
      refine k_aload K78 at_289 (pc' := 291) rfl rfl rfl ?_
      refine k_iload K78 at_291 (pc' := 293) rfl rfl ?_
      refine k_iload K78 at_293 (pc' := 295) rfl rfl ?_
      refine k_iconst K78 (0 : Int32) at_295 (pc' := 296) rfl rfl ?_
      refine k_staticP K78 [(.ref ta), (.int off), (.int k15), (.int (0 : Int32))] [(.int (1 : Int32))] 1 (w32 hw) (w33 hw) (w4 hw) (w34 hw) (by decide) pd___CIII_I_2389 (c_width l Z a0 hw hEW n0 ta kt off k15 0 oo (kN (endN ((t4 xa xb xc xd).map cl) nn oo 0) (endN ((t4 xa xb xc xd).map cl) nn oo 1) (endN ((t4 xa xb xc xd).map cl) nn oo 2) (endN ((t4 xa xb xc xd).map cl) nn oo 3)) 0 (t4 xa xb xc xd) h73 K78.old V_ta hts rfl (by decide) ho hk) at_296 nofun (pc' := 299) rfl rfl rfl rfl (Nat.le_of_eq rfl) (by decide) (by decide) (by decide) (by decide) ?_
      intro b79 T79 L79 K79 tr79
      show Goes p_.tables e_ below_ _ (T79.setTop (mkF m_ 299 #[.val (.int xa), .val (.int xb), .val (.int xc), .val (.int xd), .val (.int xs), .val (.int n), .val (.int off), .val (.ref ta), .val (.ref sa), .val (.ref a72), .val (.int (Int32.ofNat (endN ((t4 xa xb xc xd).map cl) nn oo 0))), .val (.int (Int32.ofNat (endN ((t4 xa xb xc xd).map cl) nn oo 1))), .val (.int (Int32.ofNat (endN ((t4 xa xb xc xd).map cl) nn oo 2))), .val (.int (Int32.ofNat (endN ((t4 xa xb xc xd).map cl) nn oo 3))), .val (.int (((((1 : Int32) + (Int32.ofNat (endN ((t4 xa xb xc xd).map cl) nn oo 0))) + (Int32.ofNat (endN ((t4 xa xb xc xd).map cl) nn oo 1))) + (Int32.ofNat (endN ((t4 xa xb xc xd).map cl) nn oo 2))) + (Int32.ofNat (endN ((t4 xa xb xc xd).map cl) nn oo 3)))), .val (.int k15), .unset, .unset] [(.int (Int32.ofNat (widN ((t4 xa xb xc xd).map cl) oo (kN (endN ((t4 xa xb xc xd).map cl) nn oo 0) (endN ((t4 xa xb xc xd).map cl) nn oo 1) (endN ((t4 xa xb xc xd).map cl) nn oo 2) (endN ((t4 xa xb xc xd).map cl) nn oo 3)) 0))), (.int (1 : Int32))]))
      refine k_iadd K79 at_299 (pc' := 300) rfl ?_
      refine k_aload K79 at_300 (pc' := 302) rfl rfl rfl ?_
      refine k_iload K79 at_302 (pc' := 304) rfl rfl ?_
      refine k_iload K79 at_304 (pc' := 306) rfl rfl ?_
      refine k_iconst K79 (1 : Int32) at_306 (pc' := 307) rfl rfl ?_
      refine k_staticP K79 [(.ref ta), (.int off), (.int k15), (.int (1 : Int32))] [(.int ((1 : Int32) + (Int32.ofNat (widN ((t4 xa xb xc xd).map cl) oo (kN (endN ((t4 xa xb xc xd).map cl) nn oo 0) (endN ((t4 xa xb xc xd).map cl) nn oo 1) (endN ((t4 xa xb xc xd).map cl) nn oo 2) (endN ((t4 xa xb xc xd).map cl) nn oo 3)) 0))))] 1 (w32 hw) (w33 hw) (w4 hw) (w34 hw) (by decide) pd___CIII_I_2389 (c_width l Z a0 hw hEW n0 ta kt off k15 1 oo (kN (endN ((t4 xa xb xc xd).map cl) nn oo 0) (endN ((t4 xa xb xc xd).map cl) nn oo 1) (endN ((t4 xa xb xc xd).map cl) nn oo 2) (endN ((t4 xa xb xc xd).map cl) nn oo 3)) 1 (t4 xa xb xc xd) h73 K79.old V_ta hts rfl (by decide) ho hk) at_307 nofun (pc' := 310) rfl rfl rfl rfl (Nat.le_of_eq rfl) (by decide) (by decide) (by decide) (by decide) ?_
      intro b80 T80 L80 K80 tr80
      show Goes p_.tables e_ below_ _ (T80.setTop (mkF m_ 310 #[.val (.int xa), .val (.int xb), .val (.int xc), .val (.int xd), .val (.int xs), .val (.int n), .val (.int off), .val (.ref ta), .val (.ref sa), .val (.ref a72), .val (.int (Int32.ofNat (endN ((t4 xa xb xc xd).map cl) nn oo 0))), .val (.int (Int32.ofNat (endN ((t4 xa xb xc xd).map cl) nn oo 1))), .val (.int (Int32.ofNat (endN ((t4 xa xb xc xd).map cl) nn oo 2))), .val (.int (Int32.ofNat (endN ((t4 xa xb xc xd).map cl) nn oo 3))), .val (.int (((((1 : Int32) + (Int32.ofNat (endN ((t4 xa xb xc xd).map cl) nn oo 0))) + (Int32.ofNat (endN ((t4 xa xb xc xd).map cl) nn oo 1))) + (Int32.ofNat (endN ((t4 xa xb xc xd).map cl) nn oo 2))) + (Int32.ofNat (endN ((t4 xa xb xc xd).map cl) nn oo 3)))), .val (.int k15), .unset, .unset] [(.int (Int32.ofNat (widN ((t4 xa xb xc xd).map cl) oo (kN (endN ((t4 xa xb xc xd).map cl) nn oo 0) (endN ((t4 xa xb xc xd).map cl) nn oo 1) (endN ((t4 xa xb xc xd).map cl) nn oo 2) (endN ((t4 xa xb xc xd).map cl) nn oo 3)) 1))), (.int ((1 : Int32) + (Int32.ofNat (widN ((t4 xa xb xc xd).map cl) oo (kN (endN ((t4 xa xb xc xd).map cl) nn oo 0) (endN ((t4 xa xb xc xd).map cl) nn oo 1) (endN ((t4 xa xb xc xd).map cl) nn oo 2) (endN ((t4 xa xb xc xd).map cl) nn oo 3)) 0))))]))
      refine k_iadd K80 at_310 (pc' := 311) rfl ?_
      refine k_aload K80 at_311 (pc' := 313) rfl rfl rfl ?_
      refine k_iload K80 at_313 (pc' := 315) rfl rfl ?_
      refine k_iload K80 at_315 (pc' := 317) rfl rfl ?_
      refine k_iconst K80 (2 : Int32) at_317 (pc' := 318) rfl rfl ?_
      refine k_staticP K80 [(.ref ta), (.int off), (.int k15), (.int (2 : Int32))] [(.int (((1 : Int32) + (Int32.ofNat (widN ((t4 xa xb xc xd).map cl) oo (kN (endN ((t4 xa xb xc xd).map cl) nn oo 0) (endN ((t4 xa xb xc xd).map cl) nn oo 1) (endN ((t4 xa xb xc xd).map cl) nn oo 2) (endN ((t4 xa xb xc xd).map cl) nn oo 3)) 0))) + (Int32.ofNat (widN ((t4 xa xb xc xd).map cl) oo (kN (endN ((t4 xa xb xc xd).map cl) nn oo 0) (endN ((t4 xa xb xc xd).map cl) nn oo 1) (endN ((t4 xa xb xc xd).map cl) nn oo 2) (endN ((t4 xa xb xc xd).map cl) nn oo 3)) 1))))] 1 (w32 hw) (w33 hw) (w4 hw) (w34 hw) (by decide) pd___CIII_I_2389 (c_width l Z a0 hw hEW n0 ta kt off k15 2 oo (kN (endN ((t4 xa xb xc xd).map cl) nn oo 0) (endN ((t4 xa xb xc xd).map cl) nn oo 1) (endN ((t4 xa xb xc xd).map cl) nn oo 2) (endN ((t4 xa xb xc xd).map cl) nn oo 3)) 2 (t4 xa xb xc xd) h73 K80.old V_ta hts rfl (by decide) ho hk) at_318 nofun (pc' := 321) rfl rfl rfl rfl (Nat.le_of_eq rfl) (by decide) (by decide) (by decide) (by decide) ?_
      intro b81 T81 L81 K81 tr81
      show Goes p_.tables e_ below_ _ (T81.setTop (mkF m_ 321 #[.val (.int xa), .val (.int xb), .val (.int xc), .val (.int xd), .val (.int xs), .val (.int n), .val (.int off), .val (.ref ta), .val (.ref sa), .val (.ref a72), .val (.int (Int32.ofNat (endN ((t4 xa xb xc xd).map cl) nn oo 0))), .val (.int (Int32.ofNat (endN ((t4 xa xb xc xd).map cl) nn oo 1))), .val (.int (Int32.ofNat (endN ((t4 xa xb xc xd).map cl) nn oo 2))), .val (.int (Int32.ofNat (endN ((t4 xa xb xc xd).map cl) nn oo 3))), .val (.int (((((1 : Int32) + (Int32.ofNat (endN ((t4 xa xb xc xd).map cl) nn oo 0))) + (Int32.ofNat (endN ((t4 xa xb xc xd).map cl) nn oo 1))) + (Int32.ofNat (endN ((t4 xa xb xc xd).map cl) nn oo 2))) + (Int32.ofNat (endN ((t4 xa xb xc xd).map cl) nn oo 3)))), .val (.int k15), .unset, .unset] [(.int (Int32.ofNat (widN ((t4 xa xb xc xd).map cl) oo (kN (endN ((t4 xa xb xc xd).map cl) nn oo 0) (endN ((t4 xa xb xc xd).map cl) nn oo 1) (endN ((t4 xa xb xc xd).map cl) nn oo 2) (endN ((t4 xa xb xc xd).map cl) nn oo 3)) 2))), (.int (((1 : Int32) + (Int32.ofNat (widN ((t4 xa xb xc xd).map cl) oo (kN (endN ((t4 xa xb xc xd).map cl) nn oo 0) (endN ((t4 xa xb xc xd).map cl) nn oo 1) (endN ((t4 xa xb xc xd).map cl) nn oo 2) (endN ((t4 xa xb xc xd).map cl) nn oo 3)) 0))) + (Int32.ofNat (widN ((t4 xa xb xc xd).map cl) oo (kN (endN ((t4 xa xb xc xd).map cl) nn oo 0) (endN ((t4 xa xb xc xd).map cl) nn oo 1) (endN ((t4 xa xb xc xd).map cl) nn oo 2) (endN ((t4 xa xb xc xd).map cl) nn oo 3)) 1))))]))
      refine k_iadd K81 at_321 (pc' := 322) rfl ?_
      refine k_aload K81 at_322 (pc' := 324) rfl rfl rfl ?_
      refine k_iload K81 at_324 (pc' := 326) rfl rfl ?_
      refine k_iload K81 at_326 (pc' := 328) rfl rfl ?_
      refine k_iconst K81 (3 : Int32) at_328 (pc' := 329) rfl rfl ?_
      refine k_staticP K81 [(.ref ta), (.int off), (.int k15), (.int (3 : Int32))] [(.int ((((1 : Int32) + (Int32.ofNat (widN ((t4 xa xb xc xd).map cl) oo (kN (endN ((t4 xa xb xc xd).map cl) nn oo 0) (endN ((t4 xa xb xc xd).map cl) nn oo 1) (endN ((t4 xa xb xc xd).map cl) nn oo 2) (endN ((t4 xa xb xc xd).map cl) nn oo 3)) 0))) + (Int32.ofNat (widN ((t4 xa xb xc xd).map cl) oo (kN (endN ((t4 xa xb xc xd).map cl) nn oo 0) (endN ((t4 xa xb xc xd).map cl) nn oo 1) (endN ((t4 xa xb xc xd).map cl) nn oo 2) (endN ((t4 xa xb xc xd).map cl) nn oo 3)) 1))) + (Int32.ofNat (widN ((t4 xa xb xc xd).map cl) oo (kN (endN ((t4 xa xb xc xd).map cl) nn oo 0) (endN ((t4 xa xb xc xd).map cl) nn oo 1) (endN ((t4 xa xb xc xd).map cl) nn oo 2) (endN ((t4 xa xb xc xd).map cl) nn oo 3)) 2))))] 1 (w32 hw) (w33 hw) (w4 hw) (w34 hw) (by decide) pd___CIII_I_2389 (c_width l Z a0 hw hEW n0 ta kt off k15 3 oo (kN (endN ((t4 xa xb xc xd).map cl) nn oo 0) (endN ((t4 xa xb xc xd).map cl) nn oo 1) (endN ((t4 xa xb xc xd).map cl) nn oo 2) (endN ((t4 xa xb xc xd).map cl) nn oo 3)) 3 (t4 xa xb xc xd) h73 K81.old V_ta hts rfl (by decide) ho hk) at_329 nofun (pc' := 332) rfl rfl rfl rfl (Nat.le_of_eq rfl) (by decide) (by decide) (by decide) (by decide) ?_
      intro b82 T82 L82 K82 tr82
      show Goes p_.tables e_ below_ _ (T82.setTop (mkF m_ 332 #[.val (.int xa), .val (.int xb), .val (.int xc), .val (.int xd), .val (.int xs), .val (.int n), .val (.int off), .val (.ref ta), .val (.ref sa), .val (.ref a72), .val (.int (Int32.ofNat (endN ((t4 xa xb xc xd).map cl) nn oo 0))), .val (.int (Int32.ofNat (endN ((t4 xa xb xc xd).map cl) nn oo 1))), .val (.int (Int32.ofNat (endN ((t4 xa xb xc xd).map cl) nn oo 2))), .val (.int (Int32.ofNat (endN ((t4 xa xb xc xd).map cl) nn oo 3))), .val (.int (((((1 : Int32) + (Int32.ofNat (endN ((t4 xa xb xc xd).map cl) nn oo 0))) + (Int32.ofNat (endN ((t4 xa xb xc xd).map cl) nn oo 1))) + (Int32.ofNat (endN ((t4 xa xb xc xd).map cl) nn oo 2))) + (Int32.ofNat (endN ((t4 xa xb xc xd).map cl) nn oo 3)))), .val (.int k15), .unset, .unset] [(.int (Int32.ofNat (widN ((t4 xa xb xc xd).map cl) oo (kN (endN ((t4 xa xb xc xd).map cl) nn oo 0) (endN ((t4 xa xb xc xd).map cl) nn oo 1) (endN ((t4 xa xb xc xd).map cl) nn oo 2) (endN ((t4 xa xb xc xd).map cl) nn oo 3)) 3))), (.int ((((1 : Int32) + (Int32.ofNat (widN ((t4 xa xb xc xd).map cl) oo (kN (endN ((t4 xa xb xc xd).map cl) nn oo 0) (endN ((t4 xa xb xc xd).map cl) nn oo 1) (endN ((t4 xa xb xc xd).map cl) nn oo 2) (endN ((t4 xa xb xc xd).map cl) nn oo 3)) 0))) + (Int32.ofNat (widN ((t4 xa xb xc xd).map cl) oo (kN (endN ((t4 xa xb xc xd).map cl) nn oo 0) (endN ((t4 xa xb xc xd).map cl) nn oo 1) (endN ((t4 xa xb xc xd).map cl) nn oo 2) (endN ((t4 xa xb xc xd).map cl) nn oo 3)) 1))) + (Int32.ofNat (widN ((t4 xa xb xc xd).map cl) oo (kN (endN ((t4 xa xb xc xd).map cl) nn oo 0) (endN ((t4 xa xb xc xd).map cl) nn oo 1) (endN ((t4 xa xb xc xd).map cl) nn oo 2) (endN ((t4 xa xb xc xd).map cl) nn oo 3)) 2))))]))
      refine k_iadd K82 at_332 (pc' := 333) rfl ?_
      refine k_istore K82 at_333 (pc' := 335) (L' := #[.val (.int xa), .val (.int xb), .val (.int xc), .val (.int xd), .val (.int xs), .val (.int n), .val (.int off), .val (.ref ta), .val (.ref sa), .val (.ref a72), .val (.int (Int32.ofNat (endN ((t4 xa xb xc xd).map cl) nn oo 0))), .val (.int (Int32.ofNat (endN ((t4 xa xb xc xd).map cl) nn oo 1))), .val (.int (Int32.ofNat (endN ((t4 xa xb xc xd).map cl) nn oo 2))), .val (.int (Int32.ofNat (endN ((t4 xa xb xc xd).map cl) nn oo 3))), .val (.int (((((1 : Int32) + (Int32.ofNat (endN ((t4 xa xb xc xd).map cl) nn oo 0))) + (Int32.ofNat (endN ((t4 xa xb xc xd).map cl) nn oo 1))) + (Int32.ofNat (endN ((t4 xa xb xc xd).map cl) nn oo 2))) + (Int32.ofNat (endN ((t4 xa xb xc xd).map cl) nn oo 3)))), .val (.int k15), .val (.int (((((1 : Int32) + (Int32.ofNat (widN ((t4 xa xb xc xd).map cl) oo (kN (endN ((t4 xa xb xc xd).map cl) nn oo 0) (endN ((t4 xa xb xc xd).map cl) nn oo 1) (endN ((t4 xa xb xc xd).map cl) nn oo 2) (endN ((t4 xa xb xc xd).map cl) nn oo 3)) 0))) + (Int32.ofNat (widN ((t4 xa xb xc xd).map cl) oo (kN (endN ((t4 xa xb xc xd).map cl) nn oo 0) (endN ((t4 xa xb xc xd).map cl) nn oo 1) (endN ((t4 xa xb xc xd).map cl) nn oo 2) (endN ((t4 xa xb xc xd).map cl) nn oo 3)) 1))) + (Int32.ofNat (widN ((t4 xa xb xc xd).map cl) oo (kN (endN ((t4 xa xb xc xd).map cl) nn oo 0) (endN ((t4 xa xb xc xd).map cl) nn oo 1) (endN ((t4 xa xb xc xd).map cl) nn oo 2) (endN ((t4 xa xb xc xd).map cl) nn oo 3)) 2))) + (Int32.ofNat (widN ((t4 xa xb xc xd).map cl) oo (kN (endN ((t4 xa xb xc xd).map cl) nn oo 0) (endN ((t4 xa xb xc xd).map cl) nn oo 1) (endN ((t4 xa xb xc xd).map cl) nn oo 2) (endN ((t4 xa xb xc xd).map cl) nn oo 3)) 3)))), .unset]) rfl rfl ?_
      refine k_aload K82 at_335 (pc' := 337) rfl rfl rfl ?_
      refine k_iload K82 at_337 (pc' := 339) rfl rfl ?_
      refine k_static K82 [(.ref a72), (.int off)] [] 0 (w35 hw) (w36 hw) (w37 hw) (w38 hw) (by decide) pd__Ljava_lang_CharSequence_I_Lcom_example_object_sieve_objects_6221 (c_of l Z a0 hw hEW n0 a72 d kd n off oo ((t4 xa xb xc xd).take nn) ff cs0 h73 K82.old SF hff hnl hl4 hcl S ho (by rw [List.length_take]; simp [t4]; omega) SC hcs SA SH SL) at_339 nofun (pc' := 342) rfl rfl rfl rfl (Nat.le_of_eq rfl) (by decide) (by decide) (by decide) (by decide) ?_
      intro b83 T83 h83 L83 v83 K83 tr83 q83
      obtain ⟨p, rfl, X_p, F1, F2⟩ := q83
      have PL := plainL (cl (dr xa)) (cl (dr xb)) (cl (dr xc)) (cl (dr xd)) ⟨nn, by omega⟩ ⟨oo, by omega⟩ hle
      have PL1 := congrArg Int32.ofNat PL.1
      have PL2 := congrArg Int32.ofNat PL.2
      simp only [Int32.ofNat_add] at PL1 PL2
      rw [List.map_take] at F1 F2
      show Goes p_.tables e_ below_ _ (T83.setTop (mkF m_ 342 #[.val (.int xa), .val (.int xb), .val (.int xc), .val (.int xd), .val (.int xs), .val (.int n), .val (.int off), .val (.ref ta), .val (.ref sa), .val (.ref a72), .val (.int (Int32.ofNat (endN ((t4 xa xb xc xd).map cl) nn oo 0))), .val (.int (Int32.ofNat (endN ((t4 xa xb xc xd).map cl) nn oo 1))), .val (.int (Int32.ofNat (endN ((t4 xa xb xc xd).map cl) nn oo 2))), .val (.int (Int32.ofNat (endN ((t4 xa xb xc xd).map cl) nn oo 3))), .val (.int (((((1 : Int32) + (Int32.ofNat (endN ((t4 xa xb xc xd).map cl) nn oo 0))) + (Int32.ofNat (endN ((t4 xa xb xc xd).map cl) nn oo 1))) + (Int32.ofNat (endN ((t4 xa xb xc xd).map cl) nn oo 2))) + (Int32.ofNat (endN ((t4 xa xb xc xd).map cl) nn oo 3)))), .val (.int k15), .val (.int (((((1 : Int32) + (Int32.ofNat (widN ((t4 xa xb xc xd).map cl) oo (kN (endN ((t4 xa xb xc xd).map cl) nn oo 0) (endN ((t4 xa xb xc xd).map cl) nn oo 1) (endN ((t4 xa xb xc xd).map cl) nn oo 2) (endN ((t4 xa xb xc xd).map cl) nn oo 3)) 0))) + (Int32.ofNat (widN ((t4 xa xb xc xd).map cl) oo (kN (endN ((t4 xa xb xc xd).map cl) nn oo 0) (endN ((t4 xa xb xc xd).map cl) nn oo 1) (endN ((t4 xa xb xc xd).map cl) nn oo 2) (endN ((t4 xa xb xc xd).map cl) nn oo 3)) 1))) + (Int32.ofNat (widN ((t4 xa xb xc xd).map cl) oo (kN (endN ((t4 xa xb xc xd).map cl) nn oo 0) (endN ((t4 xa xb xc xd).map cl) nn oo 1) (endN ((t4 xa xb xc xd).map cl) nn oo 2) (endN ((t4 xa xb xc xd).map cl) nn oo 3)) 2))) + (Int32.ofNat (widN ((t4 xa xb xc xd).map cl) oo (kN (endN ((t4 xa xb xc xd).map cl) nn oo 0) (endN ((t4 xa xb xc xd).map cl) nn oo 1) (endN ((t4 xa xb xc xd).map cl) nn oo 2) (endN ((t4 xa xb xc xd).map cl) nn oo 3)) 3)))), .unset] [(.ref p)]))
      refine k_astore K83 at_342 (pc' := 344) (L' := #[.val (.int xa), .val (.int xb), .val (.int xc), .val (.int xd), .val (.int xs), .val (.int n), .val (.int off), .val (.ref ta), .val (.ref sa), .val (.ref a72), .val (.int (Int32.ofNat (endN ((t4 xa xb xc xd).map cl) nn oo 0))), .val (.int (Int32.ofNat (endN ((t4 xa xb xc xd).map cl) nn oo 1))), .val (.int (Int32.ofNat (endN ((t4 xa xb xc xd).map cl) nn oo 2))), .val (.int (Int32.ofNat (endN ((t4 xa xb xc xd).map cl) nn oo 3))), .val (.int (((((1 : Int32) + (Int32.ofNat (endN ((t4 xa xb xc xd).map cl) nn oo 0))) + (Int32.ofNat (endN ((t4 xa xb xc xd).map cl) nn oo 1))) + (Int32.ofNat (endN ((t4 xa xb xc xd).map cl) nn oo 2))) + (Int32.ofNat (endN ((t4 xa xb xc xd).map cl) nn oo 3)))), .val (.int k15), .val (.int (((((1 : Int32) + (Int32.ofNat (widN ((t4 xa xb xc xd).map cl) oo (kN (endN ((t4 xa xb xc xd).map cl) nn oo 0) (endN ((t4 xa xb xc xd).map cl) nn oo 1) (endN ((t4 xa xb xc xd).map cl) nn oo 2) (endN ((t4 xa xb xc xd).map cl) nn oo 3)) 0))) + (Int32.ofNat (widN ((t4 xa xb xc xd).map cl) oo (kN (endN ((t4 xa xb xc xd).map cl) nn oo 0) (endN ((t4 xa xb xc xd).map cl) nn oo 1) (endN ((t4 xa xb xc xd).map cl) nn oo 2) (endN ((t4 xa xb xc xd).map cl) nn oo 3)) 1))) + (Int32.ofNat (widN ((t4 xa xb xc xd).map cl) oo (kN (endN ((t4 xa xb xc xd).map cl) nn oo 0) (endN ((t4 xa xb xc xd).map cl) nn oo 1) (endN ((t4 xa xb xc xd).map cl) nn oo 2) (endN ((t4 xa xb xc xd).map cl) nn oo 3)) 2))) + (Int32.ofNat (widN ((t4 xa xb xc xd).map cl) oo (kN (endN ((t4 xa xb xc xd).map cl) nn oo 0) (endN ((t4 xa xb xc xd).map cl) nn oo 1) (endN ((t4 xa xb xc xd).map cl) nn oo 2) (endN ((t4 xa xb xc xd).map cl) nn oo 3)) 3)))), .val (.ref p)]) rfl rfl rfl ?_
      refine k_aload K83 at_344 (pc' := 346) rfl rfl rfl ?_
      refine k_virtualP K83 [] [] 0 (w69 hw) (w70 hw) (w71 hw) (w72 hw) (w37 hw) (w73 hw) (notFace_of_selects (args := #[]) (mvT K83.hZ (w72 hw))) rfl (by decide) X_p (by decide) pd___I_341 (c_line l Z a0 hw hEW n0 p _ h83 K83.old F1) at_346 nofun (pc' := 349) rfl rfl rfl rfl (Nat.le_of_eq rfl) (by decide) (by decide) (by decide) (by decide) ?_
      intro b84 T84 L84 K84 tr84
      show Goes p_.tables e_ below_ _ (T84.setTop (mkF m_ 349 #[.val (.int xa), .val (.int xb), .val (.int xc), .val (.int xd), .val (.int xs), .val (.int n), .val (.int off), .val (.ref ta), .val (.ref sa), .val (.ref a72), .val (.int (Int32.ofNat (endN ((t4 xa xb xc xd).map cl) nn oo 0))), .val (.int (Int32.ofNat (endN ((t4 xa xb xc xd).map cl) nn oo 1))), .val (.int (Int32.ofNat (endN ((t4 xa xb xc xd).map cl) nn oo 2))), .val (.int (Int32.ofNat (endN ((t4 xa xb xc xd).map cl) nn oo 3))), .val (.int (((((1 : Int32) + (Int32.ofNat (endN ((t4 xa xb xc xd).map cl) nn oo 0))) + (Int32.ofNat (endN ((t4 xa xb xc xd).map cl) nn oo 1))) + (Int32.ofNat (endN ((t4 xa xb xc xd).map cl) nn oo 2))) + (Int32.ofNat (endN ((t4 xa xb xc xd).map cl) nn oo 3)))), .val (.int k15), .val (.int (((((1 : Int32) + (Int32.ofNat (widN ((t4 xa xb xc xd).map cl) oo (kN (endN ((t4 xa xb xc xd).map cl) nn oo 0) (endN ((t4 xa xb xc xd).map cl) nn oo 1) (endN ((t4 xa xb xc xd).map cl) nn oo 2) (endN ((t4 xa xb xc xd).map cl) nn oo 3)) 0))) + (Int32.ofNat (widN ((t4 xa xb xc xd).map cl) oo (kN (endN ((t4 xa xb xc xd).map cl) nn oo 0) (endN ((t4 xa xb xc xd).map cl) nn oo 1) (endN ((t4 xa xb xc xd).map cl) nn oo 2) (endN ((t4 xa xb xc xd).map cl) nn oo 3)) 1))) + (Int32.ofNat (widN ((t4 xa xb xc xd).map cl) oo (kN (endN ((t4 xa xb xc xd).map cl) nn oo 0) (endN ((t4 xa xb xc xd).map cl) nn oo 1) (endN ((t4 xa xb xc xd).map cl) nn oo 2) (endN ((t4 xa xb xc xd).map cl) nn oo 3)) 2))) + (Int32.ofNat (widN ((t4 xa xb xc xd).map cl) oo (kN (endN ((t4 xa xb xc xd).map cl) nn oo 0) (endN ((t4 xa xb xc xd).map cl) nn oo 1) (endN ((t4 xa xb xc xd).map cl) nn oo 2) (endN ((t4 xa xb xc xd).map cl) nn oo 3)) 3)))), .val (.ref p)] [(.int (Int32.ofNat (goC (((t4 xa xb xc xd).map cl).take nn) oo).1))]))
      refine k_iload K84 at_349 (pc' := 351) rfl rfl ?_
      refine k_icmp_ne K84 at_351 (by decide) (pc' := 368) (pc2 := 354) (by decide) rfl (fun q => absurd PL1.symm q) (fun hc351 => ?_)
      refine k_aload K84 at_354 (pc' := 356) rfl rfl rfl ?_
      refine k_virtualP K84 [] [] 0 (w74 hw) (w75 hw) (w76 hw) (w77 hw) (w37 hw) (w78 hw) (notFace_of_selects (args := #[]) (mvT K84.hZ (w77 hw))) rfl (by decide) X_p (by decide) pd___I_341 (c_column l Z a0 hw hEW n0 p _ h83 K84.old F2) at_356 nofun (pc' := 359) rfl rfl rfl rfl (Nat.le_of_eq rfl) (by decide) (by decide) (by decide) (by decide) ?_
      intro b85 T85 L85 K85 tr85
      show Goes p_.tables e_ below_ _ (T85.setTop (mkF m_ 359 #[.val (.int xa), .val (.int xb), .val (.int xc), .val (.int xd), .val (.int xs), .val (.int n), .val (.int off), .val (.ref ta), .val (.ref sa), .val (.ref a72), .val (.int (Int32.ofNat (endN ((t4 xa xb xc xd).map cl) nn oo 0))), .val (.int (Int32.ofNat (endN ((t4 xa xb xc xd).map cl) nn oo 1))), .val (.int (Int32.ofNat (endN ((t4 xa xb xc xd).map cl) nn oo 2))), .val (.int (Int32.ofNat (endN ((t4 xa xb xc xd).map cl) nn oo 3))), .val (.int (((((1 : Int32) + (Int32.ofNat (endN ((t4 xa xb xc xd).map cl) nn oo 0))) + (Int32.ofNat (endN ((t4 xa xb xc xd).map cl) nn oo 1))) + (Int32.ofNat (endN ((t4 xa xb xc xd).map cl) nn oo 2))) + (Int32.ofNat (endN ((t4 xa xb xc xd).map cl) nn oo 3)))), .val (.int k15), .val (.int (((((1 : Int32) + (Int32.ofNat (widN ((t4 xa xb xc xd).map cl) oo (kN (endN ((t4 xa xb xc xd).map cl) nn oo 0) (endN ((t4 xa xb xc xd).map cl) nn oo 1) (endN ((t4 xa xb xc xd).map cl) nn oo 2) (endN ((t4 xa xb xc xd).map cl) nn oo 3)) 0))) + (Int32.ofNat (widN ((t4 xa xb xc xd).map cl) oo (kN (endN ((t4 xa xb xc xd).map cl) nn oo 0) (endN ((t4 xa xb xc xd).map cl) nn oo 1) (endN ((t4 xa xb xc xd).map cl) nn oo 2) (endN ((t4 xa xb xc xd).map cl) nn oo 3)) 1))) + (Int32.ofNat (widN ((t4 xa xb xc xd).map cl) oo (kN (endN ((t4 xa xb xc xd).map cl) nn oo 0) (endN ((t4 xa xb xc xd).map cl) nn oo 1) (endN ((t4 xa xb xc xd).map cl) nn oo 2) (endN ((t4 xa xb xc xd).map cl) nn oo 3)) 2))) + (Int32.ofNat (widN ((t4 xa xb xc xd).map cl) oo (kN (endN ((t4 xa xb xc xd).map cl) nn oo 0) (endN ((t4 xa xb xc xd).map cl) nn oo 1) (endN ((t4 xa xb xc xd).map cl) nn oo 2) (endN ((t4 xa xb xc xd).map cl) nn oo 3)) 3)))), .val (.ref p)] [(.int (Int32.ofNat (goC (((t4 xa xb xc xd).map cl).take nn) oo).2))]))
      refine k_iload K85 at_359 (pc' := 361) rfl rfl ?_
      refine k_icmp_ne K85 at_361 (by decide) (pc' := 368) (pc2 := 364) (by decide) rfl (fun q => absurd PL2.symm q) (fun hc361 => ?_)
      refine k_iconst K85 (1 : Int32) at_364 (pc' := 365) rfl rfl ?_
      refine k_goto K85 at_365 (by decide) (pc' := 369) (by decide) ?_
      exact k_nret K85 at_369 rfl (by simp) rfl (fun sf ht => ⟨rfl, trivial⟩) (by decide) (by decide)
    have r0 := endN_01 ((t4 xa xb xc xd).map cl) nn oo 0
    have r1 := endN_01 ((t4 xa xb xc xd).map cl) nn oo 1
    have r2 := endN_01 ((t4 xa xb xc xd).map cl) nn oo 2
    have r3 := endN_01 ((t4 xa xb xc xd).map cl) nn oo 3
    refine k_iload K77 at_252 (pc' := 254) rfl rfl ?_
    refine k_iconst K77 (1 : Int32) at_254 (pc' := 255) rfl rfl ?_
    refine k_icmp_ne K77 at_255 (by decide) (pc' := 261) (pc2 := 258) (by decide) rfl (fun hc255 => ?_) (fun hc255 => ?_)
    · have m0 : (endN ((t4 xa xb xc xd).map cl) nn oo 0) = 0 := r0.resolve_right fun q => hc255 (by rw [q]; rfl)
      refine k_iload K77 at_261 (pc' := 263) rfl rfl ?_
      refine k_iconst K77 (1 : Int32) at_263 (pc' := 264) rfl rfl ?_
      refine k_icmp_ne K77 at_264 (by decide) (pc' := 270) (pc2 := 267) (by decide) rfl (fun hc264 => ?_) (fun hc264 => ?_)
      · have m1 : (endN ((t4 xa xb xc xd).map cl) nn oo 1) = 0 := r1.resolve_right fun q => hc264 (by rw [q]; rfl)
        refine k_iload K77 at_270 (pc' := 272) rfl rfl ?_
        refine k_iconst K77 (1 : Int32) at_272 (pc' := 273) rfl rfl ?_
        refine k_icmp_ne K77 at_273 (by decide) (pc' := 279) (pc2 := 276) (by decide) rfl (fun hc273 => ?_) (fun hc273 => ?_)
        · have m2 : (endN ((t4 xa xb xc xd).map cl) nn oo 2) = 0 := r2.resolve_right fun q => hc273 (by rw [q]; rfl)
          refine k_iload K77 at_279 (pc' := 281) rfl rfl ?_
          refine k_iconst K77 (1 : Int32) at_281 (pc' := 282) rfl rfl ?_
          refine k_icmp_ne K77 at_282 (by decide) (pc' := 288) (pc2 := 285) (by decide) rfl (fun hc282 => ?_) (fun hc282 => ?_)
          · have m3 : (endN ((t4 xa xb xc xd).map cl) nn oo 3) = 0 := r3.resolve_right fun q => hc282 (by rw [q]; rfl)
            exact J15 _ (by rw [show (kN (endN ((t4 xa xb xc xd).map cl) nn oo 0) (endN ((t4 xa xb xc xd).map cl) nn oo 1) (endN ((t4 xa xb xc xd).map cl) nn oo 2) (endN ((t4 xa xb xc xd).map cl) nn oo 3)) = 0 from by simp [kN, m0, m1, m2, m3]]; rfl) _ _ _ K77
          · have m3 : (endN ((t4 xa xb xc xd).map cl) nn oo 3) = 1 := r3.resolve_left fun q => by rw [q] at hc282; exact absurd hc282 (by decide)
            refine k_iconst K77 (3 : Int32) at_285 (pc' := 286) rfl rfl ?_
            refine k_istore K77 at_286 (pc' := 288) (L' := #[.val (.int xa), .val (.int xb), .val (.int xc), .val (.int xd), .val (.int xs), .val (.int n), .val (.int off), .val (.ref ta), .val (.ref sa), .val (.ref a72), .val (.int (Int32.ofNat (endN ((t4 xa xb xc xd).map cl) nn oo 0))), .val (.int (Int32.ofNat (endN ((t4 xa xb xc xd).map cl) nn oo 1))), .val (.int (Int32.ofNat (endN ((t4 xa xb xc xd).map cl) nn oo 2))), .val (.int (Int32.ofNat (endN ((t4 xa xb xc xd).map cl) nn oo 3))), .val (.int (((((1 : Int32) + (Int32.ofNat (endN ((t4 xa xb xc xd).map cl) nn oo 0))) + (Int32.ofNat (endN ((t4 xa xb xc xd).map cl) nn oo 1))) + (Int32.ofNat (endN ((t4 xa xb xc xd).map cl) nn oo 2))) + (Int32.ofNat (endN ((t4 xa xb xc xd).map cl) nn oo 3)))), .val (.int (3 : Int32)), .unset, .unset]) rfl rfl ?_
            exact J15 _ (by rw [show (kN (endN ((t4 xa xb xc xd).map cl) nn oo 0) (endN ((t4 xa xb xc xd).map cl) nn oo 1) (endN ((t4 xa xb xc xd).map cl) nn oo 2) (endN ((t4 xa xb xc xd).map cl) nn oo 3)) = 4 from by simp [kN, m0, m1, m2, m3]]; rfl) _ _ _ K77
        · have m2 : (endN ((t4 xa xb xc xd).map cl) nn oo 2) = 1 := r2.resolve_left fun q => by rw [q] at hc273; exact absurd hc273 (by decide)
          refine k_iconst K77 (2 : Int32) at_276 (pc' := 277) rfl rfl ?_
          refine k_istore K77 at_277 (pc' := 279) (L' := #[.val (.int xa), .val (.int xb), .val (.int xc), .val (.int xd), .val (.int xs), .val (.int n), .val (.int off), .val (.ref ta), .val (.ref sa), .val (.ref a72), .val (.int (Int32.ofNat (endN ((t4 xa xb xc xd).map cl) nn oo 0))), .val (.int (Int32.ofNat (endN ((t4 xa xb xc xd).map cl) nn oo 1))), .val (.int (Int32.ofNat (endN ((t4 xa xb xc xd).map cl) nn oo 2))), .val (.int (Int32.ofNat (endN ((t4 xa xb xc xd).map cl) nn oo 3))), .val (.int (((((1 : Int32) + (Int32.ofNat (endN ((t4 xa xb xc xd).map cl) nn oo 0))) + (Int32.ofNat (endN ((t4 xa xb xc xd).map cl) nn oo 1))) + (Int32.ofNat (endN ((t4 xa xb xc xd).map cl) nn oo 2))) + (Int32.ofNat (endN ((t4 xa xb xc xd).map cl) nn oo 3)))), .val (.int (2 : Int32)), .unset, .unset]) rfl rfl ?_
          refine k_iload K77 at_279 (pc' := 281) rfl rfl ?_
          refine k_iconst K77 (1 : Int32) at_281 (pc' := 282) rfl rfl ?_
          refine k_icmp_ne K77 at_282 (by decide) (pc' := 288) (pc2 := 285) (by decide) rfl (fun hc282 => ?_) (fun hc282 => ?_)
          · have m3 : (endN ((t4 xa xb xc xd).map cl) nn oo 3) = 0 := r3.resolve_right fun q => hc282 (by rw [q]; rfl)
            exact J15 _ (by rw [show (kN (endN ((t4 xa xb xc xd).map cl) nn oo 0) (endN ((t4 xa xb xc xd).map cl) nn oo 1) (endN ((t4 xa xb xc xd).map cl) nn oo 2) (endN ((t4 xa xb xc xd).map cl) nn oo 3)) = 3 from by simp [kN, m0, m1, m2, m3]]; rfl) _ _ _ K77
          · have m3 : (endN ((t4 xa xb xc xd).map cl) nn oo 3) = 1 := r3.resolve_left fun q => by rw [q] at hc282; exact absurd hc282 (by decide)
            refine k_iconst K77 (3 : Int32) at_285 (pc' := 286) rfl rfl ?_
            refine k_istore K77 at_286 (pc' := 288) (L' := #[.val (.int xa), .val (.int xb), .val (.int xc), .val (.int xd), .val (.int xs), .val (.int n), .val (.int off), .val (.ref ta), .val (.ref sa), .val (.ref a72), .val (.int (Int32.ofNat (endN ((t4 xa xb xc xd).map cl) nn oo 0))), .val (.int (Int32.ofNat (endN ((t4 xa xb xc xd).map cl) nn oo 1))), .val (.int (Int32.ofNat (endN ((t4 xa xb xc xd).map cl) nn oo 2))), .val (.int (Int32.ofNat (endN ((t4 xa xb xc xd).map cl) nn oo 3))), .val (.int (((((1 : Int32) + (Int32.ofNat (endN ((t4 xa xb xc xd).map cl) nn oo 0))) + (Int32.ofNat (endN ((t4 xa xb xc xd).map cl) nn oo 1))) + (Int32.ofNat (endN ((t4 xa xb xc xd).map cl) nn oo 2))) + (Int32.ofNat (endN ((t4 xa xb xc xd).map cl) nn oo 3)))), .val (.int (3 : Int32)), .unset, .unset]) rfl rfl ?_
            exact J15 _ (by rw [show (kN (endN ((t4 xa xb xc xd).map cl) nn oo 0) (endN ((t4 xa xb xc xd).map cl) nn oo 1) (endN ((t4 xa xb xc xd).map cl) nn oo 2) (endN ((t4 xa xb xc xd).map cl) nn oo 3)) = 4 from by simp [kN, m0, m1, m2, m3]]; rfl) _ _ _ K77
      · have m1 : (endN ((t4 xa xb xc xd).map cl) nn oo 1) = 1 := r1.resolve_left fun q => by rw [q] at hc264; exact absurd hc264 (by decide)
        refine k_iconst K77 (1 : Int32) at_267 (pc' := 268) rfl rfl ?_
        refine k_istore K77 at_268 (pc' := 270) (L' := #[.val (.int xa), .val (.int xb), .val (.int xc), .val (.int xd), .val (.int xs), .val (.int n), .val (.int off), .val (.ref ta), .val (.ref sa), .val (.ref a72), .val (.int (Int32.ofNat (endN ((t4 xa xb xc xd).map cl) nn oo 0))), .val (.int (Int32.ofNat (endN ((t4 xa xb xc xd).map cl) nn oo 1))), .val (.int (Int32.ofNat (endN ((t4 xa xb xc xd).map cl) nn oo 2))), .val (.int (Int32.ofNat (endN ((t4 xa xb xc xd).map cl) nn oo 3))), .val (.int (((((1 : Int32) + (Int32.ofNat (endN ((t4 xa xb xc xd).map cl) nn oo 0))) + (Int32.ofNat (endN ((t4 xa xb xc xd).map cl) nn oo 1))) + (Int32.ofNat (endN ((t4 xa xb xc xd).map cl) nn oo 2))) + (Int32.ofNat (endN ((t4 xa xb xc xd).map cl) nn oo 3)))), .val (.int (1 : Int32)), .unset, .unset]) rfl rfl ?_
        refine k_iload K77 at_270 (pc' := 272) rfl rfl ?_
        refine k_iconst K77 (1 : Int32) at_272 (pc' := 273) rfl rfl ?_
        refine k_icmp_ne K77 at_273 (by decide) (pc' := 279) (pc2 := 276) (by decide) rfl (fun hc273 => ?_) (fun hc273 => ?_)
        · have m2 : (endN ((t4 xa xb xc xd).map cl) nn oo 2) = 0 := r2.resolve_right fun q => hc273 (by rw [q]; rfl)
          refine k_iload K77 at_279 (pc' := 281) rfl rfl ?_
          refine k_iconst K77 (1 : Int32) at_281 (pc' := 282) rfl rfl ?_
          refine k_icmp_ne K77 at_282 (by decide) (pc' := 288) (pc2 := 285) (by decide) rfl (fun hc282 => ?_) (fun hc282 => ?_)
          · have m3 : (endN ((t4 xa xb xc xd).map cl) nn oo 3) = 0 := r3.resolve_right fun q => hc282 (by rw [q]; rfl)
            exact J15 _ (by rw [show (kN (endN ((t4 xa xb xc xd).map cl) nn oo 0) (endN ((t4 xa xb xc xd).map cl) nn oo 1) (endN ((t4 xa xb xc xd).map cl) nn oo 2) (endN ((t4 xa xb xc xd).map cl) nn oo 3)) = 2 from by simp [kN, m0, m1, m2, m3]]; rfl) _ _ _ K77
          · have m3 : (endN ((t4 xa xb xc xd).map cl) nn oo 3) = 1 := r3.resolve_left fun q => by rw [q] at hc282; exact absurd hc282 (by decide)
            refine k_iconst K77 (3 : Int32) at_285 (pc' := 286) rfl rfl ?_
            refine k_istore K77 at_286 (pc' := 288) (L' := #[.val (.int xa), .val (.int xb), .val (.int xc), .val (.int xd), .val (.int xs), .val (.int n), .val (.int off), .val (.ref ta), .val (.ref sa), .val (.ref a72), .val (.int (Int32.ofNat (endN ((t4 xa xb xc xd).map cl) nn oo 0))), .val (.int (Int32.ofNat (endN ((t4 xa xb xc xd).map cl) nn oo 1))), .val (.int (Int32.ofNat (endN ((t4 xa xb xc xd).map cl) nn oo 2))), .val (.int (Int32.ofNat (endN ((t4 xa xb xc xd).map cl) nn oo 3))), .val (.int (((((1 : Int32) + (Int32.ofNat (endN ((t4 xa xb xc xd).map cl) nn oo 0))) + (Int32.ofNat (endN ((t4 xa xb xc xd).map cl) nn oo 1))) + (Int32.ofNat (endN ((t4 xa xb xc xd).map cl) nn oo 2))) + (Int32.ofNat (endN ((t4 xa xb xc xd).map cl) nn oo 3)))), .val (.int (3 : Int32)), .unset, .unset]) rfl rfl ?_
            exact J15 _ (by rw [show (kN (endN ((t4 xa xb xc xd).map cl) nn oo 0) (endN ((t4 xa xb xc xd).map cl) nn oo 1) (endN ((t4 xa xb xc xd).map cl) nn oo 2) (endN ((t4 xa xb xc xd).map cl) nn oo 3)) = 4 from by simp [kN, m0, m1, m2, m3]]; rfl) _ _ _ K77
        · have m2 : (endN ((t4 xa xb xc xd).map cl) nn oo 2) = 1 := r2.resolve_left fun q => by rw [q] at hc273; exact absurd hc273 (by decide)
          refine k_iconst K77 (2 : Int32) at_276 (pc' := 277) rfl rfl ?_
          refine k_istore K77 at_277 (pc' := 279) (L' := #[.val (.int xa), .val (.int xb), .val (.int xc), .val (.int xd), .val (.int xs), .val (.int n), .val (.int off), .val (.ref ta), .val (.ref sa), .val (.ref a72), .val (.int (Int32.ofNat (endN ((t4 xa xb xc xd).map cl) nn oo 0))), .val (.int (Int32.ofNat (endN ((t4 xa xb xc xd).map cl) nn oo 1))), .val (.int (Int32.ofNat (endN ((t4 xa xb xc xd).map cl) nn oo 2))), .val (.int (Int32.ofNat (endN ((t4 xa xb xc xd).map cl) nn oo 3))), .val (.int (((((1 : Int32) + (Int32.ofNat (endN ((t4 xa xb xc xd).map cl) nn oo 0))) + (Int32.ofNat (endN ((t4 xa xb xc xd).map cl) nn oo 1))) + (Int32.ofNat (endN ((t4 xa xb xc xd).map cl) nn oo 2))) + (Int32.ofNat (endN ((t4 xa xb xc xd).map cl) nn oo 3)))), .val (.int (2 : Int32)), .unset, .unset]) rfl rfl ?_
          refine k_iload K77 at_279 (pc' := 281) rfl rfl ?_
          refine k_iconst K77 (1 : Int32) at_281 (pc' := 282) rfl rfl ?_
          refine k_icmp_ne K77 at_282 (by decide) (pc' := 288) (pc2 := 285) (by decide) rfl (fun hc282 => ?_) (fun hc282 => ?_)
          · have m3 : (endN ((t4 xa xb xc xd).map cl) nn oo 3) = 0 := r3.resolve_right fun q => hc282 (by rw [q]; rfl)
            exact J15 _ (by rw [show (kN (endN ((t4 xa xb xc xd).map cl) nn oo 0) (endN ((t4 xa xb xc xd).map cl) nn oo 1) (endN ((t4 xa xb xc xd).map cl) nn oo 2) (endN ((t4 xa xb xc xd).map cl) nn oo 3)) = 3 from by simp [kN, m0, m1, m2, m3]]; rfl) _ _ _ K77
          · have m3 : (endN ((t4 xa xb xc xd).map cl) nn oo 3) = 1 := r3.resolve_left fun q => by rw [q] at hc282; exact absurd hc282 (by decide)
            refine k_iconst K77 (3 : Int32) at_285 (pc' := 286) rfl rfl ?_
            refine k_istore K77 at_286 (pc' := 288) (L' := #[.val (.int xa), .val (.int xb), .val (.int xc), .val (.int xd), .val (.int xs), .val (.int n), .val (.int off), .val (.ref ta), .val (.ref sa), .val (.ref a72), .val (.int (Int32.ofNat (endN ((t4 xa xb xc xd).map cl) nn oo 0))), .val (.int (Int32.ofNat (endN ((t4 xa xb xc xd).map cl) nn oo 1))), .val (.int (Int32.ofNat (endN ((t4 xa xb xc xd).map cl) nn oo 2))), .val (.int (Int32.ofNat (endN ((t4 xa xb xc xd).map cl) nn oo 3))), .val (.int (((((1 : Int32) + (Int32.ofNat (endN ((t4 xa xb xc xd).map cl) nn oo 0))) + (Int32.ofNat (endN ((t4 xa xb xc xd).map cl) nn oo 1))) + (Int32.ofNat (endN ((t4 xa xb xc xd).map cl) nn oo 2))) + (Int32.ofNat (endN ((t4 xa xb xc xd).map cl) nn oo 3)))), .val (.int (3 : Int32)), .unset, .unset]) rfl rfl ?_
            exact J15 _ (by rw [show (kN (endN ((t4 xa xb xc xd).map cl) nn oo 0) (endN ((t4 xa xb xc xd).map cl) nn oo 1) (endN ((t4 xa xb xc xd).map cl) nn oo 2) (endN ((t4 xa xb xc xd).map cl) nn oo 3)) = 4 from by simp [kN, m0, m1, m2, m3]]; rfl) _ _ _ K77
    · have m0 : (endN ((t4 xa xb xc xd).map cl) nn oo 0) = 1 := r0.resolve_left fun q => by rw [q] at hc255; exact absurd hc255 (by decide)
      refine k_iconst K77 (0 : Int32) at_258 (pc' := 259) rfl rfl ?_
      refine k_istore K77 at_259 (pc' := 261) (L' := #[.val (.int xa), .val (.int xb), .val (.int xc), .val (.int xd), .val (.int xs), .val (.int n), .val (.int off), .val (.ref ta), .val (.ref sa), .val (.ref a72), .val (.int (Int32.ofNat (endN ((t4 xa xb xc xd).map cl) nn oo 0))), .val (.int (Int32.ofNat (endN ((t4 xa xb xc xd).map cl) nn oo 1))), .val (.int (Int32.ofNat (endN ((t4 xa xb xc xd).map cl) nn oo 2))), .val (.int (Int32.ofNat (endN ((t4 xa xb xc xd).map cl) nn oo 3))), .val (.int (((((1 : Int32) + (Int32.ofNat (endN ((t4 xa xb xc xd).map cl) nn oo 0))) + (Int32.ofNat (endN ((t4 xa xb xc xd).map cl) nn oo 1))) + (Int32.ofNat (endN ((t4 xa xb xc xd).map cl) nn oo 2))) + (Int32.ofNat (endN ((t4 xa xb xc xd).map cl) nn oo 3)))), .val (.int (0 : Int32)), .unset, .unset]) rfl rfl ?_
      refine k_iload K77 at_261 (pc' := 263) rfl rfl ?_
      refine k_iconst K77 (1 : Int32) at_263 (pc' := 264) rfl rfl ?_
      refine k_icmp_ne K77 at_264 (by decide) (pc' := 270) (pc2 := 267) (by decide) rfl (fun hc264 => ?_) (fun hc264 => ?_)
      · have m1 : (endN ((t4 xa xb xc xd).map cl) nn oo 1) = 0 := r1.resolve_right fun q => hc264 (by rw [q]; rfl)
        refine k_iload K77 at_270 (pc' := 272) rfl rfl ?_
        refine k_iconst K77 (1 : Int32) at_272 (pc' := 273) rfl rfl ?_
        refine k_icmp_ne K77 at_273 (by decide) (pc' := 279) (pc2 := 276) (by decide) rfl (fun hc273 => ?_) (fun hc273 => ?_)
        · have m2 : (endN ((t4 xa xb xc xd).map cl) nn oo 2) = 0 := r2.resolve_right fun q => hc273 (by rw [q]; rfl)
          refine k_iload K77 at_279 (pc' := 281) rfl rfl ?_
          refine k_iconst K77 (1 : Int32) at_281 (pc' := 282) rfl rfl ?_
          refine k_icmp_ne K77 at_282 (by decide) (pc' := 288) (pc2 := 285) (by decide) rfl (fun hc282 => ?_) (fun hc282 => ?_)
          · have m3 : (endN ((t4 xa xb xc xd).map cl) nn oo 3) = 0 := r3.resolve_right fun q => hc282 (by rw [q]; rfl)
            exact J15 _ (by rw [show (kN (endN ((t4 xa xb xc xd).map cl) nn oo 0) (endN ((t4 xa xb xc xd).map cl) nn oo 1) (endN ((t4 xa xb xc xd).map cl) nn oo 2) (endN ((t4 xa xb xc xd).map cl) nn oo 3)) = 1 from by simp [kN, m0, m1, m2, m3]]; rfl) _ _ _ K77
          · have m3 : (endN ((t4 xa xb xc xd).map cl) nn oo 3) = 1 := r3.resolve_left fun q => by rw [q] at hc282; exact absurd hc282 (by decide)
            refine k_iconst K77 (3 : Int32) at_285 (pc' := 286) rfl rfl ?_
            refine k_istore K77 at_286 (pc' := 288) (L' := #[.val (.int xa), .val (.int xb), .val (.int xc), .val (.int xd), .val (.int xs), .val (.int n), .val (.int off), .val (.ref ta), .val (.ref sa), .val (.ref a72), .val (.int (Int32.ofNat (endN ((t4 xa xb xc xd).map cl) nn oo 0))), .val (.int (Int32.ofNat (endN ((t4 xa xb xc xd).map cl) nn oo 1))), .val (.int (Int32.ofNat (endN ((t4 xa xb xc xd).map cl) nn oo 2))), .val (.int (Int32.ofNat (endN ((t4 xa xb xc xd).map cl) nn oo 3))), .val (.int (((((1 : Int32) + (Int32.ofNat (endN ((t4 xa xb xc xd).map cl) nn oo 0))) + (Int32.ofNat (endN ((t4 xa xb xc xd).map cl) nn oo 1))) + (Int32.ofNat (endN ((t4 xa xb xc xd).map cl) nn oo 2))) + (Int32.ofNat (endN ((t4 xa xb xc xd).map cl) nn oo 3)))), .val (.int (3 : Int32)), .unset, .unset]) rfl rfl ?_
            exact J15 _ (by rw [show (kN (endN ((t4 xa xb xc xd).map cl) nn oo 0) (endN ((t4 xa xb xc xd).map cl) nn oo 1) (endN ((t4 xa xb xc xd).map cl) nn oo 2) (endN ((t4 xa xb xc xd).map cl) nn oo 3)) = 4 from by simp [kN, m0, m1, m2, m3]]; rfl) _ _ _ K77
        · have m2 : (endN ((t4 xa xb xc xd).map cl) nn oo 2) = 1 := r2.resolve_left fun q => by rw [q] at hc273; exact absurd hc273 (by decide)
          refine k_iconst K77 (2 : Int32) at_276 (pc' := 277) rfl rfl ?_
          refine k_istore K77 at_277 (pc' := 279) (L' := #[.val (.int xa), .val (.int xb), .val (.int xc), .val (.int xd), .val (.int xs), .val (.int n), .val (.int off), .val (.ref ta), .val (.ref sa), .val (.ref a72), .val (.int (Int32.ofNat (endN ((t4 xa xb xc xd).map cl) nn oo 0))), .val (.int (Int32.ofNat (endN ((t4 xa xb xc xd).map cl) nn oo 1))), .val (.int (Int32.ofNat (endN ((t4 xa xb xc xd).map cl) nn oo 2))), .val (.int (Int32.ofNat (endN ((t4 xa xb xc xd).map cl) nn oo 3))), .val (.int (((((1 : Int32) + (Int32.ofNat (endN ((t4 xa xb xc xd).map cl) nn oo 0))) + (Int32.ofNat (endN ((t4 xa xb xc xd).map cl) nn oo 1))) + (Int32.ofNat (endN ((t4 xa xb xc xd).map cl) nn oo 2))) + (Int32.ofNat (endN ((t4 xa xb xc xd).map cl) nn oo 3)))), .val (.int (2 : Int32)), .unset, .unset]) rfl rfl ?_
          refine k_iload K77 at_279 (pc' := 281) rfl rfl ?_
          refine k_iconst K77 (1 : Int32) at_281 (pc' := 282) rfl rfl ?_
          refine k_icmp_ne K77 at_282 (by decide) (pc' := 288) (pc2 := 285) (by decide) rfl (fun hc282 => ?_) (fun hc282 => ?_)
          · have m3 : (endN ((t4 xa xb xc xd).map cl) nn oo 3) = 0 := r3.resolve_right fun q => hc282 (by rw [q]; rfl)
            exact J15 _ (by rw [show (kN (endN ((t4 xa xb xc xd).map cl) nn oo 0) (endN ((t4 xa xb xc xd).map cl) nn oo 1) (endN ((t4 xa xb xc xd).map cl) nn oo 2) (endN ((t4 xa xb xc xd).map cl) nn oo 3)) = 3 from by simp [kN, m0, m1, m2, m3]]; rfl) _ _ _ K77
          · have m3 : (endN ((t4 xa xb xc xd).map cl) nn oo 3) = 1 := r3.resolve_left fun q => by rw [q] at hc282; exact absurd hc282 (by decide)
            refine k_iconst K77 (3 : Int32) at_285 (pc' := 286) rfl rfl ?_
            refine k_istore K77 at_286 (pc' := 288) (L' := #[.val (.int xa), .val (.int xb), .val (.int xc), .val (.int xd), .val (.int xs), .val (.int n), .val (.int off), .val (.ref ta), .val (.ref sa), .val (.ref a72), .val (.int (Int32.ofNat (endN ((t4 xa xb xc xd).map cl) nn oo 0))), .val (.int (Int32.ofNat (endN ((t4 xa xb xc xd).map cl) nn oo 1))), .val (.int (Int32.ofNat (endN ((t4 xa xb xc xd).map cl) nn oo 2))), .val (.int (Int32.ofNat (endN ((t4 xa xb xc xd).map cl) nn oo 3))), .val (.int (((((1 : Int32) + (Int32.ofNat (endN ((t4 xa xb xc xd).map cl) nn oo 0))) + (Int32.ofNat (endN ((t4 xa xb xc xd).map cl) nn oo 1))) + (Int32.ofNat (endN ((t4 xa xb xc xd).map cl) nn oo 2))) + (Int32.ofNat (endN ((t4 xa xb xc xd).map cl) nn oo 3)))), .val (.int (3 : Int32)), .unset, .unset]) rfl rfl ?_
            exact J15 _ (by rw [show (kN (endN ((t4 xa xb xc xd).map cl) nn oo 0) (endN ((t4 xa xb xc xd).map cl) nn oo 1) (endN ((t4 xa xb xc xd).map cl) nn oo 2) (endN ((t4 xa xb xc xd).map cl) nn oo 3)) = 4 from by simp [kN, m0, m1, m2, m3]]; rfl) _ _ _ K77
      · have m1 : (endN ((t4 xa xb xc xd).map cl) nn oo 1) = 1 := r1.resolve_left fun q => by rw [q] at hc264; exact absurd hc264 (by decide)
        refine k_iconst K77 (1 : Int32) at_267 (pc' := 268) rfl rfl ?_
        refine k_istore K77 at_268 (pc' := 270) (L' := #[.val (.int xa), .val (.int xb), .val (.int xc), .val (.int xd), .val (.int xs), .val (.int n), .val (.int off), .val (.ref ta), .val (.ref sa), .val (.ref a72), .val (.int (Int32.ofNat (endN ((t4 xa xb xc xd).map cl) nn oo 0))), .val (.int (Int32.ofNat (endN ((t4 xa xb xc xd).map cl) nn oo 1))), .val (.int (Int32.ofNat (endN ((t4 xa xb xc xd).map cl) nn oo 2))), .val (.int (Int32.ofNat (endN ((t4 xa xb xc xd).map cl) nn oo 3))), .val (.int (((((1 : Int32) + (Int32.ofNat (endN ((t4 xa xb xc xd).map cl) nn oo 0))) + (Int32.ofNat (endN ((t4 xa xb xc xd).map cl) nn oo 1))) + (Int32.ofNat (endN ((t4 xa xb xc xd).map cl) nn oo 2))) + (Int32.ofNat (endN ((t4 xa xb xc xd).map cl) nn oo 3)))), .val (.int (1 : Int32)), .unset, .unset]) rfl rfl ?_
        refine k_iload K77 at_270 (pc' := 272) rfl rfl ?_
        refine k_iconst K77 (1 : Int32) at_272 (pc' := 273) rfl rfl ?_
        refine k_icmp_ne K77 at_273 (by decide) (pc' := 279) (pc2 := 276) (by decide) rfl (fun hc273 => ?_) (fun hc273 => ?_)
        · have m2 : (endN ((t4 xa xb xc xd).map cl) nn oo 2) = 0 := r2.resolve_right fun q => hc273 (by rw [q]; rfl)
          refine k_iload K77 at_279 (pc' := 281) rfl rfl ?_
          refine k_iconst K77 (1 : Int32) at_281 (pc' := 282) rfl rfl ?_
          refine k_icmp_ne K77 at_282 (by decide) (pc' := 288) (pc2 := 285) (by decide) rfl (fun hc282 => ?_) (fun hc282 => ?_)
          · have m3 : (endN ((t4 xa xb xc xd).map cl) nn oo 3) = 0 := r3.resolve_right fun q => hc282 (by rw [q]; rfl)
            exact J15 _ (by rw [show (kN (endN ((t4 xa xb xc xd).map cl) nn oo 0) (endN ((t4 xa xb xc xd).map cl) nn oo 1) (endN ((t4 xa xb xc xd).map cl) nn oo 2) (endN ((t4 xa xb xc xd).map cl) nn oo 3)) = 2 from by simp [kN, m0, m1, m2, m3]]; rfl) _ _ _ K77
          · have m3 : (endN ((t4 xa xb xc xd).map cl) nn oo 3) = 1 := r3.resolve_left fun q => by rw [q] at hc282; exact absurd hc282 (by decide)
            refine k_iconst K77 (3 : Int32) at_285 (pc' := 286) rfl rfl ?_
            refine k_istore K77 at_286 (pc' := 288) (L' := #[.val (.int xa), .val (.int xb), .val (.int xc), .val (.int xd), .val (.int xs), .val (.int n), .val (.int off), .val (.ref ta), .val (.ref sa), .val (.ref a72), .val (.int (Int32.ofNat (endN ((t4 xa xb xc xd).map cl) nn oo 0))), .val (.int (Int32.ofNat (endN ((t4 xa xb xc xd).map cl) nn oo 1))), .val (.int (Int32.ofNat (endN ((t4 xa xb xc xd).map cl) nn oo 2))), .val (.int (Int32.ofNat (endN ((t4 xa xb xc xd).map cl) nn oo 3))), .val (.int (((((1 : Int32) + (Int32.ofNat (endN ((t4 xa xb xc xd).map cl) nn oo 0))) + (Int32.ofNat (endN ((t4 xa xb xc xd).map cl) nn oo 1))) + (Int32.ofNat (endN ((t4 xa xb xc xd).map cl) nn oo 2))) + (Int32.ofNat (endN ((t4 xa xb xc xd).map cl) nn oo 3)))), .val (.int (3 : Int32)), .unset, .unset]) rfl rfl ?_
            exact J15 _ (by rw [show (kN (endN ((t4 xa xb xc xd).map cl) nn oo 0) (endN ((t4 xa xb xc xd).map cl) nn oo 1) (endN ((t4 xa xb xc xd).map cl) nn oo 2) (endN ((t4 xa xb xc xd).map cl) nn oo 3)) = 4 from by simp [kN, m0, m1, m2, m3]]; rfl) _ _ _ K77
        · have m2 : (endN ((t4 xa xb xc xd).map cl) nn oo 2) = 1 := r2.resolve_left fun q => by rw [q] at hc273; exact absurd hc273 (by decide)
          refine k_iconst K77 (2 : Int32) at_276 (pc' := 277) rfl rfl ?_
          refine k_istore K77 at_277 (pc' := 279) (L' := #[.val (.int xa), .val (.int xb), .val (.int xc), .val (.int xd), .val (.int xs), .val (.int n), .val (.int off), .val (.ref ta), .val (.ref sa), .val (.ref a72), .val (.int (Int32.ofNat (endN ((t4 xa xb xc xd).map cl) nn oo 0))), .val (.int (Int32.ofNat (endN ((t4 xa xb xc xd).map cl) nn oo 1))), .val (.int (Int32.ofNat (endN ((t4 xa xb xc xd).map cl) nn oo 2))), .val (.int (Int32.ofNat (endN ((t4 xa xb xc xd).map cl) nn oo 3))), .val (.int (((((1 : Int32) + (Int32.ofNat (endN ((t4 xa xb xc xd).map cl) nn oo 0))) + (Int32.ofNat (endN ((t4 xa xb xc xd).map cl) nn oo 1))) + (Int32.ofNat (endN ((t4 xa xb xc xd).map cl) nn oo 2))) + (Int32.ofNat (endN ((t4 xa xb xc xd).map cl) nn oo 3)))), .val (.int (2 : Int32)), .unset, .unset]) rfl rfl ?_
          refine k_iload K77 at_279 (pc' := 281) rfl rfl ?_
          refine k_iconst K77 (1 : Int32) at_281 (pc' := 282) rfl rfl ?_
          refine k_icmp_ne K77 at_282 (by decide) (pc' := 288) (pc2 := 285) (by decide) rfl (fun hc282 => ?_) (fun hc282 => ?_)
          · have m3 : (endN ((t4 xa xb xc xd).map cl) nn oo 3) = 0 := r3.resolve_right fun q => hc282 (by rw [q]; rfl)
            exact J15 _ (by rw [show (kN (endN ((t4 xa xb xc xd).map cl) nn oo 0) (endN ((t4 xa xb xc xd).map cl) nn oo 1) (endN ((t4 xa xb xc xd).map cl) nn oo 2) (endN ((t4 xa xb xc xd).map cl) nn oo 3)) = 3 from by simp [kN, m0, m1, m2, m3]]; rfl) _ _ _ K77
          · have m3 : (endN ((t4 xa xb xc xd).map cl) nn oo 3) = 1 := r3.resolve_left fun q => by rw [q] at hc282; exact absurd hc282 (by decide)
            refine k_iconst K77 (3 : Int32) at_285 (pc' := 286) rfl rfl ?_
            refine k_istore K77 at_286 (pc' := 288) (L' := #[.val (.int xa), .val (.int xb), .val (.int xc), .val (.int xd), .val (.int xs), .val (.int n), .val (.int off), .val (.ref ta), .val (.ref sa), .val (.ref a72), .val (.int (Int32.ofNat (endN ((t4 xa xb xc xd).map cl) nn oo 0))), .val (.int (Int32.ofNat (endN ((t4 xa xb xc xd).map cl) nn oo 1))), .val (.int (Int32.ofNat (endN ((t4 xa xb xc xd).map cl) nn oo 2))), .val (.int (Int32.ofNat (endN ((t4 xa xb xc xd).map cl) nn oo 3))), .val (.int (((((1 : Int32) + (Int32.ofNat (endN ((t4 xa xb xc xd).map cl) nn oo 0))) + (Int32.ofNat (endN ((t4 xa xb xc xd).map cl) nn oo 1))) + (Int32.ofNat (endN ((t4 xa xb xc xd).map cl) nn oo 2))) + (Int32.ofNat (endN ((t4 xa xb xc xd).map cl) nn oo 3)))), .val (.int (3 : Int32)), .unset, .unset]) rfl rfl ?_
            exact J15 _ (by rw [show (kN (endN ((t4 xa xb xc xd).map cl) nn oo 0) (endN ((t4 xa xb xc xd).map cl) nn oo 1) (endN ((t4 xa xb xc xd).map cl) nn oo 2) (endN ((t4 xa xb xc xd).map cl) nn oo 3)) = 4 from by simp [kN, m0, m1, m2, m3]]; rfl) _ _ _ K77
  rcases own_n5 xs with hn | hn | hn | hn | hn
  · refine k_iload K at_0 (pc' := 2) rfl rfl ?_
    refine k_bipush K (7 : Int32) at_2 (pc' := 4) rfl rfl ?_
    refine k_iand K at_4 (pc' := 5) rfl ?_
    refine k_iconst K (5 : Int32) at_5 (pc' := 6) rfl rfl ?_
    refine k_irem K at_6 (pc' := 7) rfl (by decide) ?_
    rw [hn]
    refine k_istore K at_7 (pc' := 9) (L' := #[.val (.int xa), .val (.int xb), .val (.int xc), .val (.int xd), .val (.int xs), .val (.int (0 : Int32)), .unset, .unset, .unset, .unset, .unset, .unset, .unset, .unset, .unset, .unset, .unset, .unset]) rfl rfl ?_
    refine k_iload K at_9 (pc' := 11) rfl rfl ?_
    refine k_iconst K (3 : Int32) at_11 (pc' := 12) rfl rfl ?_
    refine k_iushr K at_12 (pc' := 13) rfl ?_
    refine k_ldcI K (w0 hw) at_13 (pc' := 15) rfl ?_
    refine k_iand K at_15 (pc' := 16) rfl ?_
    refine k_iload K at_16 (pc' := 18) rfl rfl ?_
    refine k_iconst K (1 : Int32) at_18 (pc' := 19) rfl rfl ?_
    refine k_iadd K at_19 (pc' := 20) rfl ?_
    rw [show (0 : Int32) + 1 = 1 by decide]
    refine k_irem K at_20 (pc' := 21) rfl (by decide) ?_
    obtain ⟨oo, hle, ho⟩ := own_off (XT.ushr xs (3 : Int32)) 1 0 (by decide)
    generalize (((XT.ushr xs (3 : Int32)) &&& (65535 : Int32)) % (1 : Int32)) = off at ho ⊢
    refine k_istore K at_21 (pc' := 23) (L' := #[.val (.int xa), .val (.int xb), .val (.int xc), .val (.int xd), .val (.int xs), .val (.int (0 : Int32)), .val (.int off), .unset, .unset, .unset, .unset, .unset, .unset, .unset, .unset, .unset, .unset, .unset]) rfl rfl ?_
    refine k_iconst K (4 : Int32) at_23 (pc' := 24) rfl rfl ?_
    refine k_newarray K (aty := .char) (z := (4 : Int32)) (w1 hw) (by decide) (cap := 4) (by decide) (by decide) at_24 (pc' := 26) rfl (by decide) (by decide) ?_
    intro T86 h86 a86 ka86 g86 K86 E86 tr86 sf_a86 V_a86
    have ga_a86 : n0 ≤ a86 := own_old K.old g86
    replace V_a86 : Arv Z h86 a86 ka86 .char (4 : Int32) [(.int (0 : Int32)), (.int (0 : Int32)), (.int (0 : Int32)), (.int (0 : Int32))] (.int (0 : Int32)) := V_a86.pad (pad_rep [] (.int (0 : Int32)) 4)
    refine k_astore K86 at_26 (pc' := 28) (L' := #[.val (.int xa), .val (.int xb), .val (.int xc), .val (.int xd), .val (.int xs), .val (.int (0 : Int32)), .val (.int off), .val (.ref a86), .unset, .unset, .unset, .unset, .unset, .unset, .unset, .unset, .unset, .unset]) rfl rfl rfl ?_
    refine k_aload K86 at_28 (pc' := 30) rfl rfl rfl ?_
    refine k_iconst K86 (0 : Int32) at_30 (pc' := 31) rfl rfl ?_
    refine k_iloadN K86 at_31 (pc' := 32) rfl rfl ?_
    refine k_staticP K86 [(.int xa)] [(.int (0 : Int32)), (.ref a86)] 2 (w2 hw) (w3 hw) (w4 hw) (w5 hw) (by decide) pd__I_C_577 (c_draw l Z a0 hw hEW n0 xa h86 K86.old ) at_32 nofun (pc' := 35) rfl rfl rfl rfl (Nat.le_of_eq rfl) (by decide) (by decide) (by decide) (by decide) ?_
    intro b87 T87 L87 K87 tr87
    show Goes p_.tables e_ below_ _ (T87.setTop (mkF m_ 35 #[.val (.int xa), .val (.int xb), .val (.int xc), .val (.int xd), .val (.int xs), .val (.int (0 : Int32)), .val (.int off), .val (.ref a86), .unset, .unset, .unset, .unset, .unset, .unset, .unset, .unset, .unset, .unset] [(.int (dr xa)), (.int (0 : Int32)), (.ref a86)]))
    replace sf_a86 := tr87 a86 V_a86.lt sf_a86
    refine k_castore K87 (j := (0 : Int32)) V_a86 ⟨by decide, by decide⟩ (Nat.le_of_ble_eq_true rfl) ga_a86 sf_a86 at_35 (pc' := 36) rfl ?_
    intro T88 h88 K88 W88 tr88 V88
    replace sf_a86 := tr88 a86 V_a86.lt sf_a86
    replace V_a86 := V88
    refine k_aload K88 at_36 (pc' := 38) rfl rfl rfl ?_
    refine k_iconst K88 (1 : Int32) at_38 (pc' := 39) rfl rfl ?_
    refine k_iloadN K88 at_39 (pc' := 40) rfl rfl ?_
    refine k_staticP K88 [(.int xb)] [(.int (1 : Int32)), (.ref a86)] 2 (w2 hw) (w3 hw) (w4 hw) (w5 hw) (by decide) pd__I_C_577 (c_draw l Z a0 hw hEW n0 xb h88 K88.old ) at_40 nofun (pc' := 43) rfl rfl rfl rfl (Nat.le_of_eq rfl) (by decide) (by decide) (by decide) (by decide) ?_
    intro b89 T89 L89 K89 tr89
    show Goes p_.tables e_ below_ _ (T89.setTop (mkF m_ 43 #[.val (.int xa), .val (.int xb), .val (.int xc), .val (.int xd), .val (.int xs), .val (.int (0 : Int32)), .val (.int off), .val (.ref a86), .unset, .unset, .unset, .unset, .unset, .unset, .unset, .unset, .unset, .unset] [(.int (dr xb)), (.int (1 : Int32)), (.ref a86)]))
    replace sf_a86 := tr89 a86 V_a86.lt sf_a86
    refine k_castore K89 (j := (1 : Int32)) V_a86 ⟨by decide, by decide⟩ (Nat.le_of_ble_eq_true rfl) ga_a86 sf_a86 at_43 (pc' := 44) rfl ?_
    intro T90 h90 K90 W90 tr90 V90
    replace sf_a86 := tr90 a86 V_a86.lt sf_a86
    replace V_a86 := V90
    refine k_aload K90 at_44 (pc' := 46) rfl rfl rfl ?_
    refine k_iconst K90 (2 : Int32) at_46 (pc' := 47) rfl rfl ?_
    refine k_iloadN K90 at_47 (pc' := 48) rfl rfl ?_
    refine k_staticP K90 [(.int xc)] [(.int (2 : Int32)), (.ref a86)] 2 (w2 hw) (w3 hw) (w4 hw) (w5 hw) (by decide) pd__I_C_577 (c_draw l Z a0 hw hEW n0 xc h90 K90.old ) at_48 nofun (pc' := 51) rfl rfl rfl rfl (Nat.le_of_eq rfl) (by decide) (by decide) (by decide) (by decide) ?_
    intro b91 T91 L91 K91 tr91
    show Goes p_.tables e_ below_ _ (T91.setTop (mkF m_ 51 #[.val (.int xa), .val (.int xb), .val (.int xc), .val (.int xd), .val (.int xs), .val (.int (0 : Int32)), .val (.int off), .val (.ref a86), .unset, .unset, .unset, .unset, .unset, .unset, .unset, .unset, .unset, .unset] [(.int (dr xc)), (.int (2 : Int32)), (.ref a86)]))
    replace sf_a86 := tr91 a86 V_a86.lt sf_a86
    refine k_castore K91 (j := (2 : Int32)) V_a86 ⟨by decide, by decide⟩ (Nat.le_of_ble_eq_true rfl) ga_a86 sf_a86 at_51 (pc' := 52) rfl ?_
    intro T92 h92 K92 W92 tr92 V92
    replace sf_a86 := tr92 a86 V_a86.lt sf_a86
    replace V_a86 := V92
    refine k_aload K92 at_52 (pc' := 54) rfl rfl rfl ?_
    refine k_iconst K92 (3 : Int32) at_54 (pc' := 55) rfl rfl ?_
    refine k_iloadN K92 at_55 (pc' := 56) rfl rfl ?_
    refine k_staticP K92 [(.int xd)] [(.int (3 : Int32)), (.ref a86)] 2 (w2 hw) (w3 hw) (w4 hw) (w5 hw) (by decide) pd__I_C_577 (c_draw l Z a0 hw hEW n0 xd h92 K92.old ) at_56 nofun (pc' := 59) rfl rfl rfl rfl (Nat.le_of_eq rfl) (by decide) (by decide) (by decide) (by decide) ?_
    intro b93 T93 L93 K93 tr93
    show Goes p_.tables e_ below_ _ (T93.setTop (mkF m_ 59 #[.val (.int xa), .val (.int xb), .val (.int xc), .val (.int xd), .val (.int xs), .val (.int (0 : Int32)), .val (.int off), .val (.ref a86), .unset, .unset, .unset, .unset, .unset, .unset, .unset, .unset, .unset, .unset] [(.int (dr xd)), (.int (3 : Int32)), (.ref a86)]))
    replace sf_a86 := tr93 a86 V_a86.lt sf_a86
    refine k_castore K93 (j := (3 : Int32)) V_a86 ⟨by decide, by decide⟩ (Nat.le_of_ble_eq_true rfl) ga_a86 sf_a86 at_59 (pc' := 60) rfl ?_
    intro T94 h94 K94 W94 tr94 V94
    replace sf_a86 := tr94 a86 V_a86.lt sf_a86
    replace V_a86 := V94
    have e0 : ∀ x : Int32, nar .char (dr x) = dr x := fun x => Value.int.inj (own_narrowc (dr_b x).1 (dr_b x).2)
    rw [e0 xa, e0 xb, e0 xc, e0 xd] at V_a86
    replace V_a86 : Arv Z h94 a86 ka86 .char 4 ((t4 xa xb xc xd).map Value.int) (.int 0) := V_a86
    refine k_iload K94 at_60 (pc' := 62) rfl rfl ?_
    refine k_if_ne K94 at_62 (by decide) (pc' := 73) (pc2 := 65) (by decide) rfl (fun q => absurd (by decide) q) (fun hc62 => ?_)
    refine k_iconst K94 (0 : Int32) at_65 (pc' := 66) rfl rfl ?_
    refine k_newarray K94 (aty := .char) (z := (0 : Int32)) (w1 hw) (by decide) (cap := 4) (by decide) (by decide) at_66 (pc' := 68) rfl (by decide) (by decide) ?_
    intro T95 h95 a95 ka95 g95 K95 E95 tr95 sf_a95 V_a95
    have ga_a95 : n0 ≤ a95 := own_old K94.old g95
    have ne_a86_a95 : a86 ≠ a95 := own_ne V_a86.lt g95
    replace sf_a86 := tr95 a86 V_a86.lt sf_a86
    replace V_a86 := V_a86.ext E95
    replace V_a95 : Arv Z h95 a95 ka95 .char (0 : Int32) [] (.int (0 : Int32)) := V_a95.pad (pad_rep [] (.int (0 : Int32)) 0)
    refine k_astore K95 at_68 (pc' := 70) (L' := #[.val (.int xa), .val (.int xb), .val (.int xc), .val (.int xd), .val (.int xs), .val (.int (0 : Int32)), .val (.int off), .val (.ref a86), .val (.ref a95), .unset, .unset, .unset, .unset, .unset, .unset, .unset, .unset, .unset]) rfl rfl rfl ?_
    refine k_goto K95 at_70 (by decide) (pc' := 120) (by decide) ?_
    refine k_iload K95 at_120 (pc' := 122) rfl rfl ?_
    refine k_if_le K95 at_122 (by decide) (pc' := 133) (pc2 := 125) (by decide) rfl (fun hc122 => ?_) (fun q => absurd q (by decide))
    refine k_iload K95 at_133 (pc' := 135) rfl rfl ?_
    refine k_iconst K95 (1 : Int32) at_135 (pc' := 136) rfl rfl ?_
    refine k_icmp_le K95 at_136 (by decide) (pc' := 147) (pc2 := 139) (by decide) rfl (fun hc136 => ?_) (fun q => absurd q (by decide))
    refine k_iload K95 at_147 (pc' := 149) rfl rfl ?_
    refine k_iconst K95 (2 : Int32) at_149 (pc' := 150) rfl rfl ?_
    refine k_icmp_le K95 at_150 (by decide) (pc' := 161) (pc2 := 153) (by decide) rfl (fun hc150 => ?_) (fun q => absurd q (by decide))
    refine k_iload K95 at_161 (pc' := 163) rfl rfl ?_
    refine k_iconst K95 (3 : Int32) at_163 (pc' := 164) rfl rfl ?_
    refine k_icmp_le K95 at_164 (by decide) (pc' := 175) (pc2 := 167) (by decide) rfl (fun hc164 => ?_) (fun q => absurd q (by decide))
    exact J _ _ 0 oo rfl ho hle (by decide) _ _ _ _ _ _ _ _ K95 V_a86 V_a95
  · refine k_iload K at_0 (pc' := 2) rfl rfl ?_
    refine k_bipush K (7 : Int32) at_2 (pc' := 4) rfl rfl ?_
    refine k_iand K at_4 (pc' := 5) rfl ?_
    refine k_iconst K (5 : Int32) at_5 (pc' := 6) rfl rfl ?_
    refine k_irem K at_6 (pc' := 7) rfl (by decide) ?_
    rw [hn]
    refine k_istore K at_7 (pc' := 9) (L' := #[.val (.int xa), .val (.int xb), .val (.int xc), .val (.int xd), .val (.int xs), .val (.int (1 : Int32)), .unset, .unset, .unset, .unset, .unset, .unset, .unset, .unset, .unset, .unset, .unset, .unset]) rfl rfl ?_
    refine k_iload K at_9 (pc' := 11) rfl rfl ?_
    refine k_iconst K (3 : Int32) at_11 (pc' := 12) rfl rfl ?_
    refine k_iushr K at_12 (pc' := 13) rfl ?_
    refine k_ldcI K (w0 hw) at_13 (pc' := 15) rfl ?_
    refine k_iand K at_15 (pc' := 16) rfl ?_
    refine k_iload K at_16 (pc' := 18) rfl rfl ?_
    refine k_iconst K (1 : Int32) at_18 (pc' := 19) rfl rfl ?_
    refine k_iadd K at_19 (pc' := 20) rfl ?_
    rw [show (1 : Int32) + 1 = 2 by decide]
    refine k_irem K at_20 (pc' := 21) rfl (by decide) ?_
    obtain ⟨oo, hle, ho⟩ := own_off (XT.ushr xs (3 : Int32)) 2 1 (by decide)
    generalize (((XT.ushr xs (3 : Int32)) &&& (65535 : Int32)) % (2 : Int32)) = off at ho ⊢
    refine k_istore K at_21 (pc' := 23) (L' := #[.val (.int xa), .val (.int xb), .val (.int xc), .val (.int xd), .val (.int xs), .val (.int (1 : Int32)), .val (.int off), .unset, .unset, .unset, .unset, .unset, .unset, .unset, .unset, .unset, .unset, .unset]) rfl rfl ?_
    refine k_iconst K (4 : Int32) at_23 (pc' := 24) rfl rfl ?_
    refine k_newarray K (aty := .char) (z := (4 : Int32)) (w1 hw) (by decide) (cap := 4) (by decide) (by decide) at_24 (pc' := 26) rfl (by decide) (by decide) ?_
    intro T96 h96 a96 ka96 g96 K96 E96 tr96 sf_a96 V_a96
    have ga_a96 : n0 ≤ a96 := own_old K.old g96
    replace V_a96 : Arv Z h96 a96 ka96 .char (4 : Int32) [(.int (0 : Int32)), (.int (0 : Int32)), (.int (0 : Int32)), (.int (0 : Int32))] (.int (0 : Int32)) := V_a96.pad (pad_rep [] (.int (0 : Int32)) 4)
    refine k_astore K96 at_26 (pc' := 28) (L' := #[.val (.int xa), .val (.int xb), .val (.int xc), .val (.int xd), .val (.int xs), .val (.int (1 : Int32)), .val (.int off), .val (.ref a96), .unset, .unset, .unset, .unset, .unset, .unset, .unset, .unset, .unset, .unset]) rfl rfl rfl ?_
    refine k_aload K96 at_28 (pc' := 30) rfl rfl rfl ?_
    refine k_iconst K96 (0 : Int32) at_30 (pc' := 31) rfl rfl ?_
    refine k_iloadN K96 at_31 (pc' := 32) rfl rfl ?_
    refine k_staticP K96 [(.int xa)] [(.int (0 : Int32)), (.ref a96)] 2 (w2 hw) (w3 hw) (w4 hw) (w5 hw) (by decide) pd__I_C_577 (c_draw l Z a0 hw hEW n0 xa h96 K96.old ) at_32 nofun (pc' := 35) rfl rfl rfl rfl (Nat.le_of_eq rfl) (by decide) (by decide) (by decide) (by decide) ?_
    intro b97 T97 L97 K97 tr97
    show Goes p_.tables e_ below_ _ (T97.setTop (mkF m_ 35 #[.val (.int xa), .val (.int xb), .val (.int xc), .val (.int xd), .val (.int xs), .val (.int (1 : Int32)), .val (.int off), .val (.ref a96), .unset, .unset, .unset, .unset, .unset, .unset, .unset, .unset, .unset, .unset] [(.int (dr xa)), (.int (0 : Int32)), (.ref a96)]))
    replace sf_a96 := tr97 a96 V_a96.lt sf_a96
    refine k_castore K97 (j := (0 : Int32)) V_a96 ⟨by decide, by decide⟩ (Nat.le_of_ble_eq_true rfl) ga_a96 sf_a96 at_35 (pc' := 36) rfl ?_
    intro T98 h98 K98 W98 tr98 V98
    replace sf_a96 := tr98 a96 V_a96.lt sf_a96
    replace V_a96 := V98
    refine k_aload K98 at_36 (pc' := 38) rfl rfl rfl ?_
    refine k_iconst K98 (1 : Int32) at_38 (pc' := 39) rfl rfl ?_
    refine k_iloadN K98 at_39 (pc' := 40) rfl rfl ?_
    refine k_staticP K98 [(.int xb)] [(.int (1 : Int32)), (.ref a96)] 2 (w2 hw) (w3 hw) (w4 hw) (w5 hw) (by decide) pd__I_C_577 (c_draw l Z a0 hw hEW n0 xb h98 K98.old ) at_40 nofun (pc' := 43) rfl rfl rfl rfl (Nat.le_of_eq rfl) (by decide) (by decide) (by decide) (by decide) ?_
    intro b99 T99 L99 K99 tr99
    show Goes p_.tables e_ below_ _ (T99.setTop (mkF m_ 43 #[.val (.int xa), .val (.int xb), .val (.int xc), .val (.int xd), .val (.int xs), .val (.int (1 : Int32)), .val (.int off), .val (.ref a96), .unset, .unset, .unset, .unset, .unset, .unset, .unset, .unset, .unset, .unset] [(.int (dr xb)), (.int (1 : Int32)), (.ref a96)]))
    replace sf_a96 := tr99 a96 V_a96.lt sf_a96
    refine k_castore K99 (j := (1 : Int32)) V_a96 ⟨by decide, by decide⟩ (Nat.le_of_ble_eq_true rfl) ga_a96 sf_a96 at_43 (pc' := 44) rfl ?_
    intro T100 h100 K100 W100 tr100 V100
    replace sf_a96 := tr100 a96 V_a96.lt sf_a96
    replace V_a96 := V100
    refine k_aload K100 at_44 (pc' := 46) rfl rfl rfl ?_
    refine k_iconst K100 (2 : Int32) at_46 (pc' := 47) rfl rfl ?_
    refine k_iloadN K100 at_47 (pc' := 48) rfl rfl ?_
    refine k_staticP K100 [(.int xc)] [(.int (2 : Int32)), (.ref a96)] 2 (w2 hw) (w3 hw) (w4 hw) (w5 hw) (by decide) pd__I_C_577 (c_draw l Z a0 hw hEW n0 xc h100 K100.old ) at_48 nofun (pc' := 51) rfl rfl rfl rfl (Nat.le_of_eq rfl) (by decide) (by decide) (by decide) (by decide) ?_
    intro b101 T101 L101 K101 tr101
    show Goes p_.tables e_ below_ _ (T101.setTop (mkF m_ 51 #[.val (.int xa), .val (.int xb), .val (.int xc), .val (.int xd), .val (.int xs), .val (.int (1 : Int32)), .val (.int off), .val (.ref a96), .unset, .unset, .unset, .unset, .unset, .unset, .unset, .unset, .unset, .unset] [(.int (dr xc)), (.int (2 : Int32)), (.ref a96)]))
    replace sf_a96 := tr101 a96 V_a96.lt sf_a96
    refine k_castore K101 (j := (2 : Int32)) V_a96 ⟨by decide, by decide⟩ (Nat.le_of_ble_eq_true rfl) ga_a96 sf_a96 at_51 (pc' := 52) rfl ?_
    intro T102 h102 K102 W102 tr102 V102
    replace sf_a96 := tr102 a96 V_a96.lt sf_a96
    replace V_a96 := V102
    refine k_aload K102 at_52 (pc' := 54) rfl rfl rfl ?_
    refine k_iconst K102 (3 : Int32) at_54 (pc' := 55) rfl rfl ?_
    refine k_iloadN K102 at_55 (pc' := 56) rfl rfl ?_
    refine k_staticP K102 [(.int xd)] [(.int (3 : Int32)), (.ref a96)] 2 (w2 hw) (w3 hw) (w4 hw) (w5 hw) (by decide) pd__I_C_577 (c_draw l Z a0 hw hEW n0 xd h102 K102.old ) at_56 nofun (pc' := 59) rfl rfl rfl rfl (Nat.le_of_eq rfl) (by decide) (by decide) (by decide) (by decide) ?_
    intro b103 T103 L103 K103 tr103
    show Goes p_.tables e_ below_ _ (T103.setTop (mkF m_ 59 #[.val (.int xa), .val (.int xb), .val (.int xc), .val (.int xd), .val (.int xs), .val (.int (1 : Int32)), .val (.int off), .val (.ref a96), .unset, .unset, .unset, .unset, .unset, .unset, .unset, .unset, .unset, .unset] [(.int (dr xd)), (.int (3 : Int32)), (.ref a96)]))
    replace sf_a96 := tr103 a96 V_a96.lt sf_a96
    refine k_castore K103 (j := (3 : Int32)) V_a96 ⟨by decide, by decide⟩ (Nat.le_of_ble_eq_true rfl) ga_a96 sf_a96 at_59 (pc' := 60) rfl ?_
    intro T104 h104 K104 W104 tr104 V104
    replace sf_a96 := tr104 a96 V_a96.lt sf_a96
    replace V_a96 := V104
    have e0 : ∀ x : Int32, nar .char (dr x) = dr x := fun x => Value.int.inj (own_narrowc (dr_b x).1 (dr_b x).2)
    rw [e0 xa, e0 xb, e0 xc, e0 xd] at V_a96
    replace V_a96 : Arv Z h104 a96 ka96 .char 4 ((t4 xa xb xc xd).map Value.int) (.int 0) := V_a96
    refine k_iload K104 at_60 (pc' := 62) rfl rfl ?_
    refine k_if_ne K104 at_62 (by decide) (pc' := 73) (pc2 := 65) (by decide) rfl (fun hc62 => ?_) (fun q => absurd q (by decide))
    refine k_iload K104 at_73 (pc' := 75) rfl rfl ?_
    refine k_iconst K104 (1 : Int32) at_75 (pc' := 76) rfl rfl ?_
    refine k_icmp_ne K104 at_76 (by decide) (pc' := 87) (pc2 := 79) (by decide) rfl (fun q => absurd (by decide) q) (fun hc76 => ?_)
    refine k_iconst K104 (1 : Int32) at_79 (pc' := 80) rfl rfl ?_
    refine k_newarray K104 (aty := .char) (z := (1 : Int32)) (w1 hw) (by decide) (cap := 4) (by decide) (by decide) at_80 (pc' := 82) rfl (by decide) (by decide) ?_
    intro T105 h105 a105 ka105 g105 K105 E105 tr105 sf_a105 V_a105
    have ga_a105 : n0 ≤ a105 := own_old K104.old g105
    have ne_a96_a105 : a96 ≠ a105 := own_ne V_a96.lt g105
    replace sf_a96 := tr105 a96 V_a96.lt sf_a96
    replace V_a96 := V_a96.ext E105
    replace V_a105 : Arv Z h105 a105 ka105 .char (1 : Int32) [(.int (0 : Int32))] (.int (0 : Int32)) := V_a105.pad (pad_rep [] (.int (0 : Int32)) 1)
    refine k_astore K105 at_82 (pc' := 84) (L' := #[.val (.int xa), .val (.int xb), .val (.int xc), .val (.int xd), .val (.int xs), .val (.int (1 : Int32)), .val (.int off), .val (.ref a96), .val (.ref a105), .unset, .unset, .unset, .unset, .unset, .unset, .unset, .unset, .unset]) rfl rfl rfl ?_
    refine k_goto K105 at_84 (by decide) (pc' := 120) (by decide) ?_
    refine k_iload K105 at_120 (pc' := 122) rfl rfl ?_
    refine k_if_le K105 at_122 (by decide) (pc' := 133) (pc2 := 125) (by decide) rfl (fun q => absurd (by decide) q) (fun hc122 => ?_)
    refine k_aload K105 at_125 (pc' := 127) rfl rfl rfl ?_
    refine k_iconst K105 (0 : Int32) at_127 (pc' := 128) rfl rfl ?_
    refine k_aload K105 at_128 (pc' := 130) rfl rfl rfl ?_
    refine k_iconst K105 (0 : Int32) at_130 (pc' := 131) rfl rfl ?_
    refine k_caload K105 (j := (0 : Int32)) V_a96 ⟨by decide, by decide⟩ rfl at_131 (pc' := 132) rfl ?_
    refine k_castore K105 (j := (0 : Int32)) V_a105 ⟨by decide, by decide⟩ (Nat.le_of_ble_eq_true rfl) ga_a105 sf_a105 at_132 (pc' := 133) rfl ?_
    intro T106 h106 K106 W106 tr106 V106
    replace sf_a96 := tr106 a96 V_a96.lt sf_a96
    replace sf_a105 := tr106 a105 V_a105.lt sf_a105
    replace V_a96 := V_a96.other W106 ne_a96_a105
    replace V_a105 := V106
    rw [e0 xa] at V_a105
    refine k_iload K106 at_133 (pc' := 135) rfl rfl ?_
    refine k_iconst K106 (1 : Int32) at_135 (pc' := 136) rfl rfl ?_
    refine k_icmp_le K106 at_136 (by decide) (pc' := 147) (pc2 := 139) (by decide) rfl (fun hc136 => ?_) (fun q => absurd q (by decide))
    refine k_iload K106 at_147 (pc' := 149) rfl rfl ?_
    refine k_iconst K106 (2 : Int32) at_149 (pc' := 150) rfl rfl ?_
    refine k_icmp_le K106 at_150 (by decide) (pc' := 161) (pc2 := 153) (by decide) rfl (fun hc150 => ?_) (fun q => absurd q (by decide))
    refine k_iload K106 at_161 (pc' := 163) rfl rfl ?_
    refine k_iconst K106 (3 : Int32) at_163 (pc' := 164) rfl rfl ?_
    refine k_icmp_le K106 at_164 (by decide) (pc' := 175) (pc2 := 167) (by decide) rfl (fun hc164 => ?_) (fun q => absurd q (by decide))
    exact J _ _ 1 oo rfl ho hle (by decide) _ _ _ _ _ _ _ _ K106 V_a96 V_a105
  · refine k_iload K at_0 (pc' := 2) rfl rfl ?_
    refine k_bipush K (7 : Int32) at_2 (pc' := 4) rfl rfl ?_
    refine k_iand K at_4 (pc' := 5) rfl ?_
    refine k_iconst K (5 : Int32) at_5 (pc' := 6) rfl rfl ?_
    refine k_irem K at_6 (pc' := 7) rfl (by decide) ?_
    rw [hn]
    refine k_istore K at_7 (pc' := 9) (L' := #[.val (.int xa), .val (.int xb), .val (.int xc), .val (.int xd), .val (.int xs), .val (.int (2 : Int32)), .unset, .unset, .unset, .unset, .unset, .unset, .unset, .unset, .unset, .unset, .unset, .unset]) rfl rfl ?_
    refine k_iload K at_9 (pc' := 11) rfl rfl ?_
    refine k_iconst K (3 : Int32) at_11 (pc' := 12) rfl rfl ?_
    refine k_iushr K at_12 (pc' := 13) rfl ?_
    refine k_ldcI K (w0 hw) at_13 (pc' := 15) rfl ?_
    refine k_iand K at_15 (pc' := 16) rfl ?_
    refine k_iload K at_16 (pc' := 18) rfl rfl ?_
    refine k_iconst K (1 : Int32) at_18 (pc' := 19) rfl rfl ?_
    refine k_iadd K at_19 (pc' := 20) rfl ?_
    rw [show (2 : Int32) + 1 = 3 by decide]
    refine k_irem K at_20 (pc' := 21) rfl (by decide) ?_
    obtain ⟨oo, hle, ho⟩ := own_off (XT.ushr xs (3 : Int32)) 3 2 (by decide)
    generalize (((XT.ushr xs (3 : Int32)) &&& (65535 : Int32)) % (3 : Int32)) = off at ho ⊢
    refine k_istore K at_21 (pc' := 23) (L' := #[.val (.int xa), .val (.int xb), .val (.int xc), .val (.int xd), .val (.int xs), .val (.int (2 : Int32)), .val (.int off), .unset, .unset, .unset, .unset, .unset, .unset, .unset, .unset, .unset, .unset, .unset]) rfl rfl ?_
    refine k_iconst K (4 : Int32) at_23 (pc' := 24) rfl rfl ?_
    refine k_newarray K (aty := .char) (z := (4 : Int32)) (w1 hw) (by decide) (cap := 4) (by decide) (by decide) at_24 (pc' := 26) rfl (by decide) (by decide) ?_
    intro T107 h107 a107 ka107 g107 K107 E107 tr107 sf_a107 V_a107
    have ga_a107 : n0 ≤ a107 := own_old K.old g107
    replace V_a107 : Arv Z h107 a107 ka107 .char (4 : Int32) [(.int (0 : Int32)), (.int (0 : Int32)), (.int (0 : Int32)), (.int (0 : Int32))] (.int (0 : Int32)) := V_a107.pad (pad_rep [] (.int (0 : Int32)) 4)
    refine k_astore K107 at_26 (pc' := 28) (L' := #[.val (.int xa), .val (.int xb), .val (.int xc), .val (.int xd), .val (.int xs), .val (.int (2 : Int32)), .val (.int off), .val (.ref a107), .unset, .unset, .unset, .unset, .unset, .unset, .unset, .unset, .unset, .unset]) rfl rfl rfl ?_
    refine k_aload K107 at_28 (pc' := 30) rfl rfl rfl ?_
    refine k_iconst K107 (0 : Int32) at_30 (pc' := 31) rfl rfl ?_
    refine k_iloadN K107 at_31 (pc' := 32) rfl rfl ?_
    refine k_staticP K107 [(.int xa)] [(.int (0 : Int32)), (.ref a107)] 2 (w2 hw) (w3 hw) (w4 hw) (w5 hw) (by decide) pd__I_C_577 (c_draw l Z a0 hw hEW n0 xa h107 K107.old ) at_32 nofun (pc' := 35) rfl rfl rfl rfl (Nat.le_of_eq rfl) (by decide) (by decide) (by decide) (by decide) ?_
    intro b108 T108 L108 K108 tr108
    show Goes p_.tables e_ below_ _ (T108.setTop (mkF m_ 35 #[.val (.int xa), .val (.int xb), .val (.int xc), .val (.int xd), .val (.int xs), .val (.int (2 : Int32)), .val (.int off), .val (.ref a107), .unset, .unset, .unset, .unset, .unset, .unset, .unset, .unset, .unset, .unset] [(.int (dr xa)), (.int (0 : Int32)), (.ref a107)]))
    replace sf_a107 := tr108 a107 V_a107.lt sf_a107
    refine k_castore K108 (j := (0 : Int32)) V_a107 ⟨by decide, by decide⟩ (Nat.le_of_ble_eq_true rfl) ga_a107 sf_a107 at_35 (pc' := 36) rfl ?_
    intro T109 h109 K109 W109 tr109 V109
    replace sf_a107 := tr109 a107 V_a107.lt sf_a107
    replace V_a107 := V109
    refine k_aload K109 at_36 (pc' := 38) rfl rfl rfl ?_
    refine k_iconst K109 (1 : Int32) at_38 (pc' := 39) rfl rfl ?_
    refine k_iloadN K109 at_39 (pc' := 40) rfl rfl ?_
    refine k_staticP K109 [(.int xb)] [(.int (1 : Int32)), (.ref a107)] 2 (w2 hw) (w3 hw) (w4 hw) (w5 hw) (by decide) pd__I_C_577 (c_draw l Z a0 hw hEW n0 xb h109 K109.old ) at_40 nofun (pc' := 43) rfl rfl rfl rfl (Nat.le_of_eq rfl) (by decide) (by decide) (by decide) (by decide) ?_
    intro b110 T110 L110 K110 tr110
    show Goes p_.tables e_ below_ _ (T110.setTop (mkF m_ 43 #[.val (.int xa), .val (.int xb), .val (.int xc), .val (.int xd), .val (.int xs), .val (.int (2 : Int32)), .val (.int off), .val (.ref a107), .unset, .unset, .unset, .unset, .unset, .unset, .unset, .unset, .unset, .unset] [(.int (dr xb)), (.int (1 : Int32)), (.ref a107)]))
    replace sf_a107 := tr110 a107 V_a107.lt sf_a107
    refine k_castore K110 (j := (1 : Int32)) V_a107 ⟨by decide, by decide⟩ (Nat.le_of_ble_eq_true rfl) ga_a107 sf_a107 at_43 (pc' := 44) rfl ?_
    intro T111 h111 K111 W111 tr111 V111
    replace sf_a107 := tr111 a107 V_a107.lt sf_a107
    replace V_a107 := V111
    refine k_aload K111 at_44 (pc' := 46) rfl rfl rfl ?_
    refine k_iconst K111 (2 : Int32) at_46 (pc' := 47) rfl rfl ?_
    refine k_iloadN K111 at_47 (pc' := 48) rfl rfl ?_
    refine k_staticP K111 [(.int xc)] [(.int (2 : Int32)), (.ref a107)] 2 (w2 hw) (w3 hw) (w4 hw) (w5 hw) (by decide) pd__I_C_577 (c_draw l Z a0 hw hEW n0 xc h111 K111.old ) at_48 nofun (pc' := 51) rfl rfl rfl rfl (Nat.le_of_eq rfl) (by decide) (by decide) (by decide) (by decide) ?_
    intro b112 T112 L112 K112 tr112
    show Goes p_.tables e_ below_ _ (T112.setTop (mkF m_ 51 #[.val (.int xa), .val (.int xb), .val (.int xc), .val (.int xd), .val (.int xs), .val (.int (2 : Int32)), .val (.int off), .val (.ref a107), .unset, .unset, .unset, .unset, .unset, .unset, .unset, .unset, .unset, .unset] [(.int (dr xc)), (.int (2 : Int32)), (.ref a107)]))
    replace sf_a107 := tr112 a107 V_a107.lt sf_a107
    refine k_castore K112 (j := (2 : Int32)) V_a107 ⟨by decide, by decide⟩ (Nat.le_of_ble_eq_true rfl) ga_a107 sf_a107 at_51 (pc' := 52) rfl ?_
    intro T113 h113 K113 W113 tr113 V113
    replace sf_a107 := tr113 a107 V_a107.lt sf_a107
    replace V_a107 := V113
    refine k_aload K113 at_52 (pc' := 54) rfl rfl rfl ?_
    refine k_iconst K113 (3 : Int32) at_54 (pc' := 55) rfl rfl ?_
    refine k_iloadN K113 at_55 (pc' := 56) rfl rfl ?_
    refine k_staticP K113 [(.int xd)] [(.int (3 : Int32)), (.ref a107)] 2 (w2 hw) (w3 hw) (w4 hw) (w5 hw) (by decide) pd__I_C_577 (c_draw l Z a0 hw hEW n0 xd h113 K113.old ) at_56 nofun (pc' := 59) rfl rfl rfl rfl (Nat.le_of_eq rfl) (by decide) (by decide) (by decide) (by decide) ?_
    intro b114 T114 L114 K114 tr114
    show Goes p_.tables e_ below_ _ (T114.setTop (mkF m_ 59 #[.val (.int xa), .val (.int xb), .val (.int xc), .val (.int xd), .val (.int xs), .val (.int (2 : Int32)), .val (.int off), .val (.ref a107), .unset, .unset, .unset, .unset, .unset, .unset, .unset, .unset, .unset, .unset] [(.int (dr xd)), (.int (3 : Int32)), (.ref a107)]))
    replace sf_a107 := tr114 a107 V_a107.lt sf_a107
    refine k_castore K114 (j := (3 : Int32)) V_a107 ⟨by decide, by decide⟩ (Nat.le_of_ble_eq_true rfl) ga_a107 sf_a107 at_59 (pc' := 60) rfl ?_
    intro T115 h115 K115 W115 tr115 V115
    replace sf_a107 := tr115 a107 V_a107.lt sf_a107
    replace V_a107 := V115
    have e0 : ∀ x : Int32, nar .char (dr x) = dr x := fun x => Value.int.inj (own_narrowc (dr_b x).1 (dr_b x).2)
    rw [e0 xa, e0 xb, e0 xc, e0 xd] at V_a107
    replace V_a107 : Arv Z h115 a107 ka107 .char 4 ((t4 xa xb xc xd).map Value.int) (.int 0) := V_a107
    refine k_iload K115 at_60 (pc' := 62) rfl rfl ?_
    refine k_if_ne K115 at_62 (by decide) (pc' := 73) (pc2 := 65) (by decide) rfl (fun hc62 => ?_) (fun q => absurd q (by decide))
    refine k_iload K115 at_73 (pc' := 75) rfl rfl ?_
    refine k_iconst K115 (1 : Int32) at_75 (pc' := 76) rfl rfl ?_
    refine k_icmp_ne K115 at_76 (by decide) (pc' := 87) (pc2 := 79) (by decide) rfl (fun hc76 => ?_) (fun q => absurd q (by decide))
    refine k_iload K115 at_87 (pc' := 89) rfl rfl ?_
    refine k_iconst K115 (2 : Int32) at_89 (pc' := 90) rfl rfl ?_
    refine k_icmp_ne K115 at_90 (by decide) (pc' := 101) (pc2 := 93) (by decide) rfl (fun q => absurd (by decide) q) (fun hc90 => ?_)
    refine k_iconst K115 (2 : Int32) at_93 (pc' := 94) rfl rfl ?_
    refine k_newarray K115 (aty := .char) (z := (2 : Int32)) (w1 hw) (by decide) (cap := 4) (by decide) (by decide) at_94 (pc' := 96) rfl (by decide) (by decide) ?_
    intro T116 h116 a116 ka116 g116 K116 E116 tr116 sf_a116 V_a116
    have ga_a116 : n0 ≤ a116 := own_old K115.old g116
    have ne_a107_a116 : a107 ≠ a116 := own_ne V_a107.lt g116
    replace sf_a107 := tr116 a107 V_a107.lt sf_a107
    replace V_a107 := V_a107.ext E116
    replace V_a116 : Arv Z h116 a116 ka116 .char (2 : Int32) [(.int (0 : Int32)), (.int (0 : Int32))] (.int (0 : Int32)) := V_a116.pad (pad_rep [] (.int (0 : Int32)) 2)
    refine k_astore K116 at_96 (pc' := 98) (L' := #[.val (.int xa), .val (.int xb), .val (.int xc), .val (.int xd), .val (.int xs), .val (.int (2 : Int32)), .val (.int off), .val (.ref a107), .val (.ref a116), .unset, .unset, .unset, .unset, .unset, .unset, .unset, .unset, .unset]) rfl rfl rfl ?_
    refine k_goto K116 at_98 (by decide) (pc' := 120) (by decide) ?_
    refine k_iload K116 at_120 (pc' := 122) rfl rfl ?_
    refine k_if_le K116 at_122 (by decide) (pc' := 133) (pc2 := 125) (by decide) rfl (fun q => absurd (by decide) q) (fun hc122 => ?_)
    refine k_aload K116 at_125 (pc' := 127) rfl rfl rfl ?_
    refine k_iconst K116 (0 : Int32) at_127 (pc' := 128) rfl rfl ?_
    refine k_aload K116 at_128 (pc' := 130) rfl rfl rfl ?_
    refine k_iconst K116 (0 : Int32) at_130 (pc' := 131) rfl rfl ?_
    refine k_caload K116 (j := (0 : Int32)) V_a107 ⟨by decide, by decide⟩ rfl at_131 (pc' := 132) rfl ?_
    refine k_castore K116 (j := (0 : Int32)) V_a116 ⟨by decide, by decide⟩ (Nat.le_of_ble_eq_true rfl) ga_a116 sf_a116 at_132 (pc' := 133) rfl ?_
    intro T117 h117 K117 W117 tr117 V117
    replace sf_a107 := tr117 a107 V_a107.lt sf_a107
    replace sf_a116 := tr117 a116 V_a116.lt sf_a116
    replace V_a107 := V_a107.other W117 ne_a107_a116
    replace V_a116 := V117
    refine k_iload K117 at_133 (pc' := 135) rfl rfl ?_
    refine k_iconst K117 (1 : Int32) at_135 (pc' := 136) rfl rfl ?_
    refine k_icmp_le K117 at_136 (by decide) (pc' := 147) (pc2 := 139) (by decide) rfl (fun q => absurd (by decide) q) (fun hc136 => ?_)
    refine k_aload K117 at_139 (pc' := 141) rfl rfl rfl ?_
    refine k_iconst K117 (1 : Int32) at_141 (pc' := 142) rfl rfl ?_
    refine k_aload K117 at_142 (pc' := 144) rfl rfl rfl ?_
    refine k_iconst K117 (1 : Int32) at_144 (pc' := 145) rfl rfl ?_
    refine k_caload K117 (j := (1 : Int32)) V_a107 ⟨by decide, by decide⟩ rfl at_145 (pc' := 146) rfl ?_
    refine k_castore K117 (j := (1 : Int32)) V_a116 ⟨by decide, by decide⟩ (Nat.le_of_ble_eq_true rfl) ga_a116 sf_a116 at_146 (pc' := 147) rfl ?_
    intro T118 h118 K118 W118 tr118 V118
    replace sf_a107 := tr118 a107 V_a107.lt sf_a107
    replace sf_a116 := tr118 a116 V_a116.lt sf_a116
    replace V_a107 := V_a107.other W118 ne_a107_a116
    replace V_a116 := V118
    rw [e0 xa, e0 xb] at V_a116
    refine k_iload K118 at_147 (pc' := 149) rfl rfl ?_
    refine k_iconst K118 (2 : Int32) at_149 (pc' := 150) rfl rfl ?_
    refine k_icmp_le K118 at_150 (by decide) (pc' := 161) (pc2 := 153) (by decide) rfl (fun hc150 => ?_) (fun q => absurd q (by decide))
    refine k_iload K118 at_161 (pc' := 163) rfl rfl ?_
    refine k_iconst K118 (3 : Int32) at_163 (pc' := 164) rfl rfl ?_
    refine k_icmp_le K118 at_164 (by decide) (pc' := 175) (pc2 := 167) (by decide) rfl (fun hc164 => ?_) (fun q => absurd q (by decide))
    exact J _ _ 2 oo rfl ho hle (by decide) _ _ _ _ _ _ _ _ K118 V_a107 V_a116
  · refine k_iload K at_0 (pc' := 2) rfl rfl ?_
    refine k_bipush K (7 : Int32) at_2 (pc' := 4) rfl rfl ?_
    refine k_iand K at_4 (pc' := 5) rfl ?_
    refine k_iconst K (5 : Int32) at_5 (pc' := 6) rfl rfl ?_
    refine k_irem K at_6 (pc' := 7) rfl (by decide) ?_
    rw [hn]
    refine k_istore K at_7 (pc' := 9) (L' := #[.val (.int xa), .val (.int xb), .val (.int xc), .val (.int xd), .val (.int xs), .val (.int (3 : Int32)), .unset, .unset, .unset, .unset, .unset, .unset, .unset, .unset, .unset, .unset, .unset, .unset]) rfl rfl ?_
    refine k_iload K at_9 (pc' := 11) rfl rfl ?_
    refine k_iconst K (3 : Int32) at_11 (pc' := 12) rfl rfl ?_
    refine k_iushr K at_12 (pc' := 13) rfl ?_
    refine k_ldcI K (w0 hw) at_13 (pc' := 15) rfl ?_
    refine k_iand K at_15 (pc' := 16) rfl ?_
    refine k_iload K at_16 (pc' := 18) rfl rfl ?_
    refine k_iconst K (1 : Int32) at_18 (pc' := 19) rfl rfl ?_
    refine k_iadd K at_19 (pc' := 20) rfl ?_
    rw [show (3 : Int32) + 1 = 4 by decide]
    refine k_irem K at_20 (pc' := 21) rfl (by decide) ?_
    obtain ⟨oo, hle, ho⟩ := own_off (XT.ushr xs (3 : Int32)) 4 3 (by decide)
    generalize (((XT.ushr xs (3 : Int32)) &&& (65535 : Int32)) % (4 : Int32)) = off at ho ⊢
    refine k_istore K at_21 (pc' := 23) (L' := #[.val (.int xa), .val (.int xb), .val (.int xc), .val (.int xd), .val (.int xs), .val (.int (3 : Int32)), .val (.int off), .unset, .unset, .unset, .unset, .unset, .unset, .unset, .unset, .unset, .unset, .unset]) rfl rfl ?_
    refine k_iconst K (4 : Int32) at_23 (pc' := 24) rfl rfl ?_
    refine k_newarray K (aty := .char) (z := (4 : Int32)) (w1 hw) (by decide) (cap := 4) (by decide) (by decide) at_24 (pc' := 26) rfl (by decide) (by decide) ?_
    intro T119 h119 a119 ka119 g119 K119 E119 tr119 sf_a119 V_a119
    have ga_a119 : n0 ≤ a119 := own_old K.old g119
    replace V_a119 : Arv Z h119 a119 ka119 .char (4 : Int32) [(.int (0 : Int32)), (.int (0 : Int32)), (.int (0 : Int32)), (.int (0 : Int32))] (.int (0 : Int32)) := V_a119.pad (pad_rep [] (.int (0 : Int32)) 4)
    refine k_astore K119 at_26 (pc' := 28) (L' := #[.val (.int xa), .val (.int xb), .val (.int xc), .val (.int xd), .val (.int xs), .val (.int (3 : Int32)), .val (.int off), .val (.ref a119), .unset, .unset, .unset, .unset, .unset, .unset, .unset, .unset, .unset, .unset]) rfl rfl rfl ?_
    refine k_aload K119 at_28 (pc' := 30) rfl rfl rfl ?_
    refine k_iconst K119 (0 : Int32) at_30 (pc' := 31) rfl rfl ?_
    refine k_iloadN K119 at_31 (pc' := 32) rfl rfl ?_
    refine k_staticP K119 [(.int xa)] [(.int (0 : Int32)), (.ref a119)] 2 (w2 hw) (w3 hw) (w4 hw) (w5 hw) (by decide) pd__I_C_577 (c_draw l Z a0 hw hEW n0 xa h119 K119.old ) at_32 nofun (pc' := 35) rfl rfl rfl rfl (Nat.le_of_eq rfl) (by decide) (by decide) (by decide) (by decide) ?_
    intro b120 T120 L120 K120 tr120
    show Goes p_.tables e_ below_ _ (T120.setTop (mkF m_ 35 #[.val (.int xa), .val (.int xb), .val (.int xc), .val (.int xd), .val (.int xs), .val (.int (3 : Int32)), .val (.int off), .val (.ref a119), .unset, .unset, .unset, .unset, .unset, .unset, .unset, .unset, .unset, .unset] [(.int (dr xa)), (.int (0 : Int32)), (.ref a119)]))
    replace sf_a119 := tr120 a119 V_a119.lt sf_a119
    refine k_castore K120 (j := (0 : Int32)) V_a119 ⟨by decide, by decide⟩ (Nat.le_of_ble_eq_true rfl) ga_a119 sf_a119 at_35 (pc' := 36) rfl ?_
    intro T121 h121 K121 W121 tr121 V121
    replace sf_a119 := tr121 a119 V_a119.lt sf_a119
    replace V_a119 := V121
    refine k_aload K121 at_36 (pc' := 38) rfl rfl rfl ?_
    refine k_iconst K121 (1 : Int32) at_38 (pc' := 39) rfl rfl ?_
    refine k_iloadN K121 at_39 (pc' := 40) rfl rfl ?_
    refine k_staticP K121 [(.int xb)] [(.int (1 : Int32)), (.ref a119)] 2 (w2 hw) (w3 hw) (w4 hw) (w5 hw) (by decide) pd__I_C_577 (c_draw l Z a0 hw hEW n0 xb h121 K121.old ) at_40 nofun (pc' := 43) rfl rfl rfl rfl (Nat.le_of_eq rfl) (by decide) (by decide) (by decide) (by decide) ?_
    intro b122 T122 L122 K122 tr122
    show Goes p_.tables e_ below_ _ (T122.setTop (mkF m_ 43 #[.val (.int xa), .val (.int xb), .val (.int xc), .val (.int xd), .val (.int xs), .val (.int (3 : Int32)), .val (.int off), .val (.ref a119), .unset, .unset, .unset, .unset, .unset, .unset, .unset, .unset, .unset, .unset] [(.int (dr xb)), (.int (1 : Int32)), (.ref a119)]))
    replace sf_a119 := tr122 a119 V_a119.lt sf_a119
    refine k_castore K122 (j := (1 : Int32)) V_a119 ⟨by decide, by decide⟩ (Nat.le_of_ble_eq_true rfl) ga_a119 sf_a119 at_43 (pc' := 44) rfl ?_
    intro T123 h123 K123 W123 tr123 V123
    replace sf_a119 := tr123 a119 V_a119.lt sf_a119
    replace V_a119 := V123
    refine k_aload K123 at_44 (pc' := 46) rfl rfl rfl ?_
    refine k_iconst K123 (2 : Int32) at_46 (pc' := 47) rfl rfl ?_
    refine k_iloadN K123 at_47 (pc' := 48) rfl rfl ?_
    refine k_staticP K123 [(.int xc)] [(.int (2 : Int32)), (.ref a119)] 2 (w2 hw) (w3 hw) (w4 hw) (w5 hw) (by decide) pd__I_C_577 (c_draw l Z a0 hw hEW n0 xc h123 K123.old ) at_48 nofun (pc' := 51) rfl rfl rfl rfl (Nat.le_of_eq rfl) (by decide) (by decide) (by decide) (by decide) ?_
    intro b124 T124 L124 K124 tr124
    show Goes p_.tables e_ below_ _ (T124.setTop (mkF m_ 51 #[.val (.int xa), .val (.int xb), .val (.int xc), .val (.int xd), .val (.int xs), .val (.int (3 : Int32)), .val (.int off), .val (.ref a119), .unset, .unset, .unset, .unset, .unset, .unset, .unset, .unset, .unset, .unset] [(.int (dr xc)), (.int (2 : Int32)), (.ref a119)]))
    replace sf_a119 := tr124 a119 V_a119.lt sf_a119
    refine k_castore K124 (j := (2 : Int32)) V_a119 ⟨by decide, by decide⟩ (Nat.le_of_ble_eq_true rfl) ga_a119 sf_a119 at_51 (pc' := 52) rfl ?_
    intro T125 h125 K125 W125 tr125 V125
    replace sf_a119 := tr125 a119 V_a119.lt sf_a119
    replace V_a119 := V125
    refine k_aload K125 at_52 (pc' := 54) rfl rfl rfl ?_
    refine k_iconst K125 (3 : Int32) at_54 (pc' := 55) rfl rfl ?_
    refine k_iloadN K125 at_55 (pc' := 56) rfl rfl ?_
    refine k_staticP K125 [(.int xd)] [(.int (3 : Int32)), (.ref a119)] 2 (w2 hw) (w3 hw) (w4 hw) (w5 hw) (by decide) pd__I_C_577 (c_draw l Z a0 hw hEW n0 xd h125 K125.old ) at_56 nofun (pc' := 59) rfl rfl rfl rfl (Nat.le_of_eq rfl) (by decide) (by decide) (by decide) (by decide) ?_
    intro b126 T126 L126 K126 tr126
    show Goes p_.tables e_ below_ _ (T126.setTop (mkF m_ 59 #[.val (.int xa), .val (.int xb), .val (.int xc), .val (.int xd), .val (.int xs), .val (.int (3 : Int32)), .val (.int off), .val (.ref a119), .unset, .unset, .unset, .unset, .unset, .unset, .unset, .unset, .unset, .unset] [(.int (dr xd)), (.int (3 : Int32)), (.ref a119)]))
    replace sf_a119 := tr126 a119 V_a119.lt sf_a119
    refine k_castore K126 (j := (3 : Int32)) V_a119 ⟨by decide, by decide⟩ (Nat.le_of_ble_eq_true rfl) ga_a119 sf_a119 at_59 (pc' := 60) rfl ?_
    intro T127 h127 K127 W127 tr127 V127
    replace sf_a119 := tr127 a119 V_a119.lt sf_a119
    replace V_a119 := V127
    have e0 : ∀ x : Int32, nar .char (dr x) = dr x := fun x => Value.int.inj (own_narrowc (dr_b x).1 (dr_b x).2)
    rw [e0 xa, e0 xb, e0 xc, e0 xd] at V_a119
    replace V_a119 : Arv Z h127 a119 ka119 .char 4 ((t4 xa xb xc xd).map Value.int) (.int 0) := V_a119
    refine k_iload K127 at_60 (pc' := 62) rfl rfl ?_
    refine k_if_ne K127 at_62 (by decide) (pc' := 73) (pc2 := 65) (by decide) rfl (fun hc62 => ?_) (fun q => absurd q (by decide))
    refine k_iload K127 at_73 (pc' := 75) rfl rfl ?_
    refine k_iconst K127 (1 : Int32) at_75 (pc' := 76) rfl rfl ?_
    refine k_icmp_ne K127 at_76 (by decide) (pc' := 87) (pc2 := 79) (by decide) rfl (fun hc76 => ?_) (fun q => absurd q (by decide))
    refine k_iload K127 at_87 (pc' := 89) rfl rfl ?_
    refine k_iconst K127 (2 : Int32) at_89 (pc' := 90) rfl rfl ?_
    refine k_icmp_ne K127 at_90 (by decide) (pc' := 101) (pc2 := 93) (by decide) rfl (fun hc90 => ?_) (fun q => absurd q (by decide))
    refine k_iload K127 at_101 (pc' := 103) rfl rfl ?_
    refine k_iconst K127 (3 : Int32) at_103 (pc' := 104) rfl rfl ?_
    refine k_icmp_ne K127 at_104 (by decide) (pc' := 115) (pc2 := 107) (by decide) rfl (fun q => absurd (by decide) q) (fun hc104 => ?_)
    refine k_iconst K127 (3 : Int32) at_107 (pc' := 108) rfl rfl ?_
    refine k_newarray K127 (aty := .char) (z := (3 : Int32)) (w1 hw) (by decide) (cap := 4) (by decide) (by decide) at_108 (pc' := 110) rfl (by decide) (by decide) ?_
    intro T128 h128 a128 ka128 g128 K128 E128 tr128 sf_a128 V_a128
    have ga_a128 : n0 ≤ a128 := own_old K127.old g128
    have ne_a119_a128 : a119 ≠ a128 := own_ne V_a119.lt g128
    replace sf_a119 := tr128 a119 V_a119.lt sf_a119
    replace V_a119 := V_a119.ext E128
    replace V_a128 : Arv Z h128 a128 ka128 .char (3 : Int32) [(.int (0 : Int32)), (.int (0 : Int32)), (.int (0 : Int32))] (.int (0 : Int32)) := V_a128.pad (pad_rep [] (.int (0 : Int32)) 3)
    refine k_astore K128 at_110 (pc' := 112) (L' := #[.val (.int xa), .val (.int xb), .val (.int xc), .val (.int xd), .val (.int xs), .val (.int (3 : Int32)), .val (.int off), .val (.ref a119), .val (.ref a128), .unset, .unset, .unset, .unset, .unset, .unset, .unset, .unset, .unset]) rfl rfl rfl ?_
    refine k_goto K128 at_112 (by decide) (pc' := 120) (by decide) ?_
    refine k_iload K128 at_120 (pc' := 122) rfl rfl ?_
    refine k_if_le K128 at_122 (by decide) (pc' := 133) (pc2 := 125) (by decide) rfl (fun q => absurd (by decide) q) (fun hc122 => ?_)
    refine k_aload K128 at_125 (pc' := 127) rfl rfl rfl ?_
    refine k_iconst K128 (0 : Int32) at_127 (pc' := 128) rfl rfl ?_
    refine k_aload K128 at_128 (pc' := 130) rfl rfl rfl ?_
    refine k_iconst K128 (0 : Int32) at_130 (pc' := 131) rfl rfl ?_
    refine k_caload K128 (j := (0 : Int32)) V_a119 ⟨by decide, by decide⟩ rfl at_131 (pc' := 132) rfl ?_
    refine k_castore K128 (j := (0 : Int32)) V_a128 ⟨by decide, by decide⟩ (Nat.le_of_ble_eq_true rfl) ga_a128 sf_a128 at_132 (pc' := 133) rfl ?_
    intro T129 h129 K129 W129 tr129 V129
    replace sf_a119 := tr129 a119 V_a119.lt sf_a119
    replace sf_a128 := tr129 a128 V_a128.lt sf_a128
    replace V_a119 := V_a119.other W129 ne_a119_a128
    replace V_a128 := V129
    refine k_iload K129 at_133 (pc' := 135) rfl rfl ?_
    refine k_iconst K129 (1 : Int32) at_135 (pc' := 136) rfl rfl ?_
    refine k_icmp_le K129 at_136 (by decide) (pc' := 147) (pc2 := 139) (by decide) rfl (fun q => absurd (by decide) q) (fun hc136 => ?_)
    refine k_aload K129 at_139 (pc' := 141) rfl rfl rfl ?_
    refine k_iconst K129 (1 : Int32) at_141 (pc' := 142) rfl rfl ?_
    refine k_aload K129 at_142 (pc' := 144) rfl rfl rfl ?_
    refine k_iconst K129 (1 : Int32) at_144 (pc' := 145) rfl rfl ?_
    refine k_caload K129 (j := (1 : Int32)) V_a119 ⟨by decide, by decide⟩ rfl at_145 (pc' := 146) rfl ?_
    refine k_castore K129 (j := (1 : Int32)) V_a128 ⟨by decide, by decide⟩ (Nat.le_of_ble_eq_true rfl) ga_a128 sf_a128 at_146 (pc' := 147) rfl ?_
    intro T130 h130 K130 W130 tr130 V130
    replace sf_a119 := tr130 a119 V_a119.lt sf_a119
    replace sf_a128 := tr130 a128 V_a128.lt sf_a128
    replace V_a119 := V_a119.other W130 ne_a119_a128
    replace V_a128 := V130
    refine k_iload K130 at_147 (pc' := 149) rfl rfl ?_
    refine k_iconst K130 (2 : Int32) at_149 (pc' := 150) rfl rfl ?_
    refine k_icmp_le K130 at_150 (by decide) (pc' := 161) (pc2 := 153) (by decide) rfl (fun q => absurd (by decide) q) (fun hc150 => ?_)
    refine k_aload K130 at_153 (pc' := 155) rfl rfl rfl ?_
    refine k_iconst K130 (2 : Int32) at_155 (pc' := 156) rfl rfl ?_
    refine k_aload K130 at_156 (pc' := 158) rfl rfl rfl ?_
    refine k_iconst K130 (2 : Int32) at_158 (pc' := 159) rfl rfl ?_
    refine k_caload K130 (j := (2 : Int32)) V_a119 ⟨by decide, by decide⟩ rfl at_159 (pc' := 160) rfl ?_
    refine k_castore K130 (j := (2 : Int32)) V_a128 ⟨by decide, by decide⟩ (Nat.le_of_ble_eq_true rfl) ga_a128 sf_a128 at_160 (pc' := 161) rfl ?_
    intro T131 h131 K131 W131 tr131 V131
    replace sf_a119 := tr131 a119 V_a119.lt sf_a119
    replace sf_a128 := tr131 a128 V_a128.lt sf_a128
    replace V_a119 := V_a119.other W131 ne_a119_a128
    replace V_a128 := V131
    rw [e0 xa, e0 xb, e0 xc] at V_a128
    refine k_iload K131 at_161 (pc' := 163) rfl rfl ?_
    refine k_iconst K131 (3 : Int32) at_163 (pc' := 164) rfl rfl ?_
    refine k_icmp_le K131 at_164 (by decide) (pc' := 175) (pc2 := 167) (by decide) rfl (fun hc164 => ?_) (fun q => absurd q (by decide))
    exact J _ _ 3 oo rfl ho hle (by decide) _ _ _ _ _ _ _ _ K131 V_a119 V_a128
  · refine k_iload K at_0 (pc' := 2) rfl rfl ?_
    refine k_bipush K (7 : Int32) at_2 (pc' := 4) rfl rfl ?_
    refine k_iand K at_4 (pc' := 5) rfl ?_
    refine k_iconst K (5 : Int32) at_5 (pc' := 6) rfl rfl ?_
    refine k_irem K at_6 (pc' := 7) rfl (by decide) ?_
    rw [hn]
    refine k_istore K at_7 (pc' := 9) (L' := #[.val (.int xa), .val (.int xb), .val (.int xc), .val (.int xd), .val (.int xs), .val (.int (4 : Int32)), .unset, .unset, .unset, .unset, .unset, .unset, .unset, .unset, .unset, .unset, .unset, .unset]) rfl rfl ?_
    refine k_iload K at_9 (pc' := 11) rfl rfl ?_
    refine k_iconst K (3 : Int32) at_11 (pc' := 12) rfl rfl ?_
    refine k_iushr K at_12 (pc' := 13) rfl ?_
    refine k_ldcI K (w0 hw) at_13 (pc' := 15) rfl ?_
    refine k_iand K at_15 (pc' := 16) rfl ?_
    refine k_iload K at_16 (pc' := 18) rfl rfl ?_
    refine k_iconst K (1 : Int32) at_18 (pc' := 19) rfl rfl ?_
    refine k_iadd K at_19 (pc' := 20) rfl ?_
    rw [show (4 : Int32) + 1 = 5 by decide]
    refine k_irem K at_20 (pc' := 21) rfl (by decide) ?_
    obtain ⟨oo, hle, ho⟩ := own_off (XT.ushr xs (3 : Int32)) 5 4 (by decide)
    generalize (((XT.ushr xs (3 : Int32)) &&& (65535 : Int32)) % (5 : Int32)) = off at ho ⊢
    refine k_istore K at_21 (pc' := 23) (L' := #[.val (.int xa), .val (.int xb), .val (.int xc), .val (.int xd), .val (.int xs), .val (.int (4 : Int32)), .val (.int off), .unset, .unset, .unset, .unset, .unset, .unset, .unset, .unset, .unset, .unset, .unset]) rfl rfl ?_
    refine k_iconst K (4 : Int32) at_23 (pc' := 24) rfl rfl ?_
    refine k_newarray K (aty := .char) (z := (4 : Int32)) (w1 hw) (by decide) (cap := 4) (by decide) (by decide) at_24 (pc' := 26) rfl (by decide) (by decide) ?_
    intro T132 h132 a132 ka132 g132 K132 E132 tr132 sf_a132 V_a132
    have ga_a132 : n0 ≤ a132 := own_old K.old g132
    replace V_a132 : Arv Z h132 a132 ka132 .char (4 : Int32) [(.int (0 : Int32)), (.int (0 : Int32)), (.int (0 : Int32)), (.int (0 : Int32))] (.int (0 : Int32)) := V_a132.pad (pad_rep [] (.int (0 : Int32)) 4)
    refine k_astore K132 at_26 (pc' := 28) (L' := #[.val (.int xa), .val (.int xb), .val (.int xc), .val (.int xd), .val (.int xs), .val (.int (4 : Int32)), .val (.int off), .val (.ref a132), .unset, .unset, .unset, .unset, .unset, .unset, .unset, .unset, .unset, .unset]) rfl rfl rfl ?_
    refine k_aload K132 at_28 (pc' := 30) rfl rfl rfl ?_
    refine k_iconst K132 (0 : Int32) at_30 (pc' := 31) rfl rfl ?_
    refine k_iloadN K132 at_31 (pc' := 32) rfl rfl ?_
    refine k_staticP K132 [(.int xa)] [(.int (0 : Int32)), (.ref a132)] 2 (w2 hw) (w3 hw) (w4 hw) (w5 hw) (by decide) pd__I_C_577 (c_draw l Z a0 hw hEW n0 xa h132 K132.old ) at_32 nofun (pc' := 35) rfl rfl rfl rfl (Nat.le_of_eq rfl) (by decide) (by decide) (by decide) (by decide) ?_
    intro b133 T133 L133 K133 tr133
    show Goes p_.tables e_ below_ _ (T133.setTop (mkF m_ 35 #[.val (.int xa), .val (.int xb), .val (.int xc), .val (.int xd), .val (.int xs), .val (.int (4 : Int32)), .val (.int off), .val (.ref a132), .unset, .unset, .unset, .unset, .unset, .unset, .unset, .unset, .unset, .unset] [(.int (dr xa)), (.int (0 : Int32)), (.ref a132)]))
    replace sf_a132 := tr133 a132 V_a132.lt sf_a132
    refine k_castore K133 (j := (0 : Int32)) V_a132 ⟨by decide, by decide⟩ (Nat.le_of_ble_eq_true rfl) ga_a132 sf_a132 at_35 (pc' := 36) rfl ?_
    intro T134 h134 K134 W134 tr134 V134
    replace sf_a132 := tr134 a132 V_a132.lt sf_a132
    replace V_a132 := V134
    refine k_aload K134 at_36 (pc' := 38) rfl rfl rfl ?_
    refine k_iconst K134 (1 : Int32) at_38 (pc' := 39) rfl rfl ?_
    refine k_iloadN K134 at_39 (pc' := 40) rfl rfl ?_
    refine k_staticP K134 [(.int xb)] [(.int (1 : Int32)), (.ref a132)] 2 (w2 hw) (w3 hw) (w4 hw) (w5 hw) (by decide) pd__I_C_577 (c_draw l Z a0 hw hEW n0 xb h134 K134.old ) at_40 nofun (pc' := 43) rfl rfl rfl rfl (Nat.le_of_eq rfl) (by decide) (by decide) (by decide) (by decide) ?_
    intro b135 T135 L135 K135 tr135
    show Goes p_.tables e_ below_ _ (T135.setTop (mkF m_ 43 #[.val (.int xa), .val (.int xb), .val (.int xc), .val (.int xd), .val (.int xs), .val (.int (4 : Int32)), .val (.int off), .val (.ref a132), .unset, .unset, .unset, .unset, .unset, .unset, .unset, .unset, .unset, .unset] [(.int (dr xb)), (.int (1 : Int32)), (.ref a132)]))
    replace sf_a132 := tr135 a132 V_a132.lt sf_a132
    refine k_castore K135 (j := (1 : Int32)) V_a132 ⟨by decide, by decide⟩ (Nat.le_of_ble_eq_true rfl) ga_a132 sf_a132 at_43 (pc' := 44) rfl ?_
    intro T136 h136 K136 W136 tr136 V136
    replace sf_a132 := tr136 a132 V_a132.lt sf_a132
    replace V_a132 := V136
    refine k_aload K136 at_44 (pc' := 46) rfl rfl rfl ?_
    refine k_iconst K136 (2 : Int32) at_46 (pc' := 47) rfl rfl ?_
    refine k_iloadN K136 at_47 (pc' := 48) rfl rfl ?_
    refine k_staticP K136 [(.int xc)] [(.int (2 : Int32)), (.ref a132)] 2 (w2 hw) (w3 hw) (w4 hw) (w5 hw) (by decide) pd__I_C_577 (c_draw l Z a0 hw hEW n0 xc h136 K136.old ) at_48 nofun (pc' := 51) rfl rfl rfl rfl (Nat.le_of_eq rfl) (by decide) (by decide) (by decide) (by decide) ?_
    intro b137 T137 L137 K137 tr137
    show Goes p_.tables e_ below_ _ (T137.setTop (mkF m_ 51 #[.val (.int xa), .val (.int xb), .val (.int xc), .val (.int xd), .val (.int xs), .val (.int (4 : Int32)), .val (.int off), .val (.ref a132), .unset, .unset, .unset, .unset, .unset, .unset, .unset, .unset, .unset, .unset] [(.int (dr xc)), (.int (2 : Int32)), (.ref a132)]))
    replace sf_a132 := tr137 a132 V_a132.lt sf_a132
    refine k_castore K137 (j := (2 : Int32)) V_a132 ⟨by decide, by decide⟩ (Nat.le_of_ble_eq_true rfl) ga_a132 sf_a132 at_51 (pc' := 52) rfl ?_
    intro T138 h138 K138 W138 tr138 V138
    replace sf_a132 := tr138 a132 V_a132.lt sf_a132
    replace V_a132 := V138
    refine k_aload K138 at_52 (pc' := 54) rfl rfl rfl ?_
    refine k_iconst K138 (3 : Int32) at_54 (pc' := 55) rfl rfl ?_
    refine k_iloadN K138 at_55 (pc' := 56) rfl rfl ?_
    refine k_staticP K138 [(.int xd)] [(.int (3 : Int32)), (.ref a132)] 2 (w2 hw) (w3 hw) (w4 hw) (w5 hw) (by decide) pd__I_C_577 (c_draw l Z a0 hw hEW n0 xd h138 K138.old ) at_56 nofun (pc' := 59) rfl rfl rfl rfl (Nat.le_of_eq rfl) (by decide) (by decide) (by decide) (by decide) ?_
    intro b139 T139 L139 K139 tr139
    show Goes p_.tables e_ below_ _ (T139.setTop (mkF m_ 59 #[.val (.int xa), .val (.int xb), .val (.int xc), .val (.int xd), .val (.int xs), .val (.int (4 : Int32)), .val (.int off), .val (.ref a132), .unset, .unset, .unset, .unset, .unset, .unset, .unset, .unset, .unset, .unset] [(.int (dr xd)), (.int (3 : Int32)), (.ref a132)]))
    replace sf_a132 := tr139 a132 V_a132.lt sf_a132
    refine k_castore K139 (j := (3 : Int32)) V_a132 ⟨by decide, by decide⟩ (Nat.le_of_ble_eq_true rfl) ga_a132 sf_a132 at_59 (pc' := 60) rfl ?_
    intro T140 h140 K140 W140 tr140 V140
    replace sf_a132 := tr140 a132 V_a132.lt sf_a132
    replace V_a132 := V140
    have e0 : ∀ x : Int32, nar .char (dr x) = dr x := fun x => Value.int.inj (own_narrowc (dr_b x).1 (dr_b x).2)
    rw [e0 xa, e0 xb, e0 xc, e0 xd] at V_a132
    replace V_a132 : Arv Z h140 a132 ka132 .char 4 ((t4 xa xb xc xd).map Value.int) (.int 0) := V_a132
    refine k_iload K140 at_60 (pc' := 62) rfl rfl ?_
    refine k_if_ne K140 at_62 (by decide) (pc' := 73) (pc2 := 65) (by decide) rfl (fun hc62 => ?_) (fun q => absurd q (by decide))
    refine k_iload K140 at_73 (pc' := 75) rfl rfl ?_
    refine k_iconst K140 (1 : Int32) at_75 (pc' := 76) rfl rfl ?_
    refine k_icmp_ne K140 at_76 (by decide) (pc' := 87) (pc2 := 79) (by decide) rfl (fun hc76 => ?_) (fun q => absurd q (by decide))
    refine k_iload K140 at_87 (pc' := 89) rfl rfl ?_
    refine k_iconst K140 (2 : Int32) at_89 (pc' := 90) rfl rfl ?_
    refine k_icmp_ne K140 at_90 (by decide) (pc' := 101) (pc2 := 93) (by decide) rfl (fun hc90 => ?_) (fun q => absurd q (by decide))
    refine k_iload K140 at_101 (pc' := 103) rfl rfl ?_
    refine k_iconst K140 (3 : Int32) at_103 (pc' := 104) rfl rfl ?_
    refine k_icmp_ne K140 at_104 (by decide) (pc' := 115) (pc2 := 107) (by decide) rfl (fun hc104 => ?_) (fun q => absurd q (by decide))
    refine k_iconst K140 (4 : Int32) at_115 (pc' := 116) rfl rfl ?_
    refine k_newarray K140 (aty := .char) (z := (4 : Int32)) (w1 hw) (by decide) (cap := 4) (by decide) (by decide) at_116 (pc' := 118) rfl (by decide) (by decide) ?_
    intro T141 h141 a141 ka141 g141 K141 E141 tr141 sf_a141 V_a141
    have ga_a141 : n0 ≤ a141 := own_old K140.old g141
    have ne_a132_a141 : a132 ≠ a141 := own_ne V_a132.lt g141
    replace sf_a132 := tr141 a132 V_a132.lt sf_a132
    replace V_a132 := V_a132.ext E141
    replace V_a141 : Arv Z h141 a141 ka141 .char (4 : Int32) [(.int (0 : Int32)), (.int (0 : Int32)), (.int (0 : Int32)), (.int (0 : Int32))] (.int (0 : Int32)) := V_a141.pad (pad_rep [] (.int (0 : Int32)) 4)
    refine k_astore K141 at_118 (pc' := 120) (L' := #[.val (.int xa), .val (.int xb), .val (.int xc), .val (.int xd), .val (.int xs), .val (.int (4 : Int32)), .val (.int off), .val (.ref a132), .val (.ref a141), .unset, .unset, .unset, .unset, .unset, .unset, .unset, .unset, .unset]) rfl rfl rfl ?_
    refine k_iload K141 at_120 (pc' := 122) rfl rfl ?_
    refine k_if_le K141 at_122 (by decide) (pc' := 133) (pc2 := 125) (by decide) rfl (fun q => absurd (by decide) q) (fun hc122 => ?_)
    refine k_aload K141 at_125 (pc' := 127) rfl rfl rfl ?_
    refine k_iconst K141 (0 : Int32) at_127 (pc' := 128) rfl rfl ?_
    refine k_aload K141 at_128 (pc' := 130) rfl rfl rfl ?_
    refine k_iconst K141 (0 : Int32) at_130 (pc' := 131) rfl rfl ?_
    refine k_caload K141 (j := (0 : Int32)) V_a132 ⟨by decide, by decide⟩ rfl at_131 (pc' := 132) rfl ?_
    refine k_castore K141 (j := (0 : Int32)) V_a141 ⟨by decide, by decide⟩ (Nat.le_of_ble_eq_true rfl) ga_a141 sf_a141 at_132 (pc' := 133) rfl ?_
    intro T142 h142 K142 W142 tr142 V142
    replace sf_a132 := tr142 a132 V_a132.lt sf_a132
    replace sf_a141 := tr142 a141 V_a141.lt sf_a141
    replace V_a132 := V_a132.other W142 ne_a132_a141
    replace V_a141 := V142
    refine k_iload K142 at_133 (pc' := 135) rfl rfl ?_
    refine k_iconst K142 (1 : Int32) at_135 (pc' := 136) rfl rfl ?_
    refine k_icmp_le K142 at_136 (by decide) (pc' := 147) (pc2 := 139) (by decide) rfl (fun q => absurd (by decide) q) (fun hc136 => ?_)
    refine k_aload K142 at_139 (pc' := 141) rfl rfl rfl ?_
    refine k_iconst K142 (1 : Int32) at_141 (pc' := 142) rfl rfl ?_
    refine k_aload K142 at_142 (pc' := 144) rfl rfl rfl ?_
    refine k_iconst K142 (1 : Int32) at_144 (pc' := 145) rfl rfl ?_
    refine k_caload K142 (j := (1 : Int32)) V_a132 ⟨by decide, by decide⟩ rfl at_145 (pc' := 146) rfl ?_
    refine k_castore K142 (j := (1 : Int32)) V_a141 ⟨by decide, by decide⟩ (Nat.le_of_ble_eq_true rfl) ga_a141 sf_a141 at_146 (pc' := 147) rfl ?_
    intro T143 h143 K143 W143 tr143 V143
    replace sf_a132 := tr143 a132 V_a132.lt sf_a132
    replace sf_a141 := tr143 a141 V_a141.lt sf_a141
    replace V_a132 := V_a132.other W143 ne_a132_a141
    replace V_a141 := V143
    refine k_iload K143 at_147 (pc' := 149) rfl rfl ?_
    refine k_iconst K143 (2 : Int32) at_149 (pc' := 150) rfl rfl ?_
    refine k_icmp_le K143 at_150 (by decide) (pc' := 161) (pc2 := 153) (by decide) rfl (fun q => absurd (by decide) q) (fun hc150 => ?_)
    refine k_aload K143 at_153 (pc' := 155) rfl rfl rfl ?_
    refine k_iconst K143 (2 : Int32) at_155 (pc' := 156) rfl rfl ?_
    refine k_aload K143 at_156 (pc' := 158) rfl rfl rfl ?_
    refine k_iconst K143 (2 : Int32) at_158 (pc' := 159) rfl rfl ?_
    refine k_caload K143 (j := (2 : Int32)) V_a132 ⟨by decide, by decide⟩ rfl at_159 (pc' := 160) rfl ?_
    refine k_castore K143 (j := (2 : Int32)) V_a141 ⟨by decide, by decide⟩ (Nat.le_of_ble_eq_true rfl) ga_a141 sf_a141 at_160 (pc' := 161) rfl ?_
    intro T144 h144 K144 W144 tr144 V144
    replace sf_a132 := tr144 a132 V_a132.lt sf_a132
    replace sf_a141 := tr144 a141 V_a141.lt sf_a141
    replace V_a132 := V_a132.other W144 ne_a132_a141
    replace V_a141 := V144
    refine k_iload K144 at_161 (pc' := 163) rfl rfl ?_
    refine k_iconst K144 (3 : Int32) at_163 (pc' := 164) rfl rfl ?_
    refine k_icmp_le K144 at_164 (by decide) (pc' := 175) (pc2 := 167) (by decide) rfl (fun q => absurd (by decide) q) (fun hc164 => ?_)
    refine k_aload K144 at_167 (pc' := 169) rfl rfl rfl ?_
    refine k_iconst K144 (3 : Int32) at_169 (pc' := 170) rfl rfl ?_
    refine k_aload K144 at_170 (pc' := 172) rfl rfl rfl ?_
    refine k_iconst K144 (3 : Int32) at_172 (pc' := 173) rfl rfl ?_
    refine k_caload K144 (j := (3 : Int32)) V_a132 ⟨by decide, by decide⟩ rfl at_173 (pc' := 174) rfl ?_
    refine k_castore K144 (j := (3 : Int32)) V_a141 ⟨by decide, by decide⟩ (Nat.le_of_ble_eq_true rfl) ga_a141 sf_a141 at_174 (pc' := 175) rfl ?_
    intro T145 h145 K145 W145 tr145 V145
    replace sf_a132 := tr145 a132 V_a132.lt sf_a132
    replace sf_a141 := tr145 a141 V_a141.lt sf_a141
    replace V_a132 := V_a132.other W145 ne_a132_a141
    replace V_a141 := V145
    rw [e0 xa, e0 xb, e0 xc, e0 xd] at V_a141
    exact J _ _ 4 oo rfl ho hle (by decide) _ _ _ _ _ _ _ _ K145 V_a132 V_a141
theorem own_eqI {args : Array Value} {s : State} {t : Term} {k : Int32} (h : (Cond.eq t (.int k)).value args s none s [] = some true) : t.eval args s none [] s = some (.int k) := by
  obtain ⟨x, y, e1, e2, -, k2⟩ := cmp_v (Or.inl h)
  have e3 : y = .int k := (Option.some.inj e2).symm
  subst e3
  obtain ⟨z, rfl⟩ := k2
  have q : z = k := by simpa [Cond.value, Term.eval, e1] using h
  rw [e1, q]
theorem own_fld {args : Array Value} {s : State} {t : Term} {a : Addr} {C n d : String} {v : Value} (ht : t.eval args s none [] s = some (.ref a)) (h : (Term.field t C n d).eval args s none [] s = some v) : Fld s s.heap a C n d v := Fld.start (by rw [← fld_at ht]; exact h)
theorem own_arv {args : Array Value} {s : State} (hf : Fit s) {t : Term} {b : Addr} {ty : FieldType} {z : Int32} {vs : List Value} {dv : Value} (ev : t.eval args s none [] s = some (.ref b)) (hA : (Cond.arrayOf t ty).value args s none s [] = some true) (hL : (Cond.eq (.length t) (.int z)).value args s none s [] = some true) (hz : ¬ z < 0) (hl : z.toNatClampNeg = vs.length) (H : ∀ cl : Cell, s.heap[b]? = some cl → HasL cl 0 vs) : ∃ k, Arv s s.heap b k ty z vs dv := by
  obtain ⟨cl, A⟩ := Arr.start ev hA
  have e := own_eqI hL
  have q : s.arrayAt? b = some cl := A.fin (Vm.Alike.refl _)
  simp only [Term.eval, ev, q, Option.bind_eq_bind, Option.bind_some] at e
  split at e
  · rename_i hs
    exact ⟨cl.cls, Arv.start hf A hs (Value.int.inj (Option.some.inj e)) hz hl (H cl A.1)⟩
  · cases e
theorem own_el {args : Array Value} {s : State} {t : Term} {b : Addr} {j v : Int32} {cl : Cell} (ev : t.eval args s none [] s = some (.ref b)) (h : (Cond.eq (.elem t (.int j)) (.int v)).value args s none s [] = some true) (hc : s.heap[b]? = some cl) : cl.slots[j.toNatClampNeg]? = some (.int v) := (elem_in (own_eqI h) ev rfl hc).2
theorem own_eqR {args : Array Value} {s : State} {t u : Term} {x : Addr} (hu : u.eval args s none [] s = some (.ref x)) (h : (Cond.eq t u).value args s none s [] = some true) : t.eval args s none [] s = some (.ref x) := by
  obtain ⟨v, y, e1, e2, k1, k2⟩ := cmp_v (Or.inl h)
  have e3 : y = .ref x := Option.some.inj (e2.symm.trans hu)
  subst e3
  have hv : v.isRef = true := k2.2
  have q := gotT (eq_R e1 e2 hv rfl) h
  rw [e1, q]
theorem own_elR {args : Array Value} {s : State} {t u : Term} {b x : Addr} {j : Int32} {cl : Cell} (ev : t.eval args s none [] s = some (.ref b)) (hu : u.eval args s none [] s = some (.ref x)) (h : (Cond.eq (.elem t (.int j)) u).value args s none s [] = some true) (hc : s.heap[b]? = some cl) : cl.slots[j.toNatClampNeg]? = some (.ref x) := (elem_in (own_eqR hu h) ev rfl hc).2
set_option maxRecDepth 65536 in
set_option maxHeartbeats 40000000 in
theorem comes_1 {Post : Tables → Env → Array Value → State → Outcome → State → Prop} (hpost : ∀ tb e args s v u, (limb_1_1.after args s (.returned v) u = true ∧ limb_1_2.after args s (.returned v) u = true ∧ True) → ReturnedEndW s (.returned v) u (Jvm.fieldLocs frame_1_writes args s ++ Jvm.arrayLocs frame_1_arrays args s ++ Jvm.staticLocs frame_1_statics s) 24 1152 → Post tb e args s (.returned v) u) :
    ArmFor flags0 classFile x code maxLocals ret World_1 tables_1 room_1 Calls_1 rest_1 Pre_1 Post := by
  intro l hfl _ _ p e ha hc hk s m args below hf hA hF happ hP
  obtain ⟨hcalls, hrest, hpre⟩ := hP
  obtain ⟨-, -, -, hnamed, -, -, -, hat⟩ := (Spec.applies_iff hf).mp happ
  obtain ⟨hg, hn⟩ := and_e (Cond.before_iff.mp (show (Jvm.Cond.and given_1 narrow_1).before args s = true from hpre))
  obtain ⟨hg_0, hg⟩ := and_e hg
  obtain ⟨w0, w1, w2, w3, w4, rfl⟩ : ∃ w0 w1 w2 w3 w4 : Value, args = #[w0, w1, w2, w3, w4] := by
    have hs : args.size = 5 := by simpa [Cond.value, given_1] using hg_0
    obtain ⟨L⟩ := args
    match L, hs with
    | [w0, w1, w2, w3, w4], _ => exact ⟨w0, w1, w2, w3, w4, rfl⟩
  obtain ⟨hg_1, hg⟩ := and_e hg
  obtain ⟨hg_2, hg⟩ := and_e hg
  obtain ⟨hg_3, hg⟩ := and_e hg
  obtain ⟨hg_4, hg⟩ := and_e hg
  have hg_5 := hg
  have hw := fun d (hd : d ∈ tables_1) => atoms_spec (ws := Jvm.Cond.code x code maxLocals ret :: tables_1) hat d (List.mem_cons_of_mem _ hd)
  have hfit : Fit s := fun {y c} hc i hi => by
    obtain ⟨ha, rfl⟩ := Array.getElem?_eq_some_iff.mp hc
    have q := List.all_eq_true.mp ((Array.all_eq_true_iff_forall_mem.mp hF) _ (Array.getElem_mem ha)) i (List.mem_range.mpr hi)
    simpa [Array.getElem?_eq_getElem hi] using q
  obtain ⟨hsets, hown0⟩ := atoms_of _ (rest_1_c_eq ▸ (show rest_1_c.before _ s = true from hrest))
  obtain ⟨i0, ei0⟩ := is_v hg_1
  obtain rfl : w0 = (.int i0) := Option.some.inj ei0
  obtain ⟨i1, ei1⟩ := is_v hg_2
  obtain rfl : w1 = (.int i1) := Option.some.inj ei1
  obtain ⟨i2, ei2⟩ := is_v hg_3
  obtain rfl : w2 = (.int i2) := Option.some.inj ei2
  obtain ⟨i3, ei3⟩ := is_v hg_4
  obtain rfl : w3 = (.int i3) := Option.some.inj ei3
  obtain ⟨i4, ei4⟩ := is_v hg_5
  obtain rfl : w4 = (.int i4) := Option.some.inj ei4
  have hEW : EW s _ EL0 := (EW.cons (w21 hw) (by decide) EW.nil)
  have hCH : CHv s EL0 s.vm s.heap := CHv.start hEW hcalls.1 (hsets _ (List.mem_of_getElem? (i := 2) rfl)) (w22 hw) (w9 hw)
  obtain ⟨cs0, ecs⟩ := is_v (Cond.before_iff.mp (hsets _ (List.mem_of_getElem? (i := 1) rfl)))
  have SC := Sta.start ecs (Or.inl (hsets _ (List.mem_of_getElem? (i := 0) rfl)))
  have hcs : ¬ cs0 = 0 := fun q => by
    have h2 := not_v (Cond.before_iff.mp (hsets _ (List.mem_of_getElem? (i := 2) rfl)))
    rw [q] at ecs
    rw [eq_i ecs (Term.int_eval 0) rfl] at h2
    cases h2
  obtain ⟨ff, eff, hff⟩ := isR_v (Cond.before_iff.mp (hsets _ (List.mem_of_getElem? (i := 8) rfl)))
  have SF := Sta.start eff (Or.inl (hsets _ (List.mem_of_getElem? (i := 7) rfl)))
  have SA := Sta.start (own_eqI (Cond.before_iff.mp (hsets _ (List.mem_of_getElem? (i := 12) rfl)))) (Or.inl (hsets _ (List.mem_of_getElem? (i := 11) rfl)))
  have SH := Sta.start (own_eqI (Cond.before_iff.mp (hsets _ (List.mem_of_getElem? (i := 15) rfl)))) (Or.inl (hsets _ (List.mem_of_getElem? (i := 14) rfl)))
  have SL := Sta.start (own_eqI (Cond.before_iff.mp (hsets _ (List.mem_of_getElem? (i := 18) rfl)))) (Or.inl (hsets _ (List.mem_of_getElem? (i := 17) rfl)))
  obtain ⟨n, o, h1, h2, h3, _, L, rfl, ⟨N, -, rfl, -⟩, -, hq⟩ := c_law l s _ hw hEW s.heap.size i0 i1 i2 i3 i4 ff cs0 s.heap (Old.start s) SF hff SC hcs SA SH SL tables_1 p e ha hc hk s m _ below hf ((Spec.applies_iff_loose hf).mp happ).1 ⟨rfl, State.Warmed39.refl s, rfl, nofun, hCH⟩ trivial
  refine ⟨n, _, h1, h2, h3, hpost _ _ _ _ _ _ ⟨Cond.after_iff.mpr rfl, Cond.after_iff.mpr (eq_i res_at (Term.int_eval (1)) rfl), trivial⟩ ⟨hq.1, hq.2.1, hq.2.2.1, (hq.2.2.2.sift fun y hy => Or.inr (N y hy)).mono (by decide) (by decide)⟩⟩
theorem main_1_1 : Claimed_1_1 := comes_1 fun _ _ _ _ _ _ h hF => ⟨h.1, hF⟩
theorem main_1_2 : Claimed_1_2 := comes_1 fun _ _ _ _ _ _ h hF => ⟨h.2.1, hF⟩
end Jvm.Pilot.@@N@@
namespace Jvm.Pilot.@@N@@
open Jvm Jvm.ClassFile Sem Op Lib Jvm.Free Jvm.Stand Jvm.Pilot.@@N@@.Jvm.D
/-! MADE BY PROGRAM (witnessworld.py) out of the Statement's table words and the real class files: 22 classes; the members and pool entries that the words name. The judged class is class 1, her method 6. -/
namespace start1
open Jvm.ClassFile
def u (s : String) : CpInfo := .utf8 (stringToUtf16 s)
/-- a pool by its gaps: so many unusable entries, then the entry; so many at the end -/
def gap : Nat → List CpInfo → List CpInfo
  | 0, r => r
  | n + 1, r => .unusable :: gap n r
def poolList (es : List (Nat × CpInfo)) (last : Nat) : List CpInfo := es.foldr (fun e r => gap e.1 (e.2 :: r)) (gap last [])
def pool (es : List (Nat × CpInfo)) (last : Nat) : Array CpInfo := ⟨poolList es last⟩
def fileOf (pool : Array CpInfo) (this : Nat) (attrs : Array Attribute := #[]) (ms : Array MethodInfo := #[]) (fl : Nat := 33) (sup : Nat := 0) (ifs : Array Nat := #[]) (fds : Array FieldInfo := #[]) : ClassFile where
  minorVersion := 0
  majorVersion := 65
  constantPool := pool
  accessFlags := fl
  thisClass := this
  superClass := sup
  interfaces := ifs
  fields := fds
  methods := ms
  attributes := attrs
def plain (name : String) (sup : Option ClassId) : Class where
  name := name
  kind := .ordinary
  loader := none
  accessFlags := 33
  super := sup
  interfaces := #[]
  cf := none
  fields := #[]
  methods := #[]
  instanceTypes := #[]
  staticTypes := #[]
  resolved := #[]
  callSites := []
  init := .initialized
  statics := none
  mirror := none

def pool0 : Array CpInfo := pool [(5, u "<init>"), (0, u "()V"), (1, .class_ 10), (1, u "java/lang/Object")] 113

def k0c0 : Code := { maxStack := 0, maxLocals := 1, code := object_method_1_code, exceptionTable := #[], attributes := #[] }
def k0m0 : Method := { name := "<init>", desc := "()V", sig := { parameters := [], returnType := none }, accessFlags := 1, code := some k0c0 }
/-- java/lang/Object -/
def k0 : Class := { plain "java/lang/Object" none with
  accessFlags := 33
  interfaces := #[]
  cf := some (fileOf pool0 8 #[] #[{ accessFlags := 1, nameIndex := 5, descriptorIndex := 6, attributes := #[] }] 33 0 #[] #[])
  fields := #[]
  methods := #[k0m0]
  instanceTypes := #[]
  staticTypes := #[]
  resolved := Array.replicate 124 none
  statics := none }

def pool1 : Array CpInfo := pool [(2, .class_ 4), (1, u "java/lang/Object"), (0, u "<init>"), (0, u "()V"), (0, .integer 55296), (0, .integer 56320), (0, .integer 65535), (0, .integer 56319), (0, .integer 57343), (0, .methodref 13 14), (0, .class_ 15), (0, .nameAndType 16 17), (0, u "com/example/object_sieve/objectsieve/query/TextPositionOfPinLaw"), (0, u "isLow"), (0, u "(C)Z"), (0, .methodref 13 19), (0, .nameAndType 20 17), (0, u "isHigh"), (0, .methodref 13 22), (0, .nameAndType 23 24), (0, u "draw"), (0, u "(I)C"), (0, .class_ 26), (0, u "java/lang/String"), (0, .methodref 25 28), (0, .nameAndType 5 29), (0, u "([C)V"), (0, .methodref 13 31), (0, .nameAndType 32 33), (0, u "endsBefore"), (0, u "([CIII)I"), (0, .methodref 13 35), (0, .nameAndType 36 33), (0, u "width"), (0, .methodref 38 39), (0, .class_ 40), (0, .nameAndType 41 42), (0, u "com/example/object_sieve/objectsieve/query/TextPosition"), (0, u "of"), (0, u "(Ljava/lang/CharSequence;I)Lcom/example/object_sieve/objectsieve/query/TextPosition;"), (0, .methodref 38 44), (0, .nameAndType 45 46), (0, u "line"), (0, u "()I"), (0, .methodref 38 48), (0, .nameAndType 49 46), (0, u "column"), (3, u "law"), (0, u "(IIIII)Z")] 4

def k1m0 : Method := { name := "<init>", desc := "()V", sig := { parameters := [], returnType := none }, accessFlags := 1, code := none }
def k1c1 : Code := { maxStack := 3, maxLocals := 3, code := method_2_code, exceptionTable := #[], attributes := #[] }
def k1m1 : Method := { name := "draw", desc := "(I)C", sig := { parameters := [.int], returnType := some .char }, accessFlags := 10, code := some k1c1 }
def k1c2 : Code := { maxStack := 2, maxLocals := 1, code := method_3_code, exceptionTable := #[], attributes := #[] }
def k1m2 : Method := { name := "isHigh", desc := "(C)Z", sig := { parameters := [.char], returnType := some .boolean }, accessFlags := 10, code := some k1c2 }
def k1c3 : Code := { maxStack := 2, maxLocals := 1, code := method_4_code, exceptionTable := #[], attributes := #[] }
def k1m3 : Method := { name := "isLow", desc := "(C)Z", sig := { parameters := [.char], returnType := some .boolean }, accessFlags := 10, code := some k1c3 }
def k1c4 : Code := { maxStack := 3, maxLocals := 5, code := method_5_code, exceptionTable := #[], attributes := #[] }
def k1m4 : Method := { name := "endsBefore", desc := "([CIII)I", sig := { parameters := [(.array .char), .int, .int, .int], returnType := some .int }, accessFlags := 10, code := some k1c4 }
def k1c5 : Code := { maxStack := 3, maxLocals := 4, code := method_6_code, exceptionTable := #[], attributes := #[] }
def k1m5 : Method := { name := "width", desc := "([CIII)I", sig := { parameters := [(.array .char), .int, .int, .int], returnType := some .int }, accessFlags := 10, code := some k1c5 }
def k1c6 : Code := { maxStack := 5, maxLocals := 18, code := code, exceptionTable := #[], attributes := #[] }
def k1m6 : Method := { name := "law", desc := "(IIIII)Z", sig := { parameters := [.int, .int, .int, .int, .int], returnType := some .boolean }, accessFlags := 9, code := some k1c6 }
/-- com/example/object_sieve/objectsieve/query/TextPositionOfPinLaw -/
def k1 : Class := { plain "com/example/object_sieve/objectsieve/query/TextPositionOfPinLaw" (some 0) with
  accessFlags := 49
  interfaces := #[]
  cf := some (fileOf pool1 13 #[] #[{ accessFlags := 1, nameIndex := 5, descriptorIndex := 6, attributes := #[] }, { accessFlags := 10, nameIndex := 23, descriptorIndex := 24, attributes := #[] }, { accessFlags := 10, nameIndex := 20, descriptorIndex := 17, attributes := #[] }, { accessFlags := 10, nameIndex := 16, descriptorIndex := 17, attributes := #[] }, { accessFlags := 10, nameIndex := 32, descriptorIndex := 33, attributes := #[] }, { accessFlags := 10, nameIndex := 36, descriptorIndex := 33, attributes := #[] }, { accessFlags := 9, nameIndex := 53, descriptorIndex := 54, attributes := #[] }] 49 2 #[] #[])
  fields := #[]
  methods := #[k1m0, k1m1, k1m2, k1m3, k1m4, k1m5, k1m6]
  instanceTypes := #[]
  staticTypes := #[]
  resolved := Array.replicate 59 none
  statics := none }

def pool2 : Array CpInfo := pool [(1, .class_ 2), (0, u "java/io/Serializable"), (0, .class_ 4), (0, u "java/lang/Object")] 2

/-- java/io/Serializable -/
def k2 : Class := { plain "java/io/Serializable" (some 0) with
  accessFlags := 1537
  interfaces := #[]
  cf := some (fileOf pool2 1 #[] #[] 1537 3 #[] #[])
  fields := #[]
  methods := #[]
  instanceTypes := #[]
  staticTypes := #[]
  resolved := Array.replicate 7 none
  statics := none }

def pool3 : Array CpInfo := pool [(1, .class_ 2), (0, u "java/lang/Comparable"), (0, .class_ 4), (0, u "java/lang/Object")] 7

/-- java/lang/Comparable -/
def k3 : Class := { plain "java/lang/Comparable" (some 0) with
  accessFlags := 1537
  interfaces := #[]
  cf := some (fileOf pool3 1 #[] #[] 1537 3 #[] #[])
  fields := #[]
  methods := #[]
  instanceTypes := #[]
  staticTypes := #[]
  resolved := Array.replicate 12 none
  statics := none }

def pool4 : Array CpInfo := pool [(2, .class_ 4), (1, u "java/lang/CharSequence"), (0, u "length"), (0, u "()I"), (38, u "charAt"), (0, u "(I)C"), (0, .class_ 48), (0, u "java/lang/CharSequence$1CodePointIterator"), (10, .class_ 60), (0, u "java/lang/CharSequence$1CharIterator"), (5, .class_ 67), (0, u "java/lang/Object")] 63

def k4m0 : Method := { name := "length", desc := "()I", sig := { parameters := [], returnType := some .int }, accessFlags := 1025, code := none }
def k4m1 : Method := { name := "charAt", desc := "(I)C", sig := { parameters := [.int], returnType := some .char }, accessFlags := 1025, code := none }
/-- java/lang/CharSequence -/
def k4 : Class := { plain "java/lang/CharSequence" (some 0) with
  accessFlags := 1537
  interfaces := #[]
  cf := some (fileOf pool4 2 #[.nestMembers #[47, 59]] #[{ accessFlags := 1025, nameIndex := 5, descriptorIndex := 6, attributes := #[] }, { accessFlags := 1025, nameIndex := 45, descriptorIndex := 46, attributes := #[] }] 1537 66 #[] #[])
  fields := #[]
  methods := #[k4m0, k4m1]
  instanceTypes := #[]
  staticTypes := #[]
  resolved := Array.replicate 131 none
  statics := none }

def pool5 : Array CpInfo := pool [(1, .class_ 2), (0, u "java/lang/constant/Constable"), (0, .class_ 4), (0, u "java/lang/Object")] 6

/-- java/lang/constant/Constable -/
def k5 : Class := { plain "java/lang/constant/Constable" (some 0) with
  accessFlags := 1537
  interfaces := #[]
  cf := some (fileOf pool5 1 #[] #[] 1537 3 #[] #[])
  fields := #[]
  methods := #[]
  instanceTypes := #[]
  staticTypes := #[]
  resolved := Array.replicate 11 none
  statics := none }

def pool6 : Array CpInfo := pool [(1, .class_ 2), (0, u "java/lang/constant/ConstantDesc"), (0, .class_ 4), (0, u "java/lang/Object")] 32

/-- java/lang/constant/ConstantDesc -/
def k6 : Class := { plain "java/lang/constant/ConstantDesc" (some 0) with
  accessFlags := 1537
  interfaces := #[]
  cf := some (fileOf pool6 1 #[] #[] 1537 3 #[] #[])
  fields := #[]
  methods := #[]
  instanceTypes := #[]
  staticTypes := #[]
  resolved := Array.replicate 37 none
  statics := none }

def pool7 : Array CpInfo := pool [(1, .methodref 2 3), (0, .class_ 4), (0, .nameAndType 5 6), (0, u "java/lang/Object"), (0, u "<init>"), (0, u "()V"), (0, .string 8), (0, u ""), (0, .fieldref 10 11), (0, .class_ 12), (0, .nameAndType 13 14), (0, u "java/lang/String"), (0, u "value"), (0, u "[B"), (0, .fieldref 10 16), (0, .nameAndType 17 18), (0, u "coder"), (0, u "B"), (2, u "hash"), (0, u "I"), (2, u "hashIsZero"), (0, u "Z"), (0, .methodref 10 28), (0, .nameAndType 5 29), (0, u "([CIILjava/lang/Void;)V"), (8, .fieldref 10 39), (0, .nameAndType 40 26), (0, u "COMPACT_STRINGS"), (1, .class_ 44), (1, u "java/lang/StringUTF16"), (0, u "compress"), (1, .methodref 42 48), (0, .nameAndType 49 50), (0, u "coderFromArrayLen"), (0, u "([BI)B"), (56, .class_ 109), (1, u "java/lang/StringLatin1"), (32, u "()Z"), (34, .methodref 42 178), (0, .nameAndType 45 179), (0, u "([CII)[B"), (154, u "()I"), (0, .methodref 10 336), (0, .nameAndType 17 337), (0, u "()B"), (25, u "([BI)C"), (27, u "(II)V"), (35, u "(I)C"), (64, .methodref 10 493), (0, .nameAndType 494 142), (0, u "isLatin1"), (0, .methodref 107 496), (0, .nameAndType 497 363), (0, u "charAt"), (0, .methodref 42 496), (2, u "checkIndex"), (5, u "length"), (67, .class_ 576), (0, u "java/lang/CharSequence"), (22, u "CASE_INSENSITIVE_ORDER"), (0, u "Ljava/util/Comparator;"), (409, u "([C)V"), (42, .fieldref 1054 1055), (0, .class_ 1056), (0, .nameAndType 1057 1058), (0, u "jdk/internal/util/Preconditions"), (0, u "SIOOBE_FORMATTER"), (0, u "Ljava/util/function/BiFunction;"), (0, .methodref 1054 1060), (0, .nameAndType 501 1061), (0, u "(IILjava/util/function/BiFunction;)I"), (39, u "serialPersistentFields"), (0, u "[Ljava/io/ObjectStreamField;"), (0, .class_ 1104), (0, u "java/lang/String$CaseInsensitiveComparator"), (1, .class_ 1107), (0, u "java/io/Serializable"), (0, .class_ 1109), (0, u "java/lang/Comparable"), (0, .class_ 1111), (0, u "java/lang/constant/Constable"), (0, .class_ 1113), (0, u "java/lang/constant/ConstantDesc"), (2, u "serialVersionUID"), (0, u "J"), (3, u "REPL"), (0, u "C"), (2, u "LATIN1"), (1, u "UTF16")] 323

def k7m0 : Method := { name := "<init>", desc := "()V", sig := { parameters := [], returnType := none }, accessFlags := 1, code := none }
def k7c1 : Code := { maxStack := 5, maxLocals := 2, code := jdk_42_method_3_code, exceptionTable := #[], attributes := #[] }
def k7m1 : Method := { name := "<init>", desc := "([C)V", sig := { parameters := [(.array .char)], returnType := none }, accessFlags := 1, code := some k7c1 }
def k7c2 : Code := { maxStack := 2, maxLocals := 1, code := jdk_42_method_54_code, exceptionTable := #[], attributes := #[] }
def k7m2 : Method := { name := "length", desc := "()I", sig := { parameters := [], returnType := some .int }, accessFlags := 1, code := some k7c2 }
def k7c3 : Code := { maxStack := 2, maxLocals := 2, code := jdk_42_method_56_code, exceptionTable := #[], attributes := #[] }
def k7m3 : Method := { name := "charAt", desc := "(I)C", sig := { parameters := [.int], returnType := some .char }, accessFlags := 1, code := some k7c3 }
def k7c4 : Code := { maxStack := 4, maxLocals := 6, code := jdk_42_method_149_code, exceptionTable := #[], attributes := #[] }
def k7m4 : Method := { name := "<init>", desc := "([CIILjava/lang/Void;)V", sig := { parameters := [(.array .char), .int, .int, (.object "java/lang/Void")], returnType := none }, accessFlags := 2, code := some k7c4 }
def k7c5 : Code := { maxStack := 1, maxLocals := 1, code := jdk_42_method_152_code, exceptionTable := #[], attributes := #[] }
def k7m5 : Method := { name := "coder", desc := "()B", sig := { parameters := [], returnType := some .byte }, accessFlags := 0, code := some k7c5 }
def k7c6 : Code := { maxStack := 1, maxLocals := 1, code := jdk_42_method_154_code, exceptionTable := #[], attributes := #[] }
def k7m6 : Method := { name := "isLatin1", desc := "()Z", sig := { parameters := [], returnType := some .boolean }, accessFlags := 0, code := some k7c6 }
def k7c7 : Code := { maxStack := 3, maxLocals := 2, code := jdk_42_method_155_code, exceptionTable := #[], attributes := #[] }
def k7m7 : Method := { name := "checkIndex", desc := "(II)V", sig := { parameters := [.int, .int], returnType := none }, accessFlags := 8, code := some k7c7 }
/-- java/lang/String -/
def k7 : Class := { plain "java/lang/String" (some 0) with
  accessFlags := 49
  interfaces := #[2, 3, 4, 5, 6]
  cf := some (fileOf pool7 10 #[.nestMembers #[1103]] #[{ accessFlags := 1, nameIndex := 5, descriptorIndex := 6, attributes := #[] }, { accessFlags := 1, nameIndex := 5, descriptorIndex := 1010, attributes := #[] }, { accessFlags := 1, nameIndex := 507, descriptorIndex := 334, attributes := #[] }, { accessFlags := 1, nameIndex := 497, descriptorIndex := 427, attributes := #[] }, { accessFlags := 2, nameIndex := 5, descriptorIndex := 29, attributes := #[] }, { accessFlags := 0, nameIndex := 17, descriptorIndex := 337, attributes := #[] }, { accessFlags := 0, nameIndex := 494, descriptorIndex := 142, attributes := #[] }, { accessFlags := 8, nameIndex := 501, descriptorIndex := 391, attributes := #[] }] 49 2 #[1106, 1108, 575, 1110, 1112] #[{ accessFlags := 18, nameIndex := 13, descriptorIndex := 14, attributes := #[] }, { accessFlags := 18, nameIndex := 17, descriptorIndex := 18, attributes := #[] }, { accessFlags := 2, nameIndex := 21, descriptorIndex := 22, attributes := #[] }, { accessFlags := 2, nameIndex := 25, descriptorIndex := 26, attributes := #[] }, { accessFlags := 26, nameIndex := 1116, descriptorIndex := 1117, attributes := #[] }, { accessFlags := 24, nameIndex := 40, descriptorIndex := 26, attributes := #[] }, { accessFlags := 26, nameIndex := 1101, descriptorIndex := 1102, attributes := #[] }, { accessFlags := 26, nameIndex := 1121, descriptorIndex := 1122, attributes := #[] }, { accessFlags := 25, nameIndex := 599, descriptorIndex := 600, attributes := #[] }, { accessFlags := 24, nameIndex := 1125, descriptorIndex := 18, attributes := #[] }, { accessFlags := 24, nameIndex := 1127, descriptorIndex := 18, attributes := #[] }])
  fields := #[{ name := "value", type := (.array .byte), accessFlags := 18, slot := 0, constantValue := 0 }, { name := "coder", type := .byte, accessFlags := 18, slot := 1, constantValue := 0 }, { name := "hash", type := .int, accessFlags := 2, slot := 2, constantValue := 0 }, { name := "hashIsZero", type := .boolean, accessFlags := 2, slot := 3, constantValue := 0 }, { name := "serialVersionUID", type := .long, accessFlags := 26, slot := 0, constantValue := 0 }, { name := "COMPACT_STRINGS", type := .boolean, accessFlags := 24, slot := 1, constantValue := 0 }, { name := "serialPersistentFields", type := (.array (.object "java/io/ObjectStreamField")), accessFlags := 26, slot := 2, constantValue := 0 }, { name := "REPL", type := .char, accessFlags := 26, slot := 3, constantValue := 0 }, { name := "CASE_INSENSITIVE_ORDER", type := (.object "java/util/Comparator"), accessFlags := 25, slot := 4, constantValue := 0 }, { name := "LATIN1", type := .byte, accessFlags := 24, slot := 5, constantValue := 0 }, { name := "UTF16", type := .byte, accessFlags := 24, slot := 6, constantValue := 0 }]
  methods := #[k7m0, k7m1, k7m2, k7m3, k7m4, k7m5, k7m6, k7m7]
  instanceTypes := #[(.array .byte), .byte, .int, .boolean]
  staticTypes := #[.long, .boolean, (.array (.object "java/io/ObjectStreamField")), .char, (.object "java/util/Comparator"), .byte, .byte]
  resolved := Array.replicate 1451 none
  statics := some 0 }

def pool8 : Array CpInfo := pool [(1, .methodref 2 3), (0, .class_ 4), (0, .nameAndType 5 6), (0, u "java/lang/Object"), (0, u "<init>"), (0, u "()V"), (0, .class_ 8), (0, u "java/lang/Record")] 13

def k8c0 : Code := { maxStack := 1, maxLocals := 1, code := jdk_30_method_1_code, exceptionTable := #[], attributes := #[] }
def k8m0 : Method := { name := "<init>", desc := "()V", sig := { parameters := [], returnType := none }, accessFlags := 4, code := some k8c0 }
/-- java/lang/Record -/
def k8 : Class := { plain "java/lang/Record" (some 0) with
  accessFlags := 1057
  interfaces := #[]
  cf := some (fileOf pool8 7 #[] #[{ accessFlags := 4, nameIndex := 5, descriptorIndex := 6, attributes := #[] }] 1057 2 #[] #[])
  fields := #[]
  methods := #[k8m0]
  instanceTypes := #[]
  staticTypes := #[]
  resolved := Array.replicate 22 none
  statics := none }

def pool9 : Array CpInfo := pool [(1, .methodref 2 3), (0, .class_ 4), (0, .nameAndType 5 6), (0, u "java/lang/Record"), (0, u "<init>"), (0, u "()V"), (9, .fieldref 17 18), (0, .class_ 19), (0, .nameAndType 20 21), (0, u "com/example/object_sieve/objectsieve/query/TextPosition"), (0, u "line"), (0, u "I"), (0, .fieldref 17 23), (0, .nameAndType 24 21), (0, u "column"), (0, .interfaceMethodref 26 27), (0, .class_ 28), (0, .nameAndType 29 30), (0, u "java/lang/CharSequence"), (0, u "length"), (0, u "()I"), (4, .interfaceMethodref 26 36), (0, .nameAndType 37 38), (0, u "charAt"), (0, u "(I)C"), (0, .methodref 40 41), (0, .class_ 42), (0, .nameAndType 43 44), (0, u "java/lang/Character"), (0, u "isLowSurrogate"), (0, u "(C)Z"), (0, .methodref 40 46), (0, .nameAndType 47 44), (0, u "isHighSurrogate"), (0, .methodref 17 49), (0, .nameAndType 5 50), (0, u "(II)V"), (13, u "of"), (0, u "(Ljava/lang/CharSequence;I)Lcom/example/object_sieve/objectsieve/query/TextPosition;")] 36

def k9c0 : Code := { maxStack := 4, maxLocals := 3, code := prog_8_method_1_code, exceptionTable := #[], attributes := #[] }
def k9m0 : Method := { name := "<init>", desc := "(II)V", sig := { parameters := [.int, .int], returnType := none }, accessFlags := 1, code := some k9c0 }
def k9c1 : Code := { maxStack := 4, maxLocals := 9, code := prog_8_method_2_code, exceptionTable := #[], attributes := #[] }
def k9m1 : Method := { name := "of", desc := "(Ljava/lang/CharSequence;I)Lcom/example/object_sieve/objectsieve/query/TextPosition;", sig := { parameters := [(.object "java/lang/CharSequence"), .int], returnType := some (.object "com/example/object_sieve/objectsieve/query/TextPosition") }, accessFlags := 9, code := some k9c1 }
def k9c2 : Code := { maxStack := 1, maxLocals := 1, code := prog_8_method_6_code, exceptionTable := #[], attributes := #[] }
def k9m2 : Method := { name := "line", desc := "()I", sig := { parameters := [], returnType := some .int }, accessFlags := 1, code := some k9c2 }
def k9c3 : Code := { maxStack := 1, maxLocals := 1, code := prog_8_method_7_code, exceptionTable := #[], attributes := #[] }
def k9m3 : Method := { name := "column", desc := "()I", sig := { parameters := [], returnType := some .int }, accessFlags := 1, code := some k9c3 }
/-- com/example/object_sieve/objectsieve/query/TextPosition -/
def k9 : Class := { plain "com/example/object_sieve/objectsieve/query/TextPosition" (some 8) with
  accessFlags := 49
  interfaces := #[]
  cf := some (fileOf pool9 17 #[] #[{ accessFlags := 1, nameIndex := 5, descriptorIndex := 50, attributes := #[] }, { accessFlags := 9, nameIndex := 64, descriptorIndex := 65, attributes := #[] }, { accessFlags := 1, nameIndex := 20, descriptorIndex := 30, attributes := #[] }, { accessFlags := 1, nameIndex := 24, descriptorIndex := 30, attributes := #[] }] 49 2 #[] #[{ accessFlags := 18, nameIndex := 20, descriptorIndex := 21, attributes := #[] }, { accessFlags := 18, nameIndex := 24, descriptorIndex := 21, attributes := #[] }])
  fields := #[{ name := "line", type := .int, accessFlags := 18, slot := 0, constantValue := 0 }, { name := "column", type := .int, accessFlags := 18, slot := 1, constantValue := 0 }]
  methods := #[k9m0, k9m1, k9m2, k9m3]
  instanceTypes := #[.int, .int]
  staticTypes := #[]
  resolved := Array.replicate 102 none
  statics := none }

def pool10 : Array CpInfo := pool [(3, .class_ 4), (0, u "java/lang/String"), (1, .class_ 8), (1, u "java/lang/Object"), (0, u "<init>"), (0, u "()V"), (0, .methodref 12 13), (0, .class_ 14), (0, .nameAndType 15 16), (0, u "java/lang/StringUTF16"), (0, u "newBytesLength"), (0, u "(I)I"), (3, .integer 1073741823), (23, .fieldref 12 45), (0, .nameAndType 46 47), (0, u "$assertionsDisabled"), (0, u "Z"), (0, .methodref 12 49), (0, .nameAndType 50 51), (0, u "length"), (0, u "([B)I"), (7, .fieldref 12 60), (0, .nameAndType 61 62), (0, u "HI_BYTE_SHIFT"), (0, u "I"), (0, .fieldref 12 64), (0, .nameAndType 65 62), (0, u "LO_BYTE_SHIFT"), (1, .methodref 12 68), (0, .nameAndType 69 70), (0, u "checkIndex"), (0, u "(I[B)V"), (0, .methodref 12 72), (0, .nameAndType 73 74), (0, u "getChar"), (0, u "([BI)C"), (32, .methodref 12 108), (0, .nameAndType 109 110), (0, u "newBytesFor"), (0, u "(I)[B"), (0, .methodref 12 112), (0, .nameAndType 113 114), (0, u "putChar"), (0, u "([BII)V"), (0, .methodref 12 116), (0, .nameAndType 117 118), (0, u "compress"), (0, u "([CI[BII)I"), (0, .methodref 12 120), (0, .nameAndType 121 122), (0, u "toBytes"), (0, u "([CII)[B"), (138, u "coderFromArrayLen"), (0, u "([BI)B"), (106, .class_ 371), (1, u "java/lang/StringUTF16$LinesSpliterator"), (20, u "charAt"), (21, .methodref 3 415), (0, .nameAndType 69 416), (0, u "(II)V"), (13, u "MAX_LENGTH"), (196, .class_ 628), (0, u "java/lang/StringUTF16$CodePointsSpliterator"), (0, .class_ 630), (0, u "java/lang/StringUTF16$CharsSpliterator")] 4

def k10m0 : Method := { name := "<init>", desc := "()V", sig := { parameters := [], returnType := none }, accessFlags := 0, code := none }
def k10c1 : Code := { maxStack := 1, maxLocals := 1, code := jdk_52_method_2_code, exceptionTable := #[], attributes := #[] }
def k10m1 : Method := { name := "newBytesFor", desc := "(I)[B", sig := { parameters := [.int], returnType := some (.array .byte) }, accessFlags := 9, code := some k10c1 }
def k10c2 : Code := { maxStack := 4, maxLocals := 1, code := jdk_52_method_3_code, exceptionTable := #[], attributes := #[] }
def k10m2 : Method := { name := "newBytesLength", desc := "(I)I", sig := { parameters := [.int], returnType := some .int }, accessFlags := 9, code := some k10c2 }
def k10c3 : Code := { maxStack := 4, maxLocals := 3, code := jdk_52_method_4_code, exceptionTable := #[], attributes := #[] }
def k10m3 : Method := { name := "putChar", desc := "([BII)V", sig := { parameters := [(.array .byte), .int, .int], returnType := none }, accessFlags := 8, code := some k10c3 }
def k10c4 : Code := { maxStack := 3, maxLocals := 2, code := jdk_52_method_5_code, exceptionTable := #[], attributes := #[] }
def k10m4 : Method := { name := "getChar", desc := "([BI)C", sig := { parameters := [(.array .byte), .int], returnType := some .char }, accessFlags := 8, code := some k10c4 }
def k10c5 : Code := { maxStack := 2, maxLocals := 1, code := jdk_52_method_6_code, exceptionTable := #[], attributes := #[] }
def k10m5 : Method := { name := "length", desc := "([B)I", sig := { parameters := [(.array .byte)], returnType := some .int }, accessFlags := 9, code := some k10c5 }
def k10c6 : Code := { maxStack := 4, maxLocals := 5, code := jdk_52_method_14_code, exceptionTable := #[], attributes := #[] }
def k10m6 : Method := { name := "toBytes", desc := "([CII)[B", sig := { parameters := [(.array .char), .int, .int], returnType := some (.array .byte) }, accessFlags := 9, code := some k10c6 }
def k10c7 : Code := { maxStack := 2, maxLocals := 2, code := jdk_52_method_15_code, exceptionTable := #[], attributes := #[] }
def k10m7 : Method := { name := "coderFromArrayLen", desc := "([BI)B", sig := { parameters := [(.array .byte), .int], returnType := some .byte }, accessFlags := 8, code := some k10c7 }
def k10c8 : Code := { maxStack := 5, maxLocals := 6, code := jdk_52_method_16_code, exceptionTable := #[], attributes := #[] }
def k10m8 : Method := { name := "compress", desc := "([CII)[B", sig := { parameters := [(.array .char), .int, .int], returnType := some (.array .byte) }, accessFlags := 9, code := some k10c8 }
def k10c9 : Code := { maxStack := 3, maxLocals := 7, code := jdk_52_method_21_code, exceptionTable := #[], attributes := #[] }
def k10m9 : Method := { name := "compress", desc := "([CI[BII)I", sig := { parameters := [(.array .char), .int, (.array .byte), .int, .int], returnType := some .int }, accessFlags := 9, code := some k10c9 }
def k10c10 : Code := { maxStack := 2, maxLocals := 2, code := jdk_52_method_83_code, exceptionTable := #[], attributes := #[] }
def k10m10 : Method := { name := "charAt", desc := "([BI)C", sig := { parameters := [(.array .byte), .int], returnType := some .char }, accessFlags := 9, code := some k10c10 }
def k10c11 : Code := { maxStack := 2, maxLocals := 2, code := jdk_52_method_91_code, exceptionTable := #[], attributes := #[] }
def k10m11 : Method := { name := "checkIndex", desc := "(I[B)V", sig := { parameters := [.int, (.array .byte)], returnType := none }, accessFlags := 9, code := some k10c11 }
/-- java/lang/StringUTF16 -/
def k10 : Class := { plain "java/lang/StringUTF16" (some 0) with
  accessFlags := 48
  interfaces := #[]
  cf := some (fileOf pool10 12 #[.nestMembers #[627, 629, 369]] #[{ accessFlags := 0, nameIndex := 9, descriptorIndex := 10, attributes := #[] }, { accessFlags := 9, nameIndex := 109, descriptorIndex := 110, attributes := #[] }, { accessFlags := 9, nameIndex := 15, descriptorIndex := 16, attributes := #[] }, { accessFlags := 8, nameIndex := 113, descriptorIndex := 114, attributes := #[] }, { accessFlags := 8, nameIndex := 73, descriptorIndex := 74, attributes := #[] }, { accessFlags := 9, nameIndex := 50, descriptorIndex := 51, attributes := #[] }, { accessFlags := 9, nameIndex := 121, descriptorIndex := 122, attributes := #[] }, { accessFlags := 8, nameIndex := 261, descriptorIndex := 262, attributes := #[] }, { accessFlags := 9, nameIndex := 117, descriptorIndex := 122, attributes := #[] }, { accessFlags := 9, nameIndex := 117, descriptorIndex := 118, attributes := #[] }, { accessFlags := 9, nameIndex := 392, descriptorIndex := 74, attributes := #[] }, { accessFlags := 9, nameIndex := 69, descriptorIndex := 70, attributes := #[] }] 48 6 #[] #[{ accessFlags := 26, nameIndex := 61, descriptorIndex := 62, attributes := #[] }, { accessFlags := 26, nameIndex := 65, descriptorIndex := 62, attributes := #[] }, { accessFlags := 24, nameIndex := 430, descriptorIndex := 62, attributes := #[] }, { accessFlags := 4120, nameIndex := 46, descriptorIndex := 47, attributes := #[] }])
  fields := #[{ name := "HI_BYTE_SHIFT", type := .int, accessFlags := 26, slot := 0, constantValue := 0 }, { name := "LO_BYTE_SHIFT", type := .int, accessFlags := 26, slot := 1, constantValue := 0 }, { name := "MAX_LENGTH", type := .int, accessFlags := 24, slot := 2, constantValue := 0 }, { name := "$assertionsDisabled", type := .boolean, accessFlags := 4120, slot := 3, constantValue := 0 }]
  methods := #[k10m0, k10m1, k10m2, k10m3, k10m4, k10m5, k10m6, k10m7, k10m8, k10m9, k10m10, k10m11]
  instanceTypes := #[]
  staticTypes := #[.int, .int, .int, .boolean]
  resolved := Array.replicate 635 none
  statics := some 1 }

def pool11 : Array CpInfo := pool [(1, .class_ 2), (0, u "java/lang/String"), (1, .class_ 6), (1, u "java/lang/Object"), (0, u "<init>"), (0, u "()V"), (0, .methodref 1 10), (0, .nameAndType 11 12), (0, u "checkIndex"), (0, u "(II)V"), (1, .class_ 16), (1, u "java/lang/StringLatin1"), (36, u "([BI)C"), (67, u "$assertionsDisabled"), (0, u "Z"), (98, .class_ 223), (1, u "java/lang/StringLatin1$LinesSpliterator"), (28, u "charAt"), (137, .class_ 391), (0, u "java/lang/StringLatin1$CharsSpliterator")] 3

def k11m0 : Method := { name := "<init>", desc := "()V", sig := { parameters := [], returnType := none }, accessFlags := 0, code := none }
def k11c1 : Code := { maxStack := 2, maxLocals := 2, code := jdk_43_method_2_code, exceptionTable := #[], attributes := #[] }
def k11m1 : Method := { name := "charAt", desc := "([BI)C", sig := { parameters := [(.array .byte), .int], returnType := some .char }, accessFlags := 9, code := some k11c1 }
/-- java/lang/StringLatin1 -/
def k11 : Class := { plain "java/lang/StringLatin1" (some 0) with
  accessFlags := 48
  interfaces := #[]
  cf := some (fileOf pool11 14 #[.nestMembers #[390, 221]] #[{ accessFlags := 0, nameIndex := 7, descriptorIndex := 8, attributes := #[] }, { accessFlags := 9, nameIndex := 252, descriptorIndex := 53, attributes := #[] }] 48 4 #[] #[{ accessFlags := 4120, nameIndex := 121, descriptorIndex := 122, attributes := #[] }])
  fields := #[{ name := "$assertionsDisabled", type := .boolean, accessFlags := 4120, slot := 0, constantValue := 0 }]
  methods := #[k11m0, k11m1]
  instanceTypes := #[]
  staticTypes := #[.boolean]
  resolved := Array.replicate 395 none
  statics := none }

def pool12 : Array CpInfo := pool [(2, .class_ 4), (1, u "java/lang/Object"), (0, u "<init>"), (0, u "()V"), (17, .class_ 26), (1, u "jdk/internal/util/Preconditions"), (6, u "checkIndex"), (21, .class_ 56), (0, u "jdk/internal/util/Preconditions$4"), (57, .class_ 115), (0, u "jdk/internal/util/Preconditions$1"), (7, u "SIOOBE_FORMATTER"), (0, u "Ljava/util/function/BiFunction;"), (0, .class_ 126), (0, u "jdk/internal/util/Preconditions$2"), (3, u "AIOOBE_FORMATTER"), (0, .class_ 132), (0, u "jdk/internal/util/Preconditions$3"), (3, u "IOOBE_FORMATTER"), (41, u "(IILjava/util/function/BiFunction;)I")] 15

def k12m0 : Method := { name := "<init>", desc := "()V", sig := { parameters := [], returnType := none }, accessFlags := 1, code := none }
def k12c1 : Code := { maxStack := 3, maxLocals := 3, code := jdk_41_method_11_code, exceptionTable := #[], attributes := #[] }
def k12m1 : Method := { name := "checkIndex", desc := "(IILjava/util/function/BiFunction;)I", sig := { parameters := [.int, .int, (.object "java/util/function/BiFunction")], returnType := some .int }, accessFlags := 9, code := some k12c1 }
/-- jdk/internal/util/Preconditions -/
def k12 : Class := { plain "jdk/internal/util/Preconditions" (some 0) with
  accessFlags := 33
  interfaces := #[]
  cf := some (fileOf pool12 24 #[.nestMembers #[55, 131, 125, 114]] #[{ accessFlags := 1, nameIndex := 5, descriptorIndex := 6, attributes := #[] }, { accessFlags := 9, nameIndex := 33, descriptorIndex := 178, attributes := #[] }] 33 2 #[] #[{ accessFlags := 25, nameIndex := 123, descriptorIndex := 124, attributes := #[] }, { accessFlags := 25, nameIndex := 130, descriptorIndex := 124, attributes := #[] }, { accessFlags := 25, nameIndex := 136, descriptorIndex := 124, attributes := #[] }])
  fields := #[{ name := "SIOOBE_FORMATTER", type := (.object "java/util/function/BiFunction"), accessFlags := 25, slot := 0, constantValue := 0 }, { name := "AIOOBE_FORMATTER", type := (.object "java/util/function/BiFunction"), accessFlags := 25, slot := 1, constantValue := 0 }, { name := "IOOBE_FORMATTER", type := (.object "java/util/function/BiFunction"), accessFlags := 25, slot := 2, constantValue := 0 }]
  methods := #[k12m0, k12m1]
  instanceTypes := #[]
  staticTypes := #[(.object "java/util/function/BiFunction"), (.object "java/util/function/BiFunction"), (.object "java/util/function/BiFunction")]
  resolved := Array.replicate 194 none
  statics := some 2 }

def pool13 : Array CpInfo := pool [(1, .class_ 2), (0, u "java/lang/Character"), (18, u "value"), (0, u "C"), (19, .class_ 44), (1, u "java/lang/Object"), (3, .class_ 50), (1, u "java/lang/Character$CharacterCache"), (24, .integer 55296), (0, .integer 56320), (0, .integer 57344), (2, u "isHighSurrogate"), (0, u "(C)Z"), (2, u "isLowSurrogate"), (199, u "$assertionsDisabled"), (0, u "Z"), (21, .class_ 309), (1, u "java/lang/Character$UnicodeBlock"), (73, u "TYPE"), (0, u "Ljava/lang/Class;"), (0, .class_ 386), (0, u "java/io/Serializable"), (0, .class_ 388), (0, u "java/lang/Comparable"), (0, .class_ 390), (0, u "java/lang/constant/Constable"), (0, u "MIN_RADIX"), (0, u "I"), (2, u "MAX_RADIX"), (1, u "MIN_VALUE"), (1, u "MAX_VALUE"), (3, u "UNASSIGNED"), (0, u "B"), (0, u "UPPERCASE_LETTER"), (1, u "LOWERCASE_LETTER"), (0, u "TITLECASE_LETTER"), (1, u "MODIFIER_LETTER"), (1, u "OTHER_LETTER"), (1, u "NON_SPACING_MARK"), (1, u "ENCLOSING_MARK"), (1, u "COMBINING_SPACING_MARK"), (1, u "DECIMAL_DIGIT_NUMBER"), (1, u "LETTER_NUMBER"), (1, u "OTHER_NUMBER"), (1, u "SPACE_SEPARATOR"), (1, u "LINE_SEPARATOR"), (1, u "PARAGRAPH_SEPARATOR"), (1, u "CONTROL"), (1, u "FORMAT"), (1, u "PRIVATE_USE"), (1, u "SURROGATE"), (1, u "DASH_PUNCTUATION"), (1, u "START_PUNCTUATION"), (1, u "END_PUNCTUATION"), (1, u "CONNECTOR_PUNCTUATION"), (1, u "OTHER_PUNCTUATION"), (1, u "MATH_SYMBOL"), (1, u "CURRENCY_SYMBOL"), (1, u "MODIFIER_SYMBOL"), (1, u "OTHER_SYMBOL"), (1, u "INITIAL_QUOTE_PUNCTUATION"), (1, u "FINAL_QUOTE_PUNCTUATION"), (1, u "ERROR"), (1, u "DIRECTIONALITY_UNDEFINED"), (0, u "DIRECTIONALITY_LEFT_TO_RIGHT"), (0, u "DIRECTIONALITY_RIGHT_TO_LEFT"), (0, u "DIRECTIONALITY_RIGHT_TO_LEFT_ARABIC"), (0, u "DIRECTIONALITY_EUROPEAN_NUMBER"), (0, u "DIRECTIONALITY_EUROPEAN_NUMBER_SEPARATOR"), (0, u "DIRECTIONALITY_EUROPEAN_NUMBER_TERMINATOR"), (0, u "DIRECTIONALITY_ARABIC_NUMBER"), (0, u "DIRECTIONALITY_COMMON_NUMBER_SEPARATOR"), (0, u "DIRECTIONALITY_NONSPACING_MARK"), (0, u "DIRECTIONALITY_BOUNDARY_NEUTRAL"), (0, u "DIRECTIONALITY_PARAGRAPH_SEPARATOR"), (0, u "DIRECTIONALITY_SEGMENT_SEPARATOR"), (0, u "DIRECTIONALITY_WHITESPACE"), (0, u "DIRECTIONALITY_OTHER_NEUTRALS"), (0, u "DIRECTIONALITY_LEFT_TO_RIGHT_EMBEDDING"), (0, u "DIRECTIONALITY_LEFT_TO_RIGHT_OVERRIDE"), (0, u "DIRECTIONALITY_RIGHT_TO_LEFT_EMBEDDING"), (0, u "DIRECTIONALITY_RIGHT_TO_LEFT_OVERRIDE"), (1, u "DIRECTIONALITY_POP_DIRECTIONAL_FORMAT"), (0, u "DIRECTIONALITY_LEFT_TO_RIGHT_ISOLATE"), (0, u "DIRECTIONALITY_RIGHT_TO_LEFT_ISOLATE"), (0, u "DIRECTIONALITY_FIRST_STRONG_ISOLATE"), (0, u "DIRECTIONALITY_POP_DIRECTIONAL_ISOLATE"), (0, u "MIN_HIGH_SURROGATE"), (0, u "MAX_HIGH_SURROGATE"), (1, u "MIN_LOW_SURROGATE"), (0, u "MAX_LOW_SURROGATE"), (1, u "MIN_SURROGATE"), (0, u "MAX_SURROGATE"), (0, u "MIN_SUPPLEMENTARY_CODE_POINT"), (0, u "MIN_CODE_POINT"), (0, u "MAX_CODE_POINT"), (1, u "serialVersionUID"), (0, u "J"), (2, u "SIZE"), (0, u "BYTES"), (88, .class_ 596), (0, u "java/lang/Character$UnicodeScript"), (0, .class_ 598), (0, u "java/lang/Character$Subset")] 5

def k13c0 : Code := { maxStack := 2, maxLocals := 1, code := jdk_89_method_14_code, exceptionTable := #[], attributes := #[] }
def k13m0 : Method := { name := "isHighSurrogate", desc := "(C)Z", sig := { parameters := [.char], returnType := some .boolean }, accessFlags := 9, code := some k13c0 }
def k13c1 : Code := { maxStack := 2, maxLocals := 1, code := jdk_89_method_15_code, exceptionTable := #[], attributes := #[] }
def k13m1 : Method := { name := "isLowSurrogate", desc := "(C)Z", sig := { parameters := [.char], returnType := some .boolean }, accessFlags := 9, code := some k13c1 }
/-- java/lang/Character -/
def k13 : Class := { plain "java/lang/Character" (some 0) with
  accessFlags := 49
  interfaces := #[2, 3, 5]
  cf := some (fileOf pool13 1 #[.nestMembers #[48, 595, 307, 597]] #[{ accessFlags := 9, nameIndex := 80, descriptorIndex := 81, attributes := #[] }, { accessFlags := 9, nameIndex := 84, descriptorIndex := 81, attributes := #[] }] 49 42 #[385, 387, 389] #[{ accessFlags := 25, nameIndex := 391, descriptorIndex := 392, attributes := #[] }, { accessFlags := 25, nameIndex := 395, descriptorIndex := 392, attributes := #[] }, { accessFlags := 25, nameIndex := 397, descriptorIndex := 22, attributes := #[] }, { accessFlags := 25, nameIndex := 399, descriptorIndex := 22, attributes := #[] }, { accessFlags := 25, nameIndex := 383, descriptorIndex := 384, attributes := #[] }, { accessFlags := 25, nameIndex := 403, descriptorIndex := 404, attributes := #[] }, { accessFlags := 25, nameIndex := 405, descriptorIndex := 404, attributes := #[] }, { accessFlags := 25, nameIndex := 407, descriptorIndex := 404, attributes := #[] }, { accessFlags := 25, nameIndex := 408, descriptorIndex := 404, attributes := #[] }, { accessFlags := 25, nameIndex := 410, descriptorIndex := 404, attributes := #[] }, { accessFlags := 25, nameIndex := 412, descriptorIndex := 404, attributes := #[] }, { accessFlags := 25, nameIndex := 414, descriptorIndex := 404, attributes := #[] }, { accessFlags := 25, nameIndex := 416, descriptorIndex := 404, attributes := #[] }, { accessFlags := 25, nameIndex := 418, descriptorIndex := 404, attributes := #[] }, { accessFlags := 25, nameIndex := 420, descriptorIndex := 404, attributes := #[] }, { accessFlags := 25, nameIndex := 422, descriptorIndex := 404, attributes := #[] }, { accessFlags := 25, nameIndex := 424, descriptorIndex := 404, attributes := #[] }, { accessFlags := 25, nameIndex := 426, descriptorIndex := 404, attributes := #[] }, { accessFlags := 25, nameIndex := 428, descriptorIndex := 404, attributes := #[] }, { accessFlags := 25, nameIndex := 430, descriptorIndex := 404, attributes := #[] }, { accessFlags := 25, nameIndex := 432, descriptorIndex := 404, attributes := #[] }, { accessFlags := 25, nameIndex := 434, descriptorIndex := 404, attributes := #[] }, { accessFlags := 25, nameIndex := 436, descriptorIndex := 404, attributes := #[] }, { accessFlags := 25, nameIndex := 438, descriptorIndex := 404, attributes := #[] }, { accessFlags := 25, nameIndex := 440, descriptorIndex := 404, attributes := #[] }, { accessFlags := 25, nameIndex := 442, descriptorIndex := 404, attributes := #[] }, { accessFlags := 25, nameIndex := 444, descriptorIndex := 404, attributes := #[] }, { accessFlags := 25, nameIndex := 446, descriptorIndex := 404, attributes := #[] }, { accessFlags := 25, nameIndex := 448, descriptorIndex := 404, attributes := #[] }, { accessFlags := 25, nameIndex := 450, descriptorIndex := 404, attributes := #[] }, { accessFlags := 25, nameIndex := 452, descriptorIndex := 404, attributes := #[] }, { accessFlags := 25, nameIndex := 454, descriptorIndex := 404, attributes := #[] }, { accessFlags := 25, nameIndex := 456, descriptorIndex := 404, attributes := #[] }, { accessFlags := 25, nameIndex := 458, descriptorIndex := 404, attributes := #[] }, { accessFlags := 25, nameIndex := 460, descriptorIndex := 404, attributes := #[] }, { accessFlags := 24, nameIndex := 462, descriptorIndex := 392, attributes := #[] }, { accessFlags := 25, nameIndex := 464, descriptorIndex := 404, attributes := #[] }, { accessFlags := 25, nameIndex := 465, descriptorIndex := 404, attributes := #[] }, { accessFlags := 25, nameIndex := 466, descriptorIndex := 404, attributes := #[] }, { accessFlags := 25, nameIndex := 467, descriptorIndex := 404, attributes := #[] }, { accessFlags := 25, nameIndex := 468, descriptorIndex := 404, attributes := #[] }, { accessFlags := 25, nameIndex := 469, descriptorIndex := 404, attributes := #[] }, { accessFlags := 25, nameIndex := 470, descriptorIndex := 404, attributes := #[] }, { accessFlags := 25, nameIndex := 471, descriptorIndex := 404, attributes := #[] }, { accessFlags := 25, nameIndex := 472, descriptorIndex := 404, attributes := #[] }, { accessFlags := 25, nameIndex := 473, descriptorIndex := 404, attributes := #[] }, { accessFlags := 25, nameIndex := 474, descriptorIndex := 404, attributes := #[] }, { accessFlags := 25, nameIndex := 475, descriptorIndex := 404, attributes := #[] }, { accessFlags := 25, nameIndex := 476, descriptorIndex := 404, attributes := #[] }, { accessFlags := 25, nameIndex := 477, descriptorIndex := 404, attributes := #[] }, { accessFlags := 25, nameIndex := 478, descriptorIndex := 404, attributes := #[] }, { accessFlags := 25, nameIndex := 479, descriptorIndex := 404, attributes := #[] }, { accessFlags := 25, nameIndex := 480, descriptorIndex := 404, attributes := #[] }, { accessFlags := 25, nameIndex := 481, descriptorIndex := 404, attributes := #[] }, { accessFlags := 25, nameIndex := 482, descriptorIndex := 404, attributes := #[] }, { accessFlags := 25, nameIndex := 484, descriptorIndex := 404, attributes := #[] }, { accessFlags := 25, nameIndex := 485, descriptorIndex := 404, attributes := #[] }, { accessFlags := 25, nameIndex := 486, descriptorIndex := 404, attributes := #[] }, { accessFlags := 25, nameIndex := 487, descriptorIndex := 404, attributes := #[] }, { accessFlags := 25, nameIndex := 488, descriptorIndex := 404, attributes := #[] }, { accessFlags := 25, nameIndex := 489, descriptorIndex := 22, attributes := #[] }, { accessFlags := 25, nameIndex := 490, descriptorIndex := 22, attributes := #[] }, { accessFlags := 25, nameIndex := 492, descriptorIndex := 22, attributes := #[] }, { accessFlags := 25, nameIndex := 493, descriptorIndex := 22, attributes := #[] }, { accessFlags := 25, nameIndex := 495, descriptorIndex := 22, attributes := #[] }, { accessFlags := 25, nameIndex := 496, descriptorIndex := 22, attributes := #[] }, { accessFlags := 25, nameIndex := 497, descriptorIndex := 392, attributes := #[] }, { accessFlags := 25, nameIndex := 498, descriptorIndex := 392, attributes := #[] }, { accessFlags := 25, nameIndex := 499, descriptorIndex := 392, attributes := #[] }, { accessFlags := 18, nameIndex := 21, descriptorIndex := 22, attributes := #[] }, { accessFlags := 26, nameIndex := 501, descriptorIndex := 502, attributes := #[] }, { accessFlags := 25, nameIndex := 505, descriptorIndex := 392, attributes := #[] }, { accessFlags := 25, nameIndex := 506, descriptorIndex := 392, attributes := #[] }, { accessFlags := 4120, nameIndex := 284, descriptorIndex := 285, attributes := #[] }])
  fields := #[{ name := "MIN_RADIX", type := .int, accessFlags := 25, slot := 0, constantValue := 0 }, { name := "MAX_RADIX", type := .int, accessFlags := 25, slot := 1, constantValue := 0 }, { name := "MIN_VALUE", type := .char, accessFlags := 25, slot := 2, constantValue := 0 }, { name := "MAX_VALUE", type := .char, accessFlags := 25, slot := 3, constantValue := 0 }, { name := "TYPE", type := (.object "java/lang/Class"), accessFlags := 25, slot := 4, constantValue := 0 }, { name := "UNASSIGNED", type := .byte, accessFlags := 25, slot := 5, constantValue := 0 }, { name := "UPPERCASE_LETTER", type := .byte, accessFlags := 25, slot := 6, constantValue := 0 }, { name := "LOWERCASE_LETTER", type := .byte, accessFlags := 25, slot := 7, constantValue := 0 }, { name := "TITLECASE_LETTER", type := .byte, accessFlags := 25, slot := 8, constantValue := 0 }, { name := "MODIFIER_LETTER", type := .byte, accessFlags := 25, slot := 9, constantValue := 0 }, { name := "OTHER_LETTER", type := .byte, accessFlags := 25, slot := 10, constantValue := 0 }, { name := "NON_SPACING_MARK", type := .byte, accessFlags := 25, slot := 11, constantValue := 0 }, { name := "ENCLOSING_MARK", type := .byte, accessFlags := 25, slot := 12, constantValue := 0 }, { name := "COMBINING_SPACING_MARK", type := .byte, accessFlags := 25, slot := 13, constantValue := 0 }, { name := "DECIMAL_DIGIT_NUMBER", type := .byte, accessFlags := 25, slot := 14, constantValue := 0 }, { name := "LETTER_NUMBER", type := .byte, accessFlags := 25, slot := 15, constantValue := 0 }, { name := "OTHER_NUMBER", type := .byte, accessFlags := 25, slot := 16, constantValue := 0 }, { name := "SPACE_SEPARATOR", type := .byte, accessFlags := 25, slot := 17, constantValue := 0 }, { name := "LINE_SEPARATOR", type := .byte, accessFlags := 25, slot := 18, constantValue := 0 }, { name := "PARAGRAPH_SEPARATOR", type := .byte, accessFlags := 25, slot := 19, constantValue := 0 }, { name := "CONTROL", type := .byte, accessFlags := 25, slot := 20, constantValue := 0 }, { name := "FORMAT", type := .byte, accessFlags := 25, slot := 21, constantValue := 0 }, { name := "PRIVATE_USE", type := .byte, accessFlags := 25, slot := 22, constantValue := 0 }, { name := "SURROGATE", type := .byte, accessFlags := 25, slot := 23, constantValue := 0 }, { name := "DASH_PUNCTUATION", type := .byte, accessFlags := 25, slot := 24, constantValue := 0 }, { name := "START_PUNCTUATION", type := .byte, accessFlags := 25, slot := 25, constantValue := 0 }, { name := "END_PUNCTUATION", type := .byte, accessFlags := 25, slot := 26, constantValue := 0 }, { name := "CONNECTOR_PUNCTUATION", type := .byte, accessFlags := 25, slot := 27, constantValue := 0 }, { name := "OTHER_PUNCTUATION", type := .byte, accessFlags := 25, slot := 28, constantValue := 0 }, { name := "MATH_SYMBOL", type := .byte, accessFlags := 25, slot := 29, constantValue := 0 }, { name := "CURRENCY_SYMBOL", type := .byte, accessFlags := 25, slot := 30, constantValue := 0 }, { name := "MODIFIER_SYMBOL", type := .byte, accessFlags := 25, slot := 31, constantValue := 0 }, { name := "OTHER_SYMBOL", type := .byte, accessFlags := 25, slot := 32, constantValue := 0 }, { name := "INITIAL_QUOTE_PUNCTUATION", type := .byte, accessFlags := 25, slot := 33, constantValue := 0 }, { name := "FINAL_QUOTE_PUNCTUATION", type := .byte, accessFlags := 25, slot := 34, constantValue := 0 }, { name := "ERROR", type := .int, accessFlags := 24, slot := 35, constantValue := 0 }, { name := "DIRECTIONALITY_UNDEFINED", type := .byte, accessFlags := 25, slot := 36, constantValue := 0 }, { name := "DIRECTIONALITY_LEFT_TO_RIGHT", type := .byte, accessFlags := 25, slot := 37, constantValue := 0 }, { name := "DIRECTIONALITY_RIGHT_TO_LEFT", type := .byte, accessFlags := 25, slot := 38, constantValue := 0 }, { name := "DIRECTIONALITY_RIGHT_TO_LEFT_ARABIC", type := .byte, accessFlags := 25, slot := 39, constantValue := 0 }, { name := "DIRECTIONALITY_EUROPEAN_NUMBER", type := .byte, accessFlags := 25, slot := 40, constantValue := 0 }, { name := "DIRECTIONALITY_EUROPEAN_NUMBER_SEPARATOR", type := .byte, accessFlags := 25, slot := 41, constantValue := 0 }, { name := "DIRECTIONALITY_EUROPEAN_NUMBER_TERMINATOR", type := .byte, accessFlags := 25, slot := 42, constantValue := 0 }, { name := "DIRECTIONALITY_ARABIC_NUMBER", type := .byte, accessFlags := 25, slot := 43, constantValue := 0 }, { name := "DIRECTIONALITY_COMMON_NUMBER_SEPARATOR", type := .byte, accessFlags := 25, slot := 44, constantValue := 0 }, { name := "DIRECTIONALITY_NONSPACING_MARK", type := .byte, accessFlags := 25, slot := 45, constantValue := 0 }, { name := "DIRECTIONALITY_BOUNDARY_NEUTRAL", type := .byte, accessFlags := 25, slot := 46, constantValue := 0 }, { name := "DIRECTIONALITY_PARAGRAPH_SEPARATOR", type := .byte, accessFlags := 25, slot := 47, constantValue := 0 }, { name := "DIRECTIONALITY_SEGMENT_SEPARATOR", type := .byte, accessFlags := 25, slot := 48, constantValue := 0 }, { name := "DIRECTIONALITY_WHITESPACE", type := .byte, accessFlags := 25, slot := 49, constantValue := 0 }, { name := "DIRECTIONALITY_OTHER_NEUTRALS", type := .byte, accessFlags := 25, slot := 50, constantValue := 0 }, { name := "DIRECTIONALITY_LEFT_TO_RIGHT_EMBEDDING", type := .byte, accessFlags := 25, slot := 51, constantValue := 0 }, { name := "DIRECTIONALITY_LEFT_TO_RIGHT_OVERRIDE", type := .byte, accessFlags := 25, slot := 52, constantValue := 0 }, { name := "DIRECTIONALITY_RIGHT_TO_LEFT_EMBEDDING", type := .byte, accessFlags := 25, slot := 53, constantValue := 0 }, { name := "DIRECTIONALITY_RIGHT_TO_LEFT_OVERRIDE", type := .byte, accessFlags := 25, slot := 54, constantValue := 0 }, { name := "DIRECTIONALITY_POP_DIRECTIONAL_FORMAT", type := .byte, accessFlags := 25, slot := 55, constantValue := 0 }, { name := "DIRECTIONALITY_LEFT_TO_RIGHT_ISOLATE", type := .byte, accessFlags := 25, slot := 56, constantValue := 0 }, { name := "DIRECTIONALITY_RIGHT_TO_LEFT_ISOLATE", type := .byte, accessFlags := 25, slot := 57, constantValue := 0 }, { name := "DIRECTIONALITY_FIRST_STRONG_ISOLATE", type := .byte, accessFlags := 25, slot := 58, constantValue := 0 }, { name := "DIRECTIONALITY_POP_DIRECTIONAL_ISOLATE", type := .byte, accessFlags := 25, slot := 59, constantValue := 0 }, { name := "MIN_HIGH_SURROGATE", type := .char, accessFlags := 25, slot := 60, constantValue := 0 }, { name := "MAX_HIGH_SURROGATE", type := .char, accessFlags := 25, slot := 61, constantValue := 0 }, { name := "MIN_LOW_SURROGATE", type := .char, accessFlags := 25, slot := 62, constantValue := 0 }, { name := "MAX_LOW_SURROGATE", type := .char, accessFlags := 25, slot := 63, constantValue := 0 }, { name := "MIN_SURROGATE", type := .char, accessFlags := 25, slot := 64, constantValue := 0 }, { name := "MAX_SURROGATE", type := .char, accessFlags := 25, slot := 65, constantValue := 0 }, { name := "MIN_SUPPLEMENTARY_CODE_POINT", type := .int, accessFlags := 25, slot := 66, constantValue := 0 }, { name := "MIN_CODE_POINT", type := .int, accessFlags := 25, slot := 67, constantValue := 0 }, { name := "MAX_CODE_POINT", type := .int, accessFlags := 25, slot := 68, constantValue := 0 }, { name := "value", type := .char, accessFlags := 18, slot := 0, constantValue := 0 }, { name := "serialVersionUID", type := .long, accessFlags := 26, slot := 69, constantValue := 0 }, { name := "SIZE", type := .int, accessFlags := 25, slot := 70, constantValue := 0 }, { name := "BYTES", type := .int, accessFlags := 25, slot := 71, constantValue := 0 }, { name := "$assertionsDisabled", type := .boolean, accessFlags := 4120, slot := 72, constantValue := 0 }]
  methods := #[k13m0, k13m1]
  instanceTypes := #[.char]
  staticTypes := #[.int, .int, .char, .char, (.object "java/lang/Class"), .byte, .byte, .byte, .byte, .byte, .byte, .byte, .byte, .byte, .byte, .byte, .byte, .byte, .byte, .byte, .byte, .byte, .byte, .byte, .byte, .byte, .byte, .byte, .byte, .byte, .byte, .byte, .byte, .byte, .byte, .int, .byte, .byte, .byte, .byte, .byte, .byte, .byte, .byte, .byte, .byte, .byte, .byte, .byte, .byte, .byte, .byte, .byte, .byte, .byte, .byte, .byte, .byte, .byte, .byte, .char, .char, .char, .char, .char, .char, .int, .int, .int, .long, .int, .int, .boolean]
  resolved := Array.replicate 604 none
  statics := none }

def pool14 : Array CpInfo := pool [(9, u "<init>"), (6, .class_ 18), (1, u "java/lang/Object"), (0, u "()V"), (1, .class_ 23), (1, u "jdk/internal/util/ArraysSupport"), (0, u "LOG2_ARRAY_LONG_INDEX_SCALE"), (0, u "I"), (2, u "U"), (0, u "Ljdk/internal/misc/Unsafe;"), (8, u "BIG_ENDIAN"), (0, u "Z"), (8, u "LOG2_BYTE_BIT_SIZE"), (4, u "LOG2_ARRAY_INT_INDEX_SCALE"), (54, u "JLA"), (0, u "Ljdk/internal/access/JavaLangAccess;"), (11, u "LOG2_ARRAY_BOOLEAN_INDEX_SCALE"), (9, u "LOG2_ARRAY_BYTE_INDEX_SCALE"), (5, u "LOG2_ARRAY_CHAR_INDEX_SCALE"), (5, u "LOG2_ARRAY_SHORT_INDEX_SCALE"), (18, u "LOG2_ARRAY_FLOAT_INDEX_SCALE"), (24, u "LOG2_ARRAY_DOUBLE_INDEX_SCALE"), (89, u "T_BOOLEAN"), (2, u "T_CHAR"), (1, u "T_FLOAT"), (1, u "T_DOUBLE"), (1, u "T_BYTE"), (1, u "T_SHORT"), (1, u "T_INT"), (1, u "T_LONG"), (1, u "SOFT_MAX_ARRAY_LENGTH")] 83

def k14m0 : Method := { name := "<init>", desc := "()V", sig := { parameters := [], returnType := none }, accessFlags := 2, code := none }
/-- jdk/internal/util/ArraysSupport -/
def k14 : Class := { plain "jdk/internal/util/ArraysSupport" (some 0) with
  accessFlags := 33
  interfaces := #[]
  cf := some (fileOf pool14 21 #[] #[{ accessFlags := 2, nameIndex := 9, descriptorIndex := 19, attributes := #[] }] 33 16 #[] #[{ accessFlags := 24, nameIndex := 28, descriptorIndex := 29, attributes := #[] }, { accessFlags := 26, nameIndex := 38, descriptorIndex := 39, attributes := #[] }, { accessFlags := 25, nameIndex := 121, descriptorIndex := 25, attributes := #[] }, { accessFlags := 25, nameIndex := 131, descriptorIndex := 25, attributes := #[] }, { accessFlags := 25, nameIndex := 137, descriptorIndex := 25, attributes := #[] }, { accessFlags := 25, nameIndex := 143, descriptorIndex := 25, attributes := #[] }, { accessFlags := 25, nameIndex := 53, descriptorIndex := 25, attributes := #[] }, { accessFlags := 25, nameIndex := 24, descriptorIndex := 25, attributes := #[] }, { accessFlags := 25, nameIndex := 162, descriptorIndex := 25, attributes := #[] }, { accessFlags := 25, nameIndex := 187, descriptorIndex := 25, attributes := #[] }, { accessFlags := 26, nameIndex := 48, descriptorIndex := 25, attributes := #[] }, { accessFlags := 25, nameIndex := 277, descriptorIndex := 25, attributes := #[] }, { accessFlags := 25, nameIndex := 280, descriptorIndex := 25, attributes := #[] }, { accessFlags := 25, nameIndex := 282, descriptorIndex := 25, attributes := #[] }, { accessFlags := 25, nameIndex := 284, descriptorIndex := 25, attributes := #[] }, { accessFlags := 25, nameIndex := 286, descriptorIndex := 25, attributes := #[] }, { accessFlags := 25, nameIndex := 288, descriptorIndex := 25, attributes := #[] }, { accessFlags := 25, nameIndex := 290, descriptorIndex := 25, attributes := #[] }, { accessFlags := 25, nameIndex := 292, descriptorIndex := 25, attributes := #[] }, { accessFlags := 26, nameIndex := 108, descriptorIndex := 109, attributes := #[] }, { accessFlags := 25, nameIndex := 294, descriptorIndex := 25, attributes := #[] }])
  fields := #[{ name := "U", type := (.object "jdk/internal/misc/Unsafe"), accessFlags := 24, slot := 0, constantValue := 0 }, { name := "BIG_ENDIAN", type := .boolean, accessFlags := 26, slot := 1, constantValue := 0 }, { name := "LOG2_ARRAY_BOOLEAN_INDEX_SCALE", type := .int, accessFlags := 25, slot := 2, constantValue := 0 }, { name := "LOG2_ARRAY_BYTE_INDEX_SCALE", type := .int, accessFlags := 25, slot := 3, constantValue := 0 }, { name := "LOG2_ARRAY_CHAR_INDEX_SCALE", type := .int, accessFlags := 25, slot := 4, constantValue := 0 }, { name := "LOG2_ARRAY_SHORT_INDEX_SCALE", type := .int, accessFlags := 25, slot := 5, constantValue := 0 }, { name := "LOG2_ARRAY_INT_INDEX_SCALE", type := .int, accessFlags := 25, slot := 6, constantValue := 0 }, { name := "LOG2_ARRAY_LONG_INDEX_SCALE", type := .int, accessFlags := 25, slot := 7, constantValue := 0 }, { name := "LOG2_ARRAY_FLOAT_INDEX_SCALE", type := .int, accessFlags := 25, slot := 8, constantValue := 0 }, { name := "LOG2_ARRAY_DOUBLE_INDEX_SCALE", type := .int, accessFlags := 25, slot := 9, constantValue := 0 }, { name := "LOG2_BYTE_BIT_SIZE", type := .int, accessFlags := 26, slot := 10, constantValue := 0 }, { name := "T_BOOLEAN", type := .int, accessFlags := 25, slot := 11, constantValue := 0 }, { name := "T_CHAR", type := .int, accessFlags := 25, slot := 12, constantValue := 0 }, { name := "T_FLOAT", type := .int, accessFlags := 25, slot := 13, constantValue := 0 }, { name := "T_DOUBLE", type := .int, accessFlags := 25, slot := 14, constantValue := 0 }, { name := "T_BYTE", type := .int, accessFlags := 25, slot := 15, constantValue := 0 }, { name := "T_SHORT", type := .int, accessFlags := 25, slot := 16, constantValue := 0 }, { name := "T_INT", type := .int, accessFlags := 25, slot := 17, constantValue := 0 }, { name := "T_LONG", type := .int, accessFlags := 25, slot := 18, constantValue := 0 }, { name := "JLA", type := (.object "jdk/internal/access/JavaLangAccess"), accessFlags := 26, slot := 19, constantValue := 0 }, { name := "SOFT_MAX_ARRAY_LENGTH", type := .int, accessFlags := 25, slot := 20, constantValue := 0 }]
  methods := #[k14m0]
  instanceTypes := #[]
  staticTypes := #[(.object "jdk/internal/misc/Unsafe"), .boolean, .int, .int, .int, .int, .int, .int, .int, .int, .int, .int, .int, .int, .int, .int, .int, .int, .int, (.object "jdk/internal/access/JavaLangAccess"), .int]
  resolved := Array.replicate 378 none
  statics := none }

def pool15 : Array CpInfo := pool [(1, u "java/lang/Cloneable"), (0, .class_ 1), (0, u "java/lang/Object"), (0, .class_ 3)] 3

/-- java/lang/Cloneable -/
def k15 : Class := { plain "java/lang/Cloneable" (some 0) with
  accessFlags := 1537
  interfaces := #[]
  cf := some (fileOf pool15 2 #[] #[] 1537 4 #[] #[])
  fields := #[]
  methods := #[]
  instanceTypes := #[]
  staticTypes := #[]
  resolved := Array.replicate 8 none
  statics := none }

/-- the primitive byte -/
def k16 : Class := { plain "byte" none with kind := .primitive 'B', accessFlags := 0x411 }
/-- [B -/
def k17 : Class := { plain "[B" (some 0) with kind := .array 16 .byte, interfaces := #[15, 2], accessFlags := 1041 }

/-- the primitive char -/
def k18 : Class := { plain "char" none with kind := .primitive 'C', accessFlags := 0x411 }
/-- [C -/
def k19 : Class := { plain "[C" (some 0) with kind := .array 18 .char, interfaces := #[15, 2], accessFlags := 1041 }

/-- the primitive int -/
def k20 : Class := { plain "int" none with kind := .primitive 'I', accessFlags := 0x411 }
/-- [I -/
def k21 : Class := { plain "[I" (some 0) with kind := .array 20 .int, interfaces := #[15, 2], accessFlags := 1041 }

def heap : Heap := #[{ cls := 7, slots := #[.long 0, .int 1, .null, .int 0, .null, .int 0, .int 0], vm := .statics 7 },
  { cls := 10, slots := #[.int 0, .int 8, .int 0, .int 1], vm := .statics 10 },
  { cls := 12, slots := #[.null, .null, .null], vm := .statics 12 }]
def classes : Array Class := #[k0, k1, k2, k3, k4, k5, k6, k7, k8, k9, k10, k11, k12, k13, k14, k15, k16, k17, k18, k19, k20, k21]
def interned : List (Array UInt16 × Addr) := []
def slotsUsed : Nat := 14
def theMethod : MethodId := ⟨1, 6⟩
def args0 : Array Value := #[.int 1, .int 2, .int 3, .int 4, .int 5]
def aboutOver (below : List Frame) : State where
  vm := { classes := classes, interned := interned.toArray }
  heap := heap
  slotsUsed := slotsUsed
  threads := #[{ frames := .invoking theMethod args0 :: below }]
def below0 : List Frame := [.native { method := ⟨0, 0⟩, args := #[] }]
def about1 : State := aboutOver below0
def p0 : Program := .bare "" "" ""
def e0 : Env := launch0.env 0 0 0
theorem w_frames : about1.frames = Frame.invoking theMethod args0 :: below0 := rfl
set_option maxRecDepth 65536 in
theorem w_args : argsFit about1.vm theMethod args0 = true := by decide +kernel
set_option maxRecDepth 65536 in
theorem w_heap : heapFits about1 = true := by decide +kernel
set_option maxRecDepth 65536 in
theorem w_runnable : about1.curStatus? = some .runnable := by decide +kernel
set_option maxRecDepth 65536 in
theorem w_alone : about1.alone = true := by decide +kernel
set_option maxRecDepth 65536 in
theorem w_named : about1.methodNamed? x = some theMethod := by decide +kernel
set_option maxRecDepth 65536 in
theorem w_hears : about1.hears theMethod below0 = true := by decide +kernel
set_option maxRecDepth 65536 in
theorem w_ripe : about1.ripe theMethod args0 below0 = true := by decide +kernel
theorem w_running : about1.status = .running := rfl
set_option maxRecDepth 65536 in
theorem w_room : about1.hasRoom e0.platform room_1 = true :=
  launch0.hasRoom_least _ room_1 (by decide +kernel) (by decide +kernel) (by decide +kernel) (by decide +kernel) (by decide +kernel) (by decide +kernel)
theorem allAtoms_all (ts : List Jvm.Cond) (a : Array Jvm.Value) (st : Jvm.State) : (allAtoms ts).before a st = ts.all (fun c => c.before a st) := by
  induction ts with
  | nil => rfl
  | cons c t ih =>
    show (Jvm.Cond.and c (allAtoms t)).before a st = _
    rw [Jvm.Cond.before_and, ih, List.all_cons]
def words1 : List Jvm.Cond := Jvm.Cond.code x code maxLocals ret :: tables_1
/-- a 'code' word, met by the world's own term for the bytes: nothing is compared byte by byte -/
theorem code_word {y : MethodName} {bytes : ByteArray} {mx : Nat} {rt : Option FieldType} {a : Array Value} {s : State} {m : MethodId} {meth : Method} {c : Code} (h1 : s.methodNamed? y = some m) (h2 : s.vm.method? m = some meth) (h3 : meth.code = some c) (h4 : c.code = bytes)
    (h5 : (c.maxLocals == mx && c.exceptionTable.isEmpty && decide (c.maxStack ≤ mostOperands) && decide (meth.sig.returnType = rt) && !meth.locks && decide (parseMethodDescriptor y.desc = some meth.sig)) = true) : (Jvm.Cond.code y bytes mx rt).before a s = true := by
  simp only [Bool.and_eq_true, beq_iff_eq, Bool.not_eq_true', decide_eq_true_eq] at h5
  obtain ⟨⟨⟨⟨⟨g1, g2⟩, g3⟩, g4⟩, g5⟩, g6⟩ := h5
  simp [Cond.before, Cond.holds, Cond.value, h1, h2, h3, h4, g1, g2, g3, g4, g5, g6]
def isCode : Jvm.Cond → Bool
  | .code _ _ _ _ => true
  | _ => false
theorem all_split {L : List Jvm.Cond} {P : Jvm.Cond → Bool} (h1 : L.all (fun c => isCode c || P c) = true) (h2 : ∀ c ∈ L.filter isCode, P c = true) : L.all P = true := by
  refine List.all_eq_true.mpr fun c hc => ?_
  have h := List.all_eq_true.mp h1 c hc
  rcases Bool.eq_false_or_eq_true (isCode c) with hi | hi
  · exact h2 c (List.mem_filter.mpr ⟨hc, hi⟩)
  · simpa [hi] using h
set_option maxRecDepth 65536 in
theorem w_c0 : (Jvm.Cond.code x code maxLocals ret).before args0 about1 = true := code_word (m := ⟨1, 6⟩) (meth := k1m6) (c := k1c6) (by decide +kernel) rfl rfl rfl (by decide +kernel)
set_option maxRecDepth 65536 in
theorem w_c1 : (Jvm.Cond.code ({ cls := "com/example/object_sieve/objectsieve/query/TextPositionOfPinLaw", name := "draw", desc := "(I)C" } : Jvm.MethodName) method_2_code (3 : Nat) (Option.some Jvm.ClassFile.FieldType.char)).before args0 about1 = true := code_word (m := ⟨1, 1⟩) (meth := k1m1) (c := k1c1) (by decide +kernel) rfl rfl rfl (by decide +kernel)
set_option maxRecDepth 65536 in
theorem w_c2 : (Jvm.Cond.code ({ cls := "java/lang/String", name := "<init>", desc := "([C)V" } : Jvm.MethodName) jdk_42_method_3_code (2 : Nat) (Option.none : Option Jvm.ClassFile.FieldType)).before args0 about1 = true := code_word (m := ⟨7, 1⟩) (meth := k7m1) (c := k7c1) (by decide +kernel) rfl rfl rfl (by decide +kernel)
set_option maxRecDepth 65536 in
theorem w_c3 : (Jvm.Cond.code ({ cls := "java/lang/String", name := "<init>", desc := "([CIILjava/lang/Void;)V" } : Jvm.MethodName) jdk_42_method_149_code (6 : Nat) (Option.none : Option Jvm.ClassFile.FieldType)).before args0 about1 = true := code_word (m := ⟨7, 4⟩) (meth := k7m4) (c := k7c4) (by decide +kernel) rfl rfl rfl (by decide +kernel)
set_option maxRecDepth 65536 in
theorem w_c4 : (Jvm.Cond.code ({ cls := "java/lang/Object", name := "<init>", desc := "()V" } : Jvm.MethodName) object_method_1_code (1 : Nat) (Option.none : Option Jvm.ClassFile.FieldType)).before args0 about1 = true := code_word (m := ⟨0, 0⟩) (meth := k0m0) (c := k0c0) (by decide +kernel) rfl rfl rfl (by decide +kernel)
set_option maxRecDepth 65536 in
theorem w_c5 : (Jvm.Cond.code ({ cls := "com/example/object_sieve/objectsieve/query/TextPositionOfPinLaw", name := "endsBefore", desc := "([CIII)I" } : Jvm.MethodName) method_5_code (5 : Nat) (Option.some Jvm.ClassFile.FieldType.int)).before args0 about1 = true := code_word (m := ⟨1, 4⟩) (meth := k1m4) (c := k1c4) (by decide +kernel) rfl rfl rfl (by decide +kernel)
set_option maxRecDepth 65536 in
theorem w_c6 : (Jvm.Cond.code ({ cls := "com/example/object_sieve/objectsieve/query/TextPositionOfPinLaw", name := "width", desc := "([CIII)I" } : Jvm.MethodName) method_6_code (4 : Nat) (Option.some Jvm.ClassFile.FieldType.int)).before args0 about1 = true := code_word (m := ⟨1, 5⟩) (meth := k1m5) (c := k1c5) (by decide +kernel) rfl rfl rfl (by decide +kernel)
set_option maxRecDepth 65536 in
theorem w_c7 : (Jvm.Cond.code ({ cls := "com/example/object_sieve/objectsieve/query/TextPosition", name := "of", desc := "(Ljava/lang/CharSequence;I)Lcom/example/object_sieve/objectsieve/query/TextPosition;" } : Jvm.MethodName) prog_8_method_2_code (9 : Nat) (Option.some (Jvm.ClassFile.FieldType.object "com/example/object_sieve/objectsieve/query/TextPosition"))).before args0 about1 = true := code_word (m := ⟨9, 1⟩) (meth := k9m1) (c := k9c1) (by decide +kernel) rfl rfl rfl (by decide +kernel)
set_option maxRecDepth 65536 in
theorem w_c8 : (Jvm.Cond.code ({ cls := "java/lang/String", name := "length", desc := "()I" } : Jvm.MethodName) jdk_42_method_54_code (1 : Nat) (Option.some Jvm.ClassFile.FieldType.int)).before args0 about1 = true := code_word (m := ⟨7, 2⟩) (meth := k7m2) (c := k7c2) (by decide +kernel) rfl rfl rfl (by decide +kernel)
set_option maxRecDepth 65536 in
theorem w_c9 : (Jvm.Cond.code ({ cls := "java/lang/String", name := "coder", desc := "()B" } : Jvm.MethodName) jdk_42_method_152_code (1 : Nat) (Option.some Jvm.ClassFile.FieldType.byte)).before args0 about1 = true := code_word (m := ⟨7, 5⟩) (meth := k7m5) (c := k7c5) (by decide +kernel) rfl rfl rfl (by decide +kernel)
set_option maxRecDepth 65536 in
theorem w_c10 : (Jvm.Cond.code ({ cls := "com/example/object_sieve/objectsieve/query/TextPosition", name := "<init>", desc := "(II)V" } : Jvm.MethodName) prog_8_method_1_code (3 : Nat) (Option.none : Option Jvm.ClassFile.FieldType)).before args0 about1 = true := code_word (m := ⟨9, 0⟩) (meth := k9m0) (c := k9c0) (by decide +kernel) rfl rfl rfl (by decide +kernel)
set_option maxRecDepth 65536 in
theorem w_c11 : (Jvm.Cond.code ({ cls := "java/lang/Record", name := "<init>", desc := "()V" } : Jvm.MethodName) jdk_30_method_1_code (1 : Nat) (Option.none : Option Jvm.ClassFile.FieldType)).before args0 about1 = true := code_word (m := ⟨8, 0⟩) (meth := k8m0) (c := k8c0) (by decide +kernel) rfl rfl rfl (by decide +kernel)
set_option maxRecDepth 65536 in
theorem w_c12 : (Jvm.Cond.code ({ cls := "com/example/object_sieve/objectsieve/query/TextPosition", name := "line", desc := "()I" } : Jvm.MethodName) prog_8_method_6_code (1 : Nat) (Option.some Jvm.ClassFile.FieldType.int)).before args0 about1 = true := code_word (m := ⟨9, 2⟩) (meth := k9m2) (c := k9c2) (by decide +kernel) rfl rfl rfl (by decide +kernel)
set_option maxRecDepth 65536 in
theorem w_c13 : (Jvm.Cond.code ({ cls := "com/example/object_sieve/objectsieve/query/TextPosition", name := "column", desc := "()I" } : Jvm.MethodName) prog_8_method_7_code (1 : Nat) (Option.some Jvm.ClassFile.FieldType.int)).before args0 about1 = true := code_word (m := ⟨9, 3⟩) (meth := k9m3) (c := k9c3) (by decide +kernel) rfl rfl rfl (by decide +kernel)
set_option maxRecDepth 65536 in
theorem w_c14 : (Jvm.Cond.code ({ cls := "java/lang/StringUTF16", name := "compress", desc := "([CII)[B" } : Jvm.MethodName) jdk_52_method_16_code (6 : Nat) (Option.some (Jvm.ClassFile.FieldType.array Jvm.ClassFile.FieldType.byte))).before args0 about1 = true := code_word (m := ⟨10, 8⟩) (meth := k10m8) (c := k10c8) (by decide +kernel) rfl rfl rfl (by decide +kernel)
set_option maxRecDepth 65536 in
theorem w_c15 : (Jvm.Cond.code ({ cls := "java/lang/StringUTF16", name := "compress", desc := "([CI[BII)I" } : Jvm.MethodName) jdk_52_method_21_code (7 : Nat) (Option.some Jvm.ClassFile.FieldType.int)).before args0 about1 = true := code_word (m := ⟨10, 9⟩) (meth := k10m9) (c := k10c9) (by decide +kernel) rfl rfl rfl (by decide +kernel)
set_option maxRecDepth 65536 in
theorem w_c16 : (Jvm.Cond.code ({ cls := "java/lang/StringUTF16", name := "toBytes", desc := "([CII)[B" } : Jvm.MethodName) jdk_52_method_14_code (5 : Nat) (Option.some (Jvm.ClassFile.FieldType.array Jvm.ClassFile.FieldType.byte))).before args0 about1 = true := code_word (m := ⟨10, 6⟩) (meth := k10m6) (c := k10c6) (by decide +kernel) rfl rfl rfl (by decide +kernel)
set_option maxRecDepth 65536 in
theorem w_c17 : (Jvm.Cond.code ({ cls := "java/lang/StringUTF16", name := "newBytesFor", desc := "(I)[B" } : Jvm.MethodName) jdk_52_method_2_code (1 : Nat) (Option.some (Jvm.ClassFile.FieldType.array Jvm.ClassFile.FieldType.byte))).before args0 about1 = true := code_word (m := ⟨10, 1⟩) (meth := k10m1) (c := k10c1) (by decide +kernel) rfl rfl rfl (by decide +kernel)
set_option maxRecDepth 65536 in
theorem w_c18 : (Jvm.Cond.code ({ cls := "java/lang/StringUTF16", name := "newBytesLength", desc := "(I)I" } : Jvm.MethodName) jdk_52_method_3_code (1 : Nat) (Option.some Jvm.ClassFile.FieldType.int)).before args0 about1 = true := code_word (m := ⟨10, 2⟩) (meth := k10m2) (c := k10c2) (by decide +kernel) rfl rfl rfl (by decide +kernel)
set_option maxRecDepth 65536 in
theorem w_c19 : (Jvm.Cond.code ({ cls := "java/lang/StringUTF16", name := "putChar", desc := "([BII)V" } : Jvm.MethodName) jdk_52_method_4_code (3 : Nat) (Option.none : Option Jvm.ClassFile.FieldType)).before args0 about1 = true := code_word (m := ⟨10, 3⟩) (meth := k10m3) (c := k10c3) (by decide +kernel) rfl rfl rfl (by decide +kernel)
set_option maxRecDepth 65536 in
theorem w_c20 : (Jvm.Cond.code ({ cls := "java/lang/StringUTF16", name := "getChar", desc := "([BI)C" } : Jvm.MethodName) jdk_52_method_5_code (2 : Nat) (Option.some Jvm.ClassFile.FieldType.char)).before args0 about1 = true := code_word (m := ⟨10, 4⟩) (meth := k10m4) (c := k10c4) (by decide +kernel) rfl rfl rfl (by decide +kernel)
set_option maxRecDepth 65536 in
theorem w_c21 : (Jvm.Cond.code ({ cls := "java/lang/StringUTF16", name := "coderFromArrayLen", desc := "([BI)B" } : Jvm.MethodName) jdk_52_method_15_code (2 : Nat) (Option.some Jvm.ClassFile.FieldType.byte)).before args0 about1 = true := code_word (m := ⟨10, 7⟩) (meth := k10m7) (c := k10c7) (by decide +kernel) rfl rfl rfl (by decide +kernel)
set_option maxRecDepth 65536 in
theorem w_c22 : (Jvm.Cond.code ({ cls := "java/lang/String", name := "charAt", desc := "(I)C" } : Jvm.MethodName) jdk_42_method_56_code (2 : Nat) (Option.some Jvm.ClassFile.FieldType.char)).before args0 about1 = true := code_word (m := ⟨7, 3⟩) (meth := k7m3) (c := k7c3) (by decide +kernel) rfl rfl rfl (by decide +kernel)
set_option maxRecDepth 65536 in
theorem w_c23 : (Jvm.Cond.code ({ cls := "java/lang/String", name := "isLatin1", desc := "()Z" } : Jvm.MethodName) jdk_42_method_154_code (1 : Nat) (Option.some Jvm.ClassFile.FieldType.boolean)).before args0 about1 = true := code_word (m := ⟨7, 6⟩) (meth := k7m6) (c := k7c6) (by decide +kernel) rfl rfl rfl (by decide +kernel)
set_option maxRecDepth 65536 in
theorem w_c24 : (Jvm.Cond.code ({ cls := "java/lang/StringLatin1", name := "charAt", desc := "([BI)C" } : Jvm.MethodName) jdk_43_method_2_code (2 : Nat) (Option.some Jvm.ClassFile.FieldType.char)).before args0 about1 = true := code_word (m := ⟨11, 1⟩) (meth := k11m1) (c := k11c1) (by decide +kernel) rfl rfl rfl (by decide +kernel)
set_option maxRecDepth 65536 in
theorem w_c25 : (Jvm.Cond.code ({ cls := "java/lang/String", name := "checkIndex", desc := "(II)V" } : Jvm.MethodName) jdk_42_method_155_code (2 : Nat) (Option.none : Option Jvm.ClassFile.FieldType)).before args0 about1 = true := code_word (m := ⟨7, 7⟩) (meth := k7m7) (c := k7c7) (by decide +kernel) rfl rfl rfl (by decide +kernel)
set_option maxRecDepth 65536 in
theorem w_c26 : (Jvm.Cond.code ({ cls := "jdk/internal/util/Preconditions", name := "checkIndex", desc := "(IILjava/util/function/BiFunction;)I" } : Jvm.MethodName) jdk_41_method_11_code (3 : Nat) (Option.some Jvm.ClassFile.FieldType.int)).before args0 about1 = true := code_word (m := ⟨12, 1⟩) (meth := k12m1) (c := k12c1) (by decide +kernel) rfl rfl rfl (by decide +kernel)
set_option maxRecDepth 65536 in
theorem w_c27 : (Jvm.Cond.code ({ cls := "java/lang/Character", name := "isLowSurrogate", desc := "(C)Z" } : Jvm.MethodName) jdk_89_method_15_code (1 : Nat) (Option.some Jvm.ClassFile.FieldType.boolean)).before args0 about1 = true := code_word (m := ⟨13, 1⟩) (meth := k13m1) (c := k13c1) (by decide +kernel) rfl rfl rfl (by decide +kernel)
set_option maxRecDepth 65536 in
theorem w_c28 : (Jvm.Cond.code ({ cls := "com/example/object_sieve/objectsieve/query/TextPositionOfPinLaw", name := "isLow", desc := "(C)Z" } : Jvm.MethodName) method_4_code (1 : Nat) (Option.some Jvm.ClassFile.FieldType.boolean)).before args0 about1 = true := code_word (m := ⟨1, 3⟩) (meth := k1m3) (c := k1c3) (by decide +kernel) rfl rfl rfl (by decide +kernel)
set_option maxRecDepth 65536 in
theorem w_c29 : (Jvm.Cond.code ({ cls := "com/example/object_sieve/objectsieve/query/TextPositionOfPinLaw", name := "isHigh", desc := "(C)Z" } : Jvm.MethodName) method_3_code (1 : Nat) (Option.some Jvm.ClassFile.FieldType.boolean)).before args0 about1 = true := code_word (m := ⟨1, 2⟩) (meth := k1m2) (c := k1c2) (by decide +kernel) rfl rfl rfl (by decide +kernel)
set_option maxRecDepth 65536 in
theorem w_c30 : (Jvm.Cond.code ({ cls := "java/lang/StringUTF16", name := "charAt", desc := "([BI)C" } : Jvm.MethodName) jdk_52_method_83_code (2 : Nat) (Option.some Jvm.ClassFile.FieldType.char)).before args0 about1 = true := code_word (m := ⟨10, 10⟩) (meth := k10m10) (c := k10c10) (by decide +kernel) rfl rfl rfl (by decide +kernel)
set_option maxRecDepth 65536 in
theorem w_c31 : (Jvm.Cond.code ({ cls := "java/lang/StringUTF16", name := "checkIndex", desc := "(I[B)V" } : Jvm.MethodName) jdk_52_method_91_code (2 : Nat) (Option.none : Option Jvm.ClassFile.FieldType)).before args0 about1 = true := code_word (m := ⟨10, 11⟩) (meth := k10m11) (c := k10c11) (by decide +kernel) rfl rfl rfl (by decide +kernel)
set_option maxRecDepth 65536 in
theorem w_c32 : (Jvm.Cond.code ({ cls := "java/lang/StringUTF16", name := "length", desc := "([B)I" } : Jvm.MethodName) jdk_52_method_6_code (1 : Nat) (Option.some Jvm.ClassFile.FieldType.int)).before args0 about1 = true := code_word (m := ⟨10, 5⟩) (meth := k10m5) (c := k10c5) (by decide +kernel) rfl rfl rfl (by decide +kernel)
set_option maxRecDepth 65536 in
theorem w_c33 : (Jvm.Cond.code ({ cls := "java/lang/Character", name := "isHighSurrogate", desc := "(C)Z" } : Jvm.MethodName) jdk_89_method_14_code (1 : Nat) (Option.some Jvm.ClassFile.FieldType.boolean)).before args0 about1 = true := code_word (m := ⟨13, 0⟩) (meth := k13m0) (c := k13c0) (by decide +kernel) rfl rfl rfl (by decide +kernel)
def codes1 : List Jvm.Cond := [Jvm.Cond.code x code maxLocals ret, Jvm.Cond.code ({ cls := "com/example/object_sieve/objectsieve/query/TextPositionOfPinLaw", name := "draw", desc := "(I)C" } : Jvm.MethodName) method_2_code (3 : Nat) (Option.some Jvm.ClassFile.FieldType.char), Jvm.Cond.code ({ cls := "java/lang/String", name := "<init>", desc := "([C)V" } : Jvm.MethodName) jdk_42_method_3_code (2 : Nat) (Option.none : Option Jvm.ClassFile.FieldType), Jvm.Cond.code ({ cls := "java/lang/String", name := "<init>", desc := "([CIILjava/lang/Void;)V" } : Jvm.MethodName) jdk_42_method_149_code (6 : Nat) (Option.none : Option Jvm.ClassFile.FieldType), Jvm.Cond.code ({ cls := "java/lang/Object", name := "<init>", desc := "()V" } : Jvm.MethodName) object_method_1_code (1 : Nat) (Option.none : Option Jvm.ClassFile.FieldType), Jvm.Cond.code ({ cls := "com/example/object_sieve/objectsieve/query/TextPositionOfPinLaw", name := "endsBefore", desc := "([CIII)I" } : Jvm.MethodName) method_5_code (5 : Nat) (Option.some Jvm.ClassFile.FieldType.int), Jvm.Cond.code ({ cls := "com/example/object_sieve/objectsieve/query/TextPositionOfPinLaw", name := "width", desc := "([CIII)I" } : Jvm.MethodName) method_6_code (4 : Nat) (Option.some Jvm.ClassFile.FieldType.int), Jvm.Cond.code ({ cls := "com/example/object_sieve/objectsieve/query/TextPosition", name := "of", desc := "(Ljava/lang/CharSequence;I)Lcom/example/object_sieve/objectsieve/query/TextPosition;" } : Jvm.MethodName) prog_8_method_2_code (9 : Nat) (Option.some (Jvm.ClassFile.FieldType.object "com/example/object_sieve/objectsieve/query/TextPosition")), Jvm.Cond.code ({ cls := "java/lang/String", name := "length", desc := "()I" } : Jvm.MethodName) jdk_42_method_54_code (1 : Nat) (Option.some Jvm.ClassFile.FieldType.int), Jvm.Cond.code ({ cls := "java/lang/String", name := "coder", desc := "()B" } : Jvm.MethodName) jdk_42_method_152_code (1 : Nat) (Option.some Jvm.ClassFile.FieldType.byte), Jvm.Cond.code ({ cls := "com/example/object_sieve/objectsieve/query/TextPosition", name := "<init>", desc := "(II)V" } : Jvm.MethodName) prog_8_method_1_code (3 : Nat) (Option.none : Option Jvm.ClassFile.FieldType), Jvm.Cond.code ({ cls := "java/lang/Record", name := "<init>", desc := "()V" } : Jvm.MethodName) jdk_30_method_1_code (1 : Nat) (Option.none : Option Jvm.ClassFile.FieldType), Jvm.Cond.code ({ cls := "com/example/object_sieve/objectsieve/query/TextPosition", name := "line", desc := "()I" } : Jvm.MethodName) prog_8_method_6_code (1 : Nat) (Option.some Jvm.ClassFile.FieldType.int), Jvm.Cond.code ({ cls := "com/example/object_sieve/objectsieve/query/TextPosition", name := "column", desc := "()I" } : Jvm.MethodName) prog_8_method_7_code (1 : Nat) (Option.some Jvm.ClassFile.FieldType.int), Jvm.Cond.code ({ cls := "java/lang/StringUTF16", name := "compress", desc := "([CII)[B" } : Jvm.MethodName) jdk_52_method_16_code (6 : Nat) (Option.some (Jvm.ClassFile.FieldType.array Jvm.ClassFile.FieldType.byte)), Jvm.Cond.code ({ cls := "java/lang/StringUTF16", name := "compress", desc := "([CI[BII)I" } : Jvm.MethodName) jdk_52_method_21_code (7 : Nat) (Option.some Jvm.ClassFile.FieldType.int), Jvm.Cond.code ({ cls := "java/lang/StringUTF16", name := "toBytes", desc := "([CII)[B" } : Jvm.MethodName) jdk_52_method_14_code (5 : Nat) (Option.some (Jvm.ClassFile.FieldType.array Jvm.ClassFile.FieldType.byte)), Jvm.Cond.code ({ cls := "java/lang/StringUTF16", name := "newBytesFor", desc := "(I)[B" } : Jvm.MethodName) jdk_52_method_2_code (1 : Nat) (Option.some (Jvm.ClassFile.FieldType.array Jvm.ClassFile.FieldType.byte)), Jvm.Cond.code ({ cls := "java/lang/StringUTF16", name := "newBytesLength", desc := "(I)I" } : Jvm.MethodName) jdk_52_method_3_code (1 : Nat) (Option.some Jvm.ClassFile.FieldType.int), Jvm.Cond.code ({ cls := "java/lang/StringUTF16", name := "putChar", desc := "([BII)V" } : Jvm.MethodName) jdk_52_method_4_code (3 : Nat) (Option.none : Option Jvm.ClassFile.FieldType), Jvm.Cond.code ({ cls := "java/lang/StringUTF16", name := "getChar", desc := "([BI)C" } : Jvm.MethodName) jdk_52_method_5_code (2 : Nat) (Option.some Jvm.ClassFile.FieldType.char), Jvm.Cond.code ({ cls := "java/lang/StringUTF16", name := "coderFromArrayLen", desc := "([BI)B" } : Jvm.MethodName) jdk_52_method_15_code (2 : Nat) (Option.some Jvm.ClassFile.FieldType.byte), Jvm.Cond.code ({ cls := "java/lang/String", name := "charAt", desc := "(I)C" } : Jvm.MethodName) jdk_42_method_56_code (2 : Nat) (Option.some Jvm.ClassFile.FieldType.char), Jvm.Cond.code ({ cls := "java/lang/String", name := "isLatin1", desc := "()Z" } : Jvm.MethodName) jdk_42_method_154_code (1 : Nat) (Option.some Jvm.ClassFile.FieldType.boolean), Jvm.Cond.code ({ cls := "java/lang/StringLatin1", name := "charAt", desc := "([BI)C" } : Jvm.MethodName) jdk_43_method_2_code (2 : Nat) (Option.some Jvm.ClassFile.FieldType.char), Jvm.Cond.code ({ cls := "java/lang/String", name := "checkIndex", desc := "(II)V" } : Jvm.MethodName) jdk_42_method_155_code (2 : Nat) (Option.none : Option Jvm.ClassFile.FieldType), Jvm.Cond.code ({ cls := "jdk/internal/util/Preconditions", name := "checkIndex", desc := "(IILjava/util/function/BiFunction;)I" } : Jvm.MethodName) jdk_41_method_11_code (3 : Nat) (Option.some Jvm.ClassFile.FieldType.int), Jvm.Cond.code ({ cls := "java/lang/Character", name := "isLowSurrogate", desc := "(C)Z" } : Jvm.MethodName) jdk_89_method_15_code (1 : Nat) (Option.some Jvm.ClassFile.FieldType.boolean), Jvm.Cond.code ({ cls := "com/example/object_sieve/objectsieve/query/TextPositionOfPinLaw", name := "isLow", desc := "(C)Z" } : Jvm.MethodName) method_4_code (1 : Nat) (Option.some Jvm.ClassFile.FieldType.boolean), Jvm.Cond.code ({ cls := "com/example/object_sieve/objectsieve/query/TextPositionOfPinLaw", name := "isHigh", desc := "(C)Z" } : Jvm.MethodName) method_3_code (1 : Nat) (Option.some Jvm.ClassFile.FieldType.boolean), Jvm.Cond.code ({ cls := "java/lang/StringUTF16", name := "charAt", desc := "([BI)C" } : Jvm.MethodName) jdk_52_method_83_code (2 : Nat) (Option.some Jvm.ClassFile.FieldType.char), Jvm.Cond.code ({ cls := "java/lang/StringUTF16", name := "checkIndex", desc := "(I[B)V" } : Jvm.MethodName) jdk_52_method_91_code (2 : Nat) (Option.none : Option Jvm.ClassFile.FieldType), Jvm.Cond.code ({ cls := "java/lang/StringUTF16", name := "length", desc := "([B)I" } : Jvm.MethodName) jdk_52_method_6_code (1 : Nat) (Option.some Jvm.ClassFile.FieldType.int), Jvm.Cond.code ({ cls := "java/lang/Character", name := "isHighSurrogate", desc := "(C)Z" } : Jvm.MethodName) jdk_89_method_14_code (1 : Nat) (Option.some Jvm.ClassFile.FieldType.boolean)]
set_option maxRecDepth 65536 in
theorem codes_eq : words1.filter isCode = codes1 := rfl
theorem w_codes : ∀ c ∈ words1.filter isCode, c.before args0 about1 = true := by
  rw [codes_eq]
  intro c hc
  simp only [codes1, List.mem_cons, List.not_mem_nil, or_false] at hc
  rcases hc with rfl | rfl | rfl | rfl | rfl | rfl | rfl | rfl | rfl | rfl | rfl | rfl | rfl | rfl | rfl | rfl | rfl | rfl | rfl | rfl | rfl | rfl | rfl | rfl | rfl | rfl | rfl | rfl | rfl | rfl | rfl | rfl | rfl | rfl
  · exact w_c0
  · exact w_c1
  · exact w_c2
  · exact w_c3
  · exact w_c4
  · exact w_c5
  · exact w_c6
  · exact w_c7
  · exact w_c8
  · exact w_c9
  · exact w_c10
  · exact w_c11
  · exact w_c12
  · exact w_c13
  · exact w_c14
  · exact w_c15
  · exact w_c16
  · exact w_c17
  · exact w_c18
  · exact w_c19
  · exact w_c20
  · exact w_c21
  · exact w_c22
  · exact w_c23
  · exact w_c24
  · exact w_c25
  · exact w_c26
  · exact w_c27
  · exact w_c28
  · exact w_c29
  · exact w_c30
  · exact w_c31
  · exact w_c32
  · exact w_c33
set_option maxRecDepth 65536 in
theorem w_t1 : (words1.take 24).all (fun c => isCode c || c.before args0 about1) = true := by decide +kernel
set_option maxRecDepth 65536 in
theorem w_t2 : ((words1.drop 24).take 24).all (fun c => isCode c || c.before args0 about1) = true := by decide +kernel
set_option maxRecDepth 65536 in
theorem w_t3 : (((words1.drop 24).drop 24).take 24).all (fun c => isCode c || c.before args0 about1) = true := by decide +kernel
set_option maxRecDepth 65536 in
theorem w_t4 : ((((words1.drop 24).drop 24).drop 24).take 24).all (fun c => isCode c || c.before args0 about1) = true := by decide +kernel
set_option maxRecDepth 65536 in
theorem w_t5 : (((((words1.drop 24).drop 24).drop 24).drop 24).take 24).all (fun c => isCode c || c.before args0 about1) = true := by decide +kernel
set_option maxRecDepth 65536 in
theorem w_t6 : ((((((words1.drop 24).drop 24).drop 24).drop 24).drop 24).take 24).all (fun c => isCode c || c.before args0 about1) = true := by decide +kernel
set_option maxRecDepth 65536 in
theorem w_t7 : ((((((words1.drop 24).drop 24).drop 24).drop 24).drop 24).drop 24).all (fun c => isCode c || c.before args0 about1) = true := by decide +kernel
theorem w_tables : (allAtoms (Jvm.Cond.code x code maxLocals ret :: tables_1)).before args0 about1 = true := by
  rw [allAtoms_all]
  show words1.all (fun c => c.before args0 about1) = true
  refine all_split ?_ w_codes
  rw [← List.take_append_drop 24 words1, List.all_append, w_t1, ← List.take_append_drop 24 (words1.drop 24), List.all_append, w_t2, ← List.take_append_drop 24 ((words1.drop 24).drop 24), List.all_append, w_t3, ← List.take_append_drop 24 (((words1.drop 24).drop 24).drop 24), List.all_append, w_t4, ← List.take_append_drop 24 ((((words1.drop 24).drop 24).drop 24).drop 24), List.all_append, w_t5, ← List.take_append_drop 24 (((((words1.drop 24).drop 24).drop 24).drop 24).drop 24), List.all_append, w_t6, w_t7]
  rfl
set_option maxRecDepth 65536 in
theorem w_rest : rest_1_c.before args0 about1 = true := by decide +kernel
set_option maxRecDepth 65536 in
theorem w_case : (Jvm.Cond.and given_1 narrow_1).before args0 about1 = true := by decide +kernel
set_option maxRecDepth 65536 in
theorem w_consts : constsHeld consts_1 about1 := Jvm.Lit.constsHeldB_iff.mp (by decide +kernel)
theorem w_applies : (headSpec (Jvm.Cond.code x code maxLocals ret :: tables_1) room_1).applies x e0.platform about1 = true :=
  (Spec.applies_iff w_frames).mpr ⟨w_running, w_runnable, w_alone, w_named, w_hears, w_ripe, w_room, w_tables⟩
theorem atStart : AtStart classFile x code maxLocals ret World_1 tables_1 room_1 Calls_1 rest_1 Pre_1 launch0 p0 e0 about1 theMethod args0 below0 :=
  ⟨lists_1, trivial, launch0.admits_env _ _ _, launch0.least_env, fairChoices_fair.cas, fairChoices_fair.clock, w_frames, w_args, w_heap, w_applies, ⟨w_consts, trivial⟩, w_rest, w_case⟩
end start1
theorem witness_1 : WitnessClaimed_1 := ⟨start1.p0, start1.e0, start1.about1, start1.theMethod, start1.args0, start1.below0, start1.atStart⟩
end Jvm.Pilot.@@N@@
