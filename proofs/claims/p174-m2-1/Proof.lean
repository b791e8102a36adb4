import JvmDerived
import JvmDerived.Pilot.@@N@@Statement
import JvmDerived.Pilot.@@N@@Code
set_option linter.unusedVariables false
set_option linter.unusedSimpArgs false
namespace Jvm.Pilot.@@N@@
open Jvm Jvm.ClassFile Sem Op Lib Jvm.Free Jvm.Stand Jvm.LawKit Jvm.RoadKit Bundle Jvm.Pilot.@@N@@.Jvm.D
section Own
variable {p : Program} {l : Launch} {e : Env} {R : Room} {s : State} {m : MethodId} {args : Array Value} {below : List Frame} {meth : Method} {c : Code} {Z : State} {a0 : Array Value} {EL : List (String × Nat)} {n0 : Nat} {y : MethodName} {bytes : ByteArray} {maxL : Nat} {ret : Option FieldType} {b : State} {T : State} {h : Heap} {locs : List Loc} {cells slots : Nat} {P : Outcome → State → Prop} {pc pc' : Nat} {Ls : Array Slot} {st : List Value}
def Goes (tb : Tables) (e : Env) (below : List Frame) (P : Outcome → State → Prop) (A : State) : Prop := ∃ s₂ o, Steps tb e below A s₂ ∧ s₂.status = .running ∧ Ended s₂ below o ∧ P o s₂
theorem go {tb : Tables} {A B : State} (q : ∀ t, Steps tb e below B t → Steps tb e below A t) (k : Goes tb e below P B) : Goes tb e below P A := by
  obtain ⟨t, o, h, r⟩ := k
  exact ⟨t, o, q t h, r⟩
def Sfe (Z : State) (EL : List (String × Nat)) (vm : Vm) (h : Heap) (x : Addr) : Prop := Safe Z EL vm h x
theorem sfe_new {vm : Vm} {x : Addr} (q : h.size ≤ x) : Sfe Z EL vm h x := Safe.new q
def Bs (Z : State) (a0 : Array Value) (EL : List (String × Nat)) (s b : State) (h : Heap) : Prop := (∃ vm0 k0, b = s.setVm vm0 ∧ s.Since vm0 k0 ∧ k0 ≤ h.size) ∧ CHr Z EL s.vm s.heap b.vm h ∧ EW Z a0 EL
def Wk (p : Program) (l : Launch) (e : Env) (R : Room) (s : State) (m : MethodId) (args : Array Value) (below : List Frame) (meth : Method) (c : Code) (Z : State) (a0 : Array Value) (EL : List (String × Nat)) (n0 : Nat) (y : MethodName) (bytes : ByteArray) (maxL : Nat) (ret : Option FieldType) (b : State) (T : State) (h : Heap) (locs : List Loc) (cells slots : Nat) : Prop := Stand p l e R b m args below meth c T locs cells slots ∧ T.heap = h ∧ Fr n0 locs ∧ p.tables.exec = Jvm.exec ∧ Z.Warmed39 b.vm ∧ b.vm.findClass y.cls = some m.cls ∧ c.code = bytes ∧ c.maxLocals = maxL ∧ meth.sig.returnType = ret ∧ meth.locks = false ∧ meth.name = y.name ∧ Old Z n0 h ∧ Bs Z a0 EL s b h
theorem Wk.X (K : Wk p l e R s m args below meth c Z a0 EL n0 y bytes maxL ret b T h locs cells slots) : Stand p l e R b m args below meth c T locs cells slots := K.1
theorem Wk.eT (K : Wk p l e R s m args below meth c Z a0 EL n0 y bytes maxL ret b T h locs cells slots) : T.heap = h := K.2.1
theorem Wk.fr (K : Wk p l e R s m args below meth c Z a0 EL n0 y bytes maxL ret b T h locs cells slots) : Fr n0 locs := K.2.2.1
theorem Wk.hx (K : Wk p l e R s m args below meth c Z a0 EL n0 y bytes maxL ret b T h locs cells slots) : p.tables.exec = Jvm.exec := K.2.2.2.1
theorem Wk.hZ (K : Wk p l e R s m args below meth c Z a0 EL n0 y bytes maxL ret b T h locs cells slots) : Z.Warmed39 b.vm := K.2.2.2.2.1
theorem Wk.hown (K : Wk p l e R s m args below meth c Z a0 EL n0 y bytes maxL ret b T h locs cells slots) : b.vm.findClass y.cls = some m.cls := K.2.2.2.2.2.1
theorem Wk.hby (K : Wk p l e R s m args below meth c Z a0 EL n0 y bytes maxL ret b T h locs cells slots) : c.code = bytes := K.2.2.2.2.2.2.1
theorem Wk.hml (K : Wk p l e R s m args below meth c Z a0 EL n0 y bytes maxL ret b T h locs cells slots) : c.maxLocals = maxL := K.2.2.2.2.2.2.2.1
theorem Wk.hret (K : Wk p l e R s m args below meth c Z a0 EL n0 y bytes maxL ret b T h locs cells slots) : meth.sig.returnType = ret := K.2.2.2.2.2.2.2.2.1
theorem Wk.hlk (K : Wk p l e R s m args below meth c Z a0 EL n0 y bytes maxL ret b T h locs cells slots) : meth.locks = false := K.2.2.2.2.2.2.2.2.2.1
theorem Wk.hnm (K : Wk p l e R s m args below meth c Z a0 EL n0 y bytes maxL ret b T h locs cells slots) : meth.name = y.name := K.2.2.2.2.2.2.2.2.2.2.1
theorem Wk.old (K : Wk p l e R s m args below meth c Z a0 EL n0 y bytes maxL ret b T h locs cells slots) : Old Z n0 h := K.2.2.2.2.2.2.2.2.2.2.2.1
theorem Wk.bs (K : Wk p l e R s m args below meth c Z a0 EL n0 y bytes maxL ret b T h locs cells slots) : Bs Z a0 EL s b h := K.2.2.2.2.2.2.2.2.2.2.2.2
theorem Wk.at (K : Wk p l e R s m args below meth c Z a0 EL n0 y bytes maxL ret b T h locs cells slots) : At T m c below := K.X.here
theorem Wk.move (K : Wk p l e R s m args below meth c Z a0 EL n0 y bytes maxL ret b T h locs cells slots) {T' : State} {h' : Heap} {locs' : List Loc} {cells' slots' : Nat} (X : Stand p l e R b m args below meth c T' locs' cells' slots') (eT : T'.heap = h') (hF : Fr n0 locs') (hO : Old Z n0 h') (hB : Bs Z a0 EL s b h') : Wk p l e R s m args below meth c Z a0 EL n0 y bytes maxL ret b T' h' locs' cells' slots' := ⟨X, eT, hF, K.hx, K.hZ, K.hown, K.hby, K.hml, K.hret, K.hlk, K.hnm, hO, hB⟩
theorem k_iload (K : Wk p l e R s m args below meth c Z a0 EL n0 y bytes maxL ret b T h locs cells slots) {i : Int32} {k : Nat} (hd : decode bytes pc = .ok (.iload k, 2)) (hp : pc + 2 = pc') (hl : Ls[k]? = some (.val (.int i))) (k : Goes p.tables e below P (T.setTop (mkF m pc' Ls (.int i :: st)))) : Goes p.tables e below P (T.setTop (mkF m pc Ls st)) := by
  subst hp
  exact go (fun t q => XS.iload K.at K.hx rfl (hb K.hby hd) hl q) k
theorem k_iloadN (K : Wk p l e R s m args below meth c Z a0 EL n0 y bytes maxL ret b T h locs cells slots) {i : Int32} {k : Fin 4} (hd : decode bytes pc = .ok (.iload_n k, 1)) (hp : pc + 1 = pc') (hl : Ls[k.val]? = some (.val (.int i))) (k : Goes p.tables e below P (T.setTop (mkF m pc' Ls (.int i :: st)))) : Goes p.tables e below P (T.setTop (mkF m pc Ls st)) := by
  subst hp
  exact go (fun t q => XS.iloadN K.at K.hx rfl (hb K.hby hd) hl q) k
theorem k_lload (K : Wk p l e R s m args below meth c Z a0 EL n0 y bytes maxL ret b T h locs cells slots) {i : Int64} {k : Nat} (hd : decode bytes pc = .ok (.lload k, 2)) (hp : pc + 2 = pc') (hl : Ls[k]? = some (.val (.long i))) (k : Goes p.tables e below P (T.setTop (mkF m pc' Ls (.long i :: st)))) : Goes p.tables e below P (T.setTop (mkF m pc Ls st)) := by
  subst hp
  exact go (fun t q => XT.lload K.at K.hx rfl (hb K.hby hd) hl q) k
theorem k_lloadN (K : Wk p l e R s m args below meth c Z a0 EL n0 y bytes maxL ret b T h locs cells slots) {i : Int64} {k : Fin 4} (hd : decode bytes pc = .ok (.lload_n k, 1)) (hp : pc + 1 = pc') (hl : Ls[k.val]? = some (.val (.long i))) (k : Goes p.tables e below P (T.setTop (mkF m pc' Ls (.long i :: st)))) : Goes p.tables e below P (T.setTop (mkF m pc Ls st)) := by
  subst hp
  exact go (fun t q => XT.lloadN K.at K.hx rfl (hb K.hby hd) hl q) k
theorem k_aload (K : Wk p l e R s m args below meth c Z a0 EL n0 y bytes maxL ret b T h locs cells slots) {v : Value} {k : Nat} (hd : decode bytes pc = .ok (.aload k, 2)) (hp : pc + 2 = pc') (hl : Ls[k]? = some (.val v)) (hv : v.isRef = true) (k : Goes p.tables e below P (T.setTop (mkF m pc' Ls (v :: st)))) : Goes p.tables e below P (T.setTop (mkF m pc Ls st)) := by
  subst hp
  exact go (fun t q => XS.aload K.at K.hx rfl (hb K.hby hd) hl hv q) k
theorem k_aloadN (K : Wk p l e R s m args below meth c Z a0 EL n0 y bytes maxL ret b T h locs cells slots) {v : Value} {k : Fin 4} (hd : decode bytes pc = .ok (.aload_n k, 1)) (hp : pc + 1 = pc') (hl : Ls[k.val]? = some (.val v)) (hv : v.isRef = true) (k : Goes p.tables e below P (T.setTop (mkF m pc' Ls (v :: st)))) : Goes p.tables e below P (T.setTop (mkF m pc Ls st)) := by
  subst hp
  exact go (fun t q => XS.aloadN K.at K.hx rfl (hb K.hby hd) hl hv q) k
theorem k_istore (K : Wk p l e R s m args below meth c Z a0 EL n0 y bytes maxL ret b T h locs cells slots) {i : Int32} {k : Nat} {L' : Array Slot} (hd : decode bytes pc = .ok (.istore k, 2)) (hp : pc + 2 = pc') (hl : storeLocals Ls k (.int i) = some L') (k : Goes p.tables e below P (T.setTop (mkF m pc' L' st))) : Goes p.tables e below P (T.setTop (mkF m pc Ls (.int i :: st))) := by
  subst hp
  exact go (fun t q => XS.istore K.at K.hx rfl (hb K.hby hd) rfl hl q) k
theorem k_istoreN (K : Wk p l e R s m args below meth c Z a0 EL n0 y bytes maxL ret b T h locs cells slots) {i : Int32} {k : Fin 4} {L' : Array Slot} (hd : decode bytes pc = .ok (.istore_n k, 1)) (hp : pc + 1 = pc') (hl : storeLocals Ls k.val (.int i) = some L') (k : Goes p.tables e below P (T.setTop (mkF m pc' L' st))) : Goes p.tables e below P (T.setTop (mkF m pc Ls (.int i :: st))) := by
  subst hp
  exact go (fun t q => XS.istoreN K.at K.hx rfl (hb K.hby hd) rfl hl q) k
theorem k_lstore (K : Wk p l e R s m args below meth c Z a0 EL n0 y bytes maxL ret b T h locs cells slots) {i : Int64} {k : Nat} {L' : Array Slot} (hd : decode bytes pc = .ok (.lstore k, 2)) (hp : pc + 2 = pc') (hl : storeLocals Ls k (.long i) = some L') (k : Goes p.tables e below P (T.setTop (mkF m pc' L' st))) : Goes p.tables e below P (T.setTop (mkF m pc Ls (.long i :: st))) := by
  subst hp
  exact go (fun t q => XT.lstore K.at K.hx rfl (hb K.hby hd) rfl hl q) k
theorem k_lstoreN (K : Wk p l e R s m args below meth c Z a0 EL n0 y bytes maxL ret b T h locs cells slots) {i : Int64} {k : Fin 4} {L' : Array Slot} (hd : decode bytes pc = .ok (.lstore_n k, 1)) (hp : pc + 1 = pc') (hl : storeLocals Ls k.val (.long i) = some L') (k : Goes p.tables e below P (T.setTop (mkF m pc' L' st))) : Goes p.tables e below P (T.setTop (mkF m pc Ls (.long i :: st))) := by
  subst hp
  exact go (fun t q => XT.lstoreN K.at K.hx rfl (hb K.hby hd) rfl hl q) k
theorem k_astore (K : Wk p l e R s m args below meth c Z a0 EL n0 y bytes maxL ret b T h locs cells slots) {v : Value} {k : Nat} {L' : Array Slot} (hd : decode bytes pc = .ok (.astore k, 2)) (hp : pc + 2 = pc') (hv : v.isRef = true) (hl : storeLocals Ls k v = some L') (k : Goes p.tables e below P (T.setTop (mkF m pc' L' st))) : Goes p.tables e below P (T.setTop (mkF m pc Ls (v :: st))) := by
  subst hp
  exact go (fun t q => XS.astore K.at K.hx rfl (hb K.hby hd) rfl hv hl q) k
theorem k_astoreN (K : Wk p l e R s m args below meth c Z a0 EL n0 y bytes maxL ret b T h locs cells slots) {v : Value} {k : Fin 4} {L' : Array Slot} (hd : decode bytes pc = .ok (.astore_n k, 1)) (hp : pc + 1 = pc') (hv : v.isRef = true) (hl : storeLocals Ls k.val v = some L') (k : Goes p.tables e below P (T.setTop (mkF m pc' L' st))) : Goes p.tables e below P (T.setTop (mkF m pc Ls (v :: st))) := by
  subst hp
  exact go (fun t q => XS.astoreN K.at K.hx rfl (hb K.hby hd) rfl hv hl q) k
theorem k_iconst (K : Wk p l e R s m args below meth c Z a0 EL n0 y bytes maxL ret b T h locs cells slots) {i : Int} (v : Int32) (hd : decode bytes pc = .ok (.iconst i, 1)) (hp : pc + 1 = pc') (hv : Int32.ofInt i = v) (k : Goes p.tables e below P (T.setTop (mkF m pc' Ls (.int v :: st)))) : Goes p.tables e below P (T.setTop (mkF m pc Ls st)) := by
  subst hp
  exact go (fun t q => XT.iconstV K.at K.hx rfl v (hb K.hby hd) hv q) k
theorem k_bipush (K : Wk p l e R s m args below meth c Z a0 EL n0 y bytes maxL ret b T h locs cells slots) {i : Int} (v : Int32) (hd : decode bytes pc = .ok (.bipush i, 2)) (hp : pc + 2 = pc') (hv : (Int8.ofInt i).toInt32 = v) (k : Goes p.tables e below P (T.setTop (mkF m pc' Ls (.int v :: st)))) : Goes p.tables e below P (T.setTop (mkF m pc Ls st)) := by
  subst hp
  exact go (fun t q => XT.bipushV K.at K.hx rfl v (hb K.hby hd) hv q) k
theorem k_sipush (K : Wk p l e R s m args below meth c Z a0 EL n0 y bytes maxL ret b T h locs cells slots) {i : Int} (v : Int32) (hd : decode bytes pc = .ok (.sipush i, 3)) (hp : pc + 3 = pc') (hv : (Int16.ofInt i).toInt32 = v) (k : Goes p.tables e below P (T.setTop (mkF m pc' Ls (.int v :: st)))) : Goes p.tables e below P (T.setTop (mkF m pc Ls st)) := by
  subst hp
  exact go (fun t q => XT.sipushV K.at K.hx rfl v (hb K.hby hd) hv q) k
theorem k_lconst (K : Wk p l e R s m args below meth c Z a0 EL n0 y bytes maxL ret b T h locs cells slots) {i : Fin 2} (v : Int64) (hd : decode bytes pc = .ok (.lconst i, 1)) (hp : pc + 1 = pc') (hv : Int64.ofNat i = v) (k : Goes p.tables e below P (T.setTop (mkF m pc' Ls (.long v :: st)))) : Goes p.tables e below P (T.setTop (mkF m pc Ls st)) := by
  subst hp
  exact go (fun t q => XT.lconstV K.at K.hx rfl v (hb K.hby hd) hv q) k
theorem k_aconst_null (K : Wk p l e R s m args below meth c Z a0 EL n0 y bytes maxL ret b T h locs cells slots)  (hd : decode bytes pc = .ok (.aconst_null, 1)) (hp : pc + 1 = pc') (k : Goes p.tables e below P (T.setTop (mkF m pc' Ls (.null :: st)))) : Goes p.tables e below P (T.setTop (mkF m pc Ls st)) := by
  subst hp
  exact go (fun t q => XS.aconstNull K.at K.hx rfl (hb K.hby hd) q) k
theorem k_ldcI (K : Wk p l e R s m args below meth c Z a0 EL n0 y bytes maxL ret b T h locs cells slots) {i : Nat} {v : Int32} (wd : (Cond.constant y.cls i v).before a0 Z = true) (hd : decode bytes pc = .ok (.ldc i, 2)) (hp : pc + 2 = pc') (k : Goes p.tables e below P (T.setTop (mkF m pc' Ls (.int v :: st)))) : Goes p.tables e below P (T.setTop (mkF m pc Ls st)) := by
  subst hp
  exact go (fun t q => Stand.ldcI K.X K.hx K.hown (mvT K.hZ wd) rfl (hb K.hby hd) q) k
theorem k_ldcWI (K : Wk p l e R s m args below meth c Z a0 EL n0 y bytes maxL ret b T h locs cells slots) {i : Nat} {v : Int32} (wd : (Cond.constant y.cls i v).before a0 Z = true) (hd : decode bytes pc = .ok (.ldc_w i, 3)) (hp : pc + 3 = pc') (k : Goes p.tables e below P (T.setTop (mkF m pc' Ls (.int v :: st)))) : Goes p.tables e below P (T.setTop (mkF m pc Ls st)) := by
  subst hp
  exact go (fun t q => Stand.ldcWI K.X K.hx K.hown (mvT K.hZ wd) rfl (hb K.hby hd) q) k
theorem k_ldcJ (K : Wk p l e R s m args below meth c Z a0 EL n0 y bytes maxL ret b T h locs cells slots) {i : Nat} {v : Int64} (wd : (Cond.constantLong y.cls i v).before a0 Z = true) (hd : decode bytes pc = .ok (.ldc2_w i, 3)) (hp : pc + 3 = pc') (k : Goes p.tables e below P (T.setTop (mkF m pc' Ls (.long v :: st)))) : Goes p.tables e below P (T.setTop (mkF m pc Ls st)) := by
  subst hp
  exact go (fun t q => Stand.ldc2J K.X K.hx K.hown (mvT K.hZ wd) rfl (hb K.hby hd) q) k
theorem k_iadd (K : Wk p l e R s m args below meth c Z a0 EL n0 y bytes maxL ret b T h locs cells slots) {i j : Int32} (hd : decode bytes pc = .ok (.iadd, 1)) (hp : pc + 1 = pc') (k : Goes p.tables e below P (T.setTop (mkF m pc' Ls (.int (i + j) :: st)))) : Goes p.tables e below P (T.setTop (mkF m pc Ls (.int j :: .int i :: st))) := by
  subst hp
  exact go (fun t q => XS.iadd K.at K.hx rfl (hb K.hby hd) rfl q) k
theorem k_isub (K : Wk p l e R s m args below meth c Z a0 EL n0 y bytes maxL ret b T h locs cells slots) {i j : Int32} (hd : decode bytes pc = .ok (.isub, 1)) (hp : pc + 1 = pc') (k : Goes p.tables e below P (T.setTop (mkF m pc' Ls (.int (i - j) :: st)))) : Goes p.tables e below P (T.setTop (mkF m pc Ls (.int j :: .int i :: st))) := by
  subst hp
  exact go (fun t q => XS.isub K.at K.hx rfl (hb K.hby hd) rfl q) k
theorem k_imul (K : Wk p l e R s m args below meth c Z a0 EL n0 y bytes maxL ret b T h locs cells slots) {i j : Int32} (hd : decode bytes pc = .ok (.imul, 1)) (hp : pc + 1 = pc') (k : Goes p.tables e below P (T.setTop (mkF m pc' Ls (.int (i * j) :: st)))) : Goes p.tables e below P (T.setTop (mkF m pc Ls (.int j :: .int i :: st))) := by
  subst hp
  exact go (fun t q => XS.imul K.at K.hx rfl (hb K.hby hd) rfl q) k
theorem k_iand (K : Wk p l e R s m args below meth c Z a0 EL n0 y bytes maxL ret b T h locs cells slots) {i j : Int32} (hd : decode bytes pc = .ok (.iand, 1)) (hp : pc + 1 = pc') (k : Goes p.tables e below P (T.setTop (mkF m pc' Ls (.int (i &&& j) :: st)))) : Goes p.tables e below P (T.setTop (mkF m pc Ls (.int j :: .int i :: st))) := by
  subst hp
  exact go (fun t q => XS.iand K.at K.hx rfl (hb K.hby hd) rfl q) k
theorem k_ior (K : Wk p l e R s m args below meth c Z a0 EL n0 y bytes maxL ret b T h locs cells slots) {i j : Int32} (hd : decode bytes pc = .ok (.ior, 1)) (hp : pc + 1 = pc') (k : Goes p.tables e below P (T.setTop (mkF m pc' Ls (.int (i ||| j) :: st)))) : Goes p.tables e below P (T.setTop (mkF m pc Ls (.int j :: .int i :: st))) := by
  subst hp
  exact go (fun t q => XT.ior K.at K.hx rfl (hb K.hby hd) rfl q) k
theorem k_ixor (K : Wk p l e R s m args below meth c Z a0 EL n0 y bytes maxL ret b T h locs cells slots) {i j : Int32} (hd : decode bytes pc = .ok (.ixor, 1)) (hp : pc + 1 = pc') (k : Goes p.tables e below P (T.setTop (mkF m pc' Ls (.int (i ^^^ j) :: st)))) : Goes p.tables e below P (T.setTop (mkF m pc Ls (.int j :: .int i :: st))) := by
  subst hp
  exact go (fun t q => XT.ixor K.at K.hx rfl (hb K.hby hd) rfl q) k
theorem k_ishl (K : Wk p l e R s m args below meth c Z a0 EL n0 y bytes maxL ret b T h locs cells slots) {i j : Int32} (hd : decode bytes pc = .ok (.ishl, 1)) (hp : pc + 1 = pc') (k : Goes p.tables e below P (T.setTop (mkF m pc' Ls (.int (i <<< (j &&& 31)) :: st)))) : Goes p.tables e below P (T.setTop (mkF m pc Ls (.int j :: .int i :: st))) := by
  subst hp
  exact go (fun t q => XT.ishl K.at K.hx rfl (hb K.hby hd) rfl q) k
theorem k_ishr (K : Wk p l e R s m args below meth c Z a0 EL n0 y bytes maxL ret b T h locs cells slots) {i j : Int32} (hd : decode bytes pc = .ok (.ishr, 1)) (hp : pc + 1 = pc') (k : Goes p.tables e below P (T.setTop (mkF m pc' Ls (.int (i >>> (j &&& 31)) :: st)))) : Goes p.tables e below P (T.setTop (mkF m pc Ls (.int j :: .int i :: st))) := by
  subst hp
  exact go (fun t q => XT.ishr K.at K.hx rfl (hb K.hby hd) rfl q) k
theorem k_iushr (K : Wk p l e R s m args below meth c Z a0 EL n0 y bytes maxL ret b T h locs cells slots) {i j : Int32} (hd : decode bytes pc = .ok (.iushr, 1)) (hp : pc + 1 = pc') (k : Goes p.tables e below P (T.setTop (mkF m pc' Ls (.int (XT.ushr i j) :: st)))) : Goes p.tables e below P (T.setTop (mkF m pc Ls (.int j :: .int i :: st))) := by
  subst hp
  exact go (fun t q => XT.iushr K.at K.hx rfl (hb K.hby hd) rfl q) k
theorem k_ladd (K : Wk p l e R s m args below meth c Z a0 EL n0 y bytes maxL ret b T h locs cells slots) {i j : Int64} (hd : decode bytes pc = .ok (.ladd, 1)) (hp : pc + 1 = pc') (k : Goes p.tables e below P (T.setTop (mkF m pc' Ls (.long (i + j) :: st)))) : Goes p.tables e below P (T.setTop (mkF m pc Ls (.long j :: .long i :: st))) := by
  subst hp
  exact go (fun t q => XT.ladd K.at K.hx rfl (hb K.hby hd) rfl q) k
theorem k_lsub (K : Wk p l e R s m args below meth c Z a0 EL n0 y bytes maxL ret b T h locs cells slots) {i j : Int64} (hd : decode bytes pc = .ok (.lsub, 1)) (hp : pc + 1 = pc') (k : Goes p.tables e below P (T.setTop (mkF m pc' Ls (.long (i - j) :: st)))) : Goes p.tables e below P (T.setTop (mkF m pc Ls (.long j :: .long i :: st))) := by
  subst hp
  exact go (fun t q => XT.lsub K.at K.hx rfl (hb K.hby hd) rfl q) k
theorem k_lmul (K : Wk p l e R s m args below meth c Z a0 EL n0 y bytes maxL ret b T h locs cells slots) {i j : Int64} (hd : decode bytes pc = .ok (.lmul, 1)) (hp : pc + 1 = pc') (k : Goes p.tables e below P (T.setTop (mkF m pc' Ls (.long (i * j) :: st)))) : Goes p.tables e below P (T.setTop (mkF m pc Ls (.long j :: .long i :: st))) := by
  subst hp
  exact go (fun t q => XT.lmul K.at K.hx rfl (hb K.hby hd) rfl q) k
theorem k_land (K : Wk p l e R s m args below meth c Z a0 EL n0 y bytes maxL ret b T h locs cells slots) {i j : Int64} (hd : decode bytes pc = .ok (.land, 1)) (hp : pc + 1 = pc') (k : Goes p.tables e below P (T.setTop (mkF m pc' Ls (.long (i &&& j) :: st)))) : Goes p.tables e below P (T.setTop (mkF m pc Ls (.long j :: .long i :: st))) := by
  subst hp
  exact go (fun t q => XT.land K.at K.hx rfl (hb K.hby hd) rfl q) k
theorem k_lor (K : Wk p l e R s m args below meth c Z a0 EL n0 y bytes maxL ret b T h locs cells slots) {i j : Int64} (hd : decode bytes pc = .ok (.lor, 1)) (hp : pc + 1 = pc') (k : Goes p.tables e below P (T.setTop (mkF m pc' Ls (.long (i ||| j) :: st)))) : Goes p.tables e below P (T.setTop (mkF m pc Ls (.long j :: .long i :: st))) := by
  subst hp
  exact go (fun t q => XT.lor K.at K.hx rfl (hb K.hby hd) rfl q) k
theorem k_lxor (K : Wk p l e R s m args below meth c Z a0 EL n0 y bytes maxL ret b T h locs cells slots) {i j : Int64} (hd : decode bytes pc = .ok (.lxor, 1)) (hp : pc + 1 = pc') (k : Goes p.tables e below P (T.setTop (mkF m pc' Ls (.long (i ^^^ j) :: st)))) : Goes p.tables e below P (T.setTop (mkF m pc Ls (.long j :: .long i :: st))) := by
  subst hp
  exact go (fun t q => XT.lxor K.at K.hx rfl (hb K.hby hd) rfl q) k
theorem k_lshl (K : Wk p l e R s m args below meth c Z a0 EL n0 y bytes maxL ret b T h locs cells slots) {i : Int64} {j : Int32} (hd : decode bytes pc = .ok (.lshl, 1)) (hp : pc + 1 = pc') (k : Goes p.tables e below P (T.setTop (mkF m pc' Ls (.long (i <<< (j.toInt64 &&& 63)) :: st)))) : Goes p.tables e below P (T.setTop (mkF m pc Ls (.int j :: .long i :: st))) := by
  subst hp
  exact go (fun t q => XT.lshl K.at K.hx rfl (hb K.hby hd) rfl q) k
theorem k_lshr (K : Wk p l e R s m args below meth c Z a0 EL n0 y bytes maxL ret b T h locs cells slots) {i : Int64} {j : Int32} (hd : decode bytes pc = .ok (.lshr, 1)) (hp : pc + 1 = pc') (k : Goes p.tables e below P (T.setTop (mkF m pc' Ls (.long (i >>> (j.toInt64 &&& 63)) :: st)))) : Goes p.tables e below P (T.setTop (mkF m pc Ls (.int j :: .long i :: st))) := by
  subst hp
  exact go (fun t q => XT.lshr K.at K.hx rfl (hb K.hby hd) rfl q) k
theorem k_lushr (K : Wk p l e R s m args below meth c Z a0 EL n0 y bytes maxL ret b T h locs cells slots) {i : Int64} {j : Int32} (hd : decode bytes pc = .ok (.lushr, 1)) (hp : pc + 1 = pc') (k : Goes p.tables e below P (T.setTop (mkF m pc' Ls (.long (XT.ushrL i j) :: st)))) : Goes p.tables e below P (T.setTop (mkF m pc Ls (.int j :: .long i :: st))) := by
  subst hp
  exact go (fun t q => XT.lushr K.at K.hx rfl (hb K.hby hd) rfl q) k
theorem k_idiv (K : Wk p l e R s m args below meth c Z a0 EL n0 y bytes maxL ret b T h locs cells slots) {i j : Int32} (hd : decode bytes pc = .ok (.idiv, 1)) (hp : pc + 1 = pc') (hj : j ≠ 0) (k : Goes p.tables e below P (T.setTop (mkF m pc' Ls (.int (i / j) :: st)))) : Goes p.tables e below P (T.setTop (mkF m pc Ls (.int j :: .int i :: st))) := by
  subst hp
  exact go (fun t q => XS.idiv K.at K.hx rfl (hb K.hby hd) rfl hj q) k
theorem k_irem (K : Wk p l e R s m args below meth c Z a0 EL n0 y bytes maxL ret b T h locs cells slots) {i j : Int32} (hd : decode bytes pc = .ok (.irem, 1)) (hp : pc + 1 = pc') (hj : j ≠ 0) (k : Goes p.tables e below P (T.setTop (mkF m pc' Ls (.int (i % j) :: st)))) : Goes p.tables e below P (T.setTop (mkF m pc Ls (.int j :: .int i :: st))) := by
  subst hp
  exact go (fun t q => Jvm.RoadKit.iremM K.X K.hx rfl (hb K.hby hd) rfl hj q) k
theorem k_ldiv (K : Wk p l e R s m args below meth c Z a0 EL n0 y bytes maxL ret b T h locs cells slots) {i j : Int64} (hd : decode bytes pc = .ok (.ldiv, 1)) (hp : pc + 1 = pc') (hj : j ≠ 0) (k : Goes p.tables e below P (T.setTop (mkF m pc' Ls (.long (i / j) :: st)))) : Goes p.tables e below P (T.setTop (mkF m pc Ls (.long j :: .long i :: st))) := by
  subst hp
  exact go (fun t q => XT.ldiv K.at K.hx rfl (hb K.hby hd) rfl hj q) k
theorem k_lrem (K : Wk p l e R s m args below meth c Z a0 EL n0 y bytes maxL ret b T h locs cells slots) {i j : Int64} (hd : decode bytes pc = .ok (.lrem, 1)) (hp : pc + 1 = pc') (hj : j ≠ 0) (k : Goes p.tables e below P (T.setTop (mkF m pc' Ls (.long (i - (i / j) * j) :: st)))) : Goes p.tables e below P (T.setTop (mkF m pc Ls (.long j :: .long i :: st))) := by
  subst hp
  exact go (fun t q => XT.lrem K.at K.hx rfl (hb K.hby hd) rfl hj q) k
theorem k_lcmp (K : Wk p l e R s m args below meth c Z a0 EL n0 y bytes maxL ret b T h locs cells slots) {i j : Int64} (hd : decode bytes pc = .ok (.lcmp, 1)) (hp : pc + 1 = pc') (k : Goes p.tables e below P (T.setTop (mkF m pc' Ls (.int (XT.cmpL i j) :: st)))) : Goes p.tables e below P (T.setTop (mkF m pc Ls (.long j :: .long i :: st))) := by
  subst hp
  exact go (fun t q => XT.lcmp K.at K.hx rfl (hb K.hby hd) rfl q) k
theorem k_ineg (K : Wk p l e R s m args below meth c Z a0 EL n0 y bytes maxL ret b T h locs cells slots) {i : Int32} (hd : decode bytes pc = .ok (.ineg, 1)) (hp : pc + 1 = pc') (k : Goes p.tables e below P (T.setTop (mkF m pc' Ls (.int (-i) :: st)))) : Goes p.tables e below P (T.setTop (mkF m pc Ls (.int i :: st))) := by
  subst hp
  exact go (fun t q => XS.ineg K.at K.hx rfl (hb K.hby hd) rfl q) k
theorem k_lneg (K : Wk p l e R s m args below meth c Z a0 EL n0 y bytes maxL ret b T h locs cells slots) {i : Int64} (hd : decode bytes pc = .ok (.lneg, 1)) (hp : pc + 1 = pc') (k : Goes p.tables e below P (T.setTop (mkF m pc' Ls (.long (-i) :: st)))) : Goes p.tables e below P (T.setTop (mkF m pc Ls (.long i :: st))) := by
  subst hp
  exact go (fun t q => XT.lneg K.at K.hx rfl (hb K.hby hd) rfl q) k
theorem k_i2l (K : Wk p l e R s m args below meth c Z a0 EL n0 y bytes maxL ret b T h locs cells slots) {i : Int32} (hd : decode bytes pc = .ok (.i2l, 1)) (hp : pc + 1 = pc') (k : Goes p.tables e below P (T.setTop (mkF m pc' Ls (.long i.toInt64 :: st)))) : Goes p.tables e below P (T.setTop (mkF m pc Ls (.int i :: st))) := by
  subst hp
  exact go (fun t q => XT.i2l K.at K.hx rfl (hb K.hby hd) rfl q) k
theorem k_l2i (K : Wk p l e R s m args below meth c Z a0 EL n0 y bytes maxL ret b T h locs cells slots) {i : Int64} (hd : decode bytes pc = .ok (.l2i, 1)) (hp : pc + 1 = pc') (k : Goes p.tables e below P (T.setTop (mkF m pc' Ls (.int i.toInt32 :: st)))) : Goes p.tables e below P (T.setTop (mkF m pc Ls (.long i :: st))) := by
  subst hp
  exact go (fun t q => XT.l2i K.at K.hx rfl (hb K.hby hd) rfl q) k
theorem k_i2b (K : Wk p l e R s m args below meth c Z a0 EL n0 y bytes maxL ret b T h locs cells slots) {i : Int32} (hd : decode bytes pc = .ok (.i2b, 1)) (hp : pc + 1 = pc') (k : Goes p.tables e below P (T.setTop (mkF m pc' Ls (.int i.toInt8.toInt32 :: st)))) : Goes p.tables e below P (T.setTop (mkF m pc Ls (.int i :: st))) := by
  subst hp
  exact go (fun t q => XT.i2b K.at K.hx rfl (hb K.hby hd) rfl q) k
theorem k_i2c (K : Wk p l e R s m args below meth c Z a0 EL n0 y bytes maxL ret b T h locs cells slots) {i : Int32} (hd : decode bytes pc = .ok (.i2c, 1)) (hp : pc + 1 = pc') (k : Goes p.tables e below P (T.setTop (mkF m pc' Ls (.int i.toUInt32.toUInt16.toUInt32.toInt32 :: st)))) : Goes p.tables e below P (T.setTop (mkF m pc Ls (.int i :: st))) := by
  subst hp
  exact go (fun t q => XT.i2c K.at K.hx rfl (hb K.hby hd) rfl q) k
theorem k_i2s (K : Wk p l e R s m args below meth c Z a0 EL n0 y bytes maxL ret b T h locs cells slots) {i : Int32} (hd : decode bytes pc = .ok (.i2s, 1)) (hp : pc + 1 = pc') (k : Goes p.tables e below P (T.setTop (mkF m pc' Ls (.int i.toInt16.toInt32 :: st)))) : Goes p.tables e below P (T.setTop (mkF m pc Ls (.int i :: st))) := by
  subst hp
  exact go (fun t q => XT.i2s K.at K.hx rfl (hb K.hby hd) rfl q) k
theorem k_iinc (K : Wk p l e R s m args below meth c Z a0 EL n0 y bytes maxL ret b T h locs cells slots) {i : Int32} {k : Nat} {ct : Int} {L' : Array Slot} (v : Int32) (hd : decode bytes pc = .ok (.iinc k ct, 3)) (hp : pc + 3 = pc') (hv : Int32.ofInt ct = v) (hl : Ls[k]? = some (.val (.int i))) (hl' : storeLocals Ls k (.int (i + v)) = some L') (k : Goes p.tables e below P (T.setTop (mkF m pc' L' st))) : Goes p.tables e below P (T.setTop (mkF m pc Ls st)) := by
  subst hp
  exact go (fun t q => XT.iincV K.at K.hx rfl v (hb K.hby hd) hv hl hl' q) k
theorem k_dup (K : Wk p l e R s m args below meth c Z a0 EL n0 y bytes maxL ret b T h locs cells slots) {v : Value} (hd : decode bytes pc = .ok (.dup, 1)) (hp : pc + 1 = pc') (hc : v.category = 1) (k : Goes p.tables e below P (T.setTop (mkF m pc' Ls (v :: v :: st)))) : Goes p.tables e below P (T.setTop (mkF m pc Ls (v :: st))) := by
  subst hp
  exact go (fun t q => XS.dup K.at K.hx rfl (hb K.hby hd) rfl hc q) k
theorem k_pop (K : Wk p l e R s m args below meth c Z a0 EL n0 y bytes maxL ret b T h locs cells slots) {v : Value} (hd : decode bytes pc = .ok (.pop, 1)) (hp : pc + 1 = pc') (hc : v.category = 1) (k : Goes p.tables e below P (T.setTop (mkF m pc' Ls st))) : Goes p.tables e below P (T.setTop (mkF m pc Ls (v :: st))) := by
  subst hp
  exact go (fun t q => XT.pop K.at K.hx rfl (hb K.hby hd) rfl hc q) k
theorem k_dup_x1 (K : Wk p l e R s m args below meth c Z a0 EL n0 y bytes maxL ret b T h locs cells slots) {v u : Value} (hd : decode bytes pc = .ok (.dup_x1, 1)) (hp : pc + 1 = pc') (hc : v.category = 1) (hc' : u.category = 1) (k : Goes p.tables e below P (T.setTop (mkF m pc' Ls (v :: u :: v :: st)))) : Goes p.tables e below P (T.setTop (mkF m pc Ls (v :: u :: st))) := by
  subst hp
  exact go (fun t q => XT.dupX1 K.at K.hx rfl (hb K.hby hd) rfl hc hc' q) k
theorem k_dup2J (K : Wk p l e R s m args below meth c Z a0 EL n0 y bytes maxL ret b T h locs cells slots) {i : Int64} (hd : decode bytes pc = .ok (.dup2, 1)) (hp : pc + 1 = pc') (k : Goes p.tables e below P (T.setTop (mkF m pc' Ls (.long i :: .long i :: st)))) : Goes p.tables e below P (T.setTop (mkF m pc Ls (.long i :: st))) := by
  subst hp
  refine go (fun t q => ?_) k
  have hd' := (hb K.hby hd)
  have hA := K.at
  have hx := K.hx
  jvm_step hA [hA.top, hx, hd', Value.category]
  exact q
theorem k_dup2II (K : Wk p l e R s m args below meth c Z a0 EL n0 y bytes maxL ret b T h locs cells slots) {i j : Int32} (hd : decode bytes pc = .ok (.dup2, 1)) (hp : pc + 1 = pc') (k : Goes p.tables e below P (T.setTop (mkF m pc' Ls (.int j :: .int i :: .int j :: .int i :: st)))) : Goes p.tables e below P (T.setTop (mkF m pc Ls (.int j :: .int i :: st))) := by
  subst hp
  refine go (fun t q => ?_) k
  have hd' := (hb K.hby hd)
  have hA := K.at
  have hx := K.hx
  jvm_step hA [hA.top, hx, hd', Value.category]
  exact q
theorem k_dup2AI (K : Wk p l e R s m args below meth c Z a0 EL n0 y bytes maxL ret b T h locs cells slots) {a : Addr} {j : Int32} (hd : decode bytes pc = .ok (.dup2, 1)) (hp : pc + 1 = pc') (k : Goes p.tables e below P (T.setTop (mkF m pc' Ls (.int j :: .ref a :: .int j :: .ref a :: st)))) : Goes p.tables e below P (T.setTop (mkF m pc Ls (.int j :: .ref a :: st))) := by
  subst hp
  refine go (fun t q => ?_) k
  have hd' := (hb K.hby hd)
  have hA := K.at
  have hx := K.hx
  jvm_step hA [hA.top, hx, hd', Value.category]
  exact q
theorem k_pop2J (K : Wk p l e R s m args below meth c Z a0 EL n0 y bytes maxL ret b T h locs cells slots) {i : Int64} (hd : decode bytes pc = .ok (.pop2, 1)) (hp : pc + 1 = pc') (k : Goes p.tables e below P (T.setTop (mkF m pc' Ls st))) : Goes p.tables e below P (T.setTop (mkF m pc Ls (.long i :: st))) := by
  subst hp
  refine go (fun t q => ?_) k
  have hd' := (hb K.hby hd)
  have hA := K.at
  have hx := K.hx
  jvm_step hA [hA.top, hx, hd', Value.category]
  exact q
theorem k_dup_x2AI (K : Wk p l e R s m args below meth c Z a0 EL n0 y bytes maxL ret b T h locs cells slots) {a : Addr} {i j : Int32} (hd : decode bytes pc = .ok (.dup_x2, 1)) (hp : pc + 1 = pc') (k : Goes p.tables e below P (T.setTop (mkF m pc' Ls (.int i :: .int j :: .ref a :: .int i :: st)))) : Goes p.tables e below P (T.setTop (mkF m pc Ls (.int i :: .int j :: .ref a :: st))) := by
  subst hp
  refine go (fun t q => ?_) k
  have hd' := (hb K.hby hd)
  have hA := K.at
  have hx := K.hx
  jvm_step hA [hA.top, hx, hd', Value.category]
  exact q
theorem k_dup2_x1JA (K : Wk p l e R s m args below meth c Z a0 EL n0 y bytes maxL ret b T h locs cells slots) {i : Int64} {a : Addr} (hd : decode bytes pc = .ok (.dup2_x1, 1)) (hp : pc + 1 = pc') (k : Goes p.tables e below P (T.setTop (mkF m pc' Ls (.long i :: .ref a :: .long i :: st)))) : Goes p.tables e below P (T.setTop (mkF m pc Ls (.long i :: .ref a :: st))) := by
  subst hp
  refine go (fun t q => ?_) k
  have hd' := (hb K.hby hd)
  have hA := K.at
  have hx := K.hx
  jvm_step hA [hA.top, hx, hd', Value.category]
  exact q
theorem k_dup2_x2JAI (K : Wk p l e R s m args below meth c Z a0 EL n0 y bytes maxL ret b T h locs cells slots) {i : Int64} {a : Addr} {j : Int32} (hd : decode bytes pc = .ok (.dup2_x2, 1)) (hp : pc + 1 = pc') (k : Goes p.tables e below P (T.setTop (mkF m pc' Ls (.long i :: .int j :: .ref a :: .long i :: st)))) : Goes p.tables e below P (T.setTop (mkF m pc Ls (.long i :: .int j :: .ref a :: st))) := by
  subst hp
  refine go (fun t q => ?_) k
  have hd' := (hb K.hby hd)
  have hA := K.at
  have hx := K.hx
  jvm_step hA [hA.top, hx, hd', Value.category]
  exact q
theorem k_goto (K : Wk p l e R s m args below meth c Z a0 EL n0 y bytes maxL ret b T h locs cells slots) {o : Int} (hd : decode bytes pc = .ok (.goto o, 3)) (ho : 0 ≤ (pc : Int) + o) (hp : ((pc : Int) + o).toNat = pc') (k : Goes p.tables e below P (T.setTop (mkF m pc' Ls st))) : Goes p.tables e below P (T.setTop (mkF m pc Ls st)) := go (fun t q => XS.goto K.at K.hx rfl rfl (hb K.hby hd) ho hp q) k
theorem k_icmp_eq (K : Wk p l e R s m args below meth c Z a0 EL n0 y bytes maxL ret b T h locs cells slots) {i j : Int32} {o : Int} {pc2 : Nat} (hd : decode bytes pc = .ok (.if_icmp .eq o, 3)) (ho : 0 ≤ (pc : Int) + o) (hp : ((pc : Int) + o).toNat = pc') (hp2 : pc + 3 = pc2) (kT : i = j → Goes p.tables e below P (T.setTop (mkF m pc' Ls st))) (kF : ¬ i = j → Goes p.tables e below P (T.setTop (mkF m pc2 Ls st))) : Goes p.tables e below P (T.setTop (mkF m pc Ls (.int j :: .int i :: st))) := by
  subst hp2
  by_cases q : i = j
  · exact go (fun t r => XS.icmpYes K.at K.hx rfl rfl (hb K.hby hd) rfl (XT.ii_eq_t q) ho hp r) (kT q)
  · exact go (fun t r => XS.icmpNo K.at K.hx rfl (hb K.hby hd) rfl (XT.ii_eq_f q) r) (kF q)
theorem k_if_eq (K : Wk p l e R s m args below meth c Z a0 EL n0 y bytes maxL ret b T h locs cells slots) {i : Int32} {o : Int} {pc2 : Nat} (hd : decode bytes pc = .ok (.ifCond .eq o, 3)) (ho : 0 ≤ (pc : Int) + o) (hp : ((pc : Int) + o).toNat = pc') (hp2 : pc + 3 = pc2) (kT : i = 0 → Goes p.tables e below P (T.setTop (mkF m pc' Ls st))) (kF : ¬ i = 0 → Goes p.tables e below P (T.setTop (mkF m pc2 Ls st))) : Goes p.tables e below P (T.setTop (mkF m pc Ls (.int i :: st))) := by
  subst hp2
  by_cases q : i = 0
  · exact go (fun t r => XS.ifYes K.at K.hx rfl rfl (hb K.hby hd) rfl (XT.i0_eq_t q) ho hp r) (kT q)
  · exact go (fun t r => XS.ifNo K.at K.hx rfl (hb K.hby hd) rfl (XT.i0_eq_f q) r) (kF q)
theorem k_lif_eq (K : Wk p l e R s m args below meth c Z a0 EL n0 y bytes maxL ret b T h locs cells slots) {i j : Int64} {o : Int} {pc2 : Nat} (hd : decode bytes pc = .ok (.ifCond .eq o, 3)) (ho : 0 ≤ (pc : Int) + o) (hp : ((pc : Int) + o).toNat = pc') (hp2 : pc + 3 = pc2) (kT : i = j → Goes p.tables e below P (T.setTop (mkF m pc' Ls st))) (kF : ¬ i = j → Goes p.tables e below P (T.setTop (mkF m pc2 Ls st))) : Goes p.tables e below P (T.setTop (mkF m pc Ls (.int (XT.cmpL i j) :: st))) := by
  subst hp2
  by_cases q : i = j
  · exact go (fun t r => XS.ifYes K.at K.hx rfl rfl (hb K.hby hd) rfl (XT.ll_eq_t q) ho hp r) (kT q)
  · exact go (fun t r => XS.ifNo K.at K.hx rfl (hb K.hby hd) rfl (XT.ll_eq_f q) r) (kF q)
theorem k_icmp_ne (K : Wk p l e R s m args below meth c Z a0 EL n0 y bytes maxL ret b T h locs cells slots) {i j : Int32} {o : Int} {pc2 : Nat} (hd : decode bytes pc = .ok (.if_icmp .ne o, 3)) (ho : 0 ≤ (pc : Int) + o) (hp : ((pc : Int) + o).toNat = pc') (hp2 : pc + 3 = pc2) (kT : ¬ i = j → Goes p.tables e below P (T.setTop (mkF m pc' Ls st))) (kF : i = j → Goes p.tables e below P (T.setTop (mkF m pc2 Ls st))) : Goes p.tables e below P (T.setTop (mkF m pc Ls (.int j :: .int i :: st))) := by
  subst hp2
  by_cases q : ¬ i = j
  · exact go (fun t r => XS.icmpYes K.at K.hx rfl rfl (hb K.hby hd) rfl (XT.ii_ne_t q) ho hp r) (kT q)
  · exact go (fun t r => XS.icmpNo K.at K.hx rfl (hb K.hby hd) rfl (XT.ii_ne_f (Classical.not_not.mp q)) r) (kF (Classical.not_not.mp q))
theorem k_if_ne (K : Wk p l e R s m args below meth c Z a0 EL n0 y bytes maxL ret b T h locs cells slots) {i : Int32} {o : Int} {pc2 : Nat} (hd : decode bytes pc = .ok (.ifCond .ne o, 3)) (ho : 0 ≤ (pc : Int) + o) (hp : ((pc : Int) + o).toNat = pc') (hp2 : pc + 3 = pc2) (kT : ¬ i = 0 → Goes p.tables e below P (T.setTop (mkF m pc' Ls st))) (kF : i = 0 → Goes p.tables e below P (T.setTop (mkF m pc2 Ls st))) : Goes p.tables e below P (T.setTop (mkF m pc Ls (.int i :: st))) := by
  subst hp2
  by_cases q : ¬ i = 0
  · exact go (fun t r => XS.ifYes K.at K.hx rfl rfl (hb K.hby hd) rfl (XT.i0_ne_t q) ho hp r) (kT q)
  · exact go (fun t r => XS.ifNo K.at K.hx rfl (hb K.hby hd) rfl (XT.i0_ne_f (Classical.not_not.mp q)) r) (kF (Classical.not_not.mp q))
theorem k_lif_ne (K : Wk p l e R s m args below meth c Z a0 EL n0 y bytes maxL ret b T h locs cells slots) {i j : Int64} {o : Int} {pc2 : Nat} (hd : decode bytes pc = .ok (.ifCond .ne o, 3)) (ho : 0 ≤ (pc : Int) + o) (hp : ((pc : Int) + o).toNat = pc') (hp2 : pc + 3 = pc2) (kT : ¬ i = j → Goes p.tables e below P (T.setTop (mkF m pc' Ls st))) (kF : i = j → Goes p.tables e below P (T.setTop (mkF m pc2 Ls st))) : Goes p.tables e below P (T.setTop (mkF m pc Ls (.int (XT.cmpL i j) :: st))) := by
  subst hp2
  by_cases q : ¬ i = j
  · exact go (fun t r => XS.ifYes K.at K.hx rfl rfl (hb K.hby hd) rfl (XT.ll_ne_t q) ho hp r) (kT q)
  · exact go (fun t r => XS.ifNo K.at K.hx rfl (hb K.hby hd) rfl (XT.ll_ne_f (Classical.not_not.mp q)) r) (kF (Classical.not_not.mp q))
theorem k_icmp_lt (K : Wk p l e R s m args below meth c Z a0 EL n0 y bytes maxL ret b T h locs cells slots) {i j : Int32} {o : Int} {pc2 : Nat} (hd : decode bytes pc = .ok (.if_icmp .lt o, 3)) (ho : 0 ≤ (pc : Int) + o) (hp : ((pc : Int) + o).toNat = pc') (hp2 : pc + 3 = pc2) (kT : i < j → Goes p.tables e below P (T.setTop (mkF m pc' Ls st))) (kF : ¬ i < j → Goes p.tables e below P (T.setTop (mkF m pc2 Ls st))) : Goes p.tables e below P (T.setTop (mkF m pc Ls (.int j :: .int i :: st))) := by
  subst hp2
  by_cases q : i < j
  · exact go (fun t r => XS.icmpYes K.at K.hx rfl rfl (hb K.hby hd) rfl (XT.ii_lt_t q) ho hp r) (kT q)
  · exact go (fun t r => XS.icmpNo K.at K.hx rfl (hb K.hby hd) rfl (XT.ii_lt_f q) r) (kF q)
theorem k_if_lt (K : Wk p l e R s m args below meth c Z a0 EL n0 y bytes maxL ret b T h locs cells slots) {i : Int32} {o : Int} {pc2 : Nat} (hd : decode bytes pc = .ok (.ifCond .lt o, 3)) (ho : 0 ≤ (pc : Int) + o) (hp : ((pc : Int) + o).toNat = pc') (hp2 : pc + 3 = pc2) (kT : i < 0 → Goes p.tables e below P (T.setTop (mkF m pc' Ls st))) (kF : ¬ i < 0 → Goes p.tables e below P (T.setTop (mkF m pc2 Ls st))) : Goes p.tables e below P (T.setTop (mkF m pc Ls (.int i :: st))) := by
  subst hp2
  by_cases q : i < 0
  · exact go (fun t r => XS.ifYes K.at K.hx rfl rfl (hb K.hby hd) rfl (XT.i0_lt_t q) ho hp r) (kT q)
  · exact go (fun t r => XS.ifNo K.at K.hx rfl (hb K.hby hd) rfl (XT.i0_lt_f q) r) (kF q)
theorem k_lif_lt (K : Wk p l e R s m args below meth c Z a0 EL n0 y bytes maxL ret b T h locs cells slots) {i j : Int64} {o : Int} {pc2 : Nat} (hd : decode bytes pc = .ok (.ifCond .lt o, 3)) (ho : 0 ≤ (pc : Int) + o) (hp : ((pc : Int) + o).toNat = pc') (hp2 : pc + 3 = pc2) (kT : i < j → Goes p.tables e below P (T.setTop (mkF m pc' Ls st))) (kF : ¬ i < j → Goes p.tables e below P (T.setTop (mkF m pc2 Ls st))) : Goes p.tables e below P (T.setTop (mkF m pc Ls (.int (XT.cmpL i j) :: st))) := by
  subst hp2
  by_cases q : i < j
  · exact go (fun t r => XS.ifYes K.at K.hx rfl rfl (hb K.hby hd) rfl (XT.ll_lt_t q) ho hp r) (kT q)
  · exact go (fun t r => XS.ifNo K.at K.hx rfl (hb K.hby hd) rfl (XT.ll_lt_f q) r) (kF q)
theorem k_icmp_ge (K : Wk p l e R s m args below meth c Z a0 EL n0 y bytes maxL ret b T h locs cells slots) {i j : Int32} {o : Int} {pc2 : Nat} (hd : decode bytes pc = .ok (.if_icmp .ge o, 3)) (ho : 0 ≤ (pc : Int) + o) (hp : ((pc : Int) + o).toNat = pc') (hp2 : pc + 3 = pc2) (kT : ¬ i < j → Goes p.tables e below P (T.setTop (mkF m pc' Ls st))) (kF : i < j → Goes p.tables e below P (T.setTop (mkF m pc2 Ls st))) : Goes p.tables e below P (T.setTop (mkF m pc Ls (.int j :: .int i :: st))) := by
  subst hp2
  by_cases q : ¬ i < j
  · exact go (fun t r => XS.icmpYes K.at K.hx rfl rfl (hb K.hby hd) rfl (XT.ii_ge_t q) ho hp r) (kT q)
  · exact go (fun t r => XS.icmpNo K.at K.hx rfl (hb K.hby hd) rfl (XT.ii_ge_f (Classical.not_not.mp q)) r) (kF (Classical.not_not.mp q))
theorem k_if_ge (K : Wk p l e R s m args below meth c Z a0 EL n0 y bytes maxL ret b T h locs cells slots) {i : Int32} {o : Int} {pc2 : Nat} (hd : decode bytes pc = .ok (.ifCond .ge o, 3)) (ho : 0 ≤ (pc : Int) + o) (hp : ((pc : Int) + o).toNat = pc') (hp2 : pc + 3 = pc2) (kT : ¬ i < 0 → Goes p.tables e below P (T.setTop (mkF m pc' Ls st))) (kF : i < 0 → Goes p.tables e below P (T.setTop (mkF m pc2 Ls st))) : Goes p.tables e below P (T.setTop (mkF m pc Ls (.int i :: st))) := by
  subst hp2
  by_cases q : ¬ i < 0
  · exact go (fun t r => XS.ifYes K.at K.hx rfl rfl (hb K.hby hd) rfl (XT.i0_ge_t q) ho hp r) (kT q)
  · exact go (fun t r => XS.ifNo K.at K.hx rfl (hb K.hby hd) rfl (XT.i0_ge_f (Classical.not_not.mp q)) r) (kF (Classical.not_not.mp q))
theorem k_lif_ge (K : Wk p l e R s m args below meth c Z a0 EL n0 y bytes maxL ret b T h locs cells slots) {i j : Int64} {o : Int} {pc2 : Nat} (hd : decode bytes pc = .ok (.ifCond .ge o, 3)) (ho : 0 ≤ (pc : Int) + o) (hp : ((pc : Int) + o).toNat = pc') (hp2 : pc + 3 = pc2) (kT : ¬ i < j → Goes p.tables e below P (T.setTop (mkF m pc' Ls st))) (kF : i < j → Goes p.tables e below P (T.setTop (mkF m pc2 Ls st))) : Goes p.tables e below P (T.setTop (mkF m pc Ls (.int (XT.cmpL i j) :: st))) := by
  subst hp2
  by_cases q : ¬ i < j
  · exact go (fun t r => XS.ifYes K.at K.hx rfl rfl (hb K.hby hd) rfl (XT.ll_ge_t q) ho hp r) (kT q)
  · exact go (fun t r => XS.ifNo K.at K.hx rfl (hb K.hby hd) rfl (XT.ll_ge_f (Classical.not_not.mp q)) r) (kF (Classical.not_not.mp q))
theorem k_icmp_gt (K : Wk p l e R s m args below meth c Z a0 EL n0 y bytes maxL ret b T h locs cells slots) {i j : Int32} {o : Int} {pc2 : Nat} (hd : decode bytes pc = .ok (.if_icmp .gt o, 3)) (ho : 0 ≤ (pc : Int) + o) (hp : ((pc : Int) + o).toNat = pc') (hp2 : pc + 3 = pc2) (kT : j < i → Goes p.tables e below P (T.setTop (mkF m pc' Ls st))) (kF : ¬ j < i → Goes p.tables e below P (T.setTop (mkF m pc2 Ls st))) : Goes p.tables e below P (T.setTop (mkF m pc Ls (.int j :: .int i :: st))) := by
  subst hp2
  by_cases q : j < i
  · exact go (fun t r => XS.icmpYes K.at K.hx rfl rfl (hb K.hby hd) rfl (XT.ii_gt_t q) ho hp r) (kT q)
  · exact go (fun t r => XS.icmpNo K.at K.hx rfl (hb K.hby hd) rfl (XT.ii_gt_f q) r) (kF q)
theorem k_if_gt (K : Wk p l e R s m args below meth c Z a0 EL n0 y bytes maxL ret b T h locs cells slots) {i : Int32} {o : Int} {pc2 : Nat} (hd : decode bytes pc = .ok (.ifCond .gt o, 3)) (ho : 0 ≤ (pc : Int) + o) (hp : ((pc : Int) + o).toNat = pc') (hp2 : pc + 3 = pc2) (kT : 0 < i → Goes p.tables e below P (T.setTop (mkF m pc' Ls st))) (kF : ¬ 0 < i → Goes p.tables e below P (T.setTop (mkF m pc2 Ls st))) : Goes p.tables e below P (T.setTop (mkF m pc Ls (.int i :: st))) := by
  subst hp2
  by_cases q : 0 < i
  · exact go (fun t r => XS.ifYes K.at K.hx rfl rfl (hb K.hby hd) rfl (XT.i0_gt_t q) ho hp r) (kT q)
  · exact go (fun t r => XS.ifNo K.at K.hx rfl (hb K.hby hd) rfl (XT.i0_gt_f q) r) (kF q)
theorem k_lif_gt (K : Wk p l e R s m args below meth c Z a0 EL n0 y bytes maxL ret b T h locs cells slots) {i j : Int64} {o : Int} {pc2 : Nat} (hd : decode bytes pc = .ok (.ifCond .gt o, 3)) (ho : 0 ≤ (pc : Int) + o) (hp : ((pc : Int) + o).toNat = pc') (hp2 : pc + 3 = pc2) (kT : j < i → Goes p.tables e below P (T.setTop (mkF m pc' Ls st))) (kF : ¬ j < i → Goes p.tables e below P (T.setTop (mkF m pc2 Ls st))) : Goes p.tables e below P (T.setTop (mkF m pc Ls (.int (XT.cmpL i j) :: st))) := by
  subst hp2
  by_cases q : j < i
  · exact go (fun t r => XS.ifYes K.at K.hx rfl rfl (hb K.hby hd) rfl (XT.ll_gt_t q) ho hp r) (kT q)
  · exact go (fun t r => XS.ifNo K.at K.hx rfl (hb K.hby hd) rfl (XT.ll_gt_f q) r) (kF q)
theorem k_icmp_le (K : Wk p l e R s m args below meth c Z a0 EL n0 y bytes maxL ret b T h locs cells slots) {i j : Int32} {o : Int} {pc2 : Nat} (hd : decode bytes pc = .ok (.if_icmp .le o, 3)) (ho : 0 ≤ (pc : Int) + o) (hp : ((pc : Int) + o).toNat = pc') (hp2 : pc + 3 = pc2) (kT : ¬ j < i → Goes p.tables e below P (T.setTop (mkF m pc' Ls st))) (kF : j < i → Goes p.tables e below P (T.setTop (mkF m pc2 Ls st))) : Goes p.tables e below P (T.setTop (mkF m pc Ls (.int j :: .int i :: st))) := by
  subst hp2
  by_cases q : ¬ j < i
  · exact go (fun t r => XS.icmpYes K.at K.hx rfl rfl (hb K.hby hd) rfl (XT.ii_le_t q) ho hp r) (kT q)
  · exact go (fun t r => XS.icmpNo K.at K.hx rfl (hb K.hby hd) rfl (XT.ii_le_f (Classical.not_not.mp q)) r) (kF (Classical.not_not.mp q))
theorem k_if_le (K : Wk p l e R s m args below meth c Z a0 EL n0 y bytes maxL ret b T h locs cells slots) {i : Int32} {o : Int} {pc2 : Nat} (hd : decode bytes pc = .ok (.ifCond .le o, 3)) (ho : 0 ≤ (pc : Int) + o) (hp : ((pc : Int) + o).toNat = pc') (hp2 : pc + 3 = pc2) (kT : ¬ 0 < i → Goes p.tables e below P (T.setTop (mkF m pc' Ls st))) (kF : 0 < i → Goes p.tables e below P (T.setTop (mkF m pc2 Ls st))) : Goes p.tables e below P (T.setTop (mkF m pc Ls (.int i :: st))) := by
  subst hp2
  by_cases q : ¬ 0 < i
  · exact go (fun t r => XS.ifYes K.at K.hx rfl rfl (hb K.hby hd) rfl (XT.i0_le_t q) ho hp r) (kT q)
  · exact go (fun t r => XS.ifNo K.at K.hx rfl (hb K.hby hd) rfl (XT.i0_le_f (Classical.not_not.mp q)) r) (kF (Classical.not_not.mp q))
theorem k_lif_le (K : Wk p l e R s m args below meth c Z a0 EL n0 y bytes maxL ret b T h locs cells slots) {i j : Int64} {o : Int} {pc2 : Nat} (hd : decode bytes pc = .ok (.ifCond .le o, 3)) (ho : 0 ≤ (pc : Int) + o) (hp : ((pc : Int) + o).toNat = pc') (hp2 : pc + 3 = pc2) (kT : ¬ j < i → Goes p.tables e below P (T.setTop (mkF m pc' Ls st))) (kF : j < i → Goes p.tables e below P (T.setTop (mkF m pc2 Ls st))) : Goes p.tables e below P (T.setTop (mkF m pc Ls (.int (XT.cmpL i j) :: st))) := by
  subst hp2
  by_cases q : ¬ j < i
  · exact go (fun t r => XS.ifYes K.at K.hx rfl rfl (hb K.hby hd) rfl (XT.ll_le_t q) ho hp r) (kT q)
  · exact go (fun t r => XS.ifNo K.at K.hx rfl (hb K.hby hd) rfl (XT.ll_le_f (Classical.not_not.mp q)) r) (kF (Classical.not_not.mp q))
theorem k_acmp_eq (K : Wk p l e R s m args below meth c Z a0 EL n0 y bytes maxL ret b T h locs cells slots) {u v : Value} (hu : u.isRef = true) (hv : v.isRef = true) {o : Int} {pc2 : Nat} (hd : decode bytes pc = .ok (.if_acmp .eq o, 3)) (ho : 0 ≤ (pc : Int) + o) (hp : ((pc : Int) + o).toNat = pc') (hp2 : pc + 3 = pc2) (kE : u = v → Goes p.tables e below P (T.setTop (mkF m pc' Ls st))) (kN : ¬ u = v → Goes p.tables e below P (T.setTop (mkF m pc2 Ls st))) : Goes p.tables e below P (T.setTop (mkF m pc Ls (v :: u :: st))) := by
  subst hp2 hp
  by_cases q : u = v
  · exact go (fun t r => Jvm.RoadKit.acmp (g := mkF m pc Ls (v :: u :: st)) K.X K.hx rfl hu hv (pc0 := pc) (same := true) rfl (hb K.hby hd) rfl (decide_eq_true q) ho rfl r) (kE q)
  · exact go (fun t r => Jvm.RoadKit.acmp (g := mkF m pc Ls (v :: u :: st)) K.X K.hx rfl hu hv (pc0 := pc) (same := false) rfl (hb K.hby hd) rfl (decide_eq_false q) ho rfl r) (kN q)
theorem k_acmp_ne (K : Wk p l e R s m args below meth c Z a0 EL n0 y bytes maxL ret b T h locs cells slots) {u v : Value} (hu : u.isRef = true) (hv : v.isRef = true) {o : Int} {pc2 : Nat} (hd : decode bytes pc = .ok (.if_acmp .ne o, 3)) (ho : 0 ≤ (pc : Int) + o) (hp : ((pc : Int) + o).toNat = pc') (hp2 : pc + 3 = pc2) (kE : u = v → Goes p.tables e below P (T.setTop (mkF m pc2 Ls st))) (kN : ¬ u = v → Goes p.tables e below P (T.setTop (mkF m pc' Ls st))) : Goes p.tables e below P (T.setTop (mkF m pc Ls (v :: u :: st))) := by
  subst hp2 hp
  by_cases q : u = v
  · exact go (fun t r => Jvm.RoadKit.acmp (g := mkF m pc Ls (v :: u :: st)) K.X K.hx rfl hu hv (pc0 := pc) (same := true) rfl (hb K.hby hd) rfl (decide_eq_true q) ho rfl r) (kE q)
  · exact go (fun t r => Jvm.RoadKit.acmp (g := mkF m pc Ls (v :: u :: st)) K.X K.hx rfl hu hv (pc0 := pc) (same := false) rfl (hb K.hby hd) rfl (decide_eq_false q) ho rfl r) (kN q)
theorem k_ifnull (K : Wk p l e R s m args below meth c Z a0 EL n0 y bytes maxL ret b T h locs cells slots) {v : Value} (hv : v.isRef = true) {o : Int} {pc2 : Nat} (hd : decode bytes pc = .ok (.ifnull o, 3)) (ho : 0 ≤ (pc : Int) + o) (hp : ((pc : Int) + o).toNat = pc') (hp2 : pc + 3 = pc2) (kT : v = .null → Goes p.tables e below P (T.setTop (mkF m pc' Ls st))) (kF : ¬ v = .null → Goes p.tables e below P (T.setTop (mkF m pc2 Ls st))) : Goes p.tables e below P (T.setTop (mkF m pc Ls (v :: st))) := by
  subst hp2
  by_cases qn : v = .null
  · exact go (fun t r => XT.nullYes K.at K.hx rfl rfl (hb K.hby hd) rfl qn ho hp r) (kT qn)
  · exact go (fun t r => XT.nullNo K.at K.hx rfl (hb K.hby hd) rfl hv qn r) (kF qn)
theorem k_ifnonnull (K : Wk p l e R s m args below meth c Z a0 EL n0 y bytes maxL ret b T h locs cells slots) {v : Value} (hv : v.isRef = true) {o : Int} {pc2 : Nat} (hd : decode bytes pc = .ok (.ifnonnull o, 3)) (ho : 0 ≤ (pc : Int) + o) (hp : ((pc : Int) + o).toNat = pc') (hp2 : pc + 3 = pc2) (kT : ¬ v = .null → Goes p.tables e below P (T.setTop (mkF m pc' Ls st))) (kF : v = .null → Goes p.tables e below P (T.setTop (mkF m pc2 Ls st))) : Goes p.tables e below P (T.setTop (mkF m pc Ls (v :: st))) := by
  subst hp2
  by_cases qn : v = .null
  · exact go (fun t r => XT.nonnullNo K.at K.hx rfl (hb K.hby hd) rfl qn r) (kF qn)
  · exact go (fun t r => XT.nonnullYes K.at K.hx rfl rfl (hb K.hby hd) rfl hv qn ho hp r) (kT qn)
theorem k_getF (K : Wk p l e R s m args below meth c Z a0 EL n0 y bytes maxL ret b T h locs cells slots) {R0 O n d : String} {i : Nat} {a : Addr} {v : Value} (wd : (Cond.fieldLink y.cls i R0 n d).before a0 Z = true) (via : Via Z R0 O n d) (F : Fld Z h a O n d v) (hd : decode bytes pc = .ok (.getfield i, 3)) (hp : pc + 3 = pc') (k : ∀ T', Wk p l e R s m args below meth c Z a0 EL n0 y bytes maxL ret b T' h locs cells slots → Goes p.tables e below P (T'.setTop (mkF m pc' Ls (v :: st)))) : Goes p.tables e below P (T.setTop (mkF m pc Ls (.ref a :: st))) := by
  subst hp
  obtain ⟨T', X', e', q⟩ := Jvm.RoadKit.getF K.X K.hx K.hZ (host := "") K.hown (Or.inl wd) via K.eT F (g := mkF m pc Ls (.ref a :: st)) rfl rfl (hb K.hby hd)
  exact go q (k T' (K.move X' e' K.fr K.old K.bs))
theorem k_getFN (K : Wk p l e R s m args below meth c Z a0 EL n0 y bytes maxL ret b T h locs cells slots) {R0 O n d host : String} {i : Nat} {a : Addr} {v : Value} (wd : (Cond.fieldLinkNest y.cls i R0 n d host).before a0 Z = true) (via : Via Z R0 O n d) (F : Fld Z h a O n d v) (hd : decode bytes pc = .ok (.getfield i, 3)) (hp : pc + 3 = pc') (k : ∀ T', Wk p l e R s m args below meth c Z a0 EL n0 y bytes maxL ret b T' h locs cells slots → Goes p.tables e below P (T'.setTop (mkF m pc' Ls (v :: st)))) : Goes p.tables e below P (T.setTop (mkF m pc Ls (.ref a :: st))) := by
  subst hp
  obtain ⟨T', X', e', q⟩ := Jvm.RoadKit.getF K.X K.hx K.hZ K.hown (Or.inr wd) via K.eT F (g := mkF m pc Ls (.ref a :: st)) rfl rfl (hb K.hby hd)
  exact go q (k T' (K.move X' e' K.fr K.old K.bs))
theorem k_getS (K : Wk p l e R s m args below meth c Z a0 EL n0 y bytes maxL ret b T h locs cells slots) {R0 O n d : String} {i : Nat} {v : Value} (wd : (Cond.fieldLink y.cls i R0 n d).before a0 Z = true) (via : Via Z R0 O n d) (F : Sta Z Z.heap O n d v) (hd : decode bytes pc = .ok (.getstatic i, 3)) (hp : pc + 3 = pc') (k : ∀ T', Wk p l e R s m args below meth c Z a0 EL n0 y bytes maxL ret b T' h locs cells slots → Goes p.tables e below P (T'.setTop (mkF m pc' Ls (v :: st)))) : Goes p.tables e below P (T.setTop (mkF m pc Ls st)) := by
  subst hp
  obtain ⟨T', X', e', q⟩ := getS2 K.X K.hx K.hZ K.hown (host := "") (Or.inl wd) via K.eT (F.ext K.old.2) (g := mkF m pc Ls st) rfl (hb K.hby hd)
  exact go q (k T' (K.move X' e' K.fr K.old K.bs))
theorem k_getSN (K : Wk p l e R s m args below meth c Z a0 EL n0 y bytes maxL ret b T h locs cells slots) {R0 O n d host : String} {i : Nat} {v : Value} (wd : (Cond.fieldLinkNest y.cls i R0 n d host).before a0 Z = true) (via : Via Z R0 O n d) (F : Sta Z Z.heap O n d v) (hd : decode bytes pc = .ok (.getstatic i, 3)) (hp : pc + 3 = pc') (k : ∀ T', Wk p l e R s m args below meth c Z a0 EL n0 y bytes maxL ret b T' h locs cells slots → Goes p.tables e below P (T'.setTop (mkF m pc' Ls (v :: st)))) : Goes p.tables e below P (T.setTop (mkF m pc Ls st)) := by
  subst hp
  obtain ⟨T', X', e', q⟩ := getS2 K.X K.hx K.hZ K.hown (Or.inr wd) via K.eT (F.ext K.old.2) (g := mkF m pc Ls st) rfl (hb K.hby hd)
  exact go q (k T' (K.move X' e' K.fr K.old K.bs))
theorem k_castY (K : Wk p l e R s m args below meth c Z a0 EL n0 y bytes maxL ret b T h locs cells slots) {C : String} {i : Nat} {a : Addr} (wd : (Cond.classLink y.cls i C).before a0 Z = true) (F : Ins Z h a C true) (hd : decode bytes pc = .ok (.checkcast i, 3)) (hp : pc + 3 = pc') (k : ∀ T', Wk p l e R s m args below meth c Z a0 EL n0 y bytes maxL ret b T' h locs cells slots → Goes p.tables e below P (T'.setTop (mkF m pc' Ls (.ref a :: st)))) : Goes p.tables e below P (T.setTop (mkF m pc Ls (.ref a :: st))) := by
  subst hp
  obtain ⟨T', X', e', q⟩ := castY K.X K.hx K.hZ K.hown wd K.eT F (g := mkF m pc Ls (.ref a :: st)) rfl rfl (hb K.hby hd)
  exact go q (k T' (K.move X' e' K.fr K.old K.bs))
theorem k_instY (K : Wk p l e R s m args below meth c Z a0 EL n0 y bytes maxL ret b T h locs cells slots) {C : String} {i : Nat} {a : Addr} (wd : (Cond.classLink y.cls i C).before a0 Z = true) (F : Ins Z h a C true) (hd : decode bytes pc = .ok (.instanceof i, 3)) (hp : pc + 3 = pc') (k : ∀ T', Wk p l e R s m args below meth c Z a0 EL n0 y bytes maxL ret b T' h locs cells slots → Goes p.tables e below P (T'.setTop (mkF m pc' Ls (.int 1 :: st)))) : Goes p.tables e below P (T.setTop (mkF m pc Ls (.ref a :: st))) := by
  subst hp
  obtain ⟨T', X', e', q⟩ := instY K.X K.hx K.hZ K.hown wd K.eT F (g := mkF m pc Ls (.ref a :: st)) rfl rfl (hb K.hby hd)
  exact go q (k T' (K.move X' e' K.fr K.old K.bs))
theorem instN_at (X : Stand p l e R s m args below meth c T locs cells slots) (hx : p.tables.exec = Jvm.exec) (hZ : Z.Warmed39 s.vm) {own C D : String} {index : Nat} (hown : s.vm.findClass own = some m.cls) (w : (Cond.classLink own index C).before a0 Z = true) (eT : T.heap = h) {a : Addr} (F : Ins Z h a C false) (E : Exa Z h a D)
    {g : JFrame} (hg : g.method = m) {rest : List Value} (hs : g.stack = .ref a :: rest) (hd : decode c.code g.pc = .ok (.instanceof index, 3)) : ∃ T', Stand p l e R s m args below meth c T' locs cells slots ∧ T'.heap = h ∧ ∀ target, Steps p.tables e below (T'.setTop { g with pc := g.pc + 3, stack := .int 0 :: rest }) target → Steps p.tables e below (T.setTop g) target := by
  obtain ⟨cell, cT, h1, h2, h3⟩ := F
  obtain ⟨cell', k, e1, -, e3, e4, -⟩ := E
  cases h1.symm.trans e1
  obtain ⟨k', q, -⟩ := hZ.alike.2.2 _ _ e3
  obtain ⟨vm', X', st⟩ := Jvm.Sym.instanceofNoAt X hx hown (mvT hZ w) (by rw [eT]; exact h1) e4 q (by rw [hZ.alike.findClass]; exact h2) (by rw [hZ.alike.assignable]; simpa [e4] using h3) hg hs hd
  exact ⟨_, X', eT, st⟩
theorem k_instN (K : Wk p l e R s m args below meth c Z a0 EL n0 y bytes maxL ret b T h locs cells slots) {C D : String} {i : Nat} {a : Addr} (wd : (Cond.classLink y.cls i C).before a0 Z = true) (F : Ins Z h a C false) (E : Exa Z h a D) (hd : decode bytes pc = .ok (.instanceof i, 3)) (hp : pc + 3 = pc') (k : ∀ T', Wk p l e R s m args below meth c Z a0 EL n0 y bytes maxL ret b T' h locs cells slots → Goes p.tables e below P (T'.setTop (mkF m pc' Ls (.int 0 :: st)))) : Goes p.tables e below P (T.setTop (mkF m pc Ls (.ref a :: st))) := by
  subst hp
  obtain ⟨T', X', e', q⟩ := instN_at K.X K.hx K.hZ K.hown wd K.eT F E (g := mkF m pc Ls (.ref a :: st)) rfl rfl (hb K.hby hd)
  exact go q (k T' (K.move X' e' K.fr K.old K.bs))
theorem k_instNull (K : Wk p l e R s m args below meth c Z a0 EL n0 y bytes maxL ret b T h locs cells slots) {i : Nat} (hd : decode bytes pc = .ok (.instanceof i, 3)) (hp : pc + 3 = pc') (k : Goes p.tables e below P (T.setTop (mkF m pc' Ls (.int 0 :: st)))) : Goes p.tables e below P (T.setTop (mkF m pc Ls (.null :: st))) := by
  subst hp
  exact go (fun t q => K.X.instanceofNull K.hx (g := mkF m pc Ls (.null :: st)) rfl rfl (hb K.hby hd) _ q) k
theorem k_castNull (K : Wk p l e R s m args below meth c Z a0 EL n0 y bytes maxL ret b T h locs cells slots) {i : Nat} (hd : decode bytes pc = .ok (.checkcast i, 3)) (hp : pc + 3 = pc') (k : Goes p.tables e below P (T.setTop (mkF m pc' Ls (.null :: st)))) : Goes p.tables e below P (T.setTop (mkF m pc Ls (.null :: st))) := by
  subst hp
  exact go (fun t q => K.X.checkcastNull K.hx (g := mkF m pc Ls (.null :: st)) rfl rfl (hb K.hby hd) _ q) k
theorem k_iaload (K : Wk p l e R s m args below meth c Z a0 EL n0 y bytes maxL ret b T h locs cells slots) {a : Addr} {kk : ClassId} {z j : Int32} {vs : List Value} {dv : Value} {v : Int32} (F : Arv Z h a kk .int z vs dv) (hj : ¬ j < 0 ∧ j < z) (hv : vs.getD j.toNatClampNeg dv = .int v) (hd : decode bytes pc = .ok (.iaload, 1)) (hp : pc + 1 = pc') (k : Goes p.tables e below P (T.setTop (mkF m pc' Ls (.int v :: st)))) : Goes p.tables e below P (T.setTop (mkF m pc Ls (.int j :: .ref a :: st))) := by
  subst hp
  obtain ⟨cl, Ar, -, S, -, H, -⟩ := F
  exact go (fun t q => K.X.iaload K.hx (j := j) (v := .int v) (by rw [K.eT]; exact Ar.1) (State.isArrayOf_alike K.hZ.alike Ar.2.1) Ar.2.2 (inb_of S hj) (H.at (inb_of S hj) hv) (g := mkF m pc Ls (.int j :: .ref a :: st)) rfl rfl (hb K.hby hd) _ q) k
theorem k_caload (K : Wk p l e R s m args below meth c Z a0 EL n0 y bytes maxL ret b T h locs cells slots) {a : Addr} {kk : ClassId} {z j : Int32} {vs : List Value} {dv : Value} {v : Int32} (F : Arv Z h a kk .char z vs dv) (hj : ¬ j < 0 ∧ j < z) (hv : vs.getD j.toNatClampNeg dv = .int v) (hd : decode bytes pc = .ok (.caload, 1)) (hp : pc + 1 = pc') (k : Goes p.tables e below P (T.setTop (mkF m pc' Ls (.int v :: st)))) : Goes p.tables e below P (T.setTop (mkF m pc Ls (.int j :: .ref a :: st))) := by
  subst hp
  obtain ⟨cl, Ar, -, S, -, H, -⟩ := F
  exact go (fun t q => K.X.caload K.hx (j := j) (v := .int v) (by rw [K.eT]; exact Ar.1) (State.isArrayOf_alike K.hZ.alike Ar.2.1) Ar.2.2 (inb_of S hj) (H.at (inb_of S hj) hv) (g := mkF m pc Ls (.int j :: .ref a :: st)) rfl rfl (hb K.hby hd) _ q) k
theorem k_baload (K : Wk p l e R s m args below meth c Z a0 EL n0 y bytes maxL ret b T h locs cells slots) {a : Addr} {kk : ClassId} {z j : Int32} {vs : List Value} {dv : Value} {v : Int32} (F : Arv Z h a kk .byte z vs dv) (hj : ¬ j < 0 ∧ j < z) (hv : vs.getD j.toNatClampNeg dv = .int v) (hd : decode bytes pc = .ok (.baload, 1)) (hp : pc + 1 = pc') (k : Goes p.tables e below P (T.setTop (mkF m pc' Ls (.int v :: st)))) : Goes p.tables e below P (T.setTop (mkF m pc Ls (.int j :: .ref a :: st))) := by
  subst hp
  obtain ⟨cl, Ar, -, S, -, H, -⟩ := F
  exact go (fun t q => K.X.baloadBytes K.hx (j := j) (v := .int v) (by rw [K.eT]; exact Ar.1) (State.isArrayOf_alike K.hZ.alike Ar.2.1) Ar.2.2 (inb_of S hj) (H.at (inb_of S hj) hv) (g := mkF m pc Ls (.int j :: .ref a :: st)) rfl rfl (hb K.hby hd) _ q) k
theorem k_laload (K : Wk p l e R s m args below meth c Z a0 EL n0 y bytes maxL ret b T h locs cells slots) {a : Addr} {kk : ClassId} {z j : Int32} {vs : List Value} {dv : Value} {v : Int64} (F : Arv Z h a kk .long z vs dv) (hj : ¬ j < 0 ∧ j < z) (hv : vs.getD j.toNatClampNeg dv = .long v) (hd : decode bytes pc = .ok (.laload, 1)) (hp : pc + 1 = pc') (k : Goes p.tables e below P (T.setTop (mkF m pc' Ls (.long v :: st)))) : Goes p.tables e below P (T.setTop (mkF m pc Ls (.int j :: .ref a :: st))) := by
  subst hp
  obtain ⟨cl, Ar, -, S, -, H, -⟩ := F
  exact go (fun t q => K.X.laload K.hx (j := j) (v := .long v) (by rw [K.eT]; exact Ar.1) (State.isArrayOf_alike K.hZ.alike Ar.2.1) Ar.2.2 (inb_of S hj) (H.at (inb_of S hj) hv) (g := mkF m pc Ls (.int j :: .ref a :: st)) rfl rfl (hb K.hby hd) _ q) k
theorem k_aaload (K : Wk p l e R s m args below meth c Z a0 EL n0 y bytes maxL ret b T h locs cells slots) {a : Addr} {kk : ClassId} {ty : FieldType} {z j : Int32} {vs : List Value} {dv v : Value} (F : Arv Z h a kk ty z vs dv) (hty : ty.isReference = true) (hj : ¬ j < 0 ∧ j < z) (hv : vs.getD j.toNatClampNeg dv = v) (hd : decode bytes pc = .ok (.aaload, 1)) (hp : pc + 1 = pc') (k : Goes p.tables e below P (T.setTop (mkF m pc' Ls (v :: st)))) : Goes p.tables e below P (T.setTop (mkF m pc Ls (.int j :: .ref a :: st))) := by
  subst hp
  obtain ⟨cl, Ar, -, S, -, H, -⟩ := F
  exact go (fun t q => K.X.aaload K.hx (j := j) (v := v) (by rw [K.eT]; exact Ar.1) (State.isArrayOf_alike K.hZ.alike Ar.2.1) hty Ar.2.2 (inb_of S hj) (H.at (inb_of S hj) hv) (g := mkF m pc Ls (.int j :: .ref a :: st)) rfl rfl (hb K.hby hd) _ q) k
theorem k_len (K : Wk p l e R s m args below meth c Z a0 EL n0 y bytes maxL ret b T h locs cells slots) {a : Addr} {kk : ClassId} {ty : FieldType} {z : Int32} {vs : List Value} {dv : Value} (F : Arv Z h a kk ty z vs dv) (hd : decode bytes pc = .ok (.arraylength, 1)) (hp : pc + 1 = pc') (k : Goes p.tables e below P (T.setTop (mkF m pc' Ls (.int z :: st)))) : Goes p.tables e below P (T.setTop (mkF m pc Ls (.ref a :: st))) := by
  subst hp
  obtain ⟨cl, Ar, -, S, N, -, -⟩ := F
  refine go (fun t q => K.X.arraylength K.hx (by rw [K.eT]; exact Ar.1) (State.isArrayOf_alike K.hZ.alike Ar.2.1) (g := mkF m pc Ls (.ref a :: st)) rfl rfl (hb K.hby hd) _ (by rw [len_of S N]; exact q)) k
theorem bs_ext (K : Wk p l e R s m args below meth c Z a0 EL n0 y bytes maxL ret b T h locs cells slots) {h' : Heap} (E : Ext h h') : Bs Z a0 EL s b h' := by
  obtain ⟨⟨vm0, k0, e1, e2, e3⟩, e4, e5⟩ := K.bs
  exact ⟨⟨vm0, k0, e1, e2, Nat.le_trans e3 E.1⟩, e4.trans (CHr.ext E e4.1), e5⟩
theorem bs_wr (K : Wk p l e R s m args below meth c Z a0 EL n0 y bytes maxL ret b T h locs cells slots) {h' : Heap} {a : Addr} {sl : Nat} {v : Value} (W : Wr h h' a sl v) (sf : Sfe Z EL b.vm h a) : Bs Z a0 EL s b h' := by
  obtain ⟨⟨vm0, k0, e1, e2, e3⟩, e4, e5⟩ := K.bs
  exact ⟨⟨vm0, k0, e1, e2, by rw [W.size]; exact e3⟩, e4.trans (CHr.wr W sf e4.1), e5⟩
theorem sfe_ext (K : Wk p l e R s m args below meth c Z a0 EL n0 y bytes maxL ret b T h locs cells slots) {h' : Heap} (E : Ext h h') (x : Addr) (_ : x < h.size) (q : Sfe Z EL b.vm h x) : Sfe Z EL b.vm h' x := Safe.ext E K.bs.2.1.1 q
theorem sfe_wr (K : Wk p l e R s m args below meth c Z a0 EL n0 y bytes maxL ret b T h locs cells slots) {h' : Heap} {a : Addr} {sl : Nat} {v : Value} (W : Wr h h' a sl v) (sf : Sfe Z EL b.vm h a) (x : Addr) (_ : x < h.size) (q : Sfe Z EL b.vm h x) : Sfe Z EL b.vm h' x := Safe.wr W sf K.bs.2.1.1 q
theorem sfe_ext_new (K : Wk p l e R s m args below meth c Z a0 EL n0 y bytes maxL ret b T h locs cells slots) {h' : Heap} (E : Ext h h') : Sfe Z EL b.vm h' h.size := fun B => sfe_new (Nat.le_refl _) ((CHv.step K.bs.2.1.1 fun _ _ _ q => E.2 _ _ q).2 _ B)
theorem k_new (K : Wk p l e R s m args below meth c Z a0 EL n0 y bytes maxL ret b T h locs cells slots) {C : String} {i n : Nat} (wl : (Cond.classLink y.cls i C).before a0 Z = true) (wi : (Cond.instantiable C n).before a0 Z = true) (wz : (Cond.initialized C).before a0 Z = true) (hd : decode bytes pc = .ok (.new i, 3)) (hp : pc + 3 = pc') (hce : cells + 1 ≤ R.cells) (hsl : slots + n ≤ R.slots) (k : ∀ T' h' a, a = h.size → Wk p l e R s m args below meth c Z a0 EL n0 y bytes maxL ret b T' h' locs (cells + 1) (slots + n) → Ext h h' → (∀ x, x < h.size → Sfe Z EL b.vm h x → Sfe Z EL b.vm h' x) → Sfe Z EL b.vm h' a → Exa Z h' a C → (∀ {O nm d : String} {ty : FieldType}, Laid Z a0 C O nm d → parseFieldDescriptor d = some ty → Fld Z h' a O nm d (defaultValue ty)) → Unt h' a → Goes p.tables e below P (T'.setTop (mkF m pc' Ls (.ref a :: st)))) : Goes p.tables e below P (T.setTop (mkF m pc Ls st)) := by
  subst hp
  obtain ⟨T', h', X', e', E', A', D', U', q⟩ := newO K.X K.hx K.hZ K.hown wl wi wz K.eT (g := mkF m pc Ls st) rfl (hb K.hby hd) hce hsl
  exact go q (k T' h' _ rfl (K.move X' e' K.fr (K.old.ext E') (bs_ext K E')) E' (sfe_ext K E') (sfe_ext_new K E') A' D' U')
theorem k_putF (K : Wk p l e R s m args below meth c Z a0 EL n0 y bytes maxL ret b T h locs cells slots) {R0 O n d C : String} {i kk : Nat} {ty : FieldType} {a : Addr} {v old : Value} (wd : (Cond.fieldLink y.cls i R0 n d).before a0 Z = true) (via : Via Z R0 O n d) (F : Fld Z h a O n d old) (E : Exa Z h a C) (L : (Cond.lays C O n d).before a0 Z = true ∨ ((Cond.laysFinal C O n d).before a0 Z = true ∧ y.cls = O ∧ y.name = "<init>")) (wi : (Cond.instantiable C kk).before a0 Z = true) (hty : parseFieldDescriptor d = some ty) (hn : narrow ty v = v) (hf : fits ty v = true) (ga : n0 ≤ a) (sf : Sfe Z EL b.vm h a) (hd : decode bytes pc = .ok (.putfield i, 3)) (hp : pc + 3 = pc') (k : ∀ T' h', Wk p l e R s m args below meth c Z a0 EL n0 y bytes maxL ret b T' h' (locs ++ [⟨a, Jvm.RoadKit.slotOf Z O n d⟩]) cells slots → Wr h h' a (Jvm.RoadKit.slotOf Z O n d) v → (∀ x, x < h.size → Sfe Z EL b.vm h x → Sfe Z EL b.vm h' x) → Goes p.tables e below P (T'.setTop (mkF m pc' Ls st))) : Goes p.tables e below P (T.setTop (mkF m pc Ls (v :: .ref a :: st))) := by
  subst hp
  obtain ⟨T', h', X', e', W', q⟩ := putF K.X K.hx K.hZ (host := "") K.hown (Or.inl wd) via K.eT F E (L.imp id fun ⟨q1, q2, q3⟩ => ⟨q1, q2, K.hnm.trans q3⟩) wi hty hn hf (g := mkF m pc Ls (v :: .ref a :: st)) rfl rfl (hb K.hby hd)
  exact go q (k T' h' (K.move X' e' (Fr.snoc X' K.fr ga) (K.old.wr W' ga) (bs_wr K W' sf)) W' (sfe_wr K W' sf))
theorem k_putFH (K : Wk p l e R s m args below meth c Z a0 EL n0 y bytes maxL ret b T h locs cells slots) {R0 O n d C host : String} {i kk : Nat} {ty : FieldType} {a : Addr} {v old : Value} (wd : (Cond.fieldLinkNest y.cls i R0 n d host).before a0 Z = true) (via : Via Z R0 O n d) (F : Fld Z h a O n d old) (E : Exa Z h a C) (L : (Cond.lays C O n d).before a0 Z = true ∨ ((Cond.laysFinal C O n d).before a0 Z = true ∧ y.cls = O ∧ y.name = "<init>")) (wi : (Cond.instantiable C kk).before a0 Z = true) (hty : parseFieldDescriptor d = some ty) (hn : narrow ty v = v) (hf : fits ty v = true) (ga : n0 ≤ a) (sf : Sfe Z EL b.vm h a) (hd : decode bytes pc = .ok (.putfield i, 3)) (hp : pc + 3 = pc') (k : ∀ T' h', Wk p l e R s m args below meth c Z a0 EL n0 y bytes maxL ret b T' h' (locs ++ [⟨a, Jvm.RoadKit.slotOf Z O n d⟩]) cells slots → Wr h h' a (Jvm.RoadKit.slotOf Z O n d) v → (∀ x, x < h.size → Sfe Z EL b.vm h x → Sfe Z EL b.vm h' x) → Goes p.tables e below P (T'.setTop (mkF m pc' Ls st))) : Goes p.tables e below P (T.setTop (mkF m pc Ls (v :: .ref a :: st))) := by
  subst hp
  obtain ⟨T', h', X', e', W', q⟩ := putF K.X K.hx K.hZ K.hown (Or.inr wd) via K.eT F E (L.imp id fun ⟨q1, q2, q3⟩ => ⟨q1, q2, K.hnm.trans q3⟩) wi hty hn hf (g := mkF m pc Ls (v :: .ref a :: st)) rfl rfl (hb K.hby hd)
  exact go q (k T' h' (K.move X' e' (Fr.snoc X' K.fr ga) (K.old.wr W' ga) (bs_wr K W' sf)) W' (sfe_wr K W' sf))
theorem k_putFN (K : Wk p l e R s m args below meth c Z a0 EL n0 y bytes maxL ret b T h locs cells slots) {R0 O n d C : String} {i kk : Nat} {ty : FieldType} {a : Addr} {v v' old : Value} (wd : (Cond.fieldLink y.cls i R0 n d).before a0 Z = true) (via : Via Z R0 O n d) (F : Fld Z h a O n d old) (E : Exa Z h a C) (L : (Cond.lays C O n d).before a0 Z = true ∨ ((Cond.laysFinal C O n d).before a0 Z = true ∧ y.cls = O ∧ y.name = "<init>")) (wi : (Cond.instantiable C kk).before a0 Z = true) (hty : parseFieldDescriptor d = some ty) (hn : narrow ty v = v') (hf : fits ty v' = true) (ga : n0 ≤ a) (sf : Sfe Z EL b.vm h a) (hd : decode bytes pc = .ok (.putfield i, 3)) (hp : pc + 3 = pc') (k : ∀ T' h', Wk p l e R s m args below meth c Z a0 EL n0 y bytes maxL ret b T' h' (locs ++ [⟨a, Jvm.RoadKit.slotOf Z O n d⟩]) cells slots → Wr h h' a (Jvm.RoadKit.slotOf Z O n d) v' → (∀ x, x < h.size → Sfe Z EL b.vm h x → Sfe Z EL b.vm h' x) → Goes p.tables e below P (T'.setTop (mkF m pc' Ls st))) : Goes p.tables e below P (T.setTop (mkF m pc Ls (v :: .ref a :: st))) := by
  subst hp
  obtain ⟨T', h', X', e', W', q⟩ := putFN K.X K.hx K.hZ K.hown wd via K.eT F E (L.imp id fun ⟨q1, q2, q3⟩ => ⟨q1, q2, K.hnm.trans q3⟩) wi hty hn hf (g := mkF m pc Ls (v :: .ref a :: st)) rfl rfl (hb K.hby hd)
  exact go q (k T' h' (K.move X' e' (Fr.snoc X' K.fr ga) (K.old.wr W' ga) (bs_wr K W' sf)) W' (sfe_wr K W' sf))
theorem k_newarray (K : Wk p l e R s m args below meth c Z a0 EL n0 y bytes maxL ret b T h locs cells slots) {aty : ArrayType} {z : Int32} (wa : (Cond.arrayClass (newarray.typeOf aty)).before a0 Z = true) (hz : ¬ z < 0) {cap : Nat} (hcap : z.toNatClampNeg ≤ cap) (hbig : cap * 8 ≤ 536870912) (hd : decode bytes pc = .ok (.newarray aty, 2)) (hp : pc + 2 = pc') (hce : cells + 1 ≤ R.cells) (hsl : slots + cap ≤ R.slots) (k : ∀ T' h' a kk, a = h.size → Wk p l e R s m args below meth c Z a0 EL n0 y bytes maxL ret b T' h' locs (cells + 1) (slots + cap) → Ext h h' → (∀ x, x < h.size → Sfe Z EL b.vm h x → Sfe Z EL b.vm h' x) → Sfe Z EL b.vm h' a → Arv Z h' a kk (newarray.typeOf aty) z [] (defaultValue (newarray.typeOf aty)) → Goes p.tables e below P (T'.setTop (mkF m pc' Ls (.ref a :: st)))) : Goes p.tables e below P (T.setTop (mkF m pc Ls (.int z :: st))) := by
  subst hp
  obtain ⟨T', h', kk, X', e', E', A', q⟩ := newP K.X K.hx K.hZ wa K.eT (g := mkF m pc Ls (.int z :: st)) rfl (hb K.hby hd) rfl hz hcap hbig hce hsl
  exact go q (k T' h' _ kk rfl (K.move X' e' K.fr (K.old.ext E') (bs_ext K E')) E' (sfe_ext K E') (sfe_ext_new K E') (Arv.new A' hz))
theorem k_anewarray (K : Wk p l e R s m args below meth c Z a0 EL n0 y bytes maxL ret b T h locs cells slots) {C : String} {i : Nat} {z : Int32} (wl : (Cond.classLink y.cls i C).before a0 Z = true) (wa : (Cond.arrayOver (.object C)).before a0 Z = true) (hz : ¬ z < 0) {cap : Nat} (hcap : z.toNatClampNeg ≤ cap) (hbig : cap * 8 ≤ 536870912) (hd : decode bytes pc = .ok (.anewarray i, 3)) (hp : pc + 3 = pc') (hce : cells + 1 ≤ R.cells) (hsl : slots + cap ≤ R.slots) (k : ∀ T' h' a kk, a = h.size → Wk p l e R s m args below meth c Z a0 EL n0 y bytes maxL ret b T' h' locs (cells + 1) (slots + cap) → Ext h h' → (∀ x, x < h.size → Sfe Z EL b.vm h x → Sfe Z EL b.vm h' x) → Sfe Z EL b.vm h' a → Arv Z h' a kk (.object C) z [] .null → Ovr Z kk C → Goes p.tables e below P (T'.setTop (mkF m pc' Ls (.ref a :: st)))) : Goes p.tables e below P (T.setTop (mkF m pc Ls (.int z :: st))) := by
  subst hp
  obtain ⟨T', h', kk, X', e', E', A', O', q⟩ := newR K.X K.hx K.hZ K.hown wl wa K.eT (g := mkF m pc Ls (.int z :: st)) rfl (hb K.hby hd) rfl hz hcap hbig hce hsl
  exact go q (k T' h' _ kk rfl (K.move X' e' K.fr (K.old.ext E') (bs_ext K E')) E' (sfe_ext K E') (sfe_ext_new K E') (Arv.new A' hz) O')
theorem k_iastore (K : Wk p l e R s m args below meth c Z a0 EL n0 y bytes maxL ret b T h locs cells slots) {a : Addr} {kk : ClassId} {z j : Int32} {vs : List Value} {dv : Value} {v : Int32} (F : Arv Z h a kk .int z vs dv) (hj : ¬ j < 0 ∧ j < z) (hlen : j.toNatClampNeg < vs.length) (ga : n0 ≤ a) (sf : Sfe Z EL b.vm h a) (hd : decode bytes pc = .ok (.iastore, 1)) (hp : pc + 1 = pc') (k : ∀ T' h', Wk p l e R s m args below meth c Z a0 EL n0 y bytes maxL ret b T' h' (locs ++ [⟨a, j.toNatClampNeg⟩]) cells slots → Wr h h' a j.toNatClampNeg (.int v) → (∀ x, x < h.size → Sfe Z EL b.vm h x → Sfe Z EL b.vm h' x) → Arv Z h' a kk .int z (vs.set j.toNatClampNeg (.int v)) dv → Goes p.tables e below P (T'.setTop (mkF m pc' Ls st))) : Goes p.tables e below P (T.setTop (mkF m pc Ls (.int v :: .int j :: .ref a :: st))) := by
  subst hp
  obtain ⟨cl, Ar, q1, S, N, H, G⟩ := F
  obtain ⟨T', h', X', e', W', q⟩ := stI K.X K.hx K.hZ K.eT Ar (j := j) (inb_of S hj) (g := mkF m pc Ls (.int v :: .int j :: .ref a :: st)) rfl rfl (hb K.hby hd)
  exact go q (k T' h' (K.move X' e' (Fr.snoc X' K.fr ga) (K.old.wr W' ga) (bs_wr K W' sf)) W' (sfe_wr K W' sf) (Arv.set Ar q1 S N H G rfl W' _ rfl hlen))
theorem k_castore (K : Wk p l e R s m args below meth c Z a0 EL n0 y bytes maxL ret b T h locs cells slots) {a : Addr} {kk : ClassId} {z j : Int32} {vs : List Value} {dv : Value} {v : Int32} (F : Arv Z h a kk .char z vs dv) (hj : ¬ j < 0 ∧ j < z) (hlen : j.toNatClampNeg < vs.length) (ga : n0 ≤ a) (sf : Sfe Z EL b.vm h a) (hd : decode bytes pc = .ok (.castore, 1)) (hp : pc + 1 = pc') (k : ∀ T' h', Wk p l e R s m args below meth c Z a0 EL n0 y bytes maxL ret b T' h' (locs ++ [⟨a, j.toNatClampNeg⟩]) cells slots → Wr h h' a j.toNatClampNeg (.int (nar .char v)) → (∀ x, x < h.size → Sfe Z EL b.vm h x → Sfe Z EL b.vm h' x) → Arv Z h' a kk .char z (vs.set j.toNatClampNeg (.int (nar .char v))) dv → Goes p.tables e below P (T'.setTop (mkF m pc' Ls st))) : Goes p.tables e below P (T.setTop (mkF m pc Ls (.int v :: .int j :: .ref a :: st))) := by
  subst hp
  obtain ⟨cl, Ar, q1, S, N, H, G⟩ := F
  obtain ⟨T', h', X', e', W', q⟩ := stC K.X K.hx K.hZ K.eT Ar (j := j) (inb_of S hj) (g := mkF m pc Ls (.int v :: .int j :: .ref a :: st)) rfl rfl (hb K.hby hd)
  exact go q (k T' h' (K.move X' e' (Fr.snoc X' K.fr ga) (K.old.wr W' ga) (bs_wr K W' sf)) W' (sfe_wr K W' sf) (Arv.set Ar q1 S N H G (fits_nar_char _) W' _ rfl hlen))
theorem k_bastore (K : Wk p l e R s m args below meth c Z a0 EL n0 y bytes maxL ret b T h locs cells slots) {a : Addr} {kk : ClassId} {z j : Int32} {vs : List Value} {dv : Value} {v : Int32} (F : Arv Z h a kk .byte z vs dv) (hj : ¬ j < 0 ∧ j < z) (hlen : j.toNatClampNeg < vs.length) (ga : n0 ≤ a) (sf : Sfe Z EL b.vm h a) (hd : decode bytes pc = .ok (.bastore, 1)) (hp : pc + 1 = pc') (k : ∀ T' h', Wk p l e R s m args below meth c Z a0 EL n0 y bytes maxL ret b T' h' (locs ++ [⟨a, j.toNatClampNeg⟩]) cells slots → Wr h h' a j.toNatClampNeg (.int (nar .byte v)) → (∀ x, x < h.size → Sfe Z EL b.vm h x → Sfe Z EL b.vm h' x) → Arv Z h' a kk .byte z (vs.set j.toNatClampNeg (.int (nar .byte v))) dv → Goes p.tables e below P (T'.setTop (mkF m pc' Ls st))) : Goes p.tables e below P (T.setTop (mkF m pc Ls (.int v :: .int j :: .ref a :: st))) := by
  subst hp
  obtain ⟨cl, Ar, q1, S, N, H, G⟩ := F
  obtain ⟨T', h', X', e', W', q⟩ := stB K.X K.hx K.hZ K.eT Ar (j := j) (inb_of S hj) (g := mkF m pc Ls (.int v :: .int j :: .ref a :: st)) rfl rfl (hb K.hby hd)
  exact go q (k T' h' (K.move X' e' (Fr.snoc X' K.fr ga) (K.old.wr W' ga) (bs_wr K W' sf)) W' (sfe_wr K W' sf) (Arv.set Ar q1 S N H G (fits_nar_byte _) W' _ rfl hlen))
theorem k_lastore (K : Wk p l e R s m args below meth c Z a0 EL n0 y bytes maxL ret b T h locs cells slots) {a : Addr} {kk : ClassId} {z j : Int32} {vs : List Value} {dv : Value} {v : Int64} (F : Arv Z h a kk .long z vs dv) (hj : ¬ j < 0 ∧ j < z) (hlen : j.toNatClampNeg < vs.length) (ga : n0 ≤ a) (sf : Sfe Z EL b.vm h a) (hd : decode bytes pc = .ok (.lastore, 1)) (hp : pc + 1 = pc') (k : ∀ T' h', Wk p l e R s m args below meth c Z a0 EL n0 y bytes maxL ret b T' h' (locs ++ [⟨a, j.toNatClampNeg⟩]) cells slots → Wr h h' a j.toNatClampNeg (.long v) → (∀ x, x < h.size → Sfe Z EL b.vm h x → Sfe Z EL b.vm h' x) → Arv Z h' a kk .long z (vs.set j.toNatClampNeg (.long v)) dv → Goes p.tables e below P (T'.setTop (mkF m pc' Ls st))) : Goes p.tables e below P (T.setTop (mkF m pc Ls (.long v :: .int j :: .ref a :: st))) := by
  subst hp
  obtain ⟨cl, Ar, q1, S, N, H, G⟩ := F
  obtain ⟨T', h', X', e', W', q⟩ := stJ K.X K.hx K.hZ K.eT Ar (j := j) (inb_of S hj) (g := mkF m pc Ls (.long v :: .int j :: .ref a :: st)) rfl rfl (hb K.hby hd)
  exact go q (k T' h' (K.move X' e' (Fr.snoc X' K.fr ga) (K.old.wr W' ga) (bs_wr K W' sf)) W' (sfe_wr K W' sf) (Arv.set Ar q1 S N H G rfl W' _ rfl hlen))
theorem k_aastore (K : Wk p l e R s m args below meth c Z a0 EL n0 y bytes maxL ret b T h locs cells slots) {a : Addr} {kk : ClassId} {ty : FieldType} {z j : Int32} {vs : List Value} {dv v : Value} (F : Arv Z h a kk ty z vs dv) (hty : ty.isReference = true) (hs : Sto Z h a v) (hfit : fits ty v = true) (hj : ¬ j < 0 ∧ j < z) (hlen : j.toNatClampNeg < vs.length) (ga : n0 ≤ a) (sf : Sfe Z EL b.vm h a) (hd : decode bytes pc = .ok (.aastore, 1)) (hp : pc + 1 = pc') (k : ∀ T' h', Wk p l e R s m args below meth c Z a0 EL n0 y bytes maxL ret b T' h' (locs ++ [⟨a, j.toNatClampNeg⟩]) cells slots → Wr h h' a j.toNatClampNeg v → (∀ x, x < h.size → Sfe Z EL b.vm h x → Sfe Z EL b.vm h' x) → Arv Z h' a kk ty z (vs.set j.toNatClampNeg v) dv → Goes p.tables e below P (T'.setTop (mkF m pc' Ls st))) : Goes p.tables e below P (T.setTop (mkF m pc Ls (v :: .int j :: .ref a :: st))) := by
  subst hp
  obtain ⟨cl, Ar, q1, S, N, H, G⟩ := F
  obtain ⟨T', h', X', e', W', q⟩ := stR K.X K.hx K.hZ K.eT Ar (j := j) (inb_of S hj) hty hs (g := mkF m pc Ls (v :: .int j :: .ref a :: st)) rfl rfl (hb K.hby hd)
  exact go q (k T' h' (K.move X' e' (Fr.snoc X' K.fr ga) (K.old.wr W' ga) (bs_wr K W' sf)) W' (sfe_wr K W' sf) (Arv.set Ar q1 S N H G hfit W' _ rfl hlen))
def FinW (Z : State) (EL : List (String × Nat)) (U : State) (n0 : Nat) (rm : Room) (Q : Option Value → Heap → (Addr → Prop) → Prop) (o : Outcome) (U' : State) : Prop := ∃ v L, o = .returned v ∧ (Fr n0 L ∧ Old Z n0 U'.heap ∧ Q v U'.heap (Sfe Z EL U'.vm U'.heap)) ∧ CHr Z EL U.vm U.heap U'.vm U'.heap ∧ ReturnedEndW U o U' L rm.cells rm.slots
def Ct (l : Launch) (Z : State) (EL : List (String × Nat)) (n0 : Nat) (y : MethodName) (bytes : ByteArray) (maxL : Nat) (ret : Option FieldType) (rm : Room) (as : Array Value) (h : Heap) (SP : List Addr) (Q : Option Value → Heap → (Addr → Prop) → Prop) : Prop := ∀ ws, MetFree l y (head1 (Cond.code y bytes maxL ret :: ws) rm) (fun a U => a = as ∧ Z.Warmed39 U.vm ∧ U.heap = h ∧ (∀ x ∈ SP, Sfe Z EL U.vm h x) ∧ CHv Z EL U.vm h) (fun _ _ _ _ _ => True) (fun _ U o U' => ∃ v L, o = .returned v ∧ (Fr n0 L ∧ Old Z n0 U'.heap ∧ Q v U'.heap (Sfe Z EL U'.vm U'.heap)) ∧ CHr Z EL U.vm U.heap U'.vm U'.heap ∧ ReturnedEndW U o U' L rm.cells rm.slots)
theorem Ct.of {as : Array Value} {rm : Room} {SP : List Addr} {Q : Option Value → Heap → (Addr → Prop) → Prop} (LE : Array Slot) (hEW : EW Z a0 EL) (hO : Old Z n0 h) (hpl : plainFor y = true) (hef : ∀ m, entryFrame m as maxL = mkF m 0 LE []) (body : ∀ {p : Program} {e : Env} {s : State} {m : MethodId} {below : List Frame} {meth : Method} {c : Code} {b T : State}, Wk p l e rm s m as below meth c Z a0 EL n0 y bytes maxL ret b T h [] 0 0 → (∀ x ∈ SP, Sfe Z EL b.vm h x) → Goes p.tables e below (FinW Z EL s n0 rm Q) (T.setTop (mkF m 0 LE []))) : Ct l Z EL n0 y bytes maxL ret rm as h SP Q := by
  intro ws
  refine MetFree.of_bodySF hpl hisR ?_
  intro p e s m args below meth c s₁ Bd hml0 hP hK
  obtain ⟨ha, hZ, hh, hSP, hC⟩ := hP
  subst ha
  have K : Wk p l e rm s m args below meth c Z a0 EL n0 y bytes maxL ret s s₁ h [] 0 0 := ⟨Stand.of_body Bd, by rw [← hh, Bd.state]; rfl, Fr.nil n0, Bd.exec, hZ, findClass_of_methodNamed Bd.named, Bd.bytes, hml0, Bd.returns, Bd.notSynchronized, (name_of_methodNamed Bd.named Bd.method).1, hO, ⟨⟨s.vm, 0, rfl, State.WarmedH.since (State.WarmedH.refl s) 0, Nat.zero_le _⟩, by rw [hh]; exact CHr.refl hC, hEW⟩⟩
  obtain ⟨t, o, h1, h2, h3, h4⟩ := body K hSP
  exact ⟨t, o, castTop (hef m) h1, h2, h3, h4⟩
theorem k_return (K : Wk p l e R s m args below meth c Z a0 EL n0 y bytes maxL ret b T h locs cells slots) {Q : Option Value → Heap → (Addr → Prop) → Prop} (hd : decode bytes pc = .ok (.return_, 1)) (hr : ret = none) (hq : ∀ sf : Addr → Prop, (∀ x, x < h.size → Sfe Z EL b.vm h x → sf x) → Q none h sf) (hc : cells ≤ R.cells) (hs : slots ≤ R.slots) : Goes p.tables e below (FinW Z EL s n0 R Q) (T.setTop (mkF m pc Ls [])) := by
  have hbs := K.bs
  obtain ⟨⟨vm0, k0, eb, hS, hk⟩, hCH, hEW⟩ := hbs
  subst eb
  have A := CHv.at K.X K.hZ hEW hCH.1
  obtain ⟨fs, hr', hrun, hended, hend⟩ := K.X.leaveW hS (by rw [K.eT]; exact hk) (v := none) (fun _ => rfl) K.hlk
  refine ⟨_, _, ?_, hrun, hended, _, _, rfl, ⟨K.fr, ?_, ?_⟩, ?_, ⟨hend.1, hend.2.1, hend.2.2.1, hend.2.2.2.mono hc hs⟩⟩
  · exact K.X.returnOut K.hx (K.hret.trans hr) (hb K.hby hd) hr'
  · show Old Z n0 T.heap
    rw [K.eT]; exact K.old
  · show Q _ T.heap (Sfe Z EL T.vm T.heap)
    rw [K.eT]; exact hq _ fun x hx q => CHr.safe A hx q
  · show CHr Z EL s.vm s.heap T.vm T.heap
    rw [K.eT]; exact hCH.trans A
theorem k_ret (K : Wk p l e R s m args below meth c Z a0 EL n0 y bytes maxL ret b T h locs cells slots) {Q : Option Value → Heap → (Addr → Prop) → Prop} {t : FieldType} {v : Value} {i : Instr} (hd : decode bytes pc = .ok (i, 1)) (hr : ret = some t) (hn : narrow t v = v) (hi : (i = .ireturn ∧ (t = .int ∨ t = .boolean ∨ t = .byte ∨ t = .char ∨ t = .short) ∧ ∃ z, v = .int z) ∨ (i = .lreturn ∧ t = .long ∧ ∃ z, v = .long z) ∨ (i = .dreturn ∧ t = .double ∧ ∃ z, v = .double z) ∨ (i = .freturn ∧ t = .float ∧ ∃ z, v = .float z) ∨ (i = .areturn ∧ t.isReference = true ∧ v.isRef = true)) (hq : ∀ sf : Addr → Prop, (∀ x, x < h.size → Sfe Z EL b.vm h x → sf x) → Q (some v) h sf) (hc : cells ≤ R.cells) (hs : slots ≤ R.slots) : Goes p.tables e below (FinW Z EL s n0 R Q) (T.setTop (mkF m pc Ls (v :: st))) := by
  have hbs := K.bs
  obtain ⟨⟨vm0, k0, eb, hS, hk⟩, hCH, hEW⟩ := hbs
  subst eb
  have A := CHv.at K.X K.hZ hEW hCH.1
  obtain ⟨fs, hr', hrun, hended, hend⟩ := K.X.leaveW hS (by rw [K.eT]; exact hk) (v := some v) (fun h => by rw [K.hret, hr] at h; cases h) K.hlk
  refine ⟨_, _, ?_, hrun, hended, _, _, rfl, ⟨K.fr, ?_, ?_⟩, ?_, ⟨hend.1, hend.2.1, hend.2.2.1, hend.2.2.2.mono hc hs⟩⟩
  · exact retOut K.X K.hx (K.hret.trans hr) hn hi (hb K.hby hd) hr'
  · show Old Z n0 T.heap
    rw [K.eT]; exact K.old
  · show Q _ T.heap (Sfe Z EL T.vm T.heap)
    rw [K.eT]; exact hq _ fun x hx q => CHr.safe A hx q
  · show CHr Z EL s.vm s.heap T.vm T.heap
    rw [K.eT]; exact hCH.trans A
theorem k_iret (K : Wk p l e R s m args below meth c Z a0 EL n0 y bytes maxL ret b T h locs cells slots) {Q : Option Value → Heap → (Addr → Prop) → Prop} {i : Int32} (hd : decode bytes pc = .ok (.ireturn, 1)) (hr : ret = some .int) (hq : ∀ sf : Addr → Prop, (∀ x, x < h.size → Sfe Z EL b.vm h x → sf x) → Q (some (.int i)) h sf) (hc : cells ≤ R.cells) (hs : slots ≤ R.slots) : Goes p.tables e below (FinW Z EL s n0 R Q) (T.setTop (mkF m pc Ls (.int i :: st))) := k_ret K hd hr rfl (Or.inl ⟨rfl, Or.inl rfl, i, rfl⟩) hq hc hs
theorem k_lret (K : Wk p l e R s m args below meth c Z a0 EL n0 y bytes maxL ret b T h locs cells slots) {Q : Option Value → Heap → (Addr → Prop) → Prop} {i : Int64} (hd : decode bytes pc = .ok (.lreturn, 1)) (hr : ret = some .long) (hq : ∀ sf : Addr → Prop, (∀ x, x < h.size → Sfe Z EL b.vm h x → sf x) → Q (some (.long i)) h sf) (hc : cells ≤ R.cells) (hs : slots ≤ R.slots) : Goes p.tables e below (FinW Z EL s n0 R Q) (T.setTop (mkF m pc Ls (.long i :: st))) := k_ret K hd hr rfl (Or.inr (Or.inl ⟨rfl, rfl, i, rfl⟩)) hq hc hs
theorem k_aret (K : Wk p l e R s m args below meth c Z a0 EL n0 y bytes maxL ret b T h locs cells slots) {Q : Option Value → Heap → (Addr → Prop) → Prop} {v : Value} {t : FieldType} (hd : decode bytes pc = .ok (.areturn, 1)) (hr : ret = some t) (ht : t.isReference = true) (hv : v.isRef = true) (hq : ∀ sf : Addr → Prop, (∀ x, x < h.size → Sfe Z EL b.vm h x → sf x) → Q (some v) h sf) (hc : cells ≤ R.cells) (hs : slots ≤ R.slots) : Goes p.tables e below (FinW Z EL s n0 R Q) (T.setTop (mkF m pc Ls (v :: st))) := k_ret K hd hr (by cases t <;> first | rfl | cases ht) (Or.inr (Or.inr (Or.inr (Or.inr ⟨rfl, ht, hv⟩)))) hq hc hs
theorem k_nret (K : Wk p l e R s m args below meth c Z a0 EL n0 y bytes maxL ret b T h locs cells slots) {Q : Option Value → Heap → (Addr → Prop) → Prop} {i : Int32} {t : FieldType} (hd : decode bytes pc = .ok (.ireturn, 1)) (hr : ret = some t) (ht : t = .boolean ∨ t = .byte ∨ t = .char ∨ t = .short) (hn : narrow t (.int i) = .int i) (hq : ∀ sf : Addr → Prop, (∀ x, x < h.size → Sfe Z EL b.vm h x → sf x) → Q (some (.int i)) h sf) (hc : cells ≤ R.cells) (hs : slots ≤ R.slots) : Goes p.tables e below (FinW Z EL s n0 R Q) (T.setTop (mkF m pc Ls (.int i :: st))) := k_ret K hd hr hn (Or.inl ⟨rfl, Or.inr ht, i, rfl⟩) hq hc hs
def Pu (w : Option Value) (h : Heap) (v : Option Value) (h' : Heap) (_ : Addr → Prop) : Prop := v = w ∧ h' = h
theorem own_back {yy : MethodName} {yb : ByteArray} {yml : Nat} {yret : Option FieldType} {rm : Room} {len W : Nat} {as' : Array Value} {SP : List Addr} {Q : Option Value → Heap → (Addr → Prop) → Prop} {vm0 : Vm} (hM : Ct l Z EL n0 yy yb yml yret rm as' h SP Q) (hZ : Z.Warmed39 vm0) (wc : (Cond.code yy yb yml yret).before a0 Z = true) (wz : (Cond.initialized yy.cls).before a0 Z = true) (hf : rm.frames + 1 ≤ R.frames) (hl : W + (yml + 11) + rm.locals ≤ R.locals) (hEL : EW Z a0 EL) (H : CHv Z EL vm0 h) (hSP : ∀ x ∈ SP, x < h.size ∧ Sfe Z EL vm0 h x) :
    BackS l R p e below (s.setVm vm0) args yy len W (fun A a => a = as' ∧ A.U.heap = h ∧ A.cells + rm.cells ≤ R.cells ∧ A.slots + rm.slots ≤ R.slots)
      (fun A _ v B => ∃ L, (Fr n0 L ∧ Old Z n0 B.U.heap ∧ Q v B.U.heap (Sfe Z EL B.U.vm B.U.heap)) ∧ B.locs = A.locs ++ L ∧ B.cells = A.cells + rm.cells ∧ B.slots = A.slots + rm.slots ∧ CHr Z EL vm0 h B.U.vm B.U.heap) :=
  BackS.of_freeW (bytes := yb) (maxL := yml) (ret := yret) (E := fun _ first o t L k n => k = rm.cells ∧ n = rm.slots ∧ (∃ v, o = .returned v ∧ (Fr n0 L ∧ Old Z n0 t.heap ∧ Q v t.heap (Sfe Z EL t.vm t.heap))) ∧ CHr Z EL first.vm first.heap t.vm t.heap) (hM []) hf hl
    (fun m meth c A a Y hp => have hU : Z.Warmed39 A.U.vm := wtrans (s := s.setVm vm0) hZ Y.warmed
      ⟨by show (Cond.and _ .tt).before a A.U = true; rw [Cond.before_and, mvT hU wc]; rfl, mvT hU wc, mvT hU wz, hp.2.2.1, hp.2.2.2⟩)
    (fun m meth c A a g mk Y hp => have q := CHv.at Y hZ hEL H
      ⟨hp.1, wtrans (s := s.setVm vm0) hZ Y.warmed, hp.2.1, fun x hx => CHr.safe q (hSP x hx).1 (hSP x hx).2, q.1⟩) (fun _ _ _ _ _ _ _ _ _ => trivial)
    (fun _ _ _ _ ⟨v, L, h1, h2, h3, h4⟩ => ⟨L, _, _, h4, rfl, rfl, ⟨v, h1, h2⟩, h3⟩)
    (fun m meth c A a g mk v t L k n Y hp _ _ ⟨e1, e2, ⟨v', e3, e4⟩, e5⟩ => by
      cases e3; subst e1 e2
      refine ⟨L, e4, rfl, rfl, rfl, (CHv.at Y hZ hEL H).trans ?_⟩
      rw [← hp.2.1]; exact e5)
theorem callSS (X : Stand p l e R s m args below meth c T locs cells slots) (hexec : p.tables.exec = Jvm.exec) {own : String} {index : Nat} {yy : MethodName} {yb : ByteArray} {yml : Nat} {yret : Option FieldType}
    (hown : s.vm.findClass own = some m.cls) (hlink : (Cond.methodLink own index yy).before args s = true) (hstat : (Cond.static yy).before args s = true) (hinit : (Cond.initialized yy.cls).before args s = true)
    (hcode : (Cond.code yy yb yml yret).before args s = true) (hy : yy.cls ≠ "java/lang/invoke/MethodHandle" ∧ yy.cls ≠ "java/lang/invoke/VarHandle")
    {W : Nat} {Pre : Pt → Array Value → Prop} {Post : Pt → Array Value → Option Value → Pt → Prop} (hK : BackS l R p e below s args yy 3 W Pre Post)
    {g : JFrame} (hg : g.method = m) (hsize : g.locals.size = c.maxLocals) {argsL rest : List Value} (hlen : ∀ sig, parseMethodDescriptor yy.desc = some sig → argsL.length = sig.parameters.length)
    (hstack : g.stack = argsL.reverse ++ rest) (hW : 2 * g.monitorRoom + (rest.map fun v => v.category).sum ≤ W) (hdg : decode c.code g.pc = .ok (.invokestatic index, 3))
    (hpre : ∀ vm₁, s.WarmedH vm₁ → Pre ⟨T.setVm vm₁, locs, cells, slots⟩ argsL.toArray) :
    ∃ (v : Option Value) (vm₁ : Vm) (B : Pt), s.WarmedH vm₁ ∧ Stand p l e R (s.setVm B.U.vm) m args below meth c B.U B.locs B.cells B.slots ∧ s.Since B.U.vm B.U.heap.size ∧ T.heap.size ≤ B.U.heap.size ∧ Post ⟨T.setVm vm₁, locs, cells, slots⟩ argsL.toArray v B ∧
      Steps p.tables e below (T.setTop g) (B.U.setTop { g with pc := g.pc + 3, stack := v.toList ++ rest }) := by
  obtain ⟨mk, hnamed⟩ := Cond.code_named hcode
  obtain ⟨methM, cM, hmethM, -, -, -, -, -, -, hsigM⟩ := Cond.code_spec hnamed hcode
  exact X.staticBackS hexec hown hlink hstat hinit hnamed hmethM hsigM hy hK hg hsize (Steps.refl _) hlen hstack hW hdg hpre
theorem wk_called (K : Wk p l e R s m args below meth c Z a0 EL n0 y bytes maxL ret b T h locs cells slots) {b0 T' : State} {Lc : List Loc} {c' n' : Nat} (eb : b = s.setVm b0.vm) (X' : Stand p l e R (b.setVm T'.vm) m args below meth c T' (locs ++ Lc) c' n') (hS : b.Since T'.vm T'.heap.size) (hsz : T.heap.size ≤ T'.heap.size) (hCH : CHr Z EL b.vm h T'.vm T'.heap) (hF : Fr n0 Lc) (hO : Old Z n0 T'.heap) : Wk p l e R s m args below meth c Z a0 EL n0 y bytes maxL ret (b.setVm T'.vm) T' T'.heap (locs ++ Lc) c' n' := by
  obtain ⟨⟨vm0, k0, eb', g1, g2⟩, g3, g4⟩ := K.bs
  subst eb'
  have hW : Z.Warmed39 T'.vm := State.Warmed39.trans (t := s.setVm vm0) K.hZ hS.1
  have hf : T'.vm.findClass y.cls = some m.cls := by rw [hS.1.alike.findClass]; exact K.hown
  exact ⟨X', rfl, K.fr.app hF, K.hx, hW, hf, K.hby, K.hml, K.hret, K.hlk, K.hnm, hO, ⟨⟨T'.vm, T'.heap.size, rfl, g1.trans hS (by rw [K.eT] at hsz; exact Nat.le_trans g2 hsz), Nat.le_refl _⟩, g3.trans hCH, g4⟩⟩
theorem k_static (K : Wk p l e R s m args below meth c Z a0 EL n0 y bytes maxL ret b T h locs cells slots) {i : Nat} {yy : MethodName} {yb : ByteArray} {yml : Nat} {yret : Option FieldType} {rm : Room} {SP : List Addr} {Q : Option Value → Heap → (Addr → Prop) → Prop} {ps : List FieldType} {r : Option FieldType} (argsL rest : List Value) (W : Nat) (wl : (Cond.methodLink y.cls i yy).before a0 Z = true) (ws : (Cond.static yy).before a0 Z = true) (wz : (Cond.initialized yy.cls).before a0 Z = true) (wc : (Cond.code yy yb yml yret).before a0 Z = true) (hy : yy.cls ≠ "java/lang/invoke/MethodHandle" ∧ yy.cls ≠ "java/lang/invoke/VarHandle") (hpd : parseMethodDescriptor yy.desc = some ⟨ps, r⟩) (C : Ct l Z EL n0 yy yb yml yret rm argsL.toArray h SP Q) (hd : decode bytes pc = .ok (.invokestatic i, 3)) (hSP : ∀ x ∈ SP, x < h.size ∧ Sfe Z EL b.vm h x) (hp : pc + 3 = pc') (hsz : Ls.size = maxL) (hlen : argsL.length = ps.length) (hst : st = argsL.reverse ++ rest) (hW : (rest.map fun v => v.category).sum ≤ W) (hfr : rm.frames + 1 ≤ R.frames) (hlo : W + (yml + 11) + rm.locals ≤ R.locals) (hce : cells + rm.cells ≤ R.cells) (hsl : slots + rm.slots ≤ R.slots) (k : ∀ b' T' h' locs' v, Wk p l e R s m args below meth c Z a0 EL n0 y bytes maxL ret b' T' h' locs' (cells + rm.cells) (slots + rm.slots) → (∀ x, x < h.size → Sfe Z EL b.vm h x → Sfe Z EL b'.vm h' x) → Q v h' (Sfe Z EL b'.vm h') → Goes p.tables e below P (T'.setTop (mkF m pc' Ls (v.toList ++ rest)))) : Goes p.tables e below P (T.setTop (mkF m pc Ls st)) := by
  subst hp
  obtain ⟨⟨vm0, k0, eb, g1, g2⟩, g3, g4⟩ := K.bs
  subst eb
  obtain ⟨v, vm1, ⟨T', L', c', n'⟩, -, X', hS', hsz', ⟨Lc, ⟨hF, hO', hQ⟩, l', y', z', hCH⟩, q⟩ := callSS K.X K.hx (yy := yy) K.hown (mvT K.hZ wl) (mvT K.hZ ws) (mvT K.hZ wz) (mvT K.hZ wc) hy (own_back (s := s) (vm0 := vm0) (W := W) C K.hZ wc wz hfr hlo g4 g3.1 hSP) (g := mkF m pc Ls st) rfl (hsz.trans K.hml.symm) (argsL := argsL) (rest := rest) (lenOf hpd hlen) hst (by show 2 * 0 + _ ≤ _; rw [Nat.mul_zero, Nat.zero_add]; exact hW) (hb K.hby hd) (fun _ _ => ⟨rfl, K.eT, hce, hsl⟩)
  dsimp only [Pt.U, Pt.locs, Pt.cells, Pt.slots] at X' l' y' z' q hQ hCH hS' hsz' hO'
  subst l' y' z'
  exact go (fun _ z => q.trans z) (k _ _ _ _ _ (wk_called K (b0 := (s.setVm vm0)) rfl X' hS' hsz' hCH hF hO') (fun x hx z => CHr.safe hCH hx z) hQ)
theorem k_staticP (K : Wk p l e R s m args below meth c Z a0 EL n0 y bytes maxL ret b T h locs cells slots) {i : Nat} {yy : MethodName} {yb : ByteArray} {yml : Nat} {yret : Option FieldType} {rm : Room} {SP : List Addr} {ps : List FieldType} {r : Option FieldType} (argsL rest : List Value) (W : Nat) (wl : (Cond.methodLink y.cls i yy).before a0 Z = true) (ws : (Cond.static yy).before a0 Z = true) (wz : (Cond.initialized yy.cls).before a0 Z = true) (wc : (Cond.code yy yb yml yret).before a0 Z = true) (hy : yy.cls ≠ "java/lang/invoke/MethodHandle" ∧ yy.cls ≠ "java/lang/invoke/VarHandle") (hpd : parseMethodDescriptor yy.desc = some ⟨ps, r⟩) {vv : Option Value} (C : Ct l Z EL n0 yy yb yml yret rm argsL.toArray h SP (Pu vv h)) (hd : decode bytes pc = .ok (.invokestatic i, 3)) (hSP : ∀ x ∈ SP, x < h.size ∧ Sfe Z EL b.vm h x) (hp : pc + 3 = pc') (hsz : Ls.size = maxL) (hlen : argsL.length = ps.length) (hst : st = argsL.reverse ++ rest) (hW : (rest.map fun v => v.category).sum ≤ W) (hfr : rm.frames + 1 ≤ R.frames) (hlo : W + (yml + 11) + rm.locals ≤ R.locals) (hce : cells + rm.cells ≤ R.cells) (hsl : slots + rm.slots ≤ R.slots) (k : ∀ b' T' locs', Wk p l e R s m args below meth c Z a0 EL n0 y bytes maxL ret b' T' h locs' (cells + rm.cells) (slots + rm.slots) → (∀ x, x < h.size → Sfe Z EL b.vm h x → Sfe Z EL b'.vm h x) → Goes p.tables e below P (T'.setTop (mkF m pc' Ls (vv.toList ++ rest)))) : Goes p.tables e below P (T.setTop (mkF m pc Ls st)) := k_static K argsL rest W wl ws wz wc hy hpd C hd hSP hp hsz hlen hst hW hfr hlo hce hsl (fun b' T' h' locs' v K' tr q => by obtain ⟨rfl, rfl⟩ := q; exact k _ _ _ K' tr)
theorem k_special (K : Wk p l e R s m args below meth c Z a0 EL n0 y bytes maxL ret b T h locs cells slots) {i : Nat} {yy : MethodName} {yb : ByteArray} {yml : Nat} {yret : Option FieldType} {rm : Room} {SP : List Addr} {Q : Option Value → Heap → (Addr → Prop) → Prop} {ps : List FieldType} {r : Option FieldType} (argsL rest : List Value) (W : Nat) {a : Addr} (wl : (Cond.methodLink y.cls i yy).before a0 Z = true) (wi : (Cond.instanceMethod yy).before a0 Z = true) (wz : (Cond.initialized yy.cls).before a0 Z = true) (wc : (Cond.code yy yb yml yret).before a0 Z = true) (hin : yy.name = "<init>") (hnr : yret = none) (hy : yy.cls ≠ "java/lang/invoke/MethodHandle" ∧ yy.cls ≠ "java/lang/invoke/VarHandle") (hpd : parseMethodDescriptor yy.desc = some ⟨ps, r⟩) (C : Ct l Z EL n0 yy yb yml yret rm (.ref a :: argsL).toArray h SP Q) (hd : decode bytes pc = .ok (.invokespecial i, 3)) (hSP : ∀ x ∈ SP, x < h.size ∧ Sfe Z EL b.vm h x) (hp : pc + 3 = pc') (hsz : Ls.size = maxL) (hlen : argsL.length = ps.length) (hst : st = argsL.reverse ++ .ref a :: rest) (hW : (rest.map fun v => v.category).sum ≤ W) (hfr : rm.frames + 1 ≤ R.frames) (hlo : W + (yml + 11) + rm.locals ≤ R.locals) (hce : cells + rm.cells ≤ R.cells) (hsl : slots + rm.slots ≤ R.slots) (k : ∀ b' T' h' locs' v, Wk p l e R s m args below meth c Z a0 EL n0 y bytes maxL ret b' T' h' locs' (cells + rm.cells) (slots + rm.slots) → (∀ x, x < h.size → Sfe Z EL b.vm h x → Sfe Z EL b'.vm h' x) → Q v h' (Sfe Z EL b'.vm h') → Goes p.tables e below P (T'.setTop (mkF m pc' Ls (v.toList ++ rest)))) : Goes p.tables e below P (T.setTop (mkF m pc Ls st)) := by
  subst hp
  subst hnr
  obtain ⟨⟨vm0, k0, eb, g1, g2⟩, g3, g4⟩ := K.bs
  subst eb
  obtain ⟨v, vm1, ⟨T', L', c', n'⟩, -, X', hS', hsz', ⟨Lc, ⟨hF, hO', hQ⟩, l', y', z', hCH⟩, q⟩ := K.X.specialBackS K.hx (y := yy) hin K.hown (mvT K.hZ wl) (mvT K.hZ wi) (mvT K.hZ wc) hy (own_back (s := s) (vm0 := vm0) (W := W) C K.hZ wc wz hfr hlo g4 g3.1 hSP) (g := mkF m pc Ls st) rfl (hsz.trans K.hml.symm) (Steps.refl _) (a := a) (argsL := argsL) (rest := rest) (lenOf hpd hlen) hst (by show 2 * 0 + _ ≤ _; rw [Nat.mul_zero, Nat.zero_add]; exact hW) (hb K.hby hd) (fun _ _ => ⟨rfl, K.eT, hce, hsl⟩)
  dsimp only [Pt.U, Pt.locs, Pt.cells, Pt.slots] at X' l' y' z' q hQ hCH hS' hsz' hO'
  subst l' y' z'
  exact go (fun _ z => q.trans z) (k _ _ _ _ _ (wk_called K (b0 := (s.setVm vm0)) rfl X' hS' hsz' hCH hF hO') (fun x hx z => CHr.safe hCH hx z) hQ)
theorem k_specialP (K : Wk p l e R s m args below meth c Z a0 EL n0 y bytes maxL ret b T h locs cells slots) {i : Nat} {yy : MethodName} {yb : ByteArray} {yml : Nat} {yret : Option FieldType} {rm : Room} {SP : List Addr} {ps : List FieldType} {r : Option FieldType} (argsL rest : List Value) (W : Nat) {a : Addr} (wl : (Cond.methodLink y.cls i yy).before a0 Z = true) (wi : (Cond.instanceMethod yy).before a0 Z = true) (wz : (Cond.initialized yy.cls).before a0 Z = true) (wc : (Cond.code yy yb yml yret).before a0 Z = true) (hin : yy.name = "<init>") (hnr : yret = none) (hy : yy.cls ≠ "java/lang/invoke/MethodHandle" ∧ yy.cls ≠ "java/lang/invoke/VarHandle") (hpd : parseMethodDescriptor yy.desc = some ⟨ps, r⟩) {vv : Option Value} (C : Ct l Z EL n0 yy yb yml yret rm (.ref a :: argsL).toArray h SP (Pu vv h)) (hd : decode bytes pc = .ok (.invokespecial i, 3)) (hSP : ∀ x ∈ SP, x < h.size ∧ Sfe Z EL b.vm h x) (hp : pc + 3 = pc') (hsz : Ls.size = maxL) (hlen : argsL.length = ps.length) (hst : st = argsL.reverse ++ .ref a :: rest) (hW : (rest.map fun v => v.category).sum ≤ W) (hfr : rm.frames + 1 ≤ R.frames) (hlo : W + (yml + 11) + rm.locals ≤ R.locals) (hce : cells + rm.cells ≤ R.cells) (hsl : slots + rm.slots ≤ R.slots) (k : ∀ b' T' locs', Wk p l e R s m args below meth c Z a0 EL n0 y bytes maxL ret b' T' h locs' (cells + rm.cells) (slots + rm.slots) → (∀ x, x < h.size → Sfe Z EL b.vm h x → Sfe Z EL b'.vm h x) → Goes p.tables e below P (T'.setTop (mkF m pc' Ls (vv.toList ++ rest)))) : Goes p.tables e below P (T.setTop (mkF m pc Ls st)) := k_special K argsL rest W wl wi wz wc hin hnr hy hpd C hd hSP hp hsz hlen hst hW hfr hlo hce hsl (fun b' T' h' locs' v K' tr q => by obtain ⟨rfl, rfl⟩ := q; exact k _ _ _ K' tr)
theorem k_virtual (K : Wk p l e R s m args below meth c Z a0 EL n0 y bytes maxL ret b T h locs cells slots) {i : Nat} {yy : MethodName} {yb : ByteArray} {yml : Nat} {yret : Option FieldType} {rm : Room} {SP : List Addr} {Q : Option Value → Heap → (Addr → Prop) → Prop} {ps : List FieldType} {r : Option FieldType} (argsL rest : List Value) (W : Nat) {a : Addr} {C0 : String} {yv : MethodName} (wl : (Cond.methodLink y.cls i yv).before a0 Z = true) (wd : (Cond.declares yv).before a0 Z = true) (wi : (Cond.instanceMethod yy).before a0 Z = true) (wse : (Cond.selects C0 yv yy).before a0 Z = true) (wz : (Cond.initialized yy.cls).before a0 Z = true) (wc : (Cond.code yy yb yml yret).before a0 Z = true) (hnf : NotFace b yv) (hvd : yv.desc = yy.desc) (hyv : yv.cls ≠ "java/lang/invoke/MethodHandle" ∧ yv.cls ≠ "java/lang/invoke/VarHandle") (E : Exa Z h a C0) (hy : yy.cls ≠ "java/lang/invoke/MethodHandle" ∧ yy.cls ≠ "java/lang/invoke/VarHandle") (hpd : parseMethodDescriptor yy.desc = some ⟨ps, r⟩) (C : Ct l Z EL n0 yy yb yml yret rm (.ref a :: argsL).toArray h SP Q) (hd : decode bytes pc = .ok (.invokevirtual i, 3)) (hSP : ∀ x ∈ SP, x < h.size ∧ Sfe Z EL b.vm h x) (hp : pc + 3 = pc') (hsz : Ls.size = maxL) (hlen : argsL.length = ps.length) (hst : st = argsL.reverse ++ .ref a :: rest) (hW : (rest.map fun v => v.category).sum ≤ W) (hfr : rm.frames + 1 ≤ R.frames) (hlo : W + (yml + 11) + rm.locals ≤ R.locals) (hce : cells + rm.cells ≤ R.cells) (hsl : slots + rm.slots ≤ R.slots) (k : ∀ b' T' h' locs' v, Wk p l e R s m args below meth c Z a0 EL n0 y bytes maxL ret b' T' h' locs' (cells + rm.cells) (slots + rm.slots) → (∀ x, x < h.size → Sfe Z EL b.vm h x → Sfe Z EL b'.vm h' x) → Q v h' (Sfe Z EL b'.vm h') → Goes p.tables e below P (T'.setTop (mkF m pc' Ls (v.toList ++ rest)))) : Goes p.tables e below P (T.setTop (mkF m pc Ls st)) := by
  subst hp
  obtain ⟨cq, kq, qa, qb, qc⟩ := isOf K.hZ K.eT E
  obtain ⟨⟨vm0, k0, eb, g1, g2⟩, g3, g4⟩ := K.bs
  subst eb
  obtain ⟨v, vm1, ⟨T', L', c', n'⟩, -, X', hS', hsz', ⟨Lc, ⟨hF, hO', hQ⟩, l', y', z', hCH⟩, q⟩ := K.X.virtualBackS K.hx (y := yv) (z := yy) K.hown (mvT K.hZ wl) (mvT K.hZ wd) hnf (mvT K.hZ wse) (mvT K.hZ wi) hyv (own_back (s := s) (vm0 := vm0) (W := W) C K.hZ wc wz hfr hlo g4 g3.1 hSP) qa qc (g := mkF m pc Ls st) rfl (hsz.trans K.hml.symm) (Steps.refl _) (argsL := argsL) (rest := rest) (lenOf (hvd ▸ hpd) hlen) hst (by show 2 * 0 + _ ≤ _; rw [Nat.mul_zero, Nat.zero_add]; exact hW) (hb K.hby hd) (fun _ _ => ⟨rfl, K.eT, hce, hsl⟩)
  dsimp only [Pt.U, Pt.locs, Pt.cells, Pt.slots] at X' l' y' z' q hQ hCH hS' hsz' hO'
  subst l' y' z'
  exact go (fun _ z => q.trans z) (k _ _ _ _ _ (wk_called K (b0 := (s.setVm vm0)) rfl X' hS' hsz' hCH hF hO') (fun x hx z => CHr.safe hCH hx z) hQ)
theorem k_virtualP (K : Wk p l e R s m args below meth c Z a0 EL n0 y bytes maxL ret b T h locs cells slots) {i : Nat} {yy : MethodName} {yb : ByteArray} {yml : Nat} {yret : Option FieldType} {rm : Room} {SP : List Addr} {ps : List FieldType} {r : Option FieldType} (argsL rest : List Value) (W : Nat) {a : Addr} {C0 : String} {yv : MethodName} (wl : (Cond.methodLink y.cls i yv).before a0 Z = true) (wd : (Cond.declares yv).before a0 Z = true) (wi : (Cond.instanceMethod yy).before a0 Z = true) (wse : (Cond.selects C0 yv yy).before a0 Z = true) (wz : (Cond.initialized yy.cls).before a0 Z = true) (wc : (Cond.code yy yb yml yret).before a0 Z = true) (hnf : NotFace b yv) (hvd : yv.desc = yy.desc) (hyv : yv.cls ≠ "java/lang/invoke/MethodHandle" ∧ yv.cls ≠ "java/lang/invoke/VarHandle") (E : Exa Z h a C0) (hy : yy.cls ≠ "java/lang/invoke/MethodHandle" ∧ yy.cls ≠ "java/lang/invoke/VarHandle") (hpd : parseMethodDescriptor yy.desc = some ⟨ps, r⟩) {vv : Option Value} (C : Ct l Z EL n0 yy yb yml yret rm (.ref a :: argsL).toArray h SP (Pu vv h)) (hd : decode bytes pc = .ok (.invokevirtual i, 3)) (hSP : ∀ x ∈ SP, x < h.size ∧ Sfe Z EL b.vm h x) (hp : pc + 3 = pc') (hsz : Ls.size = maxL) (hlen : argsL.length = ps.length) (hst : st = argsL.reverse ++ .ref a :: rest) (hW : (rest.map fun v => v.category).sum ≤ W) (hfr : rm.frames + 1 ≤ R.frames) (hlo : W + (yml + 11) + rm.locals ≤ R.locals) (hce : cells + rm.cells ≤ R.cells) (hsl : slots + rm.slots ≤ R.slots) (k : ∀ b' T' locs', Wk p l e R s m args below meth c Z a0 EL n0 y bytes maxL ret b' T' h locs' (cells + rm.cells) (slots + rm.slots) → (∀ x, x < h.size → Sfe Z EL b.vm h x → Sfe Z EL b'.vm h x) → Goes p.tables e below P (T'.setTop (mkF m pc' Ls (vv.toList ++ rest)))) : Goes p.tables e below P (T.setTop (mkF m pc Ls st)) := k_virtual K argsL rest W wl wd wi wse wz wc hnf hvd hyv E hy hpd C hd hSP hp hsz hlen hst hW hfr hlo hce hsl (fun b' T' h' locs' v K' tr q => by obtain ⟨rfl, rfl⟩ := q; exact k _ _ _ K' tr)
theorem own_sel {args args' : Array Value} {C0 : String} {yv yy : MethodName} (w : (Cond.selects C0 yv yy).before args b = true) : (Cond.selects C0 yv yy).before args' b = true := mvT (State.Warmed39.refl b) w
theorem own_priv (K : Wk p l e R s m args below meth c Z a0 EL n0 y bytes maxL ret b T h locs cells slots) {C0 : String} {n : Nat} {yy : MethodName} (hc0 : C0 = yy.cls) (wi : (Cond.instantiable C0 n).before a0 Z = true) (wim : (Cond.instanceMethod yy).before a0 Z = true) (wpr : (Cond.privateMethod yy).before a0 Z = true) (hy : yy.cls ≠ "java/lang/invoke/MethodHandle" ∧ yy.cls ≠ "java/lang/invoke/VarHandle") : (Cond.selects yy.cls yy yy).before a0 b = true := by
  subst hc0
  have q : (Cond.instantiable yy.cls n).before a0 b = true := mvT K.hZ wi
  obtain ⟨c, k, h1, h2, h3, h4, -⟩ := Cond.instantiable_spec q
  simp only [Bool.or_eq_false_iff] at h4
  exact selects_self_of_private h1 h2 h4.1 (Cond.privateMethod_at (mvP K.hZ wpr (args := #[]))) (mvT K.hZ wim) hy
theorem k_private (K : Wk p l e R s m args below meth c Z a0 EL n0 y bytes maxL ret b T h locs cells slots) {i : Nat} {yy : MethodName} {yb : ByteArray} {yml : Nat} {yret : Option FieldType} {rm : Room} {SP : List Addr} {Q : Option Value → Heap → (Addr → Prop) → Prop} {ps : List FieldType} {r : Option FieldType} (argsL rest : List Value) (W : Nat) {a : Addr} {C0 : String} (wl : (Cond.methodLink y.cls i yy).before a0 Z = true) (wi : (Cond.instanceMethod yy).before a0 Z = true) (wse : (Cond.selects yy.cls yy yy).before a0 b = true) (wpr : (Cond.privateMethod yy).before a0 Z = true) (wz : (Cond.initialized yy.cls).before a0 Z = true) (wc : (Cond.code yy yb yml yret).before a0 Z = true) (E : Exa Z h a C0) (hy : yy.cls ≠ "java/lang/invoke/MethodHandle" ∧ yy.cls ≠ "java/lang/invoke/VarHandle") (hpd : parseMethodDescriptor yy.desc = some ⟨ps, r⟩) (C : Ct l Z EL n0 yy yb yml yret rm (.ref a :: argsL).toArray h SP Q) (hd : decode bytes pc = .ok (.invokevirtual i, 3)) (hSP : ∀ x ∈ SP, x < h.size ∧ Sfe Z EL b.vm h x) (hp : pc + 3 = pc') (hsz : Ls.size = maxL) (hlen : argsL.length = ps.length) (hst : st = argsL.reverse ++ .ref a :: rest) (hW : (rest.map fun v => v.category).sum ≤ W) (hfr : rm.frames + 1 ≤ R.frames) (hlo : W + (yml + 11) + rm.locals ≤ R.locals) (hce : cells + rm.cells ≤ R.cells) (hsl : slots + rm.slots ≤ R.slots) (k : ∀ b' T' h' locs' v, Wk p l e R s m args below meth c Z a0 EL n0 y bytes maxL ret b' T' h' locs' (cells + rm.cells) (slots + rm.slots) → (∀ x, x < h.size → Sfe Z EL b.vm h x → Sfe Z EL b'.vm h' x) → Q v h' (Sfe Z EL b'.vm h') → Goes p.tables e below P (T'.setTop (mkF m pc' Ls (v.toList ++ rest)))) : Goes p.tables e below P (T.setTop (mkF m pc Ls st)) := by
  subst hp
  obtain ⟨cq, qa, qb⟩ := E.cell
  obtain ⟨⟨vm0, k0, eb, g1, g2⟩, g3, g4⟩ := K.bs
  subst eb
  obtain ⟨v, vm1, ⟨T', L', c', n'⟩, -, X', hS', hsz', ⟨Lc, ⟨hF, hO', hQ⟩, l', y', z', hCH⟩, q⟩ := K.X.privateBackS K.hx (y := yy) K.hown (mvT K.hZ wl) (mvT K.hZ wi) (own_sel wse) (Cond.privateMethod_at (mvP K.hZ wpr (args := #[]))) (mvT K.hZ wc) hy (own_back (s := s) (vm0 := vm0) (W := W) C K.hZ wc wz hfr hlo g4 g3.1 hSP) (g := mkF m pc Ls st) rfl (hsz.trans K.hml.symm) (Steps.refl _) (a := a) (by rw [K.eT]; exact qa) qb (argsL := argsL) (rest := rest) (lenOf hpd hlen) hst (by show 2 * 0 + _ ≤ _; rw [Nat.mul_zero, Nat.zero_add]; exact hW) (hb K.hby hd) (fun _ _ => ⟨rfl, K.eT, hce, hsl⟩)
  dsimp only [Pt.U, Pt.locs, Pt.cells, Pt.slots] at X' l' y' z' q hQ hCH hS' hsz' hO'
  subst l' y' z'
  exact go (fun _ z => q.trans z) (k _ _ _ _ _ (wk_called K (b0 := (s.setVm vm0)) rfl X' hS' hsz' hCH hF hO') (fun x hx z => CHr.safe hCH hx z) hQ)
theorem k_privateP (K : Wk p l e R s m args below meth c Z a0 EL n0 y bytes maxL ret b T h locs cells slots) {i : Nat} {yy : MethodName} {yb : ByteArray} {yml : Nat} {yret : Option FieldType} {rm : Room} {SP : List Addr} {ps : List FieldType} {r : Option FieldType} (argsL rest : List Value) (W : Nat) {a : Addr} {C0 : String} (wl : (Cond.methodLink y.cls i yy).before a0 Z = true) (wi : (Cond.instanceMethod yy).before a0 Z = true) (wse : (Cond.selects yy.cls yy yy).before a0 b = true) (wpr : (Cond.privateMethod yy).before a0 Z = true) (wz : (Cond.initialized yy.cls).before a0 Z = true) (wc : (Cond.code yy yb yml yret).before a0 Z = true) (E : Exa Z h a C0) (hy : yy.cls ≠ "java/lang/invoke/MethodHandle" ∧ yy.cls ≠ "java/lang/invoke/VarHandle") (hpd : parseMethodDescriptor yy.desc = some ⟨ps, r⟩) {vv : Option Value} (C : Ct l Z EL n0 yy yb yml yret rm (.ref a :: argsL).toArray h SP (Pu vv h)) (hd : decode bytes pc = .ok (.invokevirtual i, 3)) (hSP : ∀ x ∈ SP, x < h.size ∧ Sfe Z EL b.vm h x) (hp : pc + 3 = pc') (hsz : Ls.size = maxL) (hlen : argsL.length = ps.length) (hst : st = argsL.reverse ++ .ref a :: rest) (hW : (rest.map fun v => v.category).sum ≤ W) (hfr : rm.frames + 1 ≤ R.frames) (hlo : W + (yml + 11) + rm.locals ≤ R.locals) (hce : cells + rm.cells ≤ R.cells) (hsl : slots + rm.slots ≤ R.slots) (k : ∀ b' T' locs', Wk p l e R s m args below meth c Z a0 EL n0 y bytes maxL ret b' T' h locs' (cells + rm.cells) (slots + rm.slots) → (∀ x, x < h.size → Sfe Z EL b.vm h x → Sfe Z EL b'.vm h x) → Goes p.tables e below P (T'.setTop (mkF m pc' Ls (vv.toList ++ rest)))) : Goes p.tables e below P (T.setTop (mkF m pc Ls st)) := k_private K argsL rest W wl wi wse wpr wz wc E hy hpd C hd hSP hp hsz hlen hst hW hfr hlo hce hsl (fun b' T' h' locs' v K' tr q => by obtain ⟨rfl, rfl⟩ := q; exact k _ _ _ K' tr)
theorem k_interface (K : Wk p l e R s m args below meth c Z a0 EL n0 y bytes maxL ret b T h locs cells slots) {i : Nat} {yy : MethodName} {yb : ByteArray} {yml : Nat} {yret : Option FieldType} {rm : Room} {SP : List Addr} {Q : Option Value → Heap → (Addr → Prop) → Prop} {ps : List FieldType} {r : Option FieldType} (argsL rest : List Value) (W : Nat) {a : Addr} {C0 : String} {yv : MethodName} {cnt : Nat} (wl : (Cond.methodLink y.cls i yv).before a0 Z = true) (wd : (Cond.declares yv).before a0 Z = true) (wf : (Cond.interfaceMethod yv.cls yv.cls yv.name yv.desc).before args b = true) (wse : (Cond.selects C0 yv yy).before a0 Z = true) (wi : (Cond.instanceMethod yy).before a0 Z = true) (wpu : (Cond.publicMethod yy).before a0 Z = true) (wun : (Cond.unhidden C0 yv.name yv.desc).before a0 Z = true) (wca : (Cond.castable C0 yv.cls).before a0 Z = true) (wz : (Cond.initialized yy.cls).before a0 Z = true) (wc : (Cond.code yy yb yml yret).before a0 Z = true) (hvd : yv.desc = yy.desc) (hyv : yv.cls ≠ "java/lang/invoke/MethodHandle" ∧ yv.cls ≠ "java/lang/invoke/VarHandle") (E : Exa Z h a C0) (hy : yy.cls ≠ "java/lang/invoke/MethodHandle" ∧ yy.cls ≠ "java/lang/invoke/VarHandle") (hpd : parseMethodDescriptor yy.desc = some ⟨ps, r⟩) (C : Ct l Z EL n0 yy yb yml yret rm (.ref a :: argsL).toArray h SP Q) (hd : decode bytes pc = .ok (.invokeinterface i cnt, 5)) (hSP : ∀ x ∈ SP, x < h.size ∧ Sfe Z EL b.vm h x) (hp : pc + 5 = pc') (hsz : Ls.size = maxL) (hlen : argsL.length = ps.length) (hst : st = argsL.reverse ++ .ref a :: rest) (hW : (rest.map fun v => v.category).sum ≤ W) (hfr : rm.frames + 1 ≤ R.frames) (hlo : W + (yml + 11) + rm.locals ≤ R.locals) (hce : cells + rm.cells ≤ R.cells) (hsl : slots + rm.slots ≤ R.slots) (k : ∀ b' T' h' locs' v, Wk p l e R s m args below meth c Z a0 EL n0 y bytes maxL ret b' T' h' locs' (cells + rm.cells) (slots + rm.slots) → (∀ x, x < h.size → Sfe Z EL b.vm h x → Sfe Z EL b'.vm h' x) → Q v h' (Sfe Z EL b'.vm h') → Goes p.tables e below P (T'.setTop (mkF m pc' Ls (v.toList ++ rest)))) : Goes p.tables e below P (T.setTop (mkF m pc Ls st)) := by
  subst hp
  obtain ⟨cq, kq, qa, qb, qc⟩ := isOf K.hZ K.eT E
  obtain ⟨⟨vm0, k0, eb, g1, g2⟩, g3, g4⟩ := K.bs
  subst eb
  obtain ⟨v, vm1, ⟨T', L', c', n'⟩, -, X', hS', hsz', ⟨Lc, ⟨hF, hO', hQ⟩, l', y', z', hCH⟩, q⟩ := K.X.interfaceBackS K.hx (xi := yv) (y := yy) K.hown (mvT K.hZ wl) (mvT K.hZ wd) wf (mvT K.hZ wse) (mvT K.hZ wi) (mvT K.hZ wpu) (mvT K.hZ wun) (mvT K.hZ wca) hyv (own_back (s := s) (vm0 := vm0) (W := W) C K.hZ wc wz hfr hlo g4 g3.1 hSP) qa qb qc (g := mkF m pc Ls st) rfl (hsz.trans K.hml.symm) (Steps.refl _) (argsL := argsL) (rest := rest) (lenOf (hvd ▸ hpd) hlen) hst (by show 2 * 0 + _ ≤ _; rw [Nat.mul_zero, Nat.zero_add]; exact hW) (hb K.hby hd) (fun _ _ => ⟨rfl, K.eT, hce, hsl⟩)
  dsimp only [Pt.U, Pt.locs, Pt.cells, Pt.slots] at X' l' y' z' q hQ hCH hS' hsz' hO'
  subst l' y' z'
  exact go (fun _ z => q.trans z) (k _ _ _ _ _ (wk_called K (b0 := (s.setVm vm0)) rfl X' hS' hsz' hCH hF hO') (fun x hx z => CHr.safe hCH hx z) hQ)
theorem k_interfaceP (K : Wk p l e R s m args below meth c Z a0 EL n0 y bytes maxL ret b T h locs cells slots) {i : Nat} {yy : MethodName} {yb : ByteArray} {yml : Nat} {yret : Option FieldType} {rm : Room} {SP : List Addr} {ps : List FieldType} {r : Option FieldType} (argsL rest : List Value) (W : Nat) {a : Addr} {C0 : String} {yv : MethodName} {cnt : Nat} (wl : (Cond.methodLink y.cls i yv).before a0 Z = true) (wd : (Cond.declares yv).before a0 Z = true) (wf : (Cond.interfaceMethod yv.cls yv.cls yv.name yv.desc).before args b = true) (wse : (Cond.selects C0 yv yy).before a0 Z = true) (wi : (Cond.instanceMethod yy).before a0 Z = true) (wpu : (Cond.publicMethod yy).before a0 Z = true) (wun : (Cond.unhidden C0 yv.name yv.desc).before a0 Z = true) (wca : (Cond.castable C0 yv.cls).before a0 Z = true) (wz : (Cond.initialized yy.cls).before a0 Z = true) (wc : (Cond.code yy yb yml yret).before a0 Z = true) (hvd : yv.desc = yy.desc) (hyv : yv.cls ≠ "java/lang/invoke/MethodHandle" ∧ yv.cls ≠ "java/lang/invoke/VarHandle") (E : Exa Z h a C0) (hy : yy.cls ≠ "java/lang/invoke/MethodHandle" ∧ yy.cls ≠ "java/lang/invoke/VarHandle") (hpd : parseMethodDescriptor yy.desc = some ⟨ps, r⟩) {vv : Option Value} (C : Ct l Z EL n0 yy yb yml yret rm (.ref a :: argsL).toArray h SP (Pu vv h)) (hd : decode bytes pc = .ok (.invokeinterface i cnt, 5)) (hSP : ∀ x ∈ SP, x < h.size ∧ Sfe Z EL b.vm h x) (hp : pc + 5 = pc') (hsz : Ls.size = maxL) (hlen : argsL.length = ps.length) (hst : st = argsL.reverse ++ .ref a :: rest) (hW : (rest.map fun v => v.category).sum ≤ W) (hfr : rm.frames + 1 ≤ R.frames) (hlo : W + (yml + 11) + rm.locals ≤ R.locals) (hce : cells + rm.cells ≤ R.cells) (hsl : slots + rm.slots ≤ R.slots) (k : ∀ b' T' locs', Wk p l e R s m args below meth c Z a0 EL n0 y bytes maxL ret b' T' h locs' (cells + rm.cells) (slots + rm.slots) → (∀ x, x < h.size → Sfe Z EL b.vm h x → Sfe Z EL b'.vm h x) → Goes p.tables e below P (T'.setTop (mkF m pc' Ls (vv.toList ++ rest)))) : Goes p.tables e below P (T.setTop (mkF m pc Ls st)) := k_interface K argsL rest W wl wd wf wse wi wpu wun wca wz wc hvd hyv E hy hpd C hd hSP hp hsz hlen hst hW hfr hlo hce hsl (fun b' T' h' locs' v K' tr q => by obtain ⟨rfl, rfl⟩ := q; exact k _ _ _ K' tr)
theorem k_initO (K : Wk p l e R s m args below meth c Z a0 EL n0 y bytes maxL ret b T h locs cells slots) {i : Nat} {a : Addr} (wl : (Cond.methodLink y.cls i Lib.objectInit).before a0 Z = true) (wi : (Cond.instanceMethod Lib.objectInit).before a0 Z = true) (wc : (Cond.code Lib.objectInit ⟨#[0xb1]⟩ 1 none).before a0 Z = true) (hd : decode bytes pc = .ok (.invokespecial i, 3)) (hp : pc + 3 = pc') (hsz : Ls.size = maxL) (hfr : 1 ≤ R.frames) (W : Nat) (hW : (st.map fun v => v.category).sum ≤ W) (hlo : W + 12 ≤ R.locals) (k : ∀ T', Wk p l e R s m args below meth c Z a0 EL n0 y bytes maxL ret b T' h locs cells slots → Goes p.tables e below P (T'.setTop (mkF m pc' Ls st))) : Goes p.tables e below P (T.setTop (mkF m pc Ls (.ref a :: st))) := by
  subst hp
  obtain ⟨T', X', e', q⟩ := initO K.X K.hx K.hZ K.hown wl wi wc K.eT (g := mkF m pc Ls (.ref a :: st)) rfl (hsz.trans K.hml.symm) rfl (hb K.hby hd) hfr (W := W) (by show 2 * 0 + _ ≤ _; rw [Nat.mul_zero, Nat.zero_add]; exact hW) hlo
  exact go q (k T' (K.move X' e' K.fr K.old K.bs))
theorem k_ldcS (K : Wk p l e R s m args below meth c Z a0 EL n0 y bytes maxL ret b T h locs cells slots) {i : Nat} {text : String} {vs : List Value} {z : Int32} (wd : (Cond.stringLink y.cls i text).before a0 Z = true) (wS : ∀ a ∈ Bundle.stringAtoms, a.before a0 Z = true) (hmem : (y.cls, i) ∈ EL) (ht : (∀ c ∈ text.toList, c.toNat < 256) ∧ text.toList.map (fun c => Value.int (Jvm.Lit.byteI c.toNat.toUInt16)) = vs) (hz : ¬ z < 0) (hl : z.toNatClampNeg = vs.length) (n : Nat) (hn : 4 * text.toList.length ≤ n) (hbig : n ≤ 536870912) (hd : decode bytes pc = .ok (.ldc i, 2)) (hp : pc + 2 = pc') (hce : cells + 2 ≤ R.cells) (hsl : slots + (n + 4) ≤ R.slots) (k : ∀ b' T' h' a d kd, Wk p l e R s m args below meth c Z a0 EL n0 y bytes maxL ret b' T' h' locs (cells + 2) (slots + (n + 4)) → Ext h h' → (∀ x, x < h.size → Sfe Z EL b.vm h x → Sfe Z EL b'.vm h' x) → Exa Z h' a "java/lang/String" → Fld Z h' a "java/lang/String" "coder" "B" (.int 0) → Fld Z h' a "java/lang/String" "value" "[B" (.ref d) → Arv Z h' d kd .byte z vs (.int 0) → (∀ x, Sfe Z EL b'.vm h' x → x ≠ a ∧ x ≠ d) → Goes p.tables e below P (T'.setTop (mkF m pc' Ls (.ref a :: st)))) : Goes p.tables e below P (T.setTop (mkF m pc Ls st)) := by
  subst hp
  obtain ⟨⟨vm0, k0, eb, g1, g2⟩, g3, g4⟩ := K.bs
  subst eb
  obtain ⟨a, T', h', k1, d, kd, X', e', E', hS', hk1, hW, hf, A1, A2, A3, A4, -, -, hCr, -, hne, q⟩ := ldcCH K.X K.hx K.hZ K.hown wd wS K.eT g1 g2 g4 hmem g3.1 ht hz hl (g := mkF m pc Ls st) rfl (hb K.hby hd) hn hbig hce hsl
  exact go q (k (s.setVm T'.vm) T' h' a d kd ⟨X', e', K.fr, K.hx, hW, hf, K.hby, K.hml, K.hret, K.hlk, K.hnm, K.old.ext E', ⟨⟨T'.vm, k1, rfl, hS', hk1⟩, g3.trans hCr, g4⟩⟩ E' (fun x hx z => CHr.safe hCr hx z) A1 A2 A3 A4 hne)
theorem k_ldcO (K : Wk p l e R s m args below meth c Z a0 EL n0 y bytes maxL ret b T h locs cells slots) {i : Nat} {text : String} (wd : (Cond.stringLink y.cls i text).before a0 Z = true) (wS : ∀ a ∈ Bundle.stringAtoms, a.before a0 Z = true) (n : Nat) (hn : 4 * text.toList.length ≤ n) (hbig : n ≤ 536870912) (hd : decode bytes pc = .ok (.ldc i, 2)) (hp : pc + 2 = pc') (hce : cells + 2 ≤ R.cells) (hsl : slots + (n + 4) ≤ R.slots) (k : ∀ b' T' h' a, Wk p l e R s m args below meth c Z a0 EL n0 y bytes maxL ret b' T' h' locs (cells + 2) (slots + (n + 4)) → Ext h h' → (∀ x, x < h.size → Sfe Z EL b.vm h x → Sfe Z EL b'.vm h' x) → Goes p.tables e below P (T'.setTop (mkF m pc' Ls (.ref a :: st)))) : Goes p.tables e below P (T.setTop (mkF m pc Ls st)) := by
  subst hp
  obtain ⟨⟨vm0, k0, eb, g1, g2⟩, g3, g4⟩ := K.bs
  subst eb
  obtain ⟨a, T', h', k1, X', e', E', hS', hk1, hW, hf, hCr, -, q⟩ := ldcOH K.X K.hx K.hZ K.hown wd wS K.eT g1 g2 g4 g3.1 (g := mkF m pc Ls st) rfl (hb K.hby hd) hn hbig hce hsl
  exact go q (k (s.setVm T'.vm) T' h' a ⟨X', e', K.fr, K.hx, hW, hf, K.hby, K.hml, K.hret, K.hlk, K.hnm, K.old.ext E', ⟨⟨T'.vm, k1, rfl, hS', hk1⟩, g3.trans hCr, g4⟩⟩ E' (fun x hx z => CHr.safe hCr hx z))
end Own
abbrev Tb (a0 : Array Value) (Z : State) : Prop := ∀ d ∈ tables_1, d.before a0 Z = true
def EL0 : List (String × Nat) := consts_1
theorem own_n0 {Z : State} {n0 : Nat} {h : Heap} (O : Old Z n0 h) : n0 ≤ h.size := O.1 ▸ O.2.1
theorem own_ne {x a : Addr} {h : Heap} (q : x < h.size) (g : a = h.size) : x ≠ a := fun e => by rw [e, g] at q; exact Nat.lt_irrefl _ q
theorem own_ne2 {x a : Addr} {h : Heap} (q : x < h.size) (g : h.size ≤ a) : x ≠ a := Nat.ne_of_lt (Nat.lt_of_lt_of_le q g)
theorem own_old {Z : State} {n0 : Nat} {h : Heap} {a : Addr} (O : Old Z n0 h) (g : a = h.size) : n0 ≤ a := g ▸ own_n0 O
def Str (Z : State) (h : Heap) (a b : Addr) (k : ClassId) (cd z : Int32) (vs : List Value) : Prop := Exa Z h a "java/lang/String" ∧ Fld Z h a "java/lang/String" "coder" "B" (.int cd) ∧ Fld Z h a "java/lang/String" "value" "[B" (.ref b) ∧ Arv Z h b k .byte z vs (.int 0)
section StrFacts
variable {Z : State} {h h' : Heap} {a b x : Addr} {k : ClassId} {cd z : Int32} {vs : List Value} {sl : Nat} {v : Value} {ws : List Addr}
theorem Str.ext (S : Str Z h a b k cd z vs) (E : Ext h h') : Str Z h' a b k cd z vs := ⟨S.1.ext E, S.2.1.ext E, S.2.2.1.ext E, S.2.2.2.ext E⟩
theorem Str.keep (S : Str Z h a b k cd z vs) (K : Keep h h' ws) (q1 : a ∉ ws) (q2 : b ∉ ws) : Str Z h' a b k cd z vs := ⟨S.1.keep K, S.2.1.keep K q1, S.2.2.1.keep K q1, S.2.2.2.keep K q2⟩
theorem Str.other (S : Str Z h a b k cd z vs) (W : Wr h h' x sl v) (q1 : a ≠ x) (q2 : b ≠ x) : Str Z h' a b k cd z vs := ⟨S.1.wr W, S.2.1.other W (Or.inl q1), S.2.2.1.other W (Or.inl q1), S.2.2.2.other W q2⟩
theorem Str.lt (S : Str Z h a b k cd z vs) : a < h.size := S.1.lt
theorem Str.blt (S : Str Z h a b k cd z vs) : b < h.size := S.2.2.2.lt
end StrFacts
theorem own_i32 {a b : Int32} : a < b ↔ a.toInt < b.toInt := Int32.lt_iff_toInt_lt
theorem own_i32e {a b : Int32} (h : a.toInt = b.toInt) : a = b := Int32.toInt_inj.mp h
theorem own_0 : (0 : Int32).toInt = 0 := by decide
theorem own_1 : (1 : Int32).toInt = 1 := by decide
theorem own_255 : (255 : Int32).toInt = 255 := by decide
theorem own_add1 {i : Int32} {n : Nat} (h : i.toInt = n) (hn : n < 2147483647) : (i + 1).toInt = (n + 1 : Nat) := by
  rw [XT.add32 (by rw [h, own_1]; constructor <;> omega), h, own_1]; omega
theorem own_clamp {i : Int32} {n : Nat} (h : i.toInt = n) : i.toNatClampNeg = n := by rw [Int32.toNatClampNeg, h]; rfl
theorem own_in {i z : Int32} {n m : Nat} (h : i.toInt = n) (hz : z.toInt = m) (q : n < m) : ¬ i < 0 ∧ i < z := by
  rw [own_i32, own_i32, h, hz, own_0]; omega
def byteV (c : Int32) : Value := .int c.toInt8.toInt32
def preN : List Int32 → Nat
  | [] => 0
  | c :: t => if (255 : Int32) < c then 0 else preN t + 1
def fillL (cs : List Int32) (i : Nat) : List Value := (cs.take i).map byteV ++ List.replicate (cs.length - i) (.int 0)
theorem fillL_len (cs : List Int32) (i : Nat) (h : i ≤ cs.length) : (fillL cs i).length = cs.length := by simp [fillL]; omega
theorem fillL_zero (cs : List Int32) : fillL cs 0 = List.replicate cs.length (.int 0) := by simp [fillL]
theorem fillL_set (cs : List Int32) (i : Nat) (h : i < cs.length) : (fillL cs i).set i (byteV cs[i]) = fillL cs (i + 1) := by
  apply List.ext_getElem?
  intro j
  have e1 : (List.take i (List.map byteV cs)).length = i := by simp; omega
  simp only [fillL, List.getElem?_set, List.map_take, List.getElem?_append, List.length_take, List.length_map, List.getElem?_take, List.getElem?_map, List.getElem?_replicate, List.length_append, List.length_replicate]
  rcases Nat.lt_trichotomy j i with q | q | q
  · simp [show ¬ i = j by omega, show j < i by omega, show j < i + 1 by omega, show j < cs.length by omega, show i < cs.length by omega, Nat.min_eq_left (show i ≤ cs.length by omega), Nat.min_eq_left (show i + 1 ≤ cs.length by omega)]
  · subst q; simp [h, Nat.min_eq_left (show j ≤ cs.length by omega), Nat.min_eq_left (show j + 1 ≤ cs.length by omega)]; omega
  · simp [show ¬ i = j by omega, show ¬ j < i by omega, show ¬ j < i + 1 by omega, Nat.min_eq_left (show i ≤ cs.length by omega), Nat.min_eq_left (show i + 1 ≤ cs.length by omega), show ¬ j < i from by omega]
    congr 1
    apply propext; omega
theorem preN_le : ∀ cs : List Int32, preN cs ≤ cs.length
  | [] => Nat.le_refl _
  | c :: t => by unfold preN; split <;> simp; exact preN_le t
theorem preN_at : ∀ (cs : List Int32) (i : Nat) (h : i < cs.length), (∀ j (hj : j < i), ¬ (255 : Int32) < cs[j]) → (255 : Int32) < cs[i] → preN cs = i
  | c :: t, 0, h, _, q => by unfold preN; exact if_pos q
  | c :: t, i + 1, h, hl, q => by
    unfold preN
    have h0 : ¬ (255 : Int32) < c := hl 0 (by omega)
    rw [if_neg h0, preN_at t i (by simpa using h) (fun j hj => hl (j + 1) (by omega)) q]
theorem preN_all : ∀ (cs : List Int32), (∀ j (hj : j < cs.length), ¬ (255 : Int32) < cs[j]) → preN cs = cs.length
  | [], _ => rfl
  | c :: t, h => by
    have h0 : ¬ (255 : Int32) < c := h 0 (by simp)
    unfold preN; rw [if_neg h0, preN_all t fun j hj => h (j + 1) (by simpa using hj)]; rfl
theorem own_byte (c : Int32) : nar .byte c.toInt8.toInt32 = c.toInt8.toInt32 := by simp [nar]
theorem own_getD (cs : List Int32) (i : Nat) (h : i < cs.length) : (cs.map Value.int).getD i (.int 0) = .int cs[i] := by simp [List.getD_eq_getElem?_getD, h]
theorem d_jdk_52_method_21_code_0 : decode jdk_52_method_21_code 0 = .ok (.iconst 0, 1) := by decide +kernel
theorem d_jdk_52_method_21_code_1 : decode jdk_52_method_21_code 1 = .ok (.istore 5, 2) := by decide +kernel
theorem d_jdk_52_method_21_code_3 : decode jdk_52_method_21_code 3 = .ok (.iload 5, 2) := by decide +kernel
theorem d_jdk_52_method_21_code_5 : decode jdk_52_method_21_code 5 = .ok (.iload 4, 2) := by decide +kernel
theorem d_jdk_52_method_21_code_7 : decode jdk_52_method_21_code 7 = .ok (.if_icmp .ge 37, 3) := by decide +kernel
theorem d_jdk_52_method_21_code_44 : decode jdk_52_method_21_code 44 = .ok (.iload 4, 2) := by decide +kernel
theorem d_jdk_52_method_21_code_46 : decode jdk_52_method_21_code 46 = .ok (.ireturn, 1) := by decide +kernel
theorem d_jdk_52_method_21_code_10 : decode jdk_52_method_21_code 10 = .ok (.aload_n 0, 1) := by decide +kernel
theorem d_jdk_52_method_21_code_11 : decode jdk_52_method_21_code 11 = .ok (.iload_n 1, 1) := by decide +kernel
theorem d_jdk_52_method_21_code_12 : decode jdk_52_method_21_code 12 = .ok (.caload, 1) := by decide +kernel
theorem d_jdk_52_method_21_code_13 : decode jdk_52_method_21_code 13 = .ok (.istore 6, 2) := by decide +kernel
theorem d_jdk_52_method_21_code_15 : decode jdk_52_method_21_code 15 = .ok (.iload 6, 2) := by decide +kernel
theorem d_jdk_52_method_21_code_17 : decode jdk_52_method_21_code 17 = .ok (.sipush 255, 3) := by decide +kernel
theorem d_jdk_52_method_21_code_20 : decode jdk_52_method_21_code 20 = .ok (.if_icmp .le 6, 3) := by decide +kernel
theorem d_jdk_52_method_21_code_26 : decode jdk_52_method_21_code 26 = .ok (.aload_n 2, 1) := by decide +kernel
theorem d_jdk_52_method_21_code_27 : decode jdk_52_method_21_code 27 = .ok (.iload_n 3, 1) := by decide +kernel
theorem d_jdk_52_method_21_code_28 : decode jdk_52_method_21_code 28 = .ok (.iload 6, 2) := by decide +kernel
theorem d_jdk_52_method_21_code_30 : decode jdk_52_method_21_code 30 = .ok (.i2b, 1) := by decide +kernel
theorem d_jdk_52_method_21_code_31 : decode jdk_52_method_21_code 31 = .ok (.bastore, 1) := by decide +kernel
theorem d_jdk_52_method_21_code_32 : decode jdk_52_method_21_code 32 = .ok (.iinc 1 1, 3) := by decide +kernel
theorem d_jdk_52_method_21_code_35 : decode jdk_52_method_21_code 35 = .ok (.iinc 3 1, 3) := by decide +kernel
theorem d_jdk_52_method_21_code_38 : decode jdk_52_method_21_code 38 = .ok (.iinc 5 1, 3) := by decide +kernel
theorem d_jdk_52_method_21_code_41 : decode jdk_52_method_21_code 41 = .ok (.goto (-38), 3) := by decide +kernel
theorem d_jdk_52_method_21_code_23 : decode jdk_52_method_21_code 23 = .ok (.iload 5, 2) := by decide +kernel
theorem d_jdk_52_method_21_code_25 : decode jdk_52_method_21_code 25 = .ok (.ireturn, 1) := by decide +kernel
theorem pl_java_lang_StringUTF16 : plainName "java/lang/StringUTF16" = true := by first | (simp [plainName, overriddenIn]; done) | decide +kernel
set_option maxRecDepth 65536 in
set_option maxHeartbeats 40000000 in
theorem c_compress5 (l : Launch) (Z : State) (a0 : Array Value) (hw : Tb a0 Z) (hEW : EW Z a0 EL0) (n0 : Nat) (va d : Addr) (kv kd : ClassId) (n : Int32) (cs : List Int32) (h0 : Heap) (O : Old Z n0 h0) (hn : n.toInt = cs.length) (hb : cs.length ≤ 4000) (V1 : Arv Z h0 va kv .char n (cs.map Value.int) (.int 0)) (V2 : Arv Z h0 d kd .byte n (List.replicate cs.length (.int 0)) (.int 0)) (ne_va_d : va ≠ d) (ga_d : n0 ≤ d) :
    Ct l Z EL0 n0 (⟨"java/lang/StringUTF16", "compress", "([CI[BII)I"⟩ : MethodName) jdk_52_method_21_code 7 (some .int) ({ frames := 0, cells := 0, slots := 0, locals := 0 } : Room) #[(.ref va), (.int (0 : Int32)), (.ref d), (.int (0 : Int32)), (.int n)] h0 [d] (fun v h _ => v = some (.int (Int32.ofNat (preN cs))) ∧ Keep h0 h [d] ∧ Arv Z h d kd .byte n (fillL cs (preN cs)) (.int 0)) := by
  refine Ct.of (a0 := a0) #[.val (.ref va), .val (.int (0 : Int32)), .val (.ref d), .val (.int (0 : Int32)), .val (.int n), .unset, .unset] hEW O (plainFor_of_name pl_java_lang_StringUTF16) (fun m => by first | (simp [entryFrame, mkF, argsToLocals, Value.category]; done) | rfl) ?_
  intro p_ e_ s_ m_ below_ meth_ c_ b_ T_ K hSP
  refine k_iconst K (0 : Int32) d_jdk_52_method_21_code_0 (pc' := 1) rfl rfl ?_
  refine k_istore K d_jdk_52_method_21_code_1 (pc' := 3) (L' := #[.val (.ref va), .val (.int (0 : Int32)), .val (.ref d), .val (.int (0 : Int32)), .val (.int n), .val (.int (0 : Int32)), .unset]) rfl rfl ?_
  have LOOP : ∀ (k : Nat) (i : Int32) (j : Nat) (hj : i.toInt = j) (hk : j + k = cs.length) (hlow : ∀ x (hx : x < j), ¬ (255 : Int32) < cs[x]) (s6 : Slot) (hs6 : s6 = .unset ∨ ∃ w, s6 = .val (.int w)) (bl Tl : State) (hl : Heap) (Ll : List Loc), Wk p_ l e_ ({ frames := 0, cells := 0, slots := 0, locals := 0 } : Room) s_ m_ #[(.ref va), (.int (0 : Int32)), (.ref d), (.int (0 : Int32)), (.int n)] below_ meth_ c_ Z a0 EL0 n0 (⟨"java/lang/StringUTF16", "compress", "([CI[BII)I"⟩ : MethodName) jdk_52_method_21_code 7 (some .int) bl Tl hl Ll 0 0 → (Keep h0 hl [d]) → (Arv Z hl va kv .char n (cs.map Value.int) (.int 0)) → (Arv Z hl d kd .byte n (fillL cs j) (.int 0)) → (Sfe Z EL0 bl.vm hl d) → Goes p_.tables e_ below_ (FinW Z EL0 s_ n0 ({ frames := 0, cells := 0, slots := 0, locals := 0 } : Room) (fun v h _ => v = some (.int (Int32.ofNat (preN cs))) ∧ Keep h0 h [d] ∧ Arv Z h d kd .byte n (fillL cs (preN cs)) (.int 0))) (Tl.setTop (mkF m_ 3 #[.val (.ref va), .val (.int i), .val (.ref d), .val (.int i), .val (.int n), .val (.int i), s6] [])) := by
    intro k
    induction k with
    | zero =>
      intro i j hj hk hlow s6 hs6 bl Tl hl Ll Kl KP V_va V_d sf_d
      refine k_iload Kl d_jdk_52_method_21_code_3 (pc' := 5) rfl rfl ?_
      refine k_iload Kl d_jdk_52_method_21_code_5 (pc' := 7) rfl rfl ?_
      refine k_icmp_ge Kl d_jdk_52_method_21_code_7 (by decide) (pc' := 44) (pc2 := 10) (by decide) rfl (fun hc7 => ?_) (fun q => absurd q (by rw [own_i32, hj, hn]; omega))
      refine k_iload Kl d_jdk_52_method_21_code_44 (pc' := 46) rfl rfl ?_
      have ej : j = cs.length := by omega
      subst ej
      have ep := preN_all cs hlow
      have en : n = Int32.ofNat (preN cs) := own_i32e (by rw [hn, ep, Int32.toInt_ofNat_of_lt (by omega)])
      exact k_iret Kl d_jdk_52_method_21_code_46 rfl (fun sf ht => ⟨by rw [en], KP, by rw [ep]; exact V_d⟩) (by decide) (by decide)
    | succ k ih =>
      intro i j hj hk hlow s6 hs6 bl Tl hl Ll Kl KP V_va V_d sf_d
      have hjl : j < cs.length := by omega
      refine k_iload Kl d_jdk_52_method_21_code_3 (pc' := 5) rfl rfl ?_
      refine k_iload Kl d_jdk_52_method_21_code_5 (pc' := 7) rfl rfl ?_
      refine k_icmp_ge Kl d_jdk_52_method_21_code_7 (by decide) (pc' := 44) (pc2 := 10) (by decide) rfl (fun q => absurd (by rw [own_i32, hj, hn]; omega) q) (fun hc7 => ?_)
      refine k_aloadN Kl d_jdk_52_method_21_code_10 (pc' := 11) rfl rfl rfl ?_
      refine k_iloadN Kl d_jdk_52_method_21_code_11 (pc' := 12) rfl rfl ?_
      refine k_caload Kl (j := i) V_va (own_in hj hn hjl) (by rw [own_clamp hj]; exact own_getD cs j hjl) d_jdk_52_method_21_code_12 (pc' := 13) rfl ?_
      refine k_istore Kl d_jdk_52_method_21_code_13 (pc' := 15) (L' := #[.val (.ref va), .val (.int i), .val (.ref d), .val (.int i), .val (.int n), .val (.int i), .val (.int cs[j])]) rfl (by rcases hs6 with rfl | ⟨w, rfl⟩ <;> rfl) ?_
      refine k_iload Kl d_jdk_52_method_21_code_15 (pc' := 17) rfl rfl ?_
      refine k_sipush Kl (255 : Int32) d_jdk_52_method_21_code_17 (pc' := 20) rfl rfl ?_
      refine k_icmp_le Kl d_jdk_52_method_21_code_20 (by decide) (pc' := 26) (pc2 := 23) (by decide) rfl (fun hc20 => ?_) (fun hc20 => ?_)
      · refine k_aloadN Kl d_jdk_52_method_21_code_26 (pc' := 27) rfl rfl rfl ?_
        refine k_iloadN Kl d_jdk_52_method_21_code_27 (pc' := 28) rfl rfl ?_
        refine k_iload Kl d_jdk_52_method_21_code_28 (pc' := 30) rfl rfl ?_
        refine k_i2b Kl d_jdk_52_method_21_code_30 (pc' := 31) rfl ?_
        refine k_bastore Kl (j := i) V_d (own_in hj hn hjl) (by rw [own_clamp hj, fillL_len cs j (by omega)]; exact hjl) ga_d sf_d d_jdk_52_method_21_code_31 (pc' := 32) rfl ?_
        intro T2 h2 K2 W2 tr2 V2
        replace sf_d := tr2 d V_d.lt sf_d
        replace V_va := V_va.other W2 ne_va_d
        replace KP := KP.wr W2 (Or.inl (by simp))
        replace V_d := V2
        rw [own_clamp hj, own_byte] at V_d
        replace V_d := (fillL_set cs j hjl) ▸ V_d
        refine k_iinc K2 (1 : Int32) d_jdk_52_method_21_code_32 (pc' := 35) (L' := #[.val (.ref va), .val (.int (i + (1 : Int32))), .val (.ref d), .val (.int i), .val (.int n), .val (.int i), .val (.int cs[j])]) rfl rfl rfl rfl ?_
        refine k_iinc K2 (1 : Int32) d_jdk_52_method_21_code_35 (pc' := 38) (L' := #[.val (.ref va), .val (.int (i + (1 : Int32))), .val (.ref d), .val (.int (i + (1 : Int32))), .val (.int n), .val (.int i), .val (.int cs[j])]) rfl rfl rfl rfl ?_
        refine k_iinc K2 (1 : Int32) d_jdk_52_method_21_code_38 (pc' := 41) (L' := #[.val (.ref va), .val (.int (i + (1 : Int32))), .val (.ref d), .val (.int (i + (1 : Int32))), .val (.int n), .val (.int (i + (1 : Int32))), .val (.int cs[j])]) rfl rfl rfl rfl ?_
        refine k_goto K2 d_jdk_52_method_21_code_41 (by decide) (pc' := 3) (by decide) ?_
        exact ih (i + 1) (j + 1) (own_add1 hj (by omega)) (by omega) (fun x hx => by
          rcases Nat.lt_or_ge x j with q | q
          · exact hlow x q
          · have e1 : x = j := by omega
            subst e1; exact hc20) _ (Or.inr ⟨_, rfl⟩) _ _ _ _ K2 KP V_va V_d sf_d
      · refine k_iload Kl d_jdk_52_method_21_code_23 (pc' := 25) rfl rfl ?_
        have hhi : (255 : Int32) < cs[j] := hc20
        have ep := preN_at cs j hjl hlow hhi
        have en : i = Int32.ofNat (preN cs) := own_i32e (by rw [hj, ep, Int32.toInt_ofNat_of_lt (by omega)])
        exact k_iret Kl d_jdk_52_method_21_code_25 rfl (fun sf ht => ⟨by rw [en], KP, by rw [ep]; exact V_d⟩) (by decide) (by decide)
  exact LOOP cs.length (0 : Int32) 0 rfl (by omega) (fun x hx => absurd hx (Nat.not_lt_zero _)) _ (Or.inl rfl) _ _ _ _ K (Keep.refl _ _) V1 (by rw [fillL_zero]; exact V2) (hSP d (by simp))
def loB (c : Int32) : Value := .int ((c >>> ((0 : Int32) &&& 31)).toInt8.toInt32)
def hiB (c : Int32) : Value := .int ((c >>> ((8 : Int32) &&& 31)).toInt8.toInt32)
def fill2 (cs : List Int32) (i : Nat) : List Value := (cs.take i).flatMap (fun c => [loB c, hiB c]) ++ List.replicate (2 * (cs.length - i)) (.int 0)
theorem flat_len (cs : List Int32) : (cs.flatMap (fun c => [loB c, hiB c])).length = 2 * cs.length := by
  induction cs with
  | nil => rfl
  | cons c t ih => simp only [List.flatMap_cons, List.length_append, ih, List.length_cons, List.length_nil]; omega
theorem fill2_len (cs : List Int32) (i : Nat) (h : i ≤ cs.length) : (fill2 cs i).length = 2 * cs.length := by
  simp only [fill2, List.length_append, flat_len, List.length_take, List.length_replicate]; omega
theorem fill2_zero (cs : List Int32) : fill2 cs 0 = List.replicate (2 * cs.length) (.int 0) := by simp [fill2]
theorem fill2_set (cs : List Int32) (i : Nat) (h : i < cs.length) : ((fill2 cs i).set (2 * i) (loB cs[i])).set (2 * i + 1) (hiB cs[i]) = fill2 cs (i + 1) := by
  have e0 : (cs.take i).length = i := by simp; omega
  have e1 : ((cs.take i).flatMap (fun c => [loB c, hiB c])).length = 2 * i := by rw [flat_len, e0]
  have e2 : 2 * (cs.length - i) = (2 * (cs.length - (i + 1)) + 1) + 1 := by omega
  have e3 : cs.take (i + 1) = cs.take i ++ [cs[i]] := by rw [List.take_succ_eq_append_getElem h]
  unfold fill2
  rw [e3, e2, List.replicate_succ, List.replicate_succ, List.flatMap_append]
  rw [List.set_append_right _ _ (by rw [e1]; exact Nat.le_refl _), e1, Nat.sub_self]
  rw [List.set_append_right _ _ (by rw [e1]; omega), e1, show 2 * i + 1 - 2 * i = 1 by omega]
  simp
theorem fill2_lo (cs : List Int32) (j : Nat) (h : j < cs.length) : (fill2 cs cs.length).getD (2 * j) (.int 0) = loB cs[j] := by
  unfold fill2
  rw [List.take_length, Nat.sub_self, Nat.mul_zero, List.replicate_zero, List.append_nil]
  induction cs generalizing j with
  | nil => exact absurd h (Nat.not_lt_zero _)
  | cons c t ih =>
    cases j with
    | zero => rfl
    | succ j => rw [List.flatMap_cons, show 2 * (j + 1) = 2 * j + 1 + 1 by omega]; exact ih j (by simpa using h)
theorem fill2_hi (cs : List Int32) (j : Nat) (h : j < cs.length) : (fill2 cs cs.length).getD (2 * j + 1) (.int 0) = hiB cs[j] := by
  unfold fill2
  rw [List.take_length, Nat.sub_self, Nat.mul_zero, List.replicate_zero, List.append_nil]
  induction cs generalizing j with
  | nil => exact absurd h (Nat.not_lt_zero _)
  | cons c t ih =>
    cases j with
    | zero => rfl
    | succ j => rw [List.flatMap_cons, show 2 * (j + 1) + 1 = 2 * j + 1 + 1 + 1 by omega]; exact ih j (by simpa using h)
theorem own_dbl {i : Int32} {n : Nat} (h : i.toInt = n) (hn : n < 1000000000) : (i <<< ((1 : Int32) &&& 31)).toInt = (2 * n : Nat) := by
  have hb : i.toBitVec.toNat = n := by
    have q : i.toBitVec.toInt = n := h
    rw [BitVec.toInt_eq_toNat_cond] at q
    have := i.toBitVec.isLt
    split at q <;> omega
  have e1 : (i <<< ((1 : Int32) &&& 31)).toBitVec = i.toBitVec <<< 1 := rfl
  have e2 : (i.toBitVec <<< 1).toNat = 2 * n := by rw [BitVec.toNat_shiftLeft, hb, Nat.shiftLeft_eq]; omega
  show (i <<< ((1 : Int32) &&& 31)).toBitVec.toInt = _
  rw [e1, BitVec.toInt_eq_toNat_cond, e2]; split <;> omega
theorem own_nat {c : Int32} {n : Nat} (h : c.toInt = n) : c.toBitVec.toNat = n := by
  have q : c.toBitVec.toInt = n := h
  have hn : c.toInt < 2 ^ 31 := Int32.toInt_lt c
  rw [BitVec.toInt_eq_toNat_cond] at q
  have := c.toBitVec.isLt
  split at q <;> omega
theorem own_toInt {c : Int32} (h : c.toBitVec.toNat < 2147483648) : c.toInt = c.toBitVec.toNat := by
  show c.toBitVec.toInt = _
  rw [BitVec.toInt_eq_toNat_cond]; split <;> omega
theorem own_i2cN (x : Int32) : (x.toUInt32.toUInt16.toUInt32.toInt32).toBitVec.toNat = x.toBitVec.toNat % 65536 := by
  have e : (x.toUInt32.toUInt16.toUInt32.toInt32).toBitVec = (x.toBitVec.setWidth 16).setWidth 32 := rfl
  rw [e, BitVec.toNat_setWidth, BitVec.toNat_setWidth]; omega
theorem own_i2c (x : Int32) : 0 ≤ (x.toUInt32.toUInt16.toUInt32.toInt32).toInt ∧ (x.toUInt32.toUInt16.toUInt32.toInt32).toInt < 65536 := by
  have h := own_i2cN x
  rw [own_toInt (by rw [h]; omega), h]; omega
theorem own_i2cI {c : Int32} (h1 : 0 ≤ c.toInt) (h2 : c.toInt < 65536) : c.toUInt32.toUInt16.toUInt32.toInt32 = c := by
  obtain ⟨n, hn⟩ := Int.eq_ofNat_of_zero_le h1
  have e := own_nat hn
  apply Int32.toBitVec_inj.mp
  apply BitVec.eq_of_toNat_eq
  rw [own_i2cN, e]; omega
theorem own_narrowc {c : Int32} (h1 : 0 ≤ c.toInt) (h2 : c.toInt < 65536) : narrow .char (.int c) = .int c := by
  show Value.int c.toUInt32.toUInt16.toUInt32.toInt32 = _
  rw [own_i2cI h1 h2]
theorem own_shr0 (n : Int32) : n >>> ((0 : Int32) &&& 31) = n := by
  apply Int32.toBitVec_inj.mp
  show n.toBitVec.sshiftRight 0 = n.toBitVec
  simp
theorem own_low (x : Int32) : (x.toInt8.toInt32 &&& 255).toBitVec.toNat = x.toBitVec.toNat % 256 := by
  have e : (x.toInt8.toInt32 &&& 255).toBitVec = ((x.toBitVec.signExtend 8).signExtend 32) &&& 255#32 := rfl
  have e8 : x.toBitVec.signExtend 8 = x.toBitVec.setWidth 8 := BitVec.signExtend_eq_setWidth_of_le _ (by decide)
  have e2 : ((x.toBitVec.setWidth 8).signExtend 32) &&& 255#32 = (x.toBitVec.setWidth 8).setWidth 32 := by
    apply BitVec.eq_of_getLsbD_eq
    intro i hi
    have h255 : (255#32).getLsbD i = decide (i < 8) := by
      have := (by decide : ∀ i : Fin 32, (255#32).getLsbD i.val = decide (i.val < 8)) ⟨i, hi⟩
      exact this
    rw [BitVec.getLsbD_and, h255, BitVec.getLsbD_signExtend, BitVec.getLsbD_setWidth]
    by_cases q : i < 8
    · simp [hi, q]
    · simp [q]
  rw [e, e8, e2, BitVec.toNat_setWidth, BitVec.toNat_setWidth]; omega
theorem own_dblN {i : Int32} {n : Nat} (h : i.toInt = n) (hn : n < 1000000000) : (i <<< ((1 : Int32) &&& 31)).toBitVec.toNat = 2 * n := by
  show (i.toBitVec <<< 1).toNat = _
  rw [BitVec.toNat_shiftLeft, own_nat h, Nat.shiftLeft_eq]; omega
theorem own_half {n : Int32} {m : Nat} (hn : n.toInt = m) (hm : m ≤ 4000) : (n <<< ((1 : Int32) &&& 31)) >>> ((1 : Int32) &&& 31) = n := by
  have e := own_dblN hn (by omega)
  generalize n <<< ((1 : Int32) &&& 31) = z at e
  apply Int32.toBitVec_inj.mp
  apply BitVec.eq_of_toNat_eq
  show (z.toBitVec.sshiftRight 1).toNat = _
  rw [BitVec.sshiftRight_eq_of_msb_false (by rw [BitVec.msb_eq_decide, e]; simp; omega), BitVec.toNat_ushiftRight, e, Nat.shiftRight_eq_div_pow, own_nat hn]; omega
theorem own_ush0 (n : Int32) : (Jvm.Free.XT.ushr (n - n) (31 : Int32)).toInt8.toInt32 = 0 := by
  have e : n - n = 0 := by simp
  rw [e]; decide
theorem own_ush1 {n : Int32} {m : Nat} (hn : n.toInt = m) (h1 : 1 ≤ m) (hm : m ≤ 4000) : (Jvm.Free.XT.ushr (n - n <<< ((1 : Int32) &&& 31)) (31 : Int32)).toInt8.toInt32 = 1 := by
  have e := own_dblN hn (by omega)
  have e1 : Jvm.Free.XT.ushr (n - n <<< ((1 : Int32) &&& 31)) (31 : Int32) = 1 := by
    generalize n <<< ((1 : Int32) &&& 31) = z at e
    apply Int32.toBitVec_inj.mp
    apply BitVec.eq_of_toNat_eq
    show ((n.toBitVec - z.toBitVec) >>> 31).toNat = 1
    rw [BitVec.toNat_ushiftRight, BitVec.toNat_sub, own_nat hn, e, Nat.shiftRight_eq_div_pow]; omega
  rw [e1]; decide
theorem own_join (c : Int32) (h1 : 0 ≤ c.toInt) (h2 : c.toInt < 65536) : ((((c >>> ((0 : Int32) &&& 31)).toInt8.toInt32 &&& 255) <<< ((0 : Int32) &&& 31)) ||| (((c >>> ((8 : Int32) &&& 31)).toInt8.toInt32 &&& 255) <<< ((8 : Int32) &&& 31))).toUInt32.toUInt16.toUInt32.toInt32 = c := by
  obtain ⟨n, hn⟩ := Int.eq_ofNat_of_zero_le h1
  have e := own_nat hn
  have hN : n < 65536 := by omega
  rw [own_shr0]
  have a1 := own_low c
  have a2 := own_low (c >>> ((8 : Int32) &&& 31))
  have s8 : (c >>> ((8 : Int32) &&& 31)).toBitVec.toNat = n / 256 := by
    show (c.toBitVec.sshiftRight 8).toNat = _
    rw [BitVec.sshiftRight_eq_of_msb_false (by rw [BitVec.msb_eq_decide, e]; simp; omega), BitVec.toNat_ushiftRight, e, Nat.shiftRight_eq_div_pow]
  rw [s8] at a2
  rw [e] at a1
  generalize (c.toInt8.toInt32 &&& 255) = p at a1
  generalize ((c >>> ((8 : Int32) &&& 31)).toInt8.toInt32 &&& 255) = q at a2
  apply Int32.toBitVec_inj.mp
  apply BitVec.eq_of_toNat_eq
  rw [own_i2cN, e]
  have b1 : (p <<< ((0 : Int32) &&& 31)).toBitVec = p.toBitVec := by
    show p.toBitVec <<< 0 = _
    simp
  have b2 : (q <<< ((8 : Int32) &&& 31)).toBitVec.toNat = (n / 256 % 256) * 256 := by
    show (q.toBitVec <<< 8).toNat = _
    rw [BitVec.toNat_shiftLeft, a2, Nat.shiftLeft_eq]; omega
  have b3 : (p <<< ((0 : Int32) &&& 31) ||| q <<< ((8 : Int32) &&& 31)).toBitVec.toNat = n % 256 ||| (n / 256 % 256) * 256 := by
    show ((p <<< ((0 : Int32) &&& 31)).toBitVec ||| (q <<< ((8 : Int32) &&& 31)).toBitVec).toNat = _
    rw [BitVec.toNat_or, b1, b2, a1]
  rw [b3]
  have b4 : n % 256 ||| (n / 256 % 256) * 256 = n := by
    rw [Nat.or_comm, Nat.mul_comm, show (256 : Nat) = 2 ^ 8 by decide, ← Nat.two_pow_add_eq_or_of_lt (Nat.mod_lt _ (by decide))]; omega
  rw [b4]; omega
theorem preN_gt : ∀ (cs : List Int32) (h : preN cs < cs.length), (255 : Int32) < cs[preN cs]
  | [], h => absurd h (Nat.not_lt_zero _)
  | c :: t, h => by
    by_cases q : (255 : Int32) < c
    · have e : preN (c :: t) = 0 := if_pos q
      simpa [e] using q
    · have e : preN (c :: t) = preN t + 1 := if_neg q
      have h2 : preN t < t.length := by rw [e] at h; simpa using h
      simpa [e] using preN_gt t h2
def strCd (cs : List Int32) : Int32 := if preN cs = cs.length then 0 else 1
def strVs (cs : List Int32) : List Value := if preN cs = cs.length then fillL cs cs.length else fill2 cs cs.length
def strZ (n : Int32) (cs : List Int32) : Int32 := if preN cs = cs.length then n else n <<< ((1 : Int32) &&& 31)
theorem strCd_01 (cs : List Int32) : strCd cs = 0 ∨ strCd cs = 1 := by unfold strCd; split <;> simp
theorem strCd_n (cs : List Int32) : narrow .byte (.int (strCd cs)) = .int (strCd cs) := by rcases strCd_01 cs with q | q <;> rw [q] <;> rfl
theorem strCd_f (cs : List Int32) : fits .byte (.int (strCd cs)) = true := by rcases strCd_01 cs with q | q <;> rw [q] <;> rfl
theorem own_ofN {n : Nat} (h : n ≤ 4000) : (Int32.ofNat n).toInt = n := Int32.toInt_ofNat_of_lt (by omega)
theorem own_cfal {n : Int32} {cs : List Int32} (hn : n.toInt = cs.length) (h1 : 1 ≤ cs.length) (hb : cs.length ≤ 4000) : ((XT.ushr (n - strZ n cs) (31 : Int32)).toInt8.toInt32) = strCd cs := by
  unfold strZ strCd
  split
  · exact own_ush0 n
  · exact own_ush1 hn h1 hb
theorem own_len {n : Int32} {cs : List Int32} (hn : n.toInt = cs.length) (hb : cs.length ≤ 4000) : strZ n cs >>> (strCd cs &&& 31) = n := by
  unfold strZ strCd
  split
  · exact own_shr0 n
  · exact own_half hn hb
theorem preN_lat {cs : List Int32} (h : ∀ c ∈ cs, 0 ≤ c.toInt ∧ c.toInt < 256) : preN cs = cs.length := preN_all cs fun j hj => by
  rw [own_i32, own_255]; have := (h cs[j] (List.getElem_mem hj)).2; omega
theorem own_strCd {cs : List Int32} (h : ∀ c ∈ cs, 0 ≤ c.toInt ∧ c.toInt < 256) : strCd cs = 0 := if_pos (preN_lat h)
theorem own_strZ {n : Int32} {cs : List Int32} (h : ∀ c ∈ cs, 0 ≤ c.toInt ∧ c.toInt < 256) : strZ n cs = n := if_pos (preN_lat h)
theorem own_strVs {cs : List Int32} (h : ∀ c ∈ cs, 0 ≤ c.toInt ∧ c.toInt < 256) : strVs cs = (cs.map fun c => c.toInt8.toInt32).map Value.int := by
  rw [strVs, if_pos (preN_lat h), fillL, List.take_length, Nat.sub_self, List.replicate_zero, List.append_nil, List.map_map]; rfl
theorem d_jdk_52_method_16_code_0 : decode jdk_52_method_16_code 0 = .ok (.iload_n 2, 1) := by decide +kernel
theorem d_jdk_52_method_16_code_1 : decode jdk_52_method_16_code 1 = .ok (.newarray .byte, 2) := by decide +kernel
theorem w7 {Z : State} {a0 : Array Value} (hw : Tb a0 Z) : (Jvm.Cond.arrayClass Jvm.ClassFile.FieldType.byte).before a0 Z = true := hw _ (List.mem_of_getElem? (i := 7) rfl)
theorem d_jdk_52_method_16_code_3 : decode jdk_52_method_16_code 3 = .ok (.astore_n 3, 1) := by decide +kernel
theorem d_jdk_52_method_16_code_4 : decode jdk_52_method_16_code 4 = .ok (.aload_n 0, 1) := by decide +kernel
theorem d_jdk_52_method_16_code_5 : decode jdk_52_method_16_code 5 = .ok (.iload_n 1, 1) := by decide +kernel
theorem d_jdk_52_method_16_code_6 : decode jdk_52_method_16_code 6 = .ok (.aload_n 3, 1) := by decide +kernel
theorem d_jdk_52_method_16_code_7 : decode jdk_52_method_16_code 7 = .ok (.iconst 0, 1) := by decide +kernel
theorem d_jdk_52_method_16_code_8 : decode jdk_52_method_16_code 8 = .ok (.iload_n 2, 1) := by decide +kernel
theorem d_jdk_52_method_16_code_9 : decode jdk_52_method_16_code 9 = .ok (.invokestatic 115, 3) := by decide +kernel
theorem w70 {Z : State} {a0 : Array Value} (hw : Tb a0 Z) : (Jvm.Cond.methodLink "java/lang/StringUTF16" (115 : Nat) ({ cls := "java/lang/StringUTF16", name := "compress", desc := "([CI[BII)I" } : Jvm.MethodName)).before a0 Z = true := hw _ (List.mem_of_getElem? (i := 70) rfl)
theorem w68 {Z : State} {a0 : Array Value} (hw : Tb a0 Z) : (Jvm.Cond.initialized "java/lang/StringUTF16").before a0 Z = true := hw _ (List.mem_of_getElem? (i := 68) rfl)
theorem w72 {Z : State} {a0 : Array Value} (hw : Tb a0 Z) : (Jvm.Cond.code ({ cls := "java/lang/StringUTF16", name := "compress", desc := "([CI[BII)I" } : Jvm.MethodName) jdk_52_method_21_code (7 : Nat) (Option.some Jvm.ClassFile.FieldType.int)).before a0 Z = true := hw _ (List.mem_of_getElem? (i := 72) rfl)
theorem w71 {Z : State} {a0 : Array Value} (hw : Tb a0 Z) : (Jvm.Cond.static ({ cls := "java/lang/StringUTF16", name := "compress", desc := "([CI[BII)I" } : Jvm.MethodName)).before a0 Z = true := hw _ (List.mem_of_getElem? (i := 71) rfl)
theorem pd___CI_BII_I_3760 : parseMethodDescriptor "([CI[BII)I" = some ⟨[(.array .char), .int, (.array .byte), .int, .int], some .int⟩ := by decide +kernel
theorem d_jdk_52_method_16_code_12 : decode jdk_52_method_16_code 12 = .ok (.istore 4, 2) := by decide +kernel
theorem d_jdk_52_method_16_code_14 : decode jdk_52_method_16_code 14 = .ok (.iload 4, 2) := by decide +kernel
theorem d_jdk_52_method_16_code_16 : decode jdk_52_method_16_code 16 = .ok (.iload_n 2, 1) := by decide +kernel
theorem d_jdk_52_method_16_code_17 : decode jdk_52_method_16_code 17 = .ok (.if_icmp .eq 40, 3) := by decide +kernel
theorem d_jdk_52_method_16_code_57 : decode jdk_52_method_16_code 57 = .ok (.aload_n 3, 1) := by decide +kernel
theorem d_jdk_52_method_16_code_58 : decode jdk_52_method_16_code 58 = .ok (.areturn, 1) := by decide +kernel
set_option maxRecDepth 65536 in
set_option maxHeartbeats 40000000 in
theorem c_compress3 (l : Launch) (Z : State) (a0 : Array Value) (hw : Tb a0 Z) (hEW : EW Z a0 EL0) (n0 : Nat) (va : Addr) (kv : ClassId) (n : Int32) (cs : List Int32) (h0 : Heap) (O : Old Z n0 h0) (hn : n.toInt = cs.length) (hb : cs.length ≤ 2) (hc : ∀ c ∈ cs, 0 ≤ c.toInt ∧ c.toInt < 256) (V_va : Arv Z h0 va kv .char n (cs.map Value.int) (.int 0))  :
    Ct l Z EL0 n0 (⟨"java/lang/StringUTF16", "compress", "([CII)[B"⟩ : MethodName) jdk_52_method_16_code 6 (some (.array .byte)) ({ frames := 1, cells := 1, slots := 2, locals := 18 } : Room) #[(.ref va), (.int (0 : Int32)), (.int n)] h0 [] (fun v h sf => ∃ d kd, v = some (.ref d) ∧ h0.size ≤ d ∧ Keep h0 h [] ∧ Arv Z h d kd .byte (strZ n cs) (strVs cs) (.int 0) ∧ sf d) := by
  refine Ct.of (a0 := a0) #[.val (.ref va), .val (.int (0 : Int32)), .val (.int n), .unset, .unset, .unset] hEW O (plainFor_of_name pl_java_lang_StringUTF16) (fun m => by first | (simp [entryFrame, mkF, argsToLocals, Value.category]; done) | rfl) ?_
  intro p_ e_ s_ m_ below_ meth_ c_ b_ T_ K hSP
  have KP := Keep.refl h0 []
  refine k_iloadN K d_jdk_52_method_16_code_0 (pc' := 1) rfl rfl ?_
  refine k_newarray K (aty := .byte) (z := n) (w7 hw) (by rw [own_i32, own_0, hn]; omega) (cap := 2) (by rw [own_clamp hn]; omega) (by decide) d_jdk_52_method_16_code_1 (pc' := 3) rfl (by decide) (by decide) ?_
  intro T3 h3 a3 ka3 g3 K3 E3 tr3 sf_a3 V_a3
  have ga_a3 : n0 ≤ a3 := own_old K.old g3
  have sz_a3 : h0.size ≤ a3 := g3 ▸ KP.1
  have ne_va_a3 : va ≠ a3 := own_ne V_va.lt g3
  replace V_va := V_va.ext E3
  replace KP := KP.ext E3
  replace V_a3 : Arv Z h3 a3 ka3 .byte n (List.replicate cs.length (.int (0 : Int32))) (.int (0 : Int32)) := V_a3.pad (pad_rep [] (.int (0 : Int32)) cs.length)
  refine k_astoreN K3 d_jdk_52_method_16_code_3 (pc' := 4) (L' := #[.val (.ref va), .val (.int (0 : Int32)), .val (.int n), .val (.ref a3), .unset, .unset]) rfl rfl rfl ?_
  refine k_aloadN K3 d_jdk_52_method_16_code_4 (pc' := 5) rfl rfl rfl ?_
  refine k_iloadN K3 d_jdk_52_method_16_code_5 (pc' := 6) rfl rfl ?_
  refine k_aloadN K3 d_jdk_52_method_16_code_6 (pc' := 7) rfl rfl rfl ?_
  refine k_iconst K3 (0 : Int32) d_jdk_52_method_16_code_7 (pc' := 8) rfl rfl ?_
  refine k_iloadN K3 d_jdk_52_method_16_code_8 (pc' := 9) rfl rfl ?_
  refine k_static K3 [(.ref va), (.int (0 : Int32)), (.ref a3), (.int (0 : Int32)), (.int n)] [] 0 (w70 hw) (w71 hw) (w68 hw) (w72 hw) (by decide) pd___CI_BII_I_3760 (c_compress5 l Z a0 hw hEW n0 va a3 kv ka3 n cs h3 K3.old hn (by omega) V_va V_a3 ne_va_a3 ga_a3) d_jdk_52_method_16_code_9 (fun x hx => by cases List.mem_singleton.mp hx; exact ⟨V_a3.lt, sf_a3⟩) (pc' := 12) rfl rfl rfl rfl (Nat.le_of_eq rfl) (by decide) (by decide) (by decide) (by decide) ?_
  intro b4 T4 h4 L4 v4 K4 tr4 q4
  obtain ⟨rfl, KQ, V2⟩ := q4
  replace sf_a3 := tr4 a3 V_a3.lt sf_a3
  replace V_va := V_va.keep KQ (ninS ne_va_a3 nin0)
  replace KP := KP.trans KQ (allS (Or.inr sz_a3) all0)
  have V_a3 := V2
  have hp := own_ofN (Nat.le_trans (preN_le cs) (show cs.length ≤ 4000 by omega))
  generalize hpp : Int32.ofNat (preN cs) = p1 at hp ⊢
  show Goes p_.tables e_ below_ _ (T4.setTop (mkF m_ 12 #[.val (.ref va), .val (.int (0 : Int32)), .val (.int n), .val (.ref a3), .unset, .unset] [(.int p1)]))
  refine k_istore K4 d_jdk_52_method_16_code_12 (pc' := 14) (L' := #[.val (.ref va), .val (.int (0 : Int32)), .val (.int n), .val (.ref a3), .val (.int p1), .unset]) rfl rfl ?_
  refine k_iload K4 d_jdk_52_method_16_code_14 (pc' := 16) rfl rfl ?_
  refine k_iloadN K4 d_jdk_52_method_16_code_16 (pc' := 17) rfl rfl ?_
  have ep : preN cs = cs.length := preN_all cs fun j hj => by rw [own_i32, own_255]; have := (hc cs[j] (List.getElem_mem hj)).2; omega
  refine k_icmp_eq K4 d_jdk_52_method_16_code_17 (by decide) (pc' := 57) (pc2 := 20) (by decide) rfl (fun hc17 => ?_) (fun q => absurd (own_i32e (by rw [hp, hn, ep])) q)
  refine k_aloadN K4 d_jdk_52_method_16_code_57 (pc' := 58) rfl rfl rfl ?_
  exact k_aret K4 d_jdk_52_method_16_code_58 rfl rfl rfl (fun sf ht => ⟨a3, ka3, rfl, sz_a3, KP, by rw [strZ, strVs, if_pos ep, if_pos ep, ← ep]; exact V_a3, ht _ V_a3.lt sf_a3⟩) (by decide) (by decide)
theorem d_jdk_52_method_15_code_0 : decode jdk_52_method_15_code 0 = .ok (.iload_n 1, 1) := by decide +kernel
theorem d_jdk_52_method_15_code_1 : decode jdk_52_method_15_code 1 = .ok (.aload_n 0, 1) := by decide +kernel
theorem d_jdk_52_method_15_code_2 : decode jdk_52_method_15_code 2 = .ok (.arraylength, 1) := by decide +kernel
theorem d_jdk_52_method_15_code_3 : decode jdk_52_method_15_code 3 = .ok (.isub, 1) := by decide +kernel
theorem d_jdk_52_method_15_code_4 : decode jdk_52_method_15_code 4 = .ok (.bipush 31, 2) := by decide +kernel
theorem d_jdk_52_method_15_code_6 : decode jdk_52_method_15_code 6 = .ok (.iushr, 1) := by decide +kernel
theorem d_jdk_52_method_15_code_7 : decode jdk_52_method_15_code 7 = .ok (.i2b, 1) := by decide +kernel
theorem d_jdk_52_method_15_code_8 : decode jdk_52_method_15_code 8 = .ok (.ireturn, 1) := by decide +kernel
set_option maxRecDepth 65536 in
set_option maxHeartbeats 40000000 in
theorem c_cfal (l : Launch) (Z : State) (a0 : Array Value) (hw : Tb a0 Z) (hEW : EW Z a0 EL0) (n0 : Nat) (d : Addr) (kd : ClassId) (n z cd : Int32) (vs : List Value) (h0 : Heap) (O : Old Z n0 h0) (V_d : Arv Z h0 d kd .byte z vs (.int 0)) (hcd : cd = 0 ∨ cd = 1) (he : ((XT.ushr (n - z) (31 : Int32)).toInt8.toInt32) = cd) :
    Ct l Z EL0 n0 (⟨"java/lang/StringUTF16", "coderFromArrayLen", "([BI)B"⟩ : MethodName) jdk_52_method_15_code 2 (some .byte) ({ frames := 0, cells := 0, slots := 0, locals := 0 } : Room) #[(.ref d), (.int n)] h0 [] (Pu (some (.int cd)) h0) := by
  refine Ct.of (a0 := a0) #[.val (.ref d), .val (.int n)] hEW O (plainFor_of_name pl_java_lang_StringUTF16) (fun m => by first | (simp [entryFrame, mkF, argsToLocals, Value.category]; done) | rfl) ?_
  intro p_ e_ s_ m_ below_ meth_ c_ b_ T_ K hSP
  refine k_iloadN K d_jdk_52_method_15_code_0 (pc' := 1) rfl rfl ?_
  refine k_aloadN K d_jdk_52_method_15_code_1 (pc' := 2) rfl rfl rfl ?_
  refine k_len K V_d d_jdk_52_method_15_code_2 (pc' := 3) rfl ?_
  refine k_isub K d_jdk_52_method_15_code_3 (pc' := 4) rfl ?_
  refine k_bipush K (31 : Int32) d_jdk_52_method_15_code_4 (pc' := 6) rfl rfl ?_
  refine k_iushr K d_jdk_52_method_15_code_6 (pc' := 7) rfl ?_
  refine k_i2b K d_jdk_52_method_15_code_7 (pc' := 8) rfl ?_
  rw [he]
  exact k_nret K d_jdk_52_method_15_code_8 rfl (by simp) (by rcases hcd with rfl | rfl <;> rfl) (fun sf ht => ⟨rfl, rfl⟩) (by decide) (by decide)
theorem d_jdk_42_method_149_code_0 : decode jdk_42_method_149_code 0 = .ok (.aload_n 0, 1) := by decide +kernel
theorem d_jdk_42_method_149_code_1 : decode jdk_42_method_149_code 1 = .ok (.invokespecial 1, 3) := by decide +kernel
theorem w53 {Z : State} {a0 : Array Value} (hw : Tb a0 Z) : (Jvm.Cond.methodLink "java/lang/String" (1 : Nat) ({ cls := "java/lang/Object", name := "<init>", desc := "()V" } : Jvm.MethodName)).before a0 Z = true := hw _ (List.mem_of_getElem? (i := 53) rfl)
theorem w19 {Z : State} {a0 : Array Value} (hw : Tb a0 Z) : (Jvm.Cond.instanceMethod ({ cls := "java/lang/Object", name := "<init>", desc := "()V" } : Jvm.MethodName)).before a0 Z = true := hw _ (List.mem_of_getElem? (i := 19) rfl)
theorem w20 {Z : State} {a0 : Array Value} (hw : Tb a0 Z) : (Jvm.Cond.code ({ cls := "java/lang/Object", name := "<init>", desc := "()V" } : Jvm.MethodName) object_method_1_code (1 : Nat) (Option.none : Option Jvm.ClassFile.FieldType)).before a0 Z = true := hw _ (List.mem_of_getElem? (i := 20) rfl)
theorem d_jdk_42_method_149_code_4 : decode jdk_42_method_149_code 4 = .ok (.iload_n 3, 1) := by decide +kernel
theorem d_jdk_42_method_149_code_5 : decode jdk_42_method_149_code 5 = .ok (.ifCond .ne 22, 3) := by decide +kernel
theorem d_jdk_42_method_149_code_27 : decode jdk_42_method_149_code 27 = .ok (.getstatic 38, 3) := by decide +kernel
theorem w40 {Z : State} {a0 : Array Value} (hw : Tb a0 Z) : (Jvm.Cond.fieldLink "java/lang/String" (38 : Nat) "java/lang/String" "COMPACT_STRINGS" "Z").before a0 Z = true := hw _ (List.mem_of_getElem? (i := 40) rfl)
theorem d_jdk_42_method_149_code_30 : decode jdk_42_method_149_code 30 = .ok (.ifCond .eq 28, 3) := by decide +kernel
theorem d_jdk_42_method_149_code_33 : decode jdk_42_method_149_code 33 = .ok (.aload_n 1, 1) := by decide +kernel
theorem d_jdk_42_method_149_code_34 : decode jdk_42_method_149_code 34 = .ok (.iload_n 2, 1) := by decide +kernel
theorem d_jdk_42_method_149_code_35 : decode jdk_42_method_149_code 35 = .ok (.iload_n 3, 1) := by decide +kernel
theorem d_jdk_42_method_149_code_36 : decode jdk_42_method_149_code 36 = .ok (.invokestatic 177, 3) := by decide +kernel
theorem w66 {Z : State} {a0 : Array Value} (hw : Tb a0 Z) : (Jvm.Cond.methodLink "java/lang/String" (177 : Nat) ({ cls := "java/lang/StringUTF16", name := "compress", desc := "([CII)[B" } : Jvm.MethodName)).before a0 Z = true := hw _ (List.mem_of_getElem? (i := 66) rfl)
theorem w69 {Z : State} {a0 : Array Value} (hw : Tb a0 Z) : (Jvm.Cond.code ({ cls := "java/lang/StringUTF16", name := "compress", desc := "([CII)[B" } : Jvm.MethodName) jdk_52_method_16_code (6 : Nat) (Option.some (Jvm.ClassFile.FieldType.array Jvm.ClassFile.FieldType.byte))).before a0 Z = true := hw _ (List.mem_of_getElem? (i := 69) rfl)
theorem w67 {Z : State} {a0 : Array Value} (hw : Tb a0 Z) : (Jvm.Cond.static ({ cls := "java/lang/StringUTF16", name := "compress", desc := "([CII)[B" } : Jvm.MethodName)).before a0 Z = true := hw _ (List.mem_of_getElem? (i := 67) rfl)
theorem pd___CII__B_2491 : parseMethodDescriptor "([CII)[B" = some ⟨[(.array .char), .int, .int], some (.array .byte)⟩ := by decide +kernel
theorem d_jdk_42_method_149_code_39 : decode jdk_42_method_149_code 39 = .ok (.astore 5, 2) := by decide +kernel
theorem d_jdk_42_method_149_code_41 : decode jdk_42_method_149_code 41 = .ok (.aload_n 0, 1) := by decide +kernel
theorem d_jdk_42_method_149_code_42 : decode jdk_42_method_149_code 42 = .ok (.aload 5, 2) := by decide +kernel
theorem d_jdk_42_method_149_code_44 : decode jdk_42_method_149_code 44 = .ok (.iload_n 3, 1) := by decide +kernel
theorem d_jdk_42_method_149_code_45 : decode jdk_42_method_149_code 45 = .ok (.invokestatic 47, 3) := by decide +kernel
theorem w73 {Z : State} {a0 : Array Value} (hw : Tb a0 Z) : (Jvm.Cond.methodLink "java/lang/String" (47 : Nat) ({ cls := "java/lang/StringUTF16", name := "coderFromArrayLen", desc := "([BI)B" } : Jvm.MethodName)).before a0 Z = true := hw _ (List.mem_of_getElem? (i := 73) rfl)
theorem w75 {Z : State} {a0 : Array Value} (hw : Tb a0 Z) : (Jvm.Cond.code ({ cls := "java/lang/StringUTF16", name := "coderFromArrayLen", desc := "([BI)B" } : Jvm.MethodName) jdk_52_method_15_code (2 : Nat) (Option.some Jvm.ClassFile.FieldType.byte)).before a0 Z = true := hw _ (List.mem_of_getElem? (i := 75) rfl)
theorem w74 {Z : State} {a0 : Array Value} (hw : Tb a0 Z) : (Jvm.Cond.static ({ cls := "java/lang/StringUTF16", name := "coderFromArrayLen", desc := "([BI)B" } : Jvm.MethodName)).before a0 Z = true := hw _ (List.mem_of_getElem? (i := 74) rfl)
theorem pd___BI_B_1313 : parseMethodDescriptor "([BI)B" = some ⟨[(.array .byte), .int], some .byte⟩ := by decide +kernel
theorem d_jdk_42_method_149_code_48 : decode jdk_42_method_149_code 48 = .ok (.putfield 15, 3) := by decide +kernel
theorem w55 {Z : State} {a0 : Array Value} (hw : Tb a0 Z) : (Jvm.Cond.fieldLink "java/lang/String" (15 : Nat) "java/lang/String" "coder" "B").before a0 Z = true := hw _ (List.mem_of_getElem? (i := 55) rfl)
theorem w9 {Z : State} {a0 : Array Value} (hw : Tb a0 Z) : (Jvm.Cond.laysFinal "java/lang/String" "java/lang/String" "coder" "B").before a0 Z = true := hw _ (List.mem_of_getElem? (i := 9) rfl)
theorem w6 {Z : State} {a0 : Array Value} (hw : Tb a0 Z) : (Jvm.Cond.instantiable "java/lang/String" (4 : Nat)).before a0 Z = true := hw _ (List.mem_of_getElem? (i := 6) rfl)
theorem w8 {Z : State} {a0 : Array Value} (hw : Tb a0 Z) : (Jvm.Cond.laysFinal "java/lang/String" "java/lang/String" "value" "[B").before a0 Z = true := hw _ (List.mem_of_getElem? (i := 8) rfl)
theorem d_jdk_42_method_149_code_51 : decode jdk_42_method_149_code 51 = .ok (.aload_n 0, 1) := by decide +kernel
theorem d_jdk_42_method_149_code_52 : decode jdk_42_method_149_code 52 = .ok (.aload 5, 2) := by decide +kernel
theorem d_jdk_42_method_149_code_54 : decode jdk_42_method_149_code 54 = .ok (.putfield 9, 3) := by decide +kernel
theorem w54 {Z : State} {a0 : Array Value} (hw : Tb a0 Z) : (Jvm.Cond.fieldLink "java/lang/String" (9 : Nat) "java/lang/String" "value" "[B").before a0 Z = true := hw _ (List.mem_of_getElem? (i := 54) rfl)
theorem d_jdk_42_method_149_code_57 : decode jdk_42_method_149_code 57 = .ok (.return_, 1) := by decide +kernel
theorem pl_java_lang_String : plainName "java/lang/String" = true := by first | (simp [plainName, overriddenIn]; done) | decide +kernel
set_option maxRecDepth 65536 in
set_option maxHeartbeats 40000000 in
theorem c_init149 (l : Launch) (Z : State) (a0 : Array Value) (hw : Tb a0 Z) (hEW : EW Z a0 EL0) (n0 : Nat) (a va : Addr) (kv : ClassId) (n : Int32) (cs : List Int32) (u1 u2 : Value) (cs0 : Int32) (h0 : Heap) (O : Old Z n0 h0) (hn : n.toInt = cs.length) (h1 : 1 ≤ cs.length) (hb : cs.length ≤ 2) (hc : ∀ c ∈ cs, 0 ≤ c.toInt ∧ c.toInt < 256) (V_va : Arv Z h0 va kv .char n (cs.map Value.int) (.int 0)) (X_a : Exa Z h0 a "java/lang/String") (F_a_value : Fld Z h0 a "java/lang/String" "value" "[B" u1) (F_a_coder : Fld Z h0 a "java/lang/String" "coder" "B" u2) (ga_a : n0 ≤ a) (ne_a_va : a ≠ va) (SC : Sta Z Z.heap "java/lang/String" "COMPACT_STRINGS" "Z" (.int cs0)) (hcs : ¬ cs0 = 0) :
    Ct l Z EL0 n0 (⟨"java/lang/String", "<init>", "([CIILjava/lang/Void;)V"⟩ : MethodName) jdk_42_method_149_code 6 none ({ frames := 2, cells := 1, slots := 2, locals := 35 } : Room) #[(.ref a), (.ref va), (.int (0 : Int32)), (.int n), .null] h0 [a] (fun v h sf => v = none ∧ Keep h0 h [a] ∧ ∃ d kd, h0.size ≤ d ∧ Str Z h a d kd (strCd cs) (strZ n cs) (strVs cs)) := by
  refine Ct.of (a0 := a0) #[.val (.ref a), .val (.ref va), .val (.int (0 : Int32)), .val (.int n), .val .null, .unset] hEW O (plainFor_of_name pl_java_lang_String) (fun m => by first | (simp [entryFrame, mkF, argsToLocals, Value.category]; done) | rfl) ?_
  intro p_ e_ s_ m_ below_ meth_ c_ b_ T_ K hSP
  have KP := Keep.refl h0 [a]
  have sf_a := hSP a (by simp)
  refine k_aloadN K d_jdk_42_method_149_code_0 (pc' := 1) rfl rfl rfl ?_
  refine k_initO K (w53 hw) (w19 hw) (w20 hw) d_jdk_42_method_149_code_1 (pc' := 4) rfl rfl (by decide) 0 (Nat.le_of_eq rfl) (by decide) ?_
  intro T5 K5
  refine k_iloadN K5 d_jdk_42_method_149_code_4 (pc' := 5) rfl rfl ?_
  refine k_if_ne K5 d_jdk_42_method_149_code_5 (by decide) (pc' := 27) (pc2 := 8) (by decide) rfl (fun hc5 => ?_) (fun q => absurd q (fun q => by rw [q, own_0] at hn; omega))
  refine k_getS K5 (w40 hw) Via.refl SC d_jdk_42_method_149_code_27 (pc' := 30) rfl ?_
  intro T6 K6
  refine k_if_eq K6 d_jdk_42_method_149_code_30 (by decide) (pc' := 58) (pc2 := 33) (by decide) rfl (fun q => absurd q hcs) (fun hc30 => ?_)
  refine k_aloadN K6 d_jdk_42_method_149_code_33 (pc' := 34) rfl rfl rfl ?_
  refine k_iloadN K6 d_jdk_42_method_149_code_34 (pc' := 35) rfl rfl ?_
  refine k_iloadN K6 d_jdk_42_method_149_code_35 (pc' := 36) rfl rfl ?_
  refine k_static K6 [(.ref va), (.int (0 : Int32)), (.int n)] [] 0 (w66 hw) (w67 hw) (w68 hw) (w69 hw) (by decide) pd___CII__B_2491 (c_compress3 l Z a0 hw hEW n0 va kv n cs h0 K6.old hn hb hc V_va) d_jdk_42_method_149_code_36 nofun (pc' := 39) rfl rfl rfl rfl (Nat.le_of_eq rfl) (by decide) (by decide) (by decide) (by decide) ?_
  intro b7 T7 h7 L7 v7 K7 tr7 q7
  obtain ⟨d, kd, rfl, hd, KQ, V_d, sf_d⟩ := q7
  have ga_d : n0 ≤ d := Nat.le_trans (own_n0 K6.old) hd
  have sz_d : h0.size ≤ d := Nat.le_trans KP.1 hd
  have ne_va_d : va ≠ d := own_ne2 V_va.lt hd
  have ne_a_d : a ≠ d := own_ne2 X_a.lt hd
  replace sf_a := tr7 a X_a.lt sf_a
  replace V_va := V_va.keep KQ nin0
  replace X_a := X_a.keep KQ
  replace F_a_value := F_a_value.keep KQ nin0
  replace F_a_coder := F_a_coder.keep KQ nin0
  replace KP := KP.trans KQ all0
  show Goes p_.tables e_ below_ _ (T7.setTop (mkF m_ 39 #[.val (.ref a), .val (.ref va), .val (.int (0 : Int32)), .val (.int n), .val .null, .unset] [(.ref d)]))
  refine k_astore K7 d_jdk_42_method_149_code_39 (pc' := 41) (L' := #[.val (.ref a), .val (.ref va), .val (.int (0 : Int32)), .val (.int n), .val .null, .val (.ref d)]) rfl rfl rfl ?_
  refine k_aloadN K7 d_jdk_42_method_149_code_41 (pc' := 42) rfl rfl rfl ?_
  refine k_aload K7 d_jdk_42_method_149_code_42 (pc' := 44) rfl rfl rfl ?_
  refine k_iloadN K7 d_jdk_42_method_149_code_44 (pc' := 45) rfl rfl ?_
  refine k_staticP K7 [(.ref d), (.int n)] [(.ref a)] 1 (w73 hw) (w74 hw) (w68 hw) (w75 hw) (by decide) pd___BI_B_1313 (c_cfal l Z a0 hw hEW n0 d kd n (strZ n cs) (strCd cs) (strVs cs) h7 K7.old V_d (strCd_01 cs) (own_cfal hn h1 (by omega))) d_jdk_42_method_149_code_45 nofun (pc' := 48) rfl rfl rfl rfl (Nat.le_of_eq rfl) (by decide) (by decide) (by decide) (by decide) ?_
  intro b8 T8 L8 K8 tr8
  show Goes p_.tables e_ below_ _ (T8.setTop (mkF m_ 48 #[.val (.ref a), .val (.ref va), .val (.int (0 : Int32)), .val (.int n), .val .null, .val (.ref d)] [(.int (strCd cs)), (.ref a)]))
  replace sf_a := tr8 a X_a.lt sf_a
  refine k_putF K8 (w55 hw) Via.refl F_a_coder X_a (Or.inr ⟨(w9 hw), rfl, rfl⟩) (w6 hw) (ty := .byte) (by decide) (strCd_n cs) (strCd_f cs) ga_a sf_a d_jdk_42_method_149_code_48 (pc' := 51) rfl ?_
  intro T9 h9 K9 W9 tr9
  have F9 := F_a_coder.same W9
  replace sf_a := tr9 a X_a.lt sf_a
  replace V_va := V_va.other W9 (Ne.symm ne_a_va)
  replace X_a := X_a.wr W9
  replace F_a_value := F_a_value.other W9 (Or.inr (slot_ne (Or.inr (w8 hw)) (Or.inr (w9 hw)) (by decide) (t := (.array .byte)) (t' := .byte) (by decide) (by decide)))
  replace V_d := V_d.other W9 (Ne.symm ne_a_d)
  replace KP := KP.wr W9 (Or.inl (by simp))
  replace F_a_coder := F9
  refine k_aloadN K9 d_jdk_42_method_149_code_51 (pc' := 52) rfl rfl rfl ?_
  refine k_aload K9 d_jdk_42_method_149_code_52 (pc' := 54) rfl rfl rfl ?_
  refine k_putF K9 (w54 hw) Via.refl F_a_value X_a (Or.inr ⟨(w8 hw), rfl, rfl⟩) (w6 hw) (ty := (.array .byte)) (by decide) rfl rfl ga_a sf_a d_jdk_42_method_149_code_54 (pc' := 57) rfl ?_
  intro T10 h10 K10 W10 tr10
  have F10 := F_a_value.same W10
  replace sf_a := tr10 a X_a.lt sf_a
  replace V_va := V_va.other W10 (Ne.symm ne_a_va)
  replace X_a := X_a.wr W10
  replace F_a_coder := F_a_coder.other W10 (Or.inr (slot_ne (Or.inr (w9 hw)) (Or.inr (w8 hw)) (by decide) (t := .byte) (t' := (.array .byte)) (by decide) (by decide)))
  replace V_d := V_d.other W10 (Ne.symm ne_a_d)
  replace KP := KP.wr W10 (Or.inl (by simp))
  replace F_a_value := F10
  exact k_return K10 d_jdk_42_method_149_code_57 rfl (fun sf ht => ⟨rfl, KP, d, kd, sz_d, X_a, F_a_coder, F_a_value, V_d⟩) (by decide) (by decide)
theorem d_jdk_42_method_3_code_0 : decode jdk_42_method_3_code 0 = .ok (.aload_n 0, 1) := by decide +kernel
theorem d_jdk_42_method_3_code_1 : decode jdk_42_method_3_code 1 = .ok (.aload_n 1, 1) := by decide +kernel
theorem d_jdk_42_method_3_code_2 : decode jdk_42_method_3_code 2 = .ok (.iconst 0, 1) := by decide +kernel
theorem d_jdk_42_method_3_code_3 : decode jdk_42_method_3_code 3 = .ok (.aload_n 1, 1) := by decide +kernel
theorem d_jdk_42_method_3_code_4 : decode jdk_42_method_3_code 4 = .ok (.arraylength, 1) := by decide +kernel
theorem d_jdk_42_method_3_code_5 : decode jdk_42_method_3_code 5 = .ok (.aconst_null, 1) := by decide +kernel
theorem d_jdk_42_method_3_code_6 : decode jdk_42_method_3_code 6 = .ok (.invokespecial 27, 3) := by decide +kernel
theorem w63 {Z : State} {a0 : Array Value} (hw : Tb a0 Z) : (Jvm.Cond.methodLink "java/lang/String" (27 : Nat) ({ cls := "java/lang/String", name := "<init>", desc := "([CIILjava/lang/Void;)V" } : Jvm.MethodName)).before a0 Z = true := hw _ (List.mem_of_getElem? (i := 63) rfl)
theorem w5 {Z : State} {a0 : Array Value} (hw : Tb a0 Z) : (Jvm.Cond.initialized "java/lang/String").before a0 Z = true := hw _ (List.mem_of_getElem? (i := 5) rfl)
theorem w65 {Z : State} {a0 : Array Value} (hw : Tb a0 Z) : (Jvm.Cond.code ({ cls := "java/lang/String", name := "<init>", desc := "([CIILjava/lang/Void;)V" } : Jvm.MethodName) jdk_42_method_149_code (6 : Nat) (Option.none : Option Jvm.ClassFile.FieldType)).before a0 Z = true := hw _ (List.mem_of_getElem? (i := 65) rfl)
theorem w64 {Z : State} {a0 : Array Value} (hw : Tb a0 Z) : (Jvm.Cond.instanceMethod ({ cls := "java/lang/String", name := "<init>", desc := "([CIILjava/lang/Void;)V" } : Jvm.MethodName)).before a0 Z = true := hw _ (List.mem_of_getElem? (i := 64) rfl)
theorem pd___CIILjava_lang_Void__V_3625 : parseMethodDescriptor "([CIILjava/lang/Void;)V" = some ⟨[(.array .char), .int, .int, (.object "java/lang/Void")], none⟩ := by decide +kernel
theorem d_jdk_42_method_3_code_9 : decode jdk_42_method_3_code 9 = .ok (.return_, 1) := by decide +kernel
set_option maxRecDepth 65536 in
set_option maxHeartbeats 40000000 in
theorem c_init3 (l : Launch) (Z : State) (a0 : Array Value) (hw : Tb a0 Z) (hEW : EW Z a0 EL0) (n0 : Nat) (a va : Addr) (kv : ClassId) (n : Int32) (cs : List Int32) (u1 u2 : Value) (cs0 : Int32) (h0 : Heap) (O : Old Z n0 h0) (hn : n.toInt = cs.length) (h1 : 1 ≤ cs.length) (hb : cs.length ≤ 2) (hc : ∀ c ∈ cs, 0 ≤ c.toInt ∧ c.toInt < 256) (V_va : Arv Z h0 va kv .char n (cs.map Value.int) (.int 0)) (X_a : Exa Z h0 a "java/lang/String") (F_a_value : Fld Z h0 a "java/lang/String" "value" "[B" u1) (F_a_coder : Fld Z h0 a "java/lang/String" "coder" "B" u2) (ga_a : n0 ≤ a) (ne_a_va : a ≠ va) (SC : Sta Z Z.heap "java/lang/String" "COMPACT_STRINGS" "Z" (.int cs0)) (hcs : ¬ cs0 = 0) :
    Ct l Z EL0 n0 (⟨"java/lang/String", "<init>", "([C)V"⟩ : MethodName) jdk_42_method_3_code 2 none ({ frames := 3, cells := 1, slots := 2, locals := 52 } : Room) #[(.ref a), (.ref va)] h0 [a] (fun v h sf => v = none ∧ Keep h0 h [a] ∧ ∃ d kd, h0.size ≤ d ∧ Str Z h a d kd (strCd cs) (strZ n cs) (strVs cs)) := by
  refine Ct.of (a0 := a0) #[.val (.ref a), .val (.ref va)] hEW O (plainFor_of_name pl_java_lang_String) (fun m => by first | (simp [entryFrame, mkF, argsToLocals, Value.category]; done) | rfl) ?_
  intro p_ e_ s_ m_ below_ meth_ c_ b_ T_ K hSP
  refine k_aloadN K d_jdk_42_method_3_code_0 (pc' := 1) rfl rfl rfl ?_
  refine k_aloadN K d_jdk_42_method_3_code_1 (pc' := 2) rfl rfl rfl ?_
  refine k_iconst K (0 : Int32) d_jdk_42_method_3_code_2 (pc' := 3) rfl rfl ?_
  refine k_aloadN K d_jdk_42_method_3_code_3 (pc' := 4) rfl rfl rfl ?_
  refine k_len K V_va d_jdk_42_method_3_code_4 (pc' := 5) rfl ?_
  refine k_aconst_null K d_jdk_42_method_3_code_5 (pc' := 6) rfl ?_
  refine k_special K [(.ref va), (.int (0 : Int32)), (.int n), .null] [] 0 (w63 hw) (w64 hw) (w5 hw) (w65 hw) rfl rfl (by decide) pd___CIILjava_lang_Void__V_3625 (c_init149 l Z a0 hw hEW n0 a va kv n cs u1 u2 cs0 h0 K.old hn h1 hb hc V_va X_a F_a_value F_a_coder ga_a ne_a_va SC hcs) d_jdk_42_method_3_code_6 (fun x hx => by cases List.mem_singleton.mp hx; exact ⟨X_a.lt, hSP a (by simp)⟩) (pc' := 9) rfl rfl rfl rfl (Nat.le_of_eq rfl) (by decide) (by decide) (by decide) (by decide) ?_
  intro b11 T11 h11 L11 v11 K11 tr11 q11
  obtain ⟨rfl, KQ, d, kd, hd, S⟩ := q11
  show Goes p_.tables e_ below_ _ (T11.setTop (mkF m_ 9 #[.val (.ref a), .val (.ref va)] []))
  exact k_return K11 d_jdk_42_method_3_code_9 rfl (fun sf ht => ⟨rfl, KQ, d, kd, hd, S⟩) (by decide) (by decide)
theorem fld_uniq {Z : State} {h : Heap} {a : Addr} {C n d : String} {v w : Value} (F : Fld Z h a C n d v) (G : Fld Z h a C n d w) : v = w := Classical.byContradiction fun q => F.ne G q rfl
theorem arv_uniq {Z : State} {h : Heap} {b : Addr} {k k' : ClassId} {ty ty' : FieldType} {z z' : Int32} {xs ys : List Int32} {dv dv' : Value} (F : Arv Z h b k ty z (xs.map Value.int) dv) (G : Arv Z h b k' ty' z' (ys.map Value.int) dv') (hz : z.toInt = xs.length) (hz' : z'.toInt = ys.length) : xs = ys := by
  obtain ⟨c, A, -, S, -, H, -⟩ := F
  obtain ⟨c', A', -, S', -, H', -⟩ := G
  cases A.1.symm.trans A'.1
  rw [own_clamp hz] at S
  rw [own_clamp hz'] at S'
  have hl : xs.length = ys.length := S.symm.trans S'
  apply List.ext_getElem hl
  intro i h1 h2
  have e1 := H i (by rw [S]; exact h1)
  have e2 := H' i (by rw [S]; exact h1)
  rw [e1] at e2
  simpa [List.getD_eq_getElem?_getD, h1, h2] using e2
theorem str_uniq {Z : State} {h : Heap} {a b b' : Addr} {k k' : ClassId} {cd cd' z z' : Int32} {xs ys : List Int32} (S : Str Z h a b k cd z (xs.map Value.int)) (S' : Str Z h a b' k' cd' z' (ys.map Value.int)) (hz : z.toInt = xs.length) (hz' : z'.toInt = ys.length) : xs = ys := by
  have e := fld_uniq S.2.2.1 S'.2.2.1
  cases e
  exact arv_uniq S.2.2.2 S'.2.2.2 hz hz'
theorem own_getI (xs : List Int32) (i : Nat) (h : i < xs.length) : (xs.map Value.int).getD i (.int 0) = .int xs[i] := by simp [List.getD_eq_getElem?_getD, h]
theorem d_jdk_43_method_13_code_0 : decode jdk_43_method_13_code 0 = .ok (.aload_n 0, 1) := by decide +kernel
theorem d_jdk_43_method_13_code_1 : decode jdk_43_method_13_code 1 = .ok (.arraylength, 1) := by decide +kernel
theorem d_jdk_43_method_13_code_2 : decode jdk_43_method_13_code 2 = .ok (.aload_n 1, 1) := by decide +kernel
theorem d_jdk_43_method_13_code_3 : decode jdk_43_method_13_code 3 = .ok (.arraylength, 1) := by decide +kernel
theorem d_jdk_43_method_13_code_4 : decode jdk_43_method_13_code 4 = .ok (.if_icmp .ne 30, 3) := by decide +kernel
theorem d_jdk_43_method_13_code_34 : decode jdk_43_method_13_code 34 = .ok (.iconst 0, 1) := by decide +kernel
theorem d_jdk_43_method_13_code_35 : decode jdk_43_method_13_code 35 = .ok (.ireturn, 1) := by decide +kernel
theorem d_jdk_43_method_13_code_7 : decode jdk_43_method_13_code 7 = .ok (.iconst 0, 1) := by decide +kernel
theorem d_jdk_43_method_13_code_8 : decode jdk_43_method_13_code 8 = .ok (.istore_n 2, 1) := by decide +kernel
theorem d_jdk_43_method_13_code_9 : decode jdk_43_method_13_code 9 = .ok (.iload_n 2, 1) := by decide +kernel
theorem d_jdk_43_method_13_code_10 : decode jdk_43_method_13_code 10 = .ok (.aload_n 0, 1) := by decide +kernel
theorem d_jdk_43_method_13_code_11 : decode jdk_43_method_13_code 11 = .ok (.arraylength, 1) := by decide +kernel
theorem d_jdk_43_method_13_code_12 : decode jdk_43_method_13_code 12 = .ok (.if_icmp .ge 20, 3) := by decide +kernel
theorem d_jdk_43_method_13_code_32 : decode jdk_43_method_13_code 32 = .ok (.iconst 1, 1) := by decide +kernel
theorem d_jdk_43_method_13_code_33 : decode jdk_43_method_13_code 33 = .ok (.ireturn, 1) := by decide +kernel
theorem d_jdk_43_method_13_code_15 : decode jdk_43_method_13_code 15 = .ok (.aload_n 0, 1) := by decide +kernel
theorem d_jdk_43_method_13_code_16 : decode jdk_43_method_13_code 16 = .ok (.iload_n 2, 1) := by decide +kernel
theorem d_jdk_43_method_13_code_17 : decode jdk_43_method_13_code 17 = .ok (.baload, 1) := by decide +kernel
theorem d_jdk_43_method_13_code_18 : decode jdk_43_method_13_code 18 = .ok (.aload_n 1, 1) := by decide +kernel
theorem d_jdk_43_method_13_code_19 : decode jdk_43_method_13_code 19 = .ok (.iload_n 2, 1) := by decide +kernel
theorem d_jdk_43_method_13_code_20 : decode jdk_43_method_13_code 20 = .ok (.baload, 1) := by decide +kernel
theorem d_jdk_43_method_13_code_21 : decode jdk_43_method_13_code 21 = .ok (.if_icmp .eq 5, 3) := by decide +kernel
theorem d_jdk_43_method_13_code_26 : decode jdk_43_method_13_code 26 = .ok (.iinc 2 1, 3) := by decide +kernel
theorem d_jdk_43_method_13_code_29 : decode jdk_43_method_13_code 29 = .ok (.goto (-20), 3) := by decide +kernel
theorem d_jdk_43_method_13_code_24 : decode jdk_43_method_13_code 24 = .ok (.iconst 0, 1) := by decide +kernel
theorem d_jdk_43_method_13_code_25 : decode jdk_43_method_13_code 25 = .ok (.ireturn, 1) := by decide +kernel
theorem pl_java_lang_StringLatin1 : plainName "java/lang/StringLatin1" = true := by first | (simp [plainName, overriddenIn]; done) | decide +kernel
set_option maxRecDepth 65536 in
set_option maxHeartbeats 40000000 in
theorem c_l1equals (l : Launch) (Z : State) (a0 : Array Value) (hw : Tb a0 Z) (hEW : EW Z a0 EL0) (n0 : Nat) (u v : Addr) (ku kv : ClassId) (zu zv : Int32) (xs ys : List Int32) (h0 : Heap) (O : Old Z n0 h0) (hu : zu.toInt = xs.length) (hv : zv.toInt = ys.length) (hb : xs.length ≤ 4000) (V_u : Arv Z h0 u ku .byte zu (xs.map Value.int) (.int 0)) (V_v : Arv Z h0 v kv .byte zv (ys.map Value.int) (.int 0)) :
    Ct l Z EL0 n0 (⟨"java/lang/StringLatin1", "equals", "([B[B)Z"⟩ : MethodName) jdk_43_method_13_code 3 (some .boolean) ({ frames := 0, cells := 0, slots := 0, locals := 0 } : Room) #[(.ref u), (.ref v)] h0 [] (Pu (some (.int (if xs = ys then 1 else 0))) h0) := by
  refine Ct.of (a0 := a0) #[.val (.ref u), .val (.ref v), .unset] hEW O (plainFor_of_name pl_java_lang_StringLatin1) (fun m => by first | (simp [entryFrame, mkF, argsToLocals, Value.category]; done) | rfl) ?_
  intro p_ e_ s_ m_ below_ meth_ c_ b_ T_ K hSP
  refine k_aloadN K d_jdk_43_method_13_code_0 (pc' := 1) rfl rfl rfl ?_
  refine k_len K V_u d_jdk_43_method_13_code_1 (pc' := 2) rfl ?_
  refine k_aloadN K d_jdk_43_method_13_code_2 (pc' := 3) rfl rfl rfl ?_
  refine k_len K V_v d_jdk_43_method_13_code_3 (pc' := 4) rfl ?_
  refine k_icmp_ne K d_jdk_43_method_13_code_4 (by decide) (pc' := 34) (pc2 := 7) (by decide) rfl (fun hc4 => ?_) (fun hc4 => ?_)
  · refine k_iconst K (0 : Int32) d_jdk_43_method_13_code_34 (pc' := 35) rfl rfl ?_
    exact k_nret K d_jdk_43_method_13_code_35 rfl (by simp) rfl (fun sf ht => ⟨by rw [if_neg fun q => hc4 (own_i32e (by rw [hu, hv, q]))], rfl⟩) (by decide) (by decide)
  · have hlen : xs.length = ys.length := by have q := congrArg Int32.toInt hc4; rw [hu, hv] at q; omega
    refine k_iconst K (0 : Int32) d_jdk_43_method_13_code_7 (pc' := 8) rfl rfl ?_
    refine k_istoreN K d_jdk_43_method_13_code_8 (pc' := 9) (L' := #[.val (.ref u), .val (.ref v), .val (.int (0 : Int32))]) rfl rfl ?_
    have LOOP : ∀ (k : Nat) (i : Int32) (j : Nat) (hj : i.toInt = j) (hk : j + k = xs.length) (hs : ∀ x (hx : x < j), xs[x] = ys[x]) (bl Tl : State) (hl : Heap) (Ll : List Loc), Wk p_ l e_ ({ frames := 0, cells := 0, slots := 0, locals := 0 } : Room) s_ m_ #[(.ref u), (.ref v)] below_ meth_ c_ Z a0 EL0 n0 (⟨"java/lang/StringLatin1", "equals", "([B[B)Z"⟩ : MethodName) jdk_43_method_13_code 3 (some .boolean) bl Tl hl Ll 0 0 → (hl = h0) → Goes p_.tables e_ below_ (FinW Z EL0 s_ n0 ({ frames := 0, cells := 0, slots := 0, locals := 0 } : Room) (Pu (some (.int (if xs = ys then 1 else 0))) h0)) (Tl.setTop (mkF m_ 9 #[.val (.ref u), .val (.ref v), .val (.int i)] [])) := by
      intro k
      induction k with
      | zero =>
        intro i j hj hk hs bl Tl hl Ll Kl ehl
        subst ehl
        refine k_iloadN Kl d_jdk_43_method_13_code_9 (pc' := 10) rfl rfl ?_
        refine k_aloadN Kl d_jdk_43_method_13_code_10 (pc' := 11) rfl rfl rfl ?_
        refine k_len Kl V_u d_jdk_43_method_13_code_11 (pc' := 12) rfl ?_
        refine k_icmp_ge Kl d_jdk_43_method_13_code_12 (by decide) (pc' := 32) (pc2 := 15) (by decide) rfl (fun hc12 => ?_) (fun q => absurd q (by rw [own_i32, hj, hu]; omega))
        refine k_iconst Kl (1 : Int32) d_jdk_43_method_13_code_32 (pc' := 33) rfl rfl ?_
        exact k_nret Kl d_jdk_43_method_13_code_33 rfl (by simp) rfl (fun sf ht => ⟨by rw [if_pos (List.ext_getElem hlen fun x h1 h2 => hs x (by omega))], rfl⟩) (by decide) (by decide)
      | succ k ih =>
        intro i j hj hk hs bl Tl hl Ll Kl ehl
        subst ehl
        have hjl : j < xs.length := by omega
        refine k_iloadN Kl d_jdk_43_method_13_code_9 (pc' := 10) rfl rfl ?_
        refine k_aloadN Kl d_jdk_43_method_13_code_10 (pc' := 11) rfl rfl rfl ?_
        refine k_len Kl V_u d_jdk_43_method_13_code_11 (pc' := 12) rfl ?_
        refine k_icmp_ge Kl d_jdk_43_method_13_code_12 (by decide) (pc' := 32) (pc2 := 15) (by decide) rfl (fun q => absurd (by rw [own_i32, hj, hu]; omega) q) (fun hc12 => ?_)
        refine k_aloadN Kl d_jdk_43_method_13_code_15 (pc' := 16) rfl rfl rfl ?_
        refine k_iloadN Kl d_jdk_43_method_13_code_16 (pc' := 17) rfl rfl ?_
        refine k_baload Kl (j := i) V_u (own_in hj hu hjl) (by rw [own_clamp hj]; exact own_getI xs j hjl) d_jdk_43_method_13_code_17 (pc' := 18) rfl ?_
        refine k_aloadN Kl d_jdk_43_method_13_code_18 (pc' := 19) rfl rfl rfl ?_
        refine k_iloadN Kl d_jdk_43_method_13_code_19 (pc' := 20) rfl rfl ?_
        refine k_baload Kl (j := i) V_v (own_in hj hv (by omega)) (by rw [own_clamp hj]; exact own_getI ys j (by omega)) d_jdk_43_method_13_code_20 (pc' := 21) rfl ?_
        refine k_icmp_eq Kl d_jdk_43_method_13_code_21 (by decide) (pc' := 26) (pc2 := 24) (by decide) rfl (fun hc21 => ?_) (fun hc21 => ?_)
        · refine k_iinc Kl (1 : Int32) d_jdk_43_method_13_code_26 (pc' := 29) (L' := #[.val (.ref u), .val (.ref v), .val (.int (i + (1 : Int32)))]) rfl rfl rfl rfl ?_
          refine k_goto Kl d_jdk_43_method_13_code_29 (by decide) (pc' := 9) (by decide) ?_
          exact ih (i + 1) (j + 1) (own_add1 hj (by omega)) (by omega) (fun x hx => by
            rcases Nat.lt_or_ge x j with q | q
            · exact hs x q
            · have e1 : x = j := by omega
              subst e1; exact hc21) _ _ _ _ Kl rfl
        · refine k_iconst Kl (0 : Int32) d_jdk_43_method_13_code_24 (pc' := 25) rfl rfl ?_
          exact k_nret Kl d_jdk_43_method_13_code_25 rfl (by simp) rfl (fun sf ht => ⟨by rw [if_neg fun q => hc21 (by simp only [q])], rfl⟩) (by decide) (by decide)
    exact LOOP xs.length (0 : Int32) 0 rfl (by omega) (fun x hx => absurd hx (Nat.not_lt_zero _)) _ _ _ _ K rfl
theorem d_jdk_42_method_66_code_0 : decode jdk_42_method_66_code 0 = .ok (.aload_n 0, 1) := by decide +kernel
theorem d_jdk_42_method_66_code_1 : decode jdk_42_method_66_code 1 = .ok (.aload_n 1, 1) := by decide +kernel
theorem d_jdk_42_method_66_code_2 : decode jdk_42_method_66_code 2 = .ok (.if_acmp .ne 5, 3) := by decide +kernel
theorem d_jdk_42_method_66_code_5 : decode jdk_42_method_66_code 5 = .ok (.iconst 1, 1) := by decide +kernel
theorem d_jdk_42_method_66_code_6 : decode jdk_42_method_66_code 6 = .ok (.ireturn, 1) := by decide +kernel
theorem d_jdk_42_method_66_code_7 : decode jdk_42_method_66_code 7 = .ok (.aload_n 1, 1) := by decide +kernel
theorem d_jdk_42_method_66_code_8 : decode jdk_42_method_66_code 8 = .ok (.instanceof 10, 3) := by decide +kernel
theorem w45 {Z : State} {a0 : Array Value} (hw : Tb a0 Z) : (Jvm.Cond.classLink "java/lang/String" (10 : Nat) "java/lang/String").before a0 Z = true := hw _ (List.mem_of_getElem? (i := 45) rfl)
theorem d_jdk_42_method_66_code_11 : decode jdk_42_method_66_code 11 = .ok (.ifCond .eq 43, 3) := by decide +kernel
theorem d_jdk_42_method_66_code_14 : decode jdk_42_method_66_code 14 = .ok (.aload_n 1, 1) := by decide +kernel
theorem d_jdk_42_method_66_code_15 : decode jdk_42_method_66_code 15 = .ok (.checkcast 10, 3) := by decide +kernel
theorem d_jdk_42_method_66_code_18 : decode jdk_42_method_66_code 18 = .ok (.astore_n 2, 1) := by decide +kernel
theorem d_jdk_42_method_66_code_19 : decode jdk_42_method_66_code 19 = .ok (.getstatic 38, 3) := by decide +kernel
theorem d_jdk_42_method_66_code_22 : decode jdk_42_method_66_code 22 = .ok (.ifCond .eq 14, 3) := by decide +kernel
theorem d_jdk_42_method_66_code_25 : decode jdk_42_method_66_code 25 = .ok (.aload_n 0, 1) := by decide +kernel
theorem d_jdk_42_method_66_code_26 : decode jdk_42_method_66_code 26 = .ok (.getfield 15, 3) := by decide +kernel
theorem d_jdk_42_method_66_code_29 : decode jdk_42_method_66_code 29 = .ok (.aload_n 2, 1) := by decide +kernel
theorem d_jdk_42_method_66_code_30 : decode jdk_42_method_66_code 30 = .ok (.getfield 15, 3) := by decide +kernel
theorem d_jdk_42_method_66_code_33 : decode jdk_42_method_66_code 33 = .ok (.if_icmp .ne 21, 3) := by decide +kernel
theorem d_jdk_42_method_66_code_36 : decode jdk_42_method_66_code 36 = .ok (.aload_n 0, 1) := by decide +kernel
theorem d_jdk_42_method_66_code_37 : decode jdk_42_method_66_code 37 = .ok (.getfield 9, 3) := by decide +kernel
theorem d_jdk_42_method_66_code_40 : decode jdk_42_method_66_code 40 = .ok (.aload_n 2, 1) := by decide +kernel
theorem d_jdk_42_method_66_code_41 : decode jdk_42_method_66_code 41 = .ok (.getfield 9, 3) := by decide +kernel
theorem d_jdk_42_method_66_code_44 : decode jdk_42_method_66_code 44 = .ok (.invokestatic 541, 3) := by decide +kernel
theorem w76 {Z : State} {a0 : Array Value} (hw : Tb a0 Z) : (Jvm.Cond.methodLink "java/lang/String" (541 : Nat) ({ cls := "java/lang/StringLatin1", name := "equals", desc := "([B[B)Z" } : Jvm.MethodName)).before a0 Z = true := hw _ (List.mem_of_getElem? (i := 76) rfl)
theorem w43 {Z : State} {a0 : Array Value} (hw : Tb a0 Z) : (Jvm.Cond.initialized "java/lang/StringLatin1").before a0 Z = true := hw _ (List.mem_of_getElem? (i := 43) rfl)
theorem w78 {Z : State} {a0 : Array Value} (hw : Tb a0 Z) : (Jvm.Cond.code ({ cls := "java/lang/StringLatin1", name := "equals", desc := "([B[B)Z" } : Jvm.MethodName) jdk_43_method_13_code (3 : Nat) (Option.some Jvm.ClassFile.FieldType.boolean)).before a0 Z = true := hw _ (List.mem_of_getElem? (i := 78) rfl)
theorem w77 {Z : State} {a0 : Array Value} (hw : Tb a0 Z) : (Jvm.Cond.static ({ cls := "java/lang/StringLatin1", name := "equals", desc := "([B[B)Z" } : Jvm.MethodName)).before a0 Z = true := hw _ (List.mem_of_getElem? (i := 77) rfl)
theorem pd___B_B_Z_1990 : parseMethodDescriptor "([B[B)Z" = some ⟨[(.array .byte), (.array .byte)], some .boolean⟩ := by decide +kernel
theorem d_jdk_42_method_66_code_47 : decode jdk_42_method_66_code 47 = .ok (.ifCond .eq 7, 3) := by decide +kernel
theorem d_jdk_42_method_66_code_54 : decode jdk_42_method_66_code 54 = .ok (.iconst 0, 1) := by decide +kernel
theorem d_jdk_42_method_66_code_55 : decode jdk_42_method_66_code 55 = .ok (.ireturn, 1) := by decide +kernel
theorem d_jdk_42_method_66_code_50 : decode jdk_42_method_66_code 50 = .ok (.iconst 1, 1) := by decide +kernel
theorem d_jdk_42_method_66_code_51 : decode jdk_42_method_66_code 51 = .ok (.goto 4, 3) := by decide +kernel
set_option maxRecDepth 65536 in
set_option maxHeartbeats 40000000 in
theorem c_equals (l : Launch) (Z : State) (a0 : Array Value) (hw : Tb a0 Z) (hEW : EW Z a0 EL0) (n0 : Nat) (a a' : Addr) (b b' : Addr) (k k' : ClassId) (z z' : Int32) (xs ys : List Int32) (cs0 : Int32) (h0 : Heap) (O : Old Z n0 h0) (hz : z.toInt = xs.length) (hz' : z'.toInt = ys.length) (hb : xs.length ≤ 4000) (S : Str Z h0 a b k 0 z (xs.map Value.int)) (S' : Str Z h0 a' b' k' 0 z' (ys.map Value.int)) (SC : Sta Z Z.heap "java/lang/String" "COMPACT_STRINGS" "Z" (.int cs0)) (hcs : ¬ cs0 = 0) :
    Ct l Z EL0 n0 (⟨"java/lang/String", "equals", "(Ljava/lang/Object;)Z"⟩ : MethodName) jdk_42_method_66_code 3 (some .boolean) ({ frames := 1, cells := 0, slots := 0, locals := 14 } : Room) #[(.ref a), (.ref a')] h0 [] (Pu (some (.int (if xs = ys then 1 else 0))) h0) := by
  refine Ct.of (a0 := a0) #[.val (.ref a), .val (.ref a'), .unset] hEW O (plainFor_of_name pl_java_lang_String) (fun m => by first | (simp [entryFrame, mkF, argsToLocals, Value.category]; done) | rfl) ?_
  intro p_ e_ s_ m_ below_ meth_ c_ b_ T_ K hSP
  refine k_aloadN K d_jdk_42_method_66_code_0 (pc' := 1) rfl rfl rfl ?_
  refine k_aloadN K d_jdk_42_method_66_code_1 (pc' := 2) rfl rfl rfl ?_
  refine k_acmp_ne K rfl rfl d_jdk_42_method_66_code_2 (by decide) (pc' := 7) (pc2 := 5) (by decide) rfl (fun hc2 => ?_) (fun hc2 => ?_)
  · refine k_iconst K (1 : Int32) d_jdk_42_method_66_code_5 (pc' := 6) rfl rfl ?_
    have e1 : a = a' := Value.ref.inj hc2
    subst e1
    exact k_nret K d_jdk_42_method_66_code_6 rfl (by simp) rfl (fun sf ht => ⟨by rw [if_pos (str_uniq S S' hz hz')], rfl⟩) (by decide) (by decide)
  · refine k_aloadN K d_jdk_42_method_66_code_7 (pc' := 8) rfl rfl rfl ?_
    refine k_instY K (w45 hw) (Ins.self S'.1) d_jdk_42_method_66_code_8 (pc' := 11) rfl ?_
    intro T13 K13
    refine k_if_eq K13 d_jdk_42_method_66_code_11 (by decide) (pc' := 54) (pc2 := 14) (by decide) rfl (fun q => absurd q (by decide)) (fun hc11 => ?_)
    refine k_aloadN K13 d_jdk_42_method_66_code_14 (pc' := 15) rfl rfl rfl ?_
    refine k_castY K13 (w45 hw) (Ins.self S'.1) d_jdk_42_method_66_code_15 (pc' := 18) rfl ?_
    intro T14 K14
    refine k_astoreN K14 d_jdk_42_method_66_code_18 (pc' := 19) (L' := #[.val (.ref a), .val (.ref a'), .val (.ref a')]) rfl rfl rfl ?_
    refine k_getS K14 (w40 hw) Via.refl SC d_jdk_42_method_66_code_19 (pc' := 22) rfl ?_
    intro T15 K15
    refine k_if_eq K15 d_jdk_42_method_66_code_22 (by decide) (pc' := 36) (pc2 := 25) (by decide) rfl (fun q => absurd q hcs) (fun hc22 => ?_)
    refine k_aloadN K15 d_jdk_42_method_66_code_25 (pc' := 26) rfl rfl rfl ?_
    refine k_getF K15 (w55 hw) Via.refl S.2.1 d_jdk_42_method_66_code_26 (pc' := 29) rfl ?_
    intro T16 K16
    refine k_aloadN K16 d_jdk_42_method_66_code_29 (pc' := 30) rfl rfl rfl ?_
    refine k_getF K16 (w55 hw) Via.refl S'.2.1 d_jdk_42_method_66_code_30 (pc' := 33) rfl ?_
    intro T17 K17
    refine k_icmp_ne K17 d_jdk_42_method_66_code_33 (by decide) (pc' := 54) (pc2 := 36) (by decide) rfl (fun q => absurd (by decide) q) (fun hc33 => ?_)
    refine k_aloadN K17 d_jdk_42_method_66_code_36 (pc' := 37) rfl rfl rfl ?_
    refine k_getF K17 (w54 hw) Via.refl S.2.2.1 d_jdk_42_method_66_code_37 (pc' := 40) rfl ?_
    intro T18 K18
    refine k_aloadN K18 d_jdk_42_method_66_code_40 (pc' := 41) rfl rfl rfl ?_
    refine k_getF K18 (w54 hw) Via.refl S'.2.2.1 d_jdk_42_method_66_code_41 (pc' := 44) rfl ?_
    intro T19 K19
    refine k_staticP K19 [(.ref b), (.ref b')] [] 0 (w76 hw) (w77 hw) (w43 hw) (w78 hw) (by decide) pd___B_B_Z_1990 (c_l1equals l Z a0 hw hEW n0 b b' k k' z z' xs ys h0 K19.old hz hz' hb S.2.2.2 S'.2.2.2) d_jdk_42_method_66_code_44 nofun (pc' := 47) rfl rfl rfl rfl (Nat.le_of_eq rfl) (by decide) (by decide) (by decide) (by decide) ?_
    intro b20 T20 L20 K20 tr20
    show Goes p_.tables e_ below_ _ (T20.setTop (mkF m_ 47 #[.val (.ref a), .val (.ref a'), .val (.ref a')] [(.int (if xs = ys then 1 else 0))]))
    refine k_if_eq K20 d_jdk_42_method_66_code_47 (by decide) (pc' := 54) (pc2 := 50) (by decide) rfl (fun hc47 => ?_) (fun hc47 => ?_)
    · refine k_iconst K20 (0 : Int32) d_jdk_42_method_66_code_54 (pc' := 55) rfl rfl ?_
      have q1 : ¬ xs = ys := fun q => by rw [if_pos q] at hc47; exact absurd hc47 (by decide)
      exact k_nret K20 d_jdk_42_method_66_code_55 rfl (by simp) rfl (fun sf ht => ⟨by rw [if_neg q1], rfl⟩) (by decide) (by decide)
    · refine k_iconst K20 (1 : Int32) d_jdk_42_method_66_code_50 (pc' := 51) rfl rfl ?_
      refine k_goto K20 d_jdk_42_method_66_code_51 (by decide) (pc' := 55) (by decide) ?_
      have q1 : xs = ys := Classical.byContradiction fun q => hc47 (if_neg q)
      exact k_nret K20 d_jdk_42_method_66_code_55 rfl (by simp) rfl (fun sf ht => ⟨by rw [if_pos q1], rfl⟩) (by decide) (by decide)
theorem d_jdk_43_method_3_code_0 : decode jdk_43_method_3_code 0 = .ok (.iload_n 0, 1) := by decide +kernel
theorem d_jdk_43_method_3_code_1 : decode jdk_43_method_3_code 1 = .ok (.sipush 255, 3) := by decide +kernel
theorem d_jdk_43_method_3_code_4 : decode jdk_43_method_3_code 4 = .ok (.if_icmp .gt 7, 3) := by decide +kernel
theorem d_jdk_43_method_3_code_11 : decode jdk_43_method_3_code 11 = .ok (.iconst 0, 1) := by decide +kernel
theorem d_jdk_43_method_3_code_12 : decode jdk_43_method_3_code 12 = .ok (.ireturn, 1) := by decide +kernel
theorem d_jdk_43_method_3_code_7 : decode jdk_43_method_3_code 7 = .ok (.iconst 1, 1) := by decide +kernel
theorem d_jdk_43_method_3_code_8 : decode jdk_43_method_3_code 8 = .ok (.goto 4, 3) := by decide +kernel
set_option maxRecDepth 65536 in
set_option maxHeartbeats 40000000 in
theorem c_canEncode (l : Launch) (Z : State) (a0 : Array Value) (hw : Tb a0 Z) (hEW : EW Z a0 EL0) (n0 : Nat) (i : Int32) (h0 : Heap) (O : Old Z n0 h0)  :
    Ct l Z EL0 n0 (⟨"java/lang/StringLatin1", "canEncode", "(C)Z"⟩ : MethodName) jdk_43_method_3_code 1 (some .boolean) ({ frames := 0, cells := 0, slots := 0, locals := 0 } : Room) #[(.int i)] h0 [] (Pu (some (.int (if (255 : Int32) < i then 0 else 1))) h0) := by
  refine Ct.of (a0 := a0) #[.val (.int i)] hEW O (plainFor_of_name pl_java_lang_StringLatin1) (fun m => by first | (simp [entryFrame, mkF, argsToLocals, Value.category]; done) | rfl) ?_
  intro p_ e_ s_ m_ below_ meth_ c_ b_ T_ K hSP
  refine k_iloadN K d_jdk_43_method_3_code_0 (pc' := 1) rfl rfl ?_
  refine k_sipush K (255 : Int32) d_jdk_43_method_3_code_1 (pc' := 4) rfl rfl ?_
  refine k_icmp_gt K d_jdk_43_method_3_code_4 (by decide) (pc' := 11) (pc2 := 7) (by decide) rfl (fun hc4 => ?_) (fun hc4 => ?_)
  · refine k_iconst K (0 : Int32) d_jdk_43_method_3_code_11 (pc' := 12) rfl rfl ?_
    exact k_nret K d_jdk_43_method_3_code_12 rfl (by simp) rfl (fun sf ht => ⟨by rw [if_pos hc4], rfl⟩) (by decide) (by decide)
  · refine k_iconst K (1 : Int32) d_jdk_43_method_3_code_7 (pc' := 8) rfl rfl ?_
    refine k_goto K d_jdk_43_method_3_code_8 (by decide) (pc' := 12) (by decide) ?_
    exact k_nret K d_jdk_43_method_3_code_12 rfl (by simp) rfl (fun sf ht => ⟨by rw [if_neg hc4], rfl⟩) (by decide) (by decide)
theorem d_jdk_43_method_46_code_0 : decode jdk_43_method_46_code 0 = .ok (.iconst 1, 1) := by decide +kernel
theorem d_jdk_43_method_46_code_1 : decode jdk_43_method_46_code 1 = .ok (.newarray .byte, 2) := by decide +kernel
theorem d_jdk_43_method_46_code_3 : decode jdk_43_method_46_code 3 = .ok (.dup, 1) := by decide +kernel
theorem d_jdk_43_method_46_code_4 : decode jdk_43_method_46_code 4 = .ok (.iconst 0, 1) := by decide +kernel
theorem d_jdk_43_method_46_code_5 : decode jdk_43_method_46_code 5 = .ok (.iload_n 0, 1) := by decide +kernel
theorem d_jdk_43_method_46_code_6 : decode jdk_43_method_46_code 6 = .ok (.i2b, 1) := by decide +kernel
theorem d_jdk_43_method_46_code_7 : decode jdk_43_method_46_code 7 = .ok (.bastore, 1) := by decide +kernel
theorem d_jdk_43_method_46_code_8 : decode jdk_43_method_46_code 8 = .ok (.areturn, 1) := by decide +kernel
set_option maxRecDepth 65536 in
set_option maxHeartbeats 40000000 in
theorem c_l1toBytes (l : Launch) (Z : State) (a0 : Array Value) (hw : Tb a0 Z) (hEW : EW Z a0 EL0) (n0 : Nat) (i : Int32) (h0 : Heap) (O : Old Z n0 h0)  :
    Ct l Z EL0 n0 (⟨"java/lang/StringLatin1", "toBytes", "(C)[B"⟩ : MethodName) jdk_43_method_46_code 1 (some (.array .byte)) ({ frames := 0, cells := 1, slots := 1, locals := 0 } : Room) #[(.int i)] h0 [] (fun v h sf => ∃ d kd, v = some (.ref d) ∧ h0.size ≤ d ∧ Keep h0 h [] ∧ Arv Z h d kd .byte 1 [byteV i] (.int 0) ∧ sf d) := by
  refine Ct.of (a0 := a0) #[.val (.int i)] hEW O (plainFor_of_name pl_java_lang_StringLatin1) (fun m => by first | (simp [entryFrame, mkF, argsToLocals, Value.category]; done) | rfl) ?_
  intro p_ e_ s_ m_ below_ meth_ c_ b_ T_ K hSP
  have KP := Keep.refl h0 []
  refine k_iconst K (1 : Int32) d_jdk_43_method_46_code_0 (pc' := 1) rfl rfl ?_
  refine k_newarray K (aty := .byte) (z := (1 : Int32)) (w7 hw) (by decide) (cap := 1) (by decide) (by decide) d_jdk_43_method_46_code_1 (pc' := 3) rfl (by decide) (by decide) ?_
  intro T21 h21 a21 ka21 g21 K21 E21 tr21 sf_a21 V_a21
  have ga_a21 : n0 ≤ a21 := own_old K.old g21
  have sz_a21 : h0.size ≤ a21 := g21 ▸ KP.1
  replace KP := KP.ext E21
  replace V_a21 : Arv Z h21 a21 ka21 .byte (1 : Int32) [(.int (0 : Int32))] (.int (0 : Int32)) := V_a21.pad (pad_rep [] (.int (0 : Int32)) 1)
  refine k_dup K21 d_jdk_43_method_46_code_3 (pc' := 4) rfl rfl ?_
  refine k_iconst K21 (0 : Int32) d_jdk_43_method_46_code_4 (pc' := 5) rfl rfl ?_
  refine k_iloadN K21 d_jdk_43_method_46_code_5 (pc' := 6) rfl rfl ?_
  refine k_i2b K21 d_jdk_43_method_46_code_6 (pc' := 7) rfl ?_
  refine k_bastore K21 (j := (0 : Int32)) V_a21 ⟨by decide, by decide⟩ (Nat.le_of_ble_eq_true rfl) ga_a21 sf_a21 d_jdk_43_method_46_code_7 (pc' := 8) rfl ?_
  intro T22 h22 K22 W22 tr22 V22
  replace sf_a21 := tr22 a21 V_a21.lt sf_a21
  replace KP := KP.wr W22 (Or.inr sz_a21)
  replace V_a21 := V22
  rw [own_byte] at V_a21
  replace V_a21 : Arv Z h22 a21 ka21 .byte 1 [byteV i] (.int 0) := V_a21
  exact k_aret K22 d_jdk_43_method_46_code_8 rfl rfl rfl (fun sf ht => ⟨a21, ka21, rfl, sz_a21, KP, V_a21, ht _ V_a21.lt sf_a21⟩) (by decide) (by decide)
theorem d_jdk_42_method_151_code_0 : decode jdk_42_method_151_code 0 = .ok (.aload_n 0, 1) := by decide +kernel
theorem d_jdk_42_method_151_code_1 : decode jdk_42_method_151_code 1 = .ok (.invokespecial 1, 3) := by decide +kernel
theorem d_jdk_42_method_151_code_4 : decode jdk_42_method_151_code 4 = .ok (.aload_n 0, 1) := by decide +kernel
theorem d_jdk_42_method_151_code_5 : decode jdk_42_method_151_code 5 = .ok (.aload_n 1, 1) := by decide +kernel
theorem d_jdk_42_method_151_code_6 : decode jdk_42_method_151_code 6 = .ok (.putfield 9, 3) := by decide +kernel
theorem d_jdk_42_method_151_code_9 : decode jdk_42_method_151_code 9 = .ok (.aload_n 0, 1) := by decide +kernel
theorem d_jdk_42_method_151_code_10 : decode jdk_42_method_151_code 10 = .ok (.iload_n 2, 1) := by decide +kernel
theorem d_jdk_42_method_151_code_11 : decode jdk_42_method_151_code 11 = .ok (.putfield 15, 3) := by decide +kernel
theorem d_jdk_42_method_151_code_14 : decode jdk_42_method_151_code 14 = .ok (.return_, 1) := by decide +kernel
set_option maxRecDepth 65536 in
set_option maxHeartbeats 40000000 in
theorem c_initBB (l : Launch) (Z : State) (a0 : Array Value) (hw : Tb a0 Z) (hEW : EW Z a0 EL0) (n0 : Nat) (a d : Addr) (kd : ClassId) (cd z : Int32) (vs : List Value) (u1 u2 : Value) (h0 : Heap) (O : Old Z n0 h0) (hcd : cd = 0 ∨ cd = 1) (V_d : Arv Z h0 d kd .byte z vs (.int 0)) (X_a : Exa Z h0 a "java/lang/String") (F_a_value : Fld Z h0 a "java/lang/String" "value" "[B" u1) (F_a_coder : Fld Z h0 a "java/lang/String" "coder" "B" u2) (ga_a : n0 ≤ a) (ne_a_d : a ≠ d) :
    Ct l Z EL0 n0 (⟨"java/lang/String", "<init>", "([BB)V"⟩ : MethodName) jdk_42_method_151_code 3 none ({ frames := 1, cells := 0, slots := 0, locals := 12 } : Room) #[(.ref a), (.ref d), (.int cd)] h0 [a] (fun v h sf => v = none ∧ Keep h0 h [a] ∧ Str Z h a d kd cd z vs) := by
  refine Ct.of (a0 := a0) #[.val (.ref a), .val (.ref d), .val (.int cd)] hEW O (plainFor_of_name pl_java_lang_String) (fun m => by first | (simp [entryFrame, mkF, argsToLocals, Value.category]; done) | rfl) ?_
  intro p_ e_ s_ m_ below_ meth_ c_ b_ T_ K hSP
  have KP := Keep.refl h0 [a]
  have sf_a := hSP a (by simp)
  refine k_aloadN K d_jdk_42_method_151_code_0 (pc' := 1) rfl rfl rfl ?_
  refine k_initO K (w53 hw) (w19 hw) (w20 hw) d_jdk_42_method_151_code_1 (pc' := 4) rfl rfl (by decide) 0 (Nat.le_of_eq rfl) (by decide) ?_
  intro T23 K23
  refine k_aloadN K23 d_jdk_42_method_151_code_4 (pc' := 5) rfl rfl rfl ?_
  refine k_aloadN K23 d_jdk_42_method_151_code_5 (pc' := 6) rfl rfl rfl ?_
  refine k_putF K23 (w54 hw) Via.refl F_a_value X_a (Or.inr ⟨(w8 hw), rfl, rfl⟩) (w6 hw) (ty := (.array .byte)) (by decide) rfl rfl ga_a sf_a d_jdk_42_method_151_code_6 (pc' := 9) rfl ?_
  intro T24 h24 K24 W24 tr24
  have F24 := F_a_value.same W24
  replace sf_a := tr24 a X_a.lt sf_a
  replace V_d := V_d.other W24 (Ne.symm ne_a_d)
  replace X_a := X_a.wr W24
  replace F_a_coder := F_a_coder.other W24 (Or.inr (slot_ne (Or.inr (w9 hw)) (Or.inr (w8 hw)) (by decide) (t := .byte) (t' := (.array .byte)) (by decide) (by decide)))
  replace KP := KP.wr W24 (Or.inl (by simp))
  replace F_a_value := F24
  refine k_aloadN K24 d_jdk_42_method_151_code_9 (pc' := 10) rfl rfl rfl ?_
  refine k_iloadN K24 d_jdk_42_method_151_code_10 (pc' := 11) rfl rfl ?_
  refine k_putF K24 (w55 hw) Via.refl F_a_coder X_a (Or.inr ⟨(w9 hw), rfl, rfl⟩) (w6 hw) (ty := .byte) (by decide) (by rcases hcd with rfl | rfl <;> rfl) (by rcases hcd with rfl | rfl <;> rfl) ga_a sf_a d_jdk_42_method_151_code_11 (pc' := 14) rfl ?_
  intro T25 h25 K25 W25 tr25
  have F25 := F_a_coder.same W25
  replace sf_a := tr25 a X_a.lt sf_a
  replace V_d := V_d.other W25 (Ne.symm ne_a_d)
  replace X_a := X_a.wr W25
  replace F_a_value := F_a_value.other W25 (Or.inr (slot_ne (Or.inr (w8 hw)) (Or.inr (w9 hw)) (by decide) (t := (.array .byte)) (t' := .byte) (by decide) (by decide)))
  replace KP := KP.wr W25 (Or.inl (by simp))
  replace F_a_coder := F25
  exact k_return K25 d_jdk_42_method_151_code_14 rfl (fun sf ht => ⟨rfl, KP, X_a, F_a_coder, F_a_value, V_d⟩) (by decide) (by decide)
theorem d_jdk_42_method_139_code_0 : decode jdk_42_method_139_code 0 = .ok (.getstatic 38, 3) := by decide +kernel
theorem d_jdk_42_method_139_code_3 : decode jdk_42_method_139_code 3 = .ok (.ifCond .eq 23, 3) := by decide +kernel
theorem d_jdk_42_method_139_code_6 : decode jdk_42_method_139_code 6 = .ok (.iload_n 0, 1) := by decide +kernel
theorem d_jdk_42_method_139_code_7 : decode jdk_42_method_139_code 7 = .ok (.invokestatic 1015, 3) := by decide +kernel
theorem w41 {Z : State} {a0 : Array Value} (hw : Tb a0 Z) : (Jvm.Cond.methodLink "java/lang/String" (1015 : Nat) ({ cls := "java/lang/StringLatin1", name := "canEncode", desc := "(C)Z" } : Jvm.MethodName)).before a0 Z = true := hw _ (List.mem_of_getElem? (i := 41) rfl)
theorem w44 {Z : State} {a0 : Array Value} (hw : Tb a0 Z) : (Jvm.Cond.code ({ cls := "java/lang/StringLatin1", name := "canEncode", desc := "(C)Z" } : Jvm.MethodName) jdk_43_method_3_code (1 : Nat) (Option.some Jvm.ClassFile.FieldType.boolean)).before a0 Z = true := hw _ (List.mem_of_getElem? (i := 44) rfl)
theorem w42 {Z : State} {a0 : Array Value} (hw : Tb a0 Z) : (Jvm.Cond.static ({ cls := "java/lang/StringLatin1", name := "canEncode", desc := "(C)Z" } : Jvm.MethodName)).before a0 Z = true := hw _ (List.mem_of_getElem? (i := 42) rfl)
theorem pd__C_Z_657 : parseMethodDescriptor "(C)Z" = some ⟨[.char], some .boolean⟩ := by decide +kernel
theorem d_jdk_42_method_139_code_10 : decode jdk_42_method_139_code 10 = .ok (.ifCond .eq 16, 3) := by decide +kernel
theorem d_jdk_42_method_139_code_13 : decode jdk_42_method_139_code 13 = .ok (.new 10, 3) := by decide +kernel
theorem d_jdk_42_method_139_code_16 : decode jdk_42_method_139_code 16 = .ok (.dup, 1) := by decide +kernel
theorem d_jdk_42_method_139_code_17 : decode jdk_42_method_139_code 17 = .ok (.iload_n 0, 1) := by decide +kernel
theorem d_jdk_42_method_139_code_18 : decode jdk_42_method_139_code 18 = .ok (.invokestatic 1018, 3) := by decide +kernel
theorem w46 {Z : State} {a0 : Array Value} (hw : Tb a0 Z) : (Jvm.Cond.methodLink "java/lang/String" (1018 : Nat) ({ cls := "java/lang/StringLatin1", name := "toBytes", desc := "(C)[B" } : Jvm.MethodName)).before a0 Z = true := hw _ (List.mem_of_getElem? (i := 46) rfl)
theorem w48 {Z : State} {a0 : Array Value} (hw : Tb a0 Z) : (Jvm.Cond.code ({ cls := "java/lang/StringLatin1", name := "toBytes", desc := "(C)[B" } : Jvm.MethodName) jdk_43_method_46_code (1 : Nat) (Option.some (Jvm.ClassFile.FieldType.array Jvm.ClassFile.FieldType.byte))).before a0 Z = true := hw _ (List.mem_of_getElem? (i := 48) rfl)
theorem w47 {Z : State} {a0 : Array Value} (hw : Tb a0 Z) : (Jvm.Cond.static ({ cls := "java/lang/StringLatin1", name := "toBytes", desc := "(C)[B" } : Jvm.MethodName)).before a0 Z = true := hw _ (List.mem_of_getElem? (i := 47) rfl)
theorem pd__C__B_991 : parseMethodDescriptor "(C)[B" = some ⟨[.char], some (.array .byte)⟩ := by decide +kernel
theorem d_jdk_42_method_139_code_21 : decode jdk_42_method_139_code 21 = .ok (.iconst 0, 1) := by decide +kernel
theorem d_jdk_42_method_139_code_22 : decode jdk_42_method_139_code 22 = .ok (.invokespecial 209, 3) := by decide +kernel
theorem w49 {Z : State} {a0 : Array Value} (hw : Tb a0 Z) : (Jvm.Cond.methodLink "java/lang/String" (209 : Nat) ({ cls := "java/lang/String", name := "<init>", desc := "([BB)V" } : Jvm.MethodName)).before a0 Z = true := hw _ (List.mem_of_getElem? (i := 49) rfl)
theorem w52 {Z : State} {a0 : Array Value} (hw : Tb a0 Z) : (Jvm.Cond.code ({ cls := "java/lang/String", name := "<init>", desc := "([BB)V" } : Jvm.MethodName) jdk_42_method_151_code (3 : Nat) (Option.none : Option Jvm.ClassFile.FieldType)).before a0 Z = true := hw _ (List.mem_of_getElem? (i := 52) rfl)
theorem w50 {Z : State} {a0 : Array Value} (hw : Tb a0 Z) : (Jvm.Cond.instanceMethod ({ cls := "java/lang/String", name := "<init>", desc := "([BB)V" } : Jvm.MethodName)).before a0 Z = true := hw _ (List.mem_of_getElem? (i := 50) rfl)
theorem pd___BB_V_1405 : parseMethodDescriptor "([BB)V" = some ⟨[(.array .byte), .byte], none⟩ := by decide +kernel
theorem d_jdk_42_method_139_code_25 : decode jdk_42_method_139_code 25 = .ok (.areturn, 1) := by decide +kernel
set_option maxRecDepth 65536 in
set_option maxHeartbeats 40000000 in
theorem c_valueOfC (l : Launch) (Z : State) (a0 : Array Value) (hw : Tb a0 Z) (hEW : EW Z a0 EL0) (n0 : Nat) (i : Int32) (cs0 : Int32) (h0 : Heap) (O : Old Z n0 h0) (SC : Sta Z Z.heap "java/lang/String" "COMPACT_STRINGS" "Z" (.int cs0)) (hcs : ¬ cs0 = 0) (hi : ¬ (255 : Int32) < i) :
    Ct l Z EL0 n0 (⟨"java/lang/String", "valueOf", "(C)Ljava/lang/String;"⟩ : MethodName) jdk_42_method_139_code 1 (some (.object "java/lang/String")) ({ frames := 2, cells := 2, slots := 5, locals := 27 } : Room) #[(.int i)] h0 [] (fun v h sf => ∃ a d kd, v = some (.ref a) ∧ h0.size ≤ a ∧ h0.size ≤ d ∧ a ≠ d ∧ Keep h0 h [] ∧ Str Z h a d kd 0 1 [byteV i]) := by
  refine Ct.of (a0 := a0) #[.val (.int i)] hEW O (plainFor_of_name pl_java_lang_String) (fun m => by first | (simp [entryFrame, mkF, argsToLocals, Value.category]; done) | rfl) ?_
  intro p_ e_ s_ m_ below_ meth_ c_ b_ T_ K hSP
  have KP := Keep.refl h0 []
  refine k_getS K (w40 hw) Via.refl SC d_jdk_42_method_139_code_0 (pc' := 3) rfl ?_
  intro T26 K26
  refine k_if_eq K26 d_jdk_42_method_139_code_3 (by decide) (pc' := 26) (pc2 := 6) (by decide) rfl (fun q => absurd q hcs) (fun hc3 => ?_)
  refine k_iloadN K26 d_jdk_42_method_139_code_6 (pc' := 7) rfl rfl ?_
  refine k_staticP K26 [(.int i)] [] 0 (w41 hw) (w42 hw) (w43 hw) (w44 hw) (by decide) pd__C_Z_657 (c_canEncode l Z a0 hw hEW n0 i h0 K26.old ) d_jdk_42_method_139_code_7 nofun (pc' := 10) rfl rfl rfl rfl (Nat.le_of_eq rfl) (by decide) (by decide) (by decide) (by decide) ?_
  intro b27 T27 L27 K27 tr27
  show Goes p_.tables e_ below_ _ (T27.setTop (mkF m_ 10 #[.val (.int i)] [(.int (if (255 : Int32) < i then 0 else 1))]))
  refine k_if_eq K27 d_jdk_42_method_139_code_10 (by decide) (pc' := 26) (pc2 := 13) (by decide) rfl (fun q => absurd q (by rw [if_neg hi]; decide)) (fun hc10 => ?_)
  refine k_new K27 (w45 hw) (w6 hw) (w5 hw) d_jdk_42_method_139_code_13 (pc' := 16) rfl (by decide) (by decide) ?_
  intro T28 h28 a28 g28 K28 E28 tr28 sf_a28 X_a28 D28 U28
  have ga_a28 : n0 ≤ a28 := own_old K27.old g28
  have sz_a28 : h0.size ≤ a28 := g28 ▸ KP.1
  replace KP := KP.ext E28
  have F_a28_value : Fld Z h28 a28 "java/lang/String" "value" "[B" .null := D28 (Or.inr (w8 hw)) (ty := (.array .byte)) (by decide)
  have F_a28_coder : Fld Z h28 a28 "java/lang/String" "coder" "B" (.int (0 : Int32)) := D28 (Or.inr (w9 hw)) (ty := .byte) (by decide)
  refine k_dup K28 d_jdk_42_method_139_code_16 (pc' := 17) rfl rfl ?_
  refine k_iloadN K28 d_jdk_42_method_139_code_17 (pc' := 18) rfl rfl ?_
  refine k_static K28 [(.int i)] [(.ref a28), (.ref a28)] 2 (w46 hw) (w47 hw) (w43 hw) (w48 hw) (by decide) pd__C__B_991 (c_l1toBytes l Z a0 hw hEW n0 i h28 K28.old ) d_jdk_42_method_139_code_18 nofun (pc' := 21) rfl rfl rfl rfl (Nat.le_of_eq rfl) (by decide) (by decide) (by decide) (by decide) ?_
  intro b29 T29 h29 L29 v29 K29 tr29 q29
  obtain ⟨d, kd, rfl, hd, KQ, V_d, sf_d⟩ := q29
  have ga_d : n0 ≤ d := Nat.le_trans (own_n0 K28.old) hd
  have sz_d : h0.size ≤ d := Nat.le_trans KP.1 hd
  have ne_a28_d : a28 ≠ d := own_ne2 X_a28.lt hd
  replace sf_a28 := tr29 a28 X_a28.lt sf_a28
  replace X_a28 := X_a28.keep KQ
  replace F_a28_value := F_a28_value.keep KQ nin0
  replace F_a28_coder := F_a28_coder.keep KQ nin0
  replace KP := KP.trans KQ all0
  show Goes p_.tables e_ below_ _ (T29.setTop (mkF m_ 21 #[.val (.int i)] [(.ref d), (.ref a28), (.ref a28)]))
  refine k_iconst K29 (0 : Int32) d_jdk_42_method_139_code_21 (pc' := 22) rfl rfl ?_
  refine k_special K29 [(.ref d), (.int (0 : Int32))] [(.ref a28)] 1 (w49 hw) (w50 hw) (w5 hw) (w52 hw) rfl rfl (by decide) pd___BB_V_1405 (c_initBB l Z a0 hw hEW n0 a28 d kd 0 1 [byteV i] _ _ h29 K29.old (by simp) V_d X_a28 F_a28_value F_a28_coder ga_a28 ne_a28_d) d_jdk_42_method_139_code_22 (fun x hx => by cases List.mem_singleton.mp hx; exact ⟨X_a28.lt, sf_a28⟩) (pc' := 25) rfl rfl rfl rfl (Nat.le_of_eq rfl) (by decide) (by decide) (by decide) (by decide) ?_
  intro b30 T30 h30 L30 v30 K30 tr30 q30
  obtain ⟨rfl, KQ2, S⟩ := q30
  replace KP := KP.trans KQ2 (allS (Or.inr sz_a28) all0)
  show Goes p_.tables e_ below_ _ (T30.setTop (mkF m_ 25 #[.val (.int i)] [(.ref a28)]))
  exact k_aret K30 d_jdk_42_method_139_code_25 rfl rfl rfl (fun sf ht => ⟨a28, d, kd, rfl, sz_a28, sz_d, ne_a28_d, KP, S⟩) (by decide) (by decide)
theorem own_notSub {Z : State} {a0 : Array Value} {C S K : String} {n : Nat} (w : (Cond.superclass C S).before a0 Z = true) (wr : (Cond.noSuperclass S).before a0 Z = true) (wk : (Cond.instantiable K n).before a0 Z = true) (h1 : C ≠ K) (h2 : S ≠ K) : ∃ c t, Z.vm.findClass C = some c ∧ Z.vm.findClass K = some t ∧ Z.vm.assignable c t = false := by
  obtain ⟨t, kt, g1, g2, g3, g4, -⟩ := Cond.instantiable_spec wk
  simp only [Bool.or_eq_false_iff] at g4
  obtain ⟨c, h0⟩ := found_sup w
  obtain ⟨p, k, kp, e1, e2, e3, e4, e5, -, e7⟩ := Cond.superclass_spec h0 w
  obtain ⟨c', k', f1, f2, f3, -, -⟩ := Cond.noSuperclass_spec wr
  cases e1.symm.trans f1
  cases e3.symm.trans f2
  have ne1 := ids_ne h0 g1 h1
  have ne2 := ids_ne f1 g1 h2
  have sub : ∀ fuel, Z.vm.isSubclassAux fuel c t = false := fun fuel => by
    cases fuel with
    | zero => rfl
    | succ f => cases f with
      | zero => simp [Vm.isSubclassAux, ne1, e2, e4]
      | succ f => simp [Vm.isSubclassAux, ne1, ne2, e2, e4, e3, f3]
  refine ⟨c, t, h0, g1, ?_⟩
  show Z.vm.assignableAux (255 + 1) c t = false
  simp [Vm.assignableAux, ne1, e2, g2, e5, g3, g4.1, Vm.isSubclass, sub]
theorem own_insNo {Z : State} {h : Heap} {a : Addr} {C K : String} (E : Exa Z h a C) (N : ∃ c t, Z.vm.findClass C = some c ∧ Z.vm.findClass K = some t ∧ Z.vm.assignable c t = false) : Ins Z h a K false := by
  obtain ⟨c, t, n1, n2, n3⟩ := N
  obtain ⟨cell, k, e1, e2, e3, e4, -⟩ := E
  cases n1.symm.trans e2
  exact ⟨cell, t, e1, n2, by simp [n3]⟩
theorem own_bInj {c d : Int32} (hc : 0 ≤ c.toInt ∧ c.toInt < 256) (hd : 0 ≤ d.toInt ∧ d.toInt < 256) (h : c.toInt8.toInt32 = d.toInt8.toInt32) : c = d := by
  have e1 := own_low c
  have e2 := own_low d
  rw [h] at e1
  obtain ⟨n, hn⟩ := Int.eq_ofNat_of_zero_le hc.1
  obtain ⟨m, hm⟩ := Int.eq_ofNat_of_zero_le hd.1
  have f1 := own_nat hn
  have f2 := own_nat hm
  apply Int32.toBitVec_inj.mp
  apply BitVec.eq_of_toNat_eq
  rw [f1, f2]; rw [f1] at e1; rw [f2] at e2; omega
def mkB (l c0 c1 : Int32) : List Int32 := if l = 0 then [] else if l = 1 then [c0.toInt8.toInt32] else [c0.toInt8.toInt32, c1.toInt8.toInt32]
theorem own_mkB {l l' a b a' b' : Int32} (hl : l = 0 ∨ l = 1 ∨ l = 2) (hl' : l' = 0 ∨ l' = 1 ∨ l' = 2) (ha : 0 ≤ a.toInt ∧ a.toInt < 256) (hb : 0 ≤ b.toInt ∧ b.toInt < 256) (ha' : 0 ≤ a'.toInt ∧ a'.toInt < 256) (hb' : 0 ≤ b'.toInt ∧ b'.toInt < 256) : mkB l a b = mkB l' a' b' ↔ l = l' ∧ (l < 1 ∨ a = a') ∧ (l < 2 ∨ b = b') := by
  have i1 : a.toInt8.toInt32 = a'.toInt8.toInt32 ↔ a = a' := ⟨own_bInj ha ha', fun q => by rw [q]⟩
  have i2 : b.toInt8.toInt32 = b'.toInt8.toInt32 ↔ b = b' := ⟨own_bInj hb hb', fun q => by rw [q]⟩
  rcases hl with rfl | rfl | rfl <;> rcases hl' with rfl | rfl | rfl
  · simp [mkB]
  · simp [mkB]
  · simp [mkB]
  · simp [mkB]
  · simp only [mkB, if_neg (show ¬ (1 : Int32) = 0 by decide), if_true, List.cons.injEq, i1, and_true, true_and]
    exact ⟨fun q => ⟨Or.inr q, Or.inl (by decide)⟩, fun q => q.1.elim (fun z => absurd z (by decide)) id⟩
  · simp [mkB]
  · simp [mkB]
  · simp [mkB]
  · simp only [mkB, if_neg (show ¬ (2 : Int32) = 0 by decide), if_neg (show ¬ (2 : Int32) = 1 by decide), List.cons.injEq, i1, i2, and_true, true_and]
    exact ⟨fun q => ⟨Or.inr q.1, Or.inr q.2⟩, fun q => ⟨q.1.elim (fun z => absurd z (by decide)) id, q.2.elim (fun z => absurd z (by decide)) id⟩⟩
theorem own_mod3 (x : Int32) : (x &&& 3) % 3 = 0 ∨ (x &&& 3) % 3 = 1 ∨ (x &&& 3) % 3 = 2 := by
  have e : (x &&& 3).toBitVec.toNat = x.toBitVec.toNat % 4 := by
    show (x.toBitVec &&& 3#32).toNat = _
    rw [BitVec.toNat_and]; exact Nat.and_two_pow_sub_one_eq_mod _ 2
  have key : ∀ k : Int32, (x &&& 3).toBitVec.toNat = k.toBitVec.toNat → x &&& 3 = k := fun k q => Int32.toBitVec_inj.mp (BitVec.eq_of_toNat_eq q)
  have h4 : x.toBitVec.toNat % 4 = 0 ∨ x.toBitVec.toNat % 4 = 1 ∨ x.toBitVec.toNat % 4 = 2 ∨ x.toBitVec.toNat % 4 = 3 := by omega
  rcases h4 with q | q | q | q
  · rw [key 0 (e.trans q)]; decide
  · rw [key 1 (e.trans q)]; decide
  · rw [key 2 (e.trans q)]; decide
  · rw [key 3 (e.trans q)]; decide
theorem own_w (x : Int32) : ¬ (x &&& 15) + 1 < 1 ∧ ¬ (16 : Int32) < (x &&& 15) + 1 := by
  have e : (x &&& 15).toBitVec.toNat = x.toBitVec.toNat % 16 := by
    show (x.toBitVec &&& 15#32).toNat = _
    rw [BitVec.toNat_and]; exact Nat.and_two_pow_sub_one_eq_mod _ 4
  have h1 : (x &&& 15).toInt = (x.toBitVec.toNat % 16 : Nat) := by
    show (x &&& 15).toBitVec.toInt = _
    rw [BitVec.toInt_eq_toNat_cond, e]; split <;> omega
  have h2 : ((x &&& 15) + 1).toInt = (x.toBitVec.toNat % 16 : Nat) + 1 := by
    rw [Jvm.Free.XT.add32 (by rw [h1, show (1 : Int32).toInt = 1 by decide]; constructor <;> omega), h1]; rfl
  rw [Int32.lt_iff_toInt_lt, Int32.lt_iff_toInt_lt, h2, show (1 : Int32).toInt = 1 by decide, show (16 : Int32).toInt = 16 by decide]; omega
theorem own_and3 (x : Int32) : x &&& 3 = 0 ∨ x &&& 3 = 1 ∨ x &&& 3 = 2 ∨ x &&& 3 = 3 := by
  have e : (x &&& 3).toBitVec.toNat = x.toBitVec.toNat % 4 := by
    show (x.toBitVec &&& 3#32).toNat = _
    rw [BitVec.toNat_and]; exact Nat.and_two_pow_sub_one_eq_mod _ 2
  have key : ∀ k : Int32, (x &&& 3).toBitVec.toNat = k.toBitVec.toNat → x &&& 3 = k := fun k q => Int32.toBitVec_inj.mp (BitVec.eq_of_toNat_eq q)
  have h4 : x.toBitVec.toNat % 4 = 0 ∨ x.toBitVec.toNat % 4 = 1 ∨ x.toBitVec.toNat % 4 = 2 ∨ x.toBitVec.toNat % 4 = 3 := by omega
  rcases h4 with q | q | q | q
  · exact Or.inl (key 0 (e.trans q))
  · exact Or.inr (Or.inl (key 1 (e.trans q)))
  · exact Or.inr (Or.inr (Or.inl (key 2 (e.trans q))))
  · exact Or.inr (Or.inr (Or.inr (key 3 (e.trans q))))
theorem own_and255 (x : Int32) : 0 ≤ (x &&& 255).toInt ∧ (x &&& 255).toInt < 256 := by
  have e : (x &&& 255).toBitVec.toNat = x.toBitVec.toNat % 256 := by
    show (x.toBitVec &&& 255#32).toNat = _
    rw [BitVec.toNat_and]; exact Nat.and_two_pow_sub_one_eq_mod _ 8
  rw [own_toInt (by rw [e]; omega), e]; omega
theorem own_ch (x : Int32) : 0 ≤ ((x &&& 255).toUInt32.toUInt16.toUInt32.toInt32).toInt ∧ ((x &&& 255).toUInt32.toUInt16.toUInt32.toInt32).toInt < 256 := by
  have h := own_and255 x
  rw [own_i2cI h.1 (by omega)]; exact h
theorem own_narc {c : Int32} (h : 0 ≤ c.toInt ∧ c.toInt < 256) : nar .char c = c := Value.int.inj (own_narrowc h.1 (by omega))
theorem own_mkZ {l c0 c1 : Int32} (hl : l = 0 ∨ l = 1 ∨ l = 2) : l.toInt = (mkB l c0 c1).length := by
  rcases hl with rfl | rfl | rfl <;> rfl
theorem own_mkLen (l c0 c1 : Int32) : (mkB l c0 c1).length ≤ 4000 := by
  unfold mkB; repeat' split
  all_goals simp
theorem own_sym {xs ys : List Int32} {w v : Int32} : (if ys = xs then (if v = w then (1 : Int32) else 0) else 0) = (if xs = ys then (if w = v then 1 else 0) else 0) := by
  by_cases q : xs = ys
  · rw [if_pos q, if_pos q.symm]
    by_cases r : w = v
    · rw [if_pos r, if_pos r.symm]
    · rw [if_neg r, if_neg (Ne.symm r)]
  · rw [if_neg q, if_neg (Ne.symm q)]
theorem own_lt12 {l : Int32} (h : l < 1) : l < 2 := by
  rw [own_i32] at *; have : (1 : Int32).toInt = 1 := by decide
  have : (2 : Int32).toInt = 2 := by decide
  omega
theorem d_method_2_code_0 : decode method_2_code 0 = .ok (.iload_n 0, 1) := by decide +kernel
theorem d_method_2_code_1 : decode method_2_code 1 = .ok (.ifCond .ne 6, 3) := by decide +kernel
theorem d_method_2_code_7 : decode method_2_code 7 = .ok (.iload_n 0, 1) := by decide +kernel
theorem d_method_2_code_8 : decode method_2_code 8 = .ok (.iconst 1, 1) := by decide +kernel
theorem d_method_2_code_9 : decode method_2_code 9 = .ok (.if_icmp .ne 8, 3) := by decide +kernel
theorem d_method_2_code_17 : decode method_2_code 17 = .ok (.new 10, 3) := by decide +kernel
theorem w58 {Z : State} {a0 : Array Value} (hw : Tb a0 Z) : (Jvm.Cond.classLink "com/example/gerbang/gerbang/hdl/PinEqualsPinLaw" (10 : Nat) "java/lang/String").before a0 Z = true := hw _ (List.mem_of_getElem? (i := 58) rfl)
theorem d_method_2_code_20 : decode method_2_code 20 = .ok (.dup, 1) := by decide +kernel
theorem d_method_2_code_21 : decode method_2_code 21 = .ok (.iconst 2, 1) := by decide +kernel
theorem d_method_2_code_22 : decode method_2_code 22 = .ok (.newarray .char, 2) := by decide +kernel
theorem w59 {Z : State} {a0 : Array Value} (hw : Tb a0 Z) : (Jvm.Cond.arrayClass Jvm.ClassFile.FieldType.char).before a0 Z = true := hw _ (List.mem_of_getElem? (i := 59) rfl)
theorem d_method_2_code_24 : decode method_2_code 24 = .ok (.dup, 1) := by decide +kernel
theorem d_method_2_code_25 : decode method_2_code 25 = .ok (.iconst 0, 1) := by decide +kernel
theorem d_method_2_code_26 : decode method_2_code 26 = .ok (.iload_n 1, 1) := by decide +kernel
theorem d_method_2_code_27 : decode method_2_code 27 = .ok (.castore, 1) := by decide +kernel
theorem d_method_2_code_28 : decode method_2_code 28 = .ok (.dup, 1) := by decide +kernel
theorem d_method_2_code_29 : decode method_2_code 29 = .ok (.iconst 1, 1) := by decide +kernel
theorem d_method_2_code_30 : decode method_2_code 30 = .ok (.iload_n 2, 1) := by decide +kernel
theorem d_method_2_code_31 : decode method_2_code 31 = .ok (.castore, 1) := by decide +kernel
theorem d_method_2_code_32 : decode method_2_code 32 = .ok (.invokespecial 15, 3) := by decide +kernel
theorem w60 {Z : State} {a0 : Array Value} (hw : Tb a0 Z) : (Jvm.Cond.methodLink "com/example/gerbang/gerbang/hdl/PinEqualsPinLaw" (15 : Nat) ({ cls := "java/lang/String", name := "<init>", desc := "([C)V" } : Jvm.MethodName)).before a0 Z = true := hw _ (List.mem_of_getElem? (i := 60) rfl)
theorem w62 {Z : State} {a0 : Array Value} (hw : Tb a0 Z) : (Jvm.Cond.code ({ cls := "java/lang/String", name := "<init>", desc := "([C)V" } : Jvm.MethodName) jdk_42_method_3_code (2 : Nat) (Option.none : Option Jvm.ClassFile.FieldType)).before a0 Z = true := hw _ (List.mem_of_getElem? (i := 62) rfl)
theorem w61 {Z : State} {a0 : Array Value} (hw : Tb a0 Z) : (Jvm.Cond.instanceMethod ({ cls := "java/lang/String", name := "<init>", desc := "([C)V" } : Jvm.MethodName)).before a0 Z = true := hw _ (List.mem_of_getElem? (i := 61) rfl)
theorem pd___C_V_1017 : parseMethodDescriptor "([C)V" = some ⟨[(.array .char)], none⟩ := by decide +kernel
theorem d_method_2_code_35 : decode method_2_code 35 = .ok (.areturn, 1) := by decide +kernel
theorem d_method_2_code_12 : decode method_2_code 12 = .ok (.iload_n 1, 1) := by decide +kernel
theorem d_method_2_code_13 : decode method_2_code 13 = .ok (.invokestatic 9, 3) := by decide +kernel
theorem w37 {Z : State} {a0 : Array Value} (hw : Tb a0 Z) : (Jvm.Cond.methodLink "com/example/gerbang/gerbang/hdl/PinEqualsPinLaw" (9 : Nat) ({ cls := "java/lang/String", name := "valueOf", desc := "(C)Ljava/lang/String;" } : Jvm.MethodName)).before a0 Z = true := hw _ (List.mem_of_getElem? (i := 37) rfl)
theorem w39 {Z : State} {a0 : Array Value} (hw : Tb a0 Z) : (Jvm.Cond.code ({ cls := "java/lang/String", name := "valueOf", desc := "(C)Ljava/lang/String;" } : Jvm.MethodName) jdk_42_method_139_code (1 : Nat) (Option.some (Jvm.ClassFile.FieldType.object "java/lang/String"))).before a0 Z = true := hw _ (List.mem_of_getElem? (i := 39) rfl)
theorem w38 {Z : State} {a0 : Array Value} (hw : Tb a0 Z) : (Jvm.Cond.static ({ cls := "java/lang/String", name := "valueOf", desc := "(C)Ljava/lang/String;" } : Jvm.MethodName)).before a0 Z = true := hw _ (List.mem_of_getElem? (i := 38) rfl)
theorem pd__C_Ljava_lang_String__1574 : parseMethodDescriptor "(C)Ljava/lang/String;" = some ⟨[.char], some (.object "java/lang/String")⟩ := by decide +kernel
theorem d_method_2_code_16 : decode method_2_code 16 = .ok (.areturn, 1) := by decide +kernel
theorem d_method_2_code_4 : decode method_2_code 4 = .ok (.ldc 7, 2) := by decide +kernel
theorem w10 {Z : State} {a0 : Array Value} (hw : Tb a0 Z) : (Jvm.Cond.soleField "java/lang/String" "value").before a0 Z = true := hw _ (List.mem_of_getElem? (i := 10) rfl)
theorem w11 {Z : State} {a0 : Array Value} (hw : Tb a0 Z) : (Jvm.Cond.soleField "java/lang/String" "coder").before a0 Z = true := hw _ (List.mem_of_getElem? (i := 11) rfl)
theorem own_wS {Z : State} {a0 : Array Value} (hw : Tb a0 Z) : ∀ a ∈ Bundle.stringAtoms, a.before a0 Z = true := fun d hd => by
  simp only [Bundle.stringAtoms, List.mem_cons, List.not_mem_nil, or_false] at hd
  rcases hd with rfl | rfl | rfl | rfl | rfl | rfl | rfl
  · exact (w5 hw)
  · exact (w6 hw)
  · exact (w7 hw)
  · exact (w8 hw)
  · exact (w9 hw)
  · exact (w10 hw)
  · exact (w11 hw)
theorem w4 {Z : State} {a0 : Array Value} (hw : Tb a0 Z) : (Jvm.Cond.stringLink "com/example/gerbang/gerbang/hdl/PinEqualsPinLaw" (7 : Nat) "").before a0 Z = true := hw _ (List.mem_of_getElem? (i := 4) rfl)
theorem d_method_2_code_6 : decode method_2_code 6 = .ok (.areturn, 1) := by decide +kernel
theorem pl_com_example_gerbang_gerbang_hdl_PinEqualsPinLaw : plainName "com/example/gerbang/gerbang/hdl/PinEqualsPinLaw" = true := by first | (simp [plainName, overriddenIn]; done) | decide +kernel
set_option maxRecDepth 65536 in
set_option maxHeartbeats 40000000 in
theorem c_mk (l : Launch) (Z : State) (a0 : Array Value) (hw : Tb a0 Z) (hEW : EW Z a0 EL0) (n0 : Nat) (l0 c0 c1 cs0 : Int32) (h0 : Heap) (O : Old Z n0 h0) (hl : l0 = 0 ∨ l0 = 1 ∨ l0 = 2) (g0 : 0 ≤ c0.toInt ∧ c0.toInt < 256) (g1 : 0 ≤ c1.toInt ∧ c1.toInt < 256) (SC : Sta Z Z.heap "java/lang/String" "COMPACT_STRINGS" "Z" (.int cs0)) (hcs : ¬ cs0 = 0) :
    Ct l Z EL0 n0 (⟨"com/example/gerbang/gerbang/hdl/PinEqualsPinLaw", "mk", "(ICC)Ljava/lang/String;"⟩ : MethodName) method_2_code 3 (some (.object "java/lang/String")) ({ frames := 4, cells := 3, slots := 8, locals := 66 } : Room) #[(.int l0), (.int c0), (.int c1)] h0 [] (fun v h sf => ∃ a d kd, v = some (.ref a) ∧ Keep h0 h [] ∧ Str Z h a d kd 0 l0 ((mkB l0 c0 c1).map Value.int)) := by
  refine Ct.of (a0 := a0) #[.val (.int l0), .val (.int c0), .val (.int c1)] hEW O (plainFor_of_name pl_com_example_gerbang_gerbang_hdl_PinEqualsPinLaw) (fun m => by first | (simp [entryFrame, mkF, argsToLocals, Value.category]; done) | rfl) ?_
  intro p_ e_ s_ m_ below_ meth_ c_ b_ T_ K hSP
  have KP := Keep.refl h0 []
  refine k_iloadN K d_method_2_code_0 (pc' := 1) rfl rfl ?_
  refine k_if_ne K d_method_2_code_1 (by decide) (pc' := 7) (pc2 := 4) (by decide) rfl (fun hc1 => ?_) (fun hc1 => ?_)
  · refine k_iloadN K d_method_2_code_7 (pc' := 8) rfl rfl ?_
    refine k_iconst K (1 : Int32) d_method_2_code_8 (pc' := 9) rfl rfl ?_
    refine k_icmp_ne K d_method_2_code_9 (by decide) (pc' := 17) (pc2 := 12) (by decide) rfl (fun hc9 => ?_) (fun hc9 => ?_)
    · have e2 : l0 = 2 := by
        rcases hl with q | q | q
        · exact absurd q hc1
        · exact absurd q hc9
        · exact q
      subst e2
      refine k_new K (w58 hw) (w6 hw) (w5 hw) d_method_2_code_17 (pc' := 20) rfl (by decide) (by decide) ?_
      intro T31 h31 a31 g31 K31 E31 tr31 sf_a31 X_a31 D31 U31
      have ga_a31 : n0 ≤ a31 := own_old K.old g31
      have sz_a31 : h0.size ≤ a31 := g31 ▸ KP.1
      replace KP := KP.ext E31
      have F_a31_value : Fld Z h31 a31 "java/lang/String" "value" "[B" .null := D31 (Or.inr (w8 hw)) (ty := (.array .byte)) (by decide)
      have F_a31_coder : Fld Z h31 a31 "java/lang/String" "coder" "B" (.int (0 : Int32)) := D31 (Or.inr (w9 hw)) (ty := .byte) (by decide)
      refine k_dup K31 d_method_2_code_20 (pc' := 21) rfl rfl ?_
      refine k_iconst K31 (2 : Int32) d_method_2_code_21 (pc' := 22) rfl rfl ?_
      refine k_newarray K31 (aty := .char) (z := (2 : Int32)) (w59 hw) (by decide) (cap := 2) (by decide) (by decide) d_method_2_code_22 (pc' := 24) rfl (by decide) (by decide) ?_
      intro T32 h32 a32 ka32 g32 K32 E32 tr32 sf_a32 V_a32
      have ga_a32 : n0 ≤ a32 := own_old K31.old g32
      have sz_a32 : h0.size ≤ a32 := g32 ▸ KP.1
      have ne_a31_a32 : a31 ≠ a32 := own_ne X_a31.lt g32
      replace sf_a31 := tr32 a31 X_a31.lt sf_a31
      replace X_a31 := X_a31.ext E32
      replace F_a31_value := F_a31_value.ext E32
      replace F_a31_coder := F_a31_coder.ext E32
      replace KP := KP.ext E32
      replace V_a32 : Arv Z h32 a32 ka32 .char (2 : Int32) [(.int (0 : Int32)), (.int (0 : Int32))] (.int (0 : Int32)) := V_a32.pad (pad_rep [] (.int (0 : Int32)) 2)
      refine k_dup K32 d_method_2_code_24 (pc' := 25) rfl rfl ?_
      refine k_iconst K32 (0 : Int32) d_method_2_code_25 (pc' := 26) rfl rfl ?_
      refine k_iloadN K32 d_method_2_code_26 (pc' := 27) rfl rfl ?_
      refine k_castore K32 (j := (0 : Int32)) V_a32 ⟨by decide, by decide⟩ (Nat.le_of_ble_eq_true rfl) ga_a32 sf_a32 d_method_2_code_27 (pc' := 28) rfl ?_
      intro T33 h33 K33 W33 tr33 V33
      replace sf_a31 := tr33 a31 X_a31.lt sf_a31
      replace sf_a32 := tr33 a32 V_a32.lt sf_a32
      replace X_a31 := X_a31.wr W33
      replace F_a31_value := F_a31_value.other W33 (Or.inl ne_a31_a32)
      replace F_a31_coder := F_a31_coder.other W33 (Or.inl ne_a31_a32)
      replace KP := KP.wr W33 (Or.inr sz_a32)
      replace V_a32 := V33
      rw [own_narc g0] at V_a32
      refine k_dup K33 d_method_2_code_28 (pc' := 29) rfl rfl ?_
      refine k_iconst K33 (1 : Int32) d_method_2_code_29 (pc' := 30) rfl rfl ?_
      refine k_iloadN K33 d_method_2_code_30 (pc' := 31) rfl rfl ?_
      refine k_castore K33 (j := (1 : Int32)) V_a32 ⟨by decide, by decide⟩ (Nat.le_of_ble_eq_true rfl) ga_a32 sf_a32 d_method_2_code_31 (pc' := 32) rfl ?_
      intro T34 h34 K34 W34 tr34 V34
      replace sf_a31 := tr34 a31 X_a31.lt sf_a31
      replace sf_a32 := tr34 a32 V_a32.lt sf_a32
      replace X_a31 := X_a31.wr W34
      replace F_a31_value := F_a31_value.other W34 (Or.inl ne_a31_a32)
      replace F_a31_coder := F_a31_coder.other W34 (Or.inl ne_a31_a32)
      replace KP := KP.wr W34 (Or.inr sz_a32)
      replace V_a32 := V34
      rw [own_narc g1] at V_a32
      replace V_a32 : Arv Z h34 a32 ka32 .char 2 ([c0, c1].map Value.int) (.int 0) := V_a32
      have hcc : ∀ c ∈ [c0, c1], 0 ≤ c.toInt ∧ c.toInt < 256 := fun c hc => by
        simp only [List.mem_cons, List.not_mem_nil, or_false] at hc
        rcases hc with rfl | rfl
        · exact g0
        · exact g1
      refine k_special K34 [(.ref a32)] [(.ref a31)] 1 (w60 hw) (w61 hw) (w5 hw) (w62 hw) rfl rfl (by decide) pd___C_V_1017 (c_init3 l Z a0 hw hEW n0 a31 a32 ka32 2 [c0, c1] _ _ cs0 h34 K34.old rfl (by simp) (by simp) hcc V_a32 X_a31 F_a31_value F_a31_coder ga_a31 ne_a31_a32 SC hcs) d_method_2_code_32 (fun x hx => by cases List.mem_singleton.mp hx; exact ⟨X_a31.lt, sf_a31⟩) (pc' := 35) rfl rfl rfl rfl (Nat.le_of_eq rfl) (by decide) (by decide) (by decide) (by decide) ?_
      intro b35 T35 h35 L35 v35 K35 tr35 q35
      obtain ⟨rfl, KQ, d, kd, hd, S⟩ := q35
      rw [own_strVs hcc, own_strCd hcc, own_strZ hcc] at S
      replace KP := KP.trans KQ (allS (Or.inr sz_a31) all0)
      show Goes p_.tables e_ below_ _ (T35.setTop (mkF m_ 35 #[.val (.int (2 : Int32)), .val (.int c0), .val (.int c1)] [(.ref a31)]))
      exact k_aret K35 d_method_2_code_35 rfl rfl rfl (fun sf ht => ⟨a31, d, kd, rfl, KP, S⟩) (by decide) (by decide)
    · have e1 := hc9
      subst e1
      refine k_iloadN K d_method_2_code_12 (pc' := 13) rfl rfl ?_
      refine k_static K [(.int c0)] [] 0 (w37 hw) (w38 hw) (w5 hw) (w39 hw) (by decide) pd__C_Ljava_lang_String__1574 (c_valueOfC l Z a0 hw hEW n0 c0 cs0 h0 K.old SC hcs (by rw [own_i32, own_255]; omega)) d_method_2_code_13 nofun (pc' := 16) rfl rfl rfl rfl (Nat.le_of_eq rfl) (by decide) (by decide) (by decide) (by decide) ?_
      intro b36 T36 h36 L36 v36 K36 tr36 q36
      obtain ⟨a, d, kd, rfl, -, -, -, KQ, S⟩ := q36
      replace KP := KP.trans KQ all0
      show Goes p_.tables e_ below_ _ (T36.setTop (mkF m_ 16 #[.val (.int (1 : Int32)), .val (.int c0), .val (.int c1)] [(.ref a)]))
      exact k_aret K36 d_method_2_code_16 rfl rfl rfl (fun sf ht => ⟨a, d, kd, rfl, KP, S⟩) (by decide) (by decide)
  · have e0 := hc1
    subst e0
    refine k_ldcS K (vs := ([] : List Int32).map Value.int) (z := 0) (w4 hw) (own_wS hw) (by decide) ⟨by decide, by decide⟩ (by decide) (by decide) 0 (by decide) (by decide) d_method_2_code_4 (pc' := 6) rfl (by decide) (by decide) ?_
    intro b37 T37 h37 s37 e37 ke37 K37 E37 tr37 X1 X2 X3 X4 nd37
    replace KP := KP.ext E37
    have S_s37 : Str Z h37 s37 e37 ke37 0 0 (([] : List Int32).map Value.int) := ⟨X1, X2, X3, X4⟩
    show Goes p_.tables e_ below_ _ (T37.setTop (mkF m_ 6 #[.val (.int (0 : Int32)), .val (.int c0), .val (.int c1)] [(.ref s37)]))
    exact k_aret K37 d_method_2_code_6 rfl rfl rfl (fun sf ht => ⟨s37, e37, ke37, rfl, KP, S_s37⟩) (by decide) (by decide)
theorem d_prog_10_method_1_code_0 : decode prog_10_method_1_code 0 = .ok (.aload_n 0, 1) := by decide +kernel
theorem d_prog_10_method_1_code_1 : decode prog_10_method_1_code 1 = .ok (.invokespecial 1, 3) := by decide +kernel
theorem w18 {Z : State} {a0 : Array Value} (hw : Tb a0 Z) : (Jvm.Cond.methodLink "com/example/gerbang/gerbang/hdl/Pin" (1 : Nat) ({ cls := "java/lang/Object", name := "<init>", desc := "()V" } : Jvm.MethodName)).before a0 Z = true := hw _ (List.mem_of_getElem? (i := 18) rfl)
theorem d_prog_10_method_1_code_4 : decode prog_10_method_1_code 4 = .ok (.iload_n 2, 1) := by decide +kernel
theorem d_prog_10_method_1_code_5 : decode prog_10_method_1_code 5 = .ok (.iconst 1, 1) := by decide +kernel
theorem d_prog_10_method_1_code_6 : decode prog_10_method_1_code 6 = .ok (.if_icmp .lt 9, 3) := by decide +kernel
theorem d_prog_10_method_1_code_9 : decode prog_10_method_1_code 9 = .ok (.iload_n 2, 1) := by decide +kernel
theorem d_prog_10_method_1_code_10 : decode prog_10_method_1_code 10 = .ok (.bipush 16, 2) := by decide +kernel
theorem d_prog_10_method_1_code_12 : decode prog_10_method_1_code 12 = .ok (.if_icmp .le 17, 3) := by decide +kernel
theorem d_prog_10_method_1_code_29 : decode prog_10_method_1_code 29 = .ok (.aload_n 0, 1) := by decide +kernel
theorem d_prog_10_method_1_code_30 : decode prog_10_method_1_code 30 = .ok (.aload_n 1, 1) := by decide +kernel
theorem d_prog_10_method_1_code_31 : decode prog_10_method_1_code 31 = .ok (.putfield 18, 3) := by decide +kernel
theorem w21 {Z : State} {a0 : Array Value} (hw : Tb a0 Z) : (Jvm.Cond.fieldLink "com/example/gerbang/gerbang/hdl/Pin" (18 : Nat) "com/example/gerbang/gerbang/hdl/Pin" "name" "Ljava/lang/String;").before a0 Z = true := hw _ (List.mem_of_getElem? (i := 21) rfl)
theorem w22 {Z : State} {a0 : Array Value} (hw : Tb a0 Z) : (Jvm.Cond.laysFinal "com/example/gerbang/gerbang/hdl/Pin" "com/example/gerbang/gerbang/hdl/Pin" "name" "Ljava/lang/String;").before a0 Z = true := hw _ (List.mem_of_getElem? (i := 22) rfl)
theorem w13 {Z : State} {a0 : Array Value} (hw : Tb a0 Z) : (Jvm.Cond.instantiable "com/example/gerbang/gerbang/hdl/Pin" (2 : Nat)).before a0 Z = true := hw _ (List.mem_of_getElem? (i := 13) rfl)
theorem w24 {Z : State} {a0 : Array Value} (hw : Tb a0 Z) : (Jvm.Cond.laysFinal "com/example/gerbang/gerbang/hdl/Pin" "com/example/gerbang/gerbang/hdl/Pin" "width" "I").before a0 Z = true := hw _ (List.mem_of_getElem? (i := 24) rfl)
theorem d_prog_10_method_1_code_34 : decode prog_10_method_1_code 34 = .ok (.aload_n 0, 1) := by decide +kernel
theorem d_prog_10_method_1_code_35 : decode prog_10_method_1_code 35 = .ok (.iload_n 2, 1) := by decide +kernel
theorem d_prog_10_method_1_code_36 : decode prog_10_method_1_code 36 = .ok (.putfield 22, 3) := by decide +kernel
theorem w23 {Z : State} {a0 : Array Value} (hw : Tb a0 Z) : (Jvm.Cond.fieldLink "com/example/gerbang/gerbang/hdl/Pin" (22 : Nat) "com/example/gerbang/gerbang/hdl/Pin" "width" "I").before a0 Z = true := hw _ (List.mem_of_getElem? (i := 23) rfl)
theorem d_prog_10_method_1_code_39 : decode prog_10_method_1_code 39 = .ok (.return_, 1) := by decide +kernel
theorem pl_com_example_gerbang_gerbang_hdl_Pin : plainName "com/example/gerbang/gerbang/hdl/Pin" = true := by first | (simp [plainName, overriddenIn]; done) | decide +kernel
set_option maxRecDepth 65536 in
set_option maxHeartbeats 40000000 in
theorem c_pinInit (l : Launch) (Z : State) (a0 : Array Value) (hw : Tb a0 Z) (hEW : EW Z a0 EL0) (n0 : Nat) (a nm : Addr) (wd : Int32) (u1 u2 : Value) (h0 : Heap) (O : Old Z n0 h0) (h1 : ¬ wd < 1) (h2 : ¬ (16 : Int32) < wd) (X_a : Exa Z h0 a "com/example/gerbang/gerbang/hdl/Pin") (F_a_name : Fld Z h0 a "com/example/gerbang/gerbang/hdl/Pin" "name" "Ljava/lang/String;" u1) (F_a_width : Fld Z h0 a "com/example/gerbang/gerbang/hdl/Pin" "width" "I" u2) (ga_a : n0 ≤ a) :
    Ct l Z EL0 n0 (⟨"com/example/gerbang/gerbang/hdl/Pin", "<init>", "(Ljava/lang/String;I)V"⟩ : MethodName) prog_10_method_1_code 3 none ({ frames := 1, cells := 0, slots := 0, locals := 12 } : Room) #[(.ref a), (.ref nm), (.int wd)] h0 [a] (fun v h sf => v = none ∧ Keep h0 h [a] ∧ Exa Z h a "com/example/gerbang/gerbang/hdl/Pin" ∧ Fld Z h a "com/example/gerbang/gerbang/hdl/Pin" "name" "Ljava/lang/String;" (.ref nm) ∧ Fld Z h a "com/example/gerbang/gerbang/hdl/Pin" "width" "I" (.int wd)) := by
  refine Ct.of (a0 := a0) #[.val (.ref a), .val (.ref nm), .val (.int wd)] hEW O (plainFor_of_name pl_com_example_gerbang_gerbang_hdl_Pin) (fun m => by first | (simp [entryFrame, mkF, argsToLocals, Value.category]; done) | rfl) ?_
  intro p_ e_ s_ m_ below_ meth_ c_ b_ T_ K hSP
  have KP := Keep.refl h0 [a]
  have sf_a := hSP a (by simp)
  refine k_aloadN K d_prog_10_method_1_code_0 (pc' := 1) rfl rfl rfl ?_
  refine k_initO K (w18 hw) (w19 hw) (w20 hw) d_prog_10_method_1_code_1 (pc' := 4) rfl rfl (by decide) 0 (Nat.le_of_eq rfl) (by decide) ?_
  intro T38 K38
  refine k_iloadN K38 d_prog_10_method_1_code_4 (pc' := 5) rfl rfl ?_
  refine k_iconst K38 (1 : Int32) d_prog_10_method_1_code_5 (pc' := 6) rfl rfl ?_
  refine k_icmp_lt K38 d_prog_10_method_1_code_6 (by decide) (pc' := 15) (pc2 := 9) (by decide) rfl (fun q => absurd q h1) (fun hc6 => ?_)
  refine k_iloadN K38 d_prog_10_method_1_code_9 (pc' := 10) rfl rfl ?_
  refine k_bipush K38 (16 : Int32) d_prog_10_method_1_code_10 (pc' := 12) rfl rfl ?_
  refine k_icmp_le K38 d_prog_10_method_1_code_12 (by decide) (pc' := 29) (pc2 := 15) (by decide) rfl (fun hc12 => ?_) (fun q => absurd q h2)
  refine k_aloadN K38 d_prog_10_method_1_code_29 (pc' := 30) rfl rfl rfl ?_
  refine k_aloadN K38 d_prog_10_method_1_code_30 (pc' := 31) rfl rfl rfl ?_
  refine k_putF K38 (w21 hw) Via.refl F_a_name X_a (Or.inr ⟨(w22 hw), rfl, rfl⟩) (w13 hw) (ty := (.object "java/lang/String")) (by decide) rfl rfl ga_a sf_a d_prog_10_method_1_code_31 (pc' := 34) rfl ?_
  intro T39 h39 K39 W39 tr39
  have F39 := F_a_name.same W39
  replace sf_a := tr39 a X_a.lt sf_a
  replace X_a := X_a.wr W39
  replace F_a_width := F_a_width.other W39 (Or.inr (slot_ne (Or.inr (w24 hw)) (Or.inr (w22 hw)) (by decide) (t := .int) (t' := (.object "java/lang/String")) (by decide) (by decide)))
  replace KP := KP.wr W39 (Or.inl (by simp))
  replace F_a_name := F39
  refine k_aloadN K39 d_prog_10_method_1_code_34 (pc' := 35) rfl rfl rfl ?_
  refine k_iloadN K39 d_prog_10_method_1_code_35 (pc' := 36) rfl rfl ?_
  refine k_putF K39 (w23 hw) Via.refl F_a_width X_a (Or.inr ⟨(w24 hw), rfl, rfl⟩) (w13 hw) (ty := .int) (by decide) rfl rfl ga_a sf_a d_prog_10_method_1_code_36 (pc' := 39) rfl ?_
  intro T40 h40 K40 W40 tr40
  have F40 := F_a_width.same W40
  replace sf_a := tr40 a X_a.lt sf_a
  replace X_a := X_a.wr W40
  replace F_a_name := F_a_name.other W40 (Or.inr (slot_ne (Or.inr (w22 hw)) (Or.inr (w24 hw)) (by decide) (t := (.object "java/lang/String")) (t' := .int) (by decide) (by decide)))
  replace KP := KP.wr W40 (Or.inl (by simp))
  replace F_a_width := F40
  exact k_return K40 d_prog_10_method_1_code_39 rfl (fun sf ht => ⟨rfl, KP, X_a, F_a_name, F_a_width⟩) (by decide) (by decide)
theorem d_prog_10_method_4_code_0 : decode prog_10_method_4_code 0 = .ok (.aload_n 1, 1) := by decide +kernel
theorem d_prog_10_method_4_code_1 : decode prog_10_method_4_code 1 = .ok (.instanceof 7, 3) := by decide +kernel
theorem d_prog_10_method_4_code_4 : decode prog_10_method_4_code 4 = .ok (.ifCond .ne 5, 3) := by decide +kernel
theorem d_prog_10_method_4_code_7 : decode prog_10_method_4_code 7 = .ok (.iconst 0, 1) := by decide +kernel
theorem d_prog_10_method_4_code_8 : decode prog_10_method_4_code 8 = .ok (.ireturn, 1) := by decide +kernel
set_option maxRecDepth 65536 in
set_option maxHeartbeats 40000000 in
theorem c_eqNull (l : Launch) (Z : State) (a0 : Array Value) (hw : Tb a0 Z) (hEW : EW Z a0 EL0) (n0 : Nat) (a : Addr) (h0 : Heap) (O : Old Z n0 h0)  :
    Ct l Z EL0 n0 (⟨"com/example/gerbang/gerbang/hdl/Pin", "equals", "(Ljava/lang/Object;)Z"⟩ : MethodName) prog_10_method_4_code 3 (some .boolean) ({ frames := 0, cells := 0, slots := 0, locals := 0 } : Room) #[(.ref a), .null] h0 [] (Pu (some (.int 0)) h0) := by
  refine Ct.of (a0 := a0) #[.val (.ref a), .val .null, .unset] hEW O (plainFor_of_name pl_com_example_gerbang_gerbang_hdl_Pin) (fun m => by first | (simp [entryFrame, mkF, argsToLocals, Value.category]; done) | rfl) ?_
  intro p_ e_ s_ m_ below_ meth_ c_ b_ T_ K hSP
  refine k_aloadN K d_prog_10_method_4_code_0 (pc' := 1) rfl rfl rfl ?_
  refine k_instNull K d_prog_10_method_4_code_1 (pc' := 4) rfl ?_
  refine k_if_ne K d_prog_10_method_4_code_4 (by decide) (pc' := 9) (pc2 := 7) (by decide) rfl (fun q => absurd (by decide) q) (fun hc4 => ?_)
  refine k_iconst K (0 : Int32) d_prog_10_method_4_code_7 (pc' := 8) rfl rfl ?_
  exact k_nret K d_prog_10_method_4_code_8 rfl (by simp) rfl (fun sf ht => ⟨rfl, rfl⟩) (by decide) (by decide)
theorem w56 {Z : State} {a0 : Array Value} (hw : Tb a0 Z) : (Jvm.Cond.superclass "java/lang/String" "java/lang/Object").before a0 Z = true := hw _ (List.mem_of_getElem? (i := 56) rfl)
theorem w57 {Z : State} {a0 : Array Value} (hw : Tb a0 Z) : (Jvm.Cond.noSuperclass "java/lang/Object").before a0 Z = true := hw _ (List.mem_of_getElem? (i := 57) rfl)
theorem w30 {Z : State} {a0 : Array Value} (hw : Tb a0 Z) : (Jvm.Cond.classLink "com/example/gerbang/gerbang/hdl/Pin" (7 : Nat) "com/example/gerbang/gerbang/hdl/Pin").before a0 Z = true := hw _ (List.mem_of_getElem? (i := 30) rfl)
set_option maxRecDepth 65536 in
set_option maxHeartbeats 40000000 in
theorem c_eqStr (l : Launch) (Z : State) (a0 : Array Value) (hw : Tb a0 Z) (hEW : EW Z a0 EL0) (n0 : Nat) (a t : Addr) (h0 : Heap) (O : Old Z n0 h0) (E : Exa Z h0 t "java/lang/String") :
    Ct l Z EL0 n0 (⟨"com/example/gerbang/gerbang/hdl/Pin", "equals", "(Ljava/lang/Object;)Z"⟩ : MethodName) prog_10_method_4_code 3 (some .boolean) ({ frames := 0, cells := 0, slots := 0, locals := 0 } : Room) #[(.ref a), (.ref t)] h0 [] (Pu (some (.int 0)) h0) := by
  refine Ct.of (a0 := a0) #[.val (.ref a), .val (.ref t), .unset] hEW O (plainFor_of_name pl_com_example_gerbang_gerbang_hdl_Pin) (fun m => by first | (simp [entryFrame, mkF, argsToLocals, Value.category]; done) | rfl) ?_
  intro p_ e_ s_ m_ below_ meth_ c_ b_ T_ K hSP
  refine k_aloadN K d_prog_10_method_4_code_0 (pc' := 1) rfl rfl rfl ?_
  refine k_instN K (w30 hw) (own_insNo E (own_notSub (w56 hw) (w57 hw) (w13 hw) (by decide) (by decide))) E d_prog_10_method_4_code_1 (pc' := 4) rfl ?_
  intro T41 K41
  refine k_if_ne K41 d_prog_10_method_4_code_4 (by decide) (pc' := 9) (pc2 := 7) (by decide) rfl (fun q => absurd (by decide) q) (fun hc4 => ?_)
  refine k_iconst K41 (0 : Int32) d_prog_10_method_4_code_7 (pc' := 8) rfl rfl ?_
  exact k_nret K41 d_prog_10_method_4_code_8 rfl (by simp) rfl (fun sf ht => ⟨rfl, rfl⟩) (by decide) (by decide)
theorem d_prog_10_method_4_code_9 : decode prog_10_method_4_code 9 = .ok (.aload_n 1, 1) := by decide +kernel
theorem d_prog_10_method_4_code_10 : decode prog_10_method_4_code 10 = .ok (.checkcast 7, 3) := by decide +kernel
theorem d_prog_10_method_4_code_13 : decode prog_10_method_4_code 13 = .ok (.astore_n 2, 1) := by decide +kernel
theorem d_prog_10_method_4_code_14 : decode prog_10_method_4_code 14 = .ok (.aload_n 0, 1) := by decide +kernel
theorem d_prog_10_method_4_code_15 : decode prog_10_method_4_code 15 = .ok (.getfield 18, 3) := by decide +kernel
theorem d_prog_10_method_4_code_18 : decode prog_10_method_4_code 18 = .ok (.aload_n 2, 1) := by decide +kernel
theorem d_prog_10_method_4_code_19 : decode prog_10_method_4_code 19 = .ok (.getfield 18, 3) := by decide +kernel
theorem d_prog_10_method_4_code_22 : decode prog_10_method_4_code 22 = .ok (.invokevirtual 26, 3) := by decide +kernel
theorem w32 {Z : State} {a0 : Array Value} (hw : Tb a0 Z) : (Jvm.Cond.methodLink "com/example/gerbang/gerbang/hdl/Pin" (26 : Nat) ({ cls := "java/lang/String", name := "equals", desc := "(Ljava/lang/Object;)Z" } : Jvm.MethodName)).before a0 Z = true := hw _ (List.mem_of_getElem? (i := 32) rfl)
theorem w36 {Z : State} {a0 : Array Value} (hw : Tb a0 Z) : (Jvm.Cond.code ({ cls := "java/lang/String", name := "equals", desc := "(Ljava/lang/Object;)Z" } : Jvm.MethodName) jdk_42_method_66_code (3 : Nat) (Option.some Jvm.ClassFile.FieldType.boolean)).before a0 Z = true := hw _ (List.mem_of_getElem? (i := 36) rfl)
theorem w35 {Z : State} {a0 : Array Value} (hw : Tb a0 Z) : (Jvm.Cond.selects "java/lang/String" ({ cls := "java/lang/String", name := "equals", desc := "(Ljava/lang/Object;)Z" } : Jvm.MethodName) ({ cls := "java/lang/String", name := "equals", desc := "(Ljava/lang/Object;)Z" } : Jvm.MethodName)).before a0 Z = true := hw _ (List.mem_of_getElem? (i := 35) rfl)
theorem w33 {Z : State} {a0 : Array Value} (hw : Tb a0 Z) : (Jvm.Cond.declares ({ cls := "java/lang/String", name := "equals", desc := "(Ljava/lang/Object;)Z" } : Jvm.MethodName)).before a0 Z = true := hw _ (List.mem_of_getElem? (i := 33) rfl)
theorem w34 {Z : State} {a0 : Array Value} (hw : Tb a0 Z) : (Jvm.Cond.instanceMethod ({ cls := "java/lang/String", name := "equals", desc := "(Ljava/lang/Object;)Z" } : Jvm.MethodName)).before a0 Z = true := hw _ (List.mem_of_getElem? (i := 34) rfl)
theorem pd__Ljava_lang_Object__Z_194 : parseMethodDescriptor "(Ljava/lang/Object;)Z" = some ⟨[(.object "java/lang/Object")], some .boolean⟩ := by decide +kernel
theorem d_prog_10_method_4_code_25 : decode prog_10_method_4_code 25 = .ok (.ifCond .eq 18, 3) := by decide +kernel
theorem d_prog_10_method_4_code_43 : decode prog_10_method_4_code 43 = .ok (.iconst 0, 1) := by decide +kernel
theorem d_prog_10_method_4_code_44 : decode prog_10_method_4_code 44 = .ok (.ireturn, 1) := by decide +kernel
theorem d_prog_10_method_4_code_28 : decode prog_10_method_4_code 28 = .ok (.aload_n 0, 1) := by decide +kernel
theorem d_prog_10_method_4_code_29 : decode prog_10_method_4_code 29 = .ok (.getfield 22, 3) := by decide +kernel
theorem d_prog_10_method_4_code_32 : decode prog_10_method_4_code 32 = .ok (.aload_n 2, 1) := by decide +kernel
theorem d_prog_10_method_4_code_33 : decode prog_10_method_4_code 33 = .ok (.getfield 22, 3) := by decide +kernel
theorem d_prog_10_method_4_code_36 : decode prog_10_method_4_code 36 = .ok (.if_icmp .ne 7, 3) := by decide +kernel
theorem d_prog_10_method_4_code_39 : decode prog_10_method_4_code 39 = .ok (.iconst 1, 1) := by decide +kernel
theorem d_prog_10_method_4_code_40 : decode prog_10_method_4_code 40 = .ok (.goto 4, 3) := by decide +kernel
set_option maxRecDepth 65536 in
set_option maxHeartbeats 40000000 in
theorem c_eqPin (l : Launch) (Z : State) (a0 : Array Value) (hw : Tb a0 Z) (hEW : EW Z a0 EL0) (n0 : Nat) (p q : Addr) (wp wq : Int32) (a a' : Addr) (b b' : Addr) (k k' : ClassId) (z z' : Int32) (xs ys : List Int32) (cs0 : Int32) (h0 : Heap) (O : Old Z n0 h0) (X_q : Exa Z h0 q "com/example/gerbang/gerbang/hdl/Pin") (Np : Fld Z h0 p "com/example/gerbang/gerbang/hdl/Pin" "name" "Ljava/lang/String;" (.ref a)) (Nq : Fld Z h0 q "com/example/gerbang/gerbang/hdl/Pin" "name" "Ljava/lang/String;" (.ref a')) (Wp : Fld Z h0 p "com/example/gerbang/gerbang/hdl/Pin" "width" "I" (.int wp)) (Wq : Fld Z h0 q "com/example/gerbang/gerbang/hdl/Pin" "width" "I" (.int wq)) (hz : z.toInt = xs.length) (hz' : z'.toInt = ys.length) (hb : xs.length ≤ 4000) (S : Str Z h0 a b k 0 z (xs.map Value.int)) (S' : Str Z h0 a' b' k' 0 z' (ys.map Value.int)) (SC : Sta Z Z.heap "java/lang/String" "COMPACT_STRINGS" "Z" (.int cs0)) (hcs : ¬ cs0 = 0) :
    Ct l Z EL0 n0 (⟨"com/example/gerbang/gerbang/hdl/Pin", "equals", "(Ljava/lang/Object;)Z"⟩ : MethodName) prog_10_method_4_code 3 (some .boolean) ({ frames := 2, cells := 0, slots := 0, locals := 28 } : Room) #[(.ref p), (.ref q)] h0 [] (Pu (some (.int (if xs = ys then (if wp = wq then 1 else 0) else 0))) h0) := by
  refine Ct.of (a0 := a0) #[.val (.ref p), .val (.ref q), .unset] hEW O (plainFor_of_name pl_com_example_gerbang_gerbang_hdl_Pin) (fun m => by first | (simp [entryFrame, mkF, argsToLocals, Value.category]; done) | rfl) ?_
  intro p_ e_ s_ m_ below_ meth_ c_ b_ T_ K hSP
  refine k_aloadN K d_prog_10_method_4_code_0 (pc' := 1) rfl rfl rfl ?_
  refine k_instY K (w30 hw) (Ins.self X_q) d_prog_10_method_4_code_1 (pc' := 4) rfl ?_
  intro T42 K42
  refine k_if_ne K42 d_prog_10_method_4_code_4 (by decide) (pc' := 9) (pc2 := 7) (by decide) rfl (fun hc4 => ?_) (fun q => absurd q (by decide))
  refine k_aloadN K42 d_prog_10_method_4_code_9 (pc' := 10) rfl rfl rfl ?_
  refine k_castY K42 (w30 hw) (Ins.self X_q) d_prog_10_method_4_code_10 (pc' := 13) rfl ?_
  intro T43 K43
  refine k_astoreN K43 d_prog_10_method_4_code_13 (pc' := 14) (L' := #[.val (.ref p), .val (.ref q), .val (.ref q)]) rfl rfl rfl ?_
  refine k_aloadN K43 d_prog_10_method_4_code_14 (pc' := 15) rfl rfl rfl ?_
  refine k_getF K43 (w21 hw) Via.refl Np d_prog_10_method_4_code_15 (pc' := 18) rfl ?_
  intro T44 K44
  refine k_aloadN K44 d_prog_10_method_4_code_18 (pc' := 19) rfl rfl rfl ?_
  refine k_getF K44 (w21 hw) Via.refl Nq d_prog_10_method_4_code_19 (pc' := 22) rfl ?_
  intro T45 K45
  refine k_virtualP K45 [(.ref a')] [] 0 (w32 hw) (w33 hw) (w34 hw) (w35 hw) (w5 hw) (w36 hw) (notFace_of_selects (args := #[]) (mvT K45.hZ (w35 hw))) rfl (by decide) S.1 (by decide) pd__Ljava_lang_Object__Z_194 (c_equals l Z a0 hw hEW n0 a a' b b' k k' z z' xs ys cs0 h0 K45.old hz hz' hb S S' SC hcs) d_prog_10_method_4_code_22 nofun (pc' := 25) rfl rfl rfl rfl (Nat.le_of_eq rfl) (by decide) (by decide) (by decide) (by decide) ?_
  intro b46 T46 L46 K46 tr46
  show Goes p_.tables e_ below_ _ (T46.setTop (mkF m_ 25 #[.val (.ref p), .val (.ref q), .val (.ref q)] [(.int (if xs = ys then 1 else 0))]))
  refine k_if_eq K46 d_prog_10_method_4_code_25 (by decide) (pc' := 43) (pc2 := 28) (by decide) rfl (fun hc25 => ?_) (fun hc25 => ?_)
  · refine k_iconst K46 (0 : Int32) d_prog_10_method_4_code_43 (pc' := 44) rfl rfl ?_
    have q1 : ¬ xs = ys := fun q => by rw [if_pos q] at hc25; exact absurd hc25 (by decide)
    exact k_nret K46 d_prog_10_method_4_code_44 rfl (by simp) rfl (fun sf ht => ⟨by rw [if_neg q1], rfl⟩) (by decide) (by decide)
  · have q1 : xs = ys := Classical.byContradiction fun q => hc25 (if_neg q)
    refine k_aloadN K46 d_prog_10_method_4_code_28 (pc' := 29) rfl rfl rfl ?_
    refine k_getF K46 (w23 hw) Via.refl Wp d_prog_10_method_4_code_29 (pc' := 32) rfl ?_
    intro T47 K47
    refine k_aloadN K47 d_prog_10_method_4_code_32 (pc' := 33) rfl rfl rfl ?_
    refine k_getF K47 (w23 hw) Via.refl Wq d_prog_10_method_4_code_33 (pc' := 36) rfl ?_
    intro T48 K48
    refine k_icmp_ne K48 d_prog_10_method_4_code_36 (by decide) (pc' := 43) (pc2 := 39) (by decide) rfl (fun hc36 => ?_) (fun hc36 => ?_)
    · refine k_iconst K48 (0 : Int32) d_prog_10_method_4_code_43 (pc' := 44) rfl rfl ?_
      exact k_nret K48 d_prog_10_method_4_code_44 rfl (by simp) rfl (fun sf ht => ⟨by rw [if_pos q1, if_neg hc36], rfl⟩) (by decide) (by decide)
    · refine k_iconst K48 (1 : Int32) d_prog_10_method_4_code_39 (pc' := 40) rfl rfl ?_
      refine k_goto K48 d_prog_10_method_4_code_40 (by decide) (pc' := 44) (by decide) ?_
      exact k_nret K48 d_prog_10_method_4_code_44 rfl (by simp) rfl (fun sf ht => ⟨by rw [if_pos q1, if_pos hc36], rfl⟩) (by decide) (by decide)
theorem w0 {Z : State} {a0 : Array Value} (hw : Tb a0 Z) : (Jvm.Cond.methodLink "com/example/gerbang/gerbang/hdl/PinEqualsPinLaw" (18 : Nat) ({ cls := "com/example/gerbang/gerbang/hdl/PinEqualsPinLaw", name := "mk", desc := "(ICC)Ljava/lang/String;" } : Jvm.MethodName)).before a0 Z = true := hw _ (List.mem_of_getElem? (i := 0) rfl)
theorem w2 {Z : State} {a0 : Array Value} (hw : Tb a0 Z) : (Jvm.Cond.initialized "com/example/gerbang/gerbang/hdl/PinEqualsPinLaw").before a0 Z = true := hw _ (List.mem_of_getElem? (i := 2) rfl)
theorem w3 {Z : State} {a0 : Array Value} (hw : Tb a0 Z) : (Jvm.Cond.code ({ cls := "com/example/gerbang/gerbang/hdl/PinEqualsPinLaw", name := "mk", desc := "(ICC)Ljava/lang/String;" } : Jvm.MethodName) method_2_code (3 : Nat) (Option.some (Jvm.ClassFile.FieldType.object "java/lang/String"))).before a0 Z = true := hw _ (List.mem_of_getElem? (i := 3) rfl)
theorem w1 {Z : State} {a0 : Array Value} (hw : Tb a0 Z) : (Jvm.Cond.static ({ cls := "com/example/gerbang/gerbang/hdl/PinEqualsPinLaw", name := "mk", desc := "(ICC)Ljava/lang/String;" } : Jvm.MethodName)).before a0 Z = true := hw _ (List.mem_of_getElem? (i := 1) rfl)
theorem pd__ICC_Ljava_lang_String__5529 : parseMethodDescriptor "(ICC)Ljava/lang/String;" = some ⟨[.int, .char, .char], some (.object "java/lang/String")⟩ := by decide +kernel
theorem w12 {Z : State} {a0 : Array Value} (hw : Tb a0 Z) : (Jvm.Cond.classLink "com/example/gerbang/gerbang/hdl/PinEqualsPinLaw" (24 : Nat) "com/example/gerbang/gerbang/hdl/Pin").before a0 Z = true := hw _ (List.mem_of_getElem? (i := 12) rfl)
theorem w14 {Z : State} {a0 : Array Value} (hw : Tb a0 Z) : (Jvm.Cond.initialized "com/example/gerbang/gerbang/hdl/Pin").before a0 Z = true := hw _ (List.mem_of_getElem? (i := 14) rfl)
theorem w15 {Z : State} {a0 : Array Value} (hw : Tb a0 Z) : (Jvm.Cond.methodLink "com/example/gerbang/gerbang/hdl/PinEqualsPinLaw" (26 : Nat) ({ cls := "com/example/gerbang/gerbang/hdl/Pin", name := "<init>", desc := "(Ljava/lang/String;I)V" } : Jvm.MethodName)).before a0 Z = true := hw _ (List.mem_of_getElem? (i := 15) rfl)
theorem w17 {Z : State} {a0 : Array Value} (hw : Tb a0 Z) : (Jvm.Cond.code ({ cls := "com/example/gerbang/gerbang/hdl/Pin", name := "<init>", desc := "(Ljava/lang/String;I)V" } : Jvm.MethodName) prog_10_method_1_code (3 : Nat) (Option.none : Option Jvm.ClassFile.FieldType)).before a0 Z = true := hw _ (List.mem_of_getElem? (i := 17) rfl)
theorem w16 {Z : State} {a0 : Array Value} (hw : Tb a0 Z) : (Jvm.Cond.instanceMethod ({ cls := "com/example/gerbang/gerbang/hdl/Pin", name := "<init>", desc := "(Ljava/lang/String;I)V" } : Jvm.MethodName)).before a0 Z = true := hw _ (List.mem_of_getElem? (i := 16) rfl)
theorem pd__Ljava_lang_String_I_V_2138 : parseMethodDescriptor "(Ljava/lang/String;I)V" = some ⟨[(.object "java/lang/String"), .int], none⟩ := by decide +kernel
theorem w25 {Z : State} {a0 : Array Value} (hw : Tb a0 Z) : (Jvm.Cond.methodLink "com/example/gerbang/gerbang/hdl/PinEqualsPinLaw" (29 : Nat) ({ cls := "com/example/gerbang/gerbang/hdl/Pin", name := "equals", desc := "(Ljava/lang/Object;)Z" } : Jvm.MethodName)).before a0 Z = true := hw _ (List.mem_of_getElem? (i := 25) rfl)
theorem w29 {Z : State} {a0 : Array Value} (hw : Tb a0 Z) : (Jvm.Cond.code ({ cls := "com/example/gerbang/gerbang/hdl/Pin", name := "equals", desc := "(Ljava/lang/Object;)Z" } : Jvm.MethodName) prog_10_method_4_code (3 : Nat) (Option.some Jvm.ClassFile.FieldType.boolean)).before a0 Z = true := hw _ (List.mem_of_getElem? (i := 29) rfl)
theorem w28 {Z : State} {a0 : Array Value} (hw : Tb a0 Z) : (Jvm.Cond.selects "com/example/gerbang/gerbang/hdl/Pin" ({ cls := "com/example/gerbang/gerbang/hdl/Pin", name := "equals", desc := "(Ljava/lang/Object;)Z" } : Jvm.MethodName) ({ cls := "com/example/gerbang/gerbang/hdl/Pin", name := "equals", desc := "(Ljava/lang/Object;)Z" } : Jvm.MethodName)).before a0 Z = true := hw _ (List.mem_of_getElem? (i := 28) rfl)
theorem w26 {Z : State} {a0 : Array Value} (hw : Tb a0 Z) : (Jvm.Cond.declares ({ cls := "com/example/gerbang/gerbang/hdl/Pin", name := "equals", desc := "(Ljava/lang/Object;)Z" } : Jvm.MethodName)).before a0 Z = true := hw _ (List.mem_of_getElem? (i := 26) rfl)
theorem w27 {Z : State} {a0 : Array Value} (hw : Tb a0 Z) : (Jvm.Cond.instanceMethod ({ cls := "com/example/gerbang/gerbang/hdl/Pin", name := "equals", desc := "(Ljava/lang/Object;)Z" } : Jvm.MethodName)).before a0 Z = true := hw _ (List.mem_of_getElem? (i := 27) rfl)
set_option maxRecDepth 65536 in
set_option maxHeartbeats 40000000 in
theorem c_law (l : Launch) (Z : State) (a0 : Array Value) (hw : Tb a0 Z) (hEW : EW Z a0 EL0) (n0 : Nat) (chs lens ww1 ww2 sel cs0 : Int32) (h0 : Heap) (O : Old Z n0 h0) (SC : Sta Z Z.heap "java/lang/String" "COMPACT_STRINGS" "Z" (.int cs0)) (hcs : ¬ cs0 = 0) :
    Ct l Z EL0 n0 x code maxLocals ret room_1 #[(.int chs), (.int lens), (.int ww1), (.int ww2), (.int sel)] h0 [] (fun v _ _ => v = some (.int 1) ∧ True) := by
  refine Ct.of (a0 := a0) #[.val (.int chs), .val (.int lens), .val (.int ww1), .val (.int ww2), .val (.int sel), .unset, .unset, .unset, .unset, .unset, .unset, .unset, .unset, .unset, .unset, .unset, .unset, .unset, .unset, .unset] hEW O (plainFor_of_name pl_com_example_gerbang_gerbang_hdl_PinEqualsPinLaw) (fun m => by first | (simp [entryFrame, mkF, argsToLocals, Value.category, maxLocals]; done) | rfl) ?_
  intro p_ e_ s_ m_ below_ meth_ c_ b_ T_ K hSP
  refine k_iloadN K at_0 (pc' := 1) rfl rfl ?_
  refine k_sipush K (255 : Int32) at_1 (pc' := 4) rfl rfl ?_
  refine k_iand K at_4 (pc' := 5) rfl ?_
  refine k_i2c K at_5 (pc' := 6) rfl ?_
  refine k_istore K at_6 (pc' := 8) (L' := #[.val (.int chs), .val (.int lens), .val (.int ww1), .val (.int ww2), .val (.int sel), .val (.int ((chs &&& (255 : Int32)).toUInt32.toUInt16.toUInt32.toInt32)), .unset, .unset, .unset, .unset, .unset, .unset, .unset, .unset, .unset, .unset, .unset, .unset, .unset, .unset]) rfl rfl ?_
  have ha0c := own_ch chs
  generalize hha0c : (chs &&& (255 : Int32)).toUInt32.toUInt16.toUInt32.toInt32 = a0c at ha0c ⊢
  refine k_iloadN K at_8 (pc' := 9) rfl rfl ?_
  refine k_bipush K (8 : Int32) at_9 (pc' := 11) rfl rfl ?_
  refine k_iushr K at_11 (pc' := 12) rfl ?_
  refine k_sipush K (255 : Int32) at_12 (pc' := 15) rfl rfl ?_
  refine k_iand K at_15 (pc' := 16) rfl ?_
  refine k_i2c K at_16 (pc' := 17) rfl ?_
  refine k_istore K at_17 (pc' := 19) (L' := #[.val (.int chs), .val (.int lens), .val (.int ww1), .val (.int ww2), .val (.int sel), .val (.int a0c), .val (.int (((XT.ushr chs (8 : Int32)) &&& (255 : Int32)).toUInt32.toUInt16.toUInt32.toInt32)), .unset, .unset, .unset, .unset, .unset, .unset, .unset, .unset, .unset, .unset, .unset, .unset, .unset]) rfl rfl ?_
  have ha1c := own_ch (XT.ushr chs (8 : Int32))
  generalize hha1c : ((XT.ushr chs (8 : Int32)) &&& (255 : Int32)).toUInt32.toUInt16.toUInt32.toInt32 = a1c at ha1c ⊢
  refine k_iloadN K at_19 (pc' := 20) rfl rfl ?_
  refine k_bipush K (16 : Int32) at_20 (pc' := 22) rfl rfl ?_
  refine k_iushr K at_22 (pc' := 23) rfl ?_
  refine k_sipush K (255 : Int32) at_23 (pc' := 26) rfl rfl ?_
  refine k_iand K at_26 (pc' := 27) rfl ?_
  refine k_i2c K at_27 (pc' := 28) rfl ?_
  refine k_istore K at_28 (pc' := 30) (L' := #[.val (.int chs), .val (.int lens), .val (.int ww1), .val (.int ww2), .val (.int sel), .val (.int a0c), .val (.int a1c), .val (.int (((XT.ushr chs (16 : Int32)) &&& (255 : Int32)).toUInt32.toUInt16.toUInt32.toInt32)), .unset, .unset, .unset, .unset, .unset, .unset, .unset, .unset, .unset, .unset, .unset, .unset]) rfl rfl ?_
  have hb0c := own_ch (XT.ushr chs (16 : Int32))
  generalize hhb0c : ((XT.ushr chs (16 : Int32)) &&& (255 : Int32)).toUInt32.toUInt16.toUInt32.toInt32 = b0c at hb0c ⊢
  refine k_iloadN K at_30 (pc' := 31) rfl rfl ?_
  refine k_bipush K (24 : Int32) at_31 (pc' := 33) rfl rfl ?_
  refine k_iushr K at_33 (pc' := 34) rfl ?_
  refine k_sipush K (255 : Int32) at_34 (pc' := 37) rfl rfl ?_
  refine k_iand K at_37 (pc' := 38) rfl ?_
  refine k_i2c K at_38 (pc' := 39) rfl ?_
  refine k_istore K at_39 (pc' := 41) (L' := #[.val (.int chs), .val (.int lens), .val (.int ww1), .val (.int ww2), .val (.int sel), .val (.int a0c), .val (.int a1c), .val (.int b0c), .val (.int (((XT.ushr chs (24 : Int32)) &&& (255 : Int32)).toUInt32.toUInt16.toUInt32.toInt32)), .unset, .unset, .unset, .unset, .unset, .unset, .unset, .unset, .unset, .unset, .unset]) rfl rfl ?_
  have hb1c := own_ch (XT.ushr chs (24 : Int32))
  generalize hhb1c : ((XT.ushr chs (24 : Int32)) &&& (255 : Int32)).toUInt32.toUInt16.toUInt32.toInt32 = b1c at hb1c ⊢
  refine k_iloadN K at_41 (pc' := 42) rfl rfl ?_
  refine k_iconst K (3 : Int32) at_42 (pc' := 43) rfl rfl ?_
  refine k_iand K at_43 (pc' := 44) rfl ?_
  refine k_iconst K (3 : Int32) at_44 (pc' := 45) rfl rfl ?_
  refine k_irem K at_45 (pc' := 46) rfl (by decide) ?_
  refine k_istore K at_46 (pc' := 48) (L' := #[.val (.int chs), .val (.int lens), .val (.int ww1), .val (.int ww2), .val (.int sel), .val (.int a0c), .val (.int a1c), .val (.int b0c), .val (.int b1c), .val (.int ((lens &&& (3 : Int32)) % (3 : Int32))), .unset, .unset, .unset, .unset, .unset, .unset, .unset, .unset, .unset, .unset]) rfl rfl ?_
  have hl1 := own_mod3 lens
  generalize hll1 : (lens &&& (3 : Int32)) % (3 : Int32) = l1 at hl1 ⊢
  refine k_iloadN K at_48 (pc' := 49) rfl rfl ?_
  refine k_iconst K (2 : Int32) at_49 (pc' := 50) rfl rfl ?_
  refine k_iushr K at_50 (pc' := 51) rfl ?_
  refine k_iconst K (3 : Int32) at_51 (pc' := 52) rfl rfl ?_
  refine k_iand K at_52 (pc' := 53) rfl ?_
  refine k_iconst K (3 : Int32) at_53 (pc' := 54) rfl rfl ?_
  refine k_irem K at_54 (pc' := 55) rfl (by decide) ?_
  refine k_istore K at_55 (pc' := 57) (L' := #[.val (.int chs), .val (.int lens), .val (.int ww1), .val (.int ww2), .val (.int sel), .val (.int a0c), .val (.int a1c), .val (.int b0c), .val (.int b1c), .val (.int l1), .val (.int (((XT.ushr lens (2 : Int32)) &&& (3 : Int32)) % (3 : Int32))), .unset, .unset, .unset, .unset, .unset, .unset, .unset, .unset, .unset]) rfl rfl ?_
  have hl2 := own_mod3 (XT.ushr lens (2 : Int32))
  generalize hll2 : ((XT.ushr lens (2 : Int32)) &&& (3 : Int32)) % (3 : Int32) = l2 at hl2 ⊢
  refine k_iloadN K at_57 (pc' := 58) rfl rfl ?_
  refine k_bipush K (15 : Int32) at_58 (pc' := 60) rfl rfl ?_
  refine k_iand K at_60 (pc' := 61) rfl ?_
  refine k_iconst K (1 : Int32) at_61 (pc' := 62) rfl rfl ?_
  refine k_iadd K at_62 (pc' := 63) rfl ?_
  refine k_istore K at_63 (pc' := 65) (L' := #[.val (.int chs), .val (.int lens), .val (.int ww1), .val (.int ww2), .val (.int sel), .val (.int a0c), .val (.int a1c), .val (.int b0c), .val (.int b1c), .val (.int l1), .val (.int l2), .val (.int ((ww1 &&& (15 : Int32)) + (1 : Int32))), .unset, .unset, .unset, .unset, .unset, .unset, .unset, .unset]) rfl rfl ?_
  have hwa := own_w ww1
  generalize hww1 : (ww1 &&& (15 : Int32)) + (1 : Int32) = wa at hwa ⊢
  refine k_iloadN K at_65 (pc' := 66) rfl rfl ?_
  refine k_bipush K (15 : Int32) at_66 (pc' := 68) rfl rfl ?_
  refine k_iand K at_68 (pc' := 69) rfl ?_
  refine k_iconst K (1 : Int32) at_69 (pc' := 70) rfl rfl ?_
  refine k_iadd K at_70 (pc' := 71) rfl ?_
  refine k_istore K at_71 (pc' := 73) (L' := #[.val (.int chs), .val (.int lens), .val (.int ww1), .val (.int ww2), .val (.int sel), .val (.int a0c), .val (.int a1c), .val (.int b0c), .val (.int b1c), .val (.int l1), .val (.int l2), .val (.int wa), .val (.int ((ww2 &&& (15 : Int32)) + (1 : Int32))), .unset, .unset, .unset, .unset, .unset, .unset, .unset]) rfl rfl ?_
  have hwb := own_w ww2
  generalize hww2 : (ww2 &&& (15 : Int32)) + (1 : Int32) = wb at hwb ⊢
  refine k_iload K at_73 (pc' := 75) rfl rfl ?_
  refine k_iload K at_75 (pc' := 77) rfl rfl ?_
  refine k_iload K at_77 (pc' := 79) rfl rfl ?_
  refine k_static K [(.int l1), (.int a0c), (.int a1c)] [] 0 (w0 hw) (w1 hw) (w2 hw) (w3 hw) (by decide) pd__ICC_Ljava_lang_String__5529 (c_mk l Z a0 hw hEW n0 l1 a0c a1c cs0 h0 K.old hl1 ha0c ha1c SC hcs) at_79 nofun (pc' := 82) rfl rfl rfl rfl (Nat.le_of_eq rfl) (by decide) (by decide) (by decide) (by decide) ?_
  intro b49 T49 h49 L49 v49 K49 tr49 q49
  obtain ⟨s0, d0, k0, rfl, KQ, S0⟩ := q49
  show Goes p_.tables e_ below_ _ (T49.setTop (mkF m_ 82 #[.val (.int chs), .val (.int lens), .val (.int ww1), .val (.int ww2), .val (.int sel), .val (.int a0c), .val (.int a1c), .val (.int b0c), .val (.int b1c), .val (.int l1), .val (.int l2), .val (.int wa), .val (.int wb), .unset, .unset, .unset, .unset, .unset, .unset, .unset] [(.ref s0)]))
  refine k_astore K49 at_82 (pc' := 84) (L' := #[.val (.int chs), .val (.int lens), .val (.int ww1), .val (.int ww2), .val (.int sel), .val (.int a0c), .val (.int a1c), .val (.int b0c), .val (.int b1c), .val (.int l1), .val (.int l2), .val (.int wa), .val (.int wb), .val (.ref s0), .unset, .unset, .unset, .unset, .unset, .unset]) rfl rfl rfl ?_
  refine k_iload K49 at_84 (pc' := 86) rfl rfl ?_
  refine k_iload K49 at_86 (pc' := 88) rfl rfl ?_
  refine k_iload K49 at_88 (pc' := 90) rfl rfl ?_
  refine k_static K49 [(.int l2), (.int b0c), (.int b1c)] [] 0 (w0 hw) (w1 hw) (w2 hw) (w3 hw) (by decide) pd__ICC_Ljava_lang_String__5529 (c_mk l Z a0 hw hEW n0 l2 b0c b1c cs0 h49 K49.old hl2 hb0c hb1c SC hcs) at_90 nofun (pc' := 93) rfl rfl rfl rfl (Nat.le_of_eq rfl) (by decide) (by decide) (by decide) (by decide) ?_
  intro b50 T50 h50 L50 v50 K50 tr50 q50
  obtain ⟨s1, d1, k1, rfl, KQ, S1⟩ := q50
  replace S0 := S0.keep KQ nin0 nin0
  show Goes p_.tables e_ below_ _ (T50.setTop (mkF m_ 93 #[.val (.int chs), .val (.int lens), .val (.int ww1), .val (.int ww2), .val (.int sel), .val (.int a0c), .val (.int a1c), .val (.int b0c), .val (.int b1c), .val (.int l1), .val (.int l2), .val (.int wa), .val (.int wb), .val (.ref s0), .unset, .unset, .unset, .unset, .unset, .unset] [(.ref s1)]))
  refine k_astore K50 at_93 (pc' := 95) (L' := #[.val (.int chs), .val (.int lens), .val (.int ww1), .val (.int ww2), .val (.int sel), .val (.int a0c), .val (.int a1c), .val (.int b0c), .val (.int b1c), .val (.int l1), .val (.int l2), .val (.int wa), .val (.int wb), .val (.ref s0), .val (.ref s1), .unset, .unset, .unset, .unset, .unset]) rfl rfl rfl ?_
  refine k_new K50 (w12 hw) (w13 hw) (w14 hw) at_95 (pc' := 98) rfl (by decide) (by decide) ?_
  intro T51 h51 a51 g51 K51 E51 tr51 sf_a51 X_a51 D51 U51
  have ga_a51 : n0 ≤ a51 := own_old K50.old g51
  have ne_s0_a51 : s0 ≠ a51 := own_ne S0.lt g51
  have ne_d0_a51 : d0 ≠ a51 := own_ne S0.blt g51
  have ne_s1_a51 : s1 ≠ a51 := own_ne S1.lt g51
  have ne_d1_a51 : d1 ≠ a51 := own_ne S1.blt g51
  replace S0 := S0.ext E51
  replace S1 := S1.ext E51
  have F_a51_name : Fld Z h51 a51 "com/example/gerbang/gerbang/hdl/Pin" "name" "Ljava/lang/String;" .null := D51 (Or.inr (w22 hw)) (ty := (.object "java/lang/String")) (by decide)
  have F_a51_width : Fld Z h51 a51 "com/example/gerbang/gerbang/hdl/Pin" "width" "I" (.int (0 : Int32)) := D51 (Or.inr (w24 hw)) (ty := .int) (by decide)
  refine k_dup K51 at_98 (pc' := 99) rfl rfl ?_
  refine k_aload K51 at_99 (pc' := 101) rfl rfl rfl ?_
  refine k_iload K51 at_101 (pc' := 103) rfl rfl ?_
  refine k_special K51 [(.ref s0), (.int wa)] [(.ref a51)] 1 (w15 hw) (w16 hw) (w14 hw) (w17 hw) rfl rfl (by decide) pd__Ljava_lang_String_I_V_2138 (c_pinInit l Z a0 hw hEW n0 a51 s0 wa _ _ h51 K51.old hwa.1 hwa.2 X_a51 F_a51_name F_a51_width ga_a51) at_103 (fun x hx => by cases List.mem_singleton.mp hx; exact ⟨X_a51.lt, sf_a51⟩) (pc' := 106) rfl rfl rfl rfl (Nat.le_of_eq rfl) (by decide) (by decide) (by decide) (by decide) ?_
  intro b52 T52 h52 L52 v52 K52 tr52 q52
  obtain ⟨rfl, KQ, Xp, Np, Wp⟩ := q52
  replace S0 := S0.keep KQ (ninS ne_s0_a51 nin0) (ninS ne_d0_a51 nin0)
  replace S1 := S1.keep KQ (ninS ne_s1_a51 nin0) (ninS ne_d1_a51 nin0)
  show Goes p_.tables e_ below_ _ (T52.setTop (mkF m_ 106 #[.val (.int chs), .val (.int lens), .val (.int ww1), .val (.int ww2), .val (.int sel), .val (.int a0c), .val (.int a1c), .val (.int b0c), .val (.int b1c), .val (.int l1), .val (.int l2), .val (.int wa), .val (.int wb), .val (.ref s0), .val (.ref s1), .unset, .unset, .unset, .unset, .unset] [(.ref a51)]))
  refine k_astore K52 at_106 (pc' := 108) (L' := #[.val (.int chs), .val (.int lens), .val (.int ww1), .val (.int ww2), .val (.int sel), .val (.int a0c), .val (.int a1c), .val (.int b0c), .val (.int b1c), .val (.int l1), .val (.int l2), .val (.int wa), .val (.int wb), .val (.ref s0), .val (.ref s1), .val (.ref a51), .unset, .unset, .unset, .unset]) rfl rfl rfl ?_
  refine k_iload K52 at_108 (pc' := 110) rfl rfl ?_
  refine k_iconst K52 (3 : Int32) at_110 (pc' := 111) rfl rfl ?_
  refine k_iand K52 at_111 (pc' := 112) rfl ?_
  refine k_istore K52 at_112 (pc' := 114) (L' := #[.val (.int chs), .val (.int lens), .val (.int ww1), .val (.int ww2), .val (.int sel), .val (.int a0c), .val (.int a1c), .val (.int b0c), .val (.int b1c), .val (.int l1), .val (.int l2), .val (.int wa), .val (.int wb), .val (.ref s0), .val (.ref s1), .val (.ref a51), .val (.int (sel &&& (3 : Int32))), .unset, .unset, .unset]) rfl rfl ?_
  generalize hmm : sel &&& (3 : Int32) = mo
  refine k_iload K52 at_114 (pc' := 116) rfl rfl ?_
  refine k_iconst K52 (1 : Int32) at_116 (pc' := 117) rfl rfl ?_
  refine k_icmp_ne K52 at_117 (by decide) (pc' := 135) (pc2 := 120) (by decide) rfl (fun hc117 => ?_) (fun hc117 => ?_)
  · refine k_iload K52 at_135 (pc' := 137) rfl rfl ?_
    refine k_iconst K52 (2 : Int32) at_137 (pc' := 138) rfl rfl ?_
    refine k_icmp_ne K52 at_138 (by decide) (pc' := 149) (pc2 := 141) (by decide) rfl (fun hc138 => ?_) (fun hc138 => ?_)
    · refine k_iload K52 at_149 (pc' := 151) rfl rfl ?_
      refine k_iconst K52 (3 : Int32) at_151 (pc' := 152) rfl rfl ?_
      refine k_icmp_ne K52 at_152 (by decide) (pc' := 171) (pc2 := 155) (by decide) rfl (fun hc152 => ?_) (fun hc152 => ?_)
      · refine k_new K52 (w12 hw) (w13 hw) (w14 hw) at_171 (pc' := 174) rfl (by decide) (by decide) ?_
        intro T53 h53 a53 g53 K53 E53 tr53 sf_a53 X_a53 D53 U53
        have ga_a53 : n0 ≤ a53 := own_old K52.old g53
        have ne_s0_a53 : s0 ≠ a53 := own_ne S0.lt g53
        have ne_d0_a53 : d0 ≠ a53 := own_ne S0.blt g53
        have ne_s1_a53 : s1 ≠ a53 := own_ne S1.lt g53
        have ne_d1_a53 : d1 ≠ a53 := own_ne S1.blt g53
        have ne_a51_a53 : a51 ≠ a53 := own_ne Xp.lt g53
        replace S0 := S0.ext E53
        replace S1 := S1.ext E53
        replace Xp := Xp.ext E53
        replace Np := Np.ext E53
        replace Wp := Wp.ext E53
        have F_a53_name : Fld Z h53 a53 "com/example/gerbang/gerbang/hdl/Pin" "name" "Ljava/lang/String;" .null := D53 (Or.inr (w22 hw)) (ty := (.object "java/lang/String")) (by decide)
        have F_a53_width : Fld Z h53 a53 "com/example/gerbang/gerbang/hdl/Pin" "width" "I" (.int (0 : Int32)) := D53 (Or.inr (w24 hw)) (ty := .int) (by decide)
        refine k_dup K53 at_174 (pc' := 175) rfl rfl ?_
        refine k_aload K53 at_175 (pc' := 177) rfl rfl rfl ?_
        refine k_iload K53 at_177 (pc' := 179) rfl rfl ?_
        refine k_special K53 [(.ref s1), (.int wb)] [(.ref a53)] 1 (w15 hw) (w16 hw) (w14 hw) (w17 hw) rfl rfl (by decide) pd__Ljava_lang_String_I_V_2138 (c_pinInit l Z a0 hw hEW n0 a53 s1 wb _ _ h53 K53.old hwb.1 hwb.2 X_a53 F_a53_name F_a53_width ga_a53) at_179 (fun x hx => by cases List.mem_singleton.mp hx; exact ⟨X_a53.lt, sf_a53⟩) (pc' := 182) rfl rfl rfl rfl (Nat.le_of_eq rfl) (by decide) (by decide) (by decide) (by decide) ?_
        intro b54 T54 h54 L54 v54 K54 tr54 q54
        obtain ⟨rfl, KQ, Xq, Nq, Wq⟩ := q54
        replace S0 := S0.keep KQ (ninS ne_s0_a53 nin0) (ninS ne_d0_a53 nin0)
        replace S1 := S1.keep KQ (ninS ne_s1_a53 nin0) (ninS ne_d1_a53 nin0)
        replace Xp := Xp.keep KQ
        replace Np := Np.keep KQ (ninS ne_a51_a53 nin0)
        replace Wp := Wp.keep KQ (ninS ne_a51_a53 nin0)
        show Goes p_.tables e_ below_ _ (T54.setTop (mkF m_ 182 #[.val (.int chs), .val (.int lens), .val (.int ww1), .val (.int ww2), .val (.int sel), .val (.int a0c), .val (.int a1c), .val (.int b0c), .val (.int b1c), .val (.int l1), .val (.int l2), .val (.int wa), .val (.int wb), .val (.ref s0), .val (.ref s1), .val (.ref a51), .val (.int mo), .unset, .unset, .unset] [(.ref a53)]))
        refine k_astore K54 at_182 (pc' := 184) (L' := #[.val (.int chs), .val (.int lens), .val (.int ww1), .val (.int ww2), .val (.int sel), .val (.int a0c), .val (.int a1c), .val (.int b0c), .val (.int b1c), .val (.int l1), .val (.int l2), .val (.int wa), .val (.int wb), .val (.ref s0), .val (.ref s1), .val (.ref a51), .val (.int mo), .val (.ref a53), .unset, .unset]) rfl rfl rfl ?_
        have hz1 := own_mkZ (c0 := a0c) (c1 := a1c) hl1
        have hz2 := own_mkZ (c0 := b0c) (c1 := b1c) hl2
        have hm := own_mkB hl1 hl2 ha0c ha1c hb0c hb1c
        have J : ∀ (sv ev : Int32) (hev : ev = (if (mkB l1 a0c a1c) = (mkB l2 b0c b1c) then (if wa = wb then 1 else 0) else 0)) (b55 T55 : State) (L55 : List Loc), Wk p_ l e_ room_1 s_ m_ #[(.int chs), (.int lens), (.int ww1), (.int ww2), (.int sel)] below_ meth_ c_ Z a0 EL0 n0 x code maxLocals ret b55 T55 h54 L55 8 20 → Goes p_.tables e_ below_ (FinW Z EL0 s_ n0 room_1 (fun v _ _ => v = some (.int 1) ∧ True)) (T55.setTop (mkF m_ 243 #[.val (.int chs), .val (.int lens), .val (.int ww1), .val (.int ww2), .val (.int sel), .val (.int a0c), .val (.int a1c), .val (.int b0c), .val (.int b1c), .val (.int l1), .val (.int l2), .val (.int wa), .val (.int wb), .val (.ref s0), .val (.ref s1), .val (.ref a51), .val (.int mo), .val (.ref a53), .val (.int sv), .val (.int ev)] [])) := by
          intro sv ev hev b55 T55 L55 K55
          refine k_aload K55 at_243 (pc' := 245) rfl rfl rfl ?_
          refine k_aload K55 at_245 (pc' := 247) rfl rfl rfl ?_
          refine k_virtualP K55 [(.ref a53)] [] 0 (w25 hw) (w26 hw) (w27 hw) (w28 hw) (w14 hw) (w29 hw) (notFace_of_selects (args := #[]) (mvT K55.hZ (w28 hw))) rfl (by decide) Xp (by decide) pd__Ljava_lang_Object__Z_194 (c_eqPin l Z a0 hw hEW n0 a51 a53 wa wb s0 s1 d0 d1 k0 k1 l1 l2 (mkB l1 a0c a1c) (mkB l2 b0c b1c) cs0 h54 K55.old Xq Np Nq Wp Wq hz1 hz2 (own_mkLen _ _ _) S0 S1 SC hcs) at_247 nofun (pc' := 250) rfl rfl rfl rfl (Nat.le_of_eq rfl) (by decide) (by decide) (by decide) (by decide) ?_
          intro b56 T56 L56 K56 tr56
          show Goes p_.tables e_ below_ _ (T56.setTop (mkF m_ 250 #[.val (.int chs), .val (.int lens), .val (.int ww1), .val (.int ww2), .val (.int sel), .val (.int a0c), .val (.int a1c), .val (.int b0c), .val (.int b1c), .val (.int l1), .val (.int l2), .val (.int wa), .val (.int wb), .val (.ref s0), .val (.ref s1), .val (.ref a51), .val (.int mo), .val (.ref a53), .val (.int sv), .val (.int ev)] [(.int (if (mkB l1 a0c a1c) = (mkB l2 b0c b1c) then (if wa = wb then 1 else 0) else 0))]))
          refine k_iload K56 at_250 (pc' := 252) rfl rfl ?_
          refine k_icmp_ne K56 at_252 (by decide) (pc' := 271) (pc2 := 255) (by decide) rfl (fun q => absurd hev.symm q) (fun hc252 => ?_)
          refine k_aload K56 at_255 (pc' := 257) rfl rfl rfl ?_
          refine k_aload K56 at_257 (pc' := 259) rfl rfl rfl ?_
          refine k_virtualP K56 [(.ref a51)] [] 0 (w25 hw) (w26 hw) (w27 hw) (w28 hw) (w14 hw) (w29 hw) (notFace_of_selects (args := #[]) (mvT K56.hZ (w28 hw))) rfl (by decide) Xq (by decide) pd__Ljava_lang_Object__Z_194 (c_eqPin l Z a0 hw hEW n0 a53 a51 wb wa s1 s0 d1 d0 k1 k0 l2 l1 (mkB l2 b0c b1c) (mkB l1 a0c a1c) cs0 h54 K56.old Xp Nq Np Wq Wp hz2 hz1 (own_mkLen _ _ _) S1 S0 SC hcs) at_259 nofun (pc' := 262) rfl rfl rfl rfl (Nat.le_of_eq rfl) (by decide) (by decide) (by decide) (by decide) ?_
          intro b57 T57 L57 K57 tr57
          show Goes p_.tables e_ below_ _ (T57.setTop (mkF m_ 262 #[.val (.int chs), .val (.int lens), .val (.int ww1), .val (.int ww2), .val (.int sel), .val (.int a0c), .val (.int a1c), .val (.int b0c), .val (.int b1c), .val (.int l1), .val (.int l2), .val (.int wa), .val (.int wb), .val (.ref s0), .val (.ref s1), .val (.ref a51), .val (.int mo), .val (.ref a53), .val (.int sv), .val (.int ev)] [(.int (if (mkB l2 b0c b1c) = (mkB l1 a0c a1c) then (if wb = wa then 1 else 0) else 0))]))
          refine k_iload K57 at_262 (pc' := 264) rfl rfl ?_
          refine k_icmp_ne K57 at_264 (by decide) (pc' := 271) (pc2 := 267) (by decide) rfl (fun q => absurd (by rw [hev, own_sym]) q) (fun hc264 => ?_)
          refine k_iconst K57 (1 : Int32) at_267 (pc' := 268) rfl rfl ?_
          refine k_goto K57 at_268 (by decide) (pc' := 272) (by decide) ?_
          exact k_nret K57 at_272 rfl (by simp) rfl (fun sf ht => ⟨rfl, trivial⟩) (by decide) (by decide)
        refine k_iload K54 at_184 (pc' := 186) rfl rfl ?_
        refine k_iload K54 at_186 (pc' := 188) rfl rfl ?_
        refine k_icmp_ne K54 at_188 (by decide) (pc' := 221) (pc2 := 191) (by decide) rfl (fun hc188 => ?_) (fun hc188 => ?_)
        · refine k_iconst K54 (0 : Int32) at_221 (pc' := 222) rfl rfl ?_
          refine k_istore K54 at_222 (pc' := 224) (L' := #[.val (.int chs), .val (.int lens), .val (.int ww1), .val (.int ww2), .val (.int sel), .val (.int a0c), .val (.int a1c), .val (.int b0c), .val (.int b1c), .val (.int l1), .val (.int l2), .val (.int wa), .val (.int wb), .val (.ref s0), .val (.ref s1), .val (.ref a51), .val (.int mo), .val (.ref a53), .val (.int (0 : Int32)), .unset]) rfl rfl ?_
          refine k_iload K54 at_224 (pc' := 226) rfl rfl ?_
          refine k_if_eq K54 at_226 (by decide) (pc' := 240) (pc2 := 229) (by decide) rfl (fun hc226 => ?_) (fun q => absurd (by decide) q)
          refine k_iconst K54 (0 : Int32) at_240 (pc' := 241) rfl rfl ?_
          refine k_istore K54 at_241 (pc' := 243) (L' := #[.val (.int chs), .val (.int lens), .val (.int ww1), .val (.int ww2), .val (.int sel), .val (.int a0c), .val (.int a1c), .val (.int b0c), .val (.int b1c), .val (.int l1), .val (.int l2), .val (.int wa), .val (.int wb), .val (.ref s0), .val (.ref s1), .val (.ref a51), .val (.int mo), .val (.ref a53), .val (.int (0 : Int32)), .val (.int (0 : Int32))]) rfl rfl ?_
          exact J _ _ (by rw [if_neg fun q => hc188 (hm.mp q).1]) _ _ _ K54
        · refine k_iload K54 at_191 (pc' := 193) rfl rfl ?_
          refine k_iconst K54 (1 : Int32) at_193 (pc' := 194) rfl rfl ?_
          refine k_icmp_lt K54 at_194 (by decide) (pc' := 204) (pc2 := 197) (by decide) rfl (fun hc194 => ?_) (fun hc194 => ?_)
          · refine k_iload K54 at_204 (pc' := 206) rfl rfl ?_
            refine k_iconst K54 (2 : Int32) at_206 (pc' := 207) rfl rfl ?_
            refine k_icmp_lt K54 at_207 (by decide) (pc' := 217) (pc2 := 210) (by decide) rfl (fun hc207 => ?_) (fun q => absurd (own_lt12 hc194) q)
            refine k_iconst K54 (1 : Int32) at_217 (pc' := 218) rfl rfl ?_
            refine k_goto K54 at_218 (by decide) (pc' := 222) (by decide) ?_
            refine k_istore K54 at_222 (pc' := 224) (L' := #[.val (.int chs), .val (.int lens), .val (.int ww1), .val (.int ww2), .val (.int sel), .val (.int a0c), .val (.int a1c), .val (.int b0c), .val (.int b1c), .val (.int l1), .val (.int l2), .val (.int wa), .val (.int wb), .val (.ref s0), .val (.ref s1), .val (.ref a51), .val (.int mo), .val (.ref a53), .val (.int (1 : Int32)), .unset]) rfl rfl ?_
            refine k_iload K54 at_224 (pc' := 226) rfl rfl ?_
            refine k_if_eq K54 at_226 (by decide) (pc' := 240) (pc2 := 229) (by decide) rfl (fun q => absurd q (by decide)) (fun hc226 => ?_)
            refine k_iload K54 at_229 (pc' := 231) rfl rfl ?_
            refine k_iload K54 at_231 (pc' := 233) rfl rfl ?_
            refine k_icmp_ne K54 at_233 (by decide) (pc' := 240) (pc2 := 236) (by decide) rfl (fun hc233 => ?_) (fun hc233 => ?_)
            · refine k_iconst K54 (0 : Int32) at_240 (pc' := 241) rfl rfl ?_
              refine k_istore K54 at_241 (pc' := 243) (L' := #[.val (.int chs), .val (.int lens), .val (.int ww1), .val (.int ww2), .val (.int sel), .val (.int a0c), .val (.int a1c), .val (.int b0c), .val (.int b1c), .val (.int l1), .val (.int l2), .val (.int wa), .val (.int wb), .val (.ref s0), .val (.ref s1), .val (.ref a51), .val (.int mo), .val (.ref a53), .val (.int (1 : Int32)), .val (.int (0 : Int32))]) rfl rfl ?_
              exact J _ _ (by rw [if_pos (hm.mpr ⟨hc188, Or.inl hc194, Or.inl hc207⟩), if_neg hc233]) _ _ _ K54
            · refine k_iconst K54 (1 : Int32) at_236 (pc' := 237) rfl rfl ?_
              refine k_goto K54 at_237 (by decide) (pc' := 241) (by decide) ?_
              refine k_istore K54 at_241 (pc' := 243) (L' := #[.val (.int chs), .val (.int lens), .val (.int ww1), .val (.int ww2), .val (.int sel), .val (.int a0c), .val (.int a1c), .val (.int b0c), .val (.int b1c), .val (.int l1), .val (.int l2), .val (.int wa), .val (.int wb), .val (.ref s0), .val (.ref s1), .val (.ref a51), .val (.int mo), .val (.ref a53), .val (.int (1 : Int32)), .val (.int (1 : Int32))]) rfl rfl ?_
              exact J _ _ (by rw [if_pos (hm.mpr ⟨hc188, Or.inl hc194, Or.inl hc207⟩), if_pos hc233]) _ _ _ K54
          · refine k_iload K54 at_197 (pc' := 199) rfl rfl ?_
            refine k_iload K54 at_199 (pc' := 201) rfl rfl ?_
            refine k_icmp_ne K54 at_201 (by decide) (pc' := 221) (pc2 := 204) (by decide) rfl (fun hc201 => ?_) (fun hc201 => ?_)
            · refine k_iconst K54 (0 : Int32) at_221 (pc' := 222) rfl rfl ?_
              refine k_istore K54 at_222 (pc' := 224) (L' := #[.val (.int chs), .val (.int lens), .val (.int ww1), .val (.int ww2), .val (.int sel), .val (.int a0c), .val (.int a1c), .val (.int b0c), .val (.int b1c), .val (.int l1), .val (.int l2), .val (.int wa), .val (.int wb), .val (.ref s0), .val (.ref s1), .val (.ref a51), .val (.int mo), .val (.ref a53), .val (.int (0 : Int32)), .unset]) rfl rfl ?_
              refine k_iload K54 at_224 (pc' := 226) rfl rfl ?_
              refine k_if_eq K54 at_226 (by decide) (pc' := 240) (pc2 := 229) (by decide) rfl (fun hc226 => ?_) (fun q => absurd (by decide) q)
              refine k_iconst K54 (0 : Int32) at_240 (pc' := 241) rfl rfl ?_
              refine k_istore K54 at_241 (pc' := 243) (L' := #[.val (.int chs), .val (.int lens), .val (.int ww1), .val (.int ww2), .val (.int sel), .val (.int a0c), .val (.int a1c), .val (.int b0c), .val (.int b1c), .val (.int l1), .val (.int l2), .val (.int wa), .val (.int wb), .val (.ref s0), .val (.ref s1), .val (.ref a51), .val (.int mo), .val (.ref a53), .val (.int (0 : Int32)), .val (.int (0 : Int32))]) rfl rfl ?_
              exact J _ _ (by rw [if_neg fun q => (hm.mp q).2.1.elim hc194 hc201]) _ _ _ K54
            · refine k_iload K54 at_204 (pc' := 206) rfl rfl ?_
              refine k_iconst K54 (2 : Int32) at_206 (pc' := 207) rfl rfl ?_
              refine k_icmp_lt K54 at_207 (by decide) (pc' := 217) (pc2 := 210) (by decide) rfl (fun hc207 => ?_) (fun hc207 => ?_)
              · refine k_iconst K54 (1 : Int32) at_217 (pc' := 218) rfl rfl ?_
                refine k_goto K54 at_218 (by decide) (pc' := 222) (by decide) ?_
                refine k_istore K54 at_222 (pc' := 224) (L' := #[.val (.int chs), .val (.int lens), .val (.int ww1), .val (.int ww2), .val (.int sel), .val (.int a0c), .val (.int a1c), .val (.int b0c), .val (.int b1c), .val (.int l1), .val (.int l2), .val (.int wa), .val (.int wb), .val (.ref s0), .val (.ref s1), .val (.ref a51), .val (.int mo), .val (.ref a53), .val (.int (1 : Int32)), .unset]) rfl rfl ?_
                refine k_iload K54 at_224 (pc' := 226) rfl rfl ?_
                refine k_if_eq K54 at_226 (by decide) (pc' := 240) (pc2 := 229) (by decide) rfl (fun q => absurd q (by decide)) (fun hc226 => ?_)
                refine k_iload K54 at_229 (pc' := 231) rfl rfl ?_
                refine k_iload K54 at_231 (pc' := 233) rfl rfl ?_
                refine k_icmp_ne K54 at_233 (by decide) (pc' := 240) (pc2 := 236) (by decide) rfl (fun hc233 => ?_) (fun hc233 => ?_)
                · refine k_iconst K54 (0 : Int32) at_240 (pc' := 241) rfl rfl ?_
                  refine k_istore K54 at_241 (pc' := 243) (L' := #[.val (.int chs), .val (.int lens), .val (.int ww1), .val (.int ww2), .val (.int sel), .val (.int a0c), .val (.int a1c), .val (.int b0c), .val (.int b1c), .val (.int l1), .val (.int l2), .val (.int wa), .val (.int wb), .val (.ref s0), .val (.ref s1), .val (.ref a51), .val (.int mo), .val (.ref a53), .val (.int (1 : Int32)), .val (.int (0 : Int32))]) rfl rfl ?_
                  exact J _ _ (by rw [if_pos (hm.mpr ⟨hc188, Or.inr hc201, Or.inl hc207⟩), if_neg hc233]) _ _ _ K54
                · refine k_iconst K54 (1 : Int32) at_236 (pc' := 237) rfl rfl ?_
                  refine k_goto K54 at_237 (by decide) (pc' := 241) (by decide) ?_
                  refine k_istore K54 at_241 (pc' := 243) (L' := #[.val (.int chs), .val (.int lens), .val (.int ww1), .val (.int ww2), .val (.int sel), .val (.int a0c), .val (.int a1c), .val (.int b0c), .val (.int b1c), .val (.int l1), .val (.int l2), .val (.int wa), .val (.int wb), .val (.ref s0), .val (.ref s1), .val (.ref a51), .val (.int mo), .val (.ref a53), .val (.int (1 : Int32)), .val (.int (1 : Int32))]) rfl rfl ?_
                  exact J _ _ (by rw [if_pos (hm.mpr ⟨hc188, Or.inr hc201, Or.inl hc207⟩), if_pos hc233]) _ _ _ K54
              · refine k_iload K54 at_210 (pc' := 212) rfl rfl ?_
                refine k_iload K54 at_212 (pc' := 214) rfl rfl ?_
                refine k_icmp_ne K54 at_214 (by decide) (pc' := 221) (pc2 := 217) (by decide) rfl (fun hc214 => ?_) (fun hc214 => ?_)
                · refine k_iconst K54 (0 : Int32) at_221 (pc' := 222) rfl rfl ?_
                  refine k_istore K54 at_222 (pc' := 224) (L' := #[.val (.int chs), .val (.int lens), .val (.int ww1), .val (.int ww2), .val (.int sel), .val (.int a0c), .val (.int a1c), .val (.int b0c), .val (.int b1c), .val (.int l1), .val (.int l2), .val (.int wa), .val (.int wb), .val (.ref s0), .val (.ref s1), .val (.ref a51), .val (.int mo), .val (.ref a53), .val (.int (0 : Int32)), .unset]) rfl rfl ?_
                  refine k_iload K54 at_224 (pc' := 226) rfl rfl ?_
                  refine k_if_eq K54 at_226 (by decide) (pc' := 240) (pc2 := 229) (by decide) rfl (fun hc226 => ?_) (fun q => absurd (by decide) q)
                  refine k_iconst K54 (0 : Int32) at_240 (pc' := 241) rfl rfl ?_
                  refine k_istore K54 at_241 (pc' := 243) (L' := #[.val (.int chs), .val (.int lens), .val (.int ww1), .val (.int ww2), .val (.int sel), .val (.int a0c), .val (.int a1c), .val (.int b0c), .val (.int b1c), .val (.int l1), .val (.int l2), .val (.int wa), .val (.int wb), .val (.ref s0), .val (.ref s1), .val (.ref a51), .val (.int mo), .val (.ref a53), .val (.int (0 : Int32)), .val (.int (0 : Int32))]) rfl rfl ?_
                  exact J _ _ (by rw [if_neg fun q => (hm.mp q).2.2.elim hc207 hc214]) _ _ _ K54
                · refine k_iconst K54 (1 : Int32) at_217 (pc' := 218) rfl rfl ?_
                  refine k_goto K54 at_218 (by decide) (pc' := 222) (by decide) ?_
                  refine k_istore K54 at_222 (pc' := 224) (L' := #[.val (.int chs), .val (.int lens), .val (.int ww1), .val (.int ww2), .val (.int sel), .val (.int a0c), .val (.int a1c), .val (.int b0c), .val (.int b1c), .val (.int l1), .val (.int l2), .val (.int wa), .val (.int wb), .val (.ref s0), .val (.ref s1), .val (.ref a51), .val (.int mo), .val (.ref a53), .val (.int (1 : Int32)), .unset]) rfl rfl ?_
                  refine k_iload K54 at_224 (pc' := 226) rfl rfl ?_
                  refine k_if_eq K54 at_226 (by decide) (pc' := 240) (pc2 := 229) (by decide) rfl (fun q => absurd q (by decide)) (fun hc226 => ?_)
                  refine k_iload K54 at_229 (pc' := 231) rfl rfl ?_
                  refine k_iload K54 at_231 (pc' := 233) rfl rfl ?_
                  refine k_icmp_ne K54 at_233 (by decide) (pc' := 240) (pc2 := 236) (by decide) rfl (fun hc233 => ?_) (fun hc233 => ?_)
                  · refine k_iconst K54 (0 : Int32) at_240 (pc' := 241) rfl rfl ?_
                    refine k_istore K54 at_241 (pc' := 243) (L' := #[.val (.int chs), .val (.int lens), .val (.int ww1), .val (.int ww2), .val (.int sel), .val (.int a0c), .val (.int a1c), .val (.int b0c), .val (.int b1c), .val (.int l1), .val (.int l2), .val (.int wa), .val (.int wb), .val (.ref s0), .val (.ref s1), .val (.ref a51), .val (.int mo), .val (.ref a53), .val (.int (1 : Int32)), .val (.int (0 : Int32))]) rfl rfl ?_
                    exact J _ _ (by rw [if_pos (hm.mpr ⟨hc188, Or.inr hc201, Or.inr hc214⟩), if_neg hc233]) _ _ _ K54
                  · refine k_iconst K54 (1 : Int32) at_236 (pc' := 237) rfl rfl ?_
                    refine k_goto K54 at_237 (by decide) (pc' := 241) (by decide) ?_
                    refine k_istore K54 at_241 (pc' := 243) (L' := #[.val (.int chs), .val (.int lens), .val (.int ww1), .val (.int ww2), .val (.int sel), .val (.int a0c), .val (.int a1c), .val (.int b0c), .val (.int b1c), .val (.int l1), .val (.int l2), .val (.int wa), .val (.int wb), .val (.ref s0), .val (.ref s1), .val (.ref a51), .val (.int mo), .val (.ref a53), .val (.int (1 : Int32)), .val (.int (1 : Int32))]) rfl rfl ?_
                    exact J _ _ (by rw [if_pos (hm.mpr ⟨hc188, Or.inr hc201, Or.inr hc214⟩), if_pos hc233]) _ _ _ K54
      · refine k_aload K52 at_155 (pc' := 157) rfl rfl rfl ?_
        refine k_aload K52 at_157 (pc' := 159) rfl rfl rfl ?_
        refine k_virtualP K52 [(.ref s0)] [] 0 (w25 hw) (w26 hw) (w27 hw) (w28 hw) (w14 hw) (w29 hw) (notFace_of_selects (args := #[]) (mvT K52.hZ (w28 hw))) rfl (by decide) Xp (by decide) pd__Ljava_lang_Object__Z_194 (c_eqStr l Z a0 hw hEW n0 a51 s0 h52 K52.old S0.1) at_159 nofun (pc' := 162) rfl rfl rfl rfl (Nat.le_of_eq rfl) (by decide) (by decide) (by decide) (by decide) ?_
        intro b58 T58 L58 K58 tr58
        show Goes p_.tables e_ below_ _ (T58.setTop (mkF m_ 162 #[.val (.int chs), .val (.int lens), .val (.int ww1), .val (.int ww2), .val (.int sel), .val (.int a0c), .val (.int a1c), .val (.int b0c), .val (.int b1c), .val (.int l1), .val (.int l2), .val (.int wa), .val (.int wb), .val (.ref s0), .val (.ref s1), .val (.ref a51), .val (.int mo), .unset, .unset, .unset] [(.int (0 : Int32))]))
        refine k_if_ne K58 at_162 (by decide) (pc' := 169) (pc2 := 165) (by decide) rfl (fun q => absurd (by decide) q) (fun hc162 => ?_)
        refine k_iconst K58 (1 : Int32) at_165 (pc' := 166) rfl rfl ?_
        refine k_goto K58 at_166 (by decide) (pc' := 170) (by decide) ?_
        exact k_nret K58 at_170 rfl (by simp) rfl (fun sf ht => ⟨rfl, trivial⟩) (by decide) (by decide)
    · refine k_aload K52 at_141 (pc' := 143) rfl rfl rfl ?_
      refine k_aload K52 at_143 (pc' := 145) rfl rfl rfl ?_
      have hz1 := own_mkZ (c0 := a0c) (c1 := a1c) hl1
      have hz2 := own_mkZ (c0 := b0c) (c1 := b1c) hl2
      refine k_virtualP K52 [(.ref a51)] [] 0 (w25 hw) (w26 hw) (w27 hw) (w28 hw) (w14 hw) (w29 hw) (notFace_of_selects (args := #[]) (mvT K52.hZ (w28 hw))) rfl (by decide) Xp (by decide) pd__Ljava_lang_Object__Z_194 (c_eqPin l Z a0 hw hEW n0 a51 a51 wa wa s0 s0 d0 d0 k0 k0 l1 l1 (mkB l1 a0c a1c) (mkB l1 a0c a1c) cs0 h52 K52.old Xp Np Np Wp Wp hz1 hz1 (own_mkLen _ _ _) S0 S0 SC hcs) at_145 nofun (pc' := 148) rfl rfl rfl rfl (Nat.le_of_eq rfl) (by decide) (by decide) (by decide) (by decide) ?_
      intro b59 T59 L59 K59 tr59
      show Goes p_.tables e_ below_ _ (T59.setTop (mkF m_ 148 #[.val (.int chs), .val (.int lens), .val (.int ww1), .val (.int ww2), .val (.int sel), .val (.int a0c), .val (.int a1c), .val (.int b0c), .val (.int b1c), .val (.int l1), .val (.int l2), .val (.int wa), .val (.int wb), .val (.ref s0), .val (.ref s1), .val (.ref a51), .val (.int mo), .unset, .unset, .unset] [(.int (if (mkB l1 a0c a1c) = (mkB l1 a0c a1c) then (if wa = wa then 1 else 0) else 0))]))
      rw [if_pos rfl, if_pos rfl]
      exact k_nret K59 at_148 rfl (by simp) rfl (fun sf ht => ⟨rfl, trivial⟩) (by decide) (by decide)
  · refine k_aload K52 at_120 (pc' := 122) rfl rfl rfl ?_
    refine k_aconst_null K52 at_122 (pc' := 123) rfl ?_
    refine k_virtualP K52 [.null] [] 0 (w25 hw) (w26 hw) (w27 hw) (w28 hw) (w14 hw) (w29 hw) (notFace_of_selects (args := #[]) (mvT K52.hZ (w28 hw))) rfl (by decide) Xp (by decide) pd__Ljava_lang_Object__Z_194 (c_eqNull l Z a0 hw hEW n0 a51 h52 K52.old ) at_123 nofun (pc' := 126) rfl rfl rfl rfl (Nat.le_of_eq rfl) (by decide) (by decide) (by decide) (by decide) ?_
    intro b60 T60 L60 K60 tr60
    show Goes p_.tables e_ below_ _ (T60.setTop (mkF m_ 126 #[.val (.int chs), .val (.int lens), .val (.int ww1), .val (.int ww2), .val (.int sel), .val (.int a0c), .val (.int a1c), .val (.int b0c), .val (.int b1c), .val (.int l1), .val (.int l2), .val (.int wa), .val (.int wb), .val (.ref s0), .val (.ref s1), .val (.ref a51), .val (.int mo), .unset, .unset, .unset] [(.int (0 : Int32))]))
    refine k_if_ne K60 at_126 (by decide) (pc' := 133) (pc2 := 129) (by decide) rfl (fun q => absurd (by decide) q) (fun hc126 => ?_)
    refine k_iconst K60 (1 : Int32) at_129 (pc' := 130) rfl rfl ?_
    refine k_goto K60 at_130 (by decide) (pc' := 134) (by decide) ?_
    exact k_nret K60 at_134 rfl (by simp) rfl (fun sf ht => ⟨rfl, trivial⟩) (by decide) (by decide)
theorem own_eqI {args : Array Value} {s : State} {t : Term} {k : Int32} (h : (Cond.eq t (.int k)).value args s none s [] = some true) : t.eval args s none [] s = some (.int k) := by
  obtain ⟨x, y, e1, e2, -, k2⟩ := cmp_v (Or.inl h)
  have e3 : y = .int k := (Option.some.inj e2).symm
  subst e3
  obtain ⟨z, rfl⟩ := k2
  have q : z = k := by simpa [Cond.value, Term.eval, e1] using h
  rw [e1, q]
theorem own_fld {args : Array Value} {s : State} {t : Term} {a : Addr} {C n d : String} {v : Value} (ht : t.eval args s none [] s = some (.ref a)) (h : (Term.field t C n d).eval args s none [] s = some v) : Fld s s.heap a C n d v := Fld.start (by rw [← fld_at ht]; exact h)
theorem own_arv {args : Array Value} {s : State} (hf : Fit s) {t : Term} {b : Addr} {ty : FieldType} {z : Int32} {vs : List Value} {dv : Value} (ev : t.eval args s none [] s = some (.ref b)) (hA : (Cond.arrayOf t ty).value args s none s [] = some true) (hL : (Cond.eq (.length t) (.int z)).value args s none s [] = some true) (hz : ¬ z < 0) (hl : z.toNatClampNeg = vs.length) (H : ∀ cl : Cell, s.heap[b]? = some cl → HasL cl 0 vs) : ∃ k, Arv s s.heap b k ty z vs dv := by
  obtain ⟨cl, A⟩ := Arr.start ev hA
  have e := own_eqI hL
  have q : s.arrayAt? b = some cl := A.fin (Vm.Alike.refl _)
  simp only [Term.eval, ev, q, Option.bind_eq_bind, Option.bind_some] at e
  split at e
  · rename_i hs
    exact ⟨cl.cls, Arv.start hf A hs (Value.int.inj (Option.some.inj e)) hz hl (H cl A.1)⟩
  · cases e
theorem own_el {args : Array Value} {s : State} {t : Term} {b : Addr} {j v : Int32} {cl : Cell} (ev : t.eval args s none [] s = some (.ref b)) (h : (Cond.eq (.elem t (.int j)) (.int v)).value args s none s [] = some true) (hc : s.heap[b]? = some cl) : cl.slots[j.toNatClampNeg]? = some (.int v) := (elem_in (own_eqI h) ev rfl hc).2
set_option maxRecDepth 65536 in
set_option maxHeartbeats 40000000 in
theorem comes_1 {Post : Tables → Env → Array Value → State → Outcome → State → Prop} (hpost : ∀ tb e args s v u, (limb_1_1.after args s (.returned v) u = true ∧ limb_1_2.after args s (.returned v) u = true ∧ True) → ReturnedEndW s (.returned v) u (Jvm.fieldLocs frame_1_writes args s ++ Jvm.arrayLocs frame_1_arrays args s ++ Jvm.staticLocs frame_1_statics s) 32 1152 → Post tb e args s (.returned v) u) :
    ArmFor flags0 classFile x code maxLocals ret World_1 tables_1 room_1 Calls_1 rest_1 Pre_1 Post := by
  intro l hfl _ _ p e ha hc hk s m args below hf hA hF happ hP
  obtain ⟨hcalls, hrest, hpre⟩ := hP
  obtain ⟨-, -, -, hnamed, -, -, -, hat⟩ := (Spec.applies_iff hf).mp happ
  obtain ⟨hg, hn⟩ := and_e (Cond.before_iff.mp (show (Jvm.Cond.and given_1 narrow_1).before args s = true from hpre))
  obtain ⟨hg_0, hg⟩ := and_e hg
  obtain ⟨w0, w1, w2, w3, w4, rfl⟩ : ∃ w0 w1 w2 w3 w4 : Value, args = #[w0, w1, w2, w3, w4] := by
    have hs : args.size = 5 := by simpa [Cond.value, given_1] using hg_0
    obtain ⟨L⟩ := args
    match L, hs with
    | [w0, w1, w2, w3, w4], _ => exact ⟨w0, w1, w2, w3, w4, rfl⟩
  obtain ⟨hg_1, hg⟩ := and_e hg
  obtain ⟨hg_2, hg⟩ := and_e hg
  obtain ⟨hg_3, hg⟩ := and_e hg
  obtain ⟨hg_4, hg⟩ := and_e hg
  have hg_5 := hg
  have hw := fun d (hd : d ∈ tables_1) => atoms_spec (ws := Jvm.Cond.code x code maxLocals ret :: tables_1) hat d (List.mem_cons_of_mem _ hd)
  have hfit : Fit s := fun {y c} hc i hi => by
    obtain ⟨ha, rfl⟩ := Array.getElem?_eq_some_iff.mp hc
    have q := List.all_eq_true.mp ((Array.all_eq_true_iff_forall_mem.mp hF) _ (Array.getElem_mem ha)) i (List.mem_range.mpr hi)
    simpa [Array.getElem?_eq_getElem hi] using q
  obtain ⟨hsets, hown0⟩ := atoms_of _ (rest_1_c_eq ▸ (show rest_1_c.before _ s = true from hrest))
  obtain ⟨i0, ei0⟩ := is_v hg_1
  obtain rfl : w0 = (.int i0) := Option.some.inj ei0
  obtain ⟨i1, ei1⟩ := is_v hg_2
  obtain rfl : w1 = (.int i1) := Option.some.inj ei1
  obtain ⟨i2, ei2⟩ := is_v hg_3
  obtain rfl : w2 = (.int i2) := Option.some.inj ei2
  obtain ⟨i3, ei3⟩ := is_v hg_4
  obtain rfl : w3 = (.int i3) := Option.some.inj ei3
  obtain ⟨i4, ei4⟩ := is_v hg_5
  obtain rfl : w4 = (.int i4) := Option.some.inj ei4
  have hEW : EW s _ EL0 := (EW.cons (w4 hw) (by decide) EW.nil)
  have hCH : CHv s EL0 s.vm s.heap := CHv.start hEW hcalls.1 (hsets _ (List.mem_of_getElem? (i := 2) rfl)) (w7 hw) (w6 hw)
  obtain ⟨cs0, ecs⟩ := is_v (Cond.before_iff.mp (hsets _ (List.mem_of_getElem? (i := 1) rfl)))
  have SC := Sta.start ecs (Or.inl (hsets _ (List.mem_of_getElem? (i := 0) rfl)))
  have hcs : ¬ cs0 = 0 := fun q => by
    have h2 := not_v (Cond.before_iff.mp (hsets _ (List.mem_of_getElem? (i := 2) rfl)))
    rw [q] at ecs
    rw [eq_i ecs (Term.int_eval 0) rfl] at h2
    cases h2
  obtain ⟨n, o, h1, h2, h3, _, L, rfl, ⟨N, -, rfl, -⟩, -, hq⟩ := c_law l s _ hw hEW s.heap.size i0 i1 i2 i3 i4 cs0 s.heap (Old.start s) SC hcs tables_1 p e ha hc hk s m _ below hf ((Spec.applies_iff_loose hf).mp happ).1 ⟨rfl, State.Warmed39.refl s, rfl, nofun, hCH⟩ trivial
  refine ⟨n, _, h1, h2, h3, hpost _ _ _ _ _ _ ⟨Cond.after_iff.mpr rfl, Cond.after_iff.mpr (eq_i res_at (Term.int_eval (1)) rfl), trivial⟩ ⟨hq.1, hq.2.1, hq.2.2.1, (hq.2.2.2.sift fun y hy => Or.inr (N y hy)).mono (by decide) (by decide)⟩⟩
theorem main_1_1 : Claimed_1_1 := comes_1 fun _ _ _ _ _ _ h hF => ⟨h.1, hF⟩
theorem main_1_2 : Claimed_1_2 := comes_1 fun _ _ _ _ _ _ h hF => ⟨h.2.1, hF⟩
end Jvm.Pilot.@@N@@
namespace Jvm.Pilot.@@N@@
open Jvm Jvm.ClassFile Sem Op Lib Jvm.Free Jvm.Stand Jvm.Pilot.@@N@@.Jvm.D
/-! MADE BY PROGRAM (witnessworld.py) out of the Statement's table words and the real class files: 20 classes; the members and pool entries that the words name. The judged class is class 1, her method 2. -/
namespace start1
open Jvm.ClassFile
def u (s : String) : CpInfo := .utf8 (stringToUtf16 s)
/-- a pool by its gaps: so many unusable entries, then the entry; so many at the end -/
def gap : Nat → List CpInfo → List CpInfo
  | 0, r => r
  | n + 1, r => .unusable :: gap n r
def poolList (es : List (Nat × CpInfo)) (last : Nat) : List CpInfo := es.foldr (fun e r => gap e.1 (e.2 :: r)) (gap last [])
def pool (es : List (Nat × CpInfo)) (last : Nat) : Array CpInfo := ⟨poolList es last⟩
def fileOf (pool : Array CpInfo) (this : Nat) (attrs : Array Attribute := #[]) (ms : Array MethodInfo := #[]) (fl : Nat := 33) (sup : Nat := 0) (ifs : Array Nat := #[]) (fds : Array FieldInfo := #[]) : ClassFile where
  minorVersion := 0
  majorVersion := 65
  constantPool := pool
  accessFlags := fl
  thisClass := this
  superClass := sup
  interfaces := ifs
  fields := fds
  methods := ms
  attributes := attrs
def plain (name : String) (sup : Option ClassId) : Class where
  name := name
  kind := .ordinary
  loader := none
  accessFlags := 33
  super := sup
  interfaces := #[]
  cf := none
  fields := #[]
  methods := #[]
  instanceTypes := #[]
  staticTypes := #[]
  resolved := #[]
  callSites := []
  init := .initialized
  statics := none
  mirror := none

def pool0 : Array CpInfo := pool [(5, u "<init>"), (0, u "()V"), (1, .class_ 10), (1, u "java/lang/Object")] 113

def k0c0 : Code := { maxStack := 0, maxLocals := 1, code := object_method_1_code, exceptionTable := #[], attributes := #[] }
def k0m0 : Method := { name := "<init>", desc := "()V", sig := { parameters := [], returnType := none }, accessFlags := 1, code := some k0c0 }
/-- java/lang/Object -/
def k0 : Class := { plain "java/lang/Object" none with
  accessFlags := 33
  interfaces := #[]
  cf := some (fileOf pool0 8 #[] #[{ accessFlags := 1, nameIndex := 5, descriptorIndex := 6, attributes := #[] }] 33 0 #[] #[])
  fields := #[]
  methods := #[k0m0]
  instanceTypes := #[]
  staticTypes := #[]
  resolved := Array.replicate 124 none
  statics := none }

def pool1 : Array CpInfo := pool [(2, .class_ 4), (1, u "java/lang/Object"), (0, u "<init>"), (0, u "()V"), (0, .string 8), (0, u ""), (0, .methodref 10 11), (0, .class_ 12), (0, .nameAndType 13 14), (0, u "java/lang/String"), (0, u "valueOf"), (0, u "(C)Ljava/lang/String;"), (0, .methodref 10 16), (0, .nameAndType 5 17), (0, u "([C)V"), (0, .methodref 19 20), (0, .class_ 21), (0, .nameAndType 22 23), (0, u "com/example/gerbang/gerbang/hdl/PinEqualsPinLaw"), (0, u "mk"), (0, u "(ICC)Ljava/lang/String;"), (0, .class_ 25), (0, u "com/example/gerbang/gerbang/hdl/Pin"), (0, .methodref 24 27), (0, .nameAndType 5 28), (0, u "(Ljava/lang/String;I)V"), (0, .methodref 24 30), (0, .nameAndType 31 32), (0, u "equals"), (0, u "(Ljava/lang/Object;)Z"), (3, u "law"), (0, u "(IIIII)Z")] 2

def k1m0 : Method := { name := "<init>", desc := "()V", sig := { parameters := [], returnType := none }, accessFlags := 1, code := none }
def k1c1 : Code := { maxStack := 6, maxLocals := 3, code := method_2_code, exceptionTable := #[], attributes := #[] }
def k1m1 : Method := { name := "mk", desc := "(ICC)Ljava/lang/String;", sig := { parameters := [.int, .char, .char], returnType := some (.object "java/lang/String") }, accessFlags := 10, code := some k1c1 }
def k1c2 : Code := { maxStack := 4, maxLocals := 20, code := code, exceptionTable := #[], attributes := #[] }
def k1m2 : Method := { name := "law", desc := "(IIIII)Z", sig := { parameters := [.int, .int, .int, .int, .int], returnType := some .boolean }, accessFlags := 9, code := some k1c2 }
/-- com/example/gerbang/gerbang/hdl/PinEqualsPinLaw -/
def k1 : Class := { plain "com/example/gerbang/gerbang/hdl/PinEqualsPinLaw" (some 0) with
  accessFlags := 49
  interfaces := #[]
  cf := some (fileOf pool1 19 #[] #[{ accessFlags := 1, nameIndex := 5, descriptorIndex := 6, attributes := #[] }, { accessFlags := 10, nameIndex := 22, descriptorIndex := 23, attributes := #[] }, { accessFlags := 9, nameIndex := 36, descriptorIndex := 37, attributes := #[] }] 49 2 #[] #[])
  fields := #[]
  methods := #[k1m0, k1m1, k1m2]
  instanceTypes := #[]
  staticTypes := #[]
  resolved := Array.replicate 40 none
  statics := none }

def pool2 : Array CpInfo := pool [(1, .class_ 2), (0, u "java/io/Serializable"), (0, .class_ 4), (0, u "java/lang/Object")] 2

/-- java/io/Serializable -/
def k2 : Class := { plain "java/io/Serializable" (some 0) with
  accessFlags := 1537
  interfaces := #[]
  cf := some (fileOf pool2 1 #[] #[] 1537 3 #[] #[])
  fields := #[]
  methods := #[]
  instanceTypes := #[]
  staticTypes := #[]
  resolved := Array.replicate 7 none
  statics := none }

def pool3 : Array CpInfo := pool [(1, .class_ 2), (0, u "java/lang/Comparable"), (0, .class_ 4), (0, u "java/lang/Object")] 7

/-- java/lang/Comparable -/
def k3 : Class := { plain "java/lang/Comparable" (some 0) with
  accessFlags := 1537
  interfaces := #[]
  cf := some (fileOf pool3 1 #[] #[] 1537 3 #[] #[])
  fields := #[]
  methods := #[]
  instanceTypes := #[]
  staticTypes := #[]
  resolved := Array.replicate 12 none
  statics := none }

def pool4 : Array CpInfo := pool [(2, .class_ 4), (1, u "java/lang/CharSequence"), (42, .class_ 48), (0, u "java/lang/CharSequence$1CodePointIterator"), (10, .class_ 60), (0, u "java/lang/CharSequence$1CharIterator"), (5, .class_ 67), (0, u "java/lang/Object")] 63

/-- java/lang/CharSequence -/
def k4 : Class := { plain "java/lang/CharSequence" (some 0) with
  accessFlags := 1537
  interfaces := #[]
  cf := some (fileOf pool4 2 #[.nestMembers #[47, 59]] #[] 1537 66 #[] #[])
  fields := #[]
  methods := #[]
  instanceTypes := #[]
  staticTypes := #[]
  resolved := Array.replicate 131 none
  statics := none }

def pool5 : Array CpInfo := pool [(1, .class_ 2), (0, u "java/lang/constant/Constable"), (0, .class_ 4), (0, u "java/lang/Object")] 6

/-- java/lang/constant/Constable -/
def k5 : Class := { plain "java/lang/constant/Constable" (some 0) with
  accessFlags := 1537
  interfaces := #[]
  cf := some (fileOf pool5 1 #[] #[] 1537 3 #[] #[])
  fields := #[]
  methods := #[]
  instanceTypes := #[]
  staticTypes := #[]
  resolved := Array.replicate 11 none
  statics := none }

def pool6 : Array CpInfo := pool [(1, .class_ 2), (0, u "java/lang/constant/ConstantDesc"), (0, .class_ 4), (0, u "java/lang/Object")] 32

/-- java/lang/constant/ConstantDesc -/
def k6 : Class := { plain "java/lang/constant/ConstantDesc" (some 0) with
  accessFlags := 1537
  interfaces := #[]
  cf := some (fileOf pool6 1 #[] #[] 1537 3 #[] #[])
  fields := #[]
  methods := #[]
  instanceTypes := #[]
  staticTypes := #[]
  resolved := Array.replicate 37 none
  statics := none }

def pool7 : Array CpInfo := pool [(1, .methodref 2 3), (0, .class_ 4), (0, .nameAndType 5 6), (0, u "java/lang/Object"), (0, u "<init>"), (0, u "()V"), (2, .fieldref 10 11), (0, .class_ 12), (0, .nameAndType 13 14), (0, u "java/lang/String"), (0, u "value"), (0, u "[B"), (0, .fieldref 10 16), (0, .nameAndType 17 18), (0, u "coder"), (0, u "B"), (2, u "hash"), (0, u "I"), (2, u "hashIsZero"), (0, u "Z"), (0, .methodref 10 28), (0, .nameAndType 5 29), (0, u "([CIILjava/lang/Void;)V"), (8, .fieldref 10 39), (0, .nameAndType 40 26), (0, u "COMPACT_STRINGS"), (1, .class_ 44), (1, u "java/lang/StringUTF16"), (0, u "compress"), (1, .methodref 42 48), (0, .nameAndType 49 50), (0, u "coderFromArrayLen"), (0, u "([BI)B"), (2, u "toBytes"), (53, .class_ 109), (1, u "java/lang/StringLatin1"), (67, .methodref 42 178), (0, .nameAndType 45 179), (0, u "([CII)[B"), (29, .methodref 10 210), (0, .nameAndType 5 211), (0, u "([BB)V"), (157, u "(C)Z"), (171, .methodref 107 542), (0, .nameAndType 543 544), (0, u "equals"), (0, u "([B[B)Z"), (28, u "(Ljava/lang/Object;)Z"), (1, .class_ 576), (0, u "java/lang/CharSequence"), (22, u "CASE_INSENSITIVE_ORDER"), (0, u "Ljava/util/Comparator;"), (181, u "valueOf"), (0, u "(C)Ljava/lang/String;"), (226, u "([C)V"), (4, .methodref 107 1016), (0, .nameAndType 1017 369), (0, u "canEncode"), (0, .methodref 107 1019), (0, .nameAndType 53 1020), (0, u "(C)[B"), (80, u "serialPersistentFields"), (0, u "[Ljava/io/ObjectStreamField;"), (0, .class_ 1104), (0, u "java/lang/String$CaseInsensitiveComparator"), (1, .class_ 1107), (0, u "java/io/Serializable"), (0, .class_ 1109), (0, u "java/lang/Comparable"), (0, .class_ 1111), (0, u "java/lang/constant/Constable"), (0, .class_ 1113), (0, u "java/lang/constant/ConstantDesc"), (2, u "serialVersionUID"), (0, u "J"), (3, u "REPL"), (0, u "C"), (2, u "LATIN1"), (1, u "UTF16")] 323

def k7m0 : Method := { name := "<init>", desc := "()V", sig := { parameters := [], returnType := none }, accessFlags := 1, code := none }
def k7c1 : Code := { maxStack := 5, maxLocals := 2, code := jdk_42_method_3_code, exceptionTable := #[], attributes := #[] }
def k7m1 : Method := { name := "<init>", desc := "([C)V", sig := { parameters := [(.array .char)], returnType := none }, accessFlags := 1, code := some k7c1 }
def k7c2 : Code := { maxStack := 2, maxLocals := 3, code := jdk_42_method_66_code, exceptionTable := #[], attributes := #[] }
def k7m2 : Method := { name := "equals", desc := "(Ljava/lang/Object;)Z", sig := { parameters := [(.object "java/lang/Object")], returnType := some .boolean }, accessFlags := 1, code := some k7c2 }
def k7c3 : Code := { maxStack := 4, maxLocals := 1, code := jdk_42_method_139_code, exceptionTable := #[], attributes := #[] }
def k7m3 : Method := { name := "valueOf", desc := "(C)Ljava/lang/String;", sig := { parameters := [.char], returnType := some (.object "java/lang/String") }, accessFlags := 9, code := some k7c3 }
def k7c4 : Code := { maxStack := 4, maxLocals := 6, code := jdk_42_method_149_code, exceptionTable := #[], attributes := #[] }
def k7m4 : Method := { name := "<init>", desc := "([CIILjava/lang/Void;)V", sig := { parameters := [(.array .char), .int, .int, (.object "java/lang/Void")], returnType := none }, accessFlags := 2, code := some k7c4 }
def k7c5 : Code := { maxStack := 2, maxLocals := 3, code := jdk_42_method_151_code, exceptionTable := #[], attributes := #[] }
def k7m5 : Method := { name := "<init>", desc := "([BB)V", sig := { parameters := [(.array .byte), .byte], returnType := none }, accessFlags := 0, code := some k7c5 }
/-- java/lang/String -/
def k7 : Class := { plain "java/lang/String" (some 0) with
  accessFlags := 49
  interfaces := #[2, 3, 4, 5, 6]
  cf := some (fileOf pool7 10 #[.nestMembers #[1103]] #[{ accessFlags := 1, nameIndex := 5, descriptorIndex := 6, attributes := #[] }, { accessFlags := 1, nameIndex := 5, descriptorIndex := 1010, attributes := #[] }, { accessFlags := 1, nameIndex := 543, descriptorIndex := 573, attributes := #[] }, { accessFlags := 9, nameIndex := 782, descriptorIndex := 783, attributes := #[] }, { accessFlags := 2, nameIndex := 5, descriptorIndex := 29, attributes := #[] }, { accessFlags := 0, nameIndex := 5, descriptorIndex := 211, attributes := #[] }] 49 2 #[1106, 1108, 575, 1110, 1112] #[{ accessFlags := 18, nameIndex := 13, descriptorIndex := 14, attributes := #[] }, { accessFlags := 18, nameIndex := 17, descriptorIndex := 18, attributes := #[] }, { accessFlags := 2, nameIndex := 21, descriptorIndex := 22, attributes := #[] }, { accessFlags := 2, nameIndex := 25, descriptorIndex := 26, attributes := #[] }, { accessFlags := 26, nameIndex := 1116, descriptorIndex := 1117, attributes := #[] }, { accessFlags := 24, nameIndex := 40, descriptorIndex := 26, attributes := #[] }, { accessFlags := 26, nameIndex := 1101, descriptorIndex := 1102, attributes := #[] }, { accessFlags := 26, nameIndex := 1121, descriptorIndex := 1122, attributes := #[] }, { accessFlags := 25, nameIndex := 599, descriptorIndex := 600, attributes := #[] }, { accessFlags := 24, nameIndex := 1125, descriptorIndex := 18, attributes := #[] }, { accessFlags := 24, nameIndex := 1127, descriptorIndex := 18, attributes := #[] }])
  fields := #[{ name := "value", type := (.array .byte), accessFlags := 18, slot := 0, constantValue := 0 }, { name := "coder", type := .byte, accessFlags := 18, slot := 1, constantValue := 0 }, { name := "hash", type := .int, accessFlags := 2, slot := 2, constantValue := 0 }, { name := "hashIsZero", type := .boolean, accessFlags := 2, slot := 3, constantValue := 0 }, { name := "serialVersionUID", type := .long, accessFlags := 26, slot := 0, constantValue := 0 }, { name := "COMPACT_STRINGS", type := .boolean, accessFlags := 24, slot := 1, constantValue := 0 }, { name := "serialPersistentFields", type := (.array (.object "java/io/ObjectStreamField")), accessFlags := 26, slot := 2, constantValue := 0 }, { name := "REPL", type := .char, accessFlags := 26, slot := 3, constantValue := 0 }, { name := "CASE_INSENSITIVE_ORDER", type := (.object "java/util/Comparator"), accessFlags := 25, slot := 4, constantValue := 0 }, { name := "LATIN1", type := .byte, accessFlags := 24, slot := 5, constantValue := 0 }, { name := "UTF16", type := .byte, accessFlags := 24, slot := 6, constantValue := 0 }]
  methods := #[k7m0, k7m1, k7m2, k7m3, k7m4, k7m5]
  instanceTypes := #[(.array .byte), .byte, .int, .boolean]
  staticTypes := #[.long, .boolean, (.array (.object "java/io/ObjectStreamField")), .char, (.object "java/util/Comparator"), .byte, .byte]
  resolved := Array.replicate 1451 none
  statics := some 0 }

def pool8 : Array CpInfo := pool [(1, .methodref 2 3), (0, .class_ 4), (0, .nameAndType 5 6), (0, u "java/lang/Object"), (0, u "<init>"), (0, u "()V"), (0, .class_ 8), (0, u "com/example/gerbang/gerbang/hdl/Pin"), (9, .fieldref 7 19), (0, .nameAndType 20 21), (0, u "name"), (0, u "Ljava/lang/String;"), (0, .fieldref 7 23), (0, .nameAndType 24 25), (0, u "width"), (0, u "I"), (0, .methodref 27 28), (0, .class_ 29), (0, .nameAndType 30 31), (0, u "java/lang/String"), (0, u "equals"), (0, u "(Ljava/lang/Object;)Z"), (15, u "MAX_WIDTH"), (2, u "(Ljava/lang/String;I)V")] 26

def k8c0 : Code := { maxStack := 3, maxLocals := 3, code := prog_10_method_1_code, exceptionTable := #[], attributes := #[] }
def k8m0 : Method := { name := "<init>", desc := "(Ljava/lang/String;I)V", sig := { parameters := [(.object "java/lang/String"), .int], returnType := none }, accessFlags := 1, code := some k8c0 }
def k8c1 : Code := { maxStack := 2, maxLocals := 3, code := prog_10_method_4_code, exceptionTable := #[], attributes := #[] }
def k8m1 : Method := { name := "equals", desc := "(Ljava/lang/Object;)Z", sig := { parameters := [(.object "java/lang/Object")], returnType := some .boolean }, accessFlags := 1, code := some k8c1 }
/-- com/example/gerbang/gerbang/hdl/Pin -/
def k8 : Class := { plain "com/example/gerbang/gerbang/hdl/Pin" (some 0) with
  accessFlags := 49
  interfaces := #[]
  cf := some (fileOf pool8 7 #[] #[{ accessFlags := 1, nameIndex := 5, descriptorIndex := 50, attributes := #[] }, { accessFlags := 1, nameIndex := 30, descriptorIndex := 31, attributes := #[] }] 49 2 #[] #[{ accessFlags := 25, nameIndex := 47, descriptorIndex := 25, attributes := #[] }, { accessFlags := 18, nameIndex := 20, descriptorIndex := 21, attributes := #[] }, { accessFlags := 18, nameIndex := 24, descriptorIndex := 25, attributes := #[] }])
  fields := #[{ name := "MAX_WIDTH", type := .int, accessFlags := 25, slot := 0, constantValue := 0 }, { name := "name", type := (.object "java/lang/String"), accessFlags := 18, slot := 0, constantValue := 0 }, { name := "width", type := .int, accessFlags := 18, slot := 1, constantValue := 0 }]
  methods := #[k8m0, k8m1]
  instanceTypes := #[(.object "java/lang/String"), .int]
  staticTypes := #[.int]
  resolved := Array.replicate 77 none
  statics := none }

def pool9 : Array CpInfo := pool [(4, .class_ 6), (1, u "java/lang/Object"), (0, u "<init>"), (0, u "()V"), (5, .class_ 16), (1, u "java/lang/StringLatin1"), (73, u "canEncode"), (14, u "(C)Z"), (15, u "$assertionsDisabled"), (0, u "Z"), (98, .class_ 223), (1, u "java/lang/StringLatin1$LinesSpliterator"), (57, u "equals"), (0, u "([B[B)Z"), (97, u "toBytes"), (1, u "(C)[B"), (7, .class_ 391), (0, u "java/lang/StringLatin1$CharsSpliterator")] 3

def k9m0 : Method := { name := "<init>", desc := "()V", sig := { parameters := [], returnType := none }, accessFlags := 0, code := none }
def k9c1 : Code := { maxStack := 2, maxLocals := 1, code := jdk_43_method_3_code, exceptionTable := #[], attributes := #[] }
def k9m1 : Method := { name := "canEncode", desc := "(C)Z", sig := { parameters := [.char], returnType := some .boolean }, accessFlags := 9, code := some k9c1 }
def k9c2 : Code := { maxStack := 3, maxLocals := 3, code := jdk_43_method_13_code, exceptionTable := #[], attributes := #[] }
def k9m2 : Method := { name := "equals", desc := "([B[B)Z", sig := { parameters := [(.array .byte), (.array .byte)], returnType := some .boolean }, accessFlags := 9, code := some k9c2 }
def k9c3 : Code := { maxStack := 4, maxLocals := 1, code := jdk_43_method_46_code, exceptionTable := #[], attributes := #[] }
def k9m3 : Method := { name := "toBytes", desc := "(C)[B", sig := { parameters := [.char], returnType := some (.array .byte) }, accessFlags := 9, code := some k9c3 }
/-- java/lang/StringLatin1 -/
def k9 : Class := { plain "java/lang/StringLatin1" (some 0) with
  accessFlags := 48
  interfaces := #[]
  cf := some (fileOf pool9 14 #[.nestMembers #[390, 221]] #[{ accessFlags := 0, nameIndex := 7, descriptorIndex := 8, attributes := #[] }, { accessFlags := 9, nameIndex := 90, descriptorIndex := 105, attributes := #[] }, { accessFlags := 9, nameIndex := 281, descriptorIndex := 282, attributes := #[] }, { accessFlags := 9, nameIndex := 380, descriptorIndex := 382, attributes := #[] }] 48 4 #[] #[{ accessFlags := 4120, nameIndex := 121, descriptorIndex := 122, attributes := #[] }])
  fields := #[{ name := "$assertionsDisabled", type := .boolean, accessFlags := 4120, slot := 0, constantValue := 0 }]
  methods := #[k9m0, k9m1, k9m2, k9m3]
  instanceTypes := #[]
  staticTypes := #[.boolean]
  resolved := Array.replicate 395 none
  statics := none }

def pool10 : Array CpInfo := pool [(6, .class_ 8), (1, u "java/lang/Object"), (0, u "<init>"), (0, u "()V"), (1, .class_ 14), (1, u "java/lang/StringUTF16"), (31, u "$assertionsDisabled"), (0, u "Z"), (13, u "HI_BYTE_SHIFT"), (0, u "I"), (2, u "LO_BYTE_SHIFT"), (49, .methodref 12 116), (0, .nameAndType 117 118), (0, u "compress"), (0, u "([CI[BII)I"), (3, u "([CII)[B"), (138, u "coderFromArrayLen"), (0, u "([BI)B"), (106, .class_ 371), (1, u "java/lang/StringUTF16$LinesSpliterator"), (58, u "MAX_LENGTH"), (196, .class_ 628), (0, u "java/lang/StringUTF16$CodePointsSpliterator"), (0, .class_ 630), (0, u "java/lang/StringUTF16$CharsSpliterator")] 4

def k10m0 : Method := { name := "<init>", desc := "()V", sig := { parameters := [], returnType := none }, accessFlags := 0, code := none }
def k10c1 : Code := { maxStack := 2, maxLocals := 2, code := jdk_52_method_15_code, exceptionTable := #[], attributes := #[] }
def k10m1 : Method := { name := "coderFromArrayLen", desc := "([BI)B", sig := { parameters := [(.array .byte), .int], returnType := some .byte }, accessFlags := 8, code := some k10c1 }
def k10c2 : Code := { maxStack := 5, maxLocals := 6, code := jdk_52_method_16_code, exceptionTable := #[], attributes := #[] }
def k10m2 : Method := { name := "compress", desc := "([CII)[B", sig := { parameters := [(.array .char), .int, .int], returnType := some (.array .byte) }, accessFlags := 9, code := some k10c2 }
def k10c3 : Code := { maxStack := 3, maxLocals := 7, code := jdk_52_method_21_code, exceptionTable := #[], attributes := #[] }
def k10m3 : Method := { name := "compress", desc := "([CI[BII)I", sig := { parameters := [(.array .char), .int, (.array .byte), .int, .int], returnType := some .int }, accessFlags := 9, code := some k10c3 }
/-- java/lang/StringUTF16 -/
def k10 : Class := { plain "java/lang/StringUTF16" (some 0) with
  accessFlags := 48
  interfaces := #[]
  cf := some (fileOf pool10 12 #[.nestMembers #[627, 629, 369]] #[{ accessFlags := 0, nameIndex := 9, descriptorIndex := 10, attributes := #[] }, { accessFlags := 8, nameIndex := 261, descriptorIndex := 262, attributes := #[] }, { accessFlags := 9, nameIndex := 117, descriptorIndex := 122, attributes := #[] }, { accessFlags := 9, nameIndex := 117, descriptorIndex := 118, attributes := #[] }] 48 6 #[] #[{ accessFlags := 26, nameIndex := 61, descriptorIndex := 62, attributes := #[] }, { accessFlags := 26, nameIndex := 65, descriptorIndex := 62, attributes := #[] }, { accessFlags := 24, nameIndex := 430, descriptorIndex := 62, attributes := #[] }, { accessFlags := 4120, nameIndex := 46, descriptorIndex := 47, attributes := #[] }])
  fields := #[{ name := "HI_BYTE_SHIFT", type := .int, accessFlags := 26, slot := 0, constantValue := 0 }, { name := "LO_BYTE_SHIFT", type := .int, accessFlags := 26, slot := 1, constantValue := 0 }, { name := "MAX_LENGTH", type := .int, accessFlags := 24, slot := 2, constantValue := 0 }, { name := "$assertionsDisabled", type := .boolean, accessFlags := 4120, slot := 3, constantValue := 0 }]
  methods := #[k10m0, k10m1, k10m2, k10m3]
  instanceTypes := #[]
  staticTypes := #[.int, .int, .int, .boolean]
  resolved := Array.replicate 635 none
  statics := none }

def pool11 : Array CpInfo := pool [(2, .class_ 4), (1, u "java/lang/Object"), (0, u "<init>"), (0, u "()V"), (17, .class_ 26), (1, u "jdk/internal/util/Preconditions"), (28, .class_ 56), (0, u "jdk/internal/util/Preconditions$4"), (57, .class_ 115), (0, u "jdk/internal/util/Preconditions$1"), (7, u "SIOOBE_FORMATTER"), (0, u "Ljava/util/function/BiFunction;"), (0, .class_ 126), (0, u "jdk/internal/util/Preconditions$2"), (3, u "AIOOBE_FORMATTER"), (0, .class_ 132), (0, u "jdk/internal/util/Preconditions$3"), (3, u "IOOBE_FORMATTER")] 57

def k11m0 : Method := { name := "<init>", desc := "()V", sig := { parameters := [], returnType := none }, accessFlags := 1, code := none }
/-- jdk/internal/util/Preconditions -/
def k11 : Class := { plain "jdk/internal/util/Preconditions" (some 0) with
  accessFlags := 33
  interfaces := #[]
  cf := some (fileOf pool11 24 #[.nestMembers #[55, 131, 125, 114]] #[{ accessFlags := 1, nameIndex := 5, descriptorIndex := 6, attributes := #[] }] 33 2 #[] #[{ accessFlags := 25, nameIndex := 123, descriptorIndex := 124, attributes := #[] }, { accessFlags := 25, nameIndex := 130, descriptorIndex := 124, attributes := #[] }, { accessFlags := 25, nameIndex := 136, descriptorIndex := 124, attributes := #[] }])
  fields := #[{ name := "SIOOBE_FORMATTER", type := (.object "java/util/function/BiFunction"), accessFlags := 25, slot := 0, constantValue := 0 }, { name := "AIOOBE_FORMATTER", type := (.object "java/util/function/BiFunction"), accessFlags := 25, slot := 1, constantValue := 0 }, { name := "IOOBE_FORMATTER", type := (.object "java/util/function/BiFunction"), accessFlags := 25, slot := 2, constantValue := 0 }]
  methods := #[k11m0]
  instanceTypes := #[]
  staticTypes := #[(.object "java/util/function/BiFunction"), (.object "java/util/function/BiFunction"), (.object "java/util/function/BiFunction")]
  resolved := Array.replicate 194 none
  statics := some 1 }

def pool12 : Array CpInfo := pool [(9, u "<init>"), (6, .class_ 18), (1, u "java/lang/Object"), (0, u "()V"), (1, .class_ 23), (1, u "jdk/internal/util/ArraysSupport"), (0, u "LOG2_ARRAY_LONG_INDEX_SCALE"), (0, u "I"), (2, u "U"), (0, u "Ljdk/internal/misc/Unsafe;"), (8, u "BIG_ENDIAN"), (0, u "Z"), (8, u "LOG2_BYTE_BIT_SIZE"), (4, u "LOG2_ARRAY_INT_INDEX_SCALE"), (54, u "JLA"), (0, u "Ljdk/internal/access/JavaLangAccess;"), (11, u "LOG2_ARRAY_BOOLEAN_INDEX_SCALE"), (9, u "LOG2_ARRAY_BYTE_INDEX_SCALE"), (5, u "LOG2_ARRAY_CHAR_INDEX_SCALE"), (5, u "LOG2_ARRAY_SHORT_INDEX_SCALE"), (18, u "LOG2_ARRAY_FLOAT_INDEX_SCALE"), (24, u "LOG2_ARRAY_DOUBLE_INDEX_SCALE"), (89, u "T_BOOLEAN"), (2, u "T_CHAR"), (1, u "T_FLOAT"), (1, u "T_DOUBLE"), (1, u "T_BYTE"), (1, u "T_SHORT"), (1, u "T_INT"), (1, u "T_LONG"), (1, u "SOFT_MAX_ARRAY_LENGTH")] 83

def k12m0 : Method := { name := "<init>", desc := "()V", sig := { parameters := [], returnType := none }, accessFlags := 2, code := none }
/-- jdk/internal/util/ArraysSupport -/
def k12 : Class := { plain "jdk/internal/util/ArraysSupport" (some 0) with
  accessFlags := 33
  interfaces := #[]
  cf := some (fileOf pool12 21 #[] #[{ accessFlags := 2, nameIndex := 9, descriptorIndex := 19, attributes := #[] }] 33 16 #[] #[{ accessFlags := 24, nameIndex := 28, descriptorIndex := 29, attributes := #[] }, { accessFlags := 26, nameIndex := 38, descriptorIndex := 39, attributes := #[] }, { accessFlags := 25, nameIndex := 121, descriptorIndex := 25, attributes := #[] }, { accessFlags := 25, nameIndex := 131, descriptorIndex := 25, attributes := #[] }, { accessFlags := 25, nameIndex := 137, descriptorIndex := 25, attributes := #[] }, { accessFlags := 25, nameIndex := 143, descriptorIndex := 25, attributes := #[] }, { accessFlags := 25, nameIndex := 53, descriptorIndex := 25, attributes := #[] }, { accessFlags := 25, nameIndex := 24, descriptorIndex := 25, attributes := #[] }, { accessFlags := 25, nameIndex := 162, descriptorIndex := 25, attributes := #[] }, { accessFlags := 25, nameIndex := 187, descriptorIndex := 25, attributes := #[] }, { accessFlags := 26, nameIndex := 48, descriptorIndex := 25, attributes := #[] }, { accessFlags := 25, nameIndex := 277, descriptorIndex := 25, attributes := #[] }, { accessFlags := 25, nameIndex := 280, descriptorIndex := 25, attributes := #[] }, { accessFlags := 25, nameIndex := 282, descriptorIndex := 25, attributes := #[] }, { accessFlags := 25, nameIndex := 284, descriptorIndex := 25, attributes := #[] }, { accessFlags := 25, nameIndex := 286, descriptorIndex := 25, attributes := #[] }, { accessFlags := 25, nameIndex := 288, descriptorIndex := 25, attributes := #[] }, { accessFlags := 25, nameIndex := 290, descriptorIndex := 25, attributes := #[] }, { accessFlags := 25, nameIndex := 292, descriptorIndex := 25, attributes := #[] }, { accessFlags := 26, nameIndex := 108, descriptorIndex := 109, attributes := #[] }, { accessFlags := 25, nameIndex := 294, descriptorIndex := 25, attributes := #[] }])
  fields := #[{ name := "U", type := (.object "jdk/internal/misc/Unsafe"), accessFlags := 24, slot := 0, constantValue := 0 }, { name := "BIG_ENDIAN", type := .boolean, accessFlags := 26, slot := 1, constantValue := 0 }, { name := "LOG2_ARRAY_BOOLEAN_INDEX_SCALE", type := .int, accessFlags := 25, slot := 2, constantValue := 0 }, { name := "LOG2_ARRAY_BYTE_INDEX_SCALE", type := .int, accessFlags := 25, slot := 3, constantValue := 0 }, { name := "LOG2_ARRAY_CHAR_INDEX_SCALE", type := .int, accessFlags := 25, slot := 4, constantValue := 0 }, { name := "LOG2_ARRAY_SHORT_INDEX_SCALE", type := .int, accessFlags := 25, slot := 5, constantValue := 0 }, { name := "LOG2_ARRAY_INT_INDEX_SCALE", type := .int, accessFlags := 25, slot := 6, constantValue := 0 }, { name := "LOG2_ARRAY_LONG_INDEX_SCALE", type := .int, accessFlags := 25, slot := 7, constantValue := 0 }, { name := "LOG2_ARRAY_FLOAT_INDEX_SCALE", type := .int, accessFlags := 25, slot := 8, constantValue := 0 }, { name := "LOG2_ARRAY_DOUBLE_INDEX_SCALE", type := .int, accessFlags := 25, slot := 9, constantValue := 0 }, { name := "LOG2_BYTE_BIT_SIZE", type := .int, accessFlags := 26, slot := 10, constantValue := 0 }, { name := "T_BOOLEAN", type := .int, accessFlags := 25, slot := 11, constantValue := 0 }, { name := "T_CHAR", type := .int, accessFlags := 25, slot := 12, constantValue := 0 }, { name := "T_FLOAT", type := .int, accessFlags := 25, slot := 13, constantValue := 0 }, { name := "T_DOUBLE", type := .int, accessFlags := 25, slot := 14, constantValue := 0 }, { name := "T_BYTE", type := .int, accessFlags := 25, slot := 15, constantValue := 0 }, { name := "T_SHORT", type := .int, accessFlags := 25, slot := 16, constantValue := 0 }, { name := "T_INT", type := .int, accessFlags := 25, slot := 17, constantValue := 0 }, { name := "T_LONG", type := .int, accessFlags := 25, slot := 18, constantValue := 0 }, { name := "JLA", type := (.object "jdk/internal/access/JavaLangAccess"), accessFlags := 26, slot := 19, constantValue := 0 }, { name := "SOFT_MAX_ARRAY_LENGTH", type := .int, accessFlags := 25, slot := 20, constantValue := 0 }]
  methods := #[k12m0]
  instanceTypes := #[]
  staticTypes := #[(.object "jdk/internal/misc/Unsafe"), .boolean, .int, .int, .int, .int, .int, .int, .int, .int, .int, .int, .int, .int, .int, .int, .int, .int, .int, (.object "jdk/internal/access/JavaLangAccess"), .int]
  resolved := Array.replicate 378 none
  statics := none }

def pool13 : Array CpInfo := pool [(1, u "java/lang/Cloneable"), (0, .class_ 1), (0, u "java/lang/Object"), (0, .class_ 3)] 3

/-- java/lang/Cloneable -/
def k13 : Class := { plain "java/lang/Cloneable" (some 0) with
  accessFlags := 1537
  interfaces := #[]
  cf := some (fileOf pool13 2 #[] #[] 1537 4 #[] #[])
  fields := #[]
  methods := #[]
  instanceTypes := #[]
  staticTypes := #[]
  resolved := Array.replicate 8 none
  statics := none }

/-- the primitive byte -/
def k14 : Class := { plain "byte" none with kind := .primitive 'B', accessFlags := 0x411 }
/-- [B -/
def k15 : Class := { plain "[B" (some 0) with kind := .array 14 .byte, interfaces := #[13, 2], accessFlags := 1041 }

/-- the primitive char -/
def k16 : Class := { plain "char" none with kind := .primitive 'C', accessFlags := 0x411 }
/-- [C -/
def k17 : Class := { plain "[C" (some 0) with kind := .array 16 .char, interfaces := #[13, 2], accessFlags := 1041 }

/-- the primitive int -/
def k18 : Class := { plain "int" none with kind := .primitive 'I', accessFlags := 0x411 }
/-- [I -/
def k19 : Class := { plain "[I" (some 0) with kind := .array 18 .int, interfaces := #[13, 2], accessFlags := 1041 }

def heap : Heap := #[{ cls := 7, slots := #[.long 0, .int 1, .null, .int 0, .null, .int 0, .int 0], vm := .statics 7 },
  { cls := 11, slots := #[.null, .null, .null], vm := .statics 11 }]
def classes : Array Class := #[k0, k1, k2, k3, k4, k5, k6, k7, k8, k9, k10, k11, k12, k13, k14, k15, k16, k17, k18, k19]
def interned : List (Array UInt16 × Addr) := []
def slotsUsed : Nat := 10
def theMethod : MethodId := ⟨1, 2⟩
def args0 : Array Value := #[.int 1, .int 2, .int 3, .int 4, .int 5]
def aboutOver (below : List Frame) : State where
  vm := { classes := classes, interned := interned.toArray }
  heap := heap
  slotsUsed := slotsUsed
  threads := #[{ frames := .invoking theMethod args0 :: below }]
def below0 : List Frame := [.native { method := ⟨0, 0⟩, args := #[] }]
def about1 : State := aboutOver below0
def p0 : Program := .bare "" "" ""
def e0 : Env := launch0.env 0 0 0
theorem w_frames : about1.frames = Frame.invoking theMethod args0 :: below0 := rfl
set_option maxRecDepth 65536 in
theorem w_args : argsFit about1.vm theMethod args0 = true := by decide +kernel
set_option maxRecDepth 65536 in
theorem w_heap : heapFits about1 = true := by decide +kernel
set_option maxRecDepth 65536 in
theorem w_runnable : about1.curStatus? = some .runnable := by decide +kernel
set_option maxRecDepth 65536 in
theorem w_alone : about1.alone = true := by decide +kernel
set_option maxRecDepth 65536 in
theorem w_named : about1.methodNamed? x = some theMethod := by decide +kernel
set_option maxRecDepth 65536 in
theorem w_hears : about1.hears theMethod below0 = true := by decide +kernel
set_option maxRecDepth 65536 in
theorem w_ripe : about1.ripe theMethod args0 below0 = true := by decide +kernel
theorem w_running : about1.status = .running := rfl
set_option maxRecDepth 65536 in
theorem w_room : about1.hasRoom e0.platform room_1 = true :=
  launch0.hasRoom_least _ room_1 (by decide +kernel) (by decide +kernel) (by decide +kernel) (by decide +kernel) (by decide +kernel) (by decide +kernel)
theorem allAtoms_all (ts : List Jvm.Cond) (a : Array Jvm.Value) (st : Jvm.State) : (allAtoms ts).before a st = ts.all (fun c => c.before a st) := by
  induction ts with
  | nil => rfl
  | cons c t ih =>
    show (Jvm.Cond.and c (allAtoms t)).before a st = _
    rw [Jvm.Cond.before_and, ih, List.all_cons]
def words1 : List Jvm.Cond := Jvm.Cond.code x code maxLocals ret :: tables_1
/-- a 'code' word, met by the world's own term for the bytes: nothing is compared byte by byte -/
theorem code_word {y : MethodName} {bytes : ByteArray} {mx : Nat} {rt : Option FieldType} {a : Array Value} {s : State} {m : MethodId} {meth : Method} {c : Code} (h1 : s.methodNamed? y = some m) (h2 : s.vm.method? m = some meth) (h3 : meth.code = some c) (h4 : c.code = bytes)
    (h5 : (c.maxLocals == mx && c.exceptionTable.isEmpty && decide (c.maxStack ≤ mostOperands) && decide (meth.sig.returnType = rt) && !meth.locks && decide (parseMethodDescriptor y.desc = some meth.sig)) = true) : (Jvm.Cond.code y bytes mx rt).before a s = true := by
  simp only [Bool.and_eq_true, beq_iff_eq, Bool.not_eq_true', decide_eq_true_eq] at h5
  obtain ⟨⟨⟨⟨⟨g1, g2⟩, g3⟩, g4⟩, g5⟩, g6⟩ := h5
  simp [Cond.before, Cond.holds, Cond.value, h1, h2, h3, h4, g1, g2, g3, g4, g5, g6]
def isCode : Jvm.Cond → Bool
  | .code _ _ _ _ => true
  | _ => false
theorem all_split {L : List Jvm.Cond} {P : Jvm.Cond → Bool} (h1 : L.all (fun c => isCode c || P c) = true) (h2 : ∀ c ∈ L.filter isCode, P c = true) : L.all P = true := by
  refine List.all_eq_true.mpr fun c hc => ?_
  have h := List.all_eq_true.mp h1 c hc
  rcases Bool.eq_false_or_eq_true (isCode c) with hi | hi
  · exact h2 c (List.mem_filter.mpr ⟨hc, hi⟩)
  · simpa [hi] using h
set_option maxRecDepth 65536 in
theorem w_c0 : (Jvm.Cond.code x code maxLocals ret).before args0 about1 = true := code_word (m := ⟨1, 2⟩) (meth := k1m2) (c := k1c2) (by decide +kernel) rfl rfl rfl (by decide +kernel)
set_option maxRecDepth 65536 in
theorem w_c1 : (Jvm.Cond.code ({ cls := "com/example/gerbang/gerbang/hdl/PinEqualsPinLaw", name := "mk", desc := "(ICC)Ljava/lang/String;" } : Jvm.MethodName) method_2_code (3 : Nat) (Option.some (Jvm.ClassFile.FieldType.object "java/lang/String"))).before args0 about1 = true := code_word (m := ⟨1, 1⟩) (meth := k1m1) (c := k1c1) (by decide +kernel) rfl rfl rfl (by decide +kernel)
set_option maxRecDepth 65536 in
theorem w_c2 : (Jvm.Cond.code ({ cls := "com/example/gerbang/gerbang/hdl/Pin", name := "<init>", desc := "(Ljava/lang/String;I)V" } : Jvm.MethodName) prog_10_method_1_code (3 : Nat) (Option.none : Option Jvm.ClassFile.FieldType)).before args0 about1 = true := code_word (m := ⟨8, 0⟩) (meth := k8m0) (c := k8c0) (by decide +kernel) rfl rfl rfl (by decide +kernel)
set_option maxRecDepth 65536 in
theorem w_c3 : (Jvm.Cond.code ({ cls := "java/lang/Object", name := "<init>", desc := "()V" } : Jvm.MethodName) object_method_1_code (1 : Nat) (Option.none : Option Jvm.ClassFile.FieldType)).before args0 about1 = true := code_word (m := ⟨0, 0⟩) (meth := k0m0) (c := k0c0) (by decide +kernel) rfl rfl rfl (by decide +kernel)
set_option maxRecDepth 65536 in
theorem w_c4 : (Jvm.Cond.code ({ cls := "com/example/gerbang/gerbang/hdl/Pin", name := "equals", desc := "(Ljava/lang/Object;)Z" } : Jvm.MethodName) prog_10_method_4_code (3 : Nat) (Option.some Jvm.ClassFile.FieldType.boolean)).before args0 about1 = true := code_word (m := ⟨8, 1⟩) (meth := k8m1) (c := k8c1) (by decide +kernel) rfl rfl rfl (by decide +kernel)
set_option maxRecDepth 65536 in
theorem w_c5 : (Jvm.Cond.code ({ cls := "java/lang/String", name := "equals", desc := "(Ljava/lang/Object;)Z" } : Jvm.MethodName) jdk_42_method_66_code (3 : Nat) (Option.some Jvm.ClassFile.FieldType.boolean)).before args0 about1 = true := code_word (m := ⟨7, 2⟩) (meth := k7m2) (c := k7c2) (by decide +kernel) rfl rfl rfl (by decide +kernel)
set_option maxRecDepth 65536 in
theorem w_c6 : (Jvm.Cond.code ({ cls := "java/lang/String", name := "valueOf", desc := "(C)Ljava/lang/String;" } : Jvm.MethodName) jdk_42_method_139_code (1 : Nat) (Option.some (Jvm.ClassFile.FieldType.object "java/lang/String"))).before args0 about1 = true := code_word (m := ⟨7, 3⟩) (meth := k7m3) (c := k7c3) (by decide +kernel) rfl rfl rfl (by decide +kernel)
set_option maxRecDepth 65536 in
theorem w_c7 : (Jvm.Cond.code ({ cls := "java/lang/StringLatin1", name := "canEncode", desc := "(C)Z" } : Jvm.MethodName) jdk_43_method_3_code (1 : Nat) (Option.some Jvm.ClassFile.FieldType.boolean)).before args0 about1 = true := code_word (m := ⟨9, 1⟩) (meth := k9m1) (c := k9c1) (by decide +kernel) rfl rfl rfl (by decide +kernel)
set_option maxRecDepth 65536 in
theorem w_c8 : (Jvm.Cond.code ({ cls := "java/lang/StringLatin1", name := "toBytes", desc := "(C)[B" } : Jvm.MethodName) jdk_43_method_46_code (1 : Nat) (Option.some (Jvm.ClassFile.FieldType.array Jvm.ClassFile.FieldType.byte))).before args0 about1 = true := code_word (m := ⟨9, 3⟩) (meth := k9m3) (c := k9c3) (by decide +kernel) rfl rfl rfl (by decide +kernel)
set_option maxRecDepth 65536 in
theorem w_c9 : (Jvm.Cond.code ({ cls := "java/lang/String", name := "<init>", desc := "([BB)V" } : Jvm.MethodName) jdk_42_method_151_code (3 : Nat) (Option.none : Option Jvm.ClassFile.FieldType)).before args0 about1 = true := code_word (m := ⟨7, 5⟩) (meth := k7m5) (c := k7c5) (by decide +kernel) rfl rfl rfl (by decide +kernel)
set_option maxRecDepth 65536 in
theorem w_c10 : (Jvm.Cond.code ({ cls := "java/lang/String", name := "<init>", desc := "([C)V" } : Jvm.MethodName) jdk_42_method_3_code (2 : Nat) (Option.none : Option Jvm.ClassFile.FieldType)).before args0 about1 = true := code_word (m := ⟨7, 1⟩) (meth := k7m1) (c := k7c1) (by decide +kernel) rfl rfl rfl (by decide +kernel)
set_option maxRecDepth 65536 in
theorem w_c11 : (Jvm.Cond.code ({ cls := "java/lang/String", name := "<init>", desc := "([CIILjava/lang/Void;)V" } : Jvm.MethodName) jdk_42_method_149_code (6 : Nat) (Option.none : Option Jvm.ClassFile.FieldType)).before args0 about1 = true := code_word (m := ⟨7, 4⟩) (meth := k7m4) (c := k7c4) (by decide +kernel) rfl rfl rfl (by decide +kernel)
set_option maxRecDepth 65536 in
theorem w_c12 : (Jvm.Cond.code ({ cls := "java/lang/StringUTF16", name := "compress", desc := "([CII)[B" } : Jvm.MethodName) jdk_52_method_16_code (6 : Nat) (Option.some (Jvm.ClassFile.FieldType.array Jvm.ClassFile.FieldType.byte))).before args0 about1 = true := code_word (m := ⟨10, 2⟩) (meth := k10m2) (c := k10c2) (by decide +kernel) rfl rfl rfl (by decide +kernel)
set_option maxRecDepth 65536 in
theorem w_c13 : (Jvm.Cond.code ({ cls := "java/lang/StringUTF16", name := "compress", desc := "([CI[BII)I" } : Jvm.MethodName) jdk_52_method_21_code (7 : Nat) (Option.some Jvm.ClassFile.FieldType.int)).before args0 about1 = true := code_word (m := ⟨10, 3⟩) (meth := k10m3) (c := k10c3) (by decide +kernel) rfl rfl rfl (by decide +kernel)
set_option maxRecDepth 65536 in
theorem w_c14 : (Jvm.Cond.code ({ cls := "java/lang/StringUTF16", name := "coderFromArrayLen", desc := "([BI)B" } : Jvm.MethodName) jdk_52_method_15_code (2 : Nat) (Option.some Jvm.ClassFile.FieldType.byte)).before args0 about1 = true := code_word (m := ⟨10, 1⟩) (meth := k10m1) (c := k10c1) (by decide +kernel) rfl rfl rfl (by decide +kernel)
set_option maxRecDepth 65536 in
theorem w_c15 : (Jvm.Cond.code ({ cls := "java/lang/StringLatin1", name := "equals", desc := "([B[B)Z" } : Jvm.MethodName) jdk_43_method_13_code (3 : Nat) (Option.some Jvm.ClassFile.FieldType.boolean)).before args0 about1 = true := code_word (m := ⟨9, 2⟩) (meth := k9m2) (c := k9c2) (by decide +kernel) rfl rfl rfl (by decide +kernel)
def codes1 : List Jvm.Cond := [Jvm.Cond.code x code maxLocals ret, Jvm.Cond.code ({ cls := "com/example/gerbang/gerbang/hdl/PinEqualsPinLaw", name := "mk", desc := "(ICC)Ljava/lang/String;" } : Jvm.MethodName) method_2_code (3 : Nat) (Option.some (Jvm.ClassFile.FieldType.object "java/lang/String")), Jvm.Cond.code ({ cls := "com/example/gerbang/gerbang/hdl/Pin", name := "<init>", desc := "(Ljava/lang/String;I)V" } : Jvm.MethodName) prog_10_method_1_code (3 : Nat) (Option.none : Option Jvm.ClassFile.FieldType), Jvm.Cond.code ({ cls := "java/lang/Object", name := "<init>", desc := "()V" } : Jvm.MethodName) object_method_1_code (1 : Nat) (Option.none : Option Jvm.ClassFile.FieldType), Jvm.Cond.code ({ cls := "com/example/gerbang/gerbang/hdl/Pin", name := "equals", desc := "(Ljava/lang/Object;)Z" } : Jvm.MethodName) prog_10_method_4_code (3 : Nat) (Option.some Jvm.ClassFile.FieldType.boolean), Jvm.Cond.code ({ cls := "java/lang/String", name := "equals", desc := "(Ljava/lang/Object;)Z" } : Jvm.MethodName) jdk_42_method_66_code (3 : Nat) (Option.some Jvm.ClassFile.FieldType.boolean), Jvm.Cond.code ({ cls := "java/lang/String", name := "valueOf", desc := "(C)Ljava/lang/String;" } : Jvm.MethodName) jdk_42_method_139_code (1 : Nat) (Option.some (Jvm.ClassFile.FieldType.object "java/lang/String")), Jvm.Cond.code ({ cls := "java/lang/StringLatin1", name := "canEncode", desc := "(C)Z" } : Jvm.MethodName) jdk_43_method_3_code (1 : Nat) (Option.some Jvm.ClassFile.FieldType.boolean), Jvm.Cond.code ({ cls := "java/lang/StringLatin1", name := "toBytes", desc := "(C)[B" } : Jvm.MethodName) jdk_43_method_46_code (1 : Nat) (Option.some (Jvm.ClassFile.FieldType.array Jvm.ClassFile.FieldType.byte)), Jvm.Cond.code ({ cls := "java/lang/String", name := "<init>", desc := "([BB)V" } : Jvm.MethodName) jdk_42_method_151_code (3 : Nat) (Option.none : Option Jvm.ClassFile.FieldType), Jvm.Cond.code ({ cls := "java/lang/String", name := "<init>", desc := "([C)V" } : Jvm.MethodName) jdk_42_method_3_code (2 : Nat) (Option.none : Option Jvm.ClassFile.FieldType), Jvm.Cond.code ({ cls := "java/lang/String", name := "<init>", desc := "([CIILjava/lang/Void;)V" } : Jvm.MethodName) jdk_42_method_149_code (6 : Nat) (Option.none : Option Jvm.ClassFile.FieldType), Jvm.Cond.code ({ cls := "java/lang/StringUTF16", name := "compress", desc := "([CII)[B" } : Jvm.MethodName) jdk_52_method_16_code (6 : Nat) (Option.some (Jvm.ClassFile.FieldType.array Jvm.ClassFile.FieldType.byte)), Jvm.Cond.code ({ cls := "java/lang/StringUTF16", name := "compress", desc := "([CI[BII)I" } : Jvm.MethodName) jdk_52_method_21_code (7 : Nat) (Option.some Jvm.ClassFile.FieldType.int), Jvm.Cond.code ({ cls := "java/lang/StringUTF16", name := "coderFromArrayLen", desc := "([BI)B" } : Jvm.MethodName) jdk_52_method_15_code (2 : Nat) (Option.some Jvm.ClassFile.FieldType.byte), Jvm.Cond.code ({ cls := "java/lang/StringLatin1", name := "equals", desc := "([B[B)Z" } : Jvm.MethodName) jdk_43_method_13_code (3 : Nat) (Option.some Jvm.ClassFile.FieldType.boolean)]
set_option maxRecDepth 65536 in
theorem codes_eq : words1.filter isCode = codes1 := rfl
theorem w_codes : ∀ c ∈ words1.filter isCode, c.before args0 about1 = true := by
  rw [codes_eq]
  intro c hc
  simp only [codes1, List.mem_cons, List.not_mem_nil, or_false] at hc
  rcases hc with rfl | rfl | rfl | rfl | rfl | rfl | rfl | rfl | rfl | rfl | rfl | rfl | rfl | rfl | rfl | rfl
  · exact w_c0
  · exact w_c1
  · exact w_c2
  · exact w_c3
  · exact w_c4
  · exact w_c5
  · exact w_c6
  · exact w_c7
  · exact w_c8
  · exact w_c9
  · exact w_c10
  · exact w_c11
  · exact w_c12
  · exact w_c13
  · exact w_c14
  · exact w_c15
set_option maxRecDepth 65536 in
theorem w_t1 : (words1.take 24).all (fun c => isCode c || c.before args0 about1) = true := by decide +kernel
set_option maxRecDepth 65536 in
theorem w_t2 : ((words1.drop 24).take 24).all (fun c => isCode c || c.before args0 about1) = true := by decide +kernel
set_option maxRecDepth 65536 in
theorem w_t3 : (((words1.drop 24).drop 24).take 24).all (fun c => isCode c || c.before args0 about1) = true := by decide +kernel
set_option maxRecDepth 65536 in
theorem w_t4 : (((words1.drop 24).drop 24).drop 24).all (fun c => isCode c || c.before args0 about1) = true := by decide +kernel
theorem w_tables : (allAtoms (Jvm.Cond.code x code maxLocals ret :: tables_1)).before args0 about1 = true := by
  rw [allAtoms_all]
  show words1.all (fun c => c.before args0 about1) = true
  refine all_split ?_ w_codes
  rw [← List.take_append_drop 24 words1, List.all_append, w_t1, ← List.take_append_drop 24 (words1.drop 24), List.all_append, w_t2, ← List.take_append_drop 24 ((words1.drop 24).drop 24), List.all_append, w_t3, w_t4]
  rfl
set_option maxRecDepth 65536 in
theorem w_rest : rest_1_c.before args0 about1 = true := by decide +kernel
set_option maxRecDepth 65536 in
theorem w_case : (Jvm.Cond.and given_1 narrow_1).before args0 about1 = true := by decide +kernel
set_option maxRecDepth 65536 in
theorem w_consts : constsHeld consts_1 about1 := Jvm.Lit.constsHeldB_iff.mp (by decide +kernel)
theorem w_applies : (headSpec (Jvm.Cond.code x code maxLocals ret :: tables_1) room_1).applies x e0.platform about1 = true :=
  (Spec.applies_iff w_frames).mpr ⟨w_running, w_runnable, w_alone, w_named, w_hears, w_ripe, w_room, w_tables⟩
theorem atStart : AtStart classFile x code maxLocals ret World_1 tables_1 room_1 Calls_1 rest_1 Pre_1 launch0 p0 e0 about1 theMethod args0 below0 :=
  ⟨lists_1, trivial, launch0.admits_env _ _ _, launch0.least_env, fairChoices_fair.cas, fairChoices_fair.clock, w_frames, w_args, w_heap, w_applies, ⟨w_consts, trivial⟩, w_rest, w_case⟩
end start1
theorem witness_1 : WitnessClaimed_1 := ⟨start1.p0, start1.e0, start1.about1, start1.theMethod, start1.args0, start1.below0, start1.atStart⟩
end Jvm.Pilot.@@N@@
