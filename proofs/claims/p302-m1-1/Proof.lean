import JvmDerived
import JvmDerived.Pilot.@@N@@Statement
import JvmDerived.Pilot.@@N@@Code
set_option linter.unusedVariables false
set_option linter.unusedSimpArgs false
namespace Jvm.Pilot.@@N@@
open Jvm Jvm.ClassFile Sem Op Lib Jvm.Free Jvm.Stand Jvm.LawKit Jvm.RoadKit Bundle Jvm.Pilot.@@N@@.Jvm.D
section Own
variable {p : Program} {l : Launch} {e : Env} {R : Room} {s : State} {m : MethodId} {args : Array Value} {below : List Frame} {meth : Method} {c : Code} {Z : State} {a0 : Array Value} {EL : List (String × Nat)} {n0 : Nat} {y : MethodName} {bytes : ByteArray} {maxL : Nat} {ret : Option FieldType} {b : State} {T : State} {h : Heap} {locs : List Loc} {cells slots : Nat} {P : Outcome → State → Prop} {pc pc' : Nat} {Ls : Array Slot} {st : List Value}
def Goes (tb : Tables) (e : Env) (below : List Frame) (P : Outcome → State → Prop) (A : State) : Prop := ∃ s₂ o, Steps tb e below A s₂ ∧ s₂.status = .running ∧ Ended s₂ below o ∧ P o s₂
theorem go {tb : Tables} {A B : State} (q : ∀ t, Steps tb e below B t → Steps tb e below A t) (k : Goes tb e below P B) : Goes tb e below P A := by
  obtain ⟨t, o, h, r⟩ := k
  exact ⟨t, o, q t h, r⟩
def Sfe (Z : State) (EL : List (String × Nat)) (vm : Vm) (h : Heap) (x : Addr) : Prop := Safe Z EL vm h x
theorem sfe_new {vm : Vm} {x : Addr} (q : h.size ≤ x) : Sfe Z EL vm h x := Safe.new q
def Bs (Z : State) (a0 : Array Value) (EL : List (String × Nat)) (s b : State) (h : Heap) : Prop := (∃ vm0 k0, b = s.setVm vm0 ∧ s.Since vm0 k0 ∧ k0 ≤ h.size) ∧ CHr Z EL s.vm s.heap b.vm h ∧ EW Z a0 EL
def Wk (p : Program) (l : Launch) (e : Env) (R : Room) (s : State) (m : MethodId) (args : Array Value) (below : List Frame) (meth : Method) (c : Code) (Z : State) (a0 : Array Value) (EL : List (String × Nat)) (n0 : Nat) (y : MethodName) (bytes : ByteArray) (maxL : Nat) (ret : Option FieldType) (b : State) (T : State) (h : Heap) (locs : List Loc) (cells slots : Nat) : Prop := Stand p l e R b m args below meth c T locs cells slots ∧ T.heap = h ∧ Fr n0 locs ∧ p.tables.exec = Jvm.exec ∧ Z.Warmed39 b.vm ∧ b.vm.findClass y.cls = some m.cls ∧ c.code = bytes ∧ c.maxLocals = maxL ∧ meth.sig.returnType = ret ∧ meth.locks = false ∧ meth.name = y.name ∧ Old Z n0 h ∧ Bs Z a0 EL s b h
theorem Wk.X (K : Wk p l e R s m args below meth c Z a0 EL n0 y bytes maxL ret b T h locs cells slots) : Stand p l e R b m args below meth c T locs cells slots := K.1
theorem Wk.eT (K : Wk p l e R s m args below meth c Z a0 EL n0 y bytes maxL ret b T h locs cells slots) : T.heap = h := K.2.1
theorem Wk.fr (K : Wk p l e R s m args below meth c Z a0 EL n0 y bytes maxL ret b T h locs cells slots) : Fr n0 locs := K.2.2.1
theorem Wk.hx (K : Wk p l e R s m args below meth c Z a0 EL n0 y bytes maxL ret b T h locs cells slots) : p.tables.exec = Jvm.exec := K.2.2.2.1
theorem Wk.hZ (K : Wk p l e R s m args below meth c Z a0 EL n0 y bytes maxL ret b T h locs cells slots) : Z.Warmed39 b.vm := K.2.2.2.2.1
theorem Wk.hown (K : Wk p l e R s m args below meth c Z a0 EL n0 y bytes maxL ret b T h locs cells slots) : b.vm.findClass y.cls = some m.cls := K.2.2.2.2.2.1
theorem Wk.hby (K : Wk p l e R s m args below meth c Z a0 EL n0 y bytes maxL ret b T h locs cells slots) : c.code = bytes := K.2.2.2.2.2.2.1
theorem Wk.hml (K : Wk p l e R s m args below meth c Z a0 EL n0 y bytes maxL ret b T h locs cells slots) : c.maxLocals = maxL := K.2.2.2.2.2.2.2.1
theorem Wk.hret (K : Wk p l e R s m args below meth c Z a0 EL n0 y bytes maxL ret b T h locs cells slots) : meth.sig.returnType = ret := K.2.2.2.2.2.2.2.2.1
theorem Wk.hlk (K : Wk p l e R s m args below meth c Z a0 EL n0 y bytes maxL ret b T h locs cells slots) : meth.locks = false := K.2.2.2.2.2.2.2.2.2.1
theorem Wk.hnm (K : Wk p l e R s m args below meth c Z a0 EL n0 y bytes maxL ret b T h locs cells slots) : meth.name = y.name := K.2.2.2.2.2.2.2.2.2.2.1
theorem Wk.old (K : Wk p l e R s m args below meth c Z a0 EL n0 y bytes maxL ret b T h locs cells slots) : Old Z n0 h := K.2.2.2.2.2.2.2.2.2.2.2.1
theorem Wk.bs (K : Wk p l e R s m args below meth c Z a0 EL n0 y bytes maxL ret b T h locs cells slots) : Bs Z a0 EL s b h := K.2.2.2.2.2.2.2.2.2.2.2.2
theorem Wk.at (K : Wk p l e R s m args below meth c Z a0 EL n0 y bytes maxL ret b T h locs cells slots) : At T m c below := K.X.here
theorem Wk.move (K : Wk p l e R s m args below meth c Z a0 EL n0 y bytes maxL ret b T h locs cells slots) {T' : State} {h' : Heap} {locs' : List Loc} {cells' slots' : Nat} (X : Stand p l e R b m args below meth c T' locs' cells' slots') (eT : T'.heap = h') (hF : Fr n0 locs') (hO : Old Z n0 h') (hB : Bs Z a0 EL s b h') : Wk p l e R s m args below meth c Z a0 EL n0 y bytes maxL ret b T' h' locs' cells' slots' := ⟨X, eT, hF, K.hx, K.hZ, K.hown, K.hby, K.hml, K.hret, K.hlk, K.hnm, hO, hB⟩
theorem k_iload (K : Wk p l e R s m args below meth c Z a0 EL n0 y bytes maxL ret b T h locs cells slots) {i : Int32} {k : Nat} (hd : decode bytes pc = .ok (.iload k, 2)) (hp : pc + 2 = pc') (hl : Ls[k]? = some (.val (.int i))) (k : Goes p.tables e below P (T.setTop (mkF m pc' Ls (.int i :: st)))) : Goes p.tables e below P (T.setTop (mkF m pc Ls st)) := by
  subst hp
  exact go (fun t q => XS.iload K.at K.hx rfl (hb K.hby hd) hl q) k
theorem k_iloadN (K : Wk p l e R s m args below meth c Z a0 EL n0 y bytes maxL ret b T h locs cells slots) {i : Int32} {k : Fin 4} (hd : decode bytes pc = .ok (.iload_n k, 1)) (hp : pc + 1 = pc') (hl : Ls[k.val]? = some (.val (.int i))) (k : Goes p.tables e below P (T.setTop (mkF m pc' Ls (.int i :: st)))) : Goes p.tables e below P (T.setTop (mkF m pc Ls st)) := by
  subst hp
  exact go (fun t q => XS.iloadN K.at K.hx rfl (hb K.hby hd) hl q) k
theorem k_lload (K : Wk p l e R s m args below meth c Z a0 EL n0 y bytes maxL ret b T h locs cells slots) {i : Int64} {k : Nat} (hd : decode bytes pc = .ok (.lload k, 2)) (hp : pc + 2 = pc') (hl : Ls[k]? = some (.val (.long i))) (k : Goes p.tables e below P (T.setTop (mkF m pc' Ls (.long i :: st)))) : Goes p.tables e below P (T.setTop (mkF m pc Ls st)) := by
  subst hp
  exact go (fun t q => XT.lload K.at K.hx rfl (hb K.hby hd) hl q) k
theorem k_lloadN (K : Wk p l e R s m args below meth c Z a0 EL n0 y bytes maxL ret b T h locs cells slots) {i : Int64} {k : Fin 4} (hd : decode bytes pc = .ok (.lload_n k, 1)) (hp : pc + 1 = pc') (hl : Ls[k.val]? = some (.val (.long i))) (k : Goes p.tables e below P (T.setTop (mkF m pc' Ls (.long i :: st)))) : Goes p.tables e below P (T.setTop (mkF m pc Ls st)) := by
  subst hp
  exact go (fun t q => XT.lloadN K.at K.hx rfl (hb K.hby hd) hl q) k
theorem k_aload (K : Wk p l e R s m args below meth c Z a0 EL n0 y bytes maxL ret b T h locs cells slots) {v : Value} {k : Nat} (hd : decode bytes pc = .ok (.aload k, 2)) (hp : pc + 2 = pc') (hl : Ls[k]? = some (.val v)) (hv : v.isRef = true) (k : Goes p.tables e below P (T.setTop (mkF m pc' Ls (v :: st)))) : Goes p.tables e below P (T.setTop (mkF m pc Ls st)) := by
  subst hp
  exact go (fun t q => XS.aload K.at K.hx rfl (hb K.hby hd) hl hv q) k
theorem k_aloadN (K : Wk p l e R s m args below meth c Z a0 EL n0 y bytes maxL ret b T h locs cells slots) {v : Value} {k : Fin 4} (hd : decode bytes pc = .ok (.aload_n k, 1)) (hp : pc + 1 = pc') (hl : Ls[k.val]? = some (.val v)) (hv : v.isRef = true) (k : Goes p.tables e below P (T.setTop (mkF m pc' Ls (v :: st)))) : Goes p.tables e below P (T.setTop (mkF m pc Ls st)) := by
  subst hp
  exact go (fun t q => XS.aloadN K.at K.hx rfl (hb K.hby hd) hl hv q) k
theorem k_istore (K : Wk p l e R s m args below meth c Z a0 EL n0 y bytes maxL ret b T h locs cells slots) {i : Int32} {k : Nat} {L' : Array Slot} (hd : decode bytes pc = .ok (.istore k, 2)) (hp : pc + 2 = pc') (hl : storeLocals Ls k (.int i) = some L') (k : Goes p.tables e below P (T.setTop (mkF m pc' L' st))) : Goes p.tables e below P (T.setTop (mkF m pc Ls (.int i :: st))) := by
  subst hp
  exact go (fun t q => XS.istore K.at K.hx rfl (hb K.hby hd) rfl hl q) k
theorem k_istoreN (K : Wk p l e R s m args below meth c Z a0 EL n0 y bytes maxL ret b T h locs cells slots) {i : Int32} {k : Fin 4} {L' : Array Slot} (hd : decode bytes pc = .ok (.istore_n k, 1)) (hp : pc + 1 = pc') (hl : storeLocals Ls k.val (.int i) = some L') (k : Goes p.tables e below P (T.setTop (mkF m pc' L' st))) : Goes p.tables e below P (T.setTop (mkF m pc Ls (.int i :: st))) := by
  subst hp
  exact go (fun t q => XS.istoreN K.at K.hx rfl (hb K.hby hd) rfl hl q) k
theorem k_lstore (K : Wk p l e R s m args below meth c Z a0 EL n0 y bytes maxL ret b T h locs cells slots) {i : Int64} {k : Nat} {L' : Array Slot} (hd : decode bytes pc = .ok (.lstore k, 2)) (hp : pc + 2 = pc') (hl : storeLocals Ls k (.long i) = some L') (k : Goes p.tables e below P (T.setTop (mkF m pc' L' st))) : Goes p.tables e below P (T.setTop (mkF m pc Ls (.long i :: st))) := by
  subst hp
  exact go (fun t q => XT.lstore K.at K.hx rfl (hb K.hby hd) rfl hl q) k
theorem k_lstoreN (K : Wk p l e R s m args below meth c Z a0 EL n0 y bytes maxL ret b T h locs cells slots) {i : Int64} {k : Fin 4} {L' : Array Slot} (hd : decode bytes pc = .ok (.lstore_n k, 1)) (hp : pc + 1 = pc') (hl : storeLocals Ls k.val (.long i) = some L') (k : Goes p.tables e below P (T.setTop (mkF m pc' L' st))) : Goes p.tables e below P (T.setTop (mkF m pc Ls (.long i :: st))) := by
  subst hp
  exact go (fun t q => XT.lstoreN K.at K.hx rfl (hb K.hby hd) rfl hl q) k
theorem k_astore (K : Wk p l e R s m args below meth c Z a0 EL n0 y bytes maxL ret b T h locs cells slots) {v : Value} {k : Nat} {L' : Array Slot} (hd : decode bytes pc = .ok (.astore k, 2)) (hp : pc + 2 = pc') (hv : v.isRef = true) (hl : storeLocals Ls k v = some L') (k : Goes p.tables e below P (T.setTop (mkF m pc' L' st))) : Goes p.tables e below P (T.setTop (mkF m pc Ls (v :: st))) := by
  subst hp
  exact go (fun t q => XS.astore K.at K.hx rfl (hb K.hby hd) rfl hv hl q) k
theorem k_astoreN (K : Wk p l e R s m args below meth c Z a0 EL n0 y bytes maxL ret b T h locs cells slots) {v : Value} {k : Fin 4} {L' : Array Slot} (hd : decode bytes pc = .ok (.astore_n k, 1)) (hp : pc + 1 = pc') (hv : v.isRef = true) (hl : storeLocals Ls k.val v = some L') (k : Goes p.tables e below P (T.setTop (mkF m pc' L' st))) : Goes p.tables e below P (T.setTop (mkF m pc Ls (v :: st))) := by
  subst hp
  exact go (fun t q => XS.astoreN K.at K.hx rfl (hb K.hby hd) rfl hv hl q) k
theorem k_iconst (K : Wk p l e R s m args below meth c Z a0 EL n0 y bytes maxL ret b T h locs cells slots) {i : Int} (v : Int32) (hd : decode bytes pc = .ok (.iconst i, 1)) (hp : pc + 1 = pc') (hv : Int32.ofInt i = v) (k : Goes p.tables e below P (T.setTop (mkF m pc' Ls (.int v :: st)))) : Goes p.tables e below P (T.setTop (mkF m pc Ls st)) := by
  subst hp
  exact go (fun t q => XT.iconstV K.at K.hx rfl v (hb K.hby hd) hv q) k
theorem k_bipush (K : Wk p l e R s m args below meth c Z a0 EL n0 y bytes maxL ret b T h locs cells slots) {i : Int} (v : Int32) (hd : decode bytes pc = .ok (.bipush i, 2)) (hp : pc + 2 = pc') (hv : (Int8.ofInt i).toInt32 = v) (k : Goes p.tables e below P (T.setTop (mkF m pc' Ls (.int v :: st)))) : Goes p.tables e below P (T.setTop (mkF m pc Ls st)) := by
  subst hp
  exact go (fun t q => XT.bipushV K.at K.hx rfl v (hb K.hby hd) hv q) k
theorem k_sipush (K : Wk p l e R s m args below meth c Z a0 EL n0 y bytes maxL ret b T h locs cells slots) {i : Int} (v : Int32) (hd : decode bytes pc = .ok (.sipush i, 3)) (hp : pc + 3 = pc') (hv : (Int16.ofInt i).toInt32 = v) (k : Goes p.tables e below P (T.setTop (mkF m pc' Ls (.int v :: st)))) : Goes p.tables e below P (T.setTop (mkF m pc Ls st)) := by
  subst hp
  exact go (fun t q => XT.sipushV K.at K.hx rfl v (hb K.hby hd) hv q) k
theorem k_lconst (K : Wk p l e R s m args below meth c Z a0 EL n0 y bytes maxL ret b T h locs cells slots) {i : Fin 2} (v : Int64) (hd : decode bytes pc = .ok (.lconst i, 1)) (hp : pc + 1 = pc') (hv : Int64.ofNat i = v) (k : Goes p.tables e below P (T.setTop (mkF m pc' Ls (.long v :: st)))) : Goes p.tables e below P (T.setTop (mkF m pc Ls st)) := by
  subst hp
  exact go (fun t q => XT.lconstV K.at K.hx rfl v (hb K.hby hd) hv q) k
theorem k_aconst_null (K : Wk p l e R s m args below meth c Z a0 EL n0 y bytes maxL ret b T h locs cells slots)  (hd : decode bytes pc = .ok (.aconst_null, 1)) (hp : pc + 1 = pc') (k : Goes p.tables e below P (T.setTop (mkF m pc' Ls (.null :: st)))) : Goes p.tables e below P (T.setTop (mkF m pc Ls st)) := by
  subst hp
  exact go (fun t q => XS.aconstNull K.at K.hx rfl (hb K.hby hd) q) k
theorem k_ldcI (K : Wk p l e R s m args below meth c Z a0 EL n0 y bytes maxL ret b T h locs cells slots) {i : Nat} {v : Int32} (wd : (Cond.constant y.cls i v).before a0 Z = true) (hd : decode bytes pc = .ok (.ldc i, 2)) (hp : pc + 2 = pc') (k : Goes p.tables e below P (T.setTop (mkF m pc' Ls (.int v :: st)))) : Goes p.tables e below P (T.setTop (mkF m pc Ls st)) := by
  subst hp
  exact go (fun t q => Stand.ldcI K.X K.hx K.hown (mvT K.hZ wd) rfl (hb K.hby hd) q) k
theorem k_ldcWI (K : Wk p l e R s m args below meth c Z a0 EL n0 y bytes maxL ret b T h locs cells slots) {i : Nat} {v : Int32} (wd : (Cond.constant y.cls i v).before a0 Z = true) (hd : decode bytes pc = .ok (.ldc_w i, 3)) (hp : pc + 3 = pc') (k : Goes p.tables e below P (T.setTop (mkF m pc' Ls (.int v :: st)))) : Goes p.tables e below P (T.setTop (mkF m pc Ls st)) := by
  subst hp
  exact go (fun t q => Stand.ldcWI K.X K.hx K.hown (mvT K.hZ wd) rfl (hb K.hby hd) q) k
theorem k_ldcJ (K : Wk p l e R s m args below meth c Z a0 EL n0 y bytes maxL ret b T h locs cells slots) {i : Nat} {v : Int64} (wd : (Cond.constantLong y.cls i v).before a0 Z = true) (hd : decode bytes pc = .ok (.ldc2_w i, 3)) (hp : pc + 3 = pc') (k : Goes p.tables e below P (T.setTop (mkF m pc' Ls (.long v :: st)))) : Goes p.tables e below P (T.setTop (mkF m pc Ls st)) := by
  subst hp
  exact go (fun t q => Stand.ldc2J K.X K.hx K.hown (mvT K.hZ wd) rfl (hb K.hby hd) q) k
theorem k_iadd (K : Wk p l e R s m args below meth c Z a0 EL n0 y bytes maxL ret b T h locs cells slots) {i j : Int32} (hd : decode bytes pc = .ok (.iadd, 1)) (hp : pc + 1 = pc') (k : Goes p.tables e below P (T.setTop (mkF m pc' Ls (.int (i + j) :: st)))) : Goes p.tables e below P (T.setTop (mkF m pc Ls (.int j :: .int i :: st))) := by
  subst hp
  exact go (fun t q => XS.iadd K.at K.hx rfl (hb K.hby hd) rfl q) k
theorem k_isub (K : Wk p l e R s m args below meth c Z a0 EL n0 y bytes maxL ret b T h locs cells slots) {i j : Int32} (hd : decode bytes pc = .ok (.isub, 1)) (hp : pc + 1 = pc') (k : Goes p.tables e below P (T.setTop (mkF m pc' Ls (.int (i - j) :: st)))) : Goes p.tables e below P (T.setTop (mkF m pc Ls (.int j :: .int i :: st))) := by
  subst hp
  exact go (fun t q => XS.isub K.at K.hx rfl (hb K.hby hd) rfl q) k
theorem k_imul (K : Wk p l e R s m args below meth c Z a0 EL n0 y bytes maxL ret b T h locs cells slots) {i j : Int32} (hd : decode bytes pc = .ok (.imul, 1)) (hp : pc + 1 = pc') (k : Goes p.tables e below P (T.setTop (mkF m pc' Ls (.int (i * j) :: st)))) : Goes p.tables e below P (T.setTop (mkF m pc Ls (.int j :: .int i :: st))) := by
  subst hp
  exact go (fun t q => XS.imul K.at K.hx rfl (hb K.hby hd) rfl q) k
theorem k_iand (K : Wk p l e R s m args below meth c Z a0 EL n0 y bytes maxL ret b T h locs cells slots) {i j : Int32} (hd : decode bytes pc = .ok (.iand, 1)) (hp : pc + 1 = pc') (k : Goes p.tables e below P (T.setTop (mkF m pc' Ls (.int (i &&& j) :: st)))) : Goes p.tables e below P (T.setTop (mkF m pc Ls (.int j :: .int i :: st))) := by
  subst hp
  exact go (fun t q => XS.iand K.at K.hx rfl (hb K.hby hd) rfl q) k
theorem k_ior (K : Wk p l e R s m args below meth c Z a0 EL n0 y bytes maxL ret b T h locs cells slots) {i j : Int32} (hd : decode bytes pc = .ok (.ior, 1)) (hp : pc + 1 = pc') (k : Goes p.tables e below P (T.setTop (mkF m pc' Ls (.int (i ||| j) :: st)))) : Goes p.tables e below P (T.setTop (mkF m pc Ls (.int j :: .int i :: st))) := by
  subst hp
  exact go (fun t q => XT.ior K.at K.hx rfl (hb K.hby hd) rfl q) k
theorem k_ixor (K : Wk p l e R s m args below meth c Z a0 EL n0 y bytes maxL ret b T h locs cells slots) {i j : Int32} (hd : decode bytes pc = .ok (.ixor, 1)) (hp : pc + 1 = pc') (k : Goes p.tables e below P (T.setTop (mkF m pc' Ls (.int (i ^^^ j) :: st)))) : Goes p.tables e below P (T.setTop (mkF m pc Ls (.int j :: .int i :: st))) := by
  subst hp
  exact go (fun t q => XT.ixor K.at K.hx rfl (hb K.hby hd) rfl q) k
theorem k_ishl (K : Wk p l e R s m args below meth c Z a0 EL n0 y bytes maxL ret b T h locs cells slots) {i j : Int32} (hd : decode bytes pc = .ok (.ishl, 1)) (hp : pc + 1 = pc') (k : Goes p.tables e below P (T.setTop (mkF m pc' Ls (.int (i <<< (j &&& 31)) :: st)))) : Goes p.tables e below P (T.setTop (mkF m pc Ls (.int j :: .int i :: st))) := by
  subst hp
  exact go (fun t q => XT.ishl K.at K.hx rfl (hb K.hby hd) rfl q) k
theorem k_ishr (K : Wk p l e R s m args below meth c Z a0 EL n0 y bytes maxL ret b T h locs cells slots) {i j : Int32} (hd : decode bytes pc = .ok (.ishr, 1)) (hp : pc + 1 = pc') (k : Goes p.tables e below P (T.setTop (mkF m pc' Ls (.int (i >>> (j &&& 31)) :: st)))) : Goes p.tables e below P (T.setTop (mkF m pc Ls (.int j :: .int i :: st))) := by
  subst hp
  exact go (fun t q => XT.ishr K.at K.hx rfl (hb K.hby hd) rfl q) k
theorem k_iushr (K : Wk p l e R s m args below meth c Z a0 EL n0 y bytes maxL ret b T h locs cells slots) {i j : Int32} (hd : decode bytes pc = .ok (.iushr, 1)) (hp : pc + 1 = pc') (k : Goes p.tables e below P (T.setTop (mkF m pc' Ls (.int (XT.ushr i j) :: st)))) : Goes p.tables e below P (T.setTop (mkF m pc Ls (.int j :: .int i :: st))) := by
  subst hp
  exact go (fun t q => XT.iushr K.at K.hx rfl (hb K.hby hd) rfl q) k
theorem k_ladd (K : Wk p l e R s m args below meth c Z a0 EL n0 y bytes maxL ret b T h locs cells slots) {i j : Int64} (hd : decode bytes pc = .ok (.ladd, 1)) (hp : pc + 1 = pc') (k : Goes p.tables e below P (T.setTop (mkF m pc' Ls (.long (i + j) :: st)))) : Goes p.tables e below P (T.setTop (mkF m pc Ls (.long j :: .long i :: st))) := by
  subst hp
  exact go (fun t q => XT.ladd K.at K.hx rfl (hb K.hby hd) rfl q) k
theorem k_lsub (K : Wk p l e R s m args below meth c Z a0 EL n0 y bytes maxL ret b T h locs cells slots) {i j : Int64} (hd : decode bytes pc = .ok (.lsub, 1)) (hp : pc + 1 = pc') (k : Goes p.tables e below P (T.setTop (mkF m pc' Ls (.long (i - j) :: st)))) : Goes p.tables e below P (T.setTop (mkF m pc Ls (.long j :: .long i :: st))) := by
  subst hp
  exact go (fun t q => XT.lsub K.at K.hx rfl (hb K.hby hd) rfl q) k
theorem k_lmul (K : Wk p l e R s m args below meth c Z a0 EL n0 y bytes maxL ret b T h locs cells slots) {i j : Int64} (hd : decode bytes pc = .ok (.lmul, 1)) (hp : pc + 1 = pc') (k : Goes p.tables e below P (T.setTop (mkF m pc' Ls (.long (i * j) :: st)))) : Goes p.tables e below P (T.setTop (mkF m pc Ls (.long j :: .long i :: st))) := by
  subst hp
  exact go (fun t q => XT.lmul K.at K.hx rfl (hb K.hby hd) rfl q) k
theorem k_land (K : Wk p l e R s m args below meth c Z a0 EL n0 y bytes maxL ret b T h locs cells slots) {i j : Int64} (hd : decode bytes pc = .ok (.land, 1)) (hp : pc + 1 = pc') (k : Goes p.tables e below P (T.setTop (mkF m pc' Ls (.long (i &&& j) :: st)))) : Goes p.tables e below P (T.setTop (mkF m pc Ls (.long j :: .long i :: st))) := by
  subst hp
  exact go (fun t q => XT.land K.at K.hx rfl (hb K.hby hd) rfl q) k
theorem k_lor (K : Wk p l e R s m args below meth c Z a0 EL n0 y bytes maxL ret b T h locs cells slots) {i j : Int64} (hd : decode bytes pc = .ok (.lor, 1)) (hp : pc + 1 = pc') (k : Goes p.tables e below P (T.setTop (mkF m pc' Ls (.long (i ||| j) :: st)))) : Goes p.tables e below P (T.setTop (mkF m pc Ls (.long j :: .long i :: st))) := by
  subst hp
  exact go (fun t q => XT.lor K.at K.hx rfl (hb K.hby hd) rfl q) k
theorem k_lxor (K : Wk p l e R s m args below meth c Z a0 EL n0 y bytes maxL ret b T h locs cells slots) {i j : Int64} (hd : decode bytes pc = .ok (.lxor, 1)) (hp : pc + 1 = pc') (k : Goes p.tables e below P (T.setTop (mkF m pc' Ls (.long (i ^^^ j) :: st)))) : Goes p.tables e below P (T.setTop (mkF m pc Ls (.long j :: .long i :: st))) := by
  subst hp
  exact go (fun t q => XT.lxor K.at K.hx rfl (hb K.hby hd) rfl q) k
theorem k_lshl (K : Wk p l e R s m args below meth c Z a0 EL n0 y bytes maxL ret b T h locs cells slots) {i : Int64} {j : Int32} (hd : decode bytes pc = .ok (.lshl, 1)) (hp : pc + 1 = pc') (k : Goes p.tables e below P (T.setTop (mkF m pc' Ls (.long (i <<< (j.toInt64 &&& 63)) :: st)))) : Goes p.tables e below P (T.setTop (mkF m pc Ls (.int j :: .long i :: st))) := by
  subst hp
  exact go (fun t q => XT.lshl K.at K.hx rfl (hb K.hby hd) rfl q) k
theorem k_lshr (K : Wk p l e R s m args below meth c Z a0 EL n0 y bytes maxL ret b T h locs cells slots) {i : Int64} {j : Int32} (hd : decode bytes pc = .ok (.lshr, 1)) (hp : pc + 1 = pc') (k : Goes p.tables e below P (T.setTop (mkF m pc' Ls (.long (i >>> (j.toInt64 &&& 63)) :: st)))) : Goes p.tables e below P (T.setTop (mkF m pc Ls (.int j :: .long i :: st))) := by
  subst hp
  exact go (fun t q => XT.lshr K.at K.hx rfl (hb K.hby hd) rfl q) k
theorem k_lushr (K : Wk p l e R s m args below meth c Z a0 EL n0 y bytes maxL ret b T h locs cells slots) {i : Int64} {j : Int32} (hd : decode bytes pc = .ok (.lushr, 1)) (hp : pc + 1 = pc') (k : Goes p.tables e below P (T.setTop (mkF m pc' Ls (.long (XT.ushrL i j) :: st)))) : Goes p.tables e below P (T.setTop (mkF m pc Ls (.int j :: .long i :: st))) := by
  subst hp
  exact go (fun t q => XT.lushr K.at K.hx rfl (hb K.hby hd) rfl q) k
theorem k_idiv (K : Wk p l e R s m args below meth c Z a0 EL n0 y bytes maxL ret b T h locs cells slots) {i j : Int32} (hd : decode bytes pc = .ok (.idiv, 1)) (hp : pc + 1 = pc') (hj : j ≠ 0) (k : Goes p.tables e below P (T.setTop (mkF m pc' Ls (.int (i / j) :: st)))) : Goes p.tables e below P (T.setTop (mkF m pc Ls (.int j :: .int i :: st))) := by
  subst hp
  exact go (fun t q => XS.idiv K.at K.hx rfl (hb K.hby hd) rfl hj q) k
theorem k_irem (K : Wk p l e R s m args below meth c Z a0 EL n0 y bytes maxL ret b T h locs cells slots) {i j : Int32} (hd : decode bytes pc = .ok (.irem, 1)) (hp : pc + 1 = pc') (hj : j ≠ 0) (k : Goes p.tables e below P (T.setTop (mkF m pc' Ls (.int (i % j) :: st)))) : Goes p.tables e below P (T.setTop (mkF m pc Ls (.int j :: .int i :: st))) := by
  subst hp
  exact go (fun t q => Jvm.RoadKit.iremM K.X K.hx rfl (hb K.hby hd) rfl hj q) k
theorem k_ldiv (K : Wk p l e R s m args below meth c Z a0 EL n0 y bytes maxL ret b T h locs cells slots) {i j : Int64} (hd : decode bytes pc = .ok (.ldiv, 1)) (hp : pc + 1 = pc') (hj : j ≠ 0) (k : Goes p.tables e below P (T.setTop (mkF m pc' Ls (.long (i / j) :: st)))) : Goes p.tables e below P (T.setTop (mkF m pc Ls (.long j :: .long i :: st))) := by
  subst hp
  exact go (fun t q => XT.ldiv K.at K.hx rfl (hb K.hby hd) rfl hj q) k
theorem k_lrem (K : Wk p l e R s m args below meth c Z a0 EL n0 y bytes maxL ret b T h locs cells slots) {i j : Int64} (hd : decode bytes pc = .ok (.lrem, 1)) (hp : pc + 1 = pc') (hj : j ≠ 0) (k : Goes p.tables e below P (T.setTop (mkF m pc' Ls (.long (i - (i / j) * j) :: st)))) : Goes p.tables e below P (T.setTop (mkF m pc Ls (.long j :: .long i :: st))) := by
  subst hp
  exact go (fun t q => XT.lrem K.at K.hx rfl (hb K.hby hd) rfl hj q) k
theorem k_lcmp (K : Wk p l e R s m args below meth c Z a0 EL n0 y bytes maxL ret b T h locs cells slots) {i j : Int64} (hd : decode bytes pc = .ok (.lcmp, 1)) (hp : pc + 1 = pc') (k : Goes p.tables e below P (T.setTop (mkF m pc' Ls (.int (XT.cmpL i j) :: st)))) : Goes p.tables e below P (T.setTop (mkF m pc Ls (.long j :: .long i :: st))) := by
  subst hp
  exact go (fun t q => XT.lcmp K.at K.hx rfl (hb K.hby hd) rfl q) k
theorem k_ineg (K : Wk p l e R s m args below meth c Z a0 EL n0 y bytes maxL ret b T h locs cells slots) {i : Int32} (hd : decode bytes pc = .ok (.ineg, 1)) (hp : pc + 1 = pc') (k : Goes p.tables e below P (T.setTop (mkF m pc' Ls (.int (-i) :: st)))) : Goes p.tables e below P (T.setTop (mkF m pc Ls (.int i :: st))) := by
  subst hp
  exact go (fun t q => XS.ineg K.at K.hx rfl (hb K.hby hd) rfl q) k
theorem k_lneg (K : Wk p l e R s m args below meth c Z a0 EL n0 y bytes maxL ret b T h locs cells slots) {i : Int64} (hd : decode bytes pc = .ok (.lneg, 1)) (hp : pc + 1 = pc') (k : Goes p.tables e below P (T.setTop (mkF m pc' Ls (.long (-i) :: st)))) : Goes p.tables e below P (T.setTop (mkF m pc Ls (.long i :: st))) := by
  subst hp
  exact go (fun t q => XT.lneg K.at K.hx rfl (hb K.hby hd) rfl q) k
theorem k_i2l (K : Wk p l e R s m args below meth c Z a0 EL n0 y bytes maxL ret b T h locs cells slots) {i : Int32} (hd : decode bytes pc = .ok (.i2l, 1)) (hp : pc + 1 = pc') (k : Goes p.tables e below P (T.setTop (mkF m pc' Ls (.long i.toInt64 :: st)))) : Goes p.tables e below P (T.setTop (mkF m pc Ls (.int i :: st))) := by
  subst hp
  exact go (fun t q => XT.i2l K.at K.hx rfl (hb K.hby hd) rfl q) k
theorem k_l2i (K : Wk p l e R s m args below meth c Z a0 EL n0 y bytes maxL ret b T h locs cells slots) {i : Int64} (hd : decode bytes pc = .ok (.l2i, 1)) (hp : pc + 1 = pc') (k : Goes p.tables e below P (T.setTop (mkF m pc' Ls (.int i.toInt32 :: st)))) : Goes p.tables e below P (T.setTop (mkF m pc Ls (.long i :: st))) := by
  subst hp
  exact go (fun t q => XT.l2i K.at K.hx rfl (hb K.hby hd) rfl q) k
theorem k_i2b (K : Wk p l e R s m args below meth c Z a0 EL n0 y bytes maxL ret b T h locs cells slots) {i : Int32} (hd : decode bytes pc = .ok (.i2b, 1)) (hp : pc + 1 = pc') (k : Goes p.tables e below P (T.setTop (mkF m pc' Ls (.int i.toInt8.toInt32 :: st)))) : Goes p.tables e below P (T.setTop (mkF m pc Ls (.int i :: st))) := by
  subst hp
  exact go (fun t q => XT.i2b K.at K.hx rfl (hb K.hby hd) rfl q) k
theorem k_i2c (K : Wk p l e R s m args below meth c Z a0 EL n0 y bytes maxL ret b T h locs cells slots) {i : Int32} (hd : decode bytes pc = .ok (.i2c, 1)) (hp : pc + 1 = pc') (k : Goes p.tables e below P (T.setTop (mkF m pc' Ls (.int i.toUInt32.toUInt16.toUInt32.toInt32 :: st)))) : Goes p.tables e below P (T.setTop (mkF m pc Ls (.int i :: st))) := by
  subst hp
  exact go (fun t q => XT.i2c K.at K.hx rfl (hb K.hby hd) rfl q) k
theorem k_i2s (K : Wk p l e R s m args below meth c Z a0 EL n0 y bytes maxL ret b T h locs cells slots) {i : Int32} (hd : decode bytes pc = .ok (.i2s, 1)) (hp : pc + 1 = pc') (k : Goes p.tables e below P (T.setTop (mkF m pc' Ls (.int i.toInt16.toInt32 :: st)))) : Goes p.tables e below P (T.setTop (mkF m pc Ls (.int i :: st))) := by
  subst hp
  exact go (fun t q => XT.i2s K.at K.hx rfl (hb K.hby hd) rfl q) k
theorem k_iinc (K : Wk p l e R s m args below meth c Z a0 EL n0 y bytes maxL ret b T h locs cells slots) {i : Int32} {k : Nat} {ct : Int} {L' : Array Slot} (v : Int32) (hd : decode bytes pc = .ok (.iinc k ct, 3)) (hp : pc + 3 = pc') (hv : Int32.ofInt ct = v) (hl : Ls[k]? = some (.val (.int i))) (hl' : storeLocals Ls k (.int (i + v)) = some L') (k : Goes p.tables e below P (T.setTop (mkF m pc' L' st))) : Goes p.tables e below P (T.setTop (mkF m pc Ls st)) := by
  subst hp
  exact go (fun t q => XT.iincV K.at K.hx rfl v (hb K.hby hd) hv hl hl' q) k
theorem k_dup (K : Wk p l e R s m args below meth c Z a0 EL n0 y bytes maxL ret b T h locs cells slots) {v : Value} (hd : decode bytes pc = .ok (.dup, 1)) (hp : pc + 1 = pc') (hc : v.category = 1) (k : Goes p.tables e below P (T.setTop (mkF m pc' Ls (v :: v :: st)))) : Goes p.tables e below P (T.setTop (mkF m pc Ls (v :: st))) := by
  subst hp
  exact go (fun t q => XS.dup K.at K.hx rfl (hb K.hby hd) rfl hc q) k
theorem k_pop (K : Wk p l e R s m args below meth c Z a0 EL n0 y bytes maxL ret b T h locs cells slots) {v : Value} (hd : decode bytes pc = .ok (.pop, 1)) (hp : pc + 1 = pc') (hc : v.category = 1) (k : Goes p.tables e below P (T.setTop (mkF m pc' Ls st))) : Goes p.tables e below P (T.setTop (mkF m pc Ls (v :: st))) := by
  subst hp
  exact go (fun t q => XT.pop K.at K.hx rfl (hb K.hby hd) rfl hc q) k
theorem k_dup_x1 (K : Wk p l e R s m args below meth c Z a0 EL n0 y bytes maxL ret b T h locs cells slots) {v u : Value} (hd : decode bytes pc = .ok (.dup_x1, 1)) (hp : pc + 1 = pc') (hc : v.category = 1) (hc' : u.category = 1) (k : Goes p.tables e below P (T.setTop (mkF m pc' Ls (v :: u :: v :: st)))) : Goes p.tables e below P (T.setTop (mkF m pc Ls (v :: u :: st))) := by
  subst hp
  exact go (fun t q => XT.dupX1 K.at K.hx rfl (hb K.hby hd) rfl hc hc' q) k
theorem k_dup2J (K : Wk p l e R s m args below meth c Z a0 EL n0 y bytes maxL ret b T h locs cells slots) {i : Int64} (hd : decode bytes pc = .ok (.dup2, 1)) (hp : pc + 1 = pc') (k : Goes p.tables e below P (T.setTop (mkF m pc' Ls (.long i :: .long i :: st)))) : Goes p.tables e below P (T.setTop (mkF m pc Ls (.long i :: st))) := by
  subst hp
  refine go (fun t q => ?_) k
  have hd' := (hb K.hby hd)
  have hA := K.at
  have hx := K.hx
  jvm_step hA [hA.top, hx, hd', Value.category]
  exact q
theorem k_dup2II (K : Wk p l e R s m args below meth c Z a0 EL n0 y bytes maxL ret b T h locs cells slots) {i j : Int32} (hd : decode bytes pc = .ok (.dup2, 1)) (hp : pc + 1 = pc') (k : Goes p.tables e below P (T.setTop (mkF m pc' Ls (.int j :: .int i :: .int j :: .int i :: st)))) : Goes p.tables e below P (T.setTop (mkF m pc Ls (.int j :: .int i :: st))) := by
  subst hp
  refine go (fun t q => ?_) k
  have hd' := (hb K.hby hd)
  have hA := K.at
  have hx := K.hx
  jvm_step hA [hA.top, hx, hd', Value.category]
  exact q
theorem k_dup2AI (K : Wk p l e R s m args below meth c Z a0 EL n0 y bytes maxL ret b T h locs cells slots) {a : Addr} {j : Int32} (hd : decode bytes pc = .ok (.dup2, 1)) (hp : pc + 1 = pc') (k : Goes p.tables e below P (T.setTop (mkF m pc' Ls (.int j :: .ref a :: .int j :: .ref a :: st)))) : Goes p.tables e below P (T.setTop (mkF m pc Ls (.int j :: .ref a :: st))) := by
  subst hp
  refine go (fun t q => ?_) k
  have hd' := (hb K.hby hd)
  have hA := K.at
  have hx := K.hx
  jvm_step hA [hA.top, hx, hd', Value.category]
  exact q
theorem k_pop2J (K : Wk p l e R s m args below meth c Z a0 EL n0 y bytes maxL ret b T h locs cells slots) {i : Int64} (hd : decode bytes pc = .ok (.pop2, 1)) (hp : pc + 1 = pc') (k : Goes p.tables e below P (T.setTop (mkF m pc' Ls st))) : Goes p.tables e below P (T.setTop (mkF m pc Ls (.long i :: st))) := by
  subst hp
  refine go (fun t q => ?_) k
  have hd' := (hb K.hby hd)
  have hA := K.at
  have hx := K.hx
  jvm_step hA [hA.top, hx, hd', Value.category]
  exact q
theorem k_dup_x2AI (K : Wk p l e R s m args below meth c Z a0 EL n0 y bytes maxL ret b T h locs cells slots) {a : Addr} {i j : Int32} (hd : decode bytes pc = .ok (.dup_x2, 1)) (hp : pc + 1 = pc') (k : Goes p.tables e below P (T.setTop (mkF m pc' Ls (.int i :: .int j :: .ref a :: .int i :: st)))) : Goes p.tables e below P (T.setTop (mkF m pc Ls (.int i :: .int j :: .ref a :: st))) := by
  subst hp
  refine go (fun t q => ?_) k
  have hd' := (hb K.hby hd)
  have hA := K.at
  have hx := K.hx
  jvm_step hA [hA.top, hx, hd', Value.category]
  exact q
theorem k_dup2_x1JA (K : Wk p l e R s m args below meth c Z a0 EL n0 y bytes maxL ret b T h locs cells slots) {i : Int64} {a : Addr} (hd : decode bytes pc = .ok (.dup2_x1, 1)) (hp : pc + 1 = pc') (k : Goes p.tables e below P (T.setTop (mkF m pc' Ls (.long i :: .ref a :: .long i :: st)))) : Goes p.tables e below P (T.setTop (mkF m pc Ls (.long i :: .ref a :: st))) := by
  subst hp
  refine go (fun t q => ?_) k
  have hd' := (hb K.hby hd)
  have hA := K.at
  have hx := K.hx
  jvm_step hA [hA.top, hx, hd', Value.category]
  exact q
theorem k_dup2_x2JAI (K : Wk p l e R s m args below meth c Z a0 EL n0 y bytes maxL ret b T h locs cells slots) {i : Int64} {a : Addr} {j : Int32} (hd : decode bytes pc = .ok (.dup2_x2, 1)) (hp : pc + 1 = pc') (k : Goes p.tables e below P (T.setTop (mkF m pc' Ls (.long i :: .int j :: .ref a :: .long i :: st)))) : Goes p.tables e below P (T.setTop (mkF m pc Ls (.long i :: .int j :: .ref a :: st))) := by
  subst hp
  refine go (fun t q => ?_) k
  have hd' := (hb K.hby hd)
  have hA := K.at
  have hx := K.hx
  jvm_step hA [hA.top, hx, hd', Value.category]
  exact q
theorem k_goto (K : Wk p l e R s m args below meth c Z a0 EL n0 y bytes maxL ret b T h locs cells slots) {o : Int} (hd : decode bytes pc = .ok (.goto o, 3)) (ho : 0 ≤ (pc : Int) + o) (hp : ((pc : Int) + o).toNat = pc') (k : Goes p.tables e below P (T.setTop (mkF m pc' Ls st))) : Goes p.tables e below P (T.setTop (mkF m pc Ls st)) := go (fun t q => XS.goto K.at K.hx rfl rfl (hb K.hby hd) ho hp q) k
theorem k_icmp_eq (K : Wk p l e R s m args below meth c Z a0 EL n0 y bytes maxL ret b T h locs cells slots) {i j : Int32} {o : Int} {pc2 : Nat} (hd : decode bytes pc = .ok (.if_icmp .eq o, 3)) (ho : 0 ≤ (pc : Int) + o) (hp : ((pc : Int) + o).toNat = pc') (hp2 : pc + 3 = pc2) (kT : i = j → Goes p.tables e below P (T.setTop (mkF m pc' Ls st))) (kF : ¬ i = j → Goes p.tables e below P (T.setTop (mkF m pc2 Ls st))) : Goes p.tables e below P (T.setTop (mkF m pc Ls (.int j :: .int i :: st))) := by
  subst hp2
  by_cases q : i = j
  · exact go (fun t r => XS.icmpYes K.at K.hx rfl rfl (hb K.hby hd) rfl (XT.ii_eq_t q) ho hp r) (kT q)
  · exact go (fun t r => XS.icmpNo K.at K.hx rfl (hb K.hby hd) rfl (XT.ii_eq_f q) r) (kF q)
theorem k_if_eq (K : Wk p l e R s m args below meth c Z a0 EL n0 y bytes maxL ret b T h locs cells slots) {i : Int32} {o : Int} {pc2 : Nat} (hd : decode bytes pc = .ok (.ifCond .eq o, 3)) (ho : 0 ≤ (pc : Int) + o) (hp : ((pc : Int) + o).toNat = pc') (hp2 : pc + 3 = pc2) (kT : i = 0 → Goes p.tables e below P (T.setTop (mkF m pc' Ls st))) (kF : ¬ i = 0 → Goes p.tables e below P (T.setTop (mkF m pc2 Ls st))) : Goes p.tables e below P (T.setTop (mkF m pc Ls (.int i :: st))) := by
  subst hp2
  by_cases q : i = 0
  · exact go (fun t r => XS.ifYes K.at K.hx rfl rfl (hb K.hby hd) rfl (XT.i0_eq_t q) ho hp r) (kT q)
  · exact go (fun t r => XS.ifNo K.at K.hx rfl (hb K.hby hd) rfl (XT.i0_eq_f q) r) (kF q)
theorem k_lif_eq (K : Wk p l e R s m args below meth c Z a0 EL n0 y bytes maxL ret b T h locs cells slots) {i j : Int64} {o : Int} {pc2 : Nat} (hd : decode bytes pc = .ok (.ifCond .eq o, 3)) (ho : 0 ≤ (pc : Int) + o) (hp : ((pc : Int) + o).toNat = pc') (hp2 : pc + 3 = pc2) (kT : i = j → Goes p.tables e below P (T.setTop (mkF m pc' Ls st))) (kF : ¬ i = j → Goes p.tables e below P (T.setTop (mkF m pc2 Ls st))) : Goes p.tables e below P (T.setTop (mkF m pc Ls (.int (XT.cmpL i j) :: st))) := by
  subst hp2
  by_cases q : i = j
  · exact go (fun t r => XS.ifYes K.at K.hx rfl rfl (hb K.hby hd) rfl (XT.ll_eq_t q) ho hp r) (kT q)
  · exact go (fun t r => XS.ifNo K.at K.hx rfl (hb K.hby hd) rfl (XT.ll_eq_f q) r) (kF q)
theorem k_icmp_ne (K : Wk p l e R s m args below meth c Z a0 EL n0 y bytes maxL ret b T h locs cells slots) {i j : Int32} {o : Int} {pc2 : Nat} (hd : decode bytes pc = .ok (.if_icmp .ne o, 3)) (ho : 0 ≤ (pc : Int) + o) (hp : ((pc : Int) + o).toNat = pc') (hp2 : pc + 3 = pc2) (kT : ¬ i = j → Goes p.tables e below P (T.setTop (mkF m pc' Ls st))) (kF : i = j → Goes p.tables e below P (T.setTop (mkF m pc2 Ls st))) : Goes p.tables e below P (T.setTop (mkF m pc Ls (.int j :: .int i :: st))) := by
  subst hp2
  by_cases q : ¬ i = j
  · exact go (fun t r => XS.icmpYes K.at K.hx rfl rfl (hb K.hby hd) rfl (XT.ii_ne_t q) ho hp r) (kT q)
  · exact go (fun t r => XS.icmpNo K.at K.hx rfl (hb K.hby hd) rfl (XT.ii_ne_f (Classical.not_not.mp q)) r) (kF (Classical.not_not.mp q))
theorem k_if_ne (K : Wk p l e R s m args below meth c Z a0 EL n0 y bytes maxL ret b T h locs cells slots) {i : Int32} {o : Int} {pc2 : Nat} (hd : decode bytes pc = .ok (.ifCond .ne o, 3)) (ho : 0 ≤ (pc : Int) + o) (hp : ((pc : Int) + o).toNat = pc') (hp2 : pc + 3 = pc2) (kT : ¬ i = 0 → Goes p.tables e below P (T.setTop (mkF m pc' Ls st))) (kF : i = 0 → Goes p.tables e below P (T.setTop (mkF m pc2 Ls st))) : Goes p.tables e below P (T.setTop (mkF m pc Ls (.int i :: st))) := by
  subst hp2
  by_cases q : ¬ i = 0
  · exact go (fun t r => XS.ifYes K.at K.hx rfl rfl (hb K.hby hd) rfl (XT.i0_ne_t q) ho hp r) (kT q)
  · exact go (fun t r => XS.ifNo K.at K.hx rfl (hb K.hby hd) rfl (XT.i0_ne_f (Classical.not_not.mp q)) r) (kF (Classical.not_not.mp q))
theorem k_lif_ne (K : Wk p l e R s m args below meth c Z a0 EL n0 y bytes maxL ret b T h locs cells slots) {i j : Int64} {o : Int} {pc2 : Nat} (hd : decode bytes pc = .ok (.ifCond .ne o, 3)) (ho : 0 ≤ (pc : Int) + o) (hp : ((pc : Int) + o).toNat = pc') (hp2 : pc + 3 = pc2) (kT : ¬ i = j → Goes p.tables e below P (T.setTop (mkF m pc' Ls st))) (kF : i = j → Goes p.tables e below P (T.setTop (mkF m pc2 Ls st))) : Goes p.tables e below P (T.setTop (mkF m pc Ls (.int (XT.cmpL i j) :: st))) := by
  subst hp2
  by_cases q : ¬ i = j
  · exact go (fun t r => XS.ifYes K.at K.hx rfl rfl (hb K.hby hd) rfl (XT.ll_ne_t q) ho hp r) (kT q)
  · exact go (fun t r => XS.ifNo K.at K.hx rfl (hb K.hby hd) rfl (XT.ll_ne_f (Classical.not_not.mp q)) r) (kF (Classical.not_not.mp q))
theorem k_icmp_lt (K : Wk p l e R s m args below meth c Z a0 EL n0 y bytes maxL ret b T h locs cells slots) {i j : Int32} {o : Int} {pc2 : Nat} (hd : decode bytes pc = .ok (.if_icmp .lt o, 3)) (ho : 0 ≤ (pc : Int) + o) (hp : ((pc : Int) + o).toNat = pc') (hp2 : pc + 3 = pc2) (kT : i < j → Goes p.tables e below P (T.setTop (mkF m pc' Ls st))) (kF : ¬ i < j → Goes p.tables e below P (T.setTop (mkF m pc2 Ls st))) : Goes p.tables e below P (T.setTop (mkF m pc Ls (.int j :: .int i :: st))) := by
  subst hp2
  by_cases q : i < j
  · exact go (fun t r => XS.icmpYes K.at K.hx rfl rfl (hb K.hby hd) rfl (XT.ii_lt_t q) ho hp r) (kT q)
  · exact go (fun t r => XS.icmpNo K.at K.hx rfl (hb K.hby hd) rfl (XT.ii_lt_f q) r) (kF q)
theorem k_if_lt (K : Wk p l e R s m args below meth c Z a0 EL n0 y bytes maxL ret b T h locs cells slots) {i : Int32} {o : Int} {pc2 : Nat} (hd : decode bytes pc = .ok (.ifCond .lt o, 3)) (ho : 0 ≤ (pc : Int) + o) (hp : ((pc : Int) + o).toNat = pc') (hp2 : pc + 3 = pc2) (kT : i < 0 → Goes p.tables e below P (T.setTop (mkF m pc' Ls st))) (kF : ¬ i < 0 → Goes p.tables e below P (T.setTop (mkF m pc2 Ls st))) : Goes p.tables e below P (T.setTop (mkF m pc Ls (.int i :: st))) := by
  subst hp2
  by_cases q : i < 0
  · exact go (fun t r => XS.ifYes K.at K.hx rfl rfl (hb K.hby hd) rfl (XT.i0_lt_t q) ho hp r) (kT q)
  · exact go (fun t r => XS.ifNo K.at K.hx rfl (hb K.hby hd) rfl (XT.i0_lt_f q) r) (kF q)
theorem k_lif_lt (K : Wk p l e R s m args below meth c Z a0 EL n0 y bytes maxL ret b T h locs cells slots) {i j : Int64} {o : Int} {pc2 : Nat} (hd : decode bytes pc = .ok (.ifCond .lt o, 3)) (ho : 0 ≤ (pc : Int) + o) (hp : ((pc : Int) + o).toNat = pc') (hp2 : pc + 3 = pc2) (kT : i < j → Goes p.tables e below P (T.setTop (mkF m pc' Ls st))) (kF : ¬ i < j → Goes p.tables e below P (T.setTop (mkF m pc2 Ls st))) : Goes p.tables e below P (T.setTop (mkF m pc Ls (.int (XT.cmpL i j) :: st))) := by
  subst hp2
  by_cases q : i < j
  · exact go (fun t r => XS.ifYes K.at K.hx rfl rfl (hb K.hby hd) rfl (XT.ll_lt_t q) ho hp r) (kT q)
  · exact go (fun t r => XS.ifNo K.at K.hx rfl (hb K.hby hd) rfl (XT.ll_lt_f q) r) (kF q)
theorem k_icmp_ge (K : Wk p l e R s m args below meth c Z a0 EL n0 y bytes maxL ret b T h locs cells slots) {i j : Int32} {o : Int} {pc2 : Nat} (hd : decode bytes pc = .ok (.if_icmp .ge o, 3)) (ho : 0 ≤ (pc : Int) + o) (hp : ((pc : Int) + o).toNat = pc') (hp2 : pc + 3 = pc2) (kT : ¬ i < j → Goes p.tables e below P (T.setTop (mkF m pc' Ls st))) (kF : i < j → Goes p.tables e below P (T.setTop (mkF m pc2 Ls st))) : Goes p.tables e below P (T.setTop (mkF m pc Ls (.int j :: .int i :: st))) := by
  subst hp2
  by_cases q : ¬ i < j
  · exact go (fun t r => XS.icmpYes K.at K.hx rfl rfl (hb K.hby hd) rfl (XT.ii_ge_t q) ho hp r) (kT q)
  · exact go (fun t r => XS.icmpNo K.at K.hx rfl (hb K.hby hd) rfl (XT.ii_ge_f (Classical.not_not.mp q)) r) (kF (Classical.not_not.mp q))
theorem k_if_ge (K : Wk p l e R s m args below meth c Z a0 EL n0 y bytes maxL ret b T h locs cells slots) {i : Int32} {o : Int} {pc2 : Nat} (hd : decode bytes pc = .ok (.ifCond .ge o, 3)) (ho : 0 ≤ (pc : Int) + o) (hp : ((pc : Int) + o).toNat = pc') (hp2 : pc + 3 = pc2) (kT : ¬ i < 0 → Goes p.tables e below P (T.setTop (mkF m pc' Ls st))) (kF : i < 0 → Goes p.tables e below P (T.setTop (mkF m pc2 Ls st))) : Goes p.tables e below P (T.setTop (mkF m pc Ls (.int i :: st))) := by
  subst hp2
  by_cases q : ¬ i < 0
  · exact go (fun t r => XS.ifYes K.at K.hx rfl rfl (hb K.hby hd) rfl (XT.i0_ge_t q) ho hp r) (kT q)
  · exact go (fun t r => XS.ifNo K.at K.hx rfl (hb K.hby hd) rfl (XT.i0_ge_f (Classical.not_not.mp q)) r) (kF (Classical.not_not.mp q))
theorem k_lif_ge (K : Wk p l e R s m args below meth c Z a0 EL n0 y bytes maxL ret b T h locs cells slots) {i j : Int64} {o : Int} {pc2 : Nat} (hd : decode bytes pc = .ok (.ifCond .ge o, 3)) (ho : 0 ≤ (pc : Int) + o) (hp : ((pc : Int) + o).toNat = pc') (hp2 : pc + 3 = pc2) (kT : ¬ i < j → Goes p.tables e below P (T.setTop (mkF m pc' Ls st))) (kF : i < j → Goes p.tables e below P (T.setTop (mkF m pc2 Ls st))) : Goes p.tables e below P (T.setTop (mkF m pc Ls (.int (XT.cmpL i j) :: st))) := by
  subst hp2
  by_cases q : ¬ i < j
  · exact go (fun t r => XS.ifYes K.at K.hx rfl rfl (hb K.hby hd) rfl (XT.ll_ge_t q) ho hp r) (kT q)
  · exact go (fun t r => XS.ifNo K.at K.hx rfl (hb K.hby hd) rfl (XT.ll_ge_f (Classical.not_not.mp q)) r) (kF (Classical.not_not.mp q))
theorem k_icmp_gt (K : Wk p l e R s m args below meth c Z a0 EL n0 y bytes maxL ret b T h locs cells slots) {i j : Int32} {o : Int} {pc2 : Nat} (hd : decode bytes pc = .ok (.if_icmp .gt o, 3)) (ho : 0 ≤ (pc : Int) + o) (hp : ((pc : Int) + o).toNat = pc') (hp2 : pc + 3 = pc2) (kT : j < i → Goes p.tables e below P (T.setTop (mkF m pc' Ls st))) (kF : ¬ j < i → Goes p.tables e below P (T.setTop (mkF m pc2 Ls st))) : Goes p.tables e below P (T.setTop (mkF m pc Ls (.int j :: .int i :: st))) := by
  subst hp2
  by_cases q : j < i
  · exact go (fun t r => XS.icmpYes K.at K.hx rfl rfl (hb K.hby hd) rfl (XT.ii_gt_t q) ho hp r) (kT q)
  · exact go (fun t r => XS.icmpNo K.at K.hx rfl (hb K.hby hd) rfl (XT.ii_gt_f q) r) (kF q)
theorem k_if_gt (K : Wk p l e R s m args below meth c Z a0 EL n0 y bytes maxL ret b T h locs cells slots) {i : Int32} {o : Int} {pc2 : Nat} (hd : decode bytes pc = .ok (.ifCond .gt o, 3)) (ho : 0 ≤ (pc : Int) + o) (hp : ((pc : Int) + o).toNat = pc') (hp2 : pc + 3 = pc2) (kT : 0 < i → Goes p.tables e below P (T.setTop (mkF m pc' Ls st))) (kF : ¬ 0 < i → Goes p.tables e below P (T.setTop (mkF m pc2 Ls st))) : Goes p.tables e below P (T.setTop (mkF m pc Ls (.int i :: st))) := by
  subst hp2
  by_cases q : 0 < i
  · exact go (fun t r => XS.ifYes K.at K.hx rfl rfl (hb K.hby hd) rfl (XT.i0_gt_t q) ho hp r) (kT q)
  · exact go (fun t r => XS.ifNo K.at K.hx rfl (hb K.hby hd) rfl (XT.i0_gt_f q) r) (kF q)
theorem k_lif_gt (K : Wk p l e R s m args below meth c Z a0 EL n0 y bytes maxL ret b T h locs cells slots) {i j : Int64} {o : Int} {pc2 : Nat} (hd : decode bytes pc = .ok (.ifCond .gt o, 3)) (ho : 0 ≤ (pc : Int) + o) (hp : ((pc : Int) + o).toNat = pc') (hp2 : pc + 3 = pc2) (kT : j < i → Goes p.tables e below P (T.setTop (mkF m pc' Ls st))) (kF : ¬ j < i → Goes p.tables e below P (T.setTop (mkF m pc2 Ls st))) : Goes p.tables e below P (T.setTop (mkF m pc Ls (.int (XT.cmpL i j) :: st))) := by
  subst hp2
  by_cases q : j < i
  · exact go (fun t r => XS.ifYes K.at K.hx rfl rfl (hb K.hby hd) rfl (XT.ll_gt_t q) ho hp r) (kT q)
  · exact go (fun t r => XS.ifNo K.at K.hx rfl (hb K.hby hd) rfl (XT.ll_gt_f q) r) (kF q)
theorem k_icmp_le (K : Wk p l e R s m args below meth c Z a0 EL n0 y bytes maxL ret b T h locs cells slots) {i j : Int32} {o : Int} {pc2 : Nat} (hd : decode bytes pc = .ok (.if_icmp .le o, 3)) (ho : 0 ≤ (pc : Int) + o) (hp : ((pc : Int) + o).toNat = pc') (hp2 : pc + 3 = pc2) (kT : ¬ j < i → Goes p.tables e below P (T.setTop (mkF m pc' Ls st))) (kF : j < i → Goes p.tables e below P (T.setTop (mkF m pc2 Ls st))) : Goes p.tables e below P (T.setTop (mkF m pc Ls (.int j :: .int i :: st))) := by
  subst hp2
  by_cases q : ¬ j < i
  · exact go (fun t r => XS.icmpYes K.at K.hx rfl rfl (hb K.hby hd) rfl (XT.ii_le_t q) ho hp r) (kT q)
  · exact go (fun t r => XS.icmpNo K.at K.hx rfl (hb K.hby hd) rfl (XT.ii_le_f (Classical.not_not.mp q)) r) (kF (Classical.not_not.mp q))
theorem k_if_le (K : Wk p l e R s m args below meth c Z a0 EL n0 y bytes maxL ret b T h locs cells slots) {i : Int32} {o : Int} {pc2 : Nat} (hd : decode bytes pc = .ok (.ifCond .le o, 3)) (ho : 0 ≤ (pc : Int) + o) (hp : ((pc : Int) + o).toNat = pc') (hp2 : pc + 3 = pc2) (kT : ¬ 0 < i → Goes p.tables e below P (T.setTop (mkF m pc' Ls st))) (kF : 0 < i → Goes p.tables e below P (T.setTop (mkF m pc2 Ls st))) : Goes p.tables e below P (T.setTop (mkF m pc Ls (.int i :: st))) := by
  subst hp2
  by_cases q : ¬ 0 < i
  · exact go (fun t r => XS.ifYes K.at K.hx rfl rfl (hb K.hby hd) rfl (XT.i0_le_t q) ho hp r) (kT q)
  · exact go (fun t r => XS.ifNo K.at K.hx rfl (hb K.hby hd) rfl (XT.i0_le_f (Classical.not_not.mp q)) r) (kF (Classical.not_not.mp q))
theorem k_lif_le (K : Wk p l e R s m args below meth c Z a0 EL n0 y bytes maxL ret b T h locs cells slots) {i j : Int64} {o : Int} {pc2 : Nat} (hd : decode bytes pc = .ok (.ifCond .le o, 3)) (ho : 0 ≤ (pc : Int) + o) (hp : ((pc : Int) + o).toNat = pc') (hp2 : pc + 3 = pc2) (kT : ¬ j < i → Goes p.tables e below P (T.setTop (mkF m pc' Ls st))) (kF : j < i → Goes p.tables e below P (T.setTop (mkF m pc2 Ls st))) : Goes p.tables e below P (T.setTop (mkF m pc Ls (.int (XT.cmpL i j) :: st))) := by
  subst hp2
  by_cases q : ¬ j < i
  · exact go (fun t r => XS.ifYes K.at K.hx rfl rfl (hb K.hby hd) rfl (XT.ll_le_t q) ho hp r) (kT q)
  · exact go (fun t r => XS.ifNo K.at K.hx rfl (hb K.hby hd) rfl (XT.ll_le_f (Classical.not_not.mp q)) r) (kF (Classical.not_not.mp q))
theorem k_acmp_eq (K : Wk p l e R s m args below meth c Z a0 EL n0 y bytes maxL ret b T h locs cells slots) {u v : Value} (hu : u.isRef = true) (hv : v.isRef = true) {o : Int} {pc2 : Nat} (hd : decode bytes pc = .ok (.if_acmp .eq o, 3)) (ho : 0 ≤ (pc : Int) + o) (hp : ((pc : Int) + o).toNat = pc') (hp2 : pc + 3 = pc2) (kE : u = v → Goes p.tables e below P (T.setTop (mkF m pc' Ls st))) (kN : ¬ u = v → Goes p.tables e below P (T.setTop (mkF m pc2 Ls st))) : Goes p.tables e below P (T.setTop (mkF m pc Ls (v :: u :: st))) := by
  subst hp2 hp
  by_cases q : u = v
  · exact go (fun t r => Jvm.RoadKit.acmp (g := mkF m pc Ls (v :: u :: st)) K.X K.hx rfl hu hv (pc0 := pc) (same := true) rfl (hb K.hby hd) rfl (decide_eq_true q) ho rfl r) (kE q)
  · exact go (fun t r => Jvm.RoadKit.acmp (g := mkF m pc Ls (v :: u :: st)) K.X K.hx rfl hu hv (pc0 := pc) (same := false) rfl (hb K.hby hd) rfl (decide_eq_false q) ho rfl r) (kN q)
theorem k_acmp_ne (K : Wk p l e R s m args below meth c Z a0 EL n0 y bytes maxL ret b T h locs cells slots) {u v : Value} (hu : u.isRef = true) (hv : v.isRef = true) {o : Int} {pc2 : Nat} (hd : decode bytes pc = .ok (.if_acmp .ne o, 3)) (ho : 0 ≤ (pc : Int) + o) (hp : ((pc : Int) + o).toNat = pc') (hp2 : pc + 3 = pc2) (kE : u = v → Goes p.tables e below P (T.setTop (mkF m pc2 Ls st))) (kN : ¬ u = v → Goes p.tables e below P (T.setTop (mkF m pc' Ls st))) : Goes p.tables e below P (T.setTop (mkF m pc Ls (v :: u :: st))) := by
  subst hp2 hp
  by_cases q : u = v
  · exact go (fun t r => Jvm.RoadKit.acmp (g := mkF m pc Ls (v :: u :: st)) K.X K.hx rfl hu hv (pc0 := pc) (same := true) rfl (hb K.hby hd) rfl (decide_eq_true q) ho rfl r) (kE q)
  · exact go (fun t r => Jvm.RoadKit.acmp (g := mkF m pc Ls (v :: u :: st)) K.X K.hx rfl hu hv (pc0 := pc) (same := false) rfl (hb K.hby hd) rfl (decide_eq_false q) ho rfl r) (kN q)
theorem k_ifnull (K : Wk p l e R s m args below meth c Z a0 EL n0 y bytes maxL ret b T h locs cells slots) {v : Value} (hv : v.isRef = true) {o : Int} {pc2 : Nat} (hd : decode bytes pc = .ok (.ifnull o, 3)) (ho : 0 ≤ (pc : Int) + o) (hp : ((pc : Int) + o).toNat = pc') (hp2 : pc + 3 = pc2) (kT : v = .null → Goes p.tables e below P (T.setTop (mkF m pc' Ls st))) (kF : ¬ v = .null → Goes p.tables e below P (T.setTop (mkF m pc2 Ls st))) : Goes p.tables e below P (T.setTop (mkF m pc Ls (v :: st))) := by
  subst hp2
  by_cases qn : v = .null
  · exact go (fun t r => XT.nullYes K.at K.hx rfl rfl (hb K.hby hd) rfl qn ho hp r) (kT qn)
  · exact go (fun t r => XT.nullNo K.at K.hx rfl (hb K.hby hd) rfl hv qn r) (kF qn)
theorem k_ifnonnull (K : Wk p l e R s m args below meth c Z a0 EL n0 y bytes maxL ret b T h locs cells slots) {v : Value} (hv : v.isRef = true) {o : Int} {pc2 : Nat} (hd : decode bytes pc = .ok (.ifnonnull o, 3)) (ho : 0 ≤ (pc : Int) + o) (hp : ((pc : Int) + o).toNat = pc') (hp2 : pc + 3 = pc2) (kT : ¬ v = .null → Goes p.tables e below P (T.setTop (mkF m pc' Ls st))) (kF : v = .null → Goes p.tables e below P (T.setTop (mkF m pc2 Ls st))) : Goes p.tables e below P (T.setTop (mkF m pc Ls (v :: st))) := by
  subst hp2
  by_cases qn : v = .null
  · exact go (fun t r => XT.nonnullNo K.at K.hx rfl (hb K.hby hd) rfl qn r) (kF qn)
  · exact go (fun t r => XT.nonnullYes K.at K.hx rfl rfl (hb K.hby hd) rfl hv qn ho hp r) (kT qn)
theorem k_getF (K : Wk p l e R s m args below meth c Z a0 EL n0 y bytes maxL ret b T h locs cells slots) {R0 O n d : String} {i : Nat} {a : Addr} {v : Value} (wd : (Cond.fieldLink y.cls i R0 n d).before a0 Z = true) (via : Via Z R0 O n d) (F : Fld Z h a O n d v) (hd : decode bytes pc = .ok (.getfield i, 3)) (hp : pc + 3 = pc') (k : ∀ T', Wk p l e R s m args below meth c Z a0 EL n0 y bytes maxL ret b T' h locs cells slots → Goes p.tables e below P (T'.setTop (mkF m pc' Ls (v :: st)))) : Goes p.tables e below P (T.setTop (mkF m pc Ls (.ref a :: st))) := by
  subst hp
  obtain ⟨T', X', e', q⟩ := Jvm.RoadKit.getF K.X K.hx K.hZ (host := "") K.hown (Or.inl wd) via K.eT F (g := mkF m pc Ls (.ref a :: st)) rfl rfl (hb K.hby hd)
  exact go q (k T' (K.move X' e' K.fr K.old K.bs))
theorem k_getFN (K : Wk p l e R s m args below meth c Z a0 EL n0 y bytes maxL ret b T h locs cells slots) {R0 O n d host : String} {i : Nat} {a : Addr} {v : Value} (wd : (Cond.fieldLinkNest y.cls i R0 n d host).before a0 Z = true) (via : Via Z R0 O n d) (F : Fld Z h a O n d v) (hd : decode bytes pc = .ok (.getfield i, 3)) (hp : pc + 3 = pc') (k : ∀ T', Wk p l e R s m args below meth c Z a0 EL n0 y bytes maxL ret b T' h locs cells slots → Goes p.tables e below P (T'.setTop (mkF m pc' Ls (v :: st)))) : Goes p.tables e below P (T.setTop (mkF m pc Ls (.ref a :: st))) := by
  subst hp
  obtain ⟨T', X', e', q⟩ := Jvm.RoadKit.getF K.X K.hx K.hZ K.hown (Or.inr wd) via K.eT F (g := mkF m pc Ls (.ref a :: st)) rfl rfl (hb K.hby hd)
  exact go q (k T' (K.move X' e' K.fr K.old K.bs))
theorem k_getS (K : Wk p l e R s m args below meth c Z a0 EL n0 y bytes maxL ret b T h locs cells slots) {R0 O n d : String} {i : Nat} {v : Value} (wd : (Cond.fieldLink y.cls i R0 n d).before a0 Z = true) (via : Via Z R0 O n d) (F : Sta Z Z.heap O n d v) (hd : decode bytes pc = .ok (.getstatic i, 3)) (hp : pc + 3 = pc') (k : ∀ T', Wk p l e R s m args below meth c Z a0 EL n0 y bytes maxL ret b T' h locs cells slots → Goes p.tables e below P (T'.setTop (mkF m pc' Ls (v :: st)))) : Goes p.tables e below P (T.setTop (mkF m pc Ls st)) := by
  subst hp
  obtain ⟨T', X', e', q⟩ := getS2 K.X K.hx K.hZ K.hown (host := "") (Or.inl wd) via K.eT (F.ext K.old.2) (g := mkF m pc Ls st) rfl (hb K.hby hd)
  exact go q (k T' (K.move X' e' K.fr K.old K.bs))
theorem k_getSN (K : Wk p l e R s m args below meth c Z a0 EL n0 y bytes maxL ret b T h locs cells slots) {R0 O n d host : String} {i : Nat} {v : Value} (wd : (Cond.fieldLinkNest y.cls i R0 n d host).before a0 Z = true) (via : Via Z R0 O n d) (F : Sta Z Z.heap O n d v) (hd : decode bytes pc = .ok (.getstatic i, 3)) (hp : pc + 3 = pc') (k : ∀ T', Wk p l e R s m args below meth c Z a0 EL n0 y bytes maxL ret b T' h locs cells slots → Goes p.tables e below P (T'.setTop (mkF m pc' Ls (v :: st)))) : Goes p.tables e below P (T.setTop (mkF m pc Ls st)) := by
  subst hp
  obtain ⟨T', X', e', q⟩ := getS2 K.X K.hx K.hZ K.hown (Or.inr wd) via K.eT (F.ext K.old.2) (g := mkF m pc Ls st) rfl (hb K.hby hd)
  exact go q (k T' (K.move X' e' K.fr K.old K.bs))
theorem k_castY (K : Wk p l e R s m args below meth c Z a0 EL n0 y bytes maxL ret b T h locs cells slots) {C : String} {i : Nat} {a : Addr} (wd : (Cond.classLink y.cls i C).before a0 Z = true) (F : Ins Z h a C true) (hd : decode bytes pc = .ok (.checkcast i, 3)) (hp : pc + 3 = pc') (k : ∀ T', Wk p l e R s m args below meth c Z a0 EL n0 y bytes maxL ret b T' h locs cells slots → Goes p.tables e below P (T'.setTop (mkF m pc' Ls (.ref a :: st)))) : Goes p.tables e below P (T.setTop (mkF m pc Ls (.ref a :: st))) := by
  subst hp
  obtain ⟨T', X', e', q⟩ := castY K.X K.hx K.hZ K.hown wd K.eT F (g := mkF m pc Ls (.ref a :: st)) rfl rfl (hb K.hby hd)
  exact go q (k T' (K.move X' e' K.fr K.old K.bs))
theorem k_instY (K : Wk p l e R s m args below meth c Z a0 EL n0 y bytes maxL ret b T h locs cells slots) {C : String} {i : Nat} {a : Addr} (wd : (Cond.classLink y.cls i C).before a0 Z = true) (F : Ins Z h a C true) (hd : decode bytes pc = .ok (.instanceof i, 3)) (hp : pc + 3 = pc') (k : ∀ T', Wk p l e R s m args below meth c Z a0 EL n0 y bytes maxL ret b T' h locs cells slots → Goes p.tables e below P (T'.setTop (mkF m pc' Ls (.int 1 :: st)))) : Goes p.tables e below P (T.setTop (mkF m pc Ls (.ref a :: st))) := by
  subst hp
  obtain ⟨T', X', e', q⟩ := instY K.X K.hx K.hZ K.hown wd K.eT F (g := mkF m pc Ls (.ref a :: st)) rfl rfl (hb K.hby hd)
  exact go q (k T' (K.move X' e' K.fr K.old K.bs))
theorem instN_at (X : Stand p l e R s m args below meth c T locs cells slots) (hx : p.tables.exec = Jvm.exec) (hZ : Z.Warmed39 s.vm) {own C D : String} {index : Nat} (hown : s.vm.findClass own = some m.cls) (w : (Cond.classLink own index C).before a0 Z = true) (eT : T.heap = h) {a : Addr} (F : Ins Z h a C false) (E : Exa Z h a D)
    {g : JFrame} (hg : g.method = m) {rest : List Value} (hs : g.stack = .ref a :: rest) (hd : decode c.code g.pc = .ok (.instanceof index, 3)) : ∃ T', Stand p l e R s m args below meth c T' locs cells slots ∧ T'.heap = h ∧ ∀ target, Steps p.tables e below (T'.setTop { g with pc := g.pc + 3, stack := .int 0 :: rest }) target → Steps p.tables e below (T.setTop g) target := by
  obtain ⟨cell, cT, h1, h2, h3⟩ := F
  obtain ⟨cell', k, e1, -, e3, e4, -⟩ := E
  cases h1.symm.trans e1
  obtain ⟨k', q, -⟩ := hZ.alike.2.2 _ _ e3
  obtain ⟨vm', X', st⟩ := Jvm.Sym.instanceofNoAt X hx hown (mvT hZ w) (by rw [eT]; exact h1) e4 q (by rw [hZ.alike.findClass]; exact h2) (by rw [hZ.alike.assignable]; simpa [e4] using h3) hg hs hd
  exact ⟨_, X', eT, st⟩
theorem k_instN (K : Wk p l e R s m args below meth c Z a0 EL n0 y bytes maxL ret b T h locs cells slots) {C D : String} {i : Nat} {a : Addr} (wd : (Cond.classLink y.cls i C).before a0 Z = true) (F : Ins Z h a C false) (E : Exa Z h a D) (hd : decode bytes pc = .ok (.instanceof i, 3)) (hp : pc + 3 = pc') (k : ∀ T', Wk p l e R s m args below meth c Z a0 EL n0 y bytes maxL ret b T' h locs cells slots → Goes p.tables e below P (T'.setTop (mkF m pc' Ls (.int 0 :: st)))) : Goes p.tables e below P (T.setTop (mkF m pc Ls (.ref a :: st))) := by
  subst hp
  obtain ⟨T', X', e', q⟩ := instN_at K.X K.hx K.hZ K.hown wd K.eT F E (g := mkF m pc Ls (.ref a :: st)) rfl rfl (hb K.hby hd)
  exact go q (k T' (K.move X' e' K.fr K.old K.bs))
theorem k_instNull (K : Wk p l e R s m args below meth c Z a0 EL n0 y bytes maxL ret b T h locs cells slots) {i : Nat} (hd : decode bytes pc = .ok (.instanceof i, 3)) (hp : pc + 3 = pc') (k : Goes p.tables e below P (T.setTop (mkF m pc' Ls (.int 0 :: st)))) : Goes p.tables e below P (T.setTop (mkF m pc Ls (.null :: st))) := by
  subst hp
  exact go (fun t q => K.X.instanceofNull K.hx (g := mkF m pc Ls (.null :: st)) rfl rfl (hb K.hby hd) _ q) k
theorem k_castNull (K : Wk p l e R s m args below meth c Z a0 EL n0 y bytes maxL ret b T h locs cells slots) {i : Nat} (hd : decode bytes pc = .ok (.checkcast i, 3)) (hp : pc + 3 = pc') (k : Goes p.tables e below P (T.setTop (mkF m pc' Ls (.null :: st)))) : Goes p.tables e below P (T.setTop (mkF m pc Ls (.null :: st))) := by
  subst hp
  exact go (fun t q => K.X.checkcastNull K.hx (g := mkF m pc Ls (.null :: st)) rfl rfl (hb K.hby hd) _ q) k
theorem k_iaload (K : Wk p l e R s m args below meth c Z a0 EL n0 y bytes maxL ret b T h locs cells slots) {a : Addr} {kk : ClassId} {z j : Int32} {vs : List Value} {dv : Value} {v : Int32} (F : Arv Z h a kk .int z vs dv) (hj : ¬ j < 0 ∧ j < z) (hv : vs.getD j.toNatClampNeg dv = .int v) (hd : decode bytes pc = .ok (.iaload, 1)) (hp : pc + 1 = pc') (k : Goes p.tables e below P (T.setTop (mkF m pc' Ls (.int v :: st)))) : Goes p.tables e below P (T.setTop (mkF m pc Ls (.int j :: .ref a :: st))) := by
  subst hp
  obtain ⟨cl, Ar, -, S, -, H, -⟩ := F
  exact go (fun t q => K.X.iaload K.hx (j := j) (v := .int v) (by rw [K.eT]; exact Ar.1) (State.isArrayOf_alike K.hZ.alike Ar.2.1) Ar.2.2 (inb_of S hj) (H.at (inb_of S hj) hv) (g := mkF m pc Ls (.int j :: .ref a :: st)) rfl rfl (hb K.hby hd) _ q) k
theorem k_caload (K : Wk p l e R s m args below meth c Z a0 EL n0 y bytes maxL ret b T h locs cells slots) {a : Addr} {kk : ClassId} {z j : Int32} {vs : List Value} {dv : Value} {v : Int32} (F : Arv Z h a kk .char z vs dv) (hj : ¬ j < 0 ∧ j < z) (hv : vs.getD j.toNatClampNeg dv = .int v) (hd : decode bytes pc = .ok (.caload, 1)) (hp : pc + 1 = pc') (k : Goes p.tables e below P (T.setTop (mkF m pc' Ls (.int v :: st)))) : Goes p.tables e below P (T.setTop (mkF m pc Ls (.int j :: .ref a :: st))) := by
  subst hp
  obtain ⟨cl, Ar, -, S, -, H, -⟩ := F
  exact go (fun t q => K.X.caload K.hx (j := j) (v := .int v) (by rw [K.eT]; exact Ar.1) (State.isArrayOf_alike K.hZ.alike Ar.2.1) Ar.2.2 (inb_of S hj) (H.at (inb_of S hj) hv) (g := mkF m pc Ls (.int j :: .ref a :: st)) rfl rfl (hb K.hby hd) _ q) k
theorem k_baload (K : Wk p l e R s m args below meth c Z a0 EL n0 y bytes maxL ret b T h locs cells slots) {a : Addr} {kk : ClassId} {z j : Int32} {vs : List Value} {dv : Value} {v : Int32} (F : Arv Z h a kk .byte z vs dv) (hj : ¬ j < 0 ∧ j < z) (hv : vs.getD j.toNatClampNeg dv = .int v) (hd : decode bytes pc = .ok (.baload, 1)) (hp : pc + 1 = pc') (k : Goes p.tables e below P (T.setTop (mkF m pc' Ls (.int v :: st)))) : Goes p.tables e below P (T.setTop (mkF m pc Ls (.int j :: .ref a :: st))) := by
  subst hp
  obtain ⟨cl, Ar, -, S, -, H, -⟩ := F
  exact go (fun t q => K.X.baloadBytes K.hx (j := j) (v := .int v) (by rw [K.eT]; exact Ar.1) (State.isArrayOf_alike K.hZ.alike Ar.2.1) Ar.2.2 (inb_of S hj) (H.at (inb_of S hj) hv) (g := mkF m pc Ls (.int j :: .ref a :: st)) rfl rfl (hb K.hby hd) _ q) k
theorem k_laload (K : Wk p l e R s m args below meth c Z a0 EL n0 y bytes maxL ret b T h locs cells slots) {a : Addr} {kk : ClassId} {z j : Int32} {vs : List Value} {dv : Value} {v : Int64} (F : Arv Z h a kk .long z vs dv) (hj : ¬ j < 0 ∧ j < z) (hv : vs.getD j.toNatClampNeg dv = .long v) (hd : decode bytes pc = .ok (.laload, 1)) (hp : pc + 1 = pc') (k : Goes p.tables e below P (T.setTop (mkF m pc' Ls (.long v :: st)))) : Goes p.tables e below P (T.setTop (mkF m pc Ls (.int j :: .ref a :: st))) := by
  subst hp
  obtain ⟨cl, Ar, -, S, -, H, -⟩ := F
  exact go (fun t q => K.X.laload K.hx (j := j) (v := .long v) (by rw [K.eT]; exact Ar.1) (State.isArrayOf_alike K.hZ.alike Ar.2.1) Ar.2.2 (inb_of S hj) (H.at (inb_of S hj) hv) (g := mkF m pc Ls (.int j :: .ref a :: st)) rfl rfl (hb K.hby hd) _ q) k
theorem k_aaload (K : Wk p l e R s m args below meth c Z a0 EL n0 y bytes maxL ret b T h locs cells slots) {a : Addr} {kk : ClassId} {ty : FieldType} {z j : Int32} {vs : List Value} {dv v : Value} (F : Arv Z h a kk ty z vs dv) (hty : ty.isReference = true) (hj : ¬ j < 0 ∧ j < z) (hv : vs.getD j.toNatClampNeg dv = v) (hd : decode bytes pc = .ok (.aaload, 1)) (hp : pc + 1 = pc') (k : Goes p.tables e below P (T.setTop (mkF m pc' Ls (v :: st)))) : Goes p.tables e below P (T.setTop (mkF m pc Ls (.int j :: .ref a :: st))) := by
  subst hp
  obtain ⟨cl, Ar, -, S, -, H, -⟩ := F
  exact go (fun t q => K.X.aaload K.hx (j := j) (v := v) (by rw [K.eT]; exact Ar.1) (State.isArrayOf_alike K.hZ.alike Ar.2.1) hty Ar.2.2 (inb_of S hj) (H.at (inb_of S hj) hv) (g := mkF m pc Ls (.int j :: .ref a :: st)) rfl rfl (hb K.hby hd) _ q) k
theorem k_len (K : Wk p l e R s m args below meth c Z a0 EL n0 y bytes maxL ret b T h locs cells slots) {a : Addr} {kk : ClassId} {ty : FieldType} {z : Int32} {vs : List Value} {dv : Value} (F : Arv Z h a kk ty z vs dv) (hd : decode bytes pc = .ok (.arraylength, 1)) (hp : pc + 1 = pc') (k : Goes p.tables e below P (T.setTop (mkF m pc' Ls (.int z :: st)))) : Goes p.tables e below P (T.setTop (mkF m pc Ls (.ref a :: st))) := by
  subst hp
  obtain ⟨cl, Ar, -, S, N, -, -⟩ := F
  refine go (fun t q => K.X.arraylength K.hx (by rw [K.eT]; exact Ar.1) (State.isArrayOf_alike K.hZ.alike Ar.2.1) (g := mkF m pc Ls (.ref a :: st)) rfl rfl (hb K.hby hd) _ (by rw [len_of S N]; exact q)) k
theorem bs_ext (K : Wk p l e R s m args below meth c Z a0 EL n0 y bytes maxL ret b T h locs cells slots) {h' : Heap} (E : Ext h h') : Bs Z a0 EL s b h' := by
  obtain ⟨⟨vm0, k0, e1, e2, e3⟩, e4, e5⟩ := K.bs
  exact ⟨⟨vm0, k0, e1, e2, Nat.le_trans e3 E.1⟩, e4.trans (CHr.ext E e4.1), e5⟩
theorem bs_wr (K : Wk p l e R s m args below meth c Z a0 EL n0 y bytes maxL ret b T h locs cells slots) {h' : Heap} {a : Addr} {sl : Nat} {v : Value} (W : Wr h h' a sl v) (sf : Sfe Z EL b.vm h a) : Bs Z a0 EL s b h' := by
  obtain ⟨⟨vm0, k0, e1, e2, e3⟩, e4, e5⟩ := K.bs
  exact ⟨⟨vm0, k0, e1, e2, by rw [W.size]; exact e3⟩, e4.trans (CHr.wr W sf e4.1), e5⟩
theorem sfe_ext (K : Wk p l e R s m args below meth c Z a0 EL n0 y bytes maxL ret b T h locs cells slots) {h' : Heap} (E : Ext h h') (x : Addr) (_ : x < h.size) (q : Sfe Z EL b.vm h x) : Sfe Z EL b.vm h' x := Safe.ext E K.bs.2.1.1 q
theorem sfe_wr (K : Wk p l e R s m args below meth c Z a0 EL n0 y bytes maxL ret b T h locs cells slots) {h' : Heap} {a : Addr} {sl : Nat} {v : Value} (W : Wr h h' a sl v) (sf : Sfe Z EL b.vm h a) (x : Addr) (_ : x < h.size) (q : Sfe Z EL b.vm h x) : Sfe Z EL b.vm h' x := Safe.wr W sf K.bs.2.1.1 q
theorem sfe_ext_new (K : Wk p l e R s m args below meth c Z a0 EL n0 y bytes maxL ret b T h locs cells slots) {h' : Heap} (E : Ext h h') : Sfe Z EL b.vm h' h.size := fun B => sfe_new (Nat.le_refl _) ((CHv.step K.bs.2.1.1 fun _ _ _ q => E.2 _ _ q).2 _ B)
theorem k_new (K : Wk p l e R s m args below meth c Z a0 EL n0 y bytes maxL ret b T h locs cells slots) {C : String} {i n : Nat} (wl : (Cond.classLink y.cls i C).before a0 Z = true) (wi : (Cond.instantiable C n).before a0 Z = true) (wz : (Cond.initialized C).before a0 Z = true) (hd : decode bytes pc = .ok (.new i, 3)) (hp : pc + 3 = pc') (hce : cells + 1 ≤ R.cells) (hsl : slots + n ≤ R.slots) (k : ∀ T' h' a, a = h.size → Wk p l e R s m args below meth c Z a0 EL n0 y bytes maxL ret b T' h' locs (cells + 1) (slots + n) → Ext h h' → (∀ x, x < h.size → Sfe Z EL b.vm h x → Sfe Z EL b.vm h' x) → Sfe Z EL b.vm h' a → Exa Z h' a C → (∀ {O nm d : String} {ty : FieldType}, Laid Z a0 C O nm d → parseFieldDescriptor d = some ty → Fld Z h' a O nm d (defaultValue ty)) → Unt h' a → Goes p.tables e below P (T'.setTop (mkF m pc' Ls (.ref a :: st)))) : Goes p.tables e below P (T.setTop (mkF m pc Ls st)) := by
  subst hp
  obtain ⟨T', h', X', e', E', A', D', U', q⟩ := newO K.X K.hx K.hZ K.hown wl wi wz K.eT (g := mkF m pc Ls st) rfl (hb K.hby hd) hce hsl
  exact go q (k T' h' _ rfl (K.move X' e' K.fr (K.old.ext E') (bs_ext K E')) E' (sfe_ext K E') (sfe_ext_new K E') A' D' U')
theorem k_putF (K : Wk p l e R s m args below meth c Z a0 EL n0 y bytes maxL ret b T h locs cells slots) {R0 O n d C : String} {i kk : Nat} {ty : FieldType} {a : Addr} {v old : Value} (wd : (Cond.fieldLink y.cls i R0 n d).before a0 Z = true) (via : Via Z R0 O n d) (F : Fld Z h a O n d old) (E : Exa Z h a C) (L : (Cond.lays C O n d).before a0 Z = true ∨ ((Cond.laysFinal C O n d).before a0 Z = true ∧ y.cls = O ∧ y.name = "<init>")) (wi : (Cond.instantiable C kk).before a0 Z = true) (hty : parseFieldDescriptor d = some ty) (hn : narrow ty v = v) (hf : fits ty v = true) (ga : n0 ≤ a) (sf : Sfe Z EL b.vm h a) (hd : decode bytes pc = .ok (.putfield i, 3)) (hp : pc + 3 = pc') (k : ∀ T' h', Wk p l e R s m args below meth c Z a0 EL n0 y bytes maxL ret b T' h' (locs ++ [⟨a, Jvm.RoadKit.slotOf Z O n d⟩]) cells slots → Wr h h' a (Jvm.RoadKit.slotOf Z O n d) v → (∀ x, x < h.size → Sfe Z EL b.vm h x → Sfe Z EL b.vm h' x) → Goes p.tables e below P (T'.setTop (mkF m pc' Ls st))) : Goes p.tables e below P (T.setTop (mkF m pc Ls (v :: .ref a :: st))) := by
  subst hp
  obtain ⟨T', h', X', e', W', q⟩ := putF K.X K.hx K.hZ (host := "") K.hown (Or.inl wd) via K.eT F E (L.imp id fun ⟨q1, q2, q3⟩ => ⟨q1, q2, K.hnm.trans q3⟩) wi hty hn hf (g := mkF m pc Ls (v :: .ref a :: st)) rfl rfl (hb K.hby hd)
  exact go q (k T' h' (K.move X' e' (Fr.snoc X' K.fr ga) (K.old.wr W' ga) (bs_wr K W' sf)) W' (sfe_wr K W' sf))
theorem k_putFH (K : Wk p l e R s m args below meth c Z a0 EL n0 y bytes maxL ret b T h locs cells slots) {R0 O n d C host : String} {i kk : Nat} {ty : FieldType} {a : Addr} {v old : Value} (wd : (Cond.fieldLinkNest y.cls i R0 n d host).before a0 Z = true) (via : Via Z R0 O n d) (F : Fld Z h a O n d old) (E : Exa Z h a C) (L : (Cond.lays C O n d).before a0 Z = true ∨ ((Cond.laysFinal C O n d).before a0 Z = true ∧ y.cls = O ∧ y.name = "<init>")) (wi : (Cond.instantiable C kk).before a0 Z = true) (hty : parseFieldDescriptor d = some ty) (hn : narrow ty v = v) (hf : fits ty v = true) (ga : n0 ≤ a) (sf : Sfe Z EL b.vm h a) (hd : decode bytes pc = .ok (.putfield i, 3)) (hp : pc + 3 = pc') (k : ∀ T' h', Wk p l e R s m args below meth c Z a0 EL n0 y bytes maxL ret b T' h' (locs ++ [⟨a, Jvm.RoadKit.slotOf Z O n d⟩]) cells slots → Wr h h' a (Jvm.RoadKit.slotOf Z O n d) v → (∀ x, x < h.size → Sfe Z EL b.vm h x → Sfe Z EL b.vm h' x) → Goes p.tables e below P (T'.setTop (mkF m pc' Ls st))) : Goes p.tables e below P (T.setTop (mkF m pc Ls (v :: .ref a :: st))) := by
  subst hp
  obtain ⟨T', h', X', e', W', q⟩ := putF K.X K.hx K.hZ K.hown (Or.inr wd) via K.eT F E (L.imp id fun ⟨q1, q2, q3⟩ => ⟨q1, q2, K.hnm.trans q3⟩) wi hty hn hf (g := mkF m pc Ls (v :: .ref a :: st)) rfl rfl (hb K.hby hd)
  exact go q (k T' h' (K.move X' e' (Fr.snoc X' K.fr ga) (K.old.wr W' ga) (bs_wr K W' sf)) W' (sfe_wr K W' sf))
theorem k_putFN (K : Wk p l e R s m args below meth c Z a0 EL n0 y bytes maxL ret b T h locs cells slots) {R0 O n d C : String} {i kk : Nat} {ty : FieldType} {a : Addr} {v v' old : Value} (wd : (Cond.fieldLink y.cls i R0 n d).before a0 Z = true) (via : Via Z R0 O n d) (F : Fld Z h a O n d old) (E : Exa Z h a C) (L : (Cond.lays C O n d).before a0 Z = true ∨ ((Cond.laysFinal C O n d).before a0 Z = true ∧ y.cls = O ∧ y.name = "<init>")) (wi : (Cond.instantiable C kk).before a0 Z = true) (hty : parseFieldDescriptor d = some ty) (hn : narrow ty v = v') (hf : fits ty v' = true) (ga : n0 ≤ a) (sf : Sfe Z EL b.vm h a) (hd : decode bytes pc = .ok (.putfield i, 3)) (hp : pc + 3 = pc') (k : ∀ T' h', Wk p l e R s m args below meth c Z a0 EL n0 y bytes maxL ret b T' h' (locs ++ [⟨a, Jvm.RoadKit.slotOf Z O n d⟩]) cells slots → Wr h h' a (Jvm.RoadKit.slotOf Z O n d) v' → (∀ x, x < h.size → Sfe Z EL b.vm h x → Sfe Z EL b.vm h' x) → Goes p.tables e below P (T'.setTop (mkF m pc' Ls st))) : Goes p.tables e below P (T.setTop (mkF m pc Ls (v :: .ref a :: st))) := by
  subst hp
  obtain ⟨T', h', X', e', W', q⟩ := putFN K.X K.hx K.hZ K.hown wd via K.eT F E (L.imp id fun ⟨q1, q2, q3⟩ => ⟨q1, q2, K.hnm.trans q3⟩) wi hty hn hf (g := mkF m pc Ls (v :: .ref a :: st)) rfl rfl (hb K.hby hd)
  exact go q (k T' h' (K.move X' e' (Fr.snoc X' K.fr ga) (K.old.wr W' ga) (bs_wr K W' sf)) W' (sfe_wr K W' sf))
theorem k_newarray (K : Wk p l e R s m args below meth c Z a0 EL n0 y bytes maxL ret b T h locs cells slots) {aty : ArrayType} {z : Int32} (wa : (Cond.arrayClass (newarray.typeOf aty)).before a0 Z = true) (hz : ¬ z < 0) {cap : Nat} (hcap : z.toNatClampNeg ≤ cap) (hbig : cap * 8 ≤ 536870912) (hd : decode bytes pc = .ok (.newarray aty, 2)) (hp : pc + 2 = pc') (hce : cells + 1 ≤ R.cells) (hsl : slots + cap ≤ R.slots) (k : ∀ T' h' a kk, a = h.size → Wk p l e R s m args below meth c Z a0 EL n0 y bytes maxL ret b T' h' locs (cells + 1) (slots + cap) → Ext h h' → (∀ x, x < h.size → Sfe Z EL b.vm h x → Sfe Z EL b.vm h' x) → Sfe Z EL b.vm h' a → Arv Z h' a kk (newarray.typeOf aty) z [] (defaultValue (newarray.typeOf aty)) → Goes p.tables e below P (T'.setTop (mkF m pc' Ls (.ref a :: st)))) : Goes p.tables e below P (T.setTop (mkF m pc Ls (.int z :: st))) := by
  subst hp
  obtain ⟨T', h', kk, X', e', E', A', q⟩ := newP K.X K.hx K.hZ wa K.eT (g := mkF m pc Ls (.int z :: st)) rfl (hb K.hby hd) rfl hz hcap hbig hce hsl
  exact go q (k T' h' _ kk rfl (K.move X' e' K.fr (K.old.ext E') (bs_ext K E')) E' (sfe_ext K E') (sfe_ext_new K E') (Arv.new A' hz))
theorem k_anewarray (K : Wk p l e R s m args below meth c Z a0 EL n0 y bytes maxL ret b T h locs cells slots) {C : String} {i : Nat} {z : Int32} (wl : (Cond.classLink y.cls i C).before a0 Z = true) (wa : (Cond.arrayOver (.object C)).before a0 Z = true) (hz : ¬ z < 0) {cap : Nat} (hcap : z.toNatClampNeg ≤ cap) (hbig : cap * 8 ≤ 536870912) (hd : decode bytes pc = .ok (.anewarray i, 3)) (hp : pc + 3 = pc') (hce : cells + 1 ≤ R.cells) (hsl : slots + cap ≤ R.slots) (k : ∀ T' h' a kk, a = h.size → Wk p l e R s m args below meth c Z a0 EL n0 y bytes maxL ret b T' h' locs (cells + 1) (slots + cap) → Ext h h' → (∀ x, x < h.size → Sfe Z EL b.vm h x → Sfe Z EL b.vm h' x) → Sfe Z EL b.vm h' a → Arv Z h' a kk (.object C) z [] .null → Ovr Z kk C → Goes p.tables e below P (T'.setTop (mkF m pc' Ls (.ref a :: st)))) : Goes p.tables e below P (T.setTop (mkF m pc Ls (.int z :: st))) := by
  subst hp
  obtain ⟨T', h', kk, X', e', E', A', O', q⟩ := newR K.X K.hx K.hZ K.hown wl wa K.eT (g := mkF m pc Ls (.int z :: st)) rfl (hb K.hby hd) rfl hz hcap hbig hce hsl
  exact go q (k T' h' _ kk rfl (K.move X' e' K.fr (K.old.ext E') (bs_ext K E')) E' (sfe_ext K E') (sfe_ext_new K E') (Arv.new A' hz) O')
theorem k_iastore (K : Wk p l e R s m args below meth c Z a0 EL n0 y bytes maxL ret b T h locs cells slots) {a : Addr} {kk : ClassId} {z j : Int32} {vs : List Value} {dv : Value} {v : Int32} (F : Arv Z h a kk .int z vs dv) (hj : ¬ j < 0 ∧ j < z) (hlen : j.toNatClampNeg < vs.length) (ga : n0 ≤ a) (sf : Sfe Z EL b.vm h a) (hd : decode bytes pc = .ok (.iastore, 1)) (hp : pc + 1 = pc') (k : ∀ T' h', Wk p l e R s m args below meth c Z a0 EL n0 y bytes maxL ret b T' h' (locs ++ [⟨a, j.toNatClampNeg⟩]) cells slots → Wr h h' a j.toNatClampNeg (.int v) → (∀ x, x < h.size → Sfe Z EL b.vm h x → Sfe Z EL b.vm h' x) → Arv Z h' a kk .int z (vs.set j.toNatClampNeg (.int v)) dv → Goes p.tables e below P (T'.setTop (mkF m pc' Ls st))) : Goes p.tables e below P (T.setTop (mkF m pc Ls (.int v :: .int j :: .ref a :: st))) := by
  subst hp
  obtain ⟨cl, Ar, q1, S, N, H, G⟩ := F
  obtain ⟨T', h', X', e', W', q⟩ := stI K.X K.hx K.hZ K.eT Ar (j := j) (inb_of S hj) (g := mkF m pc Ls (.int v :: .int j :: .ref a :: st)) rfl rfl (hb K.hby hd)
  exact go q (k T' h' (K.move X' e' (Fr.snoc X' K.fr ga) (K.old.wr W' ga) (bs_wr K W' sf)) W' (sfe_wr K W' sf) (Arv.set Ar q1 S N H G rfl W' _ rfl hlen))
theorem k_castore (K : Wk p l e R s m args below meth c Z a0 EL n0 y bytes maxL ret b T h locs cells slots) {a : Addr} {kk : ClassId} {z j : Int32} {vs : List Value} {dv : Value} {v : Int32} (F : Arv Z h a kk .char z vs dv) (hj : ¬ j < 0 ∧ j < z) (hlen : j.toNatClampNeg < vs.length) (ga : n0 ≤ a) (sf : Sfe Z EL b.vm h a) (hd : decode bytes pc = .ok (.castore, 1)) (hp : pc + 1 = pc') (k : ∀ T' h', Wk p l e R s m args below meth c Z a0 EL n0 y bytes maxL ret b T' h' (locs ++ [⟨a, j.toNatClampNeg⟩]) cells slots → Wr h h' a j.toNatClampNeg (.int (nar .char v)) → (∀ x, x < h.size → Sfe Z EL b.vm h x → Sfe Z EL b.vm h' x) → Arv Z h' a kk .char z (vs.set j.toNatClampNeg (.int (nar .char v))) dv → Goes p.tables e below P (T'.setTop (mkF m pc' Ls st))) : Goes p.tables e below P (T.setTop (mkF m pc Ls (.int v :: .int j :: .ref a :: st))) := by
  subst hp
  obtain ⟨cl, Ar, q1, S, N, H, G⟩ := F
  obtain ⟨T', h', X', e', W', q⟩ := stC K.X K.hx K.hZ K.eT Ar (j := j) (inb_of S hj) (g := mkF m pc Ls (.int v :: .int j :: .ref a :: st)) rfl rfl (hb K.hby hd)
  exact go q (k T' h' (K.move X' e' (Fr.snoc X' K.fr ga) (K.old.wr W' ga) (bs_wr K W' sf)) W' (sfe_wr K W' sf) (Arv.set Ar q1 S N H G (fits_nar_char _) W' _ rfl hlen))
theorem k_bastore (K : Wk p l e R s m args below meth c Z a0 EL n0 y bytes maxL ret b T h locs cells slots) {a : Addr} {kk : ClassId} {z j : Int32} {vs : List Value} {dv : Value} {v : Int32} (F : Arv Z h a kk .byte z vs dv) (hj : ¬ j < 0 ∧ j < z) (hlen : j.toNatClampNeg < vs.length) (ga : n0 ≤ a) (sf : Sfe Z EL b.vm h a) (hd : decode bytes pc = .ok (.bastore, 1)) (hp : pc + 1 = pc') (k : ∀ T' h', Wk p l e R s m args below meth c Z a0 EL n0 y bytes maxL ret b T' h' (locs ++ [⟨a, j.toNatClampNeg⟩]) cells slots → Wr h h' a j.toNatClampNeg (.int (nar .byte v)) → (∀ x, x < h.size → Sfe Z EL b.vm h x → Sfe Z EL b.vm h' x) → Arv Z h' a kk .byte z (vs.set j.toNatClampNeg (.int (nar .byte v))) dv → Goes p.tables e below P (T'.setTop (mkF m pc' Ls st))) : Goes p.tables e below P (T.setTop (mkF m pc Ls (.int v :: .int j :: .ref a :: st))) := by
  subst hp
  obtain ⟨cl, Ar, q1, S, N, H, G⟩ := F
  obtain ⟨T', h', X', e', W', q⟩ := stB K.X K.hx K.hZ K.eT Ar (j := j) (inb_of S hj) (g := mkF m pc Ls (.int v :: .int j :: .ref a :: st)) rfl rfl (hb K.hby hd)
  exact go q (k T' h' (K.move X' e' (Fr.snoc X' K.fr ga) (K.old.wr W' ga) (bs_wr K W' sf)) W' (sfe_wr K W' sf) (Arv.set Ar q1 S N H G (fits_nar_byte _) W' _ rfl hlen))
theorem k_lastore (K : Wk p l e R s m args below meth c Z a0 EL n0 y bytes maxL ret b T h locs cells slots) {a : Addr} {kk : ClassId} {z j : Int32} {vs : List Value} {dv : Value} {v : Int64} (F : Arv Z h a kk .long z vs dv) (hj : ¬ j < 0 ∧ j < z) (hlen : j.toNatClampNeg < vs.length) (ga : n0 ≤ a) (sf : Sfe Z EL b.vm h a) (hd : decode bytes pc = .ok (.lastore, 1)) (hp : pc + 1 = pc') (k : ∀ T' h', Wk p l e R s m args below meth c Z a0 EL n0 y bytes maxL ret b T' h' (locs ++ [⟨a, j.toNatClampNeg⟩]) cells slots → Wr h h' a j.toNatClampNeg (.long v) → (∀ x, x < h.size → Sfe Z EL b.vm h x → Sfe Z EL b.vm h' x) → Arv Z h' a kk .long z (vs.set j.toNatClampNeg (.long v)) dv → Goes p.tables e below P (T'.setTop (mkF m pc' Ls st))) : Goes p.tables e below P (T.setTop (mkF m pc Ls (.long v :: .int j :: .ref a :: st))) := by
  subst hp
  obtain ⟨cl, Ar, q1, S, N, H, G⟩ := F
  obtain ⟨T', h', X', e', W', q⟩ := stJ K.X K.hx K.hZ K.eT Ar (j := j) (inb_of S hj) (g := mkF m pc Ls (.long v :: .int j :: .ref a :: st)) rfl rfl (hb K.hby hd)
  exact go q (k T' h' (K.move X' e' (Fr.snoc X' K.fr ga) (K.old.wr W' ga) (bs_wr K W' sf)) W' (sfe_wr K W' sf) (Arv.set Ar q1 S N H G rfl W' _ rfl hlen))
theorem k_aastore (K : Wk p l e R s m args below meth c Z a0 EL n0 y bytes maxL ret b T h locs cells slots) {a : Addr} {kk : ClassId} {ty : FieldType} {z j : Int32} {vs : List Value} {dv v : Value} (F : Arv Z h a kk ty z vs dv) (hty : ty.isReference = true) (hs : Sto Z h a v) (hfit : fits ty v = true) (hj : ¬ j < 0 ∧ j < z) (hlen : j.toNatClampNeg < vs.length) (ga : n0 ≤ a) (sf : Sfe Z EL b.vm h a) (hd : decode bytes pc = .ok (.aastore, 1)) (hp : pc + 1 = pc') (k : ∀ T' h', Wk p l e R s m args below meth c Z a0 EL n0 y bytes maxL ret b T' h' (locs ++ [⟨a, j.toNatClampNeg⟩]) cells slots → Wr h h' a j.toNatClampNeg v → (∀ x, x < h.size → Sfe Z EL b.vm h x → Sfe Z EL b.vm h' x) → Arv Z h' a kk ty z (vs.set j.toNatClampNeg v) dv → Goes p.tables e below P (T'.setTop (mkF m pc' Ls st))) : Goes p.tables e below P (T.setTop (mkF m pc Ls (v :: .int j :: .ref a :: st))) := by
  subst hp
  obtain ⟨cl, Ar, q1, S, N, H, G⟩ := F
  obtain ⟨T', h', X', e', W', q⟩ := stR K.X K.hx K.hZ K.eT Ar (j := j) (inb_of S hj) hty hs (g := mkF m pc Ls (v :: .int j :: .ref a :: st)) rfl rfl (hb K.hby hd)
  exact go q (k T' h' (K.move X' e' (Fr.snoc X' K.fr ga) (K.old.wr W' ga) (bs_wr K W' sf)) W' (sfe_wr K W' sf) (Arv.set Ar q1 S N H G hfit W' _ rfl hlen))
theorem k_clone (K : Wk p l e R s m args below meth c Z a0 EL n0 y bytes maxL ret b T h locs cells slots) {i : Nat} {ad : String} {a : Addr} {kk : ClassId} {ty : FieldType} {z : Int32} {vs : List Value} {dv : Value} (w1 : (Cond.methodLink y.cls i ⟨ad, "clone", "()Ljava/lang/Object;"⟩).before a0 Z = true) (w2 : (Cond.sameMethod ad "java/lang/Object" "clone" "()Ljava/lang/Object;").before a0 Z = true) (w3 : (Cond.native ⟨"java/lang/Object", "clone", "()Ljava/lang/Object;"⟩).before a0 Z = true) (w4 : (Cond.instanceMethod ⟨"java/lang/Object", "clone", "()Ljava/lang/Object;"⟩).before a0 Z = true) (w5 : (Cond.selects ad ⟨ad, "clone", "()Ljava/lang/Object;"⟩ ⟨"java/lang/Object", "clone", "()Ljava/lang/Object;"⟩).before a0 Z = true) (w6 : (Cond.castable ad "java/lang/Cloneable").before a0 Z = true) (F : Arv Z Z.heap a kk ty z vs dv) (E : Exa Z Z.heap a ad) (hfit : Fit Z) (hd : decode bytes pc = .ok (.invokevirtual i, 3)) (hp : pc + 3 = pc') (hsz : Ls.size = maxL) (hfr : 1 ≤ R.frames) (W : Nat) (hW : (st.map fun v => v.category).sum ≤ W) (hlo : W + 14 ≤ R.locals) {cap : Nat} (hcap : z.toNatClampNeg ≤ cap) (hce : cells + 1 ≤ R.cells) (hsl : slots + cap ≤ R.slots) (k : ∀ T' h' a', a' = h.size → Wk p l e R s m args below meth c Z a0 EL n0 y bytes maxL ret b T' h' locs (cells + 1) (slots + cap) → Ext h h' → (∀ x, x < h.size → Sfe Z EL b.vm h x → Sfe Z EL b.vm h' x) → Sfe Z EL b.vm h' a' → Arv Z h' a' kk ty z vs dv → Exa Z h' a' ad → Goes p.tables e below P (T'.setTop (mkF m pc' Ls (.ref a' :: st)))) : Goes p.tables e below P (T.setTop (mkF m pc Ls (.ref a :: st))) := by
  subst hp
  obtain ⟨cl, Ar, q1, S, N, H, G⟩ := F
  obtain ⟨T', h', X', e', E', A', D', q⟩ := cloneA K.X K.hx K.hZ K.hown w1 w2 w3 w4 w5 w6 K.eT (Ar.ext K.old.2) (E.ext K.old.2) (FitC.start hfit Ar) (g := mkF m pc Ls (.ref a :: st)) rfl (hsz.trans K.hml.symm) rfl (hb K.hby hd) hfr (W := W) (cap := cap) (by show 2 * 0 + _ ≤ _; rw [Nat.mul_zero, Nat.zero_add]; exact hW) hlo (by rw [S]; exact hcap) hce hsl
  exact go q (k T' h' _ rfl (K.move X' e' K.fr (K.old.ext E') (bs_ext K E')) E' (sfe_ext K E') (sfe_ext_new K E') ⟨_, A', q1, S, N, H, G⟩ D')
theorem bs_keep (K : Wk p l e R s m args below meth c Z a0 EL n0 y bytes maxL ret b T h locs cells slots) {h' : Heap} {da : Addr} (KQ : Keep h h' [da]) (sf : Sfe Z EL b.vm h da) : Bs Z a0 EL s b h' := by
  obtain ⟨⟨vm0, k0, e1, e2, e3⟩, e4, e5⟩ := K.bs
  exact ⟨⟨vm0, k0, e1, e2, Nat.le_trans e3 KQ.1⟩, e4.trans (CHr.keep KQ (allS sf all0) e4.1), e5⟩
theorem sfe_keep (K : Wk p l e R s m args below meth c Z a0 EL n0 y bytes maxL ret b T h locs cells slots) {h' : Heap} {da : Addr} (KQ : Keep h h' [da]) (sf : Sfe Z EL b.vm h da) (x : Addr) (_ : x < h.size) (q : Sfe Z EL b.vm h x) : Sfe Z EL b.vm h' x := Safe.keep KQ (allS sf all0) K.bs.2.1.1 q
theorem k_arraycopy (K : Wk p l e R s m args below meth c Z a0 EL n0 y bytes maxL ret b T h locs cells slots) {i : Nat} {sa da : Addr} {ks kd : ClassId} {ty : FieldType} {zs zd sp dp nn : Int32} {vs vd us : List Value} {dv dd : Value} (wl : (Cond.methodLink y.cls i Jvm.Stand.acN).before a0 Z = true) (wn : (Cond.native Jvm.Stand.acN).before a0 Z = true) (wt : (Cond.static Jvm.Stand.acN).before a0 Z = true) (wz : (Cond.initialized "java/lang/System").before a0 Z = true) (A : Arv Z h sa ks ty zs vs dv) (B : Arv Z h da kd ty zd vd dd) (hty : refKind ty = false) (h1 : ¬ sp < 0) (h2 : ¬ dp < 0) (h3 : ¬ nn < 0) (h4 : sp.toNatClampNeg + nn.toNatClampNeg ≤ zs.toNatClampNeg) (h5 : dp.toNatClampNeg + nn.toNatClampNeg ≤ zd.toNatClampNeg) (hus : us = (List.range nn.toNatClampNeg).map fun i => vs.getD (sp.toNatClampNeg + i) dv) (hl : dp.toNatClampNeg + nn.toNatClampNeg ≤ vd.length) (ga : n0 ≤ da) (sf : Sfe Z EL b.vm h da) (hd : decode bytes pc = .ok (.invokestatic i, 3)) (hp : pc + 3 = pc') (hsz : Ls.size = maxL) (hfr : 1 ≤ R.frames) (W : Nat) (hW : (st.map fun v => v.category).sum ≤ W) (hlo : W + 18 ≤ R.locals) (k : ∀ T' h' locs', Wk p l e R s m args below meth c Z a0 EL n0 y bytes maxL ret b T' h' locs' cells slots → Keep h h' [da] → (∀ x, x < h.size → Sfe Z EL b.vm h x → Sfe Z EL b.vm h' x) → Arv Z h' da kd ty zd (vd.take dp.toNatClampNeg ++ us ++ vd.drop (dp.toNatClampNeg + nn.toNatClampNeg)) dd → Goes p.tables e below P (T'.setTop (mkF m pc' Ls st))) : Goes p.tables e below P (T.setTop (mkF m pc Ls (.int nn :: .int dp :: .ref da :: .int sp :: .ref sa :: st))) := by
  subst hp
  obtain ⟨T', h', L', X', e', N', KQ, V', q⟩ := cpA K.X K.hx K.hZ K.hown wl wn wt wz K.eT A B (Or.inl ⟨rfl, hty⟩) h1 h2 h3 h4 h5 hus hl K.fr ga (g := mkF m pc Ls (.int nn :: .int dp :: .ref da :: .int sp :: .ref sa :: st)) rfl (hsz.trans K.hml.symm) rfl (hb K.hby hd) hfr (W := W) (by show 2 * 0 + _ ≤ _; rw [Nat.mul_zero, Nat.zero_add]; exact hW) hlo
  exact go q (k T' h' L' (K.move X' e' N' (K.old.keep KQ (allS ga all0)) (bs_keep K KQ sf)) KQ (sfe_keep K KQ sf) V')
theorem own_nf {args : Array Value} {C0 : String} {y' yy : MethodName} (hc : y'.cls = yy.cls) (ws : (Cond.selects C0 y' y').before args b = true) : NotFace b yy := fun r0 h0 => by
  obtain ⟨c2, r2, m2, q1, q2, q3, q4, kP, hkP, hkPi⟩ := Cond.selects_spec ws
  have e1 := findClass_of_methodNamed h0
  have e2 := findClass_of_methodNamed q3
  rw [hc] at e2
  have e3 := Option.some.inj (e1.symm.trans e2)
  exact ⟨kP, by rw [e3]; exact hkP, hkPi⟩
theorem own_same {args : Array Value} {C0 : String} {y' yy : MethodName} (hc : y'.cls = yy.cls) (ws : (Cond.selects C0 y' y').before args b = true) (wi : (Cond.instanceMethod yy).before args b = true) (hy : yy.cls ≠ "java/lang/invoke/MethodHandle" ∧ yy.cls ≠ "java/lang/invoke/VarHandle") : (Cond.sameMethod yy.cls yy.cls yy.name yy.desc).before args b = true := by
  obtain ⟨mk, methM, hnamed, hmethM, -, -⟩ := Cond.instanceMethod_spec wi
  obtain ⟨kP, hk, hki⟩ := own_nf hc ws mk hnamed
  have hfound := State.methodFound?_of_named hnamed hy
  have hcl := findClass_of_methodNamed hnamed
  have hn2 : b.methodNamed? ⟨yy.cls, yy.name, yy.desc⟩ = some mk := hnamed
  simp only [Cond.before, Cond.holds, Cond.value, hcl, hfound, hn2, hk]
  simp [hki]
theorem own_priv2 (K : Wk p l e R s m args below meth c Z a0 EL n0 y bytes maxL ret b T h locs cells slots) {C0 : String} {yy : MethodName} (ws : (Cond.selects C0 yy yy).before a0 Z = true) (wim : (Cond.instanceMethod yy).before a0 Z = true) (wpr : (Cond.privateMethod yy).before a0 Z = true) (hy : yy.cls ≠ "java/lang/invoke/MethodHandle" ∧ yy.cls ≠ "java/lang/invoke/VarHandle") : (Cond.selects yy.cls yy yy).before a0 b = true := by
  have wi : (Cond.instanceMethod yy).before a0 b = true := mvT K.hZ wim
  obtain ⟨mk, methM, hnamed, hmethM, -, -⟩ := Cond.instanceMethod_spec wi
  obtain ⟨kP, hk, hki⟩ := own_nf (args := a0) rfl (mvT K.hZ ws) mk hnamed
  exact selects_self_of_private (findClass_of_methodNamed hnamed) hk hki (Cond.privateMethod_at (mvP K.hZ wpr (args := #[]))) wi hy
def FinW (Z : State) (EL : List (String × Nat)) (U : State) (n0 : Nat) (rm : Room) (Q : Option Value → Heap → (Addr → Prop) → Prop) (o : Outcome) (U' : State) : Prop := ∃ v L, o = .returned v ∧ (Fr n0 L ∧ Old Z n0 U'.heap ∧ Q v U'.heap (Sfe Z EL U'.vm U'.heap)) ∧ CHr Z EL U.vm U.heap U'.vm U'.heap ∧ ReturnedEndW U o U' L rm.cells rm.slots
def Ct (l : Launch) (Z : State) (EL : List (String × Nat)) (n0 : Nat) (y : MethodName) (bytes : ByteArray) (maxL : Nat) (ret : Option FieldType) (rm : Room) (as : Array Value) (h : Heap) (SP : List Addr) (Q : Option Value → Heap → (Addr → Prop) → Prop) : Prop := ∀ ws, MetFree l y (head1 (Cond.code y bytes maxL ret :: ws) rm) (fun a U => a = as ∧ Z.Warmed39 U.vm ∧ U.heap = h ∧ (∀ x ∈ SP, Sfe Z EL U.vm h x) ∧ CHv Z EL U.vm h) (fun _ _ _ _ _ => True) (fun _ U o U' => ∃ v L, o = .returned v ∧ (Fr n0 L ∧ Old Z n0 U'.heap ∧ Q v U'.heap (Sfe Z EL U'.vm U'.heap)) ∧ CHr Z EL U.vm U.heap U'.vm U'.heap ∧ ReturnedEndW U o U' L rm.cells rm.slots)
theorem Ct.of {as : Array Value} {rm : Room} {SP : List Addr} {Q : Option Value → Heap → (Addr → Prop) → Prop} (LE : Array Slot) (hEW : EW Z a0 EL) (hO : Old Z n0 h) (hpl : plainFor y = true) (hef : ∀ m, entryFrame m as maxL = mkF m 0 LE []) (body : ∀ {p : Program} {e : Env} {s : State} {m : MethodId} {below : List Frame} {meth : Method} {c : Code} {b T : State}, Wk p l e rm s m as below meth c Z a0 EL n0 y bytes maxL ret b T h [] 0 0 → (∀ x ∈ SP, Sfe Z EL b.vm h x) → Goes p.tables e below (FinW Z EL s n0 rm Q) (T.setTop (mkF m 0 LE []))) : Ct l Z EL n0 y bytes maxL ret rm as h SP Q := by
  intro ws
  refine MetFree.of_bodySF hpl hisR ?_
  intro p e s m args below meth c s₁ Bd hml0 hP hK
  obtain ⟨ha, hZ, hh, hSP, hC⟩ := hP
  subst ha
  have K : Wk p l e rm s m args below meth c Z a0 EL n0 y bytes maxL ret s s₁ h [] 0 0 := ⟨Stand.of_body Bd, by rw [← hh, Bd.state]; rfl, Fr.nil n0, Bd.exec, hZ, findClass_of_methodNamed Bd.named, Bd.bytes, hml0, Bd.returns, Bd.notSynchronized, (name_of_methodNamed Bd.named Bd.method).1, hO, ⟨⟨s.vm, 0, rfl, State.WarmedH.since (State.WarmedH.refl s) 0, Nat.zero_le _⟩, by rw [hh]; exact CHr.refl hC, hEW⟩⟩
  obtain ⟨t, o, h1, h2, h3, h4⟩ := body K hSP
  exact ⟨t, o, castTop (hef m) h1, h2, h3, h4⟩
theorem k_return (K : Wk p l e R s m args below meth c Z a0 EL n0 y bytes maxL ret b T h locs cells slots) {Q : Option Value → Heap → (Addr → Prop) → Prop} (hd : decode bytes pc = .ok (.return_, 1)) (hr : ret = none) (hq : ∀ sf : Addr → Prop, (∀ x, x < h.size → Sfe Z EL b.vm h x → sf x) → Q none h sf) (hc : cells ≤ R.cells) (hs : slots ≤ R.slots) : Goes p.tables e below (FinW Z EL s n0 R Q) (T.setTop (mkF m pc Ls [])) := by
  have hbs := K.bs
  obtain ⟨⟨vm0, k0, eb, hS, hk⟩, hCH, hEW⟩ := hbs
  subst eb
  have A := CHv.at K.X K.hZ hEW hCH.1
  obtain ⟨fs, hr', hrun, hended, hend⟩ := K.X.leaveW hS (by rw [K.eT]; exact hk) (v := none) (fun _ => rfl) K.hlk
  refine ⟨_, _, ?_, hrun, hended, _, _, rfl, ⟨K.fr, ?_, ?_⟩, ?_, ⟨hend.1, hend.2.1, hend.2.2.1, hend.2.2.2.mono hc hs⟩⟩
  · exact K.X.returnOut K.hx (K.hret.trans hr) (hb K.hby hd) hr'
  · show Old Z n0 T.heap
    rw [K.eT]; exact K.old
  · show Q _ T.heap (Sfe Z EL T.vm T.heap)
    rw [K.eT]; exact hq _ fun x hx q => CHr.safe A hx q
  · show CHr Z EL s.vm s.heap T.vm T.heap
    rw [K.eT]; exact hCH.trans A
theorem k_ret (K : Wk p l e R s m args below meth c Z a0 EL n0 y bytes maxL ret b T h locs cells slots) {Q : Option Value → Heap → (Addr → Prop) → Prop} {t : FieldType} {v : Value} {i : Instr} (hd : decode bytes pc = .ok (i, 1)) (hr : ret = some t) (hn : narrow t v = v) (hi : (i = .ireturn ∧ (t = .int ∨ t = .boolean ∨ t = .byte ∨ t = .char ∨ t = .short) ∧ ∃ z, v = .int z) ∨ (i = .lreturn ∧ t = .long ∧ ∃ z, v = .long z) ∨ (i = .dreturn ∧ t = .double ∧ ∃ z, v = .double z) ∨ (i = .freturn ∧ t = .float ∧ ∃ z, v = .float z) ∨ (i = .areturn ∧ t.isReference = true ∧ v.isRef = true)) (hq : ∀ sf : Addr → Prop, (∀ x, x < h.size → Sfe Z EL b.vm h x → sf x) → Q (some v) h sf) (hc : cells ≤ R.cells) (hs : slots ≤ R.slots) : Goes p.tables e below (FinW Z EL s n0 R Q) (T.setTop (mkF m pc Ls (v :: st))) := by
  have hbs := K.bs
  obtain ⟨⟨vm0, k0, eb, hS, hk⟩, hCH, hEW⟩ := hbs
  subst eb
  have A := CHv.at K.X K.hZ hEW hCH.1
  obtain ⟨fs, hr', hrun, hended, hend⟩ := K.X.leaveW hS (by rw [K.eT]; exact hk) (v := some v) (fun h => by rw [K.hret, hr] at h; cases h) K.hlk
  refine ⟨_, _, ?_, hrun, hended, _, _, rfl, ⟨K.fr, ?_, ?_⟩, ?_, ⟨hend.1, hend.2.1, hend.2.2.1, hend.2.2.2.mono hc hs⟩⟩
  · exact retOut K.X K.hx (K.hret.trans hr) hn hi (hb K.hby hd) hr'
  · show Old Z n0 T.heap
    rw [K.eT]; exact K.old
  · show Q _ T.heap (Sfe Z EL T.vm T.heap)
    rw [K.eT]; exact hq _ fun x hx q => CHr.safe A hx q
  · show CHr Z EL s.vm s.heap T.vm T.heap
    rw [K.eT]; exact hCH.trans A
theorem k_iret (K : Wk p l e R s m args below meth c Z a0 EL n0 y bytes maxL ret b T h locs cells slots) {Q : Option Value → Heap → (Addr → Prop) → Prop} {i : Int32} (hd : decode bytes pc = .ok (.ireturn, 1)) (hr : ret = some .int) (hq : ∀ sf : Addr → Prop, (∀ x, x < h.size → Sfe Z EL b.vm h x → sf x) → Q (some (.int i)) h sf) (hc : cells ≤ R.cells) (hs : slots ≤ R.slots) : Goes p.tables e below (FinW Z EL s n0 R Q) (T.setTop (mkF m pc Ls (.int i :: st))) := k_ret K hd hr rfl (Or.inl ⟨rfl, Or.inl rfl, i, rfl⟩) hq hc hs
theorem k_lret (K : Wk p l e R s m args below meth c Z a0 EL n0 y bytes maxL ret b T h locs cells slots) {Q : Option Value → Heap → (Addr → Prop) → Prop} {i : Int64} (hd : decode bytes pc = .ok (.lreturn, 1)) (hr : ret = some .long) (hq : ∀ sf : Addr → Prop, (∀ x, x < h.size → Sfe Z EL b.vm h x → sf x) → Q (some (.long i)) h sf) (hc : cells ≤ R.cells) (hs : slots ≤ R.slots) : Goes p.tables e below (FinW Z EL s n0 R Q) (T.setTop (mkF m pc Ls (.long i :: st))) := k_ret K hd hr rfl (Or.inr (Or.inl ⟨rfl, rfl, i, rfl⟩)) hq hc hs
theorem k_aret (K : Wk p l e R s m args below meth c Z a0 EL n0 y bytes maxL ret b T h locs cells slots) {Q : Option Value → Heap → (Addr → Prop) → Prop} {v : Value} {t : FieldType} (hd : decode bytes pc = .ok (.areturn, 1)) (hr : ret = some t) (ht : t.isReference = true) (hv : v.isRef = true) (hq : ∀ sf : Addr → Prop, (∀ x, x < h.size → Sfe Z EL b.vm h x → sf x) → Q (some v) h sf) (hc : cells ≤ R.cells) (hs : slots ≤ R.slots) : Goes p.tables e below (FinW Z EL s n0 R Q) (T.setTop (mkF m pc Ls (v :: st))) := k_ret K hd hr (by cases t <;> first | rfl | cases ht) (Or.inr (Or.inr (Or.inr (Or.inr ⟨rfl, ht, hv⟩)))) hq hc hs
theorem k_nret (K : Wk p l e R s m args below meth c Z a0 EL n0 y bytes maxL ret b T h locs cells slots) {Q : Option Value → Heap → (Addr → Prop) → Prop} {i : Int32} {t : FieldType} (hd : decode bytes pc = .ok (.ireturn, 1)) (hr : ret = some t) (ht : t = .boolean ∨ t = .byte ∨ t = .char ∨ t = .short) (hn : narrow t (.int i) = .int i) (hq : ∀ sf : Addr → Prop, (∀ x, x < h.size → Sfe Z EL b.vm h x → sf x) → Q (some (.int i)) h sf) (hc : cells ≤ R.cells) (hs : slots ≤ R.slots) : Goes p.tables e below (FinW Z EL s n0 R Q) (T.setTop (mkF m pc Ls (.int i :: st))) := k_ret K hd hr hn (Or.inl ⟨rfl, Or.inr ht, i, rfl⟩) hq hc hs
def Pu (w : Option Value) (h : Heap) (v : Option Value) (h' : Heap) (_ : Addr → Prop) : Prop := v = w ∧ h' = h
theorem own_back {yy : MethodName} {yb : ByteArray} {yml : Nat} {yret : Option FieldType} {rm : Room} {len W : Nat} {as' : Array Value} {SP : List Addr} {Q : Option Value → Heap → (Addr → Prop) → Prop} {vm0 : Vm} (hM : Ct l Z EL n0 yy yb yml yret rm as' h SP Q) (hZ : Z.Warmed39 vm0) (wc : (Cond.code yy yb yml yret).before a0 Z = true) (wz : (Cond.initialized yy.cls).before a0 Z = true) (hf : rm.frames + 1 ≤ R.frames) (hl : W + (yml + 11) + rm.locals ≤ R.locals) (hEL : EW Z a0 EL) (H : CHv Z EL vm0 h) (hSP : ∀ x ∈ SP, x < h.size ∧ Sfe Z EL vm0 h x) :
    BackS l R p e below (s.setVm vm0) args yy len W (fun A a => a = as' ∧ A.U.heap = h ∧ A.cells + rm.cells ≤ R.cells ∧ A.slots + rm.slots ≤ R.slots)
      (fun A _ v B => ∃ L, (Fr n0 L ∧ Old Z n0 B.U.heap ∧ Q v B.U.heap (Sfe Z EL B.U.vm B.U.heap)) ∧ B.locs = A.locs ++ L ∧ B.cells = A.cells + rm.cells ∧ B.slots = A.slots + rm.slots ∧ CHr Z EL vm0 h B.U.vm B.U.heap) :=
  BackS.of_freeW (bytes := yb) (maxL := yml) (ret := yret) (E := fun _ first o t L k n => k = rm.cells ∧ n = rm.slots ∧ (∃ v, o = .returned v ∧ (Fr n0 L ∧ Old Z n0 t.heap ∧ Q v t.heap (Sfe Z EL t.vm t.heap))) ∧ CHr Z EL first.vm first.heap t.vm t.heap) (hM []) hf hl
    (fun m meth c A a Y hp => have hU : Z.Warmed39 A.U.vm := wtrans (s := s.setVm vm0) hZ Y.warmed
      ⟨by show (Cond.and _ .tt).before a A.U = true; rw [Cond.before_and, mvT hU wc]; rfl, mvT hU wc, mvT hU wz, hp.2.2.1, hp.2.2.2⟩)
    (fun m meth c A a g mk Y hp => have q := CHv.at Y hZ hEL H
      ⟨hp.1, wtrans (s := s.setVm vm0) hZ Y.warmed, hp.2.1, fun x hx => CHr.safe q (hSP x hx).1 (hSP x hx).2, q.1⟩) (fun _ _ _ _ _ _ _ _ _ => trivial)
    (fun _ _ _ _ ⟨v, L, h1, h2, h3, h4⟩ => ⟨L, _, _, h4, rfl, rfl, ⟨v, h1, h2⟩, h3⟩)
    (fun m meth c A a g mk v t L k n Y hp _ _ ⟨e1, e2, ⟨v', e3, e4⟩, e5⟩ => by
      cases e3; subst e1 e2
      refine ⟨L, e4, rfl, rfl, rfl, (CHv.at Y hZ hEL H).trans ?_⟩
      rw [← hp.2.1]; exact e5)
theorem callSS (X : Stand p l e R s m args below meth c T locs cells slots) (hexec : p.tables.exec = Jvm.exec) {own : String} {index : Nat} {yy : MethodName} {yb : ByteArray} {yml : Nat} {yret : Option FieldType}
    (hown : s.vm.findClass own = some m.cls) (hlink : (Cond.methodLink own index yy).before args s = true) (hstat : (Cond.static yy).before args s = true) (hinit : (Cond.initialized yy.cls).before args s = true)
    (hcode : (Cond.code yy yb yml yret).before args s = true) (hy : yy.cls ≠ "java/lang/invoke/MethodHandle" ∧ yy.cls ≠ "java/lang/invoke/VarHandle")
    {W : Nat} {Pre : Pt → Array Value → Prop} {Post : Pt → Array Value → Option Value → Pt → Prop} (hK : BackS l R p e below s args yy 3 W Pre Post)
    {g : JFrame} (hg : g.method = m) (hsize : g.locals.size = c.maxLocals) {argsL rest : List Value} (hlen : ∀ sig, parseMethodDescriptor yy.desc = some sig → argsL.length = sig.parameters.length)
    (hstack : g.stack = argsL.reverse ++ rest) (hW : 2 * g.monitorRoom + (rest.map fun v => v.category).sum ≤ W) (hdg : decode c.code g.pc = .ok (.invokestatic index, 3))
    (hpre : ∀ vm₁, s.WarmedH vm₁ → Pre ⟨T.setVm vm₁, locs, cells, slots⟩ argsL.toArray) :
    ∃ (v : Option Value) (vm₁ : Vm) (B : Pt), s.WarmedH vm₁ ∧ Stand p l e R (s.setVm B.U.vm) m args below meth c B.U B.locs B.cells B.slots ∧ s.Since B.U.vm B.U.heap.size ∧ T.heap.size ≤ B.U.heap.size ∧ Post ⟨T.setVm vm₁, locs, cells, slots⟩ argsL.toArray v B ∧
      Steps p.tables e below (T.setTop g) (B.U.setTop { g with pc := g.pc + 3, stack := v.toList ++ rest }) := by
  obtain ⟨mk, hnamed⟩ := Cond.code_named hcode
  obtain ⟨methM, cM, hmethM, -, -, -, -, -, -, hsigM⟩ := Cond.code_spec hnamed hcode
  exact X.staticBackS hexec hown hlink hstat hinit hnamed hmethM hsigM hy hK hg hsize (Steps.refl _) hlen hstack hW hdg hpre
theorem wk_called (K : Wk p l e R s m args below meth c Z a0 EL n0 y bytes maxL ret b T h locs cells slots) {b0 T' : State} {Lc : List Loc} {c' n' : Nat} (eb : b = s.setVm b0.vm) (X' : Stand p l e R (b.setVm T'.vm) m args below meth c T' (locs ++ Lc) c' n') (hS : b.Since T'.vm T'.heap.size) (hsz : T.heap.size ≤ T'.heap.size) (hCH : CHr Z EL b.vm h T'.vm T'.heap) (hF : Fr n0 Lc) (hO : Old Z n0 T'.heap) : Wk p l e R s m args below meth c Z a0 EL n0 y bytes maxL ret (b.setVm T'.vm) T' T'.heap (locs ++ Lc) c' n' := by
  obtain ⟨⟨vm0, k0, eb', g1, g2⟩, g3, g4⟩ := K.bs
  subst eb'
  have hW : Z.Warmed39 T'.vm := State.Warmed39.trans (t := s.setVm vm0) K.hZ hS.1
  have hf : T'.vm.findClass y.cls = some m.cls := by rw [hS.1.alike.findClass]; exact K.hown
  exact ⟨X', rfl, K.fr.app hF, K.hx, hW, hf, K.hby, K.hml, K.hret, K.hlk, K.hnm, hO, ⟨⟨T'.vm, T'.heap.size, rfl, g1.trans hS (by rw [K.eT] at hsz; exact Nat.le_trans g2 hsz), Nat.le_refl _⟩, g3.trans hCH, g4⟩⟩
theorem k_static (K : Wk p l e R s m args below meth c Z a0 EL n0 y bytes maxL ret b T h locs cells slots) {i : Nat} {yy : MethodName} {yb : ByteArray} {yml : Nat} {yret : Option FieldType} {rm : Room} {SP : List Addr} {Q : Option Value → Heap → (Addr → Prop) → Prop} {ps : List FieldType} {r : Option FieldType} (argsL rest : List Value) (W : Nat) (wl : (Cond.methodLink y.cls i yy).before a0 Z = true) (ws : (Cond.static yy).before a0 Z = true) (wz : (Cond.initialized yy.cls).before a0 Z = true) (wc : (Cond.code yy yb yml yret).before a0 Z = true) (hy : yy.cls ≠ "java/lang/invoke/MethodHandle" ∧ yy.cls ≠ "java/lang/invoke/VarHandle") (hpd : parseMethodDescriptor yy.desc = some ⟨ps, r⟩) (C : Ct l Z EL n0 yy yb yml yret rm argsL.toArray h SP Q) (hd : decode bytes pc = .ok (.invokestatic i, 3)) (hSP : ∀ x ∈ SP, x < h.size ∧ Sfe Z EL b.vm h x) (hp : pc + 3 = pc') (hsz : Ls.size = maxL) (hlen : argsL.length = ps.length) (hst : st = argsL.reverse ++ rest) (hW : (rest.map fun v => v.category).sum ≤ W) (hfr : rm.frames + 1 ≤ R.frames) (hlo : W + (yml + 11) + rm.locals ≤ R.locals) (hce : cells + rm.cells ≤ R.cells) (hsl : slots + rm.slots ≤ R.slots) (k : ∀ b' T' h' locs' v, Wk p l e R s m args below meth c Z a0 EL n0 y bytes maxL ret b' T' h' locs' (cells + rm.cells) (slots + rm.slots) → (∀ x, x < h.size → Sfe Z EL b.vm h x → Sfe Z EL b'.vm h' x) → Q v h' (Sfe Z EL b'.vm h') → Goes p.tables e below P (T'.setTop (mkF m pc' Ls (v.toList ++ rest)))) : Goes p.tables e below P (T.setTop (mkF m pc Ls st)) := by
  subst hp
  obtain ⟨⟨vm0, k0, eb, g1, g2⟩, g3, g4⟩ := K.bs
  subst eb
  obtain ⟨v, vm1, ⟨T', L', c', n'⟩, -, X', hS', hsz', ⟨Lc, ⟨hF, hO', hQ⟩, l', y', z', hCH⟩, q⟩ := callSS K.X K.hx (yy := yy) K.hown (mvT K.hZ wl) (mvT K.hZ ws) (mvT K.hZ wz) (mvT K.hZ wc) hy (own_back (s := s) (vm0 := vm0) (W := W) C K.hZ wc wz hfr hlo g4 g3.1 hSP) (g := mkF m pc Ls st) rfl (hsz.trans K.hml.symm) (argsL := argsL) (rest := rest) (lenOf hpd hlen) hst (by show 2 * 0 + _ ≤ _; rw [Nat.mul_zero, Nat.zero_add]; exact hW) (hb K.hby hd) (fun _ _ => ⟨rfl, K.eT, hce, hsl⟩)
  dsimp only [Pt.U, Pt.locs, Pt.cells, Pt.slots] at X' l' y' z' q hQ hCH hS' hsz' hO'
  subst l' y' z'
  exact go (fun _ z => q.trans z) (k _ _ _ _ _ (wk_called K (b0 := (s.setVm vm0)) rfl X' hS' hsz' hCH hF hO') (fun x hx z => CHr.safe hCH hx z) hQ)
theorem k_staticP (K : Wk p l e R s m args below meth c Z a0 EL n0 y bytes maxL ret b T h locs cells slots) {i : Nat} {yy : MethodName} {yb : ByteArray} {yml : Nat} {yret : Option FieldType} {rm : Room} {SP : List Addr} {ps : List FieldType} {r : Option FieldType} (argsL rest : List Value) (W : Nat) (wl : (Cond.methodLink y.cls i yy).before a0 Z = true) (ws : (Cond.static yy).before a0 Z = true) (wz : (Cond.initialized yy.cls).before a0 Z = true) (wc : (Cond.code yy yb yml yret).before a0 Z = true) (hy : yy.cls ≠ "java/lang/invoke/MethodHandle" ∧ yy.cls ≠ "java/lang/invoke/VarHandle") (hpd : parseMethodDescriptor yy.desc = some ⟨ps, r⟩) {vv : Option Value} (C : Ct l Z EL n0 yy yb yml yret rm argsL.toArray h SP (Pu vv h)) (hd : decode bytes pc = .ok (.invokestatic i, 3)) (hSP : ∀ x ∈ SP, x < h.size ∧ Sfe Z EL b.vm h x) (hp : pc + 3 = pc') (hsz : Ls.size = maxL) (hlen : argsL.length = ps.length) (hst : st = argsL.reverse ++ rest) (hW : (rest.map fun v => v.category).sum ≤ W) (hfr : rm.frames + 1 ≤ R.frames) (hlo : W + (yml + 11) + rm.locals ≤ R.locals) (hce : cells + rm.cells ≤ R.cells) (hsl : slots + rm.slots ≤ R.slots) (k : ∀ b' T' locs', Wk p l e R s m args below meth c Z a0 EL n0 y bytes maxL ret b' T' h locs' (cells + rm.cells) (slots + rm.slots) → (∀ x, x < h.size → Sfe Z EL b.vm h x → Sfe Z EL b'.vm h x) → Goes p.tables e below P (T'.setTop (mkF m pc' Ls (vv.toList ++ rest)))) : Goes p.tables e below P (T.setTop (mkF m pc Ls st)) := k_static K argsL rest W wl ws wz wc hy hpd C hd hSP hp hsz hlen hst hW hfr hlo hce hsl (fun b' T' h' locs' v K' tr q => by obtain ⟨rfl, rfl⟩ := q; exact k _ _ _ K' tr)
theorem k_special (K : Wk p l e R s m args below meth c Z a0 EL n0 y bytes maxL ret b T h locs cells slots) {i : Nat} {yy : MethodName} {yb : ByteArray} {yml : Nat} {yret : Option FieldType} {rm : Room} {SP : List Addr} {Q : Option Value → Heap → (Addr → Prop) → Prop} {ps : List FieldType} {r : Option FieldType} (argsL rest : List Value) (W : Nat) {a : Addr} (wl : (Cond.methodLink y.cls i yy).before a0 Z = true) (wi : (Cond.instanceMethod yy).before a0 Z = true) (wz : (Cond.initialized yy.cls).before a0 Z = true) (wc : (Cond.code yy yb yml yret).before a0 Z = true) (hin : yy.name = "<init>") (hnr : yret = none) (hy : yy.cls ≠ "java/lang/invoke/MethodHandle" ∧ yy.cls ≠ "java/lang/invoke/VarHandle") (hpd : parseMethodDescriptor yy.desc = some ⟨ps, r⟩) (C : Ct l Z EL n0 yy yb yml yret rm (.ref a :: argsL).toArray h SP Q) (hd : decode bytes pc = .ok (.invokespecial i, 3)) (hSP : ∀ x ∈ SP, x < h.size ∧ Sfe Z EL b.vm h x) (hp : pc + 3 = pc') (hsz : Ls.size = maxL) (hlen : argsL.length = ps.length) (hst : st = argsL.reverse ++ .ref a :: rest) (hW : (rest.map fun v => v.category).sum ≤ W) (hfr : rm.frames + 1 ≤ R.frames) (hlo : W + (yml + 11) + rm.locals ≤ R.locals) (hce : cells + rm.cells ≤ R.cells) (hsl : slots + rm.slots ≤ R.slots) (k : ∀ b' T' h' locs' v, Wk p l e R s m args below meth c Z a0 EL n0 y bytes maxL ret b' T' h' locs' (cells + rm.cells) (slots + rm.slots) → (∀ x, x < h.size → Sfe Z EL b.vm h x → Sfe Z EL b'.vm h' x) → Q v h' (Sfe Z EL b'.vm h') → Goes p.tables e below P (T'.setTop (mkF m pc' Ls (v.toList ++ rest)))) : Goes p.tables e below P (T.setTop (mkF m pc Ls st)) := by
  subst hp
  subst hnr
  obtain ⟨⟨vm0, k0, eb, g1, g2⟩, g3, g4⟩ := K.bs
  subst eb
  obtain ⟨v, vm1, ⟨T', L', c', n'⟩, -, X', hS', hsz', ⟨Lc, ⟨hF, hO', hQ⟩, l', y', z', hCH⟩, q⟩ := K.X.specialBackS K.hx (y := yy) hin K.hown (mvT K.hZ wl) (mvT K.hZ wi) (mvT K.hZ wc) hy (own_back (s := s) (vm0 := vm0) (W := W) C K.hZ wc wz hfr hlo g4 g3.1 hSP) (g := mkF m pc Ls st) rfl (hsz.trans K.hml.symm) (Steps.refl _) (a := a) (argsL := argsL) (rest := rest) (lenOf hpd hlen) hst (by show 2 * 0 + _ ≤ _; rw [Nat.mul_zero, Nat.zero_add]; exact hW) (hb K.hby hd) (fun _ _ => ⟨rfl, K.eT, hce, hsl⟩)
  dsimp only [Pt.U, Pt.locs, Pt.cells, Pt.slots] at X' l' y' z' q hQ hCH hS' hsz' hO'
  subst l' y' z'
  exact go (fun _ z => q.trans z) (k _ _ _ _ _ (wk_called K (b0 := (s.setVm vm0)) rfl X' hS' hsz' hCH hF hO') (fun x hx z => CHr.safe hCH hx z) hQ)
theorem k_specialP (K : Wk p l e R s m args below meth c Z a0 EL n0 y bytes maxL ret b T h locs cells slots) {i : Nat} {yy : MethodName} {yb : ByteArray} {yml : Nat} {yret : Option FieldType} {rm : Room} {SP : List Addr} {ps : List FieldType} {r : Option FieldType} (argsL rest : List Value) (W : Nat) {a : Addr} (wl : (Cond.methodLink y.cls i yy).before a0 Z = true) (wi : (Cond.instanceMethod yy).before a0 Z = true) (wz : (Cond.initialized yy.cls).before a0 Z = true) (wc : (Cond.code yy yb yml yret).before a0 Z = true) (hin : yy.name = "<init>") (hnr : yret = none) (hy : yy.cls ≠ "java/lang/invoke/MethodHandle" ∧ yy.cls ≠ "java/lang/invoke/VarHandle") (hpd : parseMethodDescriptor yy.desc = some ⟨ps, r⟩) {vv : Option Value} (C : Ct l Z EL n0 yy yb yml yret rm (.ref a :: argsL).toArray h SP (Pu vv h)) (hd : decode bytes pc = .ok (.invokespecial i, 3)) (hSP : ∀ x ∈ SP, x < h.size ∧ Sfe Z EL b.vm h x) (hp : pc + 3 = pc') (hsz : Ls.size = maxL) (hlen : argsL.length = ps.length) (hst : st = argsL.reverse ++ .ref a :: rest) (hW : (rest.map fun v => v.category).sum ≤ W) (hfr : rm.frames + 1 ≤ R.frames) (hlo : W + (yml + 11) + rm.locals ≤ R.locals) (hce : cells + rm.cells ≤ R.cells) (hsl : slots + rm.slots ≤ R.slots) (k : ∀ b' T' locs', Wk p l e R s m args below meth c Z a0 EL n0 y bytes maxL ret b' T' h locs' (cells + rm.cells) (slots + rm.slots) → (∀ x, x < h.size → Sfe Z EL b.vm h x → Sfe Z EL b'.vm h x) → Goes p.tables e below P (T'.setTop (mkF m pc' Ls (vv.toList ++ rest)))) : Goes p.tables e below P (T.setTop (mkF m pc Ls st)) := k_special K argsL rest W wl wi wz wc hin hnr hy hpd C hd hSP hp hsz hlen hst hW hfr hlo hce hsl (fun b' T' h' locs' v K' tr q => by obtain ⟨rfl, rfl⟩ := q; exact k _ _ _ K' tr)
theorem k_virtual (K : Wk p l e R s m args below meth c Z a0 EL n0 y bytes maxL ret b T h locs cells slots) {i : Nat} {yy : MethodName} {yb : ByteArray} {yml : Nat} {yret : Option FieldType} {rm : Room} {SP : List Addr} {Q : Option Value → Heap → (Addr → Prop) → Prop} {ps : List FieldType} {r : Option FieldType} (argsL rest : List Value) (W : Nat) {a : Addr} {C0 : String} {yv : MethodName} (wl : (Cond.methodLink y.cls i yv).before a0 Z = true) (wd : (Cond.declares yv).before a0 Z = true) (wi : (Cond.instanceMethod yy).before a0 Z = true) (wse : (Cond.selects C0 yv yy).before a0 Z = true) (wz : (Cond.initialized yy.cls).before a0 Z = true) (wc : (Cond.code yy yb yml yret).before a0 Z = true) (hnf : NotFace b yv) (hvd : yv.desc = yy.desc) (hyv : yv.cls ≠ "java/lang/invoke/MethodHandle" ∧ yv.cls ≠ "java/lang/invoke/VarHandle") (E : Exa Z h a C0) (hy : yy.cls ≠ "java/lang/invoke/MethodHandle" ∧ yy.cls ≠ "java/lang/invoke/VarHandle") (hpd : parseMethodDescriptor yy.desc = some ⟨ps, r⟩) (C : Ct l Z EL n0 yy yb yml yret rm (.ref a :: argsL).toArray h SP Q) (hd : decode bytes pc = .ok (.invokevirtual i, 3)) (hSP : ∀ x ∈ SP, x < h.size ∧ Sfe Z EL b.vm h x) (hp : pc + 3 = pc') (hsz : Ls.size = maxL) (hlen : argsL.length = ps.length) (hst : st = argsL.reverse ++ .ref a :: rest) (hW : (rest.map fun v => v.category).sum ≤ W) (hfr : rm.frames + 1 ≤ R.frames) (hlo : W + (yml + 11) + rm.locals ≤ R.locals) (hce : cells + rm.cells ≤ R.cells) (hsl : slots + rm.slots ≤ R.slots) (k : ∀ b' T' h' locs' v, Wk p l e R s m args below meth c Z a0 EL n0 y bytes maxL ret b' T' h' locs' (cells + rm.cells) (slots + rm.slots) → (∀ x, x < h.size → Sfe Z EL b.vm h x → Sfe Z EL b'.vm h' x) → Q v h' (Sfe Z EL b'.vm h') → Goes p.tables e below P (T'.setTop (mkF m pc' Ls (v.toList ++ rest)))) : Goes p.tables e below P (T.setTop (mkF m pc Ls st)) := by
  subst hp
  obtain ⟨cq, kq, qa, qb, qc⟩ := isOf K.hZ K.eT E
  obtain ⟨⟨vm0, k0, eb, g1, g2⟩, g3, g4⟩ := K.bs
  subst eb
  obtain ⟨v, vm1, ⟨T', L', c', n'⟩, -, X', hS', hsz', ⟨Lc, ⟨hF, hO', hQ⟩, l', y', z', hCH⟩, q⟩ := K.X.virtualBackS K.hx (y := yv) (z := yy) K.hown (mvT K.hZ wl) (mvT K.hZ wd) hnf (mvT K.hZ wse) (mvT K.hZ wi) hyv (own_back (s := s) (vm0 := vm0) (W := W) C K.hZ wc wz hfr hlo g4 g3.1 hSP) qa qc (g := mkF m pc Ls st) rfl (hsz.trans K.hml.symm) (Steps.refl _) (argsL := argsL) (rest := rest) (lenOf (hvd ▸ hpd) hlen) hst (by show 2 * 0 + _ ≤ _; rw [Nat.mul_zero, Nat.zero_add]; exact hW) (hb K.hby hd) (fun _ _ => ⟨rfl, K.eT, hce, hsl⟩)
  dsimp only [Pt.U, Pt.locs, Pt.cells, Pt.slots] at X' l' y' z' q hQ hCH hS' hsz' hO'
  subst l' y' z'
  exact go (fun _ z => q.trans z) (k _ _ _ _ _ (wk_called K (b0 := (s.setVm vm0)) rfl X' hS' hsz' hCH hF hO') (fun x hx z => CHr.safe hCH hx z) hQ)
theorem k_virtualP (K : Wk p l e R s m args below meth c Z a0 EL n0 y bytes maxL ret b T h locs cells slots) {i : Nat} {yy : MethodName} {yb : ByteArray} {yml : Nat} {yret : Option FieldType} {rm : Room} {SP : List Addr} {ps : List FieldType} {r : Option FieldType} (argsL rest : List Value) (W : Nat) {a : Addr} {C0 : String} {yv : MethodName} (wl : (Cond.methodLink y.cls i yv).before a0 Z = true) (wd : (Cond.declares yv).before a0 Z = true) (wi : (Cond.instanceMethod yy).before a0 Z = true) (wse : (Cond.selects C0 yv yy).before a0 Z = true) (wz : (Cond.initialized yy.cls).before a0 Z = true) (wc : (Cond.code yy yb yml yret).before a0 Z = true) (hnf : NotFace b yv) (hvd : yv.desc = yy.desc) (hyv : yv.cls ≠ "java/lang/invoke/MethodHandle" ∧ yv.cls ≠ "java/lang/invoke/VarHandle") (E : Exa Z h a C0) (hy : yy.cls ≠ "java/lang/invoke/MethodHandle" ∧ yy.cls ≠ "java/lang/invoke/VarHandle") (hpd : parseMethodDescriptor yy.desc = some ⟨ps, r⟩) {vv : Option Value} (C : Ct l Z EL n0 yy yb yml yret rm (.ref a :: argsL).toArray h SP (Pu vv h)) (hd : decode bytes pc = .ok (.invokevirtual i, 3)) (hSP : ∀ x ∈ SP, x < h.size ∧ Sfe Z EL b.vm h x) (hp : pc + 3 = pc') (hsz : Ls.size = maxL) (hlen : argsL.length = ps.length) (hst : st = argsL.reverse ++ .ref a :: rest) (hW : (rest.map fun v => v.category).sum ≤ W) (hfr : rm.frames + 1 ≤ R.frames) (hlo : W + (yml + 11) + rm.locals ≤ R.locals) (hce : cells + rm.cells ≤ R.cells) (hsl : slots + rm.slots ≤ R.slots) (k : ∀ b' T' locs', Wk p l e R s m args below meth c Z a0 EL n0 y bytes maxL ret b' T' h locs' (cells + rm.cells) (slots + rm.slots) → (∀ x, x < h.size → Sfe Z EL b.vm h x → Sfe Z EL b'.vm h x) → Goes p.tables e below P (T'.setTop (mkF m pc' Ls (vv.toList ++ rest)))) : Goes p.tables e below P (T.setTop (mkF m pc Ls st)) := k_virtual K argsL rest W wl wd wi wse wz wc hnf hvd hyv E hy hpd C hd hSP hp hsz hlen hst hW hfr hlo hce hsl (fun b' T' h' locs' v K' tr q => by obtain ⟨rfl, rfl⟩ := q; exact k _ _ _ K' tr)
theorem own_sel {args args' : Array Value} {C0 : String} {yv yy : MethodName} (w : (Cond.selects C0 yv yy).before args b = true) : (Cond.selects C0 yv yy).before args' b = true := mvT (State.Warmed39.refl b) w
theorem own_priv (K : Wk p l e R s m args below meth c Z a0 EL n0 y bytes maxL ret b T h locs cells slots) {C0 : String} {n : Nat} {yy : MethodName} (hc0 : C0 = yy.cls) (wi : (Cond.instantiable C0 n).before a0 Z = true) (wim : (Cond.instanceMethod yy).before a0 Z = true) (wpr : (Cond.privateMethod yy).before a0 Z = true) (hy : yy.cls ≠ "java/lang/invoke/MethodHandle" ∧ yy.cls ≠ "java/lang/invoke/VarHandle") : (Cond.selects yy.cls yy yy).before a0 b = true := by
  subst hc0
  have q : (Cond.instantiable yy.cls n).before a0 b = true := mvT K.hZ wi
  obtain ⟨c, k, h1, h2, h3, h4, -⟩ := Cond.instantiable_spec q
  simp only [Bool.or_eq_false_iff] at h4
  exact selects_self_of_private h1 h2 h4.1 (Cond.privateMethod_at (mvP K.hZ wpr (args := #[]))) (mvT K.hZ wim) hy
theorem k_private (K : Wk p l e R s m args below meth c Z a0 EL n0 y bytes maxL ret b T h locs cells slots) {i : Nat} {yy : MethodName} {yb : ByteArray} {yml : Nat} {yret : Option FieldType} {rm : Room} {SP : List Addr} {Q : Option Value → Heap → (Addr → Prop) → Prop} {ps : List FieldType} {r : Option FieldType} (argsL rest : List Value) (W : Nat) {a : Addr} {C0 : String} (wl : (Cond.methodLink y.cls i yy).before a0 Z = true) (wi : (Cond.instanceMethod yy).before a0 Z = true) (wse : (Cond.selects yy.cls yy yy).before a0 b = true) (wpr : (Cond.privateMethod yy).before a0 Z = true) (wz : (Cond.initialized yy.cls).before a0 Z = true) (wc : (Cond.code yy yb yml yret).before a0 Z = true) (E : Exa Z h a C0) (hy : yy.cls ≠ "java/lang/invoke/MethodHandle" ∧ yy.cls ≠ "java/lang/invoke/VarHandle") (hpd : parseMethodDescriptor yy.desc = some ⟨ps, r⟩) (C : Ct l Z EL n0 yy yb yml yret rm (.ref a :: argsL).toArray h SP Q) (hd : decode bytes pc = .ok (.invokevirtual i, 3)) (hSP : ∀ x ∈ SP, x < h.size ∧ Sfe Z EL b.vm h x) (hp : pc + 3 = pc') (hsz : Ls.size = maxL) (hlen : argsL.length = ps.length) (hst : st = argsL.reverse ++ .ref a :: rest) (hW : (rest.map fun v => v.category).sum ≤ W) (hfr : rm.frames + 1 ≤ R.frames) (hlo : W + (yml + 11) + rm.locals ≤ R.locals) (hce : cells + rm.cells ≤ R.cells) (hsl : slots + rm.slots ≤ R.slots) (k : ∀ b' T' h' locs' v, Wk p l e R s m args below meth c Z a0 EL n0 y bytes maxL ret b' T' h' locs' (cells + rm.cells) (slots + rm.slots) → (∀ x, x < h.size → Sfe Z EL b.vm h x → Sfe Z EL b'.vm h' x) → Q v h' (Sfe Z EL b'.vm h') → Goes p.tables e below P (T'.setTop (mkF m pc' Ls (v.toList ++ rest)))) : Goes p.tables e below P (T.setTop (mkF m pc Ls st)) := by
  subst hp
  obtain ⟨cq, qa, qb⟩ := E.cell
  obtain ⟨⟨vm0, k0, eb, g1, g2⟩, g3, g4⟩ := K.bs
  subst eb
  obtain ⟨v, vm1, ⟨T', L', c', n'⟩, -, X', hS', hsz', ⟨Lc, ⟨hF, hO', hQ⟩, l', y', z', hCH⟩, q⟩ := K.X.privateBackS K.hx (y := yy) K.hown (mvT K.hZ wl) (mvT K.hZ wi) (own_sel wse) (Cond.privateMethod_at (mvP K.hZ wpr (args := #[]))) (mvT K.hZ wc) hy (own_back (s := s) (vm0 := vm0) (W := W) C K.hZ wc wz hfr hlo g4 g3.1 hSP) (g := mkF m pc Ls st) rfl (hsz.trans K.hml.symm) (Steps.refl _) (a := a) (by rw [K.eT]; exact qa) qb (argsL := argsL) (rest := rest) (lenOf hpd hlen) hst (by show 2 * 0 + _ ≤ _; rw [Nat.mul_zero, Nat.zero_add]; exact hW) (hb K.hby hd) (fun _ _ => ⟨rfl, K.eT, hce, hsl⟩)
  dsimp only [Pt.U, Pt.locs, Pt.cells, Pt.slots] at X' l' y' z' q hQ hCH hS' hsz' hO'
  subst l' y' z'
  exact go (fun _ z => q.trans z) (k _ _ _ _ _ (wk_called K (b0 := (s.setVm vm0)) rfl X' hS' hsz' hCH hF hO') (fun x hx z => CHr.safe hCH hx z) hQ)
theorem k_privateP (K : Wk p l e R s m args below meth c Z a0 EL n0 y bytes maxL ret b T h locs cells slots) {i : Nat} {yy : MethodName} {yb : ByteArray} {yml : Nat} {yret : Option FieldType} {rm : Room} {SP : List Addr} {ps : List FieldType} {r : Option FieldType} (argsL rest : List Value) (W : Nat) {a : Addr} {C0 : String} (wl : (Cond.methodLink y.cls i yy).before a0 Z = true) (wi : (Cond.instanceMethod yy).before a0 Z = true) (wse : (Cond.selects yy.cls yy yy).before a0 b = true) (wpr : (Cond.privateMethod yy).before a0 Z = true) (wz : (Cond.initialized yy.cls).before a0 Z = true) (wc : (Cond.code yy yb yml yret).before a0 Z = true) (E : Exa Z h a C0) (hy : yy.cls ≠ "java/lang/invoke/MethodHandle" ∧ yy.cls ≠ "java/lang/invoke/VarHandle") (hpd : parseMethodDescriptor yy.desc = some ⟨ps, r⟩) {vv : Option Value} (C : Ct l Z EL n0 yy yb yml yret rm (.ref a :: argsL).toArray h SP (Pu vv h)) (hd : decode bytes pc = .ok (.invokevirtual i, 3)) (hSP : ∀ x ∈ SP, x < h.size ∧ Sfe Z EL b.vm h x) (hp : pc + 3 = pc') (hsz : Ls.size = maxL) (hlen : argsL.length = ps.length) (hst : st = argsL.reverse ++ .ref a :: rest) (hW : (rest.map fun v => v.category).sum ≤ W) (hfr : rm.frames + 1 ≤ R.frames) (hlo : W + (yml + 11) + rm.locals ≤ R.locals) (hce : cells + rm.cells ≤ R.cells) (hsl : slots + rm.slots ≤ R.slots) (k : ∀ b' T' locs', Wk p l e R s m args below meth c Z a0 EL n0 y bytes maxL ret b' T' h locs' (cells + rm.cells) (slots + rm.slots) → (∀ x, x < h.size → Sfe Z EL b.vm h x → Sfe Z EL b'.vm h x) → Goes p.tables e below P (T'.setTop (mkF m pc' Ls (vv.toList ++ rest)))) : Goes p.tables e below P (T.setTop (mkF m pc Ls st)) := k_private K argsL rest W wl wi wse wpr wz wc E hy hpd C hd hSP hp hsz hlen hst hW hfr hlo hce hsl (fun b' T' h' locs' v K' tr q => by obtain ⟨rfl, rfl⟩ := q; exact k _ _ _ K' tr)
theorem k_interface (K : Wk p l e R s m args below meth c Z a0 EL n0 y bytes maxL ret b T h locs cells slots) {i : Nat} {yy : MethodName} {yb : ByteArray} {yml : Nat} {yret : Option FieldType} {rm : Room} {SP : List Addr} {Q : Option Value → Heap → (Addr → Prop) → Prop} {ps : List FieldType} {r : Option FieldType} (argsL rest : List Value) (W : Nat) {a : Addr} {C0 : String} {yv : MethodName} {cnt : Nat} (wl : (Cond.methodLink y.cls i yv).before a0 Z = true) (wd : (Cond.declares yv).before a0 Z = true) (wf : (Cond.interfaceMethod yv.cls yv.cls yv.name yv.desc).before args b = true) (wse : (Cond.selects C0 yv yy).before a0 Z = true) (wi : (Cond.instanceMethod yy).before a0 Z = true) (wpu : (Cond.publicMethod yy).before a0 Z = true) (wun : (Cond.unhidden C0 yv.name yv.desc).before a0 Z = true) (wca : (Cond.castable C0 yv.cls).before a0 Z = true) (wz : (Cond.initialized yy.cls).before a0 Z = true) (wc : (Cond.code yy yb yml yret).before a0 Z = true) (hvd : yv.desc = yy.desc) (hyv : yv.cls ≠ "java/lang/invoke/MethodHandle" ∧ yv.cls ≠ "java/lang/invoke/VarHandle") (E : Exa Z h a C0) (hy : yy.cls ≠ "java/lang/invoke/MethodHandle" ∧ yy.cls ≠ "java/lang/invoke/VarHandle") (hpd : parseMethodDescriptor yy.desc = some ⟨ps, r⟩) (C : Ct l Z EL n0 yy yb yml yret rm (.ref a :: argsL).toArray h SP Q) (hd : decode bytes pc = .ok (.invokeinterface i cnt, 5)) (hSP : ∀ x ∈ SP, x < h.size ∧ Sfe Z EL b.vm h x) (hp : pc + 5 = pc') (hsz : Ls.size = maxL) (hlen : argsL.length = ps.length) (hst : st = argsL.reverse ++ .ref a :: rest) (hW : (rest.map fun v => v.category).sum ≤ W) (hfr : rm.frames + 1 ≤ R.frames) (hlo : W + (yml + 11) + rm.locals ≤ R.locals) (hce : cells + rm.cells ≤ R.cells) (hsl : slots + rm.slots ≤ R.slots) (k : ∀ b' T' h' locs' v, Wk p l e R s m args below meth c Z a0 EL n0 y bytes maxL ret b' T' h' locs' (cells + rm.cells) (slots + rm.slots) → (∀ x, x < h.size → Sfe Z EL b.vm h x → Sfe Z EL b'.vm h' x) → Q v h' (Sfe Z EL b'.vm h') → Goes p.tables e below P (T'.setTop (mkF m pc' Ls (v.toList ++ rest)))) : Goes p.tables e below P (T.setTop (mkF m pc Ls st)) := by
  subst hp
  obtain ⟨cq, kq, qa, qb, qc⟩ := isOf K.hZ K.eT E
  obtain ⟨⟨vm0, k0, eb, g1, g2⟩, g3, g4⟩ := K.bs
  subst eb
  obtain ⟨v, vm1, ⟨T', L', c', n'⟩, -, X', hS', hsz', ⟨Lc, ⟨hF, hO', hQ⟩, l', y', z', hCH⟩, q⟩ := K.X.interfaceBackS K.hx (xi := yv) (y := yy) K.hown (mvT K.hZ wl) (mvT K.hZ wd) wf (mvT K.hZ wse) (mvT K.hZ wi) (mvT K.hZ wpu) (mvT K.hZ wun) (mvT K.hZ wca) hyv (own_back (s := s) (vm0 := vm0) (W := W) C K.hZ wc wz hfr hlo g4 g3.1 hSP) qa qb qc (g := mkF m pc Ls st) rfl (hsz.trans K.hml.symm) (Steps.refl _) (argsL := argsL) (rest := rest) (lenOf (hvd ▸ hpd) hlen) hst (by show 2 * 0 + _ ≤ _; rw [Nat.mul_zero, Nat.zero_add]; exact hW) (hb K.hby hd) (fun _ _ => ⟨rfl, K.eT, hce, hsl⟩)
  dsimp only [Pt.U, Pt.locs, Pt.cells, Pt.slots] at X' l' y' z' q hQ hCH hS' hsz' hO'
  subst l' y' z'
  exact go (fun _ z => q.trans z) (k _ _ _ _ _ (wk_called K (b0 := (s.setVm vm0)) rfl X' hS' hsz' hCH hF hO') (fun x hx z => CHr.safe hCH hx z) hQ)
theorem k_interfaceP (K : Wk p l e R s m args below meth c Z a0 EL n0 y bytes maxL ret b T h locs cells slots) {i : Nat} {yy : MethodName} {yb : ByteArray} {yml : Nat} {yret : Option FieldType} {rm : Room} {SP : List Addr} {ps : List FieldType} {r : Option FieldType} (argsL rest : List Value) (W : Nat) {a : Addr} {C0 : String} {yv : MethodName} {cnt : Nat} (wl : (Cond.methodLink y.cls i yv).before a0 Z = true) (wd : (Cond.declares yv).before a0 Z = true) (wf : (Cond.interfaceMethod yv.cls yv.cls yv.name yv.desc).before args b = true) (wse : (Cond.selects C0 yv yy).before a0 Z = true) (wi : (Cond.instanceMethod yy).before a0 Z = true) (wpu : (Cond.publicMethod yy).before a0 Z = true) (wun : (Cond.unhidden C0 yv.name yv.desc).before a0 Z = true) (wca : (Cond.castable C0 yv.cls).before a0 Z = true) (wz : (Cond.initialized yy.cls).before a0 Z = true) (wc : (Cond.code yy yb yml yret).before a0 Z = true) (hvd : yv.desc = yy.desc) (hyv : yv.cls ≠ "java/lang/invoke/MethodHandle" ∧ yv.cls ≠ "java/lang/invoke/VarHandle") (E : Exa Z h a C0) (hy : yy.cls ≠ "java/lang/invoke/MethodHandle" ∧ yy.cls ≠ "java/lang/invoke/VarHandle") (hpd : parseMethodDescriptor yy.desc = some ⟨ps, r⟩) {vv : Option Value} (C : Ct l Z EL n0 yy yb yml yret rm (.ref a :: argsL).toArray h SP (Pu vv h)) (hd : decode bytes pc = .ok (.invokeinterface i cnt, 5)) (hSP : ∀ x ∈ SP, x < h.size ∧ Sfe Z EL b.vm h x) (hp : pc + 5 = pc') (hsz : Ls.size = maxL) (hlen : argsL.length = ps.length) (hst : st = argsL.reverse ++ .ref a :: rest) (hW : (rest.map fun v => v.category).sum ≤ W) (hfr : rm.frames + 1 ≤ R.frames) (hlo : W + (yml + 11) + rm.locals ≤ R.locals) (hce : cells + rm.cells ≤ R.cells) (hsl : slots + rm.slots ≤ R.slots) (k : ∀ b' T' locs', Wk p l e R s m args below meth c Z a0 EL n0 y bytes maxL ret b' T' h locs' (cells + rm.cells) (slots + rm.slots) → (∀ x, x < h.size → Sfe Z EL b.vm h x → Sfe Z EL b'.vm h x) → Goes p.tables e below P (T'.setTop (mkF m pc' Ls (vv.toList ++ rest)))) : Goes p.tables e below P (T.setTop (mkF m pc Ls st)) := k_interface K argsL rest W wl wd wf wse wi wpu wun wca wz wc hvd hyv E hy hpd C hd hSP hp hsz hlen hst hW hfr hlo hce hsl (fun b' T' h' locs' v K' tr q => by obtain ⟨rfl, rfl⟩ := q; exact k _ _ _ K' tr)
theorem k_super (K : Wk p l e R s m args below meth c Z a0 EL n0 y bytes maxL ret b T h locs cells slots) {i : Nat} {yy : MethodName} {yb : ByteArray} {yml : Nat} {yret : Option FieldType} {rm : Room} {SP : List Addr} {Q : Option Value → Heap → (Addr → Prop) → Prop} {ps : List FieldType} {r : Option FieldType} (argsL rest : List Value) (W : Nat) {a : Addr} {C0 : String} (wl : (Cond.methodLink y.cls i yy).before a0 Z = true) (wsm : (Cond.sameMethod yy.cls yy.cls yy.name yy.desc).before a0 Z = true) (wi : (Cond.instanceMethod yy).before a0 Z = true) (wsu : (Cond.superclass y.cls yy.cls).before a0 Z = true) (hni : yy.name ≠ "<init>") (wz : (Cond.initialized yy.cls).before a0 Z = true) (wc : (Cond.code yy yb yml yret).before a0 Z = true) (E : Ins Z h a C0 true) (hy : yy.cls ≠ "java/lang/invoke/MethodHandle" ∧ yy.cls ≠ "java/lang/invoke/VarHandle") (hpd : parseMethodDescriptor yy.desc = some ⟨ps, r⟩) (C : Ct l Z EL n0 yy yb yml yret rm (.ref a :: argsL).toArray h SP Q) (hd : decode bytes pc = .ok (.invokespecial i, 3)) (hSP : ∀ x ∈ SP, x < h.size ∧ Sfe Z EL b.vm h x) (hp : pc + 3 = pc') (hsz : Ls.size = maxL) (hlen : argsL.length = ps.length) (hst : st = argsL.reverse ++ .ref a :: rest) (hW : (rest.map fun v => v.category).sum ≤ W) (hfr : rm.frames + 1 ≤ R.frames) (hlo : W + (yml + 11) + rm.locals ≤ R.locals) (hce : cells + rm.cells ≤ R.cells) (hsl : slots + rm.slots ≤ R.slots) (k : ∀ b' T' h' locs' v, Wk p l e R s m args below meth c Z a0 EL n0 y bytes maxL ret b' T' h' locs' (cells + rm.cells) (slots + rm.slots) → (∀ x, x < h.size → Sfe Z EL b.vm h x → Sfe Z EL b'.vm h' x) → Q v h' (Sfe Z EL b'.vm h') → Goes p.tables e below P (T'.setTop (mkF m pc' Ls (v.toList ++ rest)))) : Goes p.tables e below P (T.setTop (mkF m pc Ls st)) := by
  subst hp
  obtain ⟨⟨vm0, k0, eb, g1, g2⟩, g3, g4⟩ := K.bs
  subst eb
  obtain ⟨v, vm1, ⟨T', L', c', n'⟩, -, X', hS', hsz', ⟨Lc, ⟨hF, hO', hQ⟩, l', y', z', hCH⟩, q⟩ := superBackS K.X K.hx K.hZ (y := yy) K.hown wl wsm wi wsu hni (own_back (s := s) (vm0 := vm0) (W := W) C K.hZ wc wz hfr hlo g4 g3.1 hSP) K.eT E (g := mkF m pc Ls st) rfl (hsz.trans K.hml.symm) wc (argsL := argsL) (rest := rest) (lenOf hpd hlen) hst (by show 2 * 0 + _ ≤ _; rw [Nat.mul_zero, Nat.zero_add]; exact hW) (hb K.hby hd) (fun _ _ => ⟨rfl, K.eT, hce, hsl⟩)
  dsimp only [Pt.U, Pt.locs, Pt.cells, Pt.slots] at X' l' y' z' q hQ hCH hS' hsz' hO'
  subst l' y' z'
  exact go (fun _ z => q.trans z) (k _ _ _ _ _ (wk_called K (b0 := (s.setVm vm0)) rfl X' hS' hsz' hCH hF hO') (fun x hx z => CHr.safe hCH hx z) hQ)
theorem k_superP (K : Wk p l e R s m args below meth c Z a0 EL n0 y bytes maxL ret b T h locs cells slots) {i : Nat} {yy : MethodName} {yb : ByteArray} {yml : Nat} {yret : Option FieldType} {rm : Room} {SP : List Addr} {ps : List FieldType} {r : Option FieldType} (argsL rest : List Value) (W : Nat) {a : Addr} {C0 : String} (wl : (Cond.methodLink y.cls i yy).before a0 Z = true) (wsm : (Cond.sameMethod yy.cls yy.cls yy.name yy.desc).before a0 Z = true) (wi : (Cond.instanceMethod yy).before a0 Z = true) (wsu : (Cond.superclass y.cls yy.cls).before a0 Z = true) (hni : yy.name ≠ "<init>") (wz : (Cond.initialized yy.cls).before a0 Z = true) (wc : (Cond.code yy yb yml yret).before a0 Z = true) (E : Ins Z h a C0 true) (hy : yy.cls ≠ "java/lang/invoke/MethodHandle" ∧ yy.cls ≠ "java/lang/invoke/VarHandle") (hpd : parseMethodDescriptor yy.desc = some ⟨ps, r⟩) {vv : Option Value} (C : Ct l Z EL n0 yy yb yml yret rm (.ref a :: argsL).toArray h SP (Pu vv h)) (hd : decode bytes pc = .ok (.invokespecial i, 3)) (hSP : ∀ x ∈ SP, x < h.size ∧ Sfe Z EL b.vm h x) (hp : pc + 3 = pc') (hsz : Ls.size = maxL) (hlen : argsL.length = ps.length) (hst : st = argsL.reverse ++ .ref a :: rest) (hW : (rest.map fun v => v.category).sum ≤ W) (hfr : rm.frames + 1 ≤ R.frames) (hlo : W + (yml + 11) + rm.locals ≤ R.locals) (hce : cells + rm.cells ≤ R.cells) (hsl : slots + rm.slots ≤ R.slots) (k : ∀ b' T' locs', Wk p l e R s m args below meth c Z a0 EL n0 y bytes maxL ret b' T' h locs' (cells + rm.cells) (slots + rm.slots) → (∀ x, x < h.size → Sfe Z EL b.vm h x → Sfe Z EL b'.vm h x) → Goes p.tables e below P (T'.setTop (mkF m pc' Ls (vv.toList ++ rest)))) : Goes p.tables e below P (T.setTop (mkF m pc Ls st)) := k_super K argsL rest W wl wsm wi wsu hni wz wc E hy hpd C hd hSP hp hsz hlen hst hW hfr hlo hce hsl (fun b' T' h' locs' v K' tr q => by obtain ⟨rfl, rfl⟩ := q; exact k _ _ _ K' tr)
theorem k_initO (K : Wk p l e R s m args below meth c Z a0 EL n0 y bytes maxL ret b T h locs cells slots) {i : Nat} {a : Addr} (wl : (Cond.methodLink y.cls i Lib.objectInit).before a0 Z = true) (wi : (Cond.instanceMethod Lib.objectInit).before a0 Z = true) (wc : (Cond.code Lib.objectInit ⟨#[0xb1]⟩ 1 none).before a0 Z = true) (hd : decode bytes pc = .ok (.invokespecial i, 3)) (hp : pc + 3 = pc') (hsz : Ls.size = maxL) (hfr : 1 ≤ R.frames) (W : Nat) (hW : (st.map fun v => v.category).sum ≤ W) (hlo : W + 12 ≤ R.locals) (k : ∀ T', Wk p l e R s m args below meth c Z a0 EL n0 y bytes maxL ret b T' h locs cells slots → Goes p.tables e below P (T'.setTop (mkF m pc' Ls st))) : Goes p.tables e below P (T.setTop (mkF m pc Ls (.ref a :: st))) := by
  subst hp
  obtain ⟨T', X', e', q⟩ := initO K.X K.hx K.hZ K.hown wl wi wc K.eT (g := mkF m pc Ls (.ref a :: st)) rfl (hsz.trans K.hml.symm) rfl (hb K.hby hd) hfr (W := W) (by show 2 * 0 + _ ≤ _; rw [Nat.mul_zero, Nat.zero_add]; exact hW) hlo
  exact go q (k T' (K.move X' e' K.fr K.old K.bs))
theorem k_ldcS (K : Wk p l e R s m args below meth c Z a0 EL n0 y bytes maxL ret b T h locs cells slots) {i : Nat} {text : String} {vs : List Value} {z : Int32} (wd : (Cond.stringLink y.cls i text).before a0 Z = true) (wS : ∀ a ∈ Bundle.stringAtoms, a.before a0 Z = true) (hmem : (y.cls, i) ∈ EL) (ht : (∀ c ∈ text.toList, c.toNat < 256) ∧ text.toList.map (fun c => Value.int (Jvm.Lit.byteI c.toNat.toUInt16)) = vs) (hz : ¬ z < 0) (hl : z.toNatClampNeg = vs.length) (n : Nat) (hn : 4 * text.toList.length ≤ n) (hbig : n ≤ 536870912) (hd : decode bytes pc = .ok (.ldc i, 2)) (hp : pc + 2 = pc') (hce : cells + 2 ≤ R.cells) (hsl : slots + (n + 4) ≤ R.slots) (k : ∀ b' T' h' a d kd, Wk p l e R s m args below meth c Z a0 EL n0 y bytes maxL ret b' T' h' locs (cells + 2) (slots + (n + 4)) → Ext h h' → (∀ x, x < h.size → Sfe Z EL b.vm h x → Sfe Z EL b'.vm h' x) → Exa Z h' a "java/lang/String" → Fld Z h' a "java/lang/String" "coder" "B" (.int 0) → Fld Z h' a "java/lang/String" "value" "[B" (.ref d) → Arv Z h' d kd .byte z vs (.int 0) → (∀ x, Sfe Z EL b'.vm h' x → x ≠ a ∧ x ≠ d) → Goes p.tables e below P (T'.setTop (mkF m pc' Ls (.ref a :: st)))) : Goes p.tables e below P (T.setTop (mkF m pc Ls st)) := by
  subst hp
  obtain ⟨⟨vm0, k0, eb, g1, g2⟩, g3, g4⟩ := K.bs
  subst eb
  obtain ⟨a, T', h', k1, d, kd, X', e', E', hS', hk1, hW, hf, A1, A2, A3, A4, -, -, hCr, -, hne, q⟩ := ldcCH K.X K.hx K.hZ K.hown wd wS K.eT g1 g2 g4 hmem g3.1 ht hz hl (g := mkF m pc Ls st) rfl (hb K.hby hd) hn hbig hce hsl
  exact go q (k (s.setVm T'.vm) T' h' a d kd ⟨X', e', K.fr, K.hx, hW, hf, K.hby, K.hml, K.hret, K.hlk, K.hnm, K.old.ext E', ⟨⟨T'.vm, k1, rfl, hS', hk1⟩, g3.trans hCr, g4⟩⟩ E' (fun x hx z => CHr.safe hCr hx z) A1 A2 A3 A4 hne)
theorem k_ldcO (K : Wk p l e R s m args below meth c Z a0 EL n0 y bytes maxL ret b T h locs cells slots) {i : Nat} {text : String} (wd : (Cond.stringLink y.cls i text).before a0 Z = true) (wS : ∀ a ∈ Bundle.stringAtoms, a.before a0 Z = true) (n : Nat) (hn : 4 * text.toList.length ≤ n) (hbig : n ≤ 536870912) (hd : decode bytes pc = .ok (.ldc i, 2)) (hp : pc + 2 = pc') (hce : cells + 2 ≤ R.cells) (hsl : slots + (n + 4) ≤ R.slots) (k : ∀ b' T' h' a, Wk p l e R s m args below meth c Z a0 EL n0 y bytes maxL ret b' T' h' locs (cells + 2) (slots + (n + 4)) → Ext h h' → (∀ x, x < h.size → Sfe Z EL b.vm h x → Sfe Z EL b'.vm h' x) → Goes p.tables e below P (T'.setTop (mkF m pc' Ls (.ref a :: st)))) : Goes p.tables e below P (T.setTop (mkF m pc Ls st)) := by
  subst hp
  obtain ⟨⟨vm0, k0, eb, g1, g2⟩, g3, g4⟩ := K.bs
  subst eb
  obtain ⟨a, T', h', k1, X', e', E', hS', hk1, hW, hf, hCr, -, q⟩ := ldcOH K.X K.hx K.hZ K.hown wd wS K.eT g1 g2 g4 g3.1 (g := mkF m pc Ls st) rfl (hb K.hby hd) hn hbig hce hsl
  exact go q (k (s.setVm T'.vm) T' h' a ⟨X', e', K.fr, K.hx, hW, hf, K.hby, K.hml, K.hret, K.hlk, K.hnm, K.old.ext E', ⟨⟨T'.vm, k1, rfl, hS', hk1⟩, g3.trans hCr, g4⟩⟩ E' (fun x hx z => CHr.safe hCr hx z))
end Own
abbrev Tb (a0 : Array Value) (Z : State) : Prop := ∀ d ∈ tables_1, d.before a0 Z = true
def EL0 : List (String × Nat) := consts_1
theorem own_refc {v : Value} (h : v.isRef = true) : v = .null ∨ ∃ r, v = .ref r := by cases v <;> simp_all [Value.isRef]
theorem own_n0 {Z : State} {n0 : Nat} {h : Heap} (O : Old Z n0 h) : n0 ≤ h.size := O.1 ▸ O.2.1
theorem own_ne {x a : Addr} {h : Heap} (q : x < h.size) (g : a = h.size) : x ≠ a := fun e => by rw [e, g] at q; exact Nat.lt_irrefl _ q
theorem own_ne2 {x a : Addr} {h : Heap} (q : x < h.size) (g : h.size ≤ a) : x ≠ a := Nat.ne_of_lt (Nat.lt_of_lt_of_le q g)
theorem own_old {Z : State} {n0 : Nat} {h : Heap} {a : Addr} (O : Old Z n0 h) (g : a = h.size) : n0 ≤ a := g ▸ own_n0 O
def Str (Z : State) (h : Heap) (a b : Addr) (k : ClassId) (cd z : Int32) (vs : List Value) : Prop := Exa Z h a "java/lang/String" ∧ Fld Z h a "java/lang/String" "coder" "B" (.int cd) ∧ Fld Z h a "java/lang/String" "value" "[B" (.ref b) ∧ Arv Z h b k .byte z vs (.int 0)
section StrFacts
variable {Z : State} {h h' : Heap} {a b x : Addr} {k : ClassId} {cd z : Int32} {vs : List Value} {sl : Nat} {v : Value} {ws : List Addr}
theorem Str.ext (S : Str Z h a b k cd z vs) (E : Ext h h') : Str Z h' a b k cd z vs := ⟨S.1.ext E, S.2.1.ext E, S.2.2.1.ext E, S.2.2.2.ext E⟩
theorem Str.keep (S : Str Z h a b k cd z vs) (K : Keep h h' ws) (q1 : a ∉ ws) (q2 : b ∉ ws) : Str Z h' a b k cd z vs := ⟨S.1.keep K, S.2.1.keep K q1, S.2.2.1.keep K q1, S.2.2.2.keep K q2⟩
theorem Str.other (S : Str Z h a b k cd z vs) (W : Wr h h' x sl v) (q1 : a ≠ x) (q2 : b ≠ x) : Str Z h' a b k cd z vs := ⟨S.1.wr W, S.2.1.other W (Or.inl q1), S.2.2.1.other W (Or.inl q1), S.2.2.2.other W q2⟩
theorem Str.lt (S : Str Z h a b k cd z vs) : a < h.size := S.1.lt
theorem Str.blt (S : Str Z h a b k cd z vs) : b < h.size := S.2.2.2.lt
end StrFacts
theorem own_i32 {a b : Int32} : a < b ↔ a.toInt < b.toInt := Int32.lt_iff_toInt_lt
theorem own_i32e {a b : Int32} (h : a.toInt = b.toInt) : a = b := Int32.toInt_inj.mp h
theorem own_0 : (0 : Int32).toInt = 0 := by decide
theorem own_1 : (1 : Int32).toInt = 1 := by decide
theorem own_255 : (255 : Int32).toInt = 255 := by decide
theorem own_add1 {i : Int32} {n : Nat} (h : i.toInt = n) (hn : n < 2147483647) : (i + 1).toInt = (n + 1 : Nat) := by
  rw [XT.add32 (by rw [h, own_1]; constructor <;> omega), h, own_1]; omega
theorem own_clamp {i : Int32} {n : Nat} (h : i.toInt = n) : i.toNatClampNeg = n := by rw [Int32.toNatClampNeg, h]; rfl
theorem own_in {i z : Int32} {n m : Nat} (h : i.toInt = n) (hz : z.toInt = m) (q : n < m) : ¬ i < 0 ∧ i < z := by
  rw [own_i32, own_i32, h, hz, own_0]; omega
def byteV (c : Int32) : Value := .int c.toInt8.toInt32
def preN : List Int32 → Nat
  | [] => 0
  | c :: t => if (255 : Int32) < c then 0 else preN t + 1
def fillL (cs : List Int32) (i : Nat) : List Value := (cs.take i).map byteV ++ List.replicate (cs.length - i) (.int 0)
theorem fillL_len (cs : List Int32) (i : Nat) (h : i ≤ cs.length) : (fillL cs i).length = cs.length := by simp [fillL]; omega
theorem fillL_zero (cs : List Int32) : fillL cs 0 = List.replicate cs.length (.int 0) := by simp [fillL]
theorem fillL_set (cs : List Int32) (i : Nat) (h : i < cs.length) : (fillL cs i).set i (byteV cs[i]) = fillL cs (i + 1) := by
  apply List.ext_getElem?
  intro j
  have e1 : (List.take i (List.map byteV cs)).length = i := by simp; omega
  simp only [fillL, List.getElem?_set, List.map_take, List.getElem?_append, List.length_take, List.length_map, List.getElem?_take, List.getElem?_map, List.getElem?_replicate, List.length_append, List.length_replicate]
  rcases Nat.lt_trichotomy j i with q | q | q
  · simp [show ¬ i = j by omega, show j < i by omega, show j < i + 1 by omega, show j < cs.length by omega, show i < cs.length by omega, Nat.min_eq_left (show i ≤ cs.length by omega), Nat.min_eq_left (show i + 1 ≤ cs.length by omega)]
  · subst q; simp [h, Nat.min_eq_left (show j ≤ cs.length by omega), Nat.min_eq_left (show j + 1 ≤ cs.length by omega)]; omega
  · simp [show ¬ i = j by omega, show ¬ j < i by omega, show ¬ j < i + 1 by omega, Nat.min_eq_left (show i ≤ cs.length by omega), Nat.min_eq_left (show i + 1 ≤ cs.length by omega), show ¬ j < i from by omega]
    congr 1
    apply propext; omega
theorem preN_le : ∀ cs : List Int32, preN cs ≤ cs.length
  | [] => Nat.le_refl _
  | c :: t => by unfold preN; split <;> simp; exact preN_le t
theorem preN_at : ∀ (cs : List Int32) (i : Nat) (h : i < cs.length), (∀ j (hj : j < i), ¬ (255 : Int32) < cs[j]) → (255 : Int32) < cs[i] → preN cs = i
  | c :: t, 0, h, _, q => by unfold preN; exact if_pos q
  | c :: t, i + 1, h, hl, q => by
    unfold preN
    have h0 : ¬ (255 : Int32) < c := hl 0 (by omega)
    rw [if_neg h0, preN_at t i (by simpa using h) (fun j hj => hl (j + 1) (by omega)) q]
theorem preN_all : ∀ (cs : List Int32), (∀ j (hj : j < cs.length), ¬ (255 : Int32) < cs[j]) → preN cs = cs.length
  | [], _ => rfl
  | c :: t, h => by
    have h0 : ¬ (255 : Int32) < c := h 0 (by simp)
    unfold preN; rw [if_neg h0, preN_all t fun j hj => h (j + 1) (by simpa using hj)]; rfl
theorem own_byte (c : Int32) : nar .byte c.toInt8.toInt32 = c.toInt8.toInt32 := by simp [nar]
theorem own_getD (cs : List Int32) (i : Nat) (h : i < cs.length) : (cs.map Value.int).getD i (.int 0) = .int cs[i] := by simp [List.getD_eq_getElem?_getD, h]
theorem d_jdk_52_method_21_code_0 : decode jdk_52_method_21_code 0 = .ok (.iconst 0, 1) := by decide +kernel
theorem d_jdk_52_method_21_code_1 : decode jdk_52_method_21_code 1 = .ok (.istore 5, 2) := by decide +kernel
theorem d_jdk_52_method_21_code_3 : decode jdk_52_method_21_code 3 = .ok (.iload 5, 2) := by decide +kernel
theorem d_jdk_52_method_21_code_5 : decode jdk_52_method_21_code 5 = .ok (.iload 4, 2) := by decide +kernel
theorem d_jdk_52_method_21_code_7 : decode jdk_52_method_21_code 7 = .ok (.if_icmp .ge 37, 3) := by decide +kernel
theorem d_jdk_52_method_21_code_44 : decode jdk_52_method_21_code 44 = .ok (.iload 4, 2) := by decide +kernel
theorem d_jdk_52_method_21_code_46 : decode jdk_52_method_21_code 46 = .ok (.ireturn, 1) := by decide +kernel
theorem d_jdk_52_method_21_code_10 : decode jdk_52_method_21_code 10 = .ok (.aload_n 0, 1) := by decide +kernel
theorem d_jdk_52_method_21_code_11 : decode jdk_52_method_21_code 11 = .ok (.iload_n 1, 1) := by decide +kernel
theorem d_jdk_52_method_21_code_12 : decode jdk_52_method_21_code 12 = .ok (.caload, 1) := by decide +kernel
theorem d_jdk_52_method_21_code_13 : decode jdk_52_method_21_code 13 = .ok (.istore 6, 2) := by decide +kernel
theorem d_jdk_52_method_21_code_15 : decode jdk_52_method_21_code 15 = .ok (.iload 6, 2) := by decide +kernel
theorem d_jdk_52_method_21_code_17 : decode jdk_52_method_21_code 17 = .ok (.sipush 255, 3) := by decide +kernel
theorem d_jdk_52_method_21_code_20 : decode jdk_52_method_21_code 20 = .ok (.if_icmp .le 6, 3) := by decide +kernel
theorem d_jdk_52_method_21_code_26 : decode jdk_52_method_21_code 26 = .ok (.aload_n 2, 1) := by decide +kernel
theorem d_jdk_52_method_21_code_27 : decode jdk_52_method_21_code 27 = .ok (.iload_n 3, 1) := by decide +kernel
theorem d_jdk_52_method_21_code_28 : decode jdk_52_method_21_code 28 = .ok (.iload 6, 2) := by decide +kernel
theorem d_jdk_52_method_21_code_30 : decode jdk_52_method_21_code 30 = .ok (.i2b, 1) := by decide +kernel
theorem d_jdk_52_method_21_code_31 : decode jdk_52_method_21_code 31 = .ok (.bastore, 1) := by decide +kernel
theorem d_jdk_52_method_21_code_32 : decode jdk_52_method_21_code 32 = .ok (.iinc 1 1, 3) := by decide +kernel
theorem d_jdk_52_method_21_code_35 : decode jdk_52_method_21_code 35 = .ok (.iinc 3 1, 3) := by decide +kernel
theorem d_jdk_52_method_21_code_38 : decode jdk_52_method_21_code 38 = .ok (.iinc 5 1, 3) := by decide +kernel
theorem d_jdk_52_method_21_code_41 : decode jdk_52_method_21_code 41 = .ok (.goto (-38), 3) := by decide +kernel
theorem d_jdk_52_method_21_code_23 : decode jdk_52_method_21_code 23 = .ok (.iload 5, 2) := by decide +kernel
theorem d_jdk_52_method_21_code_25 : decode jdk_52_method_21_code 25 = .ok (.ireturn, 1) := by decide +kernel
theorem pl_java_lang_StringUTF16 : plainName "java/lang/StringUTF16" = true := by first | (simp [plainName, overriddenIn]; done) | decide +kernel
set_option maxRecDepth 65536 in
set_option maxHeartbeats 40000000 in
theorem c_compress5 (l : Launch) (Z : State) (a0 : Array Value) (hw : Tb a0 Z) (hEW : EW Z a0 EL0) (n0 : Nat) (va d : Addr) (kv kd : ClassId) (n : Int32) (cs : List Int32) (h0 : Heap) (O : Old Z n0 h0) (hn : n.toInt = cs.length) (hb : cs.length ≤ 4000) (V1 : Arv Z h0 va kv .char n (cs.map Value.int) (.int 0)) (V2 : Arv Z h0 d kd .byte n (List.replicate cs.length (.int 0)) (.int 0)) (ne_va_d : va ≠ d) (ga_d : n0 ≤ d) :
    Ct l Z EL0 n0 (⟨"java/lang/StringUTF16", "compress", "([CI[BII)I"⟩ : MethodName) jdk_52_method_21_code 7 (some .int) ({ frames := 0, cells := 0, slots := 0, locals := 0 } : Room) #[(.ref va), (.int (0 : Int32)), (.ref d), (.int (0 : Int32)), (.int n)] h0 [d] (fun v h _ => v = some (.int (Int32.ofNat (preN cs))) ∧ Keep h0 h [d] ∧ Arv Z h d kd .byte n (fillL cs (preN cs)) (.int 0)) := by
  refine Ct.of (a0 := a0) #[.val (.ref va), .val (.int (0 : Int32)), .val (.ref d), .val (.int (0 : Int32)), .val (.int n), .unset, .unset] hEW O (plainFor_of_name pl_java_lang_StringUTF16) (fun m => by first | (simp [entryFrame, mkF, argsToLocals, Value.category]; done) | rfl) ?_
  intro p_ e_ s_ m_ below_ meth_ c_ b_ T_ K hSP
  refine k_iconst K (0 : Int32) d_jdk_52_method_21_code_0 (pc' := 1) rfl rfl ?_
  refine k_istore K d_jdk_52_method_21_code_1 (pc' := 3) (L' := #[.val (.ref va), .val (.int (0 : Int32)), .val (.ref d), .val (.int (0 : Int32)), .val (.int n), .val (.int (0 : Int32)), .unset]) rfl rfl ?_
  have LOOP : ∀ (k : Nat) (i : Int32) (j : Nat) (hj : i.toInt = j) (hk : j + k = cs.length) (hlow : ∀ x (hx : x < j), ¬ (255 : Int32) < cs[x]) (s6 : Slot) (hs6 : s6 = .unset ∨ ∃ w, s6 = .val (.int w)) (bl Tl : State) (hl : Heap) (Ll : List Loc), Wk p_ l e_ ({ frames := 0, cells := 0, slots := 0, locals := 0 } : Room) s_ m_ #[(.ref va), (.int (0 : Int32)), (.ref d), (.int (0 : Int32)), (.int n)] below_ meth_ c_ Z a0 EL0 n0 (⟨"java/lang/StringUTF16", "compress", "([CI[BII)I"⟩ : MethodName) jdk_52_method_21_code 7 (some .int) bl Tl hl Ll 0 0 → (Keep h0 hl [d]) → (Arv Z hl va kv .char n (cs.map Value.int) (.int 0)) → (Arv Z hl d kd .byte n (fillL cs j) (.int 0)) → (Sfe Z EL0 bl.vm hl d) → Goes p_.tables e_ below_ (FinW Z EL0 s_ n0 ({ frames := 0, cells := 0, slots := 0, locals := 0 } : Room) (fun v h _ => v = some (.int (Int32.ofNat (preN cs))) ∧ Keep h0 h [d] ∧ Arv Z h d kd .byte n (fillL cs (preN cs)) (.int 0))) (Tl.setTop (mkF m_ 3 #[.val (.ref va), .val (.int i), .val (.ref d), .val (.int i), .val (.int n), .val (.int i), s6] [])) := by
    intro k
    induction k with
    | zero =>
      intro i j hj hk hlow s6 hs6 bl Tl hl Ll Kl KP V_va V_d sf_d
      refine k_iload Kl d_jdk_52_method_21_code_3 (pc' := 5) rfl rfl ?_
      refine k_iload Kl d_jdk_52_method_21_code_5 (pc' := 7) rfl rfl ?_
      refine k_icmp_ge Kl d_jdk_52_method_21_code_7 (by decide) (pc' := 44) (pc2 := 10) (by decide) rfl (fun hc7 => ?_) (fun q => absurd q (by rw [own_i32, hj, hn]; omega))
      refine k_iload Kl d_jdk_52_method_21_code_44 (pc' := 46) rfl rfl ?_
      have ej : j = cs.length := by omega
      subst ej
      have ep := preN_all cs hlow
      have en : n = Int32.ofNat (preN cs) := own_i32e (by rw [hn, ep, Int32.toInt_ofNat_of_lt (by omega)])
      exact k_iret Kl d_jdk_52_method_21_code_46 rfl (fun sf ht => ⟨by rw [en], KP, by rw [ep]; exact V_d⟩) (by decide) (by decide)
    | succ k ih =>
      intro i j hj hk hlow s6 hs6 bl Tl hl Ll Kl KP V_va V_d sf_d
      have hjl : j < cs.length := by omega
      refine k_iload Kl d_jdk_52_method_21_code_3 (pc' := 5) rfl rfl ?_
      refine k_iload Kl d_jdk_52_method_21_code_5 (pc' := 7) rfl rfl ?_
      refine k_icmp_ge Kl d_jdk_52_method_21_code_7 (by decide) (pc' := 44) (pc2 := 10) (by decide) rfl (fun q => absurd (by rw [own_i32, hj, hn]; omega) q) (fun hc7 => ?_)
      refine k_aloadN Kl d_jdk_52_method_21_code_10 (pc' := 11) rfl rfl rfl ?_
      refine k_iloadN Kl d_jdk_52_method_21_code_11 (pc' := 12) rfl rfl ?_
      refine k_caload Kl (j := i) V_va (own_in hj hn hjl) (by rw [own_clamp hj]; exact own_getD cs j hjl) d_jdk_52_method_21_code_12 (pc' := 13) rfl ?_
      refine k_istore Kl d_jdk_52_method_21_code_13 (pc' := 15) (L' := #[.val (.ref va), .val (.int i), .val (.ref d), .val (.int i), .val (.int n), .val (.int i), .val (.int cs[j])]) rfl (by rcases hs6 with rfl | ⟨w, rfl⟩ <;> rfl) ?_
      refine k_iload Kl d_jdk_52_method_21_code_15 (pc' := 17) rfl rfl ?_
      refine k_sipush Kl (255 : Int32) d_jdk_52_method_21_code_17 (pc' := 20) rfl rfl ?_
      refine k_icmp_le Kl d_jdk_52_method_21_code_20 (by decide) (pc' := 26) (pc2 := 23) (by decide) rfl (fun hc20 => ?_) (fun hc20 => ?_)
      · refine k_aloadN Kl d_jdk_52_method_21_code_26 (pc' := 27) rfl rfl rfl ?_
        refine k_iloadN Kl d_jdk_52_method_21_code_27 (pc' := 28) rfl rfl ?_
        refine k_iload Kl d_jdk_52_method_21_code_28 (pc' := 30) rfl rfl ?_
        refine k_i2b Kl d_jdk_52_method_21_code_30 (pc' := 31) rfl ?_
        refine k_bastore Kl (j := i) V_d (own_in hj hn hjl) (by rw [own_clamp hj, fillL_len cs j (by omega)]; exact hjl) ga_d sf_d d_jdk_52_method_21_code_31 (pc' := 32) rfl ?_
        intro T2 h2 K2 W2 tr2 V2
        replace sf_d := tr2 d V_d.lt sf_d
        replace V_va := V_va.other W2 ne_va_d
        replace KP := KP.wr W2 (Or.inl (by simp))
        replace V_d := V2
        rw [own_clamp hj, own_byte] at V_d
        replace V_d := (fillL_set cs j hjl) ▸ V_d
        refine k_iinc K2 (1 : Int32) d_jdk_52_method_21_code_32 (pc' := 35) (L' := #[.val (.ref va), .val (.int (i + (1 : Int32))), .val (.ref d), .val (.int i), .val (.int n), .val (.int i), .val (.int cs[j])]) rfl rfl rfl rfl ?_
        refine k_iinc K2 (1 : Int32) d_jdk_52_method_21_code_35 (pc' := 38) (L' := #[.val (.ref va), .val (.int (i + (1 : Int32))), .val (.ref d), .val (.int (i + (1 : Int32))), .val (.int n), .val (.int i), .val (.int cs[j])]) rfl rfl rfl rfl ?_
        refine k_iinc K2 (1 : Int32) d_jdk_52_method_21_code_38 (pc' := 41) (L' := #[.val (.ref va), .val (.int (i + (1 : Int32))), .val (.ref d), .val (.int (i + (1 : Int32))), .val (.int n), .val (.int (i + (1 : Int32))), .val (.int cs[j])]) rfl rfl rfl rfl ?_
        refine k_goto K2 d_jdk_52_method_21_code_41 (by decide) (pc' := 3) (by decide) ?_
        exact ih (i + 1) (j + 1) (own_add1 hj (by omega)) (by omega) (fun x hx => by
          rcases Nat.lt_or_ge x j with q | q
          · exact hlow x q
          · have e1 : x = j := by omega
            subst e1; exact hc20) _ (Or.inr ⟨_, rfl⟩) _ _ _ _ K2 KP V_va V_d sf_d
      · refine k_iload Kl d_jdk_52_method_21_code_23 (pc' := 25) rfl rfl ?_
        have hhi : (255 : Int32) < cs[j] := hc20
        have ep := preN_at cs j hjl hlow hhi
        have en : i = Int32.ofNat (preN cs) := own_i32e (by rw [hj, ep, Int32.toInt_ofNat_of_lt (by omega)])
        exact k_iret Kl d_jdk_52_method_21_code_25 rfl (fun sf ht => ⟨by rw [en], KP, by rw [ep]; exact V_d⟩) (by decide) (by decide)
  exact LOOP cs.length (0 : Int32) 0 rfl (by omega) (fun x hx => absurd hx (Nat.not_lt_zero _)) _ (Or.inl rfl) _ _ _ _ K (Keep.refl _ _) V1 (by rw [fillL_zero]; exact V2) (hSP d (by simp))
def loB (c : Int32) : Value := .int ((c >>> ((0 : Int32) &&& 31)).toInt8.toInt32)
def hiB (c : Int32) : Value := .int ((c >>> ((8 : Int32) &&& 31)).toInt8.toInt32)
def fill2 (cs : List Int32) (i : Nat) : List Value := (cs.take i).flatMap (fun c => [loB c, hiB c]) ++ List.replicate (2 * (cs.length - i)) (.int 0)
theorem flat_len (cs : List Int32) : (cs.flatMap (fun c => [loB c, hiB c])).length = 2 * cs.length := by
  induction cs with
  | nil => rfl
  | cons c t ih => simp only [List.flatMap_cons, List.length_append, ih, List.length_cons, List.length_nil]; omega
theorem fill2_len (cs : List Int32) (i : Nat) (h : i ≤ cs.length) : (fill2 cs i).length = 2 * cs.length := by
  simp only [fill2, List.length_append, flat_len, List.length_take, List.length_replicate]; omega
theorem fill2_zero (cs : List Int32) : fill2 cs 0 = List.replicate (2 * cs.length) (.int 0) := by simp [fill2]
theorem fill2_set (cs : List Int32) (i : Nat) (h : i < cs.length) : ((fill2 cs i).set (2 * i) (loB cs[i])).set (2 * i + 1) (hiB cs[i]) = fill2 cs (i + 1) := by
  have e0 : (cs.take i).length = i := by simp; omega
  have e1 : ((cs.take i).flatMap (fun c => [loB c, hiB c])).length = 2 * i := by rw [flat_len, e0]
  have e2 : 2 * (cs.length - i) = (2 * (cs.length - (i + 1)) + 1) + 1 := by omega
  have e3 : cs.take (i + 1) = cs.take i ++ [cs[i]] := by rw [List.take_succ_eq_append_getElem h]
  unfold fill2
  rw [e3, e2, List.replicate_succ, List.replicate_succ, List.flatMap_append]
  rw [List.set_append_right _ _ (by rw [e1]; exact Nat.le_refl _), e1, Nat.sub_self]
  rw [List.set_append_right _ _ (by rw [e1]; omega), e1, show 2 * i + 1 - 2 * i = 1 by omega]
  simp
theorem fill2_lo (cs : List Int32) (j : Nat) (h : j < cs.length) : (fill2 cs cs.length).getD (2 * j) (.int 0) = loB cs[j] := by
  unfold fill2
  rw [List.take_length, Nat.sub_self, Nat.mul_zero, List.replicate_zero, List.append_nil]
  induction cs generalizing j with
  | nil => exact absurd h (Nat.not_lt_zero _)
  | cons c t ih =>
    cases j with
    | zero => rfl
    | succ j => rw [List.flatMap_cons, show 2 * (j + 1) = 2 * j + 1 + 1 by omega]; exact ih j (by simpa using h)
theorem fill2_hi (cs : List Int32) (j : Nat) (h : j < cs.length) : (fill2 cs cs.length).getD (2 * j + 1) (.int 0) = hiB cs[j] := by
  unfold fill2
  rw [List.take_length, Nat.sub_self, Nat.mul_zero, List.replicate_zero, List.append_nil]
  induction cs generalizing j with
  | nil => exact absurd h (Nat.not_lt_zero _)
  | cons c t ih =>
    cases j with
    | zero => rfl
    | succ j => rw [List.flatMap_cons, show 2 * (j + 1) + 1 = 2 * j + 1 + 1 + 1 by omega]; exact ih j (by simpa using h)
theorem own_dbl {i : Int32} {n : Nat} (h : i.toInt = n) (hn : n < 1000000000) : (i <<< ((1 : Int32) &&& 31)).toInt = (2 * n : Nat) := by
  have hb : i.toBitVec.toNat = n := by
    have q : i.toBitVec.toInt = n := h
    rw [BitVec.toInt_eq_toNat_cond] at q
    have := i.toBitVec.isLt
    split at q <;> omega
  have e1 : (i <<< ((1 : Int32) &&& 31)).toBitVec = i.toBitVec <<< 1 := rfl
  have e2 : (i.toBitVec <<< 1).toNat = 2 * n := by rw [BitVec.toNat_shiftLeft, hb, Nat.shiftLeft_eq]; omega
  show (i <<< ((1 : Int32) &&& 31)).toBitVec.toInt = _
  rw [e1, BitVec.toInt_eq_toNat_cond, e2]; split <;> omega
theorem own_nat {c : Int32} {n : Nat} (h : c.toInt = n) : c.toBitVec.toNat = n := by
  have q : c.toBitVec.toInt = n := h
  have hn : c.toInt < 2 ^ 31 := Int32.toInt_lt c
  rw [BitVec.toInt_eq_toNat_cond] at q
  have := c.toBitVec.isLt
  split at q <;> omega
theorem own_toInt {c : Int32} (h : c.toBitVec.toNat < 2147483648) : c.toInt = c.toBitVec.toNat := by
  show c.toBitVec.toInt = _
  rw [BitVec.toInt_eq_toNat_cond]; split <;> omega
theorem own_i2cN (x : Int32) : (x.toUInt32.toUInt16.toUInt32.toInt32).toBitVec.toNat = x.toBitVec.toNat % 65536 := by
  have e : (x.toUInt32.toUInt16.toUInt32.toInt32).toBitVec = (x.toBitVec.setWidth 16).setWidth 32 := rfl
  rw [e, BitVec.toNat_setWidth, BitVec.toNat_setWidth]; omega
theorem own_i2c (x : Int32) : 0 ≤ (x.toUInt32.toUInt16.toUInt32.toInt32).toInt ∧ (x.toUInt32.toUInt16.toUInt32.toInt32).toInt < 65536 := by
  have h := own_i2cN x
  rw [own_toInt (by rw [h]; omega), h]; omega
theorem own_i2cI {c : Int32} (h1 : 0 ≤ c.toInt) (h2 : c.toInt < 65536) : c.toUInt32.toUInt16.toUInt32.toInt32 = c := by
  obtain ⟨n, hn⟩ := Int.eq_ofNat_of_zero_le h1
  have e := own_nat hn
  apply Int32.toBitVec_inj.mp
  apply BitVec.eq_of_toNat_eq
  rw [own_i2cN, e]; omega
theorem own_narrowc {c : Int32} (h1 : 0 ≤ c.toInt) (h2 : c.toInt < 65536) : narrow .char (.int c) = .int c := by
  show Value.int c.toUInt32.toUInt16.toUInt32.toInt32 = _
  rw [own_i2cI h1 h2]
theorem own_shr0 (n : Int32) : n >>> ((0 : Int32) &&& 31) = n := by
  apply Int32.toBitVec_inj.mp
  show n.toBitVec.sshiftRight 0 = n.toBitVec
  simp
theorem own_low (x : Int32) : (x.toInt8.toInt32 &&& 255).toBitVec.toNat = x.toBitVec.toNat % 256 := by
  have e : (x.toInt8.toInt32 &&& 255).toBitVec = ((x.toBitVec.signExtend 8).signExtend 32) &&& 255#32 := rfl
  have e8 : x.toBitVec.signExtend 8 = x.toBitVec.setWidth 8 := BitVec.signExtend_eq_setWidth_of_le _ (by decide)
  have e2 : ((x.toBitVec.setWidth 8).signExtend 32) &&& 255#32 = (x.toBitVec.setWidth 8).setWidth 32 := by
    apply BitVec.eq_of_getLsbD_eq
    intro i hi
    have h255 : (255#32).getLsbD i = decide (i < 8) := by
      have := (by decide : ∀ i : Fin 32, (255#32).getLsbD i.val = decide (i.val < 8)) ⟨i, hi⟩
      exact this
    rw [BitVec.getLsbD_and, h255, BitVec.getLsbD_signExtend, BitVec.getLsbD_setWidth]
    by_cases q : i < 8
    · simp [hi, q]
    · simp [q]
  rw [e, e8, e2, BitVec.toNat_setWidth, BitVec.toNat_setWidth]; omega
theorem own_dblN {i : Int32} {n : Nat} (h : i.toInt = n) (hn : n < 1000000000) : (i <<< ((1 : Int32) &&& 31)).toBitVec.toNat = 2 * n := by
  show (i.toBitVec <<< 1).toNat = _
  rw [BitVec.toNat_shiftLeft, own_nat h, Nat.shiftLeft_eq]; omega
theorem own_half {n : Int32} {m : Nat} (hn : n.toInt = m) (hm : m ≤ 4000) : (n <<< ((1 : Int32) &&& 31)) >>> ((1 : Int32) &&& 31) = n := by
  have e := own_dblN hn (by omega)
  generalize n <<< ((1 : Int32) &&& 31) = z at e
  apply Int32.toBitVec_inj.mp
  apply BitVec.eq_of_toNat_eq
  show (z.toBitVec.sshiftRight 1).toNat = _
  rw [BitVec.sshiftRight_eq_of_msb_false (by rw [BitVec.msb_eq_decide, e]; simp; omega), BitVec.toNat_ushiftRight, e, Nat.shiftRight_eq_div_pow, own_nat hn]; omega
theorem own_ush0 (n : Int32) : (Jvm.Free.XT.ushr (n - n) (31 : Int32)).toInt8.toInt32 = 0 := by
  have e : n - n = 0 := by simp
  rw [e]; decide
theorem own_ush1 {n : Int32} {m : Nat} (hn : n.toInt = m) (h1 : 1 ≤ m) (hm : m ≤ 4000) : (Jvm.Free.XT.ushr (n - n <<< ((1 : Int32) &&& 31)) (31 : Int32)).toInt8.toInt32 = 1 := by
  have e := own_dblN hn (by omega)
  have e1 : Jvm.Free.XT.ushr (n - n <<< ((1 : Int32) &&& 31)) (31 : Int32) = 1 := by
    generalize n <<< ((1 : Int32) &&& 31) = z at e
    apply Int32.toBitVec_inj.mp
    apply BitVec.eq_of_toNat_eq
    show ((n.toBitVec - z.toBitVec) >>> 31).toNat = 1
    rw [BitVec.toNat_ushiftRight, BitVec.toNat_sub, own_nat hn, e, Nat.shiftRight_eq_div_pow]; omega
  rw [e1]; decide
theorem own_join (c : Int32) (h1 : 0 ≤ c.toInt) (h2 : c.toInt < 65536) : ((((c >>> ((0 : Int32) &&& 31)).toInt8.toInt32 &&& 255) <<< ((0 : Int32) &&& 31)) ||| (((c >>> ((8 : Int32) &&& 31)).toInt8.toInt32 &&& 255) <<< ((8 : Int32) &&& 31))).toUInt32.toUInt16.toUInt32.toInt32 = c := by
  obtain ⟨n, hn⟩ := Int.eq_ofNat_of_zero_le h1
  have e := own_nat hn
  have hN : n < 65536 := by omega
  rw [own_shr0]
  have a1 := own_low c
  have a2 := own_low (c >>> ((8 : Int32) &&& 31))
  have s8 : (c >>> ((8 : Int32) &&& 31)).toBitVec.toNat = n / 256 := by
    show (c.toBitVec.sshiftRight 8).toNat = _
    rw [BitVec.sshiftRight_eq_of_msb_false (by rw [BitVec.msb_eq_decide, e]; simp; omega), BitVec.toNat_ushiftRight, e, Nat.shiftRight_eq_div_pow]
  rw [s8] at a2
  rw [e] at a1
  generalize (c.toInt8.toInt32 &&& 255) = p at a1
  generalize ((c >>> ((8 : Int32) &&& 31)).toInt8.toInt32 &&& 255) = q at a2
  apply Int32.toBitVec_inj.mp
  apply BitVec.eq_of_toNat_eq
  rw [own_i2cN, e]
  have b1 : (p <<< ((0 : Int32) &&& 31)).toBitVec = p.toBitVec := by
    show p.toBitVec <<< 0 = _
    simp
  have b2 : (q <<< ((8 : Int32) &&& 31)).toBitVec.toNat = (n / 256 % 256) * 256 := by
    show (q.toBitVec <<< 8).toNat = _
    rw [BitVec.toNat_shiftLeft, a2, Nat.shiftLeft_eq]; omega
  have b3 : (p <<< ((0 : Int32) &&& 31) ||| q <<< ((8 : Int32) &&& 31)).toBitVec.toNat = n % 256 ||| (n / 256 % 256) * 256 := by
    show ((p <<< ((0 : Int32) &&& 31)).toBitVec ||| (q <<< ((8 : Int32) &&& 31)).toBitVec).toNat = _
    rw [BitVec.toNat_or, b1, b2, a1]
  rw [b3]
  have b4 : n % 256 ||| (n / 256 % 256) * 256 = n := by
    rw [Nat.or_comm, Nat.mul_comm, show (256 : Nat) = 2 ^ 8 by decide, ← Nat.two_pow_add_eq_or_of_lt (Nat.mod_lt _ (by decide))]; omega
  rw [b4]; omega
theorem preN_gt : ∀ (cs : List Int32) (h : preN cs < cs.length), (255 : Int32) < cs[preN cs]
  | [], h => absurd h (Nat.not_lt_zero _)
  | c :: t, h => by
    by_cases q : (255 : Int32) < c
    · have e : preN (c :: t) = 0 := if_pos q
      simpa [e] using q
    · have e : preN (c :: t) = preN t + 1 := if_neg q
      have h2 : preN t < t.length := by rw [e] at h; simpa using h
      simpa [e] using preN_gt t h2
def strCd (cs : List Int32) : Int32 := if preN cs = cs.length then 0 else 1
def strVs (cs : List Int32) : List Value := if preN cs = cs.length then fillL cs cs.length else fill2 cs cs.length
def strZ (n : Int32) (cs : List Int32) : Int32 := if preN cs = cs.length then n else n <<< ((1 : Int32) &&& 31)
theorem strCd_01 (cs : List Int32) : strCd cs = 0 ∨ strCd cs = 1 := by unfold strCd; split <;> simp
theorem strCd_n (cs : List Int32) : narrow .byte (.int (strCd cs)) = .int (strCd cs) := by rcases strCd_01 cs with q | q <;> rw [q] <;> rfl
theorem strCd_f (cs : List Int32) : fits .byte (.int (strCd cs)) = true := by rcases strCd_01 cs with q | q <;> rw [q] <;> rfl
theorem own_ofN {n : Nat} (h : n ≤ 4000) : (Int32.ofNat n).toInt = n := Int32.toInt_ofNat_of_lt (by omega)
theorem own_cfal {n : Int32} {cs : List Int32} (hn : n.toInt = cs.length) (h1 : 1 ≤ cs.length) (hb : cs.length ≤ 4000) : ((XT.ushr (n - strZ n cs) (31 : Int32)).toInt8.toInt32) = strCd cs := by
  unfold strZ strCd
  split
  · exact own_ush0 n
  · exact own_ush1 hn h1 hb
theorem own_len {n : Int32} {cs : List Int32} (hn : n.toInt = cs.length) (hb : cs.length ≤ 4000) : strZ n cs >>> (strCd cs &&& 31) = n := by
  unfold strZ strCd
  split
  · exact own_shr0 n
  · exact own_half hn hb
theorem preN_lat {cs : List Int32} (h : ∀ c ∈ cs, 0 ≤ c.toInt ∧ c.toInt < 256) : preN cs = cs.length := preN_all cs fun j hj => by
  rw [own_i32, own_255]; have := (h cs[j] (List.getElem_mem hj)).2; omega
theorem own_strCd {cs : List Int32} (h : ∀ c ∈ cs, 0 ≤ c.toInt ∧ c.toInt < 256) : strCd cs = 0 := if_pos (preN_lat h)
theorem own_strZ {n : Int32} {cs : List Int32} (h : ∀ c ∈ cs, 0 ≤ c.toInt ∧ c.toInt < 256) : strZ n cs = n := if_pos (preN_lat h)
theorem own_strVs {cs : List Int32} (h : ∀ c ∈ cs, 0 ≤ c.toInt ∧ c.toInt < 256) : strVs cs = (cs.map fun c => c.toInt8.toInt32).map Value.int := by
  rw [strVs, if_pos (preN_lat h), fillL, List.take_length, Nat.sub_self, List.replicate_zero, List.append_nil, List.map_map]; rfl
theorem d_jdk_52_method_16_code_0 : decode jdk_52_method_16_code 0 = .ok (.iload_n 2, 1) := by decide +kernel
theorem d_jdk_52_method_16_code_1 : decode jdk_52_method_16_code 1 = .ok (.newarray .byte, 2) := by decide +kernel
theorem w25 {Z : State} {a0 : Array Value} (hw : Tb a0 Z) : (Jvm.Cond.arrayClass Jvm.ClassFile.FieldType.byte).before a0 Z = true := hw _ (List.mem_of_getElem? (i := 25) rfl)
theorem d_jdk_52_method_16_code_3 : decode jdk_52_method_16_code 3 = .ok (.astore_n 3, 1) := by decide +kernel
theorem d_jdk_52_method_16_code_4 : decode jdk_52_method_16_code 4 = .ok (.aload_n 0, 1) := by decide +kernel
theorem d_jdk_52_method_16_code_5 : decode jdk_52_method_16_code 5 = .ok (.iload_n 1, 1) := by decide +kernel
theorem d_jdk_52_method_16_code_6 : decode jdk_52_method_16_code 6 = .ok (.aload_n 3, 1) := by decide +kernel
theorem d_jdk_52_method_16_code_7 : decode jdk_52_method_16_code 7 = .ok (.iconst 0, 1) := by decide +kernel
theorem d_jdk_52_method_16_code_8 : decode jdk_52_method_16_code 8 = .ok (.iload_n 2, 1) := by decide +kernel
theorem d_jdk_52_method_16_code_9 : decode jdk_52_method_16_code 9 = .ok (.invokestatic 115, 3) := by decide +kernel
theorem w26 {Z : State} {a0 : Array Value} (hw : Tb a0 Z) : (Jvm.Cond.methodLink "java/lang/StringUTF16" (115 : Nat) ({ cls := "java/lang/StringUTF16", name := "compress", desc := "([CI[BII)I" } : Jvm.MethodName)).before a0 Z = true := hw _ (List.mem_of_getElem? (i := 26) rfl)
theorem w23 {Z : State} {a0 : Array Value} (hw : Tb a0 Z) : (Jvm.Cond.initialized "java/lang/StringUTF16").before a0 Z = true := hw _ (List.mem_of_getElem? (i := 23) rfl)
theorem w28 {Z : State} {a0 : Array Value} (hw : Tb a0 Z) : (Jvm.Cond.code ({ cls := "java/lang/StringUTF16", name := "compress", desc := "([CI[BII)I" } : Jvm.MethodName) jdk_52_method_21_code (7 : Nat) (Option.some Jvm.ClassFile.FieldType.int)).before a0 Z = true := hw _ (List.mem_of_getElem? (i := 28) rfl)
theorem w27 {Z : State} {a0 : Array Value} (hw : Tb a0 Z) : (Jvm.Cond.static ({ cls := "java/lang/StringUTF16", name := "compress", desc := "([CI[BII)I" } : Jvm.MethodName)).before a0 Z = true := hw _ (List.mem_of_getElem? (i := 27) rfl)
theorem pd___CI_BII_I_3760 : parseMethodDescriptor "([CI[BII)I" = some ⟨[(.array .char), .int, (.array .byte), .int, .int], some .int⟩ := by decide +kernel
theorem d_jdk_52_method_16_code_12 : decode jdk_52_method_16_code 12 = .ok (.istore 4, 2) := by decide +kernel
theorem d_jdk_52_method_16_code_14 : decode jdk_52_method_16_code 14 = .ok (.iload 4, 2) := by decide +kernel
theorem d_jdk_52_method_16_code_16 : decode jdk_52_method_16_code 16 = .ok (.iload_n 2, 1) := by decide +kernel
theorem d_jdk_52_method_16_code_17 : decode jdk_52_method_16_code 17 = .ok (.if_icmp .eq 40, 3) := by decide +kernel
theorem d_jdk_52_method_16_code_57 : decode jdk_52_method_16_code 57 = .ok (.aload_n 3, 1) := by decide +kernel
theorem d_jdk_52_method_16_code_58 : decode jdk_52_method_16_code 58 = .ok (.areturn, 1) := by decide +kernel
set_option maxRecDepth 65536 in
set_option maxHeartbeats 40000000 in
theorem c_compress3 (l : Launch) (Z : State) (a0 : Array Value) (hw : Tb a0 Z) (hEW : EW Z a0 EL0) (n0 : Nat) (va : Addr) (kv : ClassId) (n : Int32) (cs : List Int32) (h0 : Heap) (O : Old Z n0 h0) (hn : n.toInt = cs.length) (hb : cs.length ≤ 3) (hc : ∀ c ∈ cs, 0 ≤ c.toInt ∧ c.toInt < 256) (V_va : Arv Z h0 va kv .char n (cs.map Value.int) (.int 0))  :
    Ct l Z EL0 n0 (⟨"java/lang/StringUTF16", "compress", "([CII)[B"⟩ : MethodName) jdk_52_method_16_code 6 (some (.array .byte)) ({ frames := 1, cells := 1, slots := 3, locals := 18 } : Room) #[(.ref va), (.int (0 : Int32)), (.int n)] h0 [] (fun v h sf => ∃ d kd, v = some (.ref d) ∧ h0.size ≤ d ∧ Keep h0 h [] ∧ Arv Z h d kd .byte (strZ n cs) (strVs cs) (.int 0) ∧ sf d) := by
  refine Ct.of (a0 := a0) #[.val (.ref va), .val (.int (0 : Int32)), .val (.int n), .unset, .unset, .unset] hEW O (plainFor_of_name pl_java_lang_StringUTF16) (fun m => by first | (simp [entryFrame, mkF, argsToLocals, Value.category]; done) | rfl) ?_
  intro p_ e_ s_ m_ below_ meth_ c_ b_ T_ K hSP
  have KP := Keep.refl h0 []
  refine k_iloadN K d_jdk_52_method_16_code_0 (pc' := 1) rfl rfl ?_
  refine k_newarray K (aty := .byte) (z := n) (w25 hw) (by rw [own_i32, own_0, hn]; omega) (cap := 3) (by rw [own_clamp hn]; omega) (by decide) d_jdk_52_method_16_code_1 (pc' := 3) rfl (by decide) (by decide) ?_
  intro T3 h3 a3 ka3 g3 K3 E3 tr3 sf_a3 V_a3
  have ga_a3 : n0 ≤ a3 := own_old K.old g3
  have sz_a3 : h0.size ≤ a3 := g3 ▸ KP.1
  have ne_va_a3 : va ≠ a3 := own_ne V_va.lt g3
  replace V_va := V_va.ext E3
  replace KP := KP.ext E3
  replace V_a3 : Arv Z h3 a3 ka3 .byte n (List.replicate cs.length (.int (0 : Int32))) (.int (0 : Int32)) := V_a3.pad (pad_rep [] (.int (0 : Int32)) cs.length)
  refine k_astoreN K3 d_jdk_52_method_16_code_3 (pc' := 4) (L' := #[.val (.ref va), .val (.int (0 : Int32)), .val (.int n), .val (.ref a3), .unset, .unset]) rfl rfl rfl ?_
  refine k_aloadN K3 d_jdk_52_method_16_code_4 (pc' := 5) rfl rfl rfl ?_
  refine k_iloadN K3 d_jdk_52_method_16_code_5 (pc' := 6) rfl rfl ?_
  refine k_aloadN K3 d_jdk_52_method_16_code_6 (pc' := 7) rfl rfl rfl ?_
  refine k_iconst K3 (0 : Int32) d_jdk_52_method_16_code_7 (pc' := 8) rfl rfl ?_
  refine k_iloadN K3 d_jdk_52_method_16_code_8 (pc' := 9) rfl rfl ?_
  refine k_static K3 [(.ref va), (.int (0 : Int32)), (.ref a3), (.int (0 : Int32)), (.int n)] [] 0 (w26 hw) (w27 hw) (w23 hw) (w28 hw) (by decide) pd___CI_BII_I_3760 (c_compress5 l Z a0 hw hEW n0 va a3 kv ka3 n cs h3 K3.old hn (by omega) V_va V_a3 ne_va_a3 ga_a3) d_jdk_52_method_16_code_9 (fun x hx => by cases List.mem_singleton.mp hx; exact ⟨V_a3.lt, sf_a3⟩) (pc' := 12) rfl rfl rfl rfl (Nat.le_of_eq rfl) (by decide) (by decide) (by decide) (by decide) ?_
  intro b4 T4 h4 L4 v4 K4 tr4 q4
  obtain ⟨rfl, KQ, V2⟩ := q4
  replace sf_a3 := tr4 a3 V_a3.lt sf_a3
  replace V_va := V_va.keep KQ (ninS ne_va_a3 nin0)
  replace KP := KP.trans KQ (allS (Or.inr sz_a3) all0)
  have V_a3 := V2
  have hp := own_ofN (Nat.le_trans (preN_le cs) (show cs.length ≤ 4000 by omega))
  generalize hpp : Int32.ofNat (preN cs) = p1 at hp ⊢
  show Goes p_.tables e_ below_ _ (T4.setTop (mkF m_ 12 #[.val (.ref va), .val (.int (0 : Int32)), .val (.int n), .val (.ref a3), .unset, .unset] [(.int p1)]))
  refine k_istore K4 d_jdk_52_method_16_code_12 (pc' := 14) (L' := #[.val (.ref va), .val (.int (0 : Int32)), .val (.int n), .val (.ref a3), .val (.int p1), .unset]) rfl rfl ?_
  refine k_iload K4 d_jdk_52_method_16_code_14 (pc' := 16) rfl rfl ?_
  refine k_iloadN K4 d_jdk_52_method_16_code_16 (pc' := 17) rfl rfl ?_
  have ep : preN cs = cs.length := preN_all cs fun j hj => by rw [own_i32, own_255]; have := (hc cs[j] (List.getElem_mem hj)).2; omega
  refine k_icmp_eq K4 d_jdk_52_method_16_code_17 (by decide) (pc' := 57) (pc2 := 20) (by decide) rfl (fun hc17 => ?_) (fun q => absurd (own_i32e (by rw [hp, hn, ep])) q)
  refine k_aloadN K4 d_jdk_52_method_16_code_57 (pc' := 58) rfl rfl rfl ?_
  exact k_aret K4 d_jdk_52_method_16_code_58 rfl rfl rfl (fun sf ht => ⟨a3, ka3, rfl, sz_a3, KP, by rw [strZ, strVs, if_pos ep, if_pos ep, ← ep]; exact V_a3, ht _ V_a3.lt sf_a3⟩) (by decide) (by decide)
theorem d_jdk_52_method_15_code_0 : decode jdk_52_method_15_code 0 = .ok (.iload_n 1, 1) := by decide +kernel
theorem d_jdk_52_method_15_code_1 : decode jdk_52_method_15_code 1 = .ok (.aload_n 0, 1) := by decide +kernel
theorem d_jdk_52_method_15_code_2 : decode jdk_52_method_15_code 2 = .ok (.arraylength, 1) := by decide +kernel
theorem d_jdk_52_method_15_code_3 : decode jdk_52_method_15_code 3 = .ok (.isub, 1) := by decide +kernel
theorem d_jdk_52_method_15_code_4 : decode jdk_52_method_15_code 4 = .ok (.bipush 31, 2) := by decide +kernel
theorem d_jdk_52_method_15_code_6 : decode jdk_52_method_15_code 6 = .ok (.iushr, 1) := by decide +kernel
theorem d_jdk_52_method_15_code_7 : decode jdk_52_method_15_code 7 = .ok (.i2b, 1) := by decide +kernel
theorem d_jdk_52_method_15_code_8 : decode jdk_52_method_15_code 8 = .ok (.ireturn, 1) := by decide +kernel
set_option maxRecDepth 65536 in
set_option maxHeartbeats 40000000 in
theorem c_cfal (l : Launch) (Z : State) (a0 : Array Value) (hw : Tb a0 Z) (hEW : EW Z a0 EL0) (n0 : Nat) (d : Addr) (kd : ClassId) (n z cd : Int32) (vs : List Value) (h0 : Heap) (O : Old Z n0 h0) (V_d : Arv Z h0 d kd .byte z vs (.int 0)) (hcd : cd = 0 ∨ cd = 1) (he : ((XT.ushr (n - z) (31 : Int32)).toInt8.toInt32) = cd) :
    Ct l Z EL0 n0 (⟨"java/lang/StringUTF16", "coderFromArrayLen", "([BI)B"⟩ : MethodName) jdk_52_method_15_code 2 (some .byte) ({ frames := 0, cells := 0, slots := 0, locals := 0 } : Room) #[(.ref d), (.int n)] h0 [] (Pu (some (.int cd)) h0) := by
  refine Ct.of (a0 := a0) #[.val (.ref d), .val (.int n)] hEW O (plainFor_of_name pl_java_lang_StringUTF16) (fun m => by first | (simp [entryFrame, mkF, argsToLocals, Value.category]; done) | rfl) ?_
  intro p_ e_ s_ m_ below_ meth_ c_ b_ T_ K hSP
  refine k_iloadN K d_jdk_52_method_15_code_0 (pc' := 1) rfl rfl ?_
  refine k_aloadN K d_jdk_52_method_15_code_1 (pc' := 2) rfl rfl rfl ?_
  refine k_len K V_d d_jdk_52_method_15_code_2 (pc' := 3) rfl ?_
  refine k_isub K d_jdk_52_method_15_code_3 (pc' := 4) rfl ?_
  refine k_bipush K (31 : Int32) d_jdk_52_method_15_code_4 (pc' := 6) rfl rfl ?_
  refine k_iushr K d_jdk_52_method_15_code_6 (pc' := 7) rfl ?_
  refine k_i2b K d_jdk_52_method_15_code_7 (pc' := 8) rfl ?_
  rw [he]
  exact k_nret K d_jdk_52_method_15_code_8 rfl (by simp) (by rcases hcd with rfl | rfl <;> rfl) (fun sf ht => ⟨rfl, rfl⟩) (by decide) (by decide)
theorem d_jdk_42_method_149_code_0 : decode jdk_42_method_149_code 0 = .ok (.aload_n 0, 1) := by decide +kernel
theorem d_jdk_42_method_149_code_1 : decode jdk_42_method_149_code 1 = .ok (.invokespecial 1, 3) := by decide +kernel
theorem w17 {Z : State} {a0 : Array Value} (hw : Tb a0 Z) : (Jvm.Cond.methodLink "java/lang/String" (1 : Nat) ({ cls := "java/lang/Object", name := "<init>", desc := "()V" } : Jvm.MethodName)).before a0 Z = true := hw _ (List.mem_of_getElem? (i := 17) rfl)
theorem w18 {Z : State} {a0 : Array Value} (hw : Tb a0 Z) : (Jvm.Cond.instanceMethod ({ cls := "java/lang/Object", name := "<init>", desc := "()V" } : Jvm.MethodName)).before a0 Z = true := hw _ (List.mem_of_getElem? (i := 18) rfl)
theorem w19 {Z : State} {a0 : Array Value} (hw : Tb a0 Z) : (Jvm.Cond.code ({ cls := "java/lang/Object", name := "<init>", desc := "()V" } : Jvm.MethodName) object_method_1_code (1 : Nat) (Option.none : Option Jvm.ClassFile.FieldType)).before a0 Z = true := hw _ (List.mem_of_getElem? (i := 19) rfl)
theorem d_jdk_42_method_149_code_4 : decode jdk_42_method_149_code 4 = .ok (.iload_n 3, 1) := by decide +kernel
theorem d_jdk_42_method_149_code_5 : decode jdk_42_method_149_code 5 = .ok (.ifCond .ne 22, 3) := by decide +kernel
theorem d_jdk_42_method_149_code_27 : decode jdk_42_method_149_code 27 = .ok (.getstatic 38, 3) := by decide +kernel
theorem w20 {Z : State} {a0 : Array Value} (hw : Tb a0 Z) : (Jvm.Cond.fieldLink "java/lang/String" (38 : Nat) "java/lang/String" "COMPACT_STRINGS" "Z").before a0 Z = true := hw _ (List.mem_of_getElem? (i := 20) rfl)
theorem d_jdk_42_method_149_code_30 : decode jdk_42_method_149_code 30 = .ok (.ifCond .eq 28, 3) := by decide +kernel
theorem d_jdk_42_method_149_code_33 : decode jdk_42_method_149_code 33 = .ok (.aload_n 1, 1) := by decide +kernel
theorem d_jdk_42_method_149_code_34 : decode jdk_42_method_149_code 34 = .ok (.iload_n 2, 1) := by decide +kernel
theorem d_jdk_42_method_149_code_35 : decode jdk_42_method_149_code 35 = .ok (.iload_n 3, 1) := by decide +kernel
theorem d_jdk_42_method_149_code_36 : decode jdk_42_method_149_code 36 = .ok (.invokestatic 177, 3) := by decide +kernel
theorem w21 {Z : State} {a0 : Array Value} (hw : Tb a0 Z) : (Jvm.Cond.methodLink "java/lang/String" (177 : Nat) ({ cls := "java/lang/StringUTF16", name := "compress", desc := "([CII)[B" } : Jvm.MethodName)).before a0 Z = true := hw _ (List.mem_of_getElem? (i := 21) rfl)
theorem w24 {Z : State} {a0 : Array Value} (hw : Tb a0 Z) : (Jvm.Cond.code ({ cls := "java/lang/StringUTF16", name := "compress", desc := "([CII)[B" } : Jvm.MethodName) jdk_52_method_16_code (6 : Nat) (Option.some (Jvm.ClassFile.FieldType.array Jvm.ClassFile.FieldType.byte))).before a0 Z = true := hw _ (List.mem_of_getElem? (i := 24) rfl)
theorem w22 {Z : State} {a0 : Array Value} (hw : Tb a0 Z) : (Jvm.Cond.static ({ cls := "java/lang/StringUTF16", name := "compress", desc := "([CII)[B" } : Jvm.MethodName)).before a0 Z = true := hw _ (List.mem_of_getElem? (i := 22) rfl)
theorem pd___CII__B_2491 : parseMethodDescriptor "([CII)[B" = some ⟨[(.array .char), .int, .int], some (.array .byte)⟩ := by decide +kernel
theorem d_jdk_42_method_149_code_39 : decode jdk_42_method_149_code 39 = .ok (.astore 5, 2) := by decide +kernel
theorem d_jdk_42_method_149_code_41 : decode jdk_42_method_149_code 41 = .ok (.aload_n 0, 1) := by decide +kernel
theorem d_jdk_42_method_149_code_42 : decode jdk_42_method_149_code 42 = .ok (.aload 5, 2) := by decide +kernel
theorem d_jdk_42_method_149_code_44 : decode jdk_42_method_149_code 44 = .ok (.iload_n 3, 1) := by decide +kernel
theorem d_jdk_42_method_149_code_45 : decode jdk_42_method_149_code 45 = .ok (.invokestatic 47, 3) := by decide +kernel
theorem w29 {Z : State} {a0 : Array Value} (hw : Tb a0 Z) : (Jvm.Cond.methodLink "java/lang/String" (47 : Nat) ({ cls := "java/lang/StringUTF16", name := "coderFromArrayLen", desc := "([BI)B" } : Jvm.MethodName)).before a0 Z = true := hw _ (List.mem_of_getElem? (i := 29) rfl)
theorem w31 {Z : State} {a0 : Array Value} (hw : Tb a0 Z) : (Jvm.Cond.code ({ cls := "java/lang/StringUTF16", name := "coderFromArrayLen", desc := "([BI)B" } : Jvm.MethodName) jdk_52_method_15_code (2 : Nat) (Option.some Jvm.ClassFile.FieldType.byte)).before a0 Z = true := hw _ (List.mem_of_getElem? (i := 31) rfl)
theorem w30 {Z : State} {a0 : Array Value} (hw : Tb a0 Z) : (Jvm.Cond.static ({ cls := "java/lang/StringUTF16", name := "coderFromArrayLen", desc := "([BI)B" } : Jvm.MethodName)).before a0 Z = true := hw _ (List.mem_of_getElem? (i := 30) rfl)
theorem pd___BI_B_1313 : parseMethodDescriptor "([BI)B" = some ⟨[(.array .byte), .int], some .byte⟩ := by decide +kernel
theorem d_jdk_42_method_149_code_48 : decode jdk_42_method_149_code 48 = .ok (.putfield 15, 3) := by decide +kernel
theorem w32 {Z : State} {a0 : Array Value} (hw : Tb a0 Z) : (Jvm.Cond.fieldLink "java/lang/String" (15 : Nat) "java/lang/String" "coder" "B").before a0 Z = true := hw _ (List.mem_of_getElem? (i := 32) rfl)
theorem w33 {Z : State} {a0 : Array Value} (hw : Tb a0 Z) : (Jvm.Cond.laysFinal "java/lang/String" "java/lang/String" "coder" "B").before a0 Z = true := hw _ (List.mem_of_getElem? (i := 33) rfl)
theorem w7 {Z : State} {a0 : Array Value} (hw : Tb a0 Z) : (Jvm.Cond.instantiable "java/lang/String" (4 : Nat)).before a0 Z = true := hw _ (List.mem_of_getElem? (i := 7) rfl)
theorem w35 {Z : State} {a0 : Array Value} (hw : Tb a0 Z) : (Jvm.Cond.laysFinal "java/lang/String" "java/lang/String" "value" "[B").before a0 Z = true := hw _ (List.mem_of_getElem? (i := 35) rfl)
theorem d_jdk_42_method_149_code_51 : decode jdk_42_method_149_code 51 = .ok (.aload_n 0, 1) := by decide +kernel
theorem d_jdk_42_method_149_code_52 : decode jdk_42_method_149_code 52 = .ok (.aload 5, 2) := by decide +kernel
theorem d_jdk_42_method_149_code_54 : decode jdk_42_method_149_code 54 = .ok (.putfield 9, 3) := by decide +kernel
theorem w34 {Z : State} {a0 : Array Value} (hw : Tb a0 Z) : (Jvm.Cond.fieldLink "java/lang/String" (9 : Nat) "java/lang/String" "value" "[B").before a0 Z = true := hw _ (List.mem_of_getElem? (i := 34) rfl)
theorem d_jdk_42_method_149_code_57 : decode jdk_42_method_149_code 57 = .ok (.return_, 1) := by decide +kernel
theorem d_jdk_42_method_149_code_8 : decode jdk_42_method_149_code 8 = .ok (.aload_n 0, 1) := by decide +kernel
theorem d_jdk_42_method_149_code_9 : decode jdk_42_method_149_code 9 = .ok (.ldc 7, 2) := by decide +kernel
theorem w8 {Z : State} {a0 : Array Value} (hw : Tb a0 Z) : (Jvm.Cond.initialized "java/lang/String").before a0 Z = true := hw _ (List.mem_of_getElem? (i := 8) rfl)
theorem w37 {Z : State} {a0 : Array Value} (hw : Tb a0 Z) : (Jvm.Cond.soleField "java/lang/String" "value").before a0 Z = true := hw _ (List.mem_of_getElem? (i := 37) rfl)
theorem w38 {Z : State} {a0 : Array Value} (hw : Tb a0 Z) : (Jvm.Cond.soleField "java/lang/String" "coder").before a0 Z = true := hw _ (List.mem_of_getElem? (i := 38) rfl)
theorem own_wS {Z : State} {a0 : Array Value} (hw : Tb a0 Z) : ∀ a ∈ Bundle.stringAtoms, a.before a0 Z = true := fun d hd => by
  simp only [Bundle.stringAtoms, List.mem_cons, List.not_mem_nil, or_false] at hd
  rcases hd with rfl | rfl | rfl | rfl | rfl | rfl | rfl
  · exact (w8 hw)
  · exact (w7 hw)
  · exact (w25 hw)
  · exact (w35 hw)
  · exact (w33 hw)
  · exact (w37 hw)
  · exact (w38 hw)
theorem w36 {Z : State} {a0 : Array Value} (hw : Tb a0 Z) : (Jvm.Cond.stringLink "java/lang/String" (7 : Nat) "").before a0 Z = true := hw _ (List.mem_of_getElem? (i := 36) rfl)
theorem d_jdk_42_method_149_code_11 : decode jdk_42_method_149_code 11 = .ok (.getfield 9, 3) := by decide +kernel
theorem d_jdk_42_method_149_code_14 : decode jdk_42_method_149_code 14 = .ok (.putfield 9, 3) := by decide +kernel
theorem d_jdk_42_method_149_code_17 : decode jdk_42_method_149_code 17 = .ok (.aload_n 0, 1) := by decide +kernel
theorem d_jdk_42_method_149_code_18 : decode jdk_42_method_149_code 18 = .ok (.ldc 7, 2) := by decide +kernel
theorem d_jdk_42_method_149_code_20 : decode jdk_42_method_149_code 20 = .ok (.getfield 15, 3) := by decide +kernel
theorem d_jdk_42_method_149_code_23 : decode jdk_42_method_149_code 23 = .ok (.putfield 15, 3) := by decide +kernel
theorem d_jdk_42_method_149_code_26 : decode jdk_42_method_149_code 26 = .ok (.return_, 1) := by decide +kernel
theorem pl_java_lang_String : plainName "java/lang/String" = true := by first | (simp [plainName, overriddenIn]; done) | decide +kernel
set_option maxRecDepth 65536 in
set_option maxHeartbeats 40000000 in
theorem c_init149a (l : Launch) (Z : State) (a0 : Array Value) (hw : Tb a0 Z) (hEW : EW Z a0 EL0) (n0 : Nat) (a va : Addr) (kv : ClassId) (n : Int32) (cs : List Int32) (u1 u2 : Value) (cs0 : Int32) (h0 : Heap) (O : Old Z n0 h0) (hn : n.toInt = cs.length) (hb : cs.length ≤ 3) (hc : ∀ c ∈ cs, 0 ≤ c.toInt ∧ c.toInt < 256) (V_va : Arv Z h0 va kv .char n (cs.map Value.int) (.int 0)) (X_a : Exa Z h0 a "java/lang/String") (F_a_value : Fld Z h0 a "java/lang/String" "value" "[B" u1) (F_a_coder : Fld Z h0 a "java/lang/String" "coder" "B" u2) (ga_a : n0 ≤ a) (ne_a_va : a ≠ va) (SC : Sta Z Z.heap "java/lang/String" "COMPACT_STRINGS" "Z" (.int cs0)) (hcs : ¬ cs0 = 0) :
    Ct l Z EL0 n0 (⟨"java/lang/String", "<init>", "([CIILjava/lang/Void;)V"⟩ : MethodName) jdk_42_method_149_code 6 none ({ frames := 2, cells := 4, slots := 8, locals := 35 } : Room) #[(.ref a), (.ref va), (.int (0 : Int32)), (.int n), .null] h0 [a] (fun v h sf => v = none ∧ Keep h0 h [a] ∧ ∃ d kd, Str Z h a d kd (strCd cs) (strZ n cs) (strVs cs)) := by
  refine Ct.of (a0 := a0) #[.val (.ref a), .val (.ref va), .val (.int (0 : Int32)), .val (.int n), .val .null, .unset] hEW O (plainFor_of_name pl_java_lang_String) (fun m => by first | (simp [entryFrame, mkF, argsToLocals, Value.category]; done) | rfl) ?_
  intro p_ e_ s_ m_ below_ meth_ c_ b_ T_ K hSP
  have KP := Keep.refl h0 [a]
  have sf_a := hSP a (by simp)
  refine k_aloadN K d_jdk_42_method_149_code_0 (pc' := 1) rfl rfl rfl ?_
  refine k_initO K (w17 hw) (w18 hw) (w19 hw) d_jdk_42_method_149_code_1 (pc' := 4) rfl rfl (by decide) 0 (Nat.le_of_eq rfl) (by decide) ?_
  intro T5 K5
  refine k_iloadN K5 d_jdk_42_method_149_code_4 (pc' := 5) rfl rfl ?_
  refine k_if_ne K5 d_jdk_42_method_149_code_5 (by decide) (pc' := 27) (pc2 := 8) (by decide) rfl (fun hc5 => ?_) (fun hc5 => ?_)
  · have h1 : 1 ≤ cs.length := by
      rcases Nat.eq_zero_or_pos cs.length with q | q
      · exact absurd (own_i32e (by rw [hn, q]; rfl)) hc5
      · exact q
    refine k_getS K5 (w20 hw) Via.refl SC d_jdk_42_method_149_code_27 (pc' := 30) rfl ?_
    intro T6 K6
    refine k_if_eq K6 d_jdk_42_method_149_code_30 (by decide) (pc' := 58) (pc2 := 33) (by decide) rfl (fun q => absurd q hcs) (fun hc30 => ?_)
    refine k_aloadN K6 d_jdk_42_method_149_code_33 (pc' := 34) rfl rfl rfl ?_
    refine k_iloadN K6 d_jdk_42_method_149_code_34 (pc' := 35) rfl rfl ?_
    refine k_iloadN K6 d_jdk_42_method_149_code_35 (pc' := 36) rfl rfl ?_
    refine k_static K6 [(.ref va), (.int (0 : Int32)), (.int n)] [] 0 (w21 hw) (w22 hw) (w23 hw) (w24 hw) (by decide) pd___CII__B_2491 (c_compress3 l Z a0 hw hEW n0 va kv n cs h0 K6.old hn hb hc V_va) d_jdk_42_method_149_code_36 nofun (pc' := 39) rfl rfl rfl rfl (Nat.le_of_eq rfl) (by decide) (by decide) (by decide) (by decide) ?_
    intro b7 T7 h7 L7 v7 K7 tr7 q7
    obtain ⟨d, kd, rfl, hd, KQ, V_d, sf_d⟩ := q7
    have ga_d : n0 ≤ d := Nat.le_trans (own_n0 K6.old) hd
    have sz_d : h0.size ≤ d := Nat.le_trans KP.1 hd
    have ne_va_d : va ≠ d := own_ne2 V_va.lt hd
    have ne_a_d : a ≠ d := own_ne2 X_a.lt hd
    replace sf_a := tr7 a X_a.lt sf_a
    replace V_va := V_va.keep KQ nin0
    replace X_a := X_a.keep KQ
    replace F_a_value := F_a_value.keep KQ nin0
    replace F_a_coder := F_a_coder.keep KQ nin0
    replace KP := KP.trans KQ all0
    show Goes p_.tables e_ below_ _ (T7.setTop (mkF m_ 39 #[.val (.ref a), .val (.ref va), .val (.int (0 : Int32)), .val (.int n), .val .null, .unset] [(.ref d)]))
    refine k_astore K7 d_jdk_42_method_149_code_39 (pc' := 41) (L' := #[.val (.ref a), .val (.ref va), .val (.int (0 : Int32)), .val (.int n), .val .null, .val (.ref d)]) rfl rfl rfl ?_
    refine k_aloadN K7 d_jdk_42_method_149_code_41 (pc' := 42) rfl rfl rfl ?_
    refine k_aload K7 d_jdk_42_method_149_code_42 (pc' := 44) rfl rfl rfl ?_
    refine k_iloadN K7 d_jdk_42_method_149_code_44 (pc' := 45) rfl rfl ?_
    refine k_staticP K7 [(.ref d), (.int n)] [(.ref a)] 1 (w29 hw) (w30 hw) (w23 hw) (w31 hw) (by decide) pd___BI_B_1313 (c_cfal l Z a0 hw hEW n0 d kd n (strZ n cs) (strCd cs) (strVs cs) h7 K7.old V_d (strCd_01 cs) (own_cfal hn h1 (by omega))) d_jdk_42_method_149_code_45 nofun (pc' := 48) rfl rfl rfl rfl (Nat.le_of_eq rfl) (by decide) (by decide) (by decide) (by decide) ?_
    intro b8 T8 L8 K8 tr8
    show Goes p_.tables e_ below_ _ (T8.setTop (mkF m_ 48 #[.val (.ref a), .val (.ref va), .val (.int (0 : Int32)), .val (.int n), .val .null, .val (.ref d)] [(.int (strCd cs)), (.ref a)]))
    replace sf_a := tr8 a X_a.lt sf_a
    refine k_putF K8 (w32 hw) Via.refl F_a_coder X_a (Or.inr ⟨(w33 hw), rfl, rfl⟩) (w7 hw) (ty := .byte) (by decide) (strCd_n cs) (strCd_f cs) ga_a sf_a d_jdk_42_method_149_code_48 (pc' := 51) rfl ?_
    intro T9 h9 K9 W9 tr9
    have F9 := F_a_coder.same W9
    replace sf_a := tr9 a X_a.lt sf_a
    replace V_va := V_va.other W9 (Ne.symm ne_a_va)
    replace X_a := X_a.wr W9
    replace F_a_value := F_a_value.other W9 (Or.inr (slot_ne (Or.inr (w35 hw)) (Or.inr (w33 hw)) (by decide) (t := (.array .byte)) (t' := .byte) (by decide) (by decide)))
    replace V_d := V_d.other W9 (Ne.symm ne_a_d)
    replace KP := KP.wr W9 (Or.inl (by simp))
    replace F_a_coder := F9
    refine k_aloadN K9 d_jdk_42_method_149_code_51 (pc' := 52) rfl rfl rfl ?_
    refine k_aload K9 d_jdk_42_method_149_code_52 (pc' := 54) rfl rfl rfl ?_
    refine k_putF K9 (w34 hw) Via.refl F_a_value X_a (Or.inr ⟨(w35 hw), rfl, rfl⟩) (w7 hw) (ty := (.array .byte)) (by decide) rfl rfl ga_a sf_a d_jdk_42_method_149_code_54 (pc' := 57) rfl ?_
    intro T10 h10 K10 W10 tr10
    have F10 := F_a_value.same W10
    replace sf_a := tr10 a X_a.lt sf_a
    replace V_va := V_va.other W10 (Ne.symm ne_a_va)
    replace X_a := X_a.wr W10
    replace F_a_coder := F_a_coder.other W10 (Or.inr (slot_ne (Or.inr (w33 hw)) (Or.inr (w35 hw)) (by decide) (t := .byte) (t' := (.array .byte)) (by decide) (by decide)))
    replace V_d := V_d.other W10 (Ne.symm ne_a_d)
    replace KP := KP.wr W10 (Or.inl (by simp))
    replace F_a_value := F10
    exact k_return K10 d_jdk_42_method_149_code_57 rfl (fun sf ht => ⟨rfl, KP, d, kd, X_a, F_a_coder, F_a_value, V_d⟩) (by decide) (by decide)
  · obtain rfl : cs = [] := List.eq_nil_of_length_eq_zero (by rw [hc5, own_0] at hn; omega)
    subst hc5
    refine k_aloadN K5 d_jdk_42_method_149_code_8 (pc' := 9) rfl rfl rfl ?_
    refine k_ldcS K5 (vs := ([] : List Int32).map Value.int) (z := 0) (w36 hw) (own_wS hw) (by decide) ⟨by decide, by decide⟩ (by decide) (by decide) 0 (by decide) (by decide) d_jdk_42_method_149_code_9 (pc' := 11) rfl (by decide) (by decide) ?_
    intro b11 T11 h11 s11 e11 ke11 K11 E11 tr11 X1 X2 X3 X4 nd11
    replace sf_a := tr11 a X_a.lt sf_a
    replace X_a := X_a.ext E11
    replace F_a_value := F_a_value.ext E11
    replace F_a_coder := F_a_coder.ext E11
    replace KP := KP.ext E11
    have S_s11 : Str Z h11 s11 e11 ke11 0 0 (([] : List Int32).map Value.int) := ⟨X1, X2, X3, X4⟩
    have ne_a_s11 : a ≠ s11 := (nd11 a sf_a).1
    have ne_a_e11 : a ≠ e11 := (nd11 a sf_a).2
    show Goes p_.tables e_ below_ _ (T11.setTop (mkF m_ 11 #[.val (.ref a), .val (.ref va), .val (.int (0 : Int32)), .val (.int (0 : Int32)), .val .null, .unset] [(.ref s11), (.ref a)]))
    refine k_getF K11 (w34 hw) Via.refl S_s11.2.2.1 d_jdk_42_method_149_code_11 (pc' := 14) rfl ?_
    intro T12 K12
    refine k_putF K12 (w34 hw) Via.refl F_a_value X_a (Or.inr ⟨(w35 hw), rfl, rfl⟩) (w7 hw) (ty := (.array .byte)) (by decide) rfl rfl ga_a sf_a d_jdk_42_method_149_code_14 (pc' := 17) rfl ?_
    intro T13 h13 K13 W13 tr13
    have F13 := F_a_value.same W13
    replace sf_a := tr13 a X_a.lt sf_a
    replace X_a := X_a.wr W13
    replace F_a_coder := F_a_coder.other W13 (Or.inr (slot_ne (Or.inr (w33 hw)) (Or.inr (w35 hw)) (by decide) (t := .byte) (t' := (.array .byte)) (by decide) (by decide)))
    replace S_s11 := S_s11.other W13 (Ne.symm ne_a_s11) (Ne.symm ne_a_e11)
    replace KP := KP.wr W13 (Or.inl (by simp))
    replace F_a_value := F13
    refine k_aloadN K13 d_jdk_42_method_149_code_17 (pc' := 18) rfl rfl rfl ?_
    refine k_ldcS K13 (vs := ([] : List Int32).map Value.int) (z := 0) (w36 hw) (own_wS hw) (by decide) ⟨by decide, by decide⟩ (by decide) (by decide) 0 (by decide) (by decide) d_jdk_42_method_149_code_18 (pc' := 20) rfl (by decide) (by decide) ?_
    intro b14 T14 h14 s14 e14 ke14 K14 E14 tr14 X1 X2 X3 X4 nd14
    replace sf_a := tr14 a X_a.lt sf_a
    replace X_a := X_a.ext E14
    replace F_a_value := F_a_value.ext E14
    replace F_a_coder := F_a_coder.ext E14
    replace S_s11 := S_s11.ext E14
    replace KP := KP.ext E14
    have S_s14 : Str Z h14 s14 e14 ke14 0 0 (([] : List Int32).map Value.int) := ⟨X1, X2, X3, X4⟩
    have ne_a_s14 : a ≠ s14 := (nd14 a sf_a).1
    have ne_a_e14 : a ≠ e14 := (nd14 a sf_a).2
    show Goes p_.tables e_ below_ _ (T14.setTop (mkF m_ 20 #[.val (.ref a), .val (.ref va), .val (.int (0 : Int32)), .val (.int (0 : Int32)), .val .null, .unset] [(.ref s14), (.ref a)]))
    refine k_getF K14 (w32 hw) Via.refl S_s14.2.1 d_jdk_42_method_149_code_20 (pc' := 23) rfl ?_
    intro T15 K15
    refine k_putF K15 (w32 hw) Via.refl F_a_coder X_a (Or.inr ⟨(w33 hw), rfl, rfl⟩) (w7 hw) (ty := .byte) (by decide) rfl rfl ga_a sf_a d_jdk_42_method_149_code_23 (pc' := 26) rfl ?_
    intro T16 h16 K16 W16 tr16
    have F16 := F_a_coder.same W16
    replace sf_a := tr16 a X_a.lt sf_a
    replace X_a := X_a.wr W16
    replace F_a_value := F_a_value.other W16 (Or.inr (slot_ne (Or.inr (w35 hw)) (Or.inr (w33 hw)) (by decide) (t := (.array .byte)) (t' := .byte) (by decide) (by decide)))
    replace S_s11 := S_s11.other W16 (Ne.symm ne_a_s11) (Ne.symm ne_a_e11)
    replace S_s14 := S_s14.other W16 (Ne.symm ne_a_s14) (Ne.symm ne_a_e14)
    replace KP := KP.wr W16 (Or.inl (by simp))
    replace F_a_coder := F16
    exact k_return K16 d_jdk_42_method_149_code_26 rfl (fun sf ht => ⟨rfl, KP, e11, ke11, X_a, F_a_coder, F_a_value, S_s11.2.2.2⟩) (by decide) (by decide)
theorem d_jdk_42_method_3_code_0 : decode jdk_42_method_3_code 0 = .ok (.aload_n 0, 1) := by decide +kernel
theorem d_jdk_42_method_3_code_1 : decode jdk_42_method_3_code 1 = .ok (.aload_n 1, 1) := by decide +kernel
theorem d_jdk_42_method_3_code_2 : decode jdk_42_method_3_code 2 = .ok (.iconst 0, 1) := by decide +kernel
theorem d_jdk_42_method_3_code_3 : decode jdk_42_method_3_code 3 = .ok (.aload_n 1, 1) := by decide +kernel
theorem d_jdk_42_method_3_code_4 : decode jdk_42_method_3_code 4 = .ok (.arraylength, 1) := by decide +kernel
theorem d_jdk_42_method_3_code_5 : decode jdk_42_method_3_code 5 = .ok (.aconst_null, 1) := by decide +kernel
theorem d_jdk_42_method_3_code_6 : decode jdk_42_method_3_code 6 = .ok (.invokespecial 27, 3) := by decide +kernel
theorem w13 {Z : State} {a0 : Array Value} (hw : Tb a0 Z) : (Jvm.Cond.methodLink "java/lang/String" (27 : Nat) ({ cls := "java/lang/String", name := "<init>", desc := "([CIILjava/lang/Void;)V" } : Jvm.MethodName)).before a0 Z = true := hw _ (List.mem_of_getElem? (i := 13) rfl)
theorem w16 {Z : State} {a0 : Array Value} (hw : Tb a0 Z) : (Jvm.Cond.code ({ cls := "java/lang/String", name := "<init>", desc := "([CIILjava/lang/Void;)V" } : Jvm.MethodName) jdk_42_method_149_code (6 : Nat) (Option.none : Option Jvm.ClassFile.FieldType)).before a0 Z = true := hw _ (List.mem_of_getElem? (i := 16) rfl)
theorem w14 {Z : State} {a0 : Array Value} (hw : Tb a0 Z) : (Jvm.Cond.instanceMethod ({ cls := "java/lang/String", name := "<init>", desc := "([CIILjava/lang/Void;)V" } : Jvm.MethodName)).before a0 Z = true := hw _ (List.mem_of_getElem? (i := 14) rfl)
theorem pd___CIILjava_lang_Void__V_3625 : parseMethodDescriptor "([CIILjava/lang/Void;)V" = some ⟨[(.array .char), .int, .int, (.object "java/lang/Void")], none⟩ := by decide +kernel
theorem d_jdk_42_method_3_code_9 : decode jdk_42_method_3_code 9 = .ok (.return_, 1) := by decide +kernel
set_option maxRecDepth 65536 in
set_option maxHeartbeats 40000000 in
theorem c_init3a (l : Launch) (Z : State) (a0 : Array Value) (hw : Tb a0 Z) (hEW : EW Z a0 EL0) (n0 : Nat) (a va : Addr) (kv : ClassId) (n : Int32) (cs : List Int32) (u1 u2 : Value) (cs0 : Int32) (h0 : Heap) (O : Old Z n0 h0) (hn : n.toInt = cs.length) (hb : cs.length ≤ 3) (hc : ∀ c ∈ cs, 0 ≤ c.toInt ∧ c.toInt < 256) (V_va : Arv Z h0 va kv .char n (cs.map Value.int) (.int 0)) (X_a : Exa Z h0 a "java/lang/String") (F_a_value : Fld Z h0 a "java/lang/String" "value" "[B" u1) (F_a_coder : Fld Z h0 a "java/lang/String" "coder" "B" u2) (ga_a : n0 ≤ a) (ne_a_va : a ≠ va) (SC : Sta Z Z.heap "java/lang/String" "COMPACT_STRINGS" "Z" (.int cs0)) (hcs : ¬ cs0 = 0) :
    Ct l Z EL0 n0 (⟨"java/lang/String", "<init>", "([C)V"⟩ : MethodName) jdk_42_method_3_code 2 none ({ frames := 3, cells := 4, slots := 8, locals := 52 } : Room) #[(.ref a), (.ref va)] h0 [a] (fun v h sf => v = none ∧ Keep h0 h [a] ∧ ∃ d kd, Str Z h a d kd (strCd cs) (strZ n cs) (strVs cs)) := by
  refine Ct.of (a0 := a0) #[.val (.ref a), .val (.ref va)] hEW O (plainFor_of_name pl_java_lang_String) (fun m => by first | (simp [entryFrame, mkF, argsToLocals, Value.category]; done) | rfl) ?_
  intro p_ e_ s_ m_ below_ meth_ c_ b_ T_ K hSP
  refine k_aloadN K d_jdk_42_method_3_code_0 (pc' := 1) rfl rfl rfl ?_
  refine k_aloadN K d_jdk_42_method_3_code_1 (pc' := 2) rfl rfl rfl ?_
  refine k_iconst K (0 : Int32) d_jdk_42_method_3_code_2 (pc' := 3) rfl rfl ?_
  refine k_aloadN K d_jdk_42_method_3_code_3 (pc' := 4) rfl rfl rfl ?_
  refine k_len K V_va d_jdk_42_method_3_code_4 (pc' := 5) rfl ?_
  refine k_aconst_null K d_jdk_42_method_3_code_5 (pc' := 6) rfl ?_
  refine k_special K [(.ref va), (.int (0 : Int32)), (.int n), .null] [] 0 (w13 hw) (w14 hw) (w8 hw) (w16 hw) rfl rfl (by decide) pd___CIILjava_lang_Void__V_3625 (c_init149a l Z a0 hw hEW n0 a va kv n cs u1 u2 cs0 h0 K.old hn hb hc V_va X_a F_a_value F_a_coder ga_a ne_a_va SC hcs) d_jdk_42_method_3_code_6 (fun x hx => by cases List.mem_singleton.mp hx; exact ⟨X_a.lt, hSP a (by simp)⟩) (pc' := 9) rfl rfl rfl rfl (Nat.le_of_eq rfl) (by decide) (by decide) (by decide) (by decide) ?_
  intro b17 T17 h17 L17 v17 K17 tr17 q17
  obtain ⟨rfl, KQ, d, kd, S⟩ := q17
  show Goes p_.tables e_ below_ _ (T17.setTop (mkF m_ 9 #[.val (.ref a), .val (.ref va)] []))
  exact k_return K17 d_jdk_42_method_3_code_9 rfl (fun sf ht => ⟨rfl, KQ, d, kd, S⟩) (by decide) (by decide)
theorem d_jdk_42_method_152_code_0 : decode jdk_42_method_152_code 0 = .ok (.getstatic 38, 3) := by decide +kernel
theorem d_jdk_42_method_152_code_3 : decode jdk_42_method_152_code 3 = .ok (.ifCond .eq 10, 3) := by decide +kernel
theorem d_jdk_42_method_152_code_6 : decode jdk_42_method_152_code 6 = .ok (.aload_n 0, 1) := by decide +kernel
theorem d_jdk_42_method_152_code_7 : decode jdk_42_method_152_code 7 = .ok (.getfield 15, 3) := by decide +kernel
theorem d_jdk_42_method_152_code_10 : decode jdk_42_method_152_code 10 = .ok (.goto 4, 3) := by decide +kernel
theorem d_jdk_42_method_152_code_14 : decode jdk_42_method_152_code 14 = .ok (.ireturn, 1) := by decide +kernel
set_option maxRecDepth 65536 in
set_option maxHeartbeats 40000000 in
theorem c_coder (l : Launch) (Z : State) (a0 : Array Value) (hw : Tb a0 Z) (hEW : EW Z a0 EL0) (n0 : Nat) (a b : Addr) (k : ClassId) (cd z : Int32) (vs : List Value) (cs0 : Int32) (h0 : Heap) (O : Old Z n0 h0) (S : Str Z h0 a b k cd z vs) (hcd : cd = 0 ∨ cd = 1) (SC : Sta Z Z.heap "java/lang/String" "COMPACT_STRINGS" "Z" (.int cs0)) (hcs : ¬ cs0 = 0) :
    Ct l Z EL0 n0 (⟨"java/lang/String", "coder", "()B"⟩ : MethodName) jdk_42_method_152_code 1 (some .byte) ({ frames := 0, cells := 0, slots := 0, locals := 0 } : Room) #[(.ref a)] h0 [] (Pu (some (.int cd)) h0) := by
  refine Ct.of (a0 := a0) #[.val (.ref a)] hEW O (plainFor_of_name pl_java_lang_String) (fun m => by first | (simp [entryFrame, mkF, argsToLocals, Value.category]; done) | rfl) ?_
  intro p_ e_ s_ m_ below_ meth_ c_ b_ T_ K hSP
  refine k_getS K (w20 hw) Via.refl SC d_jdk_42_method_152_code_0 (pc' := 3) rfl ?_
  intro T18 K18
  refine k_if_eq K18 d_jdk_42_method_152_code_3 (by decide) (pc' := 13) (pc2 := 6) (by decide) rfl (fun q => absurd q hcs) (fun hc3 => ?_)
  refine k_aloadN K18 d_jdk_42_method_152_code_6 (pc' := 7) rfl rfl rfl ?_
  refine k_getF K18 (w32 hw) Via.refl S.2.1 d_jdk_42_method_152_code_7 (pc' := 10) rfl ?_
  intro T19 K19
  refine k_goto K19 d_jdk_42_method_152_code_10 (by decide) (pc' := 14) (by decide) ?_
  exact k_nret K19 d_jdk_42_method_152_code_14 rfl (by simp) (by rcases hcd with rfl | rfl <;> rfl) (fun sf ht => ⟨rfl, rfl⟩) (by decide) (by decide)
theorem d_jdk_42_method_54_code_0 : decode jdk_42_method_54_code 0 = .ok (.aload_n 0, 1) := by decide +kernel
theorem d_jdk_42_method_54_code_1 : decode jdk_42_method_54_code 1 = .ok (.getfield 9, 3) := by decide +kernel
theorem d_jdk_42_method_54_code_4 : decode jdk_42_method_54_code 4 = .ok (.arraylength, 1) := by decide +kernel
theorem d_jdk_42_method_54_code_5 : decode jdk_42_method_54_code 5 = .ok (.aload_n 0, 1) := by decide +kernel
theorem d_jdk_42_method_54_code_6 : decode jdk_42_method_54_code 6 = .ok (.invokevirtual 335, 3) := by decide +kernel
theorem w80 {Z : State} {a0 : Array Value} (hw : Tb a0 Z) : (Jvm.Cond.methodLink "java/lang/String" (335 : Nat) ({ cls := "java/lang/String", name := "coder", desc := "()B" } : Jvm.MethodName)).before a0 Z = true := hw _ (List.mem_of_getElem? (i := 80) rfl)
theorem w84 {Z : State} {a0 : Array Value} (hw : Tb a0 Z) : (Jvm.Cond.code ({ cls := "java/lang/String", name := "coder", desc := "()B" } : Jvm.MethodName) jdk_42_method_152_code (1 : Nat) (Option.some Jvm.ClassFile.FieldType.byte)).before a0 Z = true := hw _ (List.mem_of_getElem? (i := 84) rfl)
theorem w83 {Z : State} {a0 : Array Value} (hw : Tb a0 Z) : (Jvm.Cond.selects "java/lang/String" ({ cls := "java/lang/String", name := "coder", desc := "()B" } : Jvm.MethodName) ({ cls := "java/lang/String", name := "coder", desc := "()B" } : Jvm.MethodName)).before a0 Z = true := hw _ (List.mem_of_getElem? (i := 83) rfl)
theorem w81 {Z : State} {a0 : Array Value} (hw : Tb a0 Z) : (Jvm.Cond.declares ({ cls := "java/lang/String", name := "coder", desc := "()B" } : Jvm.MethodName)).before a0 Z = true := hw _ (List.mem_of_getElem? (i := 81) rfl)
theorem w82 {Z : State} {a0 : Array Value} (hw : Tb a0 Z) : (Jvm.Cond.instanceMethod ({ cls := "java/lang/String", name := "coder", desc := "()B" } : Jvm.MethodName)).before a0 Z = true := hw _ (List.mem_of_getElem? (i := 82) rfl)
theorem pd___B_320 : parseMethodDescriptor "()B" = some ⟨[], some .byte⟩ := by decide +kernel
theorem d_jdk_42_method_54_code_9 : decode jdk_42_method_54_code 9 = .ok (.ishr, 1) := by decide +kernel
theorem d_jdk_42_method_54_code_10 : decode jdk_42_method_54_code 10 = .ok (.ireturn, 1) := by decide +kernel
set_option maxRecDepth 65536 in
set_option maxHeartbeats 40000000 in
theorem c_length (l : Launch) (Z : State) (a0 : Array Value) (hw : Tb a0 Z) (hEW : EW Z a0 EL0) (n0 : Nat) (a b : Addr) (k : ClassId) (cd z : Int32) (vs : List Value) (cs0 : Int32) (h0 : Heap) (O : Old Z n0 h0) (S : Str Z h0 a b k cd z vs) (hcd : cd = 0 ∨ cd = 1) (SC : Sta Z Z.heap "java/lang/String" "COMPACT_STRINGS" "Z" (.int cs0)) (hcs : ¬ cs0 = 0) :
    Ct l Z EL0 n0 (⟨"java/lang/String", "length", "()I"⟩ : MethodName) jdk_42_method_54_code 1 (some .int) ({ frames := 1, cells := 0, slots := 0, locals := 13 } : Room) #[(.ref a)] h0 [] (Pu (some (.int (z >>> (cd &&& 31)))) h0) := by
  refine Ct.of (a0 := a0) #[.val (.ref a)] hEW O (plainFor_of_name pl_java_lang_String) (fun m => by first | (simp [entryFrame, mkF, argsToLocals, Value.category]; done) | rfl) ?_
  intro p_ e_ s_ m_ below_ meth_ c_ b_ T_ K hSP
  refine k_aloadN K d_jdk_42_method_54_code_0 (pc' := 1) rfl rfl rfl ?_
  refine k_getF K (w34 hw) Via.refl S.2.2.1 d_jdk_42_method_54_code_1 (pc' := 4) rfl ?_
  intro T20 K20
  refine k_len K20 S.2.2.2 d_jdk_42_method_54_code_4 (pc' := 5) rfl ?_
  refine k_aloadN K20 d_jdk_42_method_54_code_5 (pc' := 6) rfl rfl rfl ?_
  refine k_virtualP K20 [] [(.int z)] 1 (w80 hw) (w81 hw) (w82 hw) (w83 hw) (w8 hw) (w84 hw) (notFace_of_selects (args := #[]) (mvT K20.hZ (w83 hw))) rfl (by decide) S.1 (by decide) pd___B_320 (c_coder l Z a0 hw hEW n0 a b k cd z vs cs0 h0 K20.old S hcd SC hcs) d_jdk_42_method_54_code_6 nofun (pc' := 9) rfl rfl rfl rfl (Nat.le_of_eq rfl) (by decide) (by decide) (by decide) (by decide) ?_
  intro b21 T21 L21 K21 tr21
  show Goes p_.tables e_ below_ _ (T21.setTop (mkF m_ 9 #[.val (.ref a)] [(.int cd), (.int z)]))
  refine k_ishr K21 d_jdk_42_method_54_code_9 (pc' := 10) rfl ?_
  exact k_iret K21 d_jdk_42_method_54_code_10 rfl (fun sf ht => ⟨rfl, rfl⟩) (by decide) (by decide)
theorem d_jdk_41_method_11_code_0 : decode jdk_41_method_11_code 0 = .ok (.iload_n 0, 1) := by decide +kernel
theorem d_jdk_41_method_11_code_1 : decode jdk_41_method_11_code 1 = .ok (.ifCond .lt 8, 3) := by decide +kernel
theorem d_jdk_41_method_11_code_4 : decode jdk_41_method_11_code 4 = .ok (.iload_n 0, 1) := by decide +kernel
theorem d_jdk_41_method_11_code_5 : decode jdk_41_method_11_code 5 = .ok (.iload_n 1, 1) := by decide +kernel
theorem d_jdk_41_method_11_code_6 : decode jdk_41_method_11_code 6 = .ok (.if_icmp .lt 10, 3) := by decide +kernel
theorem d_jdk_41_method_11_code_16 : decode jdk_41_method_11_code 16 = .ok (.iload_n 0, 1) := by decide +kernel
theorem d_jdk_41_method_11_code_17 : decode jdk_41_method_11_code 17 = .ok (.ireturn, 1) := by decide +kernel
theorem pl_jdk_internal_util_Preconditions : plainName "jdk/internal/util/Preconditions" = true := by first | (simp [plainName, overriddenIn]; done) | decide +kernel
set_option maxRecDepth 65536 in
set_option maxHeartbeats 40000000 in
theorem c_checkIndexP (l : Launch) (Z : State) (a0 : Array Value) (hw : Tb a0 Z) (hEW : EW Z a0 EL0) (n0 : Nat) (i n : Int32) (ff : Value) (h0 : Heap) (O : Old Z n0 h0) (hff : ff.isRef = true) (h1 : ¬ i < 0) (h2 : i < n) :
    Ct l Z EL0 n0 (⟨"jdk/internal/util/Preconditions", "checkIndex", "(IILjava/util/function/BiFunction;)I"⟩ : MethodName) jdk_41_method_11_code 3 (some .int) ({ frames := 0, cells := 0, slots := 0, locals := 0 } : Room) #[(.int i), (.int n), ff] h0 [] (Pu (some (.int i)) h0) := by
  refine Ct.of (a0 := a0) #[.val (.int i), .val (.int n), .val ff] hEW O (plainFor_of_name pl_jdk_internal_util_Preconditions) (fun m => by rcases own_refc hff with rfl | ⟨r, rfl⟩ <;> first | (simp [entryFrame, mkF, argsToLocals, Value.category]; done) | rfl) ?_
  intro p_ e_ s_ m_ below_ meth_ c_ b_ T_ K hSP
  refine k_iloadN K d_jdk_41_method_11_code_0 (pc' := 1) rfl rfl ?_
  refine k_if_lt K d_jdk_41_method_11_code_1 (by decide) (pc' := 9) (pc2 := 4) (by decide) rfl (fun q => absurd q h1) (fun hc1 => ?_)
  refine k_iloadN K d_jdk_41_method_11_code_4 (pc' := 5) rfl rfl ?_
  refine k_iloadN K d_jdk_41_method_11_code_5 (pc' := 6) rfl rfl ?_
  refine k_icmp_lt K d_jdk_41_method_11_code_6 (by decide) (pc' := 16) (pc2 := 9) (by decide) rfl (fun hc6 => ?_) (fun q => absurd h2 q)
  refine k_iloadN K d_jdk_41_method_11_code_16 (pc' := 17) rfl rfl ?_
  exact k_iret K d_jdk_41_method_11_code_17 rfl (fun sf ht => ⟨rfl, rfl⟩) (by decide) (by decide)
theorem d_jdk_42_method_155_code_0 : decode jdk_42_method_155_code 0 = .ok (.iload_n 0, 1) := by decide +kernel
theorem d_jdk_42_method_155_code_1 : decode jdk_42_method_155_code 1 = .ok (.iload_n 1, 1) := by decide +kernel
theorem d_jdk_42_method_155_code_2 : decode jdk_42_method_155_code 2 = .ok (.getstatic 1053, 3) := by decide +kernel
theorem w105 {Z : State} {a0 : Array Value} (hw : Tb a0 Z) : (Jvm.Cond.fieldLink "java/lang/String" (1053 : Nat) "jdk/internal/util/Preconditions" "SIOOBE_FORMATTER" "Ljava/util/function/BiFunction;").before a0 Z = true := hw _ (List.mem_of_getElem? (i := 105) rfl)
theorem d_jdk_42_method_155_code_5 : decode jdk_42_method_155_code 5 = .ok (.invokestatic 1059, 3) := by decide +kernel
theorem w107 {Z : State} {a0 : Array Value} (hw : Tb a0 Z) : (Jvm.Cond.methodLink "java/lang/String" (1059 : Nat) ({ cls := "jdk/internal/util/Preconditions", name := "checkIndex", desc := "(IILjava/util/function/BiFunction;)I" } : Jvm.MethodName)).before a0 Z = true := hw _ (List.mem_of_getElem? (i := 107) rfl)
theorem w106 {Z : State} {a0 : Array Value} (hw : Tb a0 Z) : (Jvm.Cond.initialized "jdk/internal/util/Preconditions").before a0 Z = true := hw _ (List.mem_of_getElem? (i := 106) rfl)
theorem w109 {Z : State} {a0 : Array Value} (hw : Tb a0 Z) : (Jvm.Cond.code ({ cls := "jdk/internal/util/Preconditions", name := "checkIndex", desc := "(IILjava/util/function/BiFunction;)I" } : Jvm.MethodName) jdk_41_method_11_code (3 : Nat) (Option.some Jvm.ClassFile.FieldType.int)).before a0 Z = true := hw _ (List.mem_of_getElem? (i := 109) rfl)
theorem w108 {Z : State} {a0 : Array Value} (hw : Tb a0 Z) : (Jvm.Cond.static ({ cls := "jdk/internal/util/Preconditions", name := "checkIndex", desc := "(IILjava/util/function/BiFunction;)I" } : Jvm.MethodName)).before a0 Z = true := hw _ (List.mem_of_getElem? (i := 108) rfl)
theorem pd__IILjava_util_function_BiFunction__I_2091 : parseMethodDescriptor "(IILjava/util/function/BiFunction;)I" = some ⟨[.int, .int, (.object "java/util/function/BiFunction")], some .int⟩ := by decide +kernel
theorem d_jdk_42_method_155_code_8 : decode jdk_42_method_155_code 8 = .ok (.pop, 1) := by decide +kernel
theorem d_jdk_42_method_155_code_9 : decode jdk_42_method_155_code 9 = .ok (.return_, 1) := by decide +kernel
set_option maxRecDepth 65536 in
set_option maxHeartbeats 40000000 in
theorem c_checkIndexS (l : Launch) (Z : State) (a0 : Array Value) (hw : Tb a0 Z) (hEW : EW Z a0 EL0) (n0 : Nat) (i n : Int32) (ff : Value) (h0 : Heap) (O : Old Z n0 h0) (SF : Sta Z Z.heap "jdk/internal/util/Preconditions" "SIOOBE_FORMATTER" "Ljava/util/function/BiFunction;" ff) (hff : ff.isRef = true) (h1 : ¬ i < 0) (h2 : i < n) :
    Ct l Z EL0 n0 (⟨"java/lang/String", "checkIndex", "(II)V"⟩ : MethodName) jdk_42_method_155_code 2 none ({ frames := 1, cells := 0, slots := 0, locals := 14 } : Room) #[(.int i), (.int n)] h0 [] (Pu none h0) := by
  refine Ct.of (a0 := a0) #[.val (.int i), .val (.int n)] hEW O (plainFor_of_name pl_java_lang_String) (fun m => by first | (simp [entryFrame, mkF, argsToLocals, Value.category]; done) | rfl) ?_
  intro p_ e_ s_ m_ below_ meth_ c_ b_ T_ K hSP
  refine k_iloadN K d_jdk_42_method_155_code_0 (pc' := 1) rfl rfl ?_
  refine k_iloadN K d_jdk_42_method_155_code_1 (pc' := 2) rfl rfl ?_
  refine k_getS K (w105 hw) Via.refl SF d_jdk_42_method_155_code_2 (pc' := 5) rfl ?_
  intro T22 K22
  refine k_staticP K22 [(.int i), (.int n), ff] [] 0 (w107 hw) (w108 hw) (w106 hw) (w109 hw) (by decide) pd__IILjava_util_function_BiFunction__I_2091 (c_checkIndexP l Z a0 hw hEW n0 i n ff h0 K22.old hff h1 h2) d_jdk_42_method_155_code_5 nofun (pc' := 8) rfl rfl rfl rfl (Nat.le_of_eq rfl) (by decide) (by decide) (by decide) (by decide) ?_
  intro b23 T23 L23 K23 tr23
  show Goes p_.tables e_ below_ _ (T23.setTop (mkF m_ 8 #[.val (.int i), .val (.int n)] [(.int i)]))
  refine k_pop K23 d_jdk_42_method_155_code_8 (pc' := 9) rfl rfl ?_
  exact k_return K23 d_jdk_42_method_155_code_9 rfl (fun sf ht => ⟨rfl, rfl⟩) (by decide) (by decide)
theorem own_ch8 {c : Int32} (h : 0 ≤ c.toInt ∧ c.toInt < 256) : (c.toInt8.toInt32 &&& 255).toUInt32.toUInt16.toUInt32.toInt32 = c := by
  obtain ⟨n, hn⟩ := Int.eq_ofNat_of_zero_le h.1
  have e := own_nat hn
  apply Int32.toBitVec_inj.mp
  apply BitVec.eq_of_toNat_eq
  rw [own_i2cN, own_low, e]; omega
theorem preN_low : ∀ (cs : List Int32), preN cs = cs.length → ∀ c ∈ cs, ¬ (255 : Int32) < c
  | [], _, c, q => nomatch q
  | c :: t, h, d, hd => by
    unfold preN at h
    split at h
    · simp at h
    · rename_i q
      rcases List.mem_cons.mp hd with rfl | r
      · exact q
      · exact preN_low t (by simpa using h) d r
theorem strVs_lat {cs : List Int32} (ep : preN cs = cs.length) : strVs cs = (cs.map fun c => c.toInt8.toInt32).map Value.int := by
  rw [strVs, if_pos ep, fillL, List.take_length, Nat.sub_self, List.replicate_zero, List.append_nil, List.map_map]; rfl
theorem own_ifNe {P : Prop} [Decidable P] (h : ¬ (if P then (1 : Int32) else 0) = 0) : P := Classical.byContradiction fun q => h (if_neg q)
theorem own_ifEq {P : Prop} [Decidable P] (h : (if P then (1 : Int32) else 0) = 0) : ¬ P := fun q => by rw [if_pos q] at h; exact absurd h (by decide)
theorem d_jdk_43_method_2_code_0 : decode jdk_43_method_2_code 0 = .ok (.iload_n 1, 1) := by decide +kernel
theorem d_jdk_43_method_2_code_1 : decode jdk_43_method_2_code 1 = .ok (.aload_n 0, 1) := by decide +kernel
theorem d_jdk_43_method_2_code_2 : decode jdk_43_method_2_code 2 = .ok (.arraylength, 1) := by decide +kernel
theorem d_jdk_43_method_2_code_3 : decode jdk_43_method_2_code 3 = .ok (.invokestatic 9, 3) := by decide +kernel
theorem w102 {Z : State} {a0 : Array Value} (hw : Tb a0 Z) : (Jvm.Cond.methodLink "java/lang/StringLatin1" (9 : Nat) ({ cls := "java/lang/String", name := "checkIndex", desc := "(II)V" } : Jvm.MethodName)).before a0 Z = true := hw _ (List.mem_of_getElem? (i := 102) rfl)
theorem w104 {Z : State} {a0 : Array Value} (hw : Tb a0 Z) : (Jvm.Cond.code ({ cls := "java/lang/String", name := "checkIndex", desc := "(II)V" } : Jvm.MethodName) jdk_42_method_155_code (2 : Nat) (Option.none : Option Jvm.ClassFile.FieldType)).before a0 Z = true := hw _ (List.mem_of_getElem? (i := 104) rfl)
theorem w103 {Z : State} {a0 : Array Value} (hw : Tb a0 Z) : (Jvm.Cond.static ({ cls := "java/lang/String", name := "checkIndex", desc := "(II)V" } : Jvm.MethodName)).before a0 Z = true := hw _ (List.mem_of_getElem? (i := 103) rfl)
theorem pd__II_V_999 : parseMethodDescriptor "(II)V" = some ⟨[.int, .int], none⟩ := by decide +kernel
theorem d_jdk_43_method_2_code_6 : decode jdk_43_method_2_code 6 = .ok (.aload_n 0, 1) := by decide +kernel
theorem d_jdk_43_method_2_code_7 : decode jdk_43_method_2_code 7 = .ok (.iload_n 1, 1) := by decide +kernel
theorem d_jdk_43_method_2_code_8 : decode jdk_43_method_2_code 8 = .ok (.baload, 1) := by decide +kernel
theorem d_jdk_43_method_2_code_9 : decode jdk_43_method_2_code 9 = .ok (.sipush 255, 3) := by decide +kernel
theorem d_jdk_43_method_2_code_12 : decode jdk_43_method_2_code 12 = .ok (.iand, 1) := by decide +kernel
theorem d_jdk_43_method_2_code_13 : decode jdk_43_method_2_code 13 = .ok (.i2c, 1) := by decide +kernel
theorem d_jdk_43_method_2_code_14 : decode jdk_43_method_2_code 14 = .ok (.ireturn, 1) := by decide +kernel
theorem pl_java_lang_StringLatin1 : plainName "java/lang/StringLatin1" = true := by first | (simp [plainName, overriddenIn]; done) | decide +kernel
set_option maxRecDepth 65536 in
set_option maxHeartbeats 40000000 in
theorem c_l1charAt (l : Launch) (Z : State) (a0 : Array Value) (hw : Tb a0 Z) (hEW : EW Z a0 EL0) (n0 : Nat) (e : Addr) (ke : ClassId) (z i x : Int32) (vs : List Value) (ff : Value) (h0 : Heap) (O : Old Z n0 h0) (SF : Sta Z Z.heap "jdk/internal/util/Preconditions" "SIOOBE_FORMATTER" "Ljava/util/function/BiFunction;" ff) (hff : ff.isRef = true) (V_e : Arv Z h0 e ke .byte z vs (.int 0)) (h1 : ¬ i < 0) (h2 : i < z) (hv : vs.getD i.toNatClampNeg (.int 0) = .int x) :
    Ct l Z EL0 n0 (⟨"java/lang/StringLatin1", "charAt", "([BI)C"⟩ : MethodName) jdk_43_method_2_code 2 (some .char) ({ frames := 2, cells := 0, slots := 0, locals := 27 } : Room) #[(.ref e), (.int i)] h0 [] (Pu (some (.int (x &&& 255).toUInt32.toUInt16.toUInt32.toInt32)) h0) := by
  refine Ct.of (a0 := a0) #[.val (.ref e), .val (.int i)] hEW O (plainFor_of_name pl_java_lang_StringLatin1) (fun m => by first | (simp [entryFrame, mkF, argsToLocals, Value.category]; done) | rfl) ?_
  intro p_ e_ s_ m_ below_ meth_ c_ b_ T_ K hSP
  refine k_iloadN K d_jdk_43_method_2_code_0 (pc' := 1) rfl rfl ?_
  refine k_aloadN K d_jdk_43_method_2_code_1 (pc' := 2) rfl rfl rfl ?_
  refine k_len K V_e d_jdk_43_method_2_code_2 (pc' := 3) rfl ?_
  refine k_staticP K [(.int i), (.int z)] [] 0 (w102 hw) (w103 hw) (w8 hw) (w104 hw) (by decide) pd__II_V_999 (c_checkIndexS l Z a0 hw hEW n0 i z ff h0 K.old SF hff h1 h2) d_jdk_43_method_2_code_3 nofun (pc' := 6) rfl rfl rfl rfl (Nat.le_of_eq rfl) (by decide) (by decide) (by decide) (by decide) ?_
  intro b24 T24 L24 K24 tr24
  show Goes p_.tables e_ below_ _ (T24.setTop (mkF m_ 6 #[.val (.ref e), .val (.int i)] []))
  refine k_aloadN K24 d_jdk_43_method_2_code_6 (pc' := 7) rfl rfl rfl ?_
  refine k_iloadN K24 d_jdk_43_method_2_code_7 (pc' := 8) rfl rfl ?_
  refine k_baload K24 (j := i) V_e ⟨h1, h2⟩ hv d_jdk_43_method_2_code_8 (pc' := 9) rfl ?_
  have hr := own_i2c (x &&& 255)
  refine k_sipush K24 (255 : Int32) d_jdk_43_method_2_code_9 (pc' := 12) rfl rfl ?_
  refine k_iand K24 d_jdk_43_method_2_code_12 (pc' := 13) rfl ?_
  refine k_i2c K24 d_jdk_43_method_2_code_13 (pc' := 14) rfl ?_
  exact k_nret K24 d_jdk_43_method_2_code_14 rfl (by simp) (own_narrowc hr.1 hr.2) (fun sf ht => ⟨rfl, rfl⟩) (by decide) (by decide)
theorem d_jdk_42_method_154_code_0 : decode jdk_42_method_154_code 0 = .ok (.getstatic 38, 3) := by decide +kernel
theorem d_jdk_42_method_154_code_3 : decode jdk_42_method_154_code 3 = .ok (.ifCond .eq 14, 3) := by decide +kernel
theorem d_jdk_42_method_154_code_6 : decode jdk_42_method_154_code 6 = .ok (.aload_n 0, 1) := by decide +kernel
theorem d_jdk_42_method_154_code_7 : decode jdk_42_method_154_code 7 = .ok (.getfield 15, 3) := by decide +kernel
theorem d_jdk_42_method_154_code_10 : decode jdk_42_method_154_code 10 = .ok (.ifCond .ne 7, 3) := by decide +kernel
theorem d_jdk_42_method_154_code_17 : decode jdk_42_method_154_code 17 = .ok (.iconst 0, 1) := by decide +kernel
theorem d_jdk_42_method_154_code_18 : decode jdk_42_method_154_code 18 = .ok (.ireturn, 1) := by decide +kernel
theorem d_jdk_42_method_154_code_13 : decode jdk_42_method_154_code 13 = .ok (.iconst 1, 1) := by decide +kernel
theorem d_jdk_42_method_154_code_14 : decode jdk_42_method_154_code 14 = .ok (.goto 4, 3) := by decide +kernel
set_option maxRecDepth 65536 in
set_option maxHeartbeats 40000000 in
theorem c_isLatin1 (l : Launch) (Z : State) (a0 : Array Value) (hw : Tb a0 Z) (hEW : EW Z a0 EL0) (n0 : Nat) (a b : Addr) (k : ClassId) (cd z : Int32) (vs : List Value) (cs0 : Int32) (h0 : Heap) (O : Old Z n0 h0) (S : Str Z h0 a b k cd z vs) (hcd : cd = 0 ∨ cd = 1) (SC : Sta Z Z.heap "java/lang/String" "COMPACT_STRINGS" "Z" (.int cs0)) (hcs : ¬ cs0 = 0) :
    Ct l Z EL0 n0 (⟨"java/lang/String", "isLatin1", "()Z"⟩ : MethodName) jdk_42_method_154_code 1 (some .boolean) ({ frames := 0, cells := 0, slots := 0, locals := 0 } : Room) #[(.ref a)] h0 [] (Pu (some (.int (if cd = 0 then 1 else 0))) h0) := by
  refine Ct.of (a0 := a0) #[.val (.ref a)] hEW O (plainFor_of_name pl_java_lang_String) (fun m => by first | (simp [entryFrame, mkF, argsToLocals, Value.category]; done) | rfl) ?_
  intro p_ e_ s_ m_ below_ meth_ c_ b_ T_ K hSP
  refine k_getS K (w20 hw) Via.refl SC d_jdk_42_method_154_code_0 (pc' := 3) rfl ?_
  intro T25 K25
  refine k_if_eq K25 d_jdk_42_method_154_code_3 (by decide) (pc' := 17) (pc2 := 6) (by decide) rfl (fun q => absurd q hcs) (fun hc3 => ?_)
  refine k_aloadN K25 d_jdk_42_method_154_code_6 (pc' := 7) rfl rfl rfl ?_
  refine k_getF K25 (w32 hw) Via.refl S.2.1 d_jdk_42_method_154_code_7 (pc' := 10) rfl ?_
  intro T26 K26
  refine k_if_ne K26 d_jdk_42_method_154_code_10 (by decide) (pc' := 17) (pc2 := 13) (by decide) rfl (fun hc10 => ?_) (fun hc10 => ?_)
  · refine k_iconst K26 (0 : Int32) d_jdk_42_method_154_code_17 (pc' := 18) rfl rfl ?_
    exact k_nret K26 d_jdk_42_method_154_code_18 rfl (by simp) rfl (fun sf ht => ⟨by rw [if_neg hc10], rfl⟩) (by decide) (by decide)
  · refine k_iconst K26 (1 : Int32) d_jdk_42_method_154_code_13 (pc' := 14) rfl rfl ?_
    refine k_goto K26 d_jdk_42_method_154_code_14 (by decide) (pc' := 18) (by decide) ?_
    exact k_nret K26 d_jdk_42_method_154_code_18 rfl (by simp) rfl (fun sf ht => ⟨by rw [if_pos hc10], rfl⟩) (by decide) (by decide)
theorem fld_uniq {Z : State} {h : Heap} {a : Addr} {C n d : String} {v w : Value} (F : Fld Z h a C n d v) (G : Fld Z h a C n d w) : v = w := Classical.byContradiction fun q => F.ne G q rfl
theorem arv_uniq {Z : State} {h : Heap} {b : Addr} {k k' : ClassId} {ty ty' : FieldType} {z z' : Int32} {xs ys : List Int32} {dv dv' : Value} (F : Arv Z h b k ty z (xs.map Value.int) dv) (G : Arv Z h b k' ty' z' (ys.map Value.int) dv') (hz : z.toInt = xs.length) (hz' : z'.toInt = ys.length) : xs = ys := by
  obtain ⟨c, A, -, S, -, H, -⟩ := F
  obtain ⟨c', A', -, S', -, H', -⟩ := G
  cases A.1.symm.trans A'.1
  rw [own_clamp hz] at S
  rw [own_clamp hz'] at S'
  have hl : xs.length = ys.length := S.symm.trans S'
  apply List.ext_getElem hl
  intro i h1 h2
  have e1 := H i (by rw [S]; exact h1)
  have e2 := H' i (by rw [S]; exact h1)
  rw [e1] at e2
  simpa [List.getD_eq_getElem?_getD, h1, h2] using e2
theorem str_uniq {Z : State} {h : Heap} {a b b' : Addr} {k k' : ClassId} {cd cd' z z' : Int32} {xs ys : List Int32} (S : Str Z h a b k cd z (xs.map Value.int)) (S' : Str Z h a b' k' cd' z' (ys.map Value.int)) (hz : z.toInt = xs.length) (hz' : z'.toInt = ys.length) : xs = ys := by
  have e := fld_uniq S.2.2.1 S'.2.2.1
  cases e
  exact arv_uniq S.2.2.2 S'.2.2.2 hz hz'
theorem own_getI (xs : List Int32) (i : Nat) (h : i < xs.length) : (xs.map Value.int).getD i (.int 0) = .int xs[i] := by simp [List.getD_eq_getElem?_getD, h]
theorem d_jdk_43_method_13_code_0 : decode jdk_43_method_13_code 0 = .ok (.aload_n 0, 1) := by decide +kernel
theorem d_jdk_43_method_13_code_1 : decode jdk_43_method_13_code 1 = .ok (.arraylength, 1) := by decide +kernel
theorem d_jdk_43_method_13_code_2 : decode jdk_43_method_13_code 2 = .ok (.aload_n 1, 1) := by decide +kernel
theorem d_jdk_43_method_13_code_3 : decode jdk_43_method_13_code 3 = .ok (.arraylength, 1) := by decide +kernel
theorem d_jdk_43_method_13_code_4 : decode jdk_43_method_13_code 4 = .ok (.if_icmp .ne 30, 3) := by decide +kernel
theorem d_jdk_43_method_13_code_34 : decode jdk_43_method_13_code 34 = .ok (.iconst 0, 1) := by decide +kernel
theorem d_jdk_43_method_13_code_35 : decode jdk_43_method_13_code 35 = .ok (.ireturn, 1) := by decide +kernel
theorem d_jdk_43_method_13_code_7 : decode jdk_43_method_13_code 7 = .ok (.iconst 0, 1) := by decide +kernel
theorem d_jdk_43_method_13_code_8 : decode jdk_43_method_13_code 8 = .ok (.istore_n 2, 1) := by decide +kernel
theorem d_jdk_43_method_13_code_9 : decode jdk_43_method_13_code 9 = .ok (.iload_n 2, 1) := by decide +kernel
theorem d_jdk_43_method_13_code_10 : decode jdk_43_method_13_code 10 = .ok (.aload_n 0, 1) := by decide +kernel
theorem d_jdk_43_method_13_code_11 : decode jdk_43_method_13_code 11 = .ok (.arraylength, 1) := by decide +kernel
theorem d_jdk_43_method_13_code_12 : decode jdk_43_method_13_code 12 = .ok (.if_icmp .ge 20, 3) := by decide +kernel
theorem d_jdk_43_method_13_code_32 : decode jdk_43_method_13_code 32 = .ok (.iconst 1, 1) := by decide +kernel
theorem d_jdk_43_method_13_code_33 : decode jdk_43_method_13_code 33 = .ok (.ireturn, 1) := by decide +kernel
theorem d_jdk_43_method_13_code_15 : decode jdk_43_method_13_code 15 = .ok (.aload_n 0, 1) := by decide +kernel
theorem d_jdk_43_method_13_code_16 : decode jdk_43_method_13_code 16 = .ok (.iload_n 2, 1) := by decide +kernel
theorem d_jdk_43_method_13_code_17 : decode jdk_43_method_13_code 17 = .ok (.baload, 1) := by decide +kernel
theorem d_jdk_43_method_13_code_18 : decode jdk_43_method_13_code 18 = .ok (.aload_n 1, 1) := by decide +kernel
theorem d_jdk_43_method_13_code_19 : decode jdk_43_method_13_code 19 = .ok (.iload_n 2, 1) := by decide +kernel
theorem d_jdk_43_method_13_code_20 : decode jdk_43_method_13_code 20 = .ok (.baload, 1) := by decide +kernel
theorem d_jdk_43_method_13_code_21 : decode jdk_43_method_13_code 21 = .ok (.if_icmp .eq 5, 3) := by decide +kernel
theorem d_jdk_43_method_13_code_26 : decode jdk_43_method_13_code 26 = .ok (.iinc 2 1, 3) := by decide +kernel
theorem d_jdk_43_method_13_code_29 : decode jdk_43_method_13_code 29 = .ok (.goto (-20), 3) := by decide +kernel
theorem d_jdk_43_method_13_code_24 : decode jdk_43_method_13_code 24 = .ok (.iconst 0, 1) := by decide +kernel
theorem d_jdk_43_method_13_code_25 : decode jdk_43_method_13_code 25 = .ok (.ireturn, 1) := by decide +kernel
set_option maxRecDepth 65536 in
set_option maxHeartbeats 40000000 in
theorem c_l1equals (l : Launch) (Z : State) (a0 : Array Value) (hw : Tb a0 Z) (hEW : EW Z a0 EL0) (n0 : Nat) (u v : Addr) (ku kv : ClassId) (zu zv : Int32) (xs ys : List Int32) (h0 : Heap) (O : Old Z n0 h0) (hu : zu.toInt = xs.length) (hv : zv.toInt = ys.length) (hb : xs.length ≤ 4000) (V_u : Arv Z h0 u ku .byte zu (xs.map Value.int) (.int 0)) (V_v : Arv Z h0 v kv .byte zv (ys.map Value.int) (.int 0)) :
    Ct l Z EL0 n0 (⟨"java/lang/StringLatin1", "equals", "([B[B)Z"⟩ : MethodName) jdk_43_method_13_code 3 (some .boolean) ({ frames := 0, cells := 0, slots := 0, locals := 0 } : Room) #[(.ref u), (.ref v)] h0 [] (Pu (some (.int (if xs = ys then 1 else 0))) h0) := by
  refine Ct.of (a0 := a0) #[.val (.ref u), .val (.ref v), .unset] hEW O (plainFor_of_name pl_java_lang_StringLatin1) (fun m => by first | (simp [entryFrame, mkF, argsToLocals, Value.category]; done) | rfl) ?_
  intro p_ e_ s_ m_ below_ meth_ c_ b_ T_ K hSP
  refine k_aloadN K d_jdk_43_method_13_code_0 (pc' := 1) rfl rfl rfl ?_
  refine k_len K V_u d_jdk_43_method_13_code_1 (pc' := 2) rfl ?_
  refine k_aloadN K d_jdk_43_method_13_code_2 (pc' := 3) rfl rfl rfl ?_
  refine k_len K V_v d_jdk_43_method_13_code_3 (pc' := 4) rfl ?_
  refine k_icmp_ne K d_jdk_43_method_13_code_4 (by decide) (pc' := 34) (pc2 := 7) (by decide) rfl (fun hc4 => ?_) (fun hc4 => ?_)
  · refine k_iconst K (0 : Int32) d_jdk_43_method_13_code_34 (pc' := 35) rfl rfl ?_
    exact k_nret K d_jdk_43_method_13_code_35 rfl (by simp) rfl (fun sf ht => ⟨by rw [if_neg fun q => hc4 (own_i32e (by rw [hu, hv, q]))], rfl⟩) (by decide) (by decide)
  · have hlen : xs.length = ys.length := by have q := congrArg Int32.toInt hc4; rw [hu, hv] at q; omega
    refine k_iconst K (0 : Int32) d_jdk_43_method_13_code_7 (pc' := 8) rfl rfl ?_
    refine k_istoreN K d_jdk_43_method_13_code_8 (pc' := 9) (L' := #[.val (.ref u), .val (.ref v), .val (.int (0 : Int32))]) rfl rfl ?_
    have LOOP : ∀ (k : Nat) (i : Int32) (j : Nat) (hj : i.toInt = j) (hk : j + k = xs.length) (hs : ∀ x (hx : x < j), xs[x] = ys[x]) (bl Tl : State) (hl : Heap) (Ll : List Loc), Wk p_ l e_ ({ frames := 0, cells := 0, slots := 0, locals := 0 } : Room) s_ m_ #[(.ref u), (.ref v)] below_ meth_ c_ Z a0 EL0 n0 (⟨"java/lang/StringLatin1", "equals", "([B[B)Z"⟩ : MethodName) jdk_43_method_13_code 3 (some .boolean) bl Tl hl Ll 0 0 → (hl = h0) → Goes p_.tables e_ below_ (FinW Z EL0 s_ n0 ({ frames := 0, cells := 0, slots := 0, locals := 0 } : Room) (Pu (some (.int (if xs = ys then 1 else 0))) h0)) (Tl.setTop (mkF m_ 9 #[.val (.ref u), .val (.ref v), .val (.int i)] [])) := by
      intro k
      induction k with
      | zero =>
        intro i j hj hk hs bl Tl hl Ll Kl ehl
        subst ehl
        refine k_iloadN Kl d_jdk_43_method_13_code_9 (pc' := 10) rfl rfl ?_
        refine k_aloadN Kl d_jdk_43_method_13_code_10 (pc' := 11) rfl rfl rfl ?_
        refine k_len Kl V_u d_jdk_43_method_13_code_11 (pc' := 12) rfl ?_
        refine k_icmp_ge Kl d_jdk_43_method_13_code_12 (by decide) (pc' := 32) (pc2 := 15) (by decide) rfl (fun hc12 => ?_) (fun q => absurd q (by rw [own_i32, hj, hu]; omega))
        refine k_iconst Kl (1 : Int32) d_jdk_43_method_13_code_32 (pc' := 33) rfl rfl ?_
        exact k_nret Kl d_jdk_43_method_13_code_33 rfl (by simp) rfl (fun sf ht => ⟨by rw [if_pos (List.ext_getElem hlen fun x h1 h2 => hs x (by omega))], rfl⟩) (by decide) (by decide)
      | succ k ih =>
        intro i j hj hk hs bl Tl hl Ll Kl ehl
        subst ehl
        have hjl : j < xs.length := by omega
        refine k_iloadN Kl d_jdk_43_method_13_code_9 (pc' := 10) rfl rfl ?_
        refine k_aloadN Kl d_jdk_43_method_13_code_10 (pc' := 11) rfl rfl rfl ?_
        refine k_len Kl V_u d_jdk_43_method_13_code_11 (pc' := 12) rfl ?_
        refine k_icmp_ge Kl d_jdk_43_method_13_code_12 (by decide) (pc' := 32) (pc2 := 15) (by decide) rfl (fun q => absurd (by rw [own_i32, hj, hu]; omega) q) (fun hc12 => ?_)
        refine k_aloadN Kl d_jdk_43_method_13_code_15 (pc' := 16) rfl rfl rfl ?_
        refine k_iloadN Kl d_jdk_43_method_13_code_16 (pc' := 17) rfl rfl ?_
        refine k_baload Kl (j := i) V_u (own_in hj hu hjl) (by rw [own_clamp hj]; exact own_getI xs j hjl) d_jdk_43_method_13_code_17 (pc' := 18) rfl ?_
        refine k_aloadN Kl d_jdk_43_method_13_code_18 (pc' := 19) rfl rfl rfl ?_
        refine k_iloadN Kl d_jdk_43_method_13_code_19 (pc' := 20) rfl rfl ?_
        refine k_baload Kl (j := i) V_v (own_in hj hv (by omega)) (by rw [own_clamp hj]; exact own_getI ys j (by omega)) d_jdk_43_method_13_code_20 (pc' := 21) rfl ?_
        refine k_icmp_eq Kl d_jdk_43_method_13_code_21 (by decide) (pc' := 26) (pc2 := 24) (by decide) rfl (fun hc21 => ?_) (fun hc21 => ?_)
        · refine k_iinc Kl (1 : Int32) d_jdk_43_method_13_code_26 (pc' := 29) (L' := #[.val (.ref u), .val (.ref v), .val (.int (i + (1 : Int32)))]) rfl rfl rfl rfl ?_
          refine k_goto Kl d_jdk_43_method_13_code_29 (by decide) (pc' := 9) (by decide) ?_
          exact ih (i + 1) (j + 1) (own_add1 hj (by omega)) (by omega) (fun x hx => by
            rcases Nat.lt_or_ge x j with q | q
            · exact hs x q
            · have e1 : x = j := by omega
              subst e1; exact hc21) _ _ _ _ Kl rfl
        · refine k_iconst Kl (0 : Int32) d_jdk_43_method_13_code_24 (pc' := 25) rfl rfl ?_
          exact k_nret Kl d_jdk_43_method_13_code_25 rfl (by simp) rfl (fun sf ht => ⟨by rw [if_neg fun q => hc21 (by simp only [q])], rfl⟩) (by decide) (by decide)
    exact LOOP xs.length (0 : Int32) 0 rfl (by omega) (fun x hx => absurd hx (Nat.not_lt_zero _)) _ _ _ _ K rfl
theorem d_jdk_42_method_66_code_0 : decode jdk_42_method_66_code 0 = .ok (.aload_n 0, 1) := by decide +kernel
theorem d_jdk_42_method_66_code_1 : decode jdk_42_method_66_code 1 = .ok (.aload_n 1, 1) := by decide +kernel
theorem d_jdk_42_method_66_code_2 : decode jdk_42_method_66_code 2 = .ok (.if_acmp .ne 5, 3) := by decide +kernel
theorem d_jdk_42_method_66_code_5 : decode jdk_42_method_66_code 5 = .ok (.iconst 1, 1) := by decide +kernel
theorem d_jdk_42_method_66_code_6 : decode jdk_42_method_66_code 6 = .ok (.ireturn, 1) := by decide +kernel
theorem d_jdk_42_method_66_code_7 : decode jdk_42_method_66_code 7 = .ok (.aload_n 1, 1) := by decide +kernel
theorem d_jdk_42_method_66_code_8 : decode jdk_42_method_66_code 8 = .ok (.instanceof 10, 3) := by decide +kernel
theorem w140 {Z : State} {a0 : Array Value} (hw : Tb a0 Z) : (Jvm.Cond.classLink "java/lang/String" (10 : Nat) "java/lang/String").before a0 Z = true := hw _ (List.mem_of_getElem? (i := 140) rfl)
theorem d_jdk_42_method_66_code_11 : decode jdk_42_method_66_code 11 = .ok (.ifCond .eq 43, 3) := by decide +kernel
theorem d_jdk_42_method_66_code_14 : decode jdk_42_method_66_code 14 = .ok (.aload_n 1, 1) := by decide +kernel
theorem d_jdk_42_method_66_code_15 : decode jdk_42_method_66_code 15 = .ok (.checkcast 10, 3) := by decide +kernel
theorem d_jdk_42_method_66_code_18 : decode jdk_42_method_66_code 18 = .ok (.astore_n 2, 1) := by decide +kernel
theorem d_jdk_42_method_66_code_19 : decode jdk_42_method_66_code 19 = .ok (.getstatic 38, 3) := by decide +kernel
theorem d_jdk_42_method_66_code_22 : decode jdk_42_method_66_code 22 = .ok (.ifCond .eq 14, 3) := by decide +kernel
theorem d_jdk_42_method_66_code_25 : decode jdk_42_method_66_code 25 = .ok (.aload_n 0, 1) := by decide +kernel
theorem d_jdk_42_method_66_code_26 : decode jdk_42_method_66_code 26 = .ok (.getfield 15, 3) := by decide +kernel
theorem d_jdk_42_method_66_code_29 : decode jdk_42_method_66_code 29 = .ok (.aload_n 2, 1) := by decide +kernel
theorem d_jdk_42_method_66_code_30 : decode jdk_42_method_66_code 30 = .ok (.getfield 15, 3) := by decide +kernel
theorem d_jdk_42_method_66_code_33 : decode jdk_42_method_66_code 33 = .ok (.if_icmp .ne 21, 3) := by decide +kernel
theorem d_jdk_42_method_66_code_36 : decode jdk_42_method_66_code 36 = .ok (.aload_n 0, 1) := by decide +kernel
theorem d_jdk_42_method_66_code_37 : decode jdk_42_method_66_code 37 = .ok (.getfield 9, 3) := by decide +kernel
theorem d_jdk_42_method_66_code_40 : decode jdk_42_method_66_code 40 = .ok (.aload_n 2, 1) := by decide +kernel
theorem d_jdk_42_method_66_code_41 : decode jdk_42_method_66_code 41 = .ok (.getfield 9, 3) := by decide +kernel
theorem d_jdk_42_method_66_code_44 : decode jdk_42_method_66_code 44 = .ok (.invokestatic 541, 3) := by decide +kernel
theorem w141 {Z : State} {a0 : Array Value} (hw : Tb a0 Z) : (Jvm.Cond.methodLink "java/lang/String" (541 : Nat) ({ cls := "java/lang/StringLatin1", name := "equals", desc := "([B[B)Z" } : Jvm.MethodName)).before a0 Z = true := hw _ (List.mem_of_getElem? (i := 141) rfl)
theorem w100 {Z : State} {a0 : Array Value} (hw : Tb a0 Z) : (Jvm.Cond.initialized "java/lang/StringLatin1").before a0 Z = true := hw _ (List.mem_of_getElem? (i := 100) rfl)
theorem w143 {Z : State} {a0 : Array Value} (hw : Tb a0 Z) : (Jvm.Cond.code ({ cls := "java/lang/StringLatin1", name := "equals", desc := "([B[B)Z" } : Jvm.MethodName) jdk_43_method_13_code (3 : Nat) (Option.some Jvm.ClassFile.FieldType.boolean)).before a0 Z = true := hw _ (List.mem_of_getElem? (i := 143) rfl)
theorem w142 {Z : State} {a0 : Array Value} (hw : Tb a0 Z) : (Jvm.Cond.static ({ cls := "java/lang/StringLatin1", name := "equals", desc := "([B[B)Z" } : Jvm.MethodName)).before a0 Z = true := hw _ (List.mem_of_getElem? (i := 142) rfl)
theorem pd___B_B_Z_1990 : parseMethodDescriptor "([B[B)Z" = some ⟨[(.array .byte), (.array .byte)], some .boolean⟩ := by decide +kernel
theorem d_jdk_42_method_66_code_47 : decode jdk_42_method_66_code 47 = .ok (.ifCond .eq 7, 3) := by decide +kernel
theorem d_jdk_42_method_66_code_54 : decode jdk_42_method_66_code 54 = .ok (.iconst 0, 1) := by decide +kernel
theorem d_jdk_42_method_66_code_55 : decode jdk_42_method_66_code 55 = .ok (.ireturn, 1) := by decide +kernel
theorem d_jdk_42_method_66_code_50 : decode jdk_42_method_66_code 50 = .ok (.iconst 1, 1) := by decide +kernel
theorem d_jdk_42_method_66_code_51 : decode jdk_42_method_66_code 51 = .ok (.goto 4, 3) := by decide +kernel
set_option maxRecDepth 65536 in
set_option maxHeartbeats 40000000 in
theorem c_equals (l : Launch) (Z : State) (a0 : Array Value) (hw : Tb a0 Z) (hEW : EW Z a0 EL0) (n0 : Nat) (a a' : Addr) (b b' : Addr) (k k' : ClassId) (z z' : Int32) (xs ys : List Int32) (cs0 : Int32) (h0 : Heap) (O : Old Z n0 h0) (hz : z.toInt = xs.length) (hz' : z'.toInt = ys.length) (hb : xs.length ≤ 4000) (S : Str Z h0 a b k 0 z (xs.map Value.int)) (S' : Str Z h0 a' b' k' 0 z' (ys.map Value.int)) (SC : Sta Z Z.heap "java/lang/String" "COMPACT_STRINGS" "Z" (.int cs0)) (hcs : ¬ cs0 = 0) :
    Ct l Z EL0 n0 (⟨"java/lang/String", "equals", "(Ljava/lang/Object;)Z"⟩ : MethodName) jdk_42_method_66_code 3 (some .boolean) ({ frames := 1, cells := 0, slots := 0, locals := 14 } : Room) #[(.ref a), (.ref a')] h0 [] (Pu (some (.int (if xs = ys then 1 else 0))) h0) := by
  refine Ct.of (a0 := a0) #[.val (.ref a), .val (.ref a'), .unset] hEW O (plainFor_of_name pl_java_lang_String) (fun m => by first | (simp [entryFrame, mkF, argsToLocals, Value.category]; done) | rfl) ?_
  intro p_ e_ s_ m_ below_ meth_ c_ b_ T_ K hSP
  refine k_aloadN K d_jdk_42_method_66_code_0 (pc' := 1) rfl rfl rfl ?_
  refine k_aloadN K d_jdk_42_method_66_code_1 (pc' := 2) rfl rfl rfl ?_
  refine k_acmp_ne K rfl rfl d_jdk_42_method_66_code_2 (by decide) (pc' := 7) (pc2 := 5) (by decide) rfl (fun hc2 => ?_) (fun hc2 => ?_)
  · refine k_iconst K (1 : Int32) d_jdk_42_method_66_code_5 (pc' := 6) rfl rfl ?_
    have e1 : a = a' := Value.ref.inj hc2
    subst e1
    exact k_nret K d_jdk_42_method_66_code_6 rfl (by simp) rfl (fun sf ht => ⟨by rw [if_pos (str_uniq S S' hz hz')], rfl⟩) (by decide) (by decide)
  · refine k_aloadN K d_jdk_42_method_66_code_7 (pc' := 8) rfl rfl rfl ?_
    refine k_instY K (w140 hw) (Ins.self S'.1) d_jdk_42_method_66_code_8 (pc' := 11) rfl ?_
    intro T28 K28
    refine k_if_eq K28 d_jdk_42_method_66_code_11 (by decide) (pc' := 54) (pc2 := 14) (by decide) rfl (fun q => absurd q (by decide)) (fun hc11 => ?_)
    refine k_aloadN K28 d_jdk_42_method_66_code_14 (pc' := 15) rfl rfl rfl ?_
    refine k_castY K28 (w140 hw) (Ins.self S'.1) d_jdk_42_method_66_code_15 (pc' := 18) rfl ?_
    intro T29 K29
    refine k_astoreN K29 d_jdk_42_method_66_code_18 (pc' := 19) (L' := #[.val (.ref a), .val (.ref a'), .val (.ref a')]) rfl rfl rfl ?_
    refine k_getS K29 (w20 hw) Via.refl SC d_jdk_42_method_66_code_19 (pc' := 22) rfl ?_
    intro T30 K30
    refine k_if_eq K30 d_jdk_42_method_66_code_22 (by decide) (pc' := 36) (pc2 := 25) (by decide) rfl (fun q => absurd q hcs) (fun hc22 => ?_)
    refine k_aloadN K30 d_jdk_42_method_66_code_25 (pc' := 26) rfl rfl rfl ?_
    refine k_getF K30 (w32 hw) Via.refl S.2.1 d_jdk_42_method_66_code_26 (pc' := 29) rfl ?_
    intro T31 K31
    refine k_aloadN K31 d_jdk_42_method_66_code_29 (pc' := 30) rfl rfl rfl ?_
    refine k_getF K31 (w32 hw) Via.refl S'.2.1 d_jdk_42_method_66_code_30 (pc' := 33) rfl ?_
    intro T32 K32
    refine k_icmp_ne K32 d_jdk_42_method_66_code_33 (by decide) (pc' := 54) (pc2 := 36) (by decide) rfl (fun q => absurd (by decide) q) (fun hc33 => ?_)
    refine k_aloadN K32 d_jdk_42_method_66_code_36 (pc' := 37) rfl rfl rfl ?_
    refine k_getF K32 (w34 hw) Via.refl S.2.2.1 d_jdk_42_method_66_code_37 (pc' := 40) rfl ?_
    intro T33 K33
    refine k_aloadN K33 d_jdk_42_method_66_code_40 (pc' := 41) rfl rfl rfl ?_
    refine k_getF K33 (w34 hw) Via.refl S'.2.2.1 d_jdk_42_method_66_code_41 (pc' := 44) rfl ?_
    intro T34 K34
    refine k_staticP K34 [(.ref b), (.ref b')] [] 0 (w141 hw) (w142 hw) (w100 hw) (w143 hw) (by decide) pd___B_B_Z_1990 (c_l1equals l Z a0 hw hEW n0 b b' k k' z z' xs ys h0 K34.old hz hz' hb S.2.2.2 S'.2.2.2) d_jdk_42_method_66_code_44 nofun (pc' := 47) rfl rfl rfl rfl (Nat.le_of_eq rfl) (by decide) (by decide) (by decide) (by decide) ?_
    intro b35 T35 L35 K35 tr35
    show Goes p_.tables e_ below_ _ (T35.setTop (mkF m_ 47 #[.val (.ref a), .val (.ref a'), .val (.ref a')] [(.int (if xs = ys then 1 else 0))]))
    refine k_if_eq K35 d_jdk_42_method_66_code_47 (by decide) (pc' := 54) (pc2 := 50) (by decide) rfl (fun hc47 => ?_) (fun hc47 => ?_)
    · refine k_iconst K35 (0 : Int32) d_jdk_42_method_66_code_54 (pc' := 55) rfl rfl ?_
      have q1 : ¬ xs = ys := fun q => by rw [if_pos q] at hc47; exact absurd hc47 (by decide)
      exact k_nret K35 d_jdk_42_method_66_code_55 rfl (by simp) rfl (fun sf ht => ⟨by rw [if_neg q1], rfl⟩) (by decide) (by decide)
    · refine k_iconst K35 (1 : Int32) d_jdk_42_method_66_code_50 (pc' := 51) rfl rfl ?_
      refine k_goto K35 d_jdk_42_method_66_code_51 (by decide) (pc' := 55) (by decide) ?_
      have q1 : xs = ys := Classical.byContradiction fun q => hc47 (if_neg q)
      exact k_nret K35 d_jdk_42_method_66_code_55 rfl (by simp) rfl (fun sf ht => ⟨by rw [if_pos q1], rfl⟩) (by decide) (by decide)
def lat (cs : List Int32) : List Value := (cs.map fun c => c.toInt8.toInt32).map Value.int
theorem own_shl0 (n : Int32) : n <<< ((0 : Int32) &&& 31) = n := by
  apply Int32.toBitVec_inj.mp
  show n.toBitVec <<< 0 = n.toBitVec
  simp
def ent (H k : Int32) : Int64 := (H.toInt64 <<< ((32 : Int32).toInt64 &&& 63)) ||| (k + 1).toInt64
def Txt (CH ST : List Value) (k : Nat) (xs : List Int32) : Prop := ∃ (p q : Int32) (pn : Nat), ST.getD k (.int 0) = .int p ∧ ST.getD (k + 1) (.int 0) = .int q ∧ p.toInt = pn ∧ q.toInt = (pn + xs.length : Nat) ∧ pn ≤ 3 ∧ xs.length ≤ 3 ∧ ∀ i (h : i < xs.length), CH.getD (pn + i) (.int 0) = .int xs[i]
def kI (k : Nat) : Int32 := if k = 0 then 0 else 1
def Chn (CH ST EA : List Value) : Int64 → List (Nat × Int32 × List Int32) → Prop
  | e, [] => e = 0
  | e, (k, H, xs) :: L => e = ent H (kI k) ∧ k < 2 ∧ Txt CH ST k xs ∧ ∃ e', EA.getD k (.long 0) = .long e' ∧ Chn CH ST EA e' L
def fdV (H : Int32) (cs : List Int32) : List (Nat × Int32 × List Int32) → Int32
  | [] => -1
  | (k, Hk, xs) :: L => if Hk = H ∧ xs = cs then kI k else fdV H cs L
theorem kI_at {k : Nat} (h : k < 2) : (kI k).toInt = k := by
  have h2 : k = 0 ∨ k = 1 := by omega
  rcases h2 with rfl | rfl <;> decide
theorem own_w32 (x : Int64) : x.toInt32.toBitVec = x.toBitVec.setWidth 32 := by
  show x.toBitVec.signExtend 32 = _
  exact BitVec.signExtend_eq_setWidth_of_le _ (by decide)
theorem own_entB (H : Int32) (k : Nat) (hk : k < 2) : (ent H (kI k)).toBitVec = (H.toBitVec.signExtend 64 <<< 32) ||| BitVec.ofNat 64 (k + 1) := by
  have h2 : k = 0 ∨ k = 1 := by omega
  rcases h2 with rfl | rfl <;> rfl
theorem own_ent0 (H : Int32) (k : Nat) (hk : k < 2) : ¬ ent H (kI k) = 0 := fun q => by
  have e := own_entB H k hk
  rw [q] at e
  have h2 : k = 0 ∨ k = 1 := by omega
  rcases h2 with rfl | rfl
  · have := congrArg (fun b : BitVec 64 => b.getLsbD 0) e
    simp at this
  · have := congrArg (fun b : BitVec 64 => b.getLsbD 1) e
    simp at this
theorem own_entK (H : Int32) (k : Nat) (hk : k < 2) : (ent H (kI k)).toInt32 - 1 = kI k := by
  have e : (ent H (kI k)).toInt32 = kI k + 1 := by
    apply Int32.toBitVec_inj.mp
    rw [own_w32, own_entB H k hk]
    have h2 : k = 0 ∨ k = 1 := by omega
    apply BitVec.eq_of_getLsbD_eq
    intro i hi
    rw [BitVec.getLsbD_setWidth, BitVec.getLsbD_or, BitVec.getLsbD_shiftLeft]
    simp only [hi, decide_true, Bool.true_and, show ¬ (i : Nat) ≥ 32 by omega, decide_false, Bool.not_true, Bool.and_false, Bool.false_and, Bool.false_or, Bool.not_false]
    rcases h2 with rfl | rfl
    · have := (by decide : ∀ i : Fin 32, (BitVec.ofNat 64 1).getLsbD i.val = ((kI 0 + 1).toBitVec).getLsbD i.val) ⟨i, hi⟩
      simpa using this
    · have := (by decide : ∀ i : Fin 32, (BitVec.ofNat 64 2).getLsbD i.val = ((kI 1 + 1).toBitVec).getLsbD i.val) ⟨i, hi⟩
      simpa using this
  rw [e]
  have h2 : k = 0 ∨ k = 1 := by omega
  rcases h2 with rfl | rfl <;> decide
theorem own_entH (H : Int32) (k : Nat) (hk : k < 2) : (XT.ushrL (ent H (kI k)) (32 : Int32)).toInt32 = H := by
  apply Int32.toBitVec_inj.mp
  rw [own_w32]
  have e1 : (XT.ushrL (ent H (kI k)) (32 : Int32)).toBitVec = (ent H (kI k)).toBitVec >>> 32 := rfl
  rw [e1, own_entB H k hk]
  apply BitVec.eq_of_getLsbD_eq
  intro i hi
  rw [BitVec.getLsbD_setWidth, BitVec.getLsbD_ushiftRight, BitVec.getLsbD_or, BitVec.getLsbD_shiftLeft, BitVec.getLsbD_signExtend, BitVec.getLsbD_ofNat]
  have h2 : (k + 1).testBit (32 + i) = false := Nat.testBit_lt_two_pow (Nat.lt_of_lt_of_le (show k + 1 < 2 ^ 2 by omega) (Nat.pow_le_pow_right (by decide) (by omega)))
  simp [hi, h2, show 32 + i - 32 = i by omega, show 32 + i < 64 by omega, show ¬ 32 + i < 32 by omega, show i < 64 by omega]
theorem own_i63 (H : Int32) : ¬ (H &&& 63) < 0 ∧ (H &&& 63) < 64 := by
  have e : (H &&& 63).toBitVec.toNat = H.toBitVec.toNat % 2 ^ 6 := by
    show (H.toBitVec &&& 63#32).toNat = _
    rw [BitVec.toNat_and]; exact Nat.and_two_pow_sub_one_eq_mod _ 6
  have h2 := own_toInt (show (H &&& 63).toBitVec.toNat < 2147483648 by rw [e]; omega)
  rw [own_i32, own_i32, h2, e, own_0, show (64 : Int32).toInt = 64 by decide]; omega
def i63 (H : Int32) : Nat := (H &&& 63).toNatClampNeg
theorem i63_lt (H : Int32) : i63 H < 64 := by
  have h := own_i63 H
  rw [own_i32, own_i32, own_0, show (64 : Int32).toInt = 64 by decide] at h
  unfold i63; rw [Int32.toNatClampNeg]; omega
def wrC (CH : List Value) (p : Nat) (cs : List Int32) : Nat → List Value
  | 0 => CH
  | i + 1 => (wrC CH p cs i).set (p + i) (.int (cs.getD i 0))
theorem wrC_len (CH : List Value) (p : Nat) (cs : List Int32) : ∀ i, (wrC CH p cs i).length = CH.length
  | 0 => rfl
  | i + 1 => by rw [wrC, List.length_set, wrC_len CH p cs i]
theorem own_gs {vs : List Value} {i j : Nat} {v d : Value} (h : i < vs.length) : (vs.set i v).getD j d = if j = i then v else vs.getD j d := by
  by_cases q : j = i
  · subst q; simp [List.getD_eq_getElem?_getD, h]
  · rw [if_neg q]; simp [List.getD_eq_getElem?_getD, List.getElem?_set, Ne.symm q, show ¬ i = j from fun e => q e.symm]
theorem wrC_out (CH : List Value) (p : Nat) (cs : List Int32) (d : Value) : ∀ i, p + i ≤ CH.length → ∀ j, j < p → (wrC CH p cs i).getD j d = CH.getD j d
  | 0, _, _, _ => rfl
  | i + 1, hl, j, hj => by rw [wrC, own_gs (by rw [wrC_len]; omega), if_neg (by omega), wrC_out CH p cs d i (by omega) j hj]
theorem wrC_in (CH : List Value) (p : Nat) (cs : List Int32) (d : Value) : ∀ i, p + i ≤ CH.length → ∀ m, m < i → (wrC CH p cs i).getD (p + m) d = .int (cs.getD m 0)
  | 0, _, m, hm => absurd hm (Nat.not_lt_zero _)
  | i + 1, hl, m, hm => by
    rw [wrC, own_gs (by rw [wrC_len]; omega)]
    by_cases q : m = i
    · subst q; rw [if_pos rfl]
    · rw [if_neg (by omega), wrC_in CH p cs d i (by omega) m (by omega)]
theorem own_rep (n j : Nat) (v : Value) : (List.replicate n v).getD j v = v := by
  rw [List.getD_eq_getElem?_getD, List.getElem?_replicate]; split <;> rfl
theorem d_jdk_29_method_45_code_0 : decode jdk_29_method_45_code 0 = .ok (.lload_n 0, 1) := by decide +kernel
theorem d_jdk_29_method_45_code_1 : decode jdk_29_method_45_code 1 = .ok (.bipush 32, 2) := by decide +kernel
theorem d_jdk_29_method_45_code_3 : decode jdk_29_method_45_code 3 = .ok (.lshr, 1) := by decide +kernel
theorem d_jdk_29_method_45_code_4 : decode jdk_29_method_45_code 4 = .ok (.lstore 4, 2) := by decide +kernel
theorem d_jdk_29_method_45_code_6 : decode jdk_29_method_45_code 6 = .ok (.lload_n 0, 1) := by decide +kernel
theorem d_jdk_29_method_45_code_7 : decode jdk_29_method_45_code 7 = .ok (.ldc2_w 138, 3) := by decide +kernel
theorem w117 {Z : State} {a0 : Array Value} (hw : Tb a0 Z) : (Jvm.Cond.constantLong "java/lang/Math" (138 : Nat) (4294967295 : Int64)).before a0 Z = true := hw _ (List.mem_of_getElem? (i := 117) rfl)
theorem d_jdk_29_method_45_code_10 : decode jdk_29_method_45_code 10 = .ok (.land, 1) := by decide +kernel
theorem d_jdk_29_method_45_code_11 : decode jdk_29_method_45_code 11 = .ok (.lstore 6, 2) := by decide +kernel
theorem d_jdk_29_method_45_code_13 : decode jdk_29_method_45_code 13 = .ok (.lload_n 2, 1) := by decide +kernel
theorem d_jdk_29_method_45_code_14 : decode jdk_29_method_45_code 14 = .ok (.bipush 32, 2) := by decide +kernel
theorem d_jdk_29_method_45_code_16 : decode jdk_29_method_45_code 16 = .ok (.lshr, 1) := by decide +kernel
theorem d_jdk_29_method_45_code_17 : decode jdk_29_method_45_code 17 = .ok (.lstore 8, 2) := by decide +kernel
theorem d_jdk_29_method_45_code_19 : decode jdk_29_method_45_code 19 = .ok (.lload_n 2, 1) := by decide +kernel
theorem d_jdk_29_method_45_code_20 : decode jdk_29_method_45_code 20 = .ok (.ldc2_w 138, 3) := by decide +kernel
theorem d_jdk_29_method_45_code_23 : decode jdk_29_method_45_code 23 = .ok (.land, 1) := by decide +kernel
theorem d_jdk_29_method_45_code_24 : decode jdk_29_method_45_code 24 = .ok (.lstore 10, 2) := by decide +kernel
theorem d_jdk_29_method_45_code_26 : decode jdk_29_method_45_code 26 = .ok (.lload 6, 2) := by decide +kernel
theorem d_jdk_29_method_45_code_28 : decode jdk_29_method_45_code 28 = .ok (.lload 10, 2) := by decide +kernel
theorem d_jdk_29_method_45_code_30 : decode jdk_29_method_45_code 30 = .ok (.lmul, 1) := by decide +kernel
theorem d_jdk_29_method_45_code_31 : decode jdk_29_method_45_code 31 = .ok (.lstore 12, 2) := by decide +kernel
theorem d_jdk_29_method_45_code_33 : decode jdk_29_method_45_code 33 = .ok (.lload 4, 2) := by decide +kernel
theorem d_jdk_29_method_45_code_35 : decode jdk_29_method_45_code 35 = .ok (.lload 10, 2) := by decide +kernel
theorem d_jdk_29_method_45_code_37 : decode jdk_29_method_45_code 37 = .ok (.lmul, 1) := by decide +kernel
theorem d_jdk_29_method_45_code_38 : decode jdk_29_method_45_code 38 = .ok (.lload 12, 2) := by decide +kernel
theorem d_jdk_29_method_45_code_40 : decode jdk_29_method_45_code 40 = .ok (.bipush 32, 2) := by decide +kernel
theorem d_jdk_29_method_45_code_42 : decode jdk_29_method_45_code 42 = .ok (.lushr, 1) := by decide +kernel
theorem d_jdk_29_method_45_code_43 : decode jdk_29_method_45_code 43 = .ok (.ladd, 1) := by decide +kernel
theorem d_jdk_29_method_45_code_44 : decode jdk_29_method_45_code 44 = .ok (.lstore 14, 2) := by decide +kernel
theorem d_jdk_29_method_45_code_46 : decode jdk_29_method_45_code 46 = .ok (.lload 14, 2) := by decide +kernel
theorem d_jdk_29_method_45_code_48 : decode jdk_29_method_45_code 48 = .ok (.ldc2_w 138, 3) := by decide +kernel
theorem d_jdk_29_method_45_code_51 : decode jdk_29_method_45_code 51 = .ok (.land, 1) := by decide +kernel
theorem d_jdk_29_method_45_code_52 : decode jdk_29_method_45_code 52 = .ok (.lstore 16, 2) := by decide +kernel
theorem d_jdk_29_method_45_code_54 : decode jdk_29_method_45_code 54 = .ok (.lload 14, 2) := by decide +kernel
theorem d_jdk_29_method_45_code_56 : decode jdk_29_method_45_code 56 = .ok (.bipush 32, 2) := by decide +kernel
theorem d_jdk_29_method_45_code_58 : decode jdk_29_method_45_code 58 = .ok (.lshr, 1) := by decide +kernel
theorem d_jdk_29_method_45_code_59 : decode jdk_29_method_45_code 59 = .ok (.lstore 18, 2) := by decide +kernel
theorem d_jdk_29_method_45_code_61 : decode jdk_29_method_45_code 61 = .ok (.lload 16, 2) := by decide +kernel
theorem d_jdk_29_method_45_code_63 : decode jdk_29_method_45_code 63 = .ok (.lload 6, 2) := by decide +kernel
theorem d_jdk_29_method_45_code_65 : decode jdk_29_method_45_code 65 = .ok (.lload 8, 2) := by decide +kernel
theorem d_jdk_29_method_45_code_67 : decode jdk_29_method_45_code 67 = .ok (.lmul, 1) := by decide +kernel
theorem d_jdk_29_method_45_code_68 : decode jdk_29_method_45_code 68 = .ok (.ladd, 1) := by decide +kernel
theorem d_jdk_29_method_45_code_69 : decode jdk_29_method_45_code 69 = .ok (.lstore 16, 2) := by decide +kernel
theorem d_jdk_29_method_45_code_71 : decode jdk_29_method_45_code 71 = .ok (.lload 4, 2) := by decide +kernel
theorem d_jdk_29_method_45_code_73 : decode jdk_29_method_45_code 73 = .ok (.lload 8, 2) := by decide +kernel
theorem d_jdk_29_method_45_code_75 : decode jdk_29_method_45_code 75 = .ok (.lmul, 1) := by decide +kernel
theorem d_jdk_29_method_45_code_76 : decode jdk_29_method_45_code 76 = .ok (.lload 18, 2) := by decide +kernel
theorem d_jdk_29_method_45_code_78 : decode jdk_29_method_45_code 78 = .ok (.ladd, 1) := by decide +kernel
theorem d_jdk_29_method_45_code_79 : decode jdk_29_method_45_code 79 = .ok (.lload 16, 2) := by decide +kernel
theorem d_jdk_29_method_45_code_81 : decode jdk_29_method_45_code 81 = .ok (.bipush 32, 2) := by decide +kernel
theorem d_jdk_29_method_45_code_83 : decode jdk_29_method_45_code 83 = .ok (.lshr, 1) := by decide +kernel
theorem d_jdk_29_method_45_code_84 : decode jdk_29_method_45_code 84 = .ok (.ladd, 1) := by decide +kernel
theorem d_jdk_29_method_45_code_85 : decode jdk_29_method_45_code 85 = .ok (.lreturn, 1) := by decide +kernel
def mhF (i j : Int64) : Int64 := ((((i >>> ((32 : Int32).toInt64 &&& 63)) * (j >>> ((32 : Int32).toInt64 &&& 63))) + ((((i >>> ((32 : Int32).toInt64 &&& 63)) * (j &&& (4294967295 : Int64))) + (XT.ushrL ((i &&& (4294967295 : Int64)) * (j &&& (4294967295 : Int64))) (32 : Int32))) >>> ((32 : Int32).toInt64 &&& 63))) + ((((((i >>> ((32 : Int32).toInt64 &&& 63)) * (j &&& (4294967295 : Int64))) + (XT.ushrL ((i &&& (4294967295 : Int64)) * (j &&& (4294967295 : Int64))) (32 : Int32))) &&& (4294967295 : Int64)) + ((i &&& (4294967295 : Int64)) * (j >>> ((32 : Int32).toInt64 &&& 63)))) >>> ((32 : Int32).toInt64 &&& 63)))
set_option maxRecDepth 65536 in
set_option maxHeartbeats 40000000 in
theorem c_mh (l : Launch) (Z : State) (a0 : Array Value) (hw : Tb a0 Z) (hEW : EW Z a0 EL0) (n0 : Nat) (i j : Int64) (h0 : Heap) (O : Old Z n0 h0)  :
    Ct l Z EL0 n0 (⟨"java/lang/Math", "multiplyHigh", "(JJ)J"⟩ : MethodName) jdk_29_method_45_code 20 (some .long) ({ frames := 0, cells := 0, slots := 0, locals := 0 } : Room) #[(.long i), (.long j)] h0 [] (Pu (some (.long (mhF i j))) h0) := by
  refine Ct.of (a0 := a0) #[.val (.long i), .second, .val (.long j), .second, .unset, .unset, .unset, .unset, .unset, .unset, .unset, .unset, .unset, .unset, .unset, .unset, .unset, .unset, .unset, .unset] hEW O (Jvm.Free.JP.mathPlain rfl (by decide +kernel)) (fun m => by first | (simp [entryFrame, mkF, argsToLocals, Value.category]; done) | rfl) ?_
  intro p_ e_ s_ m_ below_ meth_ c_ b_ T_ K hSP
  refine k_lloadN K d_jdk_29_method_45_code_0 (pc' := 1) rfl rfl ?_
  refine k_bipush K (32 : Int32) d_jdk_29_method_45_code_1 (pc' := 3) rfl rfl ?_
  refine k_lshr K d_jdk_29_method_45_code_3 (pc' := 4) rfl ?_
  refine k_lstore K d_jdk_29_method_45_code_4 (pc' := 6) (L' := #[.val (.long i), .second, .val (.long j), .second, .val (.long (i >>> ((32 : Int32).toInt64 &&& 63))), .second, .unset, .unset, .unset, .unset, .unset, .unset, .unset, .unset, .unset, .unset, .unset, .unset, .unset, .unset]) rfl rfl ?_
  refine k_lloadN K d_jdk_29_method_45_code_6 (pc' := 7) rfl rfl ?_
  refine k_ldcJ K (w117 hw) d_jdk_29_method_45_code_7 (pc' := 10) rfl ?_
  refine k_land K d_jdk_29_method_45_code_10 (pc' := 11) rfl ?_
  refine k_lstore K d_jdk_29_method_45_code_11 (pc' := 13) (L' := #[.val (.long i), .second, .val (.long j), .second, .val (.long (i >>> ((32 : Int32).toInt64 &&& 63))), .second, .val (.long (i &&& (4294967295 : Int64))), .second, .unset, .unset, .unset, .unset, .unset, .unset, .unset, .unset, .unset, .unset, .unset, .unset]) rfl rfl ?_
  refine k_lloadN K d_jdk_29_method_45_code_13 (pc' := 14) rfl rfl ?_
  refine k_bipush K (32 : Int32) d_jdk_29_method_45_code_14 (pc' := 16) rfl rfl ?_
  refine k_lshr K d_jdk_29_method_45_code_16 (pc' := 17) rfl ?_
  refine k_lstore K d_jdk_29_method_45_code_17 (pc' := 19) (L' := #[.val (.long i), .second, .val (.long j), .second, .val (.long (i >>> ((32 : Int32).toInt64 &&& 63))), .second, .val (.long (i &&& (4294967295 : Int64))), .second, .val (.long (j >>> ((32 : Int32).toInt64 &&& 63))), .second, .unset, .unset, .unset, .unset, .unset, .unset, .unset, .unset, .unset, .unset]) rfl rfl ?_
  refine k_lloadN K d_jdk_29_method_45_code_19 (pc' := 20) rfl rfl ?_
  refine k_ldcJ K (w117 hw) d_jdk_29_method_45_code_20 (pc' := 23) rfl ?_
  refine k_land K d_jdk_29_method_45_code_23 (pc' := 24) rfl ?_
  refine k_lstore K d_jdk_29_method_45_code_24 (pc' := 26) (L' := #[.val (.long i), .second, .val (.long j), .second, .val (.long (i >>> ((32 : Int32).toInt64 &&& 63))), .second, .val (.long (i &&& (4294967295 : Int64))), .second, .val (.long (j >>> ((32 : Int32).toInt64 &&& 63))), .second, .val (.long (j &&& (4294967295 : Int64))), .second, .unset, .unset, .unset, .unset, .unset, .unset, .unset, .unset]) rfl rfl ?_
  refine k_lload K d_jdk_29_method_45_code_26 (pc' := 28) rfl rfl ?_
  refine k_lload K d_jdk_29_method_45_code_28 (pc' := 30) rfl rfl ?_
  refine k_lmul K d_jdk_29_method_45_code_30 (pc' := 31) rfl ?_
  refine k_lstore K d_jdk_29_method_45_code_31 (pc' := 33) (L' := #[.val (.long i), .second, .val (.long j), .second, .val (.long (i >>> ((32 : Int32).toInt64 &&& 63))), .second, .val (.long (i &&& (4294967295 : Int64))), .second, .val (.long (j >>> ((32 : Int32).toInt64 &&& 63))), .second, .val (.long (j &&& (4294967295 : Int64))), .second, .val (.long ((i &&& (4294967295 : Int64)) * (j &&& (4294967295 : Int64)))), .second, .unset, .unset, .unset, .unset, .unset, .unset]) rfl rfl ?_
  refine k_lload K d_jdk_29_method_45_code_33 (pc' := 35) rfl rfl ?_
  refine k_lload K d_jdk_29_method_45_code_35 (pc' := 37) rfl rfl ?_
  refine k_lmul K d_jdk_29_method_45_code_37 (pc' := 38) rfl ?_
  refine k_lload K d_jdk_29_method_45_code_38 (pc' := 40) rfl rfl ?_
  refine k_bipush K (32 : Int32) d_jdk_29_method_45_code_40 (pc' := 42) rfl rfl ?_
  refine k_lushr K d_jdk_29_method_45_code_42 (pc' := 43) rfl ?_
  refine k_ladd K d_jdk_29_method_45_code_43 (pc' := 44) rfl ?_
  refine k_lstore K d_jdk_29_method_45_code_44 (pc' := 46) (L' := #[.val (.long i), .second, .val (.long j), .second, .val (.long (i >>> ((32 : Int32).toInt64 &&& 63))), .second, .val (.long (i &&& (4294967295 : Int64))), .second, .val (.long (j >>> ((32 : Int32).toInt64 &&& 63))), .second, .val (.long (j &&& (4294967295 : Int64))), .second, .val (.long ((i &&& (4294967295 : Int64)) * (j &&& (4294967295 : Int64)))), .second, .val (.long (((i >>> ((32 : Int32).toInt64 &&& 63)) * (j &&& (4294967295 : Int64))) + (XT.ushrL ((i &&& (4294967295 : Int64)) * (j &&& (4294967295 : Int64))) (32 : Int32)))), .second, .unset, .unset, .unset, .unset]) rfl rfl ?_
  refine k_lload K d_jdk_29_method_45_code_46 (pc' := 48) rfl rfl ?_
  refine k_ldcJ K (w117 hw) d_jdk_29_method_45_code_48 (pc' := 51) rfl ?_
  refine k_land K d_jdk_29_method_45_code_51 (pc' := 52) rfl ?_
  refine k_lstore K d_jdk_29_method_45_code_52 (pc' := 54) (L' := #[.val (.long i), .second, .val (.long j), .second, .val (.long (i >>> ((32 : Int32).toInt64 &&& 63))), .second, .val (.long (i &&& (4294967295 : Int64))), .second, .val (.long (j >>> ((32 : Int32).toInt64 &&& 63))), .second, .val (.long (j &&& (4294967295 : Int64))), .second, .val (.long ((i &&& (4294967295 : Int64)) * (j &&& (4294967295 : Int64)))), .second, .val (.long (((i >>> ((32 : Int32).toInt64 &&& 63)) * (j &&& (4294967295 : Int64))) + (XT.ushrL ((i &&& (4294967295 : Int64)) * (j &&& (4294967295 : Int64))) (32 : Int32)))), .second, .val (.long ((((i >>> ((32 : Int32).toInt64 &&& 63)) * (j &&& (4294967295 : Int64))) + (XT.ushrL ((i &&& (4294967295 : Int64)) * (j &&& (4294967295 : Int64))) (32 : Int32))) &&& (4294967295 : Int64))), .second, .unset, .unset]) rfl rfl ?_
  refine k_lload K d_jdk_29_method_45_code_54 (pc' := 56) rfl rfl ?_
  refine k_bipush K (32 : Int32) d_jdk_29_method_45_code_56 (pc' := 58) rfl rfl ?_
  refine k_lshr K d_jdk_29_method_45_code_58 (pc' := 59) rfl ?_
  refine k_lstore K d_jdk_29_method_45_code_59 (pc' := 61) (L' := #[.val (.long i), .second, .val (.long j), .second, .val (.long (i >>> ((32 : Int32).toInt64 &&& 63))), .second, .val (.long (i &&& (4294967295 : Int64))), .second, .val (.long (j >>> ((32 : Int32).toInt64 &&& 63))), .second, .val (.long (j &&& (4294967295 : Int64))), .second, .val (.long ((i &&& (4294967295 : Int64)) * (j &&& (4294967295 : Int64)))), .second, .val (.long (((i >>> ((32 : Int32).toInt64 &&& 63)) * (j &&& (4294967295 : Int64))) + (XT.ushrL ((i &&& (4294967295 : Int64)) * (j &&& (4294967295 : Int64))) (32 : Int32)))), .second, .val (.long ((((i >>> ((32 : Int32).toInt64 &&& 63)) * (j &&& (4294967295 : Int64))) + (XT.ushrL ((i &&& (4294967295 : Int64)) * (j &&& (4294967295 : Int64))) (32 : Int32))) &&& (4294967295 : Int64))), .second, .val (.long ((((i >>> ((32 : Int32).toInt64 &&& 63)) * (j &&& (4294967295 : Int64))) + (XT.ushrL ((i &&& (4294967295 : Int64)) * (j &&& (4294967295 : Int64))) (32 : Int32))) >>> ((32 : Int32).toInt64 &&& 63))), .second]) rfl rfl ?_
  refine k_lload K d_jdk_29_method_45_code_61 (pc' := 63) rfl rfl ?_
  refine k_lload K d_jdk_29_method_45_code_63 (pc' := 65) rfl rfl ?_
  refine k_lload K d_jdk_29_method_45_code_65 (pc' := 67) rfl rfl ?_
  refine k_lmul K d_jdk_29_method_45_code_67 (pc' := 68) rfl ?_
  refine k_ladd K d_jdk_29_method_45_code_68 (pc' := 69) rfl ?_
  refine k_lstore K d_jdk_29_method_45_code_69 (pc' := 71) (L' := #[.val (.long i), .second, .val (.long j), .second, .val (.long (i >>> ((32 : Int32).toInt64 &&& 63))), .second, .val (.long (i &&& (4294967295 : Int64))), .second, .val (.long (j >>> ((32 : Int32).toInt64 &&& 63))), .second, .val (.long (j &&& (4294967295 : Int64))), .second, .val (.long ((i &&& (4294967295 : Int64)) * (j &&& (4294967295 : Int64)))), .second, .val (.long (((i >>> ((32 : Int32).toInt64 &&& 63)) * (j &&& (4294967295 : Int64))) + (XT.ushrL ((i &&& (4294967295 : Int64)) * (j &&& (4294967295 : Int64))) (32 : Int32)))), .second, .val (.long (((((i >>> ((32 : Int32).toInt64 &&& 63)) * (j &&& (4294967295 : Int64))) + (XT.ushrL ((i &&& (4294967295 : Int64)) * (j &&& (4294967295 : Int64))) (32 : Int32))) &&& (4294967295 : Int64)) + ((i &&& (4294967295 : Int64)) * (j >>> ((32 : Int32).toInt64 &&& 63))))), .second, .val (.long ((((i >>> ((32 : Int32).toInt64 &&& 63)) * (j &&& (4294967295 : Int64))) + (XT.ushrL ((i &&& (4294967295 : Int64)) * (j &&& (4294967295 : Int64))) (32 : Int32))) >>> ((32 : Int32).toInt64 &&& 63))), .second]) rfl rfl ?_
  refine k_lload K d_jdk_29_method_45_code_71 (pc' := 73) rfl rfl ?_
  refine k_lload K d_jdk_29_method_45_code_73 (pc' := 75) rfl rfl ?_
  refine k_lmul K d_jdk_29_method_45_code_75 (pc' := 76) rfl ?_
  refine k_lload K d_jdk_29_method_45_code_76 (pc' := 78) rfl rfl ?_
  refine k_ladd K d_jdk_29_method_45_code_78 (pc' := 79) rfl ?_
  refine k_lload K d_jdk_29_method_45_code_79 (pc' := 81) rfl rfl ?_
  refine k_bipush K (32 : Int32) d_jdk_29_method_45_code_81 (pc' := 83) rfl rfl ?_
  refine k_lshr K d_jdk_29_method_45_code_83 (pc' := 84) rfl ?_
  refine k_ladd K d_jdk_29_method_45_code_84 (pc' := 85) rfl ?_
  show Goes p_.tables e_ below_ _ (T_.setTop (mkF m_ 85 #[.val (.long i), .second, .val (.long j), .second, .val (.long (i >>> ((32 : Int32).toInt64 &&& 63))), .second, .val (.long (i &&& (4294967295 : Int64))), .second, .val (.long (j >>> ((32 : Int32).toInt64 &&& 63))), .second, .val (.long (j &&& (4294967295 : Int64))), .second, .val (.long ((i &&& (4294967295 : Int64)) * (j &&& (4294967295 : Int64)))), .second, .val (.long (((i >>> ((32 : Int32).toInt64 &&& 63)) * (j &&& (4294967295 : Int64))) + (XT.ushrL ((i &&& (4294967295 : Int64)) * (j &&& (4294967295 : Int64))) (32 : Int32)))), .second, .val (.long (((((i >>> ((32 : Int32).toInt64 &&& 63)) * (j &&& (4294967295 : Int64))) + (XT.ushrL ((i &&& (4294967295 : Int64)) * (j &&& (4294967295 : Int64))) (32 : Int32))) &&& (4294967295 : Int64)) + ((i &&& (4294967295 : Int64)) * (j >>> ((32 : Int32).toInt64 &&& 63))))), .second, .val (.long ((((i >>> ((32 : Int32).toInt64 &&& 63)) * (j &&& (4294967295 : Int64))) + (XT.ushrL ((i &&& (4294967295 : Int64)) * (j &&& (4294967295 : Int64))) (32 : Int32))) >>> ((32 : Int32).toInt64 &&& 63))), .second] [(.long (mhF i j))]))
  exact k_lret K d_jdk_29_method_45_code_85 rfl (fun sf ht => ⟨rfl, rfl⟩) (by decide) (by decide)
theorem d_prog_87_method_10_code_0 : decode prog_87_method_10_code 0 = .ok (.lload_n 0, 1) := by decide +kernel
theorem d_prog_87_method_10_code_1 : decode prog_87_method_10_code 1 = .ok (.lload_n 2, 1) := by decide +kernel
theorem d_prog_87_method_10_code_2 : decode prog_87_method_10_code 2 = .ok (.invokestatic 114, 3) := by decide +kernel
theorem w113 {Z : State} {a0 : Array Value} (hw : Tb a0 Z) : (Jvm.Cond.methodLink "com/example/tallyard/tallyard/scenario/formats/TextIndex" (114 : Nat) ({ cls := "java/lang/Math", name := "multiplyHigh", desc := "(JJ)J" } : Jvm.MethodName)).before a0 Z = true := hw _ (List.mem_of_getElem? (i := 113) rfl)
theorem w115 {Z : State} {a0 : Array Value} (hw : Tb a0 Z) : (Jvm.Cond.initialized "java/lang/Math").before a0 Z = true := hw _ (List.mem_of_getElem? (i := 115) rfl)
theorem w116 {Z : State} {a0 : Array Value} (hw : Tb a0 Z) : (Jvm.Cond.code ({ cls := "java/lang/Math", name := "multiplyHigh", desc := "(JJ)J" } : Jvm.MethodName) jdk_29_method_45_code (20 : Nat) (Option.some Jvm.ClassFile.FieldType.long)).before a0 Z = true := hw _ (List.mem_of_getElem? (i := 116) rfl)
theorem w114 {Z : State} {a0 : Array Value} (hw : Tb a0 Z) : (Jvm.Cond.static ({ cls := "java/lang/Math", name := "multiplyHigh", desc := "(JJ)J" } : Jvm.MethodName)).before a0 Z = true := hw _ (List.mem_of_getElem? (i := 114) rfl)
theorem pd__JJ_J_944 : parseMethodDescriptor "(JJ)J" = some ⟨[.long, .long], some .long⟩ := by decide +kernel
theorem d_prog_87_method_10_code_5 : decode prog_87_method_10_code 5 = .ok (.lstore 4, 2) := by decide +kernel
theorem d_prog_87_method_10_code_7 : decode prog_87_method_10_code 7 = .ok (.lload_n 0, 1) := by decide +kernel
theorem d_prog_87_method_10_code_8 : decode prog_87_method_10_code 8 = .ok (.lload_n 2, 1) := by decide +kernel
theorem d_prog_87_method_10_code_9 : decode prog_87_method_10_code 9 = .ok (.lmul, 1) := by decide +kernel
theorem d_prog_87_method_10_code_10 : decode prog_87_method_10_code 10 = .ok (.lstore 6, 2) := by decide +kernel
theorem d_prog_87_method_10_code_12 : decode prog_87_method_10_code 12 = .ok (.lload 6, 2) := by decide +kernel
theorem d_prog_87_method_10_code_14 : decode prog_87_method_10_code 14 = .ok (.ldc2_w 11, 3) := by decide +kernel
theorem w118 {Z : State} {a0 : Array Value} (hw : Tb a0 Z) : (Jvm.Cond.constantLong "com/example/tallyard/tallyard/scenario/formats/TextIndex" (11 : Nat) (2305843009213693951 : Int64)).before a0 Z = true := hw _ (List.mem_of_getElem? (i := 118) rfl)
theorem d_prog_87_method_10_code_17 : decode prog_87_method_10_code 17 = .ok (.land, 1) := by decide +kernel
theorem d_prog_87_method_10_code_18 : decode prog_87_method_10_code 18 = .ok (.lload 4, 2) := by decide +kernel
theorem d_prog_87_method_10_code_20 : decode prog_87_method_10_code 20 = .ok (.iconst 3, 1) := by decide +kernel
theorem d_prog_87_method_10_code_21 : decode prog_87_method_10_code 21 = .ok (.lshl, 1) := by decide +kernel
theorem d_prog_87_method_10_code_22 : decode prog_87_method_10_code 22 = .ok (.lload 6, 2) := by decide +kernel
theorem d_prog_87_method_10_code_24 : decode prog_87_method_10_code 24 = .ok (.bipush 61, 2) := by decide +kernel
theorem d_prog_87_method_10_code_26 : decode prog_87_method_10_code 26 = .ok (.lushr, 1) := by decide +kernel
theorem d_prog_87_method_10_code_27 : decode prog_87_method_10_code 27 = .ok (.lor, 1) := by decide +kernel
theorem d_prog_87_method_10_code_28 : decode prog_87_method_10_code 28 = .ok (.ladd, 1) := by decide +kernel
theorem d_prog_87_method_10_code_29 : decode prog_87_method_10_code 29 = .ok (.lstore 8, 2) := by decide +kernel
def pmS (i j : Int64) : Int64 := (((i * j) &&& (2305843009213693951 : Int64)) + (((mhF i j) <<< ((3 : Int32).toInt64 &&& 63)) ||| (XT.ushrL (i * j) (61 : Int32))))
def pmF (i j : Int64) : Int64 := if pmS i j < (2305843009213693951 : Int64) then pmS i j else pmS i j - (2305843009213693951 : Int64)
theorem d_prog_87_method_10_code_31 : decode prog_87_method_10_code 31 = .ok (.lload 8, 2) := by decide +kernel
theorem d_prog_87_method_10_code_33 : decode prog_87_method_10_code 33 = .ok (.ldc2_w 11, 3) := by decide +kernel
theorem d_prog_87_method_10_code_36 : decode prog_87_method_10_code 36 = .ok (.lcmp, 1) := by decide +kernel
theorem d_prog_87_method_10_code_37 : decode prog_87_method_10_code 37 = .ok (.ifCond .lt 12, 3) := by decide +kernel
theorem d_prog_87_method_10_code_49 : decode prog_87_method_10_code 49 = .ok (.lload 8, 2) := by decide +kernel
theorem d_prog_87_method_10_code_51 : decode prog_87_method_10_code 51 = .ok (.lreturn, 1) := by decide +kernel
theorem d_prog_87_method_10_code_40 : decode prog_87_method_10_code 40 = .ok (.lload 8, 2) := by decide +kernel
theorem d_prog_87_method_10_code_42 : decode prog_87_method_10_code 42 = .ok (.ldc2_w 11, 3) := by decide +kernel
theorem d_prog_87_method_10_code_45 : decode prog_87_method_10_code 45 = .ok (.lsub, 1) := by decide +kernel
theorem d_prog_87_method_10_code_46 : decode prog_87_method_10_code 46 = .ok (.goto 5, 3) := by decide +kernel
theorem pl_com_example_tallyard_tallyard_scenario_formats_TextIndex : plainName "com/example/tallyard/tallyard/scenario/formats/TextIndex" = true := by first | (simp [plainName, overriddenIn]; done) | decide +kernel
set_option maxRecDepth 65536 in
set_option maxHeartbeats 40000000 in
theorem c_pm (l : Launch) (Z : State) (a0 : Array Value) (hw : Tb a0 Z) (hEW : EW Z a0 EL0) (n0 : Nat) (i j : Int64) (h0 : Heap) (O : Old Z n0 h0)  :
    Ct l Z EL0 n0 (⟨"com/example/tallyard/tallyard/scenario/formats/TextIndex", "productModPrime", "(JJ)J"⟩ : MethodName) prog_87_method_10_code 10 (some .long) ({ frames := 1, cells := 0, slots := 0, locals := 31 } : Room) #[(.long i), (.long j)] h0 [] (Pu (some (.long (pmF i j))) h0) := by
  refine Ct.of (a0 := a0) #[.val (.long i), .second, .val (.long j), .second, .unset, .unset, .unset, .unset, .unset, .unset] hEW O (plainFor_of_name pl_com_example_tallyard_tallyard_scenario_formats_TextIndex) (fun m => by first | (simp [entryFrame, mkF, argsToLocals, Value.category]; done) | rfl) ?_
  intro p_ e_ s_ m_ below_ meth_ c_ b_ T_ K hSP
  refine k_lloadN K d_prog_87_method_10_code_0 (pc' := 1) rfl rfl ?_
  refine k_lloadN K d_prog_87_method_10_code_1 (pc' := 2) rfl rfl ?_
  refine k_staticP K [(.long i), (.long j)] [] 0 (w113 hw) (w114 hw) (w115 hw) (w116 hw) (by decide) pd__JJ_J_944 (c_mh l Z a0 hw hEW n0 i j h0 K.old ) d_prog_87_method_10_code_2 nofun (pc' := 5) rfl rfl rfl rfl (Nat.le_of_eq rfl) (by decide) (by decide) (by decide) (by decide) ?_
  intro b36 T36 L36 K36 tr36
  show Goes p_.tables e_ below_ _ (T36.setTop (mkF m_ 5 #[.val (.long i), .second, .val (.long j), .second, .unset, .unset, .unset, .unset, .unset, .unset] [(.long (mhF i j))]))
  refine k_lstore K36 d_prog_87_method_10_code_5 (pc' := 7) (L' := #[.val (.long i), .second, .val (.long j), .second, .val (.long (mhF i j)), .second, .unset, .unset, .unset, .unset]) rfl rfl ?_
  refine k_lloadN K36 d_prog_87_method_10_code_7 (pc' := 8) rfl rfl ?_
  refine k_lloadN K36 d_prog_87_method_10_code_8 (pc' := 9) rfl rfl ?_
  refine k_lmul K36 d_prog_87_method_10_code_9 (pc' := 10) rfl ?_
  refine k_lstore K36 d_prog_87_method_10_code_10 (pc' := 12) (L' := #[.val (.long i), .second, .val (.long j), .second, .val (.long (mhF i j)), .second, .val (.long (i * j)), .second, .unset, .unset]) rfl rfl ?_
  refine k_lload K36 d_prog_87_method_10_code_12 (pc' := 14) rfl rfl ?_
  refine k_ldcJ K36 (w118 hw) d_prog_87_method_10_code_14 (pc' := 17) rfl ?_
  refine k_land K36 d_prog_87_method_10_code_17 (pc' := 18) rfl ?_
  refine k_lload K36 d_prog_87_method_10_code_18 (pc' := 20) rfl rfl ?_
  refine k_iconst K36 (3 : Int32) d_prog_87_method_10_code_20 (pc' := 21) rfl rfl ?_
  refine k_lshl K36 d_prog_87_method_10_code_21 (pc' := 22) rfl ?_
  refine k_lload K36 d_prog_87_method_10_code_22 (pc' := 24) rfl rfl ?_
  refine k_bipush K36 (61 : Int32) d_prog_87_method_10_code_24 (pc' := 26) rfl rfl ?_
  refine k_lushr K36 d_prog_87_method_10_code_26 (pc' := 27) rfl ?_
  refine k_lor K36 d_prog_87_method_10_code_27 (pc' := 28) rfl ?_
  refine k_ladd K36 d_prog_87_method_10_code_28 (pc' := 29) rfl ?_
  refine k_lstore K36 d_prog_87_method_10_code_29 (pc' := 31) (L' := #[.val (.long i), .second, .val (.long j), .second, .val (.long (mhF i j)), .second, .val (.long (i * j)), .second, .val (.long (((i * j) &&& (2305843009213693951 : Int64)) + (((mhF i j) <<< ((3 : Int32).toInt64 &&& 63)) ||| (XT.ushrL (i * j) (61 : Int32))))), .second]) rfl rfl ?_
  show Goes p_.tables e_ below_ _ (T36.setTop (mkF m_ 31 #[.val (.long i), .second, .val (.long j), .second, .val (.long (mhF i j)), .second, .val (.long (i * j)), .second, .val (.long (pmS i j)), .second] []))
  refine k_lload K36 d_prog_87_method_10_code_31 (pc' := 33) rfl rfl ?_
  refine k_ldcJ K36 (w118 hw) d_prog_87_method_10_code_33 (pc' := 36) rfl ?_
  refine k_lcmp K36 d_prog_87_method_10_code_36 (pc' := 37) rfl ?_
  refine k_lif_lt K36 d_prog_87_method_10_code_37 (by decide) (pc' := 49) (pc2 := 40) (by decide) rfl (fun hc37 => ?_) (fun hc37 => ?_)
  · refine k_lload K36 d_prog_87_method_10_code_49 (pc' := 51) rfl rfl ?_
    exact k_lret K36 d_prog_87_method_10_code_51 rfl (fun sf ht => ⟨by rw [pmF, if_pos hc37], rfl⟩) (by decide) (by decide)
  · refine k_lload K36 d_prog_87_method_10_code_40 (pc' := 42) rfl rfl ?_
    refine k_ldcJ K36 (w118 hw) d_prog_87_method_10_code_42 (pc' := 45) rfl ?_
    refine k_lsub K36 d_prog_87_method_10_code_45 (pc' := 46) rfl ?_
    refine k_goto K36 d_prog_87_method_10_code_46 (by decide) (pc' := 51) (by decide) ?_
    exact k_lret K36 d_prog_87_method_10_code_51 rfl (fun sf ht => ⟨by rw [pmF, if_neg hc37], rfl⟩) (by decide) (by decide)
def hsF (acc base w : Int64) : Int64 := if pmF acc base + w < 2305843009213693951 then pmF acc base + w else pmF acc base + w - 2305843009213693951
def prF (a b : Int32) : Int64 := (a.toInt64 <<< ((16 : Int32).toInt64 &&& 63)) ||| b.toInt64
def hashC (base : Int64) : List Int32 → Int32
  | [] => ((0 : Int32).toInt64 + (1 : Int64)).toInt32
  | [a] => (hsF ((1 : Int32).toInt64 + (1 : Int64)) base a.toInt64).toInt32
  | [a, b] => (hsF ((2 : Int32).toInt64 + (1 : Int64)) base (prF a b)).toInt32
  | [a, b, c] => (hsF (hsF ((3 : Int32).toInt64 + (1 : Int64)) base (prF a b)) base c.toInt64).toInt32
  | _ => 0
theorem own_lat_get (cs : List Int32) (j : Nat) (h : j < cs.length) : (lat cs).getD j (.int 0) = .int cs[j].toInt8.toInt32 := by simp [lat, List.getD_eq_getElem?_getD, h]
theorem d_jdk_42_method_56_code_0 : decode jdk_42_method_56_code 0 = .ok (.aload_n 0, 1) := by decide +kernel
theorem d_jdk_42_method_56_code_1 : decode jdk_42_method_56_code 1 = .ok (.invokevirtual 492, 3) := by decide +kernel
theorem w93 {Z : State} {a0 : Array Value} (hw : Tb a0 Z) : (Jvm.Cond.methodLink "java/lang/String" (492 : Nat) ({ cls := "java/lang/String", name := "isLatin1", desc := "()Z" } : Jvm.MethodName)).before a0 Z = true := hw _ (List.mem_of_getElem? (i := 93) rfl)
theorem w97 {Z : State} {a0 : Array Value} (hw : Tb a0 Z) : (Jvm.Cond.code ({ cls := "java/lang/String", name := "isLatin1", desc := "()Z" } : Jvm.MethodName) jdk_42_method_154_code (1 : Nat) (Option.some Jvm.ClassFile.FieldType.boolean)).before a0 Z = true := hw _ (List.mem_of_getElem? (i := 97) rfl)
theorem w96 {Z : State} {a0 : Array Value} (hw : Tb a0 Z) : (Jvm.Cond.selects "java/lang/String" ({ cls := "java/lang/String", name := "isLatin1", desc := "()Z" } : Jvm.MethodName) ({ cls := "java/lang/String", name := "isLatin1", desc := "()Z" } : Jvm.MethodName)).before a0 Z = true := hw _ (List.mem_of_getElem? (i := 96) rfl)
theorem w94 {Z : State} {a0 : Array Value} (hw : Tb a0 Z) : (Jvm.Cond.declares ({ cls := "java/lang/String", name := "isLatin1", desc := "()Z" } : Jvm.MethodName)).before a0 Z = true := hw _ (List.mem_of_getElem? (i := 94) rfl)
theorem w95 {Z : State} {a0 : Array Value} (hw : Tb a0 Z) : (Jvm.Cond.instanceMethod ({ cls := "java/lang/String", name := "isLatin1", desc := "()Z" } : Jvm.MethodName)).before a0 Z = true := hw _ (List.mem_of_getElem? (i := 95) rfl)
theorem pd___Z_392 : parseMethodDescriptor "()Z" = some ⟨[], some .boolean⟩ := by decide +kernel
theorem d_jdk_42_method_56_code_4 : decode jdk_42_method_56_code 4 = .ok (.ifCond .eq 12, 3) := by decide +kernel
theorem d_jdk_42_method_56_code_7 : decode jdk_42_method_56_code 7 = .ok (.aload_n 0, 1) := by decide +kernel
theorem d_jdk_42_method_56_code_8 : decode jdk_42_method_56_code 8 = .ok (.getfield 9, 3) := by decide +kernel
theorem d_jdk_42_method_56_code_11 : decode jdk_42_method_56_code 11 = .ok (.iload_n 1, 1) := by decide +kernel
theorem d_jdk_42_method_56_code_12 : decode jdk_42_method_56_code 12 = .ok (.invokestatic 495, 3) := by decide +kernel
theorem w98 {Z : State} {a0 : Array Value} (hw : Tb a0 Z) : (Jvm.Cond.methodLink "java/lang/String" (495 : Nat) ({ cls := "java/lang/StringLatin1", name := "charAt", desc := "([BI)C" } : Jvm.MethodName)).before a0 Z = true := hw _ (List.mem_of_getElem? (i := 98) rfl)
theorem w101 {Z : State} {a0 : Array Value} (hw : Tb a0 Z) : (Jvm.Cond.code ({ cls := "java/lang/StringLatin1", name := "charAt", desc := "([BI)C" } : Jvm.MethodName) jdk_43_method_2_code (2 : Nat) (Option.some Jvm.ClassFile.FieldType.char)).before a0 Z = true := hw _ (List.mem_of_getElem? (i := 101) rfl)
theorem w99 {Z : State} {a0 : Array Value} (hw : Tb a0 Z) : (Jvm.Cond.static ({ cls := "java/lang/StringLatin1", name := "charAt", desc := "([BI)C" } : Jvm.MethodName)).before a0 Z = true := hw _ (List.mem_of_getElem? (i := 99) rfl)
theorem pd___BI_C_1319 : parseMethodDescriptor "([BI)C" = some ⟨[(.array .byte), .int], some .char⟩ := by decide +kernel
theorem d_jdk_42_method_56_code_15 : decode jdk_42_method_56_code 15 = .ok (.ireturn, 1) := by decide +kernel
set_option maxRecDepth 65536 in
set_option maxHeartbeats 40000000 in
theorem c_charAtL (l : Launch) (Z : State) (a0 : Array Value) (hw : Tb a0 Z) (hEW : EW Z a0 EL0) (n0 : Nat) (a e : Addr) (ke : ClassId) (n : Int32) (cs : List Int32) (i : Int32) (j : Nat) (ff : Value) (cs0 : Int32) (h0 : Heap) (O : Old Z n0 h0) (SF : Sta Z Z.heap "jdk/internal/util/Preconditions" "SIOOBE_FORMATTER" "Ljava/util/function/BiFunction;" ff) (hff : ff.isRef = true) (S : Str Z h0 a e ke 0 n (lat cs)) (hn : n.toInt = cs.length) (hb : cs.length ≤ 3) (hc : ∀ c ∈ cs, 0 ≤ c.toInt ∧ c.toInt < 256) (hj : i.toInt = j) (hjl : j < cs.length) (SC : Sta Z Z.heap "java/lang/String" "COMPACT_STRINGS" "Z" (.int cs0)) (hcs : ¬ cs0 = 0) :
    Ct l Z EL0 n0 (⟨"java/lang/String", "charAt", "(I)C"⟩ : MethodName) jdk_42_method_56_code 2 (some .char) ({ frames := 3, cells := 0, slots := 0, locals := 40 } : Room) #[(.ref a), (.int i)] h0 [] (Pu (some (.int cs[j])) h0) := by
  refine Ct.of (a0 := a0) #[.val (.ref a), .val (.int i)] hEW O (plainFor_of_name pl_java_lang_String) (fun m => by first | (simp [entryFrame, mkF, argsToLocals, Value.category]; done) | rfl) ?_
  intro p_ e_ s_ m_ below_ meth_ c_ b_ T_ K hSP
  have hcj := hc cs[j] (List.getElem_mem hjl)
  have hin := own_in hj hn hjl
  have ech := own_ch8 hcj
  refine k_aloadN K d_jdk_42_method_56_code_0 (pc' := 1) rfl rfl rfl ?_
  refine k_virtualP K [] [] 0 (w93 hw) (w94 hw) (w95 hw) (w96 hw) (w8 hw) (w97 hw) (notFace_of_selects (args := #[]) (mvT K.hZ (w96 hw))) rfl (by decide) S.1 (by decide) pd___Z_392 (c_isLatin1 l Z a0 hw hEW n0 a e ke 0 n _ cs0 h0 K.old S (Or.inl rfl) SC hcs) d_jdk_42_method_56_code_1 nofun (pc' := 4) rfl rfl rfl rfl (Nat.le_of_eq rfl) (by decide) (by decide) (by decide) (by decide) ?_
  intro b37 T37 L37 K37 tr37
  show Goes p_.tables e_ below_ _ (T37.setTop (mkF m_ 4 #[.val (.ref a), .val (.int i)] [(.int (if (0 : Int32) = 0 then 1 else 0))]))
  rw [if_pos rfl]
  refine k_if_eq K37 d_jdk_42_method_56_code_4 (by decide) (pc' := 16) (pc2 := 7) (by decide) rfl (fun q => absurd q (by decide)) (fun hc4 => ?_)
  refine k_aloadN K37 d_jdk_42_method_56_code_7 (pc' := 8) rfl rfl rfl ?_
  refine k_getF K37 (w34 hw) Via.refl S.2.2.1 d_jdk_42_method_56_code_8 (pc' := 11) rfl ?_
  intro T38 K38
  refine k_iloadN K38 d_jdk_42_method_56_code_11 (pc' := 12) rfl rfl ?_
  refine k_staticP K38 [(.ref e), (.int i)] [] 0 (w98 hw) (w99 hw) (w100 hw) (w101 hw) (by decide) pd___BI_C_1319 (c_l1charAt l Z a0 hw hEW n0 e ke n i (cs[j].toInt8.toInt32) _ ff h0 K38.old SF hff S.2.2.2 hin.1 hin.2 (by rw [own_clamp hj]; exact own_lat_get cs j hjl)) d_jdk_42_method_56_code_12 nofun (pc' := 15) rfl rfl rfl rfl (Nat.le_of_eq rfl) (by decide) (by decide) (by decide) (by decide) ?_
  intro b39 T39 L39 K39 tr39
  show Goes p_.tables e_ below_ _ (T39.setTop (mkF m_ 15 #[.val (.ref a), .val (.int i)] [(.int (cs[j].toInt8.toInt32 &&& 255).toUInt32.toUInt16.toUInt32.toInt32)]))
  rw [ech]
  exact k_nret K39 d_jdk_42_method_56_code_15 rfl (by simp) (own_narrowc hcj.1 (by omega)) (fun sf ht => ⟨rfl, rfl⟩) (by decide) (by decide)
theorem d_prog_87_method_9_code_0 : decode prog_87_method_9_code 0 = .ok (.aload_n 1, 1) := by decide +kernel
theorem d_prog_87_method_9_code_1 : decode prog_87_method_9_code 1 = .ok (.invokeinterface 101 1, 5) := by decide +kernel
theorem w71 {Z : State} {a0 : Array Value} (hw : Tb a0 Z) : (Jvm.Cond.methodLink "com/example/tallyard/tallyard/scenario/formats/TextIndex" (101 : Nat) ({ cls := "java/lang/CharSequence", name := "length", desc := "()I" } : Jvm.MethodName)).before a0 Z = true := hw _ (List.mem_of_getElem? (i := 71) rfl)
theorem w79 {Z : State} {a0 : Array Value} (hw : Tb a0 Z) : (Jvm.Cond.code ({ cls := "java/lang/String", name := "length", desc := "()I" } : Jvm.MethodName) jdk_42_method_54_code (1 : Nat) (Option.some Jvm.ClassFile.FieldType.int)).before a0 Z = true := hw _ (List.mem_of_getElem? (i := 79) rfl)
theorem w72 {Z : State} {a0 : Array Value} (hw : Tb a0 Z) : (Jvm.Cond.declares ({ cls := "java/lang/CharSequence", name := "length", desc := "()I" } : Jvm.MethodName)).before a0 Z = true := hw _ (List.mem_of_getElem? (i := 72) rfl)
theorem w73 {Z : State} {a0 : Array Value} (hw : Tb a0 Z) : (Jvm.Cond.interfaceMethod "java/lang/CharSequence" "java/lang/CharSequence" "length" "()I").before a0 Z = true := hw _ (List.mem_of_getElem? (i := 73) rfl)
theorem w74 {Z : State} {a0 : Array Value} (hw : Tb a0 Z) : (Jvm.Cond.selects "java/lang/String" ({ cls := "java/lang/CharSequence", name := "length", desc := "()I" } : Jvm.MethodName) ({ cls := "java/lang/String", name := "length", desc := "()I" } : Jvm.MethodName)).before a0 Z = true := hw _ (List.mem_of_getElem? (i := 74) rfl)
theorem w75 {Z : State} {a0 : Array Value} (hw : Tb a0 Z) : (Jvm.Cond.instanceMethod ({ cls := "java/lang/String", name := "length", desc := "()I" } : Jvm.MethodName)).before a0 Z = true := hw _ (List.mem_of_getElem? (i := 75) rfl)
theorem w76 {Z : State} {a0 : Array Value} (hw : Tb a0 Z) : (Jvm.Cond.publicMethod ({ cls := "java/lang/String", name := "length", desc := "()I" } : Jvm.MethodName)).before a0 Z = true := hw _ (List.mem_of_getElem? (i := 76) rfl)
theorem w77 {Z : State} {a0 : Array Value} (hw : Tb a0 Z) : (Jvm.Cond.unhidden "java/lang/String" "length" "()I").before a0 Z = true := hw _ (List.mem_of_getElem? (i := 77) rfl)
theorem w78 {Z : State} {a0 : Array Value} (hw : Tb a0 Z) : (Jvm.Cond.castable "java/lang/String" "java/lang/CharSequence").before a0 Z = true := hw _ (List.mem_of_getElem? (i := 78) rfl)
theorem pd___I_341 : parseMethodDescriptor "()I" = some ⟨[], some .int⟩ := by decide +kernel
theorem d_prog_87_method_9_code_6 : decode prog_87_method_9_code 6 = .ok (.istore_n 2, 1) := by decide +kernel
theorem d_prog_87_method_9_code_7 : decode prog_87_method_9_code 7 = .ok (.iload_n 2, 1) := by decide +kernel
theorem d_prog_87_method_9_code_8 : decode prog_87_method_9_code 8 = .ok (.i2l, 1) := by decide +kernel
theorem d_prog_87_method_9_code_9 : decode prog_87_method_9_code 9 = .ok (.lconst 1, 1) := by decide +kernel
theorem d_prog_87_method_9_code_10 : decode prog_87_method_9_code 10 = .ok (.ladd, 1) := by decide +kernel
theorem d_prog_87_method_9_code_11 : decode prog_87_method_9_code 11 = .ok (.lstore_n 3, 1) := by decide +kernel
theorem d_prog_87_method_9_code_12 : decode prog_87_method_9_code 12 = .ok (.iconst 0, 1) := by decide +kernel
theorem d_prog_87_method_9_code_13 : decode prog_87_method_9_code 13 = .ok (.istore 5, 2) := by decide +kernel
theorem d_prog_87_method_9_code_15 : decode prog_87_method_9_code 15 = .ok (.iload 5, 2) := by decide +kernel
theorem d_prog_87_method_9_code_17 : decode prog_87_method_9_code 17 = .ok (.iload_n 2, 1) := by decide +kernel
theorem d_prog_87_method_9_code_18 : decode prog_87_method_9_code 18 = .ok (.if_icmp .ge 81, 3) := by decide +kernel
theorem d_prog_87_method_9_code_99 : decode prog_87_method_9_code 99 = .ok (.lload_n 3, 1) := by decide +kernel
theorem d_prog_87_method_9_code_100 : decode prog_87_method_9_code 100 = .ok (.l2i, 1) := by decide +kernel
theorem d_prog_87_method_9_code_101 : decode prog_87_method_9_code 101 = .ok (.ireturn, 1) := by decide +kernel
theorem d_prog_87_method_9_code_21 : decode prog_87_method_9_code 21 = .ok (.iload 5, 2) := by decide +kernel
theorem d_prog_87_method_9_code_23 : decode prog_87_method_9_code 23 = .ok (.iconst 1, 1) := by decide +kernel
theorem d_prog_87_method_9_code_24 : decode prog_87_method_9_code 24 = .ok (.iadd, 1) := by decide +kernel
theorem d_prog_87_method_9_code_25 : decode prog_87_method_9_code 25 = .ok (.iload_n 2, 1) := by decide +kernel
theorem d_prog_87_method_9_code_26 : decode prog_87_method_9_code 26 = .ok (.if_icmp .ge 30, 3) := by decide +kernel
theorem d_prog_87_method_9_code_56 : decode prog_87_method_9_code 56 = .ok (.aload_n 1, 1) := by decide +kernel
theorem d_prog_87_method_9_code_57 : decode prog_87_method_9_code 57 = .ok (.iload 5, 2) := by decide +kernel
theorem d_prog_87_method_9_code_59 : decode prog_87_method_9_code 59 = .ok (.invokeinterface 107 2, 5) := by decide +kernel
theorem w85 {Z : State} {a0 : Array Value} (hw : Tb a0 Z) : (Jvm.Cond.methodLink "com/example/tallyard/tallyard/scenario/formats/TextIndex" (107 : Nat) ({ cls := "java/lang/CharSequence", name := "charAt", desc := "(I)C" } : Jvm.MethodName)).before a0 Z = true := hw _ (List.mem_of_getElem? (i := 85) rfl)
theorem w92 {Z : State} {a0 : Array Value} (hw : Tb a0 Z) : (Jvm.Cond.code ({ cls := "java/lang/String", name := "charAt", desc := "(I)C" } : Jvm.MethodName) jdk_42_method_56_code (2 : Nat) (Option.some Jvm.ClassFile.FieldType.char)).before a0 Z = true := hw _ (List.mem_of_getElem? (i := 92) rfl)
theorem w86 {Z : State} {a0 : Array Value} (hw : Tb a0 Z) : (Jvm.Cond.declares ({ cls := "java/lang/CharSequence", name := "charAt", desc := "(I)C" } : Jvm.MethodName)).before a0 Z = true := hw _ (List.mem_of_getElem? (i := 86) rfl)
theorem w87 {Z : State} {a0 : Array Value} (hw : Tb a0 Z) : (Jvm.Cond.interfaceMethod "java/lang/CharSequence" "java/lang/CharSequence" "charAt" "(I)C").before a0 Z = true := hw _ (List.mem_of_getElem? (i := 87) rfl)
theorem w88 {Z : State} {a0 : Array Value} (hw : Tb a0 Z) : (Jvm.Cond.selects "java/lang/String" ({ cls := "java/lang/CharSequence", name := "charAt", desc := "(I)C" } : Jvm.MethodName) ({ cls := "java/lang/String", name := "charAt", desc := "(I)C" } : Jvm.MethodName)).before a0 Z = true := hw _ (List.mem_of_getElem? (i := 88) rfl)
theorem w89 {Z : State} {a0 : Array Value} (hw : Tb a0 Z) : (Jvm.Cond.instanceMethod ({ cls := "java/lang/String", name := "charAt", desc := "(I)C" } : Jvm.MethodName)).before a0 Z = true := hw _ (List.mem_of_getElem? (i := 89) rfl)
theorem w90 {Z : State} {a0 : Array Value} (hw : Tb a0 Z) : (Jvm.Cond.publicMethod ({ cls := "java/lang/String", name := "charAt", desc := "(I)C" } : Jvm.MethodName)).before a0 Z = true := hw _ (List.mem_of_getElem? (i := 90) rfl)
theorem w91 {Z : State} {a0 : Array Value} (hw : Tb a0 Z) : (Jvm.Cond.unhidden "java/lang/String" "charAt" "(I)C").before a0 Z = true := hw _ (List.mem_of_getElem? (i := 91) rfl)
theorem pd__I_C_577 : parseMethodDescriptor "(I)C" = some ⟨[.int], some .char⟩ := by decide +kernel
theorem d_prog_87_method_9_code_64 : decode prog_87_method_9_code 64 = .ok (.i2l, 1) := by decide +kernel
theorem d_prog_87_method_9_code_65 : decode prog_87_method_9_code 65 = .ok (.lstore 6, 2) := by decide +kernel
theorem d_prog_87_method_9_code_67 : decode prog_87_method_9_code 67 = .ok (.lload_n 3, 1) := by decide +kernel
theorem d_prog_87_method_9_code_68 : decode prog_87_method_9_code 68 = .ok (.aload_n 0, 1) := by decide +kernel
theorem d_prog_87_method_9_code_69 : decode prog_87_method_9_code 69 = .ok (.getfield 48, 3) := by decide +kernel
theorem w60 {Z : State} {a0 : Array Value} (hw : Tb a0 Z) : (Jvm.Cond.fieldLink "com/example/tallyard/tallyard/scenario/formats/TextIndex" (48 : Nat) "com/example/tallyard/tallyard/scenario/formats/TextIndex" "base" "J").before a0 Z = true := hw _ (List.mem_of_getElem? (i := 60) rfl)
theorem d_prog_87_method_9_code_72 : decode prog_87_method_9_code 72 = .ok (.invokestatic 111, 3) := by decide +kernel
theorem w110 {Z : State} {a0 : Array Value} (hw : Tb a0 Z) : (Jvm.Cond.methodLink "com/example/tallyard/tallyard/scenario/formats/TextIndex" (111 : Nat) ({ cls := "com/example/tallyard/tallyard/scenario/formats/TextIndex", name := "productModPrime", desc := "(JJ)J" } : Jvm.MethodName)).before a0 Z = true := hw _ (List.mem_of_getElem? (i := 110) rfl)
theorem w41 {Z : State} {a0 : Array Value} (hw : Tb a0 Z) : (Jvm.Cond.initialized "com/example/tallyard/tallyard/scenario/formats/TextIndex").before a0 Z = true := hw _ (List.mem_of_getElem? (i := 41) rfl)
theorem w112 {Z : State} {a0 : Array Value} (hw : Tb a0 Z) : (Jvm.Cond.code ({ cls := "com/example/tallyard/tallyard/scenario/formats/TextIndex", name := "productModPrime", desc := "(JJ)J" } : Jvm.MethodName) prog_87_method_10_code (10 : Nat) (Option.some Jvm.ClassFile.FieldType.long)).before a0 Z = true := hw _ (List.mem_of_getElem? (i := 112) rfl)
theorem w111 {Z : State} {a0 : Array Value} (hw : Tb a0 Z) : (Jvm.Cond.static ({ cls := "com/example/tallyard/tallyard/scenario/formats/TextIndex", name := "productModPrime", desc := "(JJ)J" } : Jvm.MethodName)).before a0 Z = true := hw _ (List.mem_of_getElem? (i := 111) rfl)
theorem d_prog_87_method_9_code_75 : decode prog_87_method_9_code 75 = .ok (.lload 6, 2) := by decide +kernel
theorem d_prog_87_method_9_code_77 : decode prog_87_method_9_code 77 = .ok (.ladd, 1) := by decide +kernel
theorem d_prog_87_method_9_code_78 : decode prog_87_method_9_code 78 = .ok (.lstore_n 3, 1) := by decide +kernel
theorem d_prog_87_method_9_code_93 : decode prog_87_method_9_code 93 = .ok (.iinc 5 2, 3) := by decide +kernel
theorem d_prog_87_method_9_code_96 : decode prog_87_method_9_code 96 = .ok (.goto (-81), 3) := by decide +kernel
theorem d_prog_87_method_9_code_79 : decode prog_87_method_9_code 79 = .ok (.lload_n 3, 1) := by decide +kernel
theorem d_prog_87_method_9_code_80 : decode prog_87_method_9_code 80 = .ok (.ldc2_w 11, 3) := by decide +kernel
theorem d_prog_87_method_9_code_83 : decode prog_87_method_9_code 83 = .ok (.lcmp, 1) := by decide +kernel
theorem d_prog_87_method_9_code_84 : decode prog_87_method_9_code 84 = .ok (.ifCond .lt 9, 3) := by decide +kernel
theorem d_prog_87_method_9_code_87 : decode prog_87_method_9_code 87 = .ok (.lload_n 3, 1) := by decide +kernel
theorem d_prog_87_method_9_code_88 : decode prog_87_method_9_code 88 = .ok (.ldc2_w 11, 3) := by decide +kernel
theorem d_prog_87_method_9_code_91 : decode prog_87_method_9_code 91 = .ok (.lsub, 1) := by decide +kernel
theorem d_prog_87_method_9_code_92 : decode prog_87_method_9_code 92 = .ok (.lstore_n 3, 1) := by decide +kernel
theorem d_prog_87_method_9_code_29 : decode prog_87_method_9_code 29 = .ok (.aload_n 1, 1) := by decide +kernel
theorem d_prog_87_method_9_code_30 : decode prog_87_method_9_code 30 = .ok (.iload 5, 2) := by decide +kernel
theorem d_prog_87_method_9_code_32 : decode prog_87_method_9_code 32 = .ok (.invokeinterface 107 2, 5) := by decide +kernel
theorem d_prog_87_method_9_code_37 : decode prog_87_method_9_code 37 = .ok (.i2l, 1) := by decide +kernel
theorem d_prog_87_method_9_code_38 : decode prog_87_method_9_code 38 = .ok (.bipush 16, 2) := by decide +kernel
theorem d_prog_87_method_9_code_40 : decode prog_87_method_9_code 40 = .ok (.lshl, 1) := by decide +kernel
theorem d_prog_87_method_9_code_41 : decode prog_87_method_9_code 41 = .ok (.aload_n 1, 1) := by decide +kernel
theorem d_prog_87_method_9_code_42 : decode prog_87_method_9_code 42 = .ok (.iload 5, 2) := by decide +kernel
theorem d_prog_87_method_9_code_44 : decode prog_87_method_9_code 44 = .ok (.iconst 1, 1) := by decide +kernel
theorem d_prog_87_method_9_code_45 : decode prog_87_method_9_code 45 = .ok (.iadd, 1) := by decide +kernel
theorem d_prog_87_method_9_code_46 : decode prog_87_method_9_code 46 = .ok (.invokeinterface 107 2, 5) := by decide +kernel
theorem d_prog_87_method_9_code_51 : decode prog_87_method_9_code 51 = .ok (.i2l, 1) := by decide +kernel
theorem d_prog_87_method_9_code_52 : decode prog_87_method_9_code 52 = .ok (.lor, 1) := by decide +kernel
theorem d_prog_87_method_9_code_53 : decode prog_87_method_9_code 53 = .ok (.goto 12, 3) := by decide +kernel
set_option maxRecDepth 65536 in
set_option maxHeartbeats 40000000 in
theorem c_hashOf (l : Launch) (Z : State) (a0 : Array Value) (hw : Tb a0 Z) (hEW : EW Z a0 EL0) (n0 : Nat) (ix : Addr) (a e : Addr) (ke : ClassId) (n : Int32) (cs : List Int32) (base : Int64) (ff : Value) (cs0 : Int32) (h0 : Heap) (O : Old Z n0 h0) (SF : Sta Z Z.heap "jdk/internal/util/Preconditions" "SIOOBE_FORMATTER" "Ljava/util/function/BiFunction;" ff) (hff : ff.isRef = true) (S : Str Z h0 a e ke 0 n (lat cs)) (hn : n.toInt = cs.length) (hb : cs.length ≤ 3) (hc : ∀ c ∈ cs, 0 ≤ c.toInt ∧ c.toInt < 256) (F_base : Fld Z h0 ix "com/example/tallyard/tallyard/scenario/formats/TextIndex" "base" "J" (.long base)) (SC : Sta Z Z.heap "java/lang/String" "COMPACT_STRINGS" "Z" (.int cs0)) (hcs : ¬ cs0 = 0) :
    Ct l Z EL0 n0 (⟨"com/example/tallyard/tallyard/scenario/formats/TextIndex", "hashOf", "(Ljava/lang/CharSequence;)I"⟩ : MethodName) prog_87_method_9_code 8 (some .int) ({ frames := 4, cells := 0, slots := 0, locals := 55 } : Room) #[(.ref ix), (.ref a)] h0 [] (Pu (some (.int (hashC base cs))) h0) := by
  refine Ct.of (a0 := a0) #[.val (.ref ix), .val (.ref a), .unset, .unset, .unset, .unset, .unset, .unset] hEW O (plainFor_of_name pl_com_example_tallyard_tallyard_scenario_formats_TextIndex) (fun m => by first | (simp [entryFrame, mkF, argsToLocals, Value.category]; done) | rfl) ?_
  intro p_ e_ s_ m_ below_ meth_ c_ b_ T_ K hSP
  rcases cs with _ | ⟨c0, _ | ⟨c1, _ | ⟨c2, _ | ⟨c3, r⟩⟩⟩⟩
  · obtain rfl : n = 0 := own_i32e (by rw [hn]; rfl)
    refine k_aloadN K d_prog_87_method_9_code_0 (pc' := 1) rfl rfl rfl ?_
    refine k_interfaceP K [] [] 0 (w71 hw) (w72 hw) (mvT K.hZ (w73 hw)) (w74 hw) (w75 hw) (w76 hw) (w77 hw) (w78 hw) (w8 hw) (w79 hw) rfl (by decide) S.1 (by decide) pd___I_341 (c_length l Z a0 hw hEW n0 a e ke 0 (0 : Int32) _ cs0 h0 K.old S (Or.inl rfl) SC hcs) d_prog_87_method_9_code_1 nofun (pc' := 6) rfl rfl rfl rfl (Nat.le_of_eq rfl) (by decide) (by decide) (by decide) (by decide) ?_
    intro b40 T40 L40 K40 tr40
    show Goes p_.tables e_ below_ _ (T40.setTop (mkF m_ 6 #[.val (.ref ix), .val (.ref a), .unset, .unset, .unset, .unset, .unset, .unset] [(.int ((0 : Int32) >>> ((0 : Int32) &&& 31)))]))
    rw [own_shr0]
    refine k_istoreN K40 d_prog_87_method_9_code_6 (pc' := 7) (L' := #[.val (.ref ix), .val (.ref a), .val (.int (0 : Int32)), .unset, .unset, .unset, .unset, .unset]) rfl rfl ?_
    refine k_iloadN K40 d_prog_87_method_9_code_7 (pc' := 8) rfl rfl ?_
    refine k_i2l K40 d_prog_87_method_9_code_8 (pc' := 9) rfl ?_
    refine k_lconst K40 (1 : Int64) d_prog_87_method_9_code_9 (pc' := 10) rfl rfl ?_
    refine k_ladd K40 d_prog_87_method_9_code_10 (pc' := 11) rfl ?_
    refine k_lstoreN K40 d_prog_87_method_9_code_11 (pc' := 12) (L' := #[.val (.ref ix), .val (.ref a), .val (.int (0 : Int32)), .val (.long (((0 : Int32).toInt64) + (1 : Int64))), .second, .unset, .unset, .unset]) rfl rfl ?_
    refine k_iconst K40 (0 : Int32) d_prog_87_method_9_code_12 (pc' := 13) rfl rfl ?_
    refine k_istore K40 d_prog_87_method_9_code_13 (pc' := 15) (L' := #[.val (.ref ix), .val (.ref a), .val (.int (0 : Int32)), .val (.long (((0 : Int32).toInt64) + (1 : Int64))), .second, .val (.int (0 : Int32)), .unset, .unset]) rfl rfl ?_
    refine k_iload K40 d_prog_87_method_9_code_15 (pc' := 17) rfl rfl ?_
    refine k_iloadN K40 d_prog_87_method_9_code_17 (pc' := 18) rfl rfl ?_
    refine k_icmp_ge K40 d_prog_87_method_9_code_18 (by decide) (pc' := 99) (pc2 := 21) (by decide) rfl (fun hc18 => ?_) (fun q => absurd q (by decide))
    refine k_lloadN K40 d_prog_87_method_9_code_99 (pc' := 100) rfl rfl ?_
    refine k_l2i K40 d_prog_87_method_9_code_100 (pc' := 101) rfl ?_
    exact k_iret K40 d_prog_87_method_9_code_101 rfl (fun sf ht => ⟨rfl, rfl⟩) (by decide) (by decide)
  · obtain rfl : n = 1 := own_i32e (by rw [hn]; rfl)
    refine k_aloadN K d_prog_87_method_9_code_0 (pc' := 1) rfl rfl rfl ?_
    refine k_interfaceP K [] [] 0 (w71 hw) (w72 hw) (mvT K.hZ (w73 hw)) (w74 hw) (w75 hw) (w76 hw) (w77 hw) (w78 hw) (w8 hw) (w79 hw) rfl (by decide) S.1 (by decide) pd___I_341 (c_length l Z a0 hw hEW n0 a e ke 0 (1 : Int32) _ cs0 h0 K.old S (Or.inl rfl) SC hcs) d_prog_87_method_9_code_1 nofun (pc' := 6) rfl rfl rfl rfl (Nat.le_of_eq rfl) (by decide) (by decide) (by decide) (by decide) ?_
    intro b41 T41 L41 K41 tr41
    show Goes p_.tables e_ below_ _ (T41.setTop (mkF m_ 6 #[.val (.ref ix), .val (.ref a), .unset, .unset, .unset, .unset, .unset, .unset] [(.int ((1 : Int32) >>> ((0 : Int32) &&& 31)))]))
    rw [own_shr0]
    refine k_istoreN K41 d_prog_87_method_9_code_6 (pc' := 7) (L' := #[.val (.ref ix), .val (.ref a), .val (.int (1 : Int32)), .unset, .unset, .unset, .unset, .unset]) rfl rfl ?_
    refine k_iloadN K41 d_prog_87_method_9_code_7 (pc' := 8) rfl rfl ?_
    refine k_i2l K41 d_prog_87_method_9_code_8 (pc' := 9) rfl ?_
    refine k_lconst K41 (1 : Int64) d_prog_87_method_9_code_9 (pc' := 10) rfl rfl ?_
    refine k_ladd K41 d_prog_87_method_9_code_10 (pc' := 11) rfl ?_
    refine k_lstoreN K41 d_prog_87_method_9_code_11 (pc' := 12) (L' := #[.val (.ref ix), .val (.ref a), .val (.int (1 : Int32)), .val (.long (((1 : Int32).toInt64) + (1 : Int64))), .second, .unset, .unset, .unset]) rfl rfl ?_
    refine k_iconst K41 (0 : Int32) d_prog_87_method_9_code_12 (pc' := 13) rfl rfl ?_
    refine k_istore K41 d_prog_87_method_9_code_13 (pc' := 15) (L' := #[.val (.ref ix), .val (.ref a), .val (.int (1 : Int32)), .val (.long (((1 : Int32).toInt64) + (1 : Int64))), .second, .val (.int (0 : Int32)), .unset, .unset]) rfl rfl ?_
    refine k_iload K41 d_prog_87_method_9_code_15 (pc' := 17) rfl rfl ?_
    refine k_iloadN K41 d_prog_87_method_9_code_17 (pc' := 18) rfl rfl ?_
    refine k_icmp_ge K41 d_prog_87_method_9_code_18 (by decide) (pc' := 99) (pc2 := 21) (by decide) rfl (fun q => absurd (by decide) q) (fun hc18 => ?_)
    refine k_iload K41 d_prog_87_method_9_code_21 (pc' := 23) rfl rfl ?_
    refine k_iconst K41 (1 : Int32) d_prog_87_method_9_code_23 (pc' := 24) rfl rfl ?_
    refine k_iadd K41 d_prog_87_method_9_code_24 (pc' := 25) rfl ?_
    rw [show ((0 : Int32) + (1 : Int32)) = (1 : Int32) by decide]
    refine k_iloadN K41 d_prog_87_method_9_code_25 (pc' := 26) rfl rfl ?_
    refine k_icmp_ge K41 d_prog_87_method_9_code_26 (by decide) (pc' := 56) (pc2 := 29) (by decide) rfl (fun hc26 => ?_) (fun q => absurd q (by decide))
    refine k_aloadN K41 d_prog_87_method_9_code_56 (pc' := 57) rfl rfl rfl ?_
    refine k_iload K41 d_prog_87_method_9_code_57 (pc' := 59) rfl rfl ?_
    refine k_interfaceP K41 [(.int (0 : Int32))] [] 0 (w85 hw) (w86 hw) (mvT K41.hZ (w87 hw)) (w88 hw) (w89 hw) (w90 hw) (w91 hw) (w78 hw) (w8 hw) (w92 hw) rfl (by decide) S.1 (by decide) pd__I_C_577 (c_charAtL l Z a0 hw hEW n0 a e ke (1 : Int32) [c0] (0 : Int32) 0 ff cs0 h0 K41.old SF hff S hn hb hc rfl (by simp) SC hcs) d_prog_87_method_9_code_59 nofun (pc' := 64) rfl rfl rfl rfl (Nat.le_of_eq rfl) (by decide) (by decide) (by decide) (by decide) ?_
    intro b42 T42 L42 K42 tr42
    show Goes p_.tables e_ below_ _ (T42.setTop (mkF m_ 64 #[.val (.ref ix), .val (.ref a), .val (.int (1 : Int32)), .val (.long (((1 : Int32).toInt64) + (1 : Int64))), .second, .val (.int (0 : Int32)), .unset, .unset] [(.int c0)]))
    refine k_i2l K42 d_prog_87_method_9_code_64 (pc' := 65) rfl ?_
    show Goes p_.tables e_ below_ _ (T42.setTop (mkF m_ 65 #[.val (.ref ix), .val (.ref a), .val (.int (1 : Int32)), .val (.long (((1 : Int32).toInt64) + (1 : Int64))), .second, .val (.int (0 : Int32)), .unset, .unset] [(.long (c0.toInt64))]))
    refine k_lstore K42 d_prog_87_method_9_code_65 (pc' := 67) (L' := #[.val (.ref ix), .val (.ref a), .val (.int (1 : Int32)), .val (.long (((1 : Int32).toInt64) + (1 : Int64))), .second, .val (.int (0 : Int32)), .val (.long (c0.toInt64)), .second]) rfl rfl ?_
    refine k_lloadN K42 d_prog_87_method_9_code_67 (pc' := 68) rfl rfl ?_
    refine k_aloadN K42 d_prog_87_method_9_code_68 (pc' := 69) rfl rfl rfl ?_
    refine k_getF K42 (w60 hw) Via.refl F_base d_prog_87_method_9_code_69 (pc' := 72) rfl ?_
    intro T43 K43
    refine k_staticP K43 [(.long (((1 : Int32).toInt64) + (1 : Int64))), (.long base)] [] 0 (w110 hw) (w111 hw) (w41 hw) (w112 hw) (by decide) pd__JJ_J_944 (c_pm l Z a0 hw hEW n0 ((1 : Int32).toInt64 + (1 : Int64)) base h0 K43.old ) d_prog_87_method_9_code_72 nofun (pc' := 75) rfl rfl rfl rfl (Nat.le_of_eq rfl) (by decide) (by decide) (by decide) (by decide) ?_
    intro b44 T44 L44 K44 tr44
    show Goes p_.tables e_ below_ _ (T44.setTop (mkF m_ 75 #[.val (.ref ix), .val (.ref a), .val (.int (1 : Int32)), .val (.long (((1 : Int32).toInt64) + (1 : Int64))), .second, .val (.int (0 : Int32)), .val (.long (c0.toInt64)), .second] [(.long (pmF ((1 : Int32).toInt64 + (1 : Int64)) base))]))
    refine k_lload K44 d_prog_87_method_9_code_75 (pc' := 77) rfl rfl ?_
    refine k_ladd K44 d_prog_87_method_9_code_77 (pc' := 78) rfl ?_
    refine k_lstoreN K44 d_prog_87_method_9_code_78 (pc' := 79) (L' := #[.val (.ref ix), .val (.ref a), .val (.int (1 : Int32)), .val (.long ((pmF ((1 : Int32).toInt64 + (1 : Int64)) base) + (c0.toInt64))), .second, .val (.int (0 : Int32)), .val (.long (c0.toInt64)), .second]) rfl rfl ?_
    have JH1_0 : ∀ (v3 : Int64) (hv : v3 = (hsF ((1 : Int32).toInt64 + (1 : Int64)) base (c0.toInt64))) (b45 T45 : State) (L45 : List Loc), Wk p_ l e_ ({ frames := 4, cells := 0, slots := 0, locals := 55 } : Room) s_ m_ #[(.ref ix), (.ref a)] below_ meth_ c_ Z a0 EL0 n0 (⟨"com/example/tallyard/tallyard/scenario/formats/TextIndex", "hashOf", "(Ljava/lang/CharSequence;)I"⟩ : MethodName) prog_87_method_9_code 8 (some .int) b45 T45 h0 L45 0 0 → Goes p_.tables e_ below_ (FinW Z EL0 s_ n0 ({ frames := 4, cells := 0, slots := 0, locals := 55 } : Room) (Pu (some (.int (hashC base [c0]))) h0)) (T45.setTop (mkF m_ 93 #[.val (.ref ix), .val (.ref a), .val (.int (1 : Int32)), .val (.long v3), .second, .val (.int (0 : Int32)), .val (.long (c0.toInt64)), .second] [])) := by
      intro v3 hv b45 T45 L45 K45
      subst hv
      refine k_iinc K45 (2 : Int32) d_prog_87_method_9_code_93 (pc' := 96) (L' := #[.val (.ref ix), .val (.ref a), .val (.int (1 : Int32)), .val (.long (hsF ((1 : Int32).toInt64 + (1 : Int64)) base (c0.toInt64))), .second, .val (.int ((0 : Int32) + (2 : Int32))), .val (.long (c0.toInt64)), .second]) rfl rfl rfl rfl ?_
      rw [show ((0 : Int32) + (2 : Int32)) = (2 : Int32) by decide]
      refine k_goto K45 d_prog_87_method_9_code_96 (by decide) (pc' := 15) (by decide) ?_
      refine k_iload K45 d_prog_87_method_9_code_15 (pc' := 17) rfl rfl ?_
      refine k_iloadN K45 d_prog_87_method_9_code_17 (pc' := 18) rfl rfl ?_
      refine k_icmp_ge K45 d_prog_87_method_9_code_18 (by decide) (pc' := 99) (pc2 := 21) (by decide) rfl (fun hc18 => ?_) (fun q => absurd q (by decide))
      refine k_lloadN K45 d_prog_87_method_9_code_99 (pc' := 100) rfl rfl ?_
      refine k_l2i K45 d_prog_87_method_9_code_100 (pc' := 101) rfl ?_
      exact k_iret K45 d_prog_87_method_9_code_101 rfl (fun sf ht => ⟨rfl, rfl⟩) (by decide) (by decide)
    refine k_lloadN K44 d_prog_87_method_9_code_79 (pc' := 80) rfl rfl ?_
    refine k_ldcJ K44 (w118 hw) d_prog_87_method_9_code_80 (pc' := 83) rfl ?_
    refine k_lcmp K44 d_prog_87_method_9_code_83 (pc' := 84) rfl ?_
    refine k_lif_lt K44 d_prog_87_method_9_code_84 (by decide) (pc' := 93) (pc2 := 87) (by decide) rfl (fun hc84 => ?_) (fun hc84 => ?_)
    · skip
      exact JH1_0 _ (if_pos hc84).symm _ _ _ K44
    · refine k_lloadN K44 d_prog_87_method_9_code_87 (pc' := 88) rfl rfl ?_
      refine k_ldcJ K44 (w118 hw) d_prog_87_method_9_code_88 (pc' := 91) rfl ?_
      refine k_lsub K44 d_prog_87_method_9_code_91 (pc' := 92) rfl ?_
      refine k_lstoreN K44 d_prog_87_method_9_code_92 (pc' := 93) (L' := #[.val (.ref ix), .val (.ref a), .val (.int (1 : Int32)), .val (.long (((pmF ((1 : Int32).toInt64 + (1 : Int64)) base) + (c0.toInt64)) - (2305843009213693951 : Int64))), .second, .val (.int (0 : Int32)), .val (.long (c0.toInt64)), .second]) rfl rfl ?_
      exact JH1_0 _ (if_neg hc84).symm _ _ _ K44
  · obtain rfl : n = 2 := own_i32e (by rw [hn]; rfl)
    refine k_aloadN K d_prog_87_method_9_code_0 (pc' := 1) rfl rfl rfl ?_
    refine k_interfaceP K [] [] 0 (w71 hw) (w72 hw) (mvT K.hZ (w73 hw)) (w74 hw) (w75 hw) (w76 hw) (w77 hw) (w78 hw) (w8 hw) (w79 hw) rfl (by decide) S.1 (by decide) pd___I_341 (c_length l Z a0 hw hEW n0 a e ke 0 (2 : Int32) _ cs0 h0 K.old S (Or.inl rfl) SC hcs) d_prog_87_method_9_code_1 nofun (pc' := 6) rfl rfl rfl rfl (Nat.le_of_eq rfl) (by decide) (by decide) (by decide) (by decide) ?_
    intro b46 T46 L46 K46 tr46
    show Goes p_.tables e_ below_ _ (T46.setTop (mkF m_ 6 #[.val (.ref ix), .val (.ref a), .unset, .unset, .unset, .unset, .unset, .unset] [(.int ((2 : Int32) >>> ((0 : Int32) &&& 31)))]))
    rw [own_shr0]
    refine k_istoreN K46 d_prog_87_method_9_code_6 (pc' := 7) (L' := #[.val (.ref ix), .val (.ref a), .val (.int (2 : Int32)), .unset, .unset, .unset, .unset, .unset]) rfl rfl ?_
    refine k_iloadN K46 d_prog_87_method_9_code_7 (pc' := 8) rfl rfl ?_
    refine k_i2l K46 d_prog_87_method_9_code_8 (pc' := 9) rfl ?_
    refine k_lconst K46 (1 : Int64) d_prog_87_method_9_code_9 (pc' := 10) rfl rfl ?_
    refine k_ladd K46 d_prog_87_method_9_code_10 (pc' := 11) rfl ?_
    refine k_lstoreN K46 d_prog_87_method_9_code_11 (pc' := 12) (L' := #[.val (.ref ix), .val (.ref a), .val (.int (2 : Int32)), .val (.long (((2 : Int32).toInt64) + (1 : Int64))), .second, .unset, .unset, .unset]) rfl rfl ?_
    refine k_iconst K46 (0 : Int32) d_prog_87_method_9_code_12 (pc' := 13) rfl rfl ?_
    refine k_istore K46 d_prog_87_method_9_code_13 (pc' := 15) (L' := #[.val (.ref ix), .val (.ref a), .val (.int (2 : Int32)), .val (.long (((2 : Int32).toInt64) + (1 : Int64))), .second, .val (.int (0 : Int32)), .unset, .unset]) rfl rfl ?_
    refine k_iload K46 d_prog_87_method_9_code_15 (pc' := 17) rfl rfl ?_
    refine k_iloadN K46 d_prog_87_method_9_code_17 (pc' := 18) rfl rfl ?_
    refine k_icmp_ge K46 d_prog_87_method_9_code_18 (by decide) (pc' := 99) (pc2 := 21) (by decide) rfl (fun q => absurd (by decide) q) (fun hc18 => ?_)
    refine k_iload K46 d_prog_87_method_9_code_21 (pc' := 23) rfl rfl ?_
    refine k_iconst K46 (1 : Int32) d_prog_87_method_9_code_23 (pc' := 24) rfl rfl ?_
    refine k_iadd K46 d_prog_87_method_9_code_24 (pc' := 25) rfl ?_
    rw [show ((0 : Int32) + (1 : Int32)) = (1 : Int32) by decide]
    refine k_iloadN K46 d_prog_87_method_9_code_25 (pc' := 26) rfl rfl ?_
    refine k_icmp_ge K46 d_prog_87_method_9_code_26 (by decide) (pc' := 56) (pc2 := 29) (by decide) rfl (fun q => absurd (by decide) q) (fun hc26 => ?_)
    refine k_aloadN K46 d_prog_87_method_9_code_29 (pc' := 30) rfl rfl rfl ?_
    refine k_iload K46 d_prog_87_method_9_code_30 (pc' := 32) rfl rfl ?_
    refine k_interfaceP K46 [(.int (0 : Int32))] [] 0 (w85 hw) (w86 hw) (mvT K46.hZ (w87 hw)) (w88 hw) (w89 hw) (w90 hw) (w91 hw) (w78 hw) (w8 hw) (w92 hw) rfl (by decide) S.1 (by decide) pd__I_C_577 (c_charAtL l Z a0 hw hEW n0 a e ke (2 : Int32) [c0, c1] (0 : Int32) 0 ff cs0 h0 K46.old SF hff S hn hb hc rfl (by simp) SC hcs) d_prog_87_method_9_code_32 nofun (pc' := 37) rfl rfl rfl rfl (Nat.le_of_eq rfl) (by decide) (by decide) (by decide) (by decide) ?_
    intro b47 T47 L47 K47 tr47
    show Goes p_.tables e_ below_ _ (T47.setTop (mkF m_ 37 #[.val (.ref ix), .val (.ref a), .val (.int (2 : Int32)), .val (.long (((2 : Int32).toInt64) + (1 : Int64))), .second, .val (.int (0 : Int32)), .unset, .unset] [(.int c0)]))
    refine k_i2l K47 d_prog_87_method_9_code_37 (pc' := 38) rfl ?_
    refine k_bipush K47 (16 : Int32) d_prog_87_method_9_code_38 (pc' := 40) rfl rfl ?_
    refine k_lshl K47 d_prog_87_method_9_code_40 (pc' := 41) rfl ?_
    refine k_aloadN K47 d_prog_87_method_9_code_41 (pc' := 42) rfl rfl rfl ?_
    refine k_iload K47 d_prog_87_method_9_code_42 (pc' := 44) rfl rfl ?_
    refine k_iconst K47 (1 : Int32) d_prog_87_method_9_code_44 (pc' := 45) rfl rfl ?_
    refine k_iadd K47 d_prog_87_method_9_code_45 (pc' := 46) rfl ?_
    rw [show ((0 : Int32) + (1 : Int32)) = (1 : Int32) by decide]
    refine k_interfaceP K47 [(.int (1 : Int32))] [(.long ((c0.toInt64) <<< ((16 : Int32).toInt64 &&& 63)))] 2 (w85 hw) (w86 hw) (mvT K47.hZ (w87 hw)) (w88 hw) (w89 hw) (w90 hw) (w91 hw) (w78 hw) (w8 hw) (w92 hw) rfl (by decide) S.1 (by decide) pd__I_C_577 (c_charAtL l Z a0 hw hEW n0 a e ke (2 : Int32) [c0, c1] (1 : Int32) 1 ff cs0 h0 K47.old SF hff S hn hb hc rfl (by simp) SC hcs) d_prog_87_method_9_code_46 nofun (pc' := 51) rfl rfl rfl rfl (Nat.le_of_eq rfl) (by decide) (by decide) (by decide) (by decide) ?_
    intro b48 T48 L48 K48 tr48
    show Goes p_.tables e_ below_ _ (T48.setTop (mkF m_ 51 #[.val (.ref ix), .val (.ref a), .val (.int (2 : Int32)), .val (.long (((2 : Int32).toInt64) + (1 : Int64))), .second, .val (.int (0 : Int32)), .unset, .unset] [(.int c1), (.long ((c0.toInt64) <<< ((16 : Int32).toInt64 &&& 63)))]))
    refine k_i2l K48 d_prog_87_method_9_code_51 (pc' := 52) rfl ?_
    refine k_lor K48 d_prog_87_method_9_code_52 (pc' := 53) rfl ?_
    refine k_goto K48 d_prog_87_method_9_code_53 (by decide) (pc' := 65) (by decide) ?_
    show Goes p_.tables e_ below_ _ (T48.setTop (mkF m_ 65 #[.val (.ref ix), .val (.ref a), .val (.int (2 : Int32)), .val (.long (((2 : Int32).toInt64) + (1 : Int64))), .second, .val (.int (0 : Int32)), .unset, .unset] [(.long (prF c0 c1))]))
    refine k_lstore K48 d_prog_87_method_9_code_65 (pc' := 67) (L' := #[.val (.ref ix), .val (.ref a), .val (.int (2 : Int32)), .val (.long (((2 : Int32).toInt64) + (1 : Int64))), .second, .val (.int (0 : Int32)), .val (.long (prF c0 c1)), .second]) rfl rfl ?_
    refine k_lloadN K48 d_prog_87_method_9_code_67 (pc' := 68) rfl rfl ?_
    refine k_aloadN K48 d_prog_87_method_9_code_68 (pc' := 69) rfl rfl rfl ?_
    refine k_getF K48 (w60 hw) Via.refl F_base d_prog_87_method_9_code_69 (pc' := 72) rfl ?_
    intro T49 K49
    refine k_staticP K49 [(.long (((2 : Int32).toInt64) + (1 : Int64))), (.long base)] [] 0 (w110 hw) (w111 hw) (w41 hw) (w112 hw) (by decide) pd__JJ_J_944 (c_pm l Z a0 hw hEW n0 ((2 : Int32).toInt64 + (1 : Int64)) base h0 K49.old ) d_prog_87_method_9_code_72 nofun (pc' := 75) rfl rfl rfl rfl (Nat.le_of_eq rfl) (by decide) (by decide) (by decide) (by decide) ?_
    intro b50 T50 L50 K50 tr50
    show Goes p_.tables e_ below_ _ (T50.setTop (mkF m_ 75 #[.val (.ref ix), .val (.ref a), .val (.int (2 : Int32)), .val (.long (((2 : Int32).toInt64) + (1 : Int64))), .second, .val (.int (0 : Int32)), .val (.long (prF c0 c1)), .second] [(.long (pmF ((2 : Int32).toInt64 + (1 : Int64)) base))]))
    refine k_lload K50 d_prog_87_method_9_code_75 (pc' := 77) rfl rfl ?_
    refine k_ladd K50 d_prog_87_method_9_code_77 (pc' := 78) rfl ?_
    refine k_lstoreN K50 d_prog_87_method_9_code_78 (pc' := 79) (L' := #[.val (.ref ix), .val (.ref a), .val (.int (2 : Int32)), .val (.long ((pmF ((2 : Int32).toInt64 + (1 : Int64)) base) + (prF c0 c1))), .second, .val (.int (0 : Int32)), .val (.long (prF c0 c1)), .second]) rfl rfl ?_
    have JH2_0 : ∀ (v3 : Int64) (hv : v3 = (hsF ((2 : Int32).toInt64 + (1 : Int64)) base (prF c0 c1))) (b51 T51 : State) (L51 : List Loc), Wk p_ l e_ ({ frames := 4, cells := 0, slots := 0, locals := 55 } : Room) s_ m_ #[(.ref ix), (.ref a)] below_ meth_ c_ Z a0 EL0 n0 (⟨"com/example/tallyard/tallyard/scenario/formats/TextIndex", "hashOf", "(Ljava/lang/CharSequence;)I"⟩ : MethodName) prog_87_method_9_code 8 (some .int) b51 T51 h0 L51 0 0 → Goes p_.tables e_ below_ (FinW Z EL0 s_ n0 ({ frames := 4, cells := 0, slots := 0, locals := 55 } : Room) (Pu (some (.int (hashC base [c0, c1]))) h0)) (T51.setTop (mkF m_ 93 #[.val (.ref ix), .val (.ref a), .val (.int (2 : Int32)), .val (.long v3), .second, .val (.int (0 : Int32)), .val (.long (prF c0 c1)), .second] [])) := by
      intro v3 hv b51 T51 L51 K51
      subst hv
      refine k_iinc K51 (2 : Int32) d_prog_87_method_9_code_93 (pc' := 96) (L' := #[.val (.ref ix), .val (.ref a), .val (.int (2 : Int32)), .val (.long (hsF ((2 : Int32).toInt64 + (1 : Int64)) base (prF c0 c1))), .second, .val (.int ((0 : Int32) + (2 : Int32))), .val (.long (prF c0 c1)), .second]) rfl rfl rfl rfl ?_
      rw [show ((0 : Int32) + (2 : Int32)) = (2 : Int32) by decide]
      refine k_goto K51 d_prog_87_method_9_code_96 (by decide) (pc' := 15) (by decide) ?_
      refine k_iload K51 d_prog_87_method_9_code_15 (pc' := 17) rfl rfl ?_
      refine k_iloadN K51 d_prog_87_method_9_code_17 (pc' := 18) rfl rfl ?_
      refine k_icmp_ge K51 d_prog_87_method_9_code_18 (by decide) (pc' := 99) (pc2 := 21) (by decide) rfl (fun hc18 => ?_) (fun q => absurd q (by decide))
      refine k_lloadN K51 d_prog_87_method_9_code_99 (pc' := 100) rfl rfl ?_
      refine k_l2i K51 d_prog_87_method_9_code_100 (pc' := 101) rfl ?_
      exact k_iret K51 d_prog_87_method_9_code_101 rfl (fun sf ht => ⟨rfl, rfl⟩) (by decide) (by decide)
    refine k_lloadN K50 d_prog_87_method_9_code_79 (pc' := 80) rfl rfl ?_
    refine k_ldcJ K50 (w118 hw) d_prog_87_method_9_code_80 (pc' := 83) rfl ?_
    refine k_lcmp K50 d_prog_87_method_9_code_83 (pc' := 84) rfl ?_
    refine k_lif_lt K50 d_prog_87_method_9_code_84 (by decide) (pc' := 93) (pc2 := 87) (by decide) rfl (fun hc84 => ?_) (fun hc84 => ?_)
    · skip
      exact JH2_0 _ (if_pos hc84).symm _ _ _ K50
    · refine k_lloadN K50 d_prog_87_method_9_code_87 (pc' := 88) rfl rfl ?_
      refine k_ldcJ K50 (w118 hw) d_prog_87_method_9_code_88 (pc' := 91) rfl ?_
      refine k_lsub K50 d_prog_87_method_9_code_91 (pc' := 92) rfl ?_
      refine k_lstoreN K50 d_prog_87_method_9_code_92 (pc' := 93) (L' := #[.val (.ref ix), .val (.ref a), .val (.int (2 : Int32)), .val (.long (((pmF ((2 : Int32).toInt64 + (1 : Int64)) base) + (prF c0 c1)) - (2305843009213693951 : Int64))), .second, .val (.int (0 : Int32)), .val (.long (prF c0 c1)), .second]) rfl rfl ?_
      exact JH2_0 _ (if_neg hc84).symm _ _ _ K50
  · obtain rfl : n = 3 := own_i32e (by rw [hn]; rfl)
    refine k_aloadN K d_prog_87_method_9_code_0 (pc' := 1) rfl rfl rfl ?_
    refine k_interfaceP K [] [] 0 (w71 hw) (w72 hw) (mvT K.hZ (w73 hw)) (w74 hw) (w75 hw) (w76 hw) (w77 hw) (w78 hw) (w8 hw) (w79 hw) rfl (by decide) S.1 (by decide) pd___I_341 (c_length l Z a0 hw hEW n0 a e ke 0 (3 : Int32) _ cs0 h0 K.old S (Or.inl rfl) SC hcs) d_prog_87_method_9_code_1 nofun (pc' := 6) rfl rfl rfl rfl (Nat.le_of_eq rfl) (by decide) (by decide) (by decide) (by decide) ?_
    intro b52 T52 L52 K52 tr52
    show Goes p_.tables e_ below_ _ (T52.setTop (mkF m_ 6 #[.val (.ref ix), .val (.ref a), .unset, .unset, .unset, .unset, .unset, .unset] [(.int ((3 : Int32) >>> ((0 : Int32) &&& 31)))]))
    rw [own_shr0]
    refine k_istoreN K52 d_prog_87_method_9_code_6 (pc' := 7) (L' := #[.val (.ref ix), .val (.ref a), .val (.int (3 : Int32)), .unset, .unset, .unset, .unset, .unset]) rfl rfl ?_
    refine k_iloadN K52 d_prog_87_method_9_code_7 (pc' := 8) rfl rfl ?_
    refine k_i2l K52 d_prog_87_method_9_code_8 (pc' := 9) rfl ?_
    refine k_lconst K52 (1 : Int64) d_prog_87_method_9_code_9 (pc' := 10) rfl rfl ?_
    refine k_ladd K52 d_prog_87_method_9_code_10 (pc' := 11) rfl ?_
    refine k_lstoreN K52 d_prog_87_method_9_code_11 (pc' := 12) (L' := #[.val (.ref ix), .val (.ref a), .val (.int (3 : Int32)), .val (.long (((3 : Int32).toInt64) + (1 : Int64))), .second, .unset, .unset, .unset]) rfl rfl ?_
    refine k_iconst K52 (0 : Int32) d_prog_87_method_9_code_12 (pc' := 13) rfl rfl ?_
    refine k_istore K52 d_prog_87_method_9_code_13 (pc' := 15) (L' := #[.val (.ref ix), .val (.ref a), .val (.int (3 : Int32)), .val (.long (((3 : Int32).toInt64) + (1 : Int64))), .second, .val (.int (0 : Int32)), .unset, .unset]) rfl rfl ?_
    refine k_iload K52 d_prog_87_method_9_code_15 (pc' := 17) rfl rfl ?_
    refine k_iloadN K52 d_prog_87_method_9_code_17 (pc' := 18) rfl rfl ?_
    refine k_icmp_ge K52 d_prog_87_method_9_code_18 (by decide) (pc' := 99) (pc2 := 21) (by decide) rfl (fun q => absurd (by decide) q) (fun hc18 => ?_)
    refine k_iload K52 d_prog_87_method_9_code_21 (pc' := 23) rfl rfl ?_
    refine k_iconst K52 (1 : Int32) d_prog_87_method_9_code_23 (pc' := 24) rfl rfl ?_
    refine k_iadd K52 d_prog_87_method_9_code_24 (pc' := 25) rfl ?_
    rw [show ((0 : Int32) + (1 : Int32)) = (1 : Int32) by decide]
    refine k_iloadN K52 d_prog_87_method_9_code_25 (pc' := 26) rfl rfl ?_
    refine k_icmp_ge K52 d_prog_87_method_9_code_26 (by decide) (pc' := 56) (pc2 := 29) (by decide) rfl (fun q => absurd (by decide) q) (fun hc26 => ?_)
    refine k_aloadN K52 d_prog_87_method_9_code_29 (pc' := 30) rfl rfl rfl ?_
    refine k_iload K52 d_prog_87_method_9_code_30 (pc' := 32) rfl rfl ?_
    refine k_interfaceP K52 [(.int (0 : Int32))] [] 0 (w85 hw) (w86 hw) (mvT K52.hZ (w87 hw)) (w88 hw) (w89 hw) (w90 hw) (w91 hw) (w78 hw) (w8 hw) (w92 hw) rfl (by decide) S.1 (by decide) pd__I_C_577 (c_charAtL l Z a0 hw hEW n0 a e ke (3 : Int32) [c0, c1, c2] (0 : Int32) 0 ff cs0 h0 K52.old SF hff S hn hb hc rfl (by simp) SC hcs) d_prog_87_method_9_code_32 nofun (pc' := 37) rfl rfl rfl rfl (Nat.le_of_eq rfl) (by decide) (by decide) (by decide) (by decide) ?_
    intro b53 T53 L53 K53 tr53
    show Goes p_.tables e_ below_ _ (T53.setTop (mkF m_ 37 #[.val (.ref ix), .val (.ref a), .val (.int (3 : Int32)), .val (.long (((3 : Int32).toInt64) + (1 : Int64))), .second, .val (.int (0 : Int32)), .unset, .unset] [(.int c0)]))
    refine k_i2l K53 d_prog_87_method_9_code_37 (pc' := 38) rfl ?_
    refine k_bipush K53 (16 : Int32) d_prog_87_method_9_code_38 (pc' := 40) rfl rfl ?_
    refine k_lshl K53 d_prog_87_method_9_code_40 (pc' := 41) rfl ?_
    refine k_aloadN K53 d_prog_87_method_9_code_41 (pc' := 42) rfl rfl rfl ?_
    refine k_iload K53 d_prog_87_method_9_code_42 (pc' := 44) rfl rfl ?_
    refine k_iconst K53 (1 : Int32) d_prog_87_method_9_code_44 (pc' := 45) rfl rfl ?_
    refine k_iadd K53 d_prog_87_method_9_code_45 (pc' := 46) rfl ?_
    rw [show ((0 : Int32) + (1 : Int32)) = (1 : Int32) by decide]
    refine k_interfaceP K53 [(.int (1 : Int32))] [(.long ((c0.toInt64) <<< ((16 : Int32).toInt64 &&& 63)))] 2 (w85 hw) (w86 hw) (mvT K53.hZ (w87 hw)) (w88 hw) (w89 hw) (w90 hw) (w91 hw) (w78 hw) (w8 hw) (w92 hw) rfl (by decide) S.1 (by decide) pd__I_C_577 (c_charAtL l Z a0 hw hEW n0 a e ke (3 : Int32) [c0, c1, c2] (1 : Int32) 1 ff cs0 h0 K53.old SF hff S hn hb hc rfl (by simp) SC hcs) d_prog_87_method_9_code_46 nofun (pc' := 51) rfl rfl rfl rfl (Nat.le_of_eq rfl) (by decide) (by decide) (by decide) (by decide) ?_
    intro b54 T54 L54 K54 tr54
    show Goes p_.tables e_ below_ _ (T54.setTop (mkF m_ 51 #[.val (.ref ix), .val (.ref a), .val (.int (3 : Int32)), .val (.long (((3 : Int32).toInt64) + (1 : Int64))), .second, .val (.int (0 : Int32)), .unset, .unset] [(.int c1), (.long ((c0.toInt64) <<< ((16 : Int32).toInt64 &&& 63)))]))
    refine k_i2l K54 d_prog_87_method_9_code_51 (pc' := 52) rfl ?_
    refine k_lor K54 d_prog_87_method_9_code_52 (pc' := 53) rfl ?_
    refine k_goto K54 d_prog_87_method_9_code_53 (by decide) (pc' := 65) (by decide) ?_
    show Goes p_.tables e_ below_ _ (T54.setTop (mkF m_ 65 #[.val (.ref ix), .val (.ref a), .val (.int (3 : Int32)), .val (.long (((3 : Int32).toInt64) + (1 : Int64))), .second, .val (.int (0 : Int32)), .unset, .unset] [(.long (prF c0 c1))]))
    refine k_lstore K54 d_prog_87_method_9_code_65 (pc' := 67) (L' := #[.val (.ref ix), .val (.ref a), .val (.int (3 : Int32)), .val (.long (((3 : Int32).toInt64) + (1 : Int64))), .second, .val (.int (0 : Int32)), .val (.long (prF c0 c1)), .second]) rfl rfl ?_
    refine k_lloadN K54 d_prog_87_method_9_code_67 (pc' := 68) rfl rfl ?_
    refine k_aloadN K54 d_prog_87_method_9_code_68 (pc' := 69) rfl rfl rfl ?_
    refine k_getF K54 (w60 hw) Via.refl F_base d_prog_87_method_9_code_69 (pc' := 72) rfl ?_
    intro T55 K55
    refine k_staticP K55 [(.long (((3 : Int32).toInt64) + (1 : Int64))), (.long base)] [] 0 (w110 hw) (w111 hw) (w41 hw) (w112 hw) (by decide) pd__JJ_J_944 (c_pm l Z a0 hw hEW n0 ((3 : Int32).toInt64 + (1 : Int64)) base h0 K55.old ) d_prog_87_method_9_code_72 nofun (pc' := 75) rfl rfl rfl rfl (Nat.le_of_eq rfl) (by decide) (by decide) (by decide) (by decide) ?_
    intro b56 T56 L56 K56 tr56
    show Goes p_.tables e_ below_ _ (T56.setTop (mkF m_ 75 #[.val (.ref ix), .val (.ref a), .val (.int (3 : Int32)), .val (.long (((3 : Int32).toInt64) + (1 : Int64))), .second, .val (.int (0 : Int32)), .val (.long (prF c0 c1)), .second] [(.long (pmF ((3 : Int32).toInt64 + (1 : Int64)) base))]))
    refine k_lload K56 d_prog_87_method_9_code_75 (pc' := 77) rfl rfl ?_
    refine k_ladd K56 d_prog_87_method_9_code_77 (pc' := 78) rfl ?_
    refine k_lstoreN K56 d_prog_87_method_9_code_78 (pc' := 79) (L' := #[.val (.ref ix), .val (.ref a), .val (.int (3 : Int32)), .val (.long ((pmF ((3 : Int32).toInt64 + (1 : Int64)) base) + (prF c0 c1))), .second, .val (.int (0 : Int32)), .val (.long (prF c0 c1)), .second]) rfl rfl ?_
    have JH3_0 : ∀ (v3 : Int64) (hv : v3 = (hsF ((3 : Int32).toInt64 + (1 : Int64)) base (prF c0 c1))) (b57 T57 : State) (L57 : List Loc), Wk p_ l e_ ({ frames := 4, cells := 0, slots := 0, locals := 55 } : Room) s_ m_ #[(.ref ix), (.ref a)] below_ meth_ c_ Z a0 EL0 n0 (⟨"com/example/tallyard/tallyard/scenario/formats/TextIndex", "hashOf", "(Ljava/lang/CharSequence;)I"⟩ : MethodName) prog_87_method_9_code 8 (some .int) b57 T57 h0 L57 0 0 → Goes p_.tables e_ below_ (FinW Z EL0 s_ n0 ({ frames := 4, cells := 0, slots := 0, locals := 55 } : Room) (Pu (some (.int (hashC base [c0, c1, c2]))) h0)) (T57.setTop (mkF m_ 93 #[.val (.ref ix), .val (.ref a), .val (.int (3 : Int32)), .val (.long v3), .second, .val (.int (0 : Int32)), .val (.long (prF c0 c1)), .second] [])) := by
      intro v3 hv b57 T57 L57 K57
      subst hv
      refine k_iinc K57 (2 : Int32) d_prog_87_method_9_code_93 (pc' := 96) (L' := #[.val (.ref ix), .val (.ref a), .val (.int (3 : Int32)), .val (.long (hsF ((3 : Int32).toInt64 + (1 : Int64)) base (prF c0 c1))), .second, .val (.int ((0 : Int32) + (2 : Int32))), .val (.long (prF c0 c1)), .second]) rfl rfl rfl rfl ?_
      rw [show ((0 : Int32) + (2 : Int32)) = (2 : Int32) by decide]
      refine k_goto K57 d_prog_87_method_9_code_96 (by decide) (pc' := 15) (by decide) ?_
      refine k_iload K57 d_prog_87_method_9_code_15 (pc' := 17) rfl rfl ?_
      refine k_iloadN K57 d_prog_87_method_9_code_17 (pc' := 18) rfl rfl ?_
      refine k_icmp_ge K57 d_prog_87_method_9_code_18 (by decide) (pc' := 99) (pc2 := 21) (by decide) rfl (fun q => absurd (by decide) q) (fun hc18 => ?_)
      refine k_iload K57 d_prog_87_method_9_code_21 (pc' := 23) rfl rfl ?_
      refine k_iconst K57 (1 : Int32) d_prog_87_method_9_code_23 (pc' := 24) rfl rfl ?_
      refine k_iadd K57 d_prog_87_method_9_code_24 (pc' := 25) rfl ?_
      rw [show ((2 : Int32) + (1 : Int32)) = (3 : Int32) by decide]
      refine k_iloadN K57 d_prog_87_method_9_code_25 (pc' := 26) rfl rfl ?_
      refine k_icmp_ge K57 d_prog_87_method_9_code_26 (by decide) (pc' := 56) (pc2 := 29) (by decide) rfl (fun hc26 => ?_) (fun q => absurd q (by decide))
      refine k_aloadN K57 d_prog_87_method_9_code_56 (pc' := 57) rfl rfl rfl ?_
      refine k_iload K57 d_prog_87_method_9_code_57 (pc' := 59) rfl rfl ?_
      refine k_interfaceP K57 [(.int (2 : Int32))] [] 0 (w85 hw) (w86 hw) (mvT K57.hZ (w87 hw)) (w88 hw) (w89 hw) (w90 hw) (w91 hw) (w78 hw) (w8 hw) (w92 hw) rfl (by decide) S.1 (by decide) pd__I_C_577 (c_charAtL l Z a0 hw hEW n0 a e ke (3 : Int32) [c0, c1, c2] (2 : Int32) 2 ff cs0 h0 K57.old SF hff S hn hb hc rfl (by simp) SC hcs) d_prog_87_method_9_code_59 nofun (pc' := 64) rfl rfl rfl rfl (Nat.le_of_eq rfl) (by decide) (by decide) (by decide) (by decide) ?_
      intro b58 T58 L58 K58 tr58
      show Goes p_.tables e_ below_ _ (T58.setTop (mkF m_ 64 #[.val (.ref ix), .val (.ref a), .val (.int (3 : Int32)), .val (.long (hsF ((3 : Int32).toInt64 + (1 : Int64)) base (prF c0 c1))), .second, .val (.int (2 : Int32)), .val (.long (prF c0 c1)), .second] [(.int c2)]))
      refine k_i2l K58 d_prog_87_method_9_code_64 (pc' := 65) rfl ?_
      show Goes p_.tables e_ below_ _ (T58.setTop (mkF m_ 65 #[.val (.ref ix), .val (.ref a), .val (.int (3 : Int32)), .val (.long (hsF ((3 : Int32).toInt64 + (1 : Int64)) base (prF c0 c1))), .second, .val (.int (2 : Int32)), .val (.long (prF c0 c1)), .second] [(.long (c2.toInt64))]))
      refine k_lstore K58 d_prog_87_method_9_code_65 (pc' := 67) (L' := #[.val (.ref ix), .val (.ref a), .val (.int (3 : Int32)), .val (.long (hsF ((3 : Int32).toInt64 + (1 : Int64)) base (prF c0 c1))), .second, .val (.int (2 : Int32)), .val (.long (c2.toInt64)), .second]) rfl rfl ?_
      refine k_lloadN K58 d_prog_87_method_9_code_67 (pc' := 68) rfl rfl ?_
      refine k_aloadN K58 d_prog_87_method_9_code_68 (pc' := 69) rfl rfl rfl ?_
      refine k_getF K58 (w60 hw) Via.refl F_base d_prog_87_method_9_code_69 (pc' := 72) rfl ?_
      intro T59 K59
      refine k_staticP K59 [(.long (hsF ((3 : Int32).toInt64 + (1 : Int64)) base (prF c0 c1))), (.long base)] [] 0 (w110 hw) (w111 hw) (w41 hw) (w112 hw) (by decide) pd__JJ_J_944 (c_pm l Z a0 hw hEW n0 (hsF ((3 : Int32).toInt64 + (1 : Int64)) base (prF c0 c1)) base h0 K59.old ) d_prog_87_method_9_code_72 nofun (pc' := 75) rfl rfl rfl rfl (Nat.le_of_eq rfl) (by decide) (by decide) (by decide) (by decide) ?_
      intro b60 T60 L60 K60 tr60
      show Goes p_.tables e_ below_ _ (T60.setTop (mkF m_ 75 #[.val (.ref ix), .val (.ref a), .val (.int (3 : Int32)), .val (.long (hsF ((3 : Int32).toInt64 + (1 : Int64)) base (prF c0 c1))), .second, .val (.int (2 : Int32)), .val (.long (c2.toInt64)), .second] [(.long (pmF (hsF ((3 : Int32).toInt64 + (1 : Int64)) base (prF c0 c1)) base))]))
      refine k_lload K60 d_prog_87_method_9_code_75 (pc' := 77) rfl rfl ?_
      refine k_ladd K60 d_prog_87_method_9_code_77 (pc' := 78) rfl ?_
      refine k_lstoreN K60 d_prog_87_method_9_code_78 (pc' := 79) (L' := #[.val (.ref ix), .val (.ref a), .val (.int (3 : Int32)), .val (.long ((pmF (hsF ((3 : Int32).toInt64 + (1 : Int64)) base (prF c0 c1)) base) + (c2.toInt64))), .second, .val (.int (2 : Int32)), .val (.long (c2.toInt64)), .second]) rfl rfl ?_
      have JH3_2 : ∀ (v3 : Int64) (hv : v3 = (hsF (hsF ((3 : Int32).toInt64 + (1 : Int64)) base (prF c0 c1)) base (c2.toInt64))) (b61 T61 : State) (L61 : List Loc), Wk p_ l e_ ({ frames := 4, cells := 0, slots := 0, locals := 55 } : Room) s_ m_ #[(.ref ix), (.ref a)] below_ meth_ c_ Z a0 EL0 n0 (⟨"com/example/tallyard/tallyard/scenario/formats/TextIndex", "hashOf", "(Ljava/lang/CharSequence;)I"⟩ : MethodName) prog_87_method_9_code 8 (some .int) b61 T61 h0 L61 0 0 → Goes p_.tables e_ below_ (FinW Z EL0 s_ n0 ({ frames := 4, cells := 0, slots := 0, locals := 55 } : Room) (Pu (some (.int (hashC base [c0, c1, c2]))) h0)) (T61.setTop (mkF m_ 93 #[.val (.ref ix), .val (.ref a), .val (.int (3 : Int32)), .val (.long v3), .second, .val (.int (2 : Int32)), .val (.long (c2.toInt64)), .second] [])) := by
        intro v3 hv b61 T61 L61 K61
        subst hv
        refine k_iinc K61 (2 : Int32) d_prog_87_method_9_code_93 (pc' := 96) (L' := #[.val (.ref ix), .val (.ref a), .val (.int (3 : Int32)), .val (.long (hsF (hsF ((3 : Int32).toInt64 + (1 : Int64)) base (prF c0 c1)) base (c2.toInt64))), .second, .val (.int ((2 : Int32) + (2 : Int32))), .val (.long (c2.toInt64)), .second]) rfl rfl rfl rfl ?_
        rw [show ((2 : Int32) + (2 : Int32)) = (4 : Int32) by decide]
        refine k_goto K61 d_prog_87_method_9_code_96 (by decide) (pc' := 15) (by decide) ?_
        refine k_iload K61 d_prog_87_method_9_code_15 (pc' := 17) rfl rfl ?_
        refine k_iloadN K61 d_prog_87_method_9_code_17 (pc' := 18) rfl rfl ?_
        refine k_icmp_ge K61 d_prog_87_method_9_code_18 (by decide) (pc' := 99) (pc2 := 21) (by decide) rfl (fun hc18 => ?_) (fun q => absurd q (by decide))
        refine k_lloadN K61 d_prog_87_method_9_code_99 (pc' := 100) rfl rfl ?_
        refine k_l2i K61 d_prog_87_method_9_code_100 (pc' := 101) rfl ?_
        exact k_iret K61 d_prog_87_method_9_code_101 rfl (fun sf ht => ⟨rfl, rfl⟩) (by decide) (by decide)
      refine k_lloadN K60 d_prog_87_method_9_code_79 (pc' := 80) rfl rfl ?_
      refine k_ldcJ K60 (w118 hw) d_prog_87_method_9_code_80 (pc' := 83) rfl ?_
      refine k_lcmp K60 d_prog_87_method_9_code_83 (pc' := 84) rfl ?_
      refine k_lif_lt K60 d_prog_87_method_9_code_84 (by decide) (pc' := 93) (pc2 := 87) (by decide) rfl (fun hc84 => ?_) (fun hc84 => ?_)
      · skip
        exact JH3_2 _ (if_pos hc84).symm _ _ _ K60
      · refine k_lloadN K60 d_prog_87_method_9_code_87 (pc' := 88) rfl rfl ?_
        refine k_ldcJ K60 (w118 hw) d_prog_87_method_9_code_88 (pc' := 91) rfl ?_
        refine k_lsub K60 d_prog_87_method_9_code_91 (pc' := 92) rfl ?_
        refine k_lstoreN K60 d_prog_87_method_9_code_92 (pc' := 93) (L' := #[.val (.ref ix), .val (.ref a), .val (.int (3 : Int32)), .val (.long (((pmF (hsF ((3 : Int32).toInt64 + (1 : Int64)) base (prF c0 c1)) base) + (c2.toInt64)) - (2305843009213693951 : Int64))), .second, .val (.int (2 : Int32)), .val (.long (c2.toInt64)), .second]) rfl rfl ?_
        exact JH3_2 _ (if_neg hc84).symm _ _ _ K60
    refine k_lloadN K56 d_prog_87_method_9_code_79 (pc' := 80) rfl rfl ?_
    refine k_ldcJ K56 (w118 hw) d_prog_87_method_9_code_80 (pc' := 83) rfl ?_
    refine k_lcmp K56 d_prog_87_method_9_code_83 (pc' := 84) rfl ?_
    refine k_lif_lt K56 d_prog_87_method_9_code_84 (by decide) (pc' := 93) (pc2 := 87) (by decide) rfl (fun hc84 => ?_) (fun hc84 => ?_)
    · skip
      exact JH3_0 _ (if_pos hc84).symm _ _ _ K56
    · refine k_lloadN K56 d_prog_87_method_9_code_87 (pc' := 88) rfl rfl ?_
      refine k_ldcJ K56 (w118 hw) d_prog_87_method_9_code_88 (pc' := 91) rfl ?_
      refine k_lsub K56 d_prog_87_method_9_code_91 (pc' := 92) rfl ?_
      refine k_lstoreN K56 d_prog_87_method_9_code_92 (pc' := 93) (L' := #[.val (.ref ix), .val (.ref a), .val (.int (3 : Int32)), .val (.long (((pmF ((3 : Int32).toInt64 + (1 : Int64)) base) + (prF c0 c1)) - (2305843009213693951 : Int64))), .second, .val (.int (0 : Int32)), .val (.long (prF c0 c1)), .second]) rfl rfl ?_
      exact JH3_0 _ (if_neg hc84).symm _ _ _ K56
  · exact absurd hb (by simp only [List.length_cons]; omega)
def Ixd (Z : State) (h : Heap) (ix ca sa ba ea ha : Addr) (kc ks kb ke_ kh : ClassId) (n_ lf rp : Int32) (base : Int64) (CH ST BU EA HA : List Value) : Prop := Exa Z h ix "com/example/tallyard/tallyard/scenario/formats/TextIndex" ∧ Fld Z h ix "com/example/tallyard/tallyard/scenario/formats/TextIndex" "chars" "[C" (.ref ca) ∧ Fld Z h ix "com/example/tallyard/tallyard/scenario/formats/TextIndex" "starts" "[I" (.ref sa) ∧ Fld Z h ix "com/example/tallyard/tallyard/scenario/formats/TextIndex" "buckets" "[J" (.ref ba) ∧ Fld Z h ix "com/example/tallyard/tallyard/scenario/formats/TextIndex" "earlier" "[J" (.ref ea) ∧ Fld Z h ix "com/example/tallyard/tallyard/scenario/formats/TextIndex" "hashes" "[I" (.ref ha) ∧ Fld Z h ix "com/example/tallyard/tallyard/scenario/formats/TextIndex" "count" "I" (.int n_) ∧ Fld Z h ix "com/example/tallyard/tallyard/scenario/formats/TextIndex" "lastFound" "I" (.int lf) ∧ Fld Z h ix "com/example/tallyard/tallyard/scenario/formats/TextIndex" "repeating" "Z" (.int rp) ∧ Fld Z h ix "com/example/tallyard/tallyard/scenario/formats/TextIndex" "base" "J" (.long base) ∧ Arv Z h ca kc .char 256 CH (.int 0) ∧ Arv Z h sa ks .int 33 ST (.int 0) ∧ Arv Z h ba kb .long 64 BU (.long 0) ∧ Arv Z h ea ke_ .long 32 EA (.long 0) ∧ Arv Z h ha kh .int 32 HA (.int 0) ∧ CH.length = 256 ∧ ST.length = 33 ∧ BU.length = 64 ∧ EA.length = 32 ∧ HA.length = 32
theorem nd6 {a b c d e f : Addr} (h : [a, b, c, d, e, f].Nodup) : a ≠ b ∧ a ≠ c ∧ a ≠ d ∧ a ≠ e ∧ a ≠ f ∧ b ≠ c ∧ b ≠ d ∧ b ≠ e ∧ b ≠ f ∧ c ≠ d ∧ c ≠ e ∧ c ≠ f ∧ d ≠ e ∧ d ≠ f ∧ e ≠ f := by
  simp only [List.nodup_cons, List.mem_cons, List.not_mem_nil, or_false, not_or] at h
  obtain ⟨⟨h1, h2, h3, h4, h5⟩, ⟨h6, h7, h8, h9⟩, ⟨h10, h11, h12⟩, ⟨h13, h14⟩, h15, -⟩ := h
  exact ⟨h1, h2, h3, h4, h5, h6, h7, h8, h9, h10, h11, h12, h13, h14, h15⟩
theorem d_prog_87_method_2_code_0 : decode prog_87_method_2_code 0 = .ok (.aload_n 0, 1) := by decide +kernel
theorem d_prog_87_method_2_code_1 : decode prog_87_method_2_code 1 = .ok (.invokespecial 21, 3) := by decide +kernel
theorem w45 {Z : State} {a0 : Array Value} (hw : Tb a0 Z) : (Jvm.Cond.methodLink "com/example/tallyard/tallyard/scenario/formats/TextIndex" (21 : Nat) ({ cls := "java/lang/Object", name := "<init>", desc := "()V" } : Jvm.MethodName)).before a0 Z = true := hw _ (List.mem_of_getElem? (i := 45) rfl)
theorem d_prog_87_method_2_code_4 : decode prog_87_method_2_code 4 = .ok (.aload_n 0, 1) := by decide +kernel
theorem d_prog_87_method_2_code_5 : decode prog_87_method_2_code 5 = .ok (.sipush 256, 3) := by decide +kernel
theorem d_prog_87_method_2_code_8 : decode prog_87_method_2_code 8 = .ok (.newarray .char, 2) := by decide +kernel
theorem w9 {Z : State} {a0 : Array Value} (hw : Tb a0 Z) : (Jvm.Cond.arrayClass Jvm.ClassFile.FieldType.char).before a0 Z = true := hw _ (List.mem_of_getElem? (i := 9) rfl)
theorem d_prog_87_method_2_code_10 : decode prog_87_method_2_code 10 = .ok (.putfield 26, 3) := by decide +kernel
theorem w46 {Z : State} {a0 : Array Value} (hw : Tb a0 Z) : (Jvm.Cond.fieldLink "com/example/tallyard/tallyard/scenario/formats/TextIndex" (26 : Nat) "com/example/tallyard/tallyard/scenario/formats/TextIndex" "chars" "[C").before a0 Z = true := hw _ (List.mem_of_getElem? (i := 46) rfl)
theorem w47 {Z : State} {a0 : Array Value} (hw : Tb a0 Z) : (Jvm.Cond.lays "com/example/tallyard/tallyard/scenario/formats/TextIndex" "com/example/tallyard/tallyard/scenario/formats/TextIndex" "chars" "[C").before a0 Z = true := hw _ (List.mem_of_getElem? (i := 47) rfl)
theorem w40 {Z : State} {a0 : Array Value} (hw : Tb a0 Z) : (Jvm.Cond.instantiable "com/example/tallyard/tallyard/scenario/formats/TextIndex" (9 : Nat)).before a0 Z = true := hw _ (List.mem_of_getElem? (i := 40) rfl)
theorem w50 {Z : State} {a0 : Array Value} (hw : Tb a0 Z) : (Jvm.Cond.lays "com/example/tallyard/tallyard/scenario/formats/TextIndex" "com/example/tallyard/tallyard/scenario/formats/TextIndex" "starts" "[I").before a0 Z = true := hw _ (List.mem_of_getElem? (i := 50) rfl)
theorem w53 {Z : State} {a0 : Array Value} (hw : Tb a0 Z) : (Jvm.Cond.lays "com/example/tallyard/tallyard/scenario/formats/TextIndex" "com/example/tallyard/tallyard/scenario/formats/TextIndex" "buckets" "[J").before a0 Z = true := hw _ (List.mem_of_getElem? (i := 53) rfl)
theorem w55 {Z : State} {a0 : Array Value} (hw : Tb a0 Z) : (Jvm.Cond.lays "com/example/tallyard/tallyard/scenario/formats/TextIndex" "com/example/tallyard/tallyard/scenario/formats/TextIndex" "earlier" "[J").before a0 Z = true := hw _ (List.mem_of_getElem? (i := 55) rfl)
theorem w57 {Z : State} {a0 : Array Value} (hw : Tb a0 Z) : (Jvm.Cond.lays "com/example/tallyard/tallyard/scenario/formats/TextIndex" "com/example/tallyard/tallyard/scenario/formats/TextIndex" "hashes" "[I").before a0 Z = true := hw _ (List.mem_of_getElem? (i := 57) rfl)
theorem w128 {Z : State} {a0 : Array Value} (hw : Tb a0 Z) : (Jvm.Cond.lays "com/example/tallyard/tallyard/scenario/formats/TextIndex" "com/example/tallyard/tallyard/scenario/formats/TextIndex" "count" "I").before a0 Z = true := hw _ (List.mem_of_getElem? (i := 128) rfl)
theorem w59 {Z : State} {a0 : Array Value} (hw : Tb a0 Z) : (Jvm.Cond.lays "com/example/tallyard/tallyard/scenario/formats/TextIndex" "com/example/tallyard/tallyard/scenario/formats/TextIndex" "lastFound" "I").before a0 Z = true := hw _ (List.mem_of_getElem? (i := 59) rfl)
theorem w150 {Z : State} {a0 : Array Value} (hw : Tb a0 Z) : (Jvm.Cond.lays "com/example/tallyard/tallyard/scenario/formats/TextIndex" "com/example/tallyard/tallyard/scenario/formats/TextIndex" "repeating" "Z").before a0 Z = true := hw _ (List.mem_of_getElem? (i := 150) rfl)
theorem w61 {Z : State} {a0 : Array Value} (hw : Tb a0 Z) : (Jvm.Cond.laysFinal "com/example/tallyard/tallyard/scenario/formats/TextIndex" "com/example/tallyard/tallyard/scenario/formats/TextIndex" "base" "J").before a0 Z = true := hw _ (List.mem_of_getElem? (i := 61) rfl)
theorem d_prog_87_method_2_code_13 : decode prog_87_method_2_code 13 = .ok (.aload_n 0, 1) := by decide +kernel
theorem d_prog_87_method_2_code_14 : decode prog_87_method_2_code 14 = .ok (.bipush 33, 2) := by decide +kernel
theorem d_prog_87_method_2_code_16 : decode prog_87_method_2_code 16 = .ok (.newarray .int, 2) := by decide +kernel
theorem w48 {Z : State} {a0 : Array Value} (hw : Tb a0 Z) : (Jvm.Cond.arrayClass Jvm.ClassFile.FieldType.int).before a0 Z = true := hw _ (List.mem_of_getElem? (i := 48) rfl)
theorem d_prog_87_method_2_code_18 : decode prog_87_method_2_code 18 = .ok (.putfield 30, 3) := by decide +kernel
theorem w49 {Z : State} {a0 : Array Value} (hw : Tb a0 Z) : (Jvm.Cond.fieldLink "com/example/tallyard/tallyard/scenario/formats/TextIndex" (30 : Nat) "com/example/tallyard/tallyard/scenario/formats/TextIndex" "starts" "[I").before a0 Z = true := hw _ (List.mem_of_getElem? (i := 49) rfl)
theorem d_prog_87_method_2_code_21 : decode prog_87_method_2_code 21 = .ok (.aload_n 0, 1) := by decide +kernel
theorem d_prog_87_method_2_code_22 : decode prog_87_method_2_code 22 = .ok (.bipush 64, 2) := by decide +kernel
theorem d_prog_87_method_2_code_24 : decode prog_87_method_2_code 24 = .ok (.newarray .long, 2) := by decide +kernel
theorem w51 {Z : State} {a0 : Array Value} (hw : Tb a0 Z) : (Jvm.Cond.arrayClass Jvm.ClassFile.FieldType.long).before a0 Z = true := hw _ (List.mem_of_getElem? (i := 51) rfl)
theorem d_prog_87_method_2_code_26 : decode prog_87_method_2_code 26 = .ok (.putfield 34, 3) := by decide +kernel
theorem w52 {Z : State} {a0 : Array Value} (hw : Tb a0 Z) : (Jvm.Cond.fieldLink "com/example/tallyard/tallyard/scenario/formats/TextIndex" (34 : Nat) "com/example/tallyard/tallyard/scenario/formats/TextIndex" "buckets" "[J").before a0 Z = true := hw _ (List.mem_of_getElem? (i := 52) rfl)
theorem d_prog_87_method_2_code_29 : decode prog_87_method_2_code 29 = .ok (.aload_n 0, 1) := by decide +kernel
theorem d_prog_87_method_2_code_30 : decode prog_87_method_2_code 30 = .ok (.bipush 32, 2) := by decide +kernel
theorem d_prog_87_method_2_code_32 : decode prog_87_method_2_code 32 = .ok (.newarray .long, 2) := by decide +kernel
theorem d_prog_87_method_2_code_34 : decode prog_87_method_2_code 34 = .ok (.putfield 38, 3) := by decide +kernel
theorem w54 {Z : State} {a0 : Array Value} (hw : Tb a0 Z) : (Jvm.Cond.fieldLink "com/example/tallyard/tallyard/scenario/formats/TextIndex" (38 : Nat) "com/example/tallyard/tallyard/scenario/formats/TextIndex" "earlier" "[J").before a0 Z = true := hw _ (List.mem_of_getElem? (i := 54) rfl)
theorem d_prog_87_method_2_code_37 : decode prog_87_method_2_code 37 = .ok (.aload_n 0, 1) := by decide +kernel
theorem d_prog_87_method_2_code_38 : decode prog_87_method_2_code 38 = .ok (.bipush 32, 2) := by decide +kernel
theorem d_prog_87_method_2_code_40 : decode prog_87_method_2_code 40 = .ok (.newarray .int, 2) := by decide +kernel
theorem d_prog_87_method_2_code_42 : decode prog_87_method_2_code 42 = .ok (.putfield 41, 3) := by decide +kernel
theorem w56 {Z : State} {a0 : Array Value} (hw : Tb a0 Z) : (Jvm.Cond.fieldLink "com/example/tallyard/tallyard/scenario/formats/TextIndex" (41 : Nat) "com/example/tallyard/tallyard/scenario/formats/TextIndex" "hashes" "[I").before a0 Z = true := hw _ (List.mem_of_getElem? (i := 56) rfl)
theorem d_prog_87_method_2_code_45 : decode prog_87_method_2_code 45 = .ok (.aload_n 0, 1) := by decide +kernel
theorem d_prog_87_method_2_code_46 : decode prog_87_method_2_code 46 = .ok (.iconst (-1), 1) := by decide +kernel
theorem d_prog_87_method_2_code_47 : decode prog_87_method_2_code 47 = .ok (.putfield 44, 3) := by decide +kernel
theorem w58 {Z : State} {a0 : Array Value} (hw : Tb a0 Z) : (Jvm.Cond.fieldLink "com/example/tallyard/tallyard/scenario/formats/TextIndex" (44 : Nat) "com/example/tallyard/tallyard/scenario/formats/TextIndex" "lastFound" "I").before a0 Z = true := hw _ (List.mem_of_getElem? (i := 58) rfl)
theorem d_prog_87_method_2_code_50 : decode prog_87_method_2_code 50 = .ok (.aload_n 0, 1) := by decide +kernel
theorem d_prog_87_method_2_code_51 : decode prog_87_method_2_code 51 = .ok (.lload_n 1, 1) := by decide +kernel
theorem d_prog_87_method_2_code_52 : decode prog_87_method_2_code 52 = .ok (.putfield 48, 3) := by decide +kernel
theorem d_prog_87_method_2_code_55 : decode prog_87_method_2_code 55 = .ok (.return_, 1) := by decide +kernel
set_option maxRecDepth 65536 in
set_option maxHeartbeats 40000000 in
theorem c_ixinit (l : Launch) (Z : State) (a0 : Array Value) (hw : Tb a0 Z) (hEW : EW Z a0 EL0) (n0 : Nat) (ix : Addr) (base : Int64) (u0 : Value) (u1 : Value) (u2 : Value) (u3 : Value) (u4 : Value) (u5 : Value) (r1 : Int32) (h0 : Heap) (O : Old Z n0 h0) (X_ix : Exa Z h0 ix "com/example/tallyard/tallyard/scenario/formats/TextIndex") (F_ix_chars : Fld Z h0 ix "com/example/tallyard/tallyard/scenario/formats/TextIndex" "chars" "[C" u0) (F_ix_starts : Fld Z h0 ix "com/example/tallyard/tallyard/scenario/formats/TextIndex" "starts" "[I" u1) (F_ix_buckets : Fld Z h0 ix "com/example/tallyard/tallyard/scenario/formats/TextIndex" "buckets" "[J" u2) (F_ix_earlier : Fld Z h0 ix "com/example/tallyard/tallyard/scenario/formats/TextIndex" "earlier" "[J" u3) (F_ix_hashes : Fld Z h0 ix "com/example/tallyard/tallyard/scenario/formats/TextIndex" "hashes" "[I" u4) (F_ix_count : Fld Z h0 ix "com/example/tallyard/tallyard/scenario/formats/TextIndex" "count" "I" (.int 0)) (F_ix_lastFound : Fld Z h0 ix "com/example/tallyard/tallyard/scenario/formats/TextIndex" "lastFound" "I" u5) (F_ix_repeating : Fld Z h0 ix "com/example/tallyard/tallyard/scenario/formats/TextIndex" "repeating" "Z" (.int 0)) (F_ix_base : Fld Z h0 ix "com/example/tallyard/tallyard/scenario/formats/TextIndex" "base" "J" (.long 0)) (ga_ix : n0 ≤ ix) :
    Ct l Z EL0 n0 (⟨"com/example/tallyard/tallyard/scenario/formats/TextIndex", "<init>", "(J)V"⟩ : MethodName) prog_87_method_2_code 3 none ({ frames := 1, cells := 5, slots := 417, locals := 12 } : Room) #[(.ref ix), (.long base)] h0 [ix] (fun v h sf => ∃ ca sa ba ea ha kc ks kb ke_ kh, v = none ∧ (h0.size ≤ ca ∧ h0.size ≤ sa ∧ h0.size ≤ ba ∧ h0.size ≤ ea ∧ h0.size ≤ ha) ∧ [ix, ca, sa, ba, ea, ha].Nodup ∧ Keep h0 h [ix] ∧ Ixd Z h ix ca sa ba ea ha kc ks kb ke_ kh 0 (-1) 0 base (List.replicate 256 (.int 0)) (List.replicate 33 (.int 0)) (List.replicate 64 (.long 0)) (List.replicate 32 (.long 0)) (List.replicate 32 (.int 0)) ∧ (sf ca ∧ sf sa ∧ sf ba ∧ sf ea ∧ sf ha)) := by
  refine Ct.of (a0 := a0) #[.val (.ref ix), .val (.long base), .second] hEW O (plainFor_of_name pl_com_example_tallyard_tallyard_scenario_formats_TextIndex) (fun m => by first | (simp [entryFrame, mkF, argsToLocals, Value.category]; done) | rfl) ?_
  intro p_ e_ s_ m_ below_ meth_ c_ b_ T_ K hSP
  have KP := Keep.refl h0 [ix]
  have sf_ix := hSP ix (by simp)
  refine k_aloadN K d_prog_87_method_2_code_0 (pc' := 1) rfl rfl rfl ?_
  refine k_initO K (w45 hw) (w18 hw) (w19 hw) d_prog_87_method_2_code_1 (pc' := 4) rfl rfl (by decide) 0 (Nat.le_of_eq rfl) (by decide) ?_
  intro T62 K62
  refine k_aloadN K62 d_prog_87_method_2_code_4 (pc' := 5) rfl rfl rfl ?_
  refine k_sipush K62 (256 : Int32) d_prog_87_method_2_code_5 (pc' := 8) rfl rfl ?_
  refine k_newarray K62 (aty := .char) (z := (256 : Int32)) (w9 hw) (by decide) (cap := 256) (by decide) (by decide) d_prog_87_method_2_code_8 (pc' := 10) rfl (by decide) (by decide) ?_
  intro T63 h63 a63 ka63 g63 K63 E63 tr63 sf_a63 V_a63
  have ga_a63 : n0 ≤ a63 := own_old K62.old g63
  have sz_a63 : h0.size ≤ a63 := g63 ▸ KP.1
  have ne_ix_a63 : ix ≠ a63 := own_ne X_ix.lt g63
  replace sf_ix := tr63 ix X_ix.lt sf_ix
  replace X_ix := X_ix.ext E63
  replace F_ix_chars := F_ix_chars.ext E63
  replace F_ix_starts := F_ix_starts.ext E63
  replace F_ix_buckets := F_ix_buckets.ext E63
  replace F_ix_earlier := F_ix_earlier.ext E63
  replace F_ix_hashes := F_ix_hashes.ext E63
  replace F_ix_count := F_ix_count.ext E63
  replace F_ix_lastFound := F_ix_lastFound.ext E63
  replace F_ix_repeating := F_ix_repeating.ext E63
  replace F_ix_base := F_ix_base.ext E63
  replace KP := KP.ext E63
  replace V_a63 : Arv Z h63 a63 ka63 .char (256 : Int32) (List.replicate 256 (.int (0 : Int32))) (.int (0 : Int32)) := V_a63.pad (pad_rep [] (.int (0 : Int32)) 256)
  refine k_putF K63 (w46 hw) Via.refl F_ix_chars X_ix (Or.inl (w47 hw)) (w40 hw) (ty := (.array .char)) (by decide) rfl rfl ga_ix sf_ix d_prog_87_method_2_code_10 (pc' := 13) rfl ?_
  intro T64 h64 K64 W64 tr64
  have F64 := F_ix_chars.same W64
  replace sf_ix := tr64 ix X_ix.lt sf_ix
  replace sf_a63 := tr64 a63 V_a63.lt sf_a63
  replace X_ix := X_ix.wr W64
  replace F_ix_starts := F_ix_starts.other W64 (Or.inr (slot_ne (Or.inl (w50 hw)) (Or.inl (w47 hw)) (by decide) (t := (.array .int)) (t' := (.array .char)) (by decide) (by decide)))
  replace F_ix_buckets := F_ix_buckets.other W64 (Or.inr (slot_ne (Or.inl (w53 hw)) (Or.inl (w47 hw)) (by decide) (t := (.array .long)) (t' := (.array .char)) (by decide) (by decide)))
  replace F_ix_earlier := F_ix_earlier.other W64 (Or.inr (slot_ne (Or.inl (w55 hw)) (Or.inl (w47 hw)) (by decide) (t := (.array .long)) (t' := (.array .char)) (by decide) (by decide)))
  replace F_ix_hashes := F_ix_hashes.other W64 (Or.inr (slot_ne (Or.inl (w57 hw)) (Or.inl (w47 hw)) (by decide) (t := (.array .int)) (t' := (.array .char)) (by decide) (by decide)))
  replace F_ix_count := F_ix_count.other W64 (Or.inr (slot_ne (Or.inl (w128 hw)) (Or.inl (w47 hw)) (by decide) (t := .int) (t' := (.array .char)) (by decide) (by decide)))
  replace F_ix_lastFound := F_ix_lastFound.other W64 (Or.inr (slot_ne (Or.inl (w59 hw)) (Or.inl (w47 hw)) (by decide) (t := .int) (t' := (.array .char)) (by decide) (by decide)))
  replace F_ix_repeating := F_ix_repeating.other W64 (Or.inr (slot_ne (Or.inl (w150 hw)) (Or.inl (w47 hw)) (by decide) (t := .boolean) (t' := (.array .char)) (by decide) (by decide)))
  replace F_ix_base := F_ix_base.other W64 (Or.inr (slot_ne (Or.inr (w61 hw)) (Or.inl (w47 hw)) (by decide) (t := .long) (t' := (.array .char)) (by decide) (by decide)))
  replace V_a63 := V_a63.other W64 (Ne.symm ne_ix_a63)
  replace KP := KP.wr W64 (Or.inl (by simp))
  replace F_ix_chars := F64
  refine k_aloadN K64 d_prog_87_method_2_code_13 (pc' := 14) rfl rfl rfl ?_
  refine k_bipush K64 (33 : Int32) d_prog_87_method_2_code_14 (pc' := 16) rfl rfl ?_
  refine k_newarray K64 (aty := .int) (z := (33 : Int32)) (w48 hw) (by decide) (cap := 33) (by decide) (by decide) d_prog_87_method_2_code_16 (pc' := 18) rfl (by decide) (by decide) ?_
  intro T65 h65 a65 ka65 g65 K65 E65 tr65 sf_a65 V_a65
  have ga_a65 : n0 ≤ a65 := own_old K64.old g65
  have sz_a65 : h0.size ≤ a65 := g65 ▸ KP.1
  have ne_ix_a65 : ix ≠ a65 := own_ne X_ix.lt g65
  have ne_a63_a65 : a63 ≠ a65 := own_ne V_a63.lt g65
  replace sf_ix := tr65 ix X_ix.lt sf_ix
  replace sf_a63 := tr65 a63 V_a63.lt sf_a63
  replace X_ix := X_ix.ext E65
  replace F_ix_chars := F_ix_chars.ext E65
  replace F_ix_starts := F_ix_starts.ext E65
  replace F_ix_buckets := F_ix_buckets.ext E65
  replace F_ix_earlier := F_ix_earlier.ext E65
  replace F_ix_hashes := F_ix_hashes.ext E65
  replace F_ix_count := F_ix_count.ext E65
  replace F_ix_lastFound := F_ix_lastFound.ext E65
  replace F_ix_repeating := F_ix_repeating.ext E65
  replace F_ix_base := F_ix_base.ext E65
  replace V_a63 := V_a63.ext E65
  replace KP := KP.ext E65
  replace V_a65 : Arv Z h65 a65 ka65 .int (33 : Int32) (List.replicate 33 (.int (0 : Int32))) (.int (0 : Int32)) := V_a65.pad (pad_rep [] (.int (0 : Int32)) 33)
  refine k_putF K65 (w49 hw) Via.refl F_ix_starts X_ix (Or.inl (w50 hw)) (w40 hw) (ty := (.array .int)) (by decide) rfl rfl ga_ix sf_ix d_prog_87_method_2_code_18 (pc' := 21) rfl ?_
  intro T66 h66 K66 W66 tr66
  have F66 := F_ix_starts.same W66
  replace sf_ix := tr66 ix X_ix.lt sf_ix
  replace sf_a63 := tr66 a63 V_a63.lt sf_a63
  replace sf_a65 := tr66 a65 V_a65.lt sf_a65
  replace X_ix := X_ix.wr W66
  replace F_ix_chars := F_ix_chars.other W66 (Or.inr (slot_ne (Or.inl (w47 hw)) (Or.inl (w50 hw)) (by decide) (t := (.array .char)) (t' := (.array .int)) (by decide) (by decide)))
  replace F_ix_buckets := F_ix_buckets.other W66 (Or.inr (slot_ne (Or.inl (w53 hw)) (Or.inl (w50 hw)) (by decide) (t := (.array .long)) (t' := (.array .int)) (by decide) (by decide)))
  replace F_ix_earlier := F_ix_earlier.other W66 (Or.inr (slot_ne (Or.inl (w55 hw)) (Or.inl (w50 hw)) (by decide) (t := (.array .long)) (t' := (.array .int)) (by decide) (by decide)))
  replace F_ix_hashes := F_ix_hashes.other W66 (Or.inr (slot_ne (Or.inl (w57 hw)) (Or.inl (w50 hw)) (by decide) (t := (.array .int)) (t' := (.array .int)) (by decide) (by decide)))
  replace F_ix_count := F_ix_count.other W66 (Or.inr (slot_ne (Or.inl (w128 hw)) (Or.inl (w50 hw)) (by decide) (t := .int) (t' := (.array .int)) (by decide) (by decide)))
  replace F_ix_lastFound := F_ix_lastFound.other W66 (Or.inr (slot_ne (Or.inl (w59 hw)) (Or.inl (w50 hw)) (by decide) (t := .int) (t' := (.array .int)) (by decide) (by decide)))
  replace F_ix_repeating := F_ix_repeating.other W66 (Or.inr (slot_ne (Or.inl (w150 hw)) (Or.inl (w50 hw)) (by decide) (t := .boolean) (t' := (.array .int)) (by decide) (by decide)))
  replace F_ix_base := F_ix_base.other W66 (Or.inr (slot_ne (Or.inr (w61 hw)) (Or.inl (w50 hw)) (by decide) (t := .long) (t' := (.array .int)) (by decide) (by decide)))
  replace V_a63 := V_a63.other W66 (Ne.symm ne_ix_a63)
  replace V_a65 := V_a65.other W66 (Ne.symm ne_ix_a65)
  replace KP := KP.wr W66 (Or.inl (by simp))
  replace F_ix_starts := F66
  refine k_aloadN K66 d_prog_87_method_2_code_21 (pc' := 22) rfl rfl rfl ?_
  refine k_bipush K66 (64 : Int32) d_prog_87_method_2_code_22 (pc' := 24) rfl rfl ?_
  refine k_newarray K66 (aty := .long) (z := (64 : Int32)) (w51 hw) (by decide) (cap := 64) (by decide) (by decide) d_prog_87_method_2_code_24 (pc' := 26) rfl (by decide) (by decide) ?_
  intro T67 h67 a67 ka67 g67 K67 E67 tr67 sf_a67 V_a67
  have ga_a67 : n0 ≤ a67 := own_old K66.old g67
  have sz_a67 : h0.size ≤ a67 := g67 ▸ KP.1
  have ne_ix_a67 : ix ≠ a67 := own_ne X_ix.lt g67
  have ne_a63_a67 : a63 ≠ a67 := own_ne V_a63.lt g67
  have ne_a65_a67 : a65 ≠ a67 := own_ne V_a65.lt g67
  replace sf_ix := tr67 ix X_ix.lt sf_ix
  replace sf_a63 := tr67 a63 V_a63.lt sf_a63
  replace sf_a65 := tr67 a65 V_a65.lt sf_a65
  replace X_ix := X_ix.ext E67
  replace F_ix_chars := F_ix_chars.ext E67
  replace F_ix_starts := F_ix_starts.ext E67
  replace F_ix_buckets := F_ix_buckets.ext E67
  replace F_ix_earlier := F_ix_earlier.ext E67
  replace F_ix_hashes := F_ix_hashes.ext E67
  replace F_ix_count := F_ix_count.ext E67
  replace F_ix_lastFound := F_ix_lastFound.ext E67
  replace F_ix_repeating := F_ix_repeating.ext E67
  replace F_ix_base := F_ix_base.ext E67
  replace V_a63 := V_a63.ext E67
  replace V_a65 := V_a65.ext E67
  replace KP := KP.ext E67
  replace V_a67 : Arv Z h67 a67 ka67 .long (64 : Int32) (List.replicate 64 (.long (0 : Int64))) (.long (0 : Int64)) := V_a67.pad (pad_rep [] (.long (0 : Int64)) 64)
  refine k_putF K67 (w52 hw) Via.refl F_ix_buckets X_ix (Or.inl (w53 hw)) (w40 hw) (ty := (.array .long)) (by decide) rfl rfl ga_ix sf_ix d_prog_87_method_2_code_26 (pc' := 29) rfl ?_
  intro T68 h68 K68 W68 tr68
  have F68 := F_ix_buckets.same W68
  replace sf_ix := tr68 ix X_ix.lt sf_ix
  replace sf_a63 := tr68 a63 V_a63.lt sf_a63
  replace sf_a65 := tr68 a65 V_a65.lt sf_a65
  replace sf_a67 := tr68 a67 V_a67.lt sf_a67
  replace X_ix := X_ix.wr W68
  replace F_ix_chars := F_ix_chars.other W68 (Or.inr (slot_ne (Or.inl (w47 hw)) (Or.inl (w53 hw)) (by decide) (t := (.array .char)) (t' := (.array .long)) (by decide) (by decide)))
  replace F_ix_starts := F_ix_starts.other W68 (Or.inr (slot_ne (Or.inl (w50 hw)) (Or.inl (w53 hw)) (by decide) (t := (.array .int)) (t' := (.array .long)) (by decide) (by decide)))
  replace F_ix_earlier := F_ix_earlier.other W68 (Or.inr (slot_ne (Or.inl (w55 hw)) (Or.inl (w53 hw)) (by decide) (t := (.array .long)) (t' := (.array .long)) (by decide) (by decide)))
  replace F_ix_hashes := F_ix_hashes.other W68 (Or.inr (slot_ne (Or.inl (w57 hw)) (Or.inl (w53 hw)) (by decide) (t := (.array .int)) (t' := (.array .long)) (by decide) (by decide)))
  replace F_ix_count := F_ix_count.other W68 (Or.inr (slot_ne (Or.inl (w128 hw)) (Or.inl (w53 hw)) (by decide) (t := .int) (t' := (.array .long)) (by decide) (by decide)))
  replace F_ix_lastFound := F_ix_lastFound.other W68 (Or.inr (slot_ne (Or.inl (w59 hw)) (Or.inl (w53 hw)) (by decide) (t := .int) (t' := (.array .long)) (by decide) (by decide)))
  replace F_ix_repeating := F_ix_repeating.other W68 (Or.inr (slot_ne (Or.inl (w150 hw)) (Or.inl (w53 hw)) (by decide) (t := .boolean) (t' := (.array .long)) (by decide) (by decide)))
  replace F_ix_base := F_ix_base.other W68 (Or.inr (slot_ne (Or.inr (w61 hw)) (Or.inl (w53 hw)) (by decide) (t := .long) (t' := (.array .long)) (by decide) (by decide)))
  replace V_a63 := V_a63.other W68 (Ne.symm ne_ix_a63)
  replace V_a65 := V_a65.other W68 (Ne.symm ne_ix_a65)
  replace V_a67 := V_a67.other W68 (Ne.symm ne_ix_a67)
  replace KP := KP.wr W68 (Or.inl (by simp))
  replace F_ix_buckets := F68
  refine k_aloadN K68 d_prog_87_method_2_code_29 (pc' := 30) rfl rfl rfl ?_
  refine k_bipush K68 (32 : Int32) d_prog_87_method_2_code_30 (pc' := 32) rfl rfl ?_
  refine k_newarray K68 (aty := .long) (z := (32 : Int32)) (w51 hw) (by decide) (cap := 32) (by decide) (by decide) d_prog_87_method_2_code_32 (pc' := 34) rfl (by decide) (by decide) ?_
  intro T69 h69 a69 ka69 g69 K69 E69 tr69 sf_a69 V_a69
  have ga_a69 : n0 ≤ a69 := own_old K68.old g69
  have sz_a69 : h0.size ≤ a69 := g69 ▸ KP.1
  have ne_ix_a69 : ix ≠ a69 := own_ne X_ix.lt g69
  have ne_a63_a69 : a63 ≠ a69 := own_ne V_a63.lt g69
  have ne_a65_a69 : a65 ≠ a69 := own_ne V_a65.lt g69
  have ne_a67_a69 : a67 ≠ a69 := own_ne V_a67.lt g69
  replace sf_ix := tr69 ix X_ix.lt sf_ix
  replace sf_a63 := tr69 a63 V_a63.lt sf_a63
  replace sf_a65 := tr69 a65 V_a65.lt sf_a65
  replace sf_a67 := tr69 a67 V_a67.lt sf_a67
  replace X_ix := X_ix.ext E69
  replace F_ix_chars := F_ix_chars.ext E69
  replace F_ix_starts := F_ix_starts.ext E69
  replace F_ix_buckets := F_ix_buckets.ext E69
  replace F_ix_earlier := F_ix_earlier.ext E69
  replace F_ix_hashes := F_ix_hashes.ext E69
  replace F_ix_count := F_ix_count.ext E69
  replace F_ix_lastFound := F_ix_lastFound.ext E69
  replace F_ix_repeating := F_ix_repeating.ext E69
  replace F_ix_base := F_ix_base.ext E69
  replace V_a63 := V_a63.ext E69
  replace V_a65 := V_a65.ext E69
  replace V_a67 := V_a67.ext E69
  replace KP := KP.ext E69
  replace V_a69 : Arv Z h69 a69 ka69 .long (32 : Int32) (List.replicate 32 (.long (0 : Int64))) (.long (0 : Int64)) := V_a69.pad (pad_rep [] (.long (0 : Int64)) 32)
  refine k_putF K69 (w54 hw) Via.refl F_ix_earlier X_ix (Or.inl (w55 hw)) (w40 hw) (ty := (.array .long)) (by decide) rfl rfl ga_ix sf_ix d_prog_87_method_2_code_34 (pc' := 37) rfl ?_
  intro T70 h70 K70 W70 tr70
  have F70 := F_ix_earlier.same W70
  replace sf_ix := tr70 ix X_ix.lt sf_ix
  replace sf_a63 := tr70 a63 V_a63.lt sf_a63
  replace sf_a65 := tr70 a65 V_a65.lt sf_a65
  replace sf_a67 := tr70 a67 V_a67.lt sf_a67
  replace sf_a69 := tr70 a69 V_a69.lt sf_a69
  replace X_ix := X_ix.wr W70
  replace F_ix_chars := F_ix_chars.other W70 (Or.inr (slot_ne (Or.inl (w47 hw)) (Or.inl (w55 hw)) (by decide) (t := (.array .char)) (t' := (.array .long)) (by decide) (by decide)))
  replace F_ix_starts := F_ix_starts.other W70 (Or.inr (slot_ne (Or.inl (w50 hw)) (Or.inl (w55 hw)) (by decide) (t := (.array .int)) (t' := (.array .long)) (by decide) (by decide)))
  replace F_ix_buckets := F_ix_buckets.other W70 (Or.inr (slot_ne (Or.inl (w53 hw)) (Or.inl (w55 hw)) (by decide) (t := (.array .long)) (t' := (.array .long)) (by decide) (by decide)))
  replace F_ix_hashes := F_ix_hashes.other W70 (Or.inr (slot_ne (Or.inl (w57 hw)) (Or.inl (w55 hw)) (by decide) (t := (.array .int)) (t' := (.array .long)) (by decide) (by decide)))
  replace F_ix_count := F_ix_count.other W70 (Or.inr (slot_ne (Or.inl (w128 hw)) (Or.inl (w55 hw)) (by decide) (t := .int) (t' := (.array .long)) (by decide) (by decide)))
  replace F_ix_lastFound := F_ix_lastFound.other W70 (Or.inr (slot_ne (Or.inl (w59 hw)) (Or.inl (w55 hw)) (by decide) (t := .int) (t' := (.array .long)) (by decide) (by decide)))
  replace F_ix_repeating := F_ix_repeating.other W70 (Or.inr (slot_ne (Or.inl (w150 hw)) (Or.inl (w55 hw)) (by decide) (t := .boolean) (t' := (.array .long)) (by decide) (by decide)))
  replace F_ix_base := F_ix_base.other W70 (Or.inr (slot_ne (Or.inr (w61 hw)) (Or.inl (w55 hw)) (by decide) (t := .long) (t' := (.array .long)) (by decide) (by decide)))
  replace V_a63 := V_a63.other W70 (Ne.symm ne_ix_a63)
  replace V_a65 := V_a65.other W70 (Ne.symm ne_ix_a65)
  replace V_a67 := V_a67.other W70 (Ne.symm ne_ix_a67)
  replace V_a69 := V_a69.other W70 (Ne.symm ne_ix_a69)
  replace KP := KP.wr W70 (Or.inl (by simp))
  replace F_ix_earlier := F70
  refine k_aloadN K70 d_prog_87_method_2_code_37 (pc' := 38) rfl rfl rfl ?_
  refine k_bipush K70 (32 : Int32) d_prog_87_method_2_code_38 (pc' := 40) rfl rfl ?_
  refine k_newarray K70 (aty := .int) (z := (32 : Int32)) (w48 hw) (by decide) (cap := 32) (by decide) (by decide) d_prog_87_method_2_code_40 (pc' := 42) rfl (by decide) (by decide) ?_
  intro T71 h71 a71 ka71 g71 K71 E71 tr71 sf_a71 V_a71
  have ga_a71 : n0 ≤ a71 := own_old K70.old g71
  have sz_a71 : h0.size ≤ a71 := g71 ▸ KP.1
  have ne_ix_a71 : ix ≠ a71 := own_ne X_ix.lt g71
  have ne_a63_a71 : a63 ≠ a71 := own_ne V_a63.lt g71
  have ne_a65_a71 : a65 ≠ a71 := own_ne V_a65.lt g71
  have ne_a67_a71 : a67 ≠ a71 := own_ne V_a67.lt g71
  have ne_a69_a71 : a69 ≠ a71 := own_ne V_a69.lt g71
  replace sf_ix := tr71 ix X_ix.lt sf_ix
  replace sf_a63 := tr71 a63 V_a63.lt sf_a63
  replace sf_a65 := tr71 a65 V_a65.lt sf_a65
  replace sf_a67 := tr71 a67 V_a67.lt sf_a67
  replace sf_a69 := tr71 a69 V_a69.lt sf_a69
  replace X_ix := X_ix.ext E71
  replace F_ix_chars := F_ix_chars.ext E71
  replace F_ix_starts := F_ix_starts.ext E71
  replace F_ix_buckets := F_ix_buckets.ext E71
  replace F_ix_earlier := F_ix_earlier.ext E71
  replace F_ix_hashes := F_ix_hashes.ext E71
  replace F_ix_count := F_ix_count.ext E71
  replace F_ix_lastFound := F_ix_lastFound.ext E71
  replace F_ix_repeating := F_ix_repeating.ext E71
  replace F_ix_base := F_ix_base.ext E71
  replace V_a63 := V_a63.ext E71
  replace V_a65 := V_a65.ext E71
  replace V_a67 := V_a67.ext E71
  replace V_a69 := V_a69.ext E71
  replace KP := KP.ext E71
  replace V_a71 : Arv Z h71 a71 ka71 .int (32 : Int32) (List.replicate 32 (.int (0 : Int32))) (.int (0 : Int32)) := V_a71.pad (pad_rep [] (.int (0 : Int32)) 32)
  refine k_putF K71 (w56 hw) Via.refl F_ix_hashes X_ix (Or.inl (w57 hw)) (w40 hw) (ty := (.array .int)) (by decide) rfl rfl ga_ix sf_ix d_prog_87_method_2_code_42 (pc' := 45) rfl ?_
  intro T72 h72 K72 W72 tr72
  have F72 := F_ix_hashes.same W72
  replace sf_ix := tr72 ix X_ix.lt sf_ix
  replace sf_a63 := tr72 a63 V_a63.lt sf_a63
  replace sf_a65 := tr72 a65 V_a65.lt sf_a65
  replace sf_a67 := tr72 a67 V_a67.lt sf_a67
  replace sf_a69 := tr72 a69 V_a69.lt sf_a69
  replace sf_a71 := tr72 a71 V_a71.lt sf_a71
  replace X_ix := X_ix.wr W72
  replace F_ix_chars := F_ix_chars.other W72 (Or.inr (slot_ne (Or.inl (w47 hw)) (Or.inl (w57 hw)) (by decide) (t := (.array .char)) (t' := (.array .int)) (by decide) (by decide)))
  replace F_ix_starts := F_ix_starts.other W72 (Or.inr (slot_ne (Or.inl (w50 hw)) (Or.inl (w57 hw)) (by decide) (t := (.array .int)) (t' := (.array .int)) (by decide) (by decide)))
  replace F_ix_buckets := F_ix_buckets.other W72 (Or.inr (slot_ne (Or.inl (w53 hw)) (Or.inl (w57 hw)) (by decide) (t := (.array .long)) (t' := (.array .int)) (by decide) (by decide)))
  replace F_ix_earlier := F_ix_earlier.other W72 (Or.inr (slot_ne (Or.inl (w55 hw)) (Or.inl (w57 hw)) (by decide) (t := (.array .long)) (t' := (.array .int)) (by decide) (by decide)))
  replace F_ix_count := F_ix_count.other W72 (Or.inr (slot_ne (Or.inl (w128 hw)) (Or.inl (w57 hw)) (by decide) (t := .int) (t' := (.array .int)) (by decide) (by decide)))
  replace F_ix_lastFound := F_ix_lastFound.other W72 (Or.inr (slot_ne (Or.inl (w59 hw)) (Or.inl (w57 hw)) (by decide) (t := .int) (t' := (.array .int)) (by decide) (by decide)))
  replace F_ix_repeating := F_ix_repeating.other W72 (Or.inr (slot_ne (Or.inl (w150 hw)) (Or.inl (w57 hw)) (by decide) (t := .boolean) (t' := (.array .int)) (by decide) (by decide)))
  replace F_ix_base := F_ix_base.other W72 (Or.inr (slot_ne (Or.inr (w61 hw)) (Or.inl (w57 hw)) (by decide) (t := .long) (t' := (.array .int)) (by decide) (by decide)))
  replace V_a63 := V_a63.other W72 (Ne.symm ne_ix_a63)
  replace V_a65 := V_a65.other W72 (Ne.symm ne_ix_a65)
  replace V_a67 := V_a67.other W72 (Ne.symm ne_ix_a67)
  replace V_a69 := V_a69.other W72 (Ne.symm ne_ix_a69)
  replace V_a71 := V_a71.other W72 (Ne.symm ne_ix_a71)
  replace KP := KP.wr W72 (Or.inl (by simp))
  replace F_ix_hashes := F72
  refine k_aloadN K72 d_prog_87_method_2_code_45 (pc' := 46) rfl rfl rfl ?_
  refine k_iconst K72 (-1 : Int32) d_prog_87_method_2_code_46 (pc' := 47) rfl rfl ?_
  refine k_putF K72 (w58 hw) Via.refl F_ix_lastFound X_ix (Or.inl (w59 hw)) (w40 hw) (ty := .int) (by decide) rfl rfl ga_ix sf_ix d_prog_87_method_2_code_47 (pc' := 50) rfl ?_
  intro T73 h73 K73 W73 tr73
  have F73 := F_ix_lastFound.same W73
  replace sf_ix := tr73 ix X_ix.lt sf_ix
  replace sf_a63 := tr73 a63 V_a63.lt sf_a63
  replace sf_a65 := tr73 a65 V_a65.lt sf_a65
  replace sf_a67 := tr73 a67 V_a67.lt sf_a67
  replace sf_a69 := tr73 a69 V_a69.lt sf_a69
  replace sf_a71 := tr73 a71 V_a71.lt sf_a71
  replace X_ix := X_ix.wr W73
  replace F_ix_chars := F_ix_chars.other W73 (Or.inr (slot_ne (Or.inl (w47 hw)) (Or.inl (w59 hw)) (by decide) (t := (.array .char)) (t' := .int) (by decide) (by decide)))
  replace F_ix_starts := F_ix_starts.other W73 (Or.inr (slot_ne (Or.inl (w50 hw)) (Or.inl (w59 hw)) (by decide) (t := (.array .int)) (t' := .int) (by decide) (by decide)))
  replace F_ix_buckets := F_ix_buckets.other W73 (Or.inr (slot_ne (Or.inl (w53 hw)) (Or.inl (w59 hw)) (by decide) (t := (.array .long)) (t' := .int) (by decide) (by decide)))
  replace F_ix_earlier := F_ix_earlier.other W73 (Or.inr (slot_ne (Or.inl (w55 hw)) (Or.inl (w59 hw)) (by decide) (t := (.array .long)) (t' := .int) (by decide) (by decide)))
  replace F_ix_hashes := F_ix_hashes.other W73 (Or.inr (slot_ne (Or.inl (w57 hw)) (Or.inl (w59 hw)) (by decide) (t := (.array .int)) (t' := .int) (by decide) (by decide)))
  replace F_ix_count := F_ix_count.other W73 (Or.inr (slot_ne (Or.inl (w128 hw)) (Or.inl (w59 hw)) (by decide) (t := .int) (t' := .int) (by decide) (by decide)))
  replace F_ix_repeating := F_ix_repeating.other W73 (Or.inr (slot_ne (Or.inl (w150 hw)) (Or.inl (w59 hw)) (by decide) (t := .boolean) (t' := .int) (by decide) (by decide)))
  replace F_ix_base := F_ix_base.other W73 (Or.inr (slot_ne (Or.inr (w61 hw)) (Or.inl (w59 hw)) (by decide) (t := .long) (t' := .int) (by decide) (by decide)))
  replace V_a63 := V_a63.other W73 (Ne.symm ne_ix_a63)
  replace V_a65 := V_a65.other W73 (Ne.symm ne_ix_a65)
  replace V_a67 := V_a67.other W73 (Ne.symm ne_ix_a67)
  replace V_a69 := V_a69.other W73 (Ne.symm ne_ix_a69)
  replace V_a71 := V_a71.other W73 (Ne.symm ne_ix_a71)
  replace KP := KP.wr W73 (Or.inl (by simp))
  replace F_ix_lastFound := F73
  refine k_aloadN K73 d_prog_87_method_2_code_50 (pc' := 51) rfl rfl rfl ?_
  refine k_lloadN K73 d_prog_87_method_2_code_51 (pc' := 52) rfl rfl ?_
  refine k_putF K73 (w60 hw) Via.refl F_ix_base X_ix (Or.inr ⟨(w61 hw), rfl, rfl⟩) (w40 hw) (ty := .long) (by decide) rfl rfl ga_ix sf_ix d_prog_87_method_2_code_52 (pc' := 55) rfl ?_
  intro T74 h74 K74 W74 tr74
  have F74 := F_ix_base.same W74
  replace sf_ix := tr74 ix X_ix.lt sf_ix
  replace sf_a63 := tr74 a63 V_a63.lt sf_a63
  replace sf_a65 := tr74 a65 V_a65.lt sf_a65
  replace sf_a67 := tr74 a67 V_a67.lt sf_a67
  replace sf_a69 := tr74 a69 V_a69.lt sf_a69
  replace sf_a71 := tr74 a71 V_a71.lt sf_a71
  replace X_ix := X_ix.wr W74
  replace F_ix_chars := F_ix_chars.other W74 (Or.inr (slot_ne (Or.inl (w47 hw)) (Or.inr (w61 hw)) (by decide) (t := (.array .char)) (t' := .long) (by decide) (by decide)))
  replace F_ix_starts := F_ix_starts.other W74 (Or.inr (slot_ne (Or.inl (w50 hw)) (Or.inr (w61 hw)) (by decide) (t := (.array .int)) (t' := .long) (by decide) (by decide)))
  replace F_ix_buckets := F_ix_buckets.other W74 (Or.inr (slot_ne (Or.inl (w53 hw)) (Or.inr (w61 hw)) (by decide) (t := (.array .long)) (t' := .long) (by decide) (by decide)))
  replace F_ix_earlier := F_ix_earlier.other W74 (Or.inr (slot_ne (Or.inl (w55 hw)) (Or.inr (w61 hw)) (by decide) (t := (.array .long)) (t' := .long) (by decide) (by decide)))
  replace F_ix_hashes := F_ix_hashes.other W74 (Or.inr (slot_ne (Or.inl (w57 hw)) (Or.inr (w61 hw)) (by decide) (t := (.array .int)) (t' := .long) (by decide) (by decide)))
  replace F_ix_count := F_ix_count.other W74 (Or.inr (slot_ne (Or.inl (w128 hw)) (Or.inr (w61 hw)) (by decide) (t := .int) (t' := .long) (by decide) (by decide)))
  replace F_ix_lastFound := F_ix_lastFound.other W74 (Or.inr (slot_ne (Or.inl (w59 hw)) (Or.inr (w61 hw)) (by decide) (t := .int) (t' := .long) (by decide) (by decide)))
  replace F_ix_repeating := F_ix_repeating.other W74 (Or.inr (slot_ne (Or.inl (w150 hw)) (Or.inr (w61 hw)) (by decide) (t := .boolean) (t' := .long) (by decide) (by decide)))
  replace V_a63 := V_a63.other W74 (Ne.symm ne_ix_a63)
  replace V_a65 := V_a65.other W74 (Ne.symm ne_ix_a65)
  replace V_a67 := V_a67.other W74 (Ne.symm ne_ix_a67)
  replace V_a69 := V_a69.other W74 (Ne.symm ne_ix_a69)
  replace V_a71 := V_a71.other W74 (Ne.symm ne_ix_a71)
  replace KP := KP.wr W74 (Or.inl (by simp))
  replace F_ix_base := F74
  exact k_return K74 d_prog_87_method_2_code_55 rfl (fun sf ht => ⟨a63, a65, a67, a69, a71, ka63, ka65, ka67, ka69, ka71, rfl, ⟨sz_a63, sz_a65, sz_a67, sz_a69, sz_a71⟩, (by
    simp only [List.nodup_cons, List.mem_cons, List.not_mem_nil, or_false, not_or, List.nodup_nil, and_true]
    exact ⟨⟨ne_ix_a63, ne_ix_a65, ne_ix_a67, ne_ix_a69, ne_ix_a71⟩, ⟨ne_a63_a65, ne_a63_a67, ne_a63_a69, ne_a63_a71⟩, ⟨ne_a65_a67, ne_a65_a69, ne_a65_a71⟩, ⟨ne_a67_a69, ne_a67_a71⟩, ne_a69_a71, fun q => q⟩), KP, ⟨X_ix, F_ix_chars, F_ix_starts, F_ix_buckets, F_ix_earlier, F_ix_hashes, F_ix_count, F_ix_lastFound, F_ix_repeating, F_ix_base, V_a63, V_a65, V_a67, V_a69, V_a71, List.length_replicate, List.length_replicate, List.length_replicate, List.length_replicate, List.length_replicate⟩, ⟨ht _ V_a63.lt sf_a63, ht _ V_a65.lt sf_a65, ht _ V_a67.lt sf_a67, ht _ V_a69.lt sf_a69, ht _ V_a71.lt sf_a71⟩⟩) (by decide) (by decide)
theorem d_prog_87_method_13_code_0 : decode prog_87_method_13_code 0 = .ok (.aload_n 0, 1) := by decide +kernel
theorem d_prog_87_method_13_code_1 : decode prog_87_method_13_code 1 = .ok (.getfield 30, 3) := by decide +kernel
theorem d_prog_87_method_13_code_4 : decode prog_87_method_13_code 4 = .ok (.iload_n 1, 1) := by decide +kernel
theorem d_prog_87_method_13_code_5 : decode prog_87_method_13_code 5 = .ok (.iaload, 1) := by decide +kernel
theorem d_prog_87_method_13_code_6 : decode prog_87_method_13_code 6 = .ok (.istore_n 3, 1) := by decide +kernel
theorem d_prog_87_method_13_code_7 : decode prog_87_method_13_code 7 = .ok (.aload_n 0, 1) := by decide +kernel
theorem d_prog_87_method_13_code_8 : decode prog_87_method_13_code 8 = .ok (.getfield 30, 3) := by decide +kernel
theorem d_prog_87_method_13_code_11 : decode prog_87_method_13_code 11 = .ok (.iload_n 1, 1) := by decide +kernel
theorem d_prog_87_method_13_code_12 : decode prog_87_method_13_code 12 = .ok (.iconst 1, 1) := by decide +kernel
theorem d_prog_87_method_13_code_13 : decode prog_87_method_13_code 13 = .ok (.iadd, 1) := by decide +kernel
theorem d_prog_87_method_13_code_14 : decode prog_87_method_13_code 14 = .ok (.iaload, 1) := by decide +kernel
theorem d_prog_87_method_13_code_15 : decode prog_87_method_13_code 15 = .ok (.iload_n 3, 1) := by decide +kernel
theorem d_prog_87_method_13_code_16 : decode prog_87_method_13_code 16 = .ok (.isub, 1) := by decide +kernel
theorem d_prog_87_method_13_code_17 : decode prog_87_method_13_code 17 = .ok (.aload_n 2, 1) := by decide +kernel
theorem d_prog_87_method_13_code_18 : decode prog_87_method_13_code 18 = .ok (.invokeinterface 101 1, 5) := by decide +kernel
theorem d_prog_87_method_13_code_23 : decode prog_87_method_13_code 23 = .ok (.if_icmp .eq 5, 3) := by decide +kernel
theorem d_prog_87_method_13_code_28 : decode prog_87_method_13_code 28 = .ok (.iconst 0, 1) := by decide +kernel
theorem d_prog_87_method_13_code_29 : decode prog_87_method_13_code 29 = .ok (.istore 4, 2) := by decide +kernel
theorem d_prog_87_method_13_code_31 : decode prog_87_method_13_code 31 = .ok (.iload 4, 2) := by decide +kernel
theorem d_prog_87_method_13_code_33 : decode prog_87_method_13_code 33 = .ok (.aload_n 2, 1) := by decide +kernel
theorem d_prog_87_method_13_code_34 : decode prog_87_method_13_code 34 = .ok (.invokeinterface 101 1, 5) := by decide +kernel
theorem d_prog_87_method_13_code_39 : decode prog_87_method_13_code 39 = .ok (.if_icmp .ge 31, 3) := by decide +kernel
theorem d_prog_87_method_13_code_70 : decode prog_87_method_13_code 70 = .ok (.iconst 1, 1) := by decide +kernel
theorem d_prog_87_method_13_code_71 : decode prog_87_method_13_code 71 = .ok (.ireturn, 1) := by decide +kernel
theorem d_prog_87_method_13_code_42 : decode prog_87_method_13_code 42 = .ok (.aload_n 0, 1) := by decide +kernel
theorem d_prog_87_method_13_code_43 : decode prog_87_method_13_code 43 = .ok (.getfield 26, 3) := by decide +kernel
theorem d_prog_87_method_13_code_46 : decode prog_87_method_13_code 46 = .ok (.iload_n 3, 1) := by decide +kernel
theorem d_prog_87_method_13_code_47 : decode prog_87_method_13_code 47 = .ok (.iload 4, 2) := by decide +kernel
theorem d_prog_87_method_13_code_49 : decode prog_87_method_13_code 49 = .ok (.iadd, 1) := by decide +kernel
theorem d_prog_87_method_13_code_50 : decode prog_87_method_13_code 50 = .ok (.caload, 1) := by decide +kernel
theorem d_prog_87_method_13_code_51 : decode prog_87_method_13_code 51 = .ok (.aload_n 2, 1) := by decide +kernel
theorem d_prog_87_method_13_code_52 : decode prog_87_method_13_code 52 = .ok (.iload 4, 2) := by decide +kernel
theorem d_prog_87_method_13_code_54 : decode prog_87_method_13_code 54 = .ok (.invokeinterface 107 2, 5) := by decide +kernel
theorem d_prog_87_method_13_code_59 : decode prog_87_method_13_code 59 = .ok (.if_icmp .eq 5, 3) := by decide +kernel
theorem d_prog_87_method_13_code_64 : decode prog_87_method_13_code 64 = .ok (.iinc 4 1, 3) := by decide +kernel
theorem d_prog_87_method_13_code_67 : decode prog_87_method_13_code 67 = .ok (.goto (-36), 3) := by decide +kernel
theorem d_prog_87_method_13_code_62 : decode prog_87_method_13_code 62 = .ok (.iconst 0, 1) := by decide +kernel
theorem d_prog_87_method_13_code_63 : decode prog_87_method_13_code 63 = .ok (.ireturn, 1) := by decide +kernel
theorem d_prog_87_method_13_code_26 : decode prog_87_method_13_code 26 = .ok (.iconst 0, 1) := by decide +kernel
theorem d_prog_87_method_13_code_27 : decode prog_87_method_13_code 27 = .ok (.ireturn, 1) := by decide +kernel
set_option maxRecDepth 65536 in
set_option maxHeartbeats 40000000 in
theorem c_holds (l : Launch) (Z : State) (a0 : Array Value) (hw : Tb a0 Z) (hEW : EW Z a0 EL0) (n0 : Nat) (ix ca sa ba ea ha : Addr) (kc ks kb ke_ kh : ClassId) (n_ lf rp : Int32) (base : Int64) (CH ST BU EA HA : List Value) (a e : Addr) (ke : ClassId) (n : Int32) (cs : List Int32) (ff : Value) (cs0 : Int32) (kx : Int32) (kn : Nat) (xs : List Int32) (h0 : Heap) (O : Old Z n0 h0) (SF : Sta Z Z.heap "jdk/internal/util/Preconditions" "SIOOBE_FORMATTER" "Ljava/util/function/BiFunction;" ff) (hff : ff.isRef = true) (I : Ixd Z h0 ix ca sa ba ea ha kc ks kb ke_ kh n_ lf rp base CH ST BU EA HA) (S : Str Z h0 a e ke 0 n (lat cs)) (hn : n.toInt = cs.length) (hb : cs.length ≤ 3) (hc : ∀ c ∈ cs, 0 ≤ c.toInt ∧ c.toInt < 256) (hk : kx.toInt = kn) (hk2 : kn < 2) (T : Txt CH ST kn xs) (SC : Sta Z Z.heap "java/lang/String" "COMPACT_STRINGS" "Z" (.int cs0)) (hcs : ¬ cs0 = 0) :
    Ct l Z EL0 n0 (⟨"com/example/tallyard/tallyard/scenario/formats/TextIndex", "holds", "(ILjava/lang/CharSequence;)Z"⟩ : MethodName) prog_87_method_13_code 5 (some .boolean) ({ frames := 4, cells := 0, slots := 0, locals := 54 } : Room) #[(.ref ix), (.int kx), (.ref a)] h0 [] (Pu (some (.int (if xs = cs then 1 else 0))) h0) := by
  refine Ct.of (a0 := a0) #[.val (.ref ix), .val (.int kx), .val (.ref a), .unset, .unset] hEW O (plainFor_of_name pl_com_example_tallyard_tallyard_scenario_formats_TextIndex) (fun m => by first | (simp [entryFrame, mkF, argsToLocals, Value.category]; done) | rfl) ?_
  intro p_ e_ s_ m_ below_ meth_ c_ b_ T_ K hSP
  obtain ⟨X_ix, F_ix_chars, F_ix_starts, F_ix_buckets, F_ix_earlier, F_ix_hashes, F_ix_count, F_ix_lastFound, F_ix_repeating, F_ix_base, V_ca, V_sa, V_ba, V_ea, V_ha, lCH, lST, lBU, lEA, lHA⟩ := I
  obtain ⟨p, q, pn, t1, t2, t3, t4, t5, t6, t7⟩ := T
  have hk1 := own_add1 hk (by omega)
  refine k_aloadN K d_prog_87_method_13_code_0 (pc' := 1) rfl rfl rfl ?_
  refine k_getF K (w49 hw) Via.refl F_ix_starts d_prog_87_method_13_code_1 (pc' := 4) rfl ?_
  intro T75 K75
  refine k_iloadN K75 d_prog_87_method_13_code_4 (pc' := 5) rfl rfl ?_
  refine k_iaload K75 (j := kx) V_sa (own_in hk (show (33 : Int32).toInt = (33 : Nat) by decide) (by omega)) (by rw [own_clamp hk]; exact t1) d_prog_87_method_13_code_5 (pc' := 6) rfl ?_
  refine k_istoreN K75 d_prog_87_method_13_code_6 (pc' := 7) (L' := #[.val (.ref ix), .val (.int kx), .val (.ref a), .val (.int p), .unset]) rfl rfl ?_
  refine k_aloadN K75 d_prog_87_method_13_code_7 (pc' := 8) rfl rfl rfl ?_
  refine k_getF K75 (w49 hw) Via.refl F_ix_starts d_prog_87_method_13_code_8 (pc' := 11) rfl ?_
  intro T76 K76
  refine k_iloadN K76 d_prog_87_method_13_code_11 (pc' := 12) rfl rfl ?_
  refine k_iconst K76 (1 : Int32) d_prog_87_method_13_code_12 (pc' := 13) rfl rfl ?_
  refine k_iadd K76 d_prog_87_method_13_code_13 (pc' := 14) rfl ?_
  refine k_iaload K76 (j := (kx + (1 : Int32))) V_sa (own_in hk1 (show (33 : Int32).toInt = (33 : Nat) by decide) (by omega)) (by rw [own_clamp hk1]; exact t2) d_prog_87_method_13_code_14 (pc' := 15) rfl ?_
  have hqp : (q - p).toInt = (xs.length : Nat) := by rw [XT.sub32 (by rw [t4, t3]; constructor <;> omega), t4, t3]; omega
  refine k_iloadN K76 d_prog_87_method_13_code_15 (pc' := 16) rfl rfl ?_
  refine k_isub K76 d_prog_87_method_13_code_16 (pc' := 17) rfl ?_
  refine k_aloadN K76 d_prog_87_method_13_code_17 (pc' := 18) rfl rfl rfl ?_
  refine k_interfaceP K76 [] [(.int (q - p))] 1 (w71 hw) (w72 hw) (mvT K76.hZ (w73 hw)) (w74 hw) (w75 hw) (w76 hw) (w77 hw) (w78 hw) (w8 hw) (w79 hw) rfl (by decide) S.1 (by decide) pd___I_341 (c_length l Z a0 hw hEW n0 a e ke 0 n _ cs0 h0 K76.old S (Or.inl rfl) SC hcs) d_prog_87_method_13_code_18 nofun (pc' := 23) rfl rfl rfl rfl (Nat.le_of_eq rfl) (by decide) (by decide) (by decide) (by decide) ?_
  intro b77 T77 L77 K77 tr77
  show Goes p_.tables e_ below_ _ (T77.setTop (mkF m_ 23 #[.val (.ref ix), .val (.int kx), .val (.ref a), .val (.int p), .unset] [(.int (n >>> ((0 : Int32) &&& 31))), (.int (q - p))]))
  rw [own_shr0]
  refine k_icmp_eq K77 d_prog_87_method_13_code_23 (by decide) (pc' := 28) (pc2 := 26) (by decide) rfl (fun hc23 => ?_) (fun hc23 => ?_)
  · have hlen : xs.length = cs.length := by have r := congrArg Int32.toInt hc23; rw [hqp, hn] at r; omega
    refine k_iconst K77 (0 : Int32) d_prog_87_method_13_code_28 (pc' := 29) rfl rfl ?_
    refine k_istore K77 d_prog_87_method_13_code_29 (pc' := 31) (L' := #[.val (.ref ix), .val (.int kx), .val (.ref a), .val (.int p), .val (.int (0 : Int32))]) rfl rfl ?_
    have LOOP : ∀ (k : Nat) (ii : Int32) (j : Nat) (hj : ii.toInt = j) (hkk : j + k = xs.length) (hs : ∀ x (hx : x < j), xs[x] = cs[x]) (bl Tl : State) (hl : Heap) (Ll : List Loc), Wk p_ l e_ ({ frames := 4, cells := 0, slots := 0, locals := 54 } : Room) s_ m_ #[(.ref ix), (.int kx), (.ref a)] below_ meth_ c_ Z a0 EL0 n0 (⟨"com/example/tallyard/tallyard/scenario/formats/TextIndex", "holds", "(ILjava/lang/CharSequence;)Z"⟩ : MethodName) prog_87_method_13_code 5 (some .boolean) bl Tl hl Ll 0 0 → (hl = h0) → Goes p_.tables e_ below_ (FinW Z EL0 s_ n0 ({ frames := 4, cells := 0, slots := 0, locals := 54 } : Room) (Pu (some (.int (if xs = cs then 1 else 0))) h0)) (Tl.setTop (mkF m_ 31 #[.val (.ref ix), .val (.int kx), .val (.ref a), .val (.int p), .val (.int ii)] [])) := by
      intro k
      induction k with
      | zero =>
        intro ii j hj hkk hs bl Tl hl Ll Kl ehl
        subst ehl
        refine k_iload Kl d_prog_87_method_13_code_31 (pc' := 33) rfl rfl ?_
        refine k_aloadN Kl d_prog_87_method_13_code_33 (pc' := 34) rfl rfl rfl ?_
        refine k_interfaceP Kl [] [(.int ii)] 1 (w71 hw) (w72 hw) (mvT Kl.hZ (w73 hw)) (w74 hw) (w75 hw) (w76 hw) (w77 hw) (w78 hw) (w8 hw) (w79 hw) rfl (by decide) S.1 (by decide) pd___I_341 (c_length l Z a0 hw hEW n0 a e ke 0 n _ cs0 hl Kl.old S (Or.inl rfl) SC hcs) d_prog_87_method_13_code_34 nofun (pc' := 39) rfl rfl rfl rfl (Nat.le_of_eq rfl) (by decide) (by decide) (by decide) (by decide) ?_
        intro b79 T79 L79 K79 tr79
        show Goes p_.tables e_ below_ _ (T79.setTop (mkF m_ 39 #[.val (.ref ix), .val (.int kx), .val (.ref a), .val (.int p), .val (.int ii)] [(.int (n >>> ((0 : Int32) &&& 31))), (.int ii)]))
        rw [own_shr0]
        refine k_icmp_ge K79 d_prog_87_method_13_code_39 (by decide) (pc' := 70) (pc2 := 42) (by decide) rfl (fun hc39 => ?_) (fun q => absurd q (by rw [own_i32, hj, hn]; omega))
        refine k_iconst K79 (1 : Int32) d_prog_87_method_13_code_70 (pc' := 71) rfl rfl ?_
        exact k_nret K79 d_prog_87_method_13_code_71 rfl (by simp) rfl (fun sf ht => ⟨by rw [if_pos (List.ext_getElem hlen fun x h1 h2 => hs x (by omega))], rfl⟩) (by decide) (by decide)
      | succ k ih =>
        intro ii j hj hkk hs bl Tl hl Ll Kl ehl
        subst ehl
        have hjl : j < xs.length := by omega
        have hjc : j < cs.length := by omega
        have hpj : (p + ii).toInt = (pn + j : Nat) := by rw [XT.add32 (by rw [t3, hj]; constructor <;> omega), t3, hj]; omega
        refine k_iload Kl d_prog_87_method_13_code_31 (pc' := 33) rfl rfl ?_
        refine k_aloadN Kl d_prog_87_method_13_code_33 (pc' := 34) rfl rfl rfl ?_
        refine k_interfaceP Kl [] [(.int ii)] 1 (w71 hw) (w72 hw) (mvT Kl.hZ (w73 hw)) (w74 hw) (w75 hw) (w76 hw) (w77 hw) (w78 hw) (w8 hw) (w79 hw) rfl (by decide) S.1 (by decide) pd___I_341 (c_length l Z a0 hw hEW n0 a e ke 0 n _ cs0 hl Kl.old S (Or.inl rfl) SC hcs) d_prog_87_method_13_code_34 nofun (pc' := 39) rfl rfl rfl rfl (Nat.le_of_eq rfl) (by decide) (by decide) (by decide) (by decide) ?_
        intro b80 T80 L80 K80 tr80
        show Goes p_.tables e_ below_ _ (T80.setTop (mkF m_ 39 #[.val (.ref ix), .val (.int kx), .val (.ref a), .val (.int p), .val (.int ii)] [(.int (n >>> ((0 : Int32) &&& 31))), (.int ii)]))
        rw [own_shr0]
        refine k_icmp_ge K80 d_prog_87_method_13_code_39 (by decide) (pc' := 70) (pc2 := 42) (by decide) rfl (fun q => absurd (by rw [own_i32, hj, hn]; omega) q) (fun hc39 => ?_)
        refine k_aloadN K80 d_prog_87_method_13_code_42 (pc' := 43) rfl rfl rfl ?_
        refine k_getF K80 (w46 hw) Via.refl F_ix_chars d_prog_87_method_13_code_43 (pc' := 46) rfl ?_
        intro T81 K81
        refine k_iloadN K81 d_prog_87_method_13_code_46 (pc' := 47) rfl rfl ?_
        refine k_iload K81 d_prog_87_method_13_code_47 (pc' := 49) rfl rfl ?_
        refine k_iadd K81 d_prog_87_method_13_code_49 (pc' := 50) rfl ?_
        refine k_caload K81 (j := (p + ii)) V_ca (own_in hpj (show (256 : Int32).toInt = (256 : Nat) by decide) (by omega)) (by rw [own_clamp hpj]; exact t7 j hjl) d_prog_87_method_13_code_50 (pc' := 51) rfl ?_
        refine k_aloadN K81 d_prog_87_method_13_code_51 (pc' := 52) rfl rfl rfl ?_
        refine k_iload K81 d_prog_87_method_13_code_52 (pc' := 54) rfl rfl ?_
        refine k_interfaceP K81 [(.int ii)] [(.int xs[j])] 1 (w85 hw) (w86 hw) (mvT K81.hZ (w87 hw)) (w88 hw) (w89 hw) (w90 hw) (w91 hw) (w78 hw) (w8 hw) (w92 hw) rfl (by decide) S.1 (by decide) pd__I_C_577 (c_charAtL l Z a0 hw hEW n0 a e ke n cs ii j ff cs0 hl K81.old SF hff S hn hb hc hj hjc SC hcs) d_prog_87_method_13_code_54 nofun (pc' := 59) rfl rfl rfl rfl (Nat.le_of_eq rfl) (by decide) (by decide) (by decide) (by decide) ?_
        intro b82 T82 L82 K82 tr82
        show Goes p_.tables e_ below_ _ (T82.setTop (mkF m_ 59 #[.val (.ref ix), .val (.int kx), .val (.ref a), .val (.int p), .val (.int ii)] [(.int cs[j]), (.int xs[j])]))
        refine k_icmp_eq K82 d_prog_87_method_13_code_59 (by decide) (pc' := 64) (pc2 := 62) (by decide) rfl (fun hc59 => ?_) (fun hc59 => ?_)
        · refine k_iinc K82 (1 : Int32) d_prog_87_method_13_code_64 (pc' := 67) (L' := #[.val (.ref ix), .val (.int kx), .val (.ref a), .val (.int p), .val (.int (ii + (1 : Int32)))]) rfl rfl rfl rfl ?_
          refine k_goto K82 d_prog_87_method_13_code_67 (by decide) (pc' := 31) (by decide) ?_
          exact ih (ii + 1) (j + 1) (own_add1 hj (by omega)) (by omega) (fun x hx => by
            rcases Nat.lt_or_ge x j with r | r
            · exact hs x r
            · have e1 : x = j := by omega
              subst e1; exact hc59) _ _ _ _ K82 rfl
        · refine k_iconst K82 (0 : Int32) d_prog_87_method_13_code_62 (pc' := 63) rfl rfl ?_
          exact k_nret K82 d_prog_87_method_13_code_63 rfl (by simp) rfl (fun sf ht => ⟨by rw [if_neg fun r => hc59 (by simp only [r])], rfl⟩) (by decide) (by decide)
    exact LOOP xs.length (0 : Int32) 0 rfl (by omega) (fun x hx => absurd hx (Nat.not_lt_zero _)) _ _ _ _ K77 rfl
  · refine k_iconst K77 (0 : Int32) d_prog_87_method_13_code_26 (pc' := 27) rfl rfl ?_
    exact k_nret K77 d_prog_87_method_13_code_27 rfl (by simp) rfl (fun sf ht => ⟨by rw [if_neg fun r => hc23 (own_i32e (by rw [hqp, hn, r]))], rfl⟩) (by decide) (by decide)
theorem d_prog_87_method_11_code_0 : decode prog_87_method_11_code 0 = .ok (.aload_n 0, 1) := by decide +kernel
theorem d_prog_87_method_11_code_1 : decode prog_87_method_11_code 1 = .ok (.getfield 34, 3) := by decide +kernel
theorem d_prog_87_method_11_code_4 : decode prog_87_method_11_code 4 = .ok (.iload_n 2, 1) := by decide +kernel
theorem d_prog_87_method_11_code_5 : decode prog_87_method_11_code 5 = .ok (.aload_n 0, 1) := by decide +kernel
theorem d_prog_87_method_11_code_6 : decode prog_87_method_11_code 6 = .ok (.getfield 34, 3) := by decide +kernel
theorem d_prog_87_method_11_code_9 : decode prog_87_method_11_code 9 = .ok (.arraylength, 1) := by decide +kernel
theorem d_prog_87_method_11_code_10 : decode prog_87_method_11_code 10 = .ok (.iconst 1, 1) := by decide +kernel
theorem d_prog_87_method_11_code_11 : decode prog_87_method_11_code 11 = .ok (.isub, 1) := by decide +kernel
theorem d_prog_87_method_11_code_12 : decode prog_87_method_11_code 12 = .ok (.iand, 1) := by decide +kernel
theorem d_prog_87_method_11_code_13 : decode prog_87_method_11_code 13 = .ok (.laload, 1) := by decide +kernel
theorem d_prog_87_method_11_code_14 : decode prog_87_method_11_code 14 = .ok (.lstore_n 3, 1) := by decide +kernel
theorem d_prog_87_method_11_code_15 : decode prog_87_method_11_code 15 = .ok (.lload_n 3, 1) := by decide +kernel
theorem d_prog_87_method_11_code_16 : decode prog_87_method_11_code 16 = .ok (.lconst 0, 1) := by decide +kernel
theorem d_prog_87_method_11_code_17 : decode prog_87_method_11_code 17 = .ok (.lcmp, 1) := by decide +kernel
theorem d_prog_87_method_11_code_18 : decode prog_87_method_11_code 18 = .ok (.ifCond .eq 37, 3) := by decide +kernel
theorem d_prog_87_method_11_code_55 : decode prog_87_method_11_code 55 = .ok (.lload_n 3, 1) := by decide +kernel
theorem d_prog_87_method_11_code_56 : decode prog_87_method_11_code 56 = .ok (.l2i, 1) := by decide +kernel
theorem d_prog_87_method_11_code_57 : decode prog_87_method_11_code 57 = .ok (.iconst 1, 1) := by decide +kernel
theorem d_prog_87_method_11_code_58 : decode prog_87_method_11_code 58 = .ok (.isub, 1) := by decide +kernel
theorem d_prog_87_method_11_code_59 : decode prog_87_method_11_code 59 = .ok (.ireturn, 1) := by decide +kernel
theorem d_prog_87_method_11_code_21 : decode prog_87_method_11_code 21 = .ok (.lload_n 3, 1) := by decide +kernel
theorem d_prog_87_method_11_code_22 : decode prog_87_method_11_code 22 = .ok (.bipush 32, 2) := by decide +kernel
theorem d_prog_87_method_11_code_24 : decode prog_87_method_11_code 24 = .ok (.lushr, 1) := by decide +kernel
theorem d_prog_87_method_11_code_25 : decode prog_87_method_11_code 25 = .ok (.l2i, 1) := by decide +kernel
theorem d_prog_87_method_11_code_26 : decode prog_87_method_11_code 26 = .ok (.iload_n 2, 1) := by decide +kernel
theorem d_prog_87_method_11_code_27 : decode prog_87_method_11_code 27 = .ok (.if_icmp .ne 15, 3) := by decide +kernel
theorem d_prog_87_method_11_code_42 : decode prog_87_method_11_code 42 = .ok (.aload_n 0, 1) := by decide +kernel
theorem d_prog_87_method_11_code_43 : decode prog_87_method_11_code 43 = .ok (.getfield 38, 3) := by decide +kernel
theorem d_prog_87_method_11_code_46 : decode prog_87_method_11_code 46 = .ok (.lload_n 3, 1) := by decide +kernel
theorem d_prog_87_method_11_code_47 : decode prog_87_method_11_code 47 = .ok (.l2i, 1) := by decide +kernel
theorem d_prog_87_method_11_code_48 : decode prog_87_method_11_code 48 = .ok (.iconst 1, 1) := by decide +kernel
theorem d_prog_87_method_11_code_49 : decode prog_87_method_11_code 49 = .ok (.isub, 1) := by decide +kernel
theorem d_prog_87_method_11_code_50 : decode prog_87_method_11_code 50 = .ok (.laload, 1) := by decide +kernel
theorem d_prog_87_method_11_code_51 : decode prog_87_method_11_code 51 = .ok (.lstore_n 3, 1) := by decide +kernel
theorem d_prog_87_method_11_code_52 : decode prog_87_method_11_code 52 = .ok (.goto (-37), 3) := by decide +kernel
theorem d_prog_87_method_11_code_30 : decode prog_87_method_11_code 30 = .ok (.aload_n 0, 1) := by decide +kernel
theorem d_prog_87_method_11_code_31 : decode prog_87_method_11_code 31 = .ok (.lload_n 3, 1) := by decide +kernel
theorem d_prog_87_method_11_code_32 : decode prog_87_method_11_code 32 = .ok (.l2i, 1) := by decide +kernel
theorem d_prog_87_method_11_code_33 : decode prog_87_method_11_code 33 = .ok (.iconst 1, 1) := by decide +kernel
theorem d_prog_87_method_11_code_34 : decode prog_87_method_11_code 34 = .ok (.isub, 1) := by decide +kernel
theorem d_prog_87_method_11_code_35 : decode prog_87_method_11_code 35 = .ok (.aload_n 1, 1) := by decide +kernel
theorem d_prog_87_method_11_code_36 : decode prog_87_method_11_code 36 = .ok (.invokevirtual 59, 3) := by decide +kernel
theorem w151 {Z : State} {a0 : Array Value} (hw : Tb a0 Z) : (Jvm.Cond.methodLink "com/example/tallyard/tallyard/scenario/formats/TextIndex" (59 : Nat) ({ cls := "com/example/tallyard/tallyard/scenario/formats/TextIndex", name := "holds", desc := "(ILjava/lang/CharSequence;)Z" } : Jvm.MethodName)).before a0 Z = true := hw _ (List.mem_of_getElem? (i := 151) rfl)
theorem w154 {Z : State} {a0 : Array Value} (hw : Tb a0 Z) : (Jvm.Cond.code ({ cls := "com/example/tallyard/tallyard/scenario/formats/TextIndex", name := "holds", desc := "(ILjava/lang/CharSequence;)Z" } : Jvm.MethodName) prog_87_method_13_code (5 : Nat) (Option.some Jvm.ClassFile.FieldType.boolean)).before a0 Z = true := hw _ (List.mem_of_getElem? (i := 154) rfl)
theorem w153 {Z : State} {a0 : Array Value} (hw : Tb a0 Z) : (Jvm.Cond.privateMethod ({ cls := "com/example/tallyard/tallyard/scenario/formats/TextIndex", name := "holds", desc := "(ILjava/lang/CharSequence;)Z" } : Jvm.MethodName)).before a0 Z = true := hw _ (List.mem_of_getElem? (i := 153) rfl)
theorem w152 {Z : State} {a0 : Array Value} (hw : Tb a0 Z) : (Jvm.Cond.instanceMethod ({ cls := "com/example/tallyard/tallyard/scenario/formats/TextIndex", name := "holds", desc := "(ILjava/lang/CharSequence;)Z" } : Jvm.MethodName)).before a0 Z = true := hw _ (List.mem_of_getElem? (i := 152) rfl)
theorem pd__ILjava_lang_CharSequence__Z_7098 : parseMethodDescriptor "(ILjava/lang/CharSequence;)Z" = some ⟨[.int, (.object "java/lang/CharSequence")], some .boolean⟩ := by decide +kernel
theorem d_prog_87_method_11_code_39 : decode prog_87_method_11_code 39 = .ok (.ifCond .ne 16, 3) := by decide +kernel
set_option maxRecDepth 65536 in
set_option maxHeartbeats 40000000 in
theorem c_find (l : Launch) (Z : State) (a0 : Array Value) (hw : Tb a0 Z) (hEW : EW Z a0 EL0) (n0 : Nat) (ix ca sa ba ea ha : Addr) (kc ks kb ke_ kh : ClassId) (n_ lf rp : Int32) (base : Int64) (CH ST BU EA HA : List Value) (a e : Addr) (ke : ClassId) (n : Int32) (cs : List Int32) (ff : Value) (cs0 : Int32) (H : Int32) (e0 : Int64) (EN : List (Nat × Int32 × List Int32)) (h0 : Heap) (O : Old Z n0 h0) (SF : Sta Z Z.heap "jdk/internal/util/Preconditions" "SIOOBE_FORMATTER" "Ljava/util/function/BiFunction;" ff) (hff : ff.isRef = true) (I : Ixd Z h0 ix ca sa ba ea ha kc ks kb ke_ kh n_ lf rp base CH ST BU EA HA) (S : Str Z h0 a e ke 0 n (lat cs)) (hn : n.toInt = cs.length) (hb : cs.length ≤ 3) (hc : ∀ c ∈ cs, 0 ≤ c.toInt ∧ c.toInt < 256) (hbu : BU.getD (i63 H) (.long 0) = .long e0) (hch : Chn CH ST EA e0 EN) (SC : Sta Z Z.heap "java/lang/String" "COMPACT_STRINGS" "Z" (.int cs0)) (hcs : ¬ cs0 = 0) :
    Ct l Z EL0 n0 (⟨"com/example/tallyard/tallyard/scenario/formats/TextIndex", "find", "(Ljava/lang/CharSequence;I)I"⟩ : MethodName) prog_87_method_11_code 5 (some .int) ({ frames := 5, cells := 0, slots := 0, locals := 70 } : Room) #[(.ref ix), (.ref a), (.int H)] h0 [] (Pu (some (.int (fdV H cs EN))) h0) := by
  refine Ct.of (a0 := a0) #[.val (.ref ix), .val (.ref a), .val (.int H), .unset, .unset] hEW O (plainFor_of_name pl_com_example_tallyard_tallyard_scenario_formats_TextIndex) (fun m => by first | (simp [entryFrame, mkF, argsToLocals, Value.category]; done) | rfl) ?_
  intro p_ e_ s_ m_ below_ meth_ c_ b_ T_ K hSP
  have I0 := I
  obtain ⟨X_ix, F_ix_chars, F_ix_starts, F_ix_buckets, F_ix_earlier, F_ix_hashes, F_ix_count, F_ix_lastFound, F_ix_repeating, F_ix_base, V_ca, V_sa, V_ba, V_ea, V_ha, lCH, lST, lBU, lEA, lHA⟩ := I
  refine k_aloadN K d_prog_87_method_11_code_0 (pc' := 1) rfl rfl rfl ?_
  refine k_getF K (w52 hw) Via.refl F_ix_buckets d_prog_87_method_11_code_1 (pc' := 4) rfl ?_
  intro T83 K83
  refine k_iloadN K83 d_prog_87_method_11_code_4 (pc' := 5) rfl rfl ?_
  refine k_aloadN K83 d_prog_87_method_11_code_5 (pc' := 6) rfl rfl rfl ?_
  refine k_getF K83 (w52 hw) Via.refl F_ix_buckets d_prog_87_method_11_code_6 (pc' := 9) rfl ?_
  intro T84 K84
  refine k_len K84 V_ba d_prog_87_method_11_code_9 (pc' := 10) rfl ?_
  refine k_iconst K84 (1 : Int32) d_prog_87_method_11_code_10 (pc' := 11) rfl rfl ?_
  refine k_isub K84 d_prog_87_method_11_code_11 (pc' := 12) rfl ?_
  rw [show ((64 : Int32) - (1 : Int32)) = (63 : Int32) by decide]
  refine k_iand K84 d_prog_87_method_11_code_12 (pc' := 13) rfl ?_
  refine k_laload K84 (j := (H &&& (63 : Int32))) V_ba (own_i63 H) hbu d_prog_87_method_11_code_13 (pc' := 14) rfl ?_
  refine k_lstoreN K84 d_prog_87_method_11_code_14 (pc' := 15) (L' := #[.val (.ref ix), .val (.ref a), .val (.int H), .val (.long e0), .second]) rfl rfl ?_
  have LOOP : ∀ (k : Nat) (ev : Int64) (EL_ : List (Nat × Int32 × List Int32)) (hll : EL_.length = k) (hcc : Chn CH ST EA ev EL_) (hfd : fdV H cs EL_ = fdV H cs EN) (bl Tl : State) (hl : Heap) (Ll : List Loc), Wk p_ l e_ ({ frames := 5, cells := 0, slots := 0, locals := 70 } : Room) s_ m_ #[(.ref ix), (.ref a), (.int H)] below_ meth_ c_ Z a0 EL0 n0 (⟨"com/example/tallyard/tallyard/scenario/formats/TextIndex", "find", "(Ljava/lang/CharSequence;I)I"⟩ : MethodName) prog_87_method_11_code 5 (some .int) bl Tl hl Ll 0 0 → (hl = h0) → Goes p_.tables e_ below_ (FinW Z EL0 s_ n0 ({ frames := 5, cells := 0, slots := 0, locals := 70 } : Room) (Pu (some (.int (fdV H cs EN))) h0)) (Tl.setTop (mkF m_ 15 #[.val (.ref ix), .val (.ref a), .val (.int H), .val (.long ev), .second] [])) := by
    intro k
    induction k with
    | zero =>
      intro ev EL_ hll hcc hfd bl Tl hl Ll Kl ehl
      subst ehl
      obtain rfl : EL_ = [] := List.eq_nil_of_length_eq_zero hll
      have he : ev = 0 := hcc
      subst he
      refine k_lloadN Kl d_prog_87_method_11_code_15 (pc' := 16) rfl rfl ?_
      refine k_lconst Kl (0 : Int64) d_prog_87_method_11_code_16 (pc' := 17) rfl rfl ?_
      refine k_lcmp Kl d_prog_87_method_11_code_17 (pc' := 18) rfl ?_
      refine k_lif_eq Kl d_prog_87_method_11_code_18 (by decide) (pc' := 55) (pc2 := 21) (by decide) rfl (fun hc18 => ?_) (fun q => absurd rfl q)
      refine k_lloadN Kl d_prog_87_method_11_code_55 (pc' := 56) rfl rfl ?_
      refine k_l2i Kl d_prog_87_method_11_code_56 (pc' := 57) rfl ?_
      refine k_iconst Kl (1 : Int32) d_prog_87_method_11_code_57 (pc' := 58) rfl rfl ?_
      refine k_isub Kl d_prog_87_method_11_code_58 (pc' := 59) rfl ?_
      exact k_iret Kl d_prog_87_method_11_code_59 rfl (fun sf ht => ⟨by rw [← hfd]; rfl, rfl⟩) (by decide) (by decide)
    | succ k ih =>
      intro ev EL_ hll hcc hfd bl Tl hl Ll Kl ehl
      subst ehl
      obtain ⟨⟨kk, Hk, xs⟩, TL, rfl⟩ : ∃ x TL, EL_ = x :: TL := by
        cases EL_ with
        | nil => exact absurd hll (by simp)
        | cons x TL => exact ⟨x, TL, rfl⟩
      obtain ⟨he, hk2, T, e1, he1, hc1⟩ := hcc
      subst he
      have hkI := kI_at hk2
      have hl2 : TL.length = k := by simpa using hll
      refine k_lloadN Kl d_prog_87_method_11_code_15 (pc' := 16) rfl rfl ?_
      refine k_lconst Kl (0 : Int64) d_prog_87_method_11_code_16 (pc' := 17) rfl rfl ?_
      refine k_lcmp Kl d_prog_87_method_11_code_17 (pc' := 18) rfl ?_
      refine k_lif_eq Kl d_prog_87_method_11_code_18 (by decide) (pc' := 55) (pc2 := 21) (by decide) rfl (fun q => absurd q (own_ent0 Hk kk hk2)) (fun hc18 => ?_)
      refine k_lloadN Kl d_prog_87_method_11_code_21 (pc' := 22) rfl rfl ?_
      refine k_bipush Kl (32 : Int32) d_prog_87_method_11_code_22 (pc' := 24) rfl rfl ?_
      refine k_lushr Kl d_prog_87_method_11_code_24 (pc' := 25) rfl ?_
      refine k_l2i Kl d_prog_87_method_11_code_25 (pc' := 26) rfl ?_
      rw [own_entH Hk kk hk2]
      refine k_iloadN Kl d_prog_87_method_11_code_26 (pc' := 27) rfl rfl ?_
      refine k_icmp_ne Kl d_prog_87_method_11_code_27 (by decide) (pc' := 42) (pc2 := 30) (by decide) rfl (fun hc27 => ?_) (fun hc27 => ?_)
      · refine k_aloadN Kl d_prog_87_method_11_code_42 (pc' := 43) rfl rfl rfl ?_
        refine k_getF Kl (w54 hw) Via.refl F_ix_earlier d_prog_87_method_11_code_43 (pc' := 46) rfl ?_
        intro T86 K86
        refine k_lloadN K86 d_prog_87_method_11_code_46 (pc' := 47) rfl rfl ?_
        refine k_l2i K86 d_prog_87_method_11_code_47 (pc' := 48) rfl ?_
        refine k_iconst K86 (1 : Int32) d_prog_87_method_11_code_48 (pc' := 49) rfl rfl ?_
        refine k_isub K86 d_prog_87_method_11_code_49 (pc' := 50) rfl ?_
        rw [own_entK Hk kk hk2]
        refine k_laload K86 (j := (kI kk)) V_ea (own_in hkI (show (32 : Int32).toInt = (32 : Nat) by decide) (by omega)) (by rw [own_clamp hkI]; exact he1) d_prog_87_method_11_code_50 (pc' := 51) rfl ?_
        refine k_lstoreN K86 d_prog_87_method_11_code_51 (pc' := 52) (L' := #[.val (.ref ix), .val (.ref a), .val (.int H), .val (.long e1), .second]) rfl rfl ?_
        refine k_goto K86 d_prog_87_method_11_code_52 (by decide) (pc' := 15) (by decide) ?_
        exact ih e1 TL hl2 hc1 (by rw [← hfd, fdV, if_neg (fun r => hc27 r.1)]) _ _ _ _ K86 rfl
      · refine k_aloadN Kl d_prog_87_method_11_code_30 (pc' := 31) rfl rfl rfl ?_
        refine k_lloadN Kl d_prog_87_method_11_code_31 (pc' := 32) rfl rfl ?_
        refine k_l2i Kl d_prog_87_method_11_code_32 (pc' := 33) rfl ?_
        refine k_iconst Kl (1 : Int32) d_prog_87_method_11_code_33 (pc' := 34) rfl rfl ?_
        refine k_isub Kl d_prog_87_method_11_code_34 (pc' := 35) rfl ?_
        rw [own_entK Hk kk hk2]
        refine k_aloadN Kl d_prog_87_method_11_code_35 (pc' := 36) rfl rfl rfl ?_
        refine k_privateP Kl [(.int (kI kk)), (.ref a)] [] 0 (w151 hw) (w152 hw) (own_priv Kl rfl (w40 hw) (w152 hw) (w153 hw) (by decide)) (w153 hw) (w41 hw) (w154 hw) X_ix (by decide) pd__ILjava_lang_CharSequence__Z_7098 (c_holds l Z a0 hw hEW n0 ix ca sa ba ea ha kc ks kb ke_ kh n_ lf rp base CH ST BU EA HA a e ke n cs ff cs0 (kI kk) kk xs hl Kl.old SF hff I0 S hn hb hc hkI hk2 T SC hcs) d_prog_87_method_11_code_36 nofun (pc' := 39) rfl rfl rfl rfl (Nat.le_of_eq rfl) (by decide) (by decide) (by decide) (by decide) ?_
        intro b87 T87 L87 K87 tr87
        show Goes p_.tables e_ below_ _ (T87.setTop (mkF m_ 39 #[.val (.ref ix), .val (.ref a), .val (.int H), .val (.long (ent Hk (kI kk))), .second] [(.int (if xs = cs then 1 else 0))]))
        refine k_if_ne K87 d_prog_87_method_11_code_39 (by decide) (pc' := 55) (pc2 := 42) (by decide) rfl (fun hc39 => ?_) (fun hc39 => ?_)
        · have r := own_ifNe hc39
          refine k_lloadN K87 d_prog_87_method_11_code_55 (pc' := 56) rfl rfl ?_
          refine k_l2i K87 d_prog_87_method_11_code_56 (pc' := 57) rfl ?_
          refine k_iconst K87 (1 : Int32) d_prog_87_method_11_code_57 (pc' := 58) rfl rfl ?_
          refine k_isub K87 d_prog_87_method_11_code_58 (pc' := 59) rfl ?_
          rw [own_entK Hk kk hk2]
          exact k_iret K87 d_prog_87_method_11_code_59 rfl (fun sf ht => ⟨by rw [← hfd, fdV, if_pos ⟨hc27, r⟩], rfl⟩) (by decide) (by decide)
        · have r0 := own_ifEq hc39
          refine k_aloadN K87 d_prog_87_method_11_code_42 (pc' := 43) rfl rfl rfl ?_
          refine k_getF K87 (w54 hw) Via.refl F_ix_earlier d_prog_87_method_11_code_43 (pc' := 46) rfl ?_
          intro T88 K88
          refine k_lloadN K88 d_prog_87_method_11_code_46 (pc' := 47) rfl rfl ?_
          refine k_l2i K88 d_prog_87_method_11_code_47 (pc' := 48) rfl ?_
          refine k_iconst K88 (1 : Int32) d_prog_87_method_11_code_48 (pc' := 49) rfl rfl ?_
          refine k_isub K88 d_prog_87_method_11_code_49 (pc' := 50) rfl ?_
          rw [own_entK Hk kk hk2]
          refine k_laload K88 (j := (kI kk)) V_ea (own_in hkI (show (32 : Int32).toInt = (32 : Nat) by decide) (by omega)) (by rw [own_clamp hkI]; exact he1) d_prog_87_method_11_code_50 (pc' := 51) rfl ?_
          refine k_lstoreN K88 d_prog_87_method_11_code_51 (pc' := 52) (L' := #[.val (.ref ix), .val (.ref a), .val (.int H), .val (.long e1), .second]) rfl rfl ?_
          refine k_goto K88 d_prog_87_method_11_code_52 (by decide) (pc' := 15) (by decide) ?_
          exact ih e1 TL hl2 hc1 (by rw [← hfd, fdV, if_neg (fun r => r0 r.2)]) _ _ _ _ K88 rfl
  exact LOOP EN.length e0 EN rfl hch rfl _ _ _ _ K84 rfl
theorem own_l64 {p z : Int32} {i j : Nat} (hp : p.toInt = i) (hz : z.toInt = j) (h : i + j < 1000) : (p.toInt64 + z.toInt64).toInt = (i + j : Nat) := by
  rw [XT.add64 (by rw [Int32.toInt_toInt64, Int32.toInt_toInt64, hp, hz]; constructor <;> omega), Int32.toInt_toInt64, Int32.toInt_toInt64, hp, hz]; omega
theorem own_l2i (p z : Int32) : (p.toInt64 + z.toInt64).toInt32 = p + z := by simp
theorem own_cmpl {x : Int64} {m : Nat} {c : Int64} {k : Int} (hx : x.toInt = m) (hc : c.toInt = k) (h : (m : Int) ≤ k) : ¬ c < x := by
  rw [Int64.lt_iff_toInt_lt, hx, hc]; omega
theorem d_prog_87_method_14_code_0 : decode prog_87_method_14_code 0 = .ok (.aload_n 0, 1) := by decide +kernel
theorem d_prog_87_method_14_code_1 : decode prog_87_method_14_code 1 = .ok (.getfield 52, 3) := by decide +kernel
theorem w127 {Z : State} {a0 : Array Value} (hw : Tb a0 Z) : (Jvm.Cond.fieldLink "com/example/tallyard/tallyard/scenario/formats/TextIndex" (52 : Nat) "com/example/tallyard/tallyard/scenario/formats/TextIndex" "count" "I").before a0 Z = true := hw _ (List.mem_of_getElem? (i := 127) rfl)
theorem d_prog_87_method_14_code_4 : decode prog_87_method_14_code 4 = .ok (.ldc 119, 2) := by decide +kernel
theorem w129 {Z : State} {a0 : Array Value} (hw : Tb a0 Z) : (Jvm.Cond.constant "com/example/tallyard/tallyard/scenario/formats/TextIndex" (119 : Nat) (1073741824 : Int32)).before a0 Z = true := hw _ (List.mem_of_getElem? (i := 129) rfl)
theorem d_prog_87_method_14_code_6 : decode prog_87_method_14_code 6 = .ok (.if_icmp .ne 9, 3) := by decide +kernel
theorem d_prog_87_method_14_code_15 : decode prog_87_method_14_code 15 = .ok (.aload_n 0, 1) := by decide +kernel
theorem d_prog_87_method_14_code_16 : decode prog_87_method_14_code 16 = .ok (.getfield 30, 3) := by decide +kernel
theorem d_prog_87_method_14_code_19 : decode prog_87_method_14_code 19 = .ok (.aload_n 0, 1) := by decide +kernel
theorem d_prog_87_method_14_code_20 : decode prog_87_method_14_code 20 = .ok (.getfield 52, 3) := by decide +kernel
theorem d_prog_87_method_14_code_23 : decode prog_87_method_14_code 23 = .ok (.iaload, 1) := by decide +kernel
theorem d_prog_87_method_14_code_24 : decode prog_87_method_14_code 24 = .ok (.istore_n 2, 1) := by decide +kernel
theorem d_prog_87_method_14_code_25 : decode prog_87_method_14_code 25 = .ok (.iload_n 2, 1) := by decide +kernel
theorem d_prog_87_method_14_code_26 : decode prog_87_method_14_code 26 = .ok (.i2l, 1) := by decide +kernel
theorem d_prog_87_method_14_code_27 : decode prog_87_method_14_code 27 = .ok (.aload_n 1, 1) := by decide +kernel
theorem d_prog_87_method_14_code_28 : decode prog_87_method_14_code 28 = .ok (.invokeinterface 101 1, 5) := by decide +kernel
theorem d_prog_87_method_14_code_33 : decode prog_87_method_14_code 33 = .ok (.i2l, 1) := by decide +kernel
theorem d_prog_87_method_14_code_34 : decode prog_87_method_14_code 34 = .ok (.ladd, 1) := by decide +kernel
theorem d_prog_87_method_14_code_35 : decode prog_87_method_14_code 35 = .ok (.lstore_n 3, 1) := by decide +kernel
theorem d_prog_87_method_14_code_36 : decode prog_87_method_14_code 36 = .ok (.lload_n 3, 1) := by decide +kernel
theorem d_prog_87_method_14_code_37 : decode prog_87_method_14_code 37 = .ok (.ldc2_w 126, 3) := by decide +kernel
theorem w130 {Z : State} {a0 : Array Value} (hw : Tb a0 Z) : (Jvm.Cond.constantLong "com/example/tallyard/tallyard/scenario/formats/TextIndex" (126 : Nat) (2147483639 : Int64)).before a0 Z = true := hw _ (List.mem_of_getElem? (i := 130) rfl)
theorem d_prog_87_method_14_code_40 : decode prog_87_method_14_code 40 = .ok (.lcmp, 1) := by decide +kernel
theorem d_prog_87_method_14_code_41 : decode prog_87_method_14_code 41 = .ok (.ifCond .le 9, 3) := by decide +kernel
theorem d_prog_87_method_14_code_50 : decode prog_87_method_14_code 50 = .ok (.lload_n 3, 1) := by decide +kernel
theorem d_prog_87_method_14_code_51 : decode prog_87_method_14_code 51 = .ok (.aload_n 0, 1) := by decide +kernel
theorem d_prog_87_method_14_code_52 : decode prog_87_method_14_code 52 = .ok (.getfield 26, 3) := by decide +kernel
theorem d_prog_87_method_14_code_55 : decode prog_87_method_14_code 55 = .ok (.arraylength, 1) := by decide +kernel
theorem d_prog_87_method_14_code_56 : decode prog_87_method_14_code 56 = .ok (.i2l, 1) := by decide +kernel
theorem d_prog_87_method_14_code_57 : decode prog_87_method_14_code 57 = .ok (.lcmp, 1) := by decide +kernel
theorem d_prog_87_method_14_code_58 : decode prog_87_method_14_code 58 = .ok (.ifCond .le 35, 3) := by decide +kernel
theorem d_prog_87_method_14_code_93 : decode prog_87_method_14_code 93 = .ok (.iconst 0, 1) := by decide +kernel
theorem d_prog_87_method_14_code_94 : decode prog_87_method_14_code 94 = .ok (.istore 5, 2) := by decide +kernel
theorem d_prog_87_method_14_code_96 : decode prog_87_method_14_code 96 = .ok (.iload 5, 2) := by decide +kernel
theorem d_prog_87_method_14_code_98 : decode prog_87_method_14_code 98 = .ok (.aload_n 1, 1) := by decide +kernel
theorem d_prog_87_method_14_code_99 : decode prog_87_method_14_code 99 = .ok (.invokeinterface 101 1, 5) := by decide +kernel
theorem d_prog_87_method_14_code_104 : decode prog_87_method_14_code 104 = .ok (.if_icmp .ge 26, 3) := by decide +kernel
theorem d_prog_87_method_14_code_130 : decode prog_87_method_14_code 130 = .ok (.aload_n 0, 1) := by decide +kernel
theorem d_prog_87_method_14_code_131 : decode prog_87_method_14_code 131 = .ok (.getfield 52, 3) := by decide +kernel
theorem d_prog_87_method_14_code_134 : decode prog_87_method_14_code 134 = .ok (.iconst 2, 1) := by decide +kernel
theorem d_prog_87_method_14_code_135 : decode prog_87_method_14_code 135 = .ok (.iadd, 1) := by decide +kernel
theorem d_prog_87_method_14_code_136 : decode prog_87_method_14_code 136 = .ok (.aload_n 0, 1) := by decide +kernel
theorem d_prog_87_method_14_code_137 : decode prog_87_method_14_code 137 = .ok (.getfield 30, 3) := by decide +kernel
theorem d_prog_87_method_14_code_140 : decode prog_87_method_14_code 140 = .ok (.arraylength, 1) := by decide +kernel
theorem d_prog_87_method_14_code_141 : decode prog_87_method_14_code 141 = .ok (.if_icmp .le 23, 3) := by decide +kernel
theorem d_prog_87_method_14_code_164 : decode prog_87_method_14_code 164 = .ok (.aload_n 0, 1) := by decide +kernel
theorem d_prog_87_method_14_code_165 : decode prog_87_method_14_code 165 = .ok (.getfield 30, 3) := by decide +kernel
theorem d_prog_87_method_14_code_168 : decode prog_87_method_14_code 168 = .ok (.aload_n 0, 1) := by decide +kernel
theorem d_prog_87_method_14_code_169 : decode prog_87_method_14_code 169 = .ok (.getfield 52, 3) := by decide +kernel
theorem d_prog_87_method_14_code_172 : decode prog_87_method_14_code 172 = .ok (.iconst 1, 1) := by decide +kernel
theorem d_prog_87_method_14_code_173 : decode prog_87_method_14_code 173 = .ok (.iadd, 1) := by decide +kernel
theorem d_prog_87_method_14_code_174 : decode prog_87_method_14_code 174 = .ok (.lload_n 3, 1) := by decide +kernel
theorem d_prog_87_method_14_code_175 : decode prog_87_method_14_code 175 = .ok (.l2i, 1) := by decide +kernel
theorem d_prog_87_method_14_code_176 : decode prog_87_method_14_code 176 = .ok (.iastore, 1) := by decide +kernel
theorem d_prog_87_method_14_code_177 : decode prog_87_method_14_code 177 = .ok (.aload_n 0, 1) := by decide +kernel
theorem d_prog_87_method_14_code_178 : decode prog_87_method_14_code 178 = .ok (.dup, 1) := by decide +kernel
theorem d_prog_87_method_14_code_179 : decode prog_87_method_14_code 179 = .ok (.getfield 52, 3) := by decide +kernel
theorem d_prog_87_method_14_code_182 : decode prog_87_method_14_code 182 = .ok (.dup_x1, 1) := by decide +kernel
theorem d_prog_87_method_14_code_183 : decode prog_87_method_14_code 183 = .ok (.iconst 1, 1) := by decide +kernel
theorem d_prog_87_method_14_code_184 : decode prog_87_method_14_code 184 = .ok (.iadd, 1) := by decide +kernel
theorem d_prog_87_method_14_code_185 : decode prog_87_method_14_code 185 = .ok (.putfield 52, 3) := by decide +kernel
theorem d_prog_87_method_14_code_188 : decode prog_87_method_14_code 188 = .ok (.ireturn, 1) := by decide +kernel
theorem d_prog_87_method_14_code_107 : decode prog_87_method_14_code 107 = .ok (.aload_n 0, 1) := by decide +kernel
theorem d_prog_87_method_14_code_108 : decode prog_87_method_14_code 108 = .ok (.getfield 26, 3) := by decide +kernel
theorem d_prog_87_method_14_code_111 : decode prog_87_method_14_code 111 = .ok (.iload_n 2, 1) := by decide +kernel
theorem d_prog_87_method_14_code_112 : decode prog_87_method_14_code 112 = .ok (.iload 5, 2) := by decide +kernel
theorem d_prog_87_method_14_code_114 : decode prog_87_method_14_code 114 = .ok (.iadd, 1) := by decide +kernel
theorem d_prog_87_method_14_code_115 : decode prog_87_method_14_code 115 = .ok (.aload_n 1, 1) := by decide +kernel
theorem d_prog_87_method_14_code_116 : decode prog_87_method_14_code 116 = .ok (.iload 5, 2) := by decide +kernel
theorem d_prog_87_method_14_code_118 : decode prog_87_method_14_code 118 = .ok (.invokeinterface 107 2, 5) := by decide +kernel
theorem d_prog_87_method_14_code_123 : decode prog_87_method_14_code 123 = .ok (.castore, 1) := by decide +kernel
theorem d_prog_87_method_14_code_124 : decode prog_87_method_14_code 124 = .ok (.iinc 5 1, 3) := by decide +kernel
theorem d_prog_87_method_14_code_127 : decode prog_87_method_14_code 127 = .ok (.goto (-31), 3) := by decide +kernel
set_option maxRecDepth 65536 in
set_option maxHeartbeats 40000000 in
theorem c_keep (l : Launch) (Z : State) (a0 : Array Value) (hw : Tb a0 Z) (hEW : EW Z a0 EL0) (n0 : Nat) (ix ca sa ba ea ha : Addr) (kc ks kb ke_ kh : ClassId) (n_ lf rp : Int32) (base : Int64) (CH ST BU EA HA : List Value) (a e : Addr) (ke : ClassId) (n : Int32) (cs : List Int32) (ff : Value) (cs0 : Int32) (p : Int32) (nn pn : Nat) (h0 : Heap) (O : Old Z n0 h0) (SF : Sta Z Z.heap "jdk/internal/util/Preconditions" "SIOOBE_FORMATTER" "Ljava/util/function/BiFunction;" ff) (hff : ff.isRef = true) (I : Ixd Z h0 ix ca sa ba ea ha kc ks kb ke_ kh n_ lf rp base CH ST BU EA HA) (nd : [ix, ca, sa, ba, ea, ha].Nodup) (ga : ∀ y ∈ [ix, ca, sa, ba, ea, ha], n0 ≤ y) (S : Str Z h0 a e ke 0 n (lat cs)) (hn : n.toInt = cs.length) (hb : cs.length ≤ 3) (hc : ∀ c ∈ cs, 0 ≤ c.toInt ∧ c.toInt < 256) (hn_ : n_.toInt = nn) (hnn : nn < 2) (hst : ST.getD nn (.int 0) = .int p) (hp : p.toInt = pn) (hpn : pn ≤ 3) (nsx : ∀ y ∈ [ix, ca, sa, ba, ea, ha], a ≠ y ∧ e ≠ y) (SC : Sta Z Z.heap "java/lang/String" "COMPACT_STRINGS" "Z" (.int cs0)) (hcs : ¬ cs0 = 0) :
    Ct l Z EL0 n0 (⟨"com/example/tallyard/tallyard/scenario/formats/TextIndex", "keep", "(Ljava/lang/CharSequence;)I"⟩ : MethodName) prog_87_method_14_code 6 (some .int) ({ frames := 4, cells := 0, slots := 0, locals := 55 } : Room) #[(.ref ix), (.ref a)] h0 [ix, ca, sa, ba, ea, ha] (fun v h sf => v = some (.int n_) ∧ Keep h0 h [ix, ca, sa, ba, ea, ha] ∧ Ixd Z h ix ca sa ba ea ha kc ks kb ke_ kh (n_ + 1) lf rp base (wrC CH pn cs cs.length) (ST.set (nn + 1) (.int (p + n))) BU EA HA) := by
  refine Ct.of (a0 := a0) #[.val (.ref ix), .val (.ref a), .unset, .unset, .unset, .unset] hEW O (plainFor_of_name pl_com_example_tallyard_tallyard_scenario_formats_TextIndex) (fun m => by first | (simp [entryFrame, mkF, argsToLocals, Value.category]; done) | rfl) ?_
  intro p_ e_ s_ m_ below_ meth_ c_ b_ T_ K hSP
  obtain ⟨X_ix, F_ix_chars, F_ix_starts, F_ix_buckets, F_ix_earlier, F_ix_hashes, F_ix_count, F_ix_lastFound, F_ix_repeating, F_ix_base, V_ca, V_sa, V_ba, V_ea, V_ha, lCH, lST, lBU, lEA, lHA⟩ := I
  have KP := Keep.refl h0 [ix, ca, sa, ba, ea, ha]
  obtain ⟨ne_ix_ca, ne_ix_sa, ne_ix_ba, ne_ix_ea, ne_ix_ha, ne_ca_sa, ne_ca_ba, ne_ca_ea, ne_ca_ha, ne_sa_ba, ne_sa_ea, ne_sa_ha, ne_ba_ea, ne_ba_ha, ne_ea_ha⟩ := nd6 nd
  have ga_ix := ga ix (by simp)
  have sf_ix := hSP ix (by simp)
  have ga_ca := ga ca (by simp)
  have sf_ca := hSP ca (by simp)
  have ga_sa := ga sa (by simp)
  have sf_sa := hSP sa (by simp)
  have ga_ba := ga ba (by simp)
  have sf_ba := hSP ba (by simp)
  have ga_ea := ga ea (by simp)
  have sf_ea := hSP ea (by simp)
  have ga_ha := ga ha (by simp)
  have sf_ha := hSP ha (by simp)
  have ne_a_ix := (nsx ix (by simp)).1
  have ne_e_ix := (nsx ix (by simp)).2
  have ne_a_ca := (nsx ca (by simp)).1
  have ne_e_ca := (nsx ca (by simp)).2
  have ne_a_sa := (nsx sa (by simp)).1
  have ne_e_sa := (nsx sa (by simp)).2
  have ne_a_ba := (nsx ba (by simp)).1
  have ne_e_ba := (nsx ba (by simp)).2
  have ne_a_ea := (nsx ea (by simp)).1
  have ne_e_ea := (nsx ea (by simp)).2
  have ne_a_ha := (nsx ha (by simp)).1
  have ne_e_ha := (nsx ha (by simp)).2
  refine k_aloadN K d_prog_87_method_14_code_0 (pc' := 1) rfl rfl rfl ?_
  refine k_getF K (w127 hw) Via.refl F_ix_count d_prog_87_method_14_code_1 (pc' := 4) rfl ?_
  intro T89 K89
  refine k_ldcI K89 (w129 hw) d_prog_87_method_14_code_4 (pc' := 6) rfl ?_
  refine k_icmp_ne K89 d_prog_87_method_14_code_6 (by decide) (pc' := 15) (pc2 := 9) (by decide) rfl (fun hc6 => ?_) (fun q => absurd q (fun q => by have r := congrArg Int32.toInt q; rw [hn_, show (1073741824 : Int32).toInt = 1073741824 by decide] at r; omega))
  refine k_aloadN K89 d_prog_87_method_14_code_15 (pc' := 16) rfl rfl rfl ?_
  refine k_getF K89 (w49 hw) Via.refl F_ix_starts d_prog_87_method_14_code_16 (pc' := 19) rfl ?_
  intro T90 K90
  refine k_aloadN K90 d_prog_87_method_14_code_19 (pc' := 20) rfl rfl rfl ?_
  refine k_getF K90 (w127 hw) Via.refl F_ix_count d_prog_87_method_14_code_20 (pc' := 23) rfl ?_
  intro T91 K91
  refine k_iaload K91 (j := n_) V_sa (own_in hn_ (show (33 : Int32).toInt = (33 : Nat) by decide) (by omega)) (by rw [own_clamp hn_]; exact hst) d_prog_87_method_14_code_23 (pc' := 24) rfl ?_
  refine k_istoreN K91 d_prog_87_method_14_code_24 (pc' := 25) (L' := #[.val (.ref ix), .val (.ref a), .val (.int p), .unset, .unset, .unset]) rfl rfl ?_
  refine k_iloadN K91 d_prog_87_method_14_code_25 (pc' := 26) rfl rfl ?_
  refine k_i2l K91 d_prog_87_method_14_code_26 (pc' := 27) rfl ?_
  refine k_aloadN K91 d_prog_87_method_14_code_27 (pc' := 28) rfl rfl rfl ?_
  refine k_interfaceP K91 [] [(.long (p.toInt64))] 2 (w71 hw) (w72 hw) (mvT K91.hZ (w73 hw)) (w74 hw) (w75 hw) (w76 hw) (w77 hw) (w78 hw) (w8 hw) (w79 hw) rfl (by decide) S.1 (by decide) pd___I_341 (c_length l Z a0 hw hEW n0 a e ke 0 n _ cs0 h0 K91.old S (Or.inl rfl) SC hcs) d_prog_87_method_14_code_28 nofun (pc' := 33) rfl rfl rfl rfl (Nat.le_of_eq rfl) (by decide) (by decide) (by decide) (by decide) ?_
  intro b92 T92 L92 K92 tr92
  show Goes p_.tables e_ below_ _ (T92.setTop (mkF m_ 33 #[.val (.ref ix), .val (.ref a), .val (.int p), .unset, .unset, .unset] [(.int (n >>> ((0 : Int32) &&& 31))), (.long (p.toInt64))]))
  replace sf_ix := tr92 ix X_ix.lt sf_ix
  replace sf_ca := tr92 ca V_ca.lt sf_ca
  replace sf_sa := tr92 sa V_sa.lt sf_sa
  replace sf_ba := tr92 ba V_ba.lt sf_ba
  replace sf_ea := tr92 ea V_ea.lt sf_ea
  replace sf_ha := tr92 ha V_ha.lt sf_ha
  rw [own_shr0]
  have h64 := own_l64 hp hn (by omega)
  refine k_i2l K92 d_prog_87_method_14_code_33 (pc' := 34) rfl ?_
  refine k_ladd K92 d_prog_87_method_14_code_34 (pc' := 35) rfl ?_
  refine k_lstoreN K92 d_prog_87_method_14_code_35 (pc' := 36) (L' := #[.val (.ref ix), .val (.ref a), .val (.int p), .val (.long ((p.toInt64) + (n.toInt64))), .second, .unset]) rfl rfl ?_
  refine k_lloadN K92 d_prog_87_method_14_code_36 (pc' := 37) rfl rfl ?_
  refine k_ldcJ K92 (w130 hw) d_prog_87_method_14_code_37 (pc' := 40) rfl ?_
  refine k_lcmp K92 d_prog_87_method_14_code_40 (pc' := 41) rfl ?_
  refine k_lif_le K92 d_prog_87_method_14_code_41 (by decide) (pc' := 50) (pc2 := 44) (by decide) rfl (fun hc41 => ?_) (fun q => absurd q (own_cmpl h64 (show (2147483639 : Int64).toInt = 2147483639 by decide) (by omega)))
  refine k_lloadN K92 d_prog_87_method_14_code_50 (pc' := 51) rfl rfl ?_
  refine k_aloadN K92 d_prog_87_method_14_code_51 (pc' := 52) rfl rfl rfl ?_
  refine k_getF K92 (w46 hw) Via.refl F_ix_chars d_prog_87_method_14_code_52 (pc' := 55) rfl ?_
  intro T93 K93
  refine k_len K93 V_ca d_prog_87_method_14_code_55 (pc' := 56) rfl ?_
  refine k_i2l K93 d_prog_87_method_14_code_56 (pc' := 57) rfl ?_
  refine k_lcmp K93 d_prog_87_method_14_code_57 (pc' := 58) rfl ?_
  refine k_lif_le K93 d_prog_87_method_14_code_58 (by decide) (pc' := 93) (pc2 := 61) (by decide) rfl (fun hc58 => ?_) (fun q => absurd q (own_cmpl h64 (show ((256 : Int32).toInt64).toInt = 256 by decide) (by omega)))
  refine k_iconst K93 (0 : Int32) d_prog_87_method_14_code_93 (pc' := 94) rfl rfl ?_
  refine k_istore K93 d_prog_87_method_14_code_94 (pc' := 96) (L' := #[.val (.ref ix), .val (.ref a), .val (.int p), .val (.long ((p.toInt64) + (n.toInt64))), .second, .val (.int (0 : Int32))]) rfl rfl ?_
  have LOOP : ∀ (k : Nat) (ii : Int32) (j : Nat) (hj : ii.toInt = j) (hk : j + k = cs.length) (bl Tl : State) (hl : Heap) (Ll : List Loc), Wk p_ l e_ ({ frames := 4, cells := 0, slots := 0, locals := 55 } : Room) s_ m_ #[(.ref ix), (.ref a)] below_ meth_ c_ Z a0 EL0 n0 (⟨"com/example/tallyard/tallyard/scenario/formats/TextIndex", "keep", "(Ljava/lang/CharSequence;)I"⟩ : MethodName) prog_87_method_14_code 6 (some .int) bl Tl hl Ll 0 0 → (Exa Z hl ix "com/example/tallyard/tallyard/scenario/formats/TextIndex") → (Fld Z hl ix "com/example/tallyard/tallyard/scenario/formats/TextIndex" "chars" "[C" (.ref ca)) → (Arv Z hl ca kc .char 256 (wrC CH pn cs j) (.int 0)) → (Fld Z hl ix "com/example/tallyard/tallyard/scenario/formats/TextIndex" "starts" "[I" (.ref sa)) → (Arv Z hl sa ks .int 33 ST (.int 0)) → (Fld Z hl ix "com/example/tallyard/tallyard/scenario/formats/TextIndex" "buckets" "[J" (.ref ba)) → (Arv Z hl ba kb .long 64 BU (.long 0)) → (Fld Z hl ix "com/example/tallyard/tallyard/scenario/formats/TextIndex" "earlier" "[J" (.ref ea)) → (Arv Z hl ea ke_ .long 32 EA (.long 0)) → (Fld Z hl ix "com/example/tallyard/tallyard/scenario/formats/TextIndex" "hashes" "[I" (.ref ha)) → (Arv Z hl ha kh .int 32 HA (.int 0)) → (Fld Z hl ix "com/example/tallyard/tallyard/scenario/formats/TextIndex" "count" "I" (.int n_)) → (Fld Z hl ix "com/example/tallyard/tallyard/scenario/formats/TextIndex" "lastFound" "I" (.int lf)) → (Fld Z hl ix "com/example/tallyard/tallyard/scenario/formats/TextIndex" "repeating" "Z" (.int rp)) → (Fld Z hl ix "com/example/tallyard/tallyard/scenario/formats/TextIndex" "base" "J" (.long base)) → (Str Z hl a e ke 0 n (lat cs)) → (Keep h0 hl [ix, ca, sa, ba, ea, ha]) → (Sfe Z EL0 bl.vm hl ix) → (Sfe Z EL0 bl.vm hl ca) → (Sfe Z EL0 bl.vm hl sa) → (Sfe Z EL0 bl.vm hl ba) → (Sfe Z EL0 bl.vm hl ea) → (Sfe Z EL0 bl.vm hl ha) → Goes p_.tables e_ below_ (FinW Z EL0 s_ n0 ({ frames := 4, cells := 0, slots := 0, locals := 55 } : Room) (fun v h sf => v = some (.int n_) ∧ Keep h0 h [ix, ca, sa, ba, ea, ha] ∧ Ixd Z h ix ca sa ba ea ha kc ks kb ke_ kh (n_ + 1) lf rp base (wrC CH pn cs cs.length) (ST.set (nn + 1) (.int (p + n))) BU EA HA)) (Tl.setTop (mkF m_ 96 #[.val (.ref ix), .val (.ref a), .val (.int p), .val (.long ((p.toInt64) + (n.toInt64))), .second, .val (.int ii)] [])) := by
    intro k
    induction k with
    | zero =>
      intro ii j hj hk bl Tl hl Ll Kl X_ix F_ix_chars V_ca F_ix_starts V_sa F_ix_buckets V_ba F_ix_earlier V_ea F_ix_hashes V_ha F_ix_count F_ix_lastFound F_ix_repeating F_ix_base S KP sf_ix sf_ca sf_sa sf_ba sf_ea sf_ha
      obtain rfl : j = cs.length := by omega
      refine k_iload Kl d_prog_87_method_14_code_96 (pc' := 98) rfl rfl ?_
      refine k_aloadN Kl d_prog_87_method_14_code_98 (pc' := 99) rfl rfl rfl ?_
      refine k_interfaceP Kl [] [(.int ii)] 1 (w71 hw) (w72 hw) (mvT Kl.hZ (w73 hw)) (w74 hw) (w75 hw) (w76 hw) (w77 hw) (w78 hw) (w8 hw) (w79 hw) rfl (by decide) S.1 (by decide) pd___I_341 (c_length l Z a0 hw hEW n0 a e ke 0 n _ cs0 hl Kl.old S (Or.inl rfl) SC hcs) d_prog_87_method_14_code_99 nofun (pc' := 104) rfl rfl rfl rfl (Nat.le_of_eq rfl) (by decide) (by decide) (by decide) (by decide) ?_
      intro b95 T95 L95 K95 tr95
      show Goes p_.tables e_ below_ _ (T95.setTop (mkF m_ 104 #[.val (.ref ix), .val (.ref a), .val (.int p), .val (.long ((p.toInt64) + (n.toInt64))), .second, .val (.int ii)] [(.int (n >>> ((0 : Int32) &&& 31))), (.int ii)]))
      replace sf_ix := tr95 ix X_ix.lt sf_ix
      replace sf_ca := tr95 ca V_ca.lt sf_ca
      replace sf_sa := tr95 sa V_sa.lt sf_sa
      replace sf_ba := tr95 ba V_ba.lt sf_ba
      replace sf_ea := tr95 ea V_ea.lt sf_ea
      replace sf_ha := tr95 ha V_ha.lt sf_ha
      rw [own_shr0]
      refine k_icmp_ge K95 d_prog_87_method_14_code_104 (by decide) (pc' := 130) (pc2 := 107) (by decide) rfl (fun hc104 => ?_) (fun q => absurd q (by rw [own_i32, hj, hn]; omega))
      refine k_aloadN K95 d_prog_87_method_14_code_130 (pc' := 131) rfl rfl rfl ?_
      refine k_getF K95 (w127 hw) Via.refl F_ix_count d_prog_87_method_14_code_131 (pc' := 134) rfl ?_
      intro T96 K96
      refine k_iconst K96 (2 : Int32) d_prog_87_method_14_code_134 (pc' := 135) rfl rfl ?_
      refine k_iadd K96 d_prog_87_method_14_code_135 (pc' := 136) rfl ?_
      refine k_aloadN K96 d_prog_87_method_14_code_136 (pc' := 137) rfl rfl rfl ?_
      refine k_getF K96 (w49 hw) Via.refl F_ix_starts d_prog_87_method_14_code_137 (pc' := 140) rfl ?_
      intro T97 K97
      refine k_len K97 V_sa d_prog_87_method_14_code_140 (pc' := 141) rfl ?_
      refine k_icmp_le K97 d_prog_87_method_14_code_141 (by decide) (pc' := 164) (pc2 := 144) (by decide) rfl (fun hc141 => ?_) (fun q => absurd q (by rw [own_i32, XT.add32 (by rw [hn_, show (2 : Int32).toInt = 2 by decide]; constructor <;> omega), hn_, show (2 : Int32).toInt = 2 by decide, show (33 : Int32).toInt = 33 by decide]; omega))
      have hn1 := own_add1 hn_ (by omega)
      refine k_aloadN K97 d_prog_87_method_14_code_164 (pc' := 165) rfl rfl rfl ?_
      refine k_getF K97 (w49 hw) Via.refl F_ix_starts d_prog_87_method_14_code_165 (pc' := 168) rfl ?_
      intro T98 K98
      refine k_aloadN K98 d_prog_87_method_14_code_168 (pc' := 169) rfl rfl rfl ?_
      refine k_getF K98 (w127 hw) Via.refl F_ix_count d_prog_87_method_14_code_169 (pc' := 172) rfl ?_
      intro T99 K99
      refine k_iconst K99 (1 : Int32) d_prog_87_method_14_code_172 (pc' := 173) rfl rfl ?_
      refine k_iadd K99 d_prog_87_method_14_code_173 (pc' := 174) rfl ?_
      refine k_lloadN K99 d_prog_87_method_14_code_174 (pc' := 175) rfl rfl ?_
      refine k_l2i K99 d_prog_87_method_14_code_175 (pc' := 176) rfl ?_
      rw [own_l2i]
      refine k_iastore K99 (j := (n_ + (1 : Int32))) V_sa (own_in hn1 (show (33 : Int32).toInt = (33 : Nat) by decide) (by omega)) (by rw [own_clamp hn1, lST]; omega) ga_sa sf_sa d_prog_87_method_14_code_176 (pc' := 177) rfl ?_
      intro T100 h100 K100 W100 tr100 V100
      replace sf_ix := tr100 ix X_ix.lt sf_ix
      replace sf_ca := tr100 ca V_ca.lt sf_ca
      replace sf_sa := tr100 sa V_sa.lt sf_sa
      replace sf_ba := tr100 ba V_ba.lt sf_ba
      replace sf_ea := tr100 ea V_ea.lt sf_ea
      replace sf_ha := tr100 ha V_ha.lt sf_ha
      replace X_ix := X_ix.wr W100
      replace F_ix_chars := F_ix_chars.other W100 (Or.inl ne_ix_sa)
      replace V_ca := V_ca.other W100 ne_ca_sa
      replace F_ix_starts := F_ix_starts.other W100 (Or.inl ne_ix_sa)
      replace F_ix_buckets := F_ix_buckets.other W100 (Or.inl ne_ix_sa)
      replace V_ba := V_ba.other W100 (Ne.symm ne_sa_ba)
      replace F_ix_earlier := F_ix_earlier.other W100 (Or.inl ne_ix_sa)
      replace V_ea := V_ea.other W100 (Ne.symm ne_sa_ea)
      replace F_ix_hashes := F_ix_hashes.other W100 (Or.inl ne_ix_sa)
      replace V_ha := V_ha.other W100 (Ne.symm ne_sa_ha)
      replace F_ix_count := F_ix_count.other W100 (Or.inl ne_ix_sa)
      replace F_ix_lastFound := F_ix_lastFound.other W100 (Or.inl ne_ix_sa)
      replace F_ix_repeating := F_ix_repeating.other W100 (Or.inl ne_ix_sa)
      replace F_ix_base := F_ix_base.other W100 (Or.inl ne_ix_sa)
      replace S := S.other W100 ne_a_sa ne_e_sa
      replace KP := KP.wr W100 (Or.inl (by simp))
      replace V_sa := V100
      rw [own_clamp hn1] at V_sa
      refine k_aloadN K100 d_prog_87_method_14_code_177 (pc' := 178) rfl rfl rfl ?_
      refine k_dup K100 d_prog_87_method_14_code_178 (pc' := 179) rfl rfl ?_
      refine k_getF K100 (w127 hw) Via.refl F_ix_count d_prog_87_method_14_code_179 (pc' := 182) rfl ?_
      intro T101 K101
      refine k_dup_x1 K101 d_prog_87_method_14_code_182 (pc' := 183) rfl rfl rfl ?_
      refine k_iconst K101 (1 : Int32) d_prog_87_method_14_code_183 (pc' := 184) rfl rfl ?_
      refine k_iadd K101 d_prog_87_method_14_code_184 (pc' := 185) rfl ?_
      refine k_putF K101 (w127 hw) Via.refl F_ix_count X_ix (Or.inl (w128 hw)) (w40 hw) (ty := .int) (by decide) rfl rfl ga_ix sf_ix d_prog_87_method_14_code_185 (pc' := 188) rfl ?_
      intro T102 h102 K102 W102 tr102
      have F102 := F_ix_count.same W102
      replace sf_ix := tr102 ix X_ix.lt sf_ix
      replace sf_ca := tr102 ca V_ca.lt sf_ca
      replace sf_sa := tr102 sa V_sa.lt sf_sa
      replace sf_ba := tr102 ba V_ba.lt sf_ba
      replace sf_ea := tr102 ea V_ea.lt sf_ea
      replace sf_ha := tr102 ha V_ha.lt sf_ha
      replace X_ix := X_ix.wr W102
      replace F_ix_chars := F_ix_chars.other W102 (Or.inr (slot_ne (Or.inl (w47 hw)) (Or.inl (w128 hw)) (by decide) (t := (.array .char)) (t' := .int) (by decide) (by decide)))
      replace V_ca := V_ca.other W102 (Ne.symm ne_ix_ca)
      replace F_ix_starts := F_ix_starts.other W102 (Or.inr (slot_ne (Or.inl (w50 hw)) (Or.inl (w128 hw)) (by decide) (t := (.array .int)) (t' := .int) (by decide) (by decide)))
      replace V_sa := V_sa.other W102 (Ne.symm ne_ix_sa)
      replace F_ix_buckets := F_ix_buckets.other W102 (Or.inr (slot_ne (Or.inl (w53 hw)) (Or.inl (w128 hw)) (by decide) (t := (.array .long)) (t' := .int) (by decide) (by decide)))
      replace V_ba := V_ba.other W102 (Ne.symm ne_ix_ba)
      replace F_ix_earlier := F_ix_earlier.other W102 (Or.inr (slot_ne (Or.inl (w55 hw)) (Or.inl (w128 hw)) (by decide) (t := (.array .long)) (t' := .int) (by decide) (by decide)))
      replace V_ea := V_ea.other W102 (Ne.symm ne_ix_ea)
      replace F_ix_hashes := F_ix_hashes.other W102 (Or.inr (slot_ne (Or.inl (w57 hw)) (Or.inl (w128 hw)) (by decide) (t := (.array .int)) (t' := .int) (by decide) (by decide)))
      replace V_ha := V_ha.other W102 (Ne.symm ne_ix_ha)
      replace F_ix_lastFound := F_ix_lastFound.other W102 (Or.inr (slot_ne (Or.inl (w59 hw)) (Or.inl (w128 hw)) (by decide) (t := .int) (t' := .int) (by decide) (by decide)))
      replace F_ix_repeating := F_ix_repeating.other W102 (Or.inr (slot_ne (Or.inl (w150 hw)) (Or.inl (w128 hw)) (by decide) (t := .boolean) (t' := .int) (by decide) (by decide)))
      replace F_ix_base := F_ix_base.other W102 (Or.inr (slot_ne (Or.inr (w61 hw)) (Or.inl (w128 hw)) (by decide) (t := .long) (t' := .int) (by decide) (by decide)))
      replace S := S.other W102 ne_a_ix ne_e_ix
      replace KP := KP.wr W102 (Or.inl (by simp))
      replace F_ix_count := F102
      have lCH' : (wrC CH pn cs cs.length).length = 256 := by rw [wrC_len, lCH]
      have lST' : (ST.set (nn + 1) (.int (p + n))).length = 33 := by rw [List.length_set, lST]
      exact k_iret K102 d_prog_87_method_14_code_188 rfl (fun sf ht => ⟨rfl, KP, ⟨X_ix, F_ix_chars, F_ix_starts, F_ix_buckets, F_ix_earlier, F_ix_hashes, F_ix_count, F_ix_lastFound, F_ix_repeating, F_ix_base, V_ca, V_sa, V_ba, V_ea, V_ha, lCH', lST', lBU, lEA, lHA⟩⟩) (by decide) (by decide)
    | succ k ih =>
      intro ii j hj hk bl Tl hl Ll Kl X_ix F_ix_chars V_ca F_ix_starts V_sa F_ix_buckets V_ba F_ix_earlier V_ea F_ix_hashes V_ha F_ix_count F_ix_lastFound F_ix_repeating F_ix_base S KP sf_ix sf_ca sf_sa sf_ba sf_ea sf_ha
      have hjl : j < cs.length := by omega
      have hpj : (p + ii).toInt = (pn + j : Nat) := by rw [XT.add32 (by rw [hp, hj]; constructor <;> omega), hp, hj]; omega
      have hcj := hc cs[j] (List.getElem_mem hjl)
      refine k_iload Kl d_prog_87_method_14_code_96 (pc' := 98) rfl rfl ?_
      refine k_aloadN Kl d_prog_87_method_14_code_98 (pc' := 99) rfl rfl rfl ?_
      refine k_interfaceP Kl [] [(.int ii)] 1 (w71 hw) (w72 hw) (mvT Kl.hZ (w73 hw)) (w74 hw) (w75 hw) (w76 hw) (w77 hw) (w78 hw) (w8 hw) (w79 hw) rfl (by decide) S.1 (by decide) pd___I_341 (c_length l Z a0 hw hEW n0 a e ke 0 n _ cs0 hl Kl.old S (Or.inl rfl) SC hcs) d_prog_87_method_14_code_99 nofun (pc' := 104) rfl rfl rfl rfl (Nat.le_of_eq rfl) (by decide) (by decide) (by decide) (by decide) ?_
      intro b103 T103 L103 K103 tr103
      show Goes p_.tables e_ below_ _ (T103.setTop (mkF m_ 104 #[.val (.ref ix), .val (.ref a), .val (.int p), .val (.long ((p.toInt64) + (n.toInt64))), .second, .val (.int ii)] [(.int (n >>> ((0 : Int32) &&& 31))), (.int ii)]))
      replace sf_ix := tr103 ix X_ix.lt sf_ix
      replace sf_ca := tr103 ca V_ca.lt sf_ca
      replace sf_sa := tr103 sa V_sa.lt sf_sa
      replace sf_ba := tr103 ba V_ba.lt sf_ba
      replace sf_ea := tr103 ea V_ea.lt sf_ea
      replace sf_ha := tr103 ha V_ha.lt sf_ha
      rw [own_shr0]
      refine k_icmp_ge K103 d_prog_87_method_14_code_104 (by decide) (pc' := 130) (pc2 := 107) (by decide) rfl (fun q => absurd (by rw [own_i32, hj, hn]; omega) q) (fun hc104 => ?_)
      refine k_aloadN K103 d_prog_87_method_14_code_107 (pc' := 108) rfl rfl rfl ?_
      refine k_getF K103 (w46 hw) Via.refl F_ix_chars d_prog_87_method_14_code_108 (pc' := 111) rfl ?_
      intro T104 K104
      refine k_iloadN K104 d_prog_87_method_14_code_111 (pc' := 112) rfl rfl ?_
      refine k_iload K104 d_prog_87_method_14_code_112 (pc' := 114) rfl rfl ?_
      refine k_iadd K104 d_prog_87_method_14_code_114 (pc' := 115) rfl ?_
      refine k_aloadN K104 d_prog_87_method_14_code_115 (pc' := 116) rfl rfl rfl ?_
      refine k_iload K104 d_prog_87_method_14_code_116 (pc' := 118) rfl rfl ?_
      refine k_interfaceP K104 [(.int ii)] [(.int (p + ii)), (.ref ca)] 2 (w85 hw) (w86 hw) (mvT K104.hZ (w87 hw)) (w88 hw) (w89 hw) (w90 hw) (w91 hw) (w78 hw) (w8 hw) (w92 hw) rfl (by decide) S.1 (by decide) pd__I_C_577 (c_charAtL l Z a0 hw hEW n0 a e ke n cs ii j ff cs0 hl K104.old SF hff S hn hb hc hj hjl SC hcs) d_prog_87_method_14_code_118 nofun (pc' := 123) rfl rfl rfl rfl (Nat.le_of_eq rfl) (by decide) (by decide) (by decide) (by decide) ?_
      intro b105 T105 L105 K105 tr105
      show Goes p_.tables e_ below_ _ (T105.setTop (mkF m_ 123 #[.val (.ref ix), .val (.ref a), .val (.int p), .val (.long ((p.toInt64) + (n.toInt64))), .second, .val (.int ii)] [(.int cs[j]), (.int (p + ii)), (.ref ca)]))
      replace sf_ix := tr105 ix X_ix.lt sf_ix
      replace sf_ca := tr105 ca V_ca.lt sf_ca
      replace sf_sa := tr105 sa V_sa.lt sf_sa
      replace sf_ba := tr105 ba V_ba.lt sf_ba
      replace sf_ea := tr105 ea V_ea.lt sf_ea
      replace sf_ha := tr105 ha V_ha.lt sf_ha
      refine k_castore K105 (j := (p + ii)) V_ca (own_in hpj (show (256 : Int32).toInt = (256 : Nat) by decide) (by omega)) (by rw [own_clamp hpj, wrC_len, lCH]; omega) ga_ca sf_ca d_prog_87_method_14_code_123 (pc' := 124) rfl ?_
      intro T106 h106 K106 W106 tr106 V106
      replace sf_ix := tr106 ix X_ix.lt sf_ix
      replace sf_ca := tr106 ca V_ca.lt sf_ca
      replace sf_sa := tr106 sa V_sa.lt sf_sa
      replace sf_ba := tr106 ba V_ba.lt sf_ba
      replace sf_ea := tr106 ea V_ea.lt sf_ea
      replace sf_ha := tr106 ha V_ha.lt sf_ha
      replace X_ix := X_ix.wr W106
      replace F_ix_chars := F_ix_chars.other W106 (Or.inl ne_ix_ca)
      replace F_ix_starts := F_ix_starts.other W106 (Or.inl ne_ix_ca)
      replace V_sa := V_sa.other W106 (Ne.symm ne_ca_sa)
      replace F_ix_buckets := F_ix_buckets.other W106 (Or.inl ne_ix_ca)
      replace V_ba := V_ba.other W106 (Ne.symm ne_ca_ba)
      replace F_ix_earlier := F_ix_earlier.other W106 (Or.inl ne_ix_ca)
      replace V_ea := V_ea.other W106 (Ne.symm ne_ca_ea)
      replace F_ix_hashes := F_ix_hashes.other W106 (Or.inl ne_ix_ca)
      replace V_ha := V_ha.other W106 (Ne.symm ne_ca_ha)
      replace F_ix_count := F_ix_count.other W106 (Or.inl ne_ix_ca)
      replace F_ix_lastFound := F_ix_lastFound.other W106 (Or.inl ne_ix_ca)
      replace F_ix_repeating := F_ix_repeating.other W106 (Or.inl ne_ix_ca)
      replace F_ix_base := F_ix_base.other W106 (Or.inl ne_ix_ca)
      replace S := S.other W106 ne_a_ca ne_e_ca
      replace KP := KP.wr W106 (Or.inl (by simp))
      replace V_ca := V106
      rw [own_clamp hpj, show nar .char cs[j] = cs[j] from Value.int.inj (own_narrowc hcj.1 (by omega)), show cs[j] = cs.getD j 0 by simp [List.getD_eq_getElem?_getD, hjl]] at V_ca
      replace V_ca : Arv Z h106 ca kc .char 256 (wrC CH pn cs (j + 1)) (.int 0) := V_ca
      refine k_iinc K106 (1 : Int32) d_prog_87_method_14_code_124 (pc' := 127) (L' := #[.val (.ref ix), .val (.ref a), .val (.int p), .val (.long ((p.toInt64) + (n.toInt64))), .second, .val (.int (ii + (1 : Int32)))]) rfl rfl rfl rfl ?_
      refine k_goto K106 d_prog_87_method_14_code_127 (by decide) (pc' := 96) (by decide) ?_
      exact ih (ii + 1) (j + 1) (own_add1 hj (by omega)) (by omega) _ _ _ _ K106 X_ix F_ix_chars V_ca F_ix_starts V_sa F_ix_buckets V_ba F_ix_earlier V_ea F_ix_hashes V_ha F_ix_count F_ix_lastFound F_ix_repeating F_ix_base S KP sf_ix sf_ca sf_sa sf_ba sf_ea sf_ha
  exact LOOP cs.length (0 : Int32) 0 rfl (by omega) _ _ _ _ K93 X_ix F_ix_chars V_ca F_ix_starts V_sa F_ix_buckets V_ba F_ix_earlier V_ea F_ix_hashes V_ha F_ix_count F_ix_lastFound F_ix_repeating F_ix_base S KP sf_ix sf_ca sf_sa sf_ba sf_ea sf_ha
theorem d_prog_87_method_12_code_0 : decode prog_87_method_12_code 0 = .ok (.aload_n 0, 1) := by decide +kernel
theorem d_prog_87_method_12_code_1 : decode prog_87_method_12_code 1 = .ok (.getfield 41, 3) := by decide +kernel
theorem d_prog_87_method_12_code_4 : decode prog_87_method_12_code 4 = .ok (.iload_n 1, 1) := by decide +kernel
theorem d_prog_87_method_12_code_5 : decode prog_87_method_12_code 5 = .ok (.iaload, 1) := by decide +kernel
theorem d_prog_87_method_12_code_6 : decode prog_87_method_12_code 6 = .ok (.aload_n 0, 1) := by decide +kernel
theorem d_prog_87_method_12_code_7 : decode prog_87_method_12_code 7 = .ok (.getfield 34, 3) := by decide +kernel
theorem d_prog_87_method_12_code_10 : decode prog_87_method_12_code 10 = .ok (.arraylength, 1) := by decide +kernel
theorem d_prog_87_method_12_code_11 : decode prog_87_method_12_code 11 = .ok (.iconst 1, 1) := by decide +kernel
theorem d_prog_87_method_12_code_12 : decode prog_87_method_12_code 12 = .ok (.isub, 1) := by decide +kernel
theorem d_prog_87_method_12_code_13 : decode prog_87_method_12_code 13 = .ok (.iand, 1) := by decide +kernel
theorem d_prog_87_method_12_code_14 : decode prog_87_method_12_code 14 = .ok (.istore_n 2, 1) := by decide +kernel
theorem d_prog_87_method_12_code_15 : decode prog_87_method_12_code 15 = .ok (.aload_n 0, 1) := by decide +kernel
theorem d_prog_87_method_12_code_16 : decode prog_87_method_12_code 16 = .ok (.getfield 38, 3) := by decide +kernel
theorem d_prog_87_method_12_code_19 : decode prog_87_method_12_code 19 = .ok (.iload_n 1, 1) := by decide +kernel
theorem d_prog_87_method_12_code_20 : decode prog_87_method_12_code 20 = .ok (.aload_n 0, 1) := by decide +kernel
theorem d_prog_87_method_12_code_21 : decode prog_87_method_12_code 21 = .ok (.getfield 34, 3) := by decide +kernel
theorem d_prog_87_method_12_code_24 : decode prog_87_method_12_code 24 = .ok (.iload_n 2, 1) := by decide +kernel
theorem d_prog_87_method_12_code_25 : decode prog_87_method_12_code 25 = .ok (.laload, 1) := by decide +kernel
theorem d_prog_87_method_12_code_26 : decode prog_87_method_12_code 26 = .ok (.lastore, 1) := by decide +kernel
theorem d_prog_87_method_12_code_27 : decode prog_87_method_12_code 27 = .ok (.aload_n 0, 1) := by decide +kernel
theorem d_prog_87_method_12_code_28 : decode prog_87_method_12_code 28 = .ok (.getfield 34, 3) := by decide +kernel
theorem d_prog_87_method_12_code_31 : decode prog_87_method_12_code 31 = .ok (.iload_n 2, 1) := by decide +kernel
theorem d_prog_87_method_12_code_32 : decode prog_87_method_12_code 32 = .ok (.aload_n 0, 1) := by decide +kernel
theorem d_prog_87_method_12_code_33 : decode prog_87_method_12_code 33 = .ok (.getfield 41, 3) := by decide +kernel
theorem d_prog_87_method_12_code_36 : decode prog_87_method_12_code 36 = .ok (.iload_n 1, 1) := by decide +kernel
theorem d_prog_87_method_12_code_37 : decode prog_87_method_12_code 37 = .ok (.iaload, 1) := by decide +kernel
theorem d_prog_87_method_12_code_38 : decode prog_87_method_12_code 38 = .ok (.i2l, 1) := by decide +kernel
theorem d_prog_87_method_12_code_39 : decode prog_87_method_12_code 39 = .ok (.bipush 32, 2) := by decide +kernel
theorem d_prog_87_method_12_code_41 : decode prog_87_method_12_code 41 = .ok (.lshl, 1) := by decide +kernel
theorem d_prog_87_method_12_code_42 : decode prog_87_method_12_code 42 = .ok (.iload_n 1, 1) := by decide +kernel
theorem d_prog_87_method_12_code_43 : decode prog_87_method_12_code 43 = .ok (.iconst 1, 1) := by decide +kernel
theorem d_prog_87_method_12_code_44 : decode prog_87_method_12_code 44 = .ok (.iadd, 1) := by decide +kernel
theorem d_prog_87_method_12_code_45 : decode prog_87_method_12_code 45 = .ok (.i2l, 1) := by decide +kernel
theorem d_prog_87_method_12_code_46 : decode prog_87_method_12_code 46 = .ok (.lor, 1) := by decide +kernel
theorem d_prog_87_method_12_code_47 : decode prog_87_method_12_code 47 = .ok (.lastore, 1) := by decide +kernel
theorem d_prog_87_method_12_code_48 : decode prog_87_method_12_code 48 = .ok (.return_, 1) := by decide +kernel
set_option maxRecDepth 65536 in
set_option maxHeartbeats 40000000 in
theorem c_link (l : Launch) (Z : State) (a0 : Array Value) (hw : Tb a0 Z) (hEW : EW Z a0 EL0) (n0 : Nat) (ix ca sa ba ea ha : Addr) (kc ks kb ke_ kh : ClassId) (n_ lf rp : Int32) (base : Int64) (CH ST BU EA HA : List Value) (kn : Nat) (H : Int32) (w : Int64) (h0 : Heap) (O : Old Z n0 h0) (I : Ixd Z h0 ix ca sa ba ea ha kc ks kb ke_ kh n_ lf rp base CH ST BU EA HA) (nd : [ix, ca, sa, ba, ea, ha].Nodup) (ga : ∀ y ∈ [ix, ca, sa, ba, ea, ha], n0 ≤ y) (hk2 : kn < 2) (hha : HA.getD kn (.int 0) = .int H) (hbu : BU.getD (i63 H) (.long 0) = .long w) :
    Ct l Z EL0 n0 (⟨"com/example/tallyard/tallyard/scenario/formats/TextIndex", "link", "(I)V"⟩ : MethodName) prog_87_method_12_code 3 none ({ frames := 0, cells := 0, slots := 0, locals := 0 } : Room) #[(.ref ix), (.int (kI kn))] h0 [ix, ca, sa, ba, ea, ha] (fun v h sf => v = none ∧ Keep h0 h [ix, ca, sa, ba, ea, ha] ∧ Ixd Z h ix ca sa ba ea ha kc ks kb ke_ kh n_ lf rp base CH ST (BU.set (i63 H) (.long (ent H (kI kn)))) (EA.set kn (.long w)) HA) := by
  refine Ct.of (a0 := a0) #[.val (.ref ix), .val (.int (kI kn)), .unset] hEW O (plainFor_of_name pl_com_example_tallyard_tallyard_scenario_formats_TextIndex) (fun m => by first | (simp [entryFrame, mkF, argsToLocals, Value.category]; done) | rfl) ?_
  intro p_ e_ s_ m_ below_ meth_ c_ b_ T_ K hSP
  obtain ⟨X_ix, F_ix_chars, F_ix_starts, F_ix_buckets, F_ix_earlier, F_ix_hashes, F_ix_count, F_ix_lastFound, F_ix_repeating, F_ix_base, V_ca, V_sa, V_ba, V_ea, V_ha, lCH, lST, lBU, lEA, lHA⟩ := I
  have KP := Keep.refl h0 [ix, ca, sa, ba, ea, ha]
  obtain ⟨ne_ix_ca, ne_ix_sa, ne_ix_ba, ne_ix_ea, ne_ix_ha, ne_ca_sa, ne_ca_ba, ne_ca_ea, ne_ca_ha, ne_sa_ba, ne_sa_ea, ne_sa_ha, ne_ba_ea, ne_ba_ha, ne_ea_ha⟩ := nd6 nd
  have ga_ix := ga ix (by simp)
  have sf_ix := hSP ix (by simp)
  have ga_ca := ga ca (by simp)
  have sf_ca := hSP ca (by simp)
  have ga_sa := ga sa (by simp)
  have sf_sa := hSP sa (by simp)
  have ga_ba := ga ba (by simp)
  have sf_ba := hSP ba (by simp)
  have ga_ea := ga ea (by simp)
  have sf_ea := hSP ea (by simp)
  have ga_ha := ga ha (by simp)
  have sf_ha := hSP ha (by simp)
  have hk := kI_at hk2
  have hi := i63_lt H
  refine k_aloadN K d_prog_87_method_12_code_0 (pc' := 1) rfl rfl rfl ?_
  refine k_getF K (w56 hw) Via.refl F_ix_hashes d_prog_87_method_12_code_1 (pc' := 4) rfl ?_
  intro T107 K107
  refine k_iloadN K107 d_prog_87_method_12_code_4 (pc' := 5) rfl rfl ?_
  refine k_iaload K107 (j := (kI kn)) V_ha (own_in hk (show (32 : Int32).toInt = (32 : Nat) by decide) (by omega)) (by rw [own_clamp hk]; exact hha) d_prog_87_method_12_code_5 (pc' := 6) rfl ?_
  refine k_aloadN K107 d_prog_87_method_12_code_6 (pc' := 7) rfl rfl rfl ?_
  refine k_getF K107 (w52 hw) Via.refl F_ix_buckets d_prog_87_method_12_code_7 (pc' := 10) rfl ?_
  intro T108 K108
  refine k_len K108 V_ba d_prog_87_method_12_code_10 (pc' := 11) rfl ?_
  refine k_iconst K108 (1 : Int32) d_prog_87_method_12_code_11 (pc' := 12) rfl rfl ?_
  refine k_isub K108 d_prog_87_method_12_code_12 (pc' := 13) rfl ?_
  rw [show ((64 : Int32) - (1 : Int32)) = (63 : Int32) by decide]
  refine k_iand K108 d_prog_87_method_12_code_13 (pc' := 14) rfl ?_
  refine k_istoreN K108 d_prog_87_method_12_code_14 (pc' := 15) (L' := #[.val (.ref ix), .val (.int (kI kn)), .val (.int (H &&& (63 : Int32)))]) rfl rfl ?_
  refine k_aloadN K108 d_prog_87_method_12_code_15 (pc' := 16) rfl rfl rfl ?_
  refine k_getF K108 (w54 hw) Via.refl F_ix_earlier d_prog_87_method_12_code_16 (pc' := 19) rfl ?_
  intro T109 K109
  refine k_iloadN K109 d_prog_87_method_12_code_19 (pc' := 20) rfl rfl ?_
  refine k_aloadN K109 d_prog_87_method_12_code_20 (pc' := 21) rfl rfl rfl ?_
  refine k_getF K109 (w52 hw) Via.refl F_ix_buckets d_prog_87_method_12_code_21 (pc' := 24) rfl ?_
  intro T110 K110
  refine k_iloadN K110 d_prog_87_method_12_code_24 (pc' := 25) rfl rfl ?_
  refine k_laload K110 (j := (H &&& (63 : Int32))) V_ba (own_i63 H) hbu d_prog_87_method_12_code_25 (pc' := 26) rfl ?_
  refine k_lastore K110 (j := (kI kn)) V_ea (own_in hk (show (32 : Int32).toInt = (32 : Nat) by decide) (by omega)) (by rw [own_clamp hk, lEA]; omega) ga_ea sf_ea d_prog_87_method_12_code_26 (pc' := 27) rfl ?_
  intro T111 h111 K111 W111 tr111 V111
  replace sf_ix := tr111 ix X_ix.lt sf_ix
  replace sf_ca := tr111 ca V_ca.lt sf_ca
  replace sf_sa := tr111 sa V_sa.lt sf_sa
  replace sf_ba := tr111 ba V_ba.lt sf_ba
  replace sf_ea := tr111 ea V_ea.lt sf_ea
  replace sf_ha := tr111 ha V_ha.lt sf_ha
  replace X_ix := X_ix.wr W111
  replace F_ix_chars := F_ix_chars.other W111 (Or.inl ne_ix_ea)
  replace V_ca := V_ca.other W111 ne_ca_ea
  replace F_ix_starts := F_ix_starts.other W111 (Or.inl ne_ix_ea)
  replace V_sa := V_sa.other W111 ne_sa_ea
  replace F_ix_buckets := F_ix_buckets.other W111 (Or.inl ne_ix_ea)
  replace V_ba := V_ba.other W111 ne_ba_ea
  replace F_ix_earlier := F_ix_earlier.other W111 (Or.inl ne_ix_ea)
  replace F_ix_hashes := F_ix_hashes.other W111 (Or.inl ne_ix_ea)
  replace V_ha := V_ha.other W111 (Ne.symm ne_ea_ha)
  replace F_ix_count := F_ix_count.other W111 (Or.inl ne_ix_ea)
  replace F_ix_lastFound := F_ix_lastFound.other W111 (Or.inl ne_ix_ea)
  replace F_ix_repeating := F_ix_repeating.other W111 (Or.inl ne_ix_ea)
  replace F_ix_base := F_ix_base.other W111 (Or.inl ne_ix_ea)
  replace KP := KP.wr W111 (Or.inl (by simp))
  replace V_ea := V111
  rw [own_clamp hk] at V_ea
  refine k_aloadN K111 d_prog_87_method_12_code_27 (pc' := 28) rfl rfl rfl ?_
  refine k_getF K111 (w52 hw) Via.refl F_ix_buckets d_prog_87_method_12_code_28 (pc' := 31) rfl ?_
  intro T112 K112
  refine k_iloadN K112 d_prog_87_method_12_code_31 (pc' := 32) rfl rfl ?_
  refine k_aloadN K112 d_prog_87_method_12_code_32 (pc' := 33) rfl rfl rfl ?_
  refine k_getF K112 (w56 hw) Via.refl F_ix_hashes d_prog_87_method_12_code_33 (pc' := 36) rfl ?_
  intro T113 K113
  refine k_iloadN K113 d_prog_87_method_12_code_36 (pc' := 37) rfl rfl ?_
  refine k_iaload K113 (j := (kI kn)) V_ha (own_in hk (show (32 : Int32).toInt = (32 : Nat) by decide) (by omega)) (by rw [own_clamp hk]; exact hha) d_prog_87_method_12_code_37 (pc' := 38) rfl ?_
  refine k_i2l K113 d_prog_87_method_12_code_38 (pc' := 39) rfl ?_
  refine k_bipush K113 (32 : Int32) d_prog_87_method_12_code_39 (pc' := 41) rfl rfl ?_
  refine k_lshl K113 d_prog_87_method_12_code_41 (pc' := 42) rfl ?_
  refine k_iloadN K113 d_prog_87_method_12_code_42 (pc' := 43) rfl rfl ?_
  refine k_iconst K113 (1 : Int32) d_prog_87_method_12_code_43 (pc' := 44) rfl rfl ?_
  refine k_iadd K113 d_prog_87_method_12_code_44 (pc' := 45) rfl ?_
  refine k_i2l K113 d_prog_87_method_12_code_45 (pc' := 46) rfl ?_
  refine k_lor K113 d_prog_87_method_12_code_46 (pc' := 47) rfl ?_
  show Goes p_.tables e_ below_ _ (T113.setTop (mkF m_ 47 #[.val (.ref ix), .val (.int (kI kn)), .val (.int (H &&& (63 : Int32)))] [(.long (ent H (kI kn))), (.int (H &&& (63 : Int32))), (.ref ba)]))
  refine k_lastore K113 (j := (H &&& (63 : Int32))) V_ba (own_i63 H) (by rw [lBU]; exact hi) ga_ba sf_ba d_prog_87_method_12_code_47 (pc' := 48) rfl ?_
  intro T114 h114 K114 W114 tr114 V114
  replace sf_ix := tr114 ix X_ix.lt sf_ix
  replace sf_ca := tr114 ca V_ca.lt sf_ca
  replace sf_sa := tr114 sa V_sa.lt sf_sa
  replace sf_ba := tr114 ba V_ba.lt sf_ba
  replace sf_ea := tr114 ea V_ea.lt sf_ea
  replace sf_ha := tr114 ha V_ha.lt sf_ha
  replace X_ix := X_ix.wr W114
  replace F_ix_chars := F_ix_chars.other W114 (Or.inl ne_ix_ba)
  replace V_ca := V_ca.other W114 ne_ca_ba
  replace F_ix_starts := F_ix_starts.other W114 (Or.inl ne_ix_ba)
  replace V_sa := V_sa.other W114 ne_sa_ba
  replace F_ix_buckets := F_ix_buckets.other W114 (Or.inl ne_ix_ba)
  replace F_ix_earlier := F_ix_earlier.other W114 (Or.inl ne_ix_ba)
  replace V_ea := V_ea.other W114 (Ne.symm ne_ba_ea)
  replace F_ix_hashes := F_ix_hashes.other W114 (Or.inl ne_ix_ba)
  replace V_ha := V_ha.other W114 (Ne.symm ne_ba_ha)
  replace F_ix_count := F_ix_count.other W114 (Or.inl ne_ix_ba)
  replace F_ix_lastFound := F_ix_lastFound.other W114 (Or.inl ne_ix_ba)
  replace F_ix_repeating := F_ix_repeating.other W114 (Or.inl ne_ix_ba)
  replace F_ix_base := F_ix_base.other W114 (Or.inl ne_ix_ba)
  replace KP := KP.wr W114 (Or.inl (by simp))
  replace V_ba := V114
  replace V_ba : Arv Z h114 ba kb .long 64 (BU.set (i63 H) (.long (ent H (kI kn)))) (.long 0) := V_ba
  have lBU' : (BU.set (i63 H) (.long (ent H (kI kn)))).length = 64 := by rw [List.length_set, lBU]
  have lEA' : (EA.set kn (.long w)).length = 32 := by rw [List.length_set, lEA]
  exact k_return K114 d_prog_87_method_12_code_48 rfl (fun sf ht => ⟨rfl, KP, ⟨X_ix, F_ix_chars, F_ix_starts, F_ix_buckets, F_ix_earlier, F_ix_hashes, F_ix_count, F_ix_lastFound, F_ix_repeating, F_ix_base, V_ca, V_sa, V_ba, V_ea, V_ha, lCH, lST, lBU', lEA', lHA⟩⟩) (by decide) (by decide)
theorem d_prog_87_method_5_code_0 : decode prog_87_method_5_code 0 = .ok (.aload_n 0, 1) := by decide +kernel
theorem d_prog_87_method_5_code_1 : decode prog_87_method_5_code 1 = .ok (.aload_n 1, 1) := by decide +kernel
theorem d_prog_87_method_5_code_2 : decode prog_87_method_5_code 2 = .ok (.invokevirtual 63, 3) := by decide +kernel
theorem w67 {Z : State} {a0 : Array Value} (hw : Tb a0 Z) : (Jvm.Cond.methodLink "com/example/tallyard/tallyard/scenario/formats/TextIndex" (63 : Nat) ({ cls := "com/example/tallyard/tallyard/scenario/formats/TextIndex", name := "hashOf", desc := "(Ljava/lang/CharSequence;)I" } : Jvm.MethodName)).before a0 Z = true := hw _ (List.mem_of_getElem? (i := 67) rfl)
theorem w70 {Z : State} {a0 : Array Value} (hw : Tb a0 Z) : (Jvm.Cond.code ({ cls := "com/example/tallyard/tallyard/scenario/formats/TextIndex", name := "hashOf", desc := "(Ljava/lang/CharSequence;)I" } : Jvm.MethodName) prog_87_method_9_code (8 : Nat) (Option.some Jvm.ClassFile.FieldType.int)).before a0 Z = true := hw _ (List.mem_of_getElem? (i := 70) rfl)
theorem w69 {Z : State} {a0 : Array Value} (hw : Tb a0 Z) : (Jvm.Cond.privateMethod ({ cls := "com/example/tallyard/tallyard/scenario/formats/TextIndex", name := "hashOf", desc := "(Ljava/lang/CharSequence;)I" } : Jvm.MethodName)).before a0 Z = true := hw _ (List.mem_of_getElem? (i := 69) rfl)
theorem w68 {Z : State} {a0 : Array Value} (hw : Tb a0 Z) : (Jvm.Cond.instanceMethod ({ cls := "com/example/tallyard/tallyard/scenario/formats/TextIndex", name := "hashOf", desc := "(Ljava/lang/CharSequence;)I" } : Jvm.MethodName)).before a0 Z = true := hw _ (List.mem_of_getElem? (i := 68) rfl)
theorem pd__Ljava_lang_CharSequence__I_4090 : parseMethodDescriptor "(Ljava/lang/CharSequence;)I" = some ⟨[(.object "java/lang/CharSequence")], some .int⟩ := by decide +kernel
theorem d_prog_87_method_5_code_5 : decode prog_87_method_5_code 5 = .ok (.istore_n 2, 1) := by decide +kernel
theorem d_prog_87_method_5_code_6 : decode prog_87_method_5_code 6 = .ok (.aload_n 0, 1) := by decide +kernel
theorem d_prog_87_method_5_code_7 : decode prog_87_method_5_code 7 = .ok (.aload_n 1, 1) := by decide +kernel
theorem d_prog_87_method_5_code_8 : decode prog_87_method_5_code 8 = .ok (.iload_n 2, 1) := by decide +kernel
theorem d_prog_87_method_5_code_9 : decode prog_87_method_5_code 9 = .ok (.invokevirtual 67, 3) := by decide +kernel
theorem w119 {Z : State} {a0 : Array Value} (hw : Tb a0 Z) : (Jvm.Cond.methodLink "com/example/tallyard/tallyard/scenario/formats/TextIndex" (67 : Nat) ({ cls := "com/example/tallyard/tallyard/scenario/formats/TextIndex", name := "find", desc := "(Ljava/lang/CharSequence;I)I" } : Jvm.MethodName)).before a0 Z = true := hw _ (List.mem_of_getElem? (i := 119) rfl)
theorem w122 {Z : State} {a0 : Array Value} (hw : Tb a0 Z) : (Jvm.Cond.code ({ cls := "com/example/tallyard/tallyard/scenario/formats/TextIndex", name := "find", desc := "(Ljava/lang/CharSequence;I)I" } : Jvm.MethodName) prog_87_method_11_code (5 : Nat) (Option.some Jvm.ClassFile.FieldType.int)).before a0 Z = true := hw _ (List.mem_of_getElem? (i := 122) rfl)
theorem w121 {Z : State} {a0 : Array Value} (hw : Tb a0 Z) : (Jvm.Cond.privateMethod ({ cls := "com/example/tallyard/tallyard/scenario/formats/TextIndex", name := "find", desc := "(Ljava/lang/CharSequence;I)I" } : Jvm.MethodName)).before a0 Z = true := hw _ (List.mem_of_getElem? (i := 121) rfl)
theorem w120 {Z : State} {a0 : Array Value} (hw : Tb a0 Z) : (Jvm.Cond.instanceMethod ({ cls := "com/example/tallyard/tallyard/scenario/formats/TextIndex", name := "find", desc := "(Ljava/lang/CharSequence;I)I" } : Jvm.MethodName)).before a0 Z = true := hw _ (List.mem_of_getElem? (i := 120) rfl)
theorem pd__Ljava_lang_CharSequence_I_I_6102 : parseMethodDescriptor "(Ljava/lang/CharSequence;I)I" = some ⟨[(.object "java/lang/CharSequence"), .int], some .int⟩ := by decide +kernel
theorem d_prog_87_method_5_code_12 : decode prog_87_method_5_code 12 = .ok (.istore_n 3, 1) := by decide +kernel
theorem d_prog_87_method_5_code_13 : decode prog_87_method_5_code 13 = .ok (.iload_n 3, 1) := by decide +kernel
theorem d_prog_87_method_5_code_14 : decode prog_87_method_5_code 14 = .ok (.ifCond .lt 7, 3) := by decide +kernel
theorem d_prog_87_method_5_code_21 : decode prog_87_method_5_code 21 = .ok (.aload_n 0, 1) := by decide +kernel
theorem d_prog_87_method_5_code_22 : decode prog_87_method_5_code 22 = .ok (.aload_n 1, 1) := by decide +kernel
theorem d_prog_87_method_5_code_23 : decode prog_87_method_5_code 23 = .ok (.invokevirtual 71, 3) := by decide +kernel
theorem w123 {Z : State} {a0 : Array Value} (hw : Tb a0 Z) : (Jvm.Cond.methodLink "com/example/tallyard/tallyard/scenario/formats/TextIndex" (71 : Nat) ({ cls := "com/example/tallyard/tallyard/scenario/formats/TextIndex", name := "keep", desc := "(Ljava/lang/CharSequence;)I" } : Jvm.MethodName)).before a0 Z = true := hw _ (List.mem_of_getElem? (i := 123) rfl)
theorem w126 {Z : State} {a0 : Array Value} (hw : Tb a0 Z) : (Jvm.Cond.code ({ cls := "com/example/tallyard/tallyard/scenario/formats/TextIndex", name := "keep", desc := "(Ljava/lang/CharSequence;)I" } : Jvm.MethodName) prog_87_method_14_code (6 : Nat) (Option.some Jvm.ClassFile.FieldType.int)).before a0 Z = true := hw _ (List.mem_of_getElem? (i := 126) rfl)
theorem w125 {Z : State} {a0 : Array Value} (hw : Tb a0 Z) : (Jvm.Cond.privateMethod ({ cls := "com/example/tallyard/tallyard/scenario/formats/TextIndex", name := "keep", desc := "(Ljava/lang/CharSequence;)I" } : Jvm.MethodName)).before a0 Z = true := hw _ (List.mem_of_getElem? (i := 125) rfl)
theorem w124 {Z : State} {a0 : Array Value} (hw : Tb a0 Z) : (Jvm.Cond.instanceMethod ({ cls := "com/example/tallyard/tallyard/scenario/formats/TextIndex", name := "keep", desc := "(Ljava/lang/CharSequence;)I" } : Jvm.MethodName)).before a0 Z = true := hw _ (List.mem_of_getElem? (i := 124) rfl)
theorem d_prog_87_method_5_code_26 : decode prog_87_method_5_code 26 = .ok (.istore 4, 2) := by decide +kernel
theorem d_prog_87_method_5_code_28 : decode prog_87_method_5_code 28 = .ok (.iload 4, 2) := by decide +kernel
theorem d_prog_87_method_5_code_30 : decode prog_87_method_5_code 30 = .ok (.aload_n 0, 1) := by decide +kernel
theorem d_prog_87_method_5_code_31 : decode prog_87_method_5_code 31 = .ok (.getfield 41, 3) := by decide +kernel
theorem d_prog_87_method_5_code_34 : decode prog_87_method_5_code 34 = .ok (.arraylength, 1) := by decide +kernel
theorem d_prog_87_method_5_code_35 : decode prog_87_method_5_code 35 = .ok (.if_icmp .ne 33, 3) := by decide +kernel
theorem d_prog_87_method_5_code_68 : decode prog_87_method_5_code 68 = .ok (.aload_n 0, 1) := by decide +kernel
theorem d_prog_87_method_5_code_69 : decode prog_87_method_5_code 69 = .ok (.getfield 41, 3) := by decide +kernel
theorem d_prog_87_method_5_code_72 : decode prog_87_method_5_code 72 = .ok (.iload 4, 2) := by decide +kernel
theorem d_prog_87_method_5_code_74 : decode prog_87_method_5_code 74 = .ok (.iload_n 2, 1) := by decide +kernel
theorem d_prog_87_method_5_code_75 : decode prog_87_method_5_code 75 = .ok (.iastore, 1) := by decide +kernel
theorem d_prog_87_method_5_code_76 : decode prog_87_method_5_code 76 = .ok (.aload_n 0, 1) := by decide +kernel
theorem d_prog_87_method_5_code_77 : decode prog_87_method_5_code 77 = .ok (.getfield 52, 3) := by decide +kernel
theorem d_prog_87_method_5_code_80 : decode prog_87_method_5_code 80 = .ok (.aload_n 0, 1) := by decide +kernel
theorem d_prog_87_method_5_code_81 : decode prog_87_method_5_code 81 = .ok (.getfield 34, 3) := by decide +kernel
theorem d_prog_87_method_5_code_84 : decode prog_87_method_5_code 84 = .ok (.arraylength, 1) := by decide +kernel
theorem d_prog_87_method_5_code_85 : decode prog_87_method_5_code 85 = .ok (.if_icmp .le 43, 3) := by decide +kernel
theorem d_prog_87_method_5_code_128 : decode prog_87_method_5_code 128 = .ok (.aload_n 0, 1) := by decide +kernel
theorem d_prog_87_method_5_code_129 : decode prog_87_method_5_code 129 = .ok (.iload 4, 2) := by decide +kernel
theorem d_prog_87_method_5_code_131 : decode prog_87_method_5_code 131 = .ok (.invokevirtual 83, 3) := by decide +kernel
theorem w131 {Z : State} {a0 : Array Value} (hw : Tb a0 Z) : (Jvm.Cond.methodLink "com/example/tallyard/tallyard/scenario/formats/TextIndex" (83 : Nat) ({ cls := "com/example/tallyard/tallyard/scenario/formats/TextIndex", name := "link", desc := "(I)V" } : Jvm.MethodName)).before a0 Z = true := hw _ (List.mem_of_getElem? (i := 131) rfl)
theorem w134 {Z : State} {a0 : Array Value} (hw : Tb a0 Z) : (Jvm.Cond.code ({ cls := "com/example/tallyard/tallyard/scenario/formats/TextIndex", name := "link", desc := "(I)V" } : Jvm.MethodName) prog_87_method_12_code (3 : Nat) (Option.none : Option Jvm.ClassFile.FieldType)).before a0 Z = true := hw _ (List.mem_of_getElem? (i := 134) rfl)
theorem w133 {Z : State} {a0 : Array Value} (hw : Tb a0 Z) : (Jvm.Cond.privateMethod ({ cls := "com/example/tallyard/tallyard/scenario/formats/TextIndex", name := "link", desc := "(I)V" } : Jvm.MethodName)).before a0 Z = true := hw _ (List.mem_of_getElem? (i := 133) rfl)
theorem w132 {Z : State} {a0 : Array Value} (hw : Tb a0 Z) : (Jvm.Cond.instanceMethod ({ cls := "com/example/tallyard/tallyard/scenario/formats/TextIndex", name := "link", desc := "(I)V" } : Jvm.MethodName)).before a0 Z = true := hw _ (List.mem_of_getElem? (i := 132) rfl)
theorem pd__I_V_653 : parseMethodDescriptor "(I)V" = some ⟨[.int], none⟩ := by decide +kernel
theorem d_prog_87_method_5_code_134 : decode prog_87_method_5_code 134 = .ok (.iload 4, 2) := by decide +kernel
theorem d_prog_87_method_5_code_136 : decode prog_87_method_5_code 136 = .ok (.ireturn, 1) := by decide +kernel
set_option maxRecDepth 65536 in
set_option maxHeartbeats 40000000 in
theorem c_addN (l : Launch) (Z : State) (a0 : Array Value) (hw : Tb a0 Z) (hEW : EW Z a0 EL0) (n0 : Nat) (ix ca sa ba ea ha : Addr) (kc ks kb ke_ kh : ClassId) (lf rp : Int32) (base : Int64) (CH ST BU EA HA : List Value) (a e : Addr) (ke : ClassId) (n : Int32) (cs : List Int32) (ff : Value) (cs0 : Int32) (p : Int32) (nn pn : Nat) (e0 : Int64) (EN : List (Nat × Int32 × List Int32)) (h0 : Heap) (O : Old Z n0 h0) (SF : Sta Z Z.heap "jdk/internal/util/Preconditions" "SIOOBE_FORMATTER" "Ljava/util/function/BiFunction;" ff) (hff : ff.isRef = true) (I : Ixd Z h0 ix ca sa ba ea ha kc ks kb ke_ kh (kI nn) lf rp base CH ST BU EA HA) (nd : [ix, ca, sa, ba, ea, ha].Nodup) (ga : ∀ y ∈ [ix, ca, sa, ba, ea, ha], n0 ≤ y) (S : Str Z h0 a e ke 0 n (lat cs)) (hn : n.toInt = cs.length) (hb : cs.length ≤ 3) (hc : ∀ c ∈ cs, 0 ≤ c.toInt ∧ c.toInt < 256) (hnn : nn < 2) (hst : ST.getD nn (.int 0) = .int p) (hp : p.toInt = pn) (hpn : pn ≤ 3) (nsx : ∀ y ∈ [ix, ca, sa, ba, ea, ha], a ≠ y ∧ e ≠ y) (hbu : BU.getD (i63 (hashC base cs)) (.long 0) = .long e0) (hch : Chn CH ST EA e0 EN) (hno : fdV (hashC base cs) cs EN = -1) (SC : Sta Z Z.heap "java/lang/String" "COMPACT_STRINGS" "Z" (.int cs0)) (hcs : ¬ cs0 = 0) :
    Ct l Z EL0 n0 (⟨"com/example/tallyard/tallyard/scenario/formats/TextIndex", "add", "(Ljava/lang/CharSequence;)I"⟩ : MethodName) prog_87_method_5_code 6 (some .int) ({ frames := 6, cells := 0, slots := 0, locals := 86 } : Room) #[(.ref ix), (.ref a)] h0 [ix, ca, sa, ba, ea, ha] (fun v h sf => v = some (.int (kI nn)) ∧ Keep h0 h [ix, ca, sa, ba, ea, ha] ∧ Ixd Z h ix ca sa ba ea ha kc ks kb ke_ kh (kI nn + 1) lf rp base (wrC CH pn cs cs.length) (ST.set (nn + 1) (.int (p + n))) (BU.set (i63 (hashC base cs)) (.long (ent (hashC base cs) (kI nn)))) (EA.set nn (.long e0)) (HA.set nn (.int (hashC base cs)))) := by
  refine Ct.of (a0 := a0) #[.val (.ref ix), .val (.ref a), .unset, .unset, .unset, .unset] hEW O (plainFor_of_name pl_com_example_tallyard_tallyard_scenario_formats_TextIndex) (fun m => by first | (simp [entryFrame, mkF, argsToLocals, Value.category]; done) | rfl) ?_
  intro p_ e_ s_ m_ below_ meth_ c_ b_ T_ K hSP
  have I0 := I
  have hk := kI_at hnn
  obtain ⟨X_ix, F_ix_chars, F_ix_starts, F_ix_buckets, F_ix_earlier, F_ix_hashes, F_ix_count, F_ix_lastFound, F_ix_repeating, F_ix_base, V_ca, V_sa, V_ba, V_ea, V_ha, lCH, lST, lBU, lEA, lHA⟩ := I
  have KP := Keep.refl h0 [ix, ca, sa, ba, ea, ha]
  obtain ⟨ne_ix_ca, ne_ix_sa, ne_ix_ba, ne_ix_ea, ne_ix_ha, ne_ca_sa, ne_ca_ba, ne_ca_ea, ne_ca_ha, ne_sa_ba, ne_sa_ea, ne_sa_ha, ne_ba_ea, ne_ba_ha, ne_ea_ha⟩ := nd6 nd
  have ga_ix := ga ix (by simp)
  have sf_ix := hSP ix (by simp)
  have ga_ca := ga ca (by simp)
  have sf_ca := hSP ca (by simp)
  have ga_sa := ga sa (by simp)
  have sf_sa := hSP sa (by simp)
  have ga_ba := ga ba (by simp)
  have sf_ba := hSP ba (by simp)
  have ga_ea := ga ea (by simp)
  have sf_ea := hSP ea (by simp)
  have ga_ha := ga ha (by simp)
  have sf_ha := hSP ha (by simp)
  refine k_aloadN K d_prog_87_method_5_code_0 (pc' := 1) rfl rfl rfl ?_
  refine k_aloadN K d_prog_87_method_5_code_1 (pc' := 2) rfl rfl rfl ?_
  refine k_privateP K [(.ref a)] [] 0 (w67 hw) (w68 hw) (own_priv K rfl (w40 hw) (w68 hw) (w69 hw) (by decide)) (w69 hw) (w41 hw) (w70 hw) X_ix (by decide) pd__Ljava_lang_CharSequence__I_4090 (c_hashOf l Z a0 hw hEW n0 ix a e ke n cs base ff cs0 h0 K.old SF hff S hn hb hc F_ix_base SC hcs) d_prog_87_method_5_code_2 nofun (pc' := 5) rfl rfl rfl rfl (Nat.le_of_eq rfl) (by decide) (by decide) (by decide) (by decide) ?_
  intro b115 T115 L115 K115 tr115
  show Goes p_.tables e_ below_ _ (T115.setTop (mkF m_ 5 #[.val (.ref ix), .val (.ref a), .unset, .unset, .unset, .unset] [(.int (hashC base cs))]))
  replace sf_ix := tr115 ix X_ix.lt sf_ix
  replace sf_ca := tr115 ca V_ca.lt sf_ca
  replace sf_sa := tr115 sa V_sa.lt sf_sa
  replace sf_ba := tr115 ba V_ba.lt sf_ba
  replace sf_ea := tr115 ea V_ea.lt sf_ea
  replace sf_ha := tr115 ha V_ha.lt sf_ha
  refine k_istoreN K115 d_prog_87_method_5_code_5 (pc' := 6) (L' := #[.val (.ref ix), .val (.ref a), .val (.int (hashC base cs)), .unset, .unset, .unset]) rfl rfl ?_
  refine k_aloadN K115 d_prog_87_method_5_code_6 (pc' := 7) rfl rfl rfl ?_
  refine k_aloadN K115 d_prog_87_method_5_code_7 (pc' := 8) rfl rfl rfl ?_
  refine k_iloadN K115 d_prog_87_method_5_code_8 (pc' := 9) rfl rfl ?_
  refine k_privateP K115 [(.ref a), (.int (hashC base cs))] [] 0 (w119 hw) (w120 hw) (own_priv K115 rfl (w40 hw) (w120 hw) (w121 hw) (by decide)) (w121 hw) (w41 hw) (w122 hw) X_ix (by decide) pd__Ljava_lang_CharSequence_I_I_6102 (c_find l Z a0 hw hEW n0 ix ca sa ba ea ha kc ks kb ke_ kh (kI nn) lf rp base CH ST BU EA HA a e ke n cs ff cs0 (hashC base cs) e0 EN h0 K115.old SF hff I0 S hn hb hc hbu hch SC hcs) d_prog_87_method_5_code_9 nofun (pc' := 12) rfl rfl rfl rfl (Nat.le_of_eq rfl) (by decide) (by decide) (by decide) (by decide) ?_
  intro b116 T116 L116 K116 tr116
  show Goes p_.tables e_ below_ _ (T116.setTop (mkF m_ 12 #[.val (.ref ix), .val (.ref a), .val (.int (hashC base cs)), .unset, .unset, .unset] [(.int (fdV (hashC base cs) cs EN))]))
  replace sf_ix := tr116 ix X_ix.lt sf_ix
  replace sf_ca := tr116 ca V_ca.lt sf_ca
  replace sf_sa := tr116 sa V_sa.lt sf_sa
  replace sf_ba := tr116 ba V_ba.lt sf_ba
  replace sf_ea := tr116 ea V_ea.lt sf_ea
  replace sf_ha := tr116 ha V_ha.lt sf_ha
  rw [hno]
  refine k_istoreN K116 d_prog_87_method_5_code_12 (pc' := 13) (L' := #[.val (.ref ix), .val (.ref a), .val (.int (hashC base cs)), .val (.int (-1 : Int32)), .unset, .unset]) rfl rfl ?_
  refine k_iloadN K116 d_prog_87_method_5_code_13 (pc' := 14) rfl rfl ?_
  refine k_if_lt K116 d_prog_87_method_5_code_14 (by decide) (pc' := 21) (pc2 := 17) (by decide) rfl (fun hc14 => ?_) (fun q => absurd (by decide) q)
  refine k_aloadN K116 d_prog_87_method_5_code_21 (pc' := 22) rfl rfl rfl ?_
  refine k_aloadN K116 d_prog_87_method_5_code_22 (pc' := 23) rfl rfl rfl ?_
  refine k_private K116 [(.ref a)] [] 0 (w123 hw) (w124 hw) (own_priv K116 rfl (w40 hw) (w124 hw) (w125 hw) (by decide)) (w125 hw) (w41 hw) (w126 hw) X_ix (by decide) pd__Ljava_lang_CharSequence__I_4090 (c_keep l Z a0 hw hEW n0 ix ca sa ba ea ha kc ks kb ke_ kh (kI nn) lf rp base CH ST BU EA HA a e ke n cs ff cs0 p nn pn h0 K116.old SF hff I0 nd ga S hn hb hc hk hnn hst hp hpn nsx SC hcs) d_prog_87_method_5_code_23 (fun x hx => by
    simp only [List.mem_cons, List.not_mem_nil, or_false] at hx
    rcases hx with rfl | rfl | rfl | rfl | rfl | rfl
    · exact ⟨X_ix.lt, sf_ix⟩
    · exact ⟨V_ca.lt, sf_ca⟩
    · exact ⟨V_sa.lt, sf_sa⟩
    · exact ⟨V_ba.lt, sf_ba⟩
    · exact ⟨V_ea.lt, sf_ea⟩
    · exact ⟨V_ha.lt, sf_ha⟩) (pc' := 26) rfl rfl rfl rfl (Nat.le_of_eq rfl) (by decide) (by decide) (by decide) (by decide) ?_
  intro b117 T117 h117 L117 v117 K117 tr117 q117
  obtain ⟨rfl, KQ, I2⟩ := q117
  replace sf_ix := tr117 ix X_ix.lt sf_ix
  replace sf_ca := tr117 ca V_ca.lt sf_ca
  replace sf_sa := tr117 sa V_sa.lt sf_sa
  replace sf_ba := tr117 ba V_ba.lt sf_ba
  replace sf_ea := tr117 ea V_ea.lt sf_ea
  replace sf_ha := tr117 ha V_ha.lt sf_ha
  replace KP := KP.trans KQ (allS (Or.inl (by simp)) (allS (Or.inl (by simp)) (allS (Or.inl (by simp)) (allS (Or.inl (by simp)) (allS (Or.inl (by simp)) (allS (Or.inl (by simp)) all0))))))
  obtain ⟨X_ix, F_ix_chars, F_ix_starts, F_ix_buckets, F_ix_earlier, F_ix_hashes, F_ix_count, F_ix_lastFound, F_ix_repeating, F_ix_base, V_ca, V_sa, V_ba, V_ea, V_ha, lCH, lST, lBU, lEA, lHA⟩ := I2
  show Goes p_.tables e_ below_ _ (T117.setTop (mkF m_ 26 #[.val (.ref ix), .val (.ref a), .val (.int (hashC base cs)), .val (.int (-1 : Int32)), .unset, .unset] [(.int (kI nn))]))
  refine k_istore K117 d_prog_87_method_5_code_26 (pc' := 28) (L' := #[.val (.ref ix), .val (.ref a), .val (.int (hashC base cs)), .val (.int (-1 : Int32)), .val (.int (kI nn)), .unset]) rfl rfl ?_
  refine k_iload K117 d_prog_87_method_5_code_28 (pc' := 30) rfl rfl ?_
  refine k_aloadN K117 d_prog_87_method_5_code_30 (pc' := 31) rfl rfl rfl ?_
  refine k_getF K117 (w56 hw) Via.refl F_ix_hashes d_prog_87_method_5_code_31 (pc' := 34) rfl ?_
  intro T118 K118
  refine k_len K118 V_ha d_prog_87_method_5_code_34 (pc' := 35) rfl ?_
  refine k_icmp_ne K118 d_prog_87_method_5_code_35 (by decide) (pc' := 68) (pc2 := 38) (by decide) rfl (fun hc35 => ?_) (fun q => absurd q (fun q => by have r := congrArg Int32.toInt q; rw [hk, show (32 : Int32).toInt = 32 by decide] at r; omega))
  refine k_aloadN K118 d_prog_87_method_5_code_68 (pc' := 69) rfl rfl rfl ?_
  refine k_getF K118 (w56 hw) Via.refl F_ix_hashes d_prog_87_method_5_code_69 (pc' := 72) rfl ?_
  intro T119 K119
  refine k_iload K119 d_prog_87_method_5_code_72 (pc' := 74) rfl rfl ?_
  refine k_iloadN K119 d_prog_87_method_5_code_74 (pc' := 75) rfl rfl ?_
  refine k_iastore K119 (j := (kI nn)) V_ha (own_in hk (show (32 : Int32).toInt = (32 : Nat) by decide) (by omega)) (by rw [own_clamp hk, lHA]; omega) ga_ha sf_ha d_prog_87_method_5_code_75 (pc' := 76) rfl ?_
  intro T120 h120 K120 W120 tr120 V120
  replace sf_ix := tr120 ix X_ix.lt sf_ix
  replace sf_ca := tr120 ca V_ca.lt sf_ca
  replace sf_sa := tr120 sa V_sa.lt sf_sa
  replace sf_ba := tr120 ba V_ba.lt sf_ba
  replace sf_ea := tr120 ea V_ea.lt sf_ea
  replace sf_ha := tr120 ha V_ha.lt sf_ha
  replace X_ix := X_ix.wr W120
  replace F_ix_chars := F_ix_chars.other W120 (Or.inl ne_ix_ha)
  replace V_ca := V_ca.other W120 ne_ca_ha
  replace F_ix_starts := F_ix_starts.other W120 (Or.inl ne_ix_ha)
  replace V_sa := V_sa.other W120 ne_sa_ha
  replace F_ix_buckets := F_ix_buckets.other W120 (Or.inl ne_ix_ha)
  replace V_ba := V_ba.other W120 ne_ba_ha
  replace F_ix_earlier := F_ix_earlier.other W120 (Or.inl ne_ix_ha)
  replace V_ea := V_ea.other W120 ne_ea_ha
  replace F_ix_hashes := F_ix_hashes.other W120 (Or.inl ne_ix_ha)
  replace F_ix_count := F_ix_count.other W120 (Or.inl ne_ix_ha)
  replace F_ix_lastFound := F_ix_lastFound.other W120 (Or.inl ne_ix_ha)
  replace F_ix_repeating := F_ix_repeating.other W120 (Or.inl ne_ix_ha)
  replace F_ix_base := F_ix_base.other W120 (Or.inl ne_ix_ha)
  replace KP := KP.wr W120 (Or.inl (by simp))
  replace V_ha := V120
  rw [own_clamp hk] at V_ha
  refine k_aloadN K120 d_prog_87_method_5_code_76 (pc' := 77) rfl rfl rfl ?_
  refine k_getF K120 (w127 hw) Via.refl F_ix_count d_prog_87_method_5_code_77 (pc' := 80) rfl ?_
  intro T121 K121
  refine k_aloadN K121 d_prog_87_method_5_code_80 (pc' := 81) rfl rfl rfl ?_
  refine k_getF K121 (w52 hw) Via.refl F_ix_buckets d_prog_87_method_5_code_81 (pc' := 84) rfl ?_
  intro T122 K122
  refine k_len K122 V_ba d_prog_87_method_5_code_84 (pc' := 85) rfl ?_
  refine k_icmp_le K122 d_prog_87_method_5_code_85 (by decide) (pc' := 128) (pc2 := 88) (by decide) rfl (fun hc85 => ?_) (fun q => absurd q (by rw [own_i32, own_add1 hk (by omega), show (64 : Int32).toInt = 64 by decide]; omega))
  have lHA' : (HA.set nn (.int (hashC base cs))).length = 32 := by rw [List.length_set, lHA]
  have I3 : Ixd Z h120 ix ca sa ba ea ha kc ks kb ke_ kh (kI nn + 1) lf rp base (wrC CH pn cs cs.length) (ST.set (nn + 1) (.int (p + n))) BU EA (HA.set nn (.int (hashC base cs))) := ⟨X_ix, F_ix_chars, F_ix_starts, F_ix_buckets, F_ix_earlier, F_ix_hashes, F_ix_count, F_ix_lastFound, F_ix_repeating, F_ix_base, V_ca, V_sa, V_ba, V_ea, V_ha, lCH, lST, lBU, lEA, lHA'⟩
  refine k_aloadN K122 d_prog_87_method_5_code_128 (pc' := 129) rfl rfl rfl ?_
  refine k_iload K122 d_prog_87_method_5_code_129 (pc' := 131) rfl rfl ?_
  refine k_private K122 [(.int (kI nn))] [] 0 (w131 hw) (w132 hw) (own_priv K122 rfl (w40 hw) (w132 hw) (w133 hw) (by decide)) (w133 hw) (w41 hw) (w134 hw) X_ix (by decide) pd__I_V_653 (c_link l Z a0 hw hEW n0 ix ca sa ba ea ha kc ks kb ke_ kh (kI nn + 1) lf rp base (wrC CH pn cs cs.length) (ST.set (nn + 1) (.int (p + n))) BU EA (HA.set nn (.int (hashC base cs))) nn (hashC base cs) e0 h120 K122.old I3 nd ga hnn (by rw [own_gs (by rw [lHA]; omega), if_pos rfl]) hbu) d_prog_87_method_5_code_131 (fun x hx => by
    simp only [List.mem_cons, List.not_mem_nil, or_false] at hx
    rcases hx with rfl | rfl | rfl | rfl | rfl | rfl
    · exact ⟨X_ix.lt, sf_ix⟩
    · exact ⟨V_ca.lt, sf_ca⟩
    · exact ⟨V_sa.lt, sf_sa⟩
    · exact ⟨V_ba.lt, sf_ba⟩
    · exact ⟨V_ea.lt, sf_ea⟩
    · exact ⟨V_ha.lt, sf_ha⟩) (pc' := 134) rfl rfl rfl rfl (Nat.le_of_eq rfl) (by decide) (by decide) (by decide) (by decide) ?_
  intro b123 T123 h123 L123 v123 K123 tr123 q123
  obtain ⟨rfl, KQ2, I4⟩ := q123
  replace sf_ix := tr123 ix X_ix.lt sf_ix
  replace sf_ca := tr123 ca V_ca.lt sf_ca
  replace sf_sa := tr123 sa V_sa.lt sf_sa
  replace sf_ba := tr123 ba V_ba.lt sf_ba
  replace sf_ea := tr123 ea V_ea.lt sf_ea
  replace sf_ha := tr123 ha V_ha.lt sf_ha
  replace KP := KP.trans KQ2 (allS (Or.inl (by simp)) (allS (Or.inl (by simp)) (allS (Or.inl (by simp)) (allS (Or.inl (by simp)) (allS (Or.inl (by simp)) (allS (Or.inl (by simp)) all0))))))
  obtain ⟨X_ix, F_ix_chars, F_ix_starts, F_ix_buckets, F_ix_earlier, F_ix_hashes, F_ix_count, F_ix_lastFound, F_ix_repeating, F_ix_base, V_ca, V_sa, V_ba, V_ea, V_ha, lCH, lST, lBU, lEA, lHA⟩ := I4
  show Goes p_.tables e_ below_ _ (T123.setTop (mkF m_ 134 #[.val (.ref ix), .val (.ref a), .val (.int (hashC base cs)), .val (.int (-1 : Int32)), .val (.int (kI nn)), .unset] []))
  refine k_iload K123 d_prog_87_method_5_code_134 (pc' := 136) rfl rfl ?_
  exact k_iret K123 d_prog_87_method_5_code_136 rfl (fun sf ht => ⟨rfl, KP, ⟨X_ix, F_ix_chars, F_ix_starts, F_ix_buckets, F_ix_earlier, F_ix_hashes, F_ix_count, F_ix_lastFound, F_ix_repeating, F_ix_base, V_ca, V_sa, V_ba, V_ea, V_ha, lCH, lST, lBU, lEA, lHA⟩⟩) (by decide) (by decide)
theorem d_prog_87_method_5_code_17 : decode prog_87_method_5_code 17 = .ok (.iconst (-1), 1) := by decide +kernel
theorem d_prog_87_method_5_code_18 : decode prog_87_method_5_code 18 = .ok (.iload_n 3, 1) := by decide +kernel
theorem d_prog_87_method_5_code_19 : decode prog_87_method_5_code 19 = .ok (.isub, 1) := by decide +kernel
theorem d_prog_87_method_5_code_20 : decode prog_87_method_5_code 20 = .ok (.ireturn, 1) := by decide +kernel
set_option maxRecDepth 65536 in
set_option maxHeartbeats 40000000 in
theorem c_addO (l : Launch) (Z : State) (a0 : Array Value) (hw : Tb a0 Z) (hEW : EW Z a0 EL0) (n0 : Nat) (ix ca sa ba ea ha : Addr) (kc ks kb ke_ kh : ClassId) (n_ lf rp : Int32) (base : Int64) (CH ST BU EA HA : List Value) (a e : Addr) (ke : ClassId) (n : Int32) (cs : List Int32) (ff : Value) (cs0 : Int32) (e0 : Int64) (EN : List (Nat × Int32 × List Int32)) (h0 : Heap) (O : Old Z n0 h0) (SF : Sta Z Z.heap "jdk/internal/util/Preconditions" "SIOOBE_FORMATTER" "Ljava/util/function/BiFunction;" ff) (hff : ff.isRef = true) (I : Ixd Z h0 ix ca sa ba ea ha kc ks kb ke_ kh n_ lf rp base CH ST BU EA HA) (S : Str Z h0 a e ke 0 n (lat cs)) (hn : n.toInt = cs.length) (hb : cs.length ≤ 3) (hc : ∀ c ∈ cs, 0 ≤ c.toInt ∧ c.toInt < 256) (hbu : BU.getD (i63 (hashC base cs)) (.long 0) = .long e0) (hch : Chn CH ST EA e0 EN) (hyes : fdV (hashC base cs) cs EN = 0) (SC : Sta Z Z.heap "java/lang/String" "COMPACT_STRINGS" "Z" (.int cs0)) (hcs : ¬ cs0 = 0) :
    Ct l Z EL0 n0 (⟨"com/example/tallyard/tallyard/scenario/formats/TextIndex", "add", "(Ljava/lang/CharSequence;)I"⟩ : MethodName) prog_87_method_5_code 6 (some .int) ({ frames := 6, cells := 0, slots := 0, locals := 86 } : Room) #[(.ref ix), (.ref a)] h0 [] (Pu (some (.int (-1))) h0) := by
  refine Ct.of (a0 := a0) #[.val (.ref ix), .val (.ref a), .unset, .unset, .unset, .unset] hEW O (plainFor_of_name pl_com_example_tallyard_tallyard_scenario_formats_TextIndex) (fun m => by first | (simp [entryFrame, mkF, argsToLocals, Value.category]; done) | rfl) ?_
  intro p_ e_ s_ m_ below_ meth_ c_ b_ T_ K hSP
  have I0 := I
  obtain ⟨X_ix, F_ix_chars, F_ix_starts, F_ix_buckets, F_ix_earlier, F_ix_hashes, F_ix_count, F_ix_lastFound, F_ix_repeating, F_ix_base, V_ca, V_sa, V_ba, V_ea, V_ha, lCH, lST, lBU, lEA, lHA⟩ := I
  refine k_aloadN K d_prog_87_method_5_code_0 (pc' := 1) rfl rfl rfl ?_
  refine k_aloadN K d_prog_87_method_5_code_1 (pc' := 2) rfl rfl rfl ?_
  refine k_privateP K [(.ref a)] [] 0 (w67 hw) (w68 hw) (own_priv K rfl (w40 hw) (w68 hw) (w69 hw) (by decide)) (w69 hw) (w41 hw) (w70 hw) X_ix (by decide) pd__Ljava_lang_CharSequence__I_4090 (c_hashOf l Z a0 hw hEW n0 ix a e ke n cs base ff cs0 h0 K.old SF hff S hn hb hc F_ix_base SC hcs) d_prog_87_method_5_code_2 nofun (pc' := 5) rfl rfl rfl rfl (Nat.le_of_eq rfl) (by decide) (by decide) (by decide) (by decide) ?_
  intro b124 T124 L124 K124 tr124
  show Goes p_.tables e_ below_ _ (T124.setTop (mkF m_ 5 #[.val (.ref ix), .val (.ref a), .unset, .unset, .unset, .unset] [(.int (hashC base cs))]))
  refine k_istoreN K124 d_prog_87_method_5_code_5 (pc' := 6) (L' := #[.val (.ref ix), .val (.ref a), .val (.int (hashC base cs)), .unset, .unset, .unset]) rfl rfl ?_
  refine k_aloadN K124 d_prog_87_method_5_code_6 (pc' := 7) rfl rfl rfl ?_
  refine k_aloadN K124 d_prog_87_method_5_code_7 (pc' := 8) rfl rfl rfl ?_
  refine k_iloadN K124 d_prog_87_method_5_code_8 (pc' := 9) rfl rfl ?_
  refine k_privateP K124 [(.ref a), (.int (hashC base cs))] [] 0 (w119 hw) (w120 hw) (own_priv K124 rfl (w40 hw) (w120 hw) (w121 hw) (by decide)) (w121 hw) (w41 hw) (w122 hw) X_ix (by decide) pd__Ljava_lang_CharSequence_I_I_6102 (c_find l Z a0 hw hEW n0 ix ca sa ba ea ha kc ks kb ke_ kh n_ lf rp base CH ST BU EA HA a e ke n cs ff cs0 (hashC base cs) e0 EN h0 K124.old SF hff I0 S hn hb hc hbu hch SC hcs) d_prog_87_method_5_code_9 nofun (pc' := 12) rfl rfl rfl rfl (Nat.le_of_eq rfl) (by decide) (by decide) (by decide) (by decide) ?_
  intro b125 T125 L125 K125 tr125
  show Goes p_.tables e_ below_ _ (T125.setTop (mkF m_ 12 #[.val (.ref ix), .val (.ref a), .val (.int (hashC base cs)), .unset, .unset, .unset] [(.int (fdV (hashC base cs) cs EN))]))
  rw [hyes]
  refine k_istoreN K125 d_prog_87_method_5_code_12 (pc' := 13) (L' := #[.val (.ref ix), .val (.ref a), .val (.int (hashC base cs)), .val (.int (0 : Int32)), .unset, .unset]) rfl rfl ?_
  refine k_iloadN K125 d_prog_87_method_5_code_13 (pc' := 14) rfl rfl ?_
  refine k_if_lt K125 d_prog_87_method_5_code_14 (by decide) (pc' := 21) (pc2 := 17) (by decide) rfl (fun q => absurd q (by decide)) (fun hc14 => ?_)
  refine k_iconst K125 (-1 : Int32) d_prog_87_method_5_code_17 (pc' := 18) rfl rfl ?_
  refine k_iloadN K125 d_prog_87_method_5_code_18 (pc' := 19) rfl rfl ?_
  refine k_isub K125 d_prog_87_method_5_code_19 (pc' := 20) rfl ?_
  rw [show ((-1 : Int32) - (0 : Int32)) = (-1 : Int32) by decide]
  exact k_iret K125 d_prog_87_method_5_code_20 rfl (fun sf ht => ⟨rfl, rfl⟩) (by decide) (by decide)
theorem d_prog_87_method_4_code_0 : decode prog_87_method_4_code 0 = .ok (.aload_n 0, 1) := by decide +kernel
theorem d_prog_87_method_4_code_1 : decode prog_87_method_4_code 1 = .ok (.getfield 55, 3) := by decide +kernel
theorem w149 {Z : State} {a0 : Array Value} (hw : Tb a0 Z) : (Jvm.Cond.fieldLink "com/example/tallyard/tallyard/scenario/formats/TextIndex" (55 : Nat) "com/example/tallyard/tallyard/scenario/formats/TextIndex" "repeating" "Z").before a0 Z = true := hw _ (List.mem_of_getElem? (i := 149) rfl)
theorem d_prog_87_method_4_code_4 : decode prog_87_method_4_code 4 = .ok (.ifCond .eq 23, 3) := by decide +kernel
theorem d_prog_87_method_4_code_27 : decode prog_87_method_4_code 27 = .ok (.aload_n 0, 1) := by decide +kernel
theorem d_prog_87_method_4_code_28 : decode prog_87_method_4_code 28 = .ok (.aload_n 1, 1) := by decide +kernel
theorem d_prog_87_method_4_code_29 : decode prog_87_method_4_code 29 = .ok (.aload_n 0, 1) := by decide +kernel
theorem d_prog_87_method_4_code_30 : decode prog_87_method_4_code 30 = .ok (.aload_n 1, 1) := by decide +kernel
theorem d_prog_87_method_4_code_31 : decode prog_87_method_4_code 31 = .ok (.invokevirtual 63, 3) := by decide +kernel
theorem d_prog_87_method_4_code_34 : decode prog_87_method_4_code 34 = .ok (.invokevirtual 67, 3) := by decide +kernel
theorem d_prog_87_method_4_code_37 : decode prog_87_method_4_code 37 = .ok (.istore_n 2, 1) := by decide +kernel
theorem d_prog_87_method_4_code_38 : decode prog_87_method_4_code 38 = .ok (.aload_n 0, 1) := by decide +kernel
theorem d_prog_87_method_4_code_39 : decode prog_87_method_4_code 39 = .ok (.iload_n 2, 1) := by decide +kernel
theorem d_prog_87_method_4_code_40 : decode prog_87_method_4_code 40 = .ok (.ifCond .lt 15, 3) := by decide +kernel
theorem d_prog_87_method_4_code_55 : decode prog_87_method_4_code 55 = .ok (.iconst 0, 1) := by decide +kernel
theorem d_prog_87_method_4_code_56 : decode prog_87_method_4_code 56 = .ok (.putfield 55, 3) := by decide +kernel
theorem d_prog_87_method_4_code_59 : decode prog_87_method_4_code 59 = .ok (.iload_n 2, 1) := by decide +kernel
theorem d_prog_87_method_4_code_60 : decode prog_87_method_4_code 60 = .ok (.ifCond .lt 8, 3) := by decide +kernel
theorem d_prog_87_method_4_code_68 : decode prog_87_method_4_code 68 = .ok (.iload_n 2, 1) := by decide +kernel
theorem d_prog_87_method_4_code_69 : decode prog_87_method_4_code 69 = .ok (.ireturn, 1) := by decide +kernel
set_option maxRecDepth 65536 in
set_option maxHeartbeats 40000000 in
theorem c_numM (l : Launch) (Z : State) (a0 : Array Value) (hw : Tb a0 Z) (hEW : EW Z a0 EL0) (n0 : Nat) (ix ca sa ba ea ha : Addr) (kc ks kb ke_ kh : ClassId) (n_ lf : Int32) (base : Int64) (CH ST BU EA HA : List Value) (a e : Addr) (ke : ClassId) (n : Int32) (cs : List Int32) (ff : Value) (cs0 : Int32) (e0 : Int64) (EN : List (Nat × Int32 × List Int32)) (h0 : Heap) (O : Old Z n0 h0) (SF : Sta Z Z.heap "jdk/internal/util/Preconditions" "SIOOBE_FORMATTER" "Ljava/util/function/BiFunction;" ff) (hff : ff.isRef = true) (I : Ixd Z h0 ix ca sa ba ea ha kc ks kb ke_ kh n_ lf 0 base CH ST BU EA HA) (nd : [ix, ca, sa, ba, ea, ha].Nodup) (ga : ∀ y ∈ [ix, ca, sa, ba, ea, ha], n0 ≤ y) (S : Str Z h0 a e ke 0 n (lat cs)) (hn : n.toInt = cs.length) (hb : cs.length ≤ 3) (hc : ∀ c ∈ cs, 0 ≤ c.toInt ∧ c.toInt < 256) (hbu : BU.getD (i63 (hashC base cs)) (.long 0) = .long e0) (hch : Chn CH ST EA e0 EN) (hr : fdV (hashC base cs) cs EN = (-1)) (SC : Sta Z Z.heap "java/lang/String" "COMPACT_STRINGS" "Z" (.int cs0)) (hcs : ¬ cs0 = 0) :
    Ct l Z EL0 n0 (⟨"com/example/tallyard/tallyard/scenario/formats/TextIndex", "numberOf", "(Ljava/lang/CharSequence;)I"⟩ : MethodName) prog_87_method_4_code 3 (some .int) ({ frames := 6, cells := 0, slots := 0, locals := 86 } : Room) #[(.ref ix), (.ref a)] h0 [ix, ca, sa, ba, ea, ha] (fun v h sf => v = some (.int (-1)) ∧ Keep h0 h [ix, ca, sa, ba, ea, ha] ∧ Ixd Z h ix ca sa ba ea ha kc ks kb ke_ kh n_ lf 0 base CH ST BU EA HA) := by
  refine Ct.of (a0 := a0) #[.val (.ref ix), .val (.ref a), .unset] hEW O (plainFor_of_name pl_com_example_tallyard_tallyard_scenario_formats_TextIndex) (fun m => by first | (simp [entryFrame, mkF, argsToLocals, Value.category]; done) | rfl) ?_
  intro p_ e_ s_ m_ below_ meth_ c_ b_ T_ K hSP
  have I0 := I
  obtain ⟨X_ix, F_ix_chars, F_ix_starts, F_ix_buckets, F_ix_earlier, F_ix_hashes, F_ix_count, F_ix_lastFound, F_ix_repeating, F_ix_base, V_ca, V_sa, V_ba, V_ea, V_ha, lCH, lST, lBU, lEA, lHA⟩ := I
  have KP := Keep.refl h0 [ix, ca, sa, ba, ea, ha]
  obtain ⟨ne_ix_ca, ne_ix_sa, ne_ix_ba, ne_ix_ea, ne_ix_ha, ne_ca_sa, ne_ca_ba, ne_ca_ea, ne_ca_ha, ne_sa_ba, ne_sa_ea, ne_sa_ha, ne_ba_ea, ne_ba_ha, ne_ea_ha⟩ := nd6 nd
  have ga_ix := ga ix (by simp)
  have sf_ix := hSP ix (by simp)
  have ga_ca := ga ca (by simp)
  have sf_ca := hSP ca (by simp)
  have ga_sa := ga sa (by simp)
  have sf_sa := hSP sa (by simp)
  have ga_ba := ga ba (by simp)
  have sf_ba := hSP ba (by simp)
  have ga_ea := ga ea (by simp)
  have sf_ea := hSP ea (by simp)
  have ga_ha := ga ha (by simp)
  have sf_ha := hSP ha (by simp)
  refine k_aloadN K d_prog_87_method_4_code_0 (pc' := 1) rfl rfl rfl ?_
  refine k_getF K (w149 hw) Via.refl F_ix_repeating d_prog_87_method_4_code_1 (pc' := 4) rfl ?_
  intro T126 K126
  refine k_if_eq K126 d_prog_87_method_4_code_4 (by decide) (pc' := 27) (pc2 := 7) (by decide) rfl (fun hc4 => ?_) (fun q => absurd (by decide) q)
  refine k_aloadN K126 d_prog_87_method_4_code_27 (pc' := 28) rfl rfl rfl ?_
  refine k_aloadN K126 d_prog_87_method_4_code_28 (pc' := 29) rfl rfl rfl ?_
  refine k_aloadN K126 d_prog_87_method_4_code_29 (pc' := 30) rfl rfl rfl ?_
  refine k_aloadN K126 d_prog_87_method_4_code_30 (pc' := 31) rfl rfl rfl ?_
  refine k_privateP K126 [(.ref a)] [(.ref a), (.ref ix)] 2 (w67 hw) (w68 hw) (own_priv K126 rfl (w40 hw) (w68 hw) (w69 hw) (by decide)) (w69 hw) (w41 hw) (w70 hw) X_ix (by decide) pd__Ljava_lang_CharSequence__I_4090 (c_hashOf l Z a0 hw hEW n0 ix a e ke n cs base ff cs0 h0 K126.old SF hff S hn hb hc F_ix_base SC hcs) d_prog_87_method_4_code_31 nofun (pc' := 34) rfl rfl rfl rfl (Nat.le_of_eq rfl) (by decide) (by decide) (by decide) (by decide) ?_
  intro b127 T127 L127 K127 tr127
  show Goes p_.tables e_ below_ _ (T127.setTop (mkF m_ 34 #[.val (.ref ix), .val (.ref a), .unset] [(.int (hashC base cs)), (.ref a), (.ref ix)]))
  replace sf_ix := tr127 ix X_ix.lt sf_ix
  replace sf_ca := tr127 ca V_ca.lt sf_ca
  replace sf_sa := tr127 sa V_sa.lt sf_sa
  replace sf_ba := tr127 ba V_ba.lt sf_ba
  replace sf_ea := tr127 ea V_ea.lt sf_ea
  replace sf_ha := tr127 ha V_ha.lt sf_ha
  refine k_privateP K127 [(.ref a), (.int (hashC base cs))] [] 0 (w119 hw) (w120 hw) (own_priv K127 rfl (w40 hw) (w120 hw) (w121 hw) (by decide)) (w121 hw) (w41 hw) (w122 hw) X_ix (by decide) pd__Ljava_lang_CharSequence_I_I_6102 (c_find l Z a0 hw hEW n0 ix ca sa ba ea ha kc ks kb ke_ kh n_ lf 0 base CH ST BU EA HA a e ke n cs ff cs0 (hashC base cs) e0 EN h0 K127.old SF hff I0 S hn hb hc hbu hch SC hcs) d_prog_87_method_4_code_34 nofun (pc' := 37) rfl rfl rfl rfl (Nat.le_of_eq rfl) (by decide) (by decide) (by decide) (by decide) ?_
  intro b128 T128 L128 K128 tr128
  show Goes p_.tables e_ below_ _ (T128.setTop (mkF m_ 37 #[.val (.ref ix), .val (.ref a), .unset] [(.int (fdV (hashC base cs) cs EN))]))
  replace sf_ix := tr128 ix X_ix.lt sf_ix
  replace sf_ca := tr128 ca V_ca.lt sf_ca
  replace sf_sa := tr128 sa V_sa.lt sf_sa
  replace sf_ba := tr128 ba V_ba.lt sf_ba
  replace sf_ea := tr128 ea V_ea.lt sf_ea
  replace sf_ha := tr128 ha V_ha.lt sf_ha
  rw [hr]
  refine k_istoreN K128 d_prog_87_method_4_code_37 (pc' := 38) (L' := #[.val (.ref ix), .val (.ref a), .val (.int (-1 : Int32))]) rfl rfl ?_
  refine k_aloadN K128 d_prog_87_method_4_code_38 (pc' := 39) rfl rfl rfl ?_
  refine k_iloadN K128 d_prog_87_method_4_code_39 (pc' := 40) rfl rfl ?_
  refine k_if_lt K128 d_prog_87_method_4_code_40 (by decide) (pc' := 55) (pc2 := 43) (by decide) rfl (fun hc40 => ?_) (fun q => absurd (by decide) q)
  refine k_iconst K128 (0 : Int32) d_prog_87_method_4_code_55 (pc' := 56) rfl rfl ?_
  refine k_putF K128 (w149 hw) Via.refl F_ix_repeating X_ix (Or.inl (w150 hw)) (w40 hw) (ty := .boolean) (by decide) rfl rfl ga_ix sf_ix d_prog_87_method_4_code_56 (pc' := 59) rfl ?_
  intro T129 h129 K129 W129 tr129
  have F129 := F_ix_repeating.same W129
  replace sf_ix := tr129 ix X_ix.lt sf_ix
  replace sf_ca := tr129 ca V_ca.lt sf_ca
  replace sf_sa := tr129 sa V_sa.lt sf_sa
  replace sf_ba := tr129 ba V_ba.lt sf_ba
  replace sf_ea := tr129 ea V_ea.lt sf_ea
  replace sf_ha := tr129 ha V_ha.lt sf_ha
  replace X_ix := X_ix.wr W129
  replace F_ix_chars := F_ix_chars.other W129 (Or.inr (slot_ne (Or.inl (w47 hw)) (Or.inl (w150 hw)) (by decide) (t := (.array .char)) (t' := .boolean) (by decide) (by decide)))
  replace V_ca := V_ca.other W129 (Ne.symm ne_ix_ca)
  replace F_ix_starts := F_ix_starts.other W129 (Or.inr (slot_ne (Or.inl (w50 hw)) (Or.inl (w150 hw)) (by decide) (t := (.array .int)) (t' := .boolean) (by decide) (by decide)))
  replace V_sa := V_sa.other W129 (Ne.symm ne_ix_sa)
  replace F_ix_buckets := F_ix_buckets.other W129 (Or.inr (slot_ne (Or.inl (w53 hw)) (Or.inl (w150 hw)) (by decide) (t := (.array .long)) (t' := .boolean) (by decide) (by decide)))
  replace V_ba := V_ba.other W129 (Ne.symm ne_ix_ba)
  replace F_ix_earlier := F_ix_earlier.other W129 (Or.inr (slot_ne (Or.inl (w55 hw)) (Or.inl (w150 hw)) (by decide) (t := (.array .long)) (t' := .boolean) (by decide) (by decide)))
  replace V_ea := V_ea.other W129 (Ne.symm ne_ix_ea)
  replace F_ix_hashes := F_ix_hashes.other W129 (Or.inr (slot_ne (Or.inl (w57 hw)) (Or.inl (w150 hw)) (by decide) (t := (.array .int)) (t' := .boolean) (by decide) (by decide)))
  replace V_ha := V_ha.other W129 (Ne.symm ne_ix_ha)
  replace F_ix_count := F_ix_count.other W129 (Or.inr (slot_ne (Or.inl (w128 hw)) (Or.inl (w150 hw)) (by decide) (t := .int) (t' := .boolean) (by decide) (by decide)))
  replace F_ix_lastFound := F_ix_lastFound.other W129 (Or.inr (slot_ne (Or.inl (w59 hw)) (Or.inl (w150 hw)) (by decide) (t := .int) (t' := .boolean) (by decide) (by decide)))
  replace F_ix_base := F_ix_base.other W129 (Or.inr (slot_ne (Or.inr (w61 hw)) (Or.inl (w150 hw)) (by decide) (t := .long) (t' := .boolean) (by decide) (by decide)))
  replace KP := KP.wr W129 (Or.inl (by simp))
  replace F_ix_repeating := F129
  refine k_iloadN K129 d_prog_87_method_4_code_59 (pc' := 60) rfl rfl ?_
  refine k_if_lt K129 d_prog_87_method_4_code_60 (by decide) (pc' := 68) (pc2 := 63) (by decide) rfl (fun hc60 => ?_) (fun q => absurd (by decide) q)
  refine k_iloadN K129 d_prog_87_method_4_code_68 (pc' := 69) rfl rfl ?_
  exact k_iret K129 d_prog_87_method_4_code_69 rfl (fun sf ht => ⟨rfl, KP, ⟨X_ix, F_ix_chars, F_ix_starts, F_ix_buckets, F_ix_earlier, F_ix_hashes, F_ix_count, F_ix_lastFound, F_ix_repeating, F_ix_base, V_ca, V_sa, V_ba, V_ea, V_ha, lCH, lST, lBU, lEA, lHA⟩⟩) (by decide) (by decide)
theorem d_prog_87_method_4_code_43 : decode prog_87_method_4_code 43 = .ok (.iload_n 2, 1) := by decide +kernel
theorem d_prog_87_method_4_code_44 : decode prog_87_method_4_code 44 = .ok (.aload_n 0, 1) := by decide +kernel
theorem d_prog_87_method_4_code_45 : decode prog_87_method_4_code 45 = .ok (.getfield 44, 3) := by decide +kernel
theorem d_prog_87_method_4_code_48 : decode prog_87_method_4_code 48 = .ok (.if_icmp .ne 7, 3) := by decide +kernel
theorem d_prog_87_method_4_code_63 : decode prog_87_method_4_code 63 = .ok (.aload_n 0, 1) := by decide +kernel
theorem d_prog_87_method_4_code_64 : decode prog_87_method_4_code 64 = .ok (.iload_n 2, 1) := by decide +kernel
theorem d_prog_87_method_4_code_65 : decode prog_87_method_4_code 65 = .ok (.putfield 44, 3) := by decide +kernel
set_option maxRecDepth 65536 in
set_option maxHeartbeats 40000000 in
theorem c_num1 (l : Launch) (Z : State) (a0 : Array Value) (hw : Tb a0 Z) (hEW : EW Z a0 EL0) (n0 : Nat) (ix ca sa ba ea ha : Addr) (kc ks kb ke_ kh : ClassId) (n_ : Int32) (base : Int64) (CH ST BU EA HA : List Value) (a e : Addr) (ke : ClassId) (n : Int32) (cs : List Int32) (ff : Value) (cs0 : Int32) (e0 : Int64) (EN : List (Nat × Int32 × List Int32)) (h0 : Heap) (O : Old Z n0 h0) (SF : Sta Z Z.heap "jdk/internal/util/Preconditions" "SIOOBE_FORMATTER" "Ljava/util/function/BiFunction;" ff) (hff : ff.isRef = true) (I : Ixd Z h0 ix ca sa ba ea ha kc ks kb ke_ kh n_ (-1) 0 base CH ST BU EA HA) (nd : [ix, ca, sa, ba, ea, ha].Nodup) (ga : ∀ y ∈ [ix, ca, sa, ba, ea, ha], n0 ≤ y) (S : Str Z h0 a e ke 0 n (lat cs)) (hn : n.toInt = cs.length) (hb : cs.length ≤ 3) (hc : ∀ c ∈ cs, 0 ≤ c.toInt ∧ c.toInt < 256) (hbu : BU.getD (i63 (hashC base cs)) (.long 0) = .long e0) (hch : Chn CH ST EA e0 EN) (hr : fdV (hashC base cs) cs EN = 0) (SC : Sta Z Z.heap "java/lang/String" "COMPACT_STRINGS" "Z" (.int cs0)) (hcs : ¬ cs0 = 0) :
    Ct l Z EL0 n0 (⟨"com/example/tallyard/tallyard/scenario/formats/TextIndex", "numberOf", "(Ljava/lang/CharSequence;)I"⟩ : MethodName) prog_87_method_4_code 3 (some .int) ({ frames := 6, cells := 0, slots := 0, locals := 86 } : Room) #[(.ref ix), (.ref a)] h0 [ix, ca, sa, ba, ea, ha] (fun v h sf => v = some (.int 0) ∧ Keep h0 h [ix, ca, sa, ba, ea, ha] ∧ Ixd Z h ix ca sa ba ea ha kc ks kb ke_ kh n_ 0 0 base CH ST BU EA HA) := by
  refine Ct.of (a0 := a0) #[.val (.ref ix), .val (.ref a), .unset] hEW O (plainFor_of_name pl_com_example_tallyard_tallyard_scenario_formats_TextIndex) (fun m => by first | (simp [entryFrame, mkF, argsToLocals, Value.category]; done) | rfl) ?_
  intro p_ e_ s_ m_ below_ meth_ c_ b_ T_ K hSP
  have I0 := I
  obtain ⟨X_ix, F_ix_chars, F_ix_starts, F_ix_buckets, F_ix_earlier, F_ix_hashes, F_ix_count, F_ix_lastFound, F_ix_repeating, F_ix_base, V_ca, V_sa, V_ba, V_ea, V_ha, lCH, lST, lBU, lEA, lHA⟩ := I
  have KP := Keep.refl h0 [ix, ca, sa, ba, ea, ha]
  obtain ⟨ne_ix_ca, ne_ix_sa, ne_ix_ba, ne_ix_ea, ne_ix_ha, ne_ca_sa, ne_ca_ba, ne_ca_ea, ne_ca_ha, ne_sa_ba, ne_sa_ea, ne_sa_ha, ne_ba_ea, ne_ba_ha, ne_ea_ha⟩ := nd6 nd
  have ga_ix := ga ix (by simp)
  have sf_ix := hSP ix (by simp)
  have ga_ca := ga ca (by simp)
  have sf_ca := hSP ca (by simp)
  have ga_sa := ga sa (by simp)
  have sf_sa := hSP sa (by simp)
  have ga_ba := ga ba (by simp)
  have sf_ba := hSP ba (by simp)
  have ga_ea := ga ea (by simp)
  have sf_ea := hSP ea (by simp)
  have ga_ha := ga ha (by simp)
  have sf_ha := hSP ha (by simp)
  refine k_aloadN K d_prog_87_method_4_code_0 (pc' := 1) rfl rfl rfl ?_
  refine k_getF K (w149 hw) Via.refl F_ix_repeating d_prog_87_method_4_code_1 (pc' := 4) rfl ?_
  intro T130 K130
  refine k_if_eq K130 d_prog_87_method_4_code_4 (by decide) (pc' := 27) (pc2 := 7) (by decide) rfl (fun hc4 => ?_) (fun q => absurd (by decide) q)
  refine k_aloadN K130 d_prog_87_method_4_code_27 (pc' := 28) rfl rfl rfl ?_
  refine k_aloadN K130 d_prog_87_method_4_code_28 (pc' := 29) rfl rfl rfl ?_
  refine k_aloadN K130 d_prog_87_method_4_code_29 (pc' := 30) rfl rfl rfl ?_
  refine k_aloadN K130 d_prog_87_method_4_code_30 (pc' := 31) rfl rfl rfl ?_
  refine k_privateP K130 [(.ref a)] [(.ref a), (.ref ix)] 2 (w67 hw) (w68 hw) (own_priv K130 rfl (w40 hw) (w68 hw) (w69 hw) (by decide)) (w69 hw) (w41 hw) (w70 hw) X_ix (by decide) pd__Ljava_lang_CharSequence__I_4090 (c_hashOf l Z a0 hw hEW n0 ix a e ke n cs base ff cs0 h0 K130.old SF hff S hn hb hc F_ix_base SC hcs) d_prog_87_method_4_code_31 nofun (pc' := 34) rfl rfl rfl rfl (Nat.le_of_eq rfl) (by decide) (by decide) (by decide) (by decide) ?_
  intro b131 T131 L131 K131 tr131
  show Goes p_.tables e_ below_ _ (T131.setTop (mkF m_ 34 #[.val (.ref ix), .val (.ref a), .unset] [(.int (hashC base cs)), (.ref a), (.ref ix)]))
  replace sf_ix := tr131 ix X_ix.lt sf_ix
  replace sf_ca := tr131 ca V_ca.lt sf_ca
  replace sf_sa := tr131 sa V_sa.lt sf_sa
  replace sf_ba := tr131 ba V_ba.lt sf_ba
  replace sf_ea := tr131 ea V_ea.lt sf_ea
  replace sf_ha := tr131 ha V_ha.lt sf_ha
  refine k_privateP K131 [(.ref a), (.int (hashC base cs))] [] 0 (w119 hw) (w120 hw) (own_priv K131 rfl (w40 hw) (w120 hw) (w121 hw) (by decide)) (w121 hw) (w41 hw) (w122 hw) X_ix (by decide) pd__Ljava_lang_CharSequence_I_I_6102 (c_find l Z a0 hw hEW n0 ix ca sa ba ea ha kc ks kb ke_ kh n_ (-1) 0 base CH ST BU EA HA a e ke n cs ff cs0 (hashC base cs) e0 EN h0 K131.old SF hff I0 S hn hb hc hbu hch SC hcs) d_prog_87_method_4_code_34 nofun (pc' := 37) rfl rfl rfl rfl (Nat.le_of_eq rfl) (by decide) (by decide) (by decide) (by decide) ?_
  intro b132 T132 L132 K132 tr132
  show Goes p_.tables e_ below_ _ (T132.setTop (mkF m_ 37 #[.val (.ref ix), .val (.ref a), .unset] [(.int (fdV (hashC base cs) cs EN))]))
  replace sf_ix := tr132 ix X_ix.lt sf_ix
  replace sf_ca := tr132 ca V_ca.lt sf_ca
  replace sf_sa := tr132 sa V_sa.lt sf_sa
  replace sf_ba := tr132 ba V_ba.lt sf_ba
  replace sf_ea := tr132 ea V_ea.lt sf_ea
  replace sf_ha := tr132 ha V_ha.lt sf_ha
  rw [hr]
  refine k_istoreN K132 d_prog_87_method_4_code_37 (pc' := 38) (L' := #[.val (.ref ix), .val (.ref a), .val (.int (0 : Int32))]) rfl rfl ?_
  refine k_aloadN K132 d_prog_87_method_4_code_38 (pc' := 39) rfl rfl rfl ?_
  refine k_iloadN K132 d_prog_87_method_4_code_39 (pc' := 40) rfl rfl ?_
  refine k_if_lt K132 d_prog_87_method_4_code_40 (by decide) (pc' := 55) (pc2 := 43) (by decide) rfl (fun q => absurd q (by decide)) (fun hc40 => ?_)
  refine k_iloadN K132 d_prog_87_method_4_code_43 (pc' := 44) rfl rfl ?_
  refine k_aloadN K132 d_prog_87_method_4_code_44 (pc' := 45) rfl rfl rfl ?_
  refine k_getF K132 (w58 hw) Via.refl F_ix_lastFound d_prog_87_method_4_code_45 (pc' := 48) rfl ?_
  intro T133 K133
  refine k_icmp_ne K133 d_prog_87_method_4_code_48 (by decide) (pc' := 55) (pc2 := 51) (by decide) rfl (fun hc48 => ?_) (fun q => absurd q (by decide))
  refine k_iconst K133 (0 : Int32) d_prog_87_method_4_code_55 (pc' := 56) rfl rfl ?_
  refine k_putF K133 (w149 hw) Via.refl F_ix_repeating X_ix (Or.inl (w150 hw)) (w40 hw) (ty := .boolean) (by decide) rfl rfl ga_ix sf_ix d_prog_87_method_4_code_56 (pc' := 59) rfl ?_
  intro T134 h134 K134 W134 tr134
  have F134 := F_ix_repeating.same W134
  replace sf_ix := tr134 ix X_ix.lt sf_ix
  replace sf_ca := tr134 ca V_ca.lt sf_ca
  replace sf_sa := tr134 sa V_sa.lt sf_sa
  replace sf_ba := tr134 ba V_ba.lt sf_ba
  replace sf_ea := tr134 ea V_ea.lt sf_ea
  replace sf_ha := tr134 ha V_ha.lt sf_ha
  replace X_ix := X_ix.wr W134
  replace F_ix_chars := F_ix_chars.other W134 (Or.inr (slot_ne (Or.inl (w47 hw)) (Or.inl (w150 hw)) (by decide) (t := (.array .char)) (t' := .boolean) (by decide) (by decide)))
  replace V_ca := V_ca.other W134 (Ne.symm ne_ix_ca)
  replace F_ix_starts := F_ix_starts.other W134 (Or.inr (slot_ne (Or.inl (w50 hw)) (Or.inl (w150 hw)) (by decide) (t := (.array .int)) (t' := .boolean) (by decide) (by decide)))
  replace V_sa := V_sa.other W134 (Ne.symm ne_ix_sa)
  replace F_ix_buckets := F_ix_buckets.other W134 (Or.inr (slot_ne (Or.inl (w53 hw)) (Or.inl (w150 hw)) (by decide) (t := (.array .long)) (t' := .boolean) (by decide) (by decide)))
  replace V_ba := V_ba.other W134 (Ne.symm ne_ix_ba)
  replace F_ix_earlier := F_ix_earlier.other W134 (Or.inr (slot_ne (Or.inl (w55 hw)) (Or.inl (w150 hw)) (by decide) (t := (.array .long)) (t' := .boolean) (by decide) (by decide)))
  replace V_ea := V_ea.other W134 (Ne.symm ne_ix_ea)
  replace F_ix_hashes := F_ix_hashes.other W134 (Or.inr (slot_ne (Or.inl (w57 hw)) (Or.inl (w150 hw)) (by decide) (t := (.array .int)) (t' := .boolean) (by decide) (by decide)))
  replace V_ha := V_ha.other W134 (Ne.symm ne_ix_ha)
  replace F_ix_count := F_ix_count.other W134 (Or.inr (slot_ne (Or.inl (w128 hw)) (Or.inl (w150 hw)) (by decide) (t := .int) (t' := .boolean) (by decide) (by decide)))
  replace F_ix_lastFound := F_ix_lastFound.other W134 (Or.inr (slot_ne (Or.inl (w59 hw)) (Or.inl (w150 hw)) (by decide) (t := .int) (t' := .boolean) (by decide) (by decide)))
  replace F_ix_base := F_ix_base.other W134 (Or.inr (slot_ne (Or.inr (w61 hw)) (Or.inl (w150 hw)) (by decide) (t := .long) (t' := .boolean) (by decide) (by decide)))
  replace KP := KP.wr W134 (Or.inl (by simp))
  replace F_ix_repeating := F134
  refine k_iloadN K134 d_prog_87_method_4_code_59 (pc' := 60) rfl rfl ?_
  refine k_if_lt K134 d_prog_87_method_4_code_60 (by decide) (pc' := 68) (pc2 := 63) (by decide) rfl (fun q => absurd q (by decide)) (fun hc60 => ?_)
  refine k_aloadN K134 d_prog_87_method_4_code_63 (pc' := 64) rfl rfl rfl ?_
  refine k_iloadN K134 d_prog_87_method_4_code_64 (pc' := 65) rfl rfl ?_
  refine k_putF K134 (w58 hw) Via.refl F_ix_lastFound X_ix (Or.inl (w59 hw)) (w40 hw) (ty := .int) (by decide) rfl rfl ga_ix sf_ix d_prog_87_method_4_code_65 (pc' := 68) rfl ?_
  intro T135 h135 K135 W135 tr135
  have F135 := F_ix_lastFound.same W135
  replace sf_ix := tr135 ix X_ix.lt sf_ix
  replace sf_ca := tr135 ca V_ca.lt sf_ca
  replace sf_sa := tr135 sa V_sa.lt sf_sa
  replace sf_ba := tr135 ba V_ba.lt sf_ba
  replace sf_ea := tr135 ea V_ea.lt sf_ea
  replace sf_ha := tr135 ha V_ha.lt sf_ha
  replace X_ix := X_ix.wr W135
  replace F_ix_chars := F_ix_chars.other W135 (Or.inr (slot_ne (Or.inl (w47 hw)) (Or.inl (w59 hw)) (by decide) (t := (.array .char)) (t' := .int) (by decide) (by decide)))
  replace V_ca := V_ca.other W135 (Ne.symm ne_ix_ca)
  replace F_ix_starts := F_ix_starts.other W135 (Or.inr (slot_ne (Or.inl (w50 hw)) (Or.inl (w59 hw)) (by decide) (t := (.array .int)) (t' := .int) (by decide) (by decide)))
  replace V_sa := V_sa.other W135 (Ne.symm ne_ix_sa)
  replace F_ix_buckets := F_ix_buckets.other W135 (Or.inr (slot_ne (Or.inl (w53 hw)) (Or.inl (w59 hw)) (by decide) (t := (.array .long)) (t' := .int) (by decide) (by decide)))
  replace V_ba := V_ba.other W135 (Ne.symm ne_ix_ba)
  replace F_ix_earlier := F_ix_earlier.other W135 (Or.inr (slot_ne (Or.inl (w55 hw)) (Or.inl (w59 hw)) (by decide) (t := (.array .long)) (t' := .int) (by decide) (by decide)))
  replace V_ea := V_ea.other W135 (Ne.symm ne_ix_ea)
  replace F_ix_hashes := F_ix_hashes.other W135 (Or.inr (slot_ne (Or.inl (w57 hw)) (Or.inl (w59 hw)) (by decide) (t := (.array .int)) (t' := .int) (by decide) (by decide)))
  replace V_ha := V_ha.other W135 (Ne.symm ne_ix_ha)
  replace F_ix_count := F_ix_count.other W135 (Or.inr (slot_ne (Or.inl (w128 hw)) (Or.inl (w59 hw)) (by decide) (t := .int) (t' := .int) (by decide) (by decide)))
  replace F_ix_repeating := F_ix_repeating.other W135 (Or.inr (slot_ne (Or.inl (w150 hw)) (Or.inl (w59 hw)) (by decide) (t := .boolean) (t' := .int) (by decide) (by decide)))
  replace F_ix_base := F_ix_base.other W135 (Or.inr (slot_ne (Or.inr (w61 hw)) (Or.inl (w59 hw)) (by decide) (t := .long) (t' := .int) (by decide) (by decide)))
  replace KP := KP.wr W135 (Or.inl (by simp))
  replace F_ix_lastFound := F135
  refine k_iloadN K135 d_prog_87_method_4_code_68 (pc' := 69) rfl rfl ?_
  exact k_iret K135 d_prog_87_method_4_code_69 rfl (fun sf ht => ⟨rfl, KP, ⟨X_ix, F_ix_chars, F_ix_starts, F_ix_buckets, F_ix_earlier, F_ix_hashes, F_ix_count, F_ix_lastFound, F_ix_repeating, F_ix_base, V_ca, V_sa, V_ba, V_ea, V_ha, lCH, lST, lBU, lEA, lHA⟩⟩) (by decide) (by decide)
theorem d_prog_87_method_4_code_51 : decode prog_87_method_4_code 51 = .ok (.iconst 1, 1) := by decide +kernel
theorem d_prog_87_method_4_code_52 : decode prog_87_method_4_code 52 = .ok (.goto 4, 3) := by decide +kernel
set_option maxRecDepth 65536 in
set_option maxHeartbeats 40000000 in
theorem c_num2 (l : Launch) (Z : State) (a0 : Array Value) (hw : Tb a0 Z) (hEW : EW Z a0 EL0) (n0 : Nat) (ix ca sa ba ea ha : Addr) (kc ks kb ke_ kh : ClassId) (n_ : Int32) (base : Int64) (CH ST BU EA HA : List Value) (a e : Addr) (ke : ClassId) (n : Int32) (cs : List Int32) (ff : Value) (cs0 : Int32) (e0 : Int64) (EN : List (Nat × Int32 × List Int32)) (h0 : Heap) (O : Old Z n0 h0) (SF : Sta Z Z.heap "jdk/internal/util/Preconditions" "SIOOBE_FORMATTER" "Ljava/util/function/BiFunction;" ff) (hff : ff.isRef = true) (I : Ixd Z h0 ix ca sa ba ea ha kc ks kb ke_ kh n_ 0 0 base CH ST BU EA HA) (nd : [ix, ca, sa, ba, ea, ha].Nodup) (ga : ∀ y ∈ [ix, ca, sa, ba, ea, ha], n0 ≤ y) (S : Str Z h0 a e ke 0 n (lat cs)) (hn : n.toInt = cs.length) (hb : cs.length ≤ 3) (hc : ∀ c ∈ cs, 0 ≤ c.toInt ∧ c.toInt < 256) (hbu : BU.getD (i63 (hashC base cs)) (.long 0) = .long e0) (hch : Chn CH ST EA e0 EN) (hr : fdV (hashC base cs) cs EN = 0) (SC : Sta Z Z.heap "java/lang/String" "COMPACT_STRINGS" "Z" (.int cs0)) (hcs : ¬ cs0 = 0) :
    Ct l Z EL0 n0 (⟨"com/example/tallyard/tallyard/scenario/formats/TextIndex", "numberOf", "(Ljava/lang/CharSequence;)I"⟩ : MethodName) prog_87_method_4_code 3 (some .int) ({ frames := 6, cells := 0, slots := 0, locals := 86 } : Room) #[(.ref ix), (.ref a)] h0 [ix, ca, sa, ba, ea, ha] (fun v h sf => v = some (.int 0) ∧ Keep h0 h [ix, ca, sa, ba, ea, ha] ∧ Ixd Z h ix ca sa ba ea ha kc ks kb ke_ kh n_ 0 1 base CH ST BU EA HA) := by
  refine Ct.of (a0 := a0) #[.val (.ref ix), .val (.ref a), .unset] hEW O (plainFor_of_name pl_com_example_tallyard_tallyard_scenario_formats_TextIndex) (fun m => by first | (simp [entryFrame, mkF, argsToLocals, Value.category]; done) | rfl) ?_
  intro p_ e_ s_ m_ below_ meth_ c_ b_ T_ K hSP
  have I0 := I
  obtain ⟨X_ix, F_ix_chars, F_ix_starts, F_ix_buckets, F_ix_earlier, F_ix_hashes, F_ix_count, F_ix_lastFound, F_ix_repeating, F_ix_base, V_ca, V_sa, V_ba, V_ea, V_ha, lCH, lST, lBU, lEA, lHA⟩ := I
  have KP := Keep.refl h0 [ix, ca, sa, ba, ea, ha]
  obtain ⟨ne_ix_ca, ne_ix_sa, ne_ix_ba, ne_ix_ea, ne_ix_ha, ne_ca_sa, ne_ca_ba, ne_ca_ea, ne_ca_ha, ne_sa_ba, ne_sa_ea, ne_sa_ha, ne_ba_ea, ne_ba_ha, ne_ea_ha⟩ := nd6 nd
  have ga_ix := ga ix (by simp)
  have sf_ix := hSP ix (by simp)
  have ga_ca := ga ca (by simp)
  have sf_ca := hSP ca (by simp)
  have ga_sa := ga sa (by simp)
  have sf_sa := hSP sa (by simp)
  have ga_ba := ga ba (by simp)
  have sf_ba := hSP ba (by simp)
  have ga_ea := ga ea (by simp)
  have sf_ea := hSP ea (by simp)
  have ga_ha := ga ha (by simp)
  have sf_ha := hSP ha (by simp)
  refine k_aloadN K d_prog_87_method_4_code_0 (pc' := 1) rfl rfl rfl ?_
  refine k_getF K (w149 hw) Via.refl F_ix_repeating d_prog_87_method_4_code_1 (pc' := 4) rfl ?_
  intro T136 K136
  refine k_if_eq K136 d_prog_87_method_4_code_4 (by decide) (pc' := 27) (pc2 := 7) (by decide) rfl (fun hc4 => ?_) (fun q => absurd (by decide) q)
  refine k_aloadN K136 d_prog_87_method_4_code_27 (pc' := 28) rfl rfl rfl ?_
  refine k_aloadN K136 d_prog_87_method_4_code_28 (pc' := 29) rfl rfl rfl ?_
  refine k_aloadN K136 d_prog_87_method_4_code_29 (pc' := 30) rfl rfl rfl ?_
  refine k_aloadN K136 d_prog_87_method_4_code_30 (pc' := 31) rfl rfl rfl ?_
  refine k_privateP K136 [(.ref a)] [(.ref a), (.ref ix)] 2 (w67 hw) (w68 hw) (own_priv K136 rfl (w40 hw) (w68 hw) (w69 hw) (by decide)) (w69 hw) (w41 hw) (w70 hw) X_ix (by decide) pd__Ljava_lang_CharSequence__I_4090 (c_hashOf l Z a0 hw hEW n0 ix a e ke n cs base ff cs0 h0 K136.old SF hff S hn hb hc F_ix_base SC hcs) d_prog_87_method_4_code_31 nofun (pc' := 34) rfl rfl rfl rfl (Nat.le_of_eq rfl) (by decide) (by decide) (by decide) (by decide) ?_
  intro b137 T137 L137 K137 tr137
  show Goes p_.tables e_ below_ _ (T137.setTop (mkF m_ 34 #[.val (.ref ix), .val (.ref a), .unset] [(.int (hashC base cs)), (.ref a), (.ref ix)]))
  replace sf_ix := tr137 ix X_ix.lt sf_ix
  replace sf_ca := tr137 ca V_ca.lt sf_ca
  replace sf_sa := tr137 sa V_sa.lt sf_sa
  replace sf_ba := tr137 ba V_ba.lt sf_ba
  replace sf_ea := tr137 ea V_ea.lt sf_ea
  replace sf_ha := tr137 ha V_ha.lt sf_ha
  refine k_privateP K137 [(.ref a), (.int (hashC base cs))] [] 0 (w119 hw) (w120 hw) (own_priv K137 rfl (w40 hw) (w120 hw) (w121 hw) (by decide)) (w121 hw) (w41 hw) (w122 hw) X_ix (by decide) pd__Ljava_lang_CharSequence_I_I_6102 (c_find l Z a0 hw hEW n0 ix ca sa ba ea ha kc ks kb ke_ kh n_ 0 0 base CH ST BU EA HA a e ke n cs ff cs0 (hashC base cs) e0 EN h0 K137.old SF hff I0 S hn hb hc hbu hch SC hcs) d_prog_87_method_4_code_34 nofun (pc' := 37) rfl rfl rfl rfl (Nat.le_of_eq rfl) (by decide) (by decide) (by decide) (by decide) ?_
  intro b138 T138 L138 K138 tr138
  show Goes p_.tables e_ below_ _ (T138.setTop (mkF m_ 37 #[.val (.ref ix), .val (.ref a), .unset] [(.int (fdV (hashC base cs) cs EN))]))
  replace sf_ix := tr138 ix X_ix.lt sf_ix
  replace sf_ca := tr138 ca V_ca.lt sf_ca
  replace sf_sa := tr138 sa V_sa.lt sf_sa
  replace sf_ba := tr138 ba V_ba.lt sf_ba
  replace sf_ea := tr138 ea V_ea.lt sf_ea
  replace sf_ha := tr138 ha V_ha.lt sf_ha
  rw [hr]
  refine k_istoreN K138 d_prog_87_method_4_code_37 (pc' := 38) (L' := #[.val (.ref ix), .val (.ref a), .val (.int (0 : Int32))]) rfl rfl ?_
  refine k_aloadN K138 d_prog_87_method_4_code_38 (pc' := 39) rfl rfl rfl ?_
  refine k_iloadN K138 d_prog_87_method_4_code_39 (pc' := 40) rfl rfl ?_
  refine k_if_lt K138 d_prog_87_method_4_code_40 (by decide) (pc' := 55) (pc2 := 43) (by decide) rfl (fun q => absurd q (by decide)) (fun hc40 => ?_)
  refine k_iloadN K138 d_prog_87_method_4_code_43 (pc' := 44) rfl rfl ?_
  refine k_aloadN K138 d_prog_87_method_4_code_44 (pc' := 45) rfl rfl rfl ?_
  refine k_getF K138 (w58 hw) Via.refl F_ix_lastFound d_prog_87_method_4_code_45 (pc' := 48) rfl ?_
  intro T139 K139
  refine k_icmp_ne K139 d_prog_87_method_4_code_48 (by decide) (pc' := 55) (pc2 := 51) (by decide) rfl (fun q => absurd (by decide) q) (fun hc48 => ?_)
  refine k_iconst K139 (1 : Int32) d_prog_87_method_4_code_51 (pc' := 52) rfl rfl ?_
  refine k_goto K139 d_prog_87_method_4_code_52 (by decide) (pc' := 56) (by decide) ?_
  refine k_putF K139 (w149 hw) Via.refl F_ix_repeating X_ix (Or.inl (w150 hw)) (w40 hw) (ty := .boolean) (by decide) rfl rfl ga_ix sf_ix d_prog_87_method_4_code_56 (pc' := 59) rfl ?_
  intro T140 h140 K140 W140 tr140
  have F140 := F_ix_repeating.same W140
  replace sf_ix := tr140 ix X_ix.lt sf_ix
  replace sf_ca := tr140 ca V_ca.lt sf_ca
  replace sf_sa := tr140 sa V_sa.lt sf_sa
  replace sf_ba := tr140 ba V_ba.lt sf_ba
  replace sf_ea := tr140 ea V_ea.lt sf_ea
  replace sf_ha := tr140 ha V_ha.lt sf_ha
  replace X_ix := X_ix.wr W140
  replace F_ix_chars := F_ix_chars.other W140 (Or.inr (slot_ne (Or.inl (w47 hw)) (Or.inl (w150 hw)) (by decide) (t := (.array .char)) (t' := .boolean) (by decide) (by decide)))
  replace V_ca := V_ca.other W140 (Ne.symm ne_ix_ca)
  replace F_ix_starts := F_ix_starts.other W140 (Or.inr (slot_ne (Or.inl (w50 hw)) (Or.inl (w150 hw)) (by decide) (t := (.array .int)) (t' := .boolean) (by decide) (by decide)))
  replace V_sa := V_sa.other W140 (Ne.symm ne_ix_sa)
  replace F_ix_buckets := F_ix_buckets.other W140 (Or.inr (slot_ne (Or.inl (w53 hw)) (Or.inl (w150 hw)) (by decide) (t := (.array .long)) (t' := .boolean) (by decide) (by decide)))
  replace V_ba := V_ba.other W140 (Ne.symm ne_ix_ba)
  replace F_ix_earlier := F_ix_earlier.other W140 (Or.inr (slot_ne (Or.inl (w55 hw)) (Or.inl (w150 hw)) (by decide) (t := (.array .long)) (t' := .boolean) (by decide) (by decide)))
  replace V_ea := V_ea.other W140 (Ne.symm ne_ix_ea)
  replace F_ix_hashes := F_ix_hashes.other W140 (Or.inr (slot_ne (Or.inl (w57 hw)) (Or.inl (w150 hw)) (by decide) (t := (.array .int)) (t' := .boolean) (by decide) (by decide)))
  replace V_ha := V_ha.other W140 (Ne.symm ne_ix_ha)
  replace F_ix_count := F_ix_count.other W140 (Or.inr (slot_ne (Or.inl (w128 hw)) (Or.inl (w150 hw)) (by decide) (t := .int) (t' := .boolean) (by decide) (by decide)))
  replace F_ix_lastFound := F_ix_lastFound.other W140 (Or.inr (slot_ne (Or.inl (w59 hw)) (Or.inl (w150 hw)) (by decide) (t := .int) (t' := .boolean) (by decide) (by decide)))
  replace F_ix_base := F_ix_base.other W140 (Or.inr (slot_ne (Or.inr (w61 hw)) (Or.inl (w150 hw)) (by decide) (t := .long) (t' := .boolean) (by decide) (by decide)))
  replace KP := KP.wr W140 (Or.inl (by simp))
  replace F_ix_repeating := F140
  refine k_iloadN K140 d_prog_87_method_4_code_59 (pc' := 60) rfl rfl ?_
  refine k_if_lt K140 d_prog_87_method_4_code_60 (by decide) (pc' := 68) (pc2 := 63) (by decide) rfl (fun q => absurd q (by decide)) (fun hc60 => ?_)
  refine k_aloadN K140 d_prog_87_method_4_code_63 (pc' := 64) rfl rfl rfl ?_
  refine k_iloadN K140 d_prog_87_method_4_code_64 (pc' := 65) rfl rfl ?_
  refine k_putF K140 (w58 hw) Via.refl F_ix_lastFound X_ix (Or.inl (w59 hw)) (w40 hw) (ty := .int) (by decide) rfl rfl ga_ix sf_ix d_prog_87_method_4_code_65 (pc' := 68) rfl ?_
  intro T141 h141 K141 W141 tr141
  have F141 := F_ix_lastFound.same W141
  replace sf_ix := tr141 ix X_ix.lt sf_ix
  replace sf_ca := tr141 ca V_ca.lt sf_ca
  replace sf_sa := tr141 sa V_sa.lt sf_sa
  replace sf_ba := tr141 ba V_ba.lt sf_ba
  replace sf_ea := tr141 ea V_ea.lt sf_ea
  replace sf_ha := tr141 ha V_ha.lt sf_ha
  replace X_ix := X_ix.wr W141
  replace F_ix_chars := F_ix_chars.other W141 (Or.inr (slot_ne (Or.inl (w47 hw)) (Or.inl (w59 hw)) (by decide) (t := (.array .char)) (t' := .int) (by decide) (by decide)))
  replace V_ca := V_ca.other W141 (Ne.symm ne_ix_ca)
  replace F_ix_starts := F_ix_starts.other W141 (Or.inr (slot_ne (Or.inl (w50 hw)) (Or.inl (w59 hw)) (by decide) (t := (.array .int)) (t' := .int) (by decide) (by decide)))
  replace V_sa := V_sa.other W141 (Ne.symm ne_ix_sa)
  replace F_ix_buckets := F_ix_buckets.other W141 (Or.inr (slot_ne (Or.inl (w53 hw)) (Or.inl (w59 hw)) (by decide) (t := (.array .long)) (t' := .int) (by decide) (by decide)))
  replace V_ba := V_ba.other W141 (Ne.symm ne_ix_ba)
  replace F_ix_earlier := F_ix_earlier.other W141 (Or.inr (slot_ne (Or.inl (w55 hw)) (Or.inl (w59 hw)) (by decide) (t := (.array .long)) (t' := .int) (by decide) (by decide)))
  replace V_ea := V_ea.other W141 (Ne.symm ne_ix_ea)
  replace F_ix_hashes := F_ix_hashes.other W141 (Or.inr (slot_ne (Or.inl (w57 hw)) (Or.inl (w59 hw)) (by decide) (t := (.array .int)) (t' := .int) (by decide) (by decide)))
  replace V_ha := V_ha.other W141 (Ne.symm ne_ix_ha)
  replace F_ix_count := F_ix_count.other W141 (Or.inr (slot_ne (Or.inl (w128 hw)) (Or.inl (w59 hw)) (by decide) (t := .int) (t' := .int) (by decide) (by decide)))
  replace F_ix_repeating := F_ix_repeating.other W141 (Or.inr (slot_ne (Or.inl (w150 hw)) (Or.inl (w59 hw)) (by decide) (t := .boolean) (t' := .int) (by decide) (by decide)))
  replace F_ix_base := F_ix_base.other W141 (Or.inr (slot_ne (Or.inr (w61 hw)) (Or.inl (w59 hw)) (by decide) (t := .long) (t' := .int) (by decide) (by decide)))
  replace KP := KP.wr W141 (Or.inl (by simp))
  replace F_ix_lastFound := F141
  refine k_iloadN K141 d_prog_87_method_4_code_68 (pc' := 69) rfl rfl ?_
  exact k_iret K141 d_prog_87_method_4_code_69 rfl (fun sf ht => ⟨rfl, KP, ⟨X_ix, F_ix_chars, F_ix_starts, F_ix_buckets, F_ix_earlier, F_ix_hashes, F_ix_count, F_ix_lastFound, F_ix_repeating, F_ix_base, V_ca, V_sa, V_ba, V_ea, V_ha, lCH, lST, lBU, lEA, lHA⟩⟩) (by decide) (by decide)
theorem d_prog_87_method_6_code_0 : decode prog_87_method_6_code 0 = .ok (.iconst 0, 1) := by decide +kernel
theorem d_prog_87_method_6_code_1 : decode prog_87_method_6_code 1 = .ok (.istore_n 1, 1) := by decide +kernel
theorem d_prog_87_method_6_code_2 : decode prog_87_method_6_code 2 = .ok (.iload_n 1, 1) := by decide +kernel
theorem d_prog_87_method_6_code_3 : decode prog_87_method_6_code 3 = .ok (.aload_n 0, 1) := by decide +kernel
theorem d_prog_87_method_6_code_4 : decode prog_87_method_6_code 4 = .ok (.getfield 52, 3) := by decide +kernel
theorem d_prog_87_method_6_code_7 : decode prog_87_method_6_code 7 = .ok (.if_icmp .ge 29, 3) := by decide +kernel
theorem d_prog_87_method_6_code_36 : decode prog_87_method_6_code 36 = .ok (.aload_n 0, 1) := by decide +kernel
theorem d_prog_87_method_6_code_37 : decode prog_87_method_6_code 37 = .ok (.iconst 0, 1) := by decide +kernel
theorem d_prog_87_method_6_code_38 : decode prog_87_method_6_code 38 = .ok (.putfield 52, 3) := by decide +kernel
theorem d_prog_87_method_6_code_41 : decode prog_87_method_6_code 41 = .ok (.aload_n 0, 1) := by decide +kernel
theorem d_prog_87_method_6_code_42 : decode prog_87_method_6_code 42 = .ok (.iconst (-1), 1) := by decide +kernel
theorem d_prog_87_method_6_code_43 : decode prog_87_method_6_code 43 = .ok (.putfield 44, 3) := by decide +kernel
theorem d_prog_87_method_6_code_46 : decode prog_87_method_6_code 46 = .ok (.aload_n 0, 1) := by decide +kernel
theorem d_prog_87_method_6_code_47 : decode prog_87_method_6_code 47 = .ok (.iconst 0, 1) := by decide +kernel
theorem d_prog_87_method_6_code_48 : decode prog_87_method_6_code 48 = .ok (.putfield 55, 3) := by decide +kernel
theorem d_prog_87_method_6_code_51 : decode prog_87_method_6_code 51 = .ok (.return_, 1) := by decide +kernel
theorem d_prog_87_method_6_code_10 : decode prog_87_method_6_code 10 = .ok (.aload_n 0, 1) := by decide +kernel
theorem d_prog_87_method_6_code_11 : decode prog_87_method_6_code 11 = .ok (.getfield 34, 3) := by decide +kernel
theorem d_prog_87_method_6_code_14 : decode prog_87_method_6_code 14 = .ok (.aload_n 0, 1) := by decide +kernel
theorem d_prog_87_method_6_code_15 : decode prog_87_method_6_code 15 = .ok (.getfield 41, 3) := by decide +kernel
theorem d_prog_87_method_6_code_18 : decode prog_87_method_6_code 18 = .ok (.iload_n 1, 1) := by decide +kernel
theorem d_prog_87_method_6_code_19 : decode prog_87_method_6_code 19 = .ok (.iaload, 1) := by decide +kernel
theorem d_prog_87_method_6_code_20 : decode prog_87_method_6_code 20 = .ok (.aload_n 0, 1) := by decide +kernel
theorem d_prog_87_method_6_code_21 : decode prog_87_method_6_code 21 = .ok (.getfield 34, 3) := by decide +kernel
theorem d_prog_87_method_6_code_24 : decode prog_87_method_6_code 24 = .ok (.arraylength, 1) := by decide +kernel
theorem d_prog_87_method_6_code_25 : decode prog_87_method_6_code 25 = .ok (.iconst 1, 1) := by decide +kernel
theorem d_prog_87_method_6_code_26 : decode prog_87_method_6_code 26 = .ok (.isub, 1) := by decide +kernel
theorem d_prog_87_method_6_code_27 : decode prog_87_method_6_code 27 = .ok (.iand, 1) := by decide +kernel
theorem d_prog_87_method_6_code_28 : decode prog_87_method_6_code 28 = .ok (.lconst 0, 1) := by decide +kernel
theorem d_prog_87_method_6_code_29 : decode prog_87_method_6_code 29 = .ok (.lastore, 1) := by decide +kernel
theorem d_prog_87_method_6_code_30 : decode prog_87_method_6_code 30 = .ok (.iinc 1 1, 3) := by decide +kernel
theorem d_prog_87_method_6_code_33 : decode prog_87_method_6_code 33 = .ok (.goto (-31), 3) := by decide +kernel
set_option maxRecDepth 65536 in
set_option maxHeartbeats 40000000 in
theorem c_clear (l : Launch) (Z : State) (a0 : Array Value) (hw : Tb a0 Z) (hEW : EW Z a0 EL0) (n0 : Nat) (ix ca sa ba ea ha : Addr) (kc ks kb ke_ kh : ClassId) (n_ lf rp : Int32) (base : Int64) (CH ST BU EA HA : List Value) (nn : Nat) (h0 : Heap) (O : Old Z n0 h0) (I : Ixd Z h0 ix ca sa ba ea ha kc ks kb ke_ kh n_ lf rp base CH ST BU EA HA) (nd : [ix, ca, sa, ba, ea, ha].Nodup) (ga : ∀ y ∈ [ix, ca, sa, ba, ea, ha], n0 ≤ y) (hn_ : n_.toInt = nn) (hnn : nn ≤ 2) (hha : ∀ m, m < nn → ∃ Hm, HA.getD m (.int 0) = .int Hm) (hz : ∀ j, j < 64 → BU.getD j (.long 0) = .long 0 ∨ ∃ m, m < nn ∧ ∃ Hm, HA.getD m (.int 0) = .int Hm ∧ j = i63 Hm) :
    Ct l Z EL0 n0 (⟨"com/example/tallyard/tallyard/scenario/formats/TextIndex", "clear", "()V"⟩ : MethodName) prog_87_method_6_code 2 none ({ frames := 0, cells := 0, slots := 0, locals := 0 } : Room) #[(.ref ix)] h0 [ix, ca, sa, ba, ea, ha] (fun v h sf => v = none ∧ Keep h0 h [ix, ca, sa, ba, ea, ha] ∧ ∃ BU', Ixd Z h ix ca sa ba ea ha kc ks kb ke_ kh 0 (-1) 0 base CH ST BU' EA HA ∧ ∀ j, j < 64 → BU'.getD j (.long 0) = .long 0) := by
  refine Ct.of (a0 := a0) #[.val (.ref ix), .unset] hEW O (plainFor_of_name pl_com_example_tallyard_tallyard_scenario_formats_TextIndex) (fun m => by first | (simp [entryFrame, mkF, argsToLocals, Value.category]; done) | rfl) ?_
  intro p_ e_ s_ m_ below_ meth_ c_ b_ T_ K hSP
  obtain ⟨X_ix, F_ix_chars, F_ix_starts, F_ix_buckets, F_ix_earlier, F_ix_hashes, F_ix_count, F_ix_lastFound, F_ix_repeating, F_ix_base, V_ca, V_sa, V_ba, V_ea, V_ha, lCH, lST, lBU, lEA, lHA⟩ := I
  have KP := Keep.refl h0 [ix, ca, sa, ba, ea, ha]
  obtain ⟨ne_ix_ca, ne_ix_sa, ne_ix_ba, ne_ix_ea, ne_ix_ha, ne_ca_sa, ne_ca_ba, ne_ca_ea, ne_ca_ha, ne_sa_ba, ne_sa_ea, ne_sa_ha, ne_ba_ea, ne_ba_ha, ne_ea_ha⟩ := nd6 nd
  have ga_ix := ga ix (by simp)
  have sf_ix := hSP ix (by simp)
  have ga_ca := ga ca (by simp)
  have sf_ca := hSP ca (by simp)
  have ga_sa := ga sa (by simp)
  have sf_sa := hSP sa (by simp)
  have ga_ba := ga ba (by simp)
  have sf_ba := hSP ba (by simp)
  have ga_ea := ga ea (by simp)
  have sf_ea := hSP ea (by simp)
  have ga_ha := ga ha (by simp)
  have sf_ha := hSP ha (by simp)
  refine k_iconst K (0 : Int32) d_prog_87_method_6_code_0 (pc' := 1) rfl rfl ?_
  refine k_istoreN K d_prog_87_method_6_code_1 (pc' := 2) (L' := #[.val (.ref ix), .val (.int (0 : Int32))]) rfl rfl ?_
  have LOOP : ∀ (k : Nat) (ii : Int32) (i : Nat) (hj : ii.toInt = i) (hk : i + k = nn) (BC : List Value) (lBC : BC.length = 64) (hz : ∀ j, j < 64 → BC.getD j (.long 0) = .long 0 ∨ ∃ m, i ≤ m ∧ m < nn ∧ ∃ Hm, HA.getD m (.int 0) = .int Hm ∧ j = i63 Hm) (bl Tl : State) (hl : Heap) (Ll : List Loc), Wk p_ l e_ ({ frames := 0, cells := 0, slots := 0, locals := 0 } : Room) s_ m_ #[(.ref ix)] below_ meth_ c_ Z a0 EL0 n0 (⟨"com/example/tallyard/tallyard/scenario/formats/TextIndex", "clear", "()V"⟩ : MethodName) prog_87_method_6_code 2 none bl Tl hl Ll 0 0 → (Exa Z hl ix "com/example/tallyard/tallyard/scenario/formats/TextIndex") → (Fld Z hl ix "com/example/tallyard/tallyard/scenario/formats/TextIndex" "chars" "[C" (.ref ca)) → (Arv Z hl ca kc .char 256 CH (.int 0)) → (Fld Z hl ix "com/example/tallyard/tallyard/scenario/formats/TextIndex" "starts" "[I" (.ref sa)) → (Arv Z hl sa ks .int 33 ST (.int 0)) → (Fld Z hl ix "com/example/tallyard/tallyard/scenario/formats/TextIndex" "buckets" "[J" (.ref ba)) → (Arv Z hl ba kb .long 64 BC (.long 0)) → (Fld Z hl ix "com/example/tallyard/tallyard/scenario/formats/TextIndex" "earlier" "[J" (.ref ea)) → (Arv Z hl ea ke_ .long 32 EA (.long 0)) → (Fld Z hl ix "com/example/tallyard/tallyard/scenario/formats/TextIndex" "hashes" "[I" (.ref ha)) → (Arv Z hl ha kh .int 32 HA (.int 0)) → (Fld Z hl ix "com/example/tallyard/tallyard/scenario/formats/TextIndex" "count" "I" (.int n_)) → (Fld Z hl ix "com/example/tallyard/tallyard/scenario/formats/TextIndex" "lastFound" "I" (.int lf)) → (Fld Z hl ix "com/example/tallyard/tallyard/scenario/formats/TextIndex" "repeating" "Z" (.int rp)) → (Fld Z hl ix "com/example/tallyard/tallyard/scenario/formats/TextIndex" "base" "J" (.long base)) → (Keep h0 hl [ix, ca, sa, ba, ea, ha]) → (Sfe Z EL0 bl.vm hl ix) → (Sfe Z EL0 bl.vm hl ca) → (Sfe Z EL0 bl.vm hl sa) → (Sfe Z EL0 bl.vm hl ba) → (Sfe Z EL0 bl.vm hl ea) → (Sfe Z EL0 bl.vm hl ha) → Goes p_.tables e_ below_ (FinW Z EL0 s_ n0 ({ frames := 0, cells := 0, slots := 0, locals := 0 } : Room) (fun v h sf => v = none ∧ Keep h0 h [ix, ca, sa, ba, ea, ha] ∧ ∃ BU', Ixd Z h ix ca sa ba ea ha kc ks kb ke_ kh 0 (-1) 0 base CH ST BU' EA HA ∧ ∀ j, j < 64 → BU'.getD j (.long 0) = .long 0)) (Tl.setTop (mkF m_ 2 #[.val (.ref ix), .val (.int ii)] [])) := by
    intro k
    induction k with
    | zero =>
      intro ii i hj hk BC lBC hz bl Tl hl Ll Kl X_ix F_ix_chars V_ca F_ix_starts V_sa F_ix_buckets V_ba F_ix_earlier V_ea F_ix_hashes V_ha F_ix_count F_ix_lastFound F_ix_repeating F_ix_base KP sf_ix sf_ca sf_sa sf_ba sf_ea sf_ha
      refine k_iloadN Kl d_prog_87_method_6_code_2 (pc' := 3) rfl rfl ?_
      refine k_aloadN Kl d_prog_87_method_6_code_3 (pc' := 4) rfl rfl rfl ?_
      refine k_getF Kl (w127 hw) Via.refl F_ix_count d_prog_87_method_6_code_4 (pc' := 7) rfl ?_
      intro T143 K143
      refine k_icmp_ge K143 d_prog_87_method_6_code_7 (by decide) (pc' := 36) (pc2 := 10) (by decide) rfl (fun hc7 => ?_) (fun q => absurd q (by rw [own_i32, hj, hn_]; omega))
      refine k_aloadN K143 d_prog_87_method_6_code_36 (pc' := 37) rfl rfl rfl ?_
      refine k_iconst K143 (0 : Int32) d_prog_87_method_6_code_37 (pc' := 38) rfl rfl ?_
      refine k_putF K143 (w127 hw) Via.refl F_ix_count X_ix (Or.inl (w128 hw)) (w40 hw) (ty := .int) (by decide) rfl rfl ga_ix sf_ix d_prog_87_method_6_code_38 (pc' := 41) rfl ?_
      intro T144 h144 K144 W144 tr144
      have F144 := F_ix_count.same W144
      replace sf_ix := tr144 ix X_ix.lt sf_ix
      replace sf_ca := tr144 ca V_ca.lt sf_ca
      replace sf_sa := tr144 sa V_sa.lt sf_sa
      replace sf_ba := tr144 ba V_ba.lt sf_ba
      replace sf_ea := tr144 ea V_ea.lt sf_ea
      replace sf_ha := tr144 ha V_ha.lt sf_ha
      replace X_ix := X_ix.wr W144
      replace F_ix_chars := F_ix_chars.other W144 (Or.inr (slot_ne (Or.inl (w47 hw)) (Or.inl (w128 hw)) (by decide) (t := (.array .char)) (t' := .int) (by decide) (by decide)))
      replace V_ca := V_ca.other W144 (Ne.symm ne_ix_ca)
      replace F_ix_starts := F_ix_starts.other W144 (Or.inr (slot_ne (Or.inl (w50 hw)) (Or.inl (w128 hw)) (by decide) (t := (.array .int)) (t' := .int) (by decide) (by decide)))
      replace V_sa := V_sa.other W144 (Ne.symm ne_ix_sa)
      replace F_ix_buckets := F_ix_buckets.other W144 (Or.inr (slot_ne (Or.inl (w53 hw)) (Or.inl (w128 hw)) (by decide) (t := (.array .long)) (t' := .int) (by decide) (by decide)))
      replace V_ba := V_ba.other W144 (Ne.symm ne_ix_ba)
      replace F_ix_earlier := F_ix_earlier.other W144 (Or.inr (slot_ne (Or.inl (w55 hw)) (Or.inl (w128 hw)) (by decide) (t := (.array .long)) (t' := .int) (by decide) (by decide)))
      replace V_ea := V_ea.other W144 (Ne.symm ne_ix_ea)
      replace F_ix_hashes := F_ix_hashes.other W144 (Or.inr (slot_ne (Or.inl (w57 hw)) (Or.inl (w128 hw)) (by decide) (t := (.array .int)) (t' := .int) (by decide) (by decide)))
      replace V_ha := V_ha.other W144 (Ne.symm ne_ix_ha)
      replace F_ix_lastFound := F_ix_lastFound.other W144 (Or.inr (slot_ne (Or.inl (w59 hw)) (Or.inl (w128 hw)) (by decide) (t := .int) (t' := .int) (by decide) (by decide)))
      replace F_ix_repeating := F_ix_repeating.other W144 (Or.inr (slot_ne (Or.inl (w150 hw)) (Or.inl (w128 hw)) (by decide) (t := .boolean) (t' := .int) (by decide) (by decide)))
      replace F_ix_base := F_ix_base.other W144 (Or.inr (slot_ne (Or.inr (w61 hw)) (Or.inl (w128 hw)) (by decide) (t := .long) (t' := .int) (by decide) (by decide)))
      replace KP := KP.wr W144 (Or.inl (by simp))
      replace F_ix_count := F144
      refine k_aloadN K144 d_prog_87_method_6_code_41 (pc' := 42) rfl rfl rfl ?_
      refine k_iconst K144 (-1 : Int32) d_prog_87_method_6_code_42 (pc' := 43) rfl rfl ?_
      refine k_putF K144 (w58 hw) Via.refl F_ix_lastFound X_ix (Or.inl (w59 hw)) (w40 hw) (ty := .int) (by decide) rfl rfl ga_ix sf_ix d_prog_87_method_6_code_43 (pc' := 46) rfl ?_
      intro T145 h145 K145 W145 tr145
      have F145 := F_ix_lastFound.same W145
      replace sf_ix := tr145 ix X_ix.lt sf_ix
      replace sf_ca := tr145 ca V_ca.lt sf_ca
      replace sf_sa := tr145 sa V_sa.lt sf_sa
      replace sf_ba := tr145 ba V_ba.lt sf_ba
      replace sf_ea := tr145 ea V_ea.lt sf_ea
      replace sf_ha := tr145 ha V_ha.lt sf_ha
      replace X_ix := X_ix.wr W145
      replace F_ix_chars := F_ix_chars.other W145 (Or.inr (slot_ne (Or.inl (w47 hw)) (Or.inl (w59 hw)) (by decide) (t := (.array .char)) (t' := .int) (by decide) (by decide)))
      replace V_ca := V_ca.other W145 (Ne.symm ne_ix_ca)
      replace F_ix_starts := F_ix_starts.other W145 (Or.inr (slot_ne (Or.inl (w50 hw)) (Or.inl (w59 hw)) (by decide) (t := (.array .int)) (t' := .int) (by decide) (by decide)))
      replace V_sa := V_sa.other W145 (Ne.symm ne_ix_sa)
      replace F_ix_buckets := F_ix_buckets.other W145 (Or.inr (slot_ne (Or.inl (w53 hw)) (Or.inl (w59 hw)) (by decide) (t := (.array .long)) (t' := .int) (by decide) (by decide)))
      replace V_ba := V_ba.other W145 (Ne.symm ne_ix_ba)
      replace F_ix_earlier := F_ix_earlier.other W145 (Or.inr (slot_ne (Or.inl (w55 hw)) (Or.inl (w59 hw)) (by decide) (t := (.array .long)) (t' := .int) (by decide) (by decide)))
      replace V_ea := V_ea.other W145 (Ne.symm ne_ix_ea)
      replace F_ix_hashes := F_ix_hashes.other W145 (Or.inr (slot_ne (Or.inl (w57 hw)) (Or.inl (w59 hw)) (by decide) (t := (.array .int)) (t' := .int) (by decide) (by decide)))
      replace V_ha := V_ha.other W145 (Ne.symm ne_ix_ha)
      replace F_ix_count := F_ix_count.other W145 (Or.inr (slot_ne (Or.inl (w128 hw)) (Or.inl (w59 hw)) (by decide) (t := .int) (t' := .int) (by decide) (by decide)))
      replace F_ix_repeating := F_ix_repeating.other W145 (Or.inr (slot_ne (Or.inl (w150 hw)) (Or.inl (w59 hw)) (by decide) (t := .boolean) (t' := .int) (by decide) (by decide)))
      replace F_ix_base := F_ix_base.other W145 (Or.inr (slot_ne (Or.inr (w61 hw)) (Or.inl (w59 hw)) (by decide) (t := .long) (t' := .int) (by decide) (by decide)))
      replace KP := KP.wr W145 (Or.inl (by simp))
      replace F_ix_lastFound := F145
      refine k_aloadN K145 d_prog_87_method_6_code_46 (pc' := 47) rfl rfl rfl ?_
      refine k_iconst K145 (0 : Int32) d_prog_87_method_6_code_47 (pc' := 48) rfl rfl ?_
      refine k_putF K145 (w149 hw) Via.refl F_ix_repeating X_ix (Or.inl (w150 hw)) (w40 hw) (ty := .boolean) (by decide) rfl rfl ga_ix sf_ix d_prog_87_method_6_code_48 (pc' := 51) rfl ?_
      intro T146 h146 K146 W146 tr146
      have F146 := F_ix_repeating.same W146
      replace sf_ix := tr146 ix X_ix.lt sf_ix
      replace sf_ca := tr146 ca V_ca.lt sf_ca
      replace sf_sa := tr146 sa V_sa.lt sf_sa
      replace sf_ba := tr146 ba V_ba.lt sf_ba
      replace sf_ea := tr146 ea V_ea.lt sf_ea
      replace sf_ha := tr146 ha V_ha.lt sf_ha
      replace X_ix := X_ix.wr W146
      replace F_ix_chars := F_ix_chars.other W146 (Or.inr (slot_ne (Or.inl (w47 hw)) (Or.inl (w150 hw)) (by decide) (t := (.array .char)) (t' := .boolean) (by decide) (by decide)))
      replace V_ca := V_ca.other W146 (Ne.symm ne_ix_ca)
      replace F_ix_starts := F_ix_starts.other W146 (Or.inr (slot_ne (Or.inl (w50 hw)) (Or.inl (w150 hw)) (by decide) (t := (.array .int)) (t' := .boolean) (by decide) (by decide)))
      replace V_sa := V_sa.other W146 (Ne.symm ne_ix_sa)
      replace F_ix_buckets := F_ix_buckets.other W146 (Or.inr (slot_ne (Or.inl (w53 hw)) (Or.inl (w150 hw)) (by decide) (t := (.array .long)) (t' := .boolean) (by decide) (by decide)))
      replace V_ba := V_ba.other W146 (Ne.symm ne_ix_ba)
      replace F_ix_earlier := F_ix_earlier.other W146 (Or.inr (slot_ne (Or.inl (w55 hw)) (Or.inl (w150 hw)) (by decide) (t := (.array .long)) (t' := .boolean) (by decide) (by decide)))
      replace V_ea := V_ea.other W146 (Ne.symm ne_ix_ea)
      replace F_ix_hashes := F_ix_hashes.other W146 (Or.inr (slot_ne (Or.inl (w57 hw)) (Or.inl (w150 hw)) (by decide) (t := (.array .int)) (t' := .boolean) (by decide) (by decide)))
      replace V_ha := V_ha.other W146 (Ne.symm ne_ix_ha)
      replace F_ix_count := F_ix_count.other W146 (Or.inr (slot_ne (Or.inl (w128 hw)) (Or.inl (w150 hw)) (by decide) (t := .int) (t' := .boolean) (by decide) (by decide)))
      replace F_ix_lastFound := F_ix_lastFound.other W146 (Or.inr (slot_ne (Or.inl (w59 hw)) (Or.inl (w150 hw)) (by decide) (t := .int) (t' := .boolean) (by decide) (by decide)))
      replace F_ix_base := F_ix_base.other W146 (Or.inr (slot_ne (Or.inr (w61 hw)) (Or.inl (w150 hw)) (by decide) (t := .long) (t' := .boolean) (by decide) (by decide)))
      replace KP := KP.wr W146 (Or.inl (by simp))
      replace F_ix_repeating := F146
      exact k_return K146 d_prog_87_method_6_code_51 rfl (fun sf ht => ⟨rfl, KP, BC, ⟨X_ix, F_ix_chars, F_ix_starts, F_ix_buckets, F_ix_earlier, F_ix_hashes, F_ix_count, F_ix_lastFound, F_ix_repeating, F_ix_base, V_ca, V_sa, V_ba, V_ea, V_ha, lCH, lST, lBC, lEA, lHA⟩, fun j hj2 => (hz j hj2).elim id fun ⟨m, q1, q2, _⟩ => by omega⟩) (by decide) (by decide)
    | succ k ih =>
      intro ii i hj hk BC lBC hz bl Tl hl Ll Kl X_ix F_ix_chars V_ca F_ix_starts V_sa F_ix_buckets V_ba F_ix_earlier V_ea F_ix_hashes V_ha F_ix_count F_ix_lastFound F_ix_repeating F_ix_base KP sf_ix sf_ca sf_sa sf_ba sf_ea sf_ha
      obtain ⟨Hm, hHm⟩ := hha i (by omega)
      have hi := i63_lt Hm
      refine k_iloadN Kl d_prog_87_method_6_code_2 (pc' := 3) rfl rfl ?_
      refine k_aloadN Kl d_prog_87_method_6_code_3 (pc' := 4) rfl rfl rfl ?_
      refine k_getF Kl (w127 hw) Via.refl F_ix_count d_prog_87_method_6_code_4 (pc' := 7) rfl ?_
      intro T147 K147
      refine k_icmp_ge K147 d_prog_87_method_6_code_7 (by decide) (pc' := 36) (pc2 := 10) (by decide) rfl (fun q => absurd (by rw [own_i32, hj, hn_]; omega) q) (fun hc7 => ?_)
      refine k_aloadN K147 d_prog_87_method_6_code_10 (pc' := 11) rfl rfl rfl ?_
      refine k_getF K147 (w52 hw) Via.refl F_ix_buckets d_prog_87_method_6_code_11 (pc' := 14) rfl ?_
      intro T148 K148
      refine k_aloadN K148 d_prog_87_method_6_code_14 (pc' := 15) rfl rfl rfl ?_
      refine k_getF K148 (w56 hw) Via.refl F_ix_hashes d_prog_87_method_6_code_15 (pc' := 18) rfl ?_
      intro T149 K149
      refine k_iloadN K149 d_prog_87_method_6_code_18 (pc' := 19) rfl rfl ?_
      refine k_iaload K149 (j := ii) V_ha (own_in hj (show (32 : Int32).toInt = (32 : Nat) by decide) (by omega)) (by rw [own_clamp hj]; exact hHm) d_prog_87_method_6_code_19 (pc' := 20) rfl ?_
      refine k_aloadN K149 d_prog_87_method_6_code_20 (pc' := 21) rfl rfl rfl ?_
      refine k_getF K149 (w52 hw) Via.refl F_ix_buckets d_prog_87_method_6_code_21 (pc' := 24) rfl ?_
      intro T150 K150
      refine k_len K150 V_ba d_prog_87_method_6_code_24 (pc' := 25) rfl ?_
      refine k_iconst K150 (1 : Int32) d_prog_87_method_6_code_25 (pc' := 26) rfl rfl ?_
      refine k_isub K150 d_prog_87_method_6_code_26 (pc' := 27) rfl ?_
      rw [show ((64 : Int32) - (1 : Int32)) = (63 : Int32) by decide]
      refine k_iand K150 d_prog_87_method_6_code_27 (pc' := 28) rfl ?_
      refine k_lconst K150 (0 : Int64) d_prog_87_method_6_code_28 (pc' := 29) rfl rfl ?_
      refine k_lastore K150 (j := (Hm &&& (63 : Int32))) V_ba (own_i63 Hm) (by rw [lBC]; exact hi) ga_ba sf_ba d_prog_87_method_6_code_29 (pc' := 30) rfl ?_
      intro T151 h151 K151 W151 tr151 V151
      replace sf_ix := tr151 ix X_ix.lt sf_ix
      replace sf_ca := tr151 ca V_ca.lt sf_ca
      replace sf_sa := tr151 sa V_sa.lt sf_sa
      replace sf_ba := tr151 ba V_ba.lt sf_ba
      replace sf_ea := tr151 ea V_ea.lt sf_ea
      replace sf_ha := tr151 ha V_ha.lt sf_ha
      replace X_ix := X_ix.wr W151
      replace F_ix_chars := F_ix_chars.other W151 (Or.inl ne_ix_ba)
      replace V_ca := V_ca.other W151 ne_ca_ba
      replace F_ix_starts := F_ix_starts.other W151 (Or.inl ne_ix_ba)
      replace V_sa := V_sa.other W151 ne_sa_ba
      replace F_ix_buckets := F_ix_buckets.other W151 (Or.inl ne_ix_ba)
      replace F_ix_earlier := F_ix_earlier.other W151 (Or.inl ne_ix_ba)
      replace V_ea := V_ea.other W151 (Ne.symm ne_ba_ea)
      replace F_ix_hashes := F_ix_hashes.other W151 (Or.inl ne_ix_ba)
      replace V_ha := V_ha.other W151 (Ne.symm ne_ba_ha)
      replace F_ix_count := F_ix_count.other W151 (Or.inl ne_ix_ba)
      replace F_ix_lastFound := F_ix_lastFound.other W151 (Or.inl ne_ix_ba)
      replace F_ix_repeating := F_ix_repeating.other W151 (Or.inl ne_ix_ba)
      replace F_ix_base := F_ix_base.other W151 (Or.inl ne_ix_ba)
      replace KP := KP.wr W151 (Or.inl (by simp))
      replace V_ba := V151
      replace V_ba : Arv Z h151 ba kb .long 64 (BC.set (i63 Hm) (.long 0)) (.long 0) := V_ba
      refine k_iinc K151 (1 : Int32) d_prog_87_method_6_code_30 (pc' := 33) (L' := #[.val (.ref ix), .val (.int (ii + (1 : Int32)))]) rfl rfl rfl rfl ?_
      refine k_goto K151 d_prog_87_method_6_code_33 (by decide) (pc' := 2) (by decide) ?_
      exact ih (ii + 1) (i + 1) (own_add1 hj (by omega)) (by omega) _ (by rw [List.length_set, lBC]) (fun j hj2 => by
        rw [own_gs (by rw [lBC]; exact hi)]
        by_cases q : j = i63 Hm
        · rw [if_pos q]; exact Or.inl rfl
        · rw [if_neg q]
          rcases hz j hj2 with r | ⟨m, r1, r2, Hm2, r3, r4⟩
          · exact Or.inl r
          · rcases Nat.lt_or_ge i m with s | s
            · exact Or.inr ⟨m, s, r2, Hm2, r3, r4⟩
            · obtain rfl : m = i := by omega
              rw [hHm] at r3; cases r3; exact absurd r4 q) _ _ _ _ K151 X_ix F_ix_chars V_ca F_ix_starts V_sa F_ix_buckets V_ba F_ix_earlier V_ea F_ix_hashes V_ha F_ix_count F_ix_lastFound F_ix_repeating F_ix_base KP sf_ix sf_ca sf_sa sf_ba sf_ea sf_ha
  exact LOOP nn (0 : Int32) 0 rfl (by omega) BU lBU (fun j hj2 => (hz j hj2).imp id fun ⟨m, q1, q2⟩ => ⟨m, Nat.zero_le _, q1, q2⟩) _ _ _ _ K X_ix F_ix_chars V_ca F_ix_starts V_sa F_ix_buckets V_ba F_ix_earlier V_ea F_ix_hashes V_ha F_ix_count F_ix_lastFound F_ix_repeating F_ix_base KP sf_ix sf_ca sf_sa sf_ba sf_ea sf_ha
theorem d_prog_87_method_3_code_0 : decode prog_87_method_3_code 0 = .ok (.aload_n 0, 1) := by decide +kernel
theorem d_prog_87_method_3_code_1 : decode prog_87_method_3_code 1 = .ok (.getfield 52, 3) := by decide +kernel
theorem d_prog_87_method_3_code_4 : decode prog_87_method_3_code 4 = .ok (.ireturn, 1) := by decide +kernel
set_option maxRecDepth 65536 in
set_option maxHeartbeats 40000000 in
theorem c_size (l : Launch) (Z : State) (a0 : Array Value) (hw : Tb a0 Z) (hEW : EW Z a0 EL0) (n0 : Nat) (ix : Addr) (x : Int32) (h0 : Heap) (O : Old Z n0 h0) (F : Fld Z h0 ix "com/example/tallyard/tallyard/scenario/formats/TextIndex" "count" "I" (.int x)) :
    Ct l Z EL0 n0 (⟨"com/example/tallyard/tallyard/scenario/formats/TextIndex", "size", "()I"⟩ : MethodName) prog_87_method_3_code 1 (some .int) ({ frames := 0, cells := 0, slots := 0, locals := 0 } : Room) #[(.ref ix)] h0 [] (Pu (some (.int x)) h0) := by
  refine Ct.of (a0 := a0) #[.val (.ref ix)] hEW O (plainFor_of_name pl_com_example_tallyard_tallyard_scenario_formats_TextIndex) (fun m => by first | (simp [entryFrame, mkF, argsToLocals, Value.category]; done) | rfl) ?_
  intro p_ e_ s_ m_ below_ meth_ c_ b_ T_ K hSP
  refine k_aloadN K d_prog_87_method_3_code_0 (pc' := 1) rfl rfl rfl ?_
  refine k_getF K (w127 hw) Via.refl F d_prog_87_method_3_code_1 (pc' := 4) rfl ?_
  intro T152 K152
  exact k_iret K152 d_prog_87_method_3_code_4 rfl (fun sf ht => ⟨rfl, rfl⟩) (by decide) (by decide)
def dc (x k : Int32) : Int32 := (XT.ushr x k &&& 255).toUInt32.toUInt16.toUInt32.toInt32
def drC (x : Int32) : List Int32 := if x &&& 3 = 0 then [] else if x &&& 3 = 1 then [dc x 2] else if x &&& 3 = 2 then [dc x 2, dc x 10] else [dc x 2, dc x 10, dc x 18]
theorem dc_b (x k : Int32) : 0 ≤ (dc x k).toInt ∧ (dc x k).toInt < 256 := by
  have h1 : (XT.ushr x k &&& 255).toBitVec.toNat < 256 := by
    show ((XT.ushr x k).toBitVec &&& 255#32).toNat < 256
    rw [BitVec.toNat_and]
    exact Nat.lt_of_le_of_lt Nat.and_le_right (by decide)
  have h2 := own_toInt (show (XT.ushr x k &&& 255).toBitVec.toNat < 2147483648 by omega)
  unfold dc
  rw [own_i2cI (by rw [h2]; omega) (by rw [h2]; omega), h2]; omega
theorem drC_c (x : Int32) : ∀ c ∈ drC x, 0 ≤ c.toInt ∧ c.toInt < 256 := by
  intro c hc
  unfold drC at hc
  split at hc
  · exact absurd hc (by simp)
  · split at hc
    · simp only [List.mem_cons, List.not_mem_nil, or_false] at hc; subst hc; exact dc_b _ _
    · split at hc
      · simp only [List.mem_cons, List.not_mem_nil, or_false] at hc; rcases hc with rfl | rfl <;> exact dc_b _ _
      · simp only [List.mem_cons, List.not_mem_nil, or_false] at hc; rcases hc with rfl | rfl | rfl <;> exact dc_b _ _
theorem drC_l (x : Int32) : (drC x).length ≤ 3 := by
  unfold drC
  split
  · simp
  · split
    · simp
    · split <;> simp
theorem nar_dc (x k : Int32) : nar .char (dc x k) = dc x k := Value.int.inj (own_narrowc (dc_b x k).1 (by have := (dc_b x k).2; omega))
theorem d_method_2_code_0 : decode method_2_code 0 = .ok (.iload_n 0, 1) := by decide +kernel
theorem d_method_2_code_1 : decode method_2_code 1 = .ok (.iconst 3, 1) := by decide +kernel
theorem d_method_2_code_2 : decode method_2_code 2 = .ok (.iand, 1) := by decide +kernel
theorem d_method_2_code_3 : decode method_2_code 3 = .ok (.istore_n 1, 1) := by decide +kernel
theorem d_method_2_code_4 : decode method_2_code 4 = .ok (.iload_n 0, 1) := by decide +kernel
theorem d_method_2_code_5 : decode method_2_code 5 = .ok (.iconst 2, 1) := by decide +kernel
theorem d_method_2_code_6 : decode method_2_code 6 = .ok (.iushr, 1) := by decide +kernel
theorem d_method_2_code_7 : decode method_2_code 7 = .ok (.sipush 255, 3) := by decide +kernel
theorem d_method_2_code_10 : decode method_2_code 10 = .ok (.iand, 1) := by decide +kernel
theorem d_method_2_code_11 : decode method_2_code 11 = .ok (.i2c, 1) := by decide +kernel
theorem d_method_2_code_12 : decode method_2_code 12 = .ok (.istore_n 2, 1) := by decide +kernel
theorem d_method_2_code_13 : decode method_2_code 13 = .ok (.iload_n 0, 1) := by decide +kernel
theorem d_method_2_code_14 : decode method_2_code 14 = .ok (.bipush 10, 2) := by decide +kernel
theorem d_method_2_code_16 : decode method_2_code 16 = .ok (.iushr, 1) := by decide +kernel
theorem d_method_2_code_17 : decode method_2_code 17 = .ok (.sipush 255, 3) := by decide +kernel
theorem d_method_2_code_20 : decode method_2_code 20 = .ok (.iand, 1) := by decide +kernel
theorem d_method_2_code_21 : decode method_2_code 21 = .ok (.i2c, 1) := by decide +kernel
theorem d_method_2_code_22 : decode method_2_code 22 = .ok (.istore_n 3, 1) := by decide +kernel
theorem d_method_2_code_23 : decode method_2_code 23 = .ok (.iload_n 0, 1) := by decide +kernel
theorem d_method_2_code_24 : decode method_2_code 24 = .ok (.bipush 18, 2) := by decide +kernel
theorem d_method_2_code_26 : decode method_2_code 26 = .ok (.iushr, 1) := by decide +kernel
theorem d_method_2_code_27 : decode method_2_code 27 = .ok (.sipush 255, 3) := by decide +kernel
theorem d_method_2_code_30 : decode method_2_code 30 = .ok (.iand, 1) := by decide +kernel
theorem d_method_2_code_31 : decode method_2_code 31 = .ok (.i2c, 1) := by decide +kernel
theorem d_method_2_code_32 : decode method_2_code 32 = .ok (.istore 4, 2) := by decide +kernel
theorem d_method_2_code_34 : decode method_2_code 34 = .ok (.iload_n 1, 1) := by decide +kernel
theorem d_method_2_code_35 : decode method_2_code 35 = .ok (.ifCond .ne 14, 3) := by decide +kernel
theorem d_method_2_code_49 : decode method_2_code 49 = .ok (.iload_n 1, 1) := by decide +kernel
theorem d_method_2_code_50 : decode method_2_code 50 = .ok (.iconst 1, 1) := by decide +kernel
theorem d_method_2_code_51 : decode method_2_code 51 = .ok (.if_icmp .ne 18, 3) := by decide +kernel
theorem d_method_2_code_69 : decode method_2_code 69 = .ok (.iload_n 1, 1) := by decide +kernel
theorem d_method_2_code_70 : decode method_2_code 70 = .ok (.iconst 2, 1) := by decide +kernel
theorem d_method_2_code_71 : decode method_2_code 71 = .ok (.if_icmp .ne 22, 3) := by decide +kernel
theorem d_method_2_code_93 : decode method_2_code 93 = .ok (.new 7, 3) := by decide +kernel
theorem w6 {Z : State} {a0 : Array Value} (hw : Tb a0 Z) : (Jvm.Cond.classLink "com/example/tallyard/tallyard/scenario/formats/TextIndexClearPinLaw" (7 : Nat) "java/lang/String").before a0 Z = true := hw _ (List.mem_of_getElem? (i := 6) rfl)
theorem d_method_2_code_96 : decode method_2_code 96 = .ok (.dup, 1) := by decide +kernel
theorem d_method_2_code_97 : decode method_2_code 97 = .ok (.iconst 3, 1) := by decide +kernel
theorem d_method_2_code_98 : decode method_2_code 98 = .ok (.newarray .char, 2) := by decide +kernel
theorem d_method_2_code_100 : decode method_2_code 100 = .ok (.dup, 1) := by decide +kernel
theorem d_method_2_code_101 : decode method_2_code 101 = .ok (.iconst 0, 1) := by decide +kernel
theorem d_method_2_code_102 : decode method_2_code 102 = .ok (.iload_n 2, 1) := by decide +kernel
theorem d_method_2_code_103 : decode method_2_code 103 = .ok (.castore, 1) := by decide +kernel
theorem d_method_2_code_104 : decode method_2_code 104 = .ok (.dup, 1) := by decide +kernel
theorem d_method_2_code_105 : decode method_2_code 105 = .ok (.iconst 1, 1) := by decide +kernel
theorem d_method_2_code_106 : decode method_2_code 106 = .ok (.iload_n 3, 1) := by decide +kernel
theorem d_method_2_code_107 : decode method_2_code 107 = .ok (.castore, 1) := by decide +kernel
theorem d_method_2_code_108 : decode method_2_code 108 = .ok (.dup, 1) := by decide +kernel
theorem d_method_2_code_109 : decode method_2_code 109 = .ok (.iconst 2, 1) := by decide +kernel
theorem d_method_2_code_110 : decode method_2_code 110 = .ok (.iload 4, 2) := by decide +kernel
theorem d_method_2_code_112 : decode method_2_code 112 = .ok (.castore, 1) := by decide +kernel
theorem d_method_2_code_113 : decode method_2_code 113 = .ok (.invokespecial 9, 3) := by decide +kernel
theorem w10 {Z : State} {a0 : Array Value} (hw : Tb a0 Z) : (Jvm.Cond.methodLink "com/example/tallyard/tallyard/scenario/formats/TextIndexClearPinLaw" (9 : Nat) ({ cls := "java/lang/String", name := "<init>", desc := "([C)V" } : Jvm.MethodName)).before a0 Z = true := hw _ (List.mem_of_getElem? (i := 10) rfl)
theorem w12 {Z : State} {a0 : Array Value} (hw : Tb a0 Z) : (Jvm.Cond.code ({ cls := "java/lang/String", name := "<init>", desc := "([C)V" } : Jvm.MethodName) jdk_42_method_3_code (2 : Nat) (Option.none : Option Jvm.ClassFile.FieldType)).before a0 Z = true := hw _ (List.mem_of_getElem? (i := 12) rfl)
theorem w11 {Z : State} {a0 : Array Value} (hw : Tb a0 Z) : (Jvm.Cond.instanceMethod ({ cls := "java/lang/String", name := "<init>", desc := "([C)V" } : Jvm.MethodName)).before a0 Z = true := hw _ (List.mem_of_getElem? (i := 11) rfl)
theorem pd___C_V_1017 : parseMethodDescriptor "([C)V" = some ⟨[(.array .char)], none⟩ := by decide +kernel
theorem d_method_2_code_116 : decode method_2_code 116 = .ok (.areturn, 1) := by decide +kernel
theorem d_method_2_code_74 : decode method_2_code 74 = .ok (.new 7, 3) := by decide +kernel
theorem d_method_2_code_77 : decode method_2_code 77 = .ok (.dup, 1) := by decide +kernel
theorem d_method_2_code_78 : decode method_2_code 78 = .ok (.iconst 2, 1) := by decide +kernel
theorem d_method_2_code_79 : decode method_2_code 79 = .ok (.newarray .char, 2) := by decide +kernel
theorem d_method_2_code_81 : decode method_2_code 81 = .ok (.dup, 1) := by decide +kernel
theorem d_method_2_code_82 : decode method_2_code 82 = .ok (.iconst 0, 1) := by decide +kernel
theorem d_method_2_code_83 : decode method_2_code 83 = .ok (.iload_n 2, 1) := by decide +kernel
theorem d_method_2_code_84 : decode method_2_code 84 = .ok (.castore, 1) := by decide +kernel
theorem d_method_2_code_85 : decode method_2_code 85 = .ok (.dup, 1) := by decide +kernel
theorem d_method_2_code_86 : decode method_2_code 86 = .ok (.iconst 1, 1) := by decide +kernel
theorem d_method_2_code_87 : decode method_2_code 87 = .ok (.iload_n 3, 1) := by decide +kernel
theorem d_method_2_code_88 : decode method_2_code 88 = .ok (.castore, 1) := by decide +kernel
theorem d_method_2_code_89 : decode method_2_code 89 = .ok (.invokespecial 9, 3) := by decide +kernel
theorem d_method_2_code_92 : decode method_2_code 92 = .ok (.areturn, 1) := by decide +kernel
theorem d_method_2_code_54 : decode method_2_code 54 = .ok (.new 7, 3) := by decide +kernel
theorem d_method_2_code_57 : decode method_2_code 57 = .ok (.dup, 1) := by decide +kernel
theorem d_method_2_code_58 : decode method_2_code 58 = .ok (.iconst 1, 1) := by decide +kernel
theorem d_method_2_code_59 : decode method_2_code 59 = .ok (.newarray .char, 2) := by decide +kernel
theorem d_method_2_code_61 : decode method_2_code 61 = .ok (.dup, 1) := by decide +kernel
theorem d_method_2_code_62 : decode method_2_code 62 = .ok (.iconst 0, 1) := by decide +kernel
theorem d_method_2_code_63 : decode method_2_code 63 = .ok (.iload_n 2, 1) := by decide +kernel
theorem d_method_2_code_64 : decode method_2_code 64 = .ok (.castore, 1) := by decide +kernel
theorem d_method_2_code_65 : decode method_2_code 65 = .ok (.invokespecial 9, 3) := by decide +kernel
theorem d_method_2_code_68 : decode method_2_code 68 = .ok (.areturn, 1) := by decide +kernel
theorem d_method_2_code_38 : decode method_2_code 38 = .ok (.new 7, 3) := by decide +kernel
theorem d_method_2_code_41 : decode method_2_code 41 = .ok (.dup, 1) := by decide +kernel
theorem d_method_2_code_42 : decode method_2_code 42 = .ok (.iconst 0, 1) := by decide +kernel
theorem d_method_2_code_43 : decode method_2_code 43 = .ok (.newarray .char, 2) := by decide +kernel
theorem d_method_2_code_45 : decode method_2_code 45 = .ok (.invokespecial 9, 3) := by decide +kernel
theorem d_method_2_code_48 : decode method_2_code 48 = .ok (.areturn, 1) := by decide +kernel
theorem pl_com_example_tallyard_tallyard_scenario_formats_TextIndexClearPinLaw : plainName "com/example/tallyard/tallyard/scenario/formats/TextIndexClearPinLaw" = true := by first | (simp [plainName, overriddenIn]; done) | decide +kernel
set_option maxRecDepth 65536 in
set_option maxHeartbeats 40000000 in
theorem c_draw (l : Launch) (Z : State) (a0 : Array Value) (hw : Tb a0 Z) (hEW : EW Z a0 EL0) (n0 : Nat) (x : Int32) (cs0 : Int32) (h0 : Heap) (O : Old Z n0 h0) (SC : Sta Z Z.heap "java/lang/String" "COMPACT_STRINGS" "Z" (.int cs0)) (hcs : ¬ cs0 = 0) :
    Ct l Z EL0 n0 (⟨"com/example/tallyard/tallyard/scenario/formats/TextIndexClearPinLaw", "draw", "(I)Ljava/lang/String;"⟩ : MethodName) method_2_code 5 (some (.object "java/lang/String")) ({ frames := 4, cells := 6, slots := 15, locals := 66 } : Room) #[(.int x)] h0 [] (fun v h sf => ∃ (a d : Addr) (kd : ClassId) (n : Int32), v = some (.ref a) ∧ Keep h0 h [] ∧ n.toInt = (drC x).length ∧ Str Z h a d kd 0 n (lat (drC x))) := by
  refine Ct.of (a0 := a0) #[.val (.int x), .unset, .unset, .unset, .unset] hEW O (plainFor_of_name pl_com_example_tallyard_tallyard_scenario_formats_TextIndexClearPinLaw) (fun m => by first | (simp [entryFrame, mkF, argsToLocals, Value.category]; done) | rfl) ?_
  intro p_ e_ s_ m_ below_ meth_ c_ b_ T_ K hSP
  have KP := Keep.refl h0 []
  refine k_iloadN K d_method_2_code_0 (pc' := 1) rfl rfl ?_
  refine k_iconst K (3 : Int32) d_method_2_code_1 (pc' := 2) rfl rfl ?_
  refine k_iand K d_method_2_code_2 (pc' := 3) rfl ?_
  refine k_istoreN K d_method_2_code_3 (pc' := 4) (L' := #[.val (.int x), .val (.int (x &&& (3 : Int32))), .unset, .unset, .unset]) rfl rfl ?_
  refine k_iloadN K d_method_2_code_4 (pc' := 5) rfl rfl ?_
  refine k_iconst K (2 : Int32) d_method_2_code_5 (pc' := 6) rfl rfl ?_
  refine k_iushr K d_method_2_code_6 (pc' := 7) rfl ?_
  refine k_sipush K (255 : Int32) d_method_2_code_7 (pc' := 10) rfl rfl ?_
  refine k_iand K d_method_2_code_10 (pc' := 11) rfl ?_
  refine k_i2c K d_method_2_code_11 (pc' := 12) rfl ?_
  refine k_istoreN K d_method_2_code_12 (pc' := 13) (L' := #[.val (.int x), .val (.int (x &&& (3 : Int32))), .val (.int (((XT.ushr x (2 : Int32)) &&& (255 : Int32)).toUInt32.toUInt16.toUInt32.toInt32)), .unset, .unset]) rfl rfl ?_
  refine k_iloadN K d_method_2_code_13 (pc' := 14) rfl rfl ?_
  refine k_bipush K (10 : Int32) d_method_2_code_14 (pc' := 16) rfl rfl ?_
  refine k_iushr K d_method_2_code_16 (pc' := 17) rfl ?_
  refine k_sipush K (255 : Int32) d_method_2_code_17 (pc' := 20) rfl rfl ?_
  refine k_iand K d_method_2_code_20 (pc' := 21) rfl ?_
  refine k_i2c K d_method_2_code_21 (pc' := 22) rfl ?_
  refine k_istoreN K d_method_2_code_22 (pc' := 23) (L' := #[.val (.int x), .val (.int (x &&& (3 : Int32))), .val (.int (((XT.ushr x (2 : Int32)) &&& (255 : Int32)).toUInt32.toUInt16.toUInt32.toInt32)), .val (.int (((XT.ushr x (10 : Int32)) &&& (255 : Int32)).toUInt32.toUInt16.toUInt32.toInt32)), .unset]) rfl rfl ?_
  refine k_iloadN K d_method_2_code_23 (pc' := 24) rfl rfl ?_
  refine k_bipush K (18 : Int32) d_method_2_code_24 (pc' := 26) rfl rfl ?_
  refine k_iushr K d_method_2_code_26 (pc' := 27) rfl ?_
  refine k_sipush K (255 : Int32) d_method_2_code_27 (pc' := 30) rfl rfl ?_
  refine k_iand K d_method_2_code_30 (pc' := 31) rfl ?_
  refine k_i2c K d_method_2_code_31 (pc' := 32) rfl ?_
  refine k_istore K d_method_2_code_32 (pc' := 34) (L' := #[.val (.int x), .val (.int (x &&& (3 : Int32))), .val (.int (((XT.ushr x (2 : Int32)) &&& (255 : Int32)).toUInt32.toUInt16.toUInt32.toInt32)), .val (.int (((XT.ushr x (10 : Int32)) &&& (255 : Int32)).toUInt32.toUInt16.toUInt32.toInt32)), .val (.int (((XT.ushr x (18 : Int32)) &&& (255 : Int32)).toUInt32.toUInt16.toUInt32.toInt32))]) rfl rfl ?_
  show Goes p_.tables e_ below_ _ (T_.setTop (mkF m_ 34 #[.val (.int x), .val (.int (x &&& (3 : Int32))), .val (.int (dc x 2)), .val (.int (dc x 10)), .val (.int (dc x 18))] []))
  refine k_iloadN K d_method_2_code_34 (pc' := 35) rfl rfl ?_
  refine k_if_ne K d_method_2_code_35 (by decide) (pc' := 49) (pc2 := 38) (by decide) rfl (fun hc35 => ?_) (fun hc35 => ?_)
  · refine k_iloadN K d_method_2_code_49 (pc' := 50) rfl rfl ?_
    refine k_iconst K (1 : Int32) d_method_2_code_50 (pc' := 51) rfl rfl ?_
    refine k_icmp_ne K d_method_2_code_51 (by decide) (pc' := 69) (pc2 := 54) (by decide) rfl (fun hc51 => ?_) (fun hc51 => ?_)
    · refine k_iloadN K d_method_2_code_69 (pc' := 70) rfl rfl ?_
      refine k_iconst K (2 : Int32) d_method_2_code_70 (pc' := 71) rfl rfl ?_
      refine k_icmp_ne K d_method_2_code_71 (by decide) (pc' := 93) (pc2 := 74) (by decide) rfl (fun hc71 => ?_) (fun hc71 => ?_)
      · have ed : drC x = [dc x 2, dc x 10, dc x 18] := by rw [drC, if_neg hc35, if_neg hc51, if_neg hc71]
        have hcl := drC_c x
        rw [ed] at hcl
        refine k_new K (w6 hw) (w7 hw) (w8 hw) d_method_2_code_93 (pc' := 96) rfl (by decide) (by decide) ?_
        intro T153 h153 a153 g153 K153 E153 tr153 sf_a153 X_a153 D153 U153
        have ga_a153 : n0 ≤ a153 := own_old K.old g153
        have sz_a153 : h0.size ≤ a153 := g153 ▸ KP.1
        replace KP := KP.ext E153
        have F_a153_coder : Fld Z h153 a153 "java/lang/String" "coder" "B" (.int (0 : Int32)) := D153 (Or.inr (w33 hw)) (ty := .byte) (by decide)
        have F_a153_value : Fld Z h153 a153 "java/lang/String" "value" "[B" .null := D153 (Or.inr (w35 hw)) (ty := (.array .byte)) (by decide)
        refine k_dup K153 d_method_2_code_96 (pc' := 97) rfl rfl ?_
        refine k_iconst K153 (3 : Int32) d_method_2_code_97 (pc' := 98) rfl rfl ?_
        refine k_newarray K153 (aty := .char) (z := (3 : Int32)) (w9 hw) (by decide) (cap := 3) (by decide) (by decide) d_method_2_code_98 (pc' := 100) rfl (by decide) (by decide) ?_
        intro T154 h154 a154 ka154 g154 K154 E154 tr154 sf_a154 V_a154
        have ga_a154 : n0 ≤ a154 := own_old K153.old g154
        have sz_a154 : h0.size ≤ a154 := g154 ▸ KP.1
        have ne_a153_a154 : a153 ≠ a154 := own_ne X_a153.lt g154
        replace sf_a153 := tr154 a153 X_a153.lt sf_a153
        replace X_a153 := X_a153.ext E154
        replace F_a153_coder := F_a153_coder.ext E154
        replace F_a153_value := F_a153_value.ext E154
        replace KP := KP.ext E154
        replace V_a154 : Arv Z h154 a154 ka154 .char (3 : Int32) [(.int (0 : Int32)), (.int (0 : Int32)), (.int (0 : Int32))] (.int (0 : Int32)) := V_a154.pad (pad_rep [] (.int (0 : Int32)) 3)
        refine k_dup K154 d_method_2_code_100 (pc' := 101) rfl rfl ?_
        refine k_iconst K154 (0 : Int32) d_method_2_code_101 (pc' := 102) rfl rfl ?_
        refine k_iloadN K154 d_method_2_code_102 (pc' := 103) rfl rfl ?_
        refine k_castore K154 (j := (0 : Int32)) V_a154 ⟨by decide, by decide⟩ (Nat.le_of_ble_eq_true rfl) ga_a154 sf_a154 d_method_2_code_103 (pc' := 104) rfl ?_
        intro T155 h155 K155 W155 tr155 V155
        replace sf_a153 := tr155 a153 X_a153.lt sf_a153
        replace sf_a154 := tr155 a154 V_a154.lt sf_a154
        replace X_a153 := X_a153.wr W155
        replace F_a153_coder := F_a153_coder.other W155 (Or.inl ne_a153_a154)
        replace F_a153_value := F_a153_value.other W155 (Or.inl ne_a153_a154)
        replace KP := KP.wr W155 (Or.inr sz_a154)
        replace V_a154 := V155
        refine k_dup K155 d_method_2_code_104 (pc' := 105) rfl rfl ?_
        refine k_iconst K155 (1 : Int32) d_method_2_code_105 (pc' := 106) rfl rfl ?_
        refine k_iloadN K155 d_method_2_code_106 (pc' := 107) rfl rfl ?_
        refine k_castore K155 (j := (1 : Int32)) V_a154 ⟨by decide, by decide⟩ (Nat.le_of_ble_eq_true rfl) ga_a154 sf_a154 d_method_2_code_107 (pc' := 108) rfl ?_
        intro T156 h156 K156 W156 tr156 V156
        replace sf_a153 := tr156 a153 X_a153.lt sf_a153
        replace sf_a154 := tr156 a154 V_a154.lt sf_a154
        replace X_a153 := X_a153.wr W156
        replace F_a153_coder := F_a153_coder.other W156 (Or.inl ne_a153_a154)
        replace F_a153_value := F_a153_value.other W156 (Or.inl ne_a153_a154)
        replace KP := KP.wr W156 (Or.inr sz_a154)
        replace V_a154 := V156
        refine k_dup K156 d_method_2_code_108 (pc' := 109) rfl rfl ?_
        refine k_iconst K156 (2 : Int32) d_method_2_code_109 (pc' := 110) rfl rfl ?_
        refine k_iload K156 d_method_2_code_110 (pc' := 112) rfl rfl ?_
        refine k_castore K156 (j := (2 : Int32)) V_a154 ⟨by decide, by decide⟩ (Nat.le_of_ble_eq_true rfl) ga_a154 sf_a154 d_method_2_code_112 (pc' := 113) rfl ?_
        intro T157 h157 K157 W157 tr157 V157
        replace sf_a153 := tr157 a153 X_a153.lt sf_a153
        replace sf_a154 := tr157 a154 V_a154.lt sf_a154
        replace X_a153 := X_a153.wr W157
        replace F_a153_coder := F_a153_coder.other W157 (Or.inl ne_a153_a154)
        replace F_a153_value := F_a153_value.other W157 (Or.inl ne_a153_a154)
        replace KP := KP.wr W157 (Or.inr sz_a154)
        replace V_a154 := V157
        rw [nar_dc x 2, nar_dc x 10, nar_dc x 18] at V_a154
        replace V_a154 : Arv Z h157 a154 ka154 .char 3 (([dc x 2, dc x 10, dc x 18]).map Value.int) (.int 0) := V_a154
        refine k_special K157 [(.ref a154)] [(.ref a153)] 1 (w10 hw) (w11 hw) (w8 hw) (w12 hw) rfl rfl (by decide) pd___C_V_1017 (c_init3a l Z a0 hw hEW n0 a153 a154 ka154 3 [dc x 2, dc x 10, dc x 18] _ _ cs0 h157 K157.old rfl (by simp) hcl V_a154 X_a153 F_a153_value F_a153_coder ga_a153 ne_a153_a154 SC hcs) d_method_2_code_113 (fun x hx => by cases List.mem_singleton.mp hx; exact ⟨X_a153.lt, sf_a153⟩) (pc' := 116) rfl rfl rfl rfl (Nat.le_of_eq rfl) (by decide) (by decide) (by decide) (by decide) ?_
        intro b158 T158 h158 L158 v158 K158 tr158 q158
        obtain ⟨rfl, KQ, d, kd, S⟩ := q158
        rw [own_strCd hcl, own_strZ hcl, own_strVs hcl] at S
        replace KP := KP.trans KQ (allS (Or.inr sz_a153) all0)
        show Goes p_.tables e_ below_ _ (T158.setTop (mkF m_ 116 #[.val (.int x), .val (.int (x &&& (3 : Int32))), .val (.int (dc x 2)), .val (.int (dc x 10)), .val (.int (dc x 18))] [(.ref a153)]))
        exact k_aret K158 d_method_2_code_116 rfl rfl rfl (fun sf ht => ⟨a153, d, kd, 3, rfl, KP, by rw [ed]; rfl, by rw [ed]; exact S⟩) (by decide) (by decide)
      · have ed : drC x = [dc x 2, dc x 10] := by rw [drC, if_neg hc35, if_neg hc51, if_pos hc71]
        have hcl := drC_c x
        rw [ed] at hcl
        refine k_new K (w6 hw) (w7 hw) (w8 hw) d_method_2_code_74 (pc' := 77) rfl (by decide) (by decide) ?_
        intro T159 h159 a159 g159 K159 E159 tr159 sf_a159 X_a159 D159 U159
        have ga_a159 : n0 ≤ a159 := own_old K.old g159
        have sz_a159 : h0.size ≤ a159 := g159 ▸ KP.1
        replace KP := KP.ext E159
        have F_a159_coder : Fld Z h159 a159 "java/lang/String" "coder" "B" (.int (0 : Int32)) := D159 (Or.inr (w33 hw)) (ty := .byte) (by decide)
        have F_a159_value : Fld Z h159 a159 "java/lang/String" "value" "[B" .null := D159 (Or.inr (w35 hw)) (ty := (.array .byte)) (by decide)
        refine k_dup K159 d_method_2_code_77 (pc' := 78) rfl rfl ?_
        refine k_iconst K159 (2 : Int32) d_method_2_code_78 (pc' := 79) rfl rfl ?_
        refine k_newarray K159 (aty := .char) (z := (2 : Int32)) (w9 hw) (by decide) (cap := 2) (by decide) (by decide) d_method_2_code_79 (pc' := 81) rfl (by decide) (by decide) ?_
        intro T160 h160 a160 ka160 g160 K160 E160 tr160 sf_a160 V_a160
        have ga_a160 : n0 ≤ a160 := own_old K159.old g160
        have sz_a160 : h0.size ≤ a160 := g160 ▸ KP.1
        have ne_a159_a160 : a159 ≠ a160 := own_ne X_a159.lt g160
        replace sf_a159 := tr160 a159 X_a159.lt sf_a159
        replace X_a159 := X_a159.ext E160
        replace F_a159_coder := F_a159_coder.ext E160
        replace F_a159_value := F_a159_value.ext E160
        replace KP := KP.ext E160
        replace V_a160 : Arv Z h160 a160 ka160 .char (2 : Int32) [(.int (0 : Int32)), (.int (0 : Int32))] (.int (0 : Int32)) := V_a160.pad (pad_rep [] (.int (0 : Int32)) 2)
        refine k_dup K160 d_method_2_code_81 (pc' := 82) rfl rfl ?_
        refine k_iconst K160 (0 : Int32) d_method_2_code_82 (pc' := 83) rfl rfl ?_
        refine k_iloadN K160 d_method_2_code_83 (pc' := 84) rfl rfl ?_
        refine k_castore K160 (j := (0 : Int32)) V_a160 ⟨by decide, by decide⟩ (Nat.le_of_ble_eq_true rfl) ga_a160 sf_a160 d_method_2_code_84 (pc' := 85) rfl ?_
        intro T161 h161 K161 W161 tr161 V161
        replace sf_a159 := tr161 a159 X_a159.lt sf_a159
        replace sf_a160 := tr161 a160 V_a160.lt sf_a160
        replace X_a159 := X_a159.wr W161
        replace F_a159_coder := F_a159_coder.other W161 (Or.inl ne_a159_a160)
        replace F_a159_value := F_a159_value.other W161 (Or.inl ne_a159_a160)
        replace KP := KP.wr W161 (Or.inr sz_a160)
        replace V_a160 := V161
        refine k_dup K161 d_method_2_code_85 (pc' := 86) rfl rfl ?_
        refine k_iconst K161 (1 : Int32) d_method_2_code_86 (pc' := 87) rfl rfl ?_
        refine k_iloadN K161 d_method_2_code_87 (pc' := 88) rfl rfl ?_
        refine k_castore K161 (j := (1 : Int32)) V_a160 ⟨by decide, by decide⟩ (Nat.le_of_ble_eq_true rfl) ga_a160 sf_a160 d_method_2_code_88 (pc' := 89) rfl ?_
        intro T162 h162 K162 W162 tr162 V162
        replace sf_a159 := tr162 a159 X_a159.lt sf_a159
        replace sf_a160 := tr162 a160 V_a160.lt sf_a160
        replace X_a159 := X_a159.wr W162
        replace F_a159_coder := F_a159_coder.other W162 (Or.inl ne_a159_a160)
        replace F_a159_value := F_a159_value.other W162 (Or.inl ne_a159_a160)
        replace KP := KP.wr W162 (Or.inr sz_a160)
        replace V_a160 := V162
        rw [nar_dc x 2, nar_dc x 10] at V_a160
        replace V_a160 : Arv Z h162 a160 ka160 .char 2 (([dc x 2, dc x 10]).map Value.int) (.int 0) := V_a160
        refine k_special K162 [(.ref a160)] [(.ref a159)] 1 (w10 hw) (w11 hw) (w8 hw) (w12 hw) rfl rfl (by decide) pd___C_V_1017 (c_init3a l Z a0 hw hEW n0 a159 a160 ka160 2 [dc x 2, dc x 10] _ _ cs0 h162 K162.old rfl (by simp) hcl V_a160 X_a159 F_a159_value F_a159_coder ga_a159 ne_a159_a160 SC hcs) d_method_2_code_89 (fun x hx => by cases List.mem_singleton.mp hx; exact ⟨X_a159.lt, sf_a159⟩) (pc' := 92) rfl rfl rfl rfl (Nat.le_of_eq rfl) (by decide) (by decide) (by decide) (by decide) ?_
        intro b163 T163 h163 L163 v163 K163 tr163 q163
        obtain ⟨rfl, KQ, d, kd, S⟩ := q163
        rw [own_strCd hcl, own_strZ hcl, own_strVs hcl] at S
        replace KP := KP.trans KQ (allS (Or.inr sz_a159) all0)
        show Goes p_.tables e_ below_ _ (T163.setTop (mkF m_ 92 #[.val (.int x), .val (.int (x &&& (3 : Int32))), .val (.int (dc x 2)), .val (.int (dc x 10)), .val (.int (dc x 18))] [(.ref a159)]))
        exact k_aret K163 d_method_2_code_92 rfl rfl rfl (fun sf ht => ⟨a159, d, kd, 2, rfl, KP, by rw [ed]; rfl, by rw [ed]; exact S⟩) (by decide) (by decide)
    · have ed : drC x = [dc x 2] := by rw [drC, if_neg hc35, if_pos hc51]
      have hcl := drC_c x
      rw [ed] at hcl
      refine k_new K (w6 hw) (w7 hw) (w8 hw) d_method_2_code_54 (pc' := 57) rfl (by decide) (by decide) ?_
      intro T164 h164 a164 g164 K164 E164 tr164 sf_a164 X_a164 D164 U164
      have ga_a164 : n0 ≤ a164 := own_old K.old g164
      have sz_a164 : h0.size ≤ a164 := g164 ▸ KP.1
      replace KP := KP.ext E164
      have F_a164_coder : Fld Z h164 a164 "java/lang/String" "coder" "B" (.int (0 : Int32)) := D164 (Or.inr (w33 hw)) (ty := .byte) (by decide)
      have F_a164_value : Fld Z h164 a164 "java/lang/String" "value" "[B" .null := D164 (Or.inr (w35 hw)) (ty := (.array .byte)) (by decide)
      refine k_dup K164 d_method_2_code_57 (pc' := 58) rfl rfl ?_
      refine k_iconst K164 (1 : Int32) d_method_2_code_58 (pc' := 59) rfl rfl ?_
      refine k_newarray K164 (aty := .char) (z := (1 : Int32)) (w9 hw) (by decide) (cap := 1) (by decide) (by decide) d_method_2_code_59 (pc' := 61) rfl (by decide) (by decide) ?_
      intro T165 h165 a165 ka165 g165 K165 E165 tr165 sf_a165 V_a165
      have ga_a165 : n0 ≤ a165 := own_old K164.old g165
      have sz_a165 : h0.size ≤ a165 := g165 ▸ KP.1
      have ne_a164_a165 : a164 ≠ a165 := own_ne X_a164.lt g165
      replace sf_a164 := tr165 a164 X_a164.lt sf_a164
      replace X_a164 := X_a164.ext E165
      replace F_a164_coder := F_a164_coder.ext E165
      replace F_a164_value := F_a164_value.ext E165
      replace KP := KP.ext E165
      replace V_a165 : Arv Z h165 a165 ka165 .char (1 : Int32) [(.int (0 : Int32))] (.int (0 : Int32)) := V_a165.pad (pad_rep [] (.int (0 : Int32)) 1)
      refine k_dup K165 d_method_2_code_61 (pc' := 62) rfl rfl ?_
      refine k_iconst K165 (0 : Int32) d_method_2_code_62 (pc' := 63) rfl rfl ?_
      refine k_iloadN K165 d_method_2_code_63 (pc' := 64) rfl rfl ?_
      refine k_castore K165 (j := (0 : Int32)) V_a165 ⟨by decide, by decide⟩ (Nat.le_of_ble_eq_true rfl) ga_a165 sf_a165 d_method_2_code_64 (pc' := 65) rfl ?_
      intro T166 h166 K166 W166 tr166 V166
      replace sf_a164 := tr166 a164 X_a164.lt sf_a164
      replace sf_a165 := tr166 a165 V_a165.lt sf_a165
      replace X_a164 := X_a164.wr W166
      replace F_a164_coder := F_a164_coder.other W166 (Or.inl ne_a164_a165)
      replace F_a164_value := F_a164_value.other W166 (Or.inl ne_a164_a165)
      replace KP := KP.wr W166 (Or.inr sz_a165)
      replace V_a165 := V166
      rw [nar_dc x 2] at V_a165
      replace V_a165 : Arv Z h166 a165 ka165 .char 1 (([dc x 2]).map Value.int) (.int 0) := V_a165
      refine k_special K166 [(.ref a165)] [(.ref a164)] 1 (w10 hw) (w11 hw) (w8 hw) (w12 hw) rfl rfl (by decide) pd___C_V_1017 (c_init3a l Z a0 hw hEW n0 a164 a165 ka165 1 [dc x 2] _ _ cs0 h166 K166.old rfl (by simp) hcl V_a165 X_a164 F_a164_value F_a164_coder ga_a164 ne_a164_a165 SC hcs) d_method_2_code_65 (fun x hx => by cases List.mem_singleton.mp hx; exact ⟨X_a164.lt, sf_a164⟩) (pc' := 68) rfl rfl rfl rfl (Nat.le_of_eq rfl) (by decide) (by decide) (by decide) (by decide) ?_
      intro b167 T167 h167 L167 v167 K167 tr167 q167
      obtain ⟨rfl, KQ, d, kd, S⟩ := q167
      rw [own_strCd hcl, own_strZ hcl, own_strVs hcl] at S
      replace KP := KP.trans KQ (allS (Or.inr sz_a164) all0)
      show Goes p_.tables e_ below_ _ (T167.setTop (mkF m_ 68 #[.val (.int x), .val (.int (x &&& (3 : Int32))), .val (.int (dc x 2)), .val (.int (dc x 10)), .val (.int (dc x 18))] [(.ref a164)]))
      exact k_aret K167 d_method_2_code_68 rfl rfl rfl (fun sf ht => ⟨a164, d, kd, 1, rfl, KP, by rw [ed]; rfl, by rw [ed]; exact S⟩) (by decide) (by decide)
  · have ed : drC x = ([] : List Int32) := by rw [drC, if_pos hc35]
    have hcl := drC_c x
    rw [ed] at hcl
    refine k_new K (w6 hw) (w7 hw) (w8 hw) d_method_2_code_38 (pc' := 41) rfl (by decide) (by decide) ?_
    intro T168 h168 a168 g168 K168 E168 tr168 sf_a168 X_a168 D168 U168
    have ga_a168 : n0 ≤ a168 := own_old K.old g168
    have sz_a168 : h0.size ≤ a168 := g168 ▸ KP.1
    replace KP := KP.ext E168
    have F_a168_coder : Fld Z h168 a168 "java/lang/String" "coder" "B" (.int (0 : Int32)) := D168 (Or.inr (w33 hw)) (ty := .byte) (by decide)
    have F_a168_value : Fld Z h168 a168 "java/lang/String" "value" "[B" .null := D168 (Or.inr (w35 hw)) (ty := (.array .byte)) (by decide)
    refine k_dup K168 d_method_2_code_41 (pc' := 42) rfl rfl ?_
    refine k_iconst K168 (0 : Int32) d_method_2_code_42 (pc' := 43) rfl rfl ?_
    refine k_newarray K168 (aty := .char) (z := (0 : Int32)) (w9 hw) (by decide) (cap := 0) (by decide) (by decide) d_method_2_code_43 (pc' := 45) rfl (by decide) (by decide) ?_
    intro T169 h169 a169 ka169 g169 K169 E169 tr169 sf_a169 V_a169
    have ga_a169 : n0 ≤ a169 := own_old K168.old g169
    have sz_a169 : h0.size ≤ a169 := g169 ▸ KP.1
    have ne_a168_a169 : a168 ≠ a169 := own_ne X_a168.lt g169
    replace sf_a168 := tr169 a168 X_a168.lt sf_a168
    replace X_a168 := X_a168.ext E169
    replace F_a168_coder := F_a168_coder.ext E169
    replace F_a168_value := F_a168_value.ext E169
    replace KP := KP.ext E169
    replace V_a169 : Arv Z h169 a169 ka169 .char (0 : Int32) [] (.int (0 : Int32)) := V_a169.pad (pad_rep [] (.int (0 : Int32)) 0)
    replace V_a169 : Arv Z h169 a169 ka169 .char 0 ((([] : List Int32)).map Value.int) (.int 0) := V_a169
    refine k_special K169 [(.ref a169)] [(.ref a168)] 1 (w10 hw) (w11 hw) (w8 hw) (w12 hw) rfl rfl (by decide) pd___C_V_1017 (c_init3a l Z a0 hw hEW n0 a168 a169 ka169 0 ([] : List Int32) _ _ cs0 h169 K169.old rfl (by simp) hcl V_a169 X_a168 F_a168_value F_a168_coder ga_a168 ne_a168_a169 SC hcs) d_method_2_code_45 (fun x hx => by cases List.mem_singleton.mp hx; exact ⟨X_a168.lt, sf_a168⟩) (pc' := 48) rfl rfl rfl rfl (Nat.le_of_eq rfl) (by decide) (by decide) (by decide) (by decide) ?_
    intro b170 T170 h170 L170 v170 K170 tr170 q170
    obtain ⟨rfl, KQ, d, kd, S⟩ := q170
    rw [own_strCd hcl, own_strZ hcl, own_strVs hcl] at S
    replace KP := KP.trans KQ (allS (Or.inr sz_a168) all0)
    show Goes p_.tables e_ below_ _ (T170.setTop (mkF m_ 48 #[.val (.int x), .val (.int (x &&& (3 : Int32))), .val (.int (dc x 2)), .val (.int (dc x 10)), .val (.int (dc x 18))] [(.ref a168)]))
    exact k_aret K170 d_method_2_code_48 rfl rfl rfl (fun sf ht => ⟨a168, d, kd, 0, rfl, KP, by rw [ed]; rfl, by rw [ed]; exact S⟩) (by decide) (by decide)
def C1 (cs : List Int32) : List Value := wrC (List.replicate 256 (.int 0)) 0 cs cs.length
def S1 (n : Int32) : List Value := (List.replicate 33 (.int 0)).set 1 (.int (0 + n))
def B1 (H : Int32) : List Value := (List.replicate 64 (.long 0)).set (i63 H) (.long (ent H (kI 0)))
def E1 : List Value := (List.replicate 32 (.long 0)).set 0 (.long 0)
def H1 (H : Int32) : List Value := (List.replicate 32 (.int 0)).set 0 (.int H)
def e1 (Hs H : Int32) : Int64 := if i63 H = i63 Hs then ent Hs (kI 0) else 0
def L1_ (Hs : Int32) (cs : List Int32) (H : Int32) : List (Nat × Int32 × List Int32) := if i63 H = i63 Hs then [(0, Hs, cs)] else []
theorem b1_g (Hs : Int32) (j : Nat) : (B1 Hs).getD j (.long 0) = if j = i63 Hs then .long (ent Hs (kI 0)) else .long 0 := by
  unfold B1; rw [own_gs (by rw [List.length_replicate]; exact i63_lt Hs), own_rep]
theorem b1_at (Hs H : Int32) : (B1 Hs).getD (i63 H) (.long 0) = .long (e1 Hs H) := by
  rw [b1_g]; unfold e1; split <;> rfl
theorem s1_0 (n : Int32) : (S1 n).getD 0 (.int 0) = .int 0 := by unfold S1; rw [own_gs (by simp), if_neg (by decide), own_rep]
theorem s1_1 (n : Int32) : (S1 n).getD 1 (.int 0) = .int (0 + n) := by unfold S1; rw [own_gs (by simp), if_pos rfl]
theorem own_0n {n : Int32} {m : Nat} (h : n.toInt = m) : ((0 : Int32) + n).toInt = m := by rw [show (0 : Int32) + n = n by simp]; exact h
theorem t1 {cs : List Int32} {n : Int32} (hn : n.toInt = cs.length) (hb : cs.length ≤ 3) : Txt (C1 cs) (S1 n) 0 cs := by
  refine ⟨0, 0 + n, 0, s1_0 n, s1_1 n, rfl, by rw [own_0n hn]; omega, by omega, hb, fun i h => ?_⟩
  unfold C1
  rw [wrC_in _ _ _ _ _ (by rw [List.length_replicate]; omega) i h]; simp [List.getD_eq_getElem?_getD, h]
theorem c1 (Hs : Int32) {cs : List Int32} {n : Int32} (hn : n.toInt = cs.length) (hb : cs.length ≤ 3) (H : Int32) : Chn (C1 cs) (S1 n) E1 (e1 Hs H) (L1_ Hs cs H) := by
  unfold e1 L1_
  by_cases q : i63 H = i63 Hs
  · rw [if_pos q, if_pos q]; exact ⟨rfl, by decide, t1 hn hb, 0, by unfold E1; rw [own_gs (by simp), if_pos rfl], rfl⟩
  · rw [if_neg q, if_neg q]; rfl
theorem f1 (base : Int64) (cs ct : List Int32) : fdV (hashC base ct) ct (L1_ (hashC base cs) cs (hashC base ct)) = if cs = ct then 0 else -1 := by
  unfold L1_
  by_cases q : cs = ct
  · subst q; rw [if_pos rfl, if_pos rfl, fdV, if_pos ⟨rfl, rfl⟩]; rfl
  · rw [if_neg q]; split
    · rw [fdV, if_neg (fun r => q r.2)]; rfl
    · rfl
theorem z1 (Hs : Int32) : ∀ j, j < 64 → (B1 Hs).getD j (.long 0) = .long 0 ∨ ∃ m, m < 1 ∧ ∃ Hm, (H1 Hs).getD m (.int 0) = .int Hm ∧ j = i63 Hm := by
  intro j hj
  rw [b1_g]
  by_cases q : j = i63 Hs
  · exact Or.inr ⟨0, by decide, Hs, by unfold H1; rw [own_gs (by simp), if_pos rfl], q⟩
  · rw [if_neg q]; exact Or.inl rfl
theorem h1_0 (Hs : Int32) : (H1 Hs).getD 0 (.int 0) = .int Hs := by unfold H1; rw [own_gs (by simp), if_pos rfl]
theorem a1 (Hs : Int32) : ∀ m, m < 1 → ∃ Hm, (H1 Hs).getD m (.int 0) = .int Hm := by
  intro m hm
  obtain rfl : m = 0 := by omega
  exact ⟨Hs, h1_0 Hs⟩
def C2 (cs ct : List Int32) : List Value := wrC (C1 cs) cs.length ct ct.length
def S2 (n m : Int32) : List Value := (S1 n).set 2 (.int (0 + n + m))
def B2 (Hs Ht : Int32) : List Value := (B1 Hs).set (i63 Ht) (.long (ent Ht (kI 1)))
def E2 (Hs Ht : Int32) : List Value := E1.set 1 (.long (e1 Hs Ht))
def H2 (Hs Ht : Int32) : List Value := (H1 Hs).set 1 (.int Ht)
def e2 (Hs Ht : Int32) : Int64 := if i63 Hs = i63 Ht then ent Ht (kI 1) else ent Hs (kI 0)
def L2_ (Hs Ht : Int32) (cs ct : List Int32) : List (Nat × Int32 × List Int32) := if i63 Hs = i63 Ht then [(1, Ht, ct), (0, Hs, cs)] else [(0, Hs, cs)]
theorem b1_l (Hs : Int32) : (B1 Hs).length = 64 := by unfold B1; rw [List.length_set, List.length_replicate]
theorem h1_l (Hs : Int32) : (H1 Hs).length = 32 := by unfold H1; rw [List.length_set, List.length_replicate]
theorem s1_l (n : Int32) : (S1 n).length = 33 := by unfold S1; rw [List.length_set, List.length_replicate]
theorem c1_l (cs : List Int32) : (C1 cs).length = 256 := by unfold C1; rw [wrC_len, List.length_replicate]
theorem b2_at (Hs Ht : Int32) : (B2 Hs Ht).getD (i63 Hs) (.long 0) = .long (e2 Hs Ht) := by
  unfold B2 e2
  rw [own_gs (by rw [b1_l]; exact i63_lt Ht), b1_g, if_pos rfl]; split <;> rfl
theorem s2_g (n m : Int32) (j : Nat) (hj : j < 2) : (S2 n m).getD j (.int 0) = (S1 n).getD j (.int 0) := by unfold S2; rw [own_gs (by rw [s1_l]; decide), if_neg (by omega)]
theorem t20 {cs ct : List Int32} {n m : Int32} (hn : n.toInt = cs.length) (hb : cs.length ≤ 3) (hb2 : ct.length ≤ 3) : Txt (C2 cs ct) (S2 n m) 0 cs := by
  obtain ⟨p, q, pn, h1, h2, h3, h4, h5, h6, h7⟩ := t1 hn hb
  have hp0 : pn = 0 := by
    rw [s1_0] at h1; cases h1
    have : (0 : Int32).toInt = 0 := rfl
    omega
  refine ⟨p, q, pn, by rw [s2_g _ _ _ (by decide)]; exact h1, by rw [s2_g _ _ _ (by decide)]; exact h2, h3, h4, h5, h6, fun i h => ?_⟩
  unfold C2
  rw [wrC_out _ _ _ _ _ (by rw [c1_l]; omega) _ (by omega)]; exact h7 i h
theorem t21 {cs ct : List Int32} {n m : Int32} (hn : n.toInt = cs.length) (hm : m.toInt = ct.length) (hb : cs.length ≤ 3) (hb2 : ct.length ≤ 3) : Txt (C2 cs ct) (S2 n m) 1 ct := by
  refine ⟨0 + n, 0 + n + m, cs.length, by rw [s2_g _ _ _ (by decide)]; exact s1_1 n, by unfold S2; rw [own_gs (by rw [s1_l]; decide), if_pos rfl], own_0n hn, ?_, hb, hb2, fun i h => ?_⟩
  · rw [XT.add32 (by rw [own_0n hn, hm]; constructor <;> omega), own_0n hn, hm]; omega
  · unfold C2
    rw [wrC_in _ _ _ _ _ (by rw [c1_l]; omega) i h]; simp [List.getD_eq_getElem?_getD, h]
theorem e2_0 (Hs Ht : Int32) : (E2 Hs Ht).getD 0 (.long 0) = .long 0 := by unfold E2 E1; rw [own_gs (by simp), if_neg (by decide), own_gs (by simp), if_pos rfl]
theorem e2_1 (Hs Ht : Int32) : (E2 Hs Ht).getD 1 (.long 0) = .long (e1 Hs Ht) := by unfold E2 E1; rw [own_gs (by simp), if_pos rfl]
theorem c2 (Hs Ht : Int32) {cs ct : List Int32} {n m : Int32} (hn : n.toInt = cs.length) (hm : m.toInt = ct.length) (hb : cs.length ≤ 3) (hb2 : ct.length ≤ 3) : Chn (C2 cs ct) (S2 n m) (E2 Hs Ht) (e2 Hs Ht) (L2_ Hs Ht cs ct) := by
  have last : Chn (C2 cs ct) (S2 n m) (E2 Hs Ht) (ent Hs (kI 0)) [(0, Hs, cs)] := ⟨rfl, by decide, t20 hn hb hb2, 0, e2_0 Hs Ht, rfl⟩
  unfold e2 L2_
  by_cases q : i63 Hs = i63 Ht
  · rw [if_pos q, if_pos q]
    refine ⟨rfl, by decide, t21 hn hm hb hb2, e1 Hs Ht, e2_1 Hs Ht, ?_⟩
    unfold e1; rw [if_pos q.symm]; exact last
  · rw [if_neg q, if_neg q]; exact last
theorem f2 (Hs Ht : Int32) {cs ct : List Int32} (q : ¬ ct = cs) : fdV Hs cs (L2_ Hs Ht cs ct) = 0 := by
  unfold L2_
  split
  · rw [fdV, if_neg (fun r => q r.2), fdV, if_pos ⟨rfl, rfl⟩]; rfl
  · rw [fdV, if_pos ⟨rfl, rfl⟩]; rfl
theorem h2_0 (Hs Ht : Int32) : (H2 Hs Ht).getD 0 (.int 0) = .int Hs := by unfold H2; rw [own_gs (by rw [h1_l]; decide), if_neg (by decide), h1_0]
theorem h2_1 (Hs Ht : Int32) : (H2 Hs Ht).getD 1 (.int 0) = .int Ht := by unfold H2; rw [own_gs (by rw [h1_l]; decide), if_pos rfl]
theorem z2 (Hs Ht : Int32) : ∀ j, j < 64 → (B2 Hs Ht).getD j (.long 0) = .long 0 ∨ ∃ m, m < 2 ∧ ∃ Hm, (H2 Hs Ht).getD m (.int 0) = .int Hm ∧ j = i63 Hm := by
  intro j hj
  unfold B2
  rw [own_gs (by rw [b1_l]; exact i63_lt Ht)]
  by_cases q : j = i63 Ht
  · exact Or.inr ⟨1, by decide, Ht, h2_1 Hs Ht, q⟩
  · rw [if_neg q, b1_g]
    by_cases r : j = i63 Hs
    · exact Or.inr ⟨0, by decide, Hs, h2_0 Hs Ht, r⟩
    · rw [if_neg r]; exact Or.inl rfl
theorem a2 (Hs Ht : Int32) : ∀ m, m < 2 → ∃ Hm, (H2 Hs Ht).getD m (.int 0) = .int Hm := by
  intro m hm
  have h2 : m = 0 ∨ m = 1 := by omega
  rcases h2 with rfl | rfl
  · exact ⟨Hs, h2_0 Hs Ht⟩
  · exact ⟨Ht, h2_1 Hs Ht⟩
theorem latI {cs ct : List Int32} (h1 : ∀ c ∈ cs, 0 ≤ c.toInt ∧ c.toInt < 256) (h2 : ∀ c ∈ ct, 0 ≤ c.toInt ∧ c.toInt < 256) : (ct.map fun c => c.toInt8.toInt32) = (cs.map fun c => c.toInt8.toInt32) ↔ ct = cs := by
  have inv : ∀ l : List Int32, (∀ c ∈ l, 0 ≤ c.toInt ∧ c.toInt < 256) → (l.map fun c => c.toInt8.toInt32).map (fun y => (y &&& 255).toUInt32.toUInt16.toUInt32.toInt32) = l := fun l hl => by
    rw [List.map_map]
    exact (List.map_congr_left fun c hc => own_ch8 (hl c hc)).trans (List.map_id l)
  constructor
  · intro q; rw [← inv ct h2, q, inv cs h1]
  · intro q; rw [q]
theorem w0 {Z : State} {a0 : Array Value} (hw : Tb a0 Z) : (Jvm.Cond.constantLong "com/example/tallyard/tallyard/scenario/formats/TextIndexClearPinLaw" (12 : Nat) (2305843009213693951 : Int64)).before a0 Z = true := hw _ (List.mem_of_getElem? (i := 0) rfl)
theorem w1 {Z : State} {a0 : Array Value} (hw : Tb a0 Z) : (Jvm.Cond.constantLong "com/example/tallyard/tallyard/scenario/formats/TextIndexClearPinLaw" (16 : Nat) (9223372036854775807 : Int64)).before a0 Z = true := hw _ (List.mem_of_getElem? (i := 1) rfl)
theorem w2 {Z : State} {a0 : Array Value} (hw : Tb a0 Z) : (Jvm.Cond.methodLink "com/example/tallyard/tallyard/scenario/formats/TextIndexClearPinLaw" (18 : Nat) ({ cls := "com/example/tallyard/tallyard/scenario/formats/TextIndexClearPinLaw", name := "draw", desc := "(I)Ljava/lang/String;" } : Jvm.MethodName)).before a0 Z = true := hw _ (List.mem_of_getElem? (i := 2) rfl)
theorem w4 {Z : State} {a0 : Array Value} (hw : Tb a0 Z) : (Jvm.Cond.initialized "com/example/tallyard/tallyard/scenario/formats/TextIndexClearPinLaw").before a0 Z = true := hw _ (List.mem_of_getElem? (i := 4) rfl)
theorem w5 {Z : State} {a0 : Array Value} (hw : Tb a0 Z) : (Jvm.Cond.code ({ cls := "com/example/tallyard/tallyard/scenario/formats/TextIndexClearPinLaw", name := "draw", desc := "(I)Ljava/lang/String;" } : Jvm.MethodName) method_2_code (5 : Nat) (Option.some (Jvm.ClassFile.FieldType.object "java/lang/String"))).before a0 Z = true := hw _ (List.mem_of_getElem? (i := 5) rfl)
theorem w3 {Z : State} {a0 : Array Value} (hw : Tb a0 Z) : (Jvm.Cond.static ({ cls := "com/example/tallyard/tallyard/scenario/formats/TextIndexClearPinLaw", name := "draw", desc := "(I)Ljava/lang/String;" } : Jvm.MethodName)).before a0 Z = true := hw _ (List.mem_of_getElem? (i := 3) rfl)
theorem pd__I_Ljava_lang_String__1586 : parseMethodDescriptor "(I)Ljava/lang/String;" = some ⟨[.int], some (.object "java/lang/String")⟩ := by decide +kernel
theorem w39 {Z : State} {a0 : Array Value} (hw : Tb a0 Z) : (Jvm.Cond.classLink "com/example/tallyard/tallyard/scenario/formats/TextIndexClearPinLaw" (24 : Nat) "com/example/tallyard/tallyard/scenario/formats/TextIndex").before a0 Z = true := hw _ (List.mem_of_getElem? (i := 39) rfl)
theorem w42 {Z : State} {a0 : Array Value} (hw : Tb a0 Z) : (Jvm.Cond.methodLink "com/example/tallyard/tallyard/scenario/formats/TextIndexClearPinLaw" (26 : Nat) ({ cls := "com/example/tallyard/tallyard/scenario/formats/TextIndex", name := "<init>", desc := "(J)V" } : Jvm.MethodName)).before a0 Z = true := hw _ (List.mem_of_getElem? (i := 42) rfl)
theorem w44 {Z : State} {a0 : Array Value} (hw : Tb a0 Z) : (Jvm.Cond.code ({ cls := "com/example/tallyard/tallyard/scenario/formats/TextIndex", name := "<init>", desc := "(J)V" } : Jvm.MethodName) prog_87_method_2_code (3 : Nat) (Option.none : Option Jvm.ClassFile.FieldType)).before a0 Z = true := hw _ (List.mem_of_getElem? (i := 44) rfl)
theorem w43 {Z : State} {a0 : Array Value} (hw : Tb a0 Z) : (Jvm.Cond.instanceMethod ({ cls := "com/example/tallyard/tallyard/scenario/formats/TextIndex", name := "<init>", desc := "(J)V" } : Jvm.MethodName)).before a0 Z = true := hw _ (List.mem_of_getElem? (i := 43) rfl)
theorem pd__J_V_655 : parseMethodDescriptor "(J)V" = some ⟨[.long], none⟩ := by decide +kernel
theorem w155 {Z : State} {a0 : Array Value} (hw : Tb a0 Z) : (Jvm.Cond.methodLink "com/example/tallyard/tallyard/scenario/formats/TextIndexClearPinLaw" (40 : Nat) ({ cls := "com/example/tallyard/tallyard/scenario/formats/TextIndex", name := "clear", desc := "()V" } : Jvm.MethodName)).before a0 Z = true := hw _ (List.mem_of_getElem? (i := 155) rfl)
theorem w159 {Z : State} {a0 : Array Value} (hw : Tb a0 Z) : (Jvm.Cond.code ({ cls := "com/example/tallyard/tallyard/scenario/formats/TextIndex", name := "clear", desc := "()V" } : Jvm.MethodName) prog_87_method_6_code (2 : Nat) (Option.none : Option Jvm.ClassFile.FieldType)).before a0 Z = true := hw _ (List.mem_of_getElem? (i := 159) rfl)
theorem w158 {Z : State} {a0 : Array Value} (hw : Tb a0 Z) : (Jvm.Cond.selects "com/example/tallyard/tallyard/scenario/formats/TextIndex" ({ cls := "com/example/tallyard/tallyard/scenario/formats/TextIndex", name := "clear", desc := "()V" } : Jvm.MethodName) ({ cls := "com/example/tallyard/tallyard/scenario/formats/TextIndex", name := "clear", desc := "()V" } : Jvm.MethodName)).before a0 Z = true := hw _ (List.mem_of_getElem? (i := 158) rfl)
theorem w156 {Z : State} {a0 : Array Value} (hw : Tb a0 Z) : (Jvm.Cond.declares ({ cls := "com/example/tallyard/tallyard/scenario/formats/TextIndex", name := "clear", desc := "()V" } : Jvm.MethodName)).before a0 Z = true := hw _ (List.mem_of_getElem? (i := 156) rfl)
theorem w157 {Z : State} {a0 : Array Value} (hw : Tb a0 Z) : (Jvm.Cond.instanceMethod ({ cls := "com/example/tallyard/tallyard/scenario/formats/TextIndex", name := "clear", desc := "()V" } : Jvm.MethodName)).before a0 Z = true := hw _ (List.mem_of_getElem? (i := 157) rfl)
theorem pd___V_380 : parseMethodDescriptor "()V" = some ⟨[], none⟩ := by decide +kernel
theorem w160 {Z : State} {a0 : Array Value} (hw : Tb a0 Z) : (Jvm.Cond.methodLink "com/example/tallyard/tallyard/scenario/formats/TextIndexClearPinLaw" (43 : Nat) ({ cls := "com/example/tallyard/tallyard/scenario/formats/TextIndex", name := "size", desc := "()I" } : Jvm.MethodName)).before a0 Z = true := hw _ (List.mem_of_getElem? (i := 160) rfl)
theorem w164 {Z : State} {a0 : Array Value} (hw : Tb a0 Z) : (Jvm.Cond.code ({ cls := "com/example/tallyard/tallyard/scenario/formats/TextIndex", name := "size", desc := "()I" } : Jvm.MethodName) prog_87_method_3_code (1 : Nat) (Option.some Jvm.ClassFile.FieldType.int)).before a0 Z = true := hw _ (List.mem_of_getElem? (i := 164) rfl)
theorem w163 {Z : State} {a0 : Array Value} (hw : Tb a0 Z) : (Jvm.Cond.selects "com/example/tallyard/tallyard/scenario/formats/TextIndex" ({ cls := "com/example/tallyard/tallyard/scenario/formats/TextIndex", name := "size", desc := "()I" } : Jvm.MethodName) ({ cls := "com/example/tallyard/tallyard/scenario/formats/TextIndex", name := "size", desc := "()I" } : Jvm.MethodName)).before a0 Z = true := hw _ (List.mem_of_getElem? (i := 163) rfl)
theorem w161 {Z : State} {a0 : Array Value} (hw : Tb a0 Z) : (Jvm.Cond.declares ({ cls := "com/example/tallyard/tallyard/scenario/formats/TextIndex", name := "size", desc := "()I" } : Jvm.MethodName)).before a0 Z = true := hw _ (List.mem_of_getElem? (i := 161) rfl)
theorem w162 {Z : State} {a0 : Array Value} (hw : Tb a0 Z) : (Jvm.Cond.instanceMethod ({ cls := "com/example/tallyard/tallyard/scenario/formats/TextIndex", name := "size", desc := "()I" } : Jvm.MethodName)).before a0 Z = true := hw _ (List.mem_of_getElem? (i := 162) rfl)
theorem w144 {Z : State} {a0 : Array Value} (hw : Tb a0 Z) : (Jvm.Cond.methodLink "com/example/tallyard/tallyard/scenario/formats/TextIndexClearPinLaw" (37 : Nat) ({ cls := "com/example/tallyard/tallyard/scenario/formats/TextIndex", name := "numberOf", desc := "(Ljava/lang/CharSequence;)I" } : Jvm.MethodName)).before a0 Z = true := hw _ (List.mem_of_getElem? (i := 144) rfl)
theorem w148 {Z : State} {a0 : Array Value} (hw : Tb a0 Z) : (Jvm.Cond.code ({ cls := "com/example/tallyard/tallyard/scenario/formats/TextIndex", name := "numberOf", desc := "(Ljava/lang/CharSequence;)I" } : Jvm.MethodName) prog_87_method_4_code (3 : Nat) (Option.some Jvm.ClassFile.FieldType.int)).before a0 Z = true := hw _ (List.mem_of_getElem? (i := 148) rfl)
theorem w147 {Z : State} {a0 : Array Value} (hw : Tb a0 Z) : (Jvm.Cond.selects "com/example/tallyard/tallyard/scenario/formats/TextIndex" ({ cls := "com/example/tallyard/tallyard/scenario/formats/TextIndex", name := "numberOf", desc := "(Ljava/lang/CharSequence;)I" } : Jvm.MethodName) ({ cls := "com/example/tallyard/tallyard/scenario/formats/TextIndex", name := "numberOf", desc := "(Ljava/lang/CharSequence;)I" } : Jvm.MethodName)).before a0 Z = true := hw _ (List.mem_of_getElem? (i := 147) rfl)
theorem w145 {Z : State} {a0 : Array Value} (hw : Tb a0 Z) : (Jvm.Cond.declares ({ cls := "com/example/tallyard/tallyard/scenario/formats/TextIndex", name := "numberOf", desc := "(Ljava/lang/CharSequence;)I" } : Jvm.MethodName)).before a0 Z = true := hw _ (List.mem_of_getElem? (i := 145) rfl)
theorem w146 {Z : State} {a0 : Array Value} (hw : Tb a0 Z) : (Jvm.Cond.instanceMethod ({ cls := "com/example/tallyard/tallyard/scenario/formats/TextIndex", name := "numberOf", desc := "(Ljava/lang/CharSequence;)I" } : Jvm.MethodName)).before a0 Z = true := hw _ (List.mem_of_getElem? (i := 146) rfl)
theorem w62 {Z : State} {a0 : Array Value} (hw : Tb a0 Z) : (Jvm.Cond.methodLink "com/example/tallyard/tallyard/scenario/formats/TextIndexClearPinLaw" (29 : Nat) ({ cls := "com/example/tallyard/tallyard/scenario/formats/TextIndex", name := "add", desc := "(Ljava/lang/CharSequence;)I" } : Jvm.MethodName)).before a0 Z = true := hw _ (List.mem_of_getElem? (i := 62) rfl)
theorem w66 {Z : State} {a0 : Array Value} (hw : Tb a0 Z) : (Jvm.Cond.code ({ cls := "com/example/tallyard/tallyard/scenario/formats/TextIndex", name := "add", desc := "(Ljava/lang/CharSequence;)I" } : Jvm.MethodName) prog_87_method_5_code (6 : Nat) (Option.some Jvm.ClassFile.FieldType.int)).before a0 Z = true := hw _ (List.mem_of_getElem? (i := 66) rfl)
theorem w65 {Z : State} {a0 : Array Value} (hw : Tb a0 Z) : (Jvm.Cond.selects "com/example/tallyard/tallyard/scenario/formats/TextIndex" ({ cls := "com/example/tallyard/tallyard/scenario/formats/TextIndex", name := "add", desc := "(Ljava/lang/CharSequence;)I" } : Jvm.MethodName) ({ cls := "com/example/tallyard/tallyard/scenario/formats/TextIndex", name := "add", desc := "(Ljava/lang/CharSequence;)I" } : Jvm.MethodName)).before a0 Z = true := hw _ (List.mem_of_getElem? (i := 65) rfl)
theorem w63 {Z : State} {a0 : Array Value} (hw : Tb a0 Z) : (Jvm.Cond.declares ({ cls := "com/example/tallyard/tallyard/scenario/formats/TextIndex", name := "add", desc := "(Ljava/lang/CharSequence;)I" } : Jvm.MethodName)).before a0 Z = true := hw _ (List.mem_of_getElem? (i := 63) rfl)
theorem w64 {Z : State} {a0 : Array Value} (hw : Tb a0 Z) : (Jvm.Cond.instanceMethod ({ cls := "com/example/tallyard/tallyard/scenario/formats/TextIndex", name := "add", desc := "(Ljava/lang/CharSequence;)I" } : Jvm.MethodName)).before a0 Z = true := hw _ (List.mem_of_getElem? (i := 64) rfl)
theorem w135 {Z : State} {a0 : Array Value} (hw : Tb a0 Z) : (Jvm.Cond.methodLink "com/example/tallyard/tallyard/scenario/formats/TextIndexClearPinLaw" (33 : Nat) ({ cls := "java/lang/String", name := "equals", desc := "(Ljava/lang/Object;)Z" } : Jvm.MethodName)).before a0 Z = true := hw _ (List.mem_of_getElem? (i := 135) rfl)
theorem w139 {Z : State} {a0 : Array Value} (hw : Tb a0 Z) : (Jvm.Cond.code ({ cls := "java/lang/String", name := "equals", desc := "(Ljava/lang/Object;)Z" } : Jvm.MethodName) jdk_42_method_66_code (3 : Nat) (Option.some Jvm.ClassFile.FieldType.boolean)).before a0 Z = true := hw _ (List.mem_of_getElem? (i := 139) rfl)
theorem w138 {Z : State} {a0 : Array Value} (hw : Tb a0 Z) : (Jvm.Cond.selects "java/lang/String" ({ cls := "java/lang/String", name := "equals", desc := "(Ljava/lang/Object;)Z" } : Jvm.MethodName) ({ cls := "java/lang/String", name := "equals", desc := "(Ljava/lang/Object;)Z" } : Jvm.MethodName)).before a0 Z = true := hw _ (List.mem_of_getElem? (i := 138) rfl)
theorem w136 {Z : State} {a0 : Array Value} (hw : Tb a0 Z) : (Jvm.Cond.declares ({ cls := "java/lang/String", name := "equals", desc := "(Ljava/lang/Object;)Z" } : Jvm.MethodName)).before a0 Z = true := hw _ (List.mem_of_getElem? (i := 136) rfl)
theorem w137 {Z : State} {a0 : Array Value} (hw : Tb a0 Z) : (Jvm.Cond.instanceMethod ({ cls := "java/lang/String", name := "equals", desc := "(Ljava/lang/Object;)Z" } : Jvm.MethodName)).before a0 Z = true := hw _ (List.mem_of_getElem? (i := 137) rfl)
theorem pd__Ljava_lang_Object__Z_194 : parseMethodDescriptor "(Ljava/lang/Object;)Z" = some ⟨[(.object "java/lang/Object")], some .boolean⟩ := by decide +kernel
set_option maxRecDepth 65536 in
set_option maxHeartbeats 40000000 in
theorem c_law (l : Launch) (Z : State) (a0 : Array Value) (hw : Tb a0 Z) (hEW : EW Z a0 EL0) (n0 : Nat) (seed : Int64) (xa xb xc xf : Int32) (ff : Value) (cs0 : Int32) (h0 : Heap) (O : Old Z n0 h0) (SF : Sta Z Z.heap "jdk/internal/util/Preconditions" "SIOOBE_FORMATTER" "Ljava/util/function/BiFunction;" ff) (hff : ff.isRef = true) (SC : Sta Z Z.heap "java/lang/String" "COMPACT_STRINGS" "Z" (.int cs0)) (hcs : ¬ cs0 = 0) :
    Ct l Z EL0 n0 x code maxLocals ret room_1 #[(.long seed), (.int xa), (.int xb), (.int xc), (.int xf)] h0 [] (fun v _ _ => v = some (.int 1) ∧ True) := by
  refine Ct.of (a0 := a0) #[.val (.long seed), .second, .val (.int xa), .val (.int xb), .val (.int xc), .val (.int xf), .unset, .unset, .unset, .unset, .unset, .unset, .unset, .unset, .unset, .unset, .unset] hEW O (plainFor_of_name pl_com_example_tallyard_tallyard_scenario_formats_TextIndexClearPinLaw) (fun m => by first | (simp [entryFrame, mkF, argsToLocals, Value.category, maxLocals]; done) | rfl) ?_
  intro p_ e_ s_ m_ below_ meth_ c_ b_ T_ K hSP
  refine k_ldcJ K (w0 hw) at_0 (pc' := 3) rfl ?_
  refine k_lstore K at_3 (pc' := 5) (L' := #[.val (.long seed), .second, .val (.int xa), .val (.int xb), .val (.int xc), .val (.int xf), .val (.long (2305843009213693951 : Int64)), .second, .unset, .unset, .unset, .unset, .unset, .unset, .unset, .unset, .unset]) rfl rfl ?_
  refine k_lloadN K at_5 (pc' := 6) rfl rfl ?_
  refine k_ldcJ K (w1 hw) at_6 (pc' := 9) rfl ?_
  refine k_land K at_9 (pc' := 10) rfl ?_
  refine k_lload K at_10 (pc' := 12) rfl rfl ?_
  refine k_lrem K at_12 (pc' := 13) rfl (by decide) ?_
  generalize ((seed &&& (9223372036854775807 : Int64)) - ((seed &&& (9223372036854775807 : Int64)) / (2305843009213693951 : Int64)) * (2305843009213693951 : Int64)) = base
  refine k_lstore K at_13 (pc' := 15) (L' := #[.val (.long seed), .second, .val (.int xa), .val (.int xb), .val (.int xc), .val (.int xf), .val (.long (2305843009213693951 : Int64)), .second, .val (.long base), .second, .unset, .unset, .unset, .unset, .unset, .unset, .unset]) rfl rfl ?_
  refine k_iloadN K at_15 (pc' := 16) rfl rfl ?_
  refine k_static K [(.int xa)] [] 0 (w2 hw) (w3 hw) (w4 hw) (w5 hw) (by decide) pd__I_Ljava_lang_String__1586 (c_draw l Z a0 hw hEW n0 xa cs0 h0 K.old SC hcs) at_16 nofun (pc' := 19) rfl rfl rfl rfl (Nat.le_of_eq rfl) (by decide) (by decide) (by decide) (by decide) ?_
  intro b171 T171 h171 L171 v171 K171 tr171 q171
  obtain ⟨s, es, kds, ns, rfl, KQ, hn_s, S_s⟩ := q171
  show Goes p_.tables e_ below_ _ (T171.setTop (mkF m_ 19 #[.val (.long seed), .second, .val (.int xa), .val (.int xb), .val (.int xc), .val (.int xf), .val (.long (2305843009213693951 : Int64)), .second, .val (.long base), .second, .unset, .unset, .unset, .unset, .unset, .unset, .unset] [(.ref s)]))
  have hb_s := drC_l xa
  have hc_s := drC_c xa
  refine k_astore K171 at_19 (pc' := 21) (L' := #[.val (.long seed), .second, .val (.int xa), .val (.int xb), .val (.int xc), .val (.int xf), .val (.long (2305843009213693951 : Int64)), .second, .val (.long base), .second, .val (.ref s), .unset, .unset, .unset, .unset, .unset, .unset]) rfl rfl rfl ?_
  refine k_iloadN K171 at_21 (pc' := 22) rfl rfl ?_
  refine k_static K171 [(.int xb)] [] 0 (w2 hw) (w3 hw) (w4 hw) (w5 hw) (by decide) pd__I_Ljava_lang_String__1586 (c_draw l Z a0 hw hEW n0 xb cs0 h171 K171.old SC hcs) at_22 nofun (pc' := 25) rfl rfl rfl rfl (Nat.le_of_eq rfl) (by decide) (by decide) (by decide) (by decide) ?_
  intro b172 T172 h172 L172 v172 K172 tr172 q172
  obtain ⟨t, et, kdt, nt, rfl, KQ, hn_t, S_t⟩ := q172
  replace S_s := S_s.keep KQ nin0 nin0
  show Goes p_.tables e_ below_ _ (T172.setTop (mkF m_ 25 #[.val (.long seed), .second, .val (.int xa), .val (.int xb), .val (.int xc), .val (.int xf), .val (.long (2305843009213693951 : Int64)), .second, .val (.long base), .second, .val (.ref s), .unset, .unset, .unset, .unset, .unset, .unset] [(.ref t)]))
  have hb_t := drC_l xb
  have hc_t := drC_c xb
  refine k_astore K172 at_25 (pc' := 27) (L' := #[.val (.long seed), .second, .val (.int xa), .val (.int xb), .val (.int xc), .val (.int xf), .val (.long (2305843009213693951 : Int64)), .second, .val (.long base), .second, .val (.ref s), .val (.ref t), .unset, .unset, .unset, .unset, .unset]) rfl rfl rfl ?_
  refine k_iload K172 at_27 (pc' := 29) rfl rfl ?_
  refine k_static K172 [(.int xc)] [] 0 (w2 hw) (w3 hw) (w4 hw) (w5 hw) (by decide) pd__I_Ljava_lang_String__1586 (c_draw l Z a0 hw hEW n0 xc cs0 h172 K172.old SC hcs) at_29 nofun (pc' := 32) rfl rfl rfl rfl (Nat.le_of_eq rfl) (by decide) (by decide) (by decide) (by decide) ?_
  intro b173 T173 h173 L173 v173 K173 tr173 q173
  obtain ⟨u, eu, kdu, nu, rfl, KQ, hn_u, S_u⟩ := q173
  replace S_s := S_s.keep KQ nin0 nin0
  replace S_t := S_t.keep KQ nin0 nin0
  show Goes p_.tables e_ below_ _ (T173.setTop (mkF m_ 32 #[.val (.long seed), .second, .val (.int xa), .val (.int xb), .val (.int xc), .val (.int xf), .val (.long (2305843009213693951 : Int64)), .second, .val (.long base), .second, .val (.ref s), .val (.ref t), .unset, .unset, .unset, .unset, .unset] [(.ref u)]))
  have hb_u := drC_l xc
  have hc_u := drC_c xc
  refine k_astore K173 at_32 (pc' := 34) (L' := #[.val (.long seed), .second, .val (.int xa), .val (.int xb), .val (.int xc), .val (.int xf), .val (.long (2305843009213693951 : Int64)), .second, .val (.long base), .second, .val (.ref s), .val (.ref t), .val (.ref u), .unset, .unset, .unset, .unset]) rfl rfl rfl ?_
  refine k_iload K173 at_34 (pc' := 36) rfl rfl ?_
  refine k_iconst K173 (1 : Int32) at_36 (pc' := 37) rfl rfl ?_
  refine k_iand K173 at_37 (pc' := 38) rfl ?_
  have JF : ∀ (f13 : Int32) (b174 T174 : State) (L174 : List Loc), Wk p_ l e_ room_1 s_ m_ #[(.long seed), (.int xa), (.int xb), (.int xc), (.int xf)] below_ meth_ c_ Z a0 EL0 n0 x code maxLocals ret b174 T174 h173 L174 18 45 → Goes p_.tables e_ below_ (FinW Z EL0 s_ n0 room_1 (fun v _ _ => v = some (.int 1) ∧ True)) (T174.setTop (mkF m_ 46 #[.val (.long seed), .second, .val (.int xa), .val (.int xb), .val (.int xc), .val (.int xf), .val (.long (2305843009213693951 : Int64)), .second, .val (.long base), .second, .val (.ref s), .val (.ref t), .val (.ref u), .unset, .unset, .unset, .unset] [(.int f13)])) := by
    intro f13 b174 T174 L174 K174
    refine k_istore K174 at_46 (pc' := 48) (L' := #[.val (.long seed), .second, .val (.int xa), .val (.int xb), .val (.int xc), .val (.int xf), .val (.long (2305843009213693951 : Int64)), .second, .val (.long base), .second, .val (.ref s), .val (.ref t), .val (.ref u), .val (.int f13), .unset, .unset, .unset]) rfl rfl ?_
    refine k_iload K174 at_48 (pc' := 50) rfl rfl ?_
    refine k_iconst K174 (1 : Int32) at_50 (pc' := 51) rfl rfl ?_
    refine k_iushr K174 at_51 (pc' := 52) rfl ?_
    refine k_iconst K174 (3 : Int32) at_52 (pc' := 53) rfl rfl ?_
    refine k_iand K174 at_53 (pc' := 54) rfl ?_
    generalize XT.ushr xf (1 : Int32) &&& (3 : Int32) = lk
    refine k_istore K174 at_54 (pc' := 56) (L' := #[.val (.long seed), .second, .val (.int xa), .val (.int xb), .val (.int xc), .val (.int xf), .val (.long (2305843009213693951 : Int64)), .second, .val (.long base), .second, .val (.ref s), .val (.ref t), .val (.ref u), .val (.int f13), .val (.int lk), .unset, .unset]) rfl rfl ?_
    refine k_new K174 (w39 hw) (w40 hw) (w41 hw) at_56 (pc' := 59) rfl (by decide) (by decide) ?_
    intro T175 h175 a175 g175 K175 E175 tr175 sf_a175 X_a175 D175 U175
    have ga_a175 : n0 ≤ a175 := own_old K174.old g175
    have ne_s_a175 : s ≠ a175 := own_ne S_s.lt g175
    have ne_es_a175 : es ≠ a175 := own_ne S_s.blt g175
    have ne_t_a175 : t ≠ a175 := own_ne S_t.lt g175
    have ne_et_a175 : et ≠ a175 := own_ne S_t.blt g175
    have ne_u_a175 : u ≠ a175 := own_ne S_u.lt g175
    have ne_eu_a175 : eu ≠ a175 := own_ne S_u.blt g175
    replace S_s := S_s.ext E175
    replace S_t := S_t.ext E175
    replace S_u := S_u.ext E175
    have F_a175_chars : Fld Z h175 a175 "com/example/tallyard/tallyard/scenario/formats/TextIndex" "chars" "[C" .null := D175 (Or.inl (w47 hw)) (ty := (.array .char)) (by decide)
    have F_a175_starts : Fld Z h175 a175 "com/example/tallyard/tallyard/scenario/formats/TextIndex" "starts" "[I" .null := D175 (Or.inl (w50 hw)) (ty := (.array .int)) (by decide)
    have F_a175_buckets : Fld Z h175 a175 "com/example/tallyard/tallyard/scenario/formats/TextIndex" "buckets" "[J" .null := D175 (Or.inl (w53 hw)) (ty := (.array .long)) (by decide)
    have F_a175_earlier : Fld Z h175 a175 "com/example/tallyard/tallyard/scenario/formats/TextIndex" "earlier" "[J" .null := D175 (Or.inl (w55 hw)) (ty := (.array .long)) (by decide)
    have F_a175_hashes : Fld Z h175 a175 "com/example/tallyard/tallyard/scenario/formats/TextIndex" "hashes" "[I" .null := D175 (Or.inl (w57 hw)) (ty := (.array .int)) (by decide)
    have F_a175_lastFound : Fld Z h175 a175 "com/example/tallyard/tallyard/scenario/formats/TextIndex" "lastFound" "I" (.int (0 : Int32)) := D175 (Or.inl (w59 hw)) (ty := .int) (by decide)
    have F_a175_base : Fld Z h175 a175 "com/example/tallyard/tallyard/scenario/formats/TextIndex" "base" "J" (.long (0 : Int64)) := D175 (Or.inr (w61 hw)) (ty := .long) (by decide)
    have F_a175_count : Fld Z h175 a175 "com/example/tallyard/tallyard/scenario/formats/TextIndex" "count" "I" (.int (0 : Int32)) := D175 (Or.inl (w128 hw)) (ty := .int) (by decide)
    have F_a175_repeating : Fld Z h175 a175 "com/example/tallyard/tallyard/scenario/formats/TextIndex" "repeating" "Z" (.int (0 : Int32)) := D175 (Or.inl (w150 hw)) (ty := .boolean) (by decide)
    refine k_dup K175 at_59 (pc' := 60) rfl rfl ?_
    refine k_lload K175 at_60 (pc' := 62) rfl rfl ?_
    refine k_special K175 [(.long base)] [(.ref a175)] 1 (w42 hw) (w43 hw) (w41 hw) (w44 hw) rfl rfl (by decide) pd__J_V_655 (c_ixinit l Z a0 hw hEW n0 a175 base _ _ _ _ _ _ 0 h175 K175.old X_a175 F_a175_chars F_a175_starts F_a175_buckets F_a175_earlier F_a175_hashes F_a175_count F_a175_lastFound F_a175_repeating F_a175_base ga_a175) at_62 (fun x hx => by cases List.mem_singleton.mp hx; exact ⟨X_a175.lt, sf_a175⟩) (pc' := 65) rfl rfl rfl rfl (Nat.le_of_eq rfl) (by decide) (by decide) (by decide) (by decide) ?_
    intro b176 T176 h176 L176 v176 K176 tr176 q176
    obtain ⟨ca, sa, ba, ea, ha, kc, ks, kb, ke_, kh, rfl, ⟨z1_, z2_, z3_, z4_, z5_⟩, nd, KQ, I0, ⟨sf_ca, sf_sa, sf_ba, sf_ea, sf_ha⟩⟩ := q176
    have ga_ca : n0 ≤ ca := Nat.le_trans (own_n0 K175.old) z1_
    have ne_s_ca : s ≠ ca := own_ne2 S_s.lt z1_
    have ne_es_ca : es ≠ ca := own_ne2 S_s.blt z1_
    have ne_t_ca : t ≠ ca := own_ne2 S_t.lt z1_
    have ne_et_ca : et ≠ ca := own_ne2 S_t.blt z1_
    have ne_u_ca : u ≠ ca := own_ne2 S_u.lt z1_
    have ne_eu_ca : eu ≠ ca := own_ne2 S_u.blt z1_
    have ga_sa : n0 ≤ sa := Nat.le_trans (own_n0 K175.old) z2_
    have ne_s_sa : s ≠ sa := own_ne2 S_s.lt z2_
    have ne_es_sa : es ≠ sa := own_ne2 S_s.blt z2_
    have ne_t_sa : t ≠ sa := own_ne2 S_t.lt z2_
    have ne_et_sa : et ≠ sa := own_ne2 S_t.blt z2_
    have ne_u_sa : u ≠ sa := own_ne2 S_u.lt z2_
    have ne_eu_sa : eu ≠ sa := own_ne2 S_u.blt z2_
    have ga_ba : n0 ≤ ba := Nat.le_trans (own_n0 K175.old) z3_
    have ne_s_ba : s ≠ ba := own_ne2 S_s.lt z3_
    have ne_es_ba : es ≠ ba := own_ne2 S_s.blt z3_
    have ne_t_ba : t ≠ ba := own_ne2 S_t.lt z3_
    have ne_et_ba : et ≠ ba := own_ne2 S_t.blt z3_
    have ne_u_ba : u ≠ ba := own_ne2 S_u.lt z3_
    have ne_eu_ba : eu ≠ ba := own_ne2 S_u.blt z3_
    have ga_ea : n0 ≤ ea := Nat.le_trans (own_n0 K175.old) z4_
    have ne_s_ea : s ≠ ea := own_ne2 S_s.lt z4_
    have ne_es_ea : es ≠ ea := own_ne2 S_s.blt z4_
    have ne_t_ea : t ≠ ea := own_ne2 S_t.lt z4_
    have ne_et_ea : et ≠ ea := own_ne2 S_t.blt z4_
    have ne_u_ea : u ≠ ea := own_ne2 S_u.lt z4_
    have ne_eu_ea : eu ≠ ea := own_ne2 S_u.blt z4_
    have ga_ha : n0 ≤ ha := Nat.le_trans (own_n0 K175.old) z5_
    have ne_s_ha : s ≠ ha := own_ne2 S_s.lt z5_
    have ne_es_ha : es ≠ ha := own_ne2 S_s.blt z5_
    have ne_t_ha : t ≠ ha := own_ne2 S_t.lt z5_
    have ne_et_ha : et ≠ ha := own_ne2 S_t.blt z5_
    have ne_u_ha : u ≠ ha := own_ne2 S_u.lt z5_
    have ne_eu_ha : eu ≠ ha := own_ne2 S_u.blt z5_
    replace sf_a175 := tr176 a175 X_a175.lt sf_a175
    replace S_s := S_s.keep KQ (ninS ne_s_a175 nin0) (ninS ne_es_a175 nin0)
    replace S_t := S_t.keep KQ (ninS ne_t_a175 nin0) (ninS ne_et_a175 nin0)
    replace S_u := S_u.keep KQ (ninS ne_u_a175 nin0) (ninS ne_eu_a175 nin0)
    have ns_s : ∀ y ∈ [a175, ca, sa, ba, ea, ha], s ≠ y ∧ es ≠ y := by
      intro y hy
      simp only [List.mem_cons, List.not_mem_nil, or_false] at hy
      rcases hy with rfl | rfl | rfl | rfl | rfl | rfl
      · exact ⟨ne_s_a175, ne_es_a175⟩
      · exact ⟨ne_s_ca, ne_es_ca⟩
      · exact ⟨ne_s_sa, ne_es_sa⟩
      · exact ⟨ne_s_ba, ne_es_ba⟩
      · exact ⟨ne_s_ea, ne_es_ea⟩
      · exact ⟨ne_s_ha, ne_es_ha⟩
    have ns_t : ∀ y ∈ [a175, ca, sa, ba, ea, ha], t ≠ y ∧ et ≠ y := by
      intro y hy
      simp only [List.mem_cons, List.not_mem_nil, or_false] at hy
      rcases hy with rfl | rfl | rfl | rfl | rfl | rfl
      · exact ⟨ne_t_a175, ne_et_a175⟩
      · exact ⟨ne_t_ca, ne_et_ca⟩
      · exact ⟨ne_t_sa, ne_et_sa⟩
      · exact ⟨ne_t_ba, ne_et_ba⟩
      · exact ⟨ne_t_ea, ne_et_ea⟩
      · exact ⟨ne_t_ha, ne_et_ha⟩
    have ns_u : ∀ y ∈ [a175, ca, sa, ba, ea, ha], u ≠ y ∧ eu ≠ y := by
      intro y hy
      simp only [List.mem_cons, List.not_mem_nil, or_false] at hy
      rcases hy with rfl | rfl | rfl | rfl | rfl | rfl
      · exact ⟨ne_u_a175, ne_eu_a175⟩
      · exact ⟨ne_u_ca, ne_eu_ca⟩
      · exact ⟨ne_u_sa, ne_eu_sa⟩
      · exact ⟨ne_u_ba, ne_eu_ba⟩
      · exact ⟨ne_u_ea, ne_eu_ea⟩
      · exact ⟨ne_u_ha, ne_eu_ha⟩
    have ga6 : ∀ y ∈ [a175, ca, sa, ba, ea, ha], n0 ≤ y := by
      intro y hy
      simp only [List.mem_cons, List.not_mem_nil, or_false] at hy
      rcases hy with rfl | rfl | rfl | rfl | rfl | rfl
      · exact ga_a175
      · exact ga_ca
      · exact ga_sa
      · exact ga_ba
      · exact ga_ea
      · exact ga_ha
    show Goes p_.tables e_ below_ _ (T176.setTop (mkF m_ 65 #[.val (.long seed), .second, .val (.int xa), .val (.int xb), .val (.int xc), .val (.int xf), .val (.long (2305843009213693951 : Int64)), .second, .val (.long base), .second, .val (.ref s), .val (.ref t), .val (.ref u), .val (.int f13), .val (.int lk), .unset, .unset] [(.ref a175)]))
    have JC : ∀ (n_ lf rp : Int32) (nn : Nat) (CH ST BU EA HA : List Value) (hn_ : n_.toInt = nn) (hnn : nn ≤ 2) (hha : ∀ m, m < nn → ∃ Hm, HA.getD m (.int 0) = .int Hm) (hz : ∀ j, j < 64 → BU.getD j (.long 0) = .long 0 ∨ ∃ m, m < nn ∧ ∃ Hm, HA.getD m (.int 0) = .int Hm ∧ j = i63 Hm) (hst0 : ST.getD 0 (.int 0) = .int 0) (bl Tl : State) (hl : Heap) (Ll : List Loc), Wk p_ l e_ room_1 s_ m_ #[(.long seed), (.int xa), (.int xb), (.int xc), (.int xf)] below_ meth_ c_ Z a0 EL0 n0 x code maxLocals ret bl Tl hl Ll 24 471 → (Ixd Z hl a175 ca sa ba ea ha kc ks kb ke_ kh n_ lf rp base CH ST BU EA HA) → (Str Z hl s es kds 0 ns (lat (drC xa))) → (Str Z hl t et kdt 0 nt (lat (drC xb))) → (Str Z hl u eu kdu 0 nu (lat (drC xc))) → (Sfe Z EL0 bl.vm hl a175) → (Sfe Z EL0 bl.vm hl ca) → (Sfe Z EL0 bl.vm hl sa) → (Sfe Z EL0 bl.vm hl ba) → (Sfe Z EL0 bl.vm hl ea) → (Sfe Z EL0 bl.vm hl ha) → Goes p_.tables e_ below_ (FinW Z EL0 s_ n0 room_1 (fun v _ _ => v = some (.int 1) ∧ True)) (Tl.setTop (mkF m_ 176 #[.val (.long seed), .second, .val (.int xa), .val (.int xb), .val (.int xc), .val (.int xf), .val (.long (2305843009213693951 : Int64)), .second, .val (.long base), .second, .val (.ref s), .val (.ref t), .val (.ref u), .val (.int f13), .val (.int lk), .val (.ref a175), .val (.int (1 : Int32))] [])) := by
      intro n_ lf rp nn CH ST BU EA HA hn_ hnn hha hz hst0 bl Tl hl Ll Kl IJ S_s S_t S_u sf_a175 sf_ca sf_sa sf_ba sf_ea sf_ha
      have IJc := IJ
      obtain ⟨Y0, -, -, -, -, -, -, -, -, -, Y1, Y2, Y3, Y4, Y5, -⟩ := IJc
      have lt_a175 := Y0.lt
      have lt_ca := Y1.lt
      have lt_sa := Y2.lt
      have lt_ba := Y3.lt
      have lt_ea := Y4.lt
      have lt_ha := Y5.lt
      refine k_aload Kl at_176 (pc' := 178) rfl rfl rfl ?_
      refine k_virtual Kl [] [] 0 (w155 hw) (w156 hw) (w157 hw) (w158 hw) (w41 hw) (w159 hw) (notFace_of_selects (args := #[]) (mvT Kl.hZ (w158 hw))) rfl (by decide) IJ.1 (by decide) pd___V_380 (c_clear l Z a0 hw hEW n0 a175 ca sa ba ea ha kc ks kb ke_ kh n_ lf rp base CH ST BU EA HA nn hl Kl.old IJ nd ga6 hn_ hnn hha hz) at_178 (fun x hx => by
        simp only [List.mem_cons, List.not_mem_nil, or_false] at hx
        rcases hx with rfl | rfl | rfl | rfl | rfl | rfl
        · exact ⟨lt_a175, sf_a175⟩
        · exact ⟨lt_ca, sf_ca⟩
        · exact ⟨lt_sa, sf_sa⟩
        · exact ⟨lt_ba, sf_ba⟩
        · exact ⟨lt_ea, sf_ea⟩
        · exact ⟨lt_ha, sf_ha⟩) (pc' := 181) rfl rfl rfl rfl (Nat.le_of_eq rfl) (by decide) (by decide) (by decide) (by decide) ?_
      intro b177 T177 h177 L177 v177 K177 tr177 q177
      obtain ⟨rfl, KC, BU', I2, hz2⟩ := q177
      replace sf_a175 := tr177 a175 lt_a175 sf_a175
      replace sf_ca := tr177 ca lt_ca sf_ca
      replace sf_sa := tr177 sa lt_sa sf_sa
      replace sf_ba := tr177 ba lt_ba sf_ba
      replace sf_ea := tr177 ea lt_ea sf_ea
      replace sf_ha := tr177 ha lt_ha sf_ha
      replace S_s := S_s.keep KC (ninS ne_s_a175 (ninS ne_s_ca (ninS ne_s_sa (ninS ne_s_ba (ninS ne_s_ea (ninS ne_s_ha nin0)))))) (ninS ne_es_a175 (ninS ne_es_ca (ninS ne_es_sa (ninS ne_es_ba (ninS ne_es_ea (ninS ne_es_ha nin0))))))
      replace S_t := S_t.keep KC (ninS ne_t_a175 (ninS ne_t_ca (ninS ne_t_sa (ninS ne_t_ba (ninS ne_t_ea (ninS ne_t_ha nin0)))))) (ninS ne_et_a175 (ninS ne_et_ca (ninS ne_et_sa (ninS ne_et_ba (ninS ne_et_ea (ninS ne_et_ha nin0))))))
      replace S_u := S_u.keep KC (ninS ne_u_a175 (ninS ne_u_ca (ninS ne_u_sa (ninS ne_u_ba (ninS ne_u_ea (ninS ne_u_ha nin0)))))) (ninS ne_eu_a175 (ninS ne_eu_ca (ninS ne_eu_sa (ninS ne_eu_ba (ninS ne_eu_ea (ninS ne_eu_ha nin0))))))
      have I2c := I2
      obtain ⟨Y0, -, -, -, -, -, -, -, -, -, Y1, Y2, Y3, Y4, Y5, -⟩ := I2c
      have lt_a175 := Y0.lt
      have lt_ca := Y1.lt
      have lt_sa := Y2.lt
      have lt_ba := Y3.lt
      have lt_ea := Y4.lt
      have lt_ha := Y5.lt
      show Goes p_.tables e_ below_ _ (T177.setTop (mkF m_ 181 #[.val (.long seed), .second, .val (.int xa), .val (.int xb), .val (.int xc), .val (.int xf), .val (.long (2305843009213693951 : Int64)), .second, .val (.long base), .second, .val (.ref s), .val (.ref t), .val (.ref u), .val (.int f13), .val (.int lk), .val (.ref a175), .val (.int (1 : Int32))] []))
      refine k_iload K177 at_181 (pc' := 183) rfl rfl ?_
      refine k_aload K177 at_183 (pc' := 185) rfl rfl rfl ?_
      refine k_virtualP K177 [] [(.int (1 : Int32))] 1 (w160 hw) (w161 hw) (w162 hw) (w163 hw) (w41 hw) (w164 hw) (notFace_of_selects (args := #[]) (mvT K177.hZ (w163 hw))) rfl (by decide) I2.1 (by decide) pd___I_341 (c_size l Z a0 hw hEW n0 a175 0 h177 K177.old I2.2.2.2.2.2.2.1) at_185 nofun (pc' := 188) rfl rfl rfl rfl (Nat.le_of_eq rfl) (by decide) (by decide) (by decide) (by decide) ?_
      intro b178 T178 L178 K178 tr178
      show Goes p_.tables e_ below_ _ (T178.setTop (mkF m_ 188 #[.val (.long seed), .second, .val (.int xa), .val (.int xb), .val (.int xc), .val (.int xf), .val (.long (2305843009213693951 : Int64)), .second, .val (.long base), .second, .val (.ref s), .val (.ref t), .val (.ref u), .val (.int f13), .val (.int lk), .val (.ref a175), .val (.int (1 : Int32))] [(.int (0 : Int32)), (.int (1 : Int32))]))
      replace sf_a175 := tr178 a175 lt_a175 sf_a175
      replace sf_ca := tr178 ca lt_ca sf_ca
      replace sf_sa := tr178 sa lt_sa sf_sa
      replace sf_ba := tr178 ba lt_ba sf_ba
      replace sf_ea := tr178 ea lt_ea sf_ea
      replace sf_ha := tr178 ha lt_ha sf_ha
      refine k_if_ne K178 at_188 (by decide) (pc' := 195) (pc2 := 191) (by decide) rfl (fun q => absurd (by decide) q) (fun hc188 => ?_)
      refine k_iconst K178 (1 : Int32) at_191 (pc' := 192) rfl rfl ?_
      refine k_goto K178 at_192 (by decide) (pc' := 196) (by decide) ?_
      refine k_iand K178 at_196 (pc' := 197) rfl ?_
      rw [show ((1 : Int32) &&& (1 : Int32)) = (1 : Int32) by decide]
      refine k_istore K178 at_197 (pc' := 199) (L' := #[.val (.long seed), .second, .val (.int xa), .val (.int xb), .val (.int xc), .val (.int xf), .val (.long (2305843009213693951 : Int64)), .second, .val (.long base), .second, .val (.ref s), .val (.ref t), .val (.ref u), .val (.int f13), .val (.int lk), .val (.ref a175), .val (.int (1 : Int32))]) rfl rfl ?_
      refine k_iload K178 at_199 (pc' := 201) rfl rfl ?_
      refine k_aload K178 at_201 (pc' := 203) rfl rfl rfl ?_
      refine k_aload K178 at_203 (pc' := 205) rfl rfl rfl ?_
      refine k_virtual K178 [(.ref s)] [(.int (1 : Int32))] 1 (w144 hw) (w145 hw) (w146 hw) (w147 hw) (w41 hw) (w148 hw) (notFace_of_selects (args := #[]) (mvT K178.hZ (w147 hw))) rfl (by decide) I2.1 (by decide) pd__Ljava_lang_CharSequence__I_4090 (c_numM l Z a0 hw hEW n0 a175 ca sa ba ea ha kc ks kb ke_ kh 0 (-1) base CH ST BU' EA HA s es kds ns (drC xa) ff cs0 0 [] h177 K178.old SF hff I2 nd ga6 S_s hn_s hb_s hc_s (hz2 _ (i63_lt _)) rfl rfl SC hcs) at_205 (fun x hx => by
        simp only [List.mem_cons, List.not_mem_nil, or_false] at hx
        rcases hx with rfl | rfl | rfl | rfl | rfl | rfl
        · exact ⟨lt_a175, sf_a175⟩
        · exact ⟨lt_ca, sf_ca⟩
        · exact ⟨lt_sa, sf_sa⟩
        · exact ⟨lt_ba, sf_ba⟩
        · exact ⟨lt_ea, sf_ea⟩
        · exact ⟨lt_ha, sf_ha⟩) (pc' := 208) rfl rfl rfl rfl (Nat.le_of_eq rfl) (by decide) (by decide) (by decide) (by decide) ?_
      intro b179 T179 h179 L179 v179 K179 tr179 q179
      obtain ⟨rfl, KN0, I3⟩ := q179
      replace sf_a175 := tr179 a175 lt_a175 sf_a175
      replace sf_ca := tr179 ca lt_ca sf_ca
      replace sf_sa := tr179 sa lt_sa sf_sa
      replace sf_ba := tr179 ba lt_ba sf_ba
      replace sf_ea := tr179 ea lt_ea sf_ea
      replace sf_ha := tr179 ha lt_ha sf_ha
      replace S_s := S_s.keep KN0 (ninS ne_s_a175 (ninS ne_s_ca (ninS ne_s_sa (ninS ne_s_ba (ninS ne_s_ea (ninS ne_s_ha nin0)))))) (ninS ne_es_a175 (ninS ne_es_ca (ninS ne_es_sa (ninS ne_es_ba (ninS ne_es_ea (ninS ne_es_ha nin0))))))
      replace S_t := S_t.keep KN0 (ninS ne_t_a175 (ninS ne_t_ca (ninS ne_t_sa (ninS ne_t_ba (ninS ne_t_ea (ninS ne_t_ha nin0)))))) (ninS ne_et_a175 (ninS ne_et_ca (ninS ne_et_sa (ninS ne_et_ba (ninS ne_et_ea (ninS ne_et_ha nin0))))))
      replace S_u := S_u.keep KN0 (ninS ne_u_a175 (ninS ne_u_ca (ninS ne_u_sa (ninS ne_u_ba (ninS ne_u_ea (ninS ne_u_ha nin0)))))) (ninS ne_eu_a175 (ninS ne_eu_ca (ninS ne_eu_sa (ninS ne_eu_ba (ninS ne_eu_ea (ninS ne_eu_ha nin0))))))
      have I3c := I3
      obtain ⟨Y0, -, -, -, -, -, -, -, -, -, Y1, Y2, Y3, Y4, Y5, -⟩ := I3c
      have lt_a175 := Y0.lt
      have lt_ca := Y1.lt
      have lt_sa := Y2.lt
      have lt_ba := Y3.lt
      have lt_ea := Y4.lt
      have lt_ha := Y5.lt
      show Goes p_.tables e_ below_ _ (T179.setTop (mkF m_ 208 #[.val (.long seed), .second, .val (.int xa), .val (.int xb), .val (.int xc), .val (.int xf), .val (.long (2305843009213693951 : Int64)), .second, .val (.long base), .second, .val (.ref s), .val (.ref t), .val (.ref u), .val (.int f13), .val (.int lk), .val (.ref a175), .val (.int (1 : Int32))] [(.int (-1 : Int32)), (.int (1 : Int32))]))
      refine k_iconst K179 (-1 : Int32) at_208 (pc' := 209) rfl rfl ?_
      refine k_icmp_ne K179 at_209 (by decide) (pc' := 216) (pc2 := 212) (by decide) rfl (fun q => absurd (by decide) q) (fun hc209 => ?_)
      refine k_iconst K179 (1 : Int32) at_212 (pc' := 213) rfl rfl ?_
      refine k_goto K179 at_213 (by decide) (pc' := 217) (by decide) ?_
      refine k_iand K179 at_217 (pc' := 218) rfl ?_
      rw [show ((1 : Int32) &&& (1 : Int32)) = (1 : Int32) by decide]
      refine k_istore K179 at_218 (pc' := 220) (L' := #[.val (.long seed), .second, .val (.int xa), .val (.int xb), .val (.int xc), .val (.int xf), .val (.long (2305843009213693951 : Int64)), .second, .val (.long base), .second, .val (.ref s), .val (.ref t), .val (.ref u), .val (.int f13), .val (.int lk), .val (.ref a175), .val (.int (1 : Int32))]) rfl rfl ?_
      refine k_iload K179 at_220 (pc' := 222) rfl rfl ?_
      refine k_aload K179 at_222 (pc' := 224) rfl rfl rfl ?_
      refine k_aload K179 at_224 (pc' := 226) rfl rfl rfl ?_
      refine k_virtual K179 [(.ref t)] [(.int (1 : Int32))] 1 (w144 hw) (w145 hw) (w146 hw) (w147 hw) (w41 hw) (w148 hw) (notFace_of_selects (args := #[]) (mvT K179.hZ (w147 hw))) rfl (by decide) I3.1 (by decide) pd__Ljava_lang_CharSequence__I_4090 (c_numM l Z a0 hw hEW n0 a175 ca sa ba ea ha kc ks kb ke_ kh 0 (-1) base CH ST BU' EA HA t et kdt nt (drC xb) ff cs0 0 [] h179 K179.old SF hff I3 nd ga6 S_t hn_t hb_t hc_t (hz2 _ (i63_lt _)) rfl rfl SC hcs) at_226 (fun x hx => by
        simp only [List.mem_cons, List.not_mem_nil, or_false] at hx
        rcases hx with rfl | rfl | rfl | rfl | rfl | rfl
        · exact ⟨lt_a175, sf_a175⟩
        · exact ⟨lt_ca, sf_ca⟩
        · exact ⟨lt_sa, sf_sa⟩
        · exact ⟨lt_ba, sf_ba⟩
        · exact ⟨lt_ea, sf_ea⟩
        · exact ⟨lt_ha, sf_ha⟩) (pc' := 229) rfl rfl rfl rfl (Nat.le_of_eq rfl) (by decide) (by decide) (by decide) (by decide) ?_
      intro b180 T180 h180 L180 v180 K180 tr180 q180
      obtain ⟨rfl, KN1, I4⟩ := q180
      replace sf_a175 := tr180 a175 lt_a175 sf_a175
      replace sf_ca := tr180 ca lt_ca sf_ca
      replace sf_sa := tr180 sa lt_sa sf_sa
      replace sf_ba := tr180 ba lt_ba sf_ba
      replace sf_ea := tr180 ea lt_ea sf_ea
      replace sf_ha := tr180 ha lt_ha sf_ha
      replace S_s := S_s.keep KN1 (ninS ne_s_a175 (ninS ne_s_ca (ninS ne_s_sa (ninS ne_s_ba (ninS ne_s_ea (ninS ne_s_ha nin0)))))) (ninS ne_es_a175 (ninS ne_es_ca (ninS ne_es_sa (ninS ne_es_ba (ninS ne_es_ea (ninS ne_es_ha nin0))))))
      replace S_t := S_t.keep KN1 (ninS ne_t_a175 (ninS ne_t_ca (ninS ne_t_sa (ninS ne_t_ba (ninS ne_t_ea (ninS ne_t_ha nin0)))))) (ninS ne_et_a175 (ninS ne_et_ca (ninS ne_et_sa (ninS ne_et_ba (ninS ne_et_ea (ninS ne_et_ha nin0))))))
      replace S_u := S_u.keep KN1 (ninS ne_u_a175 (ninS ne_u_ca (ninS ne_u_sa (ninS ne_u_ba (ninS ne_u_ea (ninS ne_u_ha nin0)))))) (ninS ne_eu_a175 (ninS ne_eu_ca (ninS ne_eu_sa (ninS ne_eu_ba (ninS ne_eu_ea (ninS ne_eu_ha nin0))))))
      have I4c := I4
      obtain ⟨Y0, -, -, -, -, -, -, -, -, -, Y1, Y2, Y3, Y4, Y5, -⟩ := I4c
      have lt_a175 := Y0.lt
      have lt_ca := Y1.lt
      have lt_sa := Y2.lt
      have lt_ba := Y3.lt
      have lt_ea := Y4.lt
      have lt_ha := Y5.lt
      show Goes p_.tables e_ below_ _ (T180.setTop (mkF m_ 229 #[.val (.long seed), .second, .val (.int xa), .val (.int xb), .val (.int xc), .val (.int xf), .val (.long (2305843009213693951 : Int64)), .second, .val (.long base), .second, .val (.ref s), .val (.ref t), .val (.ref u), .val (.int f13), .val (.int lk), .val (.ref a175), .val (.int (1 : Int32))] [(.int (-1 : Int32)), (.int (1 : Int32))]))
      refine k_iconst K180 (-1 : Int32) at_229 (pc' := 230) rfl rfl ?_
      refine k_icmp_ne K180 at_230 (by decide) (pc' := 237) (pc2 := 233) (by decide) rfl (fun q => absurd (by decide) q) (fun hc230 => ?_)
      refine k_iconst K180 (1 : Int32) at_233 (pc' := 234) rfl rfl ?_
      refine k_goto K180 at_234 (by decide) (pc' := 238) (by decide) ?_
      refine k_iand K180 at_238 (pc' := 239) rfl ?_
      rw [show ((1 : Int32) &&& (1 : Int32)) = (1 : Int32) by decide]
      refine k_istore K180 at_239 (pc' := 241) (L' := #[.val (.long seed), .second, .val (.int xa), .val (.int xb), .val (.int xc), .val (.int xf), .val (.long (2305843009213693951 : Int64)), .second, .val (.long base), .second, .val (.ref s), .val (.ref t), .val (.ref u), .val (.int f13), .val (.int lk), .val (.ref a175), .val (.int (1 : Int32))]) rfl rfl ?_
      refine k_iload K180 at_241 (pc' := 243) rfl rfl ?_
      refine k_aload K180 at_243 (pc' := 245) rfl rfl rfl ?_
      refine k_aload K180 at_245 (pc' := 247) rfl rfl rfl ?_
      refine k_virtual K180 [(.ref u)] [(.int (1 : Int32))] 1 (w62 hw) (w63 hw) (w64 hw) (w65 hw) (w41 hw) (w66 hw) (notFace_of_selects (args := #[]) (mvT K180.hZ (w65 hw))) rfl (by decide) I4.1 (by decide) pd__Ljava_lang_CharSequence__I_4090 (c_addN l Z a0 hw hEW n0 a175 ca sa ba ea ha kc ks kb ke_ kh (-1) 0 base CH ST BU' EA HA u eu kdu nu (drC xc) ff cs0 0 0 0 0 [] h180 K180.old SF hff I4 nd ga6 S_u hn_u hb_u hc_u (by decide) hst0 rfl (by decide) ns_u (hz2 _ (i63_lt _)) rfl rfl SC hcs) at_247 (fun x hx => by
        simp only [List.mem_cons, List.not_mem_nil, or_false] at hx
        rcases hx with rfl | rfl | rfl | rfl | rfl | rfl
        · exact ⟨lt_a175, sf_a175⟩
        · exact ⟨lt_ca, sf_ca⟩
        · exact ⟨lt_sa, sf_sa⟩
        · exact ⟨lt_ba, sf_ba⟩
        · exact ⟨lt_ea, sf_ea⟩
        · exact ⟨lt_ha, sf_ha⟩) (pc' := 250) rfl rfl rfl rfl (Nat.le_of_eq rfl) (by decide) (by decide) (by decide) (by decide) ?_
      intro b181 T181 h181 L181 v181 K181 tr181 q181
      obtain ⟨rfl, -, -⟩ := q181
      show Goes p_.tables e_ below_ _ (T181.setTop (mkF m_ 250 #[.val (.long seed), .second, .val (.int xa), .val (.int xb), .val (.int xc), .val (.int xf), .val (.long (2305843009213693951 : Int64)), .second, .val (.long base), .second, .val (.ref s), .val (.ref t), .val (.ref u), .val (.int f13), .val (.int lk), .val (.ref a175), .val (.int (1 : Int32))] [(.int (0 : Int32)), (.int (1 : Int32))]))
      refine k_if_ne K181 at_250 (by decide) (pc' := 257) (pc2 := 253) (by decide) rfl (fun q => absurd (by decide) q) (fun hc250 => ?_)
      refine k_iconst K181 (1 : Int32) at_253 (pc' := 254) rfl rfl ?_
      refine k_goto K181 at_254 (by decide) (pc' := 258) (by decide) ?_
      refine k_iand K181 at_258 (pc' := 259) rfl ?_
      rw [show ((1 : Int32) &&& (1 : Int32)) = (1 : Int32) by decide]
      refine k_istore K181 at_259 (pc' := 261) (L' := #[.val (.long seed), .second, .val (.int xa), .val (.int xb), .val (.int xc), .val (.int xf), .val (.long (2305843009213693951 : Int64)), .second, .val (.long base), .second, .val (.ref s), .val (.ref t), .val (.ref u), .val (.int f13), .val (.int lk), .val (.ref a175), .val (.int (1 : Int32))]) rfl rfl ?_
      refine k_iload K181 at_261 (pc' := 263) rfl rfl ?_
      exact k_nret K181 at_263 rfl (by simp) rfl (fun sf ht => ⟨rfl, trivial⟩) (by decide) (by decide)
    have I0c := I0
    obtain ⟨Y0, -, -, -, -, -, -, -, -, -, Y1, Y2, Y3, Y4, Y5, -⟩ := I0c
    have lt_a175 := Y0.lt
    have lt_ca := Y1.lt
    have lt_sa := Y2.lt
    have lt_ba := Y3.lt
    have lt_ea := Y4.lt
    have lt_ha := Y5.lt
    refine k_astore K176 at_65 (pc' := 67) (L' := #[.val (.long seed), .second, .val (.int xa), .val (.int xb), .val (.int xc), .val (.int xf), .val (.long (2305843009213693951 : Int64)), .second, .val (.long base), .second, .val (.ref s), .val (.ref t), .val (.ref u), .val (.int f13), .val (.int lk), .val (.ref a175), .unset]) rfl rfl rfl ?_
    refine k_aload K176 at_67 (pc' := 69) rfl rfl rfl ?_
    refine k_aload K176 at_69 (pc' := 71) rfl rfl rfl ?_
    refine k_virtual K176 [(.ref s)] [] 0 (w62 hw) (w63 hw) (w64 hw) (w65 hw) (w41 hw) (w66 hw) (notFace_of_selects (args := #[]) (mvT K176.hZ (w65 hw))) rfl (by decide) I0.1 (by decide) pd__Ljava_lang_CharSequence__I_4090 (c_addN l Z a0 hw hEW n0 a175 ca sa ba ea ha kc ks kb ke_ kh (-1) 0 base (List.replicate 256 (.int 0)) (List.replicate 33 (.int 0)) (List.replicate 64 (.long 0)) (List.replicate 32 (.long 0)) (List.replicate 32 (.int 0)) s es kds ns (drC xa) ff cs0 0 0 0 0 [] h176 K176.old SF hff I0 nd ga6 S_s hn_s hb_s hc_s (by decide) (own_rep _ _ _) rfl (by decide) ns_s (own_rep _ _ _) rfl rfl SC hcs) at_71 (fun x hx => by
      simp only [List.mem_cons, List.not_mem_nil, or_false] at hx
      rcases hx with rfl | rfl | rfl | rfl | rfl | rfl
      · exact ⟨lt_a175, sf_a175⟩
      · exact ⟨lt_ca, sf_ca⟩
      · exact ⟨lt_sa, sf_sa⟩
      · exact ⟨lt_ba, sf_ba⟩
      · exact ⟨lt_ea, sf_ea⟩
      · exact ⟨lt_ha, sf_ha⟩) (pc' := 74) rfl rfl rfl rfl (Nat.le_of_eq rfl) (by decide) (by decide) (by decide) (by decide) ?_
    intro b182 T182 h182 L182 v182 K182 tr182 q182
    obtain ⟨rfl, KA, I1⟩ := q182
    replace sf_a175 := tr182 a175 lt_a175 sf_a175
    replace sf_ca := tr182 ca lt_ca sf_ca
    replace sf_sa := tr182 sa lt_sa sf_sa
    replace sf_ba := tr182 ba lt_ba sf_ba
    replace sf_ea := tr182 ea lt_ea sf_ea
    replace sf_ha := tr182 ha lt_ha sf_ha
    replace S_s := S_s.keep KA (ninS ne_s_a175 (ninS ne_s_ca (ninS ne_s_sa (ninS ne_s_ba (ninS ne_s_ea (ninS ne_s_ha nin0)))))) (ninS ne_es_a175 (ninS ne_es_ca (ninS ne_es_sa (ninS ne_es_ba (ninS ne_es_ea (ninS ne_es_ha nin0))))))
    replace S_t := S_t.keep KA (ninS ne_t_a175 (ninS ne_t_ca (ninS ne_t_sa (ninS ne_t_ba (ninS ne_t_ea (ninS ne_t_ha nin0)))))) (ninS ne_et_a175 (ninS ne_et_ca (ninS ne_et_sa (ninS ne_et_ba (ninS ne_et_ea (ninS ne_et_ha nin0))))))
    replace S_u := S_u.keep KA (ninS ne_u_a175 (ninS ne_u_ca (ninS ne_u_sa (ninS ne_u_ba (ninS ne_u_ea (ninS ne_u_ha nin0)))))) (ninS ne_eu_a175 (ninS ne_eu_ca (ninS ne_eu_sa (ninS ne_eu_ba (ninS ne_eu_ea (ninS ne_eu_ha nin0))))))
    replace I1 : Ixd Z h182 a175 ca sa ba ea ha kc ks kb ke_ kh 1 (-1) 0 base (C1 (drC xa)) (S1 ns) (B1 (hashC base (drC xa))) E1 (H1 (hashC base (drC xa))) := I1
    have I1c := I1
    obtain ⟨Y0, -, -, -, -, -, -, -, -, -, Y1, Y2, Y3, Y4, Y5, -⟩ := I1c
    have lt_a175 := Y0.lt
    have lt_ca := Y1.lt
    have lt_sa := Y2.lt
    have lt_ba := Y3.lt
    have lt_ea := Y4.lt
    have lt_ha := Y5.lt
    show Goes p_.tables e_ below_ _ (T182.setTop (mkF m_ 74 #[.val (.long seed), .second, .val (.int xa), .val (.int xb), .val (.int xc), .val (.int xf), .val (.long (2305843009213693951 : Int64)), .second, .val (.long base), .second, .val (.ref s), .val (.ref t), .val (.ref u), .val (.int f13), .val (.int lk), .val (.ref a175), .unset] [(.int (0 : Int32))]))
    refine k_if_ne K182 at_74 (by decide) (pc' := 81) (pc2 := 77) (by decide) rfl (fun q => absurd (by decide) q) (fun hc74 => ?_)
    refine k_iconst K182 (1 : Int32) at_77 (pc' := 78) rfl rfl ?_
    refine k_goto K182 at_78 (by decide) (pc' := 82) (by decide) ?_
    refine k_istore K182 at_82 (pc' := 84) (L' := #[.val (.long seed), .second, .val (.int xa), .val (.int xb), .val (.int xc), .val (.int xf), .val (.long (2305843009213693951 : Int64)), .second, .val (.long base), .second, .val (.ref s), .val (.ref t), .val (.ref u), .val (.int f13), .val (.int lk), .val (.ref a175), .val (.int (1 : Int32))]) rfl rfl ?_
    refine k_iload K182 at_84 (pc' := 86) rfl rfl ?_
    refine k_if_eq K182 at_86 (by decide) (pc' := 124) (pc2 := 89) (by decide) rfl (fun hc86 => ?_) (fun hc86 => ?_)
    · refine k_iload K182 at_124 (pc' := 126) rfl rfl ?_
      refine k_iconst K182 (1 : Int32) at_126 (pc' := 127) rfl rfl ?_
      refine k_icmp_lt K182 at_127 (by decide) (pc' := 150) (pc2 := 130) (by decide) rfl (fun hc127 => ?_) (fun hc127 => ?_)
      · refine k_iload K182 at_150 (pc' := 152) rfl rfl ?_
        refine k_iconst K182 (2 : Int32) at_152 (pc' := 153) rfl rfl ?_
        refine k_icmp_lt K182 at_153 (by decide) (pc' := 176) (pc2 := 156) (by decide) rfl (fun hc153 => ?_) (fun q => absurd (by rw [own_i32] at hc127 ⊢; have e1 : (1 : Int32).toInt = 1 := rfl; have e2 : (2 : Int32).toInt = 2 := rfl; omega) q)
        exact JC 1 (-1) 0 1 (C1 (drC xa)) (S1 ns) (B1 (hashC base (drC xa))) E1 (H1 (hashC base (drC xa))) rfl (by decide) (a1 _) (z1 _) (s1_0 _) _ _ _ _ K182 I1 S_s S_t S_u sf_a175 sf_ca sf_sa sf_ba sf_ea sf_ha
      · refine k_iload K182 at_130 (pc' := 132) rfl rfl ?_
        refine k_aload K182 at_132 (pc' := 134) rfl rfl rfl ?_
        refine k_aload K182 at_134 (pc' := 136) rfl rfl rfl ?_
        refine k_virtual K182 [(.ref s)] [(.int (1 : Int32))] 1 (w144 hw) (w145 hw) (w146 hw) (w147 hw) (w41 hw) (w148 hw) (notFace_of_selects (args := #[]) (mvT K182.hZ (w147 hw))) rfl (by decide) I1.1 (by decide) pd__Ljava_lang_CharSequence__I_4090 (c_num1 l Z a0 hw hEW n0 a175 ca sa ba ea ha kc ks kb ke_ kh 1 base (C1 (drC xa)) (S1 ns) (B1 (hashC base (drC xa))) E1 (H1 (hashC base (drC xa))) s es kds ns (drC xa) ff cs0 (e1 (hashC base (drC xa)) (hashC base (drC xa))) (L1_ (hashC base (drC xa)) (drC xa) (hashC base (drC xa))) h182 K182.old SF hff I1 nd ga6 S_s hn_s hb_s hc_s (b1_at _ _) (c1 _ hn_s hb_s _) ((f1 base _ _).trans (if_pos rfl)) SC hcs) at_136 (fun x hx => by
          simp only [List.mem_cons, List.not_mem_nil, or_false] at hx
          rcases hx with rfl | rfl | rfl | rfl | rfl | rfl
          · exact ⟨lt_a175, sf_a175⟩
          · exact ⟨lt_ca, sf_ca⟩
          · exact ⟨lt_sa, sf_sa⟩
          · exact ⟨lt_ba, sf_ba⟩
          · exact ⟨lt_ea, sf_ea⟩
          · exact ⟨lt_ha, sf_ha⟩) (pc' := 139) rfl rfl rfl rfl (Nat.le_of_eq rfl) (by decide) (by decide) (by decide) (by decide) ?_
        intro b183 T183 h183 L183 v183 K183 tr183 q183
        obtain ⟨rfl, KM1, IM1⟩ := q183
        replace sf_a175 := tr183 a175 lt_a175 sf_a175
        replace sf_ca := tr183 ca lt_ca sf_ca
        replace sf_sa := tr183 sa lt_sa sf_sa
        replace sf_ba := tr183 ba lt_ba sf_ba
        replace sf_ea := tr183 ea lt_ea sf_ea
        replace sf_ha := tr183 ha lt_ha sf_ha
        replace S_s := S_s.keep KM1 (ninS ne_s_a175 (ninS ne_s_ca (ninS ne_s_sa (ninS ne_s_ba (ninS ne_s_ea (ninS ne_s_ha nin0)))))) (ninS ne_es_a175 (ninS ne_es_ca (ninS ne_es_sa (ninS ne_es_ba (ninS ne_es_ea (ninS ne_es_ha nin0))))))
        replace S_t := S_t.keep KM1 (ninS ne_t_a175 (ninS ne_t_ca (ninS ne_t_sa (ninS ne_t_ba (ninS ne_t_ea (ninS ne_t_ha nin0)))))) (ninS ne_et_a175 (ninS ne_et_ca (ninS ne_et_sa (ninS ne_et_ba (ninS ne_et_ea (ninS ne_et_ha nin0))))))
        replace S_u := S_u.keep KM1 (ninS ne_u_a175 (ninS ne_u_ca (ninS ne_u_sa (ninS ne_u_ba (ninS ne_u_ea (ninS ne_u_ha nin0)))))) (ninS ne_eu_a175 (ninS ne_eu_ca (ninS ne_eu_sa (ninS ne_eu_ba (ninS ne_eu_ea (ninS ne_eu_ha nin0))))))
        have IM1c := IM1
        obtain ⟨Y0, -, -, -, -, -, -, -, -, -, Y1, Y2, Y3, Y4, Y5, -⟩ := IM1c
        have lt_a175 := Y0.lt
        have lt_ca := Y1.lt
        have lt_sa := Y2.lt
        have lt_ba := Y3.lt
        have lt_ea := Y4.lt
        have lt_ha := Y5.lt
        show Goes p_.tables e_ below_ _ (T183.setTop (mkF m_ 139 #[.val (.long seed), .second, .val (.int xa), .val (.int xb), .val (.int xc), .val (.int xf), .val (.long (2305843009213693951 : Int64)), .second, .val (.long base), .second, .val (.ref s), .val (.ref t), .val (.ref u), .val (.int f13), .val (.int lk), .val (.ref a175), .val (.int (1 : Int32))] [(.int (0 : Int32)), (.int (1 : Int32))]))
        refine k_if_ne K183 at_139 (by decide) (pc' := 146) (pc2 := 142) (by decide) rfl (fun q => absurd (by decide) q) (fun hc139 => ?_)
        refine k_iconst K183 (1 : Int32) at_142 (pc' := 143) rfl rfl ?_
        refine k_goto K183 at_143 (by decide) (pc' := 147) (by decide) ?_
        refine k_iand K183 at_147 (pc' := 148) rfl ?_
        rw [show ((1 : Int32) &&& (1 : Int32)) = (1 : Int32) by decide]
        refine k_istore K183 at_148 (pc' := 150) (L' := #[.val (.long seed), .second, .val (.int xa), .val (.int xb), .val (.int xc), .val (.int xf), .val (.long (2305843009213693951 : Int64)), .second, .val (.long base), .second, .val (.ref s), .val (.ref t), .val (.ref u), .val (.int f13), .val (.int lk), .val (.ref a175), .val (.int (1 : Int32))]) rfl rfl ?_
        refine k_iload K183 at_150 (pc' := 152) rfl rfl ?_
        refine k_iconst K183 (2 : Int32) at_152 (pc' := 153) rfl rfl ?_
        refine k_icmp_lt K183 at_153 (by decide) (pc' := 176) (pc2 := 156) (by decide) rfl (fun hc153 => ?_) (fun hc153 => ?_)
        · skip
          exact JC 1 0 0 1 (C1 (drC xa)) (S1 ns) (B1 (hashC base (drC xa))) E1 (H1 (hashC base (drC xa))) rfl (by decide) (a1 _) (z1 _) (s1_0 _) _ _ _ _ K183 IM1 S_s S_t S_u sf_a175 sf_ca sf_sa sf_ba sf_ea sf_ha
        · refine k_iload K183 at_156 (pc' := 158) rfl rfl ?_
          refine k_aload K183 at_158 (pc' := 160) rfl rfl rfl ?_
          refine k_aload K183 at_160 (pc' := 162) rfl rfl rfl ?_
          refine k_virtual K183 [(.ref s)] [(.int (1 : Int32))] 1 (w144 hw) (w145 hw) (w146 hw) (w147 hw) (w41 hw) (w148 hw) (notFace_of_selects (args := #[]) (mvT K183.hZ (w147 hw))) rfl (by decide) IM1.1 (by decide) pd__Ljava_lang_CharSequence__I_4090 (c_num2 l Z a0 hw hEW n0 a175 ca sa ba ea ha kc ks kb ke_ kh 1 base (C1 (drC xa)) (S1 ns) (B1 (hashC base (drC xa))) E1 (H1 (hashC base (drC xa))) s es kds ns (drC xa) ff cs0 (e1 (hashC base (drC xa)) (hashC base (drC xa))) (L1_ (hashC base (drC xa)) (drC xa) (hashC base (drC xa))) h183 K183.old SF hff IM1 nd ga6 S_s hn_s hb_s hc_s (b1_at _ _) (c1 _ hn_s hb_s _) ((f1 base _ _).trans (if_pos rfl)) SC hcs) at_162 (fun x hx => by
            simp only [List.mem_cons, List.not_mem_nil, or_false] at hx
            rcases hx with rfl | rfl | rfl | rfl | rfl | rfl
            · exact ⟨lt_a175, sf_a175⟩
            · exact ⟨lt_ca, sf_ca⟩
            · exact ⟨lt_sa, sf_sa⟩
            · exact ⟨lt_ba, sf_ba⟩
            · exact ⟨lt_ea, sf_ea⟩
            · exact ⟨lt_ha, sf_ha⟩) (pc' := 165) rfl rfl rfl rfl (Nat.le_of_eq rfl) (by decide) (by decide) (by decide) (by decide) ?_
          intro b184 T184 h184 L184 v184 K184 tr184 q184
          obtain ⟨rfl, KM2, IM2⟩ := q184
          replace sf_a175 := tr184 a175 lt_a175 sf_a175
          replace sf_ca := tr184 ca lt_ca sf_ca
          replace sf_sa := tr184 sa lt_sa sf_sa
          replace sf_ba := tr184 ba lt_ba sf_ba
          replace sf_ea := tr184 ea lt_ea sf_ea
          replace sf_ha := tr184 ha lt_ha sf_ha
          replace S_s := S_s.keep KM2 (ninS ne_s_a175 (ninS ne_s_ca (ninS ne_s_sa (ninS ne_s_ba (ninS ne_s_ea (ninS ne_s_ha nin0)))))) (ninS ne_es_a175 (ninS ne_es_ca (ninS ne_es_sa (ninS ne_es_ba (ninS ne_es_ea (ninS ne_es_ha nin0))))))
          replace S_t := S_t.keep KM2 (ninS ne_t_a175 (ninS ne_t_ca (ninS ne_t_sa (ninS ne_t_ba (ninS ne_t_ea (ninS ne_t_ha nin0)))))) (ninS ne_et_a175 (ninS ne_et_ca (ninS ne_et_sa (ninS ne_et_ba (ninS ne_et_ea (ninS ne_et_ha nin0))))))
          replace S_u := S_u.keep KM2 (ninS ne_u_a175 (ninS ne_u_ca (ninS ne_u_sa (ninS ne_u_ba (ninS ne_u_ea (ninS ne_u_ha nin0)))))) (ninS ne_eu_a175 (ninS ne_eu_ca (ninS ne_eu_sa (ninS ne_eu_ba (ninS ne_eu_ea (ninS ne_eu_ha nin0))))))
          have IM2c := IM2
          obtain ⟨Y0, -, -, -, -, -, -, -, -, -, Y1, Y2, Y3, Y4, Y5, -⟩ := IM2c
          have lt_a175 := Y0.lt
          have lt_ca := Y1.lt
          have lt_sa := Y2.lt
          have lt_ba := Y3.lt
          have lt_ea := Y4.lt
          have lt_ha := Y5.lt
          show Goes p_.tables e_ below_ _ (T184.setTop (mkF m_ 165 #[.val (.long seed), .second, .val (.int xa), .val (.int xb), .val (.int xc), .val (.int xf), .val (.long (2305843009213693951 : Int64)), .second, .val (.long base), .second, .val (.ref s), .val (.ref t), .val (.ref u), .val (.int f13), .val (.int lk), .val (.ref a175), .val (.int (1 : Int32))] [(.int (0 : Int32)), (.int (1 : Int32))]))
          refine k_if_ne K184 at_165 (by decide) (pc' := 172) (pc2 := 168) (by decide) rfl (fun q => absurd (by decide) q) (fun hc165 => ?_)
          refine k_iconst K184 (1 : Int32) at_168 (pc' := 169) rfl rfl ?_
          refine k_goto K184 at_169 (by decide) (pc' := 173) (by decide) ?_
          refine k_iand K184 at_173 (pc' := 174) rfl ?_
          rw [show ((1 : Int32) &&& (1 : Int32)) = (1 : Int32) by decide]
          refine k_istore K184 at_174 (pc' := 176) (L' := #[.val (.long seed), .second, .val (.int xa), .val (.int xb), .val (.int xc), .val (.int xf), .val (.long (2305843009213693951 : Int64)), .second, .val (.long base), .second, .val (.ref s), .val (.ref t), .val (.ref u), .val (.int f13), .val (.int lk), .val (.ref a175), .val (.int (1 : Int32))]) rfl rfl ?_
          exact JC 1 0 1 1 (C1 (drC xa)) (S1 ns) (B1 (hashC base (drC xa))) E1 (H1 (hashC base (drC xa))) rfl (by decide) (a1 _) (z1 _) (s1_0 _) _ _ _ _ K184 IM2 S_s S_t S_u sf_a175 sf_ca sf_sa sf_ba sf_ea sf_ha
    · refine k_iload K182 at_89 (pc' := 91) rfl rfl ?_
      refine k_aload K182 at_91 (pc' := 93) rfl rfl rfl ?_
      refine k_aload K182 at_93 (pc' := 95) rfl rfl rfl ?_
      by_cases hts : (drC xb) = (drC xa)
      · refine k_virtualP K182 [(.ref t)] [(.int (1 : Int32))] 1 (w62 hw) (w63 hw) (w64 hw) (w65 hw) (w41 hw) (w66 hw) (notFace_of_selects (args := #[]) (mvT K182.hZ (w65 hw))) rfl (by decide) I1.1 (by decide) pd__Ljava_lang_CharSequence__I_4090 (c_addO l Z a0 hw hEW n0 a175 ca sa ba ea ha kc ks kb ke_ kh 1 (-1) 0 base (C1 (drC xa)) (S1 ns) (B1 (hashC base (drC xa))) E1 (H1 (hashC base (drC xa))) t et kdt nt (drC xb) ff cs0 (e1 (hashC base (drC xa)) (hashC base (drC xb))) (L1_ (hashC base (drC xa)) (drC xa) (hashC base (drC xb))) h182 K182.old SF hff I1 S_t hn_t hb_t hc_t (b1_at _ _) (c1 _ hn_s hb_s _) ((f1 base _ _).trans (if_pos hts.symm)) SC hcs) at_95 nofun (pc' := 98) rfl rfl rfl rfl (Nat.le_of_eq rfl) (by decide) (by decide) (by decide) (by decide) ?_
        intro b185 T185 L185 K185 tr185
        show Goes p_.tables e_ below_ _ (T185.setTop (mkF m_ 98 #[.val (.long seed), .second, .val (.int xa), .val (.int xb), .val (.int xc), .val (.int xf), .val (.long (2305843009213693951 : Int64)), .second, .val (.long base), .second, .val (.ref s), .val (.ref t), .val (.ref u), .val (.int f13), .val (.int lk), .val (.ref a175), .val (.int (1 : Int32))] [(.int (-1 : Int32)), (.int (1 : Int32))]))
        replace sf_a175 := tr185 a175 lt_a175 sf_a175
        replace sf_ca := tr185 ca lt_ca sf_ca
        replace sf_sa := tr185 sa lt_sa sf_sa
        replace sf_ba := tr185 ba lt_ba sf_ba
        replace sf_ea := tr185 ea lt_ea sf_ea
        replace sf_ha := tr185 ha lt_ha sf_ha
        refine k_aload K185 at_98 (pc' := 100) rfl rfl rfl ?_
        refine k_aload K185 at_100 (pc' := 102) rfl rfl rfl ?_
        refine k_virtualP K185 [(.ref s)] [(.int (-1 : Int32)), (.int (1 : Int32))] 2 (w135 hw) (w136 hw) (w137 hw) (w138 hw) (w8 hw) (w139 hw) (notFace_of_selects (args := #[]) (mvT K185.hZ (w138 hw))) rfl (by decide) S_t.1 (by decide) pd__Ljava_lang_Object__Z_194 (c_equals l Z a0 hw hEW n0 t s et es kdt kds nt ns ((drC xb).map fun (c : Int32) => c.toInt8.toInt32) ((drC xa).map fun (c : Int32) => c.toInt8.toInt32) cs0 h182 K185.old (by rw [hn_t, List.length_map]) (by rw [hn_s, List.length_map]) (by rw [List.length_map]; omega) S_t S_s SC hcs) at_102 nofun (pc' := 105) rfl rfl rfl rfl (Nat.le_of_eq rfl) (by decide) (by decide) (by decide) (by decide) ?_
        intro b186 T186 L186 K186 tr186
        show Goes p_.tables e_ below_ _ (T186.setTop (mkF m_ 105 #[.val (.long seed), .second, .val (.int xa), .val (.int xb), .val (.int xc), .val (.int xf), .val (.long (2305843009213693951 : Int64)), .second, .val (.long base), .second, .val (.ref s), .val (.ref t), .val (.ref u), .val (.int f13), .val (.int lk), .val (.ref a175), .val (.int (1 : Int32))] [(.int (if ((drC xb).map fun (c : Int32) => c.toInt8.toInt32) = ((drC xa).map fun (c : Int32) => c.toInt8.toInt32) then 1 else 0)), (.int (-1 : Int32)), (.int (1 : Int32))]))
        replace sf_a175 := tr186 a175 lt_a175 sf_a175
        replace sf_ca := tr186 ca lt_ca sf_ca
        replace sf_sa := tr186 sa lt_sa sf_sa
        replace sf_ba := tr186 ba lt_ba sf_ba
        replace sf_ea := tr186 ea lt_ea sf_ea
        replace sf_ha := tr186 ha lt_ha sf_ha
        rw [if_pos ((latI hc_s hc_t).mpr hts)]
        refine k_if_eq K186 at_105 (by decide) (pc' := 112) (pc2 := 108) (by decide) rfl (fun q => absurd q (by decide)) (fun hc105 => ?_)
        refine k_iconst K186 (-1 : Int32) at_108 (pc' := 109) rfl rfl ?_
        refine k_goto K186 at_109 (by decide) (pc' := 113) (by decide) ?_
        refine k_icmp_ne K186 at_113 (by decide) (pc' := 120) (pc2 := 116) (by decide) rfl (fun q => absurd (by decide) q) (fun hc113 => ?_)
        refine k_iconst K186 (1 : Int32) at_116 (pc' := 117) rfl rfl ?_
        refine k_goto K186 at_117 (by decide) (pc' := 121) (by decide) ?_
        refine k_iand K186 at_121 (pc' := 122) rfl ?_
        rw [show ((1 : Int32) &&& (1 : Int32)) = (1 : Int32) by decide]
        refine k_istore K186 at_122 (pc' := 124) (L' := #[.val (.long seed), .second, .val (.int xa), .val (.int xb), .val (.int xc), .val (.int xf), .val (.long (2305843009213693951 : Int64)), .second, .val (.long base), .second, .val (.ref s), .val (.ref t), .val (.ref u), .val (.int f13), .val (.int lk), .val (.ref a175), .val (.int (1 : Int32))]) rfl rfl ?_
        refine k_iload K186 at_124 (pc' := 126) rfl rfl ?_
        refine k_iconst K186 (1 : Int32) at_126 (pc' := 127) rfl rfl ?_
        refine k_icmp_lt K186 at_127 (by decide) (pc' := 150) (pc2 := 130) (by decide) rfl (fun hc127 => ?_) (fun hc127 => ?_)
        · refine k_iload K186 at_150 (pc' := 152) rfl rfl ?_
          refine k_iconst K186 (2 : Int32) at_152 (pc' := 153) rfl rfl ?_
          refine k_icmp_lt K186 at_153 (by decide) (pc' := 176) (pc2 := 156) (by decide) rfl (fun hc153 => ?_) (fun q => absurd (by rw [own_i32] at hc127 ⊢; have e1 : (1 : Int32).toInt = 1 := rfl; have e2 : (2 : Int32).toInt = 2 := rfl; omega) q)
          exact JC 1 (-1) 0 1 (C1 (drC xa)) (S1 ns) (B1 (hashC base (drC xa))) E1 (H1 (hashC base (drC xa))) rfl (by decide) (a1 _) (z1 _) (s1_0 _) _ _ _ _ K186 I1 S_s S_t S_u sf_a175 sf_ca sf_sa sf_ba sf_ea sf_ha
        · refine k_iload K186 at_130 (pc' := 132) rfl rfl ?_
          refine k_aload K186 at_132 (pc' := 134) rfl rfl rfl ?_
          refine k_aload K186 at_134 (pc' := 136) rfl rfl rfl ?_
          refine k_virtual K186 [(.ref s)] [(.int (1 : Int32))] 1 (w144 hw) (w145 hw) (w146 hw) (w147 hw) (w41 hw) (w148 hw) (notFace_of_selects (args := #[]) (mvT K186.hZ (w147 hw))) rfl (by decide) I1.1 (by decide) pd__Ljava_lang_CharSequence__I_4090 (c_num1 l Z a0 hw hEW n0 a175 ca sa ba ea ha kc ks kb ke_ kh 1 base (C1 (drC xa)) (S1 ns) (B1 (hashC base (drC xa))) E1 (H1 (hashC base (drC xa))) s es kds ns (drC xa) ff cs0 (e1 (hashC base (drC xa)) (hashC base (drC xa))) (L1_ (hashC base (drC xa)) (drC xa) (hashC base (drC xa))) h182 K186.old SF hff I1 nd ga6 S_s hn_s hb_s hc_s (b1_at _ _) (c1 _ hn_s hb_s _) ((f1 base _ _).trans (if_pos rfl)) SC hcs) at_136 (fun x hx => by
            simp only [List.mem_cons, List.not_mem_nil, or_false] at hx
            rcases hx with rfl | rfl | rfl | rfl | rfl | rfl
            · exact ⟨lt_a175, sf_a175⟩
            · exact ⟨lt_ca, sf_ca⟩
            · exact ⟨lt_sa, sf_sa⟩
            · exact ⟨lt_ba, sf_ba⟩
            · exact ⟨lt_ea, sf_ea⟩
            · exact ⟨lt_ha, sf_ha⟩) (pc' := 139) rfl rfl rfl rfl (Nat.le_of_eq rfl) (by decide) (by decide) (by decide) (by decide) ?_
          intro b187 T187 h187 L187 v187 K187 tr187 q187
          obtain ⟨rfl, KM1, IM1⟩ := q187
          replace sf_a175 := tr187 a175 lt_a175 sf_a175
          replace sf_ca := tr187 ca lt_ca sf_ca
          replace sf_sa := tr187 sa lt_sa sf_sa
          replace sf_ba := tr187 ba lt_ba sf_ba
          replace sf_ea := tr187 ea lt_ea sf_ea
          replace sf_ha := tr187 ha lt_ha sf_ha
          replace S_s := S_s.keep KM1 (ninS ne_s_a175 (ninS ne_s_ca (ninS ne_s_sa (ninS ne_s_ba (ninS ne_s_ea (ninS ne_s_ha nin0)))))) (ninS ne_es_a175 (ninS ne_es_ca (ninS ne_es_sa (ninS ne_es_ba (ninS ne_es_ea (ninS ne_es_ha nin0))))))
          replace S_t := S_t.keep KM1 (ninS ne_t_a175 (ninS ne_t_ca (ninS ne_t_sa (ninS ne_t_ba (ninS ne_t_ea (ninS ne_t_ha nin0)))))) (ninS ne_et_a175 (ninS ne_et_ca (ninS ne_et_sa (ninS ne_et_ba (ninS ne_et_ea (ninS ne_et_ha nin0))))))
          replace S_u := S_u.keep KM1 (ninS ne_u_a175 (ninS ne_u_ca (ninS ne_u_sa (ninS ne_u_ba (ninS ne_u_ea (ninS ne_u_ha nin0)))))) (ninS ne_eu_a175 (ninS ne_eu_ca (ninS ne_eu_sa (ninS ne_eu_ba (ninS ne_eu_ea (ninS ne_eu_ha nin0))))))
          have IM1c := IM1
          obtain ⟨Y0, -, -, -, -, -, -, -, -, -, Y1, Y2, Y3, Y4, Y5, -⟩ := IM1c
          have lt_a175 := Y0.lt
          have lt_ca := Y1.lt
          have lt_sa := Y2.lt
          have lt_ba := Y3.lt
          have lt_ea := Y4.lt
          have lt_ha := Y5.lt
          show Goes p_.tables e_ below_ _ (T187.setTop (mkF m_ 139 #[.val (.long seed), .second, .val (.int xa), .val (.int xb), .val (.int xc), .val (.int xf), .val (.long (2305843009213693951 : Int64)), .second, .val (.long base), .second, .val (.ref s), .val (.ref t), .val (.ref u), .val (.int f13), .val (.int lk), .val (.ref a175), .val (.int (1 : Int32))] [(.int (0 : Int32)), (.int (1 : Int32))]))
          refine k_if_ne K187 at_139 (by decide) (pc' := 146) (pc2 := 142) (by decide) rfl (fun q => absurd (by decide) q) (fun hc139 => ?_)
          refine k_iconst K187 (1 : Int32) at_142 (pc' := 143) rfl rfl ?_
          refine k_goto K187 at_143 (by decide) (pc' := 147) (by decide) ?_
          refine k_iand K187 at_147 (pc' := 148) rfl ?_
          rw [show ((1 : Int32) &&& (1 : Int32)) = (1 : Int32) by decide]
          refine k_istore K187 at_148 (pc' := 150) (L' := #[.val (.long seed), .second, .val (.int xa), .val (.int xb), .val (.int xc), .val (.int xf), .val (.long (2305843009213693951 : Int64)), .second, .val (.long base), .second, .val (.ref s), .val (.ref t), .val (.ref u), .val (.int f13), .val (.int lk), .val (.ref a175), .val (.int (1 : Int32))]) rfl rfl ?_
          refine k_iload K187 at_150 (pc' := 152) rfl rfl ?_
          refine k_iconst K187 (2 : Int32) at_152 (pc' := 153) rfl rfl ?_
          refine k_icmp_lt K187 at_153 (by decide) (pc' := 176) (pc2 := 156) (by decide) rfl (fun hc153 => ?_) (fun hc153 => ?_)
          · skip
            exact JC 1 0 0 1 (C1 (drC xa)) (S1 ns) (B1 (hashC base (drC xa))) E1 (H1 (hashC base (drC xa))) rfl (by decide) (a1 _) (z1 _) (s1_0 _) _ _ _ _ K187 IM1 S_s S_t S_u sf_a175 sf_ca sf_sa sf_ba sf_ea sf_ha
          · refine k_iload K187 at_156 (pc' := 158) rfl rfl ?_
            refine k_aload K187 at_158 (pc' := 160) rfl rfl rfl ?_
            refine k_aload K187 at_160 (pc' := 162) rfl rfl rfl ?_
            refine k_virtual K187 [(.ref s)] [(.int (1 : Int32))] 1 (w144 hw) (w145 hw) (w146 hw) (w147 hw) (w41 hw) (w148 hw) (notFace_of_selects (args := #[]) (mvT K187.hZ (w147 hw))) rfl (by decide) IM1.1 (by decide) pd__Ljava_lang_CharSequence__I_4090 (c_num2 l Z a0 hw hEW n0 a175 ca sa ba ea ha kc ks kb ke_ kh 1 base (C1 (drC xa)) (S1 ns) (B1 (hashC base (drC xa))) E1 (H1 (hashC base (drC xa))) s es kds ns (drC xa) ff cs0 (e1 (hashC base (drC xa)) (hashC base (drC xa))) (L1_ (hashC base (drC xa)) (drC xa) (hashC base (drC xa))) h187 K187.old SF hff IM1 nd ga6 S_s hn_s hb_s hc_s (b1_at _ _) (c1 _ hn_s hb_s _) ((f1 base _ _).trans (if_pos rfl)) SC hcs) at_162 (fun x hx => by
              simp only [List.mem_cons, List.not_mem_nil, or_false] at hx
              rcases hx with rfl | rfl | rfl | rfl | rfl | rfl
              · exact ⟨lt_a175, sf_a175⟩
              · exact ⟨lt_ca, sf_ca⟩
              · exact ⟨lt_sa, sf_sa⟩
              · exact ⟨lt_ba, sf_ba⟩
              · exact ⟨lt_ea, sf_ea⟩
              · exact ⟨lt_ha, sf_ha⟩) (pc' := 165) rfl rfl rfl rfl (Nat.le_of_eq rfl) (by decide) (by decide) (by decide) (by decide) ?_
            intro b188 T188 h188 L188 v188 K188 tr188 q188
            obtain ⟨rfl, KM2, IM2⟩ := q188
            replace sf_a175 := tr188 a175 lt_a175 sf_a175
            replace sf_ca := tr188 ca lt_ca sf_ca
            replace sf_sa := tr188 sa lt_sa sf_sa
            replace sf_ba := tr188 ba lt_ba sf_ba
            replace sf_ea := tr188 ea lt_ea sf_ea
            replace sf_ha := tr188 ha lt_ha sf_ha
            replace S_s := S_s.keep KM2 (ninS ne_s_a175 (ninS ne_s_ca (ninS ne_s_sa (ninS ne_s_ba (ninS ne_s_ea (ninS ne_s_ha nin0)))))) (ninS ne_es_a175 (ninS ne_es_ca (ninS ne_es_sa (ninS ne_es_ba (ninS ne_es_ea (ninS ne_es_ha nin0))))))
            replace S_t := S_t.keep KM2 (ninS ne_t_a175 (ninS ne_t_ca (ninS ne_t_sa (ninS ne_t_ba (ninS ne_t_ea (ninS ne_t_ha nin0)))))) (ninS ne_et_a175 (ninS ne_et_ca (ninS ne_et_sa (ninS ne_et_ba (ninS ne_et_ea (ninS ne_et_ha nin0))))))
            replace S_u := S_u.keep KM2 (ninS ne_u_a175 (ninS ne_u_ca (ninS ne_u_sa (ninS ne_u_ba (ninS ne_u_ea (ninS ne_u_ha nin0)))))) (ninS ne_eu_a175 (ninS ne_eu_ca (ninS ne_eu_sa (ninS ne_eu_ba (ninS ne_eu_ea (ninS ne_eu_ha nin0))))))
            have IM2c := IM2
            obtain ⟨Y0, -, -, -, -, -, -, -, -, -, Y1, Y2, Y3, Y4, Y5, -⟩ := IM2c
            have lt_a175 := Y0.lt
            have lt_ca := Y1.lt
            have lt_sa := Y2.lt
            have lt_ba := Y3.lt
            have lt_ea := Y4.lt
            have lt_ha := Y5.lt
            show Goes p_.tables e_ below_ _ (T188.setTop (mkF m_ 165 #[.val (.long seed), .second, .val (.int xa), .val (.int xb), .val (.int xc), .val (.int xf), .val (.long (2305843009213693951 : Int64)), .second, .val (.long base), .second, .val (.ref s), .val (.ref t), .val (.ref u), .val (.int f13), .val (.int lk), .val (.ref a175), .val (.int (1 : Int32))] [(.int (0 : Int32)), (.int (1 : Int32))]))
            refine k_if_ne K188 at_165 (by decide) (pc' := 172) (pc2 := 168) (by decide) rfl (fun q => absurd (by decide) q) (fun hc165 => ?_)
            refine k_iconst K188 (1 : Int32) at_168 (pc' := 169) rfl rfl ?_
            refine k_goto K188 at_169 (by decide) (pc' := 173) (by decide) ?_
            refine k_iand K188 at_173 (pc' := 174) rfl ?_
            rw [show ((1 : Int32) &&& (1 : Int32)) = (1 : Int32) by decide]
            refine k_istore K188 at_174 (pc' := 176) (L' := #[.val (.long seed), .second, .val (.int xa), .val (.int xb), .val (.int xc), .val (.int xf), .val (.long (2305843009213693951 : Int64)), .second, .val (.long base), .second, .val (.ref s), .val (.ref t), .val (.ref u), .val (.int f13), .val (.int lk), .val (.ref a175), .val (.int (1 : Int32))]) rfl rfl ?_
            exact JC 1 0 1 1 (C1 (drC xa)) (S1 ns) (B1 (hashC base (drC xa))) E1 (H1 (hashC base (drC xa))) rfl (by decide) (a1 _) (z1 _) (s1_0 _) _ _ _ _ K188 IM2 S_s S_t S_u sf_a175 sf_ca sf_sa sf_ba sf_ea sf_ha
      · refine k_virtual K182 [(.ref t)] [(.int (1 : Int32))] 1 (w62 hw) (w63 hw) (w64 hw) (w65 hw) (w41 hw) (w66 hw) (notFace_of_selects (args := #[]) (mvT K182.hZ (w65 hw))) rfl (by decide) I1.1 (by decide) pd__Ljava_lang_CharSequence__I_4090 (c_addN l Z a0 hw hEW n0 a175 ca sa ba ea ha kc ks kb ke_ kh (-1) 0 base (C1 (drC xa)) (S1 ns) (B1 (hashC base (drC xa))) E1 (H1 (hashC base (drC xa))) t et kdt nt (drC xb) ff cs0 (0 + ns) 1 (drC xa).length (e1 (hashC base (drC xa)) (hashC base (drC xb))) (L1_ (hashC base (drC xa)) (drC xa) (hashC base (drC xb))) h182 K182.old SF hff I1 nd ga6 S_t hn_t hb_t hc_t (by decide) (s1_1 _) (own_0n hn_s) hb_s ns_t (b1_at _ _) (c1 _ hn_s hb_s _) ((f1 base _ _).trans (if_neg fun q => hts q.symm)) SC hcs) at_95 (fun x hx => by
          simp only [List.mem_cons, List.not_mem_nil, or_false] at hx
          rcases hx with rfl | rfl | rfl | rfl | rfl | rfl
          · exact ⟨lt_a175, sf_a175⟩
          · exact ⟨lt_ca, sf_ca⟩
          · exact ⟨lt_sa, sf_sa⟩
          · exact ⟨lt_ba, sf_ba⟩
          · exact ⟨lt_ea, sf_ea⟩
          · exact ⟨lt_ha, sf_ha⟩) (pc' := 98) rfl rfl rfl rfl (Nat.le_of_eq rfl) (by decide) (by decide) (by decide) (by decide) ?_
        intro b189 T189 h189 L189 v189 K189 tr189 q189
        obtain ⟨rfl, KB, I5⟩ := q189
        replace sf_a175 := tr189 a175 lt_a175 sf_a175
        replace sf_ca := tr189 ca lt_ca sf_ca
        replace sf_sa := tr189 sa lt_sa sf_sa
        replace sf_ba := tr189 ba lt_ba sf_ba
        replace sf_ea := tr189 ea lt_ea sf_ea
        replace sf_ha := tr189 ha lt_ha sf_ha
        replace S_s := S_s.keep KB (ninS ne_s_a175 (ninS ne_s_ca (ninS ne_s_sa (ninS ne_s_ba (ninS ne_s_ea (ninS ne_s_ha nin0)))))) (ninS ne_es_a175 (ninS ne_es_ca (ninS ne_es_sa (ninS ne_es_ba (ninS ne_es_ea (ninS ne_es_ha nin0))))))
        replace S_t := S_t.keep KB (ninS ne_t_a175 (ninS ne_t_ca (ninS ne_t_sa (ninS ne_t_ba (ninS ne_t_ea (ninS ne_t_ha nin0)))))) (ninS ne_et_a175 (ninS ne_et_ca (ninS ne_et_sa (ninS ne_et_ba (ninS ne_et_ea (ninS ne_et_ha nin0))))))
        replace S_u := S_u.keep KB (ninS ne_u_a175 (ninS ne_u_ca (ninS ne_u_sa (ninS ne_u_ba (ninS ne_u_ea (ninS ne_u_ha nin0)))))) (ninS ne_eu_a175 (ninS ne_eu_ca (ninS ne_eu_sa (ninS ne_eu_ba (ninS ne_eu_ea (ninS ne_eu_ha nin0))))))
        replace I5 : Ixd Z h189 a175 ca sa ba ea ha kc ks kb ke_ kh 2 (-1) 0 base (C2 (drC xa) (drC xb)) (S2 ns nt) (B2 (hashC base (drC xa)) (hashC base (drC xb))) (E2 (hashC base (drC xa)) (hashC base (drC xb))) (H2 (hashC base (drC xa)) (hashC base (drC xb))) := I5
        have I5c := I5
        obtain ⟨Y0, -, -, -, -, -, -, -, -, -, Y1, Y2, Y3, Y4, Y5, -⟩ := I5c
        have lt_a175 := Y0.lt
        have lt_ca := Y1.lt
        have lt_sa := Y2.lt
        have lt_ba := Y3.lt
        have lt_ea := Y4.lt
        have lt_ha := Y5.lt
        show Goes p_.tables e_ below_ _ (T189.setTop (mkF m_ 98 #[.val (.long seed), .second, .val (.int xa), .val (.int xb), .val (.int xc), .val (.int xf), .val (.long (2305843009213693951 : Int64)), .second, .val (.long base), .second, .val (.ref s), .val (.ref t), .val (.ref u), .val (.int f13), .val (.int lk), .val (.ref a175), .val (.int (1 : Int32))] [(.int (1 : Int32)), (.int (1 : Int32))]))
        refine k_aload K189 at_98 (pc' := 100) rfl rfl rfl ?_
        refine k_aload K189 at_100 (pc' := 102) rfl rfl rfl ?_
        refine k_virtualP K189 [(.ref s)] [(.int (1 : Int32)), (.int (1 : Int32))] 2 (w135 hw) (w136 hw) (w137 hw) (w138 hw) (w8 hw) (w139 hw) (notFace_of_selects (args := #[]) (mvT K189.hZ (w138 hw))) rfl (by decide) S_t.1 (by decide) pd__Ljava_lang_Object__Z_194 (c_equals l Z a0 hw hEW n0 t s et es kdt kds nt ns ((drC xb).map fun (c : Int32) => c.toInt8.toInt32) ((drC xa).map fun (c : Int32) => c.toInt8.toInt32) cs0 h189 K189.old (by rw [hn_t, List.length_map]) (by rw [hn_s, List.length_map]) (by rw [List.length_map]; omega) S_t S_s SC hcs) at_102 nofun (pc' := 105) rfl rfl rfl rfl (Nat.le_of_eq rfl) (by decide) (by decide) (by decide) (by decide) ?_
        intro b190 T190 L190 K190 tr190
        show Goes p_.tables e_ below_ _ (T190.setTop (mkF m_ 105 #[.val (.long seed), .second, .val (.int xa), .val (.int xb), .val (.int xc), .val (.int xf), .val (.long (2305843009213693951 : Int64)), .second, .val (.long base), .second, .val (.ref s), .val (.ref t), .val (.ref u), .val (.int f13), .val (.int lk), .val (.ref a175), .val (.int (1 : Int32))] [(.int (if ((drC xb).map fun (c : Int32) => c.toInt8.toInt32) = ((drC xa).map fun (c : Int32) => c.toInt8.toInt32) then 1 else 0)), (.int (1 : Int32)), (.int (1 : Int32))]))
        replace sf_a175 := tr190 a175 lt_a175 sf_a175
        replace sf_ca := tr190 ca lt_ca sf_ca
        replace sf_sa := tr190 sa lt_sa sf_sa
        replace sf_ba := tr190 ba lt_ba sf_ba
        replace sf_ea := tr190 ea lt_ea sf_ea
        replace sf_ha := tr190 ha lt_ha sf_ha
        rw [if_neg (fun q => hts ((latI hc_s hc_t).mp q))]
        refine k_if_eq K190 at_105 (by decide) (pc' := 112) (pc2 := 108) (by decide) rfl (fun hc105 => ?_) (fun q => absurd (by decide) q)
        refine k_iconst K190 (1 : Int32) at_112 (pc' := 113) rfl rfl ?_
        refine k_icmp_ne K190 at_113 (by decide) (pc' := 120) (pc2 := 116) (by decide) rfl (fun q => absurd (by decide) q) (fun hc113 => ?_)
        refine k_iconst K190 (1 : Int32) at_116 (pc' := 117) rfl rfl ?_
        refine k_goto K190 at_117 (by decide) (pc' := 121) (by decide) ?_
        refine k_iand K190 at_121 (pc' := 122) rfl ?_
        rw [show ((1 : Int32) &&& (1 : Int32)) = (1 : Int32) by decide]
        refine k_istore K190 at_122 (pc' := 124) (L' := #[.val (.long seed), .second, .val (.int xa), .val (.int xb), .val (.int xc), .val (.int xf), .val (.long (2305843009213693951 : Int64)), .second, .val (.long base), .second, .val (.ref s), .val (.ref t), .val (.ref u), .val (.int f13), .val (.int lk), .val (.ref a175), .val (.int (1 : Int32))]) rfl rfl ?_
        refine k_iload K190 at_124 (pc' := 126) rfl rfl ?_
        refine k_iconst K190 (1 : Int32) at_126 (pc' := 127) rfl rfl ?_
        refine k_icmp_lt K190 at_127 (by decide) (pc' := 150) (pc2 := 130) (by decide) rfl (fun hc127 => ?_) (fun hc127 => ?_)
        · refine k_iload K190 at_150 (pc' := 152) rfl rfl ?_
          refine k_iconst K190 (2 : Int32) at_152 (pc' := 153) rfl rfl ?_
          refine k_icmp_lt K190 at_153 (by decide) (pc' := 176) (pc2 := 156) (by decide) rfl (fun hc153 => ?_) (fun q => absurd (by rw [own_i32] at hc127 ⊢; have e1 : (1 : Int32).toInt = 1 := rfl; have e2 : (2 : Int32).toInt = 2 := rfl; omega) q)
          exact JC 2 (-1) 0 2 (C2 (drC xa) (drC xb)) (S2 ns nt) (B2 (hashC base (drC xa)) (hashC base (drC xb))) (E2 (hashC base (drC xa)) (hashC base (drC xb))) (H2 (hashC base (drC xa)) (hashC base (drC xb))) rfl (by decide) (a2 _ _) (z2 _ _) (by rw [s2_g _ _ _ (by decide)]; exact s1_0 _) _ _ _ _ K190 I5 S_s S_t S_u sf_a175 sf_ca sf_sa sf_ba sf_ea sf_ha
        · refine k_iload K190 at_130 (pc' := 132) rfl rfl ?_
          refine k_aload K190 at_132 (pc' := 134) rfl rfl rfl ?_
          refine k_aload K190 at_134 (pc' := 136) rfl rfl rfl ?_
          refine k_virtual K190 [(.ref s)] [(.int (1 : Int32))] 1 (w144 hw) (w145 hw) (w146 hw) (w147 hw) (w41 hw) (w148 hw) (notFace_of_selects (args := #[]) (mvT K190.hZ (w147 hw))) rfl (by decide) I5.1 (by decide) pd__Ljava_lang_CharSequence__I_4090 (c_num1 l Z a0 hw hEW n0 a175 ca sa ba ea ha kc ks kb ke_ kh 2 base (C2 (drC xa) (drC xb)) (S2 ns nt) (B2 (hashC base (drC xa)) (hashC base (drC xb))) (E2 (hashC base (drC xa)) (hashC base (drC xb))) (H2 (hashC base (drC xa)) (hashC base (drC xb))) s es kds ns (drC xa) ff cs0 (e2 (hashC base (drC xa)) (hashC base (drC xb))) (L2_ (hashC base (drC xa)) (hashC base (drC xb)) (drC xa) (drC xb)) h189 K190.old SF hff I5 nd ga6 S_s hn_s hb_s hc_s (b2_at _ _) (c2 _ _ hn_s hn_t hb_s hb_t) (f2 _ _ hts) SC hcs) at_136 (fun x hx => by
            simp only [List.mem_cons, List.not_mem_nil, or_false] at hx
            rcases hx with rfl | rfl | rfl | rfl | rfl | rfl
            · exact ⟨lt_a175, sf_a175⟩
            · exact ⟨lt_ca, sf_ca⟩
            · exact ⟨lt_sa, sf_sa⟩
            · exact ⟨lt_ba, sf_ba⟩
            · exact ⟨lt_ea, sf_ea⟩
            · exact ⟨lt_ha, sf_ha⟩) (pc' := 139) rfl rfl rfl rfl (Nat.le_of_eq rfl) (by decide) (by decide) (by decide) (by decide) ?_
          intro b191 T191 h191 L191 v191 K191 tr191 q191
          obtain ⟨rfl, KM1, IM1⟩ := q191
          replace sf_a175 := tr191 a175 lt_a175 sf_a175
          replace sf_ca := tr191 ca lt_ca sf_ca
          replace sf_sa := tr191 sa lt_sa sf_sa
          replace sf_ba := tr191 ba lt_ba sf_ba
          replace sf_ea := tr191 ea lt_ea sf_ea
          replace sf_ha := tr191 ha lt_ha sf_ha
          replace S_s := S_s.keep KM1 (ninS ne_s_a175 (ninS ne_s_ca (ninS ne_s_sa (ninS ne_s_ba (ninS ne_s_ea (ninS ne_s_ha nin0)))))) (ninS ne_es_a175 (ninS ne_es_ca (ninS ne_es_sa (ninS ne_es_ba (ninS ne_es_ea (ninS ne_es_ha nin0))))))
          replace S_t := S_t.keep KM1 (ninS ne_t_a175 (ninS ne_t_ca (ninS ne_t_sa (ninS ne_t_ba (ninS ne_t_ea (ninS ne_t_ha nin0)))))) (ninS ne_et_a175 (ninS ne_et_ca (ninS ne_et_sa (ninS ne_et_ba (ninS ne_et_ea (ninS ne_et_ha nin0))))))
          replace S_u := S_u.keep KM1 (ninS ne_u_a175 (ninS ne_u_ca (ninS ne_u_sa (ninS ne_u_ba (ninS ne_u_ea (ninS ne_u_ha nin0)))))) (ninS ne_eu_a175 (ninS ne_eu_ca (ninS ne_eu_sa (ninS ne_eu_ba (ninS ne_eu_ea (ninS ne_eu_ha nin0))))))
          have IM1c := IM1
          obtain ⟨Y0, -, -, -, -, -, -, -, -, -, Y1, Y2, Y3, Y4, Y5, -⟩ := IM1c
          have lt_a175 := Y0.lt
          have lt_ca := Y1.lt
          have lt_sa := Y2.lt
          have lt_ba := Y3.lt
          have lt_ea := Y4.lt
          have lt_ha := Y5.lt
          show Goes p_.tables e_ below_ _ (T191.setTop (mkF m_ 139 #[.val (.long seed), .second, .val (.int xa), .val (.int xb), .val (.int xc), .val (.int xf), .val (.long (2305843009213693951 : Int64)), .second, .val (.long base), .second, .val (.ref s), .val (.ref t), .val (.ref u), .val (.int f13), .val (.int lk), .val (.ref a175), .val (.int (1 : Int32))] [(.int (0 : Int32)), (.int (1 : Int32))]))
          refine k_if_ne K191 at_139 (by decide) (pc' := 146) (pc2 := 142) (by decide) rfl (fun q => absurd (by decide) q) (fun hc139 => ?_)
          refine k_iconst K191 (1 : Int32) at_142 (pc' := 143) rfl rfl ?_
          refine k_goto K191 at_143 (by decide) (pc' := 147) (by decide) ?_
          refine k_iand K191 at_147 (pc' := 148) rfl ?_
          rw [show ((1 : Int32) &&& (1 : Int32)) = (1 : Int32) by decide]
          refine k_istore K191 at_148 (pc' := 150) (L' := #[.val (.long seed), .second, .val (.int xa), .val (.int xb), .val (.int xc), .val (.int xf), .val (.long (2305843009213693951 : Int64)), .second, .val (.long base), .second, .val (.ref s), .val (.ref t), .val (.ref u), .val (.int f13), .val (.int lk), .val (.ref a175), .val (.int (1 : Int32))]) rfl rfl ?_
          refine k_iload K191 at_150 (pc' := 152) rfl rfl ?_
          refine k_iconst K191 (2 : Int32) at_152 (pc' := 153) rfl rfl ?_
          refine k_icmp_lt K191 at_153 (by decide) (pc' := 176) (pc2 := 156) (by decide) rfl (fun hc153 => ?_) (fun hc153 => ?_)
          · skip
            exact JC 2 0 0 2 (C2 (drC xa) (drC xb)) (S2 ns nt) (B2 (hashC base (drC xa)) (hashC base (drC xb))) (E2 (hashC base (drC xa)) (hashC base (drC xb))) (H2 (hashC base (drC xa)) (hashC base (drC xb))) rfl (by decide) (a2 _ _) (z2 _ _) (by rw [s2_g _ _ _ (by decide)]; exact s1_0 _) _ _ _ _ K191 IM1 S_s S_t S_u sf_a175 sf_ca sf_sa sf_ba sf_ea sf_ha
          · refine k_iload K191 at_156 (pc' := 158) rfl rfl ?_
            refine k_aload K191 at_158 (pc' := 160) rfl rfl rfl ?_
            refine k_aload K191 at_160 (pc' := 162) rfl rfl rfl ?_
            refine k_virtual K191 [(.ref s)] [(.int (1 : Int32))] 1 (w144 hw) (w145 hw) (w146 hw) (w147 hw) (w41 hw) (w148 hw) (notFace_of_selects (args := #[]) (mvT K191.hZ (w147 hw))) rfl (by decide) IM1.1 (by decide) pd__Ljava_lang_CharSequence__I_4090 (c_num2 l Z a0 hw hEW n0 a175 ca sa ba ea ha kc ks kb ke_ kh 2 base (C2 (drC xa) (drC xb)) (S2 ns nt) (B2 (hashC base (drC xa)) (hashC base (drC xb))) (E2 (hashC base (drC xa)) (hashC base (drC xb))) (H2 (hashC base (drC xa)) (hashC base (drC xb))) s es kds ns (drC xa) ff cs0 (e2 (hashC base (drC xa)) (hashC base (drC xb))) (L2_ (hashC base (drC xa)) (hashC base (drC xb)) (drC xa) (drC xb)) h191 K191.old SF hff IM1 nd ga6 S_s hn_s hb_s hc_s (b2_at _ _) (c2 _ _ hn_s hn_t hb_s hb_t) (f2 _ _ hts) SC hcs) at_162 (fun x hx => by
              simp only [List.mem_cons, List.not_mem_nil, or_false] at hx
              rcases hx with rfl | rfl | rfl | rfl | rfl | rfl
              · exact ⟨lt_a175, sf_a175⟩
              · exact ⟨lt_ca, sf_ca⟩
              · exact ⟨lt_sa, sf_sa⟩
              · exact ⟨lt_ba, sf_ba⟩
              · exact ⟨lt_ea, sf_ea⟩
              · exact ⟨lt_ha, sf_ha⟩) (pc' := 165) rfl rfl rfl rfl (Nat.le_of_eq rfl) (by decide) (by decide) (by decide) (by decide) ?_
            intro b192 T192 h192 L192 v192 K192 tr192 q192
            obtain ⟨rfl, KM2, IM2⟩ := q192
            replace sf_a175 := tr192 a175 lt_a175 sf_a175
            replace sf_ca := tr192 ca lt_ca sf_ca
            replace sf_sa := tr192 sa lt_sa sf_sa
            replace sf_ba := tr192 ba lt_ba sf_ba
            replace sf_ea := tr192 ea lt_ea sf_ea
            replace sf_ha := tr192 ha lt_ha sf_ha
            replace S_s := S_s.keep KM2 (ninS ne_s_a175 (ninS ne_s_ca (ninS ne_s_sa (ninS ne_s_ba (ninS ne_s_ea (ninS ne_s_ha nin0)))))) (ninS ne_es_a175 (ninS ne_es_ca (ninS ne_es_sa (ninS ne_es_ba (ninS ne_es_ea (ninS ne_es_ha nin0))))))
            replace S_t := S_t.keep KM2 (ninS ne_t_a175 (ninS ne_t_ca (ninS ne_t_sa (ninS ne_t_ba (ninS ne_t_ea (ninS ne_t_ha nin0)))))) (ninS ne_et_a175 (ninS ne_et_ca (ninS ne_et_sa (ninS ne_et_ba (ninS ne_et_ea (ninS ne_et_ha nin0))))))
            replace S_u := S_u.keep KM2 (ninS ne_u_a175 (ninS ne_u_ca (ninS ne_u_sa (ninS ne_u_ba (ninS ne_u_ea (ninS ne_u_ha nin0)))))) (ninS ne_eu_a175 (ninS ne_eu_ca (ninS ne_eu_sa (ninS ne_eu_ba (ninS ne_eu_ea (ninS ne_eu_ha nin0))))))
            have IM2c := IM2
            obtain ⟨Y0, -, -, -, -, -, -, -, -, -, Y1, Y2, Y3, Y4, Y5, -⟩ := IM2c
            have lt_a175 := Y0.lt
            have lt_ca := Y1.lt
            have lt_sa := Y2.lt
            have lt_ba := Y3.lt
            have lt_ea := Y4.lt
            have lt_ha := Y5.lt
            show Goes p_.tables e_ below_ _ (T192.setTop (mkF m_ 165 #[.val (.long seed), .second, .val (.int xa), .val (.int xb), .val (.int xc), .val (.int xf), .val (.long (2305843009213693951 : Int64)), .second, .val (.long base), .second, .val (.ref s), .val (.ref t), .val (.ref u), .val (.int f13), .val (.int lk), .val (.ref a175), .val (.int (1 : Int32))] [(.int (0 : Int32)), (.int (1 : Int32))]))
            refine k_if_ne K192 at_165 (by decide) (pc' := 172) (pc2 := 168) (by decide) rfl (fun q => absurd (by decide) q) (fun hc165 => ?_)
            refine k_iconst K192 (1 : Int32) at_168 (pc' := 169) rfl rfl ?_
            refine k_goto K192 at_169 (by decide) (pc' := 173) (by decide) ?_
            refine k_iand K192 at_173 (pc' := 174) rfl ?_
            rw [show ((1 : Int32) &&& (1 : Int32)) = (1 : Int32) by decide]
            refine k_istore K192 at_174 (pc' := 176) (L' := #[.val (.long seed), .second, .val (.int xa), .val (.int xb), .val (.int xc), .val (.int xf), .val (.long (2305843009213693951 : Int64)), .second, .val (.long base), .second, .val (.ref s), .val (.ref t), .val (.ref u), .val (.int f13), .val (.int lk), .val (.ref a175), .val (.int (1 : Int32))]) rfl rfl ?_
            exact JC 2 0 1 2 (C2 (drC xa) (drC xb)) (S2 ns nt) (B2 (hashC base (drC xa)) (hashC base (drC xb))) (E2 (hashC base (drC xa)) (hashC base (drC xb))) (H2 (hashC base (drC xa)) (hashC base (drC xb))) rfl (by decide) (a2 _ _) (z2 _ _) (by rw [s2_g _ _ _ (by decide)]; exact s1_0 _) _ _ _ _ K192 IM2 S_s S_t S_u sf_a175 sf_ca sf_sa sf_ba sf_ea sf_ha
  refine k_if_eq K173 at_38 (by decide) (pc' := 45) (pc2 := 41) (by decide) rfl (fun hc38 => ?_) (fun hc38 => ?_)
  · refine k_iconst K173 (0 : Int32) at_45 (pc' := 46) rfl rfl ?_
    exact JF _ _ _ _ K173
  · refine k_iconst K173 (1 : Int32) at_41 (pc' := 42) rfl rfl ?_
    refine k_goto K173 at_42 (by decide) (pc' := 46) (by decide) ?_
    exact JF _ _ _ _ K173
theorem own_eqI {args : Array Value} {s : State} {t : Term} {k : Int32} (h : (Cond.eq t (.int k)).value args s none s [] = some true) : t.eval args s none [] s = some (.int k) := by
  obtain ⟨x, y, e1, e2, -, k2⟩ := cmp_v (Or.inl h)
  have e3 : y = .int k := (Option.some.inj e2).symm
  subst e3
  obtain ⟨z, rfl⟩ := k2
  have q : z = k := by simpa [Cond.value, Term.eval, e1] using h
  rw [e1, q]
theorem own_fld {args : Array Value} {s : State} {t : Term} {a : Addr} {C n d : String} {v : Value} (ht : t.eval args s none [] s = some (.ref a)) (h : (Term.field t C n d).eval args s none [] s = some v) : Fld s s.heap a C n d v := Fld.start (by rw [← fld_at ht]; exact h)
theorem own_arv {args : Array Value} {s : State} (hf : Fit s) {t : Term} {b : Addr} {ty : FieldType} {z : Int32} {vs : List Value} {dv : Value} (ev : t.eval args s none [] s = some (.ref b)) (hA : (Cond.arrayOf t ty).value args s none s [] = some true) (hL : (Cond.eq (.length t) (.int z)).value args s none s [] = some true) (hz : ¬ z < 0) (hl : z.toNatClampNeg = vs.length) (H : ∀ cl : Cell, s.heap[b]? = some cl → HasL cl 0 vs) : ∃ k, Arv s s.heap b k ty z vs dv := by
  obtain ⟨cl, A⟩ := Arr.start ev hA
  have e := own_eqI hL
  have q : s.arrayAt? b = some cl := A.fin (Vm.Alike.refl _)
  simp only [Term.eval, ev, q, Option.bind_eq_bind, Option.bind_some] at e
  split at e
  · rename_i hs
    exact ⟨cl.cls, Arv.start hf A hs (Value.int.inj (Option.some.inj e)) hz hl (H cl A.1)⟩
  · cases e
theorem own_el {args : Array Value} {s : State} {t : Term} {b : Addr} {j v : Int32} {cl : Cell} (ev : t.eval args s none [] s = some (.ref b)) (h : (Cond.eq (.elem t (.int j)) (.int v)).value args s none s [] = some true) (hc : s.heap[b]? = some cl) : cl.slots[j.toNatClampNeg]? = some (.int v) := (elem_in (own_eqI h) ev rfl hc).2
theorem own_eqR {args : Array Value} {s : State} {t u : Term} {x : Addr} (hu : u.eval args s none [] s = some (.ref x)) (h : (Cond.eq t u).value args s none s [] = some true) : t.eval args s none [] s = some (.ref x) := by
  obtain ⟨v, y, e1, e2, k1, k2⟩ := cmp_v (Or.inl h)
  have e3 : y = .ref x := Option.some.inj (e2.symm.trans hu)
  subst e3
  have hv : v.isRef = true := k2.2
  have q := gotT (eq_R e1 e2 hv rfl) h
  rw [e1, q]
theorem own_elR {args : Array Value} {s : State} {t u : Term} {b x : Addr} {j : Int32} {cl : Cell} (ev : t.eval args s none [] s = some (.ref b)) (hu : u.eval args s none [] s = some (.ref x)) (h : (Cond.eq (.elem t (.int j)) u).value args s none s [] = some true) (hc : s.heap[b]? = some cl) : cl.slots[j.toNatClampNeg]? = some (.ref x) := (elem_in (own_eqR hu h) ev rfl hc).2
set_option maxRecDepth 65536 in
set_option maxHeartbeats 40000000 in
theorem comes_1 {Post : Tables → Env → Array Value → State → Outcome → State → Prop} (hpost : ∀ tb e args s v u, (limb_1_1.after args s (.returned v) u = true ∧ limb_1_2.after args s (.returned v) u = true ∧ True) → ReturnedEndW s (.returned v) u (Jvm.fieldLocs frame_1_writes args s ++ Jvm.arrayLocs frame_1_arrays args s ++ Jvm.staticLocs frame_1_statics s) 40 2048 → Post tb e args s (.returned v) u) :
    ArmFor flags0 classFile x code maxLocals ret World_1 tables_1 room_1 Calls_1 rest_1 Pre_1 Post := by
  intro l hfl _ _ p e ha hc hk s m args below hf hA hF happ hP
  obtain ⟨hcalls, hrest, hpre⟩ := hP
  obtain ⟨-, -, -, hnamed, -, -, -, hat⟩ := (Spec.applies_iff hf).mp happ
  obtain ⟨hg, hn⟩ := and_e (Cond.before_iff.mp (show (Jvm.Cond.and given_1 narrow_1).before args s = true from hpre))
  obtain ⟨hg_0, hg⟩ := and_e hg
  obtain ⟨w0, w1, w2, w3, w4, rfl⟩ : ∃ w0 w1 w2 w3 w4 : Value, args = #[w0, w1, w2, w3, w4] := by
    have hs : args.size = 5 := by simpa [Cond.value, given_1] using hg_0
    obtain ⟨L⟩ := args
    match L, hs with
    | [w0, w1, w2, w3, w4], _ => exact ⟨w0, w1, w2, w3, w4, rfl⟩
  obtain ⟨hg_1, hg⟩ := and_e hg
  obtain ⟨hg_2, hg⟩ := and_e hg
  obtain ⟨hg_3, hg⟩ := and_e hg
  obtain ⟨hg_4, hg⟩ := and_e hg
  have hg_5 := hg
  have hw := fun d (hd : d ∈ tables_1) => atoms_spec (ws := Jvm.Cond.code x code maxLocals ret :: tables_1) hat d (List.mem_cons_of_mem _ hd)
  have hfit : Fit s := fun {y c} hc i hi => by
    obtain ⟨ha, rfl⟩ := Array.getElem?_eq_some_iff.mp hc
    have q := List.all_eq_true.mp ((Array.all_eq_true_iff_forall_mem.mp hF) _ (Array.getElem_mem ha)) i (List.mem_range.mpr hi)
    simpa [Array.getElem?_eq_getElem hi] using q
  obtain ⟨hsets, hown0⟩ := atoms_of _ (rest_1_c_eq ▸ (show rest_1_c.before _ s = true from hrest))
  obtain ⟨i0, ei0⟩ := isL_v hg_1
  obtain rfl : w0 = (.long i0) := Option.some.inj ei0
  obtain ⟨i1, ei1⟩ := is_v hg_2
  obtain rfl : w1 = (.int i1) := Option.some.inj ei1
  obtain ⟨i2, ei2⟩ := is_v hg_3
  obtain rfl : w2 = (.int i2) := Option.some.inj ei2
  obtain ⟨i3, ei3⟩ := is_v hg_4
  obtain rfl : w3 = (.int i3) := Option.some.inj ei3
  obtain ⟨i4, ei4⟩ := is_v hg_5
  obtain rfl : w4 = (.int i4) := Option.some.inj ei4
  have hEW : EW s _ EL0 := (EW.cons (w36 hw) (by decide) EW.nil)
  have hCH : CHv s EL0 s.vm s.heap := CHv.start hEW hcalls.1 (hsets _ (List.mem_of_getElem? (i := 2) rfl)) (w25 hw) (w7 hw)
  obtain ⟨cs0, ecs⟩ := is_v (Cond.before_iff.mp (hsets _ (List.mem_of_getElem? (i := 1) rfl)))
  have SC := Sta.start ecs (Or.inl (hsets _ (List.mem_of_getElem? (i := 0) rfl)))
  have hcs : ¬ cs0 = 0 := fun q => by
    have h2 := not_v (Cond.before_iff.mp (hsets _ (List.mem_of_getElem? (i := 2) rfl)))
    rw [q] at ecs
    rw [eq_i ecs (Term.int_eval 0) rfl] at h2
    cases h2
  obtain ⟨ff, eff, hff⟩ := isR_v (Cond.before_iff.mp (hsets _ (List.mem_of_getElem? (i := 8) rfl)))
  have SF := Sta.start eff (Or.inl (hsets _ (List.mem_of_getElem? (i := 7) rfl)))
  obtain ⟨n, o, h1, h2, h3, _, L, rfl, ⟨N, -, rfl, -⟩, -, hq⟩ := c_law l s _ hw hEW s.heap.size i0 i1 i2 i3 i4 ff cs0 s.heap (Old.start s) SF hff SC hcs tables_1 p e ha hc hk s m _ below hf ((Spec.applies_iff_loose hf).mp happ).1 ⟨rfl, State.Warmed39.refl s, rfl, nofun, hCH⟩ trivial
  refine ⟨n, _, h1, h2, h3, hpost _ _ _ _ _ _ ⟨Cond.after_iff.mpr rfl, Cond.after_iff.mpr (eq_i res_at (Term.int_eval (1)) rfl), trivial⟩ ⟨hq.1, hq.2.1, hq.2.2.1, (hq.2.2.2.sift fun y hy => Or.inr (N y hy)).mono (by decide) (by decide)⟩⟩
theorem main_1_1 : Claimed_1_1 := comes_1 fun _ _ _ _ _ _ h hF => ⟨h.1, hF⟩
theorem main_1_2 : Claimed_1_2 := comes_1 fun _ _ _ _ _ _ h hF => ⟨h.2.1, hF⟩
end Jvm.Pilot.@@N@@
namespace Jvm.Pilot.@@N@@
open Jvm Jvm.ClassFile Sem Op Lib Jvm.Free Jvm.Stand Jvm.Pilot.@@N@@.Jvm.D
/-! MADE BY PROGRAM (witnessworld.py) out of the Statement's table words and the real class files: 23 classes; the members and pool entries that the words name. The judged class is class 1, her method 2. -/
namespace start1
open Jvm.ClassFile
def u (s : String) : CpInfo := .utf8 (stringToUtf16 s)
/-- a pool by its gaps: so many unusable entries, then the entry; so many at the end -/
def gap : Nat → List CpInfo → List CpInfo
  | 0, r => r
  | n + 1, r => .unusable :: gap n r
def poolList (es : List (Nat × CpInfo)) (last : Nat) : List CpInfo := es.foldr (fun e r => gap e.1 (e.2 :: r)) (gap last [])
def pool (es : List (Nat × CpInfo)) (last : Nat) : Array CpInfo := ⟨poolList es last⟩
def fileOf (pool : Array CpInfo) (this : Nat) (attrs : Array Attribute := #[]) (ms : Array MethodInfo := #[]) (fl : Nat := 33) (sup : Nat := 0) (ifs : Array Nat := #[]) (fds : Array FieldInfo := #[]) : ClassFile where
  minorVersion := 0
  majorVersion := 65
  constantPool := pool
  accessFlags := fl
  thisClass := this
  superClass := sup
  interfaces := ifs
  fields := fds
  methods := ms
  attributes := attrs
def plain (name : String) (sup : Option ClassId) : Class where
  name := name
  kind := .ordinary
  loader := none
  accessFlags := 33
  super := sup
  interfaces := #[]
  cf := none
  fields := #[]
  methods := #[]
  instanceTypes := #[]
  staticTypes := #[]
  resolved := #[]
  callSites := []
  init := .initialized
  statics := none
  mirror := none

def pool0 : Array CpInfo := pool [(5, u "<init>"), (0, u "()V"), (1, .class_ 10), (1, u "java/lang/Object")] 113

def k0c0 : Code := { maxStack := 0, maxLocals := 1, code := object_method_1_code, exceptionTable := #[], attributes := #[] }
def k0m0 : Method := { name := "<init>", desc := "()V", sig := { parameters := [], returnType := none }, accessFlags := 1, code := some k0c0 }
/-- java/lang/Object -/
def k0 : Class := { plain "java/lang/Object" none with
  accessFlags := 33
  interfaces := #[]
  cf := some (fileOf pool0 8 #[] #[{ accessFlags := 1, nameIndex := 5, descriptorIndex := 6, attributes := #[] }] 33 0 #[] #[])
  fields := #[]
  methods := #[k0m0]
  instanceTypes := #[]
  staticTypes := #[]
  resolved := Array.replicate 124 none
  statics := none }

def pool1 : Array CpInfo := pool [(2, .class_ 4), (1, u "java/lang/Object"), (0, u "<init>"), (0, u "()V"), (0, .class_ 8), (0, u "java/lang/String"), (0, .methodref 7 10), (0, .nameAndType 5 11), (0, u "([C)V"), (0, .long 2305843009213693951), (3, .long 9223372036854775807), (1, .methodref 19 20), (0, .class_ 21), (0, .nameAndType 22 23), (0, u "com/example/tallyard/tallyard/scenario/formats/TextIndexClearPinLaw"), (0, u "draw"), (0, u "(I)Ljava/lang/String;"), (0, .class_ 25), (0, u "com/example/tallyard/tallyard/scenario/formats/TextIndex"), (0, .methodref 24 27), (0, .nameAndType 5 28), (0, u "(J)V"), (0, .methodref 24 30), (0, .nameAndType 31 32), (0, u "add"), (0, u "(Ljava/lang/CharSequence;)I"), (0, .methodref 7 34), (0, .nameAndType 35 36), (0, u "equals"), (0, u "(Ljava/lang/Object;)Z"), (0, .methodref 24 38), (0, .nameAndType 39 32), (0, u "numberOf"), (0, .methodref 24 41), (0, .nameAndType 42 6), (0, u "clear"), (0, .methodref 24 44), (0, .nameAndType 45 46), (0, u "size"), (0, u "()I"), (3, u "law"), (0, u "(JIIII)Z")] 5

def k1m0 : Method := { name := "<init>", desc := "()V", sig := { parameters := [], returnType := none }, accessFlags := 2, code := none }
def k1c1 : Code := { maxStack := 6, maxLocals := 5, code := method_2_code, exceptionTable := #[], attributes := #[] }
def k1m1 : Method := { name := "draw", desc := "(I)Ljava/lang/String;", sig := { parameters := [.int], returnType := some (.object "java/lang/String") }, accessFlags := 10, code := some k1c1 }
def k1c2 : Code := { maxStack := 4, maxLocals := 17, code := code, exceptionTable := #[], attributes := #[] }
def k1m2 : Method := { name := "law", desc := "(JIIII)Z", sig := { parameters := [.long, .int, .int, .int, .int], returnType := some .boolean }, accessFlags := 9, code := some k1c2 }
/-- com/example/tallyard/tallyard/scenario/formats/TextIndexClearPinLaw -/
def k1 : Class := { plain "com/example/tallyard/tallyard/scenario/formats/TextIndexClearPinLaw" (some 0) with
  accessFlags := 49
  interfaces := #[]
  cf := some (fileOf pool1 19 #[] #[{ accessFlags := 2, nameIndex := 5, descriptorIndex := 6, attributes := #[] }, { accessFlags := 10, nameIndex := 22, descriptorIndex := 23, attributes := #[] }, { accessFlags := 9, nameIndex := 50, descriptorIndex := 51, attributes := #[] }] 49 2 #[] #[])
  fields := #[]
  methods := #[k1m0, k1m1, k1m2]
  instanceTypes := #[]
  staticTypes := #[]
  resolved := Array.replicate 57 none
  statics := none }

def pool2 : Array CpInfo := pool [(1, .class_ 2), (0, u "java/io/Serializable"), (0, .class_ 4), (0, u "java/lang/Object")] 2

/-- java/io/Serializable -/
def k2 : Class := { plain "java/io/Serializable" (some 0) with
  accessFlags := 1537
  interfaces := #[]
  cf := some (fileOf pool2 1 #[] #[] 1537 3 #[] #[])
  fields := #[]
  methods := #[]
  instanceTypes := #[]
  staticTypes := #[]
  resolved := Array.replicate 7 none
  statics := none }

def pool3 : Array CpInfo := pool [(1, .class_ 2), (0, u "java/lang/Comparable"), (0, .class_ 4), (0, u "java/lang/Object")] 7

/-- java/lang/Comparable -/
def k3 : Class := { plain "java/lang/Comparable" (some 0) with
  accessFlags := 1537
  interfaces := #[]
  cf := some (fileOf pool3 1 #[] #[] 1537 3 #[] #[])
  fields := #[]
  methods := #[]
  instanceTypes := #[]
  staticTypes := #[]
  resolved := Array.replicate 12 none
  statics := none }

def pool4 : Array CpInfo := pool [(2, .class_ 4), (1, u "java/lang/CharSequence"), (0, u "length"), (0, u "()I"), (38, u "charAt"), (0, u "(I)C"), (0, .class_ 48), (0, u "java/lang/CharSequence$1CodePointIterator"), (10, .class_ 60), (0, u "java/lang/CharSequence$1CharIterator"), (5, .class_ 67), (0, u "java/lang/Object")] 63

def k4m0 : Method := { name := "length", desc := "()I", sig := { parameters := [], returnType := some .int }, accessFlags := 1025, code := none }
def k4m1 : Method := { name := "charAt", desc := "(I)C", sig := { parameters := [.int], returnType := some .char }, accessFlags := 1025, code := none }
/-- java/lang/CharSequence -/
def k4 : Class := { plain "java/lang/CharSequence" (some 0) with
  accessFlags := 1537
  interfaces := #[]
  cf := some (fileOf pool4 2 #[.nestMembers #[47, 59]] #[{ accessFlags := 1025, nameIndex := 5, descriptorIndex := 6, attributes := #[] }, { accessFlags := 1025, nameIndex := 45, descriptorIndex := 46, attributes := #[] }] 1537 66 #[] #[])
  fields := #[]
  methods := #[k4m0, k4m1]
  instanceTypes := #[]
  staticTypes := #[]
  resolved := Array.replicate 131 none
  statics := none }

def pool5 : Array CpInfo := pool [(1, .class_ 2), (0, u "java/lang/constant/Constable"), (0, .class_ 4), (0, u "java/lang/Object")] 6

/-- java/lang/constant/Constable -/
def k5 : Class := { plain "java/lang/constant/Constable" (some 0) with
  accessFlags := 1537
  interfaces := #[]
  cf := some (fileOf pool5 1 #[] #[] 1537 3 #[] #[])
  fields := #[]
  methods := #[]
  instanceTypes := #[]
  staticTypes := #[]
  resolved := Array.replicate 11 none
  statics := none }

def pool6 : Array CpInfo := pool [(1, .class_ 2), (0, u "java/lang/constant/ConstantDesc"), (0, .class_ 4), (0, u "java/lang/Object")] 32

/-- java/lang/constant/ConstantDesc -/
def k6 : Class := { plain "java/lang/constant/ConstantDesc" (some 0) with
  accessFlags := 1537
  interfaces := #[]
  cf := some (fileOf pool6 1 #[] #[] 1537 3 #[] #[])
  fields := #[]
  methods := #[]
  instanceTypes := #[]
  staticTypes := #[]
  resolved := Array.replicate 37 none
  statics := none }

def pool7 : Array CpInfo := pool [(1, .methodref 2 3), (0, .class_ 4), (0, .nameAndType 5 6), (0, u "java/lang/Object"), (0, u "<init>"), (0, u "()V"), (0, .string 8), (0, u ""), (0, .fieldref 10 11), (0, .class_ 12), (0, .nameAndType 13 14), (0, u "java/lang/String"), (0, u "value"), (0, u "[B"), (0, .fieldref 10 16), (0, .nameAndType 17 18), (0, u "coder"), (0, u "B"), (2, u "hash"), (0, u "I"), (2, u "hashIsZero"), (0, u "Z"), (0, .methodref 10 28), (0, .nameAndType 5 29), (0, u "([CIILjava/lang/Void;)V"), (8, .fieldref 10 39), (0, .nameAndType 40 26), (0, u "COMPACT_STRINGS"), (1, .class_ 44), (1, u "java/lang/StringUTF16"), (0, u "compress"), (1, .methodref 42 48), (0, .nameAndType 49 50), (0, u "coderFromArrayLen"), (0, u "([BI)B"), (56, .class_ 109), (1, u "java/lang/StringLatin1"), (32, u "()Z"), (34, .methodref 42 178), (0, .nameAndType 45 179), (0, u "([CII)[B"), (154, u "()I"), (0, .methodref 10 336), (0, .nameAndType 17 337), (0, u "()B"), (25, u "([BI)C"), (27, u "(II)V"), (35, u "(I)C"), (64, .methodref 10 493), (0, .nameAndType 494 142), (0, u "isLatin1"), (0, .methodref 107 496), (0, .nameAndType 497 363), (0, u "charAt"), (3, u "checkIndex"), (5, u "length"), (33, .methodref 107 542), (0, .nameAndType 543 544), (0, u "equals"), (0, u "([B[B)Z"), (28, u "(Ljava/lang/Object;)Z"), (1, .class_ 576), (0, u "java/lang/CharSequence"), (22, u "CASE_INSENSITIVE_ORDER"), (0, u "Ljava/util/Comparator;"), (409, u "([C)V"), (42, .fieldref 1054 1055), (0, .class_ 1056), (0, .nameAndType 1057 1058), (0, u "jdk/internal/util/Preconditions"), (0, u "SIOOBE_FORMATTER"), (0, u "Ljava/util/function/BiFunction;"), (0, .methodref 1054 1060), (0, .nameAndType 501 1061), (0, u "(IILjava/util/function/BiFunction;)I"), (39, u "serialPersistentFields"), (0, u "[Ljava/io/ObjectStreamField;"), (0, .class_ 1104), (0, u "java/lang/String$CaseInsensitiveComparator"), (1, .class_ 1107), (0, u "java/io/Serializable"), (0, .class_ 1109), (0, u "java/lang/Comparable"), (0, .class_ 1111), (0, u "java/lang/constant/Constable"), (0, .class_ 1113), (0, u "java/lang/constant/ConstantDesc"), (2, u "serialVersionUID"), (0, u "J"), (3, u "REPL"), (0, u "C"), (2, u "LATIN1"), (1, u "UTF16")] 323

def k7m0 : Method := { name := "<init>", desc := "()V", sig := { parameters := [], returnType := none }, accessFlags := 1, code := none }
def k7c1 : Code := { maxStack := 5, maxLocals := 2, code := jdk_42_method_3_code, exceptionTable := #[], attributes := #[] }
def k7m1 : Method := { name := "<init>", desc := "([C)V", sig := { parameters := [(.array .char)], returnType := none }, accessFlags := 1, code := some k7c1 }
def k7c2 : Code := { maxStack := 2, maxLocals := 1, code := jdk_42_method_54_code, exceptionTable := #[], attributes := #[] }
def k7m2 : Method := { name := "length", desc := "()I", sig := { parameters := [], returnType := some .int }, accessFlags := 1, code := some k7c2 }
def k7c3 : Code := { maxStack := 2, maxLocals := 2, code := jdk_42_method_56_code, exceptionTable := #[], attributes := #[] }
def k7m3 : Method := { name := "charAt", desc := "(I)C", sig := { parameters := [.int], returnType := some .char }, accessFlags := 1, code := some k7c3 }
def k7c4 : Code := { maxStack := 2, maxLocals := 3, code := jdk_42_method_66_code, exceptionTable := #[], attributes := #[] }
def k7m4 : Method := { name := "equals", desc := "(Ljava/lang/Object;)Z", sig := { parameters := [(.object "java/lang/Object")], returnType := some .boolean }, accessFlags := 1, code := some k7c4 }
def k7c5 : Code := { maxStack := 4, maxLocals := 6, code := jdk_42_method_149_code, exceptionTable := #[], attributes := #[] }
def k7m5 : Method := { name := "<init>", desc := "([CIILjava/lang/Void;)V", sig := { parameters := [(.array .char), .int, .int, (.object "java/lang/Void")], returnType := none }, accessFlags := 2, code := some k7c5 }
def k7c6 : Code := { maxStack := 1, maxLocals := 1, code := jdk_42_method_152_code, exceptionTable := #[], attributes := #[] }
def k7m6 : Method := { name := "coder", desc := "()B", sig := { parameters := [], returnType := some .byte }, accessFlags := 0, code := some k7c6 }
def k7c7 : Code := { maxStack := 1, maxLocals := 1, code := jdk_42_method_154_code, exceptionTable := #[], attributes := #[] }
def k7m7 : Method := { name := "isLatin1", desc := "()Z", sig := { parameters := [], returnType := some .boolean }, accessFlags := 0, code := some k7c7 }
def k7c8 : Code := { maxStack := 3, maxLocals := 2, code := jdk_42_method_155_code, exceptionTable := #[], attributes := #[] }
def k7m8 : Method := { name := "checkIndex", desc := "(II)V", sig := { parameters := [.int, .int], returnType := none }, accessFlags := 8, code := some k7c8 }
/-- java/lang/String -/
def k7 : Class := { plain "java/lang/String" (some 0) with
  accessFlags := 49
  interfaces := #[2, 3, 4, 5, 6]
  cf := some (fileOf pool7 10 #[.nestMembers #[1103]] #[{ accessFlags := 1, nameIndex := 5, descriptorIndex := 6, attributes := #[] }, { accessFlags := 1, nameIndex := 5, descriptorIndex := 1010, attributes := #[] }, { accessFlags := 1, nameIndex := 507, descriptorIndex := 334, attributes := #[] }, { accessFlags := 1, nameIndex := 497, descriptorIndex := 427, attributes := #[] }, { accessFlags := 1, nameIndex := 543, descriptorIndex := 573, attributes := #[] }, { accessFlags := 2, nameIndex := 5, descriptorIndex := 29, attributes := #[] }, { accessFlags := 0, nameIndex := 17, descriptorIndex := 337, attributes := #[] }, { accessFlags := 0, nameIndex := 494, descriptorIndex := 142, attributes := #[] }, { accessFlags := 8, nameIndex := 501, descriptorIndex := 391, attributes := #[] }] 49 2 #[1106, 1108, 575, 1110, 1112] #[{ accessFlags := 18, nameIndex := 13, descriptorIndex := 14, attributes := #[] }, { accessFlags := 18, nameIndex := 17, descriptorIndex := 18, attributes := #[] }, { accessFlags := 2, nameIndex := 21, descriptorIndex := 22, attributes := #[] }, { accessFlags := 2, nameIndex := 25, descriptorIndex := 26, attributes := #[] }, { accessFlags := 26, nameIndex := 1116, descriptorIndex := 1117, attributes := #[] }, { accessFlags := 24, nameIndex := 40, descriptorIndex := 26, attributes := #[] }, { accessFlags := 26, nameIndex := 1101, descriptorIndex := 1102, attributes := #[] }, { accessFlags := 26, nameIndex := 1121, descriptorIndex := 1122, attributes := #[] }, { accessFlags := 25, nameIndex := 599, descriptorIndex := 600, attributes := #[] }, { accessFlags := 24, nameIndex := 1125, descriptorIndex := 18, attributes := #[] }, { accessFlags := 24, nameIndex := 1127, descriptorIndex := 18, attributes := #[] }])
  fields := #[{ name := "value", type := (.array .byte), accessFlags := 18, slot := 0, constantValue := 0 }, { name := "coder", type := .byte, accessFlags := 18, slot := 1, constantValue := 0 }, { name := "hash", type := .int, accessFlags := 2, slot := 2, constantValue := 0 }, { name := "hashIsZero", type := .boolean, accessFlags := 2, slot := 3, constantValue := 0 }, { name := "serialVersionUID", type := .long, accessFlags := 26, slot := 0, constantValue := 0 }, { name := "COMPACT_STRINGS", type := .boolean, accessFlags := 24, slot := 1, constantValue := 0 }, { name := "serialPersistentFields", type := (.array (.object "java/io/ObjectStreamField")), accessFlags := 26, slot := 2, constantValue := 0 }, { name := "REPL", type := .char, accessFlags := 26, slot := 3, constantValue := 0 }, { name := "CASE_INSENSITIVE_ORDER", type := (.object "java/util/Comparator"), accessFlags := 25, slot := 4, constantValue := 0 }, { name := "LATIN1", type := .byte, accessFlags := 24, slot := 5, constantValue := 0 }, { name := "UTF16", type := .byte, accessFlags := 24, slot := 6, constantValue := 0 }]
  methods := #[k7m0, k7m1, k7m2, k7m3, k7m4, k7m5, k7m6, k7m7, k7m8]
  instanceTypes := #[(.array .byte), .byte, .int, .boolean]
  staticTypes := #[.long, .boolean, (.array (.object "java/io/ObjectStreamField")), .char, (.object "java/util/Comparator"), .byte, .byte]
  resolved := Array.replicate 1451 none
  statics := some 0 }

def pool8 : Array CpInfo := pool [(6, .class_ 8), (1, u "java/lang/Object"), (0, u "<init>"), (0, u "()V"), (1, .class_ 14), (1, u "java/lang/StringUTF16"), (31, u "$assertionsDisabled"), (0, u "Z"), (13, u "HI_BYTE_SHIFT"), (0, u "I"), (2, u "LO_BYTE_SHIFT"), (49, .methodref 12 116), (0, .nameAndType 117 118), (0, u "compress"), (0, u "([CI[BII)I"), (3, u "([CII)[B"), (138, u "coderFromArrayLen"), (0, u "([BI)B"), (106, .class_ 371), (1, u "java/lang/StringUTF16$LinesSpliterator"), (58, u "MAX_LENGTH"), (196, .class_ 628), (0, u "java/lang/StringUTF16$CodePointsSpliterator"), (0, .class_ 630), (0, u "java/lang/StringUTF16$CharsSpliterator")] 4

def k8m0 : Method := { name := "<init>", desc := "()V", sig := { parameters := [], returnType := none }, accessFlags := 0, code := none }
def k8c1 : Code := { maxStack := 2, maxLocals := 2, code := jdk_52_method_15_code, exceptionTable := #[], attributes := #[] }
def k8m1 : Method := { name := "coderFromArrayLen", desc := "([BI)B", sig := { parameters := [(.array .byte), .int], returnType := some .byte }, accessFlags := 8, code := some k8c1 }
def k8c2 : Code := { maxStack := 5, maxLocals := 6, code := jdk_52_method_16_code, exceptionTable := #[], attributes := #[] }
def k8m2 : Method := { name := "compress", desc := "([CII)[B", sig := { parameters := [(.array .char), .int, .int], returnType := some (.array .byte) }, accessFlags := 9, code := some k8c2 }
def k8c3 : Code := { maxStack := 3, maxLocals := 7, code := jdk_52_method_21_code, exceptionTable := #[], attributes := #[] }
def k8m3 : Method := { name := "compress", desc := "([CI[BII)I", sig := { parameters := [(.array .char), .int, (.array .byte), .int, .int], returnType := some .int }, accessFlags := 9, code := some k8c3 }
/-- java/lang/StringUTF16 -/
def k8 : Class := { plain "java/lang/StringUTF16" (some 0) with
  accessFlags := 48
  interfaces := #[]
  cf := some (fileOf pool8 12 #[.nestMembers #[627, 629, 369]] #[{ accessFlags := 0, nameIndex := 9, descriptorIndex := 10, attributes := #[] }, { accessFlags := 8, nameIndex := 261, descriptorIndex := 262, attributes := #[] }, { accessFlags := 9, nameIndex := 117, descriptorIndex := 122, attributes := #[] }, { accessFlags := 9, nameIndex := 117, descriptorIndex := 118, attributes := #[] }] 48 6 #[] #[{ accessFlags := 26, nameIndex := 61, descriptorIndex := 62, attributes := #[] }, { accessFlags := 26, nameIndex := 65, descriptorIndex := 62, attributes := #[] }, { accessFlags := 24, nameIndex := 430, descriptorIndex := 62, attributes := #[] }, { accessFlags := 4120, nameIndex := 46, descriptorIndex := 47, attributes := #[] }])
  fields := #[{ name := "HI_BYTE_SHIFT", type := .int, accessFlags := 26, slot := 0, constantValue := 0 }, { name := "LO_BYTE_SHIFT", type := .int, accessFlags := 26, slot := 1, constantValue := 0 }, { name := "MAX_LENGTH", type := .int, accessFlags := 24, slot := 2, constantValue := 0 }, { name := "$assertionsDisabled", type := .boolean, accessFlags := 4120, slot := 3, constantValue := 0 }]
  methods := #[k8m0, k8m1, k8m2, k8m3]
  instanceTypes := #[]
  staticTypes := #[.int, .int, .int, .boolean]
  resolved := Array.replicate 635 none
  statics := none }

def pool9 : Array CpInfo := pool [(9, .class_ 10), (0, u "com/example/tallyard/tallyard/scenario/formats/TextIndex"), (0, .long 2305843009213693951), (4, u "(JJ)J"), (2, u "<init>"), (0, u "(J)V"), (0, .methodref 22 23), (0, .class_ 24), (0, .nameAndType 19 25), (0, u "java/lang/Object"), (0, u "()V"), (0, .fieldref 9 27), (0, .nameAndType 28 29), (0, u "chars"), (0, u "[C"), (0, .fieldref 9 31), (0, .nameAndType 32 33), (0, u "starts"), (0, u "[I"), (0, .fieldref 9 35), (0, .nameAndType 36 37), (0, u "buckets"), (0, u "[J"), (0, .fieldref 9 39), (0, .nameAndType 40 37), (0, u "earlier"), (0, .fieldref 9 42), (0, .nameAndType 43 33), (0, u "hashes"), (0, .fieldref 9 45), (0, .nameAndType 46 47), (0, u "lastFound"), (0, u "I"), (0, .fieldref 9 49), (0, .nameAndType 50 51), (0, u "base"), (0, u "J"), (0, .fieldref 9 53), (0, .nameAndType 54 47), (0, u "count"), (0, .fieldref 9 56), (0, .nameAndType 57 58), (0, u "repeating"), (0, u "Z"), (0, .methodref 9 60), (0, .nameAndType 61 62), (0, u "holds"), (0, u "(ILjava/lang/CharSequence;)Z"), (0, .methodref 9 64), (0, .nameAndType 65 66), (0, u "hashOf"), (0, u "(Ljava/lang/CharSequence;)I"), (0, .methodref 9 68), (0, .nameAndType 69 70), (0, u "find"), (0, u "(Ljava/lang/CharSequence;I)I"), (0, .methodref 9 72), (0, .nameAndType 73 66), (0, u "keep"), (9, .methodref 9 84), (0, .nameAndType 85 86), (0, u "link"), (0, u "(I)V"), (11, .class_ 99), (0, u "com/example/tallyard/tallyard/scenario/formats/TextIndex$Chars"), (1, .interfaceMethodref 102 103), (0, .class_ 104), (0, .nameAndType 105 106), (0, u "java/lang/CharSequence"), (0, u "length"), (0, u "()I"), (0, .interfaceMethodref 102 108), (0, .nameAndType 109 110), (0, u "charAt"), (0, u "(I)C"), (0, .methodref 9 112), (0, .nameAndType 113 16), (0, u "productModPrime"), (0, .methodref 115 116), (0, .class_ 117), (0, .nameAndType 118 16), (0, u "java/lang/Math"), (0, u "multiplyHigh"), (0, .integer 1073741824), (6, .long 2147483639), (3, .long 2), (19, u "MOST_CHARS"), (2, u "MOST_TEXTS"), (0, u "PRIME"), (2, u "size"), (0, u "numberOf"), (1, u "add"), (1, u "clear")] 22

def k9m0 : Method := { name := "<init>", desc := "()V", sig := { parameters := [], returnType := none }, accessFlags := 1, code := none }
def k9c1 : Code := { maxStack := 3, maxLocals := 3, code := prog_87_method_2_code, exceptionTable := #[], attributes := #[] }
def k9m1 : Method := { name := "<init>", desc := "(J)V", sig := { parameters := [.long], returnType := none }, accessFlags := 0, code := some k9c1 }
def k9c2 : Code := { maxStack := 1, maxLocals := 1, code := prog_87_method_3_code, exceptionTable := #[], attributes := #[] }
def k9m2 : Method := { name := "size", desc := "()I", sig := { parameters := [], returnType := some .int }, accessFlags := 1, code := some k9c2 }
def k9c3 : Code := { maxStack := 4, maxLocals := 3, code := prog_87_method_4_code, exceptionTable := #[], attributes := #[] }
def k9m3 : Method := { name := "numberOf", desc := "(Ljava/lang/CharSequence;)I", sig := { parameters := [(.object "java/lang/CharSequence")], returnType := some .int }, accessFlags := 1, code := some k9c3 }
def k9c4 : Code := { maxStack := 4, maxLocals := 6, code := prog_87_method_5_code, exceptionTable := #[], attributes := #[] }
def k9m4 : Method := { name := "add", desc := "(Ljava/lang/CharSequence;)I", sig := { parameters := [(.object "java/lang/CharSequence")], returnType := some .int }, accessFlags := 1, code := some k9c4 }
def k9c5 : Code := { maxStack := 4, maxLocals := 2, code := prog_87_method_6_code, exceptionTable := #[], attributes := #[] }
def k9m5 : Method := { name := "clear", desc := "()V", sig := { parameters := [], returnType := none }, accessFlags := 0, code := some k9c5 }
def k9c6 : Code := { maxStack := 5, maxLocals := 8, code := prog_87_method_9_code, exceptionTable := #[], attributes := #[] }
def k9m6 : Method := { name := "hashOf", desc := "(Ljava/lang/CharSequence;)I", sig := { parameters := [(.object "java/lang/CharSequence")], returnType := some .int }, accessFlags := 2, code := some k9c6 }
def k9c7 : Code := { maxStack := 7, maxLocals := 10, code := prog_87_method_10_code, exceptionTable := #[], attributes := #[] }
def k9m7 : Method := { name := "productModPrime", desc := "(JJ)J", sig := { parameters := [.long, .long], returnType := some .long }, accessFlags := 10, code := some k9c7 }
def k9c8 : Code := { maxStack := 4, maxLocals := 5, code := prog_87_method_11_code, exceptionTable := #[], attributes := #[] }
def k9m8 : Method := { name := "find", desc := "(Ljava/lang/CharSequence;I)I", sig := { parameters := [(.object "java/lang/CharSequence"), .int], returnType := some .int }, accessFlags := 2, code := some k9c8 }
def k9c9 : Code := { maxStack := 6, maxLocals := 3, code := prog_87_method_12_code, exceptionTable := #[], attributes := #[] }
def k9m9 : Method := { name := "link", desc := "(I)V", sig := { parameters := [.int], returnType := none }, accessFlags := 2, code := some k9c9 }
def k9c10 : Code := { maxStack := 3, maxLocals := 5, code := prog_87_method_13_code, exceptionTable := #[], attributes := #[] }
def k9m10 : Method := { name := "holds", desc := "(ILjava/lang/CharSequence;)Z", sig := { parameters := [.int, (.object "java/lang/CharSequence")], returnType := some .boolean }, accessFlags := 2, code := some k9c10 }
def k9c11 : Code := { maxStack := 6, maxLocals := 6, code := prog_87_method_14_code, exceptionTable := #[], attributes := #[] }
def k9m11 : Method := { name := "keep", desc := "(Ljava/lang/CharSequence;)I", sig := { parameters := [(.object "java/lang/CharSequence")], returnType := some .int }, accessFlags := 2, code := some k9c11 }
/-- com/example/tallyard/tallyard/scenario/formats/TextIndex -/
def k9 : Class := { plain "com/example/tallyard/tallyard/scenario/formats/TextIndex" (some 0) with
  accessFlags := 49
  interfaces := #[]
  cf := some (fileOf pool9 9 #[.nestMembers #[98]] #[{ accessFlags := 1, nameIndex := 19, descriptorIndex := 25, attributes := #[] }, { accessFlags := 0, nameIndex := 19, descriptorIndex := 20, attributes := #[] }, { accessFlags := 1, nameIndex := 157, descriptorIndex := 106, attributes := #[] }, { accessFlags := 1, nameIndex := 158, descriptorIndex := 66, attributes := #[] }, { accessFlags := 1, nameIndex := 160, descriptorIndex := 66, attributes := #[] }, { accessFlags := 0, nameIndex := 162, descriptorIndex := 25, attributes := #[] }, { accessFlags := 2, nameIndex := 65, descriptorIndex := 66, attributes := #[] }, { accessFlags := 10, nameIndex := 113, descriptorIndex := 16, attributes := #[] }, { accessFlags := 2, nameIndex := 69, descriptorIndex := 70, attributes := #[] }, { accessFlags := 2, nameIndex := 85, descriptorIndex := 86, attributes := #[] }, { accessFlags := 2, nameIndex := 61, descriptorIndex := 62, attributes := #[] }, { accessFlags := 2, nameIndex := 73, descriptorIndex := 66, attributes := #[] }] 49 22 #[] #[{ accessFlags := 24, nameIndex := 150, descriptorIndex := 47, attributes := #[] }, { accessFlags := 24, nameIndex := 153, descriptorIndex := 47, attributes := #[] }, { accessFlags := 26, nameIndex := 154, descriptorIndex := 51, attributes := #[] }, { accessFlags := 2, nameIndex := 28, descriptorIndex := 29, attributes := #[] }, { accessFlags := 2, nameIndex := 32, descriptorIndex := 33, attributes := #[] }, { accessFlags := 2, nameIndex := 54, descriptorIndex := 47, attributes := #[] }, { accessFlags := 2, nameIndex := 36, descriptorIndex := 37, attributes := #[] }, { accessFlags := 2, nameIndex := 40, descriptorIndex := 37, attributes := #[] }, { accessFlags := 2, nameIndex := 43, descriptorIndex := 33, attributes := #[] }, { accessFlags := 2, nameIndex := 46, descriptorIndex := 47, attributes := #[] }, { accessFlags := 2, nameIndex := 57, descriptorIndex := 58, attributes := #[] }, { accessFlags := 18, nameIndex := 50, descriptorIndex := 51, attributes := #[] }])
  fields := #[{ name := "MOST_CHARS", type := .int, accessFlags := 24, slot := 0, constantValue := 0 }, { name := "MOST_TEXTS", type := .int, accessFlags := 24, slot := 1, constantValue := 0 }, { name := "PRIME", type := .long, accessFlags := 26, slot := 2, constantValue := 0 }, { name := "chars", type := (.array .char), accessFlags := 2, slot := 0, constantValue := 0 }, { name := "starts", type := (.array .int), accessFlags := 2, slot := 1, constantValue := 0 }, { name := "count", type := .int, accessFlags := 2, slot := 2, constantValue := 0 }, { name := "buckets", type := (.array .long), accessFlags := 2, slot := 3, constantValue := 0 }, { name := "earlier", type := (.array .long), accessFlags := 2, slot := 4, constantValue := 0 }, { name := "hashes", type := (.array .int), accessFlags := 2, slot := 5, constantValue := 0 }, { name := "lastFound", type := .int, accessFlags := 2, slot := 6, constantValue := 0 }, { name := "repeating", type := .boolean, accessFlags := 2, slot := 7, constantValue := 0 }, { name := "base", type := .long, accessFlags := 18, slot := 8, constantValue := 0 }]
  methods := #[k9m0, k9m1, k9m2, k9m3, k9m4, k9m5, k9m6, k9m7, k9m8, k9m9, k9m10, k9m11]
  instanceTypes := #[(.array .char), (.array .int), .int, (.array .long), (.array .long), (.array .int), .int, .boolean, .long]
  staticTypes := #[.int, .int, .long]
  resolved := Array.replicate 185 none
  statics := none }

def pool10 : Array CpInfo := pool [(1, .class_ 2), (0, u "java/lang/String"), (1, .class_ 6), (1, u "java/lang/Object"), (0, u "<init>"), (0, u "()V"), (0, .methodref 1 10), (0, .nameAndType 11 12), (0, u "checkIndex"), (0, u "(II)V"), (1, .class_ 16), (1, u "java/lang/StringLatin1"), (36, u "([BI)C"), (67, u "$assertionsDisabled"), (0, u "Z"), (98, .class_ 223), (1, u "java/lang/StringLatin1$LinesSpliterator"), (28, u "charAt"), (28, u "equals"), (0, u "([B[B)Z"), (107, .class_ 391), (0, u "java/lang/StringLatin1$CharsSpliterator")] 3

def k10m0 : Method := { name := "<init>", desc := "()V", sig := { parameters := [], returnType := none }, accessFlags := 0, code := none }
def k10c1 : Code := { maxStack := 2, maxLocals := 2, code := jdk_43_method_2_code, exceptionTable := #[], attributes := #[] }
def k10m1 : Method := { name := "charAt", desc := "([BI)C", sig := { parameters := [(.array .byte), .int], returnType := some .char }, accessFlags := 9, code := some k10c1 }
def k10c2 : Code := { maxStack := 3, maxLocals := 3, code := jdk_43_method_13_code, exceptionTable := #[], attributes := #[] }
def k10m2 : Method := { name := "equals", desc := "([B[B)Z", sig := { parameters := [(.array .byte), (.array .byte)], returnType := some .boolean }, accessFlags := 9, code := some k10c2 }
/-- java/lang/StringLatin1 -/
def k10 : Class := { plain "java/lang/StringLatin1" (some 0) with
  accessFlags := 48
  interfaces := #[]
  cf := some (fileOf pool10 14 #[.nestMembers #[390, 221]] #[{ accessFlags := 0, nameIndex := 7, descriptorIndex := 8, attributes := #[] }, { accessFlags := 9, nameIndex := 252, descriptorIndex := 53, attributes := #[] }, { accessFlags := 9, nameIndex := 281, descriptorIndex := 282, attributes := #[] }] 48 4 #[] #[{ accessFlags := 4120, nameIndex := 121, descriptorIndex := 122, attributes := #[] }])
  fields := #[{ name := "$assertionsDisabled", type := .boolean, accessFlags := 4120, slot := 0, constantValue := 0 }]
  methods := #[k10m0, k10m1, k10m2]
  instanceTypes := #[]
  staticTypes := #[.boolean]
  resolved := Array.replicate 395 none
  statics := none }

def pool11 : Array CpInfo := pool [(2, .class_ 4), (1, u "java/lang/Object"), (0, u "<init>"), (0, u "()V"), (17, .class_ 26), (1, u "jdk/internal/util/Preconditions"), (6, u "checkIndex"), (21, .class_ 56), (0, u "jdk/internal/util/Preconditions$4"), (57, .class_ 115), (0, u "jdk/internal/util/Preconditions$1"), (7, u "SIOOBE_FORMATTER"), (0, u "Ljava/util/function/BiFunction;"), (0, .class_ 126), (0, u "jdk/internal/util/Preconditions$2"), (3, u "AIOOBE_FORMATTER"), (0, .class_ 132), (0, u "jdk/internal/util/Preconditions$3"), (3, u "IOOBE_FORMATTER"), (41, u "(IILjava/util/function/BiFunction;)I")] 15

def k11m0 : Method := { name := "<init>", desc := "()V", sig := { parameters := [], returnType := none }, accessFlags := 1, code := none }
def k11c1 : Code := { maxStack := 3, maxLocals := 3, code := jdk_41_method_11_code, exceptionTable := #[], attributes := #[] }
def k11m1 : Method := { name := "checkIndex", desc := "(IILjava/util/function/BiFunction;)I", sig := { parameters := [.int, .int, (.object "java/util/function/BiFunction")], returnType := some .int }, accessFlags := 9, code := some k11c1 }
/-- jdk/internal/util/Preconditions -/
def k11 : Class := { plain "jdk/internal/util/Preconditions" (some 0) with
  accessFlags := 33
  interfaces := #[]
  cf := some (fileOf pool11 24 #[.nestMembers #[55, 131, 125, 114]] #[{ accessFlags := 1, nameIndex := 5, descriptorIndex := 6, attributes := #[] }, { accessFlags := 9, nameIndex := 33, descriptorIndex := 178, attributes := #[] }] 33 2 #[] #[{ accessFlags := 25, nameIndex := 123, descriptorIndex := 124, attributes := #[] }, { accessFlags := 25, nameIndex := 130, descriptorIndex := 124, attributes := #[] }, { accessFlags := 25, nameIndex := 136, descriptorIndex := 124, attributes := #[] }])
  fields := #[{ name := "SIOOBE_FORMATTER", type := (.object "java/util/function/BiFunction"), accessFlags := 25, slot := 0, constantValue := 0 }, { name := "AIOOBE_FORMATTER", type := (.object "java/util/function/BiFunction"), accessFlags := 25, slot := 1, constantValue := 0 }, { name := "IOOBE_FORMATTER", type := (.object "java/util/function/BiFunction"), accessFlags := 25, slot := 2, constantValue := 0 }]
  methods := #[k11m0, k11m1]
  instanceTypes := #[]
  staticTypes := #[(.object "java/util/function/BiFunction"), (.object "java/util/function/BiFunction"), (.object "java/util/function/BiFunction")]
  resolved := Array.replicate 194 none
  statics := some 1 }

def pool12 : Array CpInfo := pool [(1, .class_ 2), (0, u "java/lang/Math"), (1, .class_ 6), (1, u "java/lang/Object"), (0, u "<init>"), (0, u "()V"), (89, .class_ 100), (1, u "java/lang/Math$RandomNumberGeneratorHolder"), (20, u "(JJ)J"), (16, .long 4294967295), (3, u "multiplyHigh"), (29, u "negativeZeroFloatBits"), (0, u "J"), (2, u "negativeZeroDoubleBits"), (68, u "$assertionsDisabled"), (0, u "Z"), (91, u "twoToTheDoubleScaleDown"), (0, u "D"), (4, u "twoToTheDoubleScaleUp"), (9, u "E"), (3, u "PI"), (2, u "TAU"), (2, u "DEGREES_TO_RADIANS"), (0, u "RADIANS_TO_DEGREES")] 94

def k12m0 : Method := { name := "<init>", desc := "()V", sig := { parameters := [], returnType := none }, accessFlags := 2, code := none }
def k12c1 : Code := { maxStack := 6, maxLocals := 20, code := jdk_29_method_45_code, exceptionTable := #[], attributes := #[] }
def k12m1 : Method := { name := "multiplyHigh", desc := "(JJ)J", sig := { parameters := [.long, .long], returnType := some .long }, accessFlags := 9, code := some k12c1 }
/-- java/lang/Math -/
def k12 : Class := { plain "java/lang/Math" (some 0) with
  accessFlags := 49
  interfaces := #[]
  cf := some (fileOf pool12 1 #[.nestMembers #[98]] #[{ accessFlags := 2, nameIndex := 7, descriptorIndex := 8, attributes := #[] }, { accessFlags := 9, nameIndex := 142, descriptorIndex := 121, attributes := #[] }] 49 4 #[] #[{ accessFlags := 25, nameIndex := 354, descriptorIndex := 339, attributes := #[] }, { accessFlags := 25, nameIndex := 358, descriptorIndex := 339, attributes := #[] }, { accessFlags := 25, nameIndex := 361, descriptorIndex := 339, attributes := #[] }, { accessFlags := 26, nameIndex := 364, descriptorIndex := 339, attributes := #[] }, { accessFlags := 26, nameIndex := 365, descriptorIndex := 339, attributes := #[] }, { accessFlags := 26, nameIndex := 172, descriptorIndex := 173, attributes := #[] }, { accessFlags := 26, nameIndex := 176, descriptorIndex := 173, attributes := #[] }, { accessFlags := 8, nameIndex := 344, descriptorIndex := 339, attributes := #[] }, { accessFlags := 8, nameIndex := 338, descriptorIndex := 339, attributes := #[] }, { accessFlags := 4120, nameIndex := 245, descriptorIndex := 246, attributes := #[] }])
  fields := #[{ name := "E", type := .double, accessFlags := 25, slot := 0, constantValue := 0 }, { name := "PI", type := .double, accessFlags := 25, slot := 1, constantValue := 0 }, { name := "TAU", type := .double, accessFlags := 25, slot := 2, constantValue := 0 }, { name := "DEGREES_TO_RADIANS", type := .double, accessFlags := 26, slot := 3, constantValue := 0 }, { name := "RADIANS_TO_DEGREES", type := .double, accessFlags := 26, slot := 4, constantValue := 0 }, { name := "negativeZeroFloatBits", type := .long, accessFlags := 26, slot := 5, constantValue := 0 }, { name := "negativeZeroDoubleBits", type := .long, accessFlags := 26, slot := 6, constantValue := 0 }, { name := "twoToTheDoubleScaleUp", type := .double, accessFlags := 8, slot := 7, constantValue := 0 }, { name := "twoToTheDoubleScaleDown", type := .double, accessFlags := 8, slot := 8, constantValue := 0 }, { name := "$assertionsDisabled", type := .boolean, accessFlags := 4120, slot := 9, constantValue := 0 }]
  methods := #[k12m0, k12m1]
  instanceTypes := #[]
  staticTypes := #[.double, .double, .double, .double, .double, .long, .long, .double, .double, .boolean]
  resolved := Array.replicate 460 none
  statics := none }

def pool13 : Array CpInfo := pool [(9, u "<init>"), (6, .class_ 18), (1, u "java/lang/Object"), (0, u "()V"), (1, .class_ 23), (1, u "jdk/internal/util/ArraysSupport"), (0, u "LOG2_ARRAY_LONG_INDEX_SCALE"), (0, u "I"), (2, u "U"), (0, u "Ljdk/internal/misc/Unsafe;"), (8, u "BIG_ENDIAN"), (0, u "Z"), (8, u "LOG2_BYTE_BIT_SIZE"), (4, u "LOG2_ARRAY_INT_INDEX_SCALE"), (54, u "JLA"), (0, u "Ljdk/internal/access/JavaLangAccess;"), (11, u "LOG2_ARRAY_BOOLEAN_INDEX_SCALE"), (9, u "LOG2_ARRAY_BYTE_INDEX_SCALE"), (5, u "LOG2_ARRAY_CHAR_INDEX_SCALE"), (5, u "LOG2_ARRAY_SHORT_INDEX_SCALE"), (18, u "LOG2_ARRAY_FLOAT_INDEX_SCALE"), (24, u "LOG2_ARRAY_DOUBLE_INDEX_SCALE"), (89, u "T_BOOLEAN"), (2, u "T_CHAR"), (1, u "T_FLOAT"), (1, u "T_DOUBLE"), (1, u "T_BYTE"), (1, u "T_SHORT"), (1, u "T_INT"), (1, u "T_LONG"), (1, u "SOFT_MAX_ARRAY_LENGTH")] 83

def k13m0 : Method := { name := "<init>", desc := "()V", sig := { parameters := [], returnType := none }, accessFlags := 2, code := none }
/-- jdk/internal/util/ArraysSupport -/
def k13 : Class := { plain "jdk/internal/util/ArraysSupport" (some 0) with
  accessFlags := 33
  interfaces := #[]
  cf := some (fileOf pool13 21 #[] #[{ accessFlags := 2, nameIndex := 9, descriptorIndex := 19, attributes := #[] }] 33 16 #[] #[{ accessFlags := 24, nameIndex := 28, descriptorIndex := 29, attributes := #[] }, { accessFlags := 26, nameIndex := 38, descriptorIndex := 39, attributes := #[] }, { accessFlags := 25, nameIndex := 121, descriptorIndex := 25, attributes := #[] }, { accessFlags := 25, nameIndex := 131, descriptorIndex := 25, attributes := #[] }, { accessFlags := 25, nameIndex := 137, descriptorIndex := 25, attributes := #[] }, { accessFlags := 25, nameIndex := 143, descriptorIndex := 25, attributes := #[] }, { accessFlags := 25, nameIndex := 53, descriptorIndex := 25, attributes := #[] }, { accessFlags := 25, nameIndex := 24, descriptorIndex := 25, attributes := #[] }, { accessFlags := 25, nameIndex := 162, descriptorIndex := 25, attributes := #[] }, { accessFlags := 25, nameIndex := 187, descriptorIndex := 25, attributes := #[] }, { accessFlags := 26, nameIndex := 48, descriptorIndex := 25, attributes := #[] }, { accessFlags := 25, nameIndex := 277, descriptorIndex := 25, attributes := #[] }, { accessFlags := 25, nameIndex := 280, descriptorIndex := 25, attributes := #[] }, { accessFlags := 25, nameIndex := 282, descriptorIndex := 25, attributes := #[] }, { accessFlags := 25, nameIndex := 284, descriptorIndex := 25, attributes := #[] }, { accessFlags := 25, nameIndex := 286, descriptorIndex := 25, attributes := #[] }, { accessFlags := 25, nameIndex := 288, descriptorIndex := 25, attributes := #[] }, { accessFlags := 25, nameIndex := 290, descriptorIndex := 25, attributes := #[] }, { accessFlags := 25, nameIndex := 292, descriptorIndex := 25, attributes := #[] }, { accessFlags := 26, nameIndex := 108, descriptorIndex := 109, attributes := #[] }, { accessFlags := 25, nameIndex := 294, descriptorIndex := 25, attributes := #[] }])
  fields := #[{ name := "U", type := (.object "jdk/internal/misc/Unsafe"), accessFlags := 24, slot := 0, constantValue := 0 }, { name := "BIG_ENDIAN", type := .boolean, accessFlags := 26, slot := 1, constantValue := 0 }, { name := "LOG2_ARRAY_BOOLEAN_INDEX_SCALE", type := .int, accessFlags := 25, slot := 2, constantValue := 0 }, { name := "LOG2_ARRAY_BYTE_INDEX_SCALE", type := .int, accessFlags := 25, slot := 3, constantValue := 0 }, { name := "LOG2_ARRAY_CHAR_INDEX_SCALE", type := .int, accessFlags := 25, slot := 4, constantValue := 0 }, { name := "LOG2_ARRAY_SHORT_INDEX_SCALE", type := .int, accessFlags := 25, slot := 5, constantValue := 0 }, { name := "LOG2_ARRAY_INT_INDEX_SCALE", type := .int, accessFlags := 25, slot := 6, constantValue := 0 }, { name := "LOG2_ARRAY_LONG_INDEX_SCALE", type := .int, accessFlags := 25, slot := 7, constantValue := 0 }, { name := "LOG2_ARRAY_FLOAT_INDEX_SCALE", type := .int, accessFlags := 25, slot := 8, constantValue := 0 }, { name := "LOG2_ARRAY_DOUBLE_INDEX_SCALE", type := .int, accessFlags := 25, slot := 9, constantValue := 0 }, { name := "LOG2_BYTE_BIT_SIZE", type := .int, accessFlags := 26, slot := 10, constantValue := 0 }, { name := "T_BOOLEAN", type := .int, accessFlags := 25, slot := 11, constantValue := 0 }, { name := "T_CHAR", type := .int, accessFlags := 25, slot := 12, constantValue := 0 }, { name := "T_FLOAT", type := .int, accessFlags := 25, slot := 13, constantValue := 0 }, { name := "T_DOUBLE", type := .int, accessFlags := 25, slot := 14, constantValue := 0 }, { name := "T_BYTE", type := .int, accessFlags := 25, slot := 15, constantValue := 0 }, { name := "T_SHORT", type := .int, accessFlags := 25, slot := 16, constantValue := 0 }, { name := "T_INT", type := .int, accessFlags := 25, slot := 17, constantValue := 0 }, { name := "T_LONG", type := .int, accessFlags := 25, slot := 18, constantValue := 0 }, { name := "JLA", type := (.object "jdk/internal/access/JavaLangAccess"), accessFlags := 26, slot := 19, constantValue := 0 }, { name := "SOFT_MAX_ARRAY_LENGTH", type := .int, accessFlags := 25, slot := 20, constantValue := 0 }]
  methods := #[k13m0]
  instanceTypes := #[]
  staticTypes := #[(.object "jdk/internal/misc/Unsafe"), .boolean, .int, .int, .int, .int, .int, .int, .int, .int, .int, .int, .int, .int, .int, .int, .int, .int, .int, (.object "jdk/internal/access/JavaLangAccess"), .int]
  resolved := Array.replicate 378 none
  statics := none }

def pool14 : Array CpInfo := pool [(1, u "java/lang/Cloneable"), (0, .class_ 1), (0, u "java/lang/Object"), (0, .class_ 3)] 3

/-- java/lang/Cloneable -/
def k14 : Class := { plain "java/lang/Cloneable" (some 0) with
  accessFlags := 1537
  interfaces := #[]
  cf := some (fileOf pool14 2 #[] #[] 1537 4 #[] #[])
  fields := #[]
  methods := #[]
  instanceTypes := #[]
  staticTypes := #[]
  resolved := Array.replicate 8 none
  statics := none }

/-- the primitive byte -/
def k15 : Class := { plain "byte" none with kind := .primitive 'B', accessFlags := 0x411 }
/-- [B -/
def k16 : Class := { plain "[B" (some 0) with kind := .array 15 .byte, interfaces := #[14, 2], accessFlags := 1041 }

/-- the primitive char -/
def k17 : Class := { plain "char" none with kind := .primitive 'C', accessFlags := 0x411 }
/-- [C -/
def k18 : Class := { plain "[C" (some 0) with kind := .array 17 .char, interfaces := #[14, 2], accessFlags := 1041 }

/-- the primitive int -/
def k19 : Class := { plain "int" none with kind := .primitive 'I', accessFlags := 0x411 }
/-- [I -/
def k20 : Class := { plain "[I" (some 0) with kind := .array 19 .int, interfaces := #[14, 2], accessFlags := 1041 }

/-- the primitive long -/
def k21 : Class := { plain "long" none with kind := .primitive 'J', accessFlags := 0x411 }
/-- [J -/
def k22 : Class := { plain "[J" (some 0) with kind := .array 21 .long, interfaces := #[14, 2], accessFlags := 1041 }

def heap : Heap := #[{ cls := 7, slots := #[.long 0, .int 1, .null, .int 0, .null, .int 0, .int 0], vm := .statics 7 },
  { cls := 11, slots := #[.null, .null, .null], vm := .statics 11 }]
def classes : Array Class := #[k0, k1, k2, k3, k4, k5, k6, k7, k8, k9, k10, k11, k12, k13, k14, k15, k16, k17, k18, k19, k20, k21, k22]
def interned : List (Array UInt16 × Addr) := []
def slotsUsed : Nat := 10
def theMethod : MethodId := ⟨1, 2⟩
def args0 : Array Value := #[.long 1, .int 1, .int 2, .int 3, .int 4]
def aboutOver (below : List Frame) : State where
  vm := { classes := classes, interned := interned.toArray }
  heap := heap
  slotsUsed := slotsUsed
  threads := #[{ frames := .invoking theMethod args0 :: below }]
def below0 : List Frame := [.native { method := ⟨0, 0⟩, args := #[] }]
def about1 : State := aboutOver below0
def p0 : Program := .bare "" "" ""
def e0 : Env := launch0.env 0 0 0
theorem w_frames : about1.frames = Frame.invoking theMethod args0 :: below0 := rfl
set_option maxRecDepth 65536 in
theorem w_args : argsFit about1.vm theMethod args0 = true := by decide +kernel
set_option maxRecDepth 65536 in
theorem w_heap : heapFits about1 = true := by decide +kernel
set_option maxRecDepth 65536 in
theorem w_runnable : about1.curStatus? = some .runnable := by decide +kernel
set_option maxRecDepth 65536 in
theorem w_alone : about1.alone = true := by decide +kernel
set_option maxRecDepth 65536 in
theorem w_named : about1.methodNamed? x = some theMethod := by decide +kernel
set_option maxRecDepth 65536 in
theorem w_hears : about1.hears theMethod below0 = true := by decide +kernel
set_option maxRecDepth 65536 in
theorem w_ripe : about1.ripe theMethod args0 below0 = true := by decide +kernel
theorem w_running : about1.status = .running := rfl
set_option maxRecDepth 65536 in
theorem w_room : about1.hasRoom e0.platform room_1 = true :=
  launch0.hasRoom_least _ room_1 (by decide +kernel) (by decide +kernel) (by decide +kernel) (by decide +kernel) (by decide +kernel) (by decide +kernel)
theorem allAtoms_all (ts : List Jvm.Cond) (a : Array Jvm.Value) (st : Jvm.State) : (allAtoms ts).before a st = ts.all (fun c => c.before a st) := by
  induction ts with
  | nil => rfl
  | cons c t ih =>
    show (Jvm.Cond.and c (allAtoms t)).before a st = _
    rw [Jvm.Cond.before_and, ih, List.all_cons]
def words1 : List Jvm.Cond := Jvm.Cond.code x code maxLocals ret :: tables_1
/-- a 'code' word, met by the world's own term for the bytes: nothing is compared byte by byte -/
theorem code_word {y : MethodName} {bytes : ByteArray} {mx : Nat} {rt : Option FieldType} {a : Array Value} {s : State} {m : MethodId} {meth : Method} {c : Code} (h1 : s.methodNamed? y = some m) (h2 : s.vm.method? m = some meth) (h3 : meth.code = some c) (h4 : c.code = bytes)
    (h5 : (c.maxLocals == mx && c.exceptionTable.isEmpty && decide (c.maxStack ≤ mostOperands) && decide (meth.sig.returnType = rt) && !meth.locks && decide (parseMethodDescriptor y.desc = some meth.sig)) = true) : (Jvm.Cond.code y bytes mx rt).before a s = true := by
  simp only [Bool.and_eq_true, beq_iff_eq, Bool.not_eq_true', decide_eq_true_eq] at h5
  obtain ⟨⟨⟨⟨⟨g1, g2⟩, g3⟩, g4⟩, g5⟩, g6⟩ := h5
  simp [Cond.before, Cond.holds, Cond.value, h1, h2, h3, h4, g1, g2, g3, g4, g5, g6]
def isCode : Jvm.Cond → Bool
  | .code _ _ _ _ => true
  | _ => false
theorem all_split {L : List Jvm.Cond} {P : Jvm.Cond → Bool} (h1 : L.all (fun c => isCode c || P c) = true) (h2 : ∀ c ∈ L.filter isCode, P c = true) : L.all P = true := by
  refine List.all_eq_true.mpr fun c hc => ?_
  have h := List.all_eq_true.mp h1 c hc
  rcases Bool.eq_false_or_eq_true (isCode c) with hi | hi
  · exact h2 c (List.mem_filter.mpr ⟨hc, hi⟩)
  · simpa [hi] using h
set_option maxRecDepth 65536 in
theorem w_c0 : (Jvm.Cond.code x code maxLocals ret).before args0 about1 = true := code_word (m := ⟨1, 2⟩) (meth := k1m2) (c := k1c2) (by decide +kernel) rfl rfl rfl (by decide +kernel)
set_option maxRecDepth 65536 in
theorem w_c1 : (Jvm.Cond.code ({ cls := "com/example/tallyard/tallyard/scenario/formats/TextIndexClearPinLaw", name := "draw", desc := "(I)Ljava/lang/String;" } : Jvm.MethodName) method_2_code (5 : Nat) (Option.some (Jvm.ClassFile.FieldType.object "java/lang/String"))).before args0 about1 = true := code_word (m := ⟨1, 1⟩) (meth := k1m1) (c := k1c1) (by decide +kernel) rfl rfl rfl (by decide +kernel)
set_option maxRecDepth 65536 in
theorem w_c2 : (Jvm.Cond.code ({ cls := "java/lang/String", name := "<init>", desc := "([C)V" } : Jvm.MethodName) jdk_42_method_3_code (2 : Nat) (Option.none : Option Jvm.ClassFile.FieldType)).before args0 about1 = true := code_word (m := ⟨7, 1⟩) (meth := k7m1) (c := k7c1) (by decide +kernel) rfl rfl rfl (by decide +kernel)
set_option maxRecDepth 65536 in
theorem w_c3 : (Jvm.Cond.code ({ cls := "java/lang/String", name := "<init>", desc := "([CIILjava/lang/Void;)V" } : Jvm.MethodName) jdk_42_method_149_code (6 : Nat) (Option.none : Option Jvm.ClassFile.FieldType)).before args0 about1 = true := code_word (m := ⟨7, 5⟩) (meth := k7m5) (c := k7c5) (by decide +kernel) rfl rfl rfl (by decide +kernel)
set_option maxRecDepth 65536 in
theorem w_c4 : (Jvm.Cond.code ({ cls := "java/lang/Object", name := "<init>", desc := "()V" } : Jvm.MethodName) object_method_1_code (1 : Nat) (Option.none : Option Jvm.ClassFile.FieldType)).before args0 about1 = true := code_word (m := ⟨0, 0⟩) (meth := k0m0) (c := k0c0) (by decide +kernel) rfl rfl rfl (by decide +kernel)
set_option maxRecDepth 65536 in
theorem w_c5 : (Jvm.Cond.code ({ cls := "java/lang/StringUTF16", name := "compress", desc := "([CII)[B" } : Jvm.MethodName) jdk_52_method_16_code (6 : Nat) (Option.some (Jvm.ClassFile.FieldType.array Jvm.ClassFile.FieldType.byte))).before args0 about1 = true := code_word (m := ⟨8, 2⟩) (meth := k8m2) (c := k8c2) (by decide +kernel) rfl rfl rfl (by decide +kernel)
set_option maxRecDepth 65536 in
theorem w_c6 : (Jvm.Cond.code ({ cls := "java/lang/StringUTF16", name := "compress", desc := "([CI[BII)I" } : Jvm.MethodName) jdk_52_method_21_code (7 : Nat) (Option.some Jvm.ClassFile.FieldType.int)).before args0 about1 = true := code_word (m := ⟨8, 3⟩) (meth := k8m3) (c := k8c3) (by decide +kernel) rfl rfl rfl (by decide +kernel)
set_option maxRecDepth 65536 in
theorem w_c7 : (Jvm.Cond.code ({ cls := "java/lang/StringUTF16", name := "coderFromArrayLen", desc := "([BI)B" } : Jvm.MethodName) jdk_52_method_15_code (2 : Nat) (Option.some Jvm.ClassFile.FieldType.byte)).before args0 about1 = true := code_word (m := ⟨8, 1⟩) (meth := k8m1) (c := k8c1) (by decide +kernel) rfl rfl rfl (by decide +kernel)
set_option maxRecDepth 65536 in
theorem w_c8 : (Jvm.Cond.code ({ cls := "com/example/tallyard/tallyard/scenario/formats/TextIndex", name := "<init>", desc := "(J)V" } : Jvm.MethodName) prog_87_method_2_code (3 : Nat) (Option.none : Option Jvm.ClassFile.FieldType)).before args0 about1 = true := code_word (m := ⟨9, 1⟩) (meth := k9m1) (c := k9c1) (by decide +kernel) rfl rfl rfl (by decide +kernel)
set_option maxRecDepth 65536 in
theorem w_c9 : (Jvm.Cond.code ({ cls := "com/example/tallyard/tallyard/scenario/formats/TextIndex", name := "add", desc := "(Ljava/lang/CharSequence;)I" } : Jvm.MethodName) prog_87_method_5_code (6 : Nat) (Option.some Jvm.ClassFile.FieldType.int)).before args0 about1 = true := code_word (m := ⟨9, 4⟩) (meth := k9m4) (c := k9c4) (by decide +kernel) rfl rfl rfl (by decide +kernel)
set_option maxRecDepth 65536 in
theorem w_c10 : (Jvm.Cond.code ({ cls := "com/example/tallyard/tallyard/scenario/formats/TextIndex", name := "hashOf", desc := "(Ljava/lang/CharSequence;)I" } : Jvm.MethodName) prog_87_method_9_code (8 : Nat) (Option.some Jvm.ClassFile.FieldType.int)).before args0 about1 = true := code_word (m := ⟨9, 6⟩) (meth := k9m6) (c := k9c6) (by decide +kernel) rfl rfl rfl (by decide +kernel)
set_option maxRecDepth 65536 in
theorem w_c11 : (Jvm.Cond.code ({ cls := "java/lang/String", name := "length", desc := "()I" } : Jvm.MethodName) jdk_42_method_54_code (1 : Nat) (Option.some Jvm.ClassFile.FieldType.int)).before args0 about1 = true := code_word (m := ⟨7, 2⟩) (meth := k7m2) (c := k7c2) (by decide +kernel) rfl rfl rfl (by decide +kernel)
set_option maxRecDepth 65536 in
theorem w_c12 : (Jvm.Cond.code ({ cls := "java/lang/String", name := "coder", desc := "()B" } : Jvm.MethodName) jdk_42_method_152_code (1 : Nat) (Option.some Jvm.ClassFile.FieldType.byte)).before args0 about1 = true := code_word (m := ⟨7, 6⟩) (meth := k7m6) (c := k7c6) (by decide +kernel) rfl rfl rfl (by decide +kernel)
set_option maxRecDepth 65536 in
theorem w_c13 : (Jvm.Cond.code ({ cls := "java/lang/String", name := "charAt", desc := "(I)C" } : Jvm.MethodName) jdk_42_method_56_code (2 : Nat) (Option.some Jvm.ClassFile.FieldType.char)).before args0 about1 = true := code_word (m := ⟨7, 3⟩) (meth := k7m3) (c := k7c3) (by decide +kernel) rfl rfl rfl (by decide +kernel)
set_option maxRecDepth 65536 in
theorem w_c14 : (Jvm.Cond.code ({ cls := "java/lang/String", name := "isLatin1", desc := "()Z" } : Jvm.MethodName) jdk_42_method_154_code (1 : Nat) (Option.some Jvm.ClassFile.FieldType.boolean)).before args0 about1 = true := code_word (m := ⟨7, 7⟩) (meth := k7m7) (c := k7c7) (by decide +kernel) rfl rfl rfl (by decide +kernel)
set_option maxRecDepth 65536 in
theorem w_c15 : (Jvm.Cond.code ({ cls := "java/lang/StringLatin1", name := "charAt", desc := "([BI)C" } : Jvm.MethodName) jdk_43_method_2_code (2 : Nat) (Option.some Jvm.ClassFile.FieldType.char)).before args0 about1 = true := code_word (m := ⟨10, 1⟩) (meth := k10m1) (c := k10c1) (by decide +kernel) rfl rfl rfl (by decide +kernel)
set_option maxRecDepth 65536 in
theorem w_c16 : (Jvm.Cond.code ({ cls := "java/lang/String", name := "checkIndex", desc := "(II)V" } : Jvm.MethodName) jdk_42_method_155_code (2 : Nat) (Option.none : Option Jvm.ClassFile.FieldType)).before args0 about1 = true := code_word (m := ⟨7, 8⟩) (meth := k7m8) (c := k7c8) (by decide +kernel) rfl rfl rfl (by decide +kernel)
set_option maxRecDepth 65536 in
theorem w_c17 : (Jvm.Cond.code ({ cls := "jdk/internal/util/Preconditions", name := "checkIndex", desc := "(IILjava/util/function/BiFunction;)I" } : Jvm.MethodName) jdk_41_method_11_code (3 : Nat) (Option.some Jvm.ClassFile.FieldType.int)).before args0 about1 = true := code_word (m := ⟨11, 1⟩) (meth := k11m1) (c := k11c1) (by decide +kernel) rfl rfl rfl (by decide +kernel)
set_option maxRecDepth 65536 in
theorem w_c18 : (Jvm.Cond.code ({ cls := "com/example/tallyard/tallyard/scenario/formats/TextIndex", name := "productModPrime", desc := "(JJ)J" } : Jvm.MethodName) prog_87_method_10_code (10 : Nat) (Option.some Jvm.ClassFile.FieldType.long)).before args0 about1 = true := code_word (m := ⟨9, 7⟩) (meth := k9m7) (c := k9c7) (by decide +kernel) rfl rfl rfl (by decide +kernel)
set_option maxRecDepth 65536 in
theorem w_c19 : (Jvm.Cond.code ({ cls := "java/lang/Math", name := "multiplyHigh", desc := "(JJ)J" } : Jvm.MethodName) jdk_29_method_45_code (20 : Nat) (Option.some Jvm.ClassFile.FieldType.long)).before args0 about1 = true := code_word (m := ⟨12, 1⟩) (meth := k12m1) (c := k12c1) (by decide +kernel) rfl rfl rfl (by decide +kernel)
set_option maxRecDepth 65536 in
theorem w_c20 : (Jvm.Cond.code ({ cls := "com/example/tallyard/tallyard/scenario/formats/TextIndex", name := "find", desc := "(Ljava/lang/CharSequence;I)I" } : Jvm.MethodName) prog_87_method_11_code (5 : Nat) (Option.some Jvm.ClassFile.FieldType.int)).before args0 about1 = true := code_word (m := ⟨9, 8⟩) (meth := k9m8) (c := k9c8) (by decide +kernel) rfl rfl rfl (by decide +kernel)
set_option maxRecDepth 65536 in
theorem w_c21 : (Jvm.Cond.code ({ cls := "com/example/tallyard/tallyard/scenario/formats/TextIndex", name := "keep", desc := "(Ljava/lang/CharSequence;)I" } : Jvm.MethodName) prog_87_method_14_code (6 : Nat) (Option.some Jvm.ClassFile.FieldType.int)).before args0 about1 = true := code_word (m := ⟨9, 11⟩) (meth := k9m11) (c := k9c11) (by decide +kernel) rfl rfl rfl (by decide +kernel)
set_option maxRecDepth 65536 in
theorem w_c22 : (Jvm.Cond.code ({ cls := "com/example/tallyard/tallyard/scenario/formats/TextIndex", name := "link", desc := "(I)V" } : Jvm.MethodName) prog_87_method_12_code (3 : Nat) (Option.none : Option Jvm.ClassFile.FieldType)).before args0 about1 = true := code_word (m := ⟨9, 9⟩) (meth := k9m9) (c := k9c9) (by decide +kernel) rfl rfl rfl (by decide +kernel)
set_option maxRecDepth 65536 in
theorem w_c23 : (Jvm.Cond.code ({ cls := "java/lang/String", name := "equals", desc := "(Ljava/lang/Object;)Z" } : Jvm.MethodName) jdk_42_method_66_code (3 : Nat) (Option.some Jvm.ClassFile.FieldType.boolean)).before args0 about1 = true := code_word (m := ⟨7, 4⟩) (meth := k7m4) (c := k7c4) (by decide +kernel) rfl rfl rfl (by decide +kernel)
set_option maxRecDepth 65536 in
theorem w_c24 : (Jvm.Cond.code ({ cls := "java/lang/StringLatin1", name := "equals", desc := "([B[B)Z" } : Jvm.MethodName) jdk_43_method_13_code (3 : Nat) (Option.some Jvm.ClassFile.FieldType.boolean)).before args0 about1 = true := code_word (m := ⟨10, 2⟩) (meth := k10m2) (c := k10c2) (by decide +kernel) rfl rfl rfl (by decide +kernel)
set_option maxRecDepth 65536 in
theorem w_c25 : (Jvm.Cond.code ({ cls := "com/example/tallyard/tallyard/scenario/formats/TextIndex", name := "numberOf", desc := "(Ljava/lang/CharSequence;)I" } : Jvm.MethodName) prog_87_method_4_code (3 : Nat) (Option.some Jvm.ClassFile.FieldType.int)).before args0 about1 = true := code_word (m := ⟨9, 3⟩) (meth := k9m3) (c := k9c3) (by decide +kernel) rfl rfl rfl (by decide +kernel)
set_option maxRecDepth 65536 in
theorem w_c26 : (Jvm.Cond.code ({ cls := "com/example/tallyard/tallyard/scenario/formats/TextIndex", name := "holds", desc := "(ILjava/lang/CharSequence;)Z" } : Jvm.MethodName) prog_87_method_13_code (5 : Nat) (Option.some Jvm.ClassFile.FieldType.boolean)).before args0 about1 = true := code_word (m := ⟨9, 10⟩) (meth := k9m10) (c := k9c10) (by decide +kernel) rfl rfl rfl (by decide +kernel)
set_option maxRecDepth 65536 in
theorem w_c27 : (Jvm.Cond.code ({ cls := "com/example/tallyard/tallyard/scenario/formats/TextIndex", name := "clear", desc := "()V" } : Jvm.MethodName) prog_87_method_6_code (2 : Nat) (Option.none : Option Jvm.ClassFile.FieldType)).before args0 about1 = true := code_word (m := ⟨9, 5⟩) (meth := k9m5) (c := k9c5) (by decide +kernel) rfl rfl rfl (by decide +kernel)
set_option maxRecDepth 65536 in
theorem w_c28 : (Jvm.Cond.code ({ cls := "com/example/tallyard/tallyard/scenario/formats/TextIndex", name := "size", desc := "()I" } : Jvm.MethodName) prog_87_method_3_code (1 : Nat) (Option.some Jvm.ClassFile.FieldType.int)).before args0 about1 = true := code_word (m := ⟨9, 2⟩) (meth := k9m2) (c := k9c2) (by decide +kernel) rfl rfl rfl (by decide +kernel)
def codes1 : List Jvm.Cond := [Jvm.Cond.code x code maxLocals ret, Jvm.Cond.code ({ cls := "com/example/tallyard/tallyard/scenario/formats/TextIndexClearPinLaw", name := "draw", desc := "(I)Ljava/lang/String;" } : Jvm.MethodName) method_2_code (5 : Nat) (Option.some (Jvm.ClassFile.FieldType.object "java/lang/String")), Jvm.Cond.code ({ cls := "java/lang/String", name := "<init>", desc := "([C)V" } : Jvm.MethodName) jdk_42_method_3_code (2 : Nat) (Option.none : Option Jvm.ClassFile.FieldType), Jvm.Cond.code ({ cls := "java/lang/String", name := "<init>", desc := "([CIILjava/lang/Void;)V" } : Jvm.MethodName) jdk_42_method_149_code (6 : Nat) (Option.none : Option Jvm.ClassFile.FieldType), Jvm.Cond.code ({ cls := "java/lang/Object", name := "<init>", desc := "()V" } : Jvm.MethodName) object_method_1_code (1 : Nat) (Option.none : Option Jvm.ClassFile.FieldType), Jvm.Cond.code ({ cls := "java/lang/StringUTF16", name := "compress", desc := "([CII)[B" } : Jvm.MethodName) jdk_52_method_16_code (6 : Nat) (Option.some (Jvm.ClassFile.FieldType.array Jvm.ClassFile.FieldType.byte)), Jvm.Cond.code ({ cls := "java/lang/StringUTF16", name := "compress", desc := "([CI[BII)I" } : Jvm.MethodName) jdk_52_method_21_code (7 : Nat) (Option.some Jvm.ClassFile.FieldType.int), Jvm.Cond.code ({ cls := "java/lang/StringUTF16", name := "coderFromArrayLen", desc := "([BI)B" } : Jvm.MethodName) jdk_52_method_15_code (2 : Nat) (Option.some Jvm.ClassFile.FieldType.byte), Jvm.Cond.code ({ cls := "com/example/tallyard/tallyard/scenario/formats/TextIndex", name := "<init>", desc := "(J)V" } : Jvm.MethodName) prog_87_method_2_code (3 : Nat) (Option.none : Option Jvm.ClassFile.FieldType), Jvm.Cond.code ({ cls := "com/example/tallyard/tallyard/scenario/formats/TextIndex", name := "add", desc := "(Ljava/lang/CharSequence;)I" } : Jvm.MethodName) prog_87_method_5_code (6 : Nat) (Option.some Jvm.ClassFile.FieldType.int), Jvm.Cond.code ({ cls := "com/example/tallyard/tallyard/scenario/formats/TextIndex", name := "hashOf", desc := "(Ljava/lang/CharSequence;)I" } : Jvm.MethodName) prog_87_method_9_code (8 : Nat) (Option.some Jvm.ClassFile.FieldType.int), Jvm.Cond.code ({ cls := "java/lang/String", name := "length", desc := "()I" } : Jvm.MethodName) jdk_42_method_54_code (1 : Nat) (Option.some Jvm.ClassFile.FieldType.int), Jvm.Cond.code ({ cls := "java/lang/String", name := "coder", desc := "()B" } : Jvm.MethodName) jdk_42_method_152_code (1 : Nat) (Option.some Jvm.ClassFile.FieldType.byte), Jvm.Cond.code ({ cls := "java/lang/String", name := "charAt", desc := "(I)C" } : Jvm.MethodName) jdk_42_method_56_code (2 : Nat) (Option.some Jvm.ClassFile.FieldType.char), Jvm.Cond.code ({ cls := "java/lang/String", name := "isLatin1", desc := "()Z" } : Jvm.MethodName) jdk_42_method_154_code (1 : Nat) (Option.some Jvm.ClassFile.FieldType.boolean), Jvm.Cond.code ({ cls := "java/lang/StringLatin1", name := "charAt", desc := "([BI)C" } : Jvm.MethodName) jdk_43_method_2_code (2 : Nat) (Option.some Jvm.ClassFile.FieldType.char), Jvm.Cond.code ({ cls := "java/lang/String", name := "checkIndex", desc := "(II)V" } : Jvm.MethodName) jdk_42_method_155_code (2 : Nat) (Option.none : Option Jvm.ClassFile.FieldType), Jvm.Cond.code ({ cls := "jdk/internal/util/Preconditions", name := "checkIndex", desc := "(IILjava/util/function/BiFunction;)I" } : Jvm.MethodName) jdk_41_method_11_code (3 : Nat) (Option.some Jvm.ClassFile.FieldType.int), Jvm.Cond.code ({ cls := "com/example/tallyard/tallyard/scenario/formats/TextIndex", name := "productModPrime", desc := "(JJ)J" } : Jvm.MethodName) prog_87_method_10_code (10 : Nat) (Option.some Jvm.ClassFile.FieldType.long), Jvm.Cond.code ({ cls := "java/lang/Math", name := "multiplyHigh", desc := "(JJ)J" } : Jvm.MethodName) jdk_29_method_45_code (20 : Nat) (Option.some Jvm.ClassFile.FieldType.long), Jvm.Cond.code ({ cls := "com/example/tallyard/tallyard/scenario/formats/TextIndex", name := "find", desc := "(Ljava/lang/CharSequence;I)I" } : Jvm.MethodName) prog_87_method_11_code (5 : Nat) (Option.some Jvm.ClassFile.FieldType.int), Jvm.Cond.code ({ cls := "com/example/tallyard/tallyard/scenario/formats/TextIndex", name := "keep", desc := "(Ljava/lang/CharSequence;)I" } : Jvm.MethodName) prog_87_method_14_code (6 : Nat) (Option.some Jvm.ClassFile.FieldType.int), Jvm.Cond.code ({ cls := "com/example/tallyard/tallyard/scenario/formats/TextIndex", name := "link", desc := "(I)V" } : Jvm.MethodName) prog_87_method_12_code (3 : Nat) (Option.none : Option Jvm.ClassFile.FieldType), Jvm.Cond.code ({ cls := "java/lang/String", name := "equals", desc := "(Ljava/lang/Object;)Z" } : Jvm.MethodName) jdk_42_method_66_code (3 : Nat) (Option.some Jvm.ClassFile.FieldType.boolean), Jvm.Cond.code ({ cls := "java/lang/StringLatin1", name := "equals", desc := "([B[B)Z" } : Jvm.MethodName) jdk_43_method_13_code (3 : Nat) (Option.some Jvm.ClassFile.FieldType.boolean), Jvm.Cond.code ({ cls := "com/example/tallyard/tallyard/scenario/formats/TextIndex", name := "numberOf", desc := "(Ljava/lang/CharSequence;)I" } : Jvm.MethodName) prog_87_method_4_code (3 : Nat) (Option.some Jvm.ClassFile.FieldType.int), Jvm.Cond.code ({ cls := "com/example/tallyard/tallyard/scenario/formats/TextIndex", name := "holds", desc := "(ILjava/lang/CharSequence;)Z" } : Jvm.MethodName) prog_87_method_13_code (5 : Nat) (Option.some Jvm.ClassFile.FieldType.boolean), Jvm.Cond.code ({ cls := "com/example/tallyard/tallyard/scenario/formats/TextIndex", name := "clear", desc := "()V" } : Jvm.MethodName) prog_87_method_6_code (2 : Nat) (Option.none : Option Jvm.ClassFile.FieldType), Jvm.Cond.code ({ cls := "com/example/tallyard/tallyard/scenario/formats/TextIndex", name := "size", desc := "()I" } : Jvm.MethodName) prog_87_method_3_code (1 : Nat) (Option.some Jvm.ClassFile.FieldType.int)]
set_option maxRecDepth 65536 in
theorem codes_eq : words1.filter isCode = codes1 := rfl
theorem w_codes : ∀ c ∈ words1.filter isCode, c.before args0 about1 = true := by
  rw [codes_eq]
  intro c hc
  simp only [codes1, List.mem_cons, List.not_mem_nil, or_false] at hc
  rcases hc with rfl | rfl | rfl | rfl | rfl | rfl | rfl | rfl | rfl | rfl | rfl | rfl | rfl | rfl | rfl | rfl | rfl | rfl | rfl | rfl | rfl | rfl | rfl | rfl | rfl | rfl | rfl | rfl | rfl
  · exact w_c0
  · exact w_c1
  · exact w_c2
  · exact w_c3
  · exact w_c4
  · exact w_c5
  · exact w_c6
  · exact w_c7
  · exact w_c8
  · exact w_c9
  · exact w_c10
  · exact w_c11
  · exact w_c12
  · exact w_c13
  · exact w_c14
  · exact w_c15
  · exact w_c16
  · exact w_c17
  · exact w_c18
  · exact w_c19
  · exact w_c20
  · exact w_c21
  · exact w_c22
  · exact w_c23
  · exact w_c24
  · exact w_c25
  · exact w_c26
  · exact w_c27
  · exact w_c28
set_option maxRecDepth 65536 in
theorem w_t1 : (words1.take 24).all (fun c => isCode c || c.before args0 about1) = true := by decide +kernel
set_option maxRecDepth 65536 in
theorem w_t2 : ((words1.drop 24).take 24).all (fun c => isCode c || c.before args0 about1) = true := by decide +kernel
set_option maxRecDepth 65536 in
theorem w_t3 : (((words1.drop 24).drop 24).take 24).all (fun c => isCode c || c.before args0 about1) = true := by decide +kernel
set_option maxRecDepth 65536 in
theorem w_t4 : ((((words1.drop 24).drop 24).drop 24).take 24).all (fun c => isCode c || c.before args0 about1) = true := by decide +kernel
set_option maxRecDepth 65536 in
theorem w_t5 : (((((words1.drop 24).drop 24).drop 24).drop 24).take 24).all (fun c => isCode c || c.before args0 about1) = true := by decide +kernel
set_option maxRecDepth 65536 in
theorem w_t6 : ((((((words1.drop 24).drop 24).drop 24).drop 24).drop 24).take 24).all (fun c => isCode c || c.before args0 about1) = true := by decide +kernel
set_option maxRecDepth 65536 in
theorem w_t7 : ((((((words1.drop 24).drop 24).drop 24).drop 24).drop 24).drop 24).all (fun c => isCode c || c.before args0 about1) = true := by decide +kernel
theorem w_tables : (allAtoms (Jvm.Cond.code x code maxLocals ret :: tables_1)).before args0 about1 = true := by
  rw [allAtoms_all]
  show words1.all (fun c => c.before args0 about1) = true
  refine all_split ?_ w_codes
  rw [← List.take_append_drop 24 words1, List.all_append, w_t1, ← List.take_append_drop 24 (words1.drop 24), List.all_append, w_t2, ← List.take_append_drop 24 ((words1.drop 24).drop 24), List.all_append, w_t3, ← List.take_append_drop 24 (((words1.drop 24).drop 24).drop 24), List.all_append, w_t4, ← List.take_append_drop 24 ((((words1.drop 24).drop 24).drop 24).drop 24), List.all_append, w_t5, ← List.take_append_drop 24 (((((words1.drop 24).drop 24).drop 24).drop 24).drop 24), List.all_append, w_t6, w_t7]
  rfl
set_option maxRecDepth 65536 in
theorem w_rest : rest_1_c.before args0 about1 = true := by decide +kernel
set_option maxRecDepth 65536 in
theorem w_case : (Jvm.Cond.and given_1 narrow_1).before args0 about1 = true := by decide +kernel
set_option maxRecDepth 65536 in
theorem w_consts : constsHeld consts_1 about1 := Jvm.Lit.constsHeldB_iff.mp (by decide +kernel)
theorem w_applies : (headSpec (Jvm.Cond.code x code maxLocals ret :: tables_1) room_1).applies x e0.platform about1 = true :=
  (Spec.applies_iff w_frames).mpr ⟨w_running, w_runnable, w_alone, w_named, w_hears, w_ripe, w_room, w_tables⟩
theorem atStart : AtStart classFile x code maxLocals ret World_1 tables_1 room_1 Calls_1 rest_1 Pre_1 launch0 p0 e0 about1 theMethod args0 below0 :=
  ⟨lists_1, trivial, launch0.admits_env _ _ _, launch0.least_env, fairChoices_fair.cas, fairChoices_fair.clock, w_frames, w_args, w_heap, w_applies, ⟨w_consts, trivial⟩, w_rest, w_case⟩
end start1
theorem witness_1 : WitnessClaimed_1 := ⟨start1.p0, start1.e0, start1.about1, start1.theMethod, start1.args0, start1.below0, start1.atStart⟩
end Jvm.Pilot.@@N@@
