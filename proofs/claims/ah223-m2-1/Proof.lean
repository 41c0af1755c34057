import JvmDerived
import JvmDerived.Pilot.@@N@@Statement
import JvmDerived.Pilot.@@N@@Code
set_option linter.unusedVariables false
set_option linter.unusedSimpArgs false
@@BLOCK:LamKit.lean.txt@@
namespace Jvm.Pilot.@@N@@
open Jvm Jvm.ClassFile Sem Op Lib Jvm.Free Jvm.Stand Jvm.LawKit Jvm.RoadKit Bundle Jvm.Pilot.@@N@@.Jvm.D
namespace Wd
section Inv
variable {Z : State} {EL : List (String × Nat)} {n0 : Nat} {vm vm1 : Vm} {h h' : Heap} {WL FL : List Addr}
/-- of tables vm and heap h: the constants EL say their text; the start's cells stand; WL: cells of our own making that are no constant's; FL: other cells -/
def Inv (Z : State) (EL : List (String × Nat)) (n0 : Nat) (vm : Vm) (h : Heap) (WL FL : List Addr) : Prop :=
  (∃ a0, EW Z a0 EL) ∧ CHv Z EL vm h ∧ Old Z n0 h ∧ (∀ x ∈ WL, n0 ≤ x ∧ x < h.size ∧ Safe Z EL vm h x) ∧ WL.Nodup ∧ ∀ y ∈ FL, y < h.size ∧ y ∉ WL
theorem Inv.ext (I : Inv Z EL n0 vm h WL FL) (E : Ext h h') : Inv Z EL n0 vm h' WL FL := by
  obtain ⟨i1, i2, i3, i4, i5, i6⟩ := I
  exact ⟨i1, CHv.ext E i2, i3.ext E, fun x hx => ⟨(i4 x hx).1, Nat.lt_of_lt_of_le (i4 x hx).2.1 E.1, Safe.ext E i2 (i4 x hx).2.2⟩, i5, fun y hy => ⟨Nat.lt_of_lt_of_le (i6 y hy).1 E.1, (i6 y hy).2⟩⟩
theorem Inv.keep {ws : List Addr} (I : Inv Z EL n0 vm h WL FL) (K : Keep h h' ws) (hs : ∀ x ∈ ws, x ∈ WL) : Inv Z EL n0 vm h' WL FL := by
  obtain ⟨i1, i2, i3, i4, i5, i6⟩ := I
  have q : ∀ x ∈ ws, Safe Z EL vm h x := fun x hx => (i4 x (hs x hx)).2.2
  exact ⟨i1, CHv.keep K q i2, i3.keep K (fun x hx => (i4 x (hs x hx)).1), fun x hx => ⟨(i4 x hx).1, Nat.lt_of_lt_of_le (i4 x hx).2.1 K.1, Safe.keep K q i2 (i4 x hx).2.2⟩, i5, fun y hy => ⟨Nat.lt_of_lt_of_le (i6 y hy).1 K.1, (i6 y hy).2⟩⟩
theorem Inv.wr {a : Addr} {sl : Nat} {v : Value} (I : Inv Z EL n0 vm h WL FL) (W : Wr h h' a sl v) (ha : a ∈ WL) : Inv Z EL n0 vm h' WL FL :=
  I.keep (Keep.of_wr W) (allS ha all0)
theorem Inv.new (I : Inv Z EL n0 vm h WL FL) (E : Ext h h') (hlt : h.size < h'.size) : Inv Z EL n0 vm h' (h.size :: WL) FL := by
  have J := I.ext E
  obtain ⟨i1, i2, i3, i4, i5, i6⟩ := I
  obtain ⟨j1, j2, j3, j4, j5, j6⟩ := J
  refine ⟨j1, j2, j3, fun x hx => ?_, ?_, fun y hy => ⟨(j6 y hy).1, fun q => ?_⟩⟩
  · rcases List.mem_cons.mp hx with rfl | hx
    · exact ⟨by rw [← i3.1]; exact i3.2.1, hlt, Safe.ext E i2 (Safe.new (Nat.le_refl _))⟩
    · exact j4 x hx
  · exact List.nodup_cons.mpr ⟨fun q => Nat.lt_irrefl _ (i4 _ q).2.1, j5⟩
  · rcases List.mem_cons.mp q with rfl | q
    · exact Nat.lt_irrefl _ (i6 _ hy).1
    · exact (j6 y hy).2 q
/-- another cell comes into sight -/
theorem Inv.adopt {y : Addr} (I : Inv Z EL n0 vm h WL FL) (h1 : y < h.size) (h2 : y ∉ WL) : Inv Z EL n0 vm h WL (y :: FL) := by
  obtain ⟨i1, i2, i3, i4, i5, i6⟩ := I
  refine ⟨i1, i2, i3, i4, i5, fun x hx => ?_⟩
  rcases List.mem_cons.mp hx with rfl | hx
  · exact ⟨h1, h2⟩
  · exact i6 x hx
/-- a cell of ours is given up -/
theorem Inv.drop {A B : List Addr} {t : Addr} (I : Inv Z EL n0 vm h (A ++ t :: B) FL) : Inv Z EL n0 vm h (A ++ B) (t :: FL) := by
  obtain ⟨i1, i2, i3, i4, i5, i6⟩ := I
  have m : ∀ x, x ∈ A ++ B → x ∈ A ++ t :: B := fun x hx => by
    rcases List.mem_append.mp hx with q | q
    · exact List.mem_append_left _ q
    · exact List.mem_append_right _ (List.mem_cons_of_mem _ q)
  have pm : (A ++ t :: B).Perm (t :: (A ++ B)) := List.perm_middle
  have nd := pm.nodup_iff.mp i5
  obtain ⟨n1, n2⟩ := List.nodup_cons.mp nd
  refine ⟨i1, i2, i3, fun x hx => i4 x (m x hx), n2, fun y hy => ?_⟩
  rcases List.mem_cons.mp hy with rfl | hy
  · exact ⟨(i4 _ (List.mem_append_right _ (List.mem_cons_self ..))).2.1, n1⟩
  · exact ⟨(i6 y hy).1, fun q => (i6 y hy).2 (m y q)⟩
/-- other cells are forgotten -/
theorem Inv.fl {FL2 : List Addr} (I : Inv Z EL n0 vm h WL FL) (q : ∀ y ∈ FL2, y ∈ FL) : Inv Z EL n0 vm h WL FL2 := by
  obtain ⟨i1, i2, i3, i4, i5, i6⟩ := I
  exact ⟨i1, i2, i3, i4, i5, fun y hy => i6 y (q y hy)⟩
theorem Inv.ne {i j : Nat} {a b : Addr} (I : Inv Z EL n0 vm h WL FL) (ha : WL[i]? = some a) (hb : WL[j]? = some b) (q : i ≠ j) : a ≠ b := fun e => by
  obtain ⟨i1, i2, i3, i4, i5, i6⟩ := I
  subst e
  obtain ⟨hi, e1⟩ := List.getElem?_eq_some_iff.mp ha
  obtain ⟨hj, e2⟩ := List.getElem?_eq_some_iff.mp hb
  have pw := List.pairwise_iff_getElem.mp i5
  rcases Nat.lt_or_gt_of_ne q with z | z
  · exact pw i j hi hj z (e1.trans e2.symm)
  · exact pw j i hj hi z (e2.trans e1.symm)
theorem Inv.neF {a b : Addr} (I : Inv Z EL n0 vm h WL FL) (ha : a ∈ FL) (hb : b ∈ WL) : a ≠ b := fun e => by
  subst e; exact (I.2.2.2.2.2 _ ha).2 hb
theorem Inv.neT {A B : List Addr} {a b : Addr} (I : Inv Z EL n0 vm h (A ++ B) FL) (ha : a ∈ A) (hb : b ∈ B) : a ≠ b := fun e => by
  subst e; exact (List.nodup_append.mp I.2.2.2.2.1).2.2 a ha a hb rfl
theorem Inv.ge {a : Addr} (I : Inv Z EL n0 vm h WL FL) (ha : a ∈ WL) : n0 ≤ a := (I.2.2.2.1 a ha).1
theorem Inv.lt {a : Addr} (I : Inv Z EL n0 vm h WL FL) (ha : a ∈ WL) : a < h.size := (I.2.2.2.1 a ha).2.1
theorem Inv.old (I : Inv Z EL n0 vm h WL FL) : Old Z n0 h := I.2.2.1
theorem Inv.n0le (I : Inv Z EL n0 vm h WL FL) : n0 ≤ h.size := by have q := I.old; rw [← q.1]; exact q.2.1
end Inv
section Walk
variable {p : Program} {l : Launch} {e : Env} {R : Room} {s : State} {m : MethodId} {args : Array Value} {below : List Frame} {meth : Method} {c : Code} {T T' : State} {cells slots : Nat} {Z : State} {EL : List (String × Nat)} {n0 : Nat} {own : String} {h h' : Heap} {WL FL : List Addr} {a0 : Array Value}
/-- where the walk stands -/
def WS (p : Program) (l : Launch) (e : Env) (R : Room) (s : State) (m : MethodId) (args : Array Value) (below : List Frame) (meth : Method) (c : Code) (Z : State) (EL : List (String × Nat)) (n0 : Nat) (own : String) (T : State) (h : Heap) (WL FL : List Addr) (cells slots : Nat) : Prop :=
  ∃ (vm0 : Vm) (k0 : Nat) (locs : List Loc), Stand p l e R (s.setVm vm0) m args below meth c T locs cells slots ∧ T.heap = h ∧ s.Since vm0 k0 ∧ k0 ≤ h.size ∧ Z.Warmed39 vm0 ∧ vm0.findClass own = some m.cls ∧ Fr n0 locs ∧ Inv Z EL n0 vm0 h WL FL
theorem WS.here (X : WS p l e R s m args below meth c Z EL n0 own T h WL FL cells slots) : At T m c below := by
  obtain ⟨_, _, _, X, -⟩ := X; exact X.here
theorem WS.hZ (X : WS p l e R s m args below meth c Z EL n0 own T h WL FL cells slots) : ∃ vm0, Inv Z EL n0 vm0 h WL FL := by
  obtain ⟨vm0, _, _, _, _, _, _, _, _, _, I⟩ := X; exact ⟨vm0, I⟩
theorem WS.old (X : WS p l e R s m args below meth c Z EL n0 own T h WL FL cells slots) : Old Z n0 h := by obtain ⟨_, I⟩ := X.hZ; exact I.old
theorem WS.n0le (X : WS p l e R s m args below meth c Z EL n0 own T h WL FL cells slots) : n0 ≤ h.size := by obtain ⟨_, I⟩ := X.hZ; exact I.n0le
theorem WS.ge {a : Addr} (X : WS p l e R s m args below meth c Z EL n0 own T h WL FL cells slots) (ha : a ∈ WL) : n0 ≤ a := by obtain ⟨_, I⟩ := X.hZ; exact I.ge ha
theorem WS.ne {i j : Nat} {a b : Addr} (X : WS p l e R s m args below meth c Z EL n0 own T h WL FL cells slots) (ha : WL[i]? = some a) (hb : WL[j]? = some b) (q : i ≠ j) : a ≠ b := by obtain ⟨_, I⟩ := X.hZ; exact I.ne ha hb q
theorem WS.neF {a b : Addr} (X : WS p l e R s m args below meth c Z EL n0 own T h WL FL cells slots) (ha : a ∈ FL) (hb : b ∈ WL) : a ≠ b := by obtain ⟨_, I⟩ := X.hZ; exact I.neF ha hb
theorem WS.neT {A B : List Addr} {a b : Addr} (X : WS p l e R s m args below meth c Z EL n0 own T h (A ++ B) FL cells slots) (ha : a ∈ A) (hb : b ∈ B) : a ≠ b := by obtain ⟨_, I⟩ := X.hZ; exact I.neT ha hb
theorem WS.sta {C n d : String} {v : Value} (X : WS p l e R s m args below meth c Z EL n0 own T h WL FL cells slots) (F : Sta Z Z.heap C n d v) : Sta Z h C n d v := F.ext X.old.2
theorem WS.drop {A B : List Addr} {t : Addr} (X : WS p l e R s m args below meth c Z EL n0 own T h (A ++ t :: B) FL cells slots) : WS p l e R s m args below meth c Z EL n0 own T h (A ++ B) (t :: FL) cells slots := by
  obtain ⟨vm0, k0, locs, X, eT, hS, hk, hZ, hown, N, I⟩ := X; exact ⟨vm0, k0, locs, X, eT, hS, hk, hZ, hown, N, I.drop⟩
theorem WS.adopt {y : Addr} (X : WS p l e R s m args below meth c Z EL n0 own T h WL FL cells slots) (h1 : y < h.size) (h2 : y ∉ WL) : WS p l e R s m args below meth c Z EL n0 own T h WL (y :: FL) cells slots := by
  obtain ⟨vm0, k0, locs, X, eT, hS, hk, hZ, hown, N, I⟩ := X; exact ⟨vm0, k0, locs, X, eT, hS, hk, hZ, hown, N, I.adopt h1 h2⟩
theorem WS.fl {FL2 : List Addr} (X : WS p l e R s m args below meth c Z EL n0 own T h WL FL cells slots) (q : ∀ y ∈ FL2, y ∈ FL) : WS p l e R s m args below meth c Z EL n0 own T h WL FL2 cells slots := by
  obtain ⟨vm0, k0, locs, X, eT, hS, hk, hZ, hown, N, I⟩ := X; exact ⟨vm0, k0, locs, X, eT, hS, hk, hZ, hown, N, I.fl q⟩
theorem WS.mono {cells' slots' : Nat} (X : WS p l e R s m args below meth c Z EL n0 own T h WL FL cells slots) (h1 : cells ≤ cells') (h2 : slots ≤ slots') : WS p l e R s m args below meth c Z EL n0 own T h WL FL cells' slots' := by
  obtain ⟨vm0, k0, locs, X, eT, hS, hk, hZ, hown, N, I⟩ := X; exact ⟨vm0, k0, locs, X.mono h1 h2, eT, hS, hk, hZ, hown, N, I⟩
/-- what is to be shown from here on -/
def Wo (p : Program) (e : Env) (s : State) (below : List Frame) (Z : State) (EL : List (String × Nat)) (n0 : Nat) (WL0 FL0 : List Addr) (rm : Room) (Q : Option Value → Heap → List Addr → List Addr → Prop) (T : State) (f : JFrame) : Prop :=
  ∃ s₂ o, Steps p.tables e below (T.setTop f) s₂ ∧ s₂.status = .running ∧ Ended s₂ below o ∧ ∃ v L WL' FL', o = .returned v ∧ Inv Z EL n0 s₂.vm s₂.heap (WL' ++ WL0) (FL' ++ FL0) ∧ Fr n0 L ∧ Q v s₂.heap WL' FL' ∧ ReturnedEndW s o s₂ L rm.cells rm.slots
variable {WL0 FL0 : List Addr} {rm : Room} {Q : Option Value → Heap → List Addr → List Addr → Prop} {f f' : JFrame} {pc : Nat} {Ls : Array Slot} {st rest : List Value}
theorem Wo.by (k : ∀ t, Steps p.tables e below (T'.setTop f') t → Steps p.tables e below (T.setTop f) t) (o : Wo p e s below Z EL n0 WL0 FL0 rm Q T' f') : Wo p e s below Z EL n0 WL0 FL0 rm Q T f := by
  obtain ⟨s₂, o, h1, r⟩ := o; exact ⟨s₂, o, k _ h1, r⟩
theorem Wo.cast (q : f = f') (o : Wo p e s below Z EL n0 WL0 FL0 rm Q T f') : Wo p e s below Z EL n0 WL0 FL0 rm Q T f := q ▸ o
/-- a method's contract -/
def Ct (l : Launch) (Z : State) (EL : List (String × Nat)) (n0 : Nat) (y : MethodName) (bytes : ByteArray) (maxL : Nat) (ret : Option FieldType) (rm : Room) (as' : Array Value) (h : Heap) (WL FL : List Addr) (Q : Option Value → Heap → List Addr → List Addr → Prop) : Prop :=
  ∀ ws : List Jvm.Cond, MetFree l y (head1 (Jvm.Cond.code y bytes maxL ret :: ws) rm) (fun a U => a = as' ∧ Z.Warmed39 U.vm ∧ U.heap = h ∧ Inv Z EL n0 U.vm h WL FL) (fun _ _ _ _ _ => True)
    (fun _ U o U' => ∃ v L WL' FL', o = .returned v ∧ Inv Z EL n0 U'.vm U'.heap (WL' ++ WL) (FL' ++ FL) ∧ Fr n0 L ∧ Q v U'.heap WL' FL' ∧ ReturnedEndW U o U' L rm.cells rm.slots)
theorem Ct.of {y : MethodName} {bytes : ByteArray} {maxL : Nat} {ret : Option FieldType} {as' : Array Value} (hy : plainFor y = true)
    (body : ∀ p e s m below meth c s₁, p.tables.exec = Jvm.exec → c.code = bytes → c.maxLocals = maxL → meth.name = y.name → meth.sig.returnType = ret → meth.locks = false →
      WS p l e rm s m as' below meth c Z EL n0 y.cls s₁ h WL FL 0 0 → Wo p e s below Z EL n0 WL FL rm Q s₁ (entryFrame m as' maxL)) :
    Ct l Z EL n0 y bytes maxL ret rm as' h WL FL Q := by
  intro ws
  refine MetFree.of_bodySF hy hisR ?_
  intro p e s m args below meth c s₁ Bd hml hP _
  obtain ⟨rfl, hZ, hh, I⟩ := hP
  have e0 : s₁.heap = h := by rw [← hh, Bd.state]; rfl
  obtain ⟨s₂, o, h1, h2, h3, h4⟩ := body p e s m below meth c s₁ Bd.exec Bd.bytes hml (name_of_methodNamed Bd.named Bd.method).1 Bd.returns (BodyLoose.notSynchronized Bd)
    ⟨s.vm, h.size, [], Stand.of_body Bd, e0, (State.WarmedH.refl s).since _, Nat.le_refl _, hZ, findClass_of_methodNamed Bd.named, Fr.nil n0, I⟩
  exact ⟨s₂, o, h1, h2, h3, h4⟩
theorem Ct.mono {y : MethodName} {bytes : ByteArray} {maxL : Nat} {ret : Option FieldType} {as' : Array Value} {Q2 : Option Value → Heap → List Addr → List Addr → Prop} (C : Ct l Z EL n0 y bytes maxL ret rm as' h WL FL Q) (hq : ∀ v h' WL' FL', Q v h' WL' FL' → Q2 v h' WL' FL') : Ct l Z EL n0 y bytes maxL ret rm as' h WL FL Q2 := by
  intro ws p e ha hc hk s m args below hf happ hP hK
  obtain ⟨n, o, h1, h2, h3, v, L, WL', FL', r1, r2, r3, r4, r5⟩ := C ws p e ha hc hk s m args below hf happ hP hK
  exact ⟨n, o, h1, h2, h3, v, L, WL', FL', r1, r2, r3, hq _ _ _ _ r4, r5⟩
/-- the tables at hand -/
theorem WS.invT {vm0 : Vm} {locs : List Loc} (X : Stand p l e R (s.setVm vm0) m args below meth c T locs cells slots) (hZ : Z.Warmed39 vm0) (I : Inv Z EL n0 vm0 h WL FL) : Inv Z EL n0 T.vm h WL FL := by
  obtain ⟨⟨a0, i1⟩, i2, i3, i4, i5, i6⟩ := I
  have A := CHv.at X hZ i1 i2
  exact ⟨⟨a0, i1⟩, A.1, i3, fun x hx => ⟨(i4 x hx).1, (i4 x hx).2.1, A.safe (i4 x hx).2.1 (i4 x hx).2.2⟩, i5, i6⟩
theorem WS.retV {WL' FL' : List Addr} (X : WS p l e R s m args below meth c Z EL n0 own T h (WL' ++ WL0) (FL' ++ FL0) cells slots) (hx : p.tables.exec = Jvm.exec) (hret : meth.sig.returnType = none) (hlk : meth.locks = false) (hd : decode c.code pc = .ok (.return_, 1)) (hc : cells ≤ rm.cells) (hl : slots ≤ rm.slots) (hQ : Q none h WL' FL') :
    Wo p e s below Z EL n0 WL0 FL0 rm Q T (mkF m pc Ls []) := by
  obtain ⟨vm0, k0, locs, X, eT, hS, hk, hZ, hown, N, I⟩ := X
  obtain ⟨fs, hr, hrun, hend, hE⟩ := (X.mono hc hl).leaveW hS (by rw [eT]; exact hk) (v := none) (fun _ => rfl) hlk
  subst eT
  exact ⟨_, _, X.returnOut hx hret hd hr, hrun, hend, none, locs, WL', FL', rfl, (show Inv Z EL n0 T.vm T.heap (WL' ++ WL0) (FL' ++ FL0) from WS.invT X hZ I), N, hQ, hE⟩
theorem WS.retN {WL' FL' : List Addr} {z : Int32} {t : FieldType} (X : WS p l e R s m args below meth c Z EL n0 own T h (WL' ++ WL0) (FL' ++ FL0) cells slots) (hx : p.tables.exec = Jvm.exec) (hret : meth.sig.returnType = some t) (ht : t = .boolean ∨ t = .byte ∨ t = .char ∨ t = .short) (hlk : meth.locks = false) (hd : decode c.code pc = .ok (.ireturn, 1)) (hc : cells ≤ rm.cells) (hl : slots ≤ rm.slots) (hQ : Q (some (.int (nar t z))) h WL' FL') :
    Wo p e s below Z EL n0 WL0 FL0 rm Q T (mkF m pc Ls (.int z :: rest)) := by
  obtain ⟨vm0, k0, locs, X, eT, hS, hk, hZ, hown, N, I⟩ := X
  obtain ⟨fs, hr, hrun, hend, hE⟩ := (X.mono hc hl).leaveW hS (by rw [eT]; exact hk) (v := some (.int (nar t z))) (fun q => by rw [hret] at q; cases q) hlk
  subst eT
  exact ⟨_, _, RoadKit.retN X hx hret ht hd hr, hrun, hend, _, locs, WL', FL', rfl, (show Inv Z EL n0 T.vm T.heap (WL' ++ WL0) (FL' ++ FL0) from WS.invT X hZ I), N, hQ, hE⟩
theorem WS.ret {WL' FL' : List Addr} {w : Value} {t : FieldType} {i : Instr} (X : WS p l e R s m args below meth c Z EL n0 own T h (WL' ++ WL0) (FL' ++ FL0) cells slots) (hx : p.tables.exec = Jvm.exec) (hret : meth.sig.returnType = some t) (hn : narrow t w = w)
    (hi : (i = .ireturn ∧ (t = .int ∨ t = .boolean ∨ t = .byte ∨ t = .char ∨ t = .short) ∧ ∃ z, w = .int z) ∨ (i = .lreturn ∧ t = .long ∧ ∃ z, w = .long z) ∨ (i = .dreturn ∧ t = .double ∧ ∃ z, w = .double z) ∨ (i = .freturn ∧ t = .float ∧ ∃ z, w = .float z) ∨ (i = .areturn ∧ t.isReference = true ∧ w.isRef = true))
    (hlk : meth.locks = false) (hd : decode c.code pc = .ok (i, 1)) (hc : cells ≤ rm.cells) (hl : slots ≤ rm.slots) (hQ : Q (some w) h WL' FL') :
    Wo p e s below Z EL n0 WL0 FL0 rm Q T (mkF m pc Ls (w :: rest)) := by
  obtain ⟨vm0, k0, locs, X, eT, hS, hk, hZ, hown, N, I⟩ := X
  obtain ⟨fs, hr, hrun, hend, hE⟩ := (X.mono hc hl).leaveW hS (by rw [eT]; exact hk) (v := some w) (fun q => by rw [hret] at q; cases q) hlk
  subst eT
  exact ⟨_, _, retOut X hx hret hn hi hd hr, hrun, hend, _, locs, WL', FL', rfl, (show Inv Z EL n0 T.vm T.heap (WL' ++ WL0) (FL' ++ FL0) from WS.invT X hZ I), N, hQ, hE⟩
theorem WS.retA {WL' FL' : List Addr} {w : Value} {t : FieldType} (X : WS p l e R s m args below meth c Z EL n0 own T h (WL' ++ WL0) (FL' ++ FL0) cells slots) (hx : p.tables.exec = Jvm.exec) (hret : meth.sig.returnType = some t) (ht : t.isReference = true) (hw : w.isRef = true) (hlk : meth.locks = false) (hd : decode c.code pc = .ok (.areturn, 1)) (hc : cells ≤ rm.cells) (hl : slots ≤ rm.slots) (hQ : Q (some w) h WL' FL') :
    Wo p e s below Z EL n0 WL0 FL0 rm Q T (mkF m pc Ls (w :: rest)) :=
  X.ret hx hret (by cases t <;> first | (cases ht; done) | (rcases ref_cases hw with rfl | ⟨a, rfl⟩ <;> rfl)) (Or.inr (Or.inr (Or.inr (Or.inr ⟨rfl, ht, hw⟩)))) hlk hd hc hl hQ
theorem WS.retI {WL' FL' : List Addr} {z : Int32} (X : WS p l e R s m args below meth c Z EL n0 own T h (WL' ++ WL0) (FL' ++ FL0) cells slots) (hx : p.tables.exec = Jvm.exec) (hret : meth.sig.returnType = some .int) (hlk : meth.locks = false) (hd : decode c.code pc = .ok (.ireturn, 1)) (hc : cells ≤ rm.cells) (hl : slots ≤ rm.slots) (hQ : Q (some (.int z)) h WL' FL') :
    Wo p e s below Z EL n0 WL0 FL0 rm Q T (mkF m pc Ls (.int z :: rest)) :=
  X.ret hx hret rfl (Or.inl ⟨rfl, Or.inl rfl, z, rfl⟩) hlk hd hc hl hQ
/-- plain steps -/
theorem P.iloadN (X : WS p l e R s m args below meth c Z EL n0 own T h WL FL cells slots) (hx : p.tables.exec = Jvm.exec) (pc' : Nat) {k : Fin 4} {v : Int32} (hd : decode c.code pc = .ok (.iload_n k, 1)) (hl : Ls[k.val]? = some (.val (.int v))) (hp : pc + 1 = pc')
    (o : Wo p e s below Z EL n0 WL0 FL0 rm Q T (mkF m pc' Ls (.int v :: st))) : Wo p e s below Z EL n0 WL0 FL0 rm Q T (mkF m pc Ls (st)) := by
  subst hp; exact Wo.by (fun _ q => XS.iloadN X.here hx rfl hd hl q) o
theorem P.iload (X : WS p l e R s m args below meth c Z EL n0 own T h WL FL cells slots) (hx : p.tables.exec = Jvm.exec) (pc' : Nat) {k : Nat} {v : Int32} (hd : decode c.code pc = .ok (.iload k, 2)) (hl : Ls[k]? = some (.val (.int v))) (hp : pc + 2 = pc')
    (o : Wo p e s below Z EL n0 WL0 FL0 rm Q T (mkF m pc' Ls (.int v :: st))) : Wo p e s below Z EL n0 WL0 FL0 rm Q T (mkF m pc Ls (st)) := by
  subst hp; exact Wo.by (fun _ q => XS.iload X.here hx rfl hd hl q) o
theorem P.aloadN (X : WS p l e R s m args below meth c Z EL n0 own T h WL FL cells slots) (hx : p.tables.exec = Jvm.exec) (pc' : Nat) {k : Fin 4} {v : Value} (hd : decode c.code pc = .ok (.aload_n k, 1)) (hl : Ls[k.val]? = some (.val v)) (hv : v.isRef = true) (hp : pc + 1 = pc')
    (o : Wo p e s below Z EL n0 WL0 FL0 rm Q T (mkF m pc' Ls (v :: st))) : Wo p e s below Z EL n0 WL0 FL0 rm Q T (mkF m pc Ls (st)) := by
  subst hp; exact Wo.by (fun _ q => XS.aloadN X.here hx rfl hd hl hv q) o
theorem P.aload (X : WS p l e R s m args below meth c Z EL n0 own T h WL FL cells slots) (hx : p.tables.exec = Jvm.exec) (pc' : Nat) {k : Nat} {v : Value} (hd : decode c.code pc = .ok (.aload k, 2)) (hl : Ls[k]? = some (.val v)) (hv : v.isRef = true) (hp : pc + 2 = pc')
    (o : Wo p e s below Z EL n0 WL0 FL0 rm Q T (mkF m pc' Ls (v :: st))) : Wo p e s below Z EL n0 WL0 FL0 rm Q T (mkF m pc Ls (st)) := by
  subst hp; exact Wo.by (fun _ q => XS.aload X.here hx rfl hd hl hv q) o
theorem P.istoreN (X : WS p l e R s m args below meth c Z EL n0 own T h WL FL cells slots) (hx : p.tables.exec = Jvm.exec) (pc' : Nat) {k : Fin 4} {x : Int32} (L' : Array Slot) (hd : decode c.code pc = .ok (.istore_n k, 1)) (hl : storeLocals Ls k.val (.int x) = some L') (hp : pc + 1 = pc')
    (o : Wo p e s below Z EL n0 WL0 FL0 rm Q T (mkF m pc' L' (st))) : Wo p e s below Z EL n0 WL0 FL0 rm Q T (mkF m pc Ls (.int x :: st)) := by
  subst hp; exact Wo.by (fun _ q => XS.istoreN X.here hx rfl hd rfl hl q) o
theorem P.istore (X : WS p l e R s m args below meth c Z EL n0 own T h WL FL cells slots) (hx : p.tables.exec = Jvm.exec) (pc' : Nat) {k : Nat} {x : Int32} (L' : Array Slot) (hd : decode c.code pc = .ok (.istore k, 2)) (hl : storeLocals Ls k (.int x) = some L') (hp : pc + 2 = pc')
    (o : Wo p e s below Z EL n0 WL0 FL0 rm Q T (mkF m pc' L' (st))) : Wo p e s below Z EL n0 WL0 FL0 rm Q T (mkF m pc Ls (.int x :: st)) := by
  subst hp; exact Wo.by (fun _ q => XS.istore X.here hx rfl hd rfl hl q) o
theorem P.astoreN (X : WS p l e R s m args below meth c Z EL n0 own T h WL FL cells slots) (hx : p.tables.exec = Jvm.exec) (pc' : Nat) {k : Fin 4} {x : Value} (L' : Array Slot) (hd : decode c.code pc = .ok (.astore_n k, 1)) (hv : x.isRef = true) (hl : storeLocals Ls k.val x = some L') (hp : pc + 1 = pc')
    (o : Wo p e s below Z EL n0 WL0 FL0 rm Q T (mkF m pc' L' (st))) : Wo p e s below Z EL n0 WL0 FL0 rm Q T (mkF m pc Ls (x :: st)) := by
  subst hp; exact Wo.by (fun _ q => XS.astoreN X.here hx rfl hd rfl hv hl q) o
theorem P.astore (X : WS p l e R s m args below meth c Z EL n0 own T h WL FL cells slots) (hx : p.tables.exec = Jvm.exec) (pc' : Nat) {k : Nat} {x : Value} (L' : Array Slot) (hd : decode c.code pc = .ok (.astore k, 2)) (hv : x.isRef = true) (hl : storeLocals Ls k x = some L') (hp : pc + 2 = pc')
    (o : Wo p e s below Z EL n0 WL0 FL0 rm Q T (mkF m pc' L' (st))) : Wo p e s below Z EL n0 WL0 FL0 rm Q T (mkF m pc Ls (x :: st)) := by
  subst hp; exact Wo.by (fun _ q => XS.astore X.here hx rfl hd rfl hv hl q) o
theorem P.iconst (X : WS p l e R s m args below meth c Z EL n0 own T h WL FL cells slots) (hx : p.tables.exec = Jvm.exec) (pc' : Nat) (z : Int32) {i : Int} (hd : decode c.code pc = .ok (.iconst i, 1)) (hz : Int32.ofInt i = z) (hp : pc + 1 = pc')
    (o : Wo p e s below Z EL n0 WL0 FL0 rm Q T (mkF m pc' Ls (.int z :: st))) : Wo p e s below Z EL n0 WL0 FL0 rm Q T (mkF m pc Ls (st)) := by
  subst hp; subst hz; exact Wo.by (fun _ q => XS.iconst X.here hx rfl hd q) o
theorem P.bipush (X : WS p l e R s m args below meth c Z EL n0 own T h WL FL cells slots) (hx : p.tables.exec = Jvm.exec) (pc' : Nat) (z : Int32) {i : Int} (hd : decode c.code pc = .ok (.bipush i, 2)) (hz : (Int8.ofInt i).toInt32 = z) (hp : pc + 2 = pc')
    (o : Wo p e s below Z EL n0 WL0 FL0 rm Q T (mkF m pc' Ls (.int z :: st))) : Wo p e s below Z EL n0 WL0 FL0 rm Q T (mkF m pc Ls (st)) := by
  subst hp; subst hz; exact Wo.by (fun _ q => XS.bipush X.here hx rfl hd q) o
theorem P.sipush (X : WS p l e R s m args below meth c Z EL n0 own T h WL FL cells slots) (hx : p.tables.exec = Jvm.exec) (pc' : Nat) (z : Int32) {i : Int} (hd : decode c.code pc = .ok (.sipush i, 3)) (hz : (Int16.ofInt i).toInt32 = z) (hp : pc + 3 = pc')
    (o : Wo p e s below Z EL n0 WL0 FL0 rm Q T (mkF m pc' Ls (.int z :: st))) : Wo p e s below Z EL n0 WL0 FL0 rm Q T (mkF m pc Ls (st)) := by
  subst hp; subst hz; exact Wo.by (fun _ q => XS.sipush X.here hx rfl hd q) o
theorem P.aconstNull (X : WS p l e R s m args below meth c Z EL n0 own T h WL FL cells slots) (hx : p.tables.exec = Jvm.exec) (pc' : Nat) (hd : decode c.code pc = .ok (.aconst_null, 1))  (hp : pc + 1 = pc')
    (o : Wo p e s below Z EL n0 WL0 FL0 rm Q T (mkF m pc' Ls (.null :: st))) : Wo p e s below Z EL n0 WL0 FL0 rm Q T (mkF m pc Ls (st)) := by
  subst hp; exact Wo.by (fun _ q => XS.aconstNull X.here hx rfl hd q) o
theorem P.iadd (X : WS p l e R s m args below meth c Z EL n0 own T h WL FL cells slots) (hx : p.tables.exec = Jvm.exec) (pc' : Nat) {x y z : Int32} (hd : decode c.code pc = .ok (.iadd, 1)) (hz : x + y = z) (hp : pc + 1 = pc')
    (o : Wo p e s below Z EL n0 WL0 FL0 rm Q T (mkF m pc' Ls (.int z :: st))) : Wo p e s below Z EL n0 WL0 FL0 rm Q T (mkF m pc Ls (.int y :: .int x :: st)) := by
  subst hp; subst hz; exact Wo.by (fun _ q => XS.iadd X.here hx rfl hd rfl q) o
theorem P.isub (X : WS p l e R s m args below meth c Z EL n0 own T h WL FL cells slots) (hx : p.tables.exec = Jvm.exec) (pc' : Nat) {x y z : Int32} (hd : decode c.code pc = .ok (.isub, 1)) (hz : x - y = z) (hp : pc + 1 = pc')
    (o : Wo p e s below Z EL n0 WL0 FL0 rm Q T (mkF m pc' Ls (.int z :: st))) : Wo p e s below Z EL n0 WL0 FL0 rm Q T (mkF m pc Ls (.int y :: .int x :: st)) := by
  subst hp; subst hz; exact Wo.by (fun _ q => XS.isub X.here hx rfl hd rfl q) o
theorem P.imul (X : WS p l e R s m args below meth c Z EL n0 own T h WL FL cells slots) (hx : p.tables.exec = Jvm.exec) (pc' : Nat) {x y z : Int32} (hd : decode c.code pc = .ok (.imul, 1)) (hz : x * y = z) (hp : pc + 1 = pc')
    (o : Wo p e s below Z EL n0 WL0 FL0 rm Q T (mkF m pc' Ls (.int z :: st))) : Wo p e s below Z EL n0 WL0 FL0 rm Q T (mkF m pc Ls (.int y :: .int x :: st)) := by
  subst hp; subst hz; exact Wo.by (fun _ q => XS.imul X.here hx rfl hd rfl q) o
theorem P.iand (X : WS p l e R s m args below meth c Z EL n0 own T h WL FL cells slots) (hx : p.tables.exec = Jvm.exec) (pc' : Nat) {x y z : Int32} (hd : decode c.code pc = .ok (.iand, 1)) (hz : x &&& y = z) (hp : pc + 1 = pc')
    (o : Wo p e s below Z EL n0 WL0 FL0 rm Q T (mkF m pc' Ls (.int z :: st))) : Wo p e s below Z EL n0 WL0 FL0 rm Q T (mkF m pc Ls (.int y :: .int x :: st)) := by
  subst hp; subst hz; exact Wo.by (fun _ q => XS.iand X.here hx rfl hd rfl q) o
theorem P.ior (X : WS p l e R s m args below meth c Z EL n0 own T h WL FL cells slots) (hx : p.tables.exec = Jvm.exec) (pc' : Nat) {x y z : Int32} (hd : decode c.code pc = .ok (.ior, 1)) (hz : x ||| y = z) (hp : pc + 1 = pc')
    (o : Wo p e s below Z EL n0 WL0 FL0 rm Q T (mkF m pc' Ls (.int z :: st))) : Wo p e s below Z EL n0 WL0 FL0 rm Q T (mkF m pc Ls (.int y :: .int x :: st)) := by
  subst hp; subst hz; exact Wo.by (fun _ q => XS.ior X.here hx rfl hd rfl q) o
theorem P.ixor (X : WS p l e R s m args below meth c Z EL n0 own T h WL FL cells slots) (hx : p.tables.exec = Jvm.exec) (pc' : Nat) {x y z : Int32} (hd : decode c.code pc = .ok (.ixor, 1)) (hz : x ^^^ y = z) (hp : pc + 1 = pc')
    (o : Wo p e s below Z EL n0 WL0 FL0 rm Q T (mkF m pc' Ls (.int z :: st))) : Wo p e s below Z EL n0 WL0 FL0 rm Q T (mkF m pc Ls (.int y :: .int x :: st)) := by
  subst hp; subst hz; exact Wo.by (fun _ q => XS.ixor X.here hx rfl hd rfl q) o
theorem P.ishl (X : WS p l e R s m args below meth c Z EL n0 own T h WL FL cells slots) (hx : p.tables.exec = Jvm.exec) (pc' : Nat) {x y z : Int32} (hd : decode c.code pc = .ok (.ishl, 1)) (hz : x <<< (y &&& 31) = z) (hp : pc + 1 = pc')
    (o : Wo p e s below Z EL n0 WL0 FL0 rm Q T (mkF m pc' Ls (.int z :: st))) : Wo p e s below Z EL n0 WL0 FL0 rm Q T (mkF m pc Ls (.int y :: .int x :: st)) := by
  subst hp; subst hz; exact Wo.by (fun _ q => XS.ishl X.here hx rfl hd rfl q) o
theorem P.ishr (X : WS p l e R s m args below meth c Z EL n0 own T h WL FL cells slots) (hx : p.tables.exec = Jvm.exec) (pc' : Nat) {x y z : Int32} (hd : decode c.code pc = .ok (.ishr, 1)) (hz : x >>> (y &&& 31) = z) (hp : pc + 1 = pc')
    (o : Wo p e s below Z EL n0 WL0 FL0 rm Q T (mkF m pc' Ls (.int z :: st))) : Wo p e s below Z EL n0 WL0 FL0 rm Q T (mkF m pc Ls (.int y :: .int x :: st)) := by
  subst hp; subst hz; exact Wo.by (fun _ q => XS.ishr X.here hx rfl hd rfl q) o
theorem P.iushr (X : WS p l e R s m args below meth c Z EL n0 own T h WL FL cells slots) (hx : p.tables.exec = Jvm.exec) (pc' : Nat) {x y z : Int32} (hd : decode c.code pc = .ok (.iushr, 1)) (hz : (x.toUInt32 >>> (y &&& 31).toUInt32).toInt32 = z) (hp : pc + 1 = pc')
    (o : Wo p e s below Z EL n0 WL0 FL0 rm Q T (mkF m pc' Ls (.int z :: st))) : Wo p e s below Z EL n0 WL0 FL0 rm Q T (mkF m pc Ls (.int y :: .int x :: st)) := by
  subst hp; subst hz; exact Wo.by (fun _ q => XS.iushr X.here hx rfl hd rfl q) o
theorem P.i2c (X : WS p l e R s m args below meth c Z EL n0 own T h WL FL cells slots) (hx : p.tables.exec = Jvm.exec) (pc' : Nat) {x z : Int32} (hd : decode c.code pc = .ok (.i2c, 1)) (hz : x.toUInt32.toUInt16.toUInt32.toInt32 = z) (hp : pc + 1 = pc')
    (o : Wo p e s below Z EL n0 WL0 FL0 rm Q T (mkF m pc' Ls (.int z :: st))) : Wo p e s below Z EL n0 WL0 FL0 rm Q T (mkF m pc Ls (.int x :: st)) := by
  subst hp; subst hz; exact Wo.by (fun _ q => XS.i2c X.here hx rfl hd rfl q) o
theorem P.i2b (X : WS p l e R s m args below meth c Z EL n0 own T h WL FL cells slots) (hx : p.tables.exec = Jvm.exec) (pc' : Nat) {x z : Int32} (hd : decode c.code pc = .ok (.i2b, 1)) (hz : x.toInt8.toInt32 = z) (hp : pc + 1 = pc')
    (o : Wo p e s below Z EL n0 WL0 FL0 rm Q T (mkF m pc' Ls (.int z :: st))) : Wo p e s below Z EL n0 WL0 FL0 rm Q T (mkF m pc Ls (.int x :: st)) := by
  subst hp; subst hz; exact Wo.by (fun _ q => XS.i2b X.here hx rfl hd rfl q) o
theorem P.i2s (X : WS p l e R s m args below meth c Z EL n0 own T h WL FL cells slots) (hx : p.tables.exec = Jvm.exec) (pc' : Nat) {x z : Int32} (hd : decode c.code pc = .ok (.i2s, 1)) (hz : x.toInt16.toInt32 = z) (hp : pc + 1 = pc')
    (o : Wo p e s below Z EL n0 WL0 FL0 rm Q T (mkF m pc' Ls (.int z :: st))) : Wo p e s below Z EL n0 WL0 FL0 rm Q T (mkF m pc Ls (.int x :: st)) := by
  subst hp; subst hz; exact Wo.by (fun _ q => XS.i2s X.here hx rfl hd rfl q) o
theorem P.ineg (X : WS p l e R s m args below meth c Z EL n0 own T h WL FL cells slots) (hx : p.tables.exec = Jvm.exec) (pc' : Nat) {x z : Int32} (hd : decode c.code pc = .ok (.ineg, 1)) (hz : -x = z) (hp : pc + 1 = pc')
    (o : Wo p e s below Z EL n0 WL0 FL0 rm Q T (mkF m pc' Ls (.int z :: st))) : Wo p e s below Z EL n0 WL0 FL0 rm Q T (mkF m pc Ls (.int x :: st)) := by
  subst hp; subst hz; exact Wo.by (fun _ q => XS.ineg X.here hx rfl hd rfl q) o
theorem P.idiv (X : WS p l e R s m args below meth c Z EL n0 own T h WL FL cells slots) (hx : p.tables.exec = Jvm.exec) (pc' : Nat) {x y z : Int32} (hd : decode c.code pc = .ok (.idiv, 1)) (hy : y ≠ 0) (hz : x / y = z) (hp : pc + 1 = pc')
    (o : Wo p e s below Z EL n0 WL0 FL0 rm Q T (mkF m pc' Ls (.int z :: st))) : Wo p e s below Z EL n0 WL0 FL0 rm Q T (mkF m pc Ls (.int y :: .int x :: st)) := by
  subst hp; subst hz; exact Wo.by (fun _ q => XS.idiv X.here hx rfl hd rfl hy q) o
theorem P.irem (X : WS p l e R s m args below meth c Z EL n0 own T h WL FL cells slots) (hx : p.tables.exec = Jvm.exec) (pc' : Nat) {x y z : Int32} (hd : decode c.code pc = .ok (.irem, 1)) (hy : y ≠ 0) (hz : x % y = z) (hp : pc + 1 = pc')
    (o : Wo p e s below Z EL n0 WL0 FL0 rm Q T (mkF m pc' Ls (.int z :: st))) : Wo p e s below Z EL n0 WL0 FL0 rm Q T (mkF m pc Ls (.int y :: .int x :: st)) := by
  subst hp; subst hz; exact Wo.by (fun _ q => XS.irem X.here hx rfl hd rfl hy (by rw [irem_eq_mod]; exact q)) o
theorem P.iinc (X : WS p l e R s m args below meth c Z EL n0 own T h WL FL cells slots) (hx : p.tables.exec = Jvm.exec) (pc' : Nat) {k : Nat} {i : Int} {x : Int32} (L' : Array Slot) (hd : decode c.code pc = .ok (.iinc k i, 3)) (hl : Ls[k]? = some (.val (.int x))) (hl' : storeLocals Ls k (.int (x + Int32.ofInt i)) = some L') (hp : pc + 3 = pc')
    (o : Wo p e s below Z EL n0 WL0 FL0 rm Q T (mkF m pc' L' (st))) : Wo p e s below Z EL n0 WL0 FL0 rm Q T (mkF m pc Ls (st)) := by
  subst hp; exact Wo.by (fun _ q => XS.iinc X.here hx rfl hd hl hl' q) o
theorem P.dup (X : WS p l e R s m args below meth c Z EL n0 own T h WL FL cells slots) (hx : p.tables.exec = Jvm.exec) (pc' : Nat) {x : Value} (hd : decode c.code pc = .ok (.dup, 1)) (hc : x.category = 1) (hp : pc + 1 = pc')
    (o : Wo p e s below Z EL n0 WL0 FL0 rm Q T (mkF m pc' Ls (x :: x :: st))) : Wo p e s below Z EL n0 WL0 FL0 rm Q T (mkF m pc Ls (x :: st)) := by
  subst hp; exact Wo.by (fun _ q => XS.dup X.here hx rfl hd rfl hc q) o
theorem P.pop (X : WS p l e R s m args below meth c Z EL n0 own T h WL FL cells slots) (hx : p.tables.exec = Jvm.exec) (pc' : Nat) {x : Value} (hd : decode c.code pc = .ok (.pop, 1)) (hc : x.category = 1) (hp : pc + 1 = pc')
    (o : Wo p e s below Z EL n0 WL0 FL0 rm Q T (mkF m pc' Ls (st))) : Wo p e s below Z EL n0 WL0 FL0 rm Q T (mkF m pc Ls (x :: st)) := by
  subst hp; exact Wo.by (fun _ q => XS.pop X.here hx rfl hd rfl hc q) o
theorem P.dupX1 (X : WS p l e R s m args below meth c Z EL n0 own T h WL FL cells slots) (hx : p.tables.exec = Jvm.exec) (pc' : Nat) {x y : Value} (hd : decode c.code pc = .ok (.dup_x1, 1)) (hc : x.category = 1) (hc' : y.category = 1) (hp : pc + 1 = pc')
    (o : Wo p e s below Z EL n0 WL0 FL0 rm Q T (mkF m pc' Ls (x :: y :: x :: st))) : Wo p e s below Z EL n0 WL0 FL0 rm Q T (mkF m pc Ls (x :: y :: st)) := by
  subst hp; exact Wo.by (fun _ q => XS.dupX1 X.here hx rfl hd rfl hc hc' q) o
theorem P.goto (X : WS p l e R s m args below meth c Z EL n0 own T h WL FL cells slots) (hx : p.tables.exec = Jvm.exec) (pc' : Nat) {off : Int} (hd : decode c.code pc = .ok (.goto off, 3))  (ho : 0 ≤ (pc : Int) + off) (hp : ((pc : Int) + off).toNat = pc')
    (o : Wo p e s below Z EL n0 WL0 FL0 rm Q T (mkF m pc' Ls (st))) : Wo p e s below Z EL n0 WL0 FL0 rm Q T (mkF m pc Ls (st)) := by
  exact Wo.by (fun _ q => XS.goto X.here hx rfl (pc0 := pc) rfl hd ho hp q) o
theorem P.ifYes (X : WS p l e R s m args below meth c Z EL n0 own T h WL FL cells slots) (hx : p.tables.exec = Jvm.exec) (pc' : Nat) {off : Int} {cd : ClassFile.Cond} {x : Int32} (hd : decode c.code pc = .ok (.ifCond cd off, 3)) (hc : ifCond.holds cd x = true) (ho : 0 ≤ (pc : Int) + off) (hp : ((pc : Int) + off).toNat = pc')
    (o : Wo p e s below Z EL n0 WL0 FL0 rm Q T (mkF m pc' Ls (st))) : Wo p e s below Z EL n0 WL0 FL0 rm Q T (mkF m pc Ls (.int x :: st)) := by
  exact Wo.by (fun _ q => XS.ifYes X.here hx rfl (pc0 := pc) rfl hd rfl hc ho hp q) o
theorem P.ifNo (X : WS p l e R s m args below meth c Z EL n0 own T h WL FL cells slots) (hx : p.tables.exec = Jvm.exec) (pc' : Nat) {off : Int} {cd : ClassFile.Cond} {x : Int32} (hd : decode c.code pc = .ok (.ifCond cd off, 3)) (hc : ifCond.holds cd x = false) (hp : pc + 3 = pc')
    (o : Wo p e s below Z EL n0 WL0 FL0 rm Q T (mkF m pc' Ls (st))) : Wo p e s below Z EL n0 WL0 FL0 rm Q T (mkF m pc Ls (.int x :: st)) := by
  subst hp; exact Wo.by (fun _ q => XS.ifNo X.here hx rfl hd rfl hc q) o
theorem P.icmpYes (X : WS p l e R s m args below meth c Z EL n0 own T h WL FL cells slots) (hx : p.tables.exec = Jvm.exec) (pc' : Nat) {off : Int} {cd : ClassFile.Cond} {x y : Int32} (hd : decode c.code pc = .ok (.if_icmp cd off, 3)) (hc : if_icmp.holds cd x y = true) (ho : 0 ≤ (pc : Int) + off) (hp : ((pc : Int) + off).toNat = pc')
    (o : Wo p e s below Z EL n0 WL0 FL0 rm Q T (mkF m pc' Ls (st))) : Wo p e s below Z EL n0 WL0 FL0 rm Q T (mkF m pc Ls (.int y :: .int x :: st)) := by
  exact Wo.by (fun _ q => XS.icmpYes X.here hx rfl (pc0 := pc) rfl hd rfl hc ho hp q) o
theorem P.icmpNo (X : WS p l e R s m args below meth c Z EL n0 own T h WL FL cells slots) (hx : p.tables.exec = Jvm.exec) (pc' : Nat) {off : Int} {cd : ClassFile.Cond} {x y : Int32} (hd : decode c.code pc = .ok (.if_icmp cd off, 3)) (hc : if_icmp.holds cd x y = false) (hp : pc + 3 = pc')
    (o : Wo p e s below Z EL n0 WL0 FL0 rm Q T (mkF m pc' Ls (st))) : Wo p e s below Z EL n0 WL0 FL0 rm Q T (mkF m pc Ls (.int y :: .int x :: st)) := by
  subst hp; exact Wo.by (fun _ q => XS.icmpNo X.here hx rfl hd rfl hc q) o
theorem P.ifnullYes (X : WS p l e R s m args below meth c Z EL n0 own T h WL FL cells slots) (hx : p.tables.exec = Jvm.exec) (pc' : Nat) {off : Int} (hd : decode c.code pc = .ok (.ifnull off, 3))  (ho : 0 ≤ (pc : Int) + off) (hp : ((pc : Int) + off).toNat = pc')
    (o : Wo p e s below Z EL n0 WL0 FL0 rm Q T (mkF m pc' Ls (st))) : Wo p e s below Z EL n0 WL0 FL0 rm Q T (mkF m pc Ls (.null :: st)) := by
  exact Wo.by (fun _ q => XS.ifnullYes X.here hx rfl (pc0 := pc) rfl hd rfl ho hp q) o
theorem P.ifnullNo (X : WS p l e R s m args below meth c Z EL n0 own T h WL FL cells slots) (hx : p.tables.exec = Jvm.exec) (pc' : Nat) {off : Int} {b : Addr} (hd : decode c.code pc = .ok (.ifnull off, 3))  (hp : pc + 3 = pc')
    (o : Wo p e s below Z EL n0 WL0 FL0 rm Q T (mkF m pc' Ls (st))) : Wo p e s below Z EL n0 WL0 FL0 rm Q T (mkF m pc Ls (.ref b :: st)) := by
  subst hp; exact Wo.by (fun _ q => XS.ifnullNo X.here hx rfl hd rfl q) o
theorem P.ifnonnullYes (X : WS p l e R s m args below meth c Z EL n0 own T h WL FL cells slots) (hx : p.tables.exec = Jvm.exec) (pc' : Nat) {off : Int} {b : Addr} (hd : decode c.code pc = .ok (.ifnonnull off, 3))  (ho : 0 ≤ (pc : Int) + off) (hp : ((pc : Int) + off).toNat = pc')
    (o : Wo p e s below Z EL n0 WL0 FL0 rm Q T (mkF m pc' Ls (st))) : Wo p e s below Z EL n0 WL0 FL0 rm Q T (mkF m pc Ls (.ref b :: st)) := by
  exact Wo.by (fun _ q => XS.ifnonnullYes X.here hx rfl (pc0 := pc) rfl hd rfl ho hp q) o
theorem P.ifnonnullNo (X : WS p l e R s m args below meth c Z EL n0 own T h WL FL cells slots) (hx : p.tables.exec = Jvm.exec) (pc' : Nat) {off : Int} (hd : decode c.code pc = .ok (.ifnonnull off, 3))  (hp : pc + 3 = pc')
    (o : Wo p e s below Z EL n0 WL0 FL0 rm Q T (mkF m pc' Ls (st))) : Wo p e s below Z EL n0 WL0 FL0 rm Q T (mkF m pc Ls (.null :: st)) := by
  subst hp; exact Wo.by (fun _ q => XS.ifnonnullNo X.here hx rfl hd rfl q) o
/-- steps that read or write -/
theorem WS.getF (X : WS p l e R s m args below meth c Z EL n0 own T h WL FL cells slots) (hx : p.tables.exec = Jvm.exec) {R0 O n d host : String} {index : Nat} (w : (Jvm.Cond.fieldLink own index R0 n d).before a0 Z = true ∨ (Jvm.Cond.fieldLinkNest own index R0 n d host).before a0 Z = true) (via : Via Z R0 O n d) {a : Addr} {v : Value} (F : Fld Z h a O n d v)
    (hd : decode c.code pc = .ok (.getfield index, 3)) (k : ∀ T', WS p l e R s m args below meth c Z EL n0 own T' h WL FL cells slots → Wo p e s below Z EL n0 WL0 FL0 rm Q T' (mkF m (pc + 3) Ls (v :: rest))) :
    Wo p e s below Z EL n0 WL0 FL0 rm Q T (mkF m pc Ls (.ref a :: rest)) := by
  obtain ⟨vm0, k0, locs, X, eT, hS, hk, hZ, hown, N, I⟩ := X
  obtain ⟨T', X', eT', st⟩ := RoadKit.getF X hx hZ hown w via eT F (g := mkF m pc Ls (.ref a :: rest)) rfl rfl hd
  exact Wo.by st (k T' ⟨vm0, k0, locs, X', eT', hS, hk, hZ, hown, N, I⟩)
theorem WS.getS (X : WS p l e R s m args below meth c Z EL n0 own T h WL FL cells slots) (hx : p.tables.exec = Jvm.exec) {R0 O n d : String} {index : Nat} (w : (Jvm.Cond.fieldLink own index R0 n d).before a0 Z = true) (via : Via Z R0 O n d) {v : Value} (F : Sta Z Z.heap O n d v)
    (hd : decode c.code pc = .ok (.getstatic index, 3)) (k : ∀ T', WS p l e R s m args below meth c Z EL n0 own T' h WL FL cells slots → Wo p e s below Z EL n0 WL0 FL0 rm Q T' (mkF m (pc + 3) Ls (v :: st))) :
    Wo p e s below Z EL n0 WL0 FL0 rm Q T (mkF m pc Ls st) := by
  have F' := X.sta F
  obtain ⟨vm0, k0, locs, X, eT, hS, hk, hZ, hown, N, I⟩ := X
  obtain ⟨T', X', eT', st⟩ := RoadKit.getS (host := "") X hx hZ hown w via eT F' (g := mkF m pc Ls st) rfl hd
  exact Wo.by st (k T' ⟨vm0, k0, locs, X', eT', hS, hk, hZ, hown, N, I⟩)
theorem WS.putF (X : WS p l e R s m args below meth c Z EL n0 own T h WL FL cells slots) (hx : p.tables.exec = Jvm.exec) {R0 O n d host C : String} {index kk : Nat} {ty : FieldType} (w : (Jvm.Cond.fieldLink own index R0 n d).before a0 Z = true ∨ (Jvm.Cond.fieldLinkNest own index R0 n d host).before a0 Z = true) (via : Via Z R0 O n d) {a : Addr} {v old : Value} (F : Fld Z h a O n d old) (E : Exa Z h a C)
    (L : (Jvm.Cond.lays C O n d).before a0 Z = true ∨ ((Jvm.Cond.laysFinal C O n d).before a0 Z = true ∧ own = O ∧ meth.name = "<init>")) (wi : (Jvm.Cond.instantiable C kk).before a0 Z = true) (hty : parseFieldDescriptor d = some ty) (hn : narrow ty v = v) (hf : fits ty v = true) (ha : a ∈ WL)
    (hd : decode c.code pc = .ok (.putfield index, 3)) (k : ∀ T' h', WS p l e R s m args below meth c Z EL n0 own T' h' WL FL cells slots → Wr h h' a (Jvm.RoadKit.slotOf Z O n d) v → Fld Z h' a O n d v → Wo p e s below Z EL n0 WL0 FL0 rm Q T' (mkF m (pc + 3) Ls rest)) :
    Wo p e s below Z EL n0 WL0 FL0 rm Q T (mkF m pc Ls (v :: .ref a :: rest)) := by
  obtain ⟨vm0, k0, locs, X, eT, hS, hk, hZ, hown, N, I⟩ := X
  obtain ⟨T', h', X', eT', W, st⟩ := RoadKit.putF X hx hZ hown w via eT F E L wi hty hn hf (g := mkF m pc Ls (v :: .ref a :: rest)) rfl rfl hd
  exact Wo.by st (k T' h' ⟨vm0, k0, _, X', eT', hS, by rw [W.size]; exact hk, hZ, hown, Fr.snoc X' N (I.ge ha), I.wr W ha⟩ W (F.same W))
theorem WS.newO (X : WS p l e R s m args below meth c Z EL n0 own T h WL FL cells slots) (hx : p.tables.exec = Jvm.exec) {C : String} {index n : Nat} (w : (Jvm.Cond.classLink own index C).before a0 Z = true) (wi : (Jvm.Cond.instantiable C n).before a0 Z = true) (wz : (Jvm.Cond.initialized C).before a0 Z = true)
    (hd : decode c.code pc = .ok (.new index, 3)) (hc : cells + 1 ≤ R.cells) (hl : slots + n ≤ R.slots)
    (k : ∀ T' h' a, WS p l e R s m args below meth c Z EL n0 own T' h' (a :: WL) FL (cells + 1) (slots + n) → Ext h h' → h.size ≤ a → Exa Z h' a C → (∀ {O nm d : String} {ty : FieldType}, Laid Z a0 C O nm d → parseFieldDescriptor d = some ty → Fld Z h' a O nm d (defaultValue ty)) → Wo p e s below Z EL n0 WL0 FL0 rm Q T' (mkF m (pc + 3) Ls (.ref a :: st))) :
    Wo p e s below Z EL n0 WL0 FL0 rm Q T (mkF m pc Ls st) := by
  obtain ⟨vm0, k0, locs, X, eT, hS, hk, hZ, hown, N, I⟩ := X
  obtain ⟨T', h', X', eT', E, A, D, -, st⟩ := RoadKit.newO X hx hZ hown w wi wz eT (g := mkF m pc Ls st) rfl hd hc hl
  exact Wo.by st (k T' h' h.size ⟨vm0, k0, _, X', eT', hS, Nat.le_trans hk E.1, hZ, hown, N, I.new E A.lt⟩ E (Nat.le_refl _) A D)
theorem WS.newP (X : WS p l e R s m args below meth c Z EL n0 own T h WL FL cells slots) (hx : p.tables.exec = Jvm.exec) {aty : ArrayType} (w : (Jvm.Cond.arrayClass (newarray.typeOf aty)).before a0 Z = true) {n : Int32} (hd : decode c.code pc = .ok (.newarray aty, 2))
    (hn : ¬ n < 0) {cap : Nat} (hcap : n.toNatClampNeg ≤ cap) (hb : cap * 8 ≤ 536870912) (hc : cells + 1 ≤ R.cells) (hl : slots + cap ≤ R.slots)
    (k : ∀ T' h' a ka, WS p l e R s m args below meth c Z EL n0 own T' h' (a :: WL) FL (cells + 1) (slots + cap) → Ext h h' → h.size ≤ a → Arv Z h' a ka (newarray.typeOf aty) n [] (defaultValue (newarray.typeOf aty)) → Wo p e s below Z EL n0 WL0 FL0 rm Q T' (mkF m (pc + 2) Ls (.ref a :: rest))) :
    Wo p e s below Z EL n0 WL0 FL0 rm Q T (mkF m pc Ls (.int n :: rest)) := by
  obtain ⟨vm0, k0, locs, X, eT, hS, hk, hZ, hown, N, I⟩ := X
  obtain ⟨T', h', cA, X', eT', E, A, st⟩ := RoadKit.newP X hx hZ w eT (g := mkF m pc Ls (.int n :: rest)) rfl hd rfl hn hcap hb hc hl
  exact Wo.by st (k T' h' h.size cA ⟨vm0, k0, _, X', eT', hS, Nat.le_trans hk E.1, hZ, hown, N, I.new E A.lt⟩ E (Nat.le_refl _) (Arv.new A hn))
theorem WS.stC (X : WS p l e R s m args below meth c Z EL n0 own T h WL FL cells slots) (hx : p.tables.exec = Jvm.exec) {a : Addr} {ka : ClassId} {N : Int32} {vs : List Value} {dv : Value} (A : Arv Z h a ka .char N vs dv) {j x : Int32} {i : Nat} (hj : ¬ j < 0 ∧ j < N) (hi : j.toNatClampNeg = i) (hl : i < vs.length) (ha : a ∈ WL)
    (hd : decode c.code pc = .ok (.castore, 1)) (k : ∀ T' h', WS p l e R s m args below meth c Z EL n0 own T' h' WL FL cells slots → Wr h h' a j.toNatClampNeg (.int (nar .char x)) → Arv Z h' a ka .char N (vs.set i (.int (nar .char x))) dv → Wo p e s below Z EL n0 WL0 FL0 rm Q T' (mkF m (pc + 1) Ls rest)) :
    Wo p e s below Z EL n0 WL0 FL0 rm Q T (mkF m pc Ls (.int x :: .int j :: .ref a :: rest)) := by
  obtain ⟨vm0, k0, locs, X, eT, hS, hk, hZ, hown, N, I⟩ := X
  obtain ⟨cl, A1, A2, A3, A4, A5, A6⟩ := A
  obtain ⟨T', h', X', eT', W, st⟩ := RoadKit.stC X hx hZ eT A1 (inb_of A3 hj) (g := mkF m pc Ls (.int x :: .int j :: .ref a :: rest)) rfl rfl hd
  exact Wo.by st (k T' h' ⟨vm0, k0, _, X', eT', hS, by rw [W.size]; exact hk, hZ, hown, Fr.snoc X' N (I.ge ha), I.wr W ha⟩ W (Arv.set A1 A2 A3 A4 A5 A6 (fits_nar_char x) W i hi hl))
theorem WS.stB (X : WS p l e R s m args below meth c Z EL n0 own T h WL FL cells slots) (hx : p.tables.exec = Jvm.exec) {a : Addr} {ka : ClassId} {N : Int32} {vs : List Value} {dv : Value} (A : Arv Z h a ka .byte N vs dv) {j x : Int32} {i : Nat} (hj : ¬ j < 0 ∧ j < N) (hi : j.toNatClampNeg = i) (hl : i < vs.length) (ha : a ∈ WL)
    (hd : decode c.code pc = .ok (.bastore, 1)) (k : ∀ T' h', WS p l e R s m args below meth c Z EL n0 own T' h' WL FL cells slots → Wr h h' a j.toNatClampNeg (.int (nar .byte x)) → Arv Z h' a ka .byte N (vs.set i (.int (nar .byte x))) dv → Wo p e s below Z EL n0 WL0 FL0 rm Q T' (mkF m (pc + 1) Ls rest)) :
    Wo p e s below Z EL n0 WL0 FL0 rm Q T (mkF m pc Ls (.int x :: .int j :: .ref a :: rest)) := by
  obtain ⟨vm0, k0, locs, X, eT, hS, hk, hZ, hown, N, I⟩ := X
  obtain ⟨cl, A1, A2, A3, A4, A5, A6⟩ := A
  obtain ⟨T', h', X', eT', W, st⟩ := RoadKit.stB X hx hZ eT A1 (inb_of A3 hj) (g := mkF m pc Ls (.int x :: .int j :: .ref a :: rest)) rfl rfl hd
  exact Wo.by st (k T' h' ⟨vm0, k0, _, X', eT', hS, by rw [W.size]; exact hk, hZ, hown, Fr.snoc X' N (I.ge ha), I.wr W ha⟩ W (Arv.set A1 A2 A3 A4 A5 A6 (fits_nar_byte x) W i hi hl))
theorem WS.initO (X : WS p l e R s m args below meth c Z EL n0 own T h WL FL cells slots) (hx : p.tables.exec = Jvm.exec) {idx : Nat} (w1 : (Jvm.Cond.methodLink own idx Lib.objectInit).before a0 Z = true) (w2 : (Jvm.Cond.instanceMethod Lib.objectInit).before a0 Z = true)
    (w3 : (Jvm.Cond.code Lib.objectInit ⟨#[0xb1]⟩ 1 none).before a0 Z = true) (hsize : Ls.size = c.maxLocals) {a : Addr} (hd : decode c.code pc = .ok (.invokespecial idx, 3))
    (hf : 1 ≤ R.frames) {W : Nat} (hW : (rest.map fun v => v.category).sum ≤ W) (hl : W + 12 ≤ R.locals)
    (k : ∀ T', WS p l e R s m args below meth c Z EL n0 own T' h WL FL cells slots → Wo p e s below Z EL n0 WL0 FL0 rm Q T' (mkF m (pc + 3) Ls rest)) :
    Wo p e s below Z EL n0 WL0 FL0 rm Q T (mkF m pc Ls (.ref a :: rest)) := by
  obtain ⟨vm0, k0, locs, X, eT, hS, hk, hZ, hown, N, I⟩ := X
  obtain ⟨T', X', eT', st⟩ := RoadKit.initO X hx hZ hown w1 w2 w3 eT (g := mkF m pc Ls (.ref a :: rest)) rfl hsize rfl hd hf (W := W) (by show 2 * 0 + _ ≤ _; omega) hl
  exact Wo.by st (k T' ⟨vm0, k0, _, X', eT', hS, hk, hZ, hown, N, I⟩)
theorem cat_ref {v : Value} (hv : v.isRef = true) : v.category = 1 := by rcases ref_cases hv with rfl | ⟨a, rfl⟩ <;> rfl
theorem nar_ref {v : Value} {t : FieldType} (ht : t.isReference = true) (hv : v.isRef = true) : narrow t v = v := by cases t <;> first | (cases ht; done) | (rcases ref_cases hv with rfl | ⟨a, rfl⟩ <;> rfl)
theorem fit_ref {v : Value} {t : FieldType} (ht : t.isReference = true) (hv : v.isRef = true) : fits t v = true := by cases t <;> first | (cases ht; done) | (rcases ref_cases hv with rfl | ⟨a, rfl⟩ <;> rfl)
theorem WS.acmp (X : WS p l e R s m args below meth c Z EL n0 own T h WL FL cells slots) (hx : p.tables.exec = Jvm.exec) {cd : ACond} {x y : Value} (h1 : x.isRef = true) (h2 : y.isRef = true) {o : Int} {pc' : Nat} {same : Bool}
    (hd : decode c.code pc = .ok (.if_acmp cd o, 3)) (hq : decide (x = y) = same) (ho : 0 ≤ (pc : Int) + o) (hp : pc' = if acV cd same = true then ((pc : Int) + o).toNat else pc + 3)
    (k : Wo p e s below Z EL n0 WL0 FL0 rm Q T (mkF m pc' Ls rest)) : Wo p e s below Z EL n0 WL0 FL0 rm Q T (mkF m pc Ls (y :: x :: rest)) := by
  obtain ⟨vm0, k0, locs, X, eT, hS, hk, hZ, hown, N, I⟩ := X
  exact Wo.by (fun t q => RoadKit.acmp (g := mkF m pc Ls (y :: x :: rest)) X hx rfl h1 h2 (pc0 := pc) rfl hd rfl hq ho hp q) k
theorem WS.alen (X : WS p l e R s m args below meth c Z EL n0 own T h WL FL cells slots) (hx : p.tables.exec = Jvm.exec) {a : Addr} {ka : ClassId} {ty : FieldType} {N : Int32} {vs : List Value} {dv : Value} (A : Arv Z h a ka ty N vs dv) (hd : decode c.code pc = .ok (.arraylength, 1))
    (k : Wo p e s below Z EL n0 WL0 FL0 rm Q T (mkF m (pc + 1) Ls (.int N :: rest))) : Wo p e s below Z EL n0 WL0 FL0 rm Q T (mkF m pc Ls (.ref a :: rest)) := by
  obtain ⟨vm0, k0, locs, X, eT, hS, hk, hZ, hown, N, I⟩ := X
  obtain ⟨cl, A1, A2, A3, A4, -, -⟩ := A
  refine Wo.by (fun t q => X.arraylength hx (by rw [eT]; exact A1.1) (State.isArrayOf_alike hZ.alike A1.2.1) (g := mkF m pc Ls (.ref a :: rest)) rfl rfl hd t ?_) k
  rw [len_of A3 A4]; exact q
theorem WS.cld (X : WS p l e R s m args below meth c Z EL n0 own T h WL FL cells slots) (hx : p.tables.exec = Jvm.exec) {a : Addr} {ka : ClassId} {N : Int32} {vs : List Value} {dv : Value} (A : Arv Z h a ka .char N vs dv) {j x : Int32} (hj : ¬ j < 0 ∧ j < N) (hv : vs.getD j.toNatClampNeg dv = .int x) (hd : decode c.code pc = .ok (.caload, 1))
    (k : Wo p e s below Z EL n0 WL0 FL0 rm Q T (mkF m (pc + 1) Ls (.int x :: rest))) : Wo p e s below Z EL n0 WL0 FL0 rm Q T (mkF m pc Ls (.int j :: .ref a :: rest)) := by
  obtain ⟨vm0, k0, locs, X, eT, hS, hk, hZ, hown, N, I⟩ := X
  obtain ⟨cl, A1, A2, A3, A4, A5, -⟩ := A
  exact Wo.by (fun t q => X.caload hx (by rw [eT]; exact A1.1) (State.isArrayOf_alike hZ.alike A1.2.1) A1.2.2 (inb_of A3 hj) (A5.at (inb_of A3 hj) hv) (g := mkF m pc Ls (.int j :: .ref a :: rest)) rfl rfl hd t q) k
theorem WS.bld (X : WS p l e R s m args below meth c Z EL n0 own T h WL FL cells slots) (hx : p.tables.exec = Jvm.exec) {a : Addr} {ka : ClassId} {N : Int32} {vs : List Value} {dv : Value} (A : Arv Z h a ka .byte N vs dv) {j x : Int32} (hj : ¬ j < 0 ∧ j < N) (hv : vs.getD j.toNatClampNeg dv = .int x) (hd : decode c.code pc = .ok (.baload, 1))
    (k : Wo p e s below Z EL n0 WL0 FL0 rm Q T (mkF m (pc + 1) Ls (.int x :: rest))) : Wo p e s below Z EL n0 WL0 FL0 rm Q T (mkF m pc Ls (.int j :: .ref a :: rest)) := by
  obtain ⟨vm0, k0, locs, X, eT, hS, hk, hZ, hown, N, I⟩ := X
  obtain ⟨cl, A1, A2, A3, A4, A5, -⟩ := A
  exact Wo.by (fun t q => X.baloadBytes hx (by rw [eT]; exact A1.1) (State.isArrayOf_alike hZ.alike A1.2.1) A1.2.2 (inb_of A3 hj) (A5.at (inb_of A3 hj) hv) (g := mkF m pc Ls (.int j :: .ref a :: rest)) rfl rfl hd t q) k
theorem WS.castY (X : WS p l e R s m args below meth c Z EL n0 own T h WL FL cells slots) (hx : p.tables.exec = Jvm.exec) {C : String} {index : Nat} (w : (Jvm.Cond.classLink own index C).before a0 Z = true) {a : Addr} (F : Ins Z h a C true) (hd : decode c.code pc = .ok (.checkcast index, 3))
    (k : ∀ T', WS p l e R s m args below meth c Z EL n0 own T' h WL FL cells slots → Wo p e s below Z EL n0 WL0 FL0 rm Q T' (mkF m (pc + 3) Ls (.ref a :: rest))) : Wo p e s below Z EL n0 WL0 FL0 rm Q T (mkF m pc Ls (.ref a :: rest)) := by
  obtain ⟨vm0, k0, locs, X, eT, hS, hk, hZ, hown, N, I⟩ := X
  obtain ⟨T', X', eT', st⟩ := RoadKit.castY X hx hZ hown w eT F (g := mkF m pc Ls (.ref a :: rest)) rfl rfl hd
  exact Wo.by st (k T' ⟨vm0, k0, _, X', eT', hS, hk, hZ, hown, N, I⟩)
theorem WS.instY (X : WS p l e R s m args below meth c Z EL n0 own T h WL FL cells slots) (hx : p.tables.exec = Jvm.exec) {C : String} {index : Nat} (w : (Jvm.Cond.classLink own index C).before a0 Z = true) {a : Addr} (F : Ins Z h a C true) (hd : decode c.code pc = .ok (.instanceof index, 3))
    (k : ∀ T', WS p l e R s m args below meth c Z EL n0 own T' h WL FL cells slots → Wo p e s below Z EL n0 WL0 FL0 rm Q T' (mkF m (pc + 3) Ls (.int 1 :: rest))) : Wo p e s below Z EL n0 WL0 FL0 rm Q T (mkF m pc Ls (.ref a :: rest)) := by
  obtain ⟨vm0, k0, locs, X, eT, hS, hk, hZ, hown, N, I⟩ := X
  obtain ⟨T', X', eT', st⟩ := RoadKit.instY X hx hZ hown w eT F (g := mkF m pc Ls (.ref a :: rest)) rfl rfl hd
  exact Wo.by st (k T' ⟨vm0, k0, _, X', eT', hS, hk, hZ, hown, N, I⟩)
theorem WS.castN (X : WS p l e R s m args below meth c Z EL n0 own T h WL FL cells slots) (hx : p.tables.exec = Jvm.exec) {index : Nat} (hd : decode c.code pc = .ok (.checkcast index, 3))
    (k : Wo p e s below Z EL n0 WL0 FL0 rm Q T (mkF m (pc + 3) Ls (.null :: rest))) : Wo p e s below Z EL n0 WL0 FL0 rm Q T (mkF m pc Ls (.null :: rest)) := by
  obtain ⟨vm0, k0, locs, X, eT, hS, hk, hZ, hown, N, I⟩ := X
  exact Wo.by (X.checkcastNull hx (g := mkF m pc Ls (.null :: rest)) rfl rfl hd) k
theorem WS.ldcI (X : WS p l e R s m args below meth c Z EL n0 own T h WL FL cells slots) (hx : p.tables.exec = Jvm.exec) {index : Nat} {v : Int32} (w : (Jvm.Cond.constant own index v).before a0 Z = true) (hd : decode c.code pc = .ok (.ldc index, 2))
    (k : Wo p e s below Z EL n0 WL0 FL0 rm Q T (mkF m (pc + 2) Ls (.int v :: st))) : Wo p e s below Z EL n0 WL0 FL0 rm Q T (mkF m pc Ls st) := by
  obtain ⟨vm0, k0, locs, X, eT, hS, hk, hZ, hown, N, I⟩ := X
  exact Wo.by (X.ldcInt hx hown (mv hZ w) (g := mkF m pc Ls st) rfl hd) k
theorem WS.cpA (X : WS p l e R s m args below meth c Z EL n0 own T h WL FL cells slots) (hx : p.tables.exec = Jvm.exec) {index : Nat} (w1 : (Jvm.Cond.methodLink own index Jvm.Stand.acN).before a0 Z = true) (w2 : (Jvm.Cond.native Jvm.Stand.acN).before a0 Z = true) (w3 : (Jvm.Cond.static Jvm.Stand.acN).before a0 Z = true) (w4 : (Jvm.Cond.initialized "java/lang/System").before a0 Z = true)
    {a b : Addr} {ka kb : ClassId} {ty ty' : FieldType} {z z' sp dp nn : Int32} {vs vd us vr : List Value} {dv dd : Value} (A : Arv Z h a ka ty z vs dv) (B : Arv Z h b kb ty' z' vd dd) (hty : (ty = ty' ∧ refKind ty = false) ∨ (refKind ty = true ∧ refKind ty' = true ∧ StoL Z h b us))
    (h1 : ¬ sp < 0) (h2 : ¬ dp < 0) (h3 : ¬ nn < 0) (h4 : sp.toNatClampNeg + nn.toNatClampNeg ≤ z.toNatClampNeg) (h5 : dp.toNatClampNeg + nn.toNatClampNeg ≤ z'.toNatClampNeg)
    (hus : us = (List.range nn.toNatClampNeg).map fun i => vs.getD (sp.toNatClampNeg + i) dv) (hl : dp.toNatClampNeg + nn.toNatClampNeg ≤ vd.length) (hr : vd.take dp.toNatClampNeg ++ us ++ vd.drop (dp.toNatClampNeg + nn.toNatClampNeg) = vr) (hb : b ∈ WL)
    (hsize : Ls.size = c.maxLocals) (hd : decode c.code pc = .ok (.invokestatic index, 3)) (hf : 1 ≤ R.frames) {W : Nat} (hW : (rest.map fun v => v.category).sum ≤ W) (hlo : W + 18 ≤ R.locals)
    (k : ∀ T' h', WS p l e R s m args below meth c Z EL n0 own T' h' WL FL cells slots → Keep h h' [b] → Arv Z h' b kb ty' z' vr dd → Wo p e s below Z EL n0 WL0 FL0 rm Q T' (mkF m (pc + 3) Ls rest)) :
    Wo p e s below Z EL n0 WL0 FL0 rm Q T (mkF m pc Ls (.int nn :: .int dp :: .ref b :: .int sp :: .ref a :: rest)) := by
  obtain ⟨vm0, k0, locs, X, eT, hS, hk, hZ, hown, N, I⟩ := X
  obtain ⟨T', h', L, X', eT', N', K, V, st⟩ := RoadKit.cpA X hx hZ hown w1 w2 w3 w4 eT A B hty h1 h2 h3 h4 h5 hus hl N (I.ge hb) (g := mkF m pc Ls (.int nn :: .int dp :: .ref b :: .int sp :: .ref a :: rest)) rfl hsize rfl hd hf (W := W) (by show 2 * 0 + _ ≤ _; omega) (by rw [show nativeFrameWords "java/lang/System" "arraycopy" 5 = 7 by decide]; omega)
  subst hr
  exact Wo.by st (k T' h' ⟨vm0, k0, _, X', eT', hS, Nat.le_trans hk K.1, hZ, hown, N', I.keep K (allS hb all0)⟩ K V)
/-- a String constant, read -/
theorem WS.ldc (X : WS p l e R s m args below meth c Z EL n0 own T h WL FL cells slots) (hx : p.tables.exec = Jvm.exec) {index : Nat} {text : String} (w : (Jvm.Cond.stringLink own index text).before a0 Z = true) (wS : ∀ a ∈ Bundle.stringAtoms, a.before a0 Z = true) (hmem : (own, index) ∈ EL)
    {vs : List Value} {z : Int32} (ht : (∀ c ∈ text.toList, c.toNat < 256) ∧ text.toList.map (fun c => Value.int (Jvm.Lit.byteI c.toNat.toUInt16)) = vs) (hz : ¬ z < 0) (hl : z.toNatClampNeg = vs.length)
    (hd : decode c.code pc = .ok (.ldc index, 2)) {n : Nat} (hn : 4 * text.toList.length ≤ n) (hbig : n ≤ 536870912) (hc : cells + 2 ≤ R.cells) (hl' : slots + (n + 4) ≤ R.slots)
    (k : ∀ T' h' a b kb, WS p l e R s m args below meth c Z EL n0 own T' h' WL (a :: b :: FL) (cells + 2) (slots + (n + 4)) → Ext h h' → Exa Z h' a "java/lang/String" → Fld Z h' a "java/lang/String" "coder" "B" (.int 0) → Fld Z h' a "java/lang/String" "value" "[B" (.ref b) → Arv Z h' b kb .byte z vs (.int 0) → Wo p e s below Z EL n0 WL0 FL0 rm Q T' (mkF m (pc + 2) Ls (.ref a :: st))) :
    Wo p e s below Z EL n0 WL0 FL0 rm Q T (mkF m pc Ls st) := by
  obtain ⟨vm0, k0, locs, X, eT, hS, hk, hZ, hown, N, ⟨a1, i1⟩, i2, i3, i4, i5, i6⟩ := X
  obtain ⟨a, T', h', k1, b, kb, X', eT', E, hS', hk', hZ', hown', A, C, V, B, la, lb, hC, -, hne, st⟩ := ldcCH X hx hZ hown w wS eT hS hk i1 hmem i2 ht hz hl (g := mkF m pc Ls st) rfl hd hn hbig hc hl'
  have S : ∀ x ∈ WL, Safe Z EL T'.vm h' x := fun x hx => hC.safe (i4 x hx).2.1 (i4 x hx).2.2
  refine Wo.by st (k T' h' a b kb ⟨T'.vm, k1, _, X', eT', hS', hk', hZ', hown', N, ⟨a1, i1⟩, hC.1, i3.ext E, fun x hx => ⟨(i4 x hx).1, Nat.lt_of_lt_of_le (i4 x hx).2.1 E.1, S x hx⟩, i5, fun y hy => ?_⟩ E A C V B)
  rcases List.mem_cons.mp hy with rfl | hy
  · exact ⟨la, fun q => (hne _ (S _ q)).1 rfl⟩
  · rcases List.mem_cons.mp hy with rfl | hy
    · exact ⟨lb, fun q => (hne _ (S _ q)).2 rfl⟩
    · exact ⟨Nat.lt_of_lt_of_le (i6 y hy).1 E.1, (i6 y hy).2⟩
/-- a String constant that nobody reads -/
theorem WS.ldcO (X : WS p l e R s m args below meth c Z EL n0 own T h WL FL cells slots) (hx : p.tables.exec = Jvm.exec) {index : Nat} {text : String} (w : (Jvm.Cond.stringLink own index text).before a0 Z = true) (wS : ∀ a ∈ Bundle.stringAtoms, a.before a0 Z = true)
    (hd : decode c.code pc = .ok (.ldc index, 2)) {n : Nat} (hn : 4 * text.toList.length ≤ n) (hbig : n ≤ 536870912) (hc : cells + 2 ≤ R.cells) (hl' : slots + (n + 4) ≤ R.slots)
    (k : ∀ T' h' a, WS p l e R s m args below meth c Z EL n0 own T' h' WL FL (cells + 2) (slots + (n + 4)) → Ext h h' → Wo p e s below Z EL n0 WL0 FL0 rm Q T' (mkF m (pc + 2) Ls (.ref a :: st))) :
    Wo p e s below Z EL n0 WL0 FL0 rm Q T (mkF m pc Ls st) := by
  obtain ⟨vm0, k0, locs, X, eT, hS, hk, hZ, hown, N, ⟨a1, i1⟩, i2, i3, i4, i5, i6⟩ := X
  obtain ⟨a, T', h', k1, X', eT', E, hS', hk', hZ', hown', hC, -, st⟩ := ldcOH X hx hZ hown w wS eT hS hk i1 i2 (g := mkF m pc Ls st) rfl hd hn hbig hc hl'
  exact Wo.by st (k T' h' a ⟨T'.vm, k1, _, X', eT', hS', hk', hZ', hown', N, ⟨a1, i1⟩, hC.1, i3.ext E, fun x hx => ⟨(i4 x hx).1, Nat.lt_of_lt_of_le (i4 x hx).2.1 E.1, hC.safe (i4 x hx).2.1 (i4 x hx).2.2⟩, i5, fun y hy => ⟨Nat.lt_of_lt_of_le (i6 y hy).1 E.1, (i6 y hy).2⟩⟩ E)
/-- who pays a call -/
def Pay (l : Launch) (R : Room) (p : Program) (e : Env) (below : List Frame) (s : State) (args : Array Value) (Z : State) (EL : List (String × Nat)) (n0 : Nat) (y : MethodName) (len W : Nat) (as' : Array Value) (h : Heap) (WL FL : List Addr) (k n : Nat) (Q : Option Value → Heap → List Addr → List Addr → Prop) : Prop :=
  ∀ vm0, Z.Warmed39 vm0 → Inv Z EL n0 vm0 h WL FL → BackS l R p e below (s.setVm vm0) args y len W (fun A a => a = as' ∧ A.U.heap = h ∧ A.cells + k ≤ R.cells ∧ A.slots + n ≤ R.slots)
    (fun A _ v B => ∃ L WL' FL', Q v B.U.heap WL' FL' ∧ Fr n0 L ∧ B.locs = A.locs ++ L ∧ B.cells = A.cells + k ∧ B.slots = A.slots + n ∧ Inv Z EL n0 B.U.vm B.U.heap (WL' ++ WL) (FL' ++ FL))
theorem Ct.pay {y : MethodName} {bytes : ByteArray} {maxL : Nat} {ret : Option FieldType} {rm : Room} {as' : Array Value} {len W : Nat} {Q : Option Value → Heap → List Addr → List Addr → Prop} (C : Ct l Z EL n0 y bytes maxL ret rm as' h WL FL Q)
    (wc : (Jvm.Cond.code y bytes maxL ret).before a0 Z = true) (wz : (Jvm.Cond.initialized y.cls).before a0 Z = true) (hf : rm.frames + 1 ≤ R.frames) (hl : W + (maxL + 11) + rm.locals ≤ R.locals) :
    Pay l R p e below s args Z EL n0 y len W as' h WL FL rm.cells rm.slots Q := fun vm0 hZ I =>
  BackS.of_freeW (bytes := bytes) (maxL := maxL) (ret := ret) (E := fun _ first o t L k n => k = rm.cells ∧ n = rm.slots ∧ ∃ v WL' FL', o = .returned v ∧ Q v t.heap WL' FL' ∧ Fr n0 L ∧ Inv Z EL n0 t.vm t.heap (WL' ++ WL) (FL' ++ FL)) (C []) hf hl
    (fun m meth c A a Y hp => have hU : Z.Warmed39 A.U.vm := wtrans (s := s.setVm vm0) hZ Y.warmed
      ⟨by show (Jvm.Cond.and _ .tt).before a A.U = true; rw [Cond.before_and, mv hU wc]; rfl, mv hU wc, mv hU wz, hp.2.2.1, hp.2.2.2⟩)
    (fun m meth c A a g mk Y hp => ⟨hp.1, wtrans (s := s.setVm vm0) hZ Y.warmed, hp.2.1, (show Inv Z EL n0 A.U.vm h WL FL from WS.invT Y hZ I)⟩) (fun _ _ _ _ _ _ _ _ _ => trivial)
    (fun _ _ _ _ ⟨v, L, WL', FL', h1, h2, h3, h4, h5⟩ => ⟨L, _, _, h5, rfl, rfl, v, WL', FL', h1, h4, h3, h2⟩)
    (fun m meth c A a g mk v t L k n Y hp _ _ ⟨e1, e2, v', WL', FL', e3, e4, e5, e6⟩ => by
      cases e3; subst e1 e2
      exact ⟨L, WL', FL', e4, e5, rfl, rfl, rfl, e6⟩)
/-- a law of the narrow shape pays too -/
theorem Pay.ofN {y : MethodName} {as' : Array Value} {len W k n : Nat} {Qn : Option Value → Heap → List Loc → Prop} {Q : Option Value → Heap → List Addr → List Addr → Prop}
    (B : ∀ vm0, Z.Warmed39 (s.setVm vm0).vm → Back l R p e below (s.setVm vm0) args y len W (fun A a => a = as' ∧ A.U.heap = h ∧ A.cells + k ≤ R.cells ∧ A.slots + n ≤ R.slots) (fun A _ v B => ∃ L, Qn v B.U.heap L ∧ B.locs = A.locs ++ L ∧ B.cells = A.cells + k ∧ B.slots = A.slots + n))
    (hq : ∀ v h' L, Qn v h' L → Fr n0 L ∧ ∃ ws FL', Keep h h' ws ∧ (∀ x ∈ ws, x ∈ WL) ∧ (∀ y ∈ FL', h.size ≤ y ∧ y < h'.size) ∧ Q v h' [] FL') :
    Pay l R p e below s args Z EL n0 y len W as' h WL FL k n Q := fun vm0 hZ I => by
  intro m meth c A g ig mk a X hg hsize hdg hW hn hp
  obtain ⟨v, B, X', ⟨L, q1, q2, q3, q4⟩, st⟩ := B vm0 hZ m meth c A g ig mk a X hg hsize hdg hW hn hp
  obtain ⟨N, ws, FL', K, hws, hF, q⟩ := hq _ _ _ q1
  refine ⟨v, B, X'.retabled X'.warmed.wide, X'.warmed.since _, by rw [hp.2.1]; exact K.1, ⟨L, [], FL', q, N, q2, q3, q4, ?_⟩, st⟩
  obtain ⟨i1, i2, i3, i4, i5, i6⟩ := WS.invT X' hZ (I.keep K hws)
  refine ⟨i1, i2, i3, i4, i5, fun y hy => ?_⟩
  rcases List.mem_append.mp hy with z | z
  · exact ⟨(hF y z).2, fun w => Nat.lt_irrefl _ (Nat.lt_of_lt_of_le (I.lt w) (hF y z).1)⟩
  · exact i6 y z
/-- behind a call -/
theorem WS.back {vm0 : Vm} {k0 : Nat} {locs : List Loc} {B : Pt} {k n : Nat} {L : List Loc} {WL' FL' : List Addr} (hS : s.Since vm0 k0) (hk : k0 ≤ T.heap.size) (hZ : Z.Warmed39 vm0) (hown : vm0.findClass own = some m.cls) (N : Fr n0 locs) (X' : Stand p l e R ((s.setVm vm0).setVm B.U.vm) m args below meth c B.U B.locs B.cells B.slots)
    (hS' : (s.setVm vm0).Since B.U.vm B.U.heap.size) (hgr : T.heap.size ≤ B.U.heap.size) (N' : Fr n0 L) (q2 : B.locs = locs ++ L) (q3 : B.cells = cells + k) (q4 : B.slots = slots + n) (I' : Inv Z EL n0 B.U.vm B.U.heap (WL' ++ WL) (FL' ++ FL)) :
    WS p l e R s m args below meth c Z EL n0 own B.U B.U.heap (WL' ++ WL) (FL' ++ FL) (cells + k) (slots + n) := by
  obtain ⟨U, Lo, ck, sl⟩ := B
  dsimp only [Pt.U, Pt.locs, Pt.cells, Pt.slots] at *
  subst q2 q3 q4
  exact ⟨U.vm, U.heap.size, _, X', rfl, hS.trans hS' (Nat.le_trans hk hgr), Nat.le_refl _, State.Warmed39.trans (t := s.setVm vm0) hZ hS'.1, by rw [hS'.1.alike.findClass]; exact hown, N.app N', I'⟩
variable {index : Nat} {y z : MethodName} {bytes : ByteArray} {maxL : Nat} {ret : Option FieldType} {W k n : Nat} {as' : Array Value} {Qc : Option Value → Heap → List Addr → List Addr → Prop} {argsL : List Value}
theorem WS.callS (X : WS p l e R s m args below meth c Z EL n0 own T h WL FL cells slots) (hx : p.tables.exec = Jvm.exec) (w1 : (Jvm.Cond.methodLink own index y).before a0 Z = true) (w2 : (Jvm.Cond.static y).before a0 Z = true) (w3 : (Jvm.Cond.initialized y.cls).before a0 Z = true) (w4 : (Jvm.Cond.code y bytes maxL ret).before a0 Z = true) (hy : y.cls ≠ "java/lang/invoke/MethodHandle" ∧ y.cls ≠ "java/lang/invoke/VarHandle")
    (hP : Pay l R p e below s args Z EL n0 y 3 W as' h WL FL k n Qc) (hsize : Ls.size = c.maxLocals) (hlen : ∀ sig, parseMethodDescriptor y.desc = some sig → argsL.length = sig.parameters.length) (hst : st = argsL.reverse ++ rest) (has : argsL.toArray = as') (hW : (rest.map fun v => v.category).sum ≤ W)
    (hd : decode c.code pc = .ok (.invokestatic index, 3)) (hc : cells + k ≤ R.cells) (hl : slots + n ≤ R.slots)
    (kk : ∀ T' h' v WL' FL', WS p l e R s m args below meth c Z EL n0 own T' h' (WL' ++ WL) (FL' ++ FL) (cells + k) (slots + n) → Qc v h' WL' FL' → Wo p e s below Z EL n0 WL0 FL0 rm Q T' (mkF m (pc + 3) Ls (v.toList ++ rest))) :
    Wo p e s below Z EL n0 WL0 FL0 rm Q T (mkF m pc Ls st) := by
  obtain ⟨vm0, k0, locs, X, eT, hS, hk, hZ, hown, N, I⟩ := X
  obtain ⟨v, vm₁, B, -, X', hS', hgr, ⟨L, WL', FL', q, N', q2, q3, q4, I'⟩, stp⟩ := callSS X hx hown (mv hZ w1) (mv hZ w2) (mv hZ w3) (mv hZ w4) hy (hP vm0 hZ I) (g := mkF m pc Ls st) rfl hsize hlen hst (by show 2 * 0 + _ ≤ _; omega) hd (fun _ _ => ⟨has, eT, hc, hl⟩)
  exact Wo.by (fun t r => stp.trans r) (kk B.U _ v WL' FL' (WS.back hS (by rw [eT]; exact hk) hZ hown N X' hS' hgr N' q2 q3 q4 I') q)
theorem WS.callC (X : WS p l e R s m args below meth c Z EL n0 own T h WL FL cells slots) (hx : p.tables.exec = Jvm.exec) (hi : y.name = "<init>") (w1 : (Jvm.Cond.methodLink own index y).before a0 Z = true) (w2 : (Jvm.Cond.instanceMethod y).before a0 Z = true) (w4 : (Jvm.Cond.code y bytes maxL none).before a0 Z = true) (hy : y.cls ≠ "java/lang/invoke/MethodHandle" ∧ y.cls ≠ "java/lang/invoke/VarHandle")
    {a : Addr} (hP : Pay l R p e below s args Z EL n0 y 3 W as' h WL FL k n Qc) (hsize : Ls.size = c.maxLocals) (hlen : ∀ sig, parseMethodDescriptor y.desc = some sig → argsL.length = sig.parameters.length) (hst : st = argsL.reverse ++ .ref a :: rest) (has : (Value.ref a :: argsL).toArray = as') (hW : (rest.map fun v => v.category).sum ≤ W)
    (hd : decode c.code pc = .ok (.invokespecial index, 3)) (hc : cells + k ≤ R.cells) (hl : slots + n ≤ R.slots)
    (kk : ∀ T' h' v WL' FL', WS p l e R s m args below meth c Z EL n0 own T' h' (WL' ++ WL) (FL' ++ FL) (cells + k) (slots + n) → Qc v h' WL' FL' → Wo p e s below Z EL n0 WL0 FL0 rm Q T' (mkF m (pc + 3) Ls (v.toList ++ rest))) :
    Wo p e s below Z EL n0 WL0 FL0 rm Q T (mkF m pc Ls st) := by
  obtain ⟨vm0, k0, locs, X, eT, hS, hk, hZ, hown, N, I⟩ := X
  obtain ⟨v, vm₁, B, -, X', hS', hgr, ⟨L, WL', FL', q, N', q2, q3, q4, I'⟩, stp⟩ := X.specialBackS hx hi hown (mv hZ w1) (mv hZ w2) (mv hZ w4) hy (hP vm0 hZ I) (g := mkF m pc Ls st) rfl hsize (Steps.refl _) hlen hst (by show 2 * 0 + _ ≤ _; omega) hd (fun _ _ => ⟨has, eT, hc, hl⟩)
  exact Wo.by (fun t r => stp.trans r) (kk B.U _ v WL' FL' (WS.back hS (by rw [eT]; exact hk) hZ hown N X' hS' hgr N' q2 q3 q4 I') q)
theorem WS.callV {C : String} (X : WS p l e R s m args below meth c Z EL n0 own T h WL FL cells slots) (hx : p.tables.exec = Jvm.exec) (w1 : (Jvm.Cond.methodLink own index y).before a0 Z = true) (w2 : (Jvm.Cond.declares y).before a0 Z = true) (w3 : (Jvm.Cond.selects C y z).before a0 Z = true) (w4 : (Jvm.Cond.instanceMethod z).before a0 Z = true) (hf : ∀ vm0, Z.Warmed39 vm0 → NotFace (s.setVm vm0) y) (hy : y.cls ≠ "java/lang/invoke/MethodHandle" ∧ y.cls ≠ "java/lang/invoke/VarHandle")
    {a : Addr} (E : Exa Z h a C) (hP : Pay l R p e below s args Z EL n0 z 3 W as' h WL FL k n Qc) (hsize : Ls.size = c.maxLocals) (hlen : ∀ sig, parseMethodDescriptor y.desc = some sig → argsL.length = sig.parameters.length) (hst : st = argsL.reverse ++ .ref a :: rest) (has : (Value.ref a :: argsL).toArray = as') (hW : (rest.map fun v => v.category).sum ≤ W)
    (hd : decode c.code pc = .ok (.invokevirtual index, 3)) (hc : cells + k ≤ R.cells) (hl : slots + n ≤ R.slots)
    (kk : ∀ T' h' v WL' FL', WS p l e R s m args below meth c Z EL n0 own T' h' (WL' ++ WL) (FL' ++ FL) (cells + k) (slots + n) → Qc v h' WL' FL' → Wo p e s below Z EL n0 WL0 FL0 rm Q T' (mkF m (pc + 3) Ls (v.toList ++ rest))) :
    Wo p e s below Z EL n0 WL0 FL0 rm Q T (mkF m pc Ls st) := by
  obtain ⟨vm0, k0, locs, X, eT, hS, hk, hZ, hown, N, I⟩ := X
  obtain ⟨cB, kB, q0, q1, q5⟩ := isOf (s := s.setVm vm0) hZ eT E
  obtain ⟨v, vm₁, B, -, X', hS', hgr, ⟨L, WL', FL', q, N', q2, q3, q4, I'⟩, stp⟩ := X.virtualBackS hx hown (mv hZ w1) (mv hZ w2) (hf vm0 hZ) (mv hZ w3) (mv hZ w4) hy (hP vm0 hZ I) q0 q5 (g := mkF m pc Ls st) rfl hsize (Steps.refl _) hlen hst (by show 2 * 0 + _ ≤ _; omega) hd (fun _ _ => ⟨has, eT, hc, hl⟩)
  exact Wo.by (fun t r => stp.trans r) (kk B.U _ v WL' FL' (WS.back hS (by rw [eT]; exact hk) hZ hown N X' hS' hgr N' q2 q3 q4 I') q)
theorem WS.callI {C : String} {count : Nat} (X : WS p l e R s m args below meth c Z EL n0 own T h WL FL cells slots) (hx : p.tables.exec = Jvm.exec) (w1 : (Jvm.Cond.methodLink own index y).before a0 Z = true) (w2 : (Jvm.Cond.declares y).before a0 Z = true) (w2' : (Jvm.Cond.interfaceMethod y.cls y.cls y.name y.desc).before a0 Z = true) (w3 : (Jvm.Cond.selects C y z).before a0 Z = true) (w4 : (Jvm.Cond.instanceMethod z).before a0 Z = true)
    (w5 : (Jvm.Cond.publicMethod z).before a0 Z = true) (w6 : (Jvm.Cond.unhidden C y.name y.desc).before a0 Z = true) (w7 : (Jvm.Cond.castable C y.cls).before a0 Z = true) (hy : y.cls ≠ "java/lang/invoke/MethodHandle" ∧ y.cls ≠ "java/lang/invoke/VarHandle")
    {a : Addr} (E : Exa Z h a C) (hP : Pay l R p e below s args Z EL n0 z 5 W as' h WL FL k n Qc) (hsize : Ls.size = c.maxLocals) (hlen : ∀ sig, parseMethodDescriptor y.desc = some sig → argsL.length = sig.parameters.length) (hst : st = argsL.reverse ++ .ref a :: rest) (has : (Value.ref a :: argsL).toArray = as') (hW : (rest.map fun v => v.category).sum ≤ W)
    (hd : decode c.code pc = .ok (.invokeinterface index count, 5)) (hc : cells + k ≤ R.cells) (hl : slots + n ≤ R.slots)
    (kk : ∀ T' h' v WL' FL', WS p l e R s m args below meth c Z EL n0 own T' h' (WL' ++ WL) (FL' ++ FL) (cells + k) (slots + n) → Qc v h' WL' FL' → Wo p e s below Z EL n0 WL0 FL0 rm Q T' (mkF m (pc + 5) Ls (v.toList ++ rest))) :
    Wo p e s below Z EL n0 WL0 FL0 rm Q T (mkF m pc Ls st) := by
  obtain ⟨vm0, k0, locs, X, eT, hS, hk, hZ, hown, N, I⟩ := X
  obtain ⟨cB, kB, q0, q1, q5⟩ := isOf (s := s.setVm vm0) hZ eT E
  obtain ⟨v, vm₁, B, -, X', hS', hgr, ⟨L, WL', FL', q, N', q2, q3, q4, I'⟩, stp⟩ := X.interfaceBackS hx hown (mv hZ w1) (mv hZ w2) (mv hZ w2' (by simp [Cond.onTables, Cond.keepsFace, Cond.keeps, Cond.steady, Cond.faceAtom]; exact hy)) (mv hZ w3) (mv hZ w4) (mv hZ w5) (mv hZ w6) (mv hZ w7) hy (hP vm0 hZ I) q0 q1 q5 (g := mkF m pc Ls st) rfl hsize (Steps.refl _) hlen hst (by show 2 * 0 + _ ≤ _; omega) hd (fun _ _ => ⟨has, eT, hc, hl⟩)
  exact Wo.by (fun t r => stp.trans r) (kk B.U _ v WL' FL' (WS.back hS (by rw [eT]; exact hk) hZ hown N X' hS' hgr N' q2 q3 q4 I') q)
theorem declM (wi : (Jvm.Cond.instanceMethod y).before a0 Z = true) (wc : (Jvm.Cond.code y bytes maxL ret).before a0 Z = true) : (Jvm.Cond.declares y).before a0 Z = true := by
  obtain ⟨mk, me, hn, hm, hst, -⟩ := Cond.instanceMethod_spec wi
  obtain ⟨me', c', q1, -, -, -, -, -, -, hsig⟩ := Cond.code_spec hn wc
  cases hm.symm.trans q1
  simp [Cond.before, Cond.holds, Cond.value, hn, hm, hst, hsig]
theorem faceO {y' : MethodName} {C : String} (ws : (Jvm.Cond.selects C y' y').before a0 Z = true) (e : y'.cls = y.cls) : NotFace Z y := fun r0 h0 => by
  obtain ⟨c2, r2, m2, q1, q2, q3, q4, kP, hkP, hkPi⟩ := Cond.selects_spec ws
  have e1 := findClass_of_methodNamed q3
  have e2 := findClass_of_methodNamed h0
  rw [e] at e1
  have e3 := Option.some.inj (e1.symm.trans e2)
  exact ⟨kP, by rw [← e3]; exact hkP, hkPi⟩
theorem nfO {vm0 : Vm} {y' : MethodName} {C : String} (hZ : Z.Warmed39 vm0) (w : (Jvm.Cond.selects C y' y').before a0 Z = true) (e : y'.cls = y.cls) : NotFace (s.setVm vm0) y := faceO (a0 := #[]) (mv (s := s.setVm vm0) hZ w) e
theorem nfS {vm0 : Vm} {S : String} (hZ : Z.Warmed39 vm0) (w : (Jvm.Cond.superclass y.cls S).before a0 Z = true) : NotFace (s.setVm vm0) y := nf_super (args := #[]) (mv (s := s.setVm vm0) hZ w)
theorem sameM {y' : MethodName} {C : String} (hy : y.cls ≠ "java/lang/invoke/MethodHandle" ∧ y.cls ≠ "java/lang/invoke/VarHandle") (wi : (Jvm.Cond.instanceMethod y).before a0 Z = true) (ws : (Jvm.Cond.selects C y' y').before a0 Z = true) (e : y'.cls = y.cls) : (Jvm.Cond.sameMethod y.cls y.cls y.name y.desc).before a0 Z = true := by
  obtain ⟨mk, me, hn, hm, hst, -⟩ := Cond.instanceMethod_spec wi
  have hf := State.methodFound?_of_named hn hy
  have hc := findClass_of_methodNamed hn
  obtain ⟨kr, hkr, hni⟩ := faceO (y := y) ws e mk hn
  have hn' : Z.methodNamed? ⟨y.cls, y.name, y.desc⟩ = some mk := hn
  simp [Cond.before, Cond.holds, Cond.value, hc, hf, hn', hkr, hni]
theorem WS.callU {C K : String} {y' : MethodName} (X : WS p l e R s m args below meth c Z EL n0 own T h WL FL cells slots) (hx : p.tables.exec = Jvm.exec) (w1 : (Jvm.Cond.methodLink own index y).before a0 Z = true) (w2 : (Jvm.Cond.instanceMethod y).before a0 Z = true) (w3 : (Jvm.Cond.superclass own y.cls).before a0 Z = true) (w4 : (Jvm.Cond.code y bytes maxL ret).before a0 Z = true) (w5 : (Jvm.Cond.selects C y' y').before a0 Z = true) (e5 : y'.cls = y.cls) (hi : y.name ≠ "<init>") (hy : y.cls ≠ "java/lang/invoke/MethodHandle" ∧ y.cls ≠ "java/lang/invoke/VarHandle")
    {a : Addr} (F : Ins Z h a K true) (hP : Pay l R p e below s args Z EL n0 y 3 W as' h WL FL k n Qc) (hsize : Ls.size = c.maxLocals) (hlen : ∀ sig, parseMethodDescriptor y.desc = some sig → argsL.length = sig.parameters.length) (hst : st = argsL.reverse ++ .ref a :: rest) (has : (Value.ref a :: argsL).toArray = as') (hW : (rest.map fun v => v.category).sum ≤ W)
    (hd : decode c.code pc = .ok (.invokespecial index, 3)) (hc : cells + k ≤ R.cells) (hl : slots + n ≤ R.slots)
    (kk : ∀ T' h' v WL' FL', WS p l e R s m args below meth c Z EL n0 own T' h' (WL' ++ WL) (FL' ++ FL) (cells + k) (slots + n) → Qc v h' WL' FL' → Wo p e s below Z EL n0 WL0 FL0 rm Q T' (mkF m (pc + 3) Ls (v.toList ++ rest))) :
    Wo p e s below Z EL n0 WL0 FL0 rm Q T (mkF m pc Ls st) := by
  obtain ⟨vm0, k0, locs, X, eT, hS, hk, hZ, hown, N, I⟩ := X
  obtain ⟨v, vm₁, B, -, X', hS', hgr, ⟨L, WL', FL', q, N', q2, q3, q4, I'⟩, stp⟩ := superBackS X hx hZ hown w1 (sameM hy w2 w5 e5) w2 w3 hi (hP vm0 hZ I) eT F (g := mkF m pc Ls st) rfl hsize w4 hlen hst (by show 2 * 0 + _ ≤ _; omega) hd (fun _ _ => ⟨has, eT, hc, hl⟩)
  exact Wo.by (fun t r => stp.trans r) (kk B.U _ v WL' FL' (WS.back hS (by rw [eT]; exact hk) hZ hown N X' hS' hgr N' q2 q3 q4 I') q)
theorem nf {vm0 : Vm} {C : String} (hZ : Z.Warmed39 vm0) (w : (Jvm.Cond.selects C y y).before a0 Z = true) : NotFace (s.setVm vm0) y := notFace_of_selects (args := #[]) (mv (s := s.setVm vm0) hZ w)
end Walk
end Wd
end Jvm.Pilot.@@N@@
/- laws to paste: Road.backV (cut by pick.py; bodies as the Statement names them) -/
namespace Jvm.Pilot.@@N@@
namespace StrChars
open Jvm Sem ClassFile Op Lib Jvm.Stand Jvm.Free.XT Jvm.Free.ALB Jvm.Free.JM Jvm.Free
open Jvm.Lib.Cold (StaticIs)
/-- a char array whose places are chars -/
def Ch (a : Addr) (A : Cell) (U : State) : Prop := Arr .char a A U ∧ Typed .char A
theorem Ch.mv {a : Addr} {A : Cell} {U U' : State} (h : Ch a A U) (hal : U.vm.Alike U'.vm) (hh : U'.heap = U.heap) : Ch a A U' := ⟨h.1.mv hal hh, h.2⟩
theorem Ch.keep {a : Addr} {A : Cell} {U U' : State} (h : Ch a A U) (hal : U.vm.Alike U'.vm) (hk : U'.heap[a]? = some A) : Ch a A U' := ⟨h.1.keep hal hk, h.2⟩
/-- what place i of a char[]'s cell holds -/
def cv (A : Cell) (i : Nat) : Int32 := match A.slots[i]? with | some (.int x) => x | _ => 0
theorem Ch.get {a : Addr} {A : Cell} {U : State} (h : Ch a A U) {i : Nat} (hi : i < A.slots.size) : A.slots[i]? = some (.int (cv A i)) := by
  have e := Array.getElem?_eq_getElem hi
  have f := h.2 i _ e
  unfold cv; rw [e]
  generalize A.slots[i] = v at f
  cases v <;> simp [fits] at f ⊢
/-- the byte that i2b leaves of a char -/
def lo8 (x : Int32) : Int32 := x.toInt8.toInt32
theorem fits_lo8 (y : Int32) : fits .byte (.int (lo8 y)) = true := by
  have h1 := y.toInt8.le_toInt
  have h2 := y.toInt8.toInt_lt
  simp only [lo8, fits, Bool.and_eq_true, decide_eq_true_eq, Int32.le_iff_toInt_le, Int8.toInt_toInt32, show (-128 : Int32).toInt = -128 from by decide, show (127 : Int32).toInt = 127 from by decide]
  omega
/-- A' is A but that each place j of lo .. hi - 1 holds f j -/
def Laid (A A' : Cell) (lo hi : Nat) (f : Nat → Value) : Prop := A'.cls = A.cls ∧ A'.vm = A.vm ∧ A'.slots.size = A.slots.size ∧ ∀ i, A'.slots[i]? = if lo ≤ i ∧ i < hi then some (f i) else A.slots[i]?
theorem Laid.zero (A : Cell) (lo : Nat) (f : Nat → Value) : Laid A A lo (lo + 0) f := ⟨rfl, rfl, rfl, fun i => by rw [if_neg (by omega)]⟩
theorem Laid.step {A Ak : Cell} {lo k : Nat} {f : Nat → Value} {v : Value} (h : Laid A Ak lo k f) (hlo : lo ≤ k) (hk : k < Ak.slots.size) (hv : v = f k) : Laid A (Ak.setSlot k v) lo (k + 1) f := by
  refine ⟨h.1, h.2.1, by simpa [Cell.setSlot] using h.2.2.1, fun i => ?_⟩
  by_cases e : k = i
  · subst e; rw [Cell.slots_setSlot_self v hk, if_pos (by omega), hv]
  · rw [Cell.slots_setSlot_ne v e, h.2.2.2 i]
    by_cases q : lo ≤ i ∧ i < k
    · rw [if_pos q, if_pos (by omega)]
    · rw [if_neg q, if_neg (by omega)]
def U16 : String := "java/lang/StringUTF16"
namespace Cmp5
def yN : MethodName := ⟨"java/lang/StringUTF16", "compress", "([CI[BII)I"⟩
abbrev yB : ByteArray := jdk_52_method_21_code
theorem d0 : decode yB 0 = .ok (.iconst 0, 1) := by decide +kernel
theorem d1 : decode yB 1 = .ok (.istore 5, 2) := by decide +kernel
theorem d3 : decode yB 3 = .ok (.iload 5, 2) := by decide +kernel
theorem d5 : decode yB 5 = .ok (.iload 4, 2) := by decide +kernel
theorem d7 : decode yB 7 = .ok (.if_icmp (.ge) 37, 3) := by decide +kernel
theorem d10 : decode yB 10 = .ok (.aload_n 0, 1) := by decide +kernel
theorem d11 : decode yB 11 = .ok (.iload_n 1, 1) := by decide +kernel
theorem d12 : decode yB 12 = .ok (.caload, 1) := by decide +kernel
theorem d13 : decode yB 13 = .ok (.istore 6, 2) := by decide +kernel
theorem d15 : decode yB 15 = .ok (.iload 6, 2) := by decide +kernel
theorem d17 : decode yB 17 = .ok (.sipush 255, 3) := by decide +kernel
theorem d20 : decode yB 20 = .ok (.if_icmp (.le) 6, 3) := by decide +kernel
theorem d26 : decode yB 26 = .ok (.aload_n 2, 1) := by decide +kernel
theorem d27 : decode yB 27 = .ok (.iload_n 3, 1) := by decide +kernel
theorem d28 : decode yB 28 = .ok (.iload 6, 2) := by decide +kernel
theorem d30 : decode yB 30 = .ok (.i2b, 1) := by decide +kernel
theorem d31 : decode yB 31 = .ok (.bastore, 1) := by decide +kernel
theorem d32 : decode yB 32 = .ok (.iinc 1 1, 3) := by decide +kernel
theorem d35 : decode yB 35 = .ok (.iinc 3 1, 3) := by decide +kernel
theorem d38 : decode yB 38 = .ok (.iinc 5 1, 3) := by decide +kernel
theorem d41 : decode yB 41 = .ok (.goto (-38), 3) := by decide +kernel
theorem d44 : decode yB 44 = .ok (.iload 4, 2) := by decide +kernel
theorem d46 : decode yB 46 = .ok (.ireturn, 1) := by decide +kernel
def site : List Cond := []
def tab : Cond := tabOf yN yB 7 (some .int) site
def P (b : Addr) (A : Cell) (d : Addr) (B : Cell) (o q len : Nat) (args : Array Value) (s : State) : Prop := args = #[.ref b, .int (Int32.ofNat o), .ref d, .int (Int32.ofNat q), .int (Int32.ofNat len)] ∧ Ch b A s ∧ Arr .byte d B s ∧ b ≠ d ∧ o + len ≤ A.slots.size ∧ q + len ≤ B.slots.size ∧ ∀ i, i < len → ¬ 255 < cv A (o + i)
def E (b : Addr) (A : Cell) (d : Addr) (B : Cell) (o q len : Nat) (r : Option Value) (s u : State) : Prop := r = some (.int (Int32.ofNat len)) ∧ ∃ B', Put d B' s u ∧ Laid B B' q (q + len) (fun j => Value.int (lo8 (cv A (o + (j - q)))))
/-- no char of the range above 255: len; the places written hold each char's low byte -/
theorem law (l : Launch) (b : Addr) (A : Cell) (d : Addr) (B : Cell) (o q len : Nat) : Law l yN 5 5 0 0 yB 7 (some .int) site (P b A d B o q len) (E b A d B o q len) (copyLocs d q len) 0 0 := by
  refine Law.of_walk (plainFor_of_name (by decide +kernel)) (by decide +kernel) (by decide +kernel) (by decide) (fun _ _ h => by rw [h.1]; rfl) (fun _ U U' hal hh h => ⟨h.1, h.2.1.mv hal hh, h.2.2.1.mv hal hh, h.2.2.2⟩) (fun r U U' V V' h1 hal h2 h => ⟨h.1, h.2.elim fun B' q => ⟨B', q.1.mv h1 h2, q.2⟩⟩) ?_
  intro p e s m args below meth c s₁ X0 hexec hbytes hml hret hlk hnm hown hh0 W hP
  obtain ⟨rfl, hA, hB, hne, l1, l2, hp⟩ := hP
  have c1 : Steps p.tables e below (s₁.setTop (entryFrame m #[.ref b, .int (Int32.ofNat o), .ref d, .int (Int32.ofNat q), .int (Int32.ofNat len)] 7)) (s₁.setTop (mkF m 0 #[.val (.ref b), .val (.int (Int32.ofNat o)), .val (.ref d), .val (.int (Int32.ofNat q)), .val (.int (Int32.ofNat len)), .unset, .unset] [])) := entry rfl
  have hA0 := hA.1.mv X0.warmed.alike hh0
  have hB0 := hB.mv X0.warmed.alike hh0
  have a31 := hA.1.2.2.2
  have c2 : Steps p.tables e below (s₁.setTop (entryFrame m #[.ref b, .int (Int32.ofNat o), .ref d, .int (Int32.ofNat q), .int (Int32.ofNat len)] 7)) (s₁.setTop (mkF m 3 #[.val (.ref b), .val (.int (Int32.ofNat o)), .val (.ref d), .val (.int (Int32.ofNat q)), .val (.int (Int32.ofNat len)), .val (.int 0), .unset] [])) := c1.trans (by
    refine iconstV X0.here hexec rfl 0 (hb hbytes d0) (by decide) ?_
    refine XS.istore X0.here hexec rfl (hb hbytes d1) rfl rfl ?_
    exact Steps.refl _)
  have loop : ∀ (r i : Nat), i + r = len → ∀ (z : Slot), (z = .unset ∨ ∃ w, z = .val w ∧ w.category = 1) → ∀ (Tl : State) (Bk : Cell), Stand p l e { frames := 0, locals := 0, cells := 0, slots := 0 } s m #[.ref b, .int (Int32.ofNat o), .ref d, .int (Int32.ofNat q), .int (Int32.ofNat len)] below meth c Tl ([] ++ copyLocs d q i) 0 0 → Put d Bk s₁ Tl → Laid B Bk q (q + i) (fun j => Value.int (lo8 (cv A (o + (j - q))))) →
      Steps p.tables e below (s₁.setTop (entryFrame m #[.ref b, .int (Int32.ofNat o), .ref d, .int (Int32.ofNat q), .int (Int32.ofNat len)] 7)) (Tl.setTop (mkF m 3 #[.val (.ref b), .val (.int (Int32.ofNat (o + i))), .val (.ref d), .val (.int (Int32.ofNat (q + i))), .val (.int (Int32.ofNat len)), .val (.int (Int32.ofNat i)), z] [])) → ∃ (T' : State) (B' : Cell) (z' : Slot), Stand p l e { frames := 0, locals := 0, cells := 0, slots := 0 } s m #[.ref b, .int (Int32.ofNat o), .ref d, .int (Int32.ofNat q), .int (Int32.ofNat len)] below meth c T' ([] ++ copyLocs d q len) 0 0 ∧ Put d B' s₁ T' ∧ Laid B B' q (q + len) (fun j => Value.int (lo8 (cv A (o + (j - q))))) ∧
      Steps p.tables e below (s₁.setTop (entryFrame m #[.ref b, .int (Int32.ofNat o), .ref d, .int (Int32.ofNat q), .int (Int32.ofNat len)] 7)) (T'.setTop (mkF m 3 #[.val (.ref b), .val (.int (Int32.ofNat (o + len))), .val (.ref d), .val (.int (Int32.ofNat (q + len))), .val (.int (Int32.ofNat len)), .val (.int (Int32.ofNat len)), z'] [])) := by
    intro r
    induction r with
    | zero =>
      intro i hi z hz Tl Bk Xl pl fl cl
      have hil : i = len := by omega
      rw [hil] at Xl fl cl
      exact ⟨Tl, Bk, z, Xl, pl, fl, cl⟩
    | succ r ih =>
      intro i hi z hz Tl Bk Xl pl fl cl
      have all := X0.warmed.alike.symm.trans Xl.warmed.alike
      have hAl := hA0.keep all (pl.other hne hA0.1)
      have hBk := hB0.like all pl.1 fl.1 fl.2.1 fl.2.2.1
      have hlt : q + i < Bk.slots.size := by rw [fl.2.2.1]; omega
      have c3 : Steps p.tables e below (s₁.setTop (entryFrame m #[.ref b, .int (Int32.ofNat o), .ref d, .int (Int32.ofNat q), .int (Int32.ofNat len)] 7)) (Tl.setTop (mkF m 12 #[.val (.ref b), .val (.int (Int32.ofNat (o + i))), .val (.ref d), .val (.int (Int32.ofNat (q + i))), .val (.int (Int32.ofNat len)), .val (.int (Int32.ofNat i)), z] [.int (Int32.ofNat (o + i)), .ref b])) := cl.trans (by
        refine XS.iload Xl.here hexec rfl (hb hbytes d3) rfl ?_
        refine XS.iload Xl.here hexec rfl (hb hbytes d5) rfl ?_
        refine XS.icmpNo Xl.here hexec rfl (hb hbytes d7) rfl (ii_ge_f (lt32 (by omega) (by omega))) ?_
        refine XS.aloadN Xl.here hexec rfl (hb hbytes d10) rfl rfl ?_
        refine XS.iloadN Xl.here hexec rfl (hb hbytes d11) rfl ?_
        exact Steps.refl _)
      have c4 : Steps p.tables e below (s₁.setTop (entryFrame m #[.ref b, .int (Int32.ofNat o), .ref d, .int (Int32.ofNat q), .int (Int32.ofNat len)] 7)) (Tl.setTop (mkF m 13 #[.val (.ref b), .val (.int (Int32.ofNat (o + i))), .val (.ref d), .val (.int (Int32.ofNat (q + i))), .val (.int (Int32.ofNat len)), .val (.int (Int32.ofNat i)), z] [.int (cv A (o + i))])) := c3.trans (by
        refine Xl.aget hexec hAl rfl (hA.get (i := o + i) (by omega)) rfl rfl (hb hbytes d12) ?_
        exact Steps.refl _)
      have c5 : Steps p.tables e below (s₁.setTop (entryFrame m #[.ref b, .int (Int32.ofNat o), .ref d, .int (Int32.ofNat q), .int (Int32.ofNat len)] 7)) (Tl.setTop (mkF m 15 #[.val (.ref b), .val (.int (Int32.ofNat (o + i))), .val (.ref d), .val (.int (Int32.ofNat (q + i))), .val (.int (Int32.ofNat len)), .val (.int (Int32.ofNat i)), .val (.int (cv A (o + i)))] [])) := c4.trans (by
        refine XS.istoreS Xl.here hexec rfl (hb hbytes d13) rfl rfl hz ?_
        exact Steps.refl _)
      have c6 : Steps p.tables e below (s₁.setTop (entryFrame m #[.ref b, .int (Int32.ofNat o), .ref d, .int (Int32.ofNat q), .int (Int32.ofNat len)] 7)) (Tl.setTop (mkF m 31 #[.val (.ref b), .val (.int (Int32.ofNat (o + i))), .val (.ref d), .val (.int (Int32.ofNat (q + i))), .val (.int (Int32.ofNat len)), .val (.int (Int32.ofNat i)), .val (.int (cv A (o + i)))] [.int (lo8 (cv A (o + i))), .int (Int32.ofNat (q + i)), .ref d])) := c5.trans (by
        refine XS.iload Xl.here hexec rfl (hb hbytes d15) rfl ?_
        refine sipushV Xl.here hexec rfl 255 (hb hbytes d17) (by decide) ?_
        refine XS.icmpYes Xl.here hexec rfl (pc0 := 20) rfl (hb hbytes d20) rfl (ii_le_t (hp i (by omega))) (by decide) rfl ?_
        refine XS.aloadN Xl.here hexec rfl (hb hbytes d26) rfl rfl ?_
        refine XS.iloadN Xl.here hexec rfl (hb hbytes d27) rfl ?_
        refine XS.iload Xl.here hexec rfl (hb hbytes d28) rfl ?_
        refine i2b Xl.here hexec rfl (hb hbytes d30) rfl ?_
        exact Steps.refl _)
      obtain ⟨T7, X7, p7, st7⟩ := Xl.aput hexec hBk rfl hlt rfl (fits_lo8 (cv A (o + i))) (g := (mkF m 31 #[.val (.ref b), .val (.int (Int32.ofNat (o + i))), .val (.ref d), .val (.int (Int32.ofNat (q + i))), .val (.int (Int32.ofNat len)), .val (.int (Int32.ofNat i)), .val (.int (cv A (o + i)))] [.int (lo8 (cv A (o + i))), .int (Int32.ofNat (q + i)), .ref d])) rfl (rest := []) rfl (hb hbytes d31)
      have c8 : Steps p.tables e below (s₁.setTop (entryFrame m #[.ref b, .int (Int32.ofNat o), .ref d, .int (Int32.ofNat q), .int (Int32.ofNat len)] 7)) (T7.setTop (mkF m 32 #[.val (.ref b), .val (.int (Int32.ofNat (o + i))), .val (.ref d), .val (.int (Int32.ofNat (q + i))), .val (.int (Int32.ofNat len)), .val (.int (Int32.ofNat i)), .val (.int (cv A (o + i)))] [])) := c6.trans (st7 _ (Steps.refl _))
      have c9 : Steps p.tables e below (s₁.setTop (entryFrame m #[.ref b, .int (Int32.ofNat o), .ref d, .int (Int32.ofNat q), .int (Int32.ofNat len)] 7)) (T7.setTop (mkF m 3 #[.val (.ref b), .val (.int (Int32.ofNat (o + i) + 1)), .val (.ref d), .val (.int (Int32.ofNat (q + i) + 1)), .val (.int (Int32.ofNat len)), .val (.int (Int32.ofNat i + 1)), .val (.int (cv A (o + i)))] [])) := c8.trans (by
        refine iincV X7.here hexec rfl 1 (hb hbytes d32) (by decide) rfl rfl ?_
        refine iincV X7.here hexec rfl 1 (hb hbytes d35) (by decide) rfl rfl ?_
        refine iincV X7.here hexec rfl 1 (hb hbytes d38) (by decide) rfl rfl ?_
        refine XS.goto X7.here hexec rfl (pc0 := 41) rfl (hb hbytes d41) (by decide) rfl ?_
        exact Steps.refl _)
      have c10 : Steps p.tables e below (s₁.setTop (entryFrame m #[.ref b, .int (Int32.ofNat o), .ref d, .int (Int32.ofNat q), .int (Int32.ofNat len)] 7)) (T7.setTop (mkF m 3 #[.val (.ref b), .val (.int (Int32.ofNat (o + (i + 1)))), .val (.ref d), .val (.int (Int32.ofNat (q + (i + 1)))), .val (.int (Int32.ofNat len)), .val (.int (Int32.ofNat (i + 1))), .val (.int (cv A (o + i)))] [])) := by
        have := c9
        rw [succ32, succ32, succ32] at this
        exact this
      exact ih (i + 1) (by omega) _ (Or.inr ⟨_, rfl, rfl⟩) T7 _ (by rw [copyLocs_step, ← List.append_assoc]; exact X7) (pl.trans p7) (fl.step (by omega) hlt (by simp)) c10
  obtain ⟨T9, B9, z9, X9, p9, f9, g9⟩ := loop len 0 (by omega) .unset (Or.inl rfl) s₁ B (by simpa [copyLocs] using X0) ⟨hB0.1, fun _ _ => rfl, rfl⟩ (Laid.zero _ _ _) c2
  have c11 : Steps p.tables e below (s₁.setTop (entryFrame m #[.ref b, .int (Int32.ofNat o), .ref d, .int (Int32.ofNat q), .int (Int32.ofNat len)] 7)) (T9.setTop (mkF m 46 #[.val (.ref b), .val (.int (Int32.ofNat (o + len))), .val (.ref d), .val (.int (Int32.ofNat (q + len))), .val (.int (Int32.ofNat len)), .val (.int (Int32.ofNat len)), z9] [.int (Int32.ofNat len)])) := g9.trans (by
    refine XS.iload X9.here hexec rfl (hb hbytes d3) rfl ?_
    refine XS.iload X9.here hexec rfl (hb hbytes d5) rfl ?_
    refine XS.icmpYes X9.here hexec rfl (pc0 := 7) rfl (hb hbytes d7) rfl (ii_ge_t (nlt32 (by omega) (Nat.le_refl _))) (by decide) rfl ?_
    refine XS.iload X9.here hexec rfl (hb hbytes d44) rfl ?_
    exact Steps.refl _)
  exact ⟨T9, some (.int (Int32.ofNat len)), _, _, _, X9, by simp, rfl, rfl, (fun h => by cases h), ⟨rfl, B9, p9.from hh0, f9⟩, fun fs hl => c11.trans (X9.ireturnOut hexec hret rfl (Or.inl rfl) (hb hbytes d46) hl)⟩
end Cmp5
namespace Cmp3
def yN : MethodName := ⟨"java/lang/StringUTF16", "compress", "([CII)[B"⟩
abbrev yB : ByteArray := jdk_52_method_16_code
theorem d0 : decode yB 0 = .ok (.iload_n 2, 1) := by decide +kernel
theorem d1 : decode yB 1 = .ok (.newarray .byte, 2) := by decide +kernel
theorem d3 : decode yB 3 = .ok (.astore_n 3, 1) := by decide +kernel
theorem d4 : decode yB 4 = .ok (.aload_n 0, 1) := by decide +kernel
theorem d5 : decode yB 5 = .ok (.iload_n 1, 1) := by decide +kernel
theorem d6 : decode yB 6 = .ok (.aload_n 3, 1) := by decide +kernel
theorem d7 : decode yB 7 = .ok (.iconst 0, 1) := by decide +kernel
theorem d8 : decode yB 8 = .ok (.iload_n 2, 1) := by decide +kernel
theorem d9 : decode yB 9 = .ok (.invokestatic 115, 3) := by decide +kernel
theorem d12 : decode yB 12 = .ok (.istore 4, 2) := by decide +kernel
theorem d14 : decode yB 14 = .ok (.iload 4, 2) := by decide +kernel
theorem d16 : decode yB 16 = .ok (.iload_n 2, 1) := by decide +kernel
theorem d17 : decode yB 17 = .ok (.if_icmp (.eq) 40, 3) := by decide +kernel
theorem d57 : decode yB 57 = .ok (.aload_n 3, 1) := by decide +kernel
theorem d58 : decode yB 58 = .ok (.areturn, 1) := by decide +kernel
def site : List Cond := [.arrayClass .byte, Cmp5.tab] ++ staticW U16 115 Cmp5.yN
def tab : Cond := tabOf yN yB 6 (some (.array .byte)) site
def P (b : Addr) (A : Cell) (o len : Nat) (args : Array Value) (s : State) : Prop := args = #[.ref b, .int (Int32.ofNat o), .int (Int32.ofNat len)] ∧ Ch b A s ∧ o + len ≤ A.slots.size ∧ len ≤ 536870912 ∧ ∀ i, i < len → ¬ 255 < cv A (o + i)
def E (b : Addr) (A : Cell) (o len : Nat) (r : Option Value) (s u : State) : Prop := NewArr .byte "[B" len (fun j => .int (lo8 (cv A (o + j)))) r s u ∧ u.heap.size = s.heap.size + 1
/-- no char of the range above 255: a new byte[] of their low bytes -/
theorem law (l : Launch) (b : Addr) (A : Cell) (o len : Nat) : Law l yN 3 3 1 18 yB 6 (some (.array .byte)) site (P b A o len) (E b A o len) [] 1 len := by
  refine Law.of_walk (plainFor_of_name (by decide +kernel)) (by decide +kernel) (by decide +kernel) (by decide) (fun _ _ h => by rw [h.1]; rfl) (fun _ U U' hal hh h => ⟨h.1, h.2.1.mv hal hh, h.2.2⟩) (fun r U U' V V' h1 hal h2 h => ⟨NewArr.mv r U U' V V' h1 hal h2 h.1, by rw [h1, h2]; exact h.2⟩) ?_
  intro p e s m args below meth c s₁ X0 hexec hbytes hml hret hlk hnm hown hh0 W hP
  obtain ⟨rfl, hA, l1, l2, hp⟩ := hP
  have a31 := hA.1.2.2.2
  have c1 : Steps p.tables e below (s₁.setTop (entryFrame m #[.ref b, .int (Int32.ofNat o), .int (Int32.ofNat len)] 6)) (s₁.setTop (mkF m 0 #[.val (.ref b), .val (.int (Int32.ofNat o)), .val (.int (Int32.ofNat len)), .unset, .unset, .unset] [])) := entry rfl
  have c2 : Steps p.tables e below (s₁.setTop (entryFrame m #[.ref b, .int (Int32.ofNat o), .int (Int32.ofNat len)] 6)) (s₁.setTop (mkF m 1 #[.val (.ref b), .val (.int (Int32.ofNat o)), .val (.int (Int32.ofNat len)), .unset, .unset, .unset] [.int (Int32.ofNat len)])) := c1.trans (by
    refine XS.iloadN X0.here hexec rfl (hb hbytes d0) rfl ?_
    exact Steps.refl _)
  obtain ⟨T3, B3, X3, ba3, bs3, bv3, bh3, bf3, st3⟩ := X0.anew hexec (atype := .byte) (wk W (.arrayClass .byte)) rfl (by show len * 1 ≤ _; omega) (by omega) (g := (mkF m 1 #[.val (.ref b), .val (.int (Int32.ofNat o)), .val (.int (Int32.ofNat len)), .unset, .unset, .unset] [.int (Int32.ofNat len)])) rfl (hb hbytes d1) (rest := []) rfl (Nat.le_refl _) (by show 0 + len ≤ len; omega)
  rw [hh0] at ba3 st3
  have kp3 : XT.Kept s T3 := (XT.Kept.of_eq hh0).push bh3
  have hA3 := hA.keep X3.warmed.alike (kp3 _ _ hA.1.1)
  have hne : b ≠ s.heap.size := hA.1.ne
  have c4 : Steps p.tables e below (s₁.setTop (entryFrame m #[.ref b, .int (Int32.ofNat o), .int (Int32.ofNat len)] 6)) (T3.setTop (mkF m 3 #[.val (.ref b), .val (.int (Int32.ofNat o)), .val (.int (Int32.ofNat len)), .unset, .unset, .unset] [.ref s.heap.size])) := c2.trans (st3 _ (Steps.refl _))
  have c5 : Steps p.tables e below (s₁.setTop (entryFrame m #[.ref b, .int (Int32.ofNat o), .int (Int32.ofNat len)] 6)) (T3.setTop (mkF m 9 #[.val (.ref b), .val (.int (Int32.ofNat o)), .val (.int (Int32.ofNat len)), .val (.ref s.heap.size), .unset, .unset] [.int (Int32.ofNat len), .int 0, .ref s.heap.size, .int (Int32.ofNat o), .ref b])) := c4.trans (by
    refine XS.astoreN X3.here hexec rfl (hb hbytes d3) rfl rfl rfl ?_
    refine XS.aloadN X3.here hexec rfl (hb hbytes d4) rfl rfl ?_
    refine XS.iloadN X3.here hexec rfl (hb hbytes d5) rfl ?_
    refine XS.aloadN X3.here hexec rfl (hb hbytes d6) rfl rfl ?_
    refine iconstV X3.here hexec rfl 0 (hb hbytes d7) (by decide) ?_
    refine XS.iloadN X3.here hexec rfl (hb hbytes d8) rfl ?_
    exact Steps.refl _)
  obtain ⟨v6, T6, X6, E6, g6⟩ := X3.callS hexec (Cmp5.law l b A s.heap.size B3 o 0 len) hown (wks W (staticW U16 115 Cmp5.yN)) (wk W Cmp5.tab) (W := 0) (Nat.le_of_ble_eq_true rfl) (Nat.le_of_ble_eq_true rfl) (Nat.le_refl _) (by show 0 + len + 0 ≤ len; omega) (g := (mkF m 9 #[.val (.ref b), .val (.int (Int32.ofNat o)), .val (.int (Int32.ofNat len)), .val (.ref s.heap.size), .unset, .unset] [.int (Int32.ofNat len), .int (Int32.ofNat 0), .ref s.heap.size, .int (Int32.ofNat o), .ref b])) rfl (by rw [hml]; rfl) c5 (argsL := [.ref b, .int (Int32.ofNat o), .ref s.heap.size, .int (Int32.ofNat 0), .int (Int32.ofNat len)]) (rest := []) rfl rfl (by show 2 * 0 + 0 ≤ _; decide) (hb hbytes d9) (⟨rfl, hA3, ba3, hne, l1, by rw [bs3]; simp, hp⟩)
  obtain ⟨rfl, B6, p6, f6⟩ := E6
  have c7 : Steps p.tables e below (s₁.setTop (entryFrame m #[.ref b, .int (Int32.ofNat o), .int (Int32.ofNat len)] 6)) (T6.setTop (mkF m 12 #[.val (.ref b), .val (.int (Int32.ofNat o)), .val (.int (Int32.ofNat len)), .val (.ref s.heap.size), .unset, .unset] [.int (Int32.ofNat len)])) := g6
  have c8 : Steps p.tables e below (s₁.setTop (entryFrame m #[.ref b, .int (Int32.ofNat o), .int (Int32.ofNat len)] 6)) (T6.setTop (mkF m 58 #[.val (.ref b), .val (.int (Int32.ofNat o)), .val (.int (Int32.ofNat len)), .val (.ref s.heap.size), .val (.int (Int32.ofNat len)), .unset] [.ref s.heap.size])) := c7.trans (by
    refine XS.istore X6.here hexec rfl (hb hbytes d12) rfl rfl ?_
    refine XS.iload X6.here hexec rfl (hb hbytes d14) rfl ?_
    refine XS.iloadN X6.here hexec rfl (hb hbytes d16) rfl ?_
    refine XS.icmpYes X6.here hexec rfl (pc0 := 17) rfl (hb hbytes d17) rfl (ii_eq_t rfl) (by decide) rfl ?_
    refine XS.aloadN X6.here hexec rfl (hb hbytes d57) rfl rfl ?_
    exact Steps.refl _)
  have X8 := X6.wide (L' := []) (cells' := 1) (slots' := len) (fun x hx hlt => by
    simp only [List.nil_append, copyLocs, List.mem_map, List.mem_range] at hx
    obtain ⟨i, -, rfl⟩ := hx
    exact absurd hlt (Nat.lt_irrefl _)) (Nat.le_refl _) (by omega)
  exact ⟨T6, some (.ref s.heap.size), _, _, _, X8, rfl, rfl, rfl, (fun h => by cases h), ⟨⟨rfl, B6, ba3.like (X3.warmed.alike.symm.trans X6.warmed.alike) p6.1 f6.1 f6.2.1 f6.2.2.1, f6.2.1.trans bv3, by rw [X6.warmed.alike.findClass, f6.1]; exact bf3, by rw [f6.2.2.1, bs3]; simp, fun j hj => by rw [f6.2.2.2 j, if_pos (by omega)]; rfl, kp3.put p6 (Nat.le_refl _)⟩, by rw [p6.2.2, bh3, hh0]; simp⟩, fun fs hl => c8.trans (X8.areturnOut hexec rfl hret rfl (hb hbytes d58) hl)⟩
end Cmp3
namespace CodL
def yN : MethodName := ⟨"java/lang/StringUTF16", "coderFromArrayLen", "([BI)B"⟩
abbrev yB : ByteArray := jdk_52_method_15_code
theorem d0 : decode yB 0 = .ok (.iload_n 1, 1) := by decide +kernel
theorem d1 : decode yB 1 = .ok (.aload_n 0, 1) := by decide +kernel
theorem d2 : decode yB 2 = .ok (.arraylength, 1) := by decide +kernel
theorem d3 : decode yB 3 = .ok (.isub, 1) := by decide +kernel
theorem d4 : decode yB 4 = .ok (.bipush 31, 2) := by decide +kernel
theorem d6 : decode yB 6 = .ok (.iushr, 1) := by decide +kernel
theorem d7 : decode yB 7 = .ok (.i2b, 1) := by decide +kernel
theorem d8 : decode yB 8 = .ok (.ireturn, 1) := by decide +kernel
def site : List Cond := []
def tab : Cond := tabOf yN yB 2 (some .byte) site
def P (d : Addr) (B : Cell) (args : Array Value) (s : State) : Prop := args = #[.ref d, .int (Int32.ofNat B.slots.size)] ∧ Arr .byte d B s
def E (r : Option Value) (s u : State) : Prop := XT.PureE (some (.int 0)) r s u
/-- an array as long as the number of chars: LATIN1 -/
theorem law (l : Launch) (d : Addr) (B : Cell) : Law l yN 2 2 0 0 yB 2 (some .byte) site (P d B) E [] 0 0 := by
  refine Law.of_walk (plainFor_of_name (by decide +kernel)) (by decide +kernel) (by decide +kernel) (by decide) (fun _ _ h => by rw [h.1]; rfl) (fun _ U U' hal hh h => ⟨h.1, h.2.mv hal hh⟩) (fun r U U' V V' h1 hal h2 h => XT.PureE.mv r U U' V V' h1 hal h2 h) ?_
  intro p e s m args below meth c s₁ X0 hexec hbytes hml hret hlk hnm hown hh0 W hP
  obtain ⟨rfl, hB⟩ := hP
  have hB0 := hB.mv X0.warmed.alike hh0
  have c1 : Steps p.tables e below (s₁.setTop (entryFrame m #[.ref d, .int (Int32.ofNat B.slots.size)] 2)) (s₁.setTop (mkF m 0 #[.val (.ref d), .val (.int (Int32.ofNat B.slots.size))] [])) := entry rfl
  have c2 : Steps p.tables e below (s₁.setTop (entryFrame m #[.ref d, .int (Int32.ofNat B.slots.size)] 2)) (s₁.setTop (mkF m 2 #[.val (.ref d), .val (.int (Int32.ofNat B.slots.size))] [.ref d, .int (Int32.ofNat B.slots.size)])) := c1.trans (by
    refine XS.iloadN X0.here hexec rfl (hb hbytes d0) rfl ?_
    refine XS.aloadN X0.here hexec rfl (hb hbytes d1) rfl rfl ?_
    exact Steps.refl _)
  have c3 : Steps p.tables e below (s₁.setTop (entryFrame m #[.ref d, .int (Int32.ofNat B.slots.size)] 2)) (s₁.setTop (mkF m 8 #[.val (.ref d), .val (.int (Int32.ofNat B.slots.size))] [.int (lo8 (ushr (Int32.ofNat B.slots.size - Int32.ofNat B.slots.size) 31))])) := c2.trans (by
    refine X0.alen hexec hB0 rfl rfl (hb hbytes d2) ?_
    refine XS.isub X0.here hexec rfl (hb hbytes d3) rfl ?_
    refine bipushV X0.here hexec rfl 31 (hb hbytes d4) (by decide) ?_
    refine iushr X0.here hexec rfl (hb hbytes d6) rfl ?_
    refine i2b X0.here hexec rfl (hb hbytes d7) rfl ?_
    exact Steps.refl _)
  have e0 : lo8 (ushr (Int32.ofNat B.slots.size - Int32.ofNat B.slots.size) 31) = 0 := by rw [Int32.sub_self]; decide
  rw [e0] at c3
  exact ⟨s₁, some (.int 0), _, _, _, X0, rfl, rfl, rfl, (fun h => by cases h), ⟨rfl, hh0⟩, fun fs hl => c3.trans (X0.ireturnOut hexec hret rfl (Or.inr (Or.inr (Or.inl rfl))) (hb hbytes d8) hl)⟩
end CodL
/-- the String at a is Latin-1 over a new byte[] (the heap's one new cell): the low bytes of the len chars of A from o on; every cell but a is kept -/
def Got (a : Addr) (D : Cell) (fV fC : Field) (A : Cell) (o len : Nat) (r : Option Value) (s u : State) : Prop := r = none ∧ ∃ D' V : Cell, Blank "java/lang/String" a D' u ∧ Same D D' [fV.slot, fC.slot] ∧ D'.slots[fV.slot]? = some (.ref s.heap.size) ∧ D'.slots[fC.slot]? = some (.int 0) ∧ Arr .byte s.heap.size V u ∧ V.vm = .none ∧ u.vm.findClass "[B" = some V.cls ∧ V.slots.size = len ∧ (∀ j, j < len → V.slots[j]? = some (.int (lo8 (cv A (o + j))))) ∧ (∀ (y : Addr) (c : Cell), y ≠ a → s.heap[y]? = some c → u.heap[y]? = some c) ∧ u.heap.size = s.heap.size + 1
theorem Got.mv {a : Addr} {D A : Cell} {fV fC : Field} {o len : Nat} : ∀ r (U U' V V' : State), U'.heap = U.heap → V.vm.Alike V'.vm → V'.heap = V.heap → Got a D fV fC A o len r U V → Got a D fV fC A o len r U' V' :=
  fun r U U' V V' h1 hal h2 ⟨e0, D', X, a1, a2, a3, a4, a5, a6, a7, a8, a9, a10, a11⟩ => ⟨e0, D', X, a1.mv hal h2, a2, by rw [h1]; exact a3, a4, by rw [h1]; exact a5.mv hal h2, a6, by rw [hal.findClass]; exact a7, a8, a9, by rw [h1, h2]; exact a10, by rw [h1, h2]; exact a11⟩
namespace New4
def yN : MethodName := ⟨"java/lang/String", "<init>", "([CIILjava/lang/Void;)V"⟩
abbrev yB : ByteArray := jdk_42_method_149_code
theorem d0 : decode yB 0 = .ok (.aload_n 0, 1) := by decide +kernel
theorem d1 : decode yB 1 = .ok (.invokespecial 1, 3) := by decide +kernel
theorem d4 : decode yB 4 = .ok (.iload_n 3, 1) := by decide +kernel
theorem d5 : decode yB 5 = .ok (.ifCond (.ne) 22, 3) := by decide +kernel
theorem d27 : decode yB 27 = .ok (.getstatic 38, 3) := by decide +kernel
theorem d30 : decode yB 30 = .ok (.ifCond (.eq) 28, 3) := by decide +kernel
theorem d33 : decode yB 33 = .ok (.aload_n 1, 1) := by decide +kernel
theorem d34 : decode yB 34 = .ok (.iload_n 2, 1) := by decide +kernel
theorem d35 : decode yB 35 = .ok (.iload_n 3, 1) := by decide +kernel
theorem d36 : decode yB 36 = .ok (.invokestatic 177, 3) := by decide +kernel
theorem d39 : decode yB 39 = .ok (.astore 5, 2) := by decide +kernel
theorem d41 : decode yB 41 = .ok (.aload_n 0, 1) := by decide +kernel
theorem d42 : decode yB 42 = .ok (.aload 5, 2) := by decide +kernel
theorem d44 : decode yB 44 = .ok (.iload_n 3, 1) := by decide +kernel
theorem d45 : decode yB 45 = .ok (.invokestatic 47, 3) := by decide +kernel
theorem d48 : decode yB 48 = .ok (.putfield 15, 3) := by decide +kernel
theorem d51 : decode yB 51 = .ok (.aload_n 0, 1) := by decide +kernel
theorem d52 : decode yB 52 = .ok (.aload 5, 2) := by decide +kernel
theorem d54 : decode yB 54 = .ok (.putfield 9, 3) := by decide +kernel
theorem d57 : decode yB 57 = .ok (.return_, 1) := by decide +kernel
def site : List Cond := [.fieldLink "java/lang/String" 38 "java/lang/String" "COMPACT_STRINGS" "Z", Cmp3.tab, CodL.tab, .laysFinal "java/lang/String" "java/lang/String" "value" "[B", .fieldLink "java/lang/String" 9 "java/lang/String" "value" "[B", .laysFinal "java/lang/String" "java/lang/String" "coder" "B", .fieldLink "java/lang/String" 15 "java/lang/String" "coder" "B"] ++ objW "java/lang/String" 1 ++ staticW "java/lang/String" 177 Cmp3.yN ++ staticW "java/lang/String" 47 CodL.yN
def tab : Cond := tabOf yN yB 6 none site
def P (a : Addr) (D : Cell) (fV fC : Field) (b : Addr) (A : Cell) (z : Int32) (o len : Nat) (args : Array Value) (s : State) : Prop := args = #[.ref a, .ref b, .int (Int32.ofNat o), .int (Int32.ofNat len), .null] ∧ Blank "java/lang/String" a D s ∧ Found "java/lang/String" "value" "[B" fV s ∧ Found "java/lang/String" "coder" "B" fC s ∧ Ch b A s ∧ StaticIs s "java/lang/String" "COMPACT_STRINGS" "Z" (.int z) ∧ ¬ z = 0 ∧ 0 < len ∧ o + len ≤ A.slots.size ∧ len ≤ 536870912 ∧ ∀ i, i < len → ¬ 255 < cv A (o + i)
def E (a : Addr) (D : Cell) (fV fC : Field) (A : Cell) (o len : Nat) (r : Option Value) (s u : State) : Prop := Got a D fV fC A o len r s u
/-- len > 0, no char of the range above 255: a Latin-1 String of their low bytes -/
theorem law (l : Launch) (a : Addr) (D : Cell) (fV fC : Field) (b : Addr) (A : Cell) (z : Int32) (o len : Nat) : Law l yN 5 4 2 35 yB 6 none site (P a D fV fC b A z o len) (E a D fV fC A o len) [⟨a, fC.slot⟩, ⟨a, fV.slot⟩] 1 len := by
  refine Law.of_walk (plainFor_of_name (by decide +kernel)) (by decide +kernel) (by decide +kernel) (by decide) (fun _ _ h => by rw [h.1]; rfl) (fun _ U U' hal hh h => ⟨h.1, h.2.1.mv hal hh, h.2.2.1.al hal, h.2.2.2.1.al hal, h.2.2.2.2.1.mv hal hh, h.2.2.2.2.2.1.there hal hh, h.2.2.2.2.2.2⟩) (fun r U U' V V' h1 hal h2 h => Got.mv r U U' V V' h1 hal h2 h) ?_
  intro p e s m args below meth c s₁ X0 hexec hbytes hml hret hlk hnm hown hh0 W hP
  obtain ⟨rfl, hB, f1, f2, hA, s1, hz, l0, l1, l2, hp⟩ := hP
  have a31 := hA.1.2.2.2
  have c1 : Steps p.tables e below (s₁.setTop (entryFrame m #[.ref a, .ref b, .int (Int32.ofNat o), .int (Int32.ofNat len), .null] 6)) (s₁.setTop (mkF m 0 #[.val (.ref a), .val (.ref b), .val (.int (Int32.ofNat o)), .val (.int (Int32.ofNat len)), .val .null, .unset] [])) := entry rfl
  have c2 : Steps p.tables e below (s₁.setTop (entryFrame m #[.ref a, .ref b, .int (Int32.ofNat o), .int (Int32.ofNat len), .null] 6)) (s₁.setTop (mkF m 1 #[.val (.ref a), .val (.ref b), .val (.int (Int32.ofNat o)), .val (.int (Int32.ofNat len)), .val .null, .unset] [.ref a])) := c1.trans (by
    refine XS.aloadN X0.here hexec rfl (hb hbytes d0) rfl rfl ?_
    exact Steps.refl _)
  obtain ⟨T3, X3, q3, st3⟩ := X0.oinit hexec hown (wks W (objW "java/lang/String" 1)) (g := (mkF m 1 #[.val (.ref a), .val (.ref b), .val (.int (Int32.ofNat o)), .val (.int (Int32.ofNat len)), .val .null, .unset] [.ref a])) rfl (by rw [hml]; rfl) (rest := []) rfl (hb hbytes d1) (W := 0) (by show 2 * 0 + 0 ≤ _; decide) (Nat.le_of_ble_eq_true rfl) (Nat.le_of_ble_eq_true rfl)
  have hh3 := q3.trans hh0
  have c4 : Steps p.tables e below (s₁.setTop (entryFrame m #[.ref a, .ref b, .int (Int32.ofNat o), .int (Int32.ofNat len), .null] 6)) (T3.setTop (mkF m 27 #[.val (.ref a), .val (.ref b), .val (.int (Int32.ofNat o)), .val (.int (Int32.ofNat len)), .val .null, .unset] [])) := (c2.trans (st3 _ (Steps.refl _))).trans (by
    refine XS.iloadN X3.here hexec rfl (hb hbytes d4) rfl ?_
    refine XS.ifYes X3.here hexec rfl (pc0 := 5) rfl (hb hbytes d5) rfl (i0_ne_t (nz32 (by omega) l0)) (by decide) rfl ?_
    exact Steps.refl _)
  obtain ⟨T5, X5, q5, st5⟩ := X3.sget hexec hown (wk W (.fieldLink "java/lang/String" 38 "java/lang/String" "COMPACT_STRINGS" "Z")) s1 (fun _ _ h => by rw [hh3]; exact h) (g := (mkF m 27 #[.val (.ref a), .val (.ref b), .val (.int (Int32.ofNat o)), .val (.int (Int32.ofNat len)), .val .null, .unset] [])) rfl (hb hbytes d27)
  have hh5 := q5.trans hh3
  have c6 : Steps p.tables e below (s₁.setTop (entryFrame m #[.ref a, .ref b, .int (Int32.ofNat o), .int (Int32.ofNat len), .null] 6)) (T5.setTop (mkF m 30 #[.val (.ref a), .val (.ref b), .val (.int (Int32.ofNat o)), .val (.int (Int32.ofNat len)), .val .null, .unset] [.int z])) := c4.trans (st5 _ (Steps.refl _))
  have c7 : Steps p.tables e below (s₁.setTop (entryFrame m #[.ref a, .ref b, .int (Int32.ofNat o), .int (Int32.ofNat len), .null] 6)) (T5.setTop (mkF m 36 #[.val (.ref a), .val (.ref b), .val (.int (Int32.ofNat o)), .val (.int (Int32.ofNat len)), .val .null, .unset] [.int (Int32.ofNat len), .int (Int32.ofNat o), .ref b])) := c6.trans (by
    refine XS.ifNo X5.here hexec rfl (hb hbytes d30) rfl (i0_eq_f hz) ?_
    refine XS.aloadN X5.here hexec rfl (hb hbytes d33) rfl rfl ?_
    refine XS.iloadN X5.here hexec rfl (hb hbytes d34) rfl ?_
    refine XS.iloadN X5.here hexec rfl (hb hbytes d35) rfl ?_
    exact Steps.refl _)
  obtain ⟨v8, T8, X8, E8, g8⟩ := X5.callS hexec (Cmp3.law l b A o len) hown (wks W (staticW "java/lang/String" 177 Cmp3.yN)) (wk W Cmp3.tab) (W := 0) (Nat.le_of_ble_eq_true rfl) (Nat.le_of_ble_eq_true rfl) (Nat.le_refl _) (by show 0 + len ≤ len; omega) (g := (mkF m 36 #[.val (.ref a), .val (.ref b), .val (.int (Int32.ofNat o)), .val (.int (Int32.ofNat len)), .val .null, .unset] [.int (Int32.ofNat len), .int (Int32.ofNat o), .ref b])) rfl (by rw [hml]; rfl) c7 (argsL := [.ref b, .int (Int32.ofNat o), .int (Int32.ofNat len)]) (rest := []) rfl rfl (by show 2 * 0 + 0 ≤ _; decide) (hb hbytes d36) (⟨rfl, hA.mv X5.warmed.alike hh5, l1, l2, hp⟩)
  obtain ⟨e8, z8⟩ := E8
  obtain ⟨rfl, N, n1, n2, n3, n4, n5, n6⟩ := NewArr.mv _ T5 s _ _ hh5.symm (Vm.Alike.refl _) rfl e8
  rw [hh5] at z8
  have hB1 := hB.keep X8.warmed.alike (n6 _ _ hB.1)
  have hne : s.heap.size ≠ a := (Nat.ne_of_lt (Array.getElem?_eq_some_iff.mp hB.1).1).symm
  have c9 : Steps p.tables e below (s₁.setTop (entryFrame m #[.ref a, .ref b, .int (Int32.ofNat o), .int (Int32.ofNat len), .null] 6)) (T8.setTop (mkF m 39 #[.val (.ref a), .val (.ref b), .val (.int (Int32.ofNat o)), .val (.int (Int32.ofNat len)), .val .null, .unset] [.ref s.heap.size])) := g8
  have c10 : Steps p.tables e below (s₁.setTop (entryFrame m #[.ref a, .ref b, .int (Int32.ofNat o), .int (Int32.ofNat len), .null] 6)) (T8.setTop (mkF m 45 #[.val (.ref a), .val (.ref b), .val (.int (Int32.ofNat o)), .val (.int (Int32.ofNat len)), .val .null, .val (.ref s.heap.size)] [.int (Int32.ofNat N.slots.size), .ref s.heap.size, .ref a])) := by
    have hc : Steps p.tables e below (s₁.setTop (entryFrame m #[.ref a, .ref b, .int (Int32.ofNat o), .int (Int32.ofNat len), .null] 6)) (T8.setTop (mkF m 45 #[.val (.ref a), .val (.ref b), .val (.int (Int32.ofNat o)), .val (.int (Int32.ofNat len)), .val .null, .val (.ref s.heap.size)] [.int (Int32.ofNat len), .ref s.heap.size, .ref a])) := c9.trans (by
      refine XS.astore X8.here hexec rfl (hb hbytes d39) rfl rfl rfl ?_
      refine XS.aloadN X8.here hexec rfl (hb hbytes d41) rfl rfl ?_
      refine XS.aload X8.here hexec rfl (hb hbytes d42) rfl rfl ?_
      refine XS.iloadN X8.here hexec rfl (hb hbytes d44) rfl ?_
      exact Steps.refl _)
    rw [n4]; exact hc
  obtain ⟨v11, T11, X11, E11, g11⟩ := X8.callS hexec (CodL.law l s.heap.size N) hown (wks W (staticW "java/lang/String" 47 CodL.yN)) (wk W CodL.tab) (W := 1) (Nat.le_of_ble_eq_true rfl) (Nat.le_of_ble_eq_true rfl) (Nat.le_refl _) (by show 0 + len + 0 ≤ len; omega) (g := (mkF m 45 #[.val (.ref a), .val (.ref b), .val (.int (Int32.ofNat o)), .val (.int (Int32.ofNat len)), .val .null, .val (.ref s.heap.size)] [.int (Int32.ofNat N.slots.size), .ref s.heap.size, .ref a])) rfl (by rw [hml]; rfl) c10 (argsL := [.ref s.heap.size, .int (Int32.ofNat N.slots.size)]) (rest := [.ref a]) rfl rfl (by show 2 * 0 + (1 + 0) ≤ _; decide) (hb hbytes d45) (⟨rfl, n1⟩)
  obtain ⟨rfl, q11⟩ := E11
  have hB11 := hB1.mv (X8.warmed.alike.symm.trans X11.warmed.alike) q11
  have c12 : Steps p.tables e below (s₁.setTop (entryFrame m #[.ref a, .ref b, .int (Int32.ofNat o), .int (Int32.ofNat len), .null] 6)) (T11.setTop (mkF m 48 #[.val (.ref a), .val (.ref b), .val (.int (Int32.ofNat o)), .val (.int (Int32.ofNat len)), .val .null, .val (.ref s.heap.size)] [.int 0, .ref a])) := g11
  obtain ⟨T13, X13, p13, bl13, sl13, st13⟩ := X11.finit hexec hown (wk W (.fieldLink "java/lang/String" 15 "java/lang/String" "coder" "B")) (Or.inr ⟨_, (wk W (.laysFinal "java/lang/String" "java/lang/String" "coder" "B"))⟩) (Or.inl ⟨rfl, hnm⟩) f2 (Or.inl rfl) hB11 (t := .byte) (by decide +kernel) rfl (g := (mkF m 48 #[.val (.ref a), .val (.ref b), .val (.int (Int32.ofNat o)), .val (.int (Int32.ofNat len)), .val .null, .val (.ref s.heap.size)] [.int 0, .ref a])) rfl (rest := []) rfl (hb hbytes d48)
  have c14 : Steps p.tables e below (s₁.setTop (entryFrame m #[.ref a, .ref b, .int (Int32.ofNat o), .int (Int32.ofNat len), .null] 6)) (T13.setTop (mkF m 54 #[.val (.ref a), .val (.ref b), .val (.int (Int32.ofNat o)), .val (.int (Int32.ofNat len)), .val .null, .val (.ref s.heap.size)] [.ref s.heap.size, .ref a])) := (c12.trans (st13 _ (Steps.refl _))).trans (by
    refine XS.aloadN X13.here hexec rfl (hb hbytes d51) rfl rfl ?_
    refine XS.aload X13.here hexec rfl (hb hbytes d52) rfl rfl ?_
    exact Steps.refl _)
  obtain ⟨T15, X15, p15, bl15, sl15, st15⟩ := X13.finit hexec hown (wk W (.fieldLink "java/lang/String" 9 "java/lang/String" "value" "[B")) (Or.inr ⟨_, (wk W (.laysFinal "java/lang/String" "java/lang/String" "value" "[B"))⟩) (Or.inl ⟨rfl, hnm⟩) f1 (Or.inl rfl) bl13 (t := (.array .byte)) (by decide +kernel) rfl (g := (mkF m 54 #[.val (.ref a), .val (.ref b), .val (.int (Int32.ofNat o)), .val (.int (Int32.ofNat len)), .val .null, .val (.ref s.heap.size)] [.ref s.heap.size, .ref a])) rfl (rest := []) rfl (hb hbytes d54)
  have c16 : Steps p.tables e below (s₁.setTop (entryFrame m #[.ref a, .ref b, .int (Int32.ofNat o), .int (Int32.ofNat len), .null] 6)) (T15.setTop (mkF m 57 #[.val (.ref a), .val (.ref b), .val (.int (Int32.ofNat o)), .val (.int (Int32.ofNat len)), .val .null, .val (.ref s.heap.size)] [])) := c14.trans (st15 _ (Steps.refl _))
  have ap := apart (Or.inr ⟨_, (wk W (.laysFinal "java/lang/String" "java/lang/String" "value" "[B"))⟩) (Or.inr ⟨_, (wk W (.laysFinal "java/lang/String" "java/lang/String" "coder" "B"))⟩) f1 f2 (t₁ := .array .byte) (t₂ := .byte) (by decide +kernel) (by decide +kernel) (by decide)
  have al := X8.warmed.alike.symm.trans X15.warmed.alike
  have n7 : T11.heap[s.heap.size]? = some N := by rw [q11]; exact n1.1
  exact ⟨T15, none, _, _, _, X15, by simp, rfl, by omega, (fun _ => rfl), ⟨rfl, _, N, bl15, ((Same.refl D _).set _ (by simp)).set _ (by simp), sl15, (Cell.slots_setSlot_ne _ ap).trans sl13, n1.keep al (p15.other hne (p13.other hne n7)), n2, by rw [al.findClass]; exact n3, n4, n5, fun y c h1 h2 => p15.other h1 (p13.other h1 (by rw [q11]; exact n6 y c h2)), by rw [p15.2.2, p13.2.2, q11]; exact z8⟩, fun fs hl => c16.trans (X15.returnOut hexec hret (hb hbytes d57) hl)⟩
end New4
namespace New1
def yN : MethodName := ⟨"java/lang/String", "<init>", "([C)V"⟩
abbrev yB : ByteArray := jdk_42_method_3_code
theorem d0 : decode yB 0 = .ok (.aload_n 0, 1) := by decide +kernel
theorem d1 : decode yB 1 = .ok (.aload_n 1, 1) := by decide +kernel
theorem d2 : decode yB 2 = .ok (.iconst 0, 1) := by decide +kernel
theorem d3 : decode yB 3 = .ok (.aload_n 1, 1) := by decide +kernel
theorem d4 : decode yB 4 = .ok (.arraylength, 1) := by decide +kernel
theorem d5 : decode yB 5 = .ok (.aconst_null, 1) := by decide +kernel
theorem d6 : decode yB 6 = .ok (.invokespecial 27, 3) := by decide +kernel
theorem d9 : decode yB 9 = .ok (.return_, 1) := by decide +kernel
def site : List Cond := [New4.tab] ++ initW "java/lang/String" 27 New4.yN
def tab : Cond := tabOf yN yB 2 none site
def P (a : Addr) (D : Cell) (fV fC : Field) (b : Addr) (A : Cell) (z : Int32) (args : Array Value) (s : State) : Prop := args = #[.ref a, .ref b] ∧ Blank "java/lang/String" a D s ∧ Found "java/lang/String" "value" "[B" fV s ∧ Found "java/lang/String" "coder" "B" fC s ∧ Ch b A s ∧ StaticIs s "java/lang/String" "COMPACT_STRINGS" "Z" (.int z) ∧ ¬ z = 0 ∧ 0 < A.slots.size ∧ A.slots.size ≤ 536870912 ∧ ∀ i, i < A.slots.size → ¬ 255 < cv A i
def E (a : Addr) (D : Cell) (fV fC : Field) (A : Cell) (r : Option Value) (s u : State) : Prop := Got a D fV fC A 0 A.slots.size r s u
/-- new String(chars), not empty, no char above 255: a Latin-1 String of their low bytes -/
theorem law (l : Launch) (a : Addr) (D : Cell) (fV fC : Field) (b : Addr) (A : Cell) (z : Int32) : Law l yN 2 1 3 52 yB 2 none site (P a D fV fC b A z) (E a D fV fC A) [⟨a, fC.slot⟩, ⟨a, fV.slot⟩] 1 A.slots.size := by
  refine Law.of_walk (plainFor_of_name (by decide +kernel)) (by decide +kernel) (by decide +kernel) (by decide) (fun _ _ h => by rw [h.1]; rfl) (fun _ U U' hal hh h => ⟨h.1, h.2.1.mv hal hh, h.2.2.1.al hal, h.2.2.2.1.al hal, h.2.2.2.2.1.mv hal hh, h.2.2.2.2.2.1.there hal hh, h.2.2.2.2.2.2⟩) (fun r U U' V V' h1 hal h2 h => Got.mv r U U' V V' h1 hal h2 h) ?_
  intro p e s m args below meth c s₁ X0 hexec hbytes hml hret hlk hnm hown hh0 W hP
  obtain ⟨rfl, hB, f1, f2, hA, s1, hz, l0, l2, hp⟩ := hP
  have c1 : Steps p.tables e below (s₁.setTop (entryFrame m #[.ref a, .ref b] 2)) (s₁.setTop (mkF m 0 #[.val (.ref a), .val (.ref b)] [])) := entry rfl
  have c2 : Steps p.tables e below (s₁.setTop (entryFrame m #[.ref a, .ref b] 2)) (s₁.setTop (mkF m 6 #[.val (.ref a), .val (.ref b)] [.null, .int (Int32.ofNat A.slots.size), .int 0, .ref b, .ref a])) := c1.trans (by
    refine XS.aloadN X0.here hexec rfl (hb hbytes d0) rfl rfl ?_
    refine XS.aloadN X0.here hexec rfl (hb hbytes d1) rfl rfl ?_
    refine iconstV X0.here hexec rfl 0 (hb hbytes d2) (by decide) ?_
    refine XS.aloadN X0.here hexec rfl (hb hbytes d3) rfl rfl ?_
    refine X0.alen hexec (hA.1.mv X0.warmed.alike hh0) rfl rfl (hb hbytes d4) ?_
    refine XS.aconstNull X0.here hexec rfl (hb hbytes d5) ?_
    exact Steps.refl _)
  obtain ⟨v3, T3, X3, E3, g3⟩ := X0.callN hexec (New4.law l a D fV fC b A z 0 A.slots.size) rfl hown (wks W (initW "java/lang/String" 27 New4.yN)) (W New4.tab (by simp only [site, List.mem_cons, List.mem_append, true_or, or_true])) (W := 0) (Nat.le_of_ble_eq_true rfl) (Nat.le_of_ble_eq_true rfl) (Nat.le_refl _) (by show 0 + A.slots.size ≤ A.slots.size; omega) (g := (mkF m 6 #[.val (.ref a), .val (.ref b)] [.null, .int (Int32.ofNat A.slots.size), .int (Int32.ofNat 0), .ref b, .ref a])) rfl (by rw [hml]; rfl) c2 (argsL := [.ref b, .int (Int32.ofNat 0), .int (Int32.ofNat A.slots.size), .null]) (rest := []) rfl rfl (by show 2 * 0 + 0 ≤ _; decide) (hb hbytes d6) (⟨rfl, hB.mv X0.warmed.alike hh0, f1.al X0.warmed.alike, f2.al X0.warmed.alike, hA.mv X0.warmed.alike hh0, s1.there X0.warmed.alike hh0, hz, l0, by omega, l2, fun i hi => by rw [Nat.zero_add]; exact hp i hi⟩)
  have e0 := Got.mv _ s₁ s _ _ hh0.symm (Vm.Alike.refl _) rfl E3
  obtain rfl := e0.1
  have c4 : Steps p.tables e below (s₁.setTop (entryFrame m #[.ref a, .ref b] 2)) (T3.setTop (mkF m 9 #[.val (.ref a), .val (.ref b)] [])) := g3
  exact ⟨T3, none, _, _, _, X3, by simp, rfl, by omega, (fun _ => rfl), e0, fun fs hl => c4.trans (X3.returnOut hexec hret (hb hbytes d9) hl)⟩
theorem pays {l : Launch} {R : Room} {p : Program} {e : Env} {below : List Frame} {s : State} {sargs : Array Value} {len W : Nat} (a : Addr) (D : Cell) (fV fC : Field) (b : Addr) (A : Cell) (z : Int32) (htab : tab.before sargs s = true) (hfr : 4 ≤ R.frames) (hlo : W + 65 ≤ R.locals) :
    Back l R p e below s sargs yN len W (fun A₁ a₁ => A₁.cells + 1 ≤ R.cells ∧ A₁.slots + A.slots.size ≤ R.slots ∧ P a D fV fC b A z a₁ A₁.U) (fun A₁ _ v₁ B₁ => E a D fV fC A v₁ A₁.U B₁.U ∧ B₁.locs = A₁.locs ++ [⟨a, fC.slot⟩, ⟨a, fV.slot⟩] ∧ B₁.cells = A₁.cells + 1 ∧ B₁.slots = A₁.slots + A.slots.size) :=
  (law l a D fV fC b A z).pays htab hfr (by omega)
end New1
end StrChars
namespace StrChars.Road
open Jvm Sem ClassFile Op Lib Jvm.Stand Jvm.Free Jvm.Free.XT
open Jvm.Lib.Cold (StaticIs)
abbrev ST : String := "java/lang/String"
/-- every table word that New1's law asks, flat -/
abbrev words : List Jvm.Cond := [.code New1.yN New1.yB 2 none, .initialized ST, .methodLink ST 27 New4.yN, .instanceMethod New4.yN,
  .code New4.yN New4.yB 6 none, .fieldLink ST 38 ST "COMPACT_STRINGS" "Z", .laysFinal ST ST "value" "[B", .fieldLink ST 9 ST "value" "[B", .laysFinal ST ST "coder" "B", .fieldLink ST 15 ST "coder" "B",
  .methodLink ST 1 Lib.objectInit, .instanceMethod Lib.objectInit, .code Lib.objectInit ⟨#[0xb1]⟩ 1 none, .methodLink ST 177 Cmp3.yN, .static Cmp3.yN, .methodLink ST 47 CodL.yN, .static CodL.yN,
  .code Cmp3.yN Cmp3.yB 6 (some (.array .byte)), .initialized U16, .arrayClass .byte, .methodLink U16 115 Cmp5.yN, .static Cmp5.yN, .code Cmp5.yN Cmp5.yB 7 (some .int), .code CodL.yN CodL.yB 2 (some .byte)]
theorem tab_of {a : Array Value} {s : State} (h : ∀ w ∈ words, w.before a s = true) : New1.tab.before a s = true := by
  have h5 : Cmp5.tab.before a s = true := unparts (wk h (.code Cmp5.yN Cmp5.yB 7 (some .int))) (wks h (.initialized Cmp5.yN.cls :: Cmp5.site))
  have hc : CodL.tab.before a s = true := unparts (wk h (.code CodL.yN CodL.yB 2 (some .byte))) (wks h (.initialized CodL.yN.cls :: CodL.site))
  have q5 : ∀ w ∈ Cmp5.tab :: words, w.before a s = true := fun w hw => (List.mem_cons.mp hw).elim (fun e => e ▸ h5) (h w)
  have h3 : Cmp3.tab.before a s = true := unparts (wk q5 (.code Cmp3.yN Cmp3.yB 6 (some (.array .byte)))) (wks q5 (.initialized Cmp3.yN.cls :: Cmp3.site))
  have q3 : ∀ w ∈ Cmp3.tab :: CodL.tab :: words, w.before a s = true := fun w hw => (List.mem_cons.mp hw).elim (fun e => e ▸ h3) fun hw => (List.mem_cons.mp hw).elim (fun e => e ▸ hc) (h w)
  have h4 : New4.tab.before a s = true := unparts (wk q3 (.code New4.yN New4.yB 6 none)) (wks q3 (.initialized New4.yN.cls :: New4.site))
  have q4 : ∀ w ∈ New4.tab :: words, w.before a s = true := fun w hw => (List.mem_cons.mp hw).elim (fun e => e ▸ h4) (h w)
  exact unparts (wk q4 (.code New1.yN New1.yB 2 none)) (wks q4 (.initialized New1.yN.cls :: New1.site))
/-- the words ride from the start Z to the walk's own state -/
theorem moved {Z s : State} {a0 args : Array Value} (hZ : Z.Warmed39 s.vm) (hw : ∀ d ∈ words, d.before a0 Z = true) : ∀ d ∈ words, d.before args s = true := fun d hd => by
  have q := hw d hd
  have t : ∀ d ∈ words, d = .arrayClass .byte ∨ (d.onTables && d.keepsFace) = true := by decide +kernel
  rcases t d hd with rfl | t
  · exact RoadKit.mvA hZ q
  · exact RoadKit.mv hZ q t
/-- WHAT COMES BACK, over the tables of the start Z: h the heap at the call, h' behind it -/
def Q (Z : State) (x : Addr) (A : Cell) (h : Heap) (v : Option Value) (h' : Heap) (L : List Loc) : Prop := v = none ∧ (∀ y ∈ L, y.base = x) ∧ RoadKit.Keep h h' [x] ∧ h'.size = h.size + 1 ∧ RoadKit.Exa Z h' x ST ∧ RoadKit.Fld Z h' x ST "value" "[B" (.ref h.size) ∧ RoadKit.Fld Z h' x ST "coder" "B" (.int 0) ∧
  (∃ V : Cell, RoadKit.Arr Z h' h.size V .byte ∧ V.vm = .none ∧ Z.vm.findClass "[B" = some V.cls ∧ V.slots.size = A.slots.size ∧ ∀ j, j < A.slots.size → V.slots[j]? = some (.int (lo8 (cv A j)))) ∧
  ∀ (O n d : String) (w : Value), RoadKit.Fld Z h x O n d w → RoadKit.slotOf Z O n d ≠ RoadKit.slotOf Z ST "value" "[B" → RoadKit.slotOf Z O n d ≠ RoadKit.slotOf Z ST "coder" "B" → RoadKit.Fld Z h' x O n d w
/-- **new String(chars) AT A CALL, IN THE ROAD'S FORM**: for specialBack behind newO: x the fresh String, b the char[] with the cell A -/
theorem back {p : Program} {l : Launch} {e : Env} {R : Room} {s : State} {args : Array Value} {below : List Frame} {len W : Nat} {Z : State} {a0 : Array Value} {h : Heap} (hZ : Z.Warmed39 s.vm) (hw : ∀ d ∈ words, d.before a0 Z = true) {kI : Nat} (wi : (Jvm.Cond.instantiable ST kI).before a0 Z = true)
    {x b : Addr} {A : Cell} {z : Int32} {v0 c0 : Value} (E : RoadKit.Exa Z h x ST) (V : RoadKit.Fld Z h x ST "value" "[B" v0) (C : RoadKit.Fld Z h x ST "coder" "B" c0) (K : RoadKit.Arr Z h b A .char) (hty : Typed .char A) (S : RoadKit.Sta Z h ST "COMPACT_STRINGS" "Z" (.int z)) (hz : ¬ z = 0)
    (l0 : 0 < A.slots.size) (l2 : A.slots.size ≤ 536870912) (hp : ∀ i, i < A.slots.size → ¬ 255 < cv A i) (hfr : 4 ≤ R.frames) (hlo : W + 65 ≤ R.locals) :
    Back l R p e below s args New1.yN len W (fun P a => a = #[.ref x, .ref b] ∧ P.U.heap = h ∧ P.cells + 1 ≤ R.cells ∧ P.slots + A.slots.size ≤ R.slots)
      (fun P _ v B => ∃ L, Q Z x A h v B.U.heap L ∧ B.locs = P.locs ++ L ∧ B.cells = P.cells + 1 ∧ B.slots = P.slots + A.slots.size) := by
  intro m meth c P g ig mk a X hg hsize hdg hW hn hp'
  obtain ⟨rfl, rfl, r1, r2⟩ := hp'
  have al : Z.vm.Alike P.U.vm := hZ.alike.trans X.warmed.alike
  obtain ⟨D, cfV, kV, iV, fV, hD, gV, stV, knV, obV, asV, slV⟩ := id V
  obtain ⟨D', cfC, kC, iC, fC, hD', gC, stC, -, -, asC, slC⟩ := id C
  cases hD.symm.trans hD'
  obtain ⟨D2, kD, e1, e2, e3, e4, e5⟩ := id E
  cases hD.symm.trans e1
  obtain ⟨c2, k2, i1, i2, i3, -⟩ := Cond.instantiable_spec wi
  cases e2.symm.trans i1
  cases e3.symm.trans i2
  obtain ⟨kU, u1, u2⟩ := al.2.2 _ _ e3
  have hB : Blank ST x D P.U := ⟨hD, ⟨knV, fun q hq => by rw [hq] at obV; cases obV⟩, by rw [al.findClass]; exact e2, kU, u1, by rw [u2]; exact i3, by rw [u2]; exact e5 i3⟩
  have F1 : Found ST "value" "[B" fV P.U := ⟨SBG.found_only al ⟨cfV, kV, iV, gV⟩, stV⟩
  have F2 : Found ST "coder" "B" fC P.U := ⟨SBG.found_only al ⟨cfC, kC, iC, gC⟩, stC⟩
  have hA : Ch b A P.U := ⟨⟨K.1, State.isArrayOf_alike al K.2.1, K.2.2, by omega⟩, hty⟩
  have hS : StaticIs P.U ST "COMPACT_STRINGS" "Z" (.int z) := by
    obtain ⟨cfS, iS, kS, fS, st, cS, t1, t2, t3, t4, t5, t6, t7⟩ := S
    exact StaticIs.there (s := { Z with heap := P.U.heap }) ⟨cfS, iS, kS, fS, st, cS, t1, t2, t3, t4, t5, (fun q => by rw [q] at t6; cases t6), t7⟩ al rfl
  obtain ⟨v, B, X', ⟨⟨hv, E', V', q1, q2, q3, q4, q5, q6, q7, q8, q9, q10, q11⟩, hl, hc, hs⟩, st⟩ := New1.pays x D fV fC b A z (tab_of (moved hZ hw)) hfr hlo m meth c P g ig mk _ X hg hsize hdg hW hn ⟨r1, r2, rfl, hB, F1, F2, hA, hS, hz, l0, l2, hp⟩
  have al' : Z.vm.Alike B.U.vm := hZ.alike.trans X'.warmed.alike
  have hsz : E'.slots.size = D.slots.size := by
    obtain ⟨-, -, -, kB, w1, w2, w3⟩ := q1
    obtain ⟨kB', y1, y2⟩ := al'.2.2 _ _ e3
    rw [q2.2.1] at w1
    cases w1.symm.trans y1
    rw [w3, e5 i3, y2]
  refine ⟨v, B, X', ⟨_, ⟨hv, ?_, ⟨by omega, fun y cy hy hn' => q10 y cy (by simpa using hn') hy, fun y cy hy => ?_⟩, q11, ⟨E', _, q1.1, by rw [q2.2.1]; exact e2, by rw [q2.2.1]; exact e3, by rw [q2.1]; exact obV, fun _ => by rw [hsz]; exact e5 i3⟩,
    ⟨E', cfV, kV, iV, fV, q1.1, gV, stV, by rw [q2.1]; exact knV, by rw [q2.1]; exact obV, by rw [q2.2.1]; exact asV, q3⟩, ⟨E', cfC, kC, iC, fC, q1.1, gC, stC, by rw [q2.1]; exact knV, by rw [q2.1]; exact obV, by rw [q2.2.1]; exact asC, q4⟩,
    ⟨V', ⟨q5.1, State.isArrayOf_alike al'.symm q5.2.1, q5.2.2.1⟩, q6, by rw [← al'.findClass]; exact q7, q8, fun j hj => by have := q9 j hj; rwa [Nat.zero_add] at this⟩, fun O n d w F n1 n2 => ?_⟩, hl, hc, hs⟩, st⟩
  · intro y hy
    simp only [List.mem_cons, List.not_mem_nil, or_false] at hy
    rcases hy with rfl | rfl <;> rfl
  · by_cases q : y = x
    · subst q
      cases hD.symm.trans hy
      exact ⟨E', q1.1, q2.2.1, q2.1, hsz⟩
    · exact ⟨cy, q10 y cy q hy, rfl, rfl, rfl⟩
  · obtain ⟨D3, cf, k, i, f, g1, g2, g3, g4, g5, g6, g7⟩ := F
    cases hD.symm.trans g1
    simp only [RoadKit.slotOf, g2, gV, gC, Option.map_some, Option.getD_some] at n1 n2
    exact ⟨E', cf, k, i, f, q1.1, g2, g3, by rw [q2.1]; exact g4, by rw [q2.1]; exact g5, by rw [q2.2.1]; exact g6, by rw [q2.2.2 f.slot (by simp [n1, n2])]; exact g7⟩
end StrChars.Road
namespace StrChars.Road
open Jvm Sem ClassFile Op Lib Jvm.Stand Jvm.Free Jvm.Free.XT
/-- WHAT COMES BACK, the byte[] as a list of values -/
def QA (Z : State) (x : Addr) (zn : Int32) (cs : List Int32) (h : Heap) (v : Option Value) (h' : Heap) (L : List Loc) : Prop := v = none ∧ (∀ y ∈ L, y.base = x) ∧ RoadKit.Keep h h' [x] ∧ h'.size = h.size + 1 ∧ RoadKit.Exa Z h' x ST ∧ RoadKit.Fld Z h' x ST "value" "[B" (.ref h.size) ∧ RoadKit.Fld Z h' x ST "coder" "B" (.int 0) ∧
  (∃ kb, Z.vm.findClass "[B" = some kb ∧ RoadKit.Arv Z h' h.size kb .byte zn (cs.map fun c => .int (lo8 c)) (.int 0)) ∧
  ∀ (O n d : String) (w : Value), RoadKit.Fld Z h x O n d w → RoadKit.slotOf Z O n d ≠ RoadKit.slotOf Z ST "value" "[B" → RoadKit.slotOf Z O n d ≠ RoadKit.slotOf Z ST "coder" "B" → RoadKit.Fld Z h' x O n d w
/-- **new String(chars) AT A CALL, THE ARRAYS AS LISTS**: the char[] at b holds cs, not empty, no char above 255 -/
theorem backArv {p : Program} {l : Launch} {e : Env} {R : Room} {s : State} {args : Array Value} {below : List Frame} {len W : Nat} {Z : State} {a0 : Array Value} {h : Heap} (hZ : Z.Warmed39 s.vm) (hw : ∀ d ∈ words, d.before a0 Z = true) {kI : Nat} (wi : (Jvm.Cond.instantiable ST kI).before a0 Z = true)
    {x b : Addr} {k : ClassId} {zn z : Int32} {cs : List Int32} {dv v0 c0 : Value} (E : RoadKit.Exa Z h x ST) (V : RoadKit.Fld Z h x ST "value" "[B" v0) (C : RoadKit.Fld Z h x ST "coder" "B" c0) (K : RoadKit.Arv Z h b k .char zn (cs.map Value.int) dv) (S : RoadKit.Sta Z h ST "COMPACT_STRINGS" "Z" (.int z)) (hz : ¬ z = 0)
    (hlen : zn.toNatClampNeg = cs.length) (h0 : 0 < cs.length) (hbig : cs.length ≤ 536870912) (hall : ∀ c ∈ cs, ¬ 255 < c) (hfr : 4 ≤ R.frames) (hlo : W + 65 ≤ R.locals) :
    Back l R p e below s args New1.yN len W (fun P a => a = #[.ref x, .ref b] ∧ P.U.heap = h ∧ P.cells + 1 ≤ R.cells ∧ P.slots + cs.length ≤ R.slots)
      (fun P _ v B => ∃ L, QA Z x zn cs h v B.U.heap L ∧ B.locs = P.locs ++ L ∧ B.cells = P.cells + 1 ∧ B.slots = P.slots + cs.length) := by
  obtain ⟨A, K1, K2, K3, K4, K5, K6⟩ := K
  have e : A.slots.size = cs.length := K3.trans hlen
  have hat : ∀ (i : Nat) (hi : i < cs.length), A.slots[i]? = some (.int cs[i]) := fun i hi => by rw [K5 i (by omega)]; simp [List.getD_eq_getElem?_getD, hi]
  have hcv : ∀ (i : Nat) (hi : i < cs.length), cv A i = cs[i] := fun i hi => by unfold cv; rw [hat i hi]
  have hty : Typed .char A := fun i v hv => by
    have hi : i < A.slots.size := (Array.getElem?_eq_some_iff.mp hv).1
    have q := K5 i hi
    rw [hv] at q
    rw [Option.some.inj q]
    exact K6 i hi
  refine Back.mono (back hZ hw wi E V C K1 hty S hz (by omega) (by omega) (fun i hi => by rw [hcv i (by omega)]; exact hall _ (List.getElem_mem _)) hfr hlo) (fun P a hp => ⟨hp.1, hp.2.1, hp.2.2.1, by rw [e]; exact hp.2.2.2⟩) (fun P a v B hp hq => ?_)
  obtain ⟨L, ⟨q1, q2, q3, q4, q5, q6, q7, ⟨V', v1, v2, v3, v4, v5⟩, q9⟩, hl, hc, hs⟩ := hq
  refine ⟨L, ⟨q1, q2, q3, q4, q5, q6, q7, ⟨V'.cls, v3, V', v1, rfl, by rw [v4, e, hlen], K4, fun i hi => ?_, fun i hi => ?_⟩, q9⟩, hl, hc, by rw [hs, e]⟩
  · have hi' : i < cs.length := by omega
    rw [v5 i (by omega), hcv i hi']; simp [List.getD_eq_getElem?_getD, hi']
  · have hi' : i < cs.length := by omega
    simp only [List.getD_eq_getElem?_getD, List.getElem?_map, List.getElem?_eq_getElem hi', Option.map_some, Option.getD_some]
    exact fits_lo8 _
end StrChars.Road
namespace StrChars.Road
open Jvm Sem ClassFile Op Lib Jvm.Stand Jvm.Free Jvm.Free.XT
/-- WHAT COMES BACK, in the writer's own shape -/
def QV (Z : State) (x : Addr) (N : Int32) (bs : List Int32) (h : Heap) (n0 : Nat) (v : Option Value) (h' : Heap) (L : List Loc) : Prop := v = none ∧ RoadKit.Fr n0 L ∧ RoadKit.Keep h h' [x] ∧ RoadKit.Exa Z h' x ST ∧ RoadKit.Fld Z h' x ST "coder" "B" (.int 0) ∧
  ∃ (t : Addr) (kb : ClassId), n0 ≤ t ∧ h.size ≤ t ∧ ¬ t = x ∧ RoadKit.Fld Z h' x ST "value" "[B" (.ref t) ∧ RoadKit.Arv Z h' t kb .byte N (bs.map Value.int) (.int 0)
/-- **new String(chars) AT A CALL, FOR THE WRITER**: a char[] of n known ints, each 0 to 255 -/
theorem backV {p : Program} {l : Launch} {e : Env} {R : Room} {s : State} {args : Array Value} {below : List Frame} {len W : Nat} {Z : State} {a0 : Array Value} {h : Heap} (hZ : Z.Warmed39 s.vm) (hw : ∀ d ∈ words, d.before a0 Z = true) {kI : Nat} (wi : (Jvm.Cond.instantiable ST kI).before a0 Z = true)
    {x b : Addr} {kC : ClassId} {cs bs : List Int32} {d v0 c0 : Value} {z N : Int32} {n n0 : Nat} (hx0 : n0 ≤ x) (hh0 : n0 ≤ h.size) (E : RoadKit.Exa Z h x ST) (V : RoadKit.Fld Z h x ST "value" "[B" v0) (C : RoadKit.Fld Z h x ST "coder" "B" c0) (K : RoadKit.Arv Z h b kC .char N (cs.map Value.int) d) (S : RoadKit.Sta Z h ST "COMPACT_STRINGS" "Z" (.int z)) (hz : ¬ z = 0)
    (hn : cs.length = n) (hN : N = Int32.ofNat n) (l0 : 0 < n) (l2 : n ≤ 4000) (hp : ∀ c ∈ cs, ¬ c < 0 ∧ ¬ (255 : Int32) < c) (hb : bs = cs.map (fun c => c.toInt8.toInt32)) (hfr : 4 ≤ R.frames) (hlo : W + 65 ≤ R.locals) :
    Back l R p e below s args (⟨"java/lang/String", "<init>", "([C)V"⟩ : MethodName) len W (fun P a => a = #[.ref x, .ref b] ∧ P.U.heap = h ∧ P.cells + 1 ≤ R.cells ∧ P.slots + n ≤ R.slots)
      (fun P _ v B => ∃ L, QV Z x N bs h n0 v B.U.heap L ∧ B.locs = P.locs ++ L ∧ B.cells = P.cells + 1 ∧ B.slots = P.slots + n) := by
  subst hn hN hb
  refine Back.mono (backArv hZ hw wi E V C K S hz (n32 (by omega)) l0 (by omega) (fun c hc => (hp c hc).2) hfr hlo) (fun P a hp => hp) (fun P a v B hp hq => ?_)
  obtain ⟨L, ⟨q1, q2, q3, q4, q5, q6, q7, ⟨kb, v1, v2⟩, q9⟩, hl, hc, hs⟩ := hq
  exact ⟨L, ⟨q1, fun y hy => by rw [q2 y hy]; exact hx0, q3, q5, q7, h.size, kb, hh0, Nat.le_refl _, Nat.ne_of_gt E.lt, q6, by rw [List.map_map]; exact v2⟩, hl, hc, hs⟩
end StrChars.Road
end Jvm.Pilot.@@N@@
namespace Jvm.Pilot.@@N@@
open Jvm Jvm.ClassFile Sem Op Lib Jvm.Free Jvm.Stand Jvm.LawKit Jvm.RoadKit Bundle Jvm.Pilot.@@N@@.Jvm.D
namespace Wd
section Strs
variable {p : Program} {l : Launch} {e : Env} {R : Room} {s : State} {args : Array Value} {below : List Frame} {Z : State} {EL : List (String × Nat)} {n0 : Nat} {h h' : Heap} {WL FL : List Addr} {a0 : Array Value} {len W : Nat} {x t : Addr} {cs : List Int32}
abbrev lat (cs : List Int32) : List Value := (cs.map fun c => c.toInt8.toInt32).map Value.int
/-- x is a String of the chars cs, each at most 255; t its bytes -/
def StrL (Z : State) (h : Heap) (x t : Addr) (cs : List Int32) : Prop :=
  Exa Z h x "java/lang/String" ∧ Fld Z h x "java/lang/String" "value" "[B" (.ref t) ∧ Fld Z h x "java/lang/String" "coder" "B" (.int 0) ∧ (∃ kb, Arv Z h t kb .byte (Int32.ofNat cs.length) (lat cs) (.int 0)) ∧ (∀ c ∈ cs, ¬ c < 0 ∧ ¬ (255 : Int32) < c) ∧ cs.length ≤ 4000
theorem StrL.ext (S : StrL Z h x t cs) (E : Ext h h') : StrL Z h' x t cs := by
  obtain ⟨s1, s2, s3, ⟨kb, s4⟩, s5⟩ := S; exact ⟨s1.ext E, s2.ext E, s3.ext E, ⟨kb, s4.ext E⟩, s5⟩
theorem StrL.keep {ws : List Addr} (S : StrL Z h x t cs) (K : Keep h h' ws) (h1 : x ∉ ws) (h2 : t ∉ ws) : StrL Z h' x t cs := by
  obtain ⟨s1, s2, s3, ⟨kb, s4⟩, s5⟩ := S; exact ⟨s1.keep K, s2.keep K h1, s3.keep K h1, ⟨kb, s4.keep K h2⟩, s5⟩
theorem StrL.wr {a : Addr} {sl : Nat} {v : Value} (S : StrL Z h x t cs) (W : Wr h h' a sl v) (h1 : x ≠ a) (h2 : t ≠ a) : StrL Z h' x t cs := by
  obtain ⟨s1, s2, s3, ⟨kb, s4⟩, s5⟩ := S; exact ⟨s1.wr W, s2.other W (Or.inl h1), s3.other W (Or.inl h1), ⟨kb, s4.other W h2⟩, s5⟩
/-- what new String(chars) leaves -/
def QNew (Z : State) (x : Addr) (cs : List Int32) (h : Heap) (v : Option Value) (h' : Heap) (WL' FL' : List Addr) : Prop := ∃ t : Addr, v = none ∧ WL' = [] ∧ FL' = [t] ∧ Keep h h' [x] ∧ StrL Z h' x t cs
theorem pay_new (hw : ∀ d ∈ StrChars.Road.words, d.before a0 Z = true) {kI : Nat} (wi : (Jvm.Cond.instantiable "java/lang/String" kI).before a0 Z = true) {b : Addr} {kC : ClassId} {d v0 c0 : Value} {z N : Int32} {n : Nat} (ge : n0 ≤ x) (ge' : n0 ≤ h.size) (hx : x ∈ WL) (E : Exa Z h x "java/lang/String") (V : Fld Z h x "java/lang/String" "value" "[B" v0) (C : Fld Z h x "java/lang/String" "coder" "B" c0) (A : Arv Z h b kC .char N (cs.map Value.int) d) (S : Sta Z h "java/lang/String" "COMPACT_STRINGS" "Z" (.int z)) (hz : ¬ z = 0)
    (hn : cs.length = n) (hN : N = Int32.ofNat n) (l0 : 0 < n) (l2 : n ≤ 4000) (hp : ∀ c ∈ cs, ¬ c < 0 ∧ ¬ (255 : Int32) < c) (hfr : 4 ≤ R.frames) (hlo : W + 65 ≤ R.locals) :
    Pay l R p e below s args Z EL n0 (⟨"java/lang/String", "<init>", "([C)V"⟩ : MethodName) len W #[.ref x, .ref b] h WL FL 1 n (QNew Z x cs h) :=
  Pay.ofN (fun vm0 hZ => StrChars.Road.backV (n0 := n0) hZ hw wi ge ge' E V C A S hz hn hN l0 l2 hp rfl hfr hlo) (fun v h' L ⟨q1, q2, q3, q4, q5, t, kb, q6, q7, q8, q9, q10⟩ => by
    refine ⟨q2, [x], [t], q3, allS hx all0, allS ⟨q7, q10.lt⟩ all0, t, q1, rfl, rfl, q3, q4, q9, q5, ⟨kb, ?_⟩, hp, by omega⟩
    rw [hN] at q10; rw [hn]; exact q10)
section Obj
variable {m : MethodId} {meth : Method} {c : Code} {T : State} {cells slots : Nat} {own : String} {WL0 FL0 : List Addr} {rm : Room} {Q : Option Value → Heap → List Addr → List Addr → Prop} {pc : Nat} {Ls : Array Slot} {rest : List Value}
theorem WS.newR (X : WS p l e R s m args below meth c Z EL n0 own T h WL FL cells slots) (hx : p.tables.exec = Jvm.exec) {C : String} {index : Nat} (w1 : (Jvm.Cond.classLink own index C).before a0 Z = true) (w2 : (Jvm.Cond.arrayOver (.object C)).before a0 Z = true) {n : Int32} (hd : decode c.code pc = .ok (.anewarray index, 3))
    (hn : ¬ n < 0) {cap : Nat} (hcap : n.toNatClampNeg ≤ cap) (hb : cap * 8 ≤ 536870912) (hc : cells + 1 ≤ R.cells) (hl : slots + cap ≤ R.slots) {ad : String} (had : "[" ++ (FieldType.object C).toString = ad)
    (k : ∀ T' h' a ka, WS p l e R s m args below meth c Z EL n0 own T' h' (a :: WL) FL (cells + 1) (slots + cap) → Ext h h' → h.size ≤ a → Arv Z h' a ka (.object C) n [] .null → Exa Z h' a ad → Wo p e s below Z EL n0 WL0 FL0 rm Q T' (mkF m (pc + 3) Ls (.ref a :: rest))) :
    Wo p e s below Z EL n0 WL0 FL0 rm Q T (mkF m pc Ls (.int n :: rest)) := by
  obtain ⟨vm0, k0, locs, X, eT, hS, hk, hZ, hown, N, I⟩ := X
  obtain ⟨T', h', cA, X', eT', E, A, Ex, -, st⟩ := RoadKit.newRE X hx hZ hown w1 w2 eT (g := mkF m pc Ls (.int n :: rest)) rfl hd rfl hn hcap hb hc hl had
  exact Wo.by st (k T' h' h.size cA ⟨vm0, k0, _, X', eT', hS, Nat.le_trans hk E.1, hZ, hown, N, I.new E A.lt⟩ E (Nat.le_refl _) (Arv.new A hn) Ex)
/-- a cell of ours is none of the start's -/
theorem WS.neZ {a v : Addr} {C : String} (X : WS p l e R s m args below meth c Z EL n0 own T h WL FL cells slots) (ha : a ∈ WL) (E : Exa Z Z.heap v C) : a ≠ v := by
  have h1 := X.ge ha; have h2 := E.lt; have h3 := X.old.1
  intro q; subst q; rw [h3] at h2; exact Nat.lt_irrefl _ (Nat.lt_of_lt_of_le h2 h1)
/-- an object may lie in an array of its class -/
theorem stoE {a y : Addr} {ka : ClassId} {C ad : String} {N : Int32} {vs : List Value} {dv : Value} (A : Arv Z h a ka (.object C) N vs dv) (E : Exa Z h a ad) (w : (Jvm.Cond.arrayOver (.object C)).before a0 Z = true) (had : "[" ++ (FieldType.object C).toString = ad) (I : Ins Z h y C true) : Sto Z h a (.ref y) := by
  obtain ⟨cl, A1, -⟩ := A
  obtain ⟨cell, k, e1, e2, e3, -⟩ := E
  obtain ⟨comp, cc, kk, o1, -, o2, o3, o4⟩ := Cond.arrayOver_spec w
  subst had
  cases A1.1.symm.trans e1
  cases e2.symm.trans o4
  exact Sto.of A1 ⟨kk, comp, o2, o3, o1⟩ I
theorem WS.stR (X : WS p l e R s m args below meth c Z EL n0 own T h WL FL cells slots) (hx : p.tables.exec = Jvm.exec) {a : Addr} {ka : ClassId} {C : String} {N : Int32} {vs : List Value} {dv : Value} (A : Arv Z h a ka (.object C) N vs dv) {j : Int32} {v : Value} {i : Nat} (hj : ¬ j < 0 ∧ j < N) (hi : j.toNatClampNeg = i) (hl : i < vs.length) (hv : v.isRef = true) (F : Sto Z h a v) (ha : a ∈ WL)
    (hd : decode c.code pc = .ok (.aastore, 1)) (k : ∀ T' h', WS p l e R s m args below meth c Z EL n0 own T' h' WL FL cells slots → Wr h h' a j.toNatClampNeg v → Arv Z h' a ka (.object C) N (vs.set i v) dv → Wo p e s below Z EL n0 WL0 FL0 rm Q T' (mkF m (pc + 1) Ls rest)) :
    Wo p e s below Z EL n0 WL0 FL0 rm Q T (mkF m pc Ls (v :: .int j :: .ref a :: rest)) := by
  obtain ⟨vm0, k0, locs, X, eT, hS, hk, hZ, hown, N, I⟩ := X
  obtain ⟨cl, A1, A2, A3, A4, A5, A6⟩ := A
  obtain ⟨T', h', X', eT', W, st⟩ := RoadKit.stR X hx hZ eT A1 (inb_of A3 hj) rfl F (g := mkF m pc Ls (v :: .int j :: .ref a :: rest)) rfl rfl hd
  exact Wo.by st (k T' h' ⟨vm0, k0, _, X', eT', hS, by rw [W.size]; exact hk, hZ, hown, Fr.snoc X' N (I.ge ha), I.wr W ha⟩ W (Arv.set A1 A2 A3 A4 A5 A6 (by rcases ref_cases hv with rfl | ⟨_, rfl⟩ <;> rfl) W i hi hl))
theorem WS.ldR (X : WS p l e R s m args below meth c Z EL n0 own T h WL FL cells slots) (hx : p.tables.exec = Jvm.exec) {a : Addr} {ka : ClassId} {C : String} {N : Int32} {vs : List Value} {dv : Value} (A : Arv Z h a ka (.object C) N vs dv) {j : Int32} {v : Value} (hj : ¬ j < 0 ∧ j < N) (hv : vs.getD j.toNatClampNeg dv = v) (hd : decode c.code pc = .ok (.aaload, 1))
    (k : Wo p e s below Z EL n0 WL0 FL0 rm Q T (mkF m (pc + 1) Ls (v :: rest))) : Wo p e s below Z EL n0 WL0 FL0 rm Q T (mkF m pc Ls (.int j :: .ref a :: rest)) := by
  obtain ⟨vm0, k0, locs, X, eT, hS, hk, hZ, hown, N, I⟩ := X
  obtain ⟨cl, A1, A2, A3, A4, A5, -⟩ := A
  exact Wo.by (fun t q => X.aaload hx (by rw [eT]; exact A1.1) (State.isArrayOf_alike hZ.alike A1.2.1) rfl A1.2.2 (inb_of A3 hj) (A5.at (inb_of A3 hj) hv) (g := mkF m pc Ls (.int j :: .ref a :: rest)) rfl rfl hd t q) k
/-- K is a class, not in C's chain -/
def NI (Z : State) (C K : String) : Prop := ∃ cC t, Z.vm.findClass C = some cC ∧ Z.vm.findClass K = some t ∧ Z.vm.assignable cC t = false
theorem WS.instNo (X : WS p l e R s m args below meth c Z EL n0 own T h WL FL cells slots) (hx : p.tables.exec = Jvm.exec) {C K : String} {index : Nat} (w : (Jvm.Cond.classLink own index K).before a0 Z = true) {a : Addr} (E : Exa Z h a C) (F : NI Z C K) (hd : decode c.code pc = .ok (.instanceof index, 3))
    (k : ∀ T', WS p l e R s m args below meth c Z EL n0 own T' h WL FL cells slots → Wo p e s below Z EL n0 WL0 FL0 rm Q T' (mkF m (pc + 3) Ls (.int 0 :: rest))) : Wo p e s below Z EL n0 WL0 FL0 rm Q T (mkF m pc Ls (.ref a :: rest)) := by
  obtain ⟨vm0, k0, locs, X, eT, hS, hk, hZ, hown, N, I⟩ := X
  obtain ⟨T', X', eT', st⟩ := RoadKit.instNo X hx hZ hown w eT E F (g := mkF m pc Ls (.ref a :: rest)) rfl rfl hd
  exact Wo.by st (k T' ⟨vm0, k0, _, X', eT', hS, hk, hZ, hown, N, I⟩)
theorem NS.top {O K : String} {t : ClassId} (w : (Jvm.Cond.noSuperclass O).before a0 Z = true) (g1 : Z.vm.findClass K = some t) (hn : O ≠ K) : NS Z O K := by
  obtain ⟨c, k, h1, h2, h3, -, -⟩ := Cond.noSuperclass_spec w
  have ne := ids_ne h1 g1 hn
  refine ⟨c, t, h1, g1, fun fuel => ?_⟩
  cases fuel with
  | zero => rfl
  | succ f => simp [Vm.isSubclassAux, ne, h2, h3]
theorem NI.of {C S K : String} {t : ClassId} {k' : Class} (w : (Jvm.Cond.superclass C S).before a0 Z = true) (n : NS Z C K) (hn : C ≠ K) (g0 : Z.vm.findClass K = some t) (g2 : Z.vm.classes[t]? = some k') (g5 : k'.kind = .ordinary) (g7 : k'.isInterface = false) : NI Z C K := by
  obtain ⟨c, t', h0, g0', n3⟩ := n
  cases g0.symm.trans g0'
  obtain ⟨p, k, kp, h1, h2, h3, h4, h5, -, h7⟩ := Cond.superclass_spec h0 w
  have ne := ids_ne h0 g0 hn
  refine ⟨c, t, h0, g0, ?_⟩
  show Z.vm.assignableAux (255 + 1) c t = false
  simp [Vm.assignableAux, ne, h2, g2, h5, g5, g7, Vm.isSubclass, n3]
/-- the Class object of the class C -/
def MM (Z : State) (C : String) (mr : Addr) : Prop := ∃ (cC : ClassId) (k : Class), Z.vm.findClass C = some cC ∧ Z.vm.classes[cC]? = some k ∧ k.mirror = some mr
theorem WS.gcV (X : WS p l e R s m args below meth c Z EL n0 own T h WL FL cells slots) (hx : p.tables.exec = Jvm.exec) {C : String} {index : Nat} (w1 : (Jvm.Cond.methodLink own index Jvm.Stand.gcN).before a0 Z = true) (w2 : (Jvm.Cond.declares Jvm.Stand.gcN).before a0 Z = true) (w3 : (Jvm.Cond.noSuperclass "java/lang/Object").before a0 Z = true) (w4 : (Jvm.Cond.selects C Jvm.Stand.gcN Jvm.Stand.gcN).before a0 Z = true) (w5 : (Jvm.Cond.instanceMethod Jvm.Stand.gcN).before a0 Z = true) (w6 : (Jvm.Cond.native Jvm.Stand.gcN).before a0 Z = true)
    {a mr : Addr} (E : Exa Z h a C) (M : MM Z C mr) (hsize : Ls.size = c.maxLocals) (hd : decode c.code pc = .ok (.invokevirtual index, 3)) (hf : 1 ≤ R.frames) {W : Nat} (hW : (rest.map fun v => v.category).sum ≤ W) (hl : W + 14 ≤ R.locals)
    (k : ∀ T', WS p l e R s m args below meth c Z EL n0 own T' h WL FL cells slots → Wo p e s below Z EL n0 WL0 FL0 rm Q T' (mkF m (pc + 3) Ls (.ref mr :: rest))) : Wo p e s below Z EL n0 WL0 FL0 rm Q T (mkF m pc Ls (.ref a :: rest)) := by
  obtain ⟨vm0, k0, locs, X, eT, hS, hk, hZ, hown, N, I⟩ := X
  obtain ⟨cB, kB, i1, i2, i3⟩ := isOf (s := s.setVm vm0) hZ eT E
  obtain ⟨cc, kc, m1, m2, m3⟩ := M
  have i1 : Z.vm.findClass C = some cB := by rw [← hZ.alike.findClass]; exact i1
  cases i1.symm.trans m1
  obtain ⟨k', q, ek⟩ := hZ.alike.2.2 _ _ m2
  obtain ⟨vm', X', st⟩ := X.getClassOf hx hown (mvT hZ w1) (mvT hZ w2) (nf_top (args := #[]) (mvT hZ w3)) (mvT hZ w4) (mvT hZ w5) (mvT hZ w6) ((hZ.alike.findClass _ _).trans m1) i3 q (by rw [ek]; exact m3) (g := mkF m pc Ls (.ref a :: rest)) rfl hsize rfl hd hf (by rw [show nativeFrameWords "java/lang/Object" "getClass" 1 = 3 by decide]; show 2 * 0 + _ + _ ≤ _; omega)
  exact Wo.by st (k _ ⟨vm0, k0, _, X', eT, hS, hk, hZ, hown, N, I⟩)
theorem WS.ldcK (X : WS p l e R s m args below meth c Z EL n0 own T h WL FL cells slots) (hx : p.tables.exec = Jvm.exec) {C : String} {index : Nat} (w : (Jvm.Cond.classLink own index C).before a0 Z = true) {mr : Addr} (M : MM Z C mr) (hd : decode c.code pc = .ok (.ldc index, 2))
    (k : ∀ T', WS p l e R s m args below meth c Z EL n0 own T' h WL FL cells slots → Wo p e s below Z EL n0 WL0 FL0 rm Q T' (mkF m (pc + 2) Ls (.ref mr :: rest))) : Wo p e s below Z EL n0 WL0 FL0 rm Q T (mkF m pc Ls rest) := by
  obtain ⟨vm0, k0, locs, X, eT, hS, hk, hZ, hown, N, I⟩ := X
  obtain ⟨cc, kc, m1, m2, m3⟩ := M
  obtain ⟨k', q, ek⟩ := hZ.alike.2.2 _ _ m2
  obtain ⟨vm', X', st⟩ := X.ldcMirror hx hown (mvT hZ w) (a := mr) (by
    have f0 : vm0.findClass C = some cc := (hZ.alike.findClass _ _).trans m1
    have m4 : k'.mirror = some mr := by rw [ek]; exact m3
    simp [Term.eval, f0, q, m4]) (g := mkF m pc Ls rest) rfl hd
  exact Wo.by st (k _ ⟨vm0, k0, _, X', eT, hS, hk, hZ, hown, N, I⟩)
theorem WS.tsw (X : WS p l e R s m args below meth c Z EL n0 own T h WL FL cells slots) (hx : p.tables.exec = Jvm.exec) {dflt low high : Int} {offs : Array Int} {len : Nat} {o : Int} {pc' : Nat} {i : Int32} (hd : decode c.code pc = .ok (.tableswitch dflt low high offs, len)) (hin : ¬ (i.toInt < low ∨ i.toInt > high)) (hoff : offs[(i.toInt - low).toNat]? = some o) (ho : 0 ≤ (pc : Int) + o) (hp : ((pc : Int) + o).toNat = pc')
    (k : Wo p e s below Z EL n0 WL0 FL0 rm Q T (mkF m pc' Ls rest)) : Wo p e s below Z EL n0 WL0 FL0 rm Q T (mkF m pc Ls (.int i :: rest)) := by
  have H := X.here
  exact Wo.by (fun t q => XS.tswIn H hx rfl rfl hd rfl hin hoff ho hp (g := mkF m pc Ls (.int i :: rest)) q) k
theorem WS.tswO (X : WS p l e R s m args below meth c Z EL n0 own T h WL FL cells slots) (hx : p.tables.exec = Jvm.exec) {dflt low high : Int} {offs : Array Int} {len : Nat} {pc' : Nat} {i : Int32} (hd : decode c.code pc = .ok (.tableswitch dflt low high offs, len)) (hin : i.toInt < low ∨ i.toInt > high) (ho : 0 ≤ (pc : Int) + dflt) (hp : ((pc : Int) + dflt).toNat = pc')
    (k : Wo p e s below Z EL n0 WL0 FL0 rm Q T (mkF m pc' Ls rest)) : Wo p e s below Z EL n0 WL0 FL0 rm Q T (mkF m pc Ls (.int i :: rest)) := by
  have H := X.here
  exact Wo.by (fun t q => XS.tswOut H hx rfl rfl hd rfl hin ho hp (g := mkF m pc Ls (.int i :: rest)) q) k
theorem WS.getS2 (X : WS p l e R s m args below meth c Z EL n0 own T h WL FL cells slots) (hx : p.tables.exec = Jvm.exec) {R0 O n d host : String} {index : Nat} (w : (Jvm.Cond.fieldLink own index R0 n d).before a0 Z = true ∨ (Jvm.Cond.fieldLinkNest own index R0 n d host).before a0 Z = true) (via : Via Z R0 O n d) {v : Value} (F : Sta Z Z.heap O n d v)
    (hd : decode c.code pc = .ok (.getstatic index, 3)) (k : ∀ T', WS p l e R s m args below meth c Z EL n0 own T' h WL FL cells slots → Wo p e s below Z EL n0 WL0 FL0 rm Q T' (mkF m (pc + 3) Ls (v :: rest))) :
    Wo p e s below Z EL n0 WL0 FL0 rm Q T (mkF m pc Ls rest) := by
  have F' := X.sta F
  obtain ⟨vm0, k0, locs, X, eT, hS, hk, hZ, hown, N, I⟩ := X
  obtain ⟨T', X', eT', st⟩ := RoadKit.getS2 X hx hZ hown w via eT F' (g := mkF m pc Ls rest) rfl hd
  exact Wo.by st (k T' ⟨vm0, k0, locs, X', eT', hS, hk, hZ, hown, N, I⟩)
/-- a constructor of a class of the nest -/
theorem WS.callN {host : String} {index : Nat} {y : MethodName} {bytes : ByteArray} {maxL : Nat} {W k n : Nat} {as' : Array Value} {Qc : Option Value → Heap → List Addr → List Addr → Prop} {argsL : List Value} {st : List Value} (X : WS p l e R s m args below meth c Z EL n0 own T h WL FL cells slots) (hx : p.tables.exec = Jvm.exec) (hi : y.name = "<init>") (w1 : (Jvm.Cond.methodLinkNest own index y host).before a0 Z = true) (w2 : (Jvm.Cond.instanceMethod y).before a0 Z = true) (w4 : (Jvm.Cond.code y bytes maxL none).before a0 Z = true) (hy : y.cls ≠ "java/lang/invoke/MethodHandle" ∧ y.cls ≠ "java/lang/invoke/VarHandle")
    {a : Addr} (hP : Pay l R p e below s args Z EL n0 y 3 W as' h WL FL k n Qc) (hsize : Ls.size = c.maxLocals) (hlen : ∀ sig, parseMethodDescriptor y.desc = some sig → argsL.length = sig.parameters.length) (hst : st = argsL.reverse ++ .ref a :: rest) (has : (Value.ref a :: argsL).toArray = as') (hW : (rest.map fun v => v.category).sum ≤ W)
    (hd : decode c.code pc = .ok (.invokespecial index, 3)) (hc : cells + k ≤ R.cells) (hl : slots + n ≤ R.slots)
    (kk : ∀ T' h' v WL' FL', WS p l e R s m args below meth c Z EL n0 own T' h' (WL' ++ WL) (FL' ++ FL) (cells + k) (slots + n) → Qc v h' WL' FL' → Wo p e s below Z EL n0 WL0 FL0 rm Q T' (mkF m (pc + 3) Ls (v.toList ++ rest))) :
    Wo p e s below Z EL n0 WL0 FL0 rm Q T (mkF m pc Ls st) := by
  obtain ⟨vm0, k0, locs, X, eT, hS, hk, hZ, hown, N, I⟩ := X
  have w1' : (Jvm.Cond.methodLinkNest own index y host).before args (s.setVm vm0) = true := by
    have q := Cond.methodLinkNest_wide hZ w1
    simp only [Jvm.Cond.before, Jvm.Cond.holds, Jvm.Cond.value] at q ⊢
    exact q
  obtain ⟨v, vm₁, B, -, X', hS', hgr, ⟨L, WL', FL', q, N', q2, q3, q4, I'⟩, stp⟩ := X.specialBackNestS hx hi hown w1' (mv hZ w2) (mv hZ w4) hy (hP vm0 hZ I) (g := mkF m pc Ls st) rfl hsize (Steps.refl _) hlen hst (by show 2 * 0 + _ ≤ _; omega) hd (fun _ _ => ⟨has, eT, hc, hl⟩)
  exact Wo.by (fun t r => stp.trans r) (kk B.U _ v WL' FL' (WS.back hS (by rw [eT]; exact hk) hZ hown N X' hS' hgr N' q2 q3 q4 I') q)
/-- ArrayList's chain of four -/
theorem NI.chain {C1 C2 C3 C4 K : String} {n : Nat} (w1 : (Jvm.Cond.superclass C1 C2).before a0 Z = true) (w2 : (Jvm.Cond.superclass C2 C3).before a0 Z = true) (w3 : (Jvm.Cond.superclass C3 C4).before a0 Z = true) (w4 : (Jvm.Cond.noSuperclass C4).before a0 Z = true) (wi : (Jvm.Cond.instantiable K n).before a0 Z = true) (hn : C1 ≠ K ∧ C2 ≠ K ∧ C3 ≠ K ∧ C4 ≠ K) : NI Z C1 K := by
  obtain ⟨t, k, g0, g2, g5, g7, -, -⟩ := Cond.instantiable_spec wi
  exact NI.of w1 (NS.step w1 (NS.step w2 (NS.step w3 (NS.top w4 g0 hn.2.2.2) hn.2.2.1) hn.2.1) hn.1) hn.1 g0 g2 g5 (Bool.or_eq_false_iff.mp g7).1
/-- an array of objects that the start holds, empty -/
theorem objStart {t : Term} {a : Addr} {C : String} (hF : Fit Z) (et : Term.eval a0 Z none [] Z t = some (.ref a)) (har : Cond.value a0 Z none Z [] (.arrayOf t (.object C)) = some true) (hlen : Cond.value a0 Z none Z [] (.eq (.length t) (.int (0 : Int32))) = some true) : ∃ k, Arv Z Z.heap a k (.object C) 0 [] .null := by
  obtain ⟨cl, A⟩ := Arr.start et har
  have hl := eqv_i (Term.int_eval (0)) hlen
  rw [Term.eval.eq_def] at hl
  simp only [et, Option.bind_eq_bind, Option.bind_some] at hl
  cases hA : Z.arrayAt? a with
  | none => rw [hA] at hl; simp at hl
  | some c2 =>
    rw [hA] at hl
    have e1 : Z.heap[a]? = some c2 := by
      have q := hA
      simp only [State.arrayAt?, Option.bind_eq_bind, Option.bind_eq_some_iff] at q
      obtain ⟨x, hx, r⟩ := q
      obtain ⟨kk, -, r⟩ := r
      split at r
      · cases r
      · split at r
        · cases r; exact hx
        · cases r
    cases A.1.symm.trans e1
    simp only [Option.bind_some] at hl
    split at hl
    · rename_i h2
      have q1 : cl.slots.size.toInt32 = 0 := Value.int.inj (Option.some.inj hl)
      exact ⟨_, Arv.start hF A h2 q1 (by decide) rfl trivial⟩
    · cases hl
end Obj
section Lam
open Jvm.LamKit
/-- a made class stays made where Strings were interned meanwhile -/
theorem made39 {Z : State} {vm' : Vm} (hW : Z.Warmed39 vm') {d cK : ClassId} {σ : Lambda.Shape} (h : Lambda.isMade { classPath := fun _ => none } Z.vm d σ cK = true) : Lambda.isMade { classPath := fun _ => none } vm' d σ cK = true := by
  have hA := hW.alike
  simp only [Lambda.isMade, Option.bind_eq_bind, Option.pure_def, Option.getD_eq_iff, Option.bind_eq_some_iff, Bool.false_eq_true, and_false, or_false] at h ⊢
  obtain ⟨dk, h2, k, h3, file, h4, cf, h5, object, ho, iface, hi, ok, h6, lay, h7, methods, h8, t, ht, tk, htk, h⟩ := h
  obtain ⟨dk', h2', e2⟩ := hA.2.2 _ _ h2
  obtain ⟨k', h3', e3, -, hres, -⟩ := hW.2.2.2 _ _ h3
  obtain ⟨ok', h6', e6⟩ := hA.2.2 _ _ h6
  obtain ⟨tk', htk', e7⟩ := hA.2.2 _ _ htk
  have n2 : dk'.name = dk.name := by rw [e2]
  have n6 : ok'.instanceTypes = ok.instanceTypes := by rw [e6]
  have n7 : tk'.isInterface = tk.isInterface := by rw [e7]; rfl
  refine ⟨dk', h2', k', h3', file, by rw [e3]; exact h4, cf, by rw [n2]; exact h5, object, by rw [hA.findClass]; exact ho, iface, by rw [hA.findClass]; exact hi, ok', h6', lay, by rw [n6]; exact h7, methods, h8, t, by rw [hA.findClass]; exact ht, tk', htk', ?_⟩
  rw [n7, Lambda.methodIn_ask_alike hA, Lambda.methodIn_ask_alike hA]
  cases hg : ((methodIn t σ.implName σ.implDesc.toString tk.isInterface none).ask { classPath := fun _ => none } Z.vm).1 with
  | error x => simp [hg] at h
  | ok target =>
    cases hf : ((methodIn iface σ.name σ.sam.toString true none).ask { classPath := fun _ => none } Z.vm).1 with
    | error x => simp [hg, hf] at h
    | ok found =>
      simp only [hg, hf, Option.some.injEq, Bool.and_eq_true] at h ⊢
      obtain ⟨⟨h, b13⟩, b14⟩ := h
      rw [n2, n6, Lambda.resolvedOf_alike hA, hA.selectMethod]
      refine ⟨⟨?_, ?_⟩, ?_⟩
      · rw [e3]; exact h
      · rw [List.all_eq_true] at b13 ⊢
        intro y hy
        have := b13 y hy
        obtain ⟨x, i⟩ := y
        cases x with
        | none => rfl
        | some r =>
          simp only [Option.isNone_some, Bool.false_or, decide_eq_true_eq] at this ⊢
          rcases hres i with h1 | ⟨h1, -⟩
          · rw [h1]; exact this
          · rw [this] at h1; cases h1
      · exact b14
theorem Made39 {Z s : State} {vm' : Vm} (hZ : Z.Warmed39 vm') {host : String} {σ : Lambda.Shape} {cK : ClassId} (M : LamKit.Made Z host σ cK) : LamKit.Made (s.setVm vm') host σ cK := by
  obtain ⟨d, dk, h1, h2, h3, h4⟩ := M
  obtain ⟨dk', h1', e1⟩ := hZ.alike.2.2 _ _ h1
  refine ⟨d, dk', h1', by rw [e1]; exact h2, made39 hZ h3, ?_⟩
  have hA := hZ.alike
  simp only [State.lambdaCallable, State.vm_setVm, hA.findClass, hA.assignable, hA.superclasses, hA.declaredIn] at h4 ⊢
  exact h4
/-- the function object f of the shape σ, which holds b -/
def LamO (Z : State) (h : Heap) (f b : Addr) (host : String) (σ : Lambda.Shape) : Prop := ∃ (cK : ClassId) (cell : Cell), LamKit.Made Z host σ cK ∧ h[f]? = some cell ∧ cell.cls = cK ∧ cell.vm = .none ∧ cell.slots = #[.ref b]
theorem LamO.ext {Z : State} {h h' : Heap} {f b : Addr} {host : String} {σ : Lambda.Shape} (F : LamO Z h f b host σ) (E : Ext h h') : LamO Z h' f b host σ := by
  obtain ⟨cK, cell, h1, h2, r⟩ := F; exact ⟨cK, cell, h1, E.2 _ _ h2, r⟩
theorem LamO.keep {Z : State} {h h' : Heap} {f b : Addr} {host : String} {σ : Lambda.Shape} {ws : List Addr} (F : LamO Z h f b host σ) (K : Keep h h' ws) (q : f ∉ ws) : LamO Z h' f b host σ := by
  obtain ⟨cK, cell, h1, h2, r⟩ := F; exact ⟨cK, cell, h1, K.2.1 f cell h2 q, r⟩
theorem LamO.wr {Z : State} {h h' : Heap} {f b a : Addr} {host : String} {σ : Lambda.Shape} {sl : Nat} {v : Value} (F : LamO Z h f b host σ) (W : Wr h h' a sl v) (q : f ≠ a) : LamO Z h' f b host σ := F.keep (Keep.of_wr W) (ninS q nin0)
theorem Ct.ofN {y : MethodName} {bytes : ByteArray} {maxL : Nat} {ret : Option FieldType} {as' : Array Value} {rm : Room} {Q : Option Value → Heap → List Addr → List Addr → Prop} (hy : plainFor y = true)
    (body : ∀ p e s m below meth c s₁, p.tables.exec = Jvm.exec → c.code = bytes → c.maxLocals = maxL → meth.name = y.name → meth.sig.returnType = ret → meth.locks = false → Z.methodNamed? y = some m →
      WS p l e rm s m as' below meth c Z EL n0 y.cls s₁ h WL FL 0 0 → Wo p e s below Z EL n0 WL FL rm Q s₁ (entryFrame m as' maxL)) :
    Ct l Z EL n0 y bytes maxL ret rm as' h WL FL Q := by
  intro ws
  refine MetFree.of_bodySF hy hisR ?_
  intro p e s m args below meth c s₁ Bd hml hP _
  obtain ⟨rfl, hZ, hh, I⟩ := hP
  have e0 : s₁.heap = h := by rw [← hh, Bd.state]; rfl
  have hnd : Z.methodNamed? y = some m := (State.methodNamed?_setVm (s := Z) hZ.alike y).symm.trans (show (Z.setVm s.vm).methodNamed? y = some m from Bd.named)
  obtain ⟨s₂, o, h1, h2, h3, h4⟩ := body p e s m below meth c s₁ Bd.exec Bd.bytes hml (name_of_methodNamed Bd.named Bd.method).1 Bd.returns (BodyLoose.notSynchronized Bd) hnd
    ⟨s.vm, h.size, [], Stand.of_body Bd, e0, (State.WarmedH.refl s).since _, Nat.le_refl _, hZ, findClass_of_methodNamed Bd.named, Fr.nil n0, I⟩
  exact ⟨s₂, o, h1, h2, h3, h4⟩
variable {m : MethodId} {meth : Method} {c : Code} {T : State} {cells slots : Nat} {own : String} {WL0 FL0 : List Addr} {rm : Room} {Q : Option Value → Heap → List Addr → List Addr → Prop} {pc : Nat} {Ls : Array Slot} {rest : List Value}
theorem WS.lamMake (X : WS p l e R s m args below meth c Z EL n0 own T h WL FL cells slots) (hx : p.tables.exec = Jvm.exec) {x : MethodName} {index fi : Nat} {σ : Lambda.Shape} {C : String} (w : (Jvm.Cond.lambdaSite x pc index σ).before a0 Z = true) (hnd : Z.methodNamed? x = some m) (hcap : σ.captured = [.object C]) (hok : capOK σ x.cls fi 0 = true) (hO : (Jvm.Cond.instantiable "java/lang/Object" 0).before a0 Z = true)
    {b : Addr} (hsize : Ls.size = c.maxLocals) (hd : decode c.code pc = .ok (.invokedynamic index, 5)) {W : Nat} (hW : (rest.map fun v => v.category).sum ≤ W) (hlo : W + 3073 ≤ R.locals) (hc : cells + 1 ≤ R.cells) (hl : slots + 1 ≤ R.slots)
    (k : ∀ T' h' f, WS p l e R s m args below meth c Z EL n0 own T' h' (f :: WL) FL (cells + 1) (slots + 1) → Ext h h' → h.size ≤ f → LamO Z h' f b x.cls σ → Wo p e s below Z EL n0 WL0 FL0 rm Q T' (mkF m (pc + 5) Ls (.ref f :: rest))) :
    Wo p e s below Z EL n0 WL0 FL0 rm Q T (mkF m pc Ls (.ref b :: rest)) := by
  obtain ⟨vm0, k0, locs, X, eT, hS, hk, hZ, hown, N, I⟩ := X
  obtain ⟨cK, one, hat⟩ := Cond.lambdaSite_spec w
  obtain ⟨mD, kD, cfD, i0, p0, lk, hmD, hkD, hcfD, hsh, -, hfind, hmade, hcan, hl4⟩ := State.lambdaAt?_spec hat
  cases hnd.symm.trans hmD
  obtain ⟨kD2, hkD2, hnameD⟩ := className_of_methodNamed hnd
  cases hkD.symm.trans hkD2
  rcases hl4 with ⟨a, cell, -, -, hc0, -⟩ | ⟨rfl, -, -⟩
  · rw [hcap] at hc0; cases hc0
  obtain ⟨b1, nt, desc, site, h1, h2, h3, h4⟩ := Lambda.shapeOf?_site hsh
  obtain ⟨kc, f, hkc, hkind, hty, -⟩ := made_cap hok hkD hnameD hmade (noFields hO (State.WarmedH.refl Z))
  obtain ⟨kD', hkD', eD⟩ := hZ.alike.2.2 _ _ hkD
  obtain ⟨kc', hkc', ec⟩ := hZ.alike.2.2 _ _ hkc
  have hty' : kc'.instanceTypes = σ.captured.toArray := by rw [ec]; exact hty
  have hkind' : kc'.kind = .ordinary := by rw [ec]; exact hkind
  have hz : ((kc'.instanceTypes.toList.zip [Value.ref b]).map fun (t, v) => narrow t v) = [.ref b] := by rw [hty', hcap]; rfl
  have hw : e.platform.lambdaLinkWords = 3072 := by rw [X.admits.platform]
  have q := X.lambdaMakes hx (g := mkF m pc Ls (.ref b :: rest)) rfl hsize hd (vals := [.ref b]) (rest := rest) (s := s.setVm vm0) hkD' (by rw [eD]; exact hfind) (by rw [eD]; exact hcfD) h1 h2 (parseLong_of_parse h3) (by rw [h4, hcap]; rfl) rfl hkc' (by rw [hw]; show 2 * 0 + (1 + (rest.map fun v => v.category).sum) + 3072 ≤ _; omega) hc (by rw [hz]; exact hl)
    (fun i v hv => by
      rw [hz] at hv
      match i, hv with
      | 0, hv => cases hv; simp [State.fitsSlot, State.slotType?, hkc', hkind', hty', hcap, fits]
      | i + 1, hv => simp at hv)
  rw [hz] at q
  obtain ⟨X', st⟩ := q
  subst eT
  have E : Ext T.heap (T.heap.push { cls := cK, slots := #[.ref b], vm := .none }) := ext_of fun a q => (Array.getElem?_push_lt q).trans (Array.getElem?_eq_getElem q).symm
  refine Wo.by st (k _ (T.heap.push { cls := cK, slots := #[.ref b], vm := .none }) T.heap.size ⟨vm0, k0, _, X', rfl, hS, Nat.le_trans hk E.1, hZ, hown, N, I.new E (by simp)⟩ E (Nat.le_refl _) ⟨cK, { cls := cK, slots := #[.ref b], vm := .none }, ⟨_, kD, hkD, hnameD, hmade, hcan⟩, by simp, rfl, rfl, rfl⟩)
/-- the made class's entry cj names the class called nm -/
def clsOK (σ : Lambda.Shape) (host : String) (cj : Nat) (nm : String) : Bool :=
  match σ.file host with
  | none => false
  | some D => match D.constantPool[cj]? with
    | some (.class_ n) => decide (D.constantPool.string? n = some nm) && decide (cj ≠ D.thisClass)
    | _ => false
theorem made_class {st : Setting} {vm : Vm} {d cK : ClassId} {dk : Class} {σ : Lambda.Shape} {host nm : String} {cj : Nat} {cc : ClassId} (hok : clsOK σ host cj nm = true) (hd : vm.classes[d]? = some dk) (hname : dk.name = host) (h : Lambda.isMade st vm d σ cK = true) (hf : vm.findClass nm = some cc) : vm.classReady cK cj cc := by
  obtain ⟨dk', k, ok, tk, file, cf, object, iface, toy, lay, methods, target, found, hd', hk, -, hcf, -, -, -, -, -, -, -, -, -, -, -, -, -, -, -, -, -, -, hres, -⟩ := Lambda.isMade_spec h
  cases hd.symm.trans hd'
  rw [hname] at hcf
  unfold clsOK at hok
  rw [hcf] at hok
  dsimp only at hok
  split at hok
  · rename_i n hn
    simp only [Bool.and_eq_true, decide_eq_true_eq] at hok
    exact ⟨k, hk, hres cj _ (Lambda.resolvedOf_class hn hok.2 hok.1 hf)⟩
  · cases hok
/-- back in the caller's frame, where Strings may have been interned meanwhile -/
theorem outOf39 {U : State} {Lo : List Loc} {c0 s0 : Nat} (X : Stand p l e R s m args below meth c U Lo c0 s0) {g : JFrame} (hg : g.method = m) {ig : Instr} {len : Nat} (hdg : decode c.code g.pc = .ok (ig, len)) {mk : MethodId} {a : Array Value} {s₂ : State} {v : Option Value} {L : List Loc} {k n : Nat} (hend : Ended s₂ (.java g :: below) (.returned v)) (hfe : ReturnedEndW (U.calling g mk a) (.returned v) s₂ L k n) :
    ∃ B : State, Stand p l e R (s.setVm B.vm) m args below meth c B (Lo ++ L) (c0 + k) (s0 + n) ∧ s.Since B.vm B.heap.size ∧ U.heap.size ≤ B.heap.size ∧ B.heap = s₂.heap ∧ B.vm = s₂.vm ∧ s₂ = B.setTop { g with pc := g.pc + len, stack := v.toList ++ g.stack } := by
  have h : At U g.method c below := by rw [hg]; exact X.here
  obtain ⟨-, hW₂, hB₂, e2, q2, q3, q4, q5, q6⟩ := id hfe
  have e3 : s₂ = ({ (U.calling g mk a).setFrames s₂.frames with heap := s₂.heap, slotsUsed := s₂.slotsUsed } : State).setVm s₂.vm := by
    have : s₂ = ({ s₂ with vm := (U.calling g mk a).vm } : State).setVm s₂.vm := rfl
    rw [e2] at this
    exact this
  obtain ⟨c₂, i₂, len₂, hc₂, hd₂, hf₂⟩ := hend
  have hW' : U.Warmed39 s₂.vm := hW₂
  have hcc : c₂ = c := by
    have h1 : s₂.code? g.method = U.code? g.method := by rw [State.code?_eq, State.code?_eq, hW'.alike.method?]
    exact Option.some.inj (hc₂.symm.trans (h1.trans h.code))
  subst hcc
  have hlen : len₂ = len := by rw [hdg] at hd₂; cases hd₂; rfl
  subst hlen
  obtain ⟨g₀, hg0⟩ := Option.isSome_iff_exists.mp h.top
  obtain ⟨r, hr⟩ := State.topJava?_eq_some.mp hg0
  have hbr : r = below := by have q := X.tail; rw [hr] at q; exact q
  subst hbr
  have hs₂ : s₂ = (({ U with heap := s₂.heap, slotsUsed := s₂.slotsUsed } : State).setVm s₂.vm).setTop { g with pc := g.pc + len₂, stack := v.toList ++ g.stack } := by
    have hr' : (({ U with heap := s₂.heap, slotsUsed := s₂.slotsUsed } : State).setVm s₂.vm).frames = .java g₀ :: r := hr
    refine e3.trans ?_
    rw [hf₂, State.calling_eq h.top, State.setFrames_setFrames, State.setTop_of_frames _ hr']
    rfl
  have hsame : U.sameButNew ({ U with heap := s₂.heap, slotsUsed := s₂.slotsUsed } : State) L k n := by
    refine ⟨?_, q2, q3, q4, q5, q6⟩
    obtain ⟨t, ht, -⟩ := State.frames_cons hr
    show ({ U with heap := s₂.heap, slotsUsed := s₂.slotsUsed } : State) = { U.setFrames U.frames with heap := s₂.heap, slotsUsed := s₂.slotsUsed }
    rw [State.setFrames_self ht]
  subst hg
  obtain ⟨X', hS⟩ := X.movedW (T₂ := (({ U with heap := s₂.heap, slotsUsed := s₂.slotsUsed } : State).setVm s₂.vm)) ((X.here.setHeapUsed s₂.heap s₂.slotsUsed).setVm hW'.alike) X.tail rfl rfl hW' hB₂ hsame
  exact ⟨(({ U with heap := s₂.heap, slotsUsed := s₂.slotsUsed } : State).setVm s₂.vm), X', hS, hsame.2.1, rfl, rfl, hs₂⟩
/-- a call of the function object: its forwarder reads what it holds, casts the argument and calls the private method -/
theorem WS.lamCall {xi y : MethodName} {index count idx ci fi cj maxL : Nat} {host nm : String} {σ : Lambda.Shape} {fcode bytes : ByteArray} {ret : Option FieldType} {rmC : Room} {Qc : Option Value → Heap → List Addr → List Addr → Prop} {f b ga : Addr} {tr : FieldType} {rx : Option FieldType} {W : Nat}
    (X : WS p l e R s m args below meth c Z EL n0 own T h WL FL cells slots) (hx : p.tables.exec = Jvm.exec) (w1 : (Jvm.Cond.methodLink own index xi).before a0 Z = true) (w2 : (Jvm.Cond.declares xi).before a0 Z = true) (w3 : (Jvm.Cond.interfaceMethod xi.cls xi.cls xi.name xi.desc).before a0 Z = true) (w3k : ((Jvm.Cond.interfaceMethod xi.cls xi.cls xi.name xi.desc).onTables && (Jvm.Cond.interfaceMethod xi.cls xi.cls xi.name xi.desc).keepsFace) = true) (hpx : xi.cls ≠ "java/lang/invoke/MethodHandle" ∧ xi.cls ≠ "java/lang/invoke/VarHandle") (hps : parseMethodDescriptor xi.desc = some ⟨[tr], rx⟩)
    (L : LamO Z h f b host σ) (hok : fwdOK σ host fcode 2 (some (.object "java/lang/Object")) idx ci = true) (hcap : capOK σ host fi 0 = true) (hcj : clsOK σ host cj nm = true)
    (hd0 : decode fcode 0 = .ok (.aload_n 0, 1)) (hd1 : decode fcode 1 = .ok (.getfield fi, 3)) (hd4 : decode fcode 4 = .ok (.aload_n 1, 1)) (hd5 : decode fcode 5 = .ok (.checkcast cj, 3)) (hd8 : decode fcode 8 = .ok (.invokevirtual idx, 3)) (hd11 : decode fcode 11 = .ok (.areturn, 1))
    (hO : (Jvm.Cond.instantiable "java/lang/Object" 0).before a0 Z = true) (hxi : xi.cls = σ.iface ∧ xi.name = σ.name ∧ xi.desc = σ.sam.toString) (hy : y.cls = σ.implClass ∧ y.name = σ.implName ∧ y.desc = σ.implDesc.toString) (hpy : y.cls ≠ "java/lang/invoke/MethodHandle" ∧ y.cls ≠ "java/lang/invoke/VarHandle")
    (wc : (Jvm.Cond.code y bytes maxL ret).before a0 Z = true) (wi : (Jvm.Cond.instanceMethod y).before a0 Z = true) (wp : (Jvm.Cond.privateMethod y).before a0 Z = true) (wz : (Jvm.Cond.initialized y.cls).before a0 Z = true) (hnf : NotFace Z y) (hpp : ∃ t1 r1, parseMethodDescriptor y.desc = some ⟨[t1], r1⟩)
    (E : Exa Z h b y.cls) (G : Exa Z h ga nm) (C : Ct l Z EL n0 y bytes maxL ret rmC #[.ref b, .ref ga] h WL FL Qc) (hv : ∀ v h' W' F', Qc v h' W' F' → ∃ r, v = some (.ref r))
    (hsize : Ls.size = c.maxLocals) (hd : decode c.code pc = .ok (.invokeinterface index count, 5)) (hfr : rmC.frames + 2 ≤ R.frames) (hW : (rest.map fun v => v.category).sum ≤ W) (hlo : W + 13 + (maxL + 11 + rmC.locals) ≤ R.locals) (hc : cells + rmC.cells ≤ R.cells) (hl : slots + rmC.slots ≤ R.slots)
    (kk : ∀ T' h' v WL' FL', WS p l e R s m args below meth c Z EL n0 own T' h' (WL' ++ WL) (FL' ++ FL) (cells + rmC.cells) (slots + rmC.slots) → Qc v h' WL' FL' → Wo p e s below Z EL n0 WL0 FL0 rm Q T' (mkF m (pc + 5) Ls (v.toList ++ rest))) :
    Wo p e s below Z EL n0 WL0 FL0 rm Q T (mkF m pc Ls (.ref ga :: .ref f :: rest)) := by
  obtain ⟨vm0, k0, locs, X, eT, hS, hk, hZ, hown, N, I⟩ := X
  obtain ⟨cK, cellK, M, f1, rfl, f3, f4⟩ := L
  have w3s : (Jvm.Cond.interfaceMethod xi.cls xi.cls xi.name xi.desc).before args (s.setVm vm0) = true := mv (s := s.setVm vm0) hZ w3 w3k
  obtain ⟨kF, methK, s1, s2, s3, s4, s5⟩ := madeSelects (args := args) (Made39 (s := s) hZ M) hok w3s hxi
  obtain ⟨r0, r, hn, hrm, hstR, hsigR⟩ := Cond.declares_spec (mv (s := s.setVm vm0) (args := args) hZ w2)
  obtain ⟨cL, kL, r1, hcL, hkL, hiL, -, hn1⟩ := Cond.interfaceMethod_spec w3s
  cases hn.symm.trans hn1
  have hr0cls : r0.cls = cL := Option.some.inj ((findClass_of_methodNamed hn).symm.trans hcL)
  obtain ⟨hasg, hselK, hwayK⟩ := s5 r0 r hn hrm
  obtain ⟨vm₁, X₁, hstep₁⟩ := X.invokeinterface hx hown (mv hZ w1) hn hrm hstR (by rw [hr0cls]; exact hkL) hiL hpx (a := f) (cell := cellK) (kcell := kF) (by rw [eT]; exact f1) (fun z q => by rw [f3] at q; cases q) s1 hasg (m' := ⟨cellK.cls, 1⟩) (meth' := methK) (by rw [Launch.admits_selectMethod X.admits]; exact hselK) s2 hwayK s3 s4 (g := mkF m pc Ls (.ref ga :: .ref f :: rest)) rfl (argsL := [.ref ga]) (rest := rest) (by have q := Option.some.inj (hps.symm.trans hsigR); rw [← q]; rfl) rfl hd
  have hZ₁ : Z.Warmed39 vm₁ := wtrans (s := s.setVm vm0) (U := T.setVm vm₁) hZ X₁.warmed
  obtain ⟨d, dk, hd2, hdn, hmade, -⟩ := Made39 (s := T) hZ₁ M
  obtain ⟨kK, tk, file, methk, ck, toy, t1, nt, hkK, hpn, hfile, hidx, hnt, hmk, hck, hbytes, hml, hlk, -, hretk, htoy, htk, hlook, hready, hclsR⟩ := made_static hok hd2 hdn hmade
  have hno : ∀ o ok, vm₁.findClass "java/lang/Object" = some o → vm₁.classes[o]? = some ok → ok.instanceTypes.size = 0 := by
    obtain ⟨c2, k2, g1, g2, -, -, -, g3⟩ := Cond.instantiable_spec hO
    intro o ok ho hok2
    rw [hZ₁.alike.findClass, g1] at ho
    cases ho
    obtain ⟨k3, hk3, he3⟩ := hZ₁.alike.2.2 _ _ g2
    cases hok2.symm.trans hk3
    rw [he3]; exact g3
  obtain ⟨kc, fl, -, -, -, hfready, hfst, hfsl⟩ := made_cap hcap hd2 hdn hmade hno
  obtain ⟨cellG, kG, g1, g2, g3, g4, gx⟩ := G
  have hclsJ : vm₁.classReady cellK.cls cj cellG.cls := made_class hcj hd2 hdn hmade (by rw [hZ₁.alike.findClass]; exact g2)
  obtain ⟨mT, methT, hmT, hmethT, hstT, habT⟩ := Cond.instanceMethod_spec wi
  have hmT₁ : (Z.setVm vm₁).methodNamed? y = some mT := by rw [State.methodNamed?_setVm hZ₁.alike]; exact hmT
  have hmethT₁ : vm₁.method? mT = some methT := by rw [hZ₁.alike.method?]; exact hmethT
  obtain ⟨kT, hkT, hniT⟩ := hnf mT hmT
  obtain ⟨kT₁, hkT₁, heT₁⟩ := hZ₁.alike.2.2 _ _ hkT
  have hfT₁ : vm₁.findClass σ.implClass = some mT.cls := by rw [hZ₁.alike.findClass, ← hy.1]; exact findClass_of_methodNamed hmT
  cases htoy.symm.trans hfT₁
  cases htk.symm.trans hkT₁
  have ht1 : t1 = mT := by
    have q : (Z.setVm vm₁).methodFound? y.cls y.name y.desc = some mT := by rw [State.methodFound?_setVm hZ₁.alike]; exact State.methodFound?_of_named hmT hpy
    rw [hy.1, hy.2.1, hy.2.2] at q
    simp only [State.methodFound?, State.vm_setVm, hfT₁, hkT₁, Option.bind_eq_bind, Option.bind_some] at q
    have hlook2 := hlook
    simp only [State.vm_setVm] at hlook2
    rw [hlook2] at q
    exact Option.some.inj q
  subst ht1
  have hniT₁ : tk.isInterface = false := by rw [heT₁]; exact hniT
  have hnameT : tk.name = y.cls := by
    obtain ⟨k9, z1, z2⟩ := Vm.findClass_spec (findClass_of_methodNamed hmT)
    cases hkT.symm.trans z1
    rw [heT₁]; exact z2
  have hsp : signaturePolymorphic tk methT = false := by simp [signaturePolymorphic, hnameT, hpy.1, hpy.2]
  have hprv : methT.isPrivate = true := Cond.privateMethod_at wp _ _ hmT hmethT
  obtain ⟨methT', cT, hmethT', -, -, -, -, -, -, hsigT⟩ := Cond.code_spec hmT wc
  cases hmethT.symm.trans hmethT'
  obtain ⟨tp, rp, hpp⟩ := hpp
  have hparT : [Value.ref ga].length = methT.sig.parameters.length := by have q := Option.some.inj (hpp.symm.trans hsigT); rw [← q]; rfl
  obtain ⟨cellB, kB, b1, b2, b3, b4, -⟩ := E
  have hpk : (T.setVm vm₁).plainMethod ⟨cellK.cls, 1⟩ := State.plainMethod.of_name (fun k' hk' => by cases hkK.symm.trans hk'; exact hpn)
  obtain ⟨Y₀, hin⟩ := X₁.into (g := mkF m pc Ls rest) rfl hsize hd #[.ref f, .ref ga] (R' := { frames := rmC.frames + 1, cells := rmC.cells, slots := rmC.slots, locals := (maxL + 11) + rmC.locals }) hmk hck hlk hpk hfr (by rw [hml]; show 2 * 0 + (rest.map fun v => v.category).sum + (2 + 11) + ((maxL + 11) + rmC.locals) ≤ R.locals; omega) hc hl
  have hloc : entryFrame ⟨cellK.cls, 1⟩ #[.ref f, .ref ga] ck.maxLocals = { method := ⟨cellK.cls, 1⟩, pc := 0, locals := #[.val (.ref f), .val (.ref ga)], stack := [], locked := none } := by rw [hml]; rfl
  rw [hloc] at Y₀ hin
  generalize hU : ((T.setVm vm₁).setTop (mkF m pc Ls rest)).pushFrame (.java { method := ⟨cellK.cls, 1⟩, pc := 0, locals := #[.val (.ref f), .val (.ref ga)], stack := [], locked := none }) = U at Y₀ hin
  have hvmU : U.vm = vm₁ := by rw [← hU]; rfl
  have hheapU : U.heap = h := by rw [← hU]; exact eT
  generalize hs' : (T.setVm vm₁).calling (mkF m pc Ls rest) ⟨cellK.cls, 1⟩ #[.ref f, .ref ga] = s' at Y₀
  have hvm' : s'.vm = vm₁ := by rw [← hs']; rfl
  have I₁ : Inv Z EL n0 vm₁ h WL FL := WS.invT X₁ hZ I
  have hK := Ct.pay (R := { frames := rmC.frames + 1, cells := rmC.cells, slots := rmC.slots, locals := (maxL + 11) + rmC.locals }) (p := p) (e := e) (below := .java (mkF m pc Ls rest) :: below) (s := s') (args := #[.ref f, .ref ga]) (len := 3) (W := 0) C wc wz (Nat.le_refl _) (by show 0 + (maxL + 11) + rmC.locals ≤ (maxL + 11) + rmC.locals; omega) s'.vm (by rw [hvm']; exact hZ₁) (by rw [hvm']; exact I₁)
  have hnamedU : U.methodNamed? y = some t1 := by rw [← hU]; exact hmT₁
  obtain ⟨v, ⟨U', ls, cc, sl⟩, Y₁, hS₁, hgr₁, ⟨L, WL', FL', q, N', q2, q3, q4, I'⟩, hsteps⟩ := hK ⟨cellK.cls, 1⟩ methk ck ⟨U, [], 0, 0⟩ { method := ⟨cellK.cls, 1⟩, pc := 8, locals := #[.val (.ref f), .val (.ref ga)], stack := [], locked := none } (.invokevirtual idx) t1 #[.ref b, .ref ga] Y₀ rfl (by rw [hml]; rfl) (by rw [hbytes]; exact hd8) (Nat.le_refl _) hnamedU ⟨rfl, hheapU, by show 0 + rmC.cells ≤ rmC.cells; omega, by show 0 + rmC.slots ≤ rmC.slots; omega⟩
  dsimp only [Pt.U, Pt.locs, Pt.cells, Pt.slots] at Y₁ hS₁ hgr₁ q q2 q3 q4 I' hsteps
  obtain ⟨rr, rfl⟩ := hv _ _ _ _ q
  obtain ⟨fs, hleave, -, hended, hE⟩ := Y₁.leaveW hS₁ (Nat.le_refl _) (v := some (.ref rr)) (fun z => by rw [hretk] at z; cases z) hlk
  subst hs'
  obtain ⟨B2, X2, hS2, hgr2, eh, ev, es⟩ := outOf39 X₁ (g := mkF m pc Ls rest) rfl hd hended hE
  obtain rfl : ls = L := by rw [q2]; rfl
  obtain rfl : cc = rmC.cells := by rw [q3]; exact Nat.zero_add _
  obtain rfl : sl = rmC.slots := by rw [q4]; exact Nat.zero_add _
  have eh2 : B2.heap = U'.heap := eh
  have ev2 : B2.vm = U'.vm := ev
  refine Wo.by (fun tgt r2 => hstep₁ tgt fun acts => ?_) (kk B2 B2.heap (some (.ref rr)) WL' FL' (WS.back (B := ⟨B2, locs ++ ls, cells + rmC.cells, slots + rmC.slots⟩) hS (by show k0 ≤ T.heap.size; rw [eT]; exact hk) hZ hown N X2 hS2 hgr2 N' rfl rfl rfl (by rw [ev2, eh2]; exact I')) (by rw [eh2]; exact q))
  show Steps p.tables e below (doInvoke e ((T.setVm vm₁).setTop (mkF m pc Ls rest)) acts ⟨cellK.cls, 1⟩ #[.ref f, .ref ga]).1 tgt
  rw [hin acts]
  refine Steps.trans (Steps.weaken (mid := [.java (mkF m pc Ls rest)]) ?_) (es ▸ r2)
  have hsU : U.topJava?.isSome := Y₀.here.top
  jvm_step Y₀.here [hx, hbytes, hd0, Value.isRef]
  jvm_step Y₀.here [hx, hbytes, hd1, getfield.wp_ready (e := e) (s := U) (c := cellK.cls) (field := fl) (a := f) (rest := []) (cell := cellK) (v := .ref b)
    (f := { method := ⟨cellK.cls, 1⟩, pc := 1, locals := #[.val (.ref f), .val (.ref ga)], stack := [.ref f], locked := none }) hsU (by rw [hvmU]; exact hfready) hfst rfl (by rw [hheapU]; exact f1) (by rw [f3]; decide) (by rw [hfsl, f4]; rfl)]
  jvm_step Y₀.here [hx, hbytes, hd4, Value.isRef]
  jvm_step Y₀.here [hx, hbytes, hd5, checkcast.wp_ready (e := e) (s := U) (c := cellG.cls) (x := .ref ga) (rest := [.ref b])
    (f := { method := ⟨cellK.cls, 1⟩, pc := 5, locals := #[.val (.ref f), .val (.ref ga)], stack := [.ref ga, .ref b], locked := none }) hsU (by rw [hvmU]; exact hclsJ) rfl]
  obtain ⟨cG2, cT2, i1, i2, i3⟩ := Ins.self (show Exa Z h ga nm from ⟨cellG, kG, g1, g2, g3, g4, gx⟩)
  cases g1.symm.trans i1
  cases g2.symm.trans i2
  obtain ⟨kG₁, hkG₁, -⟩ := hZ₁.alike.2.2 _ _ g3
  refine ⟨cellG, by rw [hheapU]; exact g1, (fun z q => by rw [q] at g4; cases g4), kG₁, by rw [hvmU]; exact hkG₁, kG₁, by rw [hvmU]; exact hkG₁, ?_⟩
  rw [if_pos (by rw [hvmU, hZ₁.alike.assignable]; simp only [Bool.and_eq_true] at i3; exact i3.2)]
  jvm_step Y₀.here [hx, hbytes, hd8, invokevirtual.wp_ready (e := e) (s := U) (r := t1) (m := t1) (k := tk) (mk := tk) (rmeth := methT) (meth := methT) (a := b) (args := [.ref ga]) (rest := []) (cell := cellB)
    (f := { method := ⟨cellK.cls, 1⟩, pc := 8, locals := #[.val (.ref f), .val (.ref ga)], stack := [.ref ga, .ref b], locked := none }) hsU ⟨kK, file, ci, nt, t1.cls, tk, by rw [hvmU]; exact hkK, hfile, hidx, by rw [hvmU]; exact hclsR, by rw [hvmU]; exact htk, hniT₁⟩ (by rw [hvmU]; exact hready) (by rw [hvmU]; exact htk) (by rw [hvmU]; exact hmethT₁) hsp hstT hparT rfl
    (by rw [hheapU]; exact b1) (fun z q => by rw [q] at b4; cases b4) (by rw [hvmU]; exact selectMethod_private hmethT₁ hprv) (by rw [hvmU]; exact hmethT₁) habT (by rw [hvmU]; exact htk) hniT₁]
  intro acts'
  rw [doInvoke_state]
  refine hsteps.trans ?_
  exact Y₁.areturnOut hx rfl hretk rfl (by rw [hbytes]; exact hd11) hleave
end Lam
end Strs
end Wd
end Jvm.Pilot.@@N@@
namespace Jvm.Pilot.@@N@@
open Jvm Jvm.ClassFile Sem Op Lib Jvm.Free Jvm.Stand Jvm.LawKit Jvm.RoadKit Bundle Jvm.Pilot.@@N@@.Jvm.D Wd
theorem nlt {a b : Nat} (h : Nat.ble (a + 1) b = true) : a < b := Nat.le_of_ble_eq_true h
theorem nle {a b : Nat} (h : Nat.ble a b = true) : a ≤ b := Nat.le_of_ble_eq_true h
theorem fc0 {P : Int32 → Prop} : ∀ c ∈ ([] : List Int32), P c := fun _ q => nomatch q
theorem fcS {P : Int32 → Prop} {y : Int32} {L : List Int32} (q : P y) (r : ∀ c ∈ L, P c) : ∀ c ∈ y :: L, P c := fun c z => (List.mem_cons.mp z).elim (fun u => u ▸ q) (r c)
theorem msk {x m : Int32} {k : Nat} (hk : k ≤ 31) (hm : m.toBitVec.toNat = 2 ^ k - 1) : (x &&& m).toInt = x.toInt % (2 ^ k : Nat) := c_mask x m k hk hm
theorem rng255 (x : Int32) : ¬ (x &&& 255) < 0 ∧ ¬ (255 : Int32) < (x &&& 255) := by
  have h := c_mask x 255 8 (by decide) (by decide)
  rw [Int32.lt_iff_toInt_lt, Int32.lt_iff_toInt_lt, h]
  have e1 : (255 : Int32).toInt = 255 := rfl
  have e2 : (0 : Int32).toInt = 0 := rfl
  have e3 : ((2 ^ 8 : Nat) : Int) = 256 := rfl
  rw [e1, e2, e3]
  omega
theorem nar255 (x : Int32) : nar .char (x &&& 255) = x &&& 255 := i2c_mask x
theorem and3 (x : Int32) : x &&& 3 = 0 ∨ x &&& 3 = 1 ∨ x &&& 3 = 2 ∨ x &&& 3 = 3 := by
  have h := c_mask x 3 2 (by decide) (by decide)
  have e3 : ((2 ^ 2 : Nat) : Int) = 4 := rfl
  rw [e3] at h
  have : (x &&& 3).toInt = 0 ∨ (x &&& 3).toInt = 1 ∨ (x &&& 3).toInt = 2 ∨ (x &&& 3).toInt = 3 := by omega
  rcases this with q | q | q | q
  · exact Or.inl (Int32.toInt_inj.mp q)
  · exact Or.inr (Or.inl (Int32.toInt_inj.mp q))
  · exact Or.inr (Or.inr (Or.inl (Int32.toInt_inj.mp q)))
  · exact Or.inr (Or.inr (Or.inr (Int32.toInt_inj.mp q)))
theorem ofn {c : Int32} (h : ¬ c < 0 ∧ ¬ (255 : Int32) < c) : ∃ k : Fin 256, c = Int32.ofNat k.val := by
  have h1 := h.1; have h2 := h.2
  rw [Int32.lt_iff_toInt_lt] at h1 h2
  have e1 : (255 : Int32).toInt = 255 := rfl
  have e2 : (0 : Int32).toInt = 0 := rfl
  rw [e2] at h1; rw [e1] at h2
  refine ⟨⟨c.toInt.toNat, by omega⟩, Int32.toInt_inj.mp ?_⟩
  rw [Int32.toInt_ofNat_small (show c.toInt.toNat < 2 ^ 31 by omega)]
  show c.toInt = ((c.toInt.toNat : Nat) : Int)
  omega
theorem narR {c : Int32} (h : ¬ c < 0 ∧ ¬ (255 : Int32) < c) : nar .char c = c := by
  obtain ⟨k, rfl⟩ := ofn h
  exact (by decide +kernel : ∀ k : Fin 256, nar .char (Int32.ofNat k.val) = Int32.ofNat k.val) k
theorem b8 {c : Int32} (h : ¬ c < 0 ∧ ¬ (255 : Int32) < c) (d : Int32) (hd : ∀ k : Fin 256, (Int32.ofNat k.val).toInt8.toInt32 = d ↔ Int32.ofNat k.val = d) : c.toInt8.toInt32 = d ↔ c = d := by
  obtain ⟨k, rfl⟩ := ofn h
  exact hd k
def EL1 : List (String × Nat) := []
theorem narB {c : Int32} : nar .byte (c.toInt8.toInt32) = c.toInt8.toInt32 := by simp [nar]
def lamH : String := "com/example/lexbind/lexbind/messages/Explanation"
def lamS : Jvm.Lambda.Shape := (Jvm.Lambda.Shape.mk "java/util/function/Function" "apply" (Jvm.ClassFile.MethodDescriptor.mk [(.object "java/lang/Object")] (some (.object "java/lang/Object"))) [(.object "com/example/lexbind/lexbind/messages/Explanation")] 5 "com/example/lexbind/lexbind/messages/Explanation" "lambda$answer$0" (Jvm.ClassFile.MethodDescriptor.mk [(.object "java/lang/String")] (some (.object "com/example/lexbind/lexbind/messages/Explanation$Step"))) false (Jvm.ClassFile.MethodDescriptor.mk [(.object "java/lang/String")] (some (.object "com/example/lexbind/lexbind/messages/Explanation$Step"))))
def lamF : ByteArray := ⟨#[0x2a, 0xb4, 0x00, 0x0f, 0x2b, 0xc0, 0x00, 0x13, 0xb6, 0x00, 0x19, 0xb0]⟩
theorem lam_ok : Jvm.LamKit.fwdOK lamS lamH lamF 2 (some (.object "java/lang/Object")) 25 21 = true := by decide +kernel
theorem lam_cap : Jvm.LamKit.capOK lamS lamH 15 0 = true := by decide +kernel
theorem lam_cls : clsOK lamS lamH 19 "java/lang/String" = true := by decide +kernel
theorem lam_d0 : decode lamF 0 = .ok (.aload_n 0, 1) := by decide +kernel
theorem lam_d1 : decode lamF 1 = .ok (.getfield 15, 3) := by decide +kernel
theorem lam_d4 : decode lamF 4 = .ok (.aload_n 1, 1) := by decide +kernel
theorem lam_d5 : decode lamF 5 = .ok (.checkcast 19, 3) := by decide +kernel
theorem lam_d8 : decode lamF 8 = .ok (.invokevirtual 25, 3) := by decide +kernel
theorem lam_d11 : decode lamF 11 = .ok (.areturn, 1) := by decide +kernel
section Cts
theorem mg {α : Type _} {L : List α} {a : α} (i : Nat) (h : L[i]? = some a) : a ∈ L := List.mem_of_getElem? h
theorem mc {α : Type _} {L : List α} {a b : α} (h : a ∈ L) : a ∈ b :: L := List.mem_cons_of_mem _ h
set_option maxRecDepth 65536
set_option maxHeartbeats 4000000
def Cx (a0 : Array Value) (Z : State) (gC : Int32) (v_DE : Addr) (k_DE : ClassId) (v_EL : Addr) (v_EM : Addr) (v_OE : Addr) (m_OA : Addr) : Prop := (∀ d ∈ tables_1, d.before a0 Z = true) ∧ (Sta Z Z.heap "java/lang/String" "COMPACT_STRINGS" "Z" (.int gC)) ∧ (¬ gC = (0 : Int32)) ∧ (Sta Z Z.heap "java/util/ArrayList" "DEFAULTCAPACITY_EMPTY_ELEMENTDATA" "[Ljava/lang/Object;" (.ref v_DE)) ∧ (Exa Z Z.heap v_DE "[Ljava/lang/Object;") ∧ (Arv Z Z.heap v_DE k_DE (.object "java/lang/Object") (0 : Int32) [] .null) ∧ (Sta Z Z.heap "java/util/ImmutableCollections" "EMPTY_LIST" "Ljava/util/ImmutableCollections$ListN;" (.ref v_EL)) ∧ (Exa Z Z.heap v_EL "java/util/ImmutableCollections$ListN") ∧ (Sta Z Z.heap "java/util/ImmutableCollections" "EMPTY" "Ljava/lang/Object;" (.ref v_EM)) ∧ (Exa Z Z.heap v_EM "java/lang/Object") ∧ (Sta Z Z.heap "java/util/Optional" "EMPTY" "Ljava/util/Optional;" (.ref v_OE)) ∧ (Exa Z Z.heap v_OE "java/util/Optional") ∧ (Fld Z Z.heap v_OE "java/util/Optional" "value" "Ljava/lang/Object;" .null) ∧ (MM Z "[Ljava/lang/Object;" m_OA)
def txt (i : Nat) : String := match tables_1[i]? with | some (Cond.stringLink _ _ t) => t | _ => ""
variable {l : Launch} {Z : State} {a0 : Array Value} {gC : Int32} {v_DE : Addr} {k_DE : ClassId} {v_EL : Addr} {v_EM : Addr} {v_OE : Addr} {m_OA : Addr} {n0 : Nat}
theorem w0 (cx : Cx a0 Z gC v_DE k_DE v_EL v_EM v_OE m_OA) : (Cond.methodLink "com/example/lexbind/lexbind/messages/ExplanationAnswerPinLaw" (7 : Nat) ⟨"java/lang/String", "valueOf", "(C)Ljava/lang/String;"⟩).before a0 Z = true := cx.1 _ (mg 0 rfl)
theorem w1 (cx : Cx a0 Z gC v_DE k_DE v_EL v_EM v_OE m_OA) : (Cond.static ⟨"java/lang/String", "valueOf", "(C)Ljava/lang/String;"⟩).before a0 Z = true := cx.1 _ (mg 1 rfl)
theorem w2 (cx : Cx a0 Z gC v_DE k_DE v_EL v_EM v_OE m_OA) : (Cond.initialized "java/lang/String").before a0 Z = true := cx.1 _ (mg 2 rfl)
theorem w3 (cx : Cx a0 Z gC v_DE k_DE v_EL v_EM v_OE m_OA) : (Cond.code ⟨"java/lang/String", "valueOf", "(C)Ljava/lang/String;"⟩ jdk_42_method_139_code (1 : Nat) (Option.some (FieldType.object "java/lang/String"))).before a0 Z = true := cx.1 _ (mg 3 rfl)
theorem w4 (cx : Cx a0 Z gC v_DE k_DE v_EL v_EM v_OE m_OA) : (Cond.fieldLink "java/lang/String" (38 : Nat) "java/lang/String" "COMPACT_STRINGS" "Z").before a0 Z = true := cx.1 _ (mg 4 rfl)
theorem w5 (cx : Cx a0 Z gC v_DE k_DE v_EL v_EM v_OE m_OA) : (Cond.methodLink "java/lang/String" (1015 : Nat) ⟨"java/lang/StringLatin1", "canEncode", "(C)Z"⟩).before a0 Z = true := cx.1 _ (mg 5 rfl)
theorem w6 (cx : Cx a0 Z gC v_DE k_DE v_EL v_EM v_OE m_OA) : (Cond.static ⟨"java/lang/StringLatin1", "canEncode", "(C)Z"⟩).before a0 Z = true := cx.1 _ (mg 6 rfl)
theorem w7 (cx : Cx a0 Z gC v_DE k_DE v_EL v_EM v_OE m_OA) : (Cond.initialized "java/lang/StringLatin1").before a0 Z = true := cx.1 _ (mg 7 rfl)
theorem w8 (cx : Cx a0 Z gC v_DE k_DE v_EL v_EM v_OE m_OA) : (Cond.code ⟨"java/lang/StringLatin1", "canEncode", "(C)Z"⟩ jdk_43_method_3_code (1 : Nat) (Option.some FieldType.boolean)).before a0 Z = true := cx.1 _ (mg 8 rfl)
theorem w9 (cx : Cx a0 Z gC v_DE k_DE v_EL v_EM v_OE m_OA) : (Cond.classLink "java/lang/String" (10 : Nat) "java/lang/String").before a0 Z = true := cx.1 _ (mg 9 rfl)
theorem w10 (cx : Cx a0 Z gC v_DE k_DE v_EL v_EM v_OE m_OA) : (Cond.instantiable "java/lang/String" (4 : Nat)).before a0 Z = true := cx.1 _ (mg 10 rfl)
theorem w11 (cx : Cx a0 Z gC v_DE k_DE v_EL v_EM v_OE m_OA) : (Cond.methodLink "java/lang/String" (1018 : Nat) ⟨"java/lang/StringLatin1", "toBytes", "(C)[B"⟩).before a0 Z = true := cx.1 _ (mg 11 rfl)
theorem w12 (cx : Cx a0 Z gC v_DE k_DE v_EL v_EM v_OE m_OA) : (Cond.static ⟨"java/lang/StringLatin1", "toBytes", "(C)[B"⟩).before a0 Z = true := cx.1 _ (mg 12 rfl)
theorem w13 (cx : Cx a0 Z gC v_DE k_DE v_EL v_EM v_OE m_OA) : (Cond.code ⟨"java/lang/StringLatin1", "toBytes", "(C)[B"⟩ jdk_43_method_46_code (1 : Nat) (Option.some (FieldType.array FieldType.byte))).before a0 Z = true := cx.1 _ (mg 13 rfl)
theorem w14 (cx : Cx a0 Z gC v_DE k_DE v_EL v_EM v_OE m_OA) : (Cond.arrayClass FieldType.byte).before a0 Z = true := cx.1 _ (mg 14 rfl)
theorem w15 (cx : Cx a0 Z gC v_DE k_DE v_EL v_EM v_OE m_OA) : (Cond.methodLink "java/lang/String" (209 : Nat) ⟨"java/lang/String", "<init>", "([BB)V"⟩).before a0 Z = true := cx.1 _ (mg 15 rfl)
theorem w16 (cx : Cx a0 Z gC v_DE k_DE v_EL v_EM v_OE m_OA) : (Cond.instanceMethod ⟨"java/lang/String", "<init>", "([BB)V"⟩).before a0 Z = true := cx.1 _ (mg 16 rfl)
theorem w18 (cx : Cx a0 Z gC v_DE k_DE v_EL v_EM v_OE m_OA) : (Cond.code ⟨"java/lang/String", "<init>", "([BB)V"⟩ jdk_42_method_151_code (3 : Nat) (Option.none : Option Jvm.ClassFile.FieldType)).before a0 Z = true := cx.1 _ (mg 18 rfl)
theorem w19 (cx : Cx a0 Z gC v_DE k_DE v_EL v_EM v_OE m_OA) : (Cond.methodLink "java/lang/String" (1 : Nat) ⟨"java/lang/Object", "<init>", "()V"⟩).before a0 Z = true := cx.1 _ (mg 19 rfl)
theorem w20 (cx : Cx a0 Z gC v_DE k_DE v_EL v_EM v_OE m_OA) : (Cond.instanceMethod ⟨"java/lang/Object", "<init>", "()V"⟩).before a0 Z = true := cx.1 _ (mg 20 rfl)
theorem w21 (cx : Cx a0 Z gC v_DE k_DE v_EL v_EM v_OE m_OA) : (Cond.code ⟨"java/lang/Object", "<init>", "()V"⟩ object_method_1_code (1 : Nat) (Option.none : Option Jvm.ClassFile.FieldType)).before a0 Z = true := cx.1 _ (mg 21 rfl)
theorem w22 (cx : Cx a0 Z gC v_DE k_DE v_EL v_EM v_OE m_OA) : (Cond.fieldLink "java/lang/String" (9 : Nat) "java/lang/String" "value" "[B").before a0 Z = true := cx.1 _ (mg 22 rfl)
theorem w23 (cx : Cx a0 Z gC v_DE k_DE v_EL v_EM v_OE m_OA) : (Cond.laysFinal "java/lang/String" "java/lang/String" "value" "[B").before a0 Z = true := cx.1 _ (mg 23 rfl)
theorem w24 (cx : Cx a0 Z gC v_DE k_DE v_EL v_EM v_OE m_OA) : (Cond.fieldLink "java/lang/String" (15 : Nat) "java/lang/String" "coder" "B").before a0 Z = true := cx.1 _ (mg 24 rfl)
theorem w25 (cx : Cx a0 Z gC v_DE k_DE v_EL v_EM v_OE m_OA) : (Cond.laysFinal "java/lang/String" "java/lang/String" "coder" "B").before a0 Z = true := cx.1 _ (mg 25 rfl)
theorem w26 (cx : Cx a0 Z gC v_DE k_DE v_EL v_EM v_OE m_OA) : (Cond.classLink "com/example/lexbind/lexbind/messages/ExplanationAnswerPinLaw" (13 : Nat) "com/example/lexbind/lexbind/messages/Explanation$Step").before a0 Z = true := cx.1 _ (mg 26 rfl)
theorem w27 (cx : Cx a0 Z gC v_DE k_DE v_EL v_EM v_OE m_OA) : (Cond.instantiable "com/example/lexbind/lexbind/messages/Explanation$Step" (2 : Nat)).before a0 Z = true := cx.1 _ (mg 27 rfl)
theorem w28 (cx : Cx a0 Z gC v_DE k_DE v_EL v_EM v_OE m_OA) : (Cond.initialized "com/example/lexbind/lexbind/messages/Explanation$Step").before a0 Z = true := cx.1 _ (mg 28 rfl)
theorem w29 (cx : Cx a0 Z gC v_DE k_DE v_EL v_EM v_OE m_OA) : (Cond.stringLink "com/example/lexbind/lexbind/messages/ExplanationAnswerPinLaw" (15 : Nat) (txt 29)).before a0 Z = true := cx.1 _ (mg 29 rfl)
theorem w32 (cx : Cx a0 Z gC v_DE k_DE v_EL v_EM v_OE m_OA) : (Cond.methodLink "com/example/lexbind/lexbind/messages/ExplanationAnswerPinLaw" (17 : Nat) ⟨"com/example/lexbind/lexbind/messages/Explanation$Step", "<init>", "(Ljava/lang/String;Ljava/lang/String;)V"⟩).before a0 Z = true := cx.1 _ (mg 32 rfl)
theorem w33 (cx : Cx a0 Z gC v_DE k_DE v_EL v_EM v_OE m_OA) : (Cond.instanceMethod ⟨"com/example/lexbind/lexbind/messages/Explanation$Step", "<init>", "(Ljava/lang/String;Ljava/lang/String;)V"⟩).before a0 Z = true := cx.1 _ (mg 33 rfl)
theorem w34 (cx : Cx a0 Z gC v_DE k_DE v_EL v_EM v_OE m_OA) : (Cond.code ⟨"com/example/lexbind/lexbind/messages/Explanation$Step", "<init>", "(Ljava/lang/String;Ljava/lang/String;)V"⟩ prog_37_method_1_code (3 : Nat) (Option.none : Option Jvm.ClassFile.FieldType)).before a0 Z = true := cx.1 _ (mg 34 rfl)
theorem w35 (cx : Cx a0 Z gC v_DE k_DE v_EL v_EM v_OE m_OA) : (Cond.methodLink "com/example/lexbind/lexbind/messages/Explanation$Step" (1 : Nat) ⟨"java/lang/Record", "<init>", "()V"⟩).before a0 Z = true := cx.1 _ (mg 35 rfl)
theorem w36 (cx : Cx a0 Z gC v_DE k_DE v_EL v_EM v_OE m_OA) : (Cond.instanceMethod ⟨"java/lang/Record", "<init>", "()V"⟩).before a0 Z = true := cx.1 _ (mg 36 rfl)
theorem w38 (cx : Cx a0 Z gC v_DE k_DE v_EL v_EM v_OE m_OA) : (Cond.initialized "java/lang/Record").before a0 Z = true := cx.1 _ (mg 38 rfl)
theorem w39 (cx : Cx a0 Z gC v_DE k_DE v_EL v_EM v_OE m_OA) : (Cond.code ⟨"java/lang/Record", "<init>", "()V"⟩ jdk_30_method_1_code (1 : Nat) (Option.none : Option Jvm.ClassFile.FieldType)).before a0 Z = true := cx.1 _ (mg 39 rfl)
theorem w40 (cx : Cx a0 Z gC v_DE k_DE v_EL v_EM v_OE m_OA) : (Cond.methodLink "java/lang/Record" (1 : Nat) ⟨"java/lang/Object", "<init>", "()V"⟩).before a0 Z = true := cx.1 _ (mg 40 rfl)
theorem w41 (cx : Cx a0 Z gC v_DE k_DE v_EL v_EM v_OE m_OA) : (Cond.stringLink "com/example/lexbind/lexbind/messages/Explanation$Step" (7 : Nat) (txt 41)).before a0 Z = true := cx.1 _ (mg 41 rfl)
theorem w42 (cx : Cx a0 Z gC v_DE k_DE v_EL v_EM v_OE m_OA) : (Cond.methodLink "com/example/lexbind/lexbind/messages/Explanation$Step" (9 : Nat) ⟨"java/util/Objects", "requireNonNull", "(Ljava/lang/Object;Ljava/lang/String;)Ljava/lang/Object;"⟩).before a0 Z = true := cx.1 _ (mg 42 rfl)
theorem w43 (cx : Cx a0 Z gC v_DE k_DE v_EL v_EM v_OE m_OA) : (Cond.static ⟨"java/util/Objects", "requireNonNull", "(Ljava/lang/Object;Ljava/lang/String;)Ljava/lang/Object;"⟩).before a0 Z = true := cx.1 _ (mg 43 rfl)
theorem w44 (cx : Cx a0 Z gC v_DE k_DE v_EL v_EM v_OE m_OA) : (Cond.initialized "java/util/Objects").before a0 Z = true := cx.1 _ (mg 44 rfl)
theorem w45 (cx : Cx a0 Z gC v_DE k_DE v_EL v_EM v_OE m_OA) : (Cond.code ⟨"java/util/Objects", "requireNonNull", "(Ljava/lang/Object;Ljava/lang/String;)Ljava/lang/Object;"⟩ jdk_31_method_11_code (2 : Nat) (Option.some (FieldType.object "java/lang/Object"))).before a0 Z = true := cx.1 _ (mg 45 rfl)
theorem w46 (cx : Cx a0 Z gC v_DE k_DE v_EL v_EM v_OE m_OA) : (Cond.stringLink "com/example/lexbind/lexbind/messages/Explanation$Step" (15 : Nat) (txt 46)).before a0 Z = true := cx.1 _ (mg 46 rfl)
theorem w47 (cx : Cx a0 Z gC v_DE k_DE v_EL v_EM v_OE m_OA) : (Cond.fieldLink "com/example/lexbind/lexbind/messages/Explanation$Step" (17 : Nat) "com/example/lexbind/lexbind/messages/Explanation$Step" "source" "Ljava/lang/String;").before a0 Z = true := cx.1 _ (mg 47 rfl)
theorem w48 (cx : Cx a0 Z gC v_DE k_DE v_EL v_EM v_OE m_OA) : (Cond.laysFinal "com/example/lexbind/lexbind/messages/Explanation$Step" "com/example/lexbind/lexbind/messages/Explanation$Step" "source" "Ljava/lang/String;").before a0 Z = true := cx.1 _ (mg 48 rfl)
theorem w49 (cx : Cx a0 Z gC v_DE k_DE v_EL v_EM v_OE m_OA) : (Cond.fieldLink "com/example/lexbind/lexbind/messages/Explanation$Step" (22 : Nat) "com/example/lexbind/lexbind/messages/Explanation$Step" "key" "Ljava/lang/String;").before a0 Z = true := cx.1 _ (mg 49 rfl)
theorem w50 (cx : Cx a0 Z gC v_DE k_DE v_EL v_EM v_OE m_OA) : (Cond.laysFinal "com/example/lexbind/lexbind/messages/Explanation$Step" "com/example/lexbind/lexbind/messages/Explanation$Step" "key" "Ljava/lang/String;").before a0 Z = true := cx.1 _ (mg 50 rfl)
theorem w51 (cx : Cx a0 Z gC v_DE k_DE v_EL v_EM v_OE m_OA) : (Cond.stringLink "com/example/lexbind/lexbind/messages/ExplanationAnswerPinLaw" (20 : Nat) (txt 51)).before a0 Z = true := cx.1 _ (mg 51 rfl)
theorem w52 (cx : Cx a0 Z gC v_DE k_DE v_EL v_EM v_OE m_OA) : (Cond.stringLink "com/example/lexbind/lexbind/messages/ExplanationAnswerPinLaw" (22 : Nat) (txt 52)).before a0 Z = true := cx.1 _ (mg 52 rfl)
theorem w53 (cx : Cx a0 Z gC v_DE k_DE v_EL v_EM v_OE m_OA) : (Cond.classLink "com/example/lexbind/lexbind/messages/ExplanationAnswerPinLaw" (24 : Nat) "java/util/ArrayList").before a0 Z = true := cx.1 _ (mg 53 rfl)
theorem w54 (cx : Cx a0 Z gC v_DE k_DE v_EL v_EM v_OE m_OA) : (Cond.instantiable "java/util/ArrayList" (3 : Nat)).before a0 Z = true := cx.1 _ (mg 54 rfl)
theorem w55 (cx : Cx a0 Z gC v_DE k_DE v_EL v_EM v_OE m_OA) : (Cond.initialized "java/util/ArrayList").before a0 Z = true := cx.1 _ (mg 55 rfl)
theorem w56 (cx : Cx a0 Z gC v_DE k_DE v_EL v_EM v_OE m_OA) : (Cond.methodLink "com/example/lexbind/lexbind/messages/ExplanationAnswerPinLaw" (26 : Nat) ⟨"java/util/ArrayList", "<init>", "()V"⟩).before a0 Z = true := cx.1 _ (mg 56 rfl)
theorem w57 (cx : Cx a0 Z gC v_DE k_DE v_EL v_EM v_OE m_OA) : (Cond.instanceMethod ⟨"java/util/ArrayList", "<init>", "()V"⟩).before a0 Z = true := cx.1 _ (mg 57 rfl)
theorem w58 (cx : Cx a0 Z gC v_DE k_DE v_EL v_EM v_OE m_OA) : (Cond.code ⟨"java/util/ArrayList", "<init>", "()V"⟩ jdk_38_method_2_code (1 : Nat) (Option.none : Option Jvm.ClassFile.FieldType)).before a0 Z = true := cx.1 _ (mg 58 rfl)
theorem w59 (cx : Cx a0 Z gC v_DE k_DE v_EL v_EM v_OE m_OA) : (Cond.methodLink "java/util/ArrayList" (1 : Nat) ⟨"java/util/AbstractList", "<init>", "()V"⟩).before a0 Z = true := cx.1 _ (mg 59 rfl)
theorem w60 (cx : Cx a0 Z gC v_DE k_DE v_EL v_EM v_OE m_OA) : (Cond.instanceMethod ⟨"java/util/AbstractList", "<init>", "()V"⟩).before a0 Z = true := cx.1 _ (mg 60 rfl)
theorem w63 (cx : Cx a0 Z gC v_DE k_DE v_EL v_EM v_OE m_OA) : (Cond.initialized "java/util/AbstractList").before a0 Z = true := cx.1 _ (mg 63 rfl)
theorem w64 (cx : Cx a0 Z gC v_DE k_DE v_EL v_EM v_OE m_OA) : (Cond.code ⟨"java/util/AbstractList", "<init>", "()V"⟩ jdk_39_method_1_code (1 : Nat) (Option.none : Option Jvm.ClassFile.FieldType)).before a0 Z = true := cx.1 _ (mg 64 rfl)
theorem w65 (cx : Cx a0 Z gC v_DE k_DE v_EL v_EM v_OE m_OA) : (Cond.methodLink "java/util/AbstractList" (1 : Nat) ⟨"java/util/AbstractCollection", "<init>", "()V"⟩).before a0 Z = true := cx.1 _ (mg 65 rfl)
theorem w66 (cx : Cx a0 Z gC v_DE k_DE v_EL v_EM v_OE m_OA) : (Cond.instanceMethod ⟨"java/util/AbstractCollection", "<init>", "()V"⟩).before a0 Z = true := cx.1 _ (mg 66 rfl)
theorem w69 (cx : Cx a0 Z gC v_DE k_DE v_EL v_EM v_OE m_OA) : (Cond.initialized "java/util/AbstractCollection").before a0 Z = true := cx.1 _ (mg 69 rfl)
theorem w70 (cx : Cx a0 Z gC v_DE k_DE v_EL v_EM v_OE m_OA) : (Cond.code ⟨"java/util/AbstractCollection", "<init>", "()V"⟩ jdk_22_method_1_code (1 : Nat) (Option.none : Option Jvm.ClassFile.FieldType)).before a0 Z = true := cx.1 _ (mg 70 rfl)
theorem w71 (cx : Cx a0 Z gC v_DE k_DE v_EL v_EM v_OE m_OA) : (Cond.methodLink "java/util/AbstractCollection" (1 : Nat) ⟨"java/lang/Object", "<init>", "()V"⟩).before a0 Z = true := cx.1 _ (mg 71 rfl)
theorem w72 (cx : Cx a0 Z gC v_DE k_DE v_EL v_EM v_OE m_OA) : (Cond.fieldLink "java/util/AbstractList" (7 : Nat) "java/util/AbstractList" "modCount" "I").before a0 Z = true := cx.1 _ (mg 72 rfl)
theorem w73 (cx : Cx a0 Z gC v_DE k_DE v_EL v_EM v_OE m_OA) : (Cond.lays "java/util/ArrayList" "java/util/AbstractList" "modCount" "I").before a0 Z = true := cx.1 _ (mg 73 rfl)
theorem w74 (cx : Cx a0 Z gC v_DE k_DE v_EL v_EM v_OE m_OA) : (Cond.fieldLink "java/util/ArrayList" (39 : Nat) "java/util/ArrayList" "DEFAULTCAPACITY_EMPTY_ELEMENTDATA" "[Ljava/lang/Object;").before a0 Z = true := cx.1 _ (mg 74 rfl)
theorem w75 (cx : Cx a0 Z gC v_DE k_DE v_EL v_EM v_OE m_OA) : (Cond.fieldLink "java/util/ArrayList" (9 : Nat) "java/util/ArrayList" "elementData" "[Ljava/lang/Object;").before a0 Z = true := cx.1 _ (mg 75 rfl)
theorem w76 (cx : Cx a0 Z gC v_DE k_DE v_EL v_EM v_OE m_OA) : (Cond.lays "java/util/ArrayList" "java/util/ArrayList" "elementData" "[Ljava/lang/Object;").before a0 Z = true := cx.1 _ (mg 76 rfl)
theorem w77 (cx : Cx a0 Z gC v_DE k_DE v_EL v_EM v_OE m_OA) : (Cond.arrayClass FieldType.char).before a0 Z = true := cx.1 _ (mg 77 rfl)
theorem w78 (cx : Cx a0 Z gC v_DE k_DE v_EL v_EM v_OE m_OA) : (Cond.methodLink "com/example/lexbind/lexbind/messages/ExplanationAnswerPinLaw" (42 : Nat) ⟨"java/util/Optional", "empty", "()Ljava/util/Optional;"⟩).before a0 Z = true := cx.1 _ (mg 78 rfl)
theorem w79 (cx : Cx a0 Z gC v_DE k_DE v_EL v_EM v_OE m_OA) : (Cond.static ⟨"java/util/Optional", "empty", "()Ljava/util/Optional;"⟩).before a0 Z = true := cx.1 _ (mg 79 rfl)
theorem w80 (cx : Cx a0 Z gC v_DE k_DE v_EL v_EM v_OE m_OA) : (Cond.initialized "java/util/Optional").before a0 Z = true := cx.1 _ (mg 80 rfl)
theorem w81 (cx : Cx a0 Z gC v_DE k_DE v_EL v_EM v_OE m_OA) : (Cond.code ⟨"java/util/Optional", "empty", "()Ljava/util/Optional;"⟩ jdk_32_method_1_code (1 : Nat) (Option.some (FieldType.object "java/util/Optional"))).before a0 Z = true := cx.1 _ (mg 81 rfl)
theorem w82 (cx : Cx a0 Z gC v_DE k_DE v_EL v_EM v_OE m_OA) : (Cond.fieldLink "java/util/Optional" (1 : Nat) "java/util/Optional" "EMPTY" "Ljava/util/Optional;").before a0 Z = true := cx.1 _ (mg 82 rfl)
theorem w83 (cx : Cx a0 Z gC v_DE k_DE v_EL v_EM v_OE m_OA) : (Cond.classLink "com/example/lexbind/lexbind/messages/ExplanationAnswerPinLaw" (46 : Nat) "com/example/lexbind/lexbind/messages/Explanation").before a0 Z = true := cx.1 _ (mg 83 rfl)
theorem w84 (cx : Cx a0 Z gC v_DE k_DE v_EL v_EM v_OE m_OA) : (Cond.instantiable "com/example/lexbind/lexbind/messages/Explanation" (3 : Nat)).before a0 Z = true := cx.1 _ (mg 84 rfl)
theorem w85 (cx : Cx a0 Z gC v_DE k_DE v_EL v_EM v_OE m_OA) : (Cond.initialized "com/example/lexbind/lexbind/messages/Explanation").before a0 Z = true := cx.1 _ (mg 85 rfl)
theorem w86 (cx : Cx a0 Z gC v_DE k_DE v_EL v_EM v_OE m_OA) : (Cond.methodLink "com/example/lexbind/lexbind/messages/ExplanationAnswerPinLaw" (48 : Nat) ⟨"com/example/lexbind/lexbind/messages/Explanation", "<init>", "(Ljava/util/List;Ljava/util/Optional;Ljava/util/List;)V"⟩).before a0 Z = true := cx.1 _ (mg 86 rfl)
theorem w87 (cx : Cx a0 Z gC v_DE k_DE v_EL v_EM v_OE m_OA) : (Cond.instanceMethod ⟨"com/example/lexbind/lexbind/messages/Explanation", "<init>", "(Ljava/util/List;Ljava/util/Optional;Ljava/util/List;)V"⟩).before a0 Z = true := cx.1 _ (mg 87 rfl)
theorem w88 (cx : Cx a0 Z gC v_DE k_DE v_EL v_EM v_OE m_OA) : (Cond.code ⟨"com/example/lexbind/lexbind/messages/Explanation", "<init>", "(Ljava/util/List;Ljava/util/Optional;Ljava/util/List;)V"⟩ prog_36_method_1_code (4 : Nat) (Option.none : Option Jvm.ClassFile.FieldType)).before a0 Z = true := cx.1 _ (mg 88 rfl)
theorem w89 (cx : Cx a0 Z gC v_DE k_DE v_EL v_EM v_OE m_OA) : (Cond.methodLink "com/example/lexbind/lexbind/messages/Explanation" (1 : Nat) ⟨"java/lang/Record", "<init>", "()V"⟩).before a0 Z = true := cx.1 _ (mg 89 rfl)
theorem w90 (cx : Cx a0 Z gC v_DE k_DE v_EL v_EM v_OE m_OA) : (Cond.methodLink "com/example/lexbind/lexbind/messages/Explanation" (7 : Nat) ⟨"java/util/List", "copyOf", "(Ljava/util/Collection;)Ljava/util/List;"⟩).before a0 Z = true := cx.1 _ (mg 90 rfl)
theorem w91 (cx : Cx a0 Z gC v_DE k_DE v_EL v_EM v_OE m_OA) : (Cond.static ⟨"java/util/List", "copyOf", "(Ljava/util/Collection;)Ljava/util/List;"⟩).before a0 Z = true := cx.1 _ (mg 91 rfl)
theorem w92 (cx : Cx a0 Z gC v_DE k_DE v_EL v_EM v_OE m_OA) : (Cond.initialized "java/util/List").before a0 Z = true := cx.1 _ (mg 92 rfl)
theorem w93 (cx : Cx a0 Z gC v_DE k_DE v_EL v_EM v_OE m_OA) : (Cond.code ⟨"java/util/List", "copyOf", "(Ljava/util/Collection;)Ljava/util/List;"⟩ jdk_40_method_48_code (1 : Nat) (Option.some (FieldType.object "java/util/List"))).before a0 Z = true := cx.1 _ (mg 93 rfl)
theorem w94 (cx : Cx a0 Z gC v_DE k_DE v_EL v_EM v_OE m_OA) : (Cond.methodLink "java/util/List" (112 : Nat) ⟨"java/util/ImmutableCollections", "listCopy", "(Ljava/util/Collection;)Ljava/util/List;"⟩).before a0 Z = true := cx.1 _ (mg 94 rfl)
theorem w95 (cx : Cx a0 Z gC v_DE k_DE v_EL v_EM v_OE m_OA) : (Cond.static ⟨"java/util/ImmutableCollections", "listCopy", "(Ljava/util/Collection;)Ljava/util/List;"⟩).before a0 Z = true := cx.1 _ (mg 95 rfl)
theorem w96 (cx : Cx a0 Z gC v_DE k_DE v_EL v_EM v_OE m_OA) : (Cond.initialized "java/util/ImmutableCollections").before a0 Z = true := cx.1 _ (mg 96 rfl)
theorem w97 (cx : Cx a0 Z gC v_DE k_DE v_EL v_EM v_OE m_OA) : (Cond.code ⟨"java/util/ImmutableCollections", "listCopy", "(Ljava/util/Collection;)Ljava/util/List;"⟩ jdk_56_method_3_code (2 : Nat) (Option.some (FieldType.object "java/util/List"))).before a0 Z = true := cx.1 _ (mg 97 rfl)
theorem w98 (cx : Cx a0 Z gC v_DE k_DE v_EL v_EM v_OE m_OA) : (Cond.classLink "java/util/ImmutableCollections" (10 : Nat) "java/util/ImmutableCollections$List12").before a0 Z = true := cx.1 _ (mg 98 rfl)
theorem w99 (cx : Cx a0 Z gC v_DE k_DE v_EL v_EM v_OE m_OA) : (Cond.superclass "java/util/ArrayList" "java/util/AbstractList").before a0 Z = true := cx.1 _ (mg 99 rfl)
theorem w100 (cx : Cx a0 Z gC v_DE k_DE v_EL v_EM v_OE m_OA) : (Cond.superclass "java/util/AbstractList" "java/util/AbstractCollection").before a0 Z = true := cx.1 _ (mg 100 rfl)
theorem w101 (cx : Cx a0 Z gC v_DE k_DE v_EL v_EM v_OE m_OA) : (Cond.superclass "java/util/AbstractCollection" "java/lang/Object").before a0 Z = true := cx.1 _ (mg 101 rfl)
theorem w102 (cx : Cx a0 Z gC v_DE k_DE v_EL v_EM v_OE m_OA) : (Cond.noSuperclass "java/lang/Object").before a0 Z = true := cx.1 _ (mg 102 rfl)
theorem w103 (cx : Cx a0 Z gC v_DE k_DE v_EL v_EM v_OE m_OA) : (Cond.classLink "java/util/ImmutableCollections" (12 : Nat) "java/util/ImmutableCollections$ListN").before a0 Z = true := cx.1 _ (mg 103 rfl)
theorem w104 (cx : Cx a0 Z gC v_DE k_DE v_EL v_EM v_OE m_OA) : (Cond.methodLink "java/util/ImmutableCollections" (20 : Nat) ⟨"java/util/Collection", "isEmpty", "()Z"⟩).before a0 Z = true := cx.1 _ (mg 104 rfl)
theorem w105 (cx : Cx a0 Z gC v_DE k_DE v_EL v_EM v_OE m_OA) : (Cond.declares ⟨"java/util/Collection", "isEmpty", "()Z"⟩).before a0 Z = true := cx.1 _ (mg 105 rfl)
theorem w106 (cx : Cx a0 Z gC v_DE k_DE v_EL v_EM v_OE m_OA) : (Cond.interfaceMethod "java/util/Collection" "java/util/Collection" "isEmpty" "()Z").before a0 Z = true := cx.1 _ (mg 106 rfl)
theorem w107 (cx : Cx a0 Z gC v_DE k_DE v_EL v_EM v_OE m_OA) : (Cond.selects "java/util/ArrayList" ⟨"java/util/Collection", "isEmpty", "()Z"⟩ ⟨"java/util/ArrayList", "isEmpty", "()Z"⟩).before a0 Z = true := cx.1 _ (mg 107 rfl)
theorem w108 (cx : Cx a0 Z gC v_DE k_DE v_EL v_EM v_OE m_OA) : (Cond.instanceMethod ⟨"java/util/ArrayList", "isEmpty", "()Z"⟩).before a0 Z = true := cx.1 _ (mg 108 rfl)
theorem w109 (cx : Cx a0 Z gC v_DE k_DE v_EL v_EM v_OE m_OA) : (Cond.publicMethod ⟨"java/util/ArrayList", "isEmpty", "()Z"⟩).before a0 Z = true := cx.1 _ (mg 109 rfl)
theorem w110 (cx : Cx a0 Z gC v_DE k_DE v_EL v_EM v_OE m_OA) : (Cond.unhidden "java/util/ArrayList" "isEmpty" "()Z").before a0 Z = true := cx.1 _ (mg 110 rfl)
theorem w111 (cx : Cx a0 Z gC v_DE k_DE v_EL v_EM v_OE m_OA) : (Cond.castable "java/util/ArrayList" "java/util/Collection").before a0 Z = true := cx.1 _ (mg 111 rfl)
theorem w112 (cx : Cx a0 Z gC v_DE k_DE v_EL v_EM v_OE m_OA) : (Cond.code ⟨"java/util/ArrayList", "isEmpty", "()Z"⟩ jdk_38_method_9_code (1 : Nat) (Option.some FieldType.boolean)).before a0 Z = true := cx.1 _ (mg 112 rfl)
theorem w113 (cx : Cx a0 Z gC v_DE k_DE v_EL v_EM v_OE m_OA) : (Cond.fieldLink "java/util/ArrayList" (48 : Nat) "java/util/ArrayList" "size" "I").before a0 Z = true := cx.1 _ (mg 113 rfl)
theorem w114 (cx : Cx a0 Z gC v_DE k_DE v_EL v_EM v_OE m_OA) : (Cond.lays "java/util/ArrayList" "java/util/ArrayList" "size" "I").before a0 Z = true := cx.1 _ (mg 114 rfl)
theorem w115 (cx : Cx a0 Z gC v_DE k_DE v_EL v_EM v_OE m_OA) : (Cond.methodLink "java/util/ImmutableCollections" (26 : Nat) ⟨"java/util/List", "of", "()Ljava/util/List;"⟩).before a0 Z = true := cx.1 _ (mg 115 rfl)
theorem w116 (cx : Cx a0 Z gC v_DE k_DE v_EL v_EM v_OE m_OA) : (Cond.static ⟨"java/util/List", "of", "()Ljava/util/List;"⟩).before a0 Z = true := cx.1 _ (mg 116 rfl)
theorem w117 (cx : Cx a0 Z gC v_DE k_DE v_EL v_EM v_OE m_OA) : (Cond.code ⟨"java/util/List", "of", "()Ljava/util/List;"⟩ jdk_40_method_36_code (0 : Nat) (Option.some (FieldType.object "java/util/List"))).before a0 Z = true := cx.1 _ (mg 117 rfl)
theorem w118 (cx : Cx a0 Z gC v_DE k_DE v_EL v_EM v_OE m_OA) : (Cond.fieldLink "java/util/List" (90 : Nat) "java/util/ImmutableCollections" "EMPTY_LIST" "Ljava/util/ImmutableCollections$ListN;").before a0 Z = true := cx.1 _ (mg 118 rfl)
theorem w119 (cx : Cx a0 Z gC v_DE k_DE v_EL v_EM v_OE m_OA) : (Cond.stringLink "com/example/lexbind/lexbind/messages/Explanation" (13 : Nat) (txt 119)).before a0 Z = true := cx.1 _ (mg 119 rfl)
theorem w120 (cx : Cx a0 Z gC v_DE k_DE v_EL v_EM v_OE m_OA) : (Cond.methodLink "com/example/lexbind/lexbind/messages/Explanation" (15 : Nat) ⟨"java/util/Objects", "requireNonNull", "(Ljava/lang/Object;Ljava/lang/String;)Ljava/lang/Object;"⟩).before a0 Z = true := cx.1 _ (mg 120 rfl)
theorem w121 (cx : Cx a0 Z gC v_DE k_DE v_EL v_EM v_OE m_OA) : (Cond.methodLink "com/example/lexbind/lexbind/messages/Explanation" (21 : Nat) ⟨"java/util/Optional", "isPresent", "()Z"⟩).before a0 Z = true := cx.1 _ (mg 121 rfl)
theorem w122 (cx : Cx a0 Z gC v_DE k_DE v_EL v_EM v_OE m_OA) : (Cond.declares ⟨"java/util/Optional", "isPresent", "()Z"⟩).before a0 Z = true := cx.1 _ (mg 122 rfl)
theorem w123 (cx : Cx a0 Z gC v_DE k_DE v_EL v_EM v_OE m_OA) : (Cond.instanceMethod ⟨"java/util/Optional", "isPresent", "()Z"⟩).before a0 Z = true := cx.1 _ (mg 123 rfl)
theorem w124 (cx : Cx a0 Z gC v_DE k_DE v_EL v_EM v_OE m_OA) : (Cond.selects "java/util/Optional" ⟨"java/util/Optional", "isPresent", "()Z"⟩ ⟨"java/util/Optional", "isPresent", "()Z"⟩).before a0 Z = true := cx.1 _ (mg 124 rfl)
theorem w125 (cx : Cx a0 Z gC v_DE k_DE v_EL v_EM v_OE m_OA) : (Cond.code ⟨"java/util/Optional", "isPresent", "()Z"⟩ jdk_32_method_6_code (1 : Nat) (Option.some FieldType.boolean)).before a0 Z = true := cx.1 _ (mg 125 rfl)
theorem w126 (cx : Cx a0 Z gC v_DE k_DE v_EL v_EM v_OE m_OA) : (Cond.fieldLink "java/util/Optional" (13 : Nat) "java/util/Optional" "value" "Ljava/lang/Object;").before a0 Z = true := cx.1 _ (mg 126 rfl)
theorem w127 (cx : Cx a0 Z gC v_DE k_DE v_EL v_EM v_OE m_OA) : (Cond.laysFinal "java/util/Optional" "java/util/Optional" "value" "Ljava/lang/Object;").before a0 Z = true := cx.1 _ (mg 127 rfl)
theorem w128 (cx : Cx a0 Z gC v_DE k_DE v_EL v_EM v_OE m_OA) : (Cond.fieldLink "com/example/lexbind/lexbind/messages/Explanation" (37 : Nat) "com/example/lexbind/lexbind/messages/Explanation" "steps" "Ljava/util/List;").before a0 Z = true := cx.1 _ (mg 128 rfl)
theorem w129 (cx : Cx a0 Z gC v_DE k_DE v_EL v_EM v_OE m_OA) : (Cond.laysFinal "com/example/lexbind/lexbind/messages/Explanation" "com/example/lexbind/lexbind/messages/Explanation" "steps" "Ljava/util/List;").before a0 Z = true := cx.1 _ (mg 129 rfl)
theorem w130 (cx : Cx a0 Z gC v_DE k_DE v_EL v_EM v_OE m_OA) : (Cond.fieldLink "com/example/lexbind/lexbind/messages/Explanation" (43 : Nat) "com/example/lexbind/lexbind/messages/Explanation" "text" "Ljava/util/Optional;").before a0 Z = true := cx.1 _ (mg 130 rfl)
theorem w131 (cx : Cx a0 Z gC v_DE k_DE v_EL v_EM v_OE m_OA) : (Cond.laysFinal "com/example/lexbind/lexbind/messages/Explanation" "com/example/lexbind/lexbind/messages/Explanation" "text" "Ljava/util/Optional;").before a0 Z = true := cx.1 _ (mg 131 rfl)
theorem w132 (cx : Cx a0 Z gC v_DE k_DE v_EL v_EM v_OE m_OA) : (Cond.fieldLink "com/example/lexbind/lexbind/messages/Explanation" (46 : Nat) "com/example/lexbind/lexbind/messages/Explanation" "readAgain" "Ljava/util/List;").before a0 Z = true := cx.1 _ (mg 132 rfl)
theorem w133 (cx : Cx a0 Z gC v_DE k_DE v_EL v_EM v_OE m_OA) : (Cond.laysFinal "com/example/lexbind/lexbind/messages/Explanation" "com/example/lexbind/lexbind/messages/Explanation" "readAgain" "Ljava/util/List;").before a0 Z = true := cx.1 _ (mg 133 rfl)
theorem w134 (cx : Cx a0 Z gC v_DE k_DE v_EL v_EM v_OE m_OA) : (Cond.methodLink "com/example/lexbind/lexbind/messages/ExplanationAnswerPinLaw" (51 : Nat) ⟨"com/example/lexbind/lexbind/messages/Explanation", "answer", "()Ljava/util/Optional;"⟩).before a0 Z = true := cx.1 _ (mg 134 rfl)
theorem w135 (cx : Cx a0 Z gC v_DE k_DE v_EL v_EM v_OE m_OA) : (Cond.declares ⟨"com/example/lexbind/lexbind/messages/Explanation", "answer", "()Ljava/util/Optional;"⟩).before a0 Z = true := cx.1 _ (mg 135 rfl)
theorem w136 (cx : Cx a0 Z gC v_DE k_DE v_EL v_EM v_OE m_OA) : (Cond.instanceMethod ⟨"com/example/lexbind/lexbind/messages/Explanation", "answer", "()Ljava/util/Optional;"⟩).before a0 Z = true := cx.1 _ (mg 136 rfl)
theorem w137 (cx : Cx a0 Z gC v_DE k_DE v_EL v_EM v_OE m_OA) : (Cond.selects "com/example/lexbind/lexbind/messages/Explanation" ⟨"com/example/lexbind/lexbind/messages/Explanation", "answer", "()Ljava/util/Optional;"⟩ ⟨"com/example/lexbind/lexbind/messages/Explanation", "answer", "()Ljava/util/Optional;"⟩).before a0 Z = true := cx.1 _ (mg 137 rfl)
theorem w138 (cx : Cx a0 Z gC v_DE k_DE v_EL v_EM v_OE m_OA) : (Cond.code ⟨"com/example/lexbind/lexbind/messages/Explanation", "answer", "()Ljava/util/Optional;"⟩ prog_36_method_3_code (1 : Nat) (Option.some (FieldType.object "java/util/Optional"))).before a0 Z = true := cx.1 _ (mg 138 rfl)
theorem w139 (cx : Cx a0 Z gC v_DE k_DE v_EL v_EM v_OE m_OA) : (Cond.lambdaSite ⟨"com/example/lexbind/lexbind/messages/Explanation", "answer", "()Ljava/util/Optional;"⟩ (5 : Nat) (56 : Nat) (Jvm.Lambda.Shape.mk "java/util/function/Function" "apply" (Jvm.ClassFile.MethodDescriptor.mk ([(FieldType.object "java/lang/Object")] : List Jvm.ClassFile.FieldType) (Option.some (FieldType.object "java/lang/Object"))) ([(FieldType.object "com/example/lexbind/lexbind/messages/Explanation")] : List Jvm.ClassFile.FieldType) (5 : Nat) "com/example/lexbind/lexbind/messages/Explanation" "lambda$answer$0" (Jvm.ClassFile.MethodDescriptor.mk ([(FieldType.object "java/lang/String")] : List Jvm.ClassFile.FieldType) (Option.some (FieldType.object "com/example/lexbind/lexbind/messages/Explanation$Step"))) false (Jvm.ClassFile.MethodDescriptor.mk ([(FieldType.object "java/lang/String")] : List Jvm.ClassFile.FieldType) (Option.some (FieldType.object "com/example/lexbind/lexbind/messages/Explanation$Step"))))).before a0 Z = true := cx.1 _ (mg 139 rfl)
theorem w142 (cx : Cx a0 Z gC v_DE k_DE v_EL v_EM v_OE m_OA) : (Cond.instantiable "java/lang/Object" (0 : Nat)).before a0 Z = true := cx.1 _ (mg 142 rfl)
theorem w143 (cx : Cx a0 Z gC v_DE k_DE v_EL v_EM v_OE m_OA) : (Cond.methodLink "com/example/lexbind/lexbind/messages/Explanation" (60 : Nat) ⟨"java/util/Optional", "map", "(Ljava/util/function/Function;)Ljava/util/Optional;"⟩).before a0 Z = true := cx.1 _ (mg 143 rfl)
theorem w144 (cx : Cx a0 Z gC v_DE k_DE v_EL v_EM v_OE m_OA) : (Cond.declares ⟨"java/util/Optional", "map", "(Ljava/util/function/Function;)Ljava/util/Optional;"⟩).before a0 Z = true := cx.1 _ (mg 144 rfl)
theorem w145 (cx : Cx a0 Z gC v_DE k_DE v_EL v_EM v_OE m_OA) : (Cond.instanceMethod ⟨"java/util/Optional", "map", "(Ljava/util/function/Function;)Ljava/util/Optional;"⟩).before a0 Z = true := cx.1 _ (mg 145 rfl)
theorem w146 (cx : Cx a0 Z gC v_DE k_DE v_EL v_EM v_OE m_OA) : (Cond.selects "java/util/Optional" ⟨"java/util/Optional", "map", "(Ljava/util/function/Function;)Ljava/util/Optional;"⟩ ⟨"java/util/Optional", "map", "(Ljava/util/function/Function;)Ljava/util/Optional;"⟩).before a0 Z = true := cx.1 _ (mg 146 rfl)
theorem w147 (cx : Cx a0 Z gC v_DE k_DE v_EL v_EM v_OE m_OA) : (Cond.code ⟨"java/util/Optional", "map", "(Ljava/util/function/Function;)Ljava/util/Optional;"⟩ jdk_32_method_11_code (2 : Nat) (Option.some (FieldType.object "java/util/Optional"))).before a0 Z = true := cx.1 _ (mg 147 rfl)
theorem w148 (cx : Cx a0 Z gC v_DE k_DE v_EL v_EM v_OE m_OA) : (Cond.methodLink "java/util/Optional" (17 : Nat) ⟨"java/util/Objects", "requireNonNull", "(Ljava/lang/Object;)Ljava/lang/Object;"⟩).before a0 Z = true := cx.1 _ (mg 148 rfl)
theorem w149 (cx : Cx a0 Z gC v_DE k_DE v_EL v_EM v_OE m_OA) : (Cond.static ⟨"java/util/Objects", "requireNonNull", "(Ljava/lang/Object;)Ljava/lang/Object;"⟩).before a0 Z = true := cx.1 _ (mg 149 rfl)
theorem w150 (cx : Cx a0 Z gC v_DE k_DE v_EL v_EM v_OE m_OA) : (Cond.code ⟨"java/util/Objects", "requireNonNull", "(Ljava/lang/Object;)Ljava/lang/Object;"⟩ jdk_31_method_10_code (1 : Nat) (Option.some (FieldType.object "java/lang/Object"))).before a0 Z = true := cx.1 _ (mg 150 rfl)
theorem w151 (cx : Cx a0 Z gC v_DE k_DE v_EL v_EM v_OE m_OA) : (Cond.methodLink "java/util/Optional" (43 : Nat) ⟨"java/util/Optional", "isEmpty", "()Z"⟩).before a0 Z = true := cx.1 _ (mg 151 rfl)
theorem w152 (cx : Cx a0 Z gC v_DE k_DE v_EL v_EM v_OE m_OA) : (Cond.declares ⟨"java/util/Optional", "isEmpty", "()Z"⟩).before a0 Z = true := cx.1 _ (mg 152 rfl)
theorem w153 (cx : Cx a0 Z gC v_DE k_DE v_EL v_EM v_OE m_OA) : (Cond.instanceMethod ⟨"java/util/Optional", "isEmpty", "()Z"⟩).before a0 Z = true := cx.1 _ (mg 153 rfl)
theorem w154 (cx : Cx a0 Z gC v_DE k_DE v_EL v_EM v_OE m_OA) : (Cond.selects "java/util/Optional" ⟨"java/util/Optional", "isEmpty", "()Z"⟩ ⟨"java/util/Optional", "isEmpty", "()Z"⟩).before a0 Z = true := cx.1 _ (mg 154 rfl)
theorem w155 (cx : Cx a0 Z gC v_DE k_DE v_EL v_EM v_OE m_OA) : (Cond.code ⟨"java/util/Optional", "isEmpty", "()Z"⟩ jdk_32_method_7_code (1 : Nat) (Option.some FieldType.boolean)).before a0 Z = true := cx.1 _ (mg 155 rfl)
theorem w156 (cx : Cx a0 Z gC v_DE k_DE v_EL v_EM v_OE m_OA) : (Cond.methodLink "java/util/Optional" (53 : Nat) ⟨"java/util/Optional", "empty", "()Ljava/util/Optional;"⟩).before a0 Z = true := cx.1 _ (mg 156 rfl)
theorem w157 (cx : Cx a0 Z gC v_DE k_DE v_EL v_EM v_OE m_OA) : (Cond.methodLink "com/example/lexbind/lexbind/messages/ExplanationAnswerPinLaw" (54 : Nat) ⟨"java/util/Optional", "isPresent", "()Z"⟩).before a0 Z = true := cx.1 _ (mg 157 rfl)
theorem w158 (cx : Cx a0 Z gC v_DE k_DE v_EL v_EM v_OE m_OA) : (Cond.methodLink "com/example/lexbind/lexbind/messages/ExplanationAnswerPinLaw" (27 : Nat) ⟨"java/util/List", "add", "(Ljava/lang/Object;)Z"⟩).before a0 Z = true := cx.1 _ (mg 158 rfl)
theorem w159 (cx : Cx a0 Z gC v_DE k_DE v_EL v_EM v_OE m_OA) : (Cond.declares ⟨"java/util/List", "add", "(Ljava/lang/Object;)Z"⟩).before a0 Z = true := cx.1 _ (mg 159 rfl)
theorem w160 (cx : Cx a0 Z gC v_DE k_DE v_EL v_EM v_OE m_OA) : (Cond.interfaceMethod "java/util/List" "java/util/List" "add" "(Ljava/lang/Object;)Z").before a0 Z = true := cx.1 _ (mg 160 rfl)
theorem w161 (cx : Cx a0 Z gC v_DE k_DE v_EL v_EM v_OE m_OA) : (Cond.selects "java/util/ArrayList" ⟨"java/util/List", "add", "(Ljava/lang/Object;)Z"⟩ ⟨"java/util/ArrayList", "add", "(Ljava/lang/Object;)Z"⟩).before a0 Z = true := cx.1 _ (mg 161 rfl)
theorem w162 (cx : Cx a0 Z gC v_DE k_DE v_EL v_EM v_OE m_OA) : (Cond.instanceMethod ⟨"java/util/ArrayList", "add", "(Ljava/lang/Object;)Z"⟩).before a0 Z = true := cx.1 _ (mg 162 rfl)
theorem w163 (cx : Cx a0 Z gC v_DE k_DE v_EL v_EM v_OE m_OA) : (Cond.publicMethod ⟨"java/util/ArrayList", "add", "(Ljava/lang/Object;)Z"⟩).before a0 Z = true := cx.1 _ (mg 163 rfl)
theorem w164 (cx : Cx a0 Z gC v_DE k_DE v_EL v_EM v_OE m_OA) : (Cond.unhidden "java/util/ArrayList" "add" "(Ljava/lang/Object;)Z").before a0 Z = true := cx.1 _ (mg 164 rfl)
theorem w165 (cx : Cx a0 Z gC v_DE k_DE v_EL v_EM v_OE m_OA) : (Cond.castable "java/util/ArrayList" "java/util/List").before a0 Z = true := cx.1 _ (mg 165 rfl)
theorem w166 (cx : Cx a0 Z gC v_DE k_DE v_EL v_EM v_OE m_OA) : (Cond.code ⟨"java/util/ArrayList", "add", "(Ljava/lang/Object;)Z"⟩ jdk_38_method_25_code (2 : Nat) (Option.some FieldType.boolean)).before a0 Z = true := cx.1 _ (mg 166 rfl)
theorem w167 (cx : Cx a0 Z gC v_DE k_DE v_EL v_EM v_OE m_OA) : (Cond.fieldLink "java/util/ArrayList" (63 : Nat) "java/util/ArrayList" "modCount" "I").before a0 Z = true := cx.1 _ (mg 167 rfl)
theorem w168 (cx : Cx a0 Z gC v_DE k_DE v_EL v_EM v_OE m_OA) : (Cond.sameField "java/util/ArrayList" "java/util/AbstractList" "modCount" "I").before a0 Z = true := cx.1 _ (mg 168 rfl)
theorem w169 (cx : Cx a0 Z gC v_DE k_DE v_EL v_EM v_OE m_OA) : (Cond.methodLink "java/util/ArrayList" (131 : Nat) ⟨"java/util/ArrayList", "add", "(Ljava/lang/Object;[Ljava/lang/Object;I)V"⟩).before a0 Z = true := cx.1 _ (mg 169 rfl)
theorem w170 (cx : Cx a0 Z gC v_DE k_DE v_EL v_EM v_OE m_OA) : (Cond.instanceMethod ⟨"java/util/ArrayList", "add", "(Ljava/lang/Object;[Ljava/lang/Object;I)V"⟩).before a0 Z = true := cx.1 _ (mg 170 rfl)
theorem w172 (cx : Cx a0 Z gC v_DE k_DE v_EL v_EM v_OE m_OA) : (Cond.selects "java/util/ArrayList" ⟨"java/util/ArrayList", "add", "(Ljava/lang/Object;[Ljava/lang/Object;I)V"⟩ ⟨"java/util/ArrayList", "add", "(Ljava/lang/Object;[Ljava/lang/Object;I)V"⟩).before a0 Z = true := cx.1 _ (mg 172 rfl)
theorem w173 (cx : Cx a0 Z gC v_DE k_DE v_EL v_EM v_OE m_OA) : (Cond.code ⟨"java/util/ArrayList", "add", "(Ljava/lang/Object;[Ljava/lang/Object;I)V"⟩ jdk_38_method_24_code (4 : Nat) (Option.none : Option Jvm.ClassFile.FieldType)).before a0 Z = true := cx.1 _ (mg 173 rfl)
theorem w174 (cx : Cx a0 Z gC v_DE k_DE v_EL v_EM v_OE m_OA) : (Cond.methodLink "java/util/ArrayList" (129 : Nat) ⟨"java/util/ArrayList", "grow", "()[Ljava/lang/Object;"⟩).before a0 Z = true := cx.1 _ (mg 174 rfl)
theorem w175 (cx : Cx a0 Z gC v_DE k_DE v_EL v_EM v_OE m_OA) : (Cond.instanceMethod ⟨"java/util/ArrayList", "grow", "()[Ljava/lang/Object;"⟩).before a0 Z = true := cx.1 _ (mg 175 rfl)
theorem w177 (cx : Cx a0 Z gC v_DE k_DE v_EL v_EM v_OE m_OA) : (Cond.selects "java/util/ArrayList" ⟨"java/util/ArrayList", "grow", "()[Ljava/lang/Object;"⟩ ⟨"java/util/ArrayList", "grow", "()[Ljava/lang/Object;"⟩).before a0 Z = true := cx.1 _ (mg 177 rfl)
theorem w178 (cx : Cx a0 Z gC v_DE k_DE v_EL v_EM v_OE m_OA) : (Cond.code ⟨"java/util/ArrayList", "grow", "()[Ljava/lang/Object;"⟩ jdk_38_method_7_code (1 : Nat) (Option.some (FieldType.array (FieldType.object "java/lang/Object")))).before a0 Z = true := cx.1 _ (mg 178 rfl)
theorem w179 (cx : Cx a0 Z gC v_DE k_DE v_EL v_EM v_OE m_OA) : (Cond.methodLink "java/util/ArrayList" (69 : Nat) ⟨"java/util/ArrayList", "grow", "(I)[Ljava/lang/Object;"⟩).before a0 Z = true := cx.1 _ (mg 179 rfl)
theorem w180 (cx : Cx a0 Z gC v_DE k_DE v_EL v_EM v_OE m_OA) : (Cond.instanceMethod ⟨"java/util/ArrayList", "grow", "(I)[Ljava/lang/Object;"⟩).before a0 Z = true := cx.1 _ (mg 180 rfl)
theorem w182 (cx : Cx a0 Z gC v_DE k_DE v_EL v_EM v_OE m_OA) : (Cond.selects "java/util/ArrayList" ⟨"java/util/ArrayList", "grow", "(I)[Ljava/lang/Object;"⟩ ⟨"java/util/ArrayList", "grow", "(I)[Ljava/lang/Object;"⟩).before a0 Z = true := cx.1 _ (mg 182 rfl)
theorem w183 (cx : Cx a0 Z gC v_DE k_DE v_EL v_EM v_OE m_OA) : (Cond.code ⟨"java/util/ArrayList", "grow", "(I)[Ljava/lang/Object;"⟩ jdk_38_method_6_code (4 : Nat) (Option.some (FieldType.array (FieldType.object "java/lang/Object")))).before a0 Z = true := cx.1 _ (mg 183 rfl)
theorem w184 (cx : Cx a0 Z gC v_DE k_DE v_EL v_EM v_OE m_OA) : (Cond.methodLink "java/util/ArrayList" (79 : Nat) ⟨"java/lang/Math", "max", "(II)I"⟩).before a0 Z = true := cx.1 _ (mg 184 rfl)
theorem w185 (cx : Cx a0 Z gC v_DE k_DE v_EL v_EM v_OE m_OA) : (Cond.static ⟨"java/lang/Math", "max", "(II)I"⟩).before a0 Z = true := cx.1 _ (mg 185 rfl)
theorem w186 (cx : Cx a0 Z gC v_DE k_DE v_EL v_EM v_OE m_OA) : (Cond.initialized "java/lang/Math").before a0 Z = true := cx.1 _ (mg 186 rfl)
theorem w187 (cx : Cx a0 Z gC v_DE k_DE v_EL v_EM v_OE m_OA) : (Cond.code ⟨"java/lang/Math", "max", "(II)I"⟩ jdk_29_method_65_code (2 : Nat) (Option.some FieldType.int)).before a0 Z = true := cx.1 _ (mg 187 rfl)
theorem w188 (cx : Cx a0 Z gC v_DE k_DE v_EL v_EM v_OE m_OA) : (Cond.classLink "java/util/ArrayList" (7 : Nat) "java/lang/Object").before a0 Z = true := cx.1 _ (mg 188 rfl)
theorem w189 (cx : Cx a0 Z gC v_DE k_DE v_EL v_EM v_OE m_OA) : (Cond.arrayOver (FieldType.object "java/lang/Object")).before a0 Z = true := cx.1 _ (mg 189 rfl)
theorem w190 (cx : Cx a0 Z gC v_DE k_DE v_EL v_EM v_OE m_OA) : (Cond.castable "com/example/lexbind/lexbind/messages/Explanation$Step" "java/lang/Object").before a0 Z = true := cx.1 _ (mg 190 rfl)
theorem w191 (cx : Cx a0 Z gC v_DE k_DE v_EL v_EM v_OE m_OA) : (Cond.classLink "com/example/lexbind/lexbind/messages/ExplanationAnswerPinLaw" (8 : Nat) "java/lang/String").before a0 Z = true := cx.1 _ (mg 191 rfl)
theorem w192 (cx : Cx a0 Z gC v_DE k_DE v_EL v_EM v_OE m_OA) : (Cond.methodLink "com/example/lexbind/lexbind/messages/ExplanationAnswerPinLaw" (33 : Nat) ⟨"java/lang/String", "<init>", "([C)V"⟩).before a0 Z = true := cx.1 _ (mg 192 rfl)
theorem w193 (cx : Cx a0 Z gC v_DE k_DE v_EL v_EM v_OE m_OA) : (Cond.instanceMethod ⟨"java/lang/String", "<init>", "([C)V"⟩).before a0 Z = true := cx.1 _ (mg 193 rfl)
theorem w194 (cx : Cx a0 Z gC v_DE k_DE v_EL v_EM v_OE m_OA) : (Cond.code ⟨"java/lang/String", "<init>", "([C)V"⟩ jdk_42_method_3_code (2 : Nat) (Option.none : Option Jvm.ClassFile.FieldType)).before a0 Z = true := cx.1 _ (mg 194 rfl)
theorem w208 (cx : Cx a0 Z gC v_DE k_DE v_EL v_EM v_OE m_OA) : (Cond.methodLink "com/example/lexbind/lexbind/messages/ExplanationAnswerPinLaw" (36 : Nat) ⟨"java/util/Optional", "of", "(Ljava/lang/Object;)Ljava/util/Optional;"⟩).before a0 Z = true := cx.1 _ (mg 208 rfl)
theorem w209 (cx : Cx a0 Z gC v_DE k_DE v_EL v_EM v_OE m_OA) : (Cond.static ⟨"java/util/Optional", "of", "(Ljava/lang/Object;)Ljava/util/Optional;"⟩).before a0 Z = true := cx.1 _ (mg 209 rfl)
theorem w210 (cx : Cx a0 Z gC v_DE k_DE v_EL v_EM v_OE m_OA) : (Cond.code ⟨"java/util/Optional", "of", "(Ljava/lang/Object;)Ljava/util/Optional;"⟩ jdk_32_method_3_code (1 : Nat) (Option.some (FieldType.object "java/util/Optional"))).before a0 Z = true := cx.1 _ (mg 210 rfl)
theorem w211 (cx : Cx a0 Z gC v_DE k_DE v_EL v_EM v_OE m_OA) : (Cond.classLink "java/util/Optional" (2 : Nat) "java/util/Optional").before a0 Z = true := cx.1 _ (mg 211 rfl)
theorem w212 (cx : Cx a0 Z gC v_DE k_DE v_EL v_EM v_OE m_OA) : (Cond.instantiable "java/util/Optional" (1 : Nat)).before a0 Z = true := cx.1 _ (mg 212 rfl)
theorem w213 (cx : Cx a0 Z gC v_DE k_DE v_EL v_EM v_OE m_OA) : (Cond.methodLink "java/util/Optional" (23 : Nat) ⟨"java/util/Optional", "<init>", "(Ljava/lang/Object;)V"⟩).before a0 Z = true := cx.1 _ (mg 213 rfl)
theorem w214 (cx : Cx a0 Z gC v_DE k_DE v_EL v_EM v_OE m_OA) : (Cond.instanceMethod ⟨"java/util/Optional", "<init>", "(Ljava/lang/Object;)V"⟩).before a0 Z = true := cx.1 _ (mg 214 rfl)
theorem w216 (cx : Cx a0 Z gC v_DE k_DE v_EL v_EM v_OE m_OA) : (Cond.code ⟨"java/util/Optional", "<init>", "(Ljava/lang/Object;)V"⟩ jdk_32_method_2_code (2 : Nat) (Option.none : Option Jvm.ClassFile.FieldType)).before a0 Z = true := cx.1 _ (mg 216 rfl)
theorem w217 (cx : Cx a0 Z gC v_DE k_DE v_EL v_EM v_OE m_OA) : (Cond.methodLink "java/util/Optional" (7 : Nat) ⟨"java/lang/Object", "<init>", "()V"⟩).before a0 Z = true := cx.1 _ (mg 217 rfl)
theorem w218 (cx : Cx a0 Z gC v_DE k_DE v_EL v_EM v_OE m_OA) : (Cond.methodLink "java/util/ImmutableCollections" (30 : Nat) ⟨"java/util/Collection", "toArray", "()[Ljava/lang/Object;"⟩).before a0 Z = true := cx.1 _ (mg 218 rfl)
theorem w219 (cx : Cx a0 Z gC v_DE k_DE v_EL v_EM v_OE m_OA) : (Cond.declares ⟨"java/util/Collection", "toArray", "()[Ljava/lang/Object;"⟩).before a0 Z = true := cx.1 _ (mg 219 rfl)
theorem w220 (cx : Cx a0 Z gC v_DE k_DE v_EL v_EM v_OE m_OA) : (Cond.interfaceMethod "java/util/Collection" "java/util/Collection" "toArray" "()[Ljava/lang/Object;").before a0 Z = true := cx.1 _ (mg 220 rfl)
theorem w221 (cx : Cx a0 Z gC v_DE k_DE v_EL v_EM v_OE m_OA) : (Cond.selects "java/util/ArrayList" ⟨"java/util/Collection", "toArray", "()[Ljava/lang/Object;"⟩ ⟨"java/util/ArrayList", "toArray", "()[Ljava/lang/Object;"⟩).before a0 Z = true := cx.1 _ (mg 221 rfl)
theorem w222 (cx : Cx a0 Z gC v_DE k_DE v_EL v_EM v_OE m_OA) : (Cond.instanceMethod ⟨"java/util/ArrayList", "toArray", "()[Ljava/lang/Object;"⟩).before a0 Z = true := cx.1 _ (mg 222 rfl)
theorem w223 (cx : Cx a0 Z gC v_DE k_DE v_EL v_EM v_OE m_OA) : (Cond.publicMethod ⟨"java/util/ArrayList", "toArray", "()[Ljava/lang/Object;"⟩).before a0 Z = true := cx.1 _ (mg 223 rfl)
theorem w224 (cx : Cx a0 Z gC v_DE k_DE v_EL v_EM v_OE m_OA) : (Cond.unhidden "java/util/ArrayList" "toArray" "()[Ljava/lang/Object;").before a0 Z = true := cx.1 _ (mg 224 rfl)
theorem w225 (cx : Cx a0 Z gC v_DE k_DE v_EL v_EM v_OE m_OA) : (Cond.code ⟨"java/util/ArrayList", "toArray", "()[Ljava/lang/Object;"⟩ jdk_38_method_16_code (1 : Nat) (Option.some (FieldType.array (FieldType.object "java/lang/Object")))).before a0 Z = true := cx.1 _ (mg 225 rfl)
theorem w226 (cx : Cx a0 Z gC v_DE k_DE v_EL v_EM v_OE m_OA) : (Cond.methodLink "java/util/ArrayList" (66 : Nat) ⟨"java/util/Arrays", "copyOf", "([Ljava/lang/Object;I)[Ljava/lang/Object;"⟩).before a0 Z = true := cx.1 _ (mg 226 rfl)
theorem w227 (cx : Cx a0 Z gC v_DE k_DE v_EL v_EM v_OE m_OA) : (Cond.static ⟨"java/util/Arrays", "copyOf", "([Ljava/lang/Object;I)[Ljava/lang/Object;"⟩).before a0 Z = true := cx.1 _ (mg 227 rfl)
theorem w228 (cx : Cx a0 Z gC v_DE k_DE v_EL v_EM v_OE m_OA) : (Cond.initialized "java/util/Arrays").before a0 Z = true := cx.1 _ (mg 228 rfl)
theorem w229 (cx : Cx a0 Z gC v_DE k_DE v_EL v_EM v_OE m_OA) : (Cond.code ⟨"java/util/Arrays", "copyOf", "([Ljava/lang/Object;I)[Ljava/lang/Object;"⟩ jdk_65_method_119_code (2 : Nat) (Option.some (FieldType.array (FieldType.object "java/lang/Object")))).before a0 Z = true := cx.1 _ (mg 229 rfl)
theorem w230 (cx : Cx a0 Z gC v_DE k_DE v_EL v_EM v_OE m_OA) : (Cond.methodLink "java/util/Arrays" (86 : Nat) ⟨"java/lang/Object", "getClass", "()Ljava/lang/Class;"⟩).before a0 Z = true := cx.1 _ (mg 230 rfl)
theorem w231 (cx : Cx a0 Z gC v_DE k_DE v_EL v_EM v_OE m_OA) : (Cond.declares ⟨"java/lang/Object", "getClass", "()Ljava/lang/Class;"⟩).before a0 Z = true := cx.1 _ (mg 231 rfl)
theorem w232 (cx : Cx a0 Z gC v_DE k_DE v_EL v_EM v_OE m_OA) : (Cond.instanceMethod ⟨"java/lang/Object", "getClass", "()Ljava/lang/Class;"⟩).before a0 Z = true := cx.1 _ (mg 232 rfl)
theorem w233 (cx : Cx a0 Z gC v_DE k_DE v_EL v_EM v_OE m_OA) : (Cond.selects "[Ljava/lang/Object;" ⟨"java/lang/Object", "getClass", "()Ljava/lang/Class;"⟩ ⟨"java/lang/Object", "getClass", "()Ljava/lang/Class;"⟩).before a0 Z = true := cx.1 _ (mg 233 rfl)
theorem w234 (cx : Cx a0 Z gC v_DE k_DE v_EL v_EM v_OE m_OA) : (Cond.native ⟨"java/lang/Object", "getClass", "()Ljava/lang/Class;"⟩).before a0 Z = true := cx.1 _ (mg 234 rfl)
theorem w236 (cx : Cx a0 Z gC v_DE k_DE v_EL v_EM v_OE m_OA) : (Cond.methodLink "java/util/Arrays" (300 : Nat) ⟨"java/util/Arrays", "copyOf", "([Ljava/lang/Object;ILjava/lang/Class;)[Ljava/lang/Object;"⟩).before a0 Z = true := cx.1 _ (mg 236 rfl)
theorem w237 (cx : Cx a0 Z gC v_DE k_DE v_EL v_EM v_OE m_OA) : (Cond.static ⟨"java/util/Arrays", "copyOf", "([Ljava/lang/Object;ILjava/lang/Class;)[Ljava/lang/Object;"⟩).before a0 Z = true := cx.1 _ (mg 237 rfl)
theorem w238 (cx : Cx a0 Z gC v_DE k_DE v_EL v_EM v_OE m_OA) : (Cond.code ⟨"java/util/Arrays", "copyOf", "([Ljava/lang/Object;ILjava/lang/Class;)[Ljava/lang/Object;"⟩ jdk_65_method_120_code (4 : Nat) (Option.some (FieldType.array (FieldType.object "java/lang/Object")))).before a0 Z = true := cx.1 _ (mg 238 rfl)
theorem w239 (cx : Cx a0 Z gC v_DE k_DE v_EL v_EM v_OE m_OA) : (Cond.classLink "java/util/Arrays" (110 : Nat) "[Ljava/lang/Object;").before a0 Z = true := cx.1 _ (mg 239 rfl)
theorem w240 (cx : Cx a0 Z gC v_DE k_DE v_EL v_EM v_OE m_OA) : (Cond.classLink "java/util/Arrays" (2 : Nat) "java/lang/Object").before a0 Z = true := cx.1 _ (mg 240 rfl)
theorem w241 (cx : Cx a0 Z gC v_DE k_DE v_EL v_EM v_OE m_OA) : (Cond.methodLink "java/util/Arrays" (304 : Nat) ⟨"java/lang/Math", "min", "(II)I"⟩).before a0 Z = true := cx.1 _ (mg 241 rfl)
theorem w242 (cx : Cx a0 Z gC v_DE k_DE v_EL v_EM v_OE m_OA) : (Cond.static ⟨"java/lang/Math", "min", "(II)I"⟩).before a0 Z = true := cx.1 _ (mg 242 rfl)
theorem w243 (cx : Cx a0 Z gC v_DE k_DE v_EL v_EM v_OE m_OA) : (Cond.code ⟨"java/lang/Math", "min", "(II)I"⟩ jdk_29_method_69_code (2 : Nat) (Option.some FieldType.int)).before a0 Z = true := cx.1 _ (mg 243 rfl)
theorem w244 (cx : Cx a0 Z gC v_DE k_DE v_EL v_EM v_OE m_OA) : (Cond.methodLink "java/util/Arrays" (150 : Nat) ⟨"java/lang/System", "arraycopy", "(Ljava/lang/Object;ILjava/lang/Object;II)V"⟩).before a0 Z = true := cx.1 _ (mg 244 rfl)
theorem w245 (cx : Cx a0 Z gC v_DE k_DE v_EL v_EM v_OE m_OA) : (Cond.static ⟨"java/lang/System", "arraycopy", "(Ljava/lang/Object;ILjava/lang/Object;II)V"⟩).before a0 Z = true := cx.1 _ (mg 245 rfl)
theorem w246 (cx : Cx a0 Z gC v_DE k_DE v_EL v_EM v_OE m_OA) : (Cond.initialized "java/lang/System").before a0 Z = true := cx.1 _ (mg 246 rfl)
theorem w247 (cx : Cx a0 Z gC v_DE k_DE v_EL v_EM v_OE m_OA) : (Cond.native ⟨"java/lang/System", "arraycopy", "(Ljava/lang/Object;ILjava/lang/Object;II)V"⟩).before a0 Z = true := cx.1 _ (mg 247 rfl)
theorem w248 (cx : Cx a0 Z gC v_DE k_DE v_EL v_EM v_OE m_OA) : (Cond.methodLink "java/util/ImmutableCollections" (34 : Nat) ⟨"java/util/List", "of", "([Ljava/lang/Object;)Ljava/util/List;"⟩).before a0 Z = true := cx.1 _ (mg 248 rfl)
theorem w249 (cx : Cx a0 Z gC v_DE k_DE v_EL v_EM v_OE m_OA) : (Cond.static ⟨"java/util/List", "of", "([Ljava/lang/Object;)Ljava/util/List;"⟩).before a0 Z = true := cx.1 _ (mg 249 rfl)
theorem w250 (cx : Cx a0 Z gC v_DE k_DE v_EL v_EM v_OE m_OA) : (Cond.code ⟨"java/util/List", "of", "([Ljava/lang/Object;)Ljava/util/List;"⟩ jdk_40_method_47_code (2 : Nat) (Option.some (FieldType.object "java/util/List"))).before a0 Z = true := cx.1 _ (mg 250 rfl)
theorem w251 (cx : Cx a0 Z gC v_DE k_DE v_EL v_EM v_OE m_OA) : (Cond.methodLink "java/util/List" (109 : Nat) ⟨"java/util/ImmutableCollections", "listFromArray", "([Ljava/lang/Object;)Ljava/util/List;"⟩).before a0 Z = true := cx.1 _ (mg 251 rfl)
theorem w252 (cx : Cx a0 Z gC v_DE k_DE v_EL v_EM v_OE m_OA) : (Cond.static ⟨"java/util/ImmutableCollections", "listFromArray", "([Ljava/lang/Object;)Ljava/util/List;"⟩).before a0 Z = true := cx.1 _ (mg 252 rfl)
theorem w253 (cx : Cx a0 Z gC v_DE k_DE v_EL v_EM v_OE m_OA) : (Cond.code ⟨"java/util/ImmutableCollections", "listFromArray", "([Ljava/lang/Object;)Ljava/util/List;"⟩ jdk_56_method_4_code (3 : Nat) (Option.some (FieldType.object "java/util/List"))).before a0 Z = true := cx.1 _ (mg 253 rfl)
theorem w254 (cx : Cx a0 Z gC v_DE k_DE v_EL v_EM v_OE m_OA) : (Cond.classLink "java/util/ImmutableCollections" (2 : Nat) "java/lang/Object").before a0 Z = true := cx.1 _ (mg 254 rfl)
theorem w255 (cx : Cx a0 Z gC v_DE k_DE v_EL v_EM v_OE m_OA) : (Cond.methodLink "java/util/ImmutableCollections" (37 : Nat) ⟨"java/util/Objects", "requireNonNull", "(Ljava/lang/Object;)Ljava/lang/Object;"⟩).before a0 Z = true := cx.1 _ (mg 255 rfl)
theorem w256 (cx : Cx a0 Z gC v_DE k_DE v_EL v_EM v_OE m_OA) : (Cond.instantiable "java/util/ImmutableCollections$ListN" (2 : Nat)).before a0 Z = true := cx.1 _ (mg 256 rfl)
theorem w257 (cx : Cx a0 Z gC v_DE k_DE v_EL v_EM v_OE m_OA) : (Cond.initialized "java/util/ImmutableCollections$ListN").before a0 Z = true := cx.1 _ (mg 257 rfl)
theorem w258 (cx : Cx a0 Z gC v_DE k_DE v_EL v_EM v_OE m_OA) : (Cond.methodLinkNest "java/util/ImmutableCollections" (43 : Nat) ⟨"java/util/ImmutableCollections$ListN", "<init>", "([Ljava/lang/Object;Z)V"⟩ "java/util/ImmutableCollections").before a0 Z = true := cx.1 _ (mg 258 rfl)
theorem w259 (cx : Cx a0 Z gC v_DE k_DE v_EL v_EM v_OE m_OA) : (Cond.instanceMethod ⟨"java/util/ImmutableCollections$ListN", "<init>", "([Ljava/lang/Object;Z)V"⟩).before a0 Z = true := cx.1 _ (mg 259 rfl)
theorem w261 (cx : Cx a0 Z gC v_DE k_DE v_EL v_EM v_OE m_OA) : (Cond.code ⟨"java/util/ImmutableCollections$ListN", "<init>", "([Ljava/lang/Object;Z)V"⟩ jdk_45_method_1_code (3 : Nat) (Option.none : Option Jvm.ClassFile.FieldType)).before a0 Z = true := cx.1 _ (mg 261 rfl)
theorem w262 (cx : Cx a0 Z gC v_DE k_DE v_EL v_EM v_OE m_OA) : (Cond.methodLink "java/util/ImmutableCollections$ListN" (1 : Nat) ⟨"java/util/ImmutableCollections$AbstractImmutableList", "<init>", "()V"⟩).before a0 Z = true := cx.1 _ (mg 262 rfl)
theorem w263 (cx : Cx a0 Z gC v_DE k_DE v_EL v_EM v_OE m_OA) : (Cond.instanceMethod ⟨"java/util/ImmutableCollections$AbstractImmutableList", "<init>", "()V"⟩).before a0 Z = true := cx.1 _ (mg 263 rfl)
theorem w266 (cx : Cx a0 Z gC v_DE k_DE v_EL v_EM v_OE m_OA) : (Cond.initialized "java/util/ImmutableCollections$AbstractImmutableList").before a0 Z = true := cx.1 _ (mg 266 rfl)
theorem w267 (cx : Cx a0 Z gC v_DE k_DE v_EL v_EM v_OE m_OA) : (Cond.code ⟨"java/util/ImmutableCollections$AbstractImmutableList", "<init>", "()V"⟩ jdk_46_method_1_code (1 : Nat) (Option.none : Option Jvm.ClassFile.FieldType)).before a0 Z = true := cx.1 _ (mg 267 rfl)
theorem w268 (cx : Cx a0 Z gC v_DE k_DE v_EL v_EM v_OE m_OA) : (Cond.methodLink "java/util/ImmutableCollections$AbstractImmutableList" (1 : Nat) ⟨"java/util/ImmutableCollections$AbstractImmutableCollection", "<init>", "()V"⟩).before a0 Z = true := cx.1 _ (mg 268 rfl)
theorem w269 (cx : Cx a0 Z gC v_DE k_DE v_EL v_EM v_OE m_OA) : (Cond.instanceMethod ⟨"java/util/ImmutableCollections$AbstractImmutableCollection", "<init>", "()V"⟩).before a0 Z = true := cx.1 _ (mg 269 rfl)
theorem w272 (cx : Cx a0 Z gC v_DE k_DE v_EL v_EM v_OE m_OA) : (Cond.initialized "java/util/ImmutableCollections$AbstractImmutableCollection").before a0 Z = true := cx.1 _ (mg 272 rfl)
theorem w273 (cx : Cx a0 Z gC v_DE k_DE v_EL v_EM v_OE m_OA) : (Cond.code ⟨"java/util/ImmutableCollections$AbstractImmutableCollection", "<init>", "()V"⟩ jdk_47_method_1_code (1 : Nat) (Option.none : Option Jvm.ClassFile.FieldType)).before a0 Z = true := cx.1 _ (mg 273 rfl)
theorem w274 (cx : Cx a0 Z gC v_DE k_DE v_EL v_EM v_OE m_OA) : (Cond.methodLink "java/util/ImmutableCollections$AbstractImmutableCollection" (1 : Nat) ⟨"java/util/AbstractCollection", "<init>", "()V"⟩).before a0 Z = true := cx.1 _ (mg 274 rfl)
theorem w276 (cx : Cx a0 Z gC v_DE k_DE v_EL v_EM v_OE m_OA) : (Cond.fieldLink "java/util/ImmutableCollections$ListN" (7 : Nat) "java/util/ImmutableCollections$ListN" "elements" "[Ljava/lang/Object;").before a0 Z = true := cx.1 _ (mg 276 rfl)
theorem w277 (cx : Cx a0 Z gC v_DE k_DE v_EL v_EM v_OE m_OA) : (Cond.laysFinal "java/util/ImmutableCollections$ListN" "java/util/ImmutableCollections$ListN" "elements" "[Ljava/lang/Object;").before a0 Z = true := cx.1 _ (mg 277 rfl)
theorem w278 (cx : Cx a0 Z gC v_DE k_DE v_EL v_EM v_OE m_OA) : (Cond.fieldLink "java/util/ImmutableCollections$ListN" (13 : Nat) "java/util/ImmutableCollections$ListN" "allowNulls" "Z").before a0 Z = true := cx.1 _ (mg 278 rfl)
theorem w279 (cx : Cx a0 Z gC v_DE k_DE v_EL v_EM v_OE m_OA) : (Cond.laysFinal "java/util/ImmutableCollections$ListN" "java/util/ImmutableCollections$ListN" "allowNulls" "Z").before a0 Z = true := cx.1 _ (mg 279 rfl)
theorem w280 (cx : Cx a0 Z gC v_DE k_DE v_EL v_EM v_OE m_OA) : (Cond.methodLink "com/example/lexbind/lexbind/messages/Explanation" (27 : Nat) ⟨"java/util/List", "isEmpty", "()Z"⟩).before a0 Z = true := cx.1 _ (mg 280 rfl)
theorem w281 (cx : Cx a0 Z gC v_DE k_DE v_EL v_EM v_OE m_OA) : (Cond.declares ⟨"java/util/List", "isEmpty", "()Z"⟩).before a0 Z = true := cx.1 _ (mg 281 rfl)
theorem w282 (cx : Cx a0 Z gC v_DE k_DE v_EL v_EM v_OE m_OA) : (Cond.interfaceMethod "java/util/List" "java/util/List" "isEmpty" "()Z").before a0 Z = true := cx.1 _ (mg 282 rfl)
theorem w283 (cx : Cx a0 Z gC v_DE k_DE v_EL v_EM v_OE m_OA) : (Cond.selects "java/util/ImmutableCollections$ListN" ⟨"java/util/List", "isEmpty", "()Z"⟩ ⟨"java/util/ImmutableCollections$ListN", "isEmpty", "()Z"⟩).before a0 Z = true := cx.1 _ (mg 283 rfl)
theorem w284 (cx : Cx a0 Z gC v_DE k_DE v_EL v_EM v_OE m_OA) : (Cond.instanceMethod ⟨"java/util/ImmutableCollections$ListN", "isEmpty", "()Z"⟩).before a0 Z = true := cx.1 _ (mg 284 rfl)
theorem w285 (cx : Cx a0 Z gC v_DE k_DE v_EL v_EM v_OE m_OA) : (Cond.publicMethod ⟨"java/util/ImmutableCollections$ListN", "isEmpty", "()Z"⟩).before a0 Z = true := cx.1 _ (mg 285 rfl)
theorem w286 (cx : Cx a0 Z gC v_DE k_DE v_EL v_EM v_OE m_OA) : (Cond.unhidden "java/util/ImmutableCollections$ListN" "isEmpty" "()Z").before a0 Z = true := cx.1 _ (mg 286 rfl)
theorem w287 (cx : Cx a0 Z gC v_DE k_DE v_EL v_EM v_OE m_OA) : (Cond.castable "java/util/ImmutableCollections$ListN" "java/util/List").before a0 Z = true := cx.1 _ (mg 287 rfl)
theorem w288 (cx : Cx a0 Z gC v_DE k_DE v_EL v_EM v_OE m_OA) : (Cond.code ⟨"java/util/ImmutableCollections$ListN", "isEmpty", "()Z"⟩ jdk_45_method_2_code (1 : Nat) (Option.some FieldType.boolean)).before a0 Z = true := cx.1 _ (mg 288 rfl)
theorem w289 (cx : Cx a0 Z gC v_DE k_DE v_EL v_EM v_OE m_OA) : (Cond.methodLink "java/util/Optional" (57 : Nat) ⟨"java/util/function/Function", "apply", "(Ljava/lang/Object;)Ljava/lang/Object;"⟩).before a0 Z = true := cx.1 _ (mg 289 rfl)
theorem w290 (cx : Cx a0 Z gC v_DE k_DE v_EL v_EM v_OE m_OA) : (Cond.declares ⟨"java/util/function/Function", "apply", "(Ljava/lang/Object;)Ljava/lang/Object;"⟩).before a0 Z = true := cx.1 _ (mg 290 rfl)
theorem w291 (cx : Cx a0 Z gC v_DE k_DE v_EL v_EM v_OE m_OA) : (Cond.interfaceMethod "java/util/function/Function" "java/util/function/Function" "apply" "(Ljava/lang/Object;)Ljava/lang/Object;").before a0 Z = true := cx.1 _ (mg 291 rfl)
theorem w292 (cx : Cx a0 Z gC v_DE k_DE v_EL v_EM v_OE m_OA) : (Cond.instanceMethod ⟨"com/example/lexbind/lexbind/messages/Explanation", "lambda$answer$0", "(Ljava/lang/String;)Lcom/example/lexbind/lexbind/messages/Explanation$Step;"⟩).before a0 Z = true := cx.1 _ (mg 292 rfl)
theorem w293 (cx : Cx a0 Z gC v_DE k_DE v_EL v_EM v_OE m_OA) : (Cond.privateMethod ⟨"com/example/lexbind/lexbind/messages/Explanation", "lambda$answer$0", "(Ljava/lang/String;)Lcom/example/lexbind/lexbind/messages/Explanation$Step;"⟩).before a0 Z = true := cx.1 _ (mg 293 rfl)
theorem w294 (cx : Cx a0 Z gC v_DE k_DE v_EL v_EM v_OE m_OA) : (Cond.code ⟨"com/example/lexbind/lexbind/messages/Explanation", "lambda$answer$0", "(Ljava/lang/String;)Lcom/example/lexbind/lexbind/messages/Explanation$Step;"⟩ prog_36_method_11_code (2 : Nat) (Option.some (FieldType.object "com/example/lexbind/lexbind/messages/Explanation$Step"))).before a0 Z = true := cx.1 _ (mg 294 rfl)
theorem w295 (cx : Cx a0 Z gC v_DE k_DE v_EL v_EM v_OE m_OA) : (Cond.methodLink "com/example/lexbind/lexbind/messages/Explanation" (93 : Nat) ⟨"java/util/List", "size", "()I"⟩).before a0 Z = true := cx.1 _ (mg 295 rfl)
theorem w296 (cx : Cx a0 Z gC v_DE k_DE v_EL v_EM v_OE m_OA) : (Cond.declares ⟨"java/util/List", "size", "()I"⟩).before a0 Z = true := cx.1 _ (mg 296 rfl)
theorem w297 (cx : Cx a0 Z gC v_DE k_DE v_EL v_EM v_OE m_OA) : (Cond.interfaceMethod "java/util/List" "java/util/List" "size" "()I").before a0 Z = true := cx.1 _ (mg 297 rfl)
theorem w298 (cx : Cx a0 Z gC v_DE k_DE v_EL v_EM v_OE m_OA) : (Cond.selects "java/util/ImmutableCollections$ListN" ⟨"java/util/List", "size", "()I"⟩ ⟨"java/util/ImmutableCollections$ListN", "size", "()I"⟩).before a0 Z = true := cx.1 _ (mg 298 rfl)
theorem w299 (cx : Cx a0 Z gC v_DE k_DE v_EL v_EM v_OE m_OA) : (Cond.instanceMethod ⟨"java/util/ImmutableCollections$ListN", "size", "()I"⟩).before a0 Z = true := cx.1 _ (mg 299 rfl)
theorem w300 (cx : Cx a0 Z gC v_DE k_DE v_EL v_EM v_OE m_OA) : (Cond.publicMethod ⟨"java/util/ImmutableCollections$ListN", "size", "()I"⟩).before a0 Z = true := cx.1 _ (mg 300 rfl)
theorem w301 (cx : Cx a0 Z gC v_DE k_DE v_EL v_EM v_OE m_OA) : (Cond.unhidden "java/util/ImmutableCollections$ListN" "size" "()I").before a0 Z = true := cx.1 _ (mg 301 rfl)
theorem w302 (cx : Cx a0 Z gC v_DE k_DE v_EL v_EM v_OE m_OA) : (Cond.code ⟨"java/util/ImmutableCollections$ListN", "size", "()I"⟩ jdk_45_method_3_code (1 : Nat) (Option.some FieldType.int)).before a0 Z = true := cx.1 _ (mg 302 rfl)
theorem w303 (cx : Cx a0 Z gC v_DE k_DE v_EL v_EM v_OE m_OA) : (Cond.methodLink "com/example/lexbind/lexbind/messages/Explanation" (97 : Nat) ⟨"java/util/List", "get", "(I)Ljava/lang/Object;"⟩).before a0 Z = true := cx.1 _ (mg 303 rfl)
theorem w304 (cx : Cx a0 Z gC v_DE k_DE v_EL v_EM v_OE m_OA) : (Cond.declares ⟨"java/util/List", "get", "(I)Ljava/lang/Object;"⟩).before a0 Z = true := cx.1 _ (mg 304 rfl)
theorem w305 (cx : Cx a0 Z gC v_DE k_DE v_EL v_EM v_OE m_OA) : (Cond.interfaceMethod "java/util/List" "java/util/List" "get" "(I)Ljava/lang/Object;").before a0 Z = true := cx.1 _ (mg 305 rfl)
theorem w306 (cx : Cx a0 Z gC v_DE k_DE v_EL v_EM v_OE m_OA) : (Cond.selects "java/util/ImmutableCollections$ListN" ⟨"java/util/List", "get", "(I)Ljava/lang/Object;"⟩ ⟨"java/util/ImmutableCollections$ListN", "get", "(I)Ljava/lang/Object;"⟩).before a0 Z = true := cx.1 _ (mg 306 rfl)
theorem w307 (cx : Cx a0 Z gC v_DE k_DE v_EL v_EM v_OE m_OA) : (Cond.instanceMethod ⟨"java/util/ImmutableCollections$ListN", "get", "(I)Ljava/lang/Object;"⟩).before a0 Z = true := cx.1 _ (mg 307 rfl)
theorem w308 (cx : Cx a0 Z gC v_DE k_DE v_EL v_EM v_OE m_OA) : (Cond.publicMethod ⟨"java/util/ImmutableCollections$ListN", "get", "(I)Ljava/lang/Object;"⟩).before a0 Z = true := cx.1 _ (mg 308 rfl)
theorem w309 (cx : Cx a0 Z gC v_DE k_DE v_EL v_EM v_OE m_OA) : (Cond.unhidden "java/util/ImmutableCollections$ListN" "get" "(I)Ljava/lang/Object;").before a0 Z = true := cx.1 _ (mg 309 rfl)
theorem w310 (cx : Cx a0 Z gC v_DE k_DE v_EL v_EM v_OE m_OA) : (Cond.code ⟨"java/util/ImmutableCollections$ListN", "get", "(I)Ljava/lang/Object;"⟩ jdk_45_method_4_code (2 : Nat) (Option.some (FieldType.object "java/lang/Object"))).before a0 Z = true := cx.1 _ (mg 310 rfl)
theorem w311 (cx : Cx a0 Z gC v_DE k_DE v_EL v_EM v_OE m_OA) : (Cond.classLink "com/example/lexbind/lexbind/messages/Explanation" (101 : Nat) "com/example/lexbind/lexbind/messages/Explanation$Step").before a0 Z = true := cx.1 _ (mg 311 rfl)
theorem w313 (cx : Cx a0 Z gC v_DE k_DE v_EL v_EM v_OE m_OA) : (Cond.methodLink "java/util/Optional" (62 : Nat) ⟨"java/util/Optional", "ofNullable", "(Ljava/lang/Object;)Ljava/util/Optional;"⟩).before a0 Z = true := cx.1 _ (mg 313 rfl)
theorem w314 (cx : Cx a0 Z gC v_DE k_DE v_EL v_EM v_OE m_OA) : (Cond.static ⟨"java/util/Optional", "ofNullable", "(Ljava/lang/Object;)Ljava/util/Optional;"⟩).before a0 Z = true := cx.1 _ (mg 314 rfl)
theorem w315 (cx : Cx a0 Z gC v_DE k_DE v_EL v_EM v_OE m_OA) : (Cond.code ⟨"java/util/Optional", "ofNullable", "(Ljava/lang/Object;)Ljava/util/Optional;"⟩ jdk_32_method_4_code (1 : Nat) (Option.some (FieldType.object "java/util/Optional"))).before a0 Z = true := cx.1 _ (mg 315 rfl)
theorem w316 (cx : Cx a0 Z gC v_DE k_DE v_EL v_EM v_OE m_OA) : (Cond.methodLink "com/example/lexbind/lexbind/messages/ExplanationAnswerPinLaw" (58 : Nat) ⟨"java/util/Optional", "get", "()Ljava/lang/Object;"⟩).before a0 Z = true := cx.1 _ (mg 316 rfl)
theorem w317 (cx : Cx a0 Z gC v_DE k_DE v_EL v_EM v_OE m_OA) : (Cond.declares ⟨"java/util/Optional", "get", "()Ljava/lang/Object;"⟩).before a0 Z = true := cx.1 _ (mg 317 rfl)
theorem w318 (cx : Cx a0 Z gC v_DE k_DE v_EL v_EM v_OE m_OA) : (Cond.instanceMethod ⟨"java/util/Optional", "get", "()Ljava/lang/Object;"⟩).before a0 Z = true := cx.1 _ (mg 318 rfl)
theorem w319 (cx : Cx a0 Z gC v_DE k_DE v_EL v_EM v_OE m_OA) : (Cond.selects "java/util/Optional" ⟨"java/util/Optional", "get", "()Ljava/lang/Object;"⟩ ⟨"java/util/Optional", "get", "()Ljava/lang/Object;"⟩).before a0 Z = true := cx.1 _ (mg 319 rfl)
theorem w320 (cx : Cx a0 Z gC v_DE k_DE v_EL v_EM v_OE m_OA) : (Cond.code ⟨"java/util/Optional", "get", "()Ljava/lang/Object;"⟩ jdk_32_method_5_code (1 : Nat) (Option.some (FieldType.object "java/lang/Object"))).before a0 Z = true := cx.1 _ (mg 320 rfl)
theorem w321 (cx : Cx a0 Z gC v_DE k_DE v_EL v_EM v_OE m_OA) : (Cond.classLink "java/util/List" (96 : Nat) "java/util/ImmutableCollections$List12").before a0 Z = true := cx.1 _ (mg 321 rfl)
theorem w322 (cx : Cx a0 Z gC v_DE k_DE v_EL v_EM v_OE m_OA) : (Cond.instantiable "java/util/ImmutableCollections$List12" (2 : Nat)).before a0 Z = true := cx.1 _ (mg 322 rfl)
theorem w323 (cx : Cx a0 Z gC v_DE k_DE v_EL v_EM v_OE m_OA) : (Cond.initialized "java/util/ImmutableCollections$List12").before a0 Z = true := cx.1 _ (mg 323 rfl)
theorem w324 (cx : Cx a0 Z gC v_DE k_DE v_EL v_EM v_OE m_OA) : (Cond.methodLink "java/util/List" (100 : Nat) ⟨"java/util/ImmutableCollections$List12", "<init>", "(Ljava/lang/Object;Ljava/lang/Object;)V"⟩).before a0 Z = true := cx.1 _ (mg 324 rfl)
theorem w325 (cx : Cx a0 Z gC v_DE k_DE v_EL v_EM v_OE m_OA) : (Cond.instanceMethod ⟨"java/util/ImmutableCollections$List12", "<init>", "(Ljava/lang/Object;Ljava/lang/Object;)V"⟩).before a0 Z = true := cx.1 _ (mg 325 rfl)
theorem w327 (cx : Cx a0 Z gC v_DE k_DE v_EL v_EM v_OE m_OA) : (Cond.code ⟨"java/util/ImmutableCollections$List12", "<init>", "(Ljava/lang/Object;Ljava/lang/Object;)V"⟩ jdk_44_method_2_code (3 : Nat) (Option.none : Option Jvm.ClassFile.FieldType)).before a0 Z = true := cx.1 _ (mg 327 rfl)
theorem w328 (cx : Cx a0 Z gC v_DE k_DE v_EL v_EM v_OE m_OA) : (Cond.methodLink "java/util/ImmutableCollections$List12" (1 : Nat) ⟨"java/util/ImmutableCollections$AbstractImmutableList", "<init>", "()V"⟩).before a0 Z = true := cx.1 _ (mg 328 rfl)
theorem w332 (cx : Cx a0 Z gC v_DE k_DE v_EL v_EM v_OE m_OA) : (Cond.methodLink "java/util/ImmutableCollections$List12" (7 : Nat) ⟨"java/util/Objects", "requireNonNull", "(Ljava/lang/Object;)Ljava/lang/Object;"⟩).before a0 Z = true := cx.1 _ (mg 332 rfl)
theorem w333 (cx : Cx a0 Z gC v_DE k_DE v_EL v_EM v_OE m_OA) : (Cond.fieldLink "java/util/ImmutableCollections$List12" (13 : Nat) "java/util/ImmutableCollections$List12" "e0" "Ljava/lang/Object;").before a0 Z = true := cx.1 _ (mg 333 rfl)
theorem w334 (cx : Cx a0 Z gC v_DE k_DE v_EL v_EM v_OE m_OA) : (Cond.laysFinal "java/util/ImmutableCollections$List12" "java/util/ImmutableCollections$List12" "e0" "Ljava/lang/Object;").before a0 Z = true := cx.1 _ (mg 334 rfl)
theorem w335 (cx : Cx a0 Z gC v_DE k_DE v_EL v_EM v_OE m_OA) : (Cond.fieldLink "java/util/ImmutableCollections$List12" (24 : Nat) "java/util/ImmutableCollections$List12" "e1" "Ljava/lang/Object;").before a0 Z = true := cx.1 _ (mg 335 rfl)
theorem w336 (cx : Cx a0 Z gC v_DE k_DE v_EL v_EM v_OE m_OA) : (Cond.laysFinal "java/util/ImmutableCollections$List12" "java/util/ImmutableCollections$List12" "e1" "Ljava/lang/Object;").before a0 Z = true := cx.1 _ (mg 336 rfl)
theorem w337 (cx : Cx a0 Z gC v_DE k_DE v_EL v_EM v_OE m_OA) : (Cond.methodLink "java/util/List" (98 : Nat) ⟨"java/util/ImmutableCollections$List12", "<init>", "(Ljava/lang/Object;)V"⟩).before a0 Z = true := cx.1 _ (mg 337 rfl)
theorem w338 (cx : Cx a0 Z gC v_DE k_DE v_EL v_EM v_OE m_OA) : (Cond.instanceMethod ⟨"java/util/ImmutableCollections$List12", "<init>", "(Ljava/lang/Object;)V"⟩).before a0 Z = true := cx.1 _ (mg 338 rfl)
theorem w339 (cx : Cx a0 Z gC v_DE k_DE v_EL v_EM v_OE m_OA) : (Cond.code ⟨"java/util/ImmutableCollections$List12", "<init>", "(Ljava/lang/Object;)V"⟩ jdk_44_method_1_code (2 : Nat) (Option.none : Option Jvm.ClassFile.FieldType)).before a0 Z = true := cx.1 _ (mg 339 rfl)
theorem w340 (cx : Cx a0 Z gC v_DE k_DE v_EL v_EM v_OE m_OA) : (Cond.fieldLinkNest "java/util/ImmutableCollections$List12" (19 : Nat) "java/util/ImmutableCollections" "EMPTY" "Ljava/lang/Object;" "java/util/ImmutableCollections").before a0 Z = true := cx.1 _ (mg 340 rfl)
theorem w341 (cx : Cx a0 Z gC v_DE k_DE v_EL v_EM v_OE m_OA) : (Cond.selects "java/util/ImmutableCollections$List12" ⟨"java/util/List", "isEmpty", "()Z"⟩ ⟨"java/util/ImmutableCollections$List12", "isEmpty", "()Z"⟩).before a0 Z = true := cx.1 _ (mg 341 rfl)
theorem w342 (cx : Cx a0 Z gC v_DE k_DE v_EL v_EM v_OE m_OA) : (Cond.instanceMethod ⟨"java/util/ImmutableCollections$List12", "isEmpty", "()Z"⟩).before a0 Z = true := cx.1 _ (mg 342 rfl)
theorem w343 (cx : Cx a0 Z gC v_DE k_DE v_EL v_EM v_OE m_OA) : (Cond.publicMethod ⟨"java/util/ImmutableCollections$List12", "isEmpty", "()Z"⟩).before a0 Z = true := cx.1 _ (mg 343 rfl)
theorem w344 (cx : Cx a0 Z gC v_DE k_DE v_EL v_EM v_OE m_OA) : (Cond.unhidden "java/util/ImmutableCollections$List12" "isEmpty" "()Z").before a0 Z = true := cx.1 _ (mg 344 rfl)
theorem w345 (cx : Cx a0 Z gC v_DE k_DE v_EL v_EM v_OE m_OA) : (Cond.castable "java/util/ImmutableCollections$List12" "java/util/List").before a0 Z = true := cx.1 _ (mg 345 rfl)
theorem w346 (cx : Cx a0 Z gC v_DE k_DE v_EL v_EM v_OE m_OA) : (Cond.code ⟨"java/util/ImmutableCollections$List12", "isEmpty", "()Z"⟩ jdk_44_method_4_code (1 : Nat) (Option.some FieldType.boolean)).before a0 Z = true := cx.1 _ (mg 346 rfl)
theorem w347 (cx : Cx a0 Z gC v_DE k_DE v_EL v_EM v_OE m_OA) : (Cond.selects "java/util/ImmutableCollections$List12" ⟨"java/util/List", "size", "()I"⟩ ⟨"java/util/ImmutableCollections$List12", "size", "()I"⟩).before a0 Z = true := cx.1 _ (mg 347 rfl)
theorem w348 (cx : Cx a0 Z gC v_DE k_DE v_EL v_EM v_OE m_OA) : (Cond.instanceMethod ⟨"java/util/ImmutableCollections$List12", "size", "()I"⟩).before a0 Z = true := cx.1 _ (mg 348 rfl)
theorem w349 (cx : Cx a0 Z gC v_DE k_DE v_EL v_EM v_OE m_OA) : (Cond.publicMethod ⟨"java/util/ImmutableCollections$List12", "size", "()I"⟩).before a0 Z = true := cx.1 _ (mg 349 rfl)
theorem w350 (cx : Cx a0 Z gC v_DE k_DE v_EL v_EM v_OE m_OA) : (Cond.unhidden "java/util/ImmutableCollections$List12" "size" "()I").before a0 Z = true := cx.1 _ (mg 350 rfl)
theorem w351 (cx : Cx a0 Z gC v_DE k_DE v_EL v_EM v_OE m_OA) : (Cond.code ⟨"java/util/ImmutableCollections$List12", "size", "()I"⟩ jdk_44_method_3_code (1 : Nat) (Option.some FieldType.int)).before a0 Z = true := cx.1 _ (mg 351 rfl)
theorem w352 (cx : Cx a0 Z gC v_DE k_DE v_EL v_EM v_OE m_OA) : (Cond.selects "java/util/ImmutableCollections$List12" ⟨"java/util/List", "get", "(I)Ljava/lang/Object;"⟩ ⟨"java/util/ImmutableCollections$List12", "get", "(I)Ljava/lang/Object;"⟩).before a0 Z = true := cx.1 _ (mg 352 rfl)
theorem w353 (cx : Cx a0 Z gC v_DE k_DE v_EL v_EM v_OE m_OA) : (Cond.instanceMethod ⟨"java/util/ImmutableCollections$List12", "get", "(I)Ljava/lang/Object;"⟩).before a0 Z = true := cx.1 _ (mg 353 rfl)
theorem w354 (cx : Cx a0 Z gC v_DE k_DE v_EL v_EM v_OE m_OA) : (Cond.publicMethod ⟨"java/util/ImmutableCollections$List12", "get", "(I)Ljava/lang/Object;"⟩).before a0 Z = true := cx.1 _ (mg 354 rfl)
theorem w355 (cx : Cx a0 Z gC v_DE k_DE v_EL v_EM v_OE m_OA) : (Cond.unhidden "java/util/ImmutableCollections$List12" "get" "(I)Ljava/lang/Object;").before a0 Z = true := cx.1 _ (mg 355 rfl)
theorem w356 (cx : Cx a0 Z gC v_DE k_DE v_EL v_EM v_OE m_OA) : (Cond.code ⟨"java/util/ImmutableCollections$List12", "get", "(I)Ljava/lang/Object;"⟩ jdk_44_method_5_code (2 : Nat) (Option.some (FieldType.object "java/lang/Object"))).before a0 Z = true := cx.1 _ (mg 356 rfl)
theorem S_C {Z : State} {a0 : Array Value} {gC : Int32} {v_DE : Addr} {k_DE : ClassId} {v_EL : Addr} {v_EM : Addr} {v_OE : Addr} {m_OA : Addr} (cx : Cx a0 Z gC v_DE k_DE v_EL v_EM v_OE m_OA) : Sta Z Z.heap "java/lang/String" "COMPACT_STRINGS" "Z" (.int gC) := cx.2.1
theorem N_C {Z : State} {a0 : Array Value} {gC : Int32} {v_DE : Addr} {k_DE : ClassId} {v_EL : Addr} {v_EM : Addr} {v_OE : Addr} {m_OA : Addr} (cx : Cx a0 Z gC v_DE k_DE v_EL v_EM v_OE m_OA) : ¬ gC = (0 : Int32) := cx.2.2.1
theorem S_DE {Z : State} {a0 : Array Value} {gC : Int32} {v_DE : Addr} {k_DE : ClassId} {v_EL : Addr} {v_EM : Addr} {v_OE : Addr} {m_OA : Addr} (cx : Cx a0 Z gC v_DE k_DE v_EL v_EM v_OE m_OA) : Sta Z Z.heap "java/util/ArrayList" "DEFAULTCAPACITY_EMPTY_ELEMENTDATA" "[Ljava/lang/Object;" (.ref v_DE) := cx.2.2.2.1
theorem E_DE {Z : State} {a0 : Array Value} {gC : Int32} {v_DE : Addr} {k_DE : ClassId} {v_EL : Addr} {v_EM : Addr} {v_OE : Addr} {m_OA : Addr} (cx : Cx a0 Z gC v_DE k_DE v_EL v_EM v_OE m_OA) : Exa Z Z.heap v_DE "[Ljava/lang/Object;" := cx.2.2.2.2.1
theorem A_DE {Z : State} {a0 : Array Value} {gC : Int32} {v_DE : Addr} {k_DE : ClassId} {v_EL : Addr} {v_EM : Addr} {v_OE : Addr} {m_OA : Addr} (cx : Cx a0 Z gC v_DE k_DE v_EL v_EM v_OE m_OA) : Arv Z Z.heap v_DE k_DE (.object "java/lang/Object") (0 : Int32) [] .null := cx.2.2.2.2.2.1
theorem S_EL {Z : State} {a0 : Array Value} {gC : Int32} {v_DE : Addr} {k_DE : ClassId} {v_EL : Addr} {v_EM : Addr} {v_OE : Addr} {m_OA : Addr} (cx : Cx a0 Z gC v_DE k_DE v_EL v_EM v_OE m_OA) : Sta Z Z.heap "java/util/ImmutableCollections" "EMPTY_LIST" "Ljava/util/ImmutableCollections$ListN;" (.ref v_EL) := cx.2.2.2.2.2.2.1
theorem E_EL {Z : State} {a0 : Array Value} {gC : Int32} {v_DE : Addr} {k_DE : ClassId} {v_EL : Addr} {v_EM : Addr} {v_OE : Addr} {m_OA : Addr} (cx : Cx a0 Z gC v_DE k_DE v_EL v_EM v_OE m_OA) : Exa Z Z.heap v_EL "java/util/ImmutableCollections$ListN" := cx.2.2.2.2.2.2.2.1
theorem S_EM {Z : State} {a0 : Array Value} {gC : Int32} {v_DE : Addr} {k_DE : ClassId} {v_EL : Addr} {v_EM : Addr} {v_OE : Addr} {m_OA : Addr} (cx : Cx a0 Z gC v_DE k_DE v_EL v_EM v_OE m_OA) : Sta Z Z.heap "java/util/ImmutableCollections" "EMPTY" "Ljava/lang/Object;" (.ref v_EM) := cx.2.2.2.2.2.2.2.2.1
theorem E_EM {Z : State} {a0 : Array Value} {gC : Int32} {v_DE : Addr} {k_DE : ClassId} {v_EL : Addr} {v_EM : Addr} {v_OE : Addr} {m_OA : Addr} (cx : Cx a0 Z gC v_DE k_DE v_EL v_EM v_OE m_OA) : Exa Z Z.heap v_EM "java/lang/Object" := cx.2.2.2.2.2.2.2.2.2.1
theorem S_OE {Z : State} {a0 : Array Value} {gC : Int32} {v_DE : Addr} {k_DE : ClassId} {v_EL : Addr} {v_EM : Addr} {v_OE : Addr} {m_OA : Addr} (cx : Cx a0 Z gC v_DE k_DE v_EL v_EM v_OE m_OA) : Sta Z Z.heap "java/util/Optional" "EMPTY" "Ljava/util/Optional;" (.ref v_OE) := cx.2.2.2.2.2.2.2.2.2.2.1
theorem E_OE {Z : State} {a0 : Array Value} {gC : Int32} {v_DE : Addr} {k_DE : ClassId} {v_EL : Addr} {v_EM : Addr} {v_OE : Addr} {m_OA : Addr} (cx : Cx a0 Z gC v_DE k_DE v_EL v_EM v_OE m_OA) : Exa Z Z.heap v_OE "java/util/Optional" := cx.2.2.2.2.2.2.2.2.2.2.2.1
theorem F_OE0 {Z : State} {a0 : Array Value} {gC : Int32} {v_DE : Addr} {k_DE : ClassId} {v_EL : Addr} {v_EM : Addr} {v_OE : Addr} {m_OA : Addr} (cx : Cx a0 Z gC v_DE k_DE v_EL v_EM v_OE m_OA) : Fld Z Z.heap v_OE "java/util/Optional" "value" "Ljava/lang/Object;" .null := cx.2.2.2.2.2.2.2.2.2.2.2.2.1
theorem M_OA {Z : State} {a0 : Array Value} {gC : Int32} {v_DE : Addr} {k_DE : ClassId} {v_EL : Addr} {v_EM : Addr} {v_OE : Addr} {m_OA : Addr} (cx : Cx a0 Z gC v_DE k_DE v_EL v_EM v_OE m_OA) : MM Z "[Ljava/lang/Object;" m_OA := cx.2.2.2.2.2.2.2.2.2.2.2.2.2
theorem hws {Z : State} {a0 : Array Value} {gC : Int32} {v_DE : Addr} {k_DE : ClassId} {v_EL : Addr} {v_EM : Addr} {v_OE : Addr} {m_OA : Addr} (cx : Cx a0 Z gC v_DE k_DE v_EL v_EM v_OE m_OA) : ∀ d ∈ StrChars.Road.words, d.before a0 Z = true := fun d hd => cx.1 d ((by decide +kernel : ∀ d ∈ StrChars.Road.words, d ∈ tables_1) d hd)
theorem strAtoms {Z : State} {a0 : Array Value} {gC : Int32} {v_DE : Addr} {k_DE : ClassId} {v_EL : Addr} {v_EM : Addr} {v_OE : Addr} {m_OA : Addr} (cx : Cx a0 Z gC v_DE k_DE v_EL v_EM v_OE m_OA) : ∀ d ∈ Bundle.stringAtoms, d.before a0 Z = true := fun d hd => cx.1 d ((by decide +kernel : ∀ d ∈ Bundle.stringAtoms, d ∈ tables_1) d hd)
theorem pn0 : plainName "java/lang/StringLatin1" = true := by first | (simp [plainName, overriddenIn]; done) | decide +kernel
theorem pn1 : plainName "java/lang/String" = true := by first | (simp [plainName, overriddenIn]; done) | decide +kernel
theorem pn2 : plainName "java/util/AbstractCollection" = true := by first | (simp [plainName, overriddenIn]; done) | decide +kernel
theorem pn3 : plainName "java/util/AbstractList" = true := by first | (simp [plainName, overriddenIn]; done) | decide +kernel
theorem pn4 : plainName "java/util/ArrayList" = true := by first | (simp [plainName, overriddenIn]; done) | decide +kernel
theorem pn5 : plainName "java/lang/Record" = true := by first | (simp [plainName, overriddenIn]; done) | decide +kernel
theorem pn6 : plainName "java/util/Objects" = true := by first | (simp [plainName, overriddenIn]; done) | decide +kernel
theorem pn7 : plainName "com/example/lexbind/lexbind/messages/Explanation$Step" = true := by first | (simp [plainName, overriddenIn]; done) | decide +kernel
theorem pn8 : plainName "java/util/Arrays" = true := by first | (simp [plainName, overriddenIn]; done) | decide +kernel
theorem pn9 : plainName "java/util/ImmutableCollections$AbstractImmutableCollection" = true := by first | (simp [plainName, overriddenIn]; done) | decide +kernel
theorem pn10 : plainName "java/util/ImmutableCollections$AbstractImmutableList" = true := by first | (simp [plainName, overriddenIn]; done) | decide +kernel
theorem pn11 : plainName "java/util/ImmutableCollections$List12" = true := by first | (simp [plainName, overriddenIn]; done) | decide +kernel
theorem pn12 : plainName "java/util/ImmutableCollections$ListN" = true := by first | (simp [plainName, overriddenIn]; done) | decide +kernel
theorem pn13 : plainName "java/util/List" = true := by first | (simp [plainName, overriddenIn]; done) | decide +kernel
theorem pn14 : plainName "java/util/ImmutableCollections" = true := by first | (simp [plainName, overriddenIn]; done) | decide +kernel
theorem pn15 : plainName "java/util/Optional" = true := by first | (simp [plainName, overriddenIn]; done) | decide +kernel
theorem pn16 : plainName "com/example/lexbind/lexbind/messages/Explanation" = true := by first | (simp [plainName, overriddenIn]; done) | decide +kernel
theorem pn17 : plainName "com/example/lexbind/lexbind/messages/ExplanationAnswerPinLaw" = true := by first | (simp [plainName, overriddenIn]; done) | decide +kernel
theorem d1_0 : decode jdk_42_method_139_code 0 = .ok (.getstatic 38, 3) := by decide +kernel
theorem d1_3 : decode jdk_42_method_139_code 3 = .ok (.ifCond .eq 23, 3) := by decide +kernel
theorem d1_6 : decode jdk_42_method_139_code 6 = .ok (.iload_n 0, 1) := by decide +kernel
theorem d1_7 : decode jdk_42_method_139_code 7 = .ok (.invokestatic 1015, 3) := by decide +kernel
theorem d1_10 : decode jdk_42_method_139_code 10 = .ok (.ifCond .eq 16, 3) := by decide +kernel
theorem d1_13 : decode jdk_42_method_139_code 13 = .ok (.new 10, 3) := by decide +kernel
theorem d1_16 : decode jdk_42_method_139_code 16 = .ok (.dup, 1) := by decide +kernel
theorem d1_17 : decode jdk_42_method_139_code 17 = .ok (.iload_n 0, 1) := by decide +kernel
theorem d1_18 : decode jdk_42_method_139_code 18 = .ok (.invokestatic 1018, 3) := by decide +kernel
theorem d1_21 : decode jdk_42_method_139_code 21 = .ok (.iconst 0, 1) := by decide +kernel
theorem d1_22 : decode jdk_42_method_139_code 22 = .ok (.invokespecial 209, 3) := by decide +kernel
theorem d1_25 : decode jdk_42_method_139_code 25 = .ok (.areturn, 1) := by decide +kernel
theorem d2_0 : decode jdk_43_method_3_code 0 = .ok (.iload_n 0, 1) := by decide +kernel
theorem d2_1 : decode jdk_43_method_3_code 1 = .ok (.sipush 255, 3) := by decide +kernel
theorem d2_4 : decode jdk_43_method_3_code 4 = .ok (.if_icmp .gt 7, 3) := by decide +kernel
theorem d2_7 : decode jdk_43_method_3_code 7 = .ok (.iconst 1, 1) := by decide +kernel
theorem d2_8 : decode jdk_43_method_3_code 8 = .ok (.goto 4, 3) := by decide +kernel
theorem d2_12 : decode jdk_43_method_3_code 12 = .ok (.ireturn, 1) := by decide +kernel
theorem d3_0 : decode jdk_43_method_46_code 0 = .ok (.iconst 1, 1) := by decide +kernel
theorem d3_1 : decode jdk_43_method_46_code 1 = .ok (.newarray .byte, 2) := by decide +kernel
theorem d3_3 : decode jdk_43_method_46_code 3 = .ok (.dup, 1) := by decide +kernel
theorem d3_4 : decode jdk_43_method_46_code 4 = .ok (.iconst 0, 1) := by decide +kernel
theorem d3_5 : decode jdk_43_method_46_code 5 = .ok (.iload_n 0, 1) := by decide +kernel
theorem d3_6 : decode jdk_43_method_46_code 6 = .ok (.i2b, 1) := by decide +kernel
theorem d3_7 : decode jdk_43_method_46_code 7 = .ok (.bastore, 1) := by decide +kernel
theorem d3_8 : decode jdk_43_method_46_code 8 = .ok (.areturn, 1) := by decide +kernel
theorem d4_0 : decode jdk_42_method_151_code 0 = .ok (.aload_n 0, 1) := by decide +kernel
theorem d4_1 : decode jdk_42_method_151_code 1 = .ok (.invokespecial 1, 3) := by decide +kernel
theorem d4_4 : decode jdk_42_method_151_code 4 = .ok (.aload_n 0, 1) := by decide +kernel
theorem d4_5 : decode jdk_42_method_151_code 5 = .ok (.aload_n 1, 1) := by decide +kernel
theorem d4_6 : decode jdk_42_method_151_code 6 = .ok (.putfield 9, 3) := by decide +kernel
theorem d4_9 : decode jdk_42_method_151_code 9 = .ok (.aload_n 0, 1) := by decide +kernel
theorem d4_10 : decode jdk_42_method_151_code 10 = .ok (.iload_n 2, 1) := by decide +kernel
theorem d4_11 : decode jdk_42_method_151_code 11 = .ok (.putfield 15, 3) := by decide +kernel
theorem d4_14 : decode jdk_42_method_151_code 14 = .ok (.return_, 1) := by decide +kernel
theorem d6_0 : decode prog_37_method_1_code 0 = .ok (.aload_n 0, 1) := by decide +kernel
theorem d6_1 : decode prog_37_method_1_code 1 = .ok (.invokespecial 1, 3) := by decide +kernel
theorem d6_4 : decode prog_37_method_1_code 4 = .ok (.aload_n 1, 1) := by decide +kernel
theorem d6_5 : decode prog_37_method_1_code 5 = .ok (.ldc 7, 2) := by decide +kernel
theorem d6_7 : decode prog_37_method_1_code 7 = .ok (.invokestatic 9, 3) := by decide +kernel
theorem d6_10 : decode prog_37_method_1_code 10 = .ok (.pop, 1) := by decide +kernel
theorem d6_11 : decode prog_37_method_1_code 11 = .ok (.aload_n 2, 1) := by decide +kernel
theorem d6_12 : decode prog_37_method_1_code 12 = .ok (.ldc 15, 2) := by decide +kernel
theorem d6_14 : decode prog_37_method_1_code 14 = .ok (.invokestatic 9, 3) := by decide +kernel
theorem d6_17 : decode prog_37_method_1_code 17 = .ok (.pop, 1) := by decide +kernel
theorem d6_18 : decode prog_37_method_1_code 18 = .ok (.aload_n 0, 1) := by decide +kernel
theorem d6_19 : decode prog_37_method_1_code 19 = .ok (.aload_n 1, 1) := by decide +kernel
theorem d6_20 : decode prog_37_method_1_code 20 = .ok (.putfield 17, 3) := by decide +kernel
theorem d6_23 : decode prog_37_method_1_code 23 = .ok (.aload_n 0, 1) := by decide +kernel
theorem d6_24 : decode prog_37_method_1_code 24 = .ok (.aload_n 2, 1) := by decide +kernel
theorem d6_25 : decode prog_37_method_1_code 25 = .ok (.putfield 22, 3) := by decide +kernel
theorem d6_28 : decode prog_37_method_1_code 28 = .ok (.return_, 1) := by decide +kernel
theorem d7_0 : decode jdk_30_method_1_code 0 = .ok (.aload_n 0, 1) := by decide +kernel
theorem d7_1 : decode jdk_30_method_1_code 1 = .ok (.invokespecial 1, 3) := by decide +kernel
theorem d7_4 : decode jdk_30_method_1_code 4 = .ok (.return_, 1) := by decide +kernel
theorem d8_0 : decode jdk_31_method_11_code 0 = .ok (.aload_n 0, 1) := by decide +kernel
theorem d8_1 : decode jdk_31_method_11_code 1 = .ok (.ifnonnull 12, 3) := by decide +kernel
theorem d8_13 : decode jdk_31_method_11_code 13 = .ok (.aload_n 0, 1) := by decide +kernel
theorem d8_14 : decode jdk_31_method_11_code 14 = .ok (.areturn, 1) := by decide +kernel
theorem d9_0 : decode jdk_38_method_2_code 0 = .ok (.aload_n 0, 1) := by decide +kernel
theorem d9_1 : decode jdk_38_method_2_code 1 = .ok (.invokespecial 1, 3) := by decide +kernel
theorem d9_4 : decode jdk_38_method_2_code 4 = .ok (.aload_n 0, 1) := by decide +kernel
theorem d9_5 : decode jdk_38_method_2_code 5 = .ok (.getstatic 39, 3) := by decide +kernel
theorem d9_8 : decode jdk_38_method_2_code 8 = .ok (.putfield 9, 3) := by decide +kernel
theorem d9_11 : decode jdk_38_method_2_code 11 = .ok (.return_, 1) := by decide +kernel
theorem d10_0 : decode jdk_39_method_1_code 0 = .ok (.aload_n 0, 1) := by decide +kernel
theorem d10_1 : decode jdk_39_method_1_code 1 = .ok (.invokespecial 1, 3) := by decide +kernel
theorem d10_4 : decode jdk_39_method_1_code 4 = .ok (.aload_n 0, 1) := by decide +kernel
theorem d10_5 : decode jdk_39_method_1_code 5 = .ok (.iconst 0, 1) := by decide +kernel
theorem d10_6 : decode jdk_39_method_1_code 6 = .ok (.putfield 7, 3) := by decide +kernel
theorem d10_9 : decode jdk_39_method_1_code 9 = .ok (.return_, 1) := by decide +kernel
theorem d11_0 : decode jdk_22_method_1_code 0 = .ok (.aload_n 0, 1) := by decide +kernel
theorem d11_1 : decode jdk_22_method_1_code 1 = .ok (.invokespecial 1, 3) := by decide +kernel
theorem d11_4 : decode jdk_22_method_1_code 4 = .ok (.return_, 1) := by decide +kernel
theorem d12_0 : decode jdk_32_method_1_code 0 = .ok (.getstatic 1, 3) := by decide +kernel
theorem d12_3 : decode jdk_32_method_1_code 3 = .ok (.astore_n 0, 1) := by decide +kernel
theorem d12_4 : decode jdk_32_method_1_code 4 = .ok (.aload_n 0, 1) := by decide +kernel
theorem d12_5 : decode jdk_32_method_1_code 5 = .ok (.areturn, 1) := by decide +kernel
theorem d13_0 : decode prog_36_method_1_code 0 = .ok (.aload_n 0, 1) := by decide +kernel
theorem d13_1 : decode prog_36_method_1_code 1 = .ok (.invokespecial 1, 3) := by decide +kernel
theorem d13_4 : decode prog_36_method_1_code 4 = .ok (.aload_n 1, 1) := by decide +kernel
theorem d13_5 : decode prog_36_method_1_code 5 = .ok (.invokestatic 7, 3) := by decide +kernel
theorem d13_8 : decode prog_36_method_1_code 8 = .ok (.astore_n 1, 1) := by decide +kernel
theorem d13_9 : decode prog_36_method_1_code 9 = .ok (.aload_n 2, 1) := by decide +kernel
theorem d13_10 : decode prog_36_method_1_code 10 = .ok (.ldc 13, 2) := by decide +kernel
theorem d13_12 : decode prog_36_method_1_code 12 = .ok (.invokestatic 15, 3) := by decide +kernel
theorem d13_15 : decode prog_36_method_1_code 15 = .ok (.pop, 1) := by decide +kernel
theorem d13_16 : decode prog_36_method_1_code 16 = .ok (.aload_n 3, 1) := by decide +kernel
theorem d13_17 : decode prog_36_method_1_code 17 = .ok (.invokestatic 7, 3) := by decide +kernel
theorem d13_20 : decode prog_36_method_1_code 20 = .ok (.astore_n 3, 1) := by decide +kernel
theorem d13_21 : decode prog_36_method_1_code 21 = .ok (.aload_n 2, 1) := by decide +kernel
theorem d13_22 : decode prog_36_method_1_code 22 = .ok (.invokevirtual 21, 3) := by decide +kernel
theorem d13_25 : decode prog_36_method_1_code 25 = .ok (.ifCond .eq 22, 3) := by decide +kernel
theorem d13_28 : decode prog_36_method_1_code 28 = .ok (.aload_n 1, 1) := by decide +kernel
theorem d13_29 : decode prog_36_method_1_code 29 = .ok (.invokeinterface 27 1, 5) := by decide +kernel
theorem d13_34 : decode prog_36_method_1_code 34 = .ok (.ifCond .eq 13, 3) := by decide +kernel
theorem d13_47 : decode prog_36_method_1_code 47 = .ok (.aload_n 0, 1) := by decide +kernel
theorem d13_48 : decode prog_36_method_1_code 48 = .ok (.aload_n 1, 1) := by decide +kernel
theorem d13_49 : decode prog_36_method_1_code 49 = .ok (.putfield 37, 3) := by decide +kernel
theorem d13_52 : decode prog_36_method_1_code 52 = .ok (.aload_n 0, 1) := by decide +kernel
theorem d13_53 : decode prog_36_method_1_code 53 = .ok (.aload_n 2, 1) := by decide +kernel
theorem d13_54 : decode prog_36_method_1_code 54 = .ok (.putfield 43, 3) := by decide +kernel
theorem d13_57 : decode prog_36_method_1_code 57 = .ok (.aload_n 0, 1) := by decide +kernel
theorem d13_58 : decode prog_36_method_1_code 58 = .ok (.aload_n 3, 1) := by decide +kernel
theorem d13_59 : decode prog_36_method_1_code 59 = .ok (.putfield 46, 3) := by decide +kernel
theorem d13_62 : decode prog_36_method_1_code 62 = .ok (.return_, 1) := by decide +kernel
theorem d14_0 : decode jdk_40_method_48_code 0 = .ok (.aload_n 0, 1) := by decide +kernel
theorem d14_1 : decode jdk_40_method_48_code 1 = .ok (.invokestatic 112, 3) := by decide +kernel
theorem d14_4 : decode jdk_40_method_48_code 4 = .ok (.areturn, 1) := by decide +kernel
theorem d15_0 : decode jdk_56_method_3_code 0 = .ok (.aload_n 0, 1) := by decide +kernel
theorem d15_1 : decode jdk_56_method_3_code 1 = .ok (.instanceof 10, 3) := by decide +kernel
theorem d15_4 : decode jdk_56_method_3_code 4 = .ok (.ifCond .ne 22, 3) := by decide +kernel
theorem d15_7 : decode jdk_56_method_3_code 7 = .ok (.aload_n 0, 1) := by decide +kernel
theorem d15_8 : decode jdk_56_method_3_code 8 = .ok (.instanceof 12, 3) := by decide +kernel
theorem d15_11 : decode jdk_56_method_3_code 11 = .ok (.ifCond .eq 20, 3) := by decide +kernel
theorem d15_31 : decode jdk_56_method_3_code 31 = .ok (.aload_n 0, 1) := by decide +kernel
theorem d15_32 : decode jdk_56_method_3_code 32 = .ok (.invokeinterface 20 1, 5) := by decide +kernel
theorem d15_37 : decode jdk_56_method_3_code 37 = .ok (.ifCond .eq 7, 3) := by decide +kernel
theorem d15_40 : decode jdk_56_method_3_code 40 = .ok (.invokestatic 26, 3) := by decide +kernel
theorem d15_43 : decode jdk_56_method_3_code 43 = .ok (.areturn, 1) := by decide +kernel
theorem d15_44 : decode jdk_56_method_3_code 44 = .ok (.aload_n 0, 1) := by decide +kernel
theorem d15_45 : decode jdk_56_method_3_code 45 = .ok (.invokeinterface 30 1, 5) := by decide +kernel
theorem d15_50 : decode jdk_56_method_3_code 50 = .ok (.invokestatic 34, 3) := by decide +kernel
theorem d15_53 : decode jdk_56_method_3_code 53 = .ok (.areturn, 1) := by decide +kernel
theorem d16_0 : decode jdk_38_method_9_code 0 = .ok (.aload_n 0, 1) := by decide +kernel
theorem d16_1 : decode jdk_38_method_9_code 1 = .ok (.getfield 48, 3) := by decide +kernel
theorem d16_4 : decode jdk_38_method_9_code 4 = .ok (.ifCond .ne 7, 3) := by decide +kernel
theorem d16_7 : decode jdk_38_method_9_code 7 = .ok (.iconst 1, 1) := by decide +kernel
theorem d16_8 : decode jdk_38_method_9_code 8 = .ok (.goto 4, 3) := by decide +kernel
theorem d16_11 : decode jdk_38_method_9_code 11 = .ok (.iconst 0, 1) := by decide +kernel
theorem d16_12 : decode jdk_38_method_9_code 12 = .ok (.ireturn, 1) := by decide +kernel
theorem d17_0 : decode jdk_40_method_36_code 0 = .ok (.getstatic 90, 3) := by decide +kernel
theorem d17_3 : decode jdk_40_method_36_code 3 = .ok (.areturn, 1) := by decide +kernel
theorem d18_0 : decode jdk_32_method_6_code 0 = .ok (.aload_n 0, 1) := by decide +kernel
theorem d18_1 : decode jdk_32_method_6_code 1 = .ok (.getfield 13, 3) := by decide +kernel
theorem d18_4 : decode jdk_32_method_6_code 4 = .ok (.ifnull 7, 3) := by decide +kernel
theorem d18_7 : decode jdk_32_method_6_code 7 = .ok (.iconst 1, 1) := by decide +kernel
theorem d18_8 : decode jdk_32_method_6_code 8 = .ok (.goto 4, 3) := by decide +kernel
theorem d18_11 : decode jdk_32_method_6_code 11 = .ok (.iconst 0, 1) := by decide +kernel
theorem d18_12 : decode jdk_32_method_6_code 12 = .ok (.ireturn, 1) := by decide +kernel
theorem d19_0 : decode prog_36_method_3_code 0 = .ok (.aload_n 0, 1) := by decide +kernel
theorem d19_1 : decode prog_36_method_3_code 1 = .ok (.getfield 43, 3) := by decide +kernel
theorem d19_4 : decode prog_36_method_3_code 4 = .ok (.aload_n 0, 1) := by decide +kernel
theorem d19_5 : decode prog_36_method_3_code 5 = .ok (.invokedynamic 56, 5) := by decide +kernel
theorem d19_10 : decode prog_36_method_3_code 10 = .ok (.invokevirtual 60, 3) := by decide +kernel
theorem d19_13 : decode prog_36_method_3_code 13 = .ok (.areturn, 1) := by decide +kernel
theorem d20_0 : decode jdk_32_method_11_code 0 = .ok (.aload_n 1, 1) := by decide +kernel
theorem d20_1 : decode jdk_32_method_11_code 1 = .ok (.invokestatic 17, 3) := by decide +kernel
theorem d20_4 : decode jdk_32_method_11_code 4 = .ok (.pop, 1) := by decide +kernel
theorem d20_5 : decode jdk_32_method_11_code 5 = .ok (.aload_n 0, 1) := by decide +kernel
theorem d20_6 : decode jdk_32_method_11_code 6 = .ok (.invokevirtual 43, 3) := by decide +kernel
theorem d20_9 : decode jdk_32_method_11_code 9 = .ok (.ifCond .eq 7, 3) := by decide +kernel
theorem d20_12 : decode jdk_32_method_11_code 12 = .ok (.invokestatic 53, 3) := by decide +kernel
theorem d20_15 : decode jdk_32_method_11_code 15 = .ok (.areturn, 1) := by decide +kernel
theorem d20_16 : decode jdk_32_method_11_code 16 = .ok (.aload_n 1, 1) := by decide +kernel
theorem d20_17 : decode jdk_32_method_11_code 17 = .ok (.aload_n 0, 1) := by decide +kernel
theorem d20_18 : decode jdk_32_method_11_code 18 = .ok (.getfield 13, 3) := by decide +kernel
theorem d20_21 : decode jdk_32_method_11_code 21 = .ok (.invokeinterface 57 2, 5) := by decide +kernel
theorem d20_26 : decode jdk_32_method_11_code 26 = .ok (.invokestatic 62, 3) := by decide +kernel
theorem d20_29 : decode jdk_32_method_11_code 29 = .ok (.areturn, 1) := by decide +kernel
theorem d21_0 : decode jdk_31_method_10_code 0 = .ok (.aload_n 0, 1) := by decide +kernel
theorem d21_1 : decode jdk_31_method_10_code 1 = .ok (.ifnonnull 11, 3) := by decide +kernel
theorem d21_12 : decode jdk_31_method_10_code 12 = .ok (.aload_n 0, 1) := by decide +kernel
theorem d21_13 : decode jdk_31_method_10_code 13 = .ok (.areturn, 1) := by decide +kernel
theorem d22_0 : decode jdk_32_method_7_code 0 = .ok (.aload_n 0, 1) := by decide +kernel
theorem d22_1 : decode jdk_32_method_7_code 1 = .ok (.getfield 13, 3) := by decide +kernel
theorem d22_4 : decode jdk_32_method_7_code 4 = .ok (.ifnonnull 7, 3) := by decide +kernel
theorem d22_7 : decode jdk_32_method_7_code 7 = .ok (.iconst 1, 1) := by decide +kernel
theorem d22_8 : decode jdk_32_method_7_code 8 = .ok (.goto 4, 3) := by decide +kernel
theorem d22_11 : decode jdk_32_method_7_code 11 = .ok (.iconst 0, 1) := by decide +kernel
theorem d22_12 : decode jdk_32_method_7_code 12 = .ok (.ireturn, 1) := by decide +kernel
theorem d23_0 : decode jdk_38_method_25_code 0 = .ok (.aload_n 0, 1) := by decide +kernel
theorem d23_1 : decode jdk_38_method_25_code 1 = .ok (.dup, 1) := by decide +kernel
theorem d23_2 : decode jdk_38_method_25_code 2 = .ok (.getfield 63, 3) := by decide +kernel
theorem d23_5 : decode jdk_38_method_25_code 5 = .ok (.iconst 1, 1) := by decide +kernel
theorem d23_6 : decode jdk_38_method_25_code 6 = .ok (.iadd, 1) := by decide +kernel
theorem d23_7 : decode jdk_38_method_25_code 7 = .ok (.putfield 63, 3) := by decide +kernel
theorem d23_10 : decode jdk_38_method_25_code 10 = .ok (.aload_n 0, 1) := by decide +kernel
theorem d23_11 : decode jdk_38_method_25_code 11 = .ok (.aload_n 1, 1) := by decide +kernel
theorem d23_12 : decode jdk_38_method_25_code 12 = .ok (.aload_n 0, 1) := by decide +kernel
theorem d23_13 : decode jdk_38_method_25_code 13 = .ok (.getfield 9, 3) := by decide +kernel
theorem d23_16 : decode jdk_38_method_25_code 16 = .ok (.aload_n 0, 1) := by decide +kernel
theorem d23_17 : decode jdk_38_method_25_code 17 = .ok (.getfield 48, 3) := by decide +kernel
theorem d23_20 : decode jdk_38_method_25_code 20 = .ok (.invokevirtual 131, 3) := by decide +kernel
theorem d23_23 : decode jdk_38_method_25_code 23 = .ok (.iconst 1, 1) := by decide +kernel
theorem d23_24 : decode jdk_38_method_25_code 24 = .ok (.ireturn, 1) := by decide +kernel
theorem d24_0 : decode jdk_38_method_24_code 0 = .ok (.iload_n 3, 1) := by decide +kernel
theorem d24_1 : decode jdk_38_method_24_code 1 = .ok (.aload_n 2, 1) := by decide +kernel
theorem d24_2 : decode jdk_38_method_24_code 2 = .ok (.arraylength, 1) := by decide +kernel
theorem d24_3 : decode jdk_38_method_24_code 3 = .ok (.if_icmp .ne 8, 3) := by decide +kernel
theorem d24_6 : decode jdk_38_method_24_code 6 = .ok (.aload_n 0, 1) := by decide +kernel
theorem d24_7 : decode jdk_38_method_24_code 7 = .ok (.invokevirtual 129, 3) := by decide +kernel
theorem d24_10 : decode jdk_38_method_24_code 10 = .ok (.astore_n 2, 1) := by decide +kernel
theorem d24_11 : decode jdk_38_method_24_code 11 = .ok (.aload_n 2, 1) := by decide +kernel
theorem d24_12 : decode jdk_38_method_24_code 12 = .ok (.iload_n 3, 1) := by decide +kernel
theorem d24_13 : decode jdk_38_method_24_code 13 = .ok (.aload_n 1, 1) := by decide +kernel
theorem d24_14 : decode jdk_38_method_24_code 14 = .ok (.aastore, 1) := by decide +kernel
theorem d24_15 : decode jdk_38_method_24_code 15 = .ok (.aload_n 0, 1) := by decide +kernel
theorem d24_16 : decode jdk_38_method_24_code 16 = .ok (.iload_n 3, 1) := by decide +kernel
theorem d24_17 : decode jdk_38_method_24_code 17 = .ok (.iconst 1, 1) := by decide +kernel
theorem d24_18 : decode jdk_38_method_24_code 18 = .ok (.iadd, 1) := by decide +kernel
theorem d24_19 : decode jdk_38_method_24_code 19 = .ok (.putfield 48, 3) := by decide +kernel
theorem d24_22 : decode jdk_38_method_24_code 22 = .ok (.return_, 1) := by decide +kernel
theorem d25_0 : decode jdk_38_method_7_code 0 = .ok (.aload_n 0, 1) := by decide +kernel
theorem d25_1 : decode jdk_38_method_7_code 1 = .ok (.aload_n 0, 1) := by decide +kernel
theorem d25_2 : decode jdk_38_method_7_code 2 = .ok (.getfield 48, 3) := by decide +kernel
theorem d25_5 : decode jdk_38_method_7_code 5 = .ok (.iconst 1, 1) := by decide +kernel
theorem d25_6 : decode jdk_38_method_7_code 6 = .ok (.iadd, 1) := by decide +kernel
theorem d25_7 : decode jdk_38_method_7_code 7 = .ok (.invokevirtual 69, 3) := by decide +kernel
theorem d25_10 : decode jdk_38_method_7_code 10 = .ok (.areturn, 1) := by decide +kernel
theorem d26_0 : decode jdk_38_method_6_code 0 = .ok (.aload_n 0, 1) := by decide +kernel
theorem d26_1 : decode jdk_38_method_6_code 1 = .ok (.getfield 9, 3) := by decide +kernel
theorem d26_4 : decode jdk_38_method_6_code 4 = .ok (.arraylength, 1) := by decide +kernel
theorem d26_5 : decode jdk_38_method_6_code 5 = .ok (.istore_n 2, 1) := by decide +kernel
theorem d26_6 : decode jdk_38_method_6_code 6 = .ok (.iload_n 2, 1) := by decide +kernel
theorem d26_7 : decode jdk_38_method_6_code 7 = .ok (.ifCond .gt 13, 3) := by decide +kernel
theorem d26_10 : decode jdk_38_method_6_code 10 = .ok (.aload_n 0, 1) := by decide +kernel
theorem d26_11 : decode jdk_38_method_6_code 11 = .ok (.getfield 9, 3) := by decide +kernel
theorem d26_14 : decode jdk_38_method_6_code 14 = .ok (.getstatic 39, 3) := by decide +kernel
theorem d26_17 : decode jdk_38_method_6_code 17 = .ok (.if_acmp .eq 28, 3) := by decide +kernel
theorem d26_45 : decode jdk_38_method_6_code 45 = .ok (.aload_n 0, 1) := by decide +kernel
theorem d26_46 : decode jdk_38_method_6_code 46 = .ok (.bipush 10, 2) := by decide +kernel
theorem d26_48 : decode jdk_38_method_6_code 48 = .ok (.iload_n 1, 1) := by decide +kernel
theorem d26_49 : decode jdk_38_method_6_code 49 = .ok (.invokestatic 79, 3) := by decide +kernel
theorem d26_52 : decode jdk_38_method_6_code 52 = .ok (.anewarray 7, 3) := by decide +kernel
theorem d26_55 : decode jdk_38_method_6_code 55 = .ok (.dup_x1, 1) := by decide +kernel
theorem d26_56 : decode jdk_38_method_6_code 56 = .ok (.putfield 9, 3) := by decide +kernel
theorem d26_59 : decode jdk_38_method_6_code 59 = .ok (.areturn, 1) := by decide +kernel
theorem d27_0 : decode jdk_29_method_65_code 0 = .ok (.iload_n 0, 1) := by decide +kernel
theorem d27_1 : decode jdk_29_method_65_code 1 = .ok (.iload_n 1, 1) := by decide +kernel
theorem d27_2 : decode jdk_29_method_65_code 2 = .ok (.if_icmp .lt 7, 3) := by decide +kernel
theorem d27_5 : decode jdk_29_method_65_code 5 = .ok (.iload_n 0, 1) := by decide +kernel
theorem d27_6 : decode jdk_29_method_65_code 6 = .ok (.goto 4, 3) := by decide +kernel
theorem d27_10 : decode jdk_29_method_65_code 10 = .ok (.ireturn, 1) := by decide +kernel
theorem d33_0 : decode jdk_32_method_3_code 0 = .ok (.new 2, 3) := by decide +kernel
theorem d33_3 : decode jdk_32_method_3_code 3 = .ok (.dup, 1) := by decide +kernel
theorem d33_4 : decode jdk_32_method_3_code 4 = .ok (.aload_n 0, 1) := by decide +kernel
theorem d33_5 : decode jdk_32_method_3_code 5 = .ok (.invokestatic 17, 3) := by decide +kernel
theorem d33_8 : decode jdk_32_method_3_code 8 = .ok (.invokespecial 23, 3) := by decide +kernel
theorem d33_11 : decode jdk_32_method_3_code 11 = .ok (.areturn, 1) := by decide +kernel
theorem d34_0 : decode jdk_32_method_2_code 0 = .ok (.aload_n 0, 1) := by decide +kernel
theorem d34_1 : decode jdk_32_method_2_code 1 = .ok (.invokespecial 7, 3) := by decide +kernel
theorem d34_4 : decode jdk_32_method_2_code 4 = .ok (.aload_n 0, 1) := by decide +kernel
theorem d34_5 : decode jdk_32_method_2_code 5 = .ok (.aload_n 1, 1) := by decide +kernel
theorem d34_6 : decode jdk_32_method_2_code 6 = .ok (.putfield 13, 3) := by decide +kernel
theorem d34_9 : decode jdk_32_method_2_code 9 = .ok (.return_, 1) := by decide +kernel
theorem d35_0 : decode jdk_38_method_16_code 0 = .ok (.aload_n 0, 1) := by decide +kernel
theorem d35_1 : decode jdk_38_method_16_code 1 = .ok (.getfield 9, 3) := by decide +kernel
theorem d35_4 : decode jdk_38_method_16_code 4 = .ok (.aload_n 0, 1) := by decide +kernel
theorem d35_5 : decode jdk_38_method_16_code 5 = .ok (.getfield 48, 3) := by decide +kernel
theorem d35_8 : decode jdk_38_method_16_code 8 = .ok (.invokestatic 66, 3) := by decide +kernel
theorem d35_11 : decode jdk_38_method_16_code 11 = .ok (.areturn, 1) := by decide +kernel
theorem d36_0 : decode jdk_65_method_119_code 0 = .ok (.aload_n 0, 1) := by decide +kernel
theorem d36_1 : decode jdk_65_method_119_code 1 = .ok (.iload_n 1, 1) := by decide +kernel
theorem d36_2 : decode jdk_65_method_119_code 2 = .ok (.aload_n 0, 1) := by decide +kernel
theorem d36_3 : decode jdk_65_method_119_code 3 = .ok (.invokevirtual 86, 3) := by decide +kernel
theorem d36_6 : decode jdk_65_method_119_code 6 = .ok (.invokestatic 300, 3) := by decide +kernel
theorem d36_9 : decode jdk_65_method_119_code 9 = .ok (.areturn, 1) := by decide +kernel
theorem d37_0 : decode jdk_65_method_120_code 0 = .ok (.aload_n 2, 1) := by decide +kernel
theorem d37_1 : decode jdk_65_method_120_code 1 = .ok (.ldc 110, 2) := by decide +kernel
theorem d37_3 : decode jdk_65_method_120_code 3 = .ok (.if_acmp .ne 10, 3) := by decide +kernel
theorem d37_6 : decode jdk_65_method_120_code 6 = .ok (.iload_n 1, 1) := by decide +kernel
theorem d37_7 : decode jdk_65_method_120_code 7 = .ok (.anewarray 2, 3) := by decide +kernel
theorem d37_10 : decode jdk_65_method_120_code 10 = .ok (.goto 14, 3) := by decide +kernel
theorem d37_24 : decode jdk_65_method_120_code 24 = .ok (.astore_n 3, 1) := by decide +kernel
theorem d37_25 : decode jdk_65_method_120_code 25 = .ok (.aload_n 0, 1) := by decide +kernel
theorem d37_26 : decode jdk_65_method_120_code 26 = .ok (.iconst 0, 1) := by decide +kernel
theorem d37_27 : decode jdk_65_method_120_code 27 = .ok (.aload_n 3, 1) := by decide +kernel
theorem d37_28 : decode jdk_65_method_120_code 28 = .ok (.iconst 0, 1) := by decide +kernel
theorem d37_29 : decode jdk_65_method_120_code 29 = .ok (.aload_n 0, 1) := by decide +kernel
theorem d37_30 : decode jdk_65_method_120_code 30 = .ok (.arraylength, 1) := by decide +kernel
theorem d37_31 : decode jdk_65_method_120_code 31 = .ok (.iload_n 1, 1) := by decide +kernel
theorem d37_32 : decode jdk_65_method_120_code 32 = .ok (.invokestatic 304, 3) := by decide +kernel
theorem d37_35 : decode jdk_65_method_120_code 35 = .ok (.invokestatic 150, 3) := by decide +kernel
theorem d37_38 : decode jdk_65_method_120_code 38 = .ok (.aload_n 3, 1) := by decide +kernel
theorem d37_39 : decode jdk_65_method_120_code 39 = .ok (.areturn, 1) := by decide +kernel
theorem d38_0 : decode jdk_29_method_69_code 0 = .ok (.iload_n 0, 1) := by decide +kernel
theorem d38_1 : decode jdk_29_method_69_code 1 = .ok (.iload_n 1, 1) := by decide +kernel
theorem d38_2 : decode jdk_29_method_69_code 2 = .ok (.if_icmp .gt 7, 3) := by decide +kernel
theorem d38_9 : decode jdk_29_method_69_code 9 = .ok (.iload_n 1, 1) := by decide +kernel
theorem d38_10 : decode jdk_29_method_69_code 10 = .ok (.ireturn, 1) := by decide +kernel
theorem d39_0 : decode jdk_40_method_47_code 0 = .ok (.aload_n 0, 1) := by decide +kernel
theorem d39_1 : decode jdk_40_method_47_code 1 = .ok (.arraylength, 1) := by decide +kernel
theorem d39_2 : decode jdk_40_method_47_code 2 = .ok (.tableswitch 57 0 2 #[26, 32, 43], 26) := by decide +kernel
theorem d39_34 : decode jdk_40_method_47_code 34 = .ok (.new 96, 3) := by decide +kernel
theorem d39_37 : decode jdk_40_method_47_code 37 = .ok (.dup, 1) := by decide +kernel
theorem d39_38 : decode jdk_40_method_47_code 38 = .ok (.aload_n 0, 1) := by decide +kernel
theorem d39_39 : decode jdk_40_method_47_code 39 = .ok (.iconst 0, 1) := by decide +kernel
theorem d39_40 : decode jdk_40_method_47_code 40 = .ok (.aaload, 1) := by decide +kernel
theorem d39_41 : decode jdk_40_method_47_code 41 = .ok (.invokespecial 98, 3) := by decide +kernel
theorem d39_44 : decode jdk_40_method_47_code 44 = .ok (.areturn, 1) := by decide +kernel
theorem d39_45 : decode jdk_40_method_47_code 45 = .ok (.new 96, 3) := by decide +kernel
theorem d39_48 : decode jdk_40_method_47_code 48 = .ok (.dup, 1) := by decide +kernel
theorem d39_49 : decode jdk_40_method_47_code 49 = .ok (.aload_n 0, 1) := by decide +kernel
theorem d39_50 : decode jdk_40_method_47_code 50 = .ok (.iconst 0, 1) := by decide +kernel
theorem d39_51 : decode jdk_40_method_47_code 51 = .ok (.aaload, 1) := by decide +kernel
theorem d39_52 : decode jdk_40_method_47_code 52 = .ok (.aload_n 0, 1) := by decide +kernel
theorem d39_53 : decode jdk_40_method_47_code 53 = .ok (.iconst 1, 1) := by decide +kernel
theorem d39_54 : decode jdk_40_method_47_code 54 = .ok (.aaload, 1) := by decide +kernel
theorem d39_55 : decode jdk_40_method_47_code 55 = .ok (.invokespecial 100, 3) := by decide +kernel
theorem d39_58 : decode jdk_40_method_47_code 58 = .ok (.areturn, 1) := by decide +kernel
theorem d39_59 : decode jdk_40_method_47_code 59 = .ok (.aload_n 0, 1) := by decide +kernel
theorem d39_60 : decode jdk_40_method_47_code 60 = .ok (.invokestatic 109, 3) := by decide +kernel
theorem d39_63 : decode jdk_40_method_47_code 63 = .ok (.areturn, 1) := by decide +kernel
theorem d40_0 : decode jdk_56_method_4_code 0 = .ok (.aload_n 0, 1) := by decide +kernel
theorem d40_1 : decode jdk_56_method_4_code 1 = .ok (.arraylength, 1) := by decide +kernel
theorem d40_2 : decode jdk_56_method_4_code 2 = .ok (.anewarray 2, 3) := by decide +kernel
theorem d40_5 : decode jdk_56_method_4_code 5 = .ok (.astore_n 1, 1) := by decide +kernel
theorem d40_6 : decode jdk_56_method_4_code 6 = .ok (.iconst 0, 1) := by decide +kernel
theorem d40_7 : decode jdk_56_method_4_code 7 = .ok (.istore_n 2, 1) := by decide +kernel
theorem d40_8 : decode jdk_56_method_4_code 8 = .ok (.iload_n 2, 1) := by decide +kernel
theorem d40_9 : decode jdk_56_method_4_code 9 = .ok (.aload_n 0, 1) := by decide +kernel
theorem d40_10 : decode jdk_56_method_4_code 10 = .ok (.arraylength, 1) := by decide +kernel
theorem d40_11 : decode jdk_56_method_4_code 11 = .ok (.if_icmp .ge 18, 3) := by decide +kernel
theorem d40_14 : decode jdk_56_method_4_code 14 = .ok (.aload_n 1, 1) := by decide +kernel
theorem d40_15 : decode jdk_56_method_4_code 15 = .ok (.iload_n 2, 1) := by decide +kernel
theorem d40_16 : decode jdk_56_method_4_code 16 = .ok (.aload_n 0, 1) := by decide +kernel
theorem d40_17 : decode jdk_56_method_4_code 17 = .ok (.iload_n 2, 1) := by decide +kernel
theorem d40_18 : decode jdk_56_method_4_code 18 = .ok (.aaload, 1) := by decide +kernel
theorem d40_19 : decode jdk_56_method_4_code 19 = .ok (.invokestatic 37, 3) := by decide +kernel
theorem d40_22 : decode jdk_56_method_4_code 22 = .ok (.aastore, 1) := by decide +kernel
theorem d40_23 : decode jdk_56_method_4_code 23 = .ok (.iinc 2 1, 3) := by decide +kernel
theorem d40_26 : decode jdk_56_method_4_code 26 = .ok (.goto (-18), 3) := by decide +kernel
theorem d40_29 : decode jdk_56_method_4_code 29 = .ok (.new 12, 3) := by decide +kernel
theorem d40_32 : decode jdk_56_method_4_code 32 = .ok (.dup, 1) := by decide +kernel
theorem d40_33 : decode jdk_56_method_4_code 33 = .ok (.aload_n 1, 1) := by decide +kernel
theorem d40_34 : decode jdk_56_method_4_code 34 = .ok (.iconst 0, 1) := by decide +kernel
theorem d40_35 : decode jdk_56_method_4_code 35 = .ok (.invokespecial 43, 3) := by decide +kernel
theorem d40_38 : decode jdk_56_method_4_code 38 = .ok (.areturn, 1) := by decide +kernel
theorem d41_0 : decode jdk_45_method_1_code 0 = .ok (.aload_n 0, 1) := by decide +kernel
theorem d41_1 : decode jdk_45_method_1_code 1 = .ok (.invokespecial 1, 3) := by decide +kernel
theorem d41_4 : decode jdk_45_method_1_code 4 = .ok (.aload_n 0, 1) := by decide +kernel
theorem d41_5 : decode jdk_45_method_1_code 5 = .ok (.aload_n 1, 1) := by decide +kernel
theorem d41_6 : decode jdk_45_method_1_code 6 = .ok (.putfield 7, 3) := by decide +kernel
theorem d41_9 : decode jdk_45_method_1_code 9 = .ok (.aload_n 0, 1) := by decide +kernel
theorem d41_10 : decode jdk_45_method_1_code 10 = .ok (.iload_n 2, 1) := by decide +kernel
theorem d41_11 : decode jdk_45_method_1_code 11 = .ok (.putfield 13, 3) := by decide +kernel
theorem d41_14 : decode jdk_45_method_1_code 14 = .ok (.return_, 1) := by decide +kernel
theorem d42_0 : decode jdk_46_method_1_code 0 = .ok (.aload_n 0, 1) := by decide +kernel
theorem d42_1 : decode jdk_46_method_1_code 1 = .ok (.invokespecial 1, 3) := by decide +kernel
theorem d42_4 : decode jdk_46_method_1_code 4 = .ok (.return_, 1) := by decide +kernel
theorem d43_0 : decode jdk_47_method_1_code 0 = .ok (.aload_n 0, 1) := by decide +kernel
theorem d43_1 : decode jdk_47_method_1_code 1 = .ok (.invokespecial 1, 3) := by decide +kernel
theorem d43_4 : decode jdk_47_method_1_code 4 = .ok (.return_, 1) := by decide +kernel
theorem d44_0 : decode jdk_45_method_2_code 0 = .ok (.aload_n 0, 1) := by decide +kernel
theorem d44_1 : decode jdk_45_method_2_code 1 = .ok (.getfield 7, 3) := by decide +kernel
theorem d44_4 : decode jdk_45_method_2_code 4 = .ok (.arraylength, 1) := by decide +kernel
theorem d44_5 : decode jdk_45_method_2_code 5 = .ok (.ifCond .ne 7, 3) := by decide +kernel
theorem d44_12 : decode jdk_45_method_2_code 12 = .ok (.iconst 0, 1) := by decide +kernel
theorem d44_13 : decode jdk_45_method_2_code 13 = .ok (.ireturn, 1) := by decide +kernel
theorem d45_0 : decode prog_36_method_11_code 0 = .ok (.aload_n 0, 1) := by decide +kernel
theorem d45_1 : decode prog_36_method_11_code 1 = .ok (.getfield 37, 3) := by decide +kernel
theorem d45_4 : decode prog_36_method_11_code 4 = .ok (.aload_n 0, 1) := by decide +kernel
theorem d45_5 : decode prog_36_method_11_code 5 = .ok (.getfield 37, 3) := by decide +kernel
theorem d45_8 : decode prog_36_method_11_code 8 = .ok (.invokeinterface 93 1, 5) := by decide +kernel
theorem d45_13 : decode prog_36_method_11_code 13 = .ok (.iconst 1, 1) := by decide +kernel
theorem d45_14 : decode prog_36_method_11_code 14 = .ok (.isub, 1) := by decide +kernel
theorem d45_15 : decode prog_36_method_11_code 15 = .ok (.invokeinterface 97 2, 5) := by decide +kernel
theorem d45_20 : decode prog_36_method_11_code 20 = .ok (.checkcast 101, 3) := by decide +kernel
theorem d45_23 : decode prog_36_method_11_code 23 = .ok (.areturn, 1) := by decide +kernel
theorem d46_0 : decode jdk_45_method_3_code 0 = .ok (.aload_n 0, 1) := by decide +kernel
theorem d46_1 : decode jdk_45_method_3_code 1 = .ok (.getfield 7, 3) := by decide +kernel
theorem d46_4 : decode jdk_45_method_3_code 4 = .ok (.arraylength, 1) := by decide +kernel
theorem d46_5 : decode jdk_45_method_3_code 5 = .ok (.ireturn, 1) := by decide +kernel
theorem d47_0 : decode jdk_45_method_4_code 0 = .ok (.aload_n 0, 1) := by decide +kernel
theorem d47_1 : decode jdk_45_method_4_code 1 = .ok (.getfield 7, 3) := by decide +kernel
theorem d47_4 : decode jdk_45_method_4_code 4 = .ok (.iload_n 1, 1) := by decide +kernel
theorem d47_5 : decode jdk_45_method_4_code 5 = .ok (.aaload, 1) := by decide +kernel
theorem d47_6 : decode jdk_45_method_4_code 6 = .ok (.areturn, 1) := by decide +kernel
theorem d48_0 : decode jdk_32_method_4_code 0 = .ok (.aload_n 0, 1) := by decide +kernel
theorem d48_1 : decode jdk_32_method_4_code 1 = .ok (.ifnonnull 9, 3) := by decide +kernel
theorem d48_10 : decode jdk_32_method_4_code 10 = .ok (.new 2, 3) := by decide +kernel
theorem d48_13 : decode jdk_32_method_4_code 13 = .ok (.dup, 1) := by decide +kernel
theorem d48_14 : decode jdk_32_method_4_code 14 = .ok (.aload_n 0, 1) := by decide +kernel
theorem d48_15 : decode jdk_32_method_4_code 15 = .ok (.invokespecial 23, 3) := by decide +kernel
theorem d48_18 : decode jdk_32_method_4_code 18 = .ok (.areturn, 1) := by decide +kernel
theorem d49_0 : decode jdk_32_method_5_code 0 = .ok (.aload_n 0, 1) := by decide +kernel
theorem d49_1 : decode jdk_32_method_5_code 1 = .ok (.getfield 13, 3) := by decide +kernel
theorem d49_4 : decode jdk_32_method_5_code 4 = .ok (.ifnonnull 13, 3) := by decide +kernel
theorem d49_17 : decode jdk_32_method_5_code 17 = .ok (.aload_n 0, 1) := by decide +kernel
theorem d49_18 : decode jdk_32_method_5_code 18 = .ok (.getfield 13, 3) := by decide +kernel
theorem d49_21 : decode jdk_32_method_5_code 21 = .ok (.areturn, 1) := by decide +kernel
theorem d50_0 : decode jdk_44_method_2_code 0 = .ok (.aload_n 0, 1) := by decide +kernel
theorem d50_1 : decode jdk_44_method_2_code 1 = .ok (.invokespecial 1, 3) := by decide +kernel
theorem d50_4 : decode jdk_44_method_2_code 4 = .ok (.aload_n 0, 1) := by decide +kernel
theorem d50_5 : decode jdk_44_method_2_code 5 = .ok (.aload_n 1, 1) := by decide +kernel
theorem d50_6 : decode jdk_44_method_2_code 6 = .ok (.invokestatic 7, 3) := by decide +kernel
theorem d50_9 : decode jdk_44_method_2_code 9 = .ok (.putfield 13, 3) := by decide +kernel
theorem d50_12 : decode jdk_44_method_2_code 12 = .ok (.aload_n 0, 1) := by decide +kernel
theorem d50_13 : decode jdk_44_method_2_code 13 = .ok (.aload_n 2, 1) := by decide +kernel
theorem d50_14 : decode jdk_44_method_2_code 14 = .ok (.invokestatic 7, 3) := by decide +kernel
theorem d50_17 : decode jdk_44_method_2_code 17 = .ok (.putfield 24, 3) := by decide +kernel
theorem d50_20 : decode jdk_44_method_2_code 20 = .ok (.return_, 1) := by decide +kernel
theorem d51_0 : decode jdk_44_method_1_code 0 = .ok (.aload_n 0, 1) := by decide +kernel
theorem d51_1 : decode jdk_44_method_1_code 1 = .ok (.invokespecial 1, 3) := by decide +kernel
theorem d51_4 : decode jdk_44_method_1_code 4 = .ok (.aload_n 0, 1) := by decide +kernel
theorem d51_5 : decode jdk_44_method_1_code 5 = .ok (.aload_n 1, 1) := by decide +kernel
theorem d51_6 : decode jdk_44_method_1_code 6 = .ok (.invokestatic 7, 3) := by decide +kernel
theorem d51_9 : decode jdk_44_method_1_code 9 = .ok (.putfield 13, 3) := by decide +kernel
theorem d51_12 : decode jdk_44_method_1_code 12 = .ok (.aload_n 0, 1) := by decide +kernel
theorem d51_13 : decode jdk_44_method_1_code 13 = .ok (.getstatic 19, 3) := by decide +kernel
theorem d51_16 : decode jdk_44_method_1_code 16 = .ok (.putfield 24, 3) := by decide +kernel
theorem d51_19 : decode jdk_44_method_1_code 19 = .ok (.return_, 1) := by decide +kernel
theorem d52_0 : decode jdk_44_method_4_code 0 = .ok (.iconst 0, 1) := by decide +kernel
theorem d52_1 : decode jdk_44_method_4_code 1 = .ok (.ireturn, 1) := by decide +kernel
theorem d53_0 : decode jdk_44_method_3_code 0 = .ok (.aload_n 0, 1) := by decide +kernel
theorem d53_1 : decode jdk_44_method_3_code 1 = .ok (.getfield 24, 3) := by decide +kernel
theorem d53_4 : decode jdk_44_method_3_code 4 = .ok (.getstatic 19, 3) := by decide +kernel
theorem d53_7 : decode jdk_44_method_3_code 7 = .ok (.if_acmp .eq 7, 3) := by decide +kernel
theorem d53_10 : decode jdk_44_method_3_code 10 = .ok (.iconst 2, 1) := by decide +kernel
theorem d53_11 : decode jdk_44_method_3_code 11 = .ok (.goto 4, 3) := by decide +kernel
theorem d53_14 : decode jdk_44_method_3_code 14 = .ok (.iconst 1, 1) := by decide +kernel
theorem d53_15 : decode jdk_44_method_3_code 15 = .ok (.ireturn, 1) := by decide +kernel
theorem d54_0 : decode jdk_44_method_5_code 0 = .ok (.iload_n 1, 1) := by decide +kernel
theorem d54_1 : decode jdk_44_method_5_code 1 = .ok (.ifCond .ne 8, 3) := by decide +kernel
theorem d54_4 : decode jdk_44_method_5_code 4 = .ok (.aload_n 0, 1) := by decide +kernel
theorem d54_5 : decode jdk_44_method_5_code 5 = .ok (.getfield 13, 3) := by decide +kernel
theorem d54_8 : decode jdk_44_method_5_code 8 = .ok (.areturn, 1) := by decide +kernel
theorem d54_9 : decode jdk_44_method_5_code 9 = .ok (.iload_n 1, 1) := by decide +kernel
theorem d54_10 : decode jdk_44_method_5_code 10 = .ok (.iconst 1, 1) := by decide +kernel
theorem d54_11 : decode jdk_44_method_5_code 11 = .ok (.if_icmp .ne 18, 3) := by decide +kernel
theorem d54_14 : decode jdk_44_method_5_code 14 = .ok (.aload_n 0, 1) := by decide +kernel
theorem d54_15 : decode jdk_44_method_5_code 15 = .ok (.getfield 24, 3) := by decide +kernel
theorem d54_18 : decode jdk_44_method_5_code 18 = .ok (.getstatic 19, 3) := by decide +kernel
theorem d54_21 : decode jdk_44_method_5_code 21 = .ok (.if_acmp .eq 8, 3) := by decide +kernel
theorem d54_24 : decode jdk_44_method_5_code 24 = .ok (.aload_n 0, 1) := by decide +kernel
theorem d54_25 : decode jdk_44_method_5_code 25 = .ok (.getfield 24, 3) := by decide +kernel
theorem d54_28 : decode jdk_44_method_5_code 28 = .ok (.areturn, 1) := by decide +kernel
theorem pd0 : parseMethodDescriptor "(C)Z" = some ⟨[.char], some .boolean⟩ := by decide +kernel
theorem pd1 : parseMethodDescriptor "(C)[B" = some ⟨[.char], some (.array .byte)⟩ := by decide +kernel
theorem pd2 : parseMethodDescriptor "([BB)V" = some ⟨[(.array .byte), .byte], none⟩ := by decide +kernel
theorem pd3 : parseMethodDescriptor "()V" = some ⟨[], none⟩ := by decide +kernel
theorem pd4 : parseMethodDescriptor "(Ljava/lang/Object;Ljava/lang/String;)Ljava/lang/Object;" = some ⟨[(.object "java/lang/Object"), (.object "java/lang/String")], some (.object "java/lang/Object")⟩ := by decide +kernel
theorem pd5 : parseMethodDescriptor "(II)I" = some ⟨[.int, .int], some .int⟩ := by decide +kernel
theorem pd6 : parseMethodDescriptor "(I)[Ljava/lang/Object;" = some ⟨[.int], some (.array (.object "java/lang/Object"))⟩ := by decide +kernel
theorem pd7 : parseMethodDescriptor "()[Ljava/lang/Object;" = some ⟨[], some (.array (.object "java/lang/Object"))⟩ := by decide +kernel
theorem pd8 : parseMethodDescriptor "(Ljava/lang/Object;[Ljava/lang/Object;I)V" = some ⟨[(.object "java/lang/Object"), (.array (.object "java/lang/Object")), .int], none⟩ := by decide +kernel
theorem pd9 : parseMethodDescriptor "([Ljava/lang/Object;ILjava/lang/Class;)[Ljava/lang/Object;" = some ⟨[(.array (.object "java/lang/Object")), .int, (.object "java/lang/Class")], some (.array (.object "java/lang/Object"))⟩ := by decide +kernel
theorem pd10 : parseMethodDescriptor "([Ljava/lang/Object;I)[Ljava/lang/Object;" = some ⟨[(.array (.object "java/lang/Object")), .int], some (.array (.object "java/lang/Object"))⟩ := by decide +kernel
theorem pd11 : parseMethodDescriptor "(Ljava/lang/Object;)Ljava/lang/Object;" = some ⟨[(.object "java/lang/Object")], some (.object "java/lang/Object")⟩ := by decide +kernel
theorem pd12 : parseMethodDescriptor "([Ljava/lang/Object;Z)V" = some ⟨[(.array (.object "java/lang/Object")), .boolean], none⟩ := by decide +kernel
theorem pd13 : parseMethodDescriptor "(Ljava/lang/Object;)V" = some ⟨[(.object "java/lang/Object")], none⟩ := by decide +kernel
theorem pd14 : parseMethodDescriptor "(Ljava/lang/Object;Ljava/lang/Object;)V" = some ⟨[(.object "java/lang/Object"), (.object "java/lang/Object")], none⟩ := by decide +kernel
theorem pd15 : parseMethodDescriptor "([Ljava/lang/Object;)Ljava/util/List;" = some ⟨[(.array (.object "java/lang/Object"))], some (.object "java/util/List")⟩ := by decide +kernel
theorem pd16 : parseMethodDescriptor "()Z" = some ⟨[], some .boolean⟩ := by decide +kernel
theorem pd17 : parseMethodDescriptor "()Ljava/util/List;" = some ⟨[], some (.object "java/util/List")⟩ := by decide +kernel
theorem pd18 : parseMethodDescriptor "(Ljava/util/Collection;)Ljava/util/List;" = some ⟨[(.object "java/util/Collection")], some (.object "java/util/List")⟩ := by decide +kernel
theorem pd19 : parseMethodDescriptor "()I" = some ⟨[], some .int⟩ := by decide +kernel
theorem pd20 : parseMethodDescriptor "(I)Ljava/lang/Object;" = some ⟨[.int], some (.object "java/lang/Object")⟩ := by decide +kernel
theorem pd21 : parseMethodDescriptor "()Ljava/util/Optional;" = some ⟨[], some (.object "java/util/Optional")⟩ := by decide +kernel
theorem pd22 : parseMethodDescriptor "(Ljava/lang/String;)Lcom/example/lexbind/lexbind/messages/Explanation$Step;" = some ⟨[(.object "java/lang/String")], some (.object "com/example/lexbind/lexbind/messages/Explanation$Step")⟩ := by decide +kernel
theorem pd23 : parseMethodDescriptor "(Ljava/lang/Object;)Ljava/util/Optional;" = some ⟨[(.object "java/lang/Object")], some (.object "java/util/Optional")⟩ := by decide +kernel
theorem pd24 : parseMethodDescriptor "(Ljava/util/function/Function;)Ljava/util/Optional;" = some ⟨[(.object "java/util/function/Function")], some (.object "java/util/Optional")⟩ := by decide +kernel
theorem pd25 : parseMethodDescriptor "(C)Ljava/lang/String;" = some ⟨[.char], some (.object "java/lang/String")⟩ := by decide +kernel
theorem pd26 : parseMethodDescriptor "(Ljava/lang/String;Ljava/lang/String;)V" = some ⟨[(.object "java/lang/String"), (.object "java/lang/String")], none⟩ := by decide +kernel
theorem pd27 : parseMethodDescriptor "(Ljava/util/List;Ljava/util/Optional;Ljava/util/List;)V" = some ⟨[(.object "java/util/List"), (.object "java/util/Optional"), (.object "java/util/List")], none⟩ := by decide +kernel
theorem pd28 : parseMethodDescriptor "(Ljava/lang/Object;)Z" = some ⟨[(.object "java/lang/Object")], some .boolean⟩ := by decide +kernel
theorem pd29 : parseMethodDescriptor "([C)V" = some ⟨[(.array .char)], none⟩ := by decide +kernel
theorem pd30 : parseMethodDescriptor "()Ljava/lang/Object;" = some ⟨[], some (.object "java/lang/Object")⟩ := by decide +kernel
def Q_cencC (Z : State) (gC : Int32) (v_DE : Addr) (k_DE : ClassId) (v_EL : Addr) (v_EM : Addr) (v_OE : Addr) (m_OA : Addr) (c1 : Int32) (h : Heap) (v : Option Value) (h' : Heap) (WL' FL' : List Addr) : Prop := v = some (.int 1) ∧ WL' = [] ∧ FL' = [] ∧ h' = h
theorem ct_cencC (cx : Cx a0 Z gC v_DE k_DE v_EL v_EM v_OE m_OA) (c1 : Int32) (h : Heap) (WL FL : List Addr) (hR : ¬ c1 < 0 ∧ ¬ (255 : Int32) < c1) :
    Ct l Z EL1 n0 (⟨"java/lang/StringLatin1", "canEncode", "(C)Z"⟩ : MethodName) jdk_43_method_3_code 1 (Option.some FieldType.boolean) ({ frames := 0, cells := 0, slots := 0, locals := 0 } : Room) #[(.int c1)] h WL FL (Q_cencC Z gC v_DE k_DE v_EL v_EM v_OE m_OA c1 h) := by
  refine Ct.of (plainFor_of_name pn0) ?_
  intro p e s m below meth c s1 hx hby hml hnm hret hlk X0
  refine Wo.cast (f' := (mkF m 0 #[.val (.int c1)] [])) (by rfl) ?_
  show Wo _ _ _ _ _ _ _ _ _ _ _ s1 (mkF m 0 #[.val (.int c1)] [])
  refine P.iloadN X0 hx 1 (hb hby d2_0) rfl rfl ?_
  refine P.sipush X0 hx 4 255 (hb hby d2_1) rfl rfl ?_
  refine P.icmpNo X0 hx 7 (hb hby d2_4) (flt hR.2).2.2.1 rfl ?_
  refine P.iconst X0 hx 8 1 (hb hby d2_7) rfl rfl ?_
  refine P.goto X0 hx 12 (hb hby d2_8) (by decide) (by decide) ?_
  exact WS.retN X0 (WL' := []) (FL' := []) hx (t := .boolean) hret (by simp) hlk (hb hby d2_12) (nle rfl) (nle rfl) ⟨rfl, rfl, rfl, rfl⟩
def Q_tobyC (Z : State) (gC : Int32) (v_DE : Addr) (k_DE : ClassId) (v_EL : Addr) (v_EM : Addr) (v_OE : Addr) (m_OA : Addr) (c1 : Int32) (h : Heap) (v : Option Value) (h' : Heap) (WL' FL' : List Addr) : Prop := ∃ u : Addr, ∃ ku : ClassId, v = some (.ref u) ∧ WL' = [u] ∧ FL' = [] ∧ Keep h h' [] ∧ h.size ≤ u ∧ Arv Z h' u ku .byte (1 : Int32) [(.int (c1.toInt8.toInt32))] (.int 0)
theorem ct_tobyC (cx : Cx a0 Z gC v_DE k_DE v_EL v_EM v_OE m_OA) (c1 : Int32) (h : Heap) (WL FL : List Addr)  :
    Ct l Z EL1 n0 (⟨"java/lang/StringLatin1", "toBytes", "(C)[B"⟩ : MethodName) jdk_43_method_46_code 1 (Option.some (FieldType.array FieldType.byte)) ({ frames := 0, cells := 1, slots := 1, locals := 0 } : Room) #[(.int c1)] h WL FL (Q_tobyC Z gC v_DE k_DE v_EL v_EM v_OE m_OA c1 h) := by
  refine Ct.of (plainFor_of_name pn0) ?_
  intro p e s m below meth c s1 hx hby hml hnm hret hlk X0
  refine Wo.cast (f' := (mkF m 0 #[.val (.int c1)] [])) (by rfl) ?_
  have K0 : Keep h h [] := Keep.refl _ _
  show Wo _ _ _ _ _ _ _ _ _ _ _ s1 (mkF m 0 #[.val (.int c1)] [])
  refine P.iconst X0 hx 1 1 (hb hby d3_0) rfl rfl ?_
  refine X0.newP (aty := .byte) hx (w14 cx) (hb hby d3_1) (by decide) (cap := 1) (nle rfl) (nle rfl) (nle rfl) (nle rfl) ?_
  intro T1 h1 a1 k1 X1 E1 g1 A1
  have ge2 : h.size ≤ a1 := Nat.le_trans K0.1 g1
  have K3 : Keep h h1 [] := K0.ext E1
  have V4 : Arv Z h1 a1 k1 .byte (1 : Int32) [(.int 0)] (.int 0) := Arv.pad A1 (pad_rep [] _ 1)
  refine P.dup X1 hx 4 (hb hby d3_3) rfl rfl ?_
  refine P.iconst X1 hx 5 0 (hb hby d3_4) rfl rfl ?_
  refine P.iloadN X1 hx 6 (hb hby d3_5) rfl rfl ?_
  refine P.i2b X1 hx 7 (z := (c1.toInt8.toInt32)) (hb hby d3_6) rfl rfl ?_
  refine X1.stB hx V4 (j := (0 : Int32)) (x := (c1.toInt8.toInt32)) (i := 0) (by decide) rfl (nlt rfl) (mg 0 rfl) (hb hby d3_7) ?_
  intro T5 h5 X5 W5 G5
  have K6 : Keep h h5 [] := K3.wr W5 (Or.inr ge2)
  have V7 : Arv Z h5 a1 k1 .byte (1 : Int32) [(.int (c1.toInt8.toInt32))] (.int 0) := by have q := G5; rw [narB] at q; exact q
  exact WS.retA X5 (WL' := [a1]) (FL' := []) hx hret rfl rfl hlk (hb hby d3_8) (nle rfl) (nle rfl) ⟨a1, k1, rfl, rfl, rfl, K6, ge2, V7⟩
def Q_sinBB (Z : State) (gC : Int32) (v_DE : Addr) (k_DE : ClassId) (v_EL : Addr) (v_EM : Addr) (v_OE : Addr) (m_OA : Addr) (x : Addr) (u : Addr) (h : Heap) (v : Option Value) (h' : Heap) (WL' FL' : List Addr) : Prop := v = none ∧ WL' = [] ∧ FL' = [] ∧ Keep h h' [x] ∧ Fld Z h' x "java/lang/String" "value" "[B" (.ref u) ∧ Fld Z h' x "java/lang/String" "coder" "B" (.int 0)
theorem ct_sinBB (cx : Cx a0 Z gC v_DE k_DE v_EL v_EM v_OE m_OA) (x : Addr) (u : Addr) (h : Heap) (WL FL : List Addr) (P0 : Exa Z h x "java/lang/String") (P1 : Fld Z h x "java/lang/String" "value" "[B" .null) (P2 : Fld Z h x "java/lang/String" "coder" "B" (.int 0)) (P3 : x ∈ WL) :
    Ct l Z EL1 n0 (⟨"java/lang/String", "<init>", "([BB)V"⟩ : MethodName) jdk_42_method_151_code 3 (Option.none : Option Jvm.ClassFile.FieldType) ({ frames := 1, cells := 0, slots := 0, locals := 12 } : Room) #[(.ref x), (.ref u), (.int 0)] h WL FL (Q_sinBB Z gC v_DE k_DE v_EL v_EM v_OE m_OA x u h) := by
  refine Ct.of (plainFor_of_name pn1) ?_
  intro p e s m below meth c s1 hx hby hml hnm hret hlk X0
  refine Wo.cast (f' := (mkF m 0 #[.val (.ref x), .val (.ref u), .val (.int 0)] [])) (by rfl) ?_
  have K0 : Keep h h [x] := Keep.refl _ _
  show Wo _ _ _ _ _ _ _ _ _ _ _ s1 (mkF m 0 #[.val (.ref x), .val (.ref u), .val (.int 0)] [])
  refine P.aloadN X0 hx 1 (hb hby d4_0) rfl rfl rfl ?_
  refine X0.initO hx (w19 cx) (w20 cx) (w21 cx) (by rw [hml]; rfl) (hb hby d4_1) (nle rfl) (W := 0) (Nat.le_of_eq rfl) (nle rfl) ?_
  intro T1 X1
  refine P.aloadN X1 hx 5 (hb hby d4_4) rfl rfl rfl ?_
  refine P.aloadN X1 hx 6 (hb hby d4_5) rfl rfl rfl ?_
  refine X1.putF hx (host := "") (Or.inl (w22 cx)) Via.refl P1 P0 (Or.inr ⟨(w23 cx), rfl, hnm⟩) (w10 cx) (ty := (.array .byte)) (by decide) rfl rfl P3 (hb hby d4_6) ?_
  intro T2 h2 X2 W2 G2
  have K3 : Keep h h2 [x] := K0.wr W2 (Or.inl (mg 0 rfl))
  refine P.aloadN X2 hx 10 (hb hby d4_9) rfl rfl rfl ?_
  refine P.iloadN X2 hx 11 (hb hby d4_10) rfl rfl ?_
  have F4 := P2.other W2 (Or.inr (slot_ne (Or.inr (w25 cx)) (Or.inr (w23 cx)) (by decide) (t := .byte) (t' := (.array .byte)) (by decide) (by decide)))
  have F5 := P0.wr W2
  refine X2.putF hx (host := "") (Or.inl (w24 cx)) Via.refl F4 F5 (Or.inr ⟨(w25 cx), rfl, hnm⟩) (w10 cx) (ty := .byte) (by decide) rfl rfl P3 (hb hby d4_11) ?_
  intro T6 h6 X6 W6 G6
  have K7 : Keep h h6 [x] := K3.wr W6 (Or.inl (mg 0 rfl))
  have F8 := G2.other W6 (Or.inr (slot_ne (Or.inr (w23 cx)) (Or.inr (w25 cx)) (by decide) (t := (.array .byte)) (t' := .byte) (by decide) (by decide)))
  exact WS.retV X6 (WL' := []) (FL' := []) hx hret hlk (hb hby d4_14) (nle rfl) (nle rfl) ⟨rfl, rfl, rfl, K7, F8, G6⟩
def Q_valC (Z : State) (gC : Int32) (v_DE : Addr) (k_DE : ClassId) (v_EL : Addr) (v_EM : Addr) (v_OE : Addr) (m_OA : Addr) (c1 : Int32) (h : Heap) (v : Option Value) (h' : Heap) (WL' FL' : List Addr) : Prop := ∃ x : Addr, ∃ u : Addr, v = some (.ref x) ∧ WL' = [x] ∧ FL' = [u] ∧ Keep h h' [] ∧ h.size ≤ x ∧ StrL Z h' x u [c1]
theorem ct_valC (cx : Cx a0 Z gC v_DE k_DE v_EL v_EM v_OE m_OA) (c1 : Int32) (h : Heap) (WL FL : List Addr) (hR : ¬ c1 < 0 ∧ ¬ (255 : Int32) < c1) :
    Ct l Z EL1 n0 (⟨"java/lang/String", "valueOf", "(C)Ljava/lang/String;"⟩ : MethodName) jdk_42_method_139_code 1 (Option.some (FieldType.object "java/lang/String")) ({ frames := 2, cells := 2, slots := 5, locals := 27 } : Room) #[(.int c1)] h WL FL (Q_valC Z gC v_DE k_DE v_EL v_EM v_OE m_OA c1 h) := by
  refine Ct.of (plainFor_of_name pn1) ?_
  intro p e s m below meth c s1 hx hby hml hnm hret hlk X0
  refine Wo.cast (f' := (mkF m 0 #[.val (.int c1)] [])) (by rfl) ?_
  have K0 : Keep h h [] := Keep.refl _ _
  show Wo _ _ _ _ _ _ _ _ _ _ _ s1 (mkF m 0 #[.val (.int c1)] [])
  refine X0.getS hx (w4 cx) Via.refl (S_C cx) (hb hby d1_0) ?_
  intro T1 X1
  refine P.ifNo X1 hx 6 (hb hby d1_3) ((if0 _ _).trans (feq (N_C cx)).1) rfl ?_
  refine P.iloadN X1 hx 7 (hb hby d1_6) rfl rfl ?_
  refine X1.callS hx (w5 cx) (w6 cx) (w7 cx) (w8 cx) (by decide) (Ct.pay (W := 0) (ct_cencC cx c1 h _ _ hR) (w8 cx) (w7 cx) (nle rfl) (nle rfl)) (by rw [hml]; rfl) (argsL := [.int c1]) (rest := []) (lenOf pd0 rfl) rfl rfl (Nat.le_of_eq rfl) (hb hby d1_7) (nle rfl) (nle rfl) ?_
  rintro T2 h2 _ _ _ X2 ⟨rfl, rfl, rfl, J2⟩
  rw [J2] at X2
  refine P.ifNo X2 hx 13 (hb hby d1_10) (by decide) rfl ?_
  refine X2.newO hx (w9 cx) (w10 cx) (w2 cx) (hb hby d1_13) (nle rfl) (nle rfl) ?_
  intro T3 h3 a3 X3 E3 g3 A3 D3
  have ge4 : h.size ≤ a3 := Nat.le_trans K0.1 g3
  have K5 : Keep h h3 [] := K0.ext E3
  have D6 : Fld Z h3 a3 "java/lang/String" "value" "[B" .null := D3 (Or.inr (w23 cx)) (ty := (.array .byte)) (by decide)
  have D7 : Fld Z h3 a3 "java/lang/String" "coder" "B" (.int 0) := D3 (Or.inr (w25 cx)) (ty := .byte) (by decide)
  refine P.dup X3 hx 17 (hb hby d1_16) rfl rfl ?_
  refine P.iloadN X3 hx 18 (hb hby d1_17) rfl rfl ?_
  refine X3.callS hx (w11 cx) (w12 cx) (w7 cx) (w13 cx) (by decide) (Ct.pay (W := 2) (ct_tobyC cx c1 h3 _ _ ) (w13 cx) (w7 cx) (nle rfl) (nle rfl)) (by rw [hml]; rfl) (argsL := [.int c1]) (rest := [.ref a3, .ref a3]) (lenOf pd1 rfl) rfl rfl (Nat.le_of_eq rfl) (hb hby d1_18) (nle rfl) (nle rfl) ?_
  rintro T8 h8 _ _ _ X8 ⟨a9, k10, rfl, rfl, rfl, J8, g12, G11⟩
  have ge13 : h.size ≤ a9 := Nat.le_trans K5.1 g12
  have K14 : Keep h h8 [] := K5.trans J8 all0
  refine P.iconst X8 hx 22 0 (hb hby d1_21) rfl rfl ?_
  have F15 := A3.keep J8
  have F16 := D6.keep J8 nin0
  have F17 := D7.keep J8 nin0
  refine X8.callC hx rfl (w15 cx) (w16 cx) (w18 cx) (by decide) (Ct.pay (W := 1) (ct_sinBB cx a3 a9 h8 _ _ F15 F16 F17 (mg 1 rfl)) (w18 cx) (w2 cx) (nle rfl) (nle rfl)) (by rw [hml]; rfl) (argsL := [.ref a9, .int 0]) (rest := [.ref a3]) (lenOf pd2 rfl) rfl rfl (Nat.le_of_eq rfl) (hb hby d1_22) (nle rfl) (nle rfl) ?_
  rintro T18 h18 _ _ _ X18 ⟨rfl, rfl, rfl, J18, G19, G20⟩
  have K21 : Keep h h18 [] := K14.trans J18 (allS (Or.inr ge4) all0)
  have F22 := F15.keep J18
  have F23 := G11.keep J18 (ninS (X18.ne (i := 0) (j := 1) rfl rfl (by decide)) nin0)
  have S24 : StrL Z h18 a3 a9 [c1] := ⟨F22, G19, G20, ⟨_, F23⟩, (fcS hR fc0), nle rfl⟩
  have X25 := WS.drop (A := []) (B := (a3 :: WL)) X18
  exact WS.retA X25 (WL' := [a3]) (FL' := [a9]) hx hret rfl rfl hlk (hb hby d1_25) (nle rfl) (nle rfl) ⟨a3, a9, rfl, rfl, rfl, K21, ge4, S24⟩
def Q_acini (Z : State) (gC : Int32) (v_DE : Addr) (k_DE : ClassId) (v_EL : Addr) (v_EM : Addr) (v_OE : Addr) (m_OA : Addr) (x : Addr) (h : Heap) (v : Option Value) (h' : Heap) (WL' FL' : List Addr) : Prop := v = none ∧ WL' = [] ∧ FL' = [] ∧ h' = h
theorem ct_acini (cx : Cx a0 Z gC v_DE k_DE v_EL v_EM v_OE m_OA) (x : Addr) (h : Heap) (WL FL : List Addr)  :
    Ct l Z EL1 n0 (⟨"java/util/AbstractCollection", "<init>", "()V"⟩ : MethodName) jdk_22_method_1_code 1 (Option.none : Option Jvm.ClassFile.FieldType) ({ frames := 1, cells := 0, slots := 0, locals := 12 } : Room) #[(.ref x)] h WL FL (Q_acini Z gC v_DE k_DE v_EL v_EM v_OE m_OA x h) := by
  refine Ct.of (plainFor_of_name pn2) ?_
  intro p e s m below meth c s1 hx hby hml hnm hret hlk X0
  refine Wo.cast (f' := (mkF m 0 #[.val (.ref x)] [])) (by rfl) ?_
  show Wo _ _ _ _ _ _ _ _ _ _ _ s1 (mkF m 0 #[.val (.ref x)] [])
  refine P.aloadN X0 hx 1 (hb hby d11_0) rfl rfl rfl ?_
  refine X0.initO hx (w71 cx) (w20 cx) (w21 cx) (by rw [hml]; rfl) (hb hby d11_1) (nle rfl) (W := 0) (Nat.le_of_eq rfl) (nle rfl) ?_
  intro T1 X1
  exact WS.retV X1 (WL' := []) (FL' := []) hx hret hlk (hb hby d11_4) (nle rfl) (nle rfl) ⟨rfl, rfl, rfl, rfl⟩
def Q_abini (Z : State) (gC : Int32) (v_DE : Addr) (k_DE : ClassId) (v_EL : Addr) (v_EM : Addr) (v_OE : Addr) (m_OA : Addr) (x : Addr) (h : Heap) (v : Option Value) (h' : Heap) (WL' FL' : List Addr) : Prop := v = none ∧ WL' = [] ∧ FL' = [] ∧ Keep h h' [x] ∧ Fld Z h' x "java/util/AbstractList" "modCount" "I" (.int 0) ∧ Fld Z h' x "java/util/ArrayList" "elementData" "[Ljava/lang/Object;" .null ∧ Fld Z h' x "java/util/ArrayList" "size" "I" (.int 0)
theorem ct_abini (cx : Cx a0 Z gC v_DE k_DE v_EL v_EM v_OE m_OA) (x : Addr) (h : Heap) (WL FL : List Addr) (P0 : Exa Z h x "java/util/ArrayList") (P1 : Fld Z h x "java/util/AbstractList" "modCount" "I" (.int 0)) (P2 : Fld Z h x "java/util/ArrayList" "elementData" "[Ljava/lang/Object;" .null) (P3 : Fld Z h x "java/util/ArrayList" "size" "I" (.int 0)) (P4 : x ∈ WL) :
    Ct l Z EL1 n0 (⟨"java/util/AbstractList", "<init>", "()V"⟩ : MethodName) jdk_39_method_1_code 1 (Option.none : Option Jvm.ClassFile.FieldType) ({ frames := 2, cells := 0, slots := 0, locals := 24 } : Room) #[(.ref x)] h WL FL (Q_abini Z gC v_DE k_DE v_EL v_EM v_OE m_OA x h) := by
  refine Ct.of (plainFor_of_name pn3) ?_
  intro p e s m below meth c s1 hx hby hml hnm hret hlk X0
  refine Wo.cast (f' := (mkF m 0 #[.val (.ref x)] [])) (by rfl) ?_
  have K0 : Keep h h [x] := Keep.refl _ _
  show Wo _ _ _ _ _ _ _ _ _ _ _ s1 (mkF m 0 #[.val (.ref x)] [])
  refine P.aloadN X0 hx 1 (hb hby d10_0) rfl rfl rfl ?_
  refine X0.callC hx rfl (w65 cx) (w66 cx) (w70 cx) (by decide) (Ct.pay (W := 0) (ct_acini cx x h _ _ ) (w70 cx) (w69 cx) (nle rfl) (nle rfl)) (by rw [hml]; rfl) (argsL := []) (rest := []) (lenOf pd3 rfl) rfl rfl (Nat.le_of_eq rfl) (hb hby d10_1) (nle rfl) (nle rfl) ?_
  rintro T1 h1 _ _ _ X1 ⟨rfl, rfl, rfl, J1⟩
  rw [J1] at X1
  refine P.aloadN X1 hx 5 (hb hby d10_4) rfl rfl rfl ?_
  refine P.iconst X1 hx 6 0 (hb hby d10_5) rfl rfl ?_
  refine X1.putF hx (host := "") (Or.inl (w72 cx)) Via.refl P1 P0 (Or.inl (w73 cx)) (w54 cx) (ty := .int) (by decide) rfl rfl P4 (hb hby d10_6) ?_
  intro T2 h2 X2 W2 G2
  have K3 : Keep h h2 [x] := K0.wr W2 (Or.inl (mg 0 rfl))
  have F4 := P2.other W2 (Or.inr (slot_ne (Or.inl (w76 cx)) (Or.inl (w73 cx)) (by decide) (t := (.array (.object "java/lang/Object"))) (t' := .int) (by decide) (by decide)))
  have F5 := P3.other W2 (Or.inr (slot_ne (Or.inl (w114 cx)) (Or.inl (w73 cx)) (by decide) (t := .int) (t' := .int) (by decide) (by decide)))
  exact WS.retV X2 (WL' := []) (FL' := []) hx hret hlk (hb hby d10_9) (nle rfl) (nle rfl) ⟨rfl, rfl, rfl, K3, G2, F4, F5⟩
def Q_alini (Z : State) (gC : Int32) (v_DE : Addr) (k_DE : ClassId) (v_EL : Addr) (v_EM : Addr) (v_OE : Addr) (m_OA : Addr) (x : Addr) (h : Heap) (v : Option Value) (h' : Heap) (WL' FL' : List Addr) : Prop := v = none ∧ WL' = [] ∧ FL' = [] ∧ Keep h h' [x] ∧ Fld Z h' x "java/util/AbstractList" "modCount" "I" (.int 0) ∧ Fld Z h' x "java/util/ArrayList" "elementData" "[Ljava/lang/Object;" (.ref v_DE) ∧ Fld Z h' x "java/util/ArrayList" "size" "I" (.int 0)
theorem ct_alini (cx : Cx a0 Z gC v_DE k_DE v_EL v_EM v_OE m_OA) (x : Addr) (h : Heap) (WL FL : List Addr) (P0 : Exa Z h x "java/util/ArrayList") (P1 : Fld Z h x "java/util/AbstractList" "modCount" "I" (.int 0)) (P2 : Fld Z h x "java/util/ArrayList" "elementData" "[Ljava/lang/Object;" .null) (P3 : Fld Z h x "java/util/ArrayList" "size" "I" (.int 0)) (P4 : x ∈ WL) :
    Ct l Z EL1 n0 (⟨"java/util/ArrayList", "<init>", "()V"⟩ : MethodName) jdk_38_method_2_code 1 (Option.none : Option Jvm.ClassFile.FieldType) ({ frames := 3, cells := 0, slots := 0, locals := 36 } : Room) #[(.ref x)] h WL FL (Q_alini Z gC v_DE k_DE v_EL v_EM v_OE m_OA x h) := by
  refine Ct.of (plainFor_of_name pn4) ?_
  intro p e s m below meth c s1 hx hby hml hnm hret hlk X0
  refine Wo.cast (f' := (mkF m 0 #[.val (.ref x)] [])) (by rfl) ?_
  have K0 : Keep h h [x] := Keep.refl _ _
  show Wo _ _ _ _ _ _ _ _ _ _ _ s1 (mkF m 0 #[.val (.ref x)] [])
  refine P.aloadN X0 hx 1 (hb hby d9_0) rfl rfl rfl ?_
  refine X0.callC hx rfl (w59 cx) (w60 cx) (w64 cx) (by decide) (Ct.pay (W := 0) (ct_abini cx x h _ _ P0 P1 P2 P3 P4) (w64 cx) (w63 cx) (nle rfl) (nle rfl)) (by rw [hml]; rfl) (argsL := []) (rest := []) (lenOf pd3 rfl) rfl rfl (Nat.le_of_eq rfl) (hb hby d9_1) (nle rfl) (nle rfl) ?_
  rintro T1 h1 _ _ _ X1 ⟨rfl, rfl, rfl, J1, G2, G3, G4⟩
  have K5 : Keep h h1 [x] := K0.trans J1 (allS (Or.inl (mg 0 rfl)) all0)
  refine P.aloadN X1 hx 5 (hb hby d9_4) rfl rfl rfl ?_
  refine X1.getS hx (w74 cx) Via.refl (S_DE cx) (hb hby d9_5) ?_
  intro T6 X6
  have F7 := P0.keep J1
  refine X6.putF hx (host := "") (Or.inl (w75 cx)) Via.refl G3 F7 (Or.inl (w76 cx)) (w54 cx) (ty := (.array (.object "java/lang/Object"))) (by decide) rfl rfl P4 (hb hby d9_8) ?_
  intro T8 h8 X8 W8 G8
  have K9 : Keep h h8 [x] := K5.wr W8 (Or.inl (mg 0 rfl))
  have F10 := G2.other W8 (Or.inr (slot_ne (Or.inl (w73 cx)) (Or.inl (w76 cx)) (by decide) (t := .int) (t' := (.array (.object "java/lang/Object"))) (by decide) (by decide)))
  have F11 := G4.other W8 (Or.inr (slot_ne (Or.inl (w114 cx)) (Or.inl (w76 cx)) (by decide) (t := .int) (t' := (.array (.object "java/lang/Object"))) (by decide) (by decide)))
  exact WS.retV X8 (WL' := []) (FL' := []) hx hret hlk (hb hby d9_11) (nle rfl) (nle rfl) ⟨rfl, rfl, rfl, K9, F10, G8, F11⟩
def Q_recini (Z : State) (gC : Int32) (v_DE : Addr) (k_DE : ClassId) (v_EL : Addr) (v_EM : Addr) (v_OE : Addr) (m_OA : Addr) (x : Addr) (h : Heap) (v : Option Value) (h' : Heap) (WL' FL' : List Addr) : Prop := v = none ∧ WL' = [] ∧ FL' = [] ∧ h' = h
theorem ct_recini (cx : Cx a0 Z gC v_DE k_DE v_EL v_EM v_OE m_OA) (x : Addr) (h : Heap) (WL FL : List Addr)  :
    Ct l Z EL1 n0 (⟨"java/lang/Record", "<init>", "()V"⟩ : MethodName) jdk_30_method_1_code 1 (Option.none : Option Jvm.ClassFile.FieldType) ({ frames := 1, cells := 0, slots := 0, locals := 12 } : Room) #[(.ref x)] h WL FL (Q_recini Z gC v_DE k_DE v_EL v_EM v_OE m_OA x h) := by
  refine Ct.of (plainFor_of_name pn5) ?_
  intro p e s m below meth c s1 hx hby hml hnm hret hlk X0
  refine Wo.cast (f' := (mkF m 0 #[.val (.ref x)] [])) (by rfl) ?_
  show Wo _ _ _ _ _ _ _ _ _ _ _ s1 (mkF m 0 #[.val (.ref x)] [])
  refine P.aloadN X0 hx 1 (hb hby d7_0) rfl rfl rfl ?_
  refine X0.initO hx (w40 cx) (w20 cx) (w21 cx) (by rw [hml]; rfl) (hb hby d7_1) (nle rfl) (W := 0) (Nat.le_of_eq rfl) (nle rfl) ?_
  intro T1 X1
  exact WS.retV X1 (WL' := []) (FL' := []) hx hret hlk (hb hby d7_4) (nle rfl) (nle rfl) ⟨rfl, rfl, rfl, rfl⟩
def Q_rnn2 (Z : State) (gC : Int32) (v_DE : Addr) (k_DE : ClassId) (v_EL : Addr) (v_EM : Addr) (v_OE : Addr) (m_OA : Addr) (x : Addr) (g : Addr) (h : Heap) (v : Option Value) (h' : Heap) (WL' FL' : List Addr) : Prop := v = some (.ref x) ∧ WL' = [] ∧ FL' = [] ∧ h' = h
theorem ct_rnn2 (cx : Cx a0 Z gC v_DE k_DE v_EL v_EM v_OE m_OA) (x : Addr) (g : Addr) (h : Heap) (WL FL : List Addr)  :
    Ct l Z EL1 n0 (⟨"java/util/Objects", "requireNonNull", "(Ljava/lang/Object;Ljava/lang/String;)Ljava/lang/Object;"⟩ : MethodName) jdk_31_method_11_code 2 (Option.some (FieldType.object "java/lang/Object")) ({ frames := 0, cells := 0, slots := 0, locals := 0 } : Room) #[(.ref x), (.ref g)] h WL FL (Q_rnn2 Z gC v_DE k_DE v_EL v_EM v_OE m_OA x g h) := by
  refine Ct.of (plainFor_of_name pn6) ?_
  intro p e s m below meth c s1 hx hby hml hnm hret hlk X0
  refine Wo.cast (f' := (mkF m 0 #[.val (.ref x), .val (.ref g)] [])) (by rfl) ?_
  show Wo _ _ _ _ _ _ _ _ _ _ _ s1 (mkF m 0 #[.val (.ref x), .val (.ref g)] [])
  refine P.aloadN X0 hx 1 (hb hby d8_0) rfl rfl rfl ?_
  refine P.ifnonnullYes X0 hx 13 (hb hby d8_1) (by decide) (by decide) ?_
  refine P.aloadN X0 hx 14 (hb hby d8_13) rfl rfl rfl ?_
  exact WS.retA X0 (WL' := []) (FL' := []) hx hret rfl rfl hlk (hb hby d8_14) (nle rfl) (nle rfl) ⟨rfl, rfl, rfl, rfl⟩
def Q_rnn1 (Z : State) (gC : Int32) (v_DE : Addr) (k_DE : ClassId) (v_EL : Addr) (v_EM : Addr) (v_OE : Addr) (m_OA : Addr) (x : Addr) (h : Heap) (v : Option Value) (h' : Heap) (WL' FL' : List Addr) : Prop := v = some (.ref x) ∧ WL' = [] ∧ FL' = [] ∧ h' = h
theorem ct_rnn1 (cx : Cx a0 Z gC v_DE k_DE v_EL v_EM v_OE m_OA) (x : Addr) (h : Heap) (WL FL : List Addr)  :
    Ct l Z EL1 n0 (⟨"java/util/Objects", "requireNonNull", "(Ljava/lang/Object;)Ljava/lang/Object;"⟩ : MethodName) jdk_31_method_10_code 1 (Option.some (FieldType.object "java/lang/Object")) ({ frames := 0, cells := 0, slots := 0, locals := 0 } : Room) #[(.ref x)] h WL FL (Q_rnn1 Z gC v_DE k_DE v_EL v_EM v_OE m_OA x h) := by
  refine Ct.of (plainFor_of_name pn6) ?_
  intro p e s m below meth c s1 hx hby hml hnm hret hlk X0
  refine Wo.cast (f' := (mkF m 0 #[.val (.ref x)] [])) (by rfl) ?_
  show Wo _ _ _ _ _ _ _ _ _ _ _ s1 (mkF m 0 #[.val (.ref x)] [])
  refine P.aloadN X0 hx 1 (hb hby d21_0) rfl rfl rfl ?_
  refine P.ifnonnullYes X0 hx 12 (hb hby d21_1) (by decide) (by decide) ?_
  refine P.aloadN X0 hx 13 (hb hby d21_12) rfl rfl rfl ?_
  exact WS.retA X0 (WL' := []) (FL' := []) hx hret rfl rfl hlk (hb hby d21_13) (nle rfl) (nle rfl) ⟨rfl, rfl, rfl, rfl⟩
def Q_stpini (Z : State) (gC : Int32) (v_DE : Addr) (k_DE : ClassId) (v_EL : Addr) (v_EM : Addr) (v_OE : Addr) (m_OA : Addr) (x : Addr) (g : Addr) (k : Addr) (h : Heap) (v : Option Value) (h' : Heap) (WL' FL' : List Addr) : Prop := v = none ∧ WL' = [] ∧ FL' = [] ∧ Keep h h' [x]
theorem ct_stpini (cx : Cx a0 Z gC v_DE k_DE v_EL v_EM v_OE m_OA) (x : Addr) (g : Addr) (k : Addr) (h : Heap) (WL FL : List Addr) (P0 : Exa Z h x "com/example/lexbind/lexbind/messages/Explanation$Step") (P1 : Fld Z h x "com/example/lexbind/lexbind/messages/Explanation$Step" "source" "Ljava/lang/String;" .null) (P2 : Fld Z h x "com/example/lexbind/lexbind/messages/Explanation$Step" "key" "Ljava/lang/String;" .null) (P3 : x ∈ WL) :
    Ct l Z EL1 n0 (⟨"com/example/lexbind/lexbind/messages/Explanation$Step", "<init>", "(Ljava/lang/String;Ljava/lang/String;)V"⟩ : MethodName) prog_37_method_1_code 3 (Option.none : Option Jvm.ClassFile.FieldType) ({ frames := 2, cells := 4, slots := 44, locals := 24 } : Room) #[(.ref x), (.ref g), (.ref k)] h WL FL (Q_stpini Z gC v_DE k_DE v_EL v_EM v_OE m_OA x g k h) := by
  refine Ct.of (plainFor_of_name pn7) ?_
  intro p e s m below meth c s1 hx hby hml hnm hret hlk X0
  refine Wo.cast (f' := (mkF m 0 #[.val (.ref x), .val (.ref g), .val (.ref k)] [])) (by rfl) ?_
  have K0 : Keep h h [x] := Keep.refl _ _
  show Wo _ _ _ _ _ _ _ _ _ _ _ s1 (mkF m 0 #[.val (.ref x), .val (.ref g), .val (.ref k)] [])
  refine P.aloadN X0 hx 1 (hb hby d6_0) rfl rfl rfl ?_
  refine X0.callC hx rfl (w35 cx) (w36 cx) (w39 cx) (by decide) (Ct.pay (W := 0) (ct_recini cx x h _ _ ) (w39 cx) (w38 cx) (nle rfl) (nle rfl)) (by rw [hml]; rfl) (argsL := []) (rest := []) (lenOf pd3 rfl) rfl rfl (Nat.le_of_eq rfl) (hb hby d6_1) (nle rfl) (nle rfl) ?_
  rintro T1 h1 _ _ _ X1 ⟨rfl, rfl, rfl, J1⟩
  rw [J1] at X1
  refine P.aloadN X1 hx 5 (hb hby d6_4) rfl rfl rfl ?_
  refine X1.ldcO hx (w41 cx) (strAtoms cx) (hb hby d6_5) (n := 24) (nle rfl) (nle rfl) (nle rfl) (nle rfl) ?_
  intro T2 h2 a2 X2 E2
  have K3 : Keep h h2 [x] := K0.ext E2
  refine X2.callS hx (w42 cx) (w43 cx) (w44 cx) (w45 cx) (by decide) (Ct.pay (W := 0) (ct_rnn2 cx g a2 h2 _ _ ) (w45 cx) (w44 cx) (nle rfl) (nle rfl)) (by rw [hml]; rfl) (argsL := [.ref g, .ref a2]) (rest := []) (lenOf pd4 rfl) rfl rfl (Nat.le_of_eq rfl) (hb hby d6_7) (nle rfl) (nle rfl) ?_
  rintro T4 h4 _ _ _ X4 ⟨rfl, rfl, rfl, J4⟩
  rw [J4] at X4
  refine P.pop X4 hx 11 (hb hby d6_10) rfl rfl ?_
  refine P.aloadN X4 hx 12 (hb hby d6_11) rfl rfl rfl ?_
  refine X4.ldcO hx (w46 cx) (strAtoms cx) (hb hby d6_12) (n := 12) (nle rfl) (nle rfl) (nle rfl) (nle rfl) ?_
  intro T5 h5 a5 X5 E5
  have K6 : Keep h h5 [x] := K3.ext E5
  refine X5.callS hx (w42 cx) (w43 cx) (w44 cx) (w45 cx) (by decide) (Ct.pay (W := 0) (ct_rnn2 cx k a5 h5 _ _ ) (w45 cx) (w44 cx) (nle rfl) (nle rfl)) (by rw [hml]; rfl) (argsL := [.ref k, .ref a5]) (rest := []) (lenOf pd4 rfl) rfl rfl (Nat.le_of_eq rfl) (hb hby d6_14) (nle rfl) (nle rfl) ?_
  rintro T7 h7 _ _ _ X7 ⟨rfl, rfl, rfl, J7⟩
  rw [J7] at X7
  refine P.pop X7 hx 18 (hb hby d6_17) rfl rfl ?_
  refine P.aloadN X7 hx 19 (hb hby d6_18) rfl rfl rfl ?_
  refine P.aloadN X7 hx 20 (hb hby d6_19) rfl rfl rfl ?_
  have F8 := (P1.ext E2).ext E5
  have F9 := (P0.ext E2).ext E5
  refine X7.putF hx (host := "") (Or.inl (w47 cx)) Via.refl F8 F9 (Or.inr ⟨(w48 cx), rfl, hnm⟩) (w27 cx) (ty := (.object "java/lang/String")) (by decide) rfl rfl P3 (hb hby d6_20) ?_
  intro T10 h10 X10 W10 G10
  have K11 : Keep h h10 [x] := K6.wr W10 (Or.inl (mg 0 rfl))
  refine P.aloadN X10 hx 24 (hb hby d6_23) rfl rfl rfl ?_
  refine P.aloadN X10 hx 25 (hb hby d6_24) rfl rfl rfl ?_
  have F12 := ((P2.ext E2).ext E5).other W10 (Or.inr (slot_ne (Or.inr (w50 cx)) (Or.inr (w48 cx)) (by decide) (t := (.object "java/lang/String")) (t' := (.object "java/lang/String")) (by decide) (by decide)))
  have F13 := F9.wr W10
  refine X10.putF hx (host := "") (Or.inl (w49 cx)) Via.refl F12 F13 (Or.inr ⟨(w50 cx), rfl, hnm⟩) (w27 cx) (ty := (.object "java/lang/String")) (by decide) rfl rfl P3 (hb hby d6_25) ?_
  intro T14 h14 X14 W14 G14
  have K15 : Keep h h14 [x] := K11.wr W14 (Or.inl (mg 0 rfl))
  exact WS.retV X14 (WL' := []) (FL' := []) hx hret hlk (hb hby d6_28) (nle rfl) (nle rfl) ⟨rfl, rfl, rfl, K15⟩
def Q_maxq_10_1 (Z : State) (gC : Int32) (v_DE : Addr) (k_DE : ClassId) (v_EL : Addr) (v_EM : Addr) (v_OE : Addr) (m_OA : Addr) (h : Heap) (v : Option Value) (h' : Heap) (WL' FL' : List Addr) : Prop := v = some (.int 10) ∧ WL' = [] ∧ FL' = [] ∧ h' = h
theorem ct_maxq_10_1 (cx : Cx a0 Z gC v_DE k_DE v_EL v_EM v_OE m_OA) (h : Heap) (WL FL : List Addr)  :
    Ct l Z EL1 n0 (⟨"java/lang/Math", "max", "(II)I"⟩ : MethodName) jdk_29_method_65_code 2 (Option.some FieldType.int) ({ frames := 0, cells := 0, slots := 0, locals := 0 } : Room) #[(.int 10), (.int 1)] h WL FL (Q_maxq_10_1 Z gC v_DE k_DE v_EL v_EM v_OE m_OA h) := by
  refine Ct.of (by decide +kernel) ?_
  intro p e s m below meth c s1 hx hby hml hnm hret hlk X0
  refine Wo.cast (f' := (mkF m 0 #[.val (.int 10), .val (.int 1)] [])) (by rfl) ?_
  show Wo _ _ _ _ _ _ _ _ _ _ _ s1 (mkF m 0 #[.val (.int 10), .val (.int 1)] [])
  refine P.iloadN X0 hx 1 (hb hby d27_0) rfl rfl ?_
  refine P.iloadN X0 hx 2 (hb hby d27_1) rfl rfl ?_
  refine P.icmpNo X0 hx 5 (hb hby d27_2) (by decide) rfl ?_
  refine P.iloadN X0 hx 6 (hb hby d27_5) rfl rfl ?_
  refine P.goto X0 hx 10 (hb hby d27_6) (by decide) (by decide) ?_
  exact WS.retI X0 (WL' := []) (FL' := []) hx hret hlk (hb hby d27_10) (nle rfl) (nle rfl) ⟨rfl, rfl, rfl, rfl⟩
def Q_grw1 (Z : State) (gC : Int32) (v_DE : Addr) (k_DE : ClassId) (v_EL : Addr) (v_EM : Addr) (v_OE : Addr) (m_OA : Addr) (x : Addr) (z : Int32) (h : Heap) (v : Option Value) (h' : Heap) (WL' FL' : List Addr) : Prop := ∃ b : Addr, ∃ kb : ClassId, v = some (.ref b) ∧ WL' = [b] ∧ FL' = [] ∧ Keep h h' [x] ∧ h.size ≤ b ∧ Fld Z h' x "java/util/AbstractList" "modCount" "I" (.int z) ∧ Fld Z h' x "java/util/ArrayList" "elementData" "[Ljava/lang/Object;" (.ref b) ∧ Fld Z h' x "java/util/ArrayList" "size" "I" (.int 0) ∧ Arv Z h' b kb (.object "java/lang/Object") (10 : Int32) [.null, .null, .null, .null, .null, .null, .null, .null, .null, .null] .null ∧ Exa Z h' b "[Ljava/lang/Object;"
theorem ct_grw1 (cx : Cx a0 Z gC v_DE k_DE v_EL v_EM v_OE m_OA) (x : Addr) (z : Int32) (h : Heap) (WL FL : List Addr) (P0 : Exa Z h x "java/util/ArrayList") (P1 : Fld Z h x "java/util/AbstractList" "modCount" "I" (.int z)) (P2 : Fld Z h x "java/util/ArrayList" "elementData" "[Ljava/lang/Object;" (.ref v_DE)) (P3 : Fld Z h x "java/util/ArrayList" "size" "I" (.int 0)) (P4 : x ∈ WL) :
    Ct l Z EL1 n0 (⟨"java/util/ArrayList", "grow", "(I)[Ljava/lang/Object;"⟩ : MethodName) jdk_38_method_6_code 4 (Option.some (FieldType.array (FieldType.object "java/lang/Object"))) ({ frames := 1, cells := 1, slots := 10, locals := 14 } : Room) #[(.ref x), (.int 1)] h WL FL (Q_grw1 Z gC v_DE k_DE v_EL v_EM v_OE m_OA x z h) := by
  refine Ct.of (plainFor_of_name pn4) ?_
  intro p e s m below meth c s1 hx hby hml hnm hret hlk X0
  refine Wo.cast (f' := (mkF m 0 #[.val (.ref x), .val (.int 1), .unset, .unset] [])) (by rfl) ?_
  have K0 : Keep h h [x] := Keep.refl _ _
  show Wo _ _ _ _ _ _ _ _ _ _ _ s1 (mkF m 0 #[.val (.ref x), .val (.int 1), .unset, .unset] [])
  refine P.aloadN X0 hx 1 (hb hby d26_0) rfl rfl rfl ?_
  refine X0.getF hx (host := "") (Or.inl (w75 cx)) Via.refl P2 (hb hby d26_1) ?_
  intro T1 X1
  refine WS.alen X1 hx ((A_DE cx).ext X1.old.2) (hb hby d26_4) ?_
  refine P.istoreN X1 hx 6 #[.val (.ref x), .val (.int 1), .val (.int 0), .unset] (hb hby d26_5) rfl rfl ?_
  refine P.iloadN X1 hx 7 (hb hby d26_6) rfl rfl ?_
  refine P.ifNo X1 hx 10 (hb hby d26_7) (by decide) rfl ?_
  refine P.aloadN X1 hx 11 (hb hby d26_10) rfl rfl rfl ?_
  refine X1.getF hx (host := "") (Or.inl (w75 cx)) Via.refl P2 (hb hby d26_11) ?_
  intro T2 X2
  refine X2.getS hx (w74 cx) Via.refl (S_DE cx) (hb hby d26_14) ?_
  intro T3 X3
  refine WS.acmp X3 hx (x := (.ref v_DE)) (y := (.ref v_DE)) rfl rfl (pc' := 45) (same := true) (hb hby d26_17) (decide_eq_true rfl) (by decide) (by decide) ?_
  refine P.aloadN X3 hx 46 (hb hby d26_45) rfl rfl rfl ?_
  refine P.bipush X3 hx 48 10 (hb hby d26_46) rfl rfl ?_
  refine P.iloadN X3 hx 49 (hb hby d26_48) rfl rfl ?_
  refine X3.callS hx (w184 cx) (w185 cx) (w186 cx) (w187 cx) (by decide) (Ct.pay (W := 1) (ct_maxq_10_1 cx  h _ _ ) (w187 cx) (w186 cx) (nle rfl) (nle rfl)) (by rw [hml]; rfl) (argsL := [.int 10, .int 1]) (rest := [.ref x]) (lenOf pd5 rfl) rfl rfl (Nat.le_of_eq rfl) (hb hby d26_49) (nle rfl) (nle rfl) ?_
  rintro T4 h4 _ _ _ X4 ⟨rfl, rfl, rfl, J4⟩
  rw [J4] at X4
  refine X4.newR hx (w188 cx) (w189 cx) (hb hby d26_52) (by decide) (cap := 10) (nle rfl) (nle rfl) (nle rfl) (nle rfl) (ad := "[Ljava/lang/Object;") (by decide) ?_
  intro T5 h5 a5 k5 X5 E5 g5 A5 Ex5
  have ge6 : h.size ≤ a5 := Nat.le_trans K0.1 g5
  have K7 : Keep h h5 [x] := K0.ext E5
  have V8 : Arv Z h5 a5 k5 (.object "java/lang/Object") (10 : Int32) [.null, .null, .null, .null, .null, .null, .null, .null, .null, .null] .null := Arv.pad A5 (pad_rep [] _ 10)
  refine P.dupX1 X5 hx 56 (hb hby d26_55) rfl rfl rfl ?_
  have F9 := P2.ext E5
  have F10 := P0.ext E5
  refine X5.putF hx (host := "") (Or.inl (w75 cx)) Via.refl F9 F10 (Or.inl (w76 cx)) (w54 cx) (ty := (.array (.object "java/lang/Object"))) (by decide) rfl rfl (mc P4) (hb hby d26_56) ?_
  intro T11 h11 X11 W11 G11
  have K12 : Keep h h11 [x] := K7.wr W11 (Or.inl (mg 0 rfl))
  have F13 := V8.other W11 (X11.neT (A := [a5]) (B := WL) (mg 0 rfl) P4)
  have F14 := (P1.ext E5).other W11 (Or.inr (slot_ne (Or.inl (w73 cx)) (Or.inl (w76 cx)) (by decide) (t := .int) (t' := (.array (.object "java/lang/Object"))) (by decide) (by decide)))
  have F15 := (P3.ext E5).other W11 (Or.inr (slot_ne (Or.inl (w114 cx)) (Or.inl (w76 cx)) (by decide) (t := .int) (t' := (.array (.object "java/lang/Object"))) (by decide) (by decide)))
  have F16 := Ex5.wr W11
  exact WS.retA X11 (WL' := [a5]) (FL' := []) hx hret rfl rfl hlk (hb hby d26_59) (nle rfl) (nle rfl) ⟨a5, k5, rfl, rfl, rfl, K12, ge6, F14, G11, F15, F13, F16⟩
def Q_grw0 (Z : State) (gC : Int32) (v_DE : Addr) (k_DE : ClassId) (v_EL : Addr) (v_EM : Addr) (v_OE : Addr) (m_OA : Addr) (x : Addr) (z : Int32) (h : Heap) (v : Option Value) (h' : Heap) (WL' FL' : List Addr) : Prop := ∃ b : Addr, ∃ kb : ClassId, v = some (.ref b) ∧ WL' = [b] ∧ FL' = [] ∧ Keep h h' [x] ∧ h.size ≤ b ∧ Fld Z h' x "java/util/AbstractList" "modCount" "I" (.int z) ∧ Fld Z h' x "java/util/ArrayList" "elementData" "[Ljava/lang/Object;" (.ref b) ∧ Fld Z h' x "java/util/ArrayList" "size" "I" (.int 0) ∧ Arv Z h' b kb (.object "java/lang/Object") (10 : Int32) [.null, .null, .null, .null, .null, .null, .null, .null, .null, .null] .null ∧ Exa Z h' b "[Ljava/lang/Object;"
theorem ct_grw0 (cx : Cx a0 Z gC v_DE k_DE v_EL v_EM v_OE m_OA) (x : Addr) (z : Int32) (h : Heap) (WL FL : List Addr) (P0 : Exa Z h x "java/util/ArrayList") (P1 : Fld Z h x "java/util/AbstractList" "modCount" "I" (.int z)) (P2 : Fld Z h x "java/util/ArrayList" "elementData" "[Ljava/lang/Object;" (.ref v_DE)) (P3 : Fld Z h x "java/util/ArrayList" "size" "I" (.int 0)) (P4 : x ∈ WL) :
    Ct l Z EL1 n0 (⟨"java/util/ArrayList", "grow", "()[Ljava/lang/Object;"⟩ : MethodName) jdk_38_method_7_code 1 (Option.some (FieldType.array (FieldType.object "java/lang/Object"))) ({ frames := 2, cells := 1, slots := 10, locals := 29 } : Room) #[(.ref x)] h WL FL (Q_grw0 Z gC v_DE k_DE v_EL v_EM v_OE m_OA x z h) := by
  refine Ct.of (plainFor_of_name pn4) ?_
  intro p e s m below meth c s1 hx hby hml hnm hret hlk X0
  refine Wo.cast (f' := (mkF m 0 #[.val (.ref x)] [])) (by rfl) ?_
  have K0 : Keep h h [x] := Keep.refl _ _
  show Wo _ _ _ _ _ _ _ _ _ _ _ s1 (mkF m 0 #[.val (.ref x)] [])
  refine P.aloadN X0 hx 1 (hb hby d25_0) rfl rfl rfl ?_
  refine P.aloadN X0 hx 2 (hb hby d25_1) rfl rfl rfl ?_
  refine X0.getF hx (host := "") (Or.inl (w113 cx)) Via.refl P3 (hb hby d25_2) ?_
  intro T1 X1
  refine P.iconst X1 hx 6 1 (hb hby d25_5) rfl rfl ?_
  refine P.iadd X1 hx 7 (z := (1 : Int32)) (hb hby d25_6) rfl rfl ?_
  refine X1.callV hx (w179 cx) (declM (w180 cx) (w183 cx)) (w182 cx) (w180 cx) (fun _ hZ => nf hZ (w182 cx)) (by decide) P0 (Ct.pay (W := 0) (ct_grw1 cx x z h _ _ P0 P1 P2 P3 P4) (w183 cx) (w55 cx) (nle rfl) (nle rfl)) (by rw [hml]; rfl) (argsL := [.int 1]) (rest := []) (lenOf pd6 rfl) rfl rfl (Nat.le_of_eq rfl) (hb hby d25_7) (nle rfl) (nle rfl) ?_
  rintro T2 h2 _ _ _ X2 ⟨a3, k4, rfl, rfl, rfl, J2, g10, G5, G6, G7, G8, G9⟩
  have ge11 : h.size ≤ a3 := Nat.le_trans K0.1 g10
  have K12 : Keep h h2 [x] := K0.trans J2 (allS (Or.inl (mg 0 rfl)) all0)
  exact WS.retA X2 (WL' := [a3]) (FL' := []) hx hret rfl rfl hlk (hb hby d25_10) (nle rfl) (nle rfl) ⟨a3, k4, rfl, rfl, rfl, K12, ge11, G5, G6, G7, G8, G9⟩
def Q_adh0 (Z : State) (gC : Int32) (v_DE : Addr) (k_DE : ClassId) (v_EL : Addr) (v_EM : Addr) (v_OE : Addr) (m_OA : Addr) (x : Addr) (y0 : Addr) (h : Heap) (v : Option Value) (h' : Heap) (WL' FL' : List Addr) : Prop := ∃ b : Addr, ∃ kb : ClassId, v = none ∧ WL' = [b] ∧ FL' = [] ∧ Keep h h' [x] ∧ h.size ≤ b ∧ Fld Z h' x "java/util/AbstractList" "modCount" "I" (.int 1) ∧ Fld Z h' x "java/util/ArrayList" "elementData" "[Ljava/lang/Object;" (.ref b) ∧ Fld Z h' x "java/util/ArrayList" "size" "I" (.int 1) ∧ Arv Z h' b kb (.object "java/lang/Object") (10 : Int32) [(.ref y0), .null, .null, .null, .null, .null, .null, .null, .null, .null] .null ∧ Exa Z h' b "[Ljava/lang/Object;"
theorem ct_adh0 (cx : Cx a0 Z gC v_DE k_DE v_EL v_EM v_OE m_OA) (x : Addr) (y0 : Addr) (h : Heap) (WL FL : List Addr) (P0 : Exa Z h x "java/util/ArrayList") (P1 : Fld Z h x "java/util/AbstractList" "modCount" "I" (.int 1)) (P2 : Fld Z h x "java/util/ArrayList" "elementData" "[Ljava/lang/Object;" (.ref v_DE)) (P3 : Fld Z h x "java/util/ArrayList" "size" "I" (.int 0)) (P4 : x ∈ WL) (P5 : Exa Z h y0 "com/example/lexbind/lexbind/messages/Explanation$Step") :
    Ct l Z EL1 n0 (⟨"java/util/ArrayList", "add", "(Ljava/lang/Object;[Ljava/lang/Object;I)V"⟩ : MethodName) jdk_38_method_24_code 4 (Option.none : Option Jvm.ClassFile.FieldType) ({ frames := 3, cells := 1, slots := 10, locals := 41 } : Room) #[(.ref x), (.ref y0), (.ref v_DE), (.int 0)] h WL FL (Q_adh0 Z gC v_DE k_DE v_EL v_EM v_OE m_OA x y0 h) := by
  refine Ct.of (plainFor_of_name pn4) ?_
  intro p e s m below meth c s1 hx hby hml hnm hret hlk X0
  refine Wo.cast (f' := (mkF m 0 #[.val (.ref x), .val (.ref y0), .val (.ref v_DE), .val (.int 0)] [])) (by rfl) ?_
  have K0 : Keep h h [x] := Keep.refl _ _
  show Wo _ _ _ _ _ _ _ _ _ _ _ s1 (mkF m 0 #[.val (.ref x), .val (.ref y0), .val (.ref v_DE), .val (.int 0)] [])
  refine P.iloadN X0 hx 1 (hb hby d24_0) rfl rfl ?_
  refine P.aloadN X0 hx 2 (hb hby d24_1) rfl rfl rfl ?_
  refine WS.alen X0 hx ((A_DE cx).ext X0.old.2) (hb hby d24_2) ?_
  refine P.icmpNo X0 hx 6 (hb hby d24_3) (by decide) rfl ?_
  refine P.aloadN X0 hx 7 (hb hby d24_6) rfl rfl rfl ?_
  refine X0.callV hx (w174 cx) (declM (w175 cx) (w178 cx)) (w177 cx) (w175 cx) (fun _ hZ => nf hZ (w177 cx)) (by decide) P0 (Ct.pay (W := 0) (ct_grw0 cx x (1 : Int32) h _ _ P0 P1 P2 P3 P4) (w178 cx) (w55 cx) (nle rfl) (nle rfl)) (by rw [hml]; rfl) (argsL := []) (rest := []) (lenOf pd7 rfl) rfl rfl (Nat.le_of_eq rfl) (hb hby d24_7) (nle rfl) (nle rfl) ?_
  rintro T1 h1 _ _ _ X1 ⟨a2, k3, rfl, rfl, rfl, J1, g9, G4, G5, G6, G7, G8⟩
  have ge10 : h.size ≤ a2 := Nat.le_trans K0.1 g9
  have K11 : Keep h h1 [x] := K0.trans J1 (allS (Or.inl (mg 0 rfl)) all0)
  refine P.astoreN X1 hx 11 #[.val (.ref x), .val (.ref y0), .val (.ref a2), .val (.int 0)] (hb hby d24_10) rfl rfl rfl ?_
  refine P.aloadN X1 hx 12 (hb hby d24_11) rfl rfl rfl ?_
  refine P.iloadN X1 hx 13 (hb hby d24_12) rfl rfl ?_
  refine P.aloadN X1 hx 14 (hb hby d24_13) rfl rfl rfl ?_
  have F13 := P5.keep J1
  refine X1.stR hx G7 (j := (0 : Int32)) (v := (.ref y0)) (i := 0) (by decide) rfl (nlt rfl) rfl (stoE G7 G8 (w189 cx) (by decide) (Ins.of_exa F13 (w190 cx))) (mg 0 rfl) (hb hby d24_14) ?_
  intro T12 h12 X12 W12 G12
  have K14 : Keep h h12 [x] := K11.wr W12 (Or.inr ge10)
  have V15 : Arv Z h12 a2 k3 (.object "java/lang/Object") (10 : Int32) [(.ref y0), .null, .null, .null, .null, .null, .null, .null, .null, .null] .null := G12
  refine P.aloadN X12 hx 16 (hb hby d24_15) rfl rfl rfl ?_
  refine P.iloadN X12 hx 17 (hb hby d24_16) rfl rfl ?_
  refine P.iconst X12 hx 18 1 (hb hby d24_17) rfl rfl ?_
  refine P.iadd X12 hx 19 (z := (1 : Int32)) (hb hby d24_18) rfl rfl ?_
  have F16 := G6.other W12 (Or.inl (Ne.symm (X12.neT (A := [a2]) (B := WL) (mg 0 rfl) P4)))
  have F17 := (P0.keep J1).wr W12
  refine X12.putF hx (host := "") (Or.inl (w113 cx)) Via.refl F16 F17 (Or.inl (w114 cx)) (w54 cx) (ty := .int) (by decide) rfl rfl (mc P4) (hb hby d24_19) ?_
  intro T18 h18 X18 W18 G18
  have K19 : Keep h h18 [x] := K14.wr W18 (Or.inl (mg 0 rfl))
  have F20 := (G5.other W12 (Or.inl (Ne.symm (X18.neT (A := [a2]) (B := WL) (mg 0 rfl) P4)))).other W18 (Or.inr (slot_ne (Or.inl (w76 cx)) (Or.inl (w114 cx)) (by decide) (t := (.array (.object "java/lang/Object"))) (t' := .int) (by decide) (by decide)))
  have F21 := V15.other W18 (X18.neT (A := [a2]) (B := WL) (mg 0 rfl) P4)
  have F22 := (G4.other W12 (Or.inl (Ne.symm (X18.neT (A := [a2]) (B := WL) (mg 0 rfl) P4)))).other W18 (Or.inr (slot_ne (Or.inl (w73 cx)) (Or.inl (w114 cx)) (by decide) (t := .int) (t' := .int) (by decide) (by decide)))
  have F23 := (G8.wr W12).wr W18
  exact WS.retV X18 (WL' := [a2]) (FL' := []) hx hret hlk (hb hby d24_22) (nle rfl) (nle rfl) ⟨a2, k3, rfl, rfl, rfl, K19, ge10, F22, F20, G18, F21, F23⟩
def Q_add0 (Z : State) (gC : Int32) (v_DE : Addr) (k_DE : ClassId) (v_EL : Addr) (v_EM : Addr) (v_OE : Addr) (m_OA : Addr) (x : Addr) (y0 : Addr) (h : Heap) (v : Option Value) (h' : Heap) (WL' FL' : List Addr) : Prop := ∃ b : Addr, ∃ kb : ClassId, v = some (.int 1) ∧ WL' = [b] ∧ FL' = [] ∧ Keep h h' [x] ∧ h.size ≤ b ∧ Fld Z h' x "java/util/AbstractList" "modCount" "I" (.int 1) ∧ Fld Z h' x "java/util/ArrayList" "elementData" "[Ljava/lang/Object;" (.ref b) ∧ Fld Z h' x "java/util/ArrayList" "size" "I" (.int 1) ∧ Arv Z h' b kb (.object "java/lang/Object") (10 : Int32) [(.ref y0), .null, .null, .null, .null, .null, .null, .null, .null, .null] .null ∧ Exa Z h' b "[Ljava/lang/Object;"
theorem ct_add0 (cx : Cx a0 Z gC v_DE k_DE v_EL v_EM v_OE m_OA) (x : Addr) (y0 : Addr) (h : Heap) (WL FL : List Addr) (P0 : Exa Z h x "java/util/ArrayList") (P1 : Fld Z h x "java/util/AbstractList" "modCount" "I" (.int 0)) (P2 : Fld Z h x "java/util/ArrayList" "elementData" "[Ljava/lang/Object;" (.ref v_DE)) (P3 : Fld Z h x "java/util/ArrayList" "size" "I" (.int 0)) (P4 : x ∈ WL) (P5 : Exa Z h y0 "com/example/lexbind/lexbind/messages/Explanation$Step") :
    Ct l Z EL1 n0 (⟨"java/util/ArrayList", "add", "(Ljava/lang/Object;)Z"⟩ : MethodName) jdk_38_method_25_code 2 (Option.some FieldType.boolean) ({ frames := 4, cells := 1, slots := 10, locals := 56 } : Room) #[(.ref x), (.ref y0)] h WL FL (Q_add0 Z gC v_DE k_DE v_EL v_EM v_OE m_OA x y0 h) := by
  refine Ct.of (plainFor_of_name pn4) ?_
  intro p e s m below meth c s1 hx hby hml hnm hret hlk X0
  refine Wo.cast (f' := (mkF m 0 #[.val (.ref x), .val (.ref y0)] [])) (by rfl) ?_
  have K0 : Keep h h [x] := Keep.refl _ _
  show Wo _ _ _ _ _ _ _ _ _ _ _ s1 (mkF m 0 #[.val (.ref x), .val (.ref y0)] [])
  refine P.aloadN X0 hx 1 (hb hby d23_0) rfl rfl rfl ?_
  refine P.dup X0 hx 2 (hb hby d23_1) rfl rfl ?_
  refine X0.getF hx (host := "") (Or.inl (w167 cx)) (Via.of (w168 cx)) P1 (hb hby d23_2) ?_
  intro T1 X1
  refine P.iconst X1 hx 6 1 (hb hby d23_5) rfl rfl ?_
  refine P.iadd X1 hx 7 (z := (1 : Int32)) (hb hby d23_6) rfl rfl ?_
  refine X1.putF hx (host := "") (Or.inl (w167 cx)) (Via.of (w168 cx)) P1 P0 (Or.inl (w73 cx)) (w54 cx) (ty := .int) (by decide) rfl rfl P4 (hb hby d23_7) ?_
  intro T2 h2 X2 W2 G2
  have K3 : Keep h h2 [x] := K0.wr W2 (Or.inl (mg 0 rfl))
  refine P.aloadN X2 hx 11 (hb hby d23_10) rfl rfl rfl ?_
  refine P.aloadN X2 hx 12 (hb hby d23_11) rfl rfl rfl ?_
  refine P.aloadN X2 hx 13 (hb hby d23_12) rfl rfl rfl ?_
  have F4 := P2.other W2 (Or.inr (slot_ne (Or.inl (w76 cx)) (Or.inl (w73 cx)) (by decide) (t := (.array (.object "java/lang/Object"))) (t' := .int) (by decide) (by decide)))
  refine X2.getF hx (host := "") (Or.inl (w75 cx)) Via.refl F4 (hb hby d23_13) ?_
  intro T5 X5
  refine P.aloadN X5 hx 17 (hb hby d23_16) rfl rfl rfl ?_
  have F6 := P3.other W2 (Or.inr (slot_ne (Or.inl (w114 cx)) (Or.inl (w73 cx)) (by decide) (t := .int) (t' := .int) (by decide) (by decide)))
  refine X5.getF hx (host := "") (Or.inl (w113 cx)) Via.refl F6 (hb hby d23_17) ?_
  intro T7 X7
  have F8 := P0.wr W2
  have F9 := P5.wr W2
  refine X7.callV hx (w169 cx) (declM (w170 cx) (w173 cx)) (w172 cx) (w170 cx) (fun _ hZ => nf hZ (w172 cx)) (by decide) F8 (Ct.pay (W := 0) (ct_adh0 cx x y0 h2 _ _ F8 G2 F4 F6 P4 F9) (w173 cx) (w55 cx) (nle rfl) (nle rfl)) (by rw [hml]; rfl) (argsL := [.ref y0, .ref v_DE, .int 0]) (rest := []) (lenOf pd8 rfl) rfl rfl (Nat.le_of_eq rfl) (hb hby d23_20) (nle rfl) (nle rfl) ?_
  rintro T10 h10 _ _ _ X10 ⟨a11, k12, rfl, rfl, rfl, J10, g18, G13, G14, G15, G16, G17⟩
  have ge19 : h.size ≤ a11 := Nat.le_trans K3.1 g18
  have K20 : Keep h h10 [x] := K3.trans J10 (allS (Or.inl (mg 0 rfl)) all0)
  refine P.iconst X10 hx 24 1 (hb hby d23_23) rfl rfl ?_
  exact WS.retN X10 (WL' := [a11]) (FL' := []) hx (t := .boolean) hret (by simp) hlk (hb hby d23_24) (nle rfl) (nle rfl) ⟨a11, k12, rfl, rfl, rfl, K20, ge19, G13, G14, G15, G16, G17⟩
def Q_adh1 (Z : State) (gC : Int32) (v_DE : Addr) (k_DE : ClassId) (v_EL : Addr) (v_EM : Addr) (v_OE : Addr) (m_OA : Addr) (x : Addr) (b : Addr) (kb : ClassId) (y0 : Addr) (y1 : Addr) (h : Heap) (v : Option Value) (h' : Heap) (WL' FL' : List Addr) : Prop := v = none ∧ WL' = [] ∧ FL' = [] ∧ Keep h h' [x, b] ∧ Fld Z h' x "java/util/AbstractList" "modCount" "I" (.int 2) ∧ Fld Z h' x "java/util/ArrayList" "elementData" "[Ljava/lang/Object;" (.ref b) ∧ Fld Z h' x "java/util/ArrayList" "size" "I" (.int 2) ∧ Arv Z h' b kb (.object "java/lang/Object") (10 : Int32) [(.ref y0), (.ref y1), .null, .null, .null, .null, .null, .null, .null, .null] .null ∧ Exa Z h' b "[Ljava/lang/Object;"
theorem ct_adh1 (cx : Cx a0 Z gC v_DE k_DE v_EL v_EM v_OE m_OA) (x : Addr) (b : Addr) (kb : ClassId) (y0 : Addr) (y1 : Addr) (h : Heap) (WL FL : List Addr) (P0 : Exa Z h x "java/util/ArrayList") (P1 : Fld Z h x "java/util/AbstractList" "modCount" "I" (.int 2)) (P2 : Fld Z h x "java/util/ArrayList" "elementData" "[Ljava/lang/Object;" (.ref b)) (P3 : Fld Z h x "java/util/ArrayList" "size" "I" (.int 1)) (P4 : x ∈ WL) (P5 : Arv Z h b kb (.object "java/lang/Object") (10 : Int32) [(.ref y0), .null, .null, .null, .null, .null, .null, .null, .null, .null] .null) (P6 : Exa Z h b "[Ljava/lang/Object;") (P7 : b ∈ WL) (hxb : x ≠ b) (P9 : Exa Z h y1 "com/example/lexbind/lexbind/messages/Explanation$Step") :
    Ct l Z EL1 n0 (⟨"java/util/ArrayList", "add", "(Ljava/lang/Object;[Ljava/lang/Object;I)V"⟩ : MethodName) jdk_38_method_24_code 4 (Option.none : Option Jvm.ClassFile.FieldType) ({ frames := 0, cells := 0, slots := 0, locals := 0 } : Room) #[(.ref x), (.ref y1), (.ref b), (.int 1)] h WL FL (Q_adh1 Z gC v_DE k_DE v_EL v_EM v_OE m_OA x b kb y0 y1 h) := by
  refine Ct.of (plainFor_of_name pn4) ?_
  intro p e s m below meth c s1 hx hby hml hnm hret hlk X0
  refine Wo.cast (f' := (mkF m 0 #[.val (.ref x), .val (.ref y1), .val (.ref b), .val (.int 1)] [])) (by rfl) ?_
  have K0 : Keep h h [x, b] := Keep.refl _ _
  show Wo _ _ _ _ _ _ _ _ _ _ _ s1 (mkF m 0 #[.val (.ref x), .val (.ref y1), .val (.ref b), .val (.int 1)] [])
  refine P.iloadN X0 hx 1 (hb hby d24_0) rfl rfl ?_
  refine P.aloadN X0 hx 2 (hb hby d24_1) rfl rfl rfl ?_
  refine WS.alen X0 hx P5 (hb hby d24_2) ?_
  refine P.icmpYes X0 hx 11 (hb hby d24_3) (by decide) (by decide) (by decide) ?_
  refine P.aloadN X0 hx 12 (hb hby d24_11) rfl rfl rfl ?_
  refine P.iloadN X0 hx 13 (hb hby d24_12) rfl rfl ?_
  refine P.aloadN X0 hx 14 (hb hby d24_13) rfl rfl rfl ?_
  refine X0.stR hx P5 (j := (1 : Int32)) (v := (.ref y1)) (i := 1) (by decide) rfl (nlt rfl) rfl (stoE P5 P6 (w189 cx) (by decide) (Ins.of_exa P9 (w190 cx))) P7 (hb hby d24_14) ?_
  intro T1 h1 X1 W1 G1
  have K2 : Keep h h1 [x, b] := K0.wr W1 (Or.inl (mg 1 rfl))
  have V3 : Arv Z h1 b kb (.object "java/lang/Object") (10 : Int32) [(.ref y0), (.ref y1), .null, .null, .null, .null, .null, .null, .null, .null] .null := G1
  refine P.aloadN X1 hx 16 (hb hby d24_15) rfl rfl rfl ?_
  refine P.iloadN X1 hx 17 (hb hby d24_16) rfl rfl ?_
  refine P.iconst X1 hx 18 1 (hb hby d24_17) rfl rfl ?_
  refine P.iadd X1 hx 19 (z := (2 : Int32)) (hb hby d24_18) rfl rfl ?_
  have F4 := P3.other W1 (Or.inl hxb)
  have F5 := P0.wr W1
  refine X1.putF hx (host := "") (Or.inl (w113 cx)) Via.refl F4 F5 (Or.inl (w114 cx)) (w54 cx) (ty := .int) (by decide) rfl rfl P4 (hb hby d24_19) ?_
  intro T6 h6 X6 W6 G6
  have K7 : Keep h h6 [x, b] := K2.wr W6 (Or.inl (mg 0 rfl))
  have F8 := (P2.other W1 (Or.inl hxb)).other W6 (Or.inr (slot_ne (Or.inl (w76 cx)) (Or.inl (w114 cx)) (by decide) (t := (.array (.object "java/lang/Object"))) (t' := .int) (by decide) (by decide)))
  have F9 := (P1.other W1 (Or.inl hxb)).other W6 (Or.inr (slot_ne (Or.inl (w73 cx)) (Or.inl (w114 cx)) (by decide) (t := .int) (t' := .int) (by decide) (by decide)))
  have F10 := V3.other W6 (Ne.symm hxb)
  have F11 := (P6.wr W1).wr W6
  exact WS.retV X6 (WL' := []) (FL' := []) hx hret hlk (hb hby d24_22) (nle rfl) (nle rfl) ⟨rfl, rfl, rfl, K7, F9, F8, G6, F10, F11⟩
def Q_add1 (Z : State) (gC : Int32) (v_DE : Addr) (k_DE : ClassId) (v_EL : Addr) (v_EM : Addr) (v_OE : Addr) (m_OA : Addr) (x : Addr) (b : Addr) (kb : ClassId) (y0 : Addr) (y1 : Addr) (h : Heap) (v : Option Value) (h' : Heap) (WL' FL' : List Addr) : Prop := v = some (.int 1) ∧ WL' = [] ∧ FL' = [] ∧ Keep h h' [x, b] ∧ Fld Z h' x "java/util/AbstractList" "modCount" "I" (.int 2) ∧ Fld Z h' x "java/util/ArrayList" "elementData" "[Ljava/lang/Object;" (.ref b) ∧ Fld Z h' x "java/util/ArrayList" "size" "I" (.int 2) ∧ Arv Z h' b kb (.object "java/lang/Object") (10 : Int32) [(.ref y0), (.ref y1), .null, .null, .null, .null, .null, .null, .null, .null] .null ∧ Exa Z h' b "[Ljava/lang/Object;"
theorem ct_add1 (cx : Cx a0 Z gC v_DE k_DE v_EL v_EM v_OE m_OA) (x : Addr) (b : Addr) (kb : ClassId) (y0 : Addr) (y1 : Addr) (h : Heap) (WL FL : List Addr) (P0 : Exa Z h x "java/util/ArrayList") (P1 : Fld Z h x "java/util/AbstractList" "modCount" "I" (.int 1)) (P2 : Fld Z h x "java/util/ArrayList" "elementData" "[Ljava/lang/Object;" (.ref b)) (P3 : Fld Z h x "java/util/ArrayList" "size" "I" (.int 1)) (P4 : x ∈ WL) (P5 : Arv Z h b kb (.object "java/lang/Object") (10 : Int32) [(.ref y0), .null, .null, .null, .null, .null, .null, .null, .null, .null] .null) (P6 : Exa Z h b "[Ljava/lang/Object;") (P7 : b ∈ WL) (hxb : x ≠ b) (P9 : Exa Z h y1 "com/example/lexbind/lexbind/messages/Explanation$Step") :
    Ct l Z EL1 n0 (⟨"java/util/ArrayList", "add", "(Ljava/lang/Object;)Z"⟩ : MethodName) jdk_38_method_25_code 2 (Option.some FieldType.boolean) ({ frames := 1, cells := 0, slots := 0, locals := 15 } : Room) #[(.ref x), (.ref y1)] h WL FL (Q_add1 Z gC v_DE k_DE v_EL v_EM v_OE m_OA x b kb y0 y1 h) := by
  refine Ct.of (plainFor_of_name pn4) ?_
  intro p e s m below meth c s1 hx hby hml hnm hret hlk X0
  refine Wo.cast (f' := (mkF m 0 #[.val (.ref x), .val (.ref y1)] [])) (by rfl) ?_
  have K0 : Keep h h [x, b] := Keep.refl _ _
  show Wo _ _ _ _ _ _ _ _ _ _ _ s1 (mkF m 0 #[.val (.ref x), .val (.ref y1)] [])
  refine P.aloadN X0 hx 1 (hb hby d23_0) rfl rfl rfl ?_
  refine P.dup X0 hx 2 (hb hby d23_1) rfl rfl ?_
  refine X0.getF hx (host := "") (Or.inl (w167 cx)) (Via.of (w168 cx)) P1 (hb hby d23_2) ?_
  intro T1 X1
  refine P.iconst X1 hx 6 1 (hb hby d23_5) rfl rfl ?_
  refine P.iadd X1 hx 7 (z := (2 : Int32)) (hb hby d23_6) rfl rfl ?_
  refine X1.putF hx (host := "") (Or.inl (w167 cx)) (Via.of (w168 cx)) P1 P0 (Or.inl (w73 cx)) (w54 cx) (ty := .int) (by decide) rfl rfl P4 (hb hby d23_7) ?_
  intro T2 h2 X2 W2 G2
  have K3 : Keep h h2 [x, b] := K0.wr W2 (Or.inl (mg 0 rfl))
  refine P.aloadN X2 hx 11 (hb hby d23_10) rfl rfl rfl ?_
  refine P.aloadN X2 hx 12 (hb hby d23_11) rfl rfl rfl ?_
  refine P.aloadN X2 hx 13 (hb hby d23_12) rfl rfl rfl ?_
  have F4 := P2.other W2 (Or.inr (slot_ne (Or.inl (w76 cx)) (Or.inl (w73 cx)) (by decide) (t := (.array (.object "java/lang/Object"))) (t' := .int) (by decide) (by decide)))
  refine X2.getF hx (host := "") (Or.inl (w75 cx)) Via.refl F4 (hb hby d23_13) ?_
  intro T5 X5
  refine P.aloadN X5 hx 17 (hb hby d23_16) rfl rfl rfl ?_
  have F6 := P3.other W2 (Or.inr (slot_ne (Or.inl (w114 cx)) (Or.inl (w73 cx)) (by decide) (t := .int) (t' := .int) (by decide) (by decide)))
  refine X5.getF hx (host := "") (Or.inl (w113 cx)) Via.refl F6 (hb hby d23_17) ?_
  intro T7 X7
  have F8 := P0.wr W2
  have F9 := P5.other W2 (Ne.symm hxb)
  have F10 := P6.wr W2
  have F11 := P9.wr W2
  refine X7.callV hx (w169 cx) (declM (w170 cx) (w173 cx)) (w172 cx) (w170 cx) (fun _ hZ => nf hZ (w172 cx)) (by decide) F8 (Ct.pay (W := 0) (ct_adh1 cx x b kb y0 y1 h2 _ _ F8 G2 F4 F6 P4 F9 F10 P7 hxb F11) (w173 cx) (w55 cx) (nle rfl) (nle rfl)) (by rw [hml]; rfl) (argsL := [.ref y1, .ref b, .int 1]) (rest := []) (lenOf pd8 rfl) rfl rfl (Nat.le_of_eq rfl) (hb hby d23_20) (nle rfl) (nle rfl) ?_
  rintro T12 h12 _ _ _ X12 ⟨rfl, rfl, rfl, J12, G13, G14, G15, G16, G17⟩
  have K18 : Keep h h12 [x, b] := K3.trans J12 (allS (Or.inl (mg 0 rfl)) (allS (Or.inl (mg 1 rfl)) all0))
  refine P.iconst X12 hx 24 1 (hb hby d23_23) rfl rfl ?_
  exact WS.retN X12 (WL' := []) (FL' := []) hx (t := .boolean) hret (by simp) hlk (hb hby d23_24) (nle rfl) (nle rfl) ⟨rfl, rfl, rfl, K18, G13, G14, G15, G16, G17⟩
def Q_adh2 (Z : State) (gC : Int32) (v_DE : Addr) (k_DE : ClassId) (v_EL : Addr) (v_EM : Addr) (v_OE : Addr) (m_OA : Addr) (x : Addr) (b : Addr) (kb : ClassId) (y0 : Addr) (y1 : Addr) (y2 : Addr) (h : Heap) (v : Option Value) (h' : Heap) (WL' FL' : List Addr) : Prop := v = none ∧ WL' = [] ∧ FL' = [] ∧ Keep h h' [x, b] ∧ Fld Z h' x "java/util/AbstractList" "modCount" "I" (.int 3) ∧ Fld Z h' x "java/util/ArrayList" "elementData" "[Ljava/lang/Object;" (.ref b) ∧ Fld Z h' x "java/util/ArrayList" "size" "I" (.int 3) ∧ Arv Z h' b kb (.object "java/lang/Object") (10 : Int32) [(.ref y0), (.ref y1), (.ref y2), .null, .null, .null, .null, .null, .null, .null] .null ∧ Exa Z h' b "[Ljava/lang/Object;"
theorem ct_adh2 (cx : Cx a0 Z gC v_DE k_DE v_EL v_EM v_OE m_OA) (x : Addr) (b : Addr) (kb : ClassId) (y0 : Addr) (y1 : Addr) (y2 : Addr) (h : Heap) (WL FL : List Addr) (P0 : Exa Z h x "java/util/ArrayList") (P1 : Fld Z h x "java/util/AbstractList" "modCount" "I" (.int 3)) (P2 : Fld Z h x "java/util/ArrayList" "elementData" "[Ljava/lang/Object;" (.ref b)) (P3 : Fld Z h x "java/util/ArrayList" "size" "I" (.int 2)) (P4 : x ∈ WL) (P5 : Arv Z h b kb (.object "java/lang/Object") (10 : Int32) [(.ref y0), (.ref y1), .null, .null, .null, .null, .null, .null, .null, .null] .null) (P6 : Exa Z h b "[Ljava/lang/Object;") (P7 : b ∈ WL) (hxb : x ≠ b) (P9 : Exa Z h y2 "com/example/lexbind/lexbind/messages/Explanation$Step") :
    Ct l Z EL1 n0 (⟨"java/util/ArrayList", "add", "(Ljava/lang/Object;[Ljava/lang/Object;I)V"⟩ : MethodName) jdk_38_method_24_code 4 (Option.none : Option Jvm.ClassFile.FieldType) ({ frames := 0, cells := 0, slots := 0, locals := 0 } : Room) #[(.ref x), (.ref y2), (.ref b), (.int 2)] h WL FL (Q_adh2 Z gC v_DE k_DE v_EL v_EM v_OE m_OA x b kb y0 y1 y2 h) := by
  refine Ct.of (plainFor_of_name pn4) ?_
  intro p e s m below meth c s1 hx hby hml hnm hret hlk X0
  refine Wo.cast (f' := (mkF m 0 #[.val (.ref x), .val (.ref y2), .val (.ref b), .val (.int 2)] [])) (by rfl) ?_
  have K0 : Keep h h [x, b] := Keep.refl _ _
  show Wo _ _ _ _ _ _ _ _ _ _ _ s1 (mkF m 0 #[.val (.ref x), .val (.ref y2), .val (.ref b), .val (.int 2)] [])
  refine P.iloadN X0 hx 1 (hb hby d24_0) rfl rfl ?_
  refine P.aloadN X0 hx 2 (hb hby d24_1) rfl rfl rfl ?_
  refine WS.alen X0 hx P5 (hb hby d24_2) ?_
  refine P.icmpYes X0 hx 11 (hb hby d24_3) (by decide) (by decide) (by decide) ?_
  refine P.aloadN X0 hx 12 (hb hby d24_11) rfl rfl rfl ?_
  refine P.iloadN X0 hx 13 (hb hby d24_12) rfl rfl ?_
  refine P.aloadN X0 hx 14 (hb hby d24_13) rfl rfl rfl ?_
  refine X0.stR hx P5 (j := (2 : Int32)) (v := (.ref y2)) (i := 2) (by decide) rfl (nlt rfl) rfl (stoE P5 P6 (w189 cx) (by decide) (Ins.of_exa P9 (w190 cx))) P7 (hb hby d24_14) ?_
  intro T1 h1 X1 W1 G1
  have K2 : Keep h h1 [x, b] := K0.wr W1 (Or.inl (mg 1 rfl))
  have V3 : Arv Z h1 b kb (.object "java/lang/Object") (10 : Int32) [(.ref y0), (.ref y1), (.ref y2), .null, .null, .null, .null, .null, .null, .null] .null := G1
  refine P.aloadN X1 hx 16 (hb hby d24_15) rfl rfl rfl ?_
  refine P.iloadN X1 hx 17 (hb hby d24_16) rfl rfl ?_
  refine P.iconst X1 hx 18 1 (hb hby d24_17) rfl rfl ?_
  refine P.iadd X1 hx 19 (z := (3 : Int32)) (hb hby d24_18) rfl rfl ?_
  have F4 := P3.other W1 (Or.inl hxb)
  have F5 := P0.wr W1
  refine X1.putF hx (host := "") (Or.inl (w113 cx)) Via.refl F4 F5 (Or.inl (w114 cx)) (w54 cx) (ty := .int) (by decide) rfl rfl P4 (hb hby d24_19) ?_
  intro T6 h6 X6 W6 G6
  have K7 : Keep h h6 [x, b] := K2.wr W6 (Or.inl (mg 0 rfl))
  have F8 := (P2.other W1 (Or.inl hxb)).other W6 (Or.inr (slot_ne (Or.inl (w76 cx)) (Or.inl (w114 cx)) (by decide) (t := (.array (.object "java/lang/Object"))) (t' := .int) (by decide) (by decide)))
  have F9 := (P1.other W1 (Or.inl hxb)).other W6 (Or.inr (slot_ne (Or.inl (w73 cx)) (Or.inl (w114 cx)) (by decide) (t := .int) (t' := .int) (by decide) (by decide)))
  have F10 := V3.other W6 (Ne.symm hxb)
  have F11 := (P6.wr W1).wr W6
  exact WS.retV X6 (WL' := []) (FL' := []) hx hret hlk (hb hby d24_22) (nle rfl) (nle rfl) ⟨rfl, rfl, rfl, K7, F9, F8, G6, F10, F11⟩
def Q_add2 (Z : State) (gC : Int32) (v_DE : Addr) (k_DE : ClassId) (v_EL : Addr) (v_EM : Addr) (v_OE : Addr) (m_OA : Addr) (x : Addr) (b : Addr) (kb : ClassId) (y0 : Addr) (y1 : Addr) (y2 : Addr) (h : Heap) (v : Option Value) (h' : Heap) (WL' FL' : List Addr) : Prop := v = some (.int 1) ∧ WL' = [] ∧ FL' = [] ∧ Keep h h' [x, b] ∧ Fld Z h' x "java/util/AbstractList" "modCount" "I" (.int 3) ∧ Fld Z h' x "java/util/ArrayList" "elementData" "[Ljava/lang/Object;" (.ref b) ∧ Fld Z h' x "java/util/ArrayList" "size" "I" (.int 3) ∧ Arv Z h' b kb (.object "java/lang/Object") (10 : Int32) [(.ref y0), (.ref y1), (.ref y2), .null, .null, .null, .null, .null, .null, .null] .null ∧ Exa Z h' b "[Ljava/lang/Object;"
theorem ct_add2 (cx : Cx a0 Z gC v_DE k_DE v_EL v_EM v_OE m_OA) (x : Addr) (b : Addr) (kb : ClassId) (y0 : Addr) (y1 : Addr) (y2 : Addr) (h : Heap) (WL FL : List Addr) (P0 : Exa Z h x "java/util/ArrayList") (P1 : Fld Z h x "java/util/AbstractList" "modCount" "I" (.int 2)) (P2 : Fld Z h x "java/util/ArrayList" "elementData" "[Ljava/lang/Object;" (.ref b)) (P3 : Fld Z h x "java/util/ArrayList" "size" "I" (.int 2)) (P4 : x ∈ WL) (P5 : Arv Z h b kb (.object "java/lang/Object") (10 : Int32) [(.ref y0), (.ref y1), .null, .null, .null, .null, .null, .null, .null, .null] .null) (P6 : Exa Z h b "[Ljava/lang/Object;") (P7 : b ∈ WL) (hxb : x ≠ b) (P9 : Exa Z h y2 "com/example/lexbind/lexbind/messages/Explanation$Step") :
    Ct l Z EL1 n0 (⟨"java/util/ArrayList", "add", "(Ljava/lang/Object;)Z"⟩ : MethodName) jdk_38_method_25_code 2 (Option.some FieldType.boolean) ({ frames := 1, cells := 0, slots := 0, locals := 15 } : Room) #[(.ref x), (.ref y2)] h WL FL (Q_add2 Z gC v_DE k_DE v_EL v_EM v_OE m_OA x b kb y0 y1 y2 h) := by
  refine Ct.of (plainFor_of_name pn4) ?_
  intro p e s m below meth c s1 hx hby hml hnm hret hlk X0
  refine Wo.cast (f' := (mkF m 0 #[.val (.ref x), .val (.ref y2)] [])) (by rfl) ?_
  have K0 : Keep h h [x, b] := Keep.refl _ _
  show Wo _ _ _ _ _ _ _ _ _ _ _ s1 (mkF m 0 #[.val (.ref x), .val (.ref y2)] [])
  refine P.aloadN X0 hx 1 (hb hby d23_0) rfl rfl rfl ?_
  refine P.dup X0 hx 2 (hb hby d23_1) rfl rfl ?_
  refine X0.getF hx (host := "") (Or.inl (w167 cx)) (Via.of (w168 cx)) P1 (hb hby d23_2) ?_
  intro T1 X1
  refine P.iconst X1 hx 6 1 (hb hby d23_5) rfl rfl ?_
  refine P.iadd X1 hx 7 (z := (3 : Int32)) (hb hby d23_6) rfl rfl ?_
  refine X1.putF hx (host := "") (Or.inl (w167 cx)) (Via.of (w168 cx)) P1 P0 (Or.inl (w73 cx)) (w54 cx) (ty := .int) (by decide) rfl rfl P4 (hb hby d23_7) ?_
  intro T2 h2 X2 W2 G2
  have K3 : Keep h h2 [x, b] := K0.wr W2 (Or.inl (mg 0 rfl))
  refine P.aloadN X2 hx 11 (hb hby d23_10) rfl rfl rfl ?_
  refine P.aloadN X2 hx 12 (hb hby d23_11) rfl rfl rfl ?_
  refine P.aloadN X2 hx 13 (hb hby d23_12) rfl rfl rfl ?_
  have F4 := P2.other W2 (Or.inr (slot_ne (Or.inl (w76 cx)) (Or.inl (w73 cx)) (by decide) (t := (.array (.object "java/lang/Object"))) (t' := .int) (by decide) (by decide)))
  refine X2.getF hx (host := "") (Or.inl (w75 cx)) Via.refl F4 (hb hby d23_13) ?_
  intro T5 X5
  refine P.aloadN X5 hx 17 (hb hby d23_16) rfl rfl rfl ?_
  have F6 := P3.other W2 (Or.inr (slot_ne (Or.inl (w114 cx)) (Or.inl (w73 cx)) (by decide) (t := .int) (t' := .int) (by decide) (by decide)))
  refine X5.getF hx (host := "") (Or.inl (w113 cx)) Via.refl F6 (hb hby d23_17) ?_
  intro T7 X7
  have F8 := P0.wr W2
  have F9 := P5.other W2 (Ne.symm hxb)
  have F10 := P6.wr W2
  have F11 := P9.wr W2
  refine X7.callV hx (w169 cx) (declM (w170 cx) (w173 cx)) (w172 cx) (w170 cx) (fun _ hZ => nf hZ (w172 cx)) (by decide) F8 (Ct.pay (W := 0) (ct_adh2 cx x b kb y0 y1 y2 h2 _ _ F8 G2 F4 F6 P4 F9 F10 P7 hxb F11) (w173 cx) (w55 cx) (nle rfl) (nle rfl)) (by rw [hml]; rfl) (argsL := [.ref y2, .ref b, .int 2]) (rest := []) (lenOf pd8 rfl) rfl rfl (Nat.le_of_eq rfl) (hb hby d23_20) (nle rfl) (nle rfl) ?_
  rintro T12 h12 _ _ _ X12 ⟨rfl, rfl, rfl, J12, G13, G14, G15, G16, G17⟩
  have K18 : Keep h h12 [x, b] := K3.trans J12 (allS (Or.inl (mg 0 rfl)) (allS (Or.inl (mg 1 rfl)) all0))
  refine P.iconst X12 hx 24 1 (hb hby d23_23) rfl rfl ?_
  exact WS.retN X12 (WL' := []) (FL' := []) hx (t := .boolean) hret (by simp) hlk (hb hby d23_24) (nle rfl) (nle rfl) ⟨rfl, rfl, rfl, K18, G13, G14, G15, G16, G17⟩
def Q_alie0 (Z : State) (gC : Int32) (v_DE : Addr) (k_DE : ClassId) (v_EL : Addr) (v_EM : Addr) (v_OE : Addr) (m_OA : Addr) (x : Addr) (h : Heap) (v : Option Value) (h' : Heap) (WL' FL' : List Addr) : Prop := v = some (.int 1) ∧ WL' = [] ∧ FL' = [] ∧ h' = h
theorem ct_alie0 (cx : Cx a0 Z gC v_DE k_DE v_EL v_EM v_OE m_OA) (x : Addr) (h : Heap) (WL FL : List Addr) (P0 : Fld Z h x "java/util/ArrayList" "size" "I" (.int 0)) :
    Ct l Z EL1 n0 (⟨"java/util/ArrayList", "isEmpty", "()Z"⟩ : MethodName) jdk_38_method_9_code 1 (Option.some FieldType.boolean) ({ frames := 0, cells := 0, slots := 0, locals := 0 } : Room) #[(.ref x)] h WL FL (Q_alie0 Z gC v_DE k_DE v_EL v_EM v_OE m_OA x h) := by
  refine Ct.of (plainFor_of_name pn4) ?_
  intro p e s m below meth c s1 hx hby hml hnm hret hlk X0
  refine Wo.cast (f' := (mkF m 0 #[.val (.ref x)] [])) (by rfl) ?_
  show Wo _ _ _ _ _ _ _ _ _ _ _ s1 (mkF m 0 #[.val (.ref x)] [])
  refine P.aloadN X0 hx 1 (hb hby d16_0) rfl rfl rfl ?_
  refine X0.getF hx (host := "") (Or.inl (w113 cx)) Via.refl P0 (hb hby d16_1) ?_
  intro T1 X1
  refine P.ifNo X1 hx 7 (hb hby d16_4) (by decide) rfl ?_
  refine P.iconst X1 hx 8 1 (hb hby d16_7) rfl rfl ?_
  refine P.goto X1 hx 12 (hb hby d16_8) (by decide) (by decide) ?_
  exact WS.retN X1 (WL' := []) (FL' := []) hx (t := .boolean) hret (by simp) hlk (hb hby d16_12) (nle rfl) (nle rfl) ⟨rfl, rfl, rfl, rfl⟩
def Q_alie1 (Z : State) (gC : Int32) (v_DE : Addr) (k_DE : ClassId) (v_EL : Addr) (v_EM : Addr) (v_OE : Addr) (m_OA : Addr) (x : Addr) (h : Heap) (v : Option Value) (h' : Heap) (WL' FL' : List Addr) : Prop := v = some (.int 0) ∧ WL' = [] ∧ FL' = [] ∧ h' = h
theorem ct_alie1 (cx : Cx a0 Z gC v_DE k_DE v_EL v_EM v_OE m_OA) (x : Addr) (h : Heap) (WL FL : List Addr) (P0 : Fld Z h x "java/util/ArrayList" "size" "I" (.int 1)) :
    Ct l Z EL1 n0 (⟨"java/util/ArrayList", "isEmpty", "()Z"⟩ : MethodName) jdk_38_method_9_code 1 (Option.some FieldType.boolean) ({ frames := 0, cells := 0, slots := 0, locals := 0 } : Room) #[(.ref x)] h WL FL (Q_alie1 Z gC v_DE k_DE v_EL v_EM v_OE m_OA x h) := by
  refine Ct.of (plainFor_of_name pn4) ?_
  intro p e s m below meth c s1 hx hby hml hnm hret hlk X0
  refine Wo.cast (f' := (mkF m 0 #[.val (.ref x)] [])) (by rfl) ?_
  show Wo _ _ _ _ _ _ _ _ _ _ _ s1 (mkF m 0 #[.val (.ref x)] [])
  refine P.aloadN X0 hx 1 (hb hby d16_0) rfl rfl rfl ?_
  refine X0.getF hx (host := "") (Or.inl (w113 cx)) Via.refl P0 (hb hby d16_1) ?_
  intro T1 X1
  refine P.ifYes X1 hx 11 (hb hby d16_4) (by decide) (by decide) (by decide) ?_
  refine P.iconst X1 hx 12 0 (hb hby d16_11) rfl rfl ?_
  exact WS.retN X1 (WL' := []) (FL' := []) hx (t := .boolean) hret (by simp) hlk (hb hby d16_12) (nle rfl) (nle rfl) ⟨rfl, rfl, rfl, rfl⟩
def Q_alie2 (Z : State) (gC : Int32) (v_DE : Addr) (k_DE : ClassId) (v_EL : Addr) (v_EM : Addr) (v_OE : Addr) (m_OA : Addr) (x : Addr) (h : Heap) (v : Option Value) (h' : Heap) (WL' FL' : List Addr) : Prop := v = some (.int 0) ∧ WL' = [] ∧ FL' = [] ∧ h' = h
theorem ct_alie2 (cx : Cx a0 Z gC v_DE k_DE v_EL v_EM v_OE m_OA) (x : Addr) (h : Heap) (WL FL : List Addr) (P0 : Fld Z h x "java/util/ArrayList" "size" "I" (.int 2)) :
    Ct l Z EL1 n0 (⟨"java/util/ArrayList", "isEmpty", "()Z"⟩ : MethodName) jdk_38_method_9_code 1 (Option.some FieldType.boolean) ({ frames := 0, cells := 0, slots := 0, locals := 0 } : Room) #[(.ref x)] h WL FL (Q_alie2 Z gC v_DE k_DE v_EL v_EM v_OE m_OA x h) := by
  refine Ct.of (plainFor_of_name pn4) ?_
  intro p e s m below meth c s1 hx hby hml hnm hret hlk X0
  refine Wo.cast (f' := (mkF m 0 #[.val (.ref x)] [])) (by rfl) ?_
  show Wo _ _ _ _ _ _ _ _ _ _ _ s1 (mkF m 0 #[.val (.ref x)] [])
  refine P.aloadN X0 hx 1 (hb hby d16_0) rfl rfl rfl ?_
  refine X0.getF hx (host := "") (Or.inl (w113 cx)) Via.refl P0 (hb hby d16_1) ?_
  intro T1 X1
  refine P.ifYes X1 hx 11 (hb hby d16_4) (by decide) (by decide) (by decide) ?_
  refine P.iconst X1 hx 12 0 (hb hby d16_11) rfl rfl ?_
  exact WS.retN X1 (WL' := []) (FL' := []) hx (t := .boolean) hret (by simp) hlk (hb hby d16_12) (nle rfl) (nle rfl) ⟨rfl, rfl, rfl, rfl⟩
def Q_alie3 (Z : State) (gC : Int32) (v_DE : Addr) (k_DE : ClassId) (v_EL : Addr) (v_EM : Addr) (v_OE : Addr) (m_OA : Addr) (x : Addr) (h : Heap) (v : Option Value) (h' : Heap) (WL' FL' : List Addr) : Prop := v = some (.int 0) ∧ WL' = [] ∧ FL' = [] ∧ h' = h
theorem ct_alie3 (cx : Cx a0 Z gC v_DE k_DE v_EL v_EM v_OE m_OA) (x : Addr) (h : Heap) (WL FL : List Addr) (P0 : Fld Z h x "java/util/ArrayList" "size" "I" (.int 3)) :
    Ct l Z EL1 n0 (⟨"java/util/ArrayList", "isEmpty", "()Z"⟩ : MethodName) jdk_38_method_9_code 1 (Option.some FieldType.boolean) ({ frames := 0, cells := 0, slots := 0, locals := 0 } : Room) #[(.ref x)] h WL FL (Q_alie3 Z gC v_DE k_DE v_EL v_EM v_OE m_OA x h) := by
  refine Ct.of (plainFor_of_name pn4) ?_
  intro p e s m below meth c s1 hx hby hml hnm hret hlk X0
  refine Wo.cast (f' := (mkF m 0 #[.val (.ref x)] [])) (by rfl) ?_
  show Wo _ _ _ _ _ _ _ _ _ _ _ s1 (mkF m 0 #[.val (.ref x)] [])
  refine P.aloadN X0 hx 1 (hb hby d16_0) rfl rfl rfl ?_
  refine X0.getF hx (host := "") (Or.inl (w113 cx)) Via.refl P0 (hb hby d16_1) ?_
  intro T1 X1
  refine P.ifYes X1 hx 11 (hb hby d16_4) (by decide) (by decide) (by decide) ?_
  refine P.iconst X1 hx 12 0 (hb hby d16_11) rfl rfl ?_
  exact WS.retN X1 (WL' := []) (FL' := []) hx (t := .boolean) hret (by simp) hlk (hb hby d16_12) (nle rfl) (nle rfl) ⟨rfl, rfl, rfl, rfl⟩
def Q_minq_10_1 (Z : State) (gC : Int32) (v_DE : Addr) (k_DE : ClassId) (v_EL : Addr) (v_EM : Addr) (v_OE : Addr) (m_OA : Addr) (h : Heap) (v : Option Value) (h' : Heap) (WL' FL' : List Addr) : Prop := v = some (.int 1) ∧ WL' = [] ∧ FL' = [] ∧ h' = h
theorem ct_minq_10_1 (cx : Cx a0 Z gC v_DE k_DE v_EL v_EM v_OE m_OA) (h : Heap) (WL FL : List Addr)  :
    Ct l Z EL1 n0 (⟨"java/lang/Math", "min", "(II)I"⟩ : MethodName) jdk_29_method_69_code 2 (Option.some FieldType.int) ({ frames := 0, cells := 0, slots := 0, locals := 0 } : Room) #[(.int 10), (.int 1)] h WL FL (Q_minq_10_1 Z gC v_DE k_DE v_EL v_EM v_OE m_OA h) := by
  refine Ct.of (by decide +kernel) ?_
  intro p e s m below meth c s1 hx hby hml hnm hret hlk X0
  refine Wo.cast (f' := (mkF m 0 #[.val (.int 10), .val (.int 1)] [])) (by rfl) ?_
  show Wo _ _ _ _ _ _ _ _ _ _ _ s1 (mkF m 0 #[.val (.int 10), .val (.int 1)] [])
  refine P.iloadN X0 hx 1 (hb hby d38_0) rfl rfl ?_
  refine P.iloadN X0 hx 2 (hb hby d38_1) rfl rfl ?_
  refine P.icmpYes X0 hx 9 (hb hby d38_2) (by decide) (by decide) (by decide) ?_
  refine P.iloadN X0 hx 10 (hb hby d38_9) rfl rfl ?_
  exact WS.retI X0 (WL' := []) (FL' := []) hx hret hlk (hb hby d38_10) (nle rfl) (nle rfl) ⟨rfl, rfl, rfl, rfl⟩
def Q_cpo31 (Z : State) (gC : Int32) (v_DE : Addr) (k_DE : ClassId) (v_EL : Addr) (v_EM : Addr) (v_OE : Addr) (m_OA : Addr) (b : Addr) (kb : ClassId) (y0 : Addr) (h : Heap) (v : Option Value) (h' : Heap) (WL' FL' : List Addr) : Prop := ∃ u : Addr, ∃ ku : ClassId, v = some (.ref u) ∧ WL' = [u] ∧ FL' = [] ∧ Keep h h' [] ∧ h.size ≤ u ∧ Arv Z h' u ku (.object "java/lang/Object") (1 : Int32) [(.ref y0)] .null ∧ Exa Z h' u "[Ljava/lang/Object;"
theorem ct_cpo31 (cx : Cx a0 Z gC v_DE k_DE v_EL v_EM v_OE m_OA) (b : Addr) (kb : ClassId) (y0 : Addr) (h : Heap) (WL FL : List Addr) (P0 : Arv Z h b kb (.object "java/lang/Object") (10 : Int32) [(.ref y0), .null, .null, .null, .null, .null, .null, .null, .null, .null] .null) (P1 : Exa Z h b "[Ljava/lang/Object;") (P2 : Exa Z h y0 "com/example/lexbind/lexbind/messages/Explanation$Step") :
    Ct l Z EL1 n0 (⟨"java/util/Arrays", "copyOf", "([Ljava/lang/Object;ILjava/lang/Class;)[Ljava/lang/Object;"⟩ : MethodName) jdk_65_method_120_code 4 (Option.some (FieldType.array (FieldType.object "java/lang/Object"))) ({ frames := 1, cells := 1, slots := 1, locals := 18 } : Room) #[(.ref b), (.int 1), (.ref m_OA)] h WL FL (Q_cpo31 Z gC v_DE k_DE v_EL v_EM v_OE m_OA b kb y0 h) := by
  refine Ct.of (plainFor_of_name pn8) ?_
  intro p e s m below meth c s1 hx hby hml hnm hret hlk X0
  refine Wo.cast (f' := (mkF m 0 #[.val (.ref b), .val (.int 1), .val (.ref m_OA), .unset] [])) (by rfl) ?_
  have K0 : Keep h h [] := Keep.refl _ _
  show Wo _ _ _ _ _ _ _ _ _ _ _ s1 (mkF m 0 #[.val (.ref b), .val (.int 1), .val (.ref m_OA), .unset] [])
  refine P.aloadN X0 hx 1 (hb hby d37_0) rfl rfl rfl ?_
  refine X0.ldcK hx (w239 cx) (M_OA cx) (hb hby d37_1) ?_
  intro T1 X1
  refine WS.acmp X1 hx (x := (.ref m_OA)) (y := (.ref m_OA)) rfl rfl (pc' := 6) (same := true) (hb hby d37_3) (decide_eq_true rfl) (by decide) (by decide) ?_
  refine P.iloadN X1 hx 7 (hb hby d37_6) rfl rfl ?_
  refine X1.newR hx (w240 cx) (w189 cx) (hb hby d37_7) (by decide) (cap := 1) (nle rfl) (nle rfl) (nle rfl) (nle rfl) (ad := "[Ljava/lang/Object;") (by decide) ?_
  intro T2 h2 a2 k2 X2 E2 g2 A2 Ex2
  have ge3 : h.size ≤ a2 := Nat.le_trans K0.1 g2
  have K4 : Keep h h2 [] := K0.ext E2
  have V5 : Arv Z h2 a2 k2 (.object "java/lang/Object") (1 : Int32) [.null] .null := Arv.pad A2 (pad_rep [] _ 1)
  refine P.goto X2 hx 24 (hb hby d37_10) (by decide) (by decide) ?_
  refine P.astoreN X2 hx 25 #[.val (.ref b), .val (.int 1), .val (.ref m_OA), .val (.ref a2)] (hb hby d37_24) rfl rfl rfl ?_
  refine P.aloadN X2 hx 26 (hb hby d37_25) rfl rfl rfl ?_
  refine P.iconst X2 hx 27 0 (hb hby d37_26) rfl rfl ?_
  refine P.aloadN X2 hx 28 (hb hby d37_27) rfl rfl rfl ?_
  refine P.iconst X2 hx 29 0 (hb hby d37_28) rfl rfl ?_
  refine P.aloadN X2 hx 30 (hb hby d37_29) rfl rfl rfl ?_
  have F6 := P0.ext E2
  refine WS.alen X2 hx F6 (hb hby d37_30) ?_
  refine P.iloadN X2 hx 32 (hb hby d37_31) rfl rfl ?_
  refine X2.callS hx (w241 cx) (w242 cx) (w186 cx) (w243 cx) (by decide) (Ct.pay (W := 4) (ct_minq_10_1 cx  h2 _ _ ) (w243 cx) (w186 cx) (nle rfl) (nle rfl)) (by rw [hml]; rfl) (argsL := [.int 10, .int 1]) (rest := [.int 0, .ref a2, .int 0, .ref b]) (lenOf pd5 rfl) rfl rfl (Nat.le_of_eq rfl) (hb hby d37_32) (nle rfl) (nle rfl) ?_
  rintro T7 h7 _ _ _ X7 ⟨rfl, rfl, rfl, J7⟩
  rw [J7] at X7
  have F9 := P2.ext E2
  refine X7.cpA hx (w244 cx) (w247 cx) (w245 cx) (w246 cx) F6 V5 (Or.inr ⟨rfl, rfl, ⟨(stoE V5 Ex2 (w189 cx) (by decide) (Ins.of_exa F9 (w190 cx))), trivial⟩⟩) (by decide) (by decide) (by decide) (nle rfl) (nle rfl) (us := [(.ref y0)]) (vr := [(.ref y0)]) rfl (nle rfl) rfl (mg 0 rfl) (by rw [hml]; rfl) (hb hby d37_35) (nle rfl) (W := 0) (Nat.le_of_eq rfl) (nle rfl) ?_
  intro T8 h8 X8 J8 G8
  have K10 : Keep h h8 [] := K4.trans J8 (allS (Or.inr ge3) all0)
  refine P.aloadN X8 hx 39 (hb hby d37_38) rfl rfl rfl ?_
  have F11 := Ex2.keep J8
  exact WS.retA X8 (WL' := [a2]) (FL' := []) hx hret rfl rfl hlk (hb hby d37_39) (nle rfl) (nle rfl) ⟨a2, k2, rfl, rfl, rfl, K10, ge3, G8, F11⟩
def Q_cpo21 (Z : State) (gC : Int32) (v_DE : Addr) (k_DE : ClassId) (v_EL : Addr) (v_EM : Addr) (v_OE : Addr) (m_OA : Addr) (b : Addr) (kb : ClassId) (y0 : Addr) (h : Heap) (v : Option Value) (h' : Heap) (WL' FL' : List Addr) : Prop := ∃ u : Addr, ∃ ku : ClassId, v = some (.ref u) ∧ WL' = [u] ∧ FL' = [] ∧ Keep h h' [] ∧ h.size ≤ u ∧ Arv Z h' u ku (.object "java/lang/Object") (1 : Int32) [(.ref y0)] .null ∧ Exa Z h' u "[Ljava/lang/Object;"
theorem ct_cpo21 (cx : Cx a0 Z gC v_DE k_DE v_EL v_EM v_OE m_OA) (b : Addr) (kb : ClassId) (y0 : Addr) (h : Heap) (WL FL : List Addr) (P0 : Arv Z h b kb (.object "java/lang/Object") (10 : Int32) [(.ref y0), .null, .null, .null, .null, .null, .null, .null, .null, .null] .null) (P1 : Exa Z h b "[Ljava/lang/Object;") (P2 : Exa Z h y0 "com/example/lexbind/lexbind/messages/Explanation$Step") :
    Ct l Z EL1 n0 (⟨"java/util/Arrays", "copyOf", "([Ljava/lang/Object;I)[Ljava/lang/Object;"⟩ : MethodName) jdk_65_method_119_code 2 (Option.some (FieldType.array (FieldType.object "java/lang/Object"))) ({ frames := 2, cells := 1, slots := 1, locals := 33 } : Room) #[(.ref b), (.int 1)] h WL FL (Q_cpo21 Z gC v_DE k_DE v_EL v_EM v_OE m_OA b kb y0 h) := by
  refine Ct.of (plainFor_of_name pn8) ?_
  intro p e s m below meth c s1 hx hby hml hnm hret hlk X0
  refine Wo.cast (f' := (mkF m 0 #[.val (.ref b), .val (.int 1)] [])) (by rfl) ?_
  have K0 : Keep h h [] := Keep.refl _ _
  show Wo _ _ _ _ _ _ _ _ _ _ _ s1 (mkF m 0 #[.val (.ref b), .val (.int 1)] [])
  refine P.aloadN X0 hx 1 (hb hby d36_0) rfl rfl rfl ?_
  refine P.iloadN X0 hx 2 (hb hby d36_1) rfl rfl ?_
  refine P.aloadN X0 hx 3 (hb hby d36_2) rfl rfl rfl ?_
  refine X0.gcV hx (w230 cx) (w231 cx) (w102 cx) (w233 cx) (w232 cx) (w234 cx) P1 (M_OA cx) (by rw [hml]; rfl) (hb hby d36_3) (nle rfl) (W := 2) (Nat.le_of_eq rfl) (nle rfl) ?_
  intro T1 X1
  refine X1.callS hx (w236 cx) (w237 cx) (w228 cx) (w238 cx) (by decide) (Ct.pay (W := 0) (ct_cpo31 cx b kb y0 h _ _ P0 P1 P2) (w238 cx) (w228 cx) (nle rfl) (nle rfl)) (by rw [hml]; rfl) (argsL := [.ref b, .int 1, .ref m_OA]) (rest := []) (lenOf pd9 rfl) rfl rfl (Nat.le_of_eq rfl) (hb hby d36_6) (nle rfl) (nle rfl) ?_
  rintro T2 h2 _ _ _ X2 ⟨a3, k4, rfl, rfl, rfl, J2, g7, G5, G6⟩
  have ge8 : h.size ≤ a3 := Nat.le_trans K0.1 g7
  have K9 : Keep h h2 [] := K0.trans J2 all0
  exact WS.retA X2 (WL' := [a3]) (FL' := []) hx hret rfl rfl hlk (hb hby d36_9) (nle rfl) (nle rfl) ⟨a3, k4, rfl, rfl, rfl, K9, ge8, G5, G6⟩
def Q_toar1 (Z : State) (gC : Int32) (v_DE : Addr) (k_DE : ClassId) (v_EL : Addr) (v_EM : Addr) (v_OE : Addr) (m_OA : Addr) (x : Addr) (b : Addr) (kb : ClassId) (y0 : Addr) (h : Heap) (v : Option Value) (h' : Heap) (WL' FL' : List Addr) : Prop := ∃ u : Addr, ∃ ku : ClassId, v = some (.ref u) ∧ WL' = [u] ∧ FL' = [] ∧ Keep h h' [] ∧ h.size ≤ u ∧ Arv Z h' u ku (.object "java/lang/Object") (1 : Int32) [(.ref y0)] .null ∧ Exa Z h' u "[Ljava/lang/Object;"
theorem ct_toar1 (cx : Cx a0 Z gC v_DE k_DE v_EL v_EM v_OE m_OA) (x : Addr) (b : Addr) (kb : ClassId) (y0 : Addr) (h : Heap) (WL FL : List Addr) (P0 : Fld Z h x "java/util/ArrayList" "elementData" "[Ljava/lang/Object;" (.ref b)) (P1 : Fld Z h x "java/util/ArrayList" "size" "I" (.int 1)) (P2 : Arv Z h b kb (.object "java/lang/Object") (10 : Int32) [(.ref y0), .null, .null, .null, .null, .null, .null, .null, .null, .null] .null) (P3 : Exa Z h b "[Ljava/lang/Object;") (P4 : Exa Z h y0 "com/example/lexbind/lexbind/messages/Explanation$Step") :
    Ct l Z EL1 n0 (⟨"java/util/ArrayList", "toArray", "()[Ljava/lang/Object;"⟩ : MethodName) jdk_38_method_16_code 1 (Option.some (FieldType.array (FieldType.object "java/lang/Object"))) ({ frames := 3, cells := 1, slots := 1, locals := 46 } : Room) #[(.ref x)] h WL FL (Q_toar1 Z gC v_DE k_DE v_EL v_EM v_OE m_OA x b kb y0 h) := by
  refine Ct.of (plainFor_of_name pn4) ?_
  intro p e s m below meth c s1 hx hby hml hnm hret hlk X0
  refine Wo.cast (f' := (mkF m 0 #[.val (.ref x)] [])) (by rfl) ?_
  have K0 : Keep h h [] := Keep.refl _ _
  show Wo _ _ _ _ _ _ _ _ _ _ _ s1 (mkF m 0 #[.val (.ref x)] [])
  refine P.aloadN X0 hx 1 (hb hby d35_0) rfl rfl rfl ?_
  refine X0.getF hx (host := "") (Or.inl (w75 cx)) Via.refl P0 (hb hby d35_1) ?_
  intro T1 X1
  refine P.aloadN X1 hx 5 (hb hby d35_4) rfl rfl rfl ?_
  refine X1.getF hx (host := "") (Or.inl (w113 cx)) Via.refl P1 (hb hby d35_5) ?_
  intro T2 X2
  refine X2.callS hx (w226 cx) (w227 cx) (w228 cx) (w229 cx) (by decide) (Ct.pay (W := 0) (ct_cpo21 cx b kb y0 h _ _ P2 P3 P4) (w229 cx) (w228 cx) (nle rfl) (nle rfl)) (by rw [hml]; rfl) (argsL := [.ref b, .int 1]) (rest := []) (lenOf pd10 rfl) rfl rfl (Nat.le_of_eq rfl) (hb hby d35_8) (nle rfl) (nle rfl) ?_
  rintro T3 h3 _ _ _ X3 ⟨a4, k5, rfl, rfl, rfl, J3, g8, G6, G7⟩
  have ge9 : h.size ≤ a4 := Nat.le_trans K0.1 g8
  have K10 : Keep h h3 [] := K0.trans J3 all0
  exact WS.retA X3 (WL' := [a4]) (FL' := []) hx hret rfl rfl hlk (hb hby d35_11) (nle rfl) (nle rfl) ⟨a4, k5, rfl, rfl, rfl, K10, ge9, G6, G7⟩
def Q_minq_10_2 (Z : State) (gC : Int32) (v_DE : Addr) (k_DE : ClassId) (v_EL : Addr) (v_EM : Addr) (v_OE : Addr) (m_OA : Addr) (h : Heap) (v : Option Value) (h' : Heap) (WL' FL' : List Addr) : Prop := v = some (.int 2) ∧ WL' = [] ∧ FL' = [] ∧ h' = h
theorem ct_minq_10_2 (cx : Cx a0 Z gC v_DE k_DE v_EL v_EM v_OE m_OA) (h : Heap) (WL FL : List Addr)  :
    Ct l Z EL1 n0 (⟨"java/lang/Math", "min", "(II)I"⟩ : MethodName) jdk_29_method_69_code 2 (Option.some FieldType.int) ({ frames := 0, cells := 0, slots := 0, locals := 0 } : Room) #[(.int 10), (.int 2)] h WL FL (Q_minq_10_2 Z gC v_DE k_DE v_EL v_EM v_OE m_OA h) := by
  refine Ct.of (by decide +kernel) ?_
  intro p e s m below meth c s1 hx hby hml hnm hret hlk X0
  refine Wo.cast (f' := (mkF m 0 #[.val (.int 10), .val (.int 2)] [])) (by rfl) ?_
  show Wo _ _ _ _ _ _ _ _ _ _ _ s1 (mkF m 0 #[.val (.int 10), .val (.int 2)] [])
  refine P.iloadN X0 hx 1 (hb hby d38_0) rfl rfl ?_
  refine P.iloadN X0 hx 2 (hb hby d38_1) rfl rfl ?_
  refine P.icmpYes X0 hx 9 (hb hby d38_2) (by decide) (by decide) (by decide) ?_
  refine P.iloadN X0 hx 10 (hb hby d38_9) rfl rfl ?_
  exact WS.retI X0 (WL' := []) (FL' := []) hx hret hlk (hb hby d38_10) (nle rfl) (nle rfl) ⟨rfl, rfl, rfl, rfl⟩
def Q_cpo32 (Z : State) (gC : Int32) (v_DE : Addr) (k_DE : ClassId) (v_EL : Addr) (v_EM : Addr) (v_OE : Addr) (m_OA : Addr) (b : Addr) (kb : ClassId) (y0 : Addr) (y1 : Addr) (h : Heap) (v : Option Value) (h' : Heap) (WL' FL' : List Addr) : Prop := ∃ u : Addr, ∃ ku : ClassId, v = some (.ref u) ∧ WL' = [u] ∧ FL' = [] ∧ Keep h h' [] ∧ h.size ≤ u ∧ Arv Z h' u ku (.object "java/lang/Object") (2 : Int32) [(.ref y0), (.ref y1)] .null ∧ Exa Z h' u "[Ljava/lang/Object;"
theorem ct_cpo32 (cx : Cx a0 Z gC v_DE k_DE v_EL v_EM v_OE m_OA) (b : Addr) (kb : ClassId) (y0 : Addr) (y1 : Addr) (h : Heap) (WL FL : List Addr) (P0 : Arv Z h b kb (.object "java/lang/Object") (10 : Int32) [(.ref y0), (.ref y1), .null, .null, .null, .null, .null, .null, .null, .null] .null) (P1 : Exa Z h b "[Ljava/lang/Object;") (P2 : Exa Z h y0 "com/example/lexbind/lexbind/messages/Explanation$Step") (P3 : Exa Z h y1 "com/example/lexbind/lexbind/messages/Explanation$Step") :
    Ct l Z EL1 n0 (⟨"java/util/Arrays", "copyOf", "([Ljava/lang/Object;ILjava/lang/Class;)[Ljava/lang/Object;"⟩ : MethodName) jdk_65_method_120_code 4 (Option.some (FieldType.array (FieldType.object "java/lang/Object"))) ({ frames := 1, cells := 1, slots := 2, locals := 18 } : Room) #[(.ref b), (.int 2), (.ref m_OA)] h WL FL (Q_cpo32 Z gC v_DE k_DE v_EL v_EM v_OE m_OA b kb y0 y1 h) := by
  refine Ct.of (plainFor_of_name pn8) ?_
  intro p e s m below meth c s1 hx hby hml hnm hret hlk X0
  refine Wo.cast (f' := (mkF m 0 #[.val (.ref b), .val (.int 2), .val (.ref m_OA), .unset] [])) (by rfl) ?_
  have K0 : Keep h h [] := Keep.refl _ _
  show Wo _ _ _ _ _ _ _ _ _ _ _ s1 (mkF m 0 #[.val (.ref b), .val (.int 2), .val (.ref m_OA), .unset] [])
  refine P.aloadN X0 hx 1 (hb hby d37_0) rfl rfl rfl ?_
  refine X0.ldcK hx (w239 cx) (M_OA cx) (hb hby d37_1) ?_
  intro T1 X1
  refine WS.acmp X1 hx (x := (.ref m_OA)) (y := (.ref m_OA)) rfl rfl (pc' := 6) (same := true) (hb hby d37_3) (decide_eq_true rfl) (by decide) (by decide) ?_
  refine P.iloadN X1 hx 7 (hb hby d37_6) rfl rfl ?_
  refine X1.newR hx (w240 cx) (w189 cx) (hb hby d37_7) (by decide) (cap := 2) (nle rfl) (nle rfl) (nle rfl) (nle rfl) (ad := "[Ljava/lang/Object;") (by decide) ?_
  intro T2 h2 a2 k2 X2 E2 g2 A2 Ex2
  have ge3 : h.size ≤ a2 := Nat.le_trans K0.1 g2
  have K4 : Keep h h2 [] := K0.ext E2
  have V5 : Arv Z h2 a2 k2 (.object "java/lang/Object") (2 : Int32) [.null, .null] .null := Arv.pad A2 (pad_rep [] _ 2)
  refine P.goto X2 hx 24 (hb hby d37_10) (by decide) (by decide) ?_
  refine P.astoreN X2 hx 25 #[.val (.ref b), .val (.int 2), .val (.ref m_OA), .val (.ref a2)] (hb hby d37_24) rfl rfl rfl ?_
  refine P.aloadN X2 hx 26 (hb hby d37_25) rfl rfl rfl ?_
  refine P.iconst X2 hx 27 0 (hb hby d37_26) rfl rfl ?_
  refine P.aloadN X2 hx 28 (hb hby d37_27) rfl rfl rfl ?_
  refine P.iconst X2 hx 29 0 (hb hby d37_28) rfl rfl ?_
  refine P.aloadN X2 hx 30 (hb hby d37_29) rfl rfl rfl ?_
  have F6 := P0.ext E2
  refine WS.alen X2 hx F6 (hb hby d37_30) ?_
  refine P.iloadN X2 hx 32 (hb hby d37_31) rfl rfl ?_
  refine X2.callS hx (w241 cx) (w242 cx) (w186 cx) (w243 cx) (by decide) (Ct.pay (W := 4) (ct_minq_10_2 cx  h2 _ _ ) (w243 cx) (w186 cx) (nle rfl) (nle rfl)) (by rw [hml]; rfl) (argsL := [.int 10, .int 2]) (rest := [.int 0, .ref a2, .int 0, .ref b]) (lenOf pd5 rfl) rfl rfl (Nat.le_of_eq rfl) (hb hby d37_32) (nle rfl) (nle rfl) ?_
  rintro T7 h7 _ _ _ X7 ⟨rfl, rfl, rfl, J7⟩
  rw [J7] at X7
  have F9 := P3.ext E2
  have F10 := P2.ext E2
  refine X7.cpA hx (w244 cx) (w247 cx) (w245 cx) (w246 cx) F6 V5 (Or.inr ⟨rfl, rfl, ⟨(stoE V5 Ex2 (w189 cx) (by decide) (Ins.of_exa F10 (w190 cx))), ⟨(stoE V5 Ex2 (w189 cx) (by decide) (Ins.of_exa F9 (w190 cx))), trivial⟩⟩⟩) (by decide) (by decide) (by decide) (nle rfl) (nle rfl) (us := [(.ref y0), (.ref y1)]) (vr := [(.ref y0), (.ref y1)]) rfl (nle rfl) rfl (mg 0 rfl) (by rw [hml]; rfl) (hb hby d37_35) (nle rfl) (W := 0) (Nat.le_of_eq rfl) (nle rfl) ?_
  intro T8 h8 X8 J8 G8
  have K11 : Keep h h8 [] := K4.trans J8 (allS (Or.inr ge3) all0)
  refine P.aloadN X8 hx 39 (hb hby d37_38) rfl rfl rfl ?_
  have F12 := Ex2.keep J8
  exact WS.retA X8 (WL' := [a2]) (FL' := []) hx hret rfl rfl hlk (hb hby d37_39) (nle rfl) (nle rfl) ⟨a2, k2, rfl, rfl, rfl, K11, ge3, G8, F12⟩
def Q_cpo22 (Z : State) (gC : Int32) (v_DE : Addr) (k_DE : ClassId) (v_EL : Addr) (v_EM : Addr) (v_OE : Addr) (m_OA : Addr) (b : Addr) (kb : ClassId) (y0 : Addr) (y1 : Addr) (h : Heap) (v : Option Value) (h' : Heap) (WL' FL' : List Addr) : Prop := ∃ u : Addr, ∃ ku : ClassId, v = some (.ref u) ∧ WL' = [u] ∧ FL' = [] ∧ Keep h h' [] ∧ h.size ≤ u ∧ Arv Z h' u ku (.object "java/lang/Object") (2 : Int32) [(.ref y0), (.ref y1)] .null ∧ Exa Z h' u "[Ljava/lang/Object;"
theorem ct_cpo22 (cx : Cx a0 Z gC v_DE k_DE v_EL v_EM v_OE m_OA) (b : Addr) (kb : ClassId) (y0 : Addr) (y1 : Addr) (h : Heap) (WL FL : List Addr) (P0 : Arv Z h b kb (.object "java/lang/Object") (10 : Int32) [(.ref y0), (.ref y1), .null, .null, .null, .null, .null, .null, .null, .null] .null) (P1 : Exa Z h b "[Ljava/lang/Object;") (P2 : Exa Z h y0 "com/example/lexbind/lexbind/messages/Explanation$Step") (P3 : Exa Z h y1 "com/example/lexbind/lexbind/messages/Explanation$Step") :
    Ct l Z EL1 n0 (⟨"java/util/Arrays", "copyOf", "([Ljava/lang/Object;I)[Ljava/lang/Object;"⟩ : MethodName) jdk_65_method_119_code 2 (Option.some (FieldType.array (FieldType.object "java/lang/Object"))) ({ frames := 2, cells := 1, slots := 2, locals := 33 } : Room) #[(.ref b), (.int 2)] h WL FL (Q_cpo22 Z gC v_DE k_DE v_EL v_EM v_OE m_OA b kb y0 y1 h) := by
  refine Ct.of (plainFor_of_name pn8) ?_
  intro p e s m below meth c s1 hx hby hml hnm hret hlk X0
  refine Wo.cast (f' := (mkF m 0 #[.val (.ref b), .val (.int 2)] [])) (by rfl) ?_
  have K0 : Keep h h [] := Keep.refl _ _
  show Wo _ _ _ _ _ _ _ _ _ _ _ s1 (mkF m 0 #[.val (.ref b), .val (.int 2)] [])
  refine P.aloadN X0 hx 1 (hb hby d36_0) rfl rfl rfl ?_
  refine P.iloadN X0 hx 2 (hb hby d36_1) rfl rfl ?_
  refine P.aloadN X0 hx 3 (hb hby d36_2) rfl rfl rfl ?_
  refine X0.gcV hx (w230 cx) (w231 cx) (w102 cx) (w233 cx) (w232 cx) (w234 cx) P1 (M_OA cx) (by rw [hml]; rfl) (hb hby d36_3) (nle rfl) (W := 2) (Nat.le_of_eq rfl) (nle rfl) ?_
  intro T1 X1
  refine X1.callS hx (w236 cx) (w237 cx) (w228 cx) (w238 cx) (by decide) (Ct.pay (W := 0) (ct_cpo32 cx b kb y0 y1 h _ _ P0 P1 P2 P3) (w238 cx) (w228 cx) (nle rfl) (nle rfl)) (by rw [hml]; rfl) (argsL := [.ref b, .int 2, .ref m_OA]) (rest := []) (lenOf pd9 rfl) rfl rfl (Nat.le_of_eq rfl) (hb hby d36_6) (nle rfl) (nle rfl) ?_
  rintro T2 h2 _ _ _ X2 ⟨a3, k4, rfl, rfl, rfl, J2, g7, G5, G6⟩
  have ge8 : h.size ≤ a3 := Nat.le_trans K0.1 g7
  have K9 : Keep h h2 [] := K0.trans J2 all0
  exact WS.retA X2 (WL' := [a3]) (FL' := []) hx hret rfl rfl hlk (hb hby d36_9) (nle rfl) (nle rfl) ⟨a3, k4, rfl, rfl, rfl, K9, ge8, G5, G6⟩
def Q_toar2 (Z : State) (gC : Int32) (v_DE : Addr) (k_DE : ClassId) (v_EL : Addr) (v_EM : Addr) (v_OE : Addr) (m_OA : Addr) (x : Addr) (b : Addr) (kb : ClassId) (y0 : Addr) (y1 : Addr) (h : Heap) (v : Option Value) (h' : Heap) (WL' FL' : List Addr) : Prop := ∃ u : Addr, ∃ ku : ClassId, v = some (.ref u) ∧ WL' = [u] ∧ FL' = [] ∧ Keep h h' [] ∧ h.size ≤ u ∧ Arv Z h' u ku (.object "java/lang/Object") (2 : Int32) [(.ref y0), (.ref y1)] .null ∧ Exa Z h' u "[Ljava/lang/Object;"
theorem ct_toar2 (cx : Cx a0 Z gC v_DE k_DE v_EL v_EM v_OE m_OA) (x : Addr) (b : Addr) (kb : ClassId) (y0 : Addr) (y1 : Addr) (h : Heap) (WL FL : List Addr) (P0 : Fld Z h x "java/util/ArrayList" "elementData" "[Ljava/lang/Object;" (.ref b)) (P1 : Fld Z h x "java/util/ArrayList" "size" "I" (.int 2)) (P2 : Arv Z h b kb (.object "java/lang/Object") (10 : Int32) [(.ref y0), (.ref y1), .null, .null, .null, .null, .null, .null, .null, .null] .null) (P3 : Exa Z h b "[Ljava/lang/Object;") (P4 : Exa Z h y0 "com/example/lexbind/lexbind/messages/Explanation$Step") (P5 : Exa Z h y1 "com/example/lexbind/lexbind/messages/Explanation$Step") :
    Ct l Z EL1 n0 (⟨"java/util/ArrayList", "toArray", "()[Ljava/lang/Object;"⟩ : MethodName) jdk_38_method_16_code 1 (Option.some (FieldType.array (FieldType.object "java/lang/Object"))) ({ frames := 3, cells := 1, slots := 2, locals := 46 } : Room) #[(.ref x)] h WL FL (Q_toar2 Z gC v_DE k_DE v_EL v_EM v_OE m_OA x b kb y0 y1 h) := by
  refine Ct.of (plainFor_of_name pn4) ?_
  intro p e s m below meth c s1 hx hby hml hnm hret hlk X0
  refine Wo.cast (f' := (mkF m 0 #[.val (.ref x)] [])) (by rfl) ?_
  have K0 : Keep h h [] := Keep.refl _ _
  show Wo _ _ _ _ _ _ _ _ _ _ _ s1 (mkF m 0 #[.val (.ref x)] [])
  refine P.aloadN X0 hx 1 (hb hby d35_0) rfl rfl rfl ?_
  refine X0.getF hx (host := "") (Or.inl (w75 cx)) Via.refl P0 (hb hby d35_1) ?_
  intro T1 X1
  refine P.aloadN X1 hx 5 (hb hby d35_4) rfl rfl rfl ?_
  refine X1.getF hx (host := "") (Or.inl (w113 cx)) Via.refl P1 (hb hby d35_5) ?_
  intro T2 X2
  refine X2.callS hx (w226 cx) (w227 cx) (w228 cx) (w229 cx) (by decide) (Ct.pay (W := 0) (ct_cpo22 cx b kb y0 y1 h _ _ P2 P3 P4 P5) (w229 cx) (w228 cx) (nle rfl) (nle rfl)) (by rw [hml]; rfl) (argsL := [.ref b, .int 2]) (rest := []) (lenOf pd10 rfl) rfl rfl (Nat.le_of_eq rfl) (hb hby d35_8) (nle rfl) (nle rfl) ?_
  rintro T3 h3 _ _ _ X3 ⟨a4, k5, rfl, rfl, rfl, J3, g8, G6, G7⟩
  have ge9 : h.size ≤ a4 := Nat.le_trans K0.1 g8
  have K10 : Keep h h3 [] := K0.trans J3 all0
  exact WS.retA X3 (WL' := [a4]) (FL' := []) hx hret rfl rfl hlk (hb hby d35_11) (nle rfl) (nle rfl) ⟨a4, k5, rfl, rfl, rfl, K10, ge9, G6, G7⟩
def Q_minq_10_3 (Z : State) (gC : Int32) (v_DE : Addr) (k_DE : ClassId) (v_EL : Addr) (v_EM : Addr) (v_OE : Addr) (m_OA : Addr) (h : Heap) (v : Option Value) (h' : Heap) (WL' FL' : List Addr) : Prop := v = some (.int 3) ∧ WL' = [] ∧ FL' = [] ∧ h' = h
theorem ct_minq_10_3 (cx : Cx a0 Z gC v_DE k_DE v_EL v_EM v_OE m_OA) (h : Heap) (WL FL : List Addr)  :
    Ct l Z EL1 n0 (⟨"java/lang/Math", "min", "(II)I"⟩ : MethodName) jdk_29_method_69_code 2 (Option.some FieldType.int) ({ frames := 0, cells := 0, slots := 0, locals := 0 } : Room) #[(.int 10), (.int 3)] h WL FL (Q_minq_10_3 Z gC v_DE k_DE v_EL v_EM v_OE m_OA h) := by
  refine Ct.of (by decide +kernel) ?_
  intro p e s m below meth c s1 hx hby hml hnm hret hlk X0
  refine Wo.cast (f' := (mkF m 0 #[.val (.int 10), .val (.int 3)] [])) (by rfl) ?_
  show Wo _ _ _ _ _ _ _ _ _ _ _ s1 (mkF m 0 #[.val (.int 10), .val (.int 3)] [])
  refine P.iloadN X0 hx 1 (hb hby d38_0) rfl rfl ?_
  refine P.iloadN X0 hx 2 (hb hby d38_1) rfl rfl ?_
  refine P.icmpYes X0 hx 9 (hb hby d38_2) (by decide) (by decide) (by decide) ?_
  refine P.iloadN X0 hx 10 (hb hby d38_9) rfl rfl ?_
  exact WS.retI X0 (WL' := []) (FL' := []) hx hret hlk (hb hby d38_10) (nle rfl) (nle rfl) ⟨rfl, rfl, rfl, rfl⟩
def Q_cpo33 (Z : State) (gC : Int32) (v_DE : Addr) (k_DE : ClassId) (v_EL : Addr) (v_EM : Addr) (v_OE : Addr) (m_OA : Addr) (b : Addr) (kb : ClassId) (y0 : Addr) (y1 : Addr) (y2 : Addr) (h : Heap) (v : Option Value) (h' : Heap) (WL' FL' : List Addr) : Prop := ∃ u : Addr, ∃ ku : ClassId, v = some (.ref u) ∧ WL' = [u] ∧ FL' = [] ∧ Keep h h' [] ∧ h.size ≤ u ∧ Arv Z h' u ku (.object "java/lang/Object") (3 : Int32) [(.ref y0), (.ref y1), (.ref y2)] .null ∧ Exa Z h' u "[Ljava/lang/Object;"
theorem ct_cpo33 (cx : Cx a0 Z gC v_DE k_DE v_EL v_EM v_OE m_OA) (b : Addr) (kb : ClassId) (y0 : Addr) (y1 : Addr) (y2 : Addr) (h : Heap) (WL FL : List Addr) (P0 : Arv Z h b kb (.object "java/lang/Object") (10 : Int32) [(.ref y0), (.ref y1), (.ref y2), .null, .null, .null, .null, .null, .null, .null] .null) (P1 : Exa Z h b "[Ljava/lang/Object;") (P2 : Exa Z h y0 "com/example/lexbind/lexbind/messages/Explanation$Step") (P3 : Exa Z h y1 "com/example/lexbind/lexbind/messages/Explanation$Step") (P4 : Exa Z h y2 "com/example/lexbind/lexbind/messages/Explanation$Step") :
    Ct l Z EL1 n0 (⟨"java/util/Arrays", "copyOf", "([Ljava/lang/Object;ILjava/lang/Class;)[Ljava/lang/Object;"⟩ : MethodName) jdk_65_method_120_code 4 (Option.some (FieldType.array (FieldType.object "java/lang/Object"))) ({ frames := 1, cells := 1, slots := 3, locals := 18 } : Room) #[(.ref b), (.int 3), (.ref m_OA)] h WL FL (Q_cpo33 Z gC v_DE k_DE v_EL v_EM v_OE m_OA b kb y0 y1 y2 h) := by
  refine Ct.of (plainFor_of_name pn8) ?_
  intro p e s m below meth c s1 hx hby hml hnm hret hlk X0
  refine Wo.cast (f' := (mkF m 0 #[.val (.ref b), .val (.int 3), .val (.ref m_OA), .unset] [])) (by rfl) ?_
  have K0 : Keep h h [] := Keep.refl _ _
  show Wo _ _ _ _ _ _ _ _ _ _ _ s1 (mkF m 0 #[.val (.ref b), .val (.int 3), .val (.ref m_OA), .unset] [])
  refine P.aloadN X0 hx 1 (hb hby d37_0) rfl rfl rfl ?_
  refine X0.ldcK hx (w239 cx) (M_OA cx) (hb hby d37_1) ?_
  intro T1 X1
  refine WS.acmp X1 hx (x := (.ref m_OA)) (y := (.ref m_OA)) rfl rfl (pc' := 6) (same := true) (hb hby d37_3) (decide_eq_true rfl) (by decide) (by decide) ?_
  refine P.iloadN X1 hx 7 (hb hby d37_6) rfl rfl ?_
  refine X1.newR hx (w240 cx) (w189 cx) (hb hby d37_7) (by decide) (cap := 3) (nle rfl) (nle rfl) (nle rfl) (nle rfl) (ad := "[Ljava/lang/Object;") (by decide) ?_
  intro T2 h2 a2 k2 X2 E2 g2 A2 Ex2
  have ge3 : h.size ≤ a2 := Nat.le_trans K0.1 g2
  have K4 : Keep h h2 [] := K0.ext E2
  have V5 : Arv Z h2 a2 k2 (.object "java/lang/Object") (3 : Int32) [.null, .null, .null] .null := Arv.pad A2 (pad_rep [] _ 3)
  refine P.goto X2 hx 24 (hb hby d37_10) (by decide) (by decide) ?_
  refine P.astoreN X2 hx 25 #[.val (.ref b), .val (.int 3), .val (.ref m_OA), .val (.ref a2)] (hb hby d37_24) rfl rfl rfl ?_
  refine P.aloadN X2 hx 26 (hb hby d37_25) rfl rfl rfl ?_
  refine P.iconst X2 hx 27 0 (hb hby d37_26) rfl rfl ?_
  refine P.aloadN X2 hx 28 (hb hby d37_27) rfl rfl rfl ?_
  refine P.iconst X2 hx 29 0 (hb hby d37_28) rfl rfl ?_
  refine P.aloadN X2 hx 30 (hb hby d37_29) rfl rfl rfl ?_
  have F6 := P0.ext E2
  refine WS.alen X2 hx F6 (hb hby d37_30) ?_
  refine P.iloadN X2 hx 32 (hb hby d37_31) rfl rfl ?_
  refine X2.callS hx (w241 cx) (w242 cx) (w186 cx) (w243 cx) (by decide) (Ct.pay (W := 4) (ct_minq_10_3 cx  h2 _ _ ) (w243 cx) (w186 cx) (nle rfl) (nle rfl)) (by rw [hml]; rfl) (argsL := [.int 10, .int 3]) (rest := [.int 0, .ref a2, .int 0, .ref b]) (lenOf pd5 rfl) rfl rfl (Nat.le_of_eq rfl) (hb hby d37_32) (nle rfl) (nle rfl) ?_
  rintro T7 h7 _ _ _ X7 ⟨rfl, rfl, rfl, J7⟩
  rw [J7] at X7
  have F9 := P4.ext E2
  have F10 := P3.ext E2
  have F11 := P2.ext E2
  refine X7.cpA hx (w244 cx) (w247 cx) (w245 cx) (w246 cx) F6 V5 (Or.inr ⟨rfl, rfl, ⟨(stoE V5 Ex2 (w189 cx) (by decide) (Ins.of_exa F11 (w190 cx))), ⟨(stoE V5 Ex2 (w189 cx) (by decide) (Ins.of_exa F10 (w190 cx))), ⟨(stoE V5 Ex2 (w189 cx) (by decide) (Ins.of_exa F9 (w190 cx))), trivial⟩⟩⟩⟩) (by decide) (by decide) (by decide) (nle rfl) (nle rfl) (us := [(.ref y0), (.ref y1), (.ref y2)]) (vr := [(.ref y0), (.ref y1), (.ref y2)]) rfl (nle rfl) rfl (mg 0 rfl) (by rw [hml]; rfl) (hb hby d37_35) (nle rfl) (W := 0) (Nat.le_of_eq rfl) (nle rfl) ?_
  intro T8 h8 X8 J8 G8
  have K12 : Keep h h8 [] := K4.trans J8 (allS (Or.inr ge3) all0)
  refine P.aloadN X8 hx 39 (hb hby d37_38) rfl rfl rfl ?_
  have F13 := Ex2.keep J8
  exact WS.retA X8 (WL' := [a2]) (FL' := []) hx hret rfl rfl hlk (hb hby d37_39) (nle rfl) (nle rfl) ⟨a2, k2, rfl, rfl, rfl, K12, ge3, G8, F13⟩
def Q_cpo23 (Z : State) (gC : Int32) (v_DE : Addr) (k_DE : ClassId) (v_EL : Addr) (v_EM : Addr) (v_OE : Addr) (m_OA : Addr) (b : Addr) (kb : ClassId) (y0 : Addr) (y1 : Addr) (y2 : Addr) (h : Heap) (v : Option Value) (h' : Heap) (WL' FL' : List Addr) : Prop := ∃ u : Addr, ∃ ku : ClassId, v = some (.ref u) ∧ WL' = [u] ∧ FL' = [] ∧ Keep h h' [] ∧ h.size ≤ u ∧ Arv Z h' u ku (.object "java/lang/Object") (3 : Int32) [(.ref y0), (.ref y1), (.ref y2)] .null ∧ Exa Z h' u "[Ljava/lang/Object;"
theorem ct_cpo23 (cx : Cx a0 Z gC v_DE k_DE v_EL v_EM v_OE m_OA) (b : Addr) (kb : ClassId) (y0 : Addr) (y1 : Addr) (y2 : Addr) (h : Heap) (WL FL : List Addr) (P0 : Arv Z h b kb (.object "java/lang/Object") (10 : Int32) [(.ref y0), (.ref y1), (.ref y2), .null, .null, .null, .null, .null, .null, .null] .null) (P1 : Exa Z h b "[Ljava/lang/Object;") (P2 : Exa Z h y0 "com/example/lexbind/lexbind/messages/Explanation$Step") (P3 : Exa Z h y1 "com/example/lexbind/lexbind/messages/Explanation$Step") (P4 : Exa Z h y2 "com/example/lexbind/lexbind/messages/Explanation$Step") :
    Ct l Z EL1 n0 (⟨"java/util/Arrays", "copyOf", "([Ljava/lang/Object;I)[Ljava/lang/Object;"⟩ : MethodName) jdk_65_method_119_code 2 (Option.some (FieldType.array (FieldType.object "java/lang/Object"))) ({ frames := 2, cells := 1, slots := 3, locals := 33 } : Room) #[(.ref b), (.int 3)] h WL FL (Q_cpo23 Z gC v_DE k_DE v_EL v_EM v_OE m_OA b kb y0 y1 y2 h) := by
  refine Ct.of (plainFor_of_name pn8) ?_
  intro p e s m below meth c s1 hx hby hml hnm hret hlk X0
  refine Wo.cast (f' := (mkF m 0 #[.val (.ref b), .val (.int 3)] [])) (by rfl) ?_
  have K0 : Keep h h [] := Keep.refl _ _
  show Wo _ _ _ _ _ _ _ _ _ _ _ s1 (mkF m 0 #[.val (.ref b), .val (.int 3)] [])
  refine P.aloadN X0 hx 1 (hb hby d36_0) rfl rfl rfl ?_
  refine P.iloadN X0 hx 2 (hb hby d36_1) rfl rfl ?_
  refine P.aloadN X0 hx 3 (hb hby d36_2) rfl rfl rfl ?_
  refine X0.gcV hx (w230 cx) (w231 cx) (w102 cx) (w233 cx) (w232 cx) (w234 cx) P1 (M_OA cx) (by rw [hml]; rfl) (hb hby d36_3) (nle rfl) (W := 2) (Nat.le_of_eq rfl) (nle rfl) ?_
  intro T1 X1
  refine X1.callS hx (w236 cx) (w237 cx) (w228 cx) (w238 cx) (by decide) (Ct.pay (W := 0) (ct_cpo33 cx b kb y0 y1 y2 h _ _ P0 P1 P2 P3 P4) (w238 cx) (w228 cx) (nle rfl) (nle rfl)) (by rw [hml]; rfl) (argsL := [.ref b, .int 3, .ref m_OA]) (rest := []) (lenOf pd9 rfl) rfl rfl (Nat.le_of_eq rfl) (hb hby d36_6) (nle rfl) (nle rfl) ?_
  rintro T2 h2 _ _ _ X2 ⟨a3, k4, rfl, rfl, rfl, J2, g7, G5, G6⟩
  have ge8 : h.size ≤ a3 := Nat.le_trans K0.1 g7
  have K9 : Keep h h2 [] := K0.trans J2 all0
  exact WS.retA X2 (WL' := [a3]) (FL' := []) hx hret rfl rfl hlk (hb hby d36_9) (nle rfl) (nle rfl) ⟨a3, k4, rfl, rfl, rfl, K9, ge8, G5, G6⟩
def Q_toar3 (Z : State) (gC : Int32) (v_DE : Addr) (k_DE : ClassId) (v_EL : Addr) (v_EM : Addr) (v_OE : Addr) (m_OA : Addr) (x : Addr) (b : Addr) (kb : ClassId) (y0 : Addr) (y1 : Addr) (y2 : Addr) (h : Heap) (v : Option Value) (h' : Heap) (WL' FL' : List Addr) : Prop := ∃ u : Addr, ∃ ku : ClassId, v = some (.ref u) ∧ WL' = [u] ∧ FL' = [] ∧ Keep h h' [] ∧ h.size ≤ u ∧ Arv Z h' u ku (.object "java/lang/Object") (3 : Int32) [(.ref y0), (.ref y1), (.ref y2)] .null ∧ Exa Z h' u "[Ljava/lang/Object;"
theorem ct_toar3 (cx : Cx a0 Z gC v_DE k_DE v_EL v_EM v_OE m_OA) (x : Addr) (b : Addr) (kb : ClassId) (y0 : Addr) (y1 : Addr) (y2 : Addr) (h : Heap) (WL FL : List Addr) (P0 : Fld Z h x "java/util/ArrayList" "elementData" "[Ljava/lang/Object;" (.ref b)) (P1 : Fld Z h x "java/util/ArrayList" "size" "I" (.int 3)) (P2 : Arv Z h b kb (.object "java/lang/Object") (10 : Int32) [(.ref y0), (.ref y1), (.ref y2), .null, .null, .null, .null, .null, .null, .null] .null) (P3 : Exa Z h b "[Ljava/lang/Object;") (P4 : Exa Z h y0 "com/example/lexbind/lexbind/messages/Explanation$Step") (P5 : Exa Z h y1 "com/example/lexbind/lexbind/messages/Explanation$Step") (P6 : Exa Z h y2 "com/example/lexbind/lexbind/messages/Explanation$Step") :
    Ct l Z EL1 n0 (⟨"java/util/ArrayList", "toArray", "()[Ljava/lang/Object;"⟩ : MethodName) jdk_38_method_16_code 1 (Option.some (FieldType.array (FieldType.object "java/lang/Object"))) ({ frames := 3, cells := 1, slots := 3, locals := 46 } : Room) #[(.ref x)] h WL FL (Q_toar3 Z gC v_DE k_DE v_EL v_EM v_OE m_OA x b kb y0 y1 y2 h) := by
  refine Ct.of (plainFor_of_name pn4) ?_
  intro p e s m below meth c s1 hx hby hml hnm hret hlk X0
  refine Wo.cast (f' := (mkF m 0 #[.val (.ref x)] [])) (by rfl) ?_
  have K0 : Keep h h [] := Keep.refl _ _
  show Wo _ _ _ _ _ _ _ _ _ _ _ s1 (mkF m 0 #[.val (.ref x)] [])
  refine P.aloadN X0 hx 1 (hb hby d35_0) rfl rfl rfl ?_
  refine X0.getF hx (host := "") (Or.inl (w75 cx)) Via.refl P0 (hb hby d35_1) ?_
  intro T1 X1
  refine P.aloadN X1 hx 5 (hb hby d35_4) rfl rfl rfl ?_
  refine X1.getF hx (host := "") (Or.inl (w113 cx)) Via.refl P1 (hb hby d35_5) ?_
  intro T2 X2
  refine X2.callS hx (w226 cx) (w227 cx) (w228 cx) (w229 cx) (by decide) (Ct.pay (W := 0) (ct_cpo23 cx b kb y0 y1 y2 h _ _ P2 P3 P4 P5 P6) (w229 cx) (w228 cx) (nle rfl) (nle rfl)) (by rw [hml]; rfl) (argsL := [.ref b, .int 3]) (rest := []) (lenOf pd10 rfl) rfl rfl (Nat.le_of_eq rfl) (hb hby d35_8) (nle rfl) (nle rfl) ?_
  rintro T3 h3 _ _ _ X3 ⟨a4, k5, rfl, rfl, rfl, J3, g8, G6, G7⟩
  have ge9 : h.size ≤ a4 := Nat.le_trans K0.1 g8
  have K10 : Keep h h3 [] := K0.trans J3 all0
  exact WS.retA X3 (WL' := [a4]) (FL' := []) hx hret rfl rfl hlk (hb hby d35_11) (nle rfl) (nle rfl) ⟨a4, k5, rfl, rfl, rfl, K10, ge9, G6, G7⟩
def Q_aiini (Z : State) (gC : Int32) (v_DE : Addr) (k_DE : ClassId) (v_EL : Addr) (v_EM : Addr) (v_OE : Addr) (m_OA : Addr) (x : Addr) (h : Heap) (v : Option Value) (h' : Heap) (WL' FL' : List Addr) : Prop := v = none ∧ WL' = [] ∧ FL' = [] ∧ h' = h
theorem ct_aiini (cx : Cx a0 Z gC v_DE k_DE v_EL v_EM v_OE m_OA) (x : Addr) (h : Heap) (WL FL : List Addr)  :
    Ct l Z EL1 n0 (⟨"java/util/ImmutableCollections$AbstractImmutableCollection", "<init>", "()V"⟩ : MethodName) jdk_47_method_1_code 1 (Option.none : Option Jvm.ClassFile.FieldType) ({ frames := 2, cells := 0, slots := 0, locals := 24 } : Room) #[(.ref x)] h WL FL (Q_aiini Z gC v_DE k_DE v_EL v_EM v_OE m_OA x h) := by
  refine Ct.of (plainFor_of_name pn9) ?_
  intro p e s m below meth c s1 hx hby hml hnm hret hlk X0
  refine Wo.cast (f' := (mkF m 0 #[.val (.ref x)] [])) (by rfl) ?_
  show Wo _ _ _ _ _ _ _ _ _ _ _ s1 (mkF m 0 #[.val (.ref x)] [])
  refine P.aloadN X0 hx 1 (hb hby d43_0) rfl rfl rfl ?_
  refine X0.callC hx rfl (w274 cx) (w66 cx) (w70 cx) (by decide) (Ct.pay (W := 0) (ct_acini cx x h _ _ ) (w70 cx) (w69 cx) (nle rfl) (nle rfl)) (by rw [hml]; rfl) (argsL := []) (rest := []) (lenOf pd3 rfl) rfl rfl (Nat.le_of_eq rfl) (hb hby d43_1) (nle rfl) (nle rfl) ?_
  rintro T1 h1 _ _ _ X1 ⟨rfl, rfl, rfl, J1⟩
  rw [J1] at X1
  exact WS.retV X1 (WL' := []) (FL' := []) hx hret hlk (hb hby d43_4) (nle rfl) (nle rfl) ⟨rfl, rfl, rfl, rfl⟩
def Q_alimini (Z : State) (gC : Int32) (v_DE : Addr) (k_DE : ClassId) (v_EL : Addr) (v_EM : Addr) (v_OE : Addr) (m_OA : Addr) (x : Addr) (h : Heap) (v : Option Value) (h' : Heap) (WL' FL' : List Addr) : Prop := v = none ∧ WL' = [] ∧ FL' = [] ∧ h' = h
theorem ct_alimini (cx : Cx a0 Z gC v_DE k_DE v_EL v_EM v_OE m_OA) (x : Addr) (h : Heap) (WL FL : List Addr)  :
    Ct l Z EL1 n0 (⟨"java/util/ImmutableCollections$AbstractImmutableList", "<init>", "()V"⟩ : MethodName) jdk_46_method_1_code 1 (Option.none : Option Jvm.ClassFile.FieldType) ({ frames := 3, cells := 0, slots := 0, locals := 36 } : Room) #[(.ref x)] h WL FL (Q_alimini Z gC v_DE k_DE v_EL v_EM v_OE m_OA x h) := by
  refine Ct.of (plainFor_of_name pn10) ?_
  intro p e s m below meth c s1 hx hby hml hnm hret hlk X0
  refine Wo.cast (f' := (mkF m 0 #[.val (.ref x)] [])) (by rfl) ?_
  show Wo _ _ _ _ _ _ _ _ _ _ _ s1 (mkF m 0 #[.val (.ref x)] [])
  refine P.aloadN X0 hx 1 (hb hby d42_0) rfl rfl rfl ?_
  refine X0.callC hx rfl (w268 cx) (w269 cx) (w273 cx) (by decide) (Ct.pay (W := 0) (ct_aiini cx x h _ _ ) (w273 cx) (w272 cx) (nle rfl) (nle rfl)) (by rw [hml]; rfl) (argsL := []) (rest := []) (lenOf pd3 rfl) rfl rfl (Nat.le_of_eq rfl) (hb hby d42_1) (nle rfl) (nle rfl) ?_
  rintro T1 h1 _ _ _ X1 ⟨rfl, rfl, rfl, J1⟩
  rw [J1] at X1
  exact WS.retV X1 (WL' := []) (FL' := []) hx hret hlk (hb hby d42_4) (nle rfl) (nle rfl) ⟨rfl, rfl, rfl, rfl⟩
def Q_l12a (Z : State) (gC : Int32) (v_DE : Addr) (k_DE : ClassId) (v_EL : Addr) (v_EM : Addr) (v_OE : Addr) (m_OA : Addr) (x : Addr) (y0 : Addr) (h : Heap) (v : Option Value) (h' : Heap) (WL' FL' : List Addr) : Prop := v = none ∧ WL' = [] ∧ FL' = [] ∧ Keep h h' [x] ∧ Fld Z h' x "java/util/ImmutableCollections$List12" "e0" "Ljava/lang/Object;" (.ref y0) ∧ Fld Z h' x "java/util/ImmutableCollections$List12" "e1" "Ljava/lang/Object;" (.ref v_EM)
theorem ct_l12a (cx : Cx a0 Z gC v_DE k_DE v_EL v_EM v_OE m_OA) (x : Addr) (y0 : Addr) (h : Heap) (WL FL : List Addr) (P0 : Exa Z h x "java/util/ImmutableCollections$List12") (P1 : Fld Z h x "java/util/ImmutableCollections$List12" "e0" "Ljava/lang/Object;" .null) (P2 : Fld Z h x "java/util/ImmutableCollections$List12" "e1" "Ljava/lang/Object;" .null) (P3 : x ∈ WL) :
    Ct l Z EL1 n0 (⟨"java/util/ImmutableCollections$List12", "<init>", "(Ljava/lang/Object;)V"⟩ : MethodName) jdk_44_method_1_code 2 (Option.none : Option Jvm.ClassFile.FieldType) ({ frames := 4, cells := 0, slots := 0, locals := 48 } : Room) #[(.ref x), (.ref y0)] h WL FL (Q_l12a Z gC v_DE k_DE v_EL v_EM v_OE m_OA x y0 h) := by
  refine Ct.of (plainFor_of_name pn11) ?_
  intro p e s m below meth c s1 hx hby hml hnm hret hlk X0
  refine Wo.cast (f' := (mkF m 0 #[.val (.ref x), .val (.ref y0)] [])) (by rfl) ?_
  have K0 : Keep h h [x] := Keep.refl _ _
  show Wo _ _ _ _ _ _ _ _ _ _ _ s1 (mkF m 0 #[.val (.ref x), .val (.ref y0)] [])
  refine P.aloadN X0 hx 1 (hb hby d51_0) rfl rfl rfl ?_
  refine X0.callC hx rfl (w328 cx) (w263 cx) (w267 cx) (by decide) (Ct.pay (W := 0) (ct_alimini cx x h _ _ ) (w267 cx) (w266 cx) (nle rfl) (nle rfl)) (by rw [hml]; rfl) (argsL := []) (rest := []) (lenOf pd3 rfl) rfl rfl (Nat.le_of_eq rfl) (hb hby d51_1) (nle rfl) (nle rfl) ?_
  rintro T1 h1 _ _ _ X1 ⟨rfl, rfl, rfl, J1⟩
  rw [J1] at X1
  refine P.aloadN X1 hx 5 (hb hby d51_4) rfl rfl rfl ?_
  refine P.aloadN X1 hx 6 (hb hby d51_5) rfl rfl rfl ?_
  refine X1.callS hx (w332 cx) (w149 cx) (w44 cx) (w150 cx) (by decide) (Ct.pay (W := 1) (ct_rnn1 cx y0 h _ _ ) (w150 cx) (w44 cx) (nle rfl) (nle rfl)) (by rw [hml]; rfl) (argsL := [.ref y0]) (rest := [.ref x]) (lenOf pd11 rfl) rfl rfl (Nat.le_of_eq rfl) (hb hby d51_6) (nle rfl) (nle rfl) ?_
  rintro T2 h2 _ _ _ X2 ⟨rfl, rfl, rfl, J2⟩
  rw [J2] at X2
  refine X2.putF hx (host := "") (Or.inl (w333 cx)) Via.refl P1 P0 (Or.inr ⟨(w334 cx), rfl, hnm⟩) (w322 cx) (ty := (.object "java/lang/Object")) (by decide) rfl rfl P3 (hb hby d51_9) ?_
  intro T3 h3 X3 W3 G3
  have K4 : Keep h h3 [x] := K0.wr W3 (Or.inl (mg 0 rfl))
  refine P.aloadN X3 hx 13 (hb hby d51_12) rfl rfl rfl ?_
  refine X3.getS2 hx (Or.inr (w340 cx)) Via.refl (S_EM cx) (hb hby d51_13) ?_
  intro T5 X5
  have F6 := P2.other W3 (Or.inr (slot_ne (Or.inr (w336 cx)) (Or.inr (w334 cx)) (by decide) (t := (.object "java/lang/Object")) (t' := (.object "java/lang/Object")) (by decide) (by decide)))
  have F7 := P0.wr W3
  refine X5.putF hx (host := "") (Or.inl (w335 cx)) Via.refl F6 F7 (Or.inr ⟨(w336 cx), rfl, hnm⟩) (w322 cx) (ty := (.object "java/lang/Object")) (by decide) rfl rfl P3 (hb hby d51_16) ?_
  intro T8 h8 X8 W8 G8
  have K9 : Keep h h8 [x] := K4.wr W8 (Or.inl (mg 0 rfl))
  have F10 := G3.other W8 (Or.inr (slot_ne (Or.inr (w334 cx)) (Or.inr (w336 cx)) (by decide) (t := (.object "java/lang/Object")) (t' := (.object "java/lang/Object")) (by decide) (by decide)))
  exact WS.retV X8 (WL' := []) (FL' := []) hx hret hlk (hb hby d51_19) (nle rfl) (nle rfl) ⟨rfl, rfl, rfl, K9, F10, G8⟩
def Q_l12b (Z : State) (gC : Int32) (v_DE : Addr) (k_DE : ClassId) (v_EL : Addr) (v_EM : Addr) (v_OE : Addr) (m_OA : Addr) (x : Addr) (y0 : Addr) (y1 : Addr) (h : Heap) (v : Option Value) (h' : Heap) (WL' FL' : List Addr) : Prop := v = none ∧ WL' = [] ∧ FL' = [] ∧ Keep h h' [x] ∧ Fld Z h' x "java/util/ImmutableCollections$List12" "e0" "Ljava/lang/Object;" (.ref y0) ∧ Fld Z h' x "java/util/ImmutableCollections$List12" "e1" "Ljava/lang/Object;" (.ref y1)
theorem ct_l12b (cx : Cx a0 Z gC v_DE k_DE v_EL v_EM v_OE m_OA) (x : Addr) (y0 : Addr) (y1 : Addr) (h : Heap) (WL FL : List Addr) (P0 : Exa Z h x "java/util/ImmutableCollections$List12") (P1 : Fld Z h x "java/util/ImmutableCollections$List12" "e0" "Ljava/lang/Object;" .null) (P2 : Fld Z h x "java/util/ImmutableCollections$List12" "e1" "Ljava/lang/Object;" .null) (P3 : x ∈ WL) :
    Ct l Z EL1 n0 (⟨"java/util/ImmutableCollections$List12", "<init>", "(Ljava/lang/Object;Ljava/lang/Object;)V"⟩ : MethodName) jdk_44_method_2_code 3 (Option.none : Option Jvm.ClassFile.FieldType) ({ frames := 4, cells := 0, slots := 0, locals := 48 } : Room) #[(.ref x), (.ref y0), (.ref y1)] h WL FL (Q_l12b Z gC v_DE k_DE v_EL v_EM v_OE m_OA x y0 y1 h) := by
  refine Ct.of (plainFor_of_name pn11) ?_
  intro p e s m below meth c s1 hx hby hml hnm hret hlk X0
  refine Wo.cast (f' := (mkF m 0 #[.val (.ref x), .val (.ref y0), .val (.ref y1)] [])) (by rfl) ?_
  have K0 : Keep h h [x] := Keep.refl _ _
  show Wo _ _ _ _ _ _ _ _ _ _ _ s1 (mkF m 0 #[.val (.ref x), .val (.ref y0), .val (.ref y1)] [])
  refine P.aloadN X0 hx 1 (hb hby d50_0) rfl rfl rfl ?_
  refine X0.callC hx rfl (w328 cx) (w263 cx) (w267 cx) (by decide) (Ct.pay (W := 0) (ct_alimini cx x h _ _ ) (w267 cx) (w266 cx) (nle rfl) (nle rfl)) (by rw [hml]; rfl) (argsL := []) (rest := []) (lenOf pd3 rfl) rfl rfl (Nat.le_of_eq rfl) (hb hby d50_1) (nle rfl) (nle rfl) ?_
  rintro T1 h1 _ _ _ X1 ⟨rfl, rfl, rfl, J1⟩
  rw [J1] at X1
  refine P.aloadN X1 hx 5 (hb hby d50_4) rfl rfl rfl ?_
  refine P.aloadN X1 hx 6 (hb hby d50_5) rfl rfl rfl ?_
  refine X1.callS hx (w332 cx) (w149 cx) (w44 cx) (w150 cx) (by decide) (Ct.pay (W := 1) (ct_rnn1 cx y0 h _ _ ) (w150 cx) (w44 cx) (nle rfl) (nle rfl)) (by rw [hml]; rfl) (argsL := [.ref y0]) (rest := [.ref x]) (lenOf pd11 rfl) rfl rfl (Nat.le_of_eq rfl) (hb hby d50_6) (nle rfl) (nle rfl) ?_
  rintro T2 h2 _ _ _ X2 ⟨rfl, rfl, rfl, J2⟩
  rw [J2] at X2
  refine X2.putF hx (host := "") (Or.inl (w333 cx)) Via.refl P1 P0 (Or.inr ⟨(w334 cx), rfl, hnm⟩) (w322 cx) (ty := (.object "java/lang/Object")) (by decide) rfl rfl P3 (hb hby d50_9) ?_
  intro T3 h3 X3 W3 G3
  have K4 : Keep h h3 [x] := K0.wr W3 (Or.inl (mg 0 rfl))
  refine P.aloadN X3 hx 13 (hb hby d50_12) rfl rfl rfl ?_
  refine P.aloadN X3 hx 14 (hb hby d50_13) rfl rfl rfl ?_
  refine X3.callS hx (w332 cx) (w149 cx) (w44 cx) (w150 cx) (by decide) (Ct.pay (W := 1) (ct_rnn1 cx y1 h3 _ _ ) (w150 cx) (w44 cx) (nle rfl) (nle rfl)) (by rw [hml]; rfl) (argsL := [.ref y1]) (rest := [.ref x]) (lenOf pd11 rfl) rfl rfl (Nat.le_of_eq rfl) (hb hby d50_14) (nle rfl) (nle rfl) ?_
  rintro T5 h5 _ _ _ X5 ⟨rfl, rfl, rfl, J5⟩
  rw [J5] at X5
  have F6 := P2.other W3 (Or.inr (slot_ne (Or.inr (w336 cx)) (Or.inr (w334 cx)) (by decide) (t := (.object "java/lang/Object")) (t' := (.object "java/lang/Object")) (by decide) (by decide)))
  have F7 := P0.wr W3
  refine X5.putF hx (host := "") (Or.inl (w335 cx)) Via.refl F6 F7 (Or.inr ⟨(w336 cx), rfl, hnm⟩) (w322 cx) (ty := (.object "java/lang/Object")) (by decide) rfl rfl P3 (hb hby d50_17) ?_
  intro T8 h8 X8 W8 G8
  have K9 : Keep h h8 [x] := K4.wr W8 (Or.inl (mg 0 rfl))
  have F10 := G3.other W8 (Or.inr (slot_ne (Or.inr (w334 cx)) (Or.inr (w336 cx)) (by decide) (t := (.object "java/lang/Object")) (t' := (.object "java/lang/Object")) (by decide) (by decide)))
  exact WS.retV X8 (WL' := []) (FL' := []) hx hret hlk (hb hby d50_20) (nle rfl) (nle rfl) ⟨rfl, rfl, rfl, K9, F10, G8⟩
def Q_lnini (Z : State) (gC : Int32) (v_DE : Addr) (k_DE : ClassId) (v_EL : Addr) (v_EM : Addr) (v_OE : Addr) (m_OA : Addr) (x : Addr) (u : Addr) (h : Heap) (v : Option Value) (h' : Heap) (WL' FL' : List Addr) : Prop := v = none ∧ WL' = [] ∧ FL' = [] ∧ Keep h h' [x] ∧ Fld Z h' x "java/util/ImmutableCollections$ListN" "elements" "[Ljava/lang/Object;" (.ref u)
theorem ct_lnini (cx : Cx a0 Z gC v_DE k_DE v_EL v_EM v_OE m_OA) (x : Addr) (u : Addr) (h : Heap) (WL FL : List Addr) (P0 : Exa Z h x "java/util/ImmutableCollections$ListN") (P1 : Fld Z h x "java/util/ImmutableCollections$ListN" "elements" "[Ljava/lang/Object;" .null) (P2 : Fld Z h x "java/util/ImmutableCollections$ListN" "allowNulls" "Z" (.int 0)) (P3 : x ∈ WL) :
    Ct l Z EL1 n0 (⟨"java/util/ImmutableCollections$ListN", "<init>", "([Ljava/lang/Object;Z)V"⟩ : MethodName) jdk_45_method_1_code 3 (Option.none : Option Jvm.ClassFile.FieldType) ({ frames := 4, cells := 0, slots := 0, locals := 48 } : Room) #[(.ref x), (.ref u), (.int 0)] h WL FL (Q_lnini Z gC v_DE k_DE v_EL v_EM v_OE m_OA x u h) := by
  refine Ct.of (plainFor_of_name pn12) ?_
  intro p e s m below meth c s1 hx hby hml hnm hret hlk X0
  refine Wo.cast (f' := (mkF m 0 #[.val (.ref x), .val (.ref u), .val (.int 0)] [])) (by rfl) ?_
  have K0 : Keep h h [x] := Keep.refl _ _
  show Wo _ _ _ _ _ _ _ _ _ _ _ s1 (mkF m 0 #[.val (.ref x), .val (.ref u), .val (.int 0)] [])
  refine P.aloadN X0 hx 1 (hb hby d41_0) rfl rfl rfl ?_
  refine X0.callC hx rfl (w262 cx) (w263 cx) (w267 cx) (by decide) (Ct.pay (W := 0) (ct_alimini cx x h _ _ ) (w267 cx) (w266 cx) (nle rfl) (nle rfl)) (by rw [hml]; rfl) (argsL := []) (rest := []) (lenOf pd3 rfl) rfl rfl (Nat.le_of_eq rfl) (hb hby d41_1) (nle rfl) (nle rfl) ?_
  rintro T1 h1 _ _ _ X1 ⟨rfl, rfl, rfl, J1⟩
  rw [J1] at X1
  refine P.aloadN X1 hx 5 (hb hby d41_4) rfl rfl rfl ?_
  refine P.aloadN X1 hx 6 (hb hby d41_5) rfl rfl rfl ?_
  refine X1.putF hx (host := "") (Or.inl (w276 cx)) Via.refl P1 P0 (Or.inr ⟨(w277 cx), rfl, hnm⟩) (w256 cx) (ty := (.array (.object "java/lang/Object"))) (by decide) rfl rfl P3 (hb hby d41_6) ?_
  intro T2 h2 X2 W2 G2
  have K3 : Keep h h2 [x] := K0.wr W2 (Or.inl (mg 0 rfl))
  refine P.aloadN X2 hx 10 (hb hby d41_9) rfl rfl rfl ?_
  refine P.iloadN X2 hx 11 (hb hby d41_10) rfl rfl ?_
  have F4 := P2.other W2 (Or.inr (slot_ne (Or.inr (w279 cx)) (Or.inr (w277 cx)) (by decide) (t := .boolean) (t' := (.array (.object "java/lang/Object"))) (by decide) (by decide)))
  have F5 := P0.wr W2
  refine X2.putF hx (host := "") (Or.inl (w278 cx)) Via.refl F4 F5 (Or.inr ⟨(w279 cx), rfl, hnm⟩) (w256 cx) (ty := .boolean) (by decide) rfl rfl P3 (hb hby d41_11) ?_
  intro T6 h6 X6 W6 G6
  have K7 : Keep h h6 [x] := K3.wr W6 (Or.inl (mg 0 rfl))
  have F8 := G2.other W6 (Or.inr (slot_ne (Or.inr (w277 cx)) (Or.inr (w279 cx)) (by decide) (t := (.array (.object "java/lang/Object"))) (t' := .boolean) (by decide) (by decide)))
  exact WS.retV X6 (WL' := []) (FL' := []) hx hret hlk (hb hby d41_14) (nle rfl) (nle rfl) ⟨rfl, rfl, rfl, K7, F8⟩
def Q_lof (Z : State) (gC : Int32) (v_DE : Addr) (k_DE : ClassId) (v_EL : Addr) (v_EM : Addr) (v_OE : Addr) (m_OA : Addr) (h : Heap) (v : Option Value) (h' : Heap) (WL' FL' : List Addr) : Prop := v = some (.ref v_EL) ∧ WL' = [] ∧ FL' = [] ∧ h' = h
theorem ct_lof (cx : Cx a0 Z gC v_DE k_DE v_EL v_EM v_OE m_OA) (h : Heap) (WL FL : List Addr)  :
    Ct l Z EL1 n0 (⟨"java/util/List", "of", "()Ljava/util/List;"⟩ : MethodName) jdk_40_method_36_code 0 (Option.some (FieldType.object "java/util/List")) ({ frames := 0, cells := 0, slots := 0, locals := 0 } : Room) #[] h WL FL (Q_lof Z gC v_DE k_DE v_EL v_EM v_OE m_OA h) := by
  refine Ct.of (plainFor_of_name pn13) ?_
  intro p e s m below meth c s1 hx hby hml hnm hret hlk X0
  refine Wo.cast (f' := (mkF m 0 #[] [])) (by rfl) ?_
  show Wo _ _ _ _ _ _ _ _ _ _ _ s1 (mkF m 0 #[] [])
  refine X0.getS hx (w118 cx) Via.refl (S_EL cx) (hb hby d17_0) ?_
  intro T1 X1
  exact WS.retA X1 (WL' := []) (FL' := []) hx hret rfl rfl hlk (hb hby d17_3) (nle rfl) (nle rfl) ⟨rfl, rfl, rfl, rfl⟩
def Q_lfa (Z : State) (gC : Int32) (v_DE : Addr) (k_DE : ClassId) (v_EL : Addr) (v_EM : Addr) (v_OE : Addr) (m_OA : Addr) (u : Addr) (ku : ClassId) (y0 : Addr) (y1 : Addr) (y2 : Addr) (h : Heap) (v : Option Value) (h' : Heap) (WL' FL' : List Addr) : Prop := ∃ r : Addr, ∃ el : Addr, ∃ kel : ClassId, v = some (.ref r) ∧ WL' = [r, el] ∧ FL' = [] ∧ Keep h h' [] ∧ h.size ≤ r ∧ h.size ≤ el ∧ Exa Z h' r "java/util/ImmutableCollections$ListN" ∧ Fld Z h' r "java/util/ImmutableCollections$ListN" "elements" "[Ljava/lang/Object;" (.ref el) ∧ Arv Z h' el kel (.object "java/lang/Object") (3 : Int32) [(.ref y0), (.ref y1), (.ref y2)] .null
theorem ct_lfa (cx : Cx a0 Z gC v_DE k_DE v_EL v_EM v_OE m_OA) (u : Addr) (ku : ClassId) (y0 : Addr) (y1 : Addr) (y2 : Addr) (h : Heap) (WL FL : List Addr) (P0 : Arv Z h u ku (.object "java/lang/Object") (3 : Int32) [(.ref y0), (.ref y1), (.ref y2)] .null) (P1 : u ∈ FL) (P2 : Exa Z h y0 "com/example/lexbind/lexbind/messages/Explanation$Step") (P3 : Exa Z h y1 "com/example/lexbind/lexbind/messages/Explanation$Step") (P4 : Exa Z h y2 "com/example/lexbind/lexbind/messages/Explanation$Step") :
    Ct l Z EL1 n0 (⟨"java/util/ImmutableCollections", "listFromArray", "([Ljava/lang/Object;)Ljava/util/List;"⟩ : MethodName) jdk_56_method_4_code 3 (Option.some (FieldType.object "java/util/List")) ({ frames := 5, cells := 2, slots := 5, locals := 63 } : Room) #[(.ref u)] h WL FL (Q_lfa Z gC v_DE k_DE v_EL v_EM v_OE m_OA u ku y0 y1 y2 h) := by
  refine Ct.of (plainFor_of_name pn14) ?_
  intro p e s m below meth c s1 hx hby hml hnm hret hlk X0
  refine Wo.cast (f' := (mkF m 0 #[.val (.ref u), .unset, .unset] [])) (by rfl) ?_
  have K0 : Keep h h [] := Keep.refl _ _
  show Wo _ _ _ _ _ _ _ _ _ _ _ s1 (mkF m 0 #[.val (.ref u), .unset, .unset] [])
  refine P.aloadN X0 hx 1 (hb hby d40_0) rfl rfl rfl ?_
  refine WS.alen X0 hx P0 (hb hby d40_1) ?_
  refine X0.newR hx (w254 cx) (w189 cx) (hb hby d40_2) (by decide) (cap := 3) (nle rfl) (nle rfl) (nle rfl) (nle rfl) (ad := "[Ljava/lang/Object;") (by decide) ?_
  intro T1 h1 a1 k1 X1 E1 g1 A1 Ex1
  have ge2 : h.size ≤ a1 := Nat.le_trans K0.1 g1
  have K3 : Keep h h1 [] := K0.ext E1
  have V4 : Arv Z h1 a1 k1 (.object "java/lang/Object") (3 : Int32) [.null, .null, .null] .null := Arv.pad A1 (pad_rep [] _ 3)
  refine P.astoreN X1 hx 6 #[.val (.ref u), .val (.ref a1), .unset] (hb hby d40_5) rfl rfl rfl ?_
  refine P.iconst X1 hx 7 0 (hb hby d40_6) rfl rfl ?_
  refine P.istoreN X1 hx 8 #[.val (.ref u), .val (.ref a1), .val (.int 0)] (hb hby d40_7) rfl rfl ?_
  refine P.iloadN X1 hx 9 (hb hby d40_8) rfl rfl ?_
  refine P.aloadN X1 hx 10 (hb hby d40_9) rfl rfl rfl ?_
  have F5 := P0.ext E1
  refine WS.alen X1 hx F5 (hb hby d40_10) ?_
  refine P.icmpNo X1 hx 14 (hb hby d40_11) (by decide) rfl ?_
  refine P.aloadN X1 hx 15 (hb hby d40_14) rfl rfl rfl ?_
  refine P.iloadN X1 hx 16 (hb hby d40_15) rfl rfl ?_
  refine P.aloadN X1 hx 17 (hb hby d40_16) rfl rfl rfl ?_
  refine P.iloadN X1 hx 18 (hb hby d40_17) rfl rfl ?_
  refine WS.ldR X1 hx F5 (j := (0 : Int32)) (v := (.ref y0)) (by decide) rfl (hb hby d40_18) ?_
  refine X1.callS hx (w255 cx) (w149 cx) (w44 cx) (w150 cx) (by decide) (Ct.pay (W := 2) (ct_rnn1 cx y0 h1 _ _ ) (w150 cx) (w44 cx) (nle rfl) (nle rfl)) (by rw [hml]; rfl) (argsL := [.ref y0]) (rest := [.int 0, .ref a1]) (lenOf pd11 rfl) rfl rfl (Nat.le_of_eq rfl) (hb hby d40_19) (nle rfl) (nle rfl) ?_
  rintro T6 h6 _ _ _ X6 ⟨rfl, rfl, rfl, J6⟩
  rw [J6] at X6
  have F8 := P2.ext E1
  refine X6.stR hx V4 (j := (0 : Int32)) (v := (.ref y0)) (i := 0) (by decide) rfl (nlt rfl) rfl (stoE V4 Ex1 (w189 cx) (by decide) (Ins.of_exa F8 (w190 cx))) (mg 0 rfl) (hb hby d40_22) ?_
  intro T7 h7 X7 W7 G7
  have K9 : Keep h h7 [] := K3.wr W7 (Or.inr ge2)
  have V10 : Arv Z h7 a1 k1 (.object "java/lang/Object") (3 : Int32) [(.ref y0), .null, .null] .null := G7
  refine P.iinc X7 hx 26 #[.val (.ref u), .val (.ref a1), .val (.int 1)] (hb hby d40_23) rfl rfl rfl ?_
  refine P.goto X7 hx 8 (hb hby d40_26) (by decide) (by decide) ?_
  refine P.iloadN X7 hx 9 (hb hby d40_8) rfl rfl ?_
  refine P.aloadN X7 hx 10 (hb hby d40_9) rfl rfl rfl ?_
  have F11 := F5.other W7 (X7.neF P1 (mg 0 rfl))
  refine WS.alen X7 hx F11 (hb hby d40_10) ?_
  refine P.icmpNo X7 hx 14 (hb hby d40_11) (by decide) rfl ?_
  refine P.aloadN X7 hx 15 (hb hby d40_14) rfl rfl rfl ?_
  refine P.iloadN X7 hx 16 (hb hby d40_15) rfl rfl ?_
  refine P.aloadN X7 hx 17 (hb hby d40_16) rfl rfl rfl ?_
  refine P.iloadN X7 hx 18 (hb hby d40_17) rfl rfl ?_
  refine WS.ldR X7 hx F11 (j := (1 : Int32)) (v := (.ref y1)) (by decide) rfl (hb hby d40_18) ?_
  refine X7.callS hx (w255 cx) (w149 cx) (w44 cx) (w150 cx) (by decide) (Ct.pay (W := 2) (ct_rnn1 cx y1 h7 _ _ ) (w150 cx) (w44 cx) (nle rfl) (nle rfl)) (by rw [hml]; rfl) (argsL := [.ref y1]) (rest := [.int 1, .ref a1]) (lenOf pd11 rfl) rfl rfl (Nat.le_of_eq rfl) (hb hby d40_19) (nle rfl) (nle rfl) ?_
  rintro T12 h12 _ _ _ X12 ⟨rfl, rfl, rfl, J12⟩
  rw [J12] at X12
  have F14 := Ex1.wr W7
  have F15 := (P3.ext E1).wr W7
  refine X12.stR hx V10 (j := (1 : Int32)) (v := (.ref y1)) (i := 1) (by decide) rfl (nlt rfl) rfl (stoE V10 F14 (w189 cx) (by decide) (Ins.of_exa F15 (w190 cx))) (mg 0 rfl) (hb hby d40_22) ?_
  intro T13 h13 X13 W13 G13
  have K16 : Keep h h13 [] := K9.wr W13 (Or.inr ge2)
  have V17 : Arv Z h13 a1 k1 (.object "java/lang/Object") (3 : Int32) [(.ref y0), (.ref y1), .null] .null := G13
  refine P.iinc X13 hx 26 #[.val (.ref u), .val (.ref a1), .val (.int 2)] (hb hby d40_23) rfl rfl rfl ?_
  refine P.goto X13 hx 8 (hb hby d40_26) (by decide) (by decide) ?_
  refine P.iloadN X13 hx 9 (hb hby d40_8) rfl rfl ?_
  refine P.aloadN X13 hx 10 (hb hby d40_9) rfl rfl rfl ?_
  have F18 := F11.other W13 (X13.neF P1 (mg 0 rfl))
  refine WS.alen X13 hx F18 (hb hby d40_10) ?_
  refine P.icmpNo X13 hx 14 (hb hby d40_11) (by decide) rfl ?_
  refine P.aloadN X13 hx 15 (hb hby d40_14) rfl rfl rfl ?_
  refine P.iloadN X13 hx 16 (hb hby d40_15) rfl rfl ?_
  refine P.aloadN X13 hx 17 (hb hby d40_16) rfl rfl rfl ?_
  refine P.iloadN X13 hx 18 (hb hby d40_17) rfl rfl ?_
  refine WS.ldR X13 hx F18 (j := (2 : Int32)) (v := (.ref y2)) (by decide) rfl (hb hby d40_18) ?_
  refine X13.callS hx (w255 cx) (w149 cx) (w44 cx) (w150 cx) (by decide) (Ct.pay (W := 2) (ct_rnn1 cx y2 h13 _ _ ) (w150 cx) (w44 cx) (nle rfl) (nle rfl)) (by rw [hml]; rfl) (argsL := [.ref y2]) (rest := [.int 2, .ref a1]) (lenOf pd11 rfl) rfl rfl (Nat.le_of_eq rfl) (hb hby d40_19) (nle rfl) (nle rfl) ?_
  rintro T19 h19 _ _ _ X19 ⟨rfl, rfl, rfl, J19⟩
  rw [J19] at X19
  have F21 := F14.wr W13
  have F22 := ((P4.ext E1).wr W7).wr W13
  refine X19.stR hx V17 (j := (2 : Int32)) (v := (.ref y2)) (i := 2) (by decide) rfl (nlt rfl) rfl (stoE V17 F21 (w189 cx) (by decide) (Ins.of_exa F22 (w190 cx))) (mg 0 rfl) (hb hby d40_22) ?_
  intro T20 h20 X20 W20 G20
  have K23 : Keep h h20 [] := K16.wr W20 (Or.inr ge2)
  have V24 : Arv Z h20 a1 k1 (.object "java/lang/Object") (3 : Int32) [(.ref y0), (.ref y1), (.ref y2)] .null := G20
  refine P.iinc X20 hx 26 #[.val (.ref u), .val (.ref a1), .val (.int 3)] (hb hby d40_23) rfl rfl rfl ?_
  refine P.goto X20 hx 8 (hb hby d40_26) (by decide) (by decide) ?_
  refine P.iloadN X20 hx 9 (hb hby d40_8) rfl rfl ?_
  refine P.aloadN X20 hx 10 (hb hby d40_9) rfl rfl rfl ?_
  have F25 := F18.other W20 (X20.neF P1 (mg 0 rfl))
  refine WS.alen X20 hx F25 (hb hby d40_10) ?_
  refine P.icmpYes X20 hx 29 (hb hby d40_11) (by decide) (by decide) (by decide) ?_
  refine X20.newO hx (w103 cx) (w256 cx) (w257 cx) (hb hby d40_29) (nle rfl) (nle rfl) ?_
  intro T26 h26 a26 X26 E26 g26 A26 D26
  have ge27 : h.size ≤ a26 := Nat.le_trans K23.1 g26
  have K28 : Keep h h26 [] := K23.ext E26
  have D29 : Fld Z h26 a26 "java/util/ImmutableCollections$ListN" "elements" "[Ljava/lang/Object;" .null := D26 (Or.inr (w277 cx)) (ty := (.array (.object "java/lang/Object"))) (by decide)
  have D30 : Fld Z h26 a26 "java/util/ImmutableCollections$ListN" "allowNulls" "Z" (.int 0) := D26 (Or.inr (w279 cx)) (ty := .boolean) (by decide)
  refine P.dup X26 hx 33 (hb hby d40_32) rfl rfl ?_
  refine P.aloadN X26 hx 34 (hb hby d40_33) rfl rfl rfl ?_
  refine P.iconst X26 hx 35 0 (hb hby d40_34) rfl rfl ?_
  refine X26.callN hx rfl (w258 cx) (w259 cx) (w261 cx) (by decide) (Ct.pay (W := 1) (ct_lnini cx a26 a1 h26 _ _ A26 D29 D30 (mg 0 rfl)) (w261 cx) (w257 cx) (nle rfl) (nle rfl)) (by rw [hml]; rfl) (argsL := [.ref a1, .int 0]) (rest := [.ref a26]) (lenOf pd12 rfl) rfl rfl (Nat.le_of_eq rfl) (hb hby d40_35) (nle rfl) (nle rfl) ?_
  rintro T31 h31 _ _ _ X31 ⟨rfl, rfl, rfl, J31, G32⟩
  have K33 : Keep h h31 [] := K28.trans J31 (allS (Or.inr ge27) all0)
  have F34 := (V24.ext E26).keep J31 (ninS (X31.ne (i := 1) (j := 0) rfl rfl (by decide)) nin0)
  have F35 := A26.keep J31
  exact WS.retA X31 (WL' := [a26, a1]) (FL' := []) hx hret rfl rfl hlk (hb hby d40_38) (nle rfl) (nle rfl) ⟨a26, a1, k1, rfl, rfl, rfl, K33, ge27, ge2, F35, G32, F34⟩
def Q_lof1 (Z : State) (gC : Int32) (v_DE : Addr) (k_DE : ClassId) (v_EL : Addr) (v_EM : Addr) (v_OE : Addr) (m_OA : Addr) (u : Addr) (ku : ClassId) (y0 : Addr) (h : Heap) (v : Option Value) (h' : Heap) (WL' FL' : List Addr) : Prop := ∃ r : Addr, v = some (.ref r) ∧ WL' = [r] ∧ FL' = [] ∧ Keep h h' [] ∧ h.size ≤ r ∧ Exa Z h' r "java/util/ImmutableCollections$List12" ∧ Fld Z h' r "java/util/ImmutableCollections$List12" "e0" "Ljava/lang/Object;" (.ref y0) ∧ Fld Z h' r "java/util/ImmutableCollections$List12" "e1" "Ljava/lang/Object;" (.ref v_EM)
theorem ct_lof1 (cx : Cx a0 Z gC v_DE k_DE v_EL v_EM v_OE m_OA) (u : Addr) (ku : ClassId) (y0 : Addr) (h : Heap) (WL FL : List Addr) (P0 : Arv Z h u ku (.object "java/lang/Object") (1 : Int32) [(.ref y0)] .null) (P1 : u ∈ FL) (P2 : Exa Z h y0 "com/example/lexbind/lexbind/messages/Explanation$Step") :
    Ct l Z EL1 n0 (⟨"java/util/List", "of", "([Ljava/lang/Object;)Ljava/util/List;"⟩ : MethodName) jdk_40_method_47_code 2 (Option.some (FieldType.object "java/util/List")) ({ frames := 5, cells := 1, slots := 2, locals := 62 } : Room) #[(.ref u)] h WL FL (Q_lof1 Z gC v_DE k_DE v_EL v_EM v_OE m_OA u ku y0 h) := by
  refine Ct.of (plainFor_of_name pn13) ?_
  intro p e s m below meth c s1 hx hby hml hnm hret hlk X0
  refine Wo.cast (f' := (mkF m 0 #[.val (.ref u), .unset] [])) (by rfl) ?_
  have K0 : Keep h h [] := Keep.refl _ _
  show Wo _ _ _ _ _ _ _ _ _ _ _ s1 (mkF m 0 #[.val (.ref u), .unset] [])
  refine P.aloadN X0 hx 1 (hb hby d39_0) rfl rfl rfl ?_
  refine WS.alen X0 hx P0 (hb hby d39_1) ?_
  refine WS.tsw X0 hx (pc' := 34) (i := (1 : Int32)) (o := 32) (hb hby d39_2) (by decide) (by decide) (by decide) (by decide) ?_
  refine X0.newO hx (w321 cx) (w322 cx) (w323 cx) (hb hby d39_34) (nle rfl) (nle rfl) ?_
  intro T1 h1 a1 X1 E1 g1 A1 D1
  have ge2 : h.size ≤ a1 := Nat.le_trans K0.1 g1
  have K3 : Keep h h1 [] := K0.ext E1
  have D4 : Fld Z h1 a1 "java/util/ImmutableCollections$List12" "e0" "Ljava/lang/Object;" .null := D1 (Or.inr (w334 cx)) (ty := (.object "java/lang/Object")) (by decide)
  have D5 : Fld Z h1 a1 "java/util/ImmutableCollections$List12" "e1" "Ljava/lang/Object;" .null := D1 (Or.inr (w336 cx)) (ty := (.object "java/lang/Object")) (by decide)
  refine P.dup X1 hx 38 (hb hby d39_37) rfl rfl ?_
  refine P.aloadN X1 hx 39 (hb hby d39_38) rfl rfl rfl ?_
  refine P.iconst X1 hx 40 0 (hb hby d39_39) rfl rfl ?_
  have F6 := P0.ext E1
  refine WS.ldR X1 hx F6 (j := (0 : Int32)) (v := (.ref y0)) (by decide) rfl (hb hby d39_40) ?_
  refine X1.callC hx rfl (w337 cx) (w338 cx) (w339 cx) (by decide) (Ct.pay (W := 1) (ct_l12a cx a1 y0 h1 _ _ A1 D4 D5 (mg 0 rfl)) (w339 cx) (w323 cx) (nle rfl) (nle rfl)) (by rw [hml]; rfl) (argsL := [.ref y0]) (rest := [.ref a1]) (lenOf pd13 rfl) rfl rfl (Nat.le_of_eq rfl) (hb hby d39_41) (nle rfl) (nle rfl) ?_
  rintro T7 h7 _ _ _ X7 ⟨rfl, rfl, rfl, J7, G8, G9⟩
  have K10 : Keep h h7 [] := K3.trans J7 (allS (Or.inr ge2) all0)
  have F11 := A1.keep J7
  exact WS.retA X7 (WL' := [a1]) (FL' := []) hx hret rfl rfl hlk (hb hby d39_44) (nle rfl) (nle rfl) ⟨a1, rfl, rfl, rfl, K10, ge2, F11, G8, G9⟩
def Q_lof2 (Z : State) (gC : Int32) (v_DE : Addr) (k_DE : ClassId) (v_EL : Addr) (v_EM : Addr) (v_OE : Addr) (m_OA : Addr) (u : Addr) (ku : ClassId) (y0 : Addr) (y1 : Addr) (h : Heap) (v : Option Value) (h' : Heap) (WL' FL' : List Addr) : Prop := ∃ r : Addr, v = some (.ref r) ∧ WL' = [r] ∧ FL' = [] ∧ Keep h h' [] ∧ h.size ≤ r ∧ Exa Z h' r "java/util/ImmutableCollections$List12" ∧ Fld Z h' r "java/util/ImmutableCollections$List12" "e0" "Ljava/lang/Object;" (.ref y0) ∧ Fld Z h' r "java/util/ImmutableCollections$List12" "e1" "Ljava/lang/Object;" (.ref y1)
theorem ct_lof2 (cx : Cx a0 Z gC v_DE k_DE v_EL v_EM v_OE m_OA) (u : Addr) (ku : ClassId) (y0 : Addr) (y1 : Addr) (h : Heap) (WL FL : List Addr) (P0 : Arv Z h u ku (.object "java/lang/Object") (2 : Int32) [(.ref y0), (.ref y1)] .null) (P1 : u ∈ FL) (P2 : Exa Z h y0 "com/example/lexbind/lexbind/messages/Explanation$Step") (P3 : Exa Z h y1 "com/example/lexbind/lexbind/messages/Explanation$Step") :
    Ct l Z EL1 n0 (⟨"java/util/List", "of", "([Ljava/lang/Object;)Ljava/util/List;"⟩ : MethodName) jdk_40_method_47_code 2 (Option.some (FieldType.object "java/util/List")) ({ frames := 5, cells := 1, slots := 2, locals := 63 } : Room) #[(.ref u)] h WL FL (Q_lof2 Z gC v_DE k_DE v_EL v_EM v_OE m_OA u ku y0 y1 h) := by
  refine Ct.of (plainFor_of_name pn13) ?_
  intro p e s m below meth c s1 hx hby hml hnm hret hlk X0
  refine Wo.cast (f' := (mkF m 0 #[.val (.ref u), .unset] [])) (by rfl) ?_
  have K0 : Keep h h [] := Keep.refl _ _
  show Wo _ _ _ _ _ _ _ _ _ _ _ s1 (mkF m 0 #[.val (.ref u), .unset] [])
  refine P.aloadN X0 hx 1 (hb hby d39_0) rfl rfl rfl ?_
  refine WS.alen X0 hx P0 (hb hby d39_1) ?_
  refine WS.tsw X0 hx (pc' := 45) (i := (2 : Int32)) (o := 43) (hb hby d39_2) (by decide) (by decide) (by decide) (by decide) ?_
  refine X0.newO hx (w321 cx) (w322 cx) (w323 cx) (hb hby d39_45) (nle rfl) (nle rfl) ?_
  intro T1 h1 a1 X1 E1 g1 A1 D1
  have ge2 : h.size ≤ a1 := Nat.le_trans K0.1 g1
  have K3 : Keep h h1 [] := K0.ext E1
  have D4 : Fld Z h1 a1 "java/util/ImmutableCollections$List12" "e0" "Ljava/lang/Object;" .null := D1 (Or.inr (w334 cx)) (ty := (.object "java/lang/Object")) (by decide)
  have D5 : Fld Z h1 a1 "java/util/ImmutableCollections$List12" "e1" "Ljava/lang/Object;" .null := D1 (Or.inr (w336 cx)) (ty := (.object "java/lang/Object")) (by decide)
  refine P.dup X1 hx 49 (hb hby d39_48) rfl rfl ?_
  refine P.aloadN X1 hx 50 (hb hby d39_49) rfl rfl rfl ?_
  refine P.iconst X1 hx 51 0 (hb hby d39_50) rfl rfl ?_
  have F6 := P0.ext E1
  refine WS.ldR X1 hx F6 (j := (0 : Int32)) (v := (.ref y0)) (by decide) rfl (hb hby d39_51) ?_
  refine P.aloadN X1 hx 53 (hb hby d39_52) rfl rfl rfl ?_
  refine P.iconst X1 hx 54 1 (hb hby d39_53) rfl rfl ?_
  refine WS.ldR X1 hx F6 (j := (1 : Int32)) (v := (.ref y1)) (by decide) rfl (hb hby d39_54) ?_
  refine X1.callC hx rfl (w324 cx) (w325 cx) (w327 cx) (by decide) (Ct.pay (W := 1) (ct_l12b cx a1 y0 y1 h1 _ _ A1 D4 D5 (mg 0 rfl)) (w327 cx) (w323 cx) (nle rfl) (nle rfl)) (by rw [hml]; rfl) (argsL := [.ref y0, .ref y1]) (rest := [.ref a1]) (lenOf pd14 rfl) rfl rfl (Nat.le_of_eq rfl) (hb hby d39_55) (nle rfl) (nle rfl) ?_
  rintro T7 h7 _ _ _ X7 ⟨rfl, rfl, rfl, J7, G8, G9⟩
  have K10 : Keep h h7 [] := K3.trans J7 (allS (Or.inr ge2) all0)
  have F11 := A1.keep J7
  exact WS.retA X7 (WL' := [a1]) (FL' := []) hx hret rfl rfl hlk (hb hby d39_58) (nle rfl) (nle rfl) ⟨a1, rfl, rfl, rfl, K10, ge2, F11, G8, G9⟩
def Q_lof3 (Z : State) (gC : Int32) (v_DE : Addr) (k_DE : ClassId) (v_EL : Addr) (v_EM : Addr) (v_OE : Addr) (m_OA : Addr) (u : Addr) (ku : ClassId) (y0 : Addr) (y1 : Addr) (y2 : Addr) (h : Heap) (v : Option Value) (h' : Heap) (WL' FL' : List Addr) : Prop := ∃ r : Addr, ∃ el : Addr, ∃ kel : ClassId, v = some (.ref r) ∧ WL' = [r, el] ∧ FL' = [] ∧ Keep h h' [] ∧ h.size ≤ r ∧ h.size ≤ el ∧ Exa Z h' r "java/util/ImmutableCollections$ListN" ∧ Fld Z h' r "java/util/ImmutableCollections$ListN" "elements" "[Ljava/lang/Object;" (.ref el) ∧ Arv Z h' el kel (.object "java/lang/Object") (3 : Int32) [(.ref y0), (.ref y1), (.ref y2)] .null
theorem ct_lof3 (cx : Cx a0 Z gC v_DE k_DE v_EL v_EM v_OE m_OA) (u : Addr) (ku : ClassId) (y0 : Addr) (y1 : Addr) (y2 : Addr) (h : Heap) (WL FL : List Addr) (P0 : Arv Z h u ku (.object "java/lang/Object") (3 : Int32) [(.ref y0), (.ref y1), (.ref y2)] .null) (P1 : u ∈ FL) (P2 : Exa Z h y0 "com/example/lexbind/lexbind/messages/Explanation$Step") (P3 : Exa Z h y1 "com/example/lexbind/lexbind/messages/Explanation$Step") (P4 : Exa Z h y2 "com/example/lexbind/lexbind/messages/Explanation$Step") :
    Ct l Z EL1 n0 (⟨"java/util/List", "of", "([Ljava/lang/Object;)Ljava/util/List;"⟩ : MethodName) jdk_40_method_47_code 2 (Option.some (FieldType.object "java/util/List")) ({ frames := 6, cells := 2, slots := 5, locals := 77 } : Room) #[(.ref u)] h WL FL (Q_lof3 Z gC v_DE k_DE v_EL v_EM v_OE m_OA u ku y0 y1 y2 h) := by
  refine Ct.of (plainFor_of_name pn13) ?_
  intro p e s m below meth c s1 hx hby hml hnm hret hlk X0
  refine Wo.cast (f' := (mkF m 0 #[.val (.ref u), .unset] [])) (by rfl) ?_
  have K0 : Keep h h [] := Keep.refl _ _
  show Wo _ _ _ _ _ _ _ _ _ _ _ s1 (mkF m 0 #[.val (.ref u), .unset] [])
  refine P.aloadN X0 hx 1 (hb hby d39_0) rfl rfl rfl ?_
  refine WS.alen X0 hx P0 (hb hby d39_1) ?_
  refine WS.tswO X0 hx (pc' := 59) (i := (3 : Int32)) (hb hby d39_2) (by decide) (by decide) (by decide) ?_
  refine P.aloadN X0 hx 60 (hb hby d39_59) rfl rfl rfl ?_
  refine X0.callS hx (w251 cx) (w252 cx) (w96 cx) (w253 cx) (by decide) (Ct.pay (W := 0) (ct_lfa cx u ku y0 y1 y2 h _ _ P0 P1 P2 P3 P4) (w253 cx) (w96 cx) (nle rfl) (nle rfl)) (by rw [hml]; rfl) (argsL := [.ref u]) (rest := []) (lenOf pd15 rfl) rfl rfl (Nat.le_of_eq rfl) (hb hby d39_60) (nle rfl) (nle rfl) ?_
  rintro T1 h1 _ _ _ X1 ⟨a2, a3, k4, rfl, rfl, rfl, J1, g8, g9, G5, G6, G7⟩
  have ge10 : h.size ≤ a2 := Nat.le_trans K0.1 g8
  have ge11 : h.size ≤ a3 := Nat.le_trans K0.1 g9
  have K12 : Keep h h1 [] := K0.trans J1 all0
  exact WS.retA X1 (WL' := [a2, a3]) (FL' := []) hx hret rfl rfl hlk (hb hby d39_63) (nle rfl) (nle rfl) ⟨a2, a3, k4, rfl, rfl, rfl, K12, ge10, ge11, G5, G6, G7⟩
def Q_lcp0 (Z : State) (gC : Int32) (v_DE : Addr) (k_DE : ClassId) (v_EL : Addr) (v_EM : Addr) (v_OE : Addr) (m_OA : Addr) (x : Addr) (h : Heap) (v : Option Value) (h' : Heap) (WL' FL' : List Addr) : Prop := v = some (.ref v_EL) ∧ WL' = [] ∧ FL' = [] ∧ h' = h
theorem ct_lcp0 (cx : Cx a0 Z gC v_DE k_DE v_EL v_EM v_OE m_OA) (x : Addr) (h : Heap) (WL FL : List Addr) (P0 : Exa Z h x "java/util/ArrayList") (P1 : Fld Z h x "java/util/ArrayList" "size" "I" (.int 0)) :
    Ct l Z EL1 n0 (⟨"java/util/ImmutableCollections", "listCopy", "(Ljava/util/Collection;)Ljava/util/List;"⟩ : MethodName) jdk_56_method_3_code 2 (Option.some (FieldType.object "java/util/List")) ({ frames := 1, cells := 0, slots := 0, locals := 12 } : Room) #[(.ref x)] h WL FL (Q_lcp0 Z gC v_DE k_DE v_EL v_EM v_OE m_OA x h) := by
  refine Ct.of (plainFor_of_name pn14) ?_
  intro p e s m below meth c s1 hx hby hml hnm hret hlk X0
  refine Wo.cast (f' := (mkF m 0 #[.val (.ref x), .unset] [])) (by rfl) ?_
  show Wo _ _ _ _ _ _ _ _ _ _ _ s1 (mkF m 0 #[.val (.ref x), .unset] [])
  refine P.aloadN X0 hx 1 (hb hby d15_0) rfl rfl rfl ?_
  refine X0.instNo hx (w98 cx) P0 (NI.chain (w99 cx) (w100 cx) (w101 cx) (w102 cx) (w322 cx) (by decide)) (hb hby d15_1) ?_
  intro T1 X1
  refine P.ifNo X1 hx 7 (hb hby d15_4) (by decide) rfl ?_
  refine P.aloadN X1 hx 8 (hb hby d15_7) rfl rfl rfl ?_
  refine X1.instNo hx (w103 cx) P0 (NI.chain (w99 cx) (w100 cx) (w101 cx) (w102 cx) (w256 cx) (by decide)) (hb hby d15_8) ?_
  intro T2 X2
  refine P.ifYes X2 hx 31 (hb hby d15_11) (by decide) (by decide) (by decide) ?_
  refine P.aloadN X2 hx 32 (hb hby d15_31) rfl rfl rfl ?_
  refine X2.callI hx (w104 cx) (w105 cx) (w106 cx) (w107 cx) (w108 cx) (w109 cx) (w110 cx) (w111 cx) (by decide) P0 (Ct.pay (W := 0) (ct_alie0 cx x h _ _ P1) (w112 cx) (w55 cx) (nle rfl) (nle rfl)) (by rw [hml]; rfl) (argsL := []) (rest := []) (lenOf pd16 rfl) rfl rfl (Nat.le_of_eq rfl) (hb hby d15_32) (nle rfl) (nle rfl) ?_
  rintro T3 h3 _ _ _ X3 ⟨rfl, rfl, rfl, J3⟩
  rw [J3] at X3
  refine P.ifNo X3 hx 40 (hb hby d15_37) (by decide) rfl ?_
  refine X3.callS hx (w115 cx) (w116 cx) (w92 cx) (w117 cx) (by decide) (Ct.pay (W := 0) (ct_lof cx  h _ _ ) (w117 cx) (w92 cx) (nle rfl) (nle rfl)) (by rw [hml]; rfl) (argsL := []) (rest := []) (lenOf pd17 rfl) rfl rfl (Nat.le_of_eq rfl) (hb hby d15_40) (nle rfl) (nle rfl) ?_
  rintro T4 h4 _ _ _ X4 ⟨rfl, rfl, rfl, J4⟩
  rw [J4] at X4
  exact WS.retA X4 (WL' := []) (FL' := []) hx hret rfl rfl hlk (hb hby d15_43) (nle rfl) (nle rfl) ⟨rfl, rfl, rfl, rfl⟩
def Q_cof0 (Z : State) (gC : Int32) (v_DE : Addr) (k_DE : ClassId) (v_EL : Addr) (v_EM : Addr) (v_OE : Addr) (m_OA : Addr) (x : Addr) (h : Heap) (v : Option Value) (h' : Heap) (WL' FL' : List Addr) : Prop := v = some (.ref v_EL) ∧ WL' = [] ∧ FL' = [] ∧ h' = h
theorem ct_cof0 (cx : Cx a0 Z gC v_DE k_DE v_EL v_EM v_OE m_OA) (x : Addr) (h : Heap) (WL FL : List Addr) (P0 : Exa Z h x "java/util/ArrayList") (P1 : Fld Z h x "java/util/ArrayList" "size" "I" (.int 0)) :
    Ct l Z EL1 n0 (⟨"java/util/List", "copyOf", "(Ljava/util/Collection;)Ljava/util/List;"⟩ : MethodName) jdk_40_method_48_code 1 (Option.some (FieldType.object "java/util/List")) ({ frames := 2, cells := 0, slots := 0, locals := 25 } : Room) #[(.ref x)] h WL FL (Q_cof0 Z gC v_DE k_DE v_EL v_EM v_OE m_OA x h) := by
  refine Ct.of (plainFor_of_name pn13) ?_
  intro p e s m below meth c s1 hx hby hml hnm hret hlk X0
  refine Wo.cast (f' := (mkF m 0 #[.val (.ref x)] [])) (by rfl) ?_
  show Wo _ _ _ _ _ _ _ _ _ _ _ s1 (mkF m 0 #[.val (.ref x)] [])
  refine P.aloadN X0 hx 1 (hb hby d14_0) rfl rfl rfl ?_
  refine X0.callS hx (w94 cx) (w95 cx) (w96 cx) (w97 cx) (by decide) (Ct.pay (W := 0) (ct_lcp0 cx x h _ _ P0 P1) (w97 cx) (w96 cx) (nle rfl) (nle rfl)) (by rw [hml]; rfl) (argsL := [.ref x]) (rest := []) (lenOf pd18 rfl) rfl rfl (Nat.le_of_eq rfl) (hb hby d14_1) (nle rfl) (nle rfl) ?_
  rintro T1 h1 _ _ _ X1 ⟨rfl, rfl, rfl, J1⟩
  rw [J1] at X1
  exact WS.retA X1 (WL' := []) (FL' := []) hx hret rfl rfl hlk (hb hby d14_4) (nle rfl) (nle rfl) ⟨rfl, rfl, rfl, rfl⟩
def Q_lcp1 (Z : State) (gC : Int32) (v_DE : Addr) (k_DE : ClassId) (v_EL : Addr) (v_EM : Addr) (v_OE : Addr) (m_OA : Addr) (x : Addr) (b : Addr) (kb : ClassId) (y0 : Addr) (h : Heap) (v : Option Value) (h' : Heap) (WL' FL' : List Addr) : Prop := ∃ r : Addr, v = some (.ref r) ∧ WL' = [r] ∧ FL' = [] ∧ Keep h h' [] ∧ h.size ≤ r ∧ Exa Z h' r "java/util/ImmutableCollections$List12" ∧ Fld Z h' r "java/util/ImmutableCollections$List12" "e0" "Ljava/lang/Object;" (.ref y0) ∧ Fld Z h' r "java/util/ImmutableCollections$List12" "e1" "Ljava/lang/Object;" (.ref v_EM)
theorem ct_lcp1 (cx : Cx a0 Z gC v_DE k_DE v_EL v_EM v_OE m_OA) (x : Addr) (b : Addr) (kb : ClassId) (y0 : Addr) (h : Heap) (WL FL : List Addr) (P0 : Exa Z h x "java/util/ArrayList") (P1 : Fld Z h x "java/util/ArrayList" "size" "I" (.int 1)) (P2 : Fld Z h x "java/util/ArrayList" "elementData" "[Ljava/lang/Object;" (.ref b)) (P3 : Arv Z h b kb (.object "java/lang/Object") (10 : Int32) [(.ref y0), .null, .null, .null, .null, .null, .null, .null, .null, .null] .null) (P4 : Exa Z h b "[Ljava/lang/Object;") (P5 : Exa Z h y0 "com/example/lexbind/lexbind/messages/Explanation$Step") :
    Ct l Z EL1 n0 (⟨"java/util/ImmutableCollections", "listCopy", "(Ljava/util/Collection;)Ljava/util/List;"⟩ : MethodName) jdk_56_method_3_code 2 (Option.some (FieldType.object "java/util/List")) ({ frames := 6, cells := 2, slots := 3, locals := 75 } : Room) #[(.ref x)] h WL FL (Q_lcp1 Z gC v_DE k_DE v_EL v_EM v_OE m_OA x b kb y0 h) := by
  refine Ct.of (plainFor_of_name pn14) ?_
  intro p e s m below meth c s1 hx hby hml hnm hret hlk X0
  refine Wo.cast (f' := (mkF m 0 #[.val (.ref x), .unset] [])) (by rfl) ?_
  have K0 : Keep h h [] := Keep.refl _ _
  show Wo _ _ _ _ _ _ _ _ _ _ _ s1 (mkF m 0 #[.val (.ref x), .unset] [])
  refine P.aloadN X0 hx 1 (hb hby d15_0) rfl rfl rfl ?_
  refine X0.instNo hx (w98 cx) P0 (NI.chain (w99 cx) (w100 cx) (w101 cx) (w102 cx) (w322 cx) (by decide)) (hb hby d15_1) ?_
  intro T1 X1
  refine P.ifNo X1 hx 7 (hb hby d15_4) (by decide) rfl ?_
  refine P.aloadN X1 hx 8 (hb hby d15_7) rfl rfl rfl ?_
  refine X1.instNo hx (w103 cx) P0 (NI.chain (w99 cx) (w100 cx) (w101 cx) (w102 cx) (w256 cx) (by decide)) (hb hby d15_8) ?_
  intro T2 X2
  refine P.ifYes X2 hx 31 (hb hby d15_11) (by decide) (by decide) (by decide) ?_
  refine P.aloadN X2 hx 32 (hb hby d15_31) rfl rfl rfl ?_
  refine X2.callI hx (w104 cx) (w105 cx) (w106 cx) (w107 cx) (w108 cx) (w109 cx) (w110 cx) (w111 cx) (by decide) P0 (Ct.pay (W := 0) (ct_alie1 cx x h _ _ P1) (w112 cx) (w55 cx) (nle rfl) (nle rfl)) (by rw [hml]; rfl) (argsL := []) (rest := []) (lenOf pd16 rfl) rfl rfl (Nat.le_of_eq rfl) (hb hby d15_32) (nle rfl) (nle rfl) ?_
  rintro T3 h3 _ _ _ X3 ⟨rfl, rfl, rfl, J3⟩
  rw [J3] at X3
  refine P.ifYes X3 hx 44 (hb hby d15_37) (by decide) (by decide) (by decide) ?_
  refine P.aloadN X3 hx 45 (hb hby d15_44) rfl rfl rfl ?_
  refine X3.callI hx (w218 cx) (w219 cx) (w220 cx) (w221 cx) (w222 cx) (w223 cx) (w224 cx) (w111 cx) (by decide) P0 (Ct.pay (W := 0) (ct_toar1 cx x b kb y0 h _ _ P2 P1 P3 P4 P5) (w225 cx) (w55 cx) (nle rfl) (nle rfl)) (by rw [hml]; rfl) (argsL := []) (rest := []) (lenOf pd7 rfl) rfl rfl (Nat.le_of_eq rfl) (hb hby d15_45) (nle rfl) (nle rfl) ?_
  rintro T4 h4 _ _ _ X4 ⟨a5, k6, rfl, rfl, rfl, J4, g9, G7, G8⟩
  have ge10 : h.size ≤ a5 := Nat.le_trans K0.1 g9
  have K11 : Keep h h4 [] := K0.trans J4 all0
  have X12 := WS.drop (A := []) (B := WL) X4
  have F13 := P5.keep J4
  refine X12.callS hx (w248 cx) (w249 cx) (w92 cx) (w250 cx) (by decide) (Ct.pay (W := 0) (ct_lof1 cx a5 k6 y0 h4 _ _ G7 (mg 0 rfl) F13) (w250 cx) (w92 cx) (nle rfl) (nle rfl)) (by rw [hml]; rfl) (argsL := [.ref a5]) (rest := []) (lenOf pd15 rfl) rfl rfl (Nat.le_of_eq rfl) (hb hby d15_50) (nle rfl) (nle rfl) ?_
  rintro T14 h14 _ _ _ X14 ⟨a15, rfl, rfl, rfl, J14, g19, G16, G17, G18⟩
  have ge20 : h.size ≤ a15 := Nat.le_trans K11.1 g19
  have K21 : Keep h h14 [] := K11.trans J14 all0
  have X22 := WS.fl (FL2 := FL) X14 (fun y hy => (List.mem_append_right [a5] hy))
  exact WS.retA X22 (WL' := [a15]) (FL' := []) hx hret rfl rfl hlk (hb hby d15_53) (nle rfl) (nle rfl) ⟨a15, rfl, rfl, rfl, K21, ge20, G16, G17, G18⟩
def Q_cof1 (Z : State) (gC : Int32) (v_DE : Addr) (k_DE : ClassId) (v_EL : Addr) (v_EM : Addr) (v_OE : Addr) (m_OA : Addr) (x : Addr) (b : Addr) (kb : ClassId) (y0 : Addr) (h : Heap) (v : Option Value) (h' : Heap) (WL' FL' : List Addr) : Prop := ∃ r : Addr, v = some (.ref r) ∧ WL' = [r] ∧ FL' = [] ∧ Keep h h' [] ∧ h.size ≤ r ∧ Exa Z h' r "java/util/ImmutableCollections$List12" ∧ Fld Z h' r "java/util/ImmutableCollections$List12" "e0" "Ljava/lang/Object;" (.ref y0) ∧ Fld Z h' r "java/util/ImmutableCollections$List12" "e1" "Ljava/lang/Object;" (.ref v_EM)
theorem ct_cof1 (cx : Cx a0 Z gC v_DE k_DE v_EL v_EM v_OE m_OA) (x : Addr) (b : Addr) (kb : ClassId) (y0 : Addr) (h : Heap) (WL FL : List Addr) (P0 : Exa Z h x "java/util/ArrayList") (P1 : Fld Z h x "java/util/ArrayList" "size" "I" (.int 1)) (P2 : Fld Z h x "java/util/ArrayList" "elementData" "[Ljava/lang/Object;" (.ref b)) (P3 : Arv Z h b kb (.object "java/lang/Object") (10 : Int32) [(.ref y0), .null, .null, .null, .null, .null, .null, .null, .null, .null] .null) (P4 : Exa Z h b "[Ljava/lang/Object;") (P5 : Exa Z h y0 "com/example/lexbind/lexbind/messages/Explanation$Step") :
    Ct l Z EL1 n0 (⟨"java/util/List", "copyOf", "(Ljava/util/Collection;)Ljava/util/List;"⟩ : MethodName) jdk_40_method_48_code 1 (Option.some (FieldType.object "java/util/List")) ({ frames := 7, cells := 2, slots := 3, locals := 88 } : Room) #[(.ref x)] h WL FL (Q_cof1 Z gC v_DE k_DE v_EL v_EM v_OE m_OA x b kb y0 h) := by
  refine Ct.of (plainFor_of_name pn13) ?_
  intro p e s m below meth c s1 hx hby hml hnm hret hlk X0
  refine Wo.cast (f' := (mkF m 0 #[.val (.ref x)] [])) (by rfl) ?_
  have K0 : Keep h h [] := Keep.refl _ _
  show Wo _ _ _ _ _ _ _ _ _ _ _ s1 (mkF m 0 #[.val (.ref x)] [])
  refine P.aloadN X0 hx 1 (hb hby d14_0) rfl rfl rfl ?_
  refine X0.callS hx (w94 cx) (w95 cx) (w96 cx) (w97 cx) (by decide) (Ct.pay (W := 0) (ct_lcp1 cx x b kb y0 h _ _ P0 P1 P2 P3 P4 P5) (w97 cx) (w96 cx) (nle rfl) (nle rfl)) (by rw [hml]; rfl) (argsL := [.ref x]) (rest := []) (lenOf pd18 rfl) rfl rfl (Nat.le_of_eq rfl) (hb hby d14_1) (nle rfl) (nle rfl) ?_
  rintro T1 h1 _ _ _ X1 ⟨a2, rfl, rfl, rfl, J1, g6, G3, G4, G5⟩
  have ge7 : h.size ≤ a2 := Nat.le_trans K0.1 g6
  have K8 : Keep h h1 [] := K0.trans J1 all0
  exact WS.retA X1 (WL' := [a2]) (FL' := []) hx hret rfl rfl hlk (hb hby d14_4) (nle rfl) (nle rfl) ⟨a2, rfl, rfl, rfl, K8, ge7, G3, G4, G5⟩
def Q_lcp2 (Z : State) (gC : Int32) (v_DE : Addr) (k_DE : ClassId) (v_EL : Addr) (v_EM : Addr) (v_OE : Addr) (m_OA : Addr) (x : Addr) (b : Addr) (kb : ClassId) (y0 : Addr) (y1 : Addr) (h : Heap) (v : Option Value) (h' : Heap) (WL' FL' : List Addr) : Prop := ∃ r : Addr, v = some (.ref r) ∧ WL' = [r] ∧ FL' = [] ∧ Keep h h' [] ∧ h.size ≤ r ∧ Exa Z h' r "java/util/ImmutableCollections$List12" ∧ Fld Z h' r "java/util/ImmutableCollections$List12" "e0" "Ljava/lang/Object;" (.ref y0) ∧ Fld Z h' r "java/util/ImmutableCollections$List12" "e1" "Ljava/lang/Object;" (.ref y1)
theorem ct_lcp2 (cx : Cx a0 Z gC v_DE k_DE v_EL v_EM v_OE m_OA) (x : Addr) (b : Addr) (kb : ClassId) (y0 : Addr) (y1 : Addr) (h : Heap) (WL FL : List Addr) (P0 : Exa Z h x "java/util/ArrayList") (P1 : Fld Z h x "java/util/ArrayList" "size" "I" (.int 2)) (P2 : Fld Z h x "java/util/ArrayList" "elementData" "[Ljava/lang/Object;" (.ref b)) (P3 : Arv Z h b kb (.object "java/lang/Object") (10 : Int32) [(.ref y0), (.ref y1), .null, .null, .null, .null, .null, .null, .null, .null] .null) (P4 : Exa Z h b "[Ljava/lang/Object;") (P5 : Exa Z h y0 "com/example/lexbind/lexbind/messages/Explanation$Step") (P6 : Exa Z h y1 "com/example/lexbind/lexbind/messages/Explanation$Step") :
    Ct l Z EL1 n0 (⟨"java/util/ImmutableCollections", "listCopy", "(Ljava/util/Collection;)Ljava/util/List;"⟩ : MethodName) jdk_56_method_3_code 2 (Option.some (FieldType.object "java/util/List")) ({ frames := 6, cells := 2, slots := 4, locals := 76 } : Room) #[(.ref x)] h WL FL (Q_lcp2 Z gC v_DE k_DE v_EL v_EM v_OE m_OA x b kb y0 y1 h) := by
  refine Ct.of (plainFor_of_name pn14) ?_
  intro p e s m below meth c s1 hx hby hml hnm hret hlk X0
  refine Wo.cast (f' := (mkF m 0 #[.val (.ref x), .unset] [])) (by rfl) ?_
  have K0 : Keep h h [] := Keep.refl _ _
  show Wo _ _ _ _ _ _ _ _ _ _ _ s1 (mkF m 0 #[.val (.ref x), .unset] [])
  refine P.aloadN X0 hx 1 (hb hby d15_0) rfl rfl rfl ?_
  refine X0.instNo hx (w98 cx) P0 (NI.chain (w99 cx) (w100 cx) (w101 cx) (w102 cx) (w322 cx) (by decide)) (hb hby d15_1) ?_
  intro T1 X1
  refine P.ifNo X1 hx 7 (hb hby d15_4) (by decide) rfl ?_
  refine P.aloadN X1 hx 8 (hb hby d15_7) rfl rfl rfl ?_
  refine X1.instNo hx (w103 cx) P0 (NI.chain (w99 cx) (w100 cx) (w101 cx) (w102 cx) (w256 cx) (by decide)) (hb hby d15_8) ?_
  intro T2 X2
  refine P.ifYes X2 hx 31 (hb hby d15_11) (by decide) (by decide) (by decide) ?_
  refine P.aloadN X2 hx 32 (hb hby d15_31) rfl rfl rfl ?_
  refine X2.callI hx (w104 cx) (w105 cx) (w106 cx) (w107 cx) (w108 cx) (w109 cx) (w110 cx) (w111 cx) (by decide) P0 (Ct.pay (W := 0) (ct_alie2 cx x h _ _ P1) (w112 cx) (w55 cx) (nle rfl) (nle rfl)) (by rw [hml]; rfl) (argsL := []) (rest := []) (lenOf pd16 rfl) rfl rfl (Nat.le_of_eq rfl) (hb hby d15_32) (nle rfl) (nle rfl) ?_
  rintro T3 h3 _ _ _ X3 ⟨rfl, rfl, rfl, J3⟩
  rw [J3] at X3
  refine P.ifYes X3 hx 44 (hb hby d15_37) (by decide) (by decide) (by decide) ?_
  refine P.aloadN X3 hx 45 (hb hby d15_44) rfl rfl rfl ?_
  refine X3.callI hx (w218 cx) (w219 cx) (w220 cx) (w221 cx) (w222 cx) (w223 cx) (w224 cx) (w111 cx) (by decide) P0 (Ct.pay (W := 0) (ct_toar2 cx x b kb y0 y1 h _ _ P2 P1 P3 P4 P5 P6) (w225 cx) (w55 cx) (nle rfl) (nle rfl)) (by rw [hml]; rfl) (argsL := []) (rest := []) (lenOf pd7 rfl) rfl rfl (Nat.le_of_eq rfl) (hb hby d15_45) (nle rfl) (nle rfl) ?_
  rintro T4 h4 _ _ _ X4 ⟨a5, k6, rfl, rfl, rfl, J4, g9, G7, G8⟩
  have ge10 : h.size ≤ a5 := Nat.le_trans K0.1 g9
  have K11 : Keep h h4 [] := K0.trans J4 all0
  have X12 := WS.drop (A := []) (B := WL) X4
  have F13 := P5.keep J4
  have F14 := P6.keep J4
  refine X12.callS hx (w248 cx) (w249 cx) (w92 cx) (w250 cx) (by decide) (Ct.pay (W := 0) (ct_lof2 cx a5 k6 y0 y1 h4 _ _ G7 (mg 0 rfl) F13 F14) (w250 cx) (w92 cx) (nle rfl) (nle rfl)) (by rw [hml]; rfl) (argsL := [.ref a5]) (rest := []) (lenOf pd15 rfl) rfl rfl (Nat.le_of_eq rfl) (hb hby d15_50) (nle rfl) (nle rfl) ?_
  rintro T15 h15 _ _ _ X15 ⟨a16, rfl, rfl, rfl, J15, g20, G17, G18, G19⟩
  have ge21 : h.size ≤ a16 := Nat.le_trans K11.1 g20
  have K22 : Keep h h15 [] := K11.trans J15 all0
  have X23 := WS.fl (FL2 := FL) X15 (fun y hy => (List.mem_append_right [a5] hy))
  exact WS.retA X23 (WL' := [a16]) (FL' := []) hx hret rfl rfl hlk (hb hby d15_53) (nle rfl) (nle rfl) ⟨a16, rfl, rfl, rfl, K22, ge21, G17, G18, G19⟩
def Q_cof2 (Z : State) (gC : Int32) (v_DE : Addr) (k_DE : ClassId) (v_EL : Addr) (v_EM : Addr) (v_OE : Addr) (m_OA : Addr) (x : Addr) (b : Addr) (kb : ClassId) (y0 : Addr) (y1 : Addr) (h : Heap) (v : Option Value) (h' : Heap) (WL' FL' : List Addr) : Prop := ∃ r : Addr, v = some (.ref r) ∧ WL' = [r] ∧ FL' = [] ∧ Keep h h' [] ∧ h.size ≤ r ∧ Exa Z h' r "java/util/ImmutableCollections$List12" ∧ Fld Z h' r "java/util/ImmutableCollections$List12" "e0" "Ljava/lang/Object;" (.ref y0) ∧ Fld Z h' r "java/util/ImmutableCollections$List12" "e1" "Ljava/lang/Object;" (.ref y1)
theorem ct_cof2 (cx : Cx a0 Z gC v_DE k_DE v_EL v_EM v_OE m_OA) (x : Addr) (b : Addr) (kb : ClassId) (y0 : Addr) (y1 : Addr) (h : Heap) (WL FL : List Addr) (P0 : Exa Z h x "java/util/ArrayList") (P1 : Fld Z h x "java/util/ArrayList" "size" "I" (.int 2)) (P2 : Fld Z h x "java/util/ArrayList" "elementData" "[Ljava/lang/Object;" (.ref b)) (P3 : Arv Z h b kb (.object "java/lang/Object") (10 : Int32) [(.ref y0), (.ref y1), .null, .null, .null, .null, .null, .null, .null, .null] .null) (P4 : Exa Z h b "[Ljava/lang/Object;") (P5 : Exa Z h y0 "com/example/lexbind/lexbind/messages/Explanation$Step") (P6 : Exa Z h y1 "com/example/lexbind/lexbind/messages/Explanation$Step") :
    Ct l Z EL1 n0 (⟨"java/util/List", "copyOf", "(Ljava/util/Collection;)Ljava/util/List;"⟩ : MethodName) jdk_40_method_48_code 1 (Option.some (FieldType.object "java/util/List")) ({ frames := 7, cells := 2, slots := 4, locals := 89 } : Room) #[(.ref x)] h WL FL (Q_cof2 Z gC v_DE k_DE v_EL v_EM v_OE m_OA x b kb y0 y1 h) := by
  refine Ct.of (plainFor_of_name pn13) ?_
  intro p e s m below meth c s1 hx hby hml hnm hret hlk X0
  refine Wo.cast (f' := (mkF m 0 #[.val (.ref x)] [])) (by rfl) ?_
  have K0 : Keep h h [] := Keep.refl _ _
  show Wo _ _ _ _ _ _ _ _ _ _ _ s1 (mkF m 0 #[.val (.ref x)] [])
  refine P.aloadN X0 hx 1 (hb hby d14_0) rfl rfl rfl ?_
  refine X0.callS hx (w94 cx) (w95 cx) (w96 cx) (w97 cx) (by decide) (Ct.pay (W := 0) (ct_lcp2 cx x b kb y0 y1 h _ _ P0 P1 P2 P3 P4 P5 P6) (w97 cx) (w96 cx) (nle rfl) (nle rfl)) (by rw [hml]; rfl) (argsL := [.ref x]) (rest := []) (lenOf pd18 rfl) rfl rfl (Nat.le_of_eq rfl) (hb hby d14_1) (nle rfl) (nle rfl) ?_
  rintro T1 h1 _ _ _ X1 ⟨a2, rfl, rfl, rfl, J1, g6, G3, G4, G5⟩
  have ge7 : h.size ≤ a2 := Nat.le_trans K0.1 g6
  have K8 : Keep h h1 [] := K0.trans J1 all0
  exact WS.retA X1 (WL' := [a2]) (FL' := []) hx hret rfl rfl hlk (hb hby d14_4) (nle rfl) (nle rfl) ⟨a2, rfl, rfl, rfl, K8, ge7, G3, G4, G5⟩
def Q_lcp3 (Z : State) (gC : Int32) (v_DE : Addr) (k_DE : ClassId) (v_EL : Addr) (v_EM : Addr) (v_OE : Addr) (m_OA : Addr) (x : Addr) (b : Addr) (kb : ClassId) (y0 : Addr) (y1 : Addr) (y2 : Addr) (h : Heap) (v : Option Value) (h' : Heap) (WL' FL' : List Addr) : Prop := ∃ r : Addr, ∃ el : Addr, ∃ kel : ClassId, v = some (.ref r) ∧ WL' = [r, el] ∧ FL' = [] ∧ Keep h h' [] ∧ h.size ≤ r ∧ h.size ≤ el ∧ Exa Z h' r "java/util/ImmutableCollections$ListN" ∧ Fld Z h' r "java/util/ImmutableCollections$ListN" "elements" "[Ljava/lang/Object;" (.ref el) ∧ Arv Z h' el kel (.object "java/lang/Object") (3 : Int32) [(.ref y0), (.ref y1), (.ref y2)] .null
theorem ct_lcp3 (cx : Cx a0 Z gC v_DE k_DE v_EL v_EM v_OE m_OA) (x : Addr) (b : Addr) (kb : ClassId) (y0 : Addr) (y1 : Addr) (y2 : Addr) (h : Heap) (WL FL : List Addr) (P0 : Exa Z h x "java/util/ArrayList") (P1 : Fld Z h x "java/util/ArrayList" "size" "I" (.int 3)) (P2 : Fld Z h x "java/util/ArrayList" "elementData" "[Ljava/lang/Object;" (.ref b)) (P3 : Arv Z h b kb (.object "java/lang/Object") (10 : Int32) [(.ref y0), (.ref y1), (.ref y2), .null, .null, .null, .null, .null, .null, .null] .null) (P4 : Exa Z h b "[Ljava/lang/Object;") (P5 : Exa Z h y0 "com/example/lexbind/lexbind/messages/Explanation$Step") (P6 : Exa Z h y1 "com/example/lexbind/lexbind/messages/Explanation$Step") (P7 : Exa Z h y2 "com/example/lexbind/lexbind/messages/Explanation$Step") :
    Ct l Z EL1 n0 (⟨"java/util/ImmutableCollections", "listCopy", "(Ljava/util/Collection;)Ljava/util/List;"⟩ : MethodName) jdk_56_method_3_code 2 (Option.some (FieldType.object "java/util/List")) ({ frames := 7, cells := 3, slots := 8, locals := 90 } : Room) #[(.ref x)] h WL FL (Q_lcp3 Z gC v_DE k_DE v_EL v_EM v_OE m_OA x b kb y0 y1 y2 h) := by
  refine Ct.of (plainFor_of_name pn14) ?_
  intro p e s m below meth c s1 hx hby hml hnm hret hlk X0
  refine Wo.cast (f' := (mkF m 0 #[.val (.ref x), .unset] [])) (by rfl) ?_
  have K0 : Keep h h [] := Keep.refl _ _
  show Wo _ _ _ _ _ _ _ _ _ _ _ s1 (mkF m 0 #[.val (.ref x), .unset] [])
  refine P.aloadN X0 hx 1 (hb hby d15_0) rfl rfl rfl ?_
  refine X0.instNo hx (w98 cx) P0 (NI.chain (w99 cx) (w100 cx) (w101 cx) (w102 cx) (w322 cx) (by decide)) (hb hby d15_1) ?_
  intro T1 X1
  refine P.ifNo X1 hx 7 (hb hby d15_4) (by decide) rfl ?_
  refine P.aloadN X1 hx 8 (hb hby d15_7) rfl rfl rfl ?_
  refine X1.instNo hx (w103 cx) P0 (NI.chain (w99 cx) (w100 cx) (w101 cx) (w102 cx) (w256 cx) (by decide)) (hb hby d15_8) ?_
  intro T2 X2
  refine P.ifYes X2 hx 31 (hb hby d15_11) (by decide) (by decide) (by decide) ?_
  refine P.aloadN X2 hx 32 (hb hby d15_31) rfl rfl rfl ?_
  refine X2.callI hx (w104 cx) (w105 cx) (w106 cx) (w107 cx) (w108 cx) (w109 cx) (w110 cx) (w111 cx) (by decide) P0 (Ct.pay (W := 0) (ct_alie3 cx x h _ _ P1) (w112 cx) (w55 cx) (nle rfl) (nle rfl)) (by rw [hml]; rfl) (argsL := []) (rest := []) (lenOf pd16 rfl) rfl rfl (Nat.le_of_eq rfl) (hb hby d15_32) (nle rfl) (nle rfl) ?_
  rintro T3 h3 _ _ _ X3 ⟨rfl, rfl, rfl, J3⟩
  rw [J3] at X3
  refine P.ifYes X3 hx 44 (hb hby d15_37) (by decide) (by decide) (by decide) ?_
  refine P.aloadN X3 hx 45 (hb hby d15_44) rfl rfl rfl ?_
  refine X3.callI hx (w218 cx) (w219 cx) (w220 cx) (w221 cx) (w222 cx) (w223 cx) (w224 cx) (w111 cx) (by decide) P0 (Ct.pay (W := 0) (ct_toar3 cx x b kb y0 y1 y2 h _ _ P2 P1 P3 P4 P5 P6 P7) (w225 cx) (w55 cx) (nle rfl) (nle rfl)) (by rw [hml]; rfl) (argsL := []) (rest := []) (lenOf pd7 rfl) rfl rfl (Nat.le_of_eq rfl) (hb hby d15_45) (nle rfl) (nle rfl) ?_
  rintro T4 h4 _ _ _ X4 ⟨a5, k6, rfl, rfl, rfl, J4, g9, G7, G8⟩
  have ge10 : h.size ≤ a5 := Nat.le_trans K0.1 g9
  have K11 : Keep h h4 [] := K0.trans J4 all0
  have X12 := WS.drop (A := []) (B := WL) X4
  have F13 := P5.keep J4
  have F14 := P6.keep J4
  have F15 := P7.keep J4
  refine X12.callS hx (w248 cx) (w249 cx) (w92 cx) (w250 cx) (by decide) (Ct.pay (W := 0) (ct_lof3 cx a5 k6 y0 y1 y2 h4 _ _ G7 (mg 0 rfl) F13 F14 F15) (w250 cx) (w92 cx) (nle rfl) (nle rfl)) (by rw [hml]; rfl) (argsL := [.ref a5]) (rest := []) (lenOf pd15 rfl) rfl rfl (Nat.le_of_eq rfl) (hb hby d15_50) (nle rfl) (nle rfl) ?_
  rintro T16 h16 _ _ _ X16 ⟨a17, a18, k19, rfl, rfl, rfl, J16, g23, g24, G20, G21, G22⟩
  have ge25 : h.size ≤ a17 := Nat.le_trans K11.1 g23
  have ge26 : h.size ≤ a18 := Nat.le_trans K11.1 g24
  have K27 : Keep h h16 [] := K11.trans J16 all0
  have X28 := WS.fl (FL2 := FL) X16 (fun y hy => (List.mem_append_right [a5] hy))
  exact WS.retA X28 (WL' := [a17, a18]) (FL' := []) hx hret rfl rfl hlk (hb hby d15_53) (nle rfl) (nle rfl) ⟨a17, a18, k19, rfl, rfl, rfl, K27, ge25, ge26, G20, G21, G22⟩
def Q_cof3 (Z : State) (gC : Int32) (v_DE : Addr) (k_DE : ClassId) (v_EL : Addr) (v_EM : Addr) (v_OE : Addr) (m_OA : Addr) (x : Addr) (b : Addr) (kb : ClassId) (y0 : Addr) (y1 : Addr) (y2 : Addr) (h : Heap) (v : Option Value) (h' : Heap) (WL' FL' : List Addr) : Prop := ∃ r : Addr, ∃ el : Addr, ∃ kel : ClassId, v = some (.ref r) ∧ WL' = [r, el] ∧ FL' = [] ∧ Keep h h' [] ∧ h.size ≤ r ∧ h.size ≤ el ∧ Exa Z h' r "java/util/ImmutableCollections$ListN" ∧ Fld Z h' r "java/util/ImmutableCollections$ListN" "elements" "[Ljava/lang/Object;" (.ref el) ∧ Arv Z h' el kel (.object "java/lang/Object") (3 : Int32) [(.ref y0), (.ref y1), (.ref y2)] .null
theorem ct_cof3 (cx : Cx a0 Z gC v_DE k_DE v_EL v_EM v_OE m_OA) (x : Addr) (b : Addr) (kb : ClassId) (y0 : Addr) (y1 : Addr) (y2 : Addr) (h : Heap) (WL FL : List Addr) (P0 : Exa Z h x "java/util/ArrayList") (P1 : Fld Z h x "java/util/ArrayList" "size" "I" (.int 3)) (P2 : Fld Z h x "java/util/ArrayList" "elementData" "[Ljava/lang/Object;" (.ref b)) (P3 : Arv Z h b kb (.object "java/lang/Object") (10 : Int32) [(.ref y0), (.ref y1), (.ref y2), .null, .null, .null, .null, .null, .null, .null] .null) (P4 : Exa Z h b "[Ljava/lang/Object;") (P5 : Exa Z h y0 "com/example/lexbind/lexbind/messages/Explanation$Step") (P6 : Exa Z h y1 "com/example/lexbind/lexbind/messages/Explanation$Step") (P7 : Exa Z h y2 "com/example/lexbind/lexbind/messages/Explanation$Step") :
    Ct l Z EL1 n0 (⟨"java/util/List", "copyOf", "(Ljava/util/Collection;)Ljava/util/List;"⟩ : MethodName) jdk_40_method_48_code 1 (Option.some (FieldType.object "java/util/List")) ({ frames := 8, cells := 3, slots := 8, locals := 103 } : Room) #[(.ref x)] h WL FL (Q_cof3 Z gC v_DE k_DE v_EL v_EM v_OE m_OA x b kb y0 y1 y2 h) := by
  refine Ct.of (plainFor_of_name pn13) ?_
  intro p e s m below meth c s1 hx hby hml hnm hret hlk X0
  refine Wo.cast (f' := (mkF m 0 #[.val (.ref x)] [])) (by rfl) ?_
  have K0 : Keep h h [] := Keep.refl _ _
  show Wo _ _ _ _ _ _ _ _ _ _ _ s1 (mkF m 0 #[.val (.ref x)] [])
  refine P.aloadN X0 hx 1 (hb hby d14_0) rfl rfl rfl ?_
  refine X0.callS hx (w94 cx) (w95 cx) (w96 cx) (w97 cx) (by decide) (Ct.pay (W := 0) (ct_lcp3 cx x b kb y0 y1 y2 h _ _ P0 P1 P2 P3 P4 P5 P6 P7) (w97 cx) (w96 cx) (nle rfl) (nle rfl)) (by rw [hml]; rfl) (argsL := [.ref x]) (rest := []) (lenOf pd18 rfl) rfl rfl (Nat.le_of_eq rfl) (hb hby d14_1) (nle rfl) (nle rfl) ?_
  rintro T1 h1 _ _ _ X1 ⟨a2, a3, k4, rfl, rfl, rfl, J1, g8, g9, G5, G6, G7⟩
  have ge10 : h.size ≤ a2 := Nat.le_trans K0.1 g8
  have ge11 : h.size ≤ a3 := Nat.le_trans K0.1 g9
  have K12 : Keep h h1 [] := K0.trans J1 all0
  exact WS.retA X1 (WL' := [a2, a3]) (FL' := []) hx hret rfl rfl hlk (hb hby d14_4) (nle rfl) (nle rfl) ⟨a2, a3, k4, rfl, rfl, rfl, K12, ge10, ge11, G5, G6, G7⟩
def Q_lsz1 (Z : State) (gC : Int32) (v_DE : Addr) (k_DE : ClassId) (v_EL : Addr) (v_EM : Addr) (v_OE : Addr) (m_OA : Addr) (x : Addr) (y0 : Addr) (h : Heap) (v : Option Value) (h' : Heap) (WL' FL' : List Addr) : Prop := v = some (.int 1) ∧ WL' = [] ∧ FL' = [] ∧ h' = h
theorem ct_lsz1 (cx : Cx a0 Z gC v_DE k_DE v_EL v_EM v_OE m_OA) (x : Addr) (y0 : Addr) (h : Heap) (WL FL : List Addr) (P0 : Exa Z h x "java/util/ImmutableCollections$List12") (P1 : Fld Z h x "java/util/ImmutableCollections$List12" "e0" "Ljava/lang/Object;" (.ref y0)) (P2 : Fld Z h x "java/util/ImmutableCollections$List12" "e1" "Ljava/lang/Object;" (.ref v_EM)) :
    Ct l Z EL1 n0 (⟨"java/util/ImmutableCollections$List12", "size", "()I"⟩ : MethodName) jdk_44_method_3_code 1 (Option.some FieldType.int) ({ frames := 0, cells := 0, slots := 0, locals := 0 } : Room) #[(.ref x)] h WL FL (Q_lsz1 Z gC v_DE k_DE v_EL v_EM v_OE m_OA x y0 h) := by
  refine Ct.of (plainFor_of_name pn11) ?_
  intro p e s m below meth c s1 hx hby hml hnm hret hlk X0
  refine Wo.cast (f' := (mkF m 0 #[.val (.ref x)] [])) (by rfl) ?_
  show Wo _ _ _ _ _ _ _ _ _ _ _ s1 (mkF m 0 #[.val (.ref x)] [])
  refine P.aloadN X0 hx 1 (hb hby d53_0) rfl rfl rfl ?_
  refine X0.getF hx (host := "") (Or.inl (w335 cx)) Via.refl P2 (hb hby d53_1) ?_
  intro T1 X1
  refine X1.getS2 hx (Or.inr (w340 cx)) Via.refl (S_EM cx) (hb hby d53_4) ?_
  intro T2 X2
  refine WS.acmp X2 hx (x := (.ref v_EM)) (y := (.ref v_EM)) rfl rfl (pc' := 14) (same := true) (hb hby d53_7) (decide_eq_true rfl) (by decide) (by decide) ?_
  refine P.iconst X2 hx 15 1 (hb hby d53_14) rfl rfl ?_
  exact WS.retI X2 (WL' := []) (FL' := []) hx hret hlk (hb hby d53_15) (nle rfl) (nle rfl) ⟨rfl, rfl, rfl, rfl⟩
def Q_lget1 (Z : State) (gC : Int32) (v_DE : Addr) (k_DE : ClassId) (v_EL : Addr) (v_EM : Addr) (v_OE : Addr) (m_OA : Addr) (x : Addr) (y0 : Addr) (h : Heap) (v : Option Value) (h' : Heap) (WL' FL' : List Addr) : Prop := v = some (.ref y0) ∧ WL' = [] ∧ FL' = [] ∧ h' = h
theorem ct_lget1 (cx : Cx a0 Z gC v_DE k_DE v_EL v_EM v_OE m_OA) (x : Addr) (y0 : Addr) (h : Heap) (WL FL : List Addr) (P0 : Exa Z h x "java/util/ImmutableCollections$List12") (P1 : Fld Z h x "java/util/ImmutableCollections$List12" "e0" "Ljava/lang/Object;" (.ref y0)) (P2 : Fld Z h x "java/util/ImmutableCollections$List12" "e1" "Ljava/lang/Object;" (.ref v_EM)) :
    Ct l Z EL1 n0 (⟨"java/util/ImmutableCollections$List12", "get", "(I)Ljava/lang/Object;"⟩ : MethodName) jdk_44_method_5_code 2 (Option.some (FieldType.object "java/lang/Object")) ({ frames := 0, cells := 0, slots := 0, locals := 0 } : Room) #[(.ref x), (.int 0)] h WL FL (Q_lget1 Z gC v_DE k_DE v_EL v_EM v_OE m_OA x y0 h) := by
  refine Ct.of (plainFor_of_name pn11) ?_
  intro p e s m below meth c s1 hx hby hml hnm hret hlk X0
  refine Wo.cast (f' := (mkF m 0 #[.val (.ref x), .val (.int 0)] [])) (by rfl) ?_
  show Wo _ _ _ _ _ _ _ _ _ _ _ s1 (mkF m 0 #[.val (.ref x), .val (.int 0)] [])
  refine P.iloadN X0 hx 1 (hb hby d54_0) rfl rfl ?_
  refine P.ifNo X0 hx 4 (hb hby d54_1) (by decide) rfl ?_
  refine P.aloadN X0 hx 5 (hb hby d54_4) rfl rfl rfl ?_
  refine X0.getF hx (host := "") (Or.inl (w333 cx)) Via.refl P1 (hb hby d54_5) ?_
  intro T1 X1
  exact WS.retA X1 (WL' := []) (FL' := []) hx hret rfl rfl hlk (hb hby d54_8) (nle rfl) (nle rfl) ⟨rfl, rfl, rfl, rfl⟩
def Q_lemp1 (Z : State) (gC : Int32) (v_DE : Addr) (k_DE : ClassId) (v_EL : Addr) (v_EM : Addr) (v_OE : Addr) (m_OA : Addr) (x : Addr) (y0 : Addr) (h : Heap) (v : Option Value) (h' : Heap) (WL' FL' : List Addr) : Prop := v = some (.int 0) ∧ WL' = [] ∧ FL' = [] ∧ h' = h
theorem ct_lemp1 (cx : Cx a0 Z gC v_DE k_DE v_EL v_EM v_OE m_OA) (x : Addr) (y0 : Addr) (h : Heap) (WL FL : List Addr) (P0 : Exa Z h x "java/util/ImmutableCollections$List12") (P1 : Fld Z h x "java/util/ImmutableCollections$List12" "e0" "Ljava/lang/Object;" (.ref y0)) (P2 : Fld Z h x "java/util/ImmutableCollections$List12" "e1" "Ljava/lang/Object;" (.ref v_EM)) :
    Ct l Z EL1 n0 (⟨"java/util/ImmutableCollections$List12", "isEmpty", "()Z"⟩ : MethodName) jdk_44_method_4_code 1 (Option.some FieldType.boolean) ({ frames := 0, cells := 0, slots := 0, locals := 0 } : Room) #[(.ref x)] h WL FL (Q_lemp1 Z gC v_DE k_DE v_EL v_EM v_OE m_OA x y0 h) := by
  refine Ct.of (plainFor_of_name pn11) ?_
  intro p e s m below meth c s1 hx hby hml hnm hret hlk X0
  refine Wo.cast (f' := (mkF m 0 #[.val (.ref x)] [])) (by rfl) ?_
  show Wo _ _ _ _ _ _ _ _ _ _ _ s1 (mkF m 0 #[.val (.ref x)] [])
  refine P.iconst X0 hx 1 0 (hb hby d52_0) rfl rfl ?_
  exact WS.retN X0 (WL' := []) (FL' := []) hx (t := .boolean) hret (by simp) hlk (hb hby d52_1) (nle rfl) (nle rfl) ⟨rfl, rfl, rfl, rfl⟩
def Q_lsz2 (Z : State) (gC : Int32) (v_DE : Addr) (k_DE : ClassId) (v_EL : Addr) (v_EM : Addr) (v_OE : Addr) (m_OA : Addr) (x : Addr) (y0 : Addr) (y1 : Addr) (h : Heap) (v : Option Value) (h' : Heap) (WL' FL' : List Addr) : Prop := v = some (.int 2) ∧ WL' = [] ∧ FL' = [] ∧ h' = h
theorem ct_lsz2 (cx : Cx a0 Z gC v_DE k_DE v_EL v_EM v_OE m_OA) (x : Addr) (y0 : Addr) (y1 : Addr) (h : Heap) (WL FL : List Addr) (P0 : Exa Z h x "java/util/ImmutableCollections$List12") (P1 : Fld Z h x "java/util/ImmutableCollections$List12" "e0" "Ljava/lang/Object;" (.ref y0)) (P2 : Fld Z h x "java/util/ImmutableCollections$List12" "e1" "Ljava/lang/Object;" (.ref y1)) (hye : y1 ≠ v_EM) :
    Ct l Z EL1 n0 (⟨"java/util/ImmutableCollections$List12", "size", "()I"⟩ : MethodName) jdk_44_method_3_code 1 (Option.some FieldType.int) ({ frames := 0, cells := 0, slots := 0, locals := 0 } : Room) #[(.ref x)] h WL FL (Q_lsz2 Z gC v_DE k_DE v_EL v_EM v_OE m_OA x y0 y1 h) := by
  refine Ct.of (plainFor_of_name pn11) ?_
  intro p e s m below meth c s1 hx hby hml hnm hret hlk X0
  refine Wo.cast (f' := (mkF m 0 #[.val (.ref x)] [])) (by rfl) ?_
  show Wo _ _ _ _ _ _ _ _ _ _ _ s1 (mkF m 0 #[.val (.ref x)] [])
  refine P.aloadN X0 hx 1 (hb hby d53_0) rfl rfl rfl ?_
  refine X0.getF hx (host := "") (Or.inl (w335 cx)) Via.refl P2 (hb hby d53_1) ?_
  intro T1 X1
  refine X1.getS2 hx (Or.inr (w340 cx)) Via.refl (S_EM cx) (hb hby d53_4) ?_
  intro T2 X2
  refine WS.acmp X2 hx (x := (.ref y1)) (y := (.ref v_EM)) rfl rfl (pc' := 10) (same := false) (hb hby d53_7) (decide_eq_false fun q => hye (Value.ref.inj q)) (by decide) (by decide) ?_
  refine P.iconst X2 hx 11 2 (hb hby d53_10) rfl rfl ?_
  refine P.goto X2 hx 15 (hb hby d53_11) (by decide) (by decide) ?_
  exact WS.retI X2 (WL' := []) (FL' := []) hx hret hlk (hb hby d53_15) (nle rfl) (nle rfl) ⟨rfl, rfl, rfl, rfl⟩
def Q_lget2 (Z : State) (gC : Int32) (v_DE : Addr) (k_DE : ClassId) (v_EL : Addr) (v_EM : Addr) (v_OE : Addr) (m_OA : Addr) (x : Addr) (y0 : Addr) (y1 : Addr) (h : Heap) (v : Option Value) (h' : Heap) (WL' FL' : List Addr) : Prop := v = some (.ref y1) ∧ WL' = [] ∧ FL' = [] ∧ h' = h
theorem ct_lget2 (cx : Cx a0 Z gC v_DE k_DE v_EL v_EM v_OE m_OA) (x : Addr) (y0 : Addr) (y1 : Addr) (h : Heap) (WL FL : List Addr) (P0 : Exa Z h x "java/util/ImmutableCollections$List12") (P1 : Fld Z h x "java/util/ImmutableCollections$List12" "e0" "Ljava/lang/Object;" (.ref y0)) (P2 : Fld Z h x "java/util/ImmutableCollections$List12" "e1" "Ljava/lang/Object;" (.ref y1)) (hye : y1 ≠ v_EM) :
    Ct l Z EL1 n0 (⟨"java/util/ImmutableCollections$List12", "get", "(I)Ljava/lang/Object;"⟩ : MethodName) jdk_44_method_5_code 2 (Option.some (FieldType.object "java/lang/Object")) ({ frames := 0, cells := 0, slots := 0, locals := 0 } : Room) #[(.ref x), (.int 1)] h WL FL (Q_lget2 Z gC v_DE k_DE v_EL v_EM v_OE m_OA x y0 y1 h) := by
  refine Ct.of (plainFor_of_name pn11) ?_
  intro p e s m below meth c s1 hx hby hml hnm hret hlk X0
  refine Wo.cast (f' := (mkF m 0 #[.val (.ref x), .val (.int 1)] [])) (by rfl) ?_
  show Wo _ _ _ _ _ _ _ _ _ _ _ s1 (mkF m 0 #[.val (.ref x), .val (.int 1)] [])
  refine P.iloadN X0 hx 1 (hb hby d54_0) rfl rfl ?_
  refine P.ifYes X0 hx 9 (hb hby d54_1) (by decide) (by decide) (by decide) ?_
  refine P.iloadN X0 hx 10 (hb hby d54_9) rfl rfl ?_
  refine P.iconst X0 hx 11 1 (hb hby d54_10) rfl rfl ?_
  refine P.icmpNo X0 hx 14 (hb hby d54_11) (by decide) rfl ?_
  refine P.aloadN X0 hx 15 (hb hby d54_14) rfl rfl rfl ?_
  refine X0.getF hx (host := "") (Or.inl (w335 cx)) Via.refl P2 (hb hby d54_15) ?_
  intro T1 X1
  refine X1.getS2 hx (Or.inr (w340 cx)) Via.refl (S_EM cx) (hb hby d54_18) ?_
  intro T2 X2
  refine WS.acmp X2 hx (x := (.ref y1)) (y := (.ref v_EM)) rfl rfl (pc' := 24) (same := false) (hb hby d54_21) (decide_eq_false fun q => hye (Value.ref.inj q)) (by decide) (by decide) ?_
  refine P.aloadN X2 hx 25 (hb hby d54_24) rfl rfl rfl ?_
  refine X2.getF hx (host := "") (Or.inl (w335 cx)) Via.refl P2 (hb hby d54_25) ?_
  intro T3 X3
  exact WS.retA X3 (WL' := []) (FL' := []) hx hret rfl rfl hlk (hb hby d54_28) (nle rfl) (nle rfl) ⟨rfl, rfl, rfl, rfl⟩
def Q_lemp2 (Z : State) (gC : Int32) (v_DE : Addr) (k_DE : ClassId) (v_EL : Addr) (v_EM : Addr) (v_OE : Addr) (m_OA : Addr) (x : Addr) (y0 : Addr) (y1 : Addr) (h : Heap) (v : Option Value) (h' : Heap) (WL' FL' : List Addr) : Prop := v = some (.int 0) ∧ WL' = [] ∧ FL' = [] ∧ h' = h
theorem ct_lemp2 (cx : Cx a0 Z gC v_DE k_DE v_EL v_EM v_OE m_OA) (x : Addr) (y0 : Addr) (y1 : Addr) (h : Heap) (WL FL : List Addr) (P0 : Exa Z h x "java/util/ImmutableCollections$List12") (P1 : Fld Z h x "java/util/ImmutableCollections$List12" "e0" "Ljava/lang/Object;" (.ref y0)) (P2 : Fld Z h x "java/util/ImmutableCollections$List12" "e1" "Ljava/lang/Object;" (.ref y1)) :
    Ct l Z EL1 n0 (⟨"java/util/ImmutableCollections$List12", "isEmpty", "()Z"⟩ : MethodName) jdk_44_method_4_code 1 (Option.some FieldType.boolean) ({ frames := 0, cells := 0, slots := 0, locals := 0 } : Room) #[(.ref x)] h WL FL (Q_lemp2 Z gC v_DE k_DE v_EL v_EM v_OE m_OA x y0 y1 h) := by
  refine Ct.of (plainFor_of_name pn11) ?_
  intro p e s m below meth c s1 hx hby hml hnm hret hlk X0
  refine Wo.cast (f' := (mkF m 0 #[.val (.ref x)] [])) (by rfl) ?_
  show Wo _ _ _ _ _ _ _ _ _ _ _ s1 (mkF m 0 #[.val (.ref x)] [])
  refine P.iconst X0 hx 1 0 (hb hby d52_0) rfl rfl ?_
  exact WS.retN X0 (WL' := []) (FL' := []) hx (t := .boolean) hret (by simp) hlk (hb hby d52_1) (nle rfl) (nle rfl) ⟨rfl, rfl, rfl, rfl⟩
def Q_lsz3 (Z : State) (gC : Int32) (v_DE : Addr) (k_DE : ClassId) (v_EL : Addr) (v_EM : Addr) (v_OE : Addr) (m_OA : Addr) (x : Addr) (el : Addr) (kel : ClassId) (y0 : Addr) (y1 : Addr) (y2 : Addr) (h : Heap) (v : Option Value) (h' : Heap) (WL' FL' : List Addr) : Prop := v = some (.int 3) ∧ WL' = [] ∧ FL' = [] ∧ h' = h
theorem ct_lsz3 (cx : Cx a0 Z gC v_DE k_DE v_EL v_EM v_OE m_OA) (x : Addr) (el : Addr) (kel : ClassId) (y0 : Addr) (y1 : Addr) (y2 : Addr) (h : Heap) (WL FL : List Addr) (P0 : Exa Z h x "java/util/ImmutableCollections$ListN") (P1 : Fld Z h x "java/util/ImmutableCollections$ListN" "elements" "[Ljava/lang/Object;" (.ref el)) (P2 : Arv Z h el kel (.object "java/lang/Object") (3 : Int32) [(.ref y0), (.ref y1), (.ref y2)] .null) :
    Ct l Z EL1 n0 (⟨"java/util/ImmutableCollections$ListN", "size", "()I"⟩ : MethodName) jdk_45_method_3_code 1 (Option.some FieldType.int) ({ frames := 0, cells := 0, slots := 0, locals := 0 } : Room) #[(.ref x)] h WL FL (Q_lsz3 Z gC v_DE k_DE v_EL v_EM v_OE m_OA x el kel y0 y1 y2 h) := by
  refine Ct.of (plainFor_of_name pn12) ?_
  intro p e s m below meth c s1 hx hby hml hnm hret hlk X0
  refine Wo.cast (f' := (mkF m 0 #[.val (.ref x)] [])) (by rfl) ?_
  show Wo _ _ _ _ _ _ _ _ _ _ _ s1 (mkF m 0 #[.val (.ref x)] [])
  refine P.aloadN X0 hx 1 (hb hby d46_0) rfl rfl rfl ?_
  refine X0.getF hx (host := "") (Or.inl (w276 cx)) Via.refl P1 (hb hby d46_1) ?_
  intro T1 X1
  refine WS.alen X1 hx P2 (hb hby d46_4) ?_
  exact WS.retI X1 (WL' := []) (FL' := []) hx hret hlk (hb hby d46_5) (nle rfl) (nle rfl) ⟨rfl, rfl, rfl, rfl⟩
def Q_lget3 (Z : State) (gC : Int32) (v_DE : Addr) (k_DE : ClassId) (v_EL : Addr) (v_EM : Addr) (v_OE : Addr) (m_OA : Addr) (x : Addr) (el : Addr) (kel : ClassId) (y0 : Addr) (y1 : Addr) (y2 : Addr) (h : Heap) (v : Option Value) (h' : Heap) (WL' FL' : List Addr) : Prop := v = some (.ref y2) ∧ WL' = [] ∧ FL' = [] ∧ h' = h
theorem ct_lget3 (cx : Cx a0 Z gC v_DE k_DE v_EL v_EM v_OE m_OA) (x : Addr) (el : Addr) (kel : ClassId) (y0 : Addr) (y1 : Addr) (y2 : Addr) (h : Heap) (WL FL : List Addr) (P0 : Exa Z h x "java/util/ImmutableCollections$ListN") (P1 : Fld Z h x "java/util/ImmutableCollections$ListN" "elements" "[Ljava/lang/Object;" (.ref el)) (P2 : Arv Z h el kel (.object "java/lang/Object") (3 : Int32) [(.ref y0), (.ref y1), (.ref y2)] .null) :
    Ct l Z EL1 n0 (⟨"java/util/ImmutableCollections$ListN", "get", "(I)Ljava/lang/Object;"⟩ : MethodName) jdk_45_method_4_code 2 (Option.some (FieldType.object "java/lang/Object")) ({ frames := 0, cells := 0, slots := 0, locals := 0 } : Room) #[(.ref x), (.int 2)] h WL FL (Q_lget3 Z gC v_DE k_DE v_EL v_EM v_OE m_OA x el kel y0 y1 y2 h) := by
  refine Ct.of (plainFor_of_name pn12) ?_
  intro p e s m below meth c s1 hx hby hml hnm hret hlk X0
  refine Wo.cast (f' := (mkF m 0 #[.val (.ref x), .val (.int 2)] [])) (by rfl) ?_
  show Wo _ _ _ _ _ _ _ _ _ _ _ s1 (mkF m 0 #[.val (.ref x), .val (.int 2)] [])
  refine P.aloadN X0 hx 1 (hb hby d47_0) rfl rfl rfl ?_
  refine X0.getF hx (host := "") (Or.inl (w276 cx)) Via.refl P1 (hb hby d47_1) ?_
  intro T1 X1
  refine P.iloadN X1 hx 5 (hb hby d47_4) rfl rfl ?_
  refine WS.ldR X1 hx P2 (j := (2 : Int32)) (v := (.ref y2)) (by decide) rfl (hb hby d47_5) ?_
  exact WS.retA X1 (WL' := []) (FL' := []) hx hret rfl rfl hlk (hb hby d47_6) (nle rfl) (nle rfl) ⟨rfl, rfl, rfl, rfl⟩
def Q_lemp3 (Z : State) (gC : Int32) (v_DE : Addr) (k_DE : ClassId) (v_EL : Addr) (v_EM : Addr) (v_OE : Addr) (m_OA : Addr) (x : Addr) (el : Addr) (kel : ClassId) (y0 : Addr) (y1 : Addr) (y2 : Addr) (h : Heap) (v : Option Value) (h' : Heap) (WL' FL' : List Addr) : Prop := v = some (.int 0) ∧ WL' = [] ∧ FL' = [] ∧ h' = h
theorem ct_lemp3 (cx : Cx a0 Z gC v_DE k_DE v_EL v_EM v_OE m_OA) (x : Addr) (el : Addr) (kel : ClassId) (y0 : Addr) (y1 : Addr) (y2 : Addr) (h : Heap) (WL FL : List Addr) (P0 : Exa Z h x "java/util/ImmutableCollections$ListN") (P1 : Fld Z h x "java/util/ImmutableCollections$ListN" "elements" "[Ljava/lang/Object;" (.ref el)) (P2 : Arv Z h el kel (.object "java/lang/Object") (3 : Int32) [(.ref y0), (.ref y1), (.ref y2)] .null) :
    Ct l Z EL1 n0 (⟨"java/util/ImmutableCollections$ListN", "isEmpty", "()Z"⟩ : MethodName) jdk_45_method_2_code 1 (Option.some FieldType.boolean) ({ frames := 0, cells := 0, slots := 0, locals := 0 } : Room) #[(.ref x)] h WL FL (Q_lemp3 Z gC v_DE k_DE v_EL v_EM v_OE m_OA x el kel y0 y1 y2 h) := by
  refine Ct.of (plainFor_of_name pn12) ?_
  intro p e s m below meth c s1 hx hby hml hnm hret hlk X0
  refine Wo.cast (f' := (mkF m 0 #[.val (.ref x)] [])) (by rfl) ?_
  show Wo _ _ _ _ _ _ _ _ _ _ _ s1 (mkF m 0 #[.val (.ref x)] [])
  refine P.aloadN X0 hx 1 (hb hby d44_0) rfl rfl rfl ?_
  refine X0.getF hx (host := "") (Or.inl (w276 cx)) Via.refl P1 (hb hby d44_1) ?_
  intro T1 X1
  refine WS.alen X1 hx P2 (hb hby d44_4) ?_
  refine P.ifYes X1 hx 12 (hb hby d44_5) (by decide) (by decide) (by decide) ?_
  refine P.iconst X1 hx 13 0 (hb hby d44_12) rfl rfl ?_
  exact WS.retN X1 (WL' := []) (FL' := []) hx (t := .boolean) hret (by simp) hlk (hb hby d44_13) (nle rfl) (nle rfl) ⟨rfl, rfl, rfl, rfl⟩
def Q_opini (Z : State) (gC : Int32) (v_DE : Addr) (k_DE : ClassId) (v_EL : Addr) (v_EM : Addr) (v_OE : Addr) (m_OA : Addr) (x : Addr) (g : Addr) (h : Heap) (v : Option Value) (h' : Heap) (WL' FL' : List Addr) : Prop := v = none ∧ WL' = [] ∧ FL' = [] ∧ Keep h h' [x] ∧ Fld Z h' x "java/util/Optional" "value" "Ljava/lang/Object;" (.ref g)
theorem ct_opini (cx : Cx a0 Z gC v_DE k_DE v_EL v_EM v_OE m_OA) (x : Addr) (g : Addr) (h : Heap) (WL FL : List Addr) (P0 : Exa Z h x "java/util/Optional") (P1 : Fld Z h x "java/util/Optional" "value" "Ljava/lang/Object;" .null) (P2 : x ∈ WL) :
    Ct l Z EL1 n0 (⟨"java/util/Optional", "<init>", "(Ljava/lang/Object;)V"⟩ : MethodName) jdk_32_method_2_code 2 (Option.none : Option Jvm.ClassFile.FieldType) ({ frames := 1, cells := 0, slots := 0, locals := 12 } : Room) #[(.ref x), (.ref g)] h WL FL (Q_opini Z gC v_DE k_DE v_EL v_EM v_OE m_OA x g h) := by
  refine Ct.of (plainFor_of_name pn15) ?_
  intro p e s m below meth c s1 hx hby hml hnm hret hlk X0
  refine Wo.cast (f' := (mkF m 0 #[.val (.ref x), .val (.ref g)] [])) (by rfl) ?_
  have K0 : Keep h h [x] := Keep.refl _ _
  show Wo _ _ _ _ _ _ _ _ _ _ _ s1 (mkF m 0 #[.val (.ref x), .val (.ref g)] [])
  refine P.aloadN X0 hx 1 (hb hby d34_0) rfl rfl rfl ?_
  refine X0.initO hx (w217 cx) (w20 cx) (w21 cx) (by rw [hml]; rfl) (hb hby d34_1) (nle rfl) (W := 0) (Nat.le_of_eq rfl) (nle rfl) ?_
  intro T1 X1
  refine P.aloadN X1 hx 5 (hb hby d34_4) rfl rfl rfl ?_
  refine P.aloadN X1 hx 6 (hb hby d34_5) rfl rfl rfl ?_
  refine X1.putF hx (host := "") (Or.inl (w126 cx)) Via.refl P1 P0 (Or.inr ⟨(w127 cx), rfl, hnm⟩) (w212 cx) (ty := (.object "java/lang/Object")) (by decide) rfl rfl P2 (hb hby d34_6) ?_
  intro T2 h2 X2 W2 G2
  have K3 : Keep h h2 [x] := K0.wr W2 (Or.inl (mg 0 rfl))
  exact WS.retV X2 (WL' := []) (FL' := []) hx hret hlk (hb hby d34_9) (nle rfl) (nle rfl) ⟨rfl, rfl, rfl, K3, G2⟩
def Q_opof (Z : State) (gC : Int32) (v_DE : Addr) (k_DE : ClassId) (v_EL : Addr) (v_EM : Addr) (v_OE : Addr) (m_OA : Addr) (g : Addr) (h : Heap) (v : Option Value) (h' : Heap) (WL' FL' : List Addr) : Prop := ∃ r : Addr, v = some (.ref r) ∧ WL' = [r] ∧ FL' = [] ∧ Keep h h' [] ∧ h.size ≤ r ∧ Exa Z h' r "java/util/Optional" ∧ Fld Z h' r "java/util/Optional" "value" "Ljava/lang/Object;" (.ref g)
theorem ct_opof (cx : Cx a0 Z gC v_DE k_DE v_EL v_EM v_OE m_OA) (g : Addr) (h : Heap) (WL FL : List Addr)  :
    Ct l Z EL1 n0 (⟨"java/util/Optional", "of", "(Ljava/lang/Object;)Ljava/util/Optional;"⟩ : MethodName) jdk_32_method_3_code 1 (Option.some (FieldType.object "java/util/Optional")) ({ frames := 2, cells := 1, slots := 1, locals := 26 } : Room) #[(.ref g)] h WL FL (Q_opof Z gC v_DE k_DE v_EL v_EM v_OE m_OA g h) := by
  refine Ct.of (plainFor_of_name pn15) ?_
  intro p e s m below meth c s1 hx hby hml hnm hret hlk X0
  refine Wo.cast (f' := (mkF m 0 #[.val (.ref g)] [])) (by rfl) ?_
  have K0 : Keep h h [] := Keep.refl _ _
  show Wo _ _ _ _ _ _ _ _ _ _ _ s1 (mkF m 0 #[.val (.ref g)] [])
  refine X0.newO hx (w211 cx) (w212 cx) (w80 cx) (hb hby d33_0) (nle rfl) (nle rfl) ?_
  intro T1 h1 a1 X1 E1 g1 A1 D1
  have ge2 : h.size ≤ a1 := Nat.le_trans K0.1 g1
  have K3 : Keep h h1 [] := K0.ext E1
  have D4 : Fld Z h1 a1 "java/util/Optional" "value" "Ljava/lang/Object;" .null := D1 (Or.inr (w127 cx)) (ty := (.object "java/lang/Object")) (by decide)
  refine P.dup X1 hx 4 (hb hby d33_3) rfl rfl ?_
  refine P.aloadN X1 hx 5 (hb hby d33_4) rfl rfl rfl ?_
  refine X1.callS hx (w148 cx) (w149 cx) (w44 cx) (w150 cx) (by decide) (Ct.pay (W := 2) (ct_rnn1 cx g h1 _ _ ) (w150 cx) (w44 cx) (nle rfl) (nle rfl)) (by rw [hml]; rfl) (argsL := [.ref g]) (rest := [.ref a1, .ref a1]) (lenOf pd11 rfl) rfl rfl (Nat.le_of_eq rfl) (hb hby d33_5) (nle rfl) (nle rfl) ?_
  rintro T5 h5 _ _ _ X5 ⟨rfl, rfl, rfl, J5⟩
  rw [J5] at X5
  refine X5.callC hx rfl (w213 cx) (w214 cx) (w216 cx) (by decide) (Ct.pay (W := 1) (ct_opini cx a1 g h1 _ _ A1 D4 (mg 0 rfl)) (w216 cx) (w80 cx) (nle rfl) (nle rfl)) (by rw [hml]; rfl) (argsL := [.ref g]) (rest := [.ref a1]) (lenOf pd13 rfl) rfl rfl (Nat.le_of_eq rfl) (hb hby d33_8) (nle rfl) (nle rfl) ?_
  rintro T6 h6 _ _ _ X6 ⟨rfl, rfl, rfl, J6, G7⟩
  have K8 : Keep h h6 [] := K3.trans J6 (allS (Or.inr ge2) all0)
  have F9 := A1.keep J6
  exact WS.retA X6 (WL' := [a1]) (FL' := []) hx hret rfl rfl hlk (hb hby d33_11) (nle rfl) (nle rfl) ⟨a1, rfl, rfl, rfl, K8, ge2, F9, G7⟩
def Q_opofNullable (Z : State) (gC : Int32) (v_DE : Addr) (k_DE : ClassId) (v_EL : Addr) (v_EM : Addr) (v_OE : Addr) (m_OA : Addr) (g : Addr) (h : Heap) (v : Option Value) (h' : Heap) (WL' FL' : List Addr) : Prop := ∃ r : Addr, v = some (.ref r) ∧ WL' = [r] ∧ FL' = [] ∧ Keep h h' [] ∧ h.size ≤ r ∧ Exa Z h' r "java/util/Optional" ∧ Fld Z h' r "java/util/Optional" "value" "Ljava/lang/Object;" (.ref g)
theorem ct_opofNullable (cx : Cx a0 Z gC v_DE k_DE v_EL v_EM v_OE m_OA) (g : Addr) (h : Heap) (WL FL : List Addr)  :
    Ct l Z EL1 n0 (⟨"java/util/Optional", "ofNullable", "(Ljava/lang/Object;)Ljava/util/Optional;"⟩ : MethodName) jdk_32_method_4_code 1 (Option.some (FieldType.object "java/util/Optional")) ({ frames := 2, cells := 1, slots := 1, locals := 26 } : Room) #[(.ref g)] h WL FL (Q_opofNullable Z gC v_DE k_DE v_EL v_EM v_OE m_OA g h) := by
  refine Ct.of (plainFor_of_name pn15) ?_
  intro p e s m below meth c s1 hx hby hml hnm hret hlk X0
  refine Wo.cast (f' := (mkF m 0 #[.val (.ref g)] [])) (by rfl) ?_
  have K0 : Keep h h [] := Keep.refl _ _
  show Wo _ _ _ _ _ _ _ _ _ _ _ s1 (mkF m 0 #[.val (.ref g)] [])
  refine P.aloadN X0 hx 1 (hb hby d48_0) rfl rfl rfl ?_
  refine P.ifnonnullYes X0 hx 10 (hb hby d48_1) (by decide) (by decide) ?_
  refine X0.newO hx (w211 cx) (w212 cx) (w80 cx) (hb hby d48_10) (nle rfl) (nle rfl) ?_
  intro T1 h1 a1 X1 E1 g1 A1 D1
  have ge2 : h.size ≤ a1 := Nat.le_trans K0.1 g1
  have K3 : Keep h h1 [] := K0.ext E1
  have D4 : Fld Z h1 a1 "java/util/Optional" "value" "Ljava/lang/Object;" .null := D1 (Or.inr (w127 cx)) (ty := (.object "java/lang/Object")) (by decide)
  refine P.dup X1 hx 14 (hb hby d48_13) rfl rfl ?_
  refine P.aloadN X1 hx 15 (hb hby d48_14) rfl rfl rfl ?_
  refine X1.callC hx rfl (w213 cx) (w214 cx) (w216 cx) (by decide) (Ct.pay (W := 1) (ct_opini cx a1 g h1 _ _ A1 D4 (mg 0 rfl)) (w216 cx) (w80 cx) (nle rfl) (nle rfl)) (by rw [hml]; rfl) (argsL := [.ref g]) (rest := [.ref a1]) (lenOf pd13 rfl) rfl rfl (Nat.le_of_eq rfl) (hb hby d48_15) (nle rfl) (nle rfl) ?_
  rintro T5 h5 _ _ _ X5 ⟨rfl, rfl, rfl, J5, G6⟩
  have K7 : Keep h h5 [] := K3.trans J5 (allS (Or.inr ge2) all0)
  have F8 := A1.keep J5
  exact WS.retA X5 (WL' := [a1]) (FL' := []) hx hret rfl rfl hlk (hb hby d48_18) (nle rfl) (nle rfl) ⟨a1, rfl, rfl, rfl, K7, ge2, F8, G6⟩
def Q_opemp (Z : State) (gC : Int32) (v_DE : Addr) (k_DE : ClassId) (v_EL : Addr) (v_EM : Addr) (v_OE : Addr) (m_OA : Addr) (h : Heap) (v : Option Value) (h' : Heap) (WL' FL' : List Addr) : Prop := v = some (.ref v_OE) ∧ WL' = [] ∧ FL' = [] ∧ h' = h
theorem ct_opemp (cx : Cx a0 Z gC v_DE k_DE v_EL v_EM v_OE m_OA) (h : Heap) (WL FL : List Addr)  :
    Ct l Z EL1 n0 (⟨"java/util/Optional", "empty", "()Ljava/util/Optional;"⟩ : MethodName) jdk_32_method_1_code 1 (Option.some (FieldType.object "java/util/Optional")) ({ frames := 0, cells := 0, slots := 0, locals := 0 } : Room) #[] h WL FL (Q_opemp Z gC v_DE k_DE v_EL v_EM v_OE m_OA h) := by
  refine Ct.of (plainFor_of_name pn15) ?_
  intro p e s m below meth c s1 hx hby hml hnm hret hlk X0
  refine Wo.cast (f' := (mkF m 0 #[.unset] [])) (by rfl) ?_
  show Wo _ _ _ _ _ _ _ _ _ _ _ s1 (mkF m 0 #[.unset] [])
  refine X0.getS hx (w82 cx) Via.refl (S_OE cx) (hb hby d12_0) ?_
  intro T1 X1
  refine P.astoreN X1 hx 4 #[.val (.ref v_OE)] (hb hby d12_3) rfl rfl rfl ?_
  refine P.aloadN X1 hx 5 (hb hby d12_4) rfl rfl rfl ?_
  exact WS.retA X1 (WL' := []) (FL' := []) hx hret rfl rfl hlk (hb hby d12_5) (nle rfl) (nle rfl) ⟨rfl, rfl, rfl, rfl⟩
def Q_opisPresent0 (Z : State) (gC : Int32) (v_DE : Addr) (k_DE : ClassId) (v_EL : Addr) (v_EM : Addr) (v_OE : Addr) (m_OA : Addr) (x : Addr) (g : Addr) (h : Heap) (v : Option Value) (h' : Heap) (WL' FL' : List Addr) : Prop := v = some (.int 0) ∧ WL' = [] ∧ FL' = [] ∧ h' = h
theorem ct_opisPresent0 (cx : Cx a0 Z gC v_DE k_DE v_EL v_EM v_OE m_OA) (x : Addr) (g : Addr) (h : Heap) (WL FL : List Addr) (P0 : Fld Z h x "java/util/Optional" "value" "Ljava/lang/Object;" .null) :
    Ct l Z EL1 n0 (⟨"java/util/Optional", "isPresent", "()Z"⟩ : MethodName) jdk_32_method_6_code 1 (Option.some FieldType.boolean) ({ frames := 0, cells := 0, slots := 0, locals := 0 } : Room) #[(.ref x)] h WL FL (Q_opisPresent0 Z gC v_DE k_DE v_EL v_EM v_OE m_OA x g h) := by
  refine Ct.of (plainFor_of_name pn15) ?_
  intro p e s m below meth c s1 hx hby hml hnm hret hlk X0
  refine Wo.cast (f' := (mkF m 0 #[.val (.ref x)] [])) (by rfl) ?_
  show Wo _ _ _ _ _ _ _ _ _ _ _ s1 (mkF m 0 #[.val (.ref x)] [])
  refine P.aloadN X0 hx 1 (hb hby d18_0) rfl rfl rfl ?_
  refine X0.getF hx (host := "") (Or.inl (w126 cx)) Via.refl P0 (hb hby d18_1) ?_
  intro T1 X1
  refine P.ifnullYes X1 hx 11 (hb hby d18_4) (by decide) (by decide) ?_
  refine P.iconst X1 hx 12 0 (hb hby d18_11) rfl rfl ?_
  exact WS.retN X1 (WL' := []) (FL' := []) hx (t := .boolean) hret (by simp) hlk (hb hby d18_12) (nle rfl) (nle rfl) ⟨rfl, rfl, rfl, rfl⟩
def Q_opisPresent1 (Z : State) (gC : Int32) (v_DE : Addr) (k_DE : ClassId) (v_EL : Addr) (v_EM : Addr) (v_OE : Addr) (m_OA : Addr) (x : Addr) (g : Addr) (h : Heap) (v : Option Value) (h' : Heap) (WL' FL' : List Addr) : Prop := v = some (.int 1) ∧ WL' = [] ∧ FL' = [] ∧ h' = h
theorem ct_opisPresent1 (cx : Cx a0 Z gC v_DE k_DE v_EL v_EM v_OE m_OA) (x : Addr) (g : Addr) (h : Heap) (WL FL : List Addr) (P0 : Fld Z h x "java/util/Optional" "value" "Ljava/lang/Object;" (.ref g)) :
    Ct l Z EL1 n0 (⟨"java/util/Optional", "isPresent", "()Z"⟩ : MethodName) jdk_32_method_6_code 1 (Option.some FieldType.boolean) ({ frames := 0, cells := 0, slots := 0, locals := 0 } : Room) #[(.ref x)] h WL FL (Q_opisPresent1 Z gC v_DE k_DE v_EL v_EM v_OE m_OA x g h) := by
  refine Ct.of (plainFor_of_name pn15) ?_
  intro p e s m below meth c s1 hx hby hml hnm hret hlk X0
  refine Wo.cast (f' := (mkF m 0 #[.val (.ref x)] [])) (by rfl) ?_
  show Wo _ _ _ _ _ _ _ _ _ _ _ s1 (mkF m 0 #[.val (.ref x)] [])
  refine P.aloadN X0 hx 1 (hb hby d18_0) rfl rfl rfl ?_
  refine X0.getF hx (host := "") (Or.inl (w126 cx)) Via.refl P0 (hb hby d18_1) ?_
  intro T1 X1
  refine P.ifnullNo X1 hx 7 (hb hby d18_4) rfl ?_
  refine P.iconst X1 hx 8 1 (hb hby d18_7) rfl rfl ?_
  refine P.goto X1 hx 12 (hb hby d18_8) (by decide) (by decide) ?_
  exact WS.retN X1 (WL' := []) (FL' := []) hx (t := .boolean) hret (by simp) hlk (hb hby d18_12) (nle rfl) (nle rfl) ⟨rfl, rfl, rfl, rfl⟩
def Q_opisEmpty0 (Z : State) (gC : Int32) (v_DE : Addr) (k_DE : ClassId) (v_EL : Addr) (v_EM : Addr) (v_OE : Addr) (m_OA : Addr) (x : Addr) (g : Addr) (h : Heap) (v : Option Value) (h' : Heap) (WL' FL' : List Addr) : Prop := v = some (.int 1) ∧ WL' = [] ∧ FL' = [] ∧ h' = h
theorem ct_opisEmpty0 (cx : Cx a0 Z gC v_DE k_DE v_EL v_EM v_OE m_OA) (x : Addr) (g : Addr) (h : Heap) (WL FL : List Addr) (P0 : Fld Z h x "java/util/Optional" "value" "Ljava/lang/Object;" .null) :
    Ct l Z EL1 n0 (⟨"java/util/Optional", "isEmpty", "()Z"⟩ : MethodName) jdk_32_method_7_code 1 (Option.some FieldType.boolean) ({ frames := 0, cells := 0, slots := 0, locals := 0 } : Room) #[(.ref x)] h WL FL (Q_opisEmpty0 Z gC v_DE k_DE v_EL v_EM v_OE m_OA x g h) := by
  refine Ct.of (plainFor_of_name pn15) ?_
  intro p e s m below meth c s1 hx hby hml hnm hret hlk X0
  refine Wo.cast (f' := (mkF m 0 #[.val (.ref x)] [])) (by rfl) ?_
  show Wo _ _ _ _ _ _ _ _ _ _ _ s1 (mkF m 0 #[.val (.ref x)] [])
  refine P.aloadN X0 hx 1 (hb hby d22_0) rfl rfl rfl ?_
  refine X0.getF hx (host := "") (Or.inl (w126 cx)) Via.refl P0 (hb hby d22_1) ?_
  intro T1 X1
  refine P.ifnonnullNo X1 hx 7 (hb hby d22_4) rfl ?_
  refine P.iconst X1 hx 8 1 (hb hby d22_7) rfl rfl ?_
  refine P.goto X1 hx 12 (hb hby d22_8) (by decide) (by decide) ?_
  exact WS.retN X1 (WL' := []) (FL' := []) hx (t := .boolean) hret (by simp) hlk (hb hby d22_12) (nle rfl) (nle rfl) ⟨rfl, rfl, rfl, rfl⟩
def Q_opisEmpty1 (Z : State) (gC : Int32) (v_DE : Addr) (k_DE : ClassId) (v_EL : Addr) (v_EM : Addr) (v_OE : Addr) (m_OA : Addr) (x : Addr) (g : Addr) (h : Heap) (v : Option Value) (h' : Heap) (WL' FL' : List Addr) : Prop := v = some (.int 0) ∧ WL' = [] ∧ FL' = [] ∧ h' = h
theorem ct_opisEmpty1 (cx : Cx a0 Z gC v_DE k_DE v_EL v_EM v_OE m_OA) (x : Addr) (g : Addr) (h : Heap) (WL FL : List Addr) (P0 : Fld Z h x "java/util/Optional" "value" "Ljava/lang/Object;" (.ref g)) :
    Ct l Z EL1 n0 (⟨"java/util/Optional", "isEmpty", "()Z"⟩ : MethodName) jdk_32_method_7_code 1 (Option.some FieldType.boolean) ({ frames := 0, cells := 0, slots := 0, locals := 0 } : Room) #[(.ref x)] h WL FL (Q_opisEmpty1 Z gC v_DE k_DE v_EL v_EM v_OE m_OA x g h) := by
  refine Ct.of (plainFor_of_name pn15) ?_
  intro p e s m below meth c s1 hx hby hml hnm hret hlk X0
  refine Wo.cast (f' := (mkF m 0 #[.val (.ref x)] [])) (by rfl) ?_
  show Wo _ _ _ _ _ _ _ _ _ _ _ s1 (mkF m 0 #[.val (.ref x)] [])
  refine P.aloadN X0 hx 1 (hb hby d22_0) rfl rfl rfl ?_
  refine X0.getF hx (host := "") (Or.inl (w126 cx)) Via.refl P0 (hb hby d22_1) ?_
  intro T1 X1
  refine P.ifnonnullYes X1 hx 11 (hb hby d22_4) (by decide) (by decide) ?_
  refine P.iconst X1 hx 12 0 (hb hby d22_11) rfl rfl ?_
  exact WS.retN X1 (WL' := []) (FL' := []) hx (t := .boolean) hret (by simp) hlk (hb hby d22_12) (nle rfl) (nle rfl) ⟨rfl, rfl, rfl, rfl⟩
def Q_opget (Z : State) (gC : Int32) (v_DE : Addr) (k_DE : ClassId) (v_EL : Addr) (v_EM : Addr) (v_OE : Addr) (m_OA : Addr) (x : Addr) (g : Addr) (h : Heap) (v : Option Value) (h' : Heap) (WL' FL' : List Addr) : Prop := v = some (.ref g) ∧ WL' = [] ∧ FL' = [] ∧ h' = h
theorem ct_opget (cx : Cx a0 Z gC v_DE k_DE v_EL v_EM v_OE m_OA) (x : Addr) (g : Addr) (h : Heap) (WL FL : List Addr) (P0 : Fld Z h x "java/util/Optional" "value" "Ljava/lang/Object;" (.ref g)) :
    Ct l Z EL1 n0 (⟨"java/util/Optional", "get", "()Ljava/lang/Object;"⟩ : MethodName) jdk_32_method_5_code 1 (Option.some (FieldType.object "java/lang/Object")) ({ frames := 0, cells := 0, slots := 0, locals := 0 } : Room) #[(.ref x)] h WL FL (Q_opget Z gC v_DE k_DE v_EL v_EM v_OE m_OA x g h) := by
  refine Ct.of (plainFor_of_name pn15) ?_
  intro p e s m below meth c s1 hx hby hml hnm hret hlk X0
  refine Wo.cast (f' := (mkF m 0 #[.val (.ref x)] [])) (by rfl) ?_
  show Wo _ _ _ _ _ _ _ _ _ _ _ s1 (mkF m 0 #[.val (.ref x)] [])
  refine P.aloadN X0 hx 1 (hb hby d49_0) rfl rfl rfl ?_
  refine X0.getF hx (host := "") (Or.inl (w126 cx)) Via.refl P0 (hb hby d49_1) ?_
  intro T1 X1
  refine P.ifnonnullYes X1 hx 17 (hb hby d49_4) (by decide) (by decide) ?_
  refine P.aloadN X1 hx 18 (hb hby d49_17) rfl rfl rfl ?_
  refine X1.getF hx (host := "") (Or.inl (w126 cx)) Via.refl P0 (hb hby d49_18) ?_
  intro T2 X2
  exact WS.retA X2 (WL' := []) (FL' := []) hx hret rfl rfl hlk (hb hby d49_21) (nle rfl) (nle rfl) ⟨rfl, rfl, rfl, rfl⟩
def Q_exini00 (Z : State) (gC : Int32) (v_DE : Addr) (k_DE : ClassId) (v_EL : Addr) (v_EM : Addr) (v_OE : Addr) (m_OA : Addr) (x : Addr) (lq : Addr) (l2 : Addr) (h : Heap) (v : Option Value) (h' : Heap) (WL' FL' : List Addr) : Prop := v = none ∧ WL' = [] ∧ FL' = [] ∧ Keep h h' [x] ∧ Fld Z h' x "com/example/lexbind/lexbind/messages/Explanation" "steps" "Ljava/util/List;" (.ref v_EL) ∧ Fld Z h' x "com/example/lexbind/lexbind/messages/Explanation" "text" "Ljava/util/Optional;" (.ref v_OE)
theorem ct_exini00 (cx : Cx a0 Z gC v_DE k_DE v_EL v_EM v_OE m_OA) (x : Addr) (lq : Addr) (l2 : Addr) (h : Heap) (WL FL : List Addr) (P0 : Exa Z h x "com/example/lexbind/lexbind/messages/Explanation") (P1 : Fld Z h x "com/example/lexbind/lexbind/messages/Explanation" "steps" "Ljava/util/List;" .null) (P2 : Fld Z h x "com/example/lexbind/lexbind/messages/Explanation" "text" "Ljava/util/Optional;" .null) (P3 : Fld Z h x "com/example/lexbind/lexbind/messages/Explanation" "readAgain" "Ljava/util/List;" .null) (P4 : x ∈ WL) (P5 : Exa Z h lq "java/util/ArrayList") (P6 : Fld Z h lq "java/util/ArrayList" "size" "I" (.int 0)) (P7 : Exa Z h l2 "java/util/ArrayList") (P8 : Fld Z h l2 "java/util/ArrayList" "size" "I" (.int 0)) :
    Ct l Z EL1 n0 (⟨"com/example/lexbind/lexbind/messages/Explanation", "<init>", "(Ljava/util/List;Ljava/util/Optional;Ljava/util/List;)V"⟩ : MethodName) prog_36_method_1_code 4 (Option.none : Option Jvm.ClassFile.FieldType) ({ frames := 3, cells := 2, slots := 20, locals := 37 } : Room) #[(.ref x), (.ref lq), (.ref v_OE), (.ref l2)] h WL FL (Q_exini00 Z gC v_DE k_DE v_EL v_EM v_OE m_OA x lq l2 h) := by
  refine Ct.of (plainFor_of_name pn16) ?_
  intro p e s m below meth c s1 hx hby hml hnm hret hlk X0
  refine Wo.cast (f' := (mkF m 0 #[.val (.ref x), .val (.ref lq), .val (.ref v_OE), .val (.ref l2)] [])) (by rfl) ?_
  have K0 : Keep h h [x] := Keep.refl _ _
  show Wo _ _ _ _ _ _ _ _ _ _ _ s1 (mkF m 0 #[.val (.ref x), .val (.ref lq), .val (.ref v_OE), .val (.ref l2)] [])
  refine P.aloadN X0 hx 1 (hb hby d13_0) rfl rfl rfl ?_
  refine X0.callC hx rfl (w89 cx) (w36 cx) (w39 cx) (by decide) (Ct.pay (W := 0) (ct_recini cx x h _ _ ) (w39 cx) (w38 cx) (nle rfl) (nle rfl)) (by rw [hml]; rfl) (argsL := []) (rest := []) (lenOf pd3 rfl) rfl rfl (Nat.le_of_eq rfl) (hb hby d13_1) (nle rfl) (nle rfl) ?_
  rintro T1 h1 _ _ _ X1 ⟨rfl, rfl, rfl, J1⟩
  rw [J1] at X1
  refine P.aloadN X1 hx 5 (hb hby d13_4) rfl rfl rfl ?_
  refine X1.callS hx (w90 cx) (w91 cx) (w92 cx) (w93 cx) (by decide) (Ct.pay (W := 0) (ct_cof0 cx lq h _ _ P5 P6) (w93 cx) (w92 cx) (nle rfl) (nle rfl)) (by rw [hml]; rfl) (argsL := [.ref lq]) (rest := []) (lenOf pd18 rfl) rfl rfl (Nat.le_of_eq rfl) (hb hby d13_5) (nle rfl) (nle rfl) ?_
  rintro T2 h2 _ _ _ X2 ⟨rfl, rfl, rfl, J2⟩
  rw [J2] at X2
  refine P.astoreN X2 hx 9 #[.val (.ref x), .val (.ref v_EL), .val (.ref v_OE), .val (.ref l2)] (hb hby d13_8) rfl rfl rfl ?_
  refine P.aloadN X2 hx 10 (hb hby d13_9) rfl rfl rfl ?_
  refine X2.ldcO hx (w119 cx) (strAtoms cx) (hb hby d13_10) (n := 16) (nle rfl) (nle rfl) (nle rfl) (nle rfl) ?_
  intro T3 h3 a3 X3 E3
  have K4 : Keep h h3 [x] := K0.ext E3
  refine X3.callS hx (w120 cx) (w43 cx) (w44 cx) (w45 cx) (by decide) (Ct.pay (W := 0) (ct_rnn2 cx v_OE a3 h3 _ _ ) (w45 cx) (w44 cx) (nle rfl) (nle rfl)) (by rw [hml]; rfl) (argsL := [.ref v_OE, .ref a3]) (rest := []) (lenOf pd4 rfl) rfl rfl (Nat.le_of_eq rfl) (hb hby d13_12) (nle rfl) (nle rfl) ?_
  rintro T5 h5 _ _ _ X5 ⟨rfl, rfl, rfl, J5⟩
  rw [J5] at X5
  refine P.pop X5 hx 16 (hb hby d13_15) rfl rfl ?_
  refine P.aloadN X5 hx 17 (hb hby d13_16) rfl rfl rfl ?_
  have F6 := P8.ext E3
  have F7 := P7.ext E3
  refine X5.callS hx (w90 cx) (w91 cx) (w92 cx) (w93 cx) (by decide) (Ct.pay (W := 0) (ct_cof0 cx l2 h3 _ _ F7 F6) (w93 cx) (w92 cx) (nle rfl) (nle rfl)) (by rw [hml]; rfl) (argsL := [.ref l2]) (rest := []) (lenOf pd18 rfl) rfl rfl (Nat.le_of_eq rfl) (hb hby d13_17) (nle rfl) (nle rfl) ?_
  rintro T8 h8 _ _ _ X8 ⟨rfl, rfl, rfl, J8⟩
  rw [J8] at X8
  refine P.astoreN X8 hx 21 #[.val (.ref x), .val (.ref v_EL), .val (.ref v_OE), .val (.ref v_EL)] (hb hby d13_20) rfl rfl rfl ?_
  refine P.aloadN X8 hx 22 (hb hby d13_21) rfl rfl rfl ?_
  refine X8.callV hx (w121 cx) (w122 cx) (w124 cx) (w123 cx) (fun _ hZ => nf hZ (w124 cx)) (by decide) ((E_OE cx).ext X8.old.2) (Ct.pay (W := 0) (ct_opisPresent0 cx v_OE v_OE h3 _ _ ((F_OE0 cx).ext X8.old.2)) (w125 cx) (w80 cx) (nle rfl) (nle rfl)) (by rw [hml]; rfl) (argsL := []) (rest := []) (lenOf pd16 rfl) rfl rfl (Nat.le_of_eq rfl) (hb hby d13_22) (nle rfl) (nle rfl) ?_
  rintro T9 h9 _ _ _ X9 ⟨rfl, rfl, rfl, J9⟩
  rw [J9] at X9
  refine P.ifYes X9 hx 47 (hb hby d13_25) (by decide) (by decide) (by decide) ?_
  refine P.aloadN X9 hx 48 (hb hby d13_47) rfl rfl rfl ?_
  refine P.aloadN X9 hx 49 (hb hby d13_48) rfl rfl rfl ?_
  have F10 := P1.ext E3
  have F11 := P0.ext E3
  refine X9.putF hx (host := "") (Or.inl (w128 cx)) Via.refl F10 F11 (Or.inr ⟨(w129 cx), rfl, hnm⟩) (w84 cx) (ty := (.object "java/util/List")) (by decide) rfl rfl P4 (hb hby d13_49) ?_
  intro T12 h12 X12 W12 G12
  have K13 : Keep h h12 [x] := K4.wr W12 (Or.inl (mg 0 rfl))
  refine P.aloadN X12 hx 53 (hb hby d13_52) rfl rfl rfl ?_
  refine P.aloadN X12 hx 54 (hb hby d13_53) rfl rfl rfl ?_
  have F14 := (P2.ext E3).other W12 (Or.inr (slot_ne (Or.inr (w131 cx)) (Or.inr (w129 cx)) (by decide) (t := (.object "java/util/Optional")) (t' := (.object "java/util/List")) (by decide) (by decide)))
  have F15 := F11.wr W12
  refine X12.putF hx (host := "") (Or.inl (w130 cx)) Via.refl F14 F15 (Or.inr ⟨(w131 cx), rfl, hnm⟩) (w84 cx) (ty := (.object "java/util/Optional")) (by decide) rfl rfl P4 (hb hby d13_54) ?_
  intro T16 h16 X16 W16 G16
  have K17 : Keep h h16 [x] := K13.wr W16 (Or.inl (mg 0 rfl))
  refine P.aloadN X16 hx 58 (hb hby d13_57) rfl rfl rfl ?_
  refine P.aloadN X16 hx 59 (hb hby d13_58) rfl rfl rfl ?_
  have F18 := ((P3.ext E3).other W12 (Or.inr (slot_ne (Or.inr (w133 cx)) (Or.inr (w129 cx)) (by decide) (t := (.object "java/util/List")) (t' := (.object "java/util/List")) (by decide) (by decide)))).other W16 (Or.inr (slot_ne (Or.inr (w133 cx)) (Or.inr (w131 cx)) (by decide) (t := (.object "java/util/List")) (t' := (.object "java/util/Optional")) (by decide) (by decide)))
  have F19 := F15.wr W16
  refine X16.putF hx (host := "") (Or.inl (w132 cx)) Via.refl F18 F19 (Or.inr ⟨(w133 cx), rfl, hnm⟩) (w84 cx) (ty := (.object "java/util/List")) (by decide) rfl rfl P4 (hb hby d13_59) ?_
  intro T20 h20 X20 W20 G20
  have K21 : Keep h h20 [x] := K17.wr W20 (Or.inl (mg 0 rfl))
  have F22 := (G12.other W16 (Or.inr (slot_ne (Or.inr (w129 cx)) (Or.inr (w131 cx)) (by decide) (t := (.object "java/util/List")) (t' := (.object "java/util/Optional")) (by decide) (by decide)))).other W20 (Or.inr (slot_ne (Or.inr (w129 cx)) (Or.inr (w133 cx)) (by decide) (t := (.object "java/util/List")) (t' := (.object "java/util/List")) (by decide) (by decide)))
  have F23 := G16.other W20 (Or.inr (slot_ne (Or.inr (w131 cx)) (Or.inr (w133 cx)) (by decide) (t := (.object "java/util/Optional")) (t' := (.object "java/util/List")) (by decide) (by decide)))
  exact WS.retV X20 (WL' := []) (FL' := []) hx hret hlk (hb hby d13_62) (nle rfl) (nle rfl) ⟨rfl, rfl, rfl, K21, F22, F23⟩
def Q_exini10 (Z : State) (gC : Int32) (v_DE : Addr) (k_DE : ClassId) (v_EL : Addr) (v_EM : Addr) (v_OE : Addr) (m_OA : Addr) (x : Addr) (lq : Addr) (b : Addr) (kb : ClassId) (y0 : Addr) (l2 : Addr) (h : Heap) (v : Option Value) (h' : Heap) (WL' FL' : List Addr) : Prop := ∃ r : Addr, v = none ∧ WL' = [r] ∧ FL' = [] ∧ Keep h h' [x] ∧ h.size ≤ r ∧ Fld Z h' x "com/example/lexbind/lexbind/messages/Explanation" "steps" "Ljava/util/List;" (.ref r) ∧ Fld Z h' x "com/example/lexbind/lexbind/messages/Explanation" "text" "Ljava/util/Optional;" (.ref v_OE) ∧ Exa Z h' r "java/util/ImmutableCollections$List12" ∧ Fld Z h' r "java/util/ImmutableCollections$List12" "e0" "Ljava/lang/Object;" (.ref y0) ∧ Fld Z h' r "java/util/ImmutableCollections$List12" "e1" "Ljava/lang/Object;" (.ref v_EM)
theorem ct_exini10 (cx : Cx a0 Z gC v_DE k_DE v_EL v_EM v_OE m_OA) (x : Addr) (lq : Addr) (b : Addr) (kb : ClassId) (y0 : Addr) (l2 : Addr) (h : Heap) (WL FL : List Addr) (P0 : Exa Z h x "com/example/lexbind/lexbind/messages/Explanation") (P1 : Fld Z h x "com/example/lexbind/lexbind/messages/Explanation" "steps" "Ljava/util/List;" .null) (P2 : Fld Z h x "com/example/lexbind/lexbind/messages/Explanation" "text" "Ljava/util/Optional;" .null) (P3 : Fld Z h x "com/example/lexbind/lexbind/messages/Explanation" "readAgain" "Ljava/util/List;" .null) (P4 : x ∈ WL) (P5 : Exa Z h lq "java/util/ArrayList") (P6 : Fld Z h lq "java/util/ArrayList" "size" "I" (.int 1)) (P7 : Fld Z h lq "java/util/ArrayList" "elementData" "[Ljava/lang/Object;" (.ref b)) (P8 : Arv Z h b kb (.object "java/lang/Object") (10 : Int32) [(.ref y0), .null, .null, .null, .null, .null, .null, .null, .null, .null] .null) (P9 : Exa Z h b "[Ljava/lang/Object;") (P10 : Exa Z h y0 "com/example/lexbind/lexbind/messages/Explanation$Step") (P11 : Exa Z h l2 "java/util/ArrayList") (P12 : Fld Z h l2 "java/util/ArrayList" "size" "I" (.int 0)) :
    Ct l Z EL1 n0 (⟨"com/example/lexbind/lexbind/messages/Explanation", "<init>", "(Ljava/util/List;Ljava/util/Optional;Ljava/util/List;)V"⟩ : MethodName) prog_36_method_1_code 4 (Option.none : Option Jvm.ClassFile.FieldType) ({ frames := 8, cells := 4, slots := 23, locals := 100 } : Room) #[(.ref x), (.ref lq), (.ref v_OE), (.ref l2)] h WL FL (Q_exini10 Z gC v_DE k_DE v_EL v_EM v_OE m_OA x lq b kb y0 l2 h) := by
  refine Ct.of (plainFor_of_name pn16) ?_
  intro p e s m below meth c s1 hx hby hml hnm hret hlk X0
  refine Wo.cast (f' := (mkF m 0 #[.val (.ref x), .val (.ref lq), .val (.ref v_OE), .val (.ref l2)] [])) (by rfl) ?_
  have K0 : Keep h h [x] := Keep.refl _ _
  show Wo _ _ _ _ _ _ _ _ _ _ _ s1 (mkF m 0 #[.val (.ref x), .val (.ref lq), .val (.ref v_OE), .val (.ref l2)] [])
  refine P.aloadN X0 hx 1 (hb hby d13_0) rfl rfl rfl ?_
  refine X0.callC hx rfl (w89 cx) (w36 cx) (w39 cx) (by decide) (Ct.pay (W := 0) (ct_recini cx x h _ _ ) (w39 cx) (w38 cx) (nle rfl) (nle rfl)) (by rw [hml]; rfl) (argsL := []) (rest := []) (lenOf pd3 rfl) rfl rfl (Nat.le_of_eq rfl) (hb hby d13_1) (nle rfl) (nle rfl) ?_
  rintro T1 h1 _ _ _ X1 ⟨rfl, rfl, rfl, J1⟩
  rw [J1] at X1
  refine P.aloadN X1 hx 5 (hb hby d13_4) rfl rfl rfl ?_
  refine X1.callS hx (w90 cx) (w91 cx) (w92 cx) (w93 cx) (by decide) (Ct.pay (W := 0) (ct_cof1 cx lq b kb y0 h _ _ P5 P6 P7 P8 P9 P10) (w93 cx) (w92 cx) (nle rfl) (nle rfl)) (by rw [hml]; rfl) (argsL := [.ref lq]) (rest := []) (lenOf pd18 rfl) rfl rfl (Nat.le_of_eq rfl) (hb hby d13_5) (nle rfl) (nle rfl) ?_
  rintro T2 h2 _ _ _ X2 ⟨a3, rfl, rfl, rfl, J2, g7, G4, G5, G6⟩
  have ge8 : h.size ≤ a3 := Nat.le_trans K0.1 g7
  have K9 : Keep h h2 [x] := K0.trans J2 all0
  refine P.astoreN X2 hx 9 #[.val (.ref x), .val (.ref a3), .val (.ref v_OE), .val (.ref l2)] (hb hby d13_8) rfl rfl rfl ?_
  refine P.aloadN X2 hx 10 (hb hby d13_9) rfl rfl rfl ?_
  refine X2.ldcO hx (w119 cx) (strAtoms cx) (hb hby d13_10) (n := 16) (nle rfl) (nle rfl) (nle rfl) (nle rfl) ?_
  intro T10 h10 a10 X10 E10
  have K11 : Keep h h10 [x] := K9.ext E10
  refine X10.callS hx (w120 cx) (w43 cx) (w44 cx) (w45 cx) (by decide) (Ct.pay (W := 0) (ct_rnn2 cx v_OE a10 h10 _ _ ) (w45 cx) (w44 cx) (nle rfl) (nle rfl)) (by rw [hml]; rfl) (argsL := [.ref v_OE, .ref a10]) (rest := []) (lenOf pd4 rfl) rfl rfl (Nat.le_of_eq rfl) (hb hby d13_12) (nle rfl) (nle rfl) ?_
  rintro T12 h12 _ _ _ X12 ⟨rfl, rfl, rfl, J12⟩
  rw [J12] at X12
  refine P.pop X12 hx 16 (hb hby d13_15) rfl rfl ?_
  refine P.aloadN X12 hx 17 (hb hby d13_16) rfl rfl rfl ?_
  have F13 := (P12.keep J2 nin0).ext E10
  have F14 := (P11.keep J2).ext E10
  refine X12.callS hx (w90 cx) (w91 cx) (w92 cx) (w93 cx) (by decide) (Ct.pay (W := 0) (ct_cof0 cx l2 h10 _ _ F14 F13) (w93 cx) (w92 cx) (nle rfl) (nle rfl)) (by rw [hml]; rfl) (argsL := [.ref l2]) (rest := []) (lenOf pd18 rfl) rfl rfl (Nat.le_of_eq rfl) (hb hby d13_17) (nle rfl) (nle rfl) ?_
  rintro T15 h15 _ _ _ X15 ⟨rfl, rfl, rfl, J15⟩
  rw [J15] at X15
  refine P.astoreN X15 hx 21 #[.val (.ref x), .val (.ref a3), .val (.ref v_OE), .val (.ref v_EL)] (hb hby d13_20) rfl rfl rfl ?_
  refine P.aloadN X15 hx 22 (hb hby d13_21) rfl rfl rfl ?_
  refine X15.callV hx (w121 cx) (w122 cx) (w124 cx) (w123 cx) (fun _ hZ => nf hZ (w124 cx)) (by decide) ((E_OE cx).ext X15.old.2) (Ct.pay (W := 0) (ct_opisPresent0 cx v_OE v_OE h10 _ _ ((F_OE0 cx).ext X15.old.2)) (w125 cx) (w80 cx) (nle rfl) (nle rfl)) (by rw [hml]; rfl) (argsL := []) (rest := []) (lenOf pd16 rfl) rfl rfl (Nat.le_of_eq rfl) (hb hby d13_22) (nle rfl) (nle rfl) ?_
  rintro T16 h16 _ _ _ X16 ⟨rfl, rfl, rfl, J16⟩
  rw [J16] at X16
  refine P.ifYes X16 hx 47 (hb hby d13_25) (by decide) (by decide) (by decide) ?_
  refine P.aloadN X16 hx 48 (hb hby d13_47) rfl rfl rfl ?_
  refine P.aloadN X16 hx 49 (hb hby d13_48) rfl rfl rfl ?_
  have F17 := (P1.keep J2 nin0).ext E10
  have F18 := (P0.keep J2).ext E10
  refine X16.putF hx (host := "") (Or.inl (w128 cx)) Via.refl F17 F18 (Or.inr ⟨(w129 cx), rfl, hnm⟩) (w84 cx) (ty := (.object "java/util/List")) (by decide) rfl rfl (mc P4) (hb hby d13_49) ?_
  intro T19 h19 X19 W19 G19
  have K20 : Keep h h19 [x] := K11.wr W19 (Or.inl (mg 0 rfl))
  refine P.aloadN X19 hx 53 (hb hby d13_52) rfl rfl rfl ?_
  refine P.aloadN X19 hx 54 (hb hby d13_53) rfl rfl rfl ?_
  have F21 := ((P2.keep J2 nin0).ext E10).other W19 (Or.inr (slot_ne (Or.inr (w131 cx)) (Or.inr (w129 cx)) (by decide) (t := (.object "java/util/Optional")) (t' := (.object "java/util/List")) (by decide) (by decide)))
  have F22 := F18.wr W19
  refine X19.putF hx (host := "") (Or.inl (w130 cx)) Via.refl F21 F22 (Or.inr ⟨(w131 cx), rfl, hnm⟩) (w84 cx) (ty := (.object "java/util/Optional")) (by decide) rfl rfl (mc P4) (hb hby d13_54) ?_
  intro T23 h23 X23 W23 G23
  have K24 : Keep h h23 [x] := K20.wr W23 (Or.inl (mg 0 rfl))
  refine P.aloadN X23 hx 58 (hb hby d13_57) rfl rfl rfl ?_
  refine P.aloadN X23 hx 59 (hb hby d13_58) rfl rfl rfl ?_
  have F25 := (((P3.keep J2 nin0).ext E10).other W19 (Or.inr (slot_ne (Or.inr (w133 cx)) (Or.inr (w129 cx)) (by decide) (t := (.object "java/util/List")) (t' := (.object "java/util/List")) (by decide) (by decide)))).other W23 (Or.inr (slot_ne (Or.inr (w133 cx)) (Or.inr (w131 cx)) (by decide) (t := (.object "java/util/List")) (t' := (.object "java/util/Optional")) (by decide) (by decide)))
  have F26 := F22.wr W23
  refine X23.putF hx (host := "") (Or.inl (w132 cx)) Via.refl F25 F26 (Or.inr ⟨(w133 cx), rfl, hnm⟩) (w84 cx) (ty := (.object "java/util/List")) (by decide) rfl rfl (mc P4) (hb hby d13_59) ?_
  intro T27 h27 X27 W27 G27
  have K28 : Keep h h27 [x] := K24.wr W27 (Or.inl (mg 0 rfl))
  have F29 := (G19.other W23 (Or.inr (slot_ne (Or.inr (w129 cx)) (Or.inr (w131 cx)) (by decide) (t := (.object "java/util/List")) (t' := (.object "java/util/Optional")) (by decide) (by decide)))).other W27 (Or.inr (slot_ne (Or.inr (w129 cx)) (Or.inr (w133 cx)) (by decide) (t := (.object "java/util/List")) (t' := (.object "java/util/List")) (by decide) (by decide)))
  have F30 := G23.other W27 (Or.inr (slot_ne (Or.inr (w131 cx)) (Or.inr (w133 cx)) (by decide) (t := (.object "java/util/Optional")) (t' := (.object "java/util/List")) (by decide) (by decide)))
  have F31 := (((G4.ext E10).wr W19).wr W23).wr W27
  have F32 := (((G5.ext E10).other W19 (Or.inl (X27.neT (A := [a3]) (B := WL) (mg 0 rfl) P4))).other W23 (Or.inl (X27.neT (A := [a3]) (B := WL) (mg 0 rfl) P4))).other W27 (Or.inl (X27.neT (A := [a3]) (B := WL) (mg 0 rfl) P4))
  have F33 := (((G6.ext E10).other W19 (Or.inl (X27.neT (A := [a3]) (B := WL) (mg 0 rfl) P4))).other W23 (Or.inl (X27.neT (A := [a3]) (B := WL) (mg 0 rfl) P4))).other W27 (Or.inl (X27.neT (A := [a3]) (B := WL) (mg 0 rfl) P4))
  exact WS.retV X27 (WL' := [a3]) (FL' := []) hx hret hlk (hb hby d13_62) (nle rfl) (nle rfl) ⟨a3, rfl, rfl, rfl, K28, ge8, F29, F30, F31, F32, F33⟩
def Q_exini11 (Z : State) (gC : Int32) (v_DE : Addr) (k_DE : ClassId) (v_EL : Addr) (v_EM : Addr) (v_OE : Addr) (m_OA : Addr) (x : Addr) (lq : Addr) (b : Addr) (kb : ClassId) (y0 : Addr) (l2 : Addr) (o : Addr) (g : Addr) (h : Heap) (v : Option Value) (h' : Heap) (WL' FL' : List Addr) : Prop := ∃ r : Addr, v = none ∧ WL' = [r] ∧ FL' = [] ∧ Keep h h' [x] ∧ h.size ≤ r ∧ Fld Z h' x "com/example/lexbind/lexbind/messages/Explanation" "steps" "Ljava/util/List;" (.ref r) ∧ Fld Z h' x "com/example/lexbind/lexbind/messages/Explanation" "text" "Ljava/util/Optional;" (.ref o) ∧ Exa Z h' r "java/util/ImmutableCollections$List12" ∧ Fld Z h' r "java/util/ImmutableCollections$List12" "e0" "Ljava/lang/Object;" (.ref y0) ∧ Fld Z h' r "java/util/ImmutableCollections$List12" "e1" "Ljava/lang/Object;" (.ref v_EM)
theorem ct_exini11 (cx : Cx a0 Z gC v_DE k_DE v_EL v_EM v_OE m_OA) (x : Addr) (lq : Addr) (b : Addr) (kb : ClassId) (y0 : Addr) (l2 : Addr) (o : Addr) (g : Addr) (h : Heap) (WL FL : List Addr) (P0 : Exa Z h x "com/example/lexbind/lexbind/messages/Explanation") (P1 : Fld Z h x "com/example/lexbind/lexbind/messages/Explanation" "steps" "Ljava/util/List;" .null) (P2 : Fld Z h x "com/example/lexbind/lexbind/messages/Explanation" "text" "Ljava/util/Optional;" .null) (P3 : Fld Z h x "com/example/lexbind/lexbind/messages/Explanation" "readAgain" "Ljava/util/List;" .null) (P4 : x ∈ WL) (P5 : Exa Z h lq "java/util/ArrayList") (P6 : Fld Z h lq "java/util/ArrayList" "size" "I" (.int 1)) (P7 : Fld Z h lq "java/util/ArrayList" "elementData" "[Ljava/lang/Object;" (.ref b)) (P8 : Arv Z h b kb (.object "java/lang/Object") (10 : Int32) [(.ref y0), .null, .null, .null, .null, .null, .null, .null, .null, .null] .null) (P9 : Exa Z h b "[Ljava/lang/Object;") (P10 : Exa Z h y0 "com/example/lexbind/lexbind/messages/Explanation$Step") (P11 : Exa Z h l2 "java/util/ArrayList") (P12 : Fld Z h l2 "java/util/ArrayList" "size" "I" (.int 0)) (P13 : Exa Z h o "java/util/Optional") (P14 : Fld Z h o "java/util/Optional" "value" "Ljava/lang/Object;" (.ref g)) :
    Ct l Z EL1 n0 (⟨"com/example/lexbind/lexbind/messages/Explanation", "<init>", "(Ljava/util/List;Ljava/util/Optional;Ljava/util/List;)V"⟩ : MethodName) prog_36_method_1_code 4 (Option.none : Option Jvm.ClassFile.FieldType) ({ frames := 8, cells := 4, slots := 23, locals := 100 } : Room) #[(.ref x), (.ref lq), (.ref o), (.ref l2)] h WL FL (Q_exini11 Z gC v_DE k_DE v_EL v_EM v_OE m_OA x lq b kb y0 l2 o g h) := by
  refine Ct.of (plainFor_of_name pn16) ?_
  intro p e s m below meth c s1 hx hby hml hnm hret hlk X0
  refine Wo.cast (f' := (mkF m 0 #[.val (.ref x), .val (.ref lq), .val (.ref o), .val (.ref l2)] [])) (by rfl) ?_
  have K0 : Keep h h [x] := Keep.refl _ _
  show Wo _ _ _ _ _ _ _ _ _ _ _ s1 (mkF m 0 #[.val (.ref x), .val (.ref lq), .val (.ref o), .val (.ref l2)] [])
  refine P.aloadN X0 hx 1 (hb hby d13_0) rfl rfl rfl ?_
  refine X0.callC hx rfl (w89 cx) (w36 cx) (w39 cx) (by decide) (Ct.pay (W := 0) (ct_recini cx x h _ _ ) (w39 cx) (w38 cx) (nle rfl) (nle rfl)) (by rw [hml]; rfl) (argsL := []) (rest := []) (lenOf pd3 rfl) rfl rfl (Nat.le_of_eq rfl) (hb hby d13_1) (nle rfl) (nle rfl) ?_
  rintro T1 h1 _ _ _ X1 ⟨rfl, rfl, rfl, J1⟩
  rw [J1] at X1
  refine P.aloadN X1 hx 5 (hb hby d13_4) rfl rfl rfl ?_
  refine X1.callS hx (w90 cx) (w91 cx) (w92 cx) (w93 cx) (by decide) (Ct.pay (W := 0) (ct_cof1 cx lq b kb y0 h _ _ P5 P6 P7 P8 P9 P10) (w93 cx) (w92 cx) (nle rfl) (nle rfl)) (by rw [hml]; rfl) (argsL := [.ref lq]) (rest := []) (lenOf pd18 rfl) rfl rfl (Nat.le_of_eq rfl) (hb hby d13_5) (nle rfl) (nle rfl) ?_
  rintro T2 h2 _ _ _ X2 ⟨a3, rfl, rfl, rfl, J2, g7, G4, G5, G6⟩
  have ge8 : h.size ≤ a3 := Nat.le_trans K0.1 g7
  have K9 : Keep h h2 [x] := K0.trans J2 all0
  refine P.astoreN X2 hx 9 #[.val (.ref x), .val (.ref a3), .val (.ref o), .val (.ref l2)] (hb hby d13_8) rfl rfl rfl ?_
  refine P.aloadN X2 hx 10 (hb hby d13_9) rfl rfl rfl ?_
  refine X2.ldcO hx (w119 cx) (strAtoms cx) (hb hby d13_10) (n := 16) (nle rfl) (nle rfl) (nle rfl) (nle rfl) ?_
  intro T10 h10 a10 X10 E10
  have K11 : Keep h h10 [x] := K9.ext E10
  refine X10.callS hx (w120 cx) (w43 cx) (w44 cx) (w45 cx) (by decide) (Ct.pay (W := 0) (ct_rnn2 cx o a10 h10 _ _ ) (w45 cx) (w44 cx) (nle rfl) (nle rfl)) (by rw [hml]; rfl) (argsL := [.ref o, .ref a10]) (rest := []) (lenOf pd4 rfl) rfl rfl (Nat.le_of_eq rfl) (hb hby d13_12) (nle rfl) (nle rfl) ?_
  rintro T12 h12 _ _ _ X12 ⟨rfl, rfl, rfl, J12⟩
  rw [J12] at X12
  refine P.pop X12 hx 16 (hb hby d13_15) rfl rfl ?_
  refine P.aloadN X12 hx 17 (hb hby d13_16) rfl rfl rfl ?_
  have F13 := (P12.keep J2 nin0).ext E10
  have F14 := (P11.keep J2).ext E10
  refine X12.callS hx (w90 cx) (w91 cx) (w92 cx) (w93 cx) (by decide) (Ct.pay (W := 0) (ct_cof0 cx l2 h10 _ _ F14 F13) (w93 cx) (w92 cx) (nle rfl) (nle rfl)) (by rw [hml]; rfl) (argsL := [.ref l2]) (rest := []) (lenOf pd18 rfl) rfl rfl (Nat.le_of_eq rfl) (hb hby d13_17) (nle rfl) (nle rfl) ?_
  rintro T15 h15 _ _ _ X15 ⟨rfl, rfl, rfl, J15⟩
  rw [J15] at X15
  refine P.astoreN X15 hx 21 #[.val (.ref x), .val (.ref a3), .val (.ref o), .val (.ref v_EL)] (hb hby d13_20) rfl rfl rfl ?_
  refine P.aloadN X15 hx 22 (hb hby d13_21) rfl rfl rfl ?_
  have F16 := (P13.keep J2).ext E10
  have F17 := (P14.keep J2 nin0).ext E10
  refine X15.callV hx (w121 cx) (w122 cx) (w124 cx) (w123 cx) (fun _ hZ => nf hZ (w124 cx)) (by decide) F16 (Ct.pay (W := 0) (ct_opisPresent1 cx o g h10 _ _ F17) (w125 cx) (w80 cx) (nle rfl) (nle rfl)) (by rw [hml]; rfl) (argsL := []) (rest := []) (lenOf pd16 rfl) rfl rfl (Nat.le_of_eq rfl) (hb hby d13_22) (nle rfl) (nle rfl) ?_
  rintro T18 h18 _ _ _ X18 ⟨rfl, rfl, rfl, J18⟩
  rw [J18] at X18
  refine P.ifNo X18 hx 28 (hb hby d13_25) (by decide) rfl ?_
  refine P.aloadN X18 hx 29 (hb hby d13_28) rfl rfl rfl ?_
  have F19 := G4.ext E10
  have F20 := G5.ext E10
  have F21 := G6.ext E10
  refine X18.callI hx (w280 cx) (w281 cx) (w282 cx) (w341 cx) (w342 cx) (w343 cx) (w344 cx) (w345 cx) (by decide) F19 (Ct.pay (W := 0) (ct_lemp1 cx a3 y0 h10 _ _ F19 F20 F21) (w346 cx) (w323 cx) (nle rfl) (nle rfl)) (by rw [hml]; rfl) (argsL := []) (rest := []) (lenOf pd16 rfl) rfl rfl (Nat.le_of_eq rfl) (hb hby d13_29) (nle rfl) (nle rfl) ?_
  rintro T22 h22 _ _ _ X22 ⟨rfl, rfl, rfl, J22⟩
  rw [J22] at X22
  refine P.ifYes X22 hx 47 (hb hby d13_34) (by decide) (by decide) (by decide) ?_
  refine P.aloadN X22 hx 48 (hb hby d13_47) rfl rfl rfl ?_
  refine P.aloadN X22 hx 49 (hb hby d13_48) rfl rfl rfl ?_
  have F23 := (P1.keep J2 nin0).ext E10
  have F24 := (P0.keep J2).ext E10
  refine X22.putF hx (host := "") (Or.inl (w128 cx)) Via.refl F23 F24 (Or.inr ⟨(w129 cx), rfl, hnm⟩) (w84 cx) (ty := (.object "java/util/List")) (by decide) rfl rfl (mc P4) (hb hby d13_49) ?_
  intro T25 h25 X25 W25 G25
  have K26 : Keep h h25 [x] := K11.wr W25 (Or.inl (mg 0 rfl))
  refine P.aloadN X25 hx 53 (hb hby d13_52) rfl rfl rfl ?_
  refine P.aloadN X25 hx 54 (hb hby d13_53) rfl rfl rfl ?_
  have F27 := ((P2.keep J2 nin0).ext E10).other W25 (Or.inr (slot_ne (Or.inr (w131 cx)) (Or.inr (w129 cx)) (by decide) (t := (.object "java/util/Optional")) (t' := (.object "java/util/List")) (by decide) (by decide)))
  have F28 := F24.wr W25
  refine X25.putF hx (host := "") (Or.inl (w130 cx)) Via.refl F27 F28 (Or.inr ⟨(w131 cx), rfl, hnm⟩) (w84 cx) (ty := (.object "java/util/Optional")) (by decide) rfl rfl (mc P4) (hb hby d13_54) ?_
  intro T29 h29 X29 W29 G29
  have K30 : Keep h h29 [x] := K26.wr W29 (Or.inl (mg 0 rfl))
  refine P.aloadN X29 hx 58 (hb hby d13_57) rfl rfl rfl ?_
  refine P.aloadN X29 hx 59 (hb hby d13_58) rfl rfl rfl ?_
  have F31 := (((P3.keep J2 nin0).ext E10).other W25 (Or.inr (slot_ne (Or.inr (w133 cx)) (Or.inr (w129 cx)) (by decide) (t := (.object "java/util/List")) (t' := (.object "java/util/List")) (by decide) (by decide)))).other W29 (Or.inr (slot_ne (Or.inr (w133 cx)) (Or.inr (w131 cx)) (by decide) (t := (.object "java/util/List")) (t' := (.object "java/util/Optional")) (by decide) (by decide)))
  have F32 := F28.wr W29
  refine X29.putF hx (host := "") (Or.inl (w132 cx)) Via.refl F31 F32 (Or.inr ⟨(w133 cx), rfl, hnm⟩) (w84 cx) (ty := (.object "java/util/List")) (by decide) rfl rfl (mc P4) (hb hby d13_59) ?_
  intro T33 h33 X33 W33 G33
  have K34 : Keep h h33 [x] := K30.wr W33 (Or.inl (mg 0 rfl))
  have F35 := (G25.other W29 (Or.inr (slot_ne (Or.inr (w129 cx)) (Or.inr (w131 cx)) (by decide) (t := (.object "java/util/List")) (t' := (.object "java/util/Optional")) (by decide) (by decide)))).other W33 (Or.inr (slot_ne (Or.inr (w129 cx)) (Or.inr (w133 cx)) (by decide) (t := (.object "java/util/List")) (t' := (.object "java/util/List")) (by decide) (by decide)))
  have F36 := G29.other W33 (Or.inr (slot_ne (Or.inr (w131 cx)) (Or.inr (w133 cx)) (by decide) (t := (.object "java/util/Optional")) (t' := (.object "java/util/List")) (by decide) (by decide)))
  have F37 := ((F19.wr W25).wr W29).wr W33
  have F38 := ((F20.other W25 (Or.inl (X33.neT (A := [a3]) (B := WL) (mg 0 rfl) P4))).other W29 (Or.inl (X33.neT (A := [a3]) (B := WL) (mg 0 rfl) P4))).other W33 (Or.inl (X33.neT (A := [a3]) (B := WL) (mg 0 rfl) P4))
  have F39 := ((F21.other W25 (Or.inl (X33.neT (A := [a3]) (B := WL) (mg 0 rfl) P4))).other W29 (Or.inl (X33.neT (A := [a3]) (B := WL) (mg 0 rfl) P4))).other W33 (Or.inl (X33.neT (A := [a3]) (B := WL) (mg 0 rfl) P4))
  exact WS.retV X33 (WL' := [a3]) (FL' := []) hx hret hlk (hb hby d13_62) (nle rfl) (nle rfl) ⟨a3, rfl, rfl, rfl, K34, ge8, F35, F36, F37, F38, F39⟩
def Q_exini20 (Z : State) (gC : Int32) (v_DE : Addr) (k_DE : ClassId) (v_EL : Addr) (v_EM : Addr) (v_OE : Addr) (m_OA : Addr) (x : Addr) (lq : Addr) (b : Addr) (kb : ClassId) (y0 : Addr) (y1 : Addr) (l2 : Addr) (h : Heap) (v : Option Value) (h' : Heap) (WL' FL' : List Addr) : Prop := ∃ r : Addr, v = none ∧ WL' = [r] ∧ FL' = [] ∧ Keep h h' [x] ∧ h.size ≤ r ∧ Fld Z h' x "com/example/lexbind/lexbind/messages/Explanation" "steps" "Ljava/util/List;" (.ref r) ∧ Fld Z h' x "com/example/lexbind/lexbind/messages/Explanation" "text" "Ljava/util/Optional;" (.ref v_OE) ∧ Exa Z h' r "java/util/ImmutableCollections$List12" ∧ Fld Z h' r "java/util/ImmutableCollections$List12" "e0" "Ljava/lang/Object;" (.ref y0) ∧ Fld Z h' r "java/util/ImmutableCollections$List12" "e1" "Ljava/lang/Object;" (.ref y1)
theorem ct_exini20 (cx : Cx a0 Z gC v_DE k_DE v_EL v_EM v_OE m_OA) (x : Addr) (lq : Addr) (b : Addr) (kb : ClassId) (y0 : Addr) (y1 : Addr) (l2 : Addr) (h : Heap) (WL FL : List Addr) (P0 : Exa Z h x "com/example/lexbind/lexbind/messages/Explanation") (P1 : Fld Z h x "com/example/lexbind/lexbind/messages/Explanation" "steps" "Ljava/util/List;" .null) (P2 : Fld Z h x "com/example/lexbind/lexbind/messages/Explanation" "text" "Ljava/util/Optional;" .null) (P3 : Fld Z h x "com/example/lexbind/lexbind/messages/Explanation" "readAgain" "Ljava/util/List;" .null) (P4 : x ∈ WL) (P5 : Exa Z h lq "java/util/ArrayList") (P6 : Fld Z h lq "java/util/ArrayList" "size" "I" (.int 2)) (P7 : Fld Z h lq "java/util/ArrayList" "elementData" "[Ljava/lang/Object;" (.ref b)) (P8 : Arv Z h b kb (.object "java/lang/Object") (10 : Int32) [(.ref y0), (.ref y1), .null, .null, .null, .null, .null, .null, .null, .null] .null) (P9 : Exa Z h b "[Ljava/lang/Object;") (P10 : Exa Z h y0 "com/example/lexbind/lexbind/messages/Explanation$Step") (P11 : Exa Z h y1 "com/example/lexbind/lexbind/messages/Explanation$Step") (P12 : Exa Z h l2 "java/util/ArrayList") (P13 : Fld Z h l2 "java/util/ArrayList" "size" "I" (.int 0)) :
    Ct l Z EL1 n0 (⟨"com/example/lexbind/lexbind/messages/Explanation", "<init>", "(Ljava/util/List;Ljava/util/Optional;Ljava/util/List;)V"⟩ : MethodName) prog_36_method_1_code 4 (Option.none : Option Jvm.ClassFile.FieldType) ({ frames := 8, cells := 4, slots := 24, locals := 101 } : Room) #[(.ref x), (.ref lq), (.ref v_OE), (.ref l2)] h WL FL (Q_exini20 Z gC v_DE k_DE v_EL v_EM v_OE m_OA x lq b kb y0 y1 l2 h) := by
  refine Ct.of (plainFor_of_name pn16) ?_
  intro p e s m below meth c s1 hx hby hml hnm hret hlk X0
  refine Wo.cast (f' := (mkF m 0 #[.val (.ref x), .val (.ref lq), .val (.ref v_OE), .val (.ref l2)] [])) (by rfl) ?_
  have K0 : Keep h h [x] := Keep.refl _ _
  show Wo _ _ _ _ _ _ _ _ _ _ _ s1 (mkF m 0 #[.val (.ref x), .val (.ref lq), .val (.ref v_OE), .val (.ref l2)] [])
  refine P.aloadN X0 hx 1 (hb hby d13_0) rfl rfl rfl ?_
  refine X0.callC hx rfl (w89 cx) (w36 cx) (w39 cx) (by decide) (Ct.pay (W := 0) (ct_recini cx x h _ _ ) (w39 cx) (w38 cx) (nle rfl) (nle rfl)) (by rw [hml]; rfl) (argsL := []) (rest := []) (lenOf pd3 rfl) rfl rfl (Nat.le_of_eq rfl) (hb hby d13_1) (nle rfl) (nle rfl) ?_
  rintro T1 h1 _ _ _ X1 ⟨rfl, rfl, rfl, J1⟩
  rw [J1] at X1
  refine P.aloadN X1 hx 5 (hb hby d13_4) rfl rfl rfl ?_
  refine X1.callS hx (w90 cx) (w91 cx) (w92 cx) (w93 cx) (by decide) (Ct.pay (W := 0) (ct_cof2 cx lq b kb y0 y1 h _ _ P5 P6 P7 P8 P9 P10 P11) (w93 cx) (w92 cx) (nle rfl) (nle rfl)) (by rw [hml]; rfl) (argsL := [.ref lq]) (rest := []) (lenOf pd18 rfl) rfl rfl (Nat.le_of_eq rfl) (hb hby d13_5) (nle rfl) (nle rfl) ?_
  rintro T2 h2 _ _ _ X2 ⟨a3, rfl, rfl, rfl, J2, g7, G4, G5, G6⟩
  have ge8 : h.size ≤ a3 := Nat.le_trans K0.1 g7
  have K9 : Keep h h2 [x] := K0.trans J2 all0
  refine P.astoreN X2 hx 9 #[.val (.ref x), .val (.ref a3), .val (.ref v_OE), .val (.ref l2)] (hb hby d13_8) rfl rfl rfl ?_
  refine P.aloadN X2 hx 10 (hb hby d13_9) rfl rfl rfl ?_
  refine X2.ldcO hx (w119 cx) (strAtoms cx) (hb hby d13_10) (n := 16) (nle rfl) (nle rfl) (nle rfl) (nle rfl) ?_
  intro T10 h10 a10 X10 E10
  have K11 : Keep h h10 [x] := K9.ext E10
  refine X10.callS hx (w120 cx) (w43 cx) (w44 cx) (w45 cx) (by decide) (Ct.pay (W := 0) (ct_rnn2 cx v_OE a10 h10 _ _ ) (w45 cx) (w44 cx) (nle rfl) (nle rfl)) (by rw [hml]; rfl) (argsL := [.ref v_OE, .ref a10]) (rest := []) (lenOf pd4 rfl) rfl rfl (Nat.le_of_eq rfl) (hb hby d13_12) (nle rfl) (nle rfl) ?_
  rintro T12 h12 _ _ _ X12 ⟨rfl, rfl, rfl, J12⟩
  rw [J12] at X12
  refine P.pop X12 hx 16 (hb hby d13_15) rfl rfl ?_
  refine P.aloadN X12 hx 17 (hb hby d13_16) rfl rfl rfl ?_
  have F13 := (P13.keep J2 nin0).ext E10
  have F14 := (P12.keep J2).ext E10
  refine X12.callS hx (w90 cx) (w91 cx) (w92 cx) (w93 cx) (by decide) (Ct.pay (W := 0) (ct_cof0 cx l2 h10 _ _ F14 F13) (w93 cx) (w92 cx) (nle rfl) (nle rfl)) (by rw [hml]; rfl) (argsL := [.ref l2]) (rest := []) (lenOf pd18 rfl) rfl rfl (Nat.le_of_eq rfl) (hb hby d13_17) (nle rfl) (nle rfl) ?_
  rintro T15 h15 _ _ _ X15 ⟨rfl, rfl, rfl, J15⟩
  rw [J15] at X15
  refine P.astoreN X15 hx 21 #[.val (.ref x), .val (.ref a3), .val (.ref v_OE), .val (.ref v_EL)] (hb hby d13_20) rfl rfl rfl ?_
  refine P.aloadN X15 hx 22 (hb hby d13_21) rfl rfl rfl ?_
  refine X15.callV hx (w121 cx) (w122 cx) (w124 cx) (w123 cx) (fun _ hZ => nf hZ (w124 cx)) (by decide) ((E_OE cx).ext X15.old.2) (Ct.pay (W := 0) (ct_opisPresent0 cx v_OE v_OE h10 _ _ ((F_OE0 cx).ext X15.old.2)) (w125 cx) (w80 cx) (nle rfl) (nle rfl)) (by rw [hml]; rfl) (argsL := []) (rest := []) (lenOf pd16 rfl) rfl rfl (Nat.le_of_eq rfl) (hb hby d13_22) (nle rfl) (nle rfl) ?_
  rintro T16 h16 _ _ _ X16 ⟨rfl, rfl, rfl, J16⟩
  rw [J16] at X16
  refine P.ifYes X16 hx 47 (hb hby d13_25) (by decide) (by decide) (by decide) ?_
  refine P.aloadN X16 hx 48 (hb hby d13_47) rfl rfl rfl ?_
  refine P.aloadN X16 hx 49 (hb hby d13_48) rfl rfl rfl ?_
  have F17 := (P1.keep J2 nin0).ext E10
  have F18 := (P0.keep J2).ext E10
  refine X16.putF hx (host := "") (Or.inl (w128 cx)) Via.refl F17 F18 (Or.inr ⟨(w129 cx), rfl, hnm⟩) (w84 cx) (ty := (.object "java/util/List")) (by decide) rfl rfl (mc P4) (hb hby d13_49) ?_
  intro T19 h19 X19 W19 G19
  have K20 : Keep h h19 [x] := K11.wr W19 (Or.inl (mg 0 rfl))
  refine P.aloadN X19 hx 53 (hb hby d13_52) rfl rfl rfl ?_
  refine P.aloadN X19 hx 54 (hb hby d13_53) rfl rfl rfl ?_
  have F21 := ((P2.keep J2 nin0).ext E10).other W19 (Or.inr (slot_ne (Or.inr (w131 cx)) (Or.inr (w129 cx)) (by decide) (t := (.object "java/util/Optional")) (t' := (.object "java/util/List")) (by decide) (by decide)))
  have F22 := F18.wr W19
  refine X19.putF hx (host := "") (Or.inl (w130 cx)) Via.refl F21 F22 (Or.inr ⟨(w131 cx), rfl, hnm⟩) (w84 cx) (ty := (.object "java/util/Optional")) (by decide) rfl rfl (mc P4) (hb hby d13_54) ?_
  intro T23 h23 X23 W23 G23
  have K24 : Keep h h23 [x] := K20.wr W23 (Or.inl (mg 0 rfl))
  refine P.aloadN X23 hx 58 (hb hby d13_57) rfl rfl rfl ?_
  refine P.aloadN X23 hx 59 (hb hby d13_58) rfl rfl rfl ?_
  have F25 := (((P3.keep J2 nin0).ext E10).other W19 (Or.inr (slot_ne (Or.inr (w133 cx)) (Or.inr (w129 cx)) (by decide) (t := (.object "java/util/List")) (t' := (.object "java/util/List")) (by decide) (by decide)))).other W23 (Or.inr (slot_ne (Or.inr (w133 cx)) (Or.inr (w131 cx)) (by decide) (t := (.object "java/util/List")) (t' := (.object "java/util/Optional")) (by decide) (by decide)))
  have F26 := F22.wr W23
  refine X23.putF hx (host := "") (Or.inl (w132 cx)) Via.refl F25 F26 (Or.inr ⟨(w133 cx), rfl, hnm⟩) (w84 cx) (ty := (.object "java/util/List")) (by decide) rfl rfl (mc P4) (hb hby d13_59) ?_
  intro T27 h27 X27 W27 G27
  have K28 : Keep h h27 [x] := K24.wr W27 (Or.inl (mg 0 rfl))
  have F29 := (G19.other W23 (Or.inr (slot_ne (Or.inr (w129 cx)) (Or.inr (w131 cx)) (by decide) (t := (.object "java/util/List")) (t' := (.object "java/util/Optional")) (by decide) (by decide)))).other W27 (Or.inr (slot_ne (Or.inr (w129 cx)) (Or.inr (w133 cx)) (by decide) (t := (.object "java/util/List")) (t' := (.object "java/util/List")) (by decide) (by decide)))
  have F30 := G23.other W27 (Or.inr (slot_ne (Or.inr (w131 cx)) (Or.inr (w133 cx)) (by decide) (t := (.object "java/util/Optional")) (t' := (.object "java/util/List")) (by decide) (by decide)))
  have F31 := (((G4.ext E10).wr W19).wr W23).wr W27
  have F32 := (((G5.ext E10).other W19 (Or.inl (X27.neT (A := [a3]) (B := WL) (mg 0 rfl) P4))).other W23 (Or.inl (X27.neT (A := [a3]) (B := WL) (mg 0 rfl) P4))).other W27 (Or.inl (X27.neT (A := [a3]) (B := WL) (mg 0 rfl) P4))
  have F33 := (((G6.ext E10).other W19 (Or.inl (X27.neT (A := [a3]) (B := WL) (mg 0 rfl) P4))).other W23 (Or.inl (X27.neT (A := [a3]) (B := WL) (mg 0 rfl) P4))).other W27 (Or.inl (X27.neT (A := [a3]) (B := WL) (mg 0 rfl) P4))
  exact WS.retV X27 (WL' := [a3]) (FL' := []) hx hret hlk (hb hby d13_62) (nle rfl) (nle rfl) ⟨a3, rfl, rfl, rfl, K28, ge8, F29, F30, F31, F32, F33⟩
def Q_exini21 (Z : State) (gC : Int32) (v_DE : Addr) (k_DE : ClassId) (v_EL : Addr) (v_EM : Addr) (v_OE : Addr) (m_OA : Addr) (x : Addr) (lq : Addr) (b : Addr) (kb : ClassId) (y0 : Addr) (y1 : Addr) (l2 : Addr) (o : Addr) (g : Addr) (h : Heap) (v : Option Value) (h' : Heap) (WL' FL' : List Addr) : Prop := ∃ r : Addr, v = none ∧ WL' = [r] ∧ FL' = [] ∧ Keep h h' [x] ∧ h.size ≤ r ∧ Fld Z h' x "com/example/lexbind/lexbind/messages/Explanation" "steps" "Ljava/util/List;" (.ref r) ∧ Fld Z h' x "com/example/lexbind/lexbind/messages/Explanation" "text" "Ljava/util/Optional;" (.ref o) ∧ Exa Z h' r "java/util/ImmutableCollections$List12" ∧ Fld Z h' r "java/util/ImmutableCollections$List12" "e0" "Ljava/lang/Object;" (.ref y0) ∧ Fld Z h' r "java/util/ImmutableCollections$List12" "e1" "Ljava/lang/Object;" (.ref y1)
theorem ct_exini21 (cx : Cx a0 Z gC v_DE k_DE v_EL v_EM v_OE m_OA) (x : Addr) (lq : Addr) (b : Addr) (kb : ClassId) (y0 : Addr) (y1 : Addr) (l2 : Addr) (o : Addr) (g : Addr) (h : Heap) (WL FL : List Addr) (P0 : Exa Z h x "com/example/lexbind/lexbind/messages/Explanation") (P1 : Fld Z h x "com/example/lexbind/lexbind/messages/Explanation" "steps" "Ljava/util/List;" .null) (P2 : Fld Z h x "com/example/lexbind/lexbind/messages/Explanation" "text" "Ljava/util/Optional;" .null) (P3 : Fld Z h x "com/example/lexbind/lexbind/messages/Explanation" "readAgain" "Ljava/util/List;" .null) (P4 : x ∈ WL) (P5 : Exa Z h lq "java/util/ArrayList") (P6 : Fld Z h lq "java/util/ArrayList" "size" "I" (.int 2)) (P7 : Fld Z h lq "java/util/ArrayList" "elementData" "[Ljava/lang/Object;" (.ref b)) (P8 : Arv Z h b kb (.object "java/lang/Object") (10 : Int32) [(.ref y0), (.ref y1), .null, .null, .null, .null, .null, .null, .null, .null] .null) (P9 : Exa Z h b "[Ljava/lang/Object;") (P10 : Exa Z h y0 "com/example/lexbind/lexbind/messages/Explanation$Step") (P11 : Exa Z h y1 "com/example/lexbind/lexbind/messages/Explanation$Step") (P12 : Exa Z h l2 "java/util/ArrayList") (P13 : Fld Z h l2 "java/util/ArrayList" "size" "I" (.int 0)) (P14 : Exa Z h o "java/util/Optional") (P15 : Fld Z h o "java/util/Optional" "value" "Ljava/lang/Object;" (.ref g)) :
    Ct l Z EL1 n0 (⟨"com/example/lexbind/lexbind/messages/Explanation", "<init>", "(Ljava/util/List;Ljava/util/Optional;Ljava/util/List;)V"⟩ : MethodName) prog_36_method_1_code 4 (Option.none : Option Jvm.ClassFile.FieldType) ({ frames := 8, cells := 4, slots := 24, locals := 101 } : Room) #[(.ref x), (.ref lq), (.ref o), (.ref l2)] h WL FL (Q_exini21 Z gC v_DE k_DE v_EL v_EM v_OE m_OA x lq b kb y0 y1 l2 o g h) := by
  refine Ct.of (plainFor_of_name pn16) ?_
  intro p e s m below meth c s1 hx hby hml hnm hret hlk X0
  refine Wo.cast (f' := (mkF m 0 #[.val (.ref x), .val (.ref lq), .val (.ref o), .val (.ref l2)] [])) (by rfl) ?_
  have K0 : Keep h h [x] := Keep.refl _ _
  show Wo _ _ _ _ _ _ _ _ _ _ _ s1 (mkF m 0 #[.val (.ref x), .val (.ref lq), .val (.ref o), .val (.ref l2)] [])
  refine P.aloadN X0 hx 1 (hb hby d13_0) rfl rfl rfl ?_
  refine X0.callC hx rfl (w89 cx) (w36 cx) (w39 cx) (by decide) (Ct.pay (W := 0) (ct_recini cx x h _ _ ) (w39 cx) (w38 cx) (nle rfl) (nle rfl)) (by rw [hml]; rfl) (argsL := []) (rest := []) (lenOf pd3 rfl) rfl rfl (Nat.le_of_eq rfl) (hb hby d13_1) (nle rfl) (nle rfl) ?_
  rintro T1 h1 _ _ _ X1 ⟨rfl, rfl, rfl, J1⟩
  rw [J1] at X1
  refine P.aloadN X1 hx 5 (hb hby d13_4) rfl rfl rfl ?_
  refine X1.callS hx (w90 cx) (w91 cx) (w92 cx) (w93 cx) (by decide) (Ct.pay (W := 0) (ct_cof2 cx lq b kb y0 y1 h _ _ P5 P6 P7 P8 P9 P10 P11) (w93 cx) (w92 cx) (nle rfl) (nle rfl)) (by rw [hml]; rfl) (argsL := [.ref lq]) (rest := []) (lenOf pd18 rfl) rfl rfl (Nat.le_of_eq rfl) (hb hby d13_5) (nle rfl) (nle rfl) ?_
  rintro T2 h2 _ _ _ X2 ⟨a3, rfl, rfl, rfl, J2, g7, G4, G5, G6⟩
  have ge8 : h.size ≤ a3 := Nat.le_trans K0.1 g7
  have K9 : Keep h h2 [x] := K0.trans J2 all0
  refine P.astoreN X2 hx 9 #[.val (.ref x), .val (.ref a3), .val (.ref o), .val (.ref l2)] (hb hby d13_8) rfl rfl rfl ?_
  refine P.aloadN X2 hx 10 (hb hby d13_9) rfl rfl rfl ?_
  refine X2.ldcO hx (w119 cx) (strAtoms cx) (hb hby d13_10) (n := 16) (nle rfl) (nle rfl) (nle rfl) (nle rfl) ?_
  intro T10 h10 a10 X10 E10
  have K11 : Keep h h10 [x] := K9.ext E10
  refine X10.callS hx (w120 cx) (w43 cx) (w44 cx) (w45 cx) (by decide) (Ct.pay (W := 0) (ct_rnn2 cx o a10 h10 _ _ ) (w45 cx) (w44 cx) (nle rfl) (nle rfl)) (by rw [hml]; rfl) (argsL := [.ref o, .ref a10]) (rest := []) (lenOf pd4 rfl) rfl rfl (Nat.le_of_eq rfl) (hb hby d13_12) (nle rfl) (nle rfl) ?_
  rintro T12 h12 _ _ _ X12 ⟨rfl, rfl, rfl, J12⟩
  rw [J12] at X12
  refine P.pop X12 hx 16 (hb hby d13_15) rfl rfl ?_
  refine P.aloadN X12 hx 17 (hb hby d13_16) rfl rfl rfl ?_
  have F13 := (P13.keep J2 nin0).ext E10
  have F14 := (P12.keep J2).ext E10
  refine X12.callS hx (w90 cx) (w91 cx) (w92 cx) (w93 cx) (by decide) (Ct.pay (W := 0) (ct_cof0 cx l2 h10 _ _ F14 F13) (w93 cx) (w92 cx) (nle rfl) (nle rfl)) (by rw [hml]; rfl) (argsL := [.ref l2]) (rest := []) (lenOf pd18 rfl) rfl rfl (Nat.le_of_eq rfl) (hb hby d13_17) (nle rfl) (nle rfl) ?_
  rintro T15 h15 _ _ _ X15 ⟨rfl, rfl, rfl, J15⟩
  rw [J15] at X15
  refine P.astoreN X15 hx 21 #[.val (.ref x), .val (.ref a3), .val (.ref o), .val (.ref v_EL)] (hb hby d13_20) rfl rfl rfl ?_
  refine P.aloadN X15 hx 22 (hb hby d13_21) rfl rfl rfl ?_
  have F16 := (P14.keep J2).ext E10
  have F17 := (P15.keep J2 nin0).ext E10
  refine X15.callV hx (w121 cx) (w122 cx) (w124 cx) (w123 cx) (fun _ hZ => nf hZ (w124 cx)) (by decide) F16 (Ct.pay (W := 0) (ct_opisPresent1 cx o g h10 _ _ F17) (w125 cx) (w80 cx) (nle rfl) (nle rfl)) (by rw [hml]; rfl) (argsL := []) (rest := []) (lenOf pd16 rfl) rfl rfl (Nat.le_of_eq rfl) (hb hby d13_22) (nle rfl) (nle rfl) ?_
  rintro T18 h18 _ _ _ X18 ⟨rfl, rfl, rfl, J18⟩
  rw [J18] at X18
  refine P.ifNo X18 hx 28 (hb hby d13_25) (by decide) rfl ?_
  refine P.aloadN X18 hx 29 (hb hby d13_28) rfl rfl rfl ?_
  have F19 := G4.ext E10
  have F20 := G5.ext E10
  have F21 := G6.ext E10
  refine X18.callI hx (w280 cx) (w281 cx) (w282 cx) (w341 cx) (w342 cx) (w343 cx) (w344 cx) (w345 cx) (by decide) F19 (Ct.pay (W := 0) (ct_lemp2 cx a3 y0 y1 h10 _ _ F19 F20 F21) (w346 cx) (w323 cx) (nle rfl) (nle rfl)) (by rw [hml]; rfl) (argsL := []) (rest := []) (lenOf pd16 rfl) rfl rfl (Nat.le_of_eq rfl) (hb hby d13_29) (nle rfl) (nle rfl) ?_
  rintro T22 h22 _ _ _ X22 ⟨rfl, rfl, rfl, J22⟩
  rw [J22] at X22
  refine P.ifYes X22 hx 47 (hb hby d13_34) (by decide) (by decide) (by decide) ?_
  refine P.aloadN X22 hx 48 (hb hby d13_47) rfl rfl rfl ?_
  refine P.aloadN X22 hx 49 (hb hby d13_48) rfl rfl rfl ?_
  have F23 := (P1.keep J2 nin0).ext E10
  have F24 := (P0.keep J2).ext E10
  refine X22.putF hx (host := "") (Or.inl (w128 cx)) Via.refl F23 F24 (Or.inr ⟨(w129 cx), rfl, hnm⟩) (w84 cx) (ty := (.object "java/util/List")) (by decide) rfl rfl (mc P4) (hb hby d13_49) ?_
  intro T25 h25 X25 W25 G25
  have K26 : Keep h h25 [x] := K11.wr W25 (Or.inl (mg 0 rfl))
  refine P.aloadN X25 hx 53 (hb hby d13_52) rfl rfl rfl ?_
  refine P.aloadN X25 hx 54 (hb hby d13_53) rfl rfl rfl ?_
  have F27 := ((P2.keep J2 nin0).ext E10).other W25 (Or.inr (slot_ne (Or.inr (w131 cx)) (Or.inr (w129 cx)) (by decide) (t := (.object "java/util/Optional")) (t' := (.object "java/util/List")) (by decide) (by decide)))
  have F28 := F24.wr W25
  refine X25.putF hx (host := "") (Or.inl (w130 cx)) Via.refl F27 F28 (Or.inr ⟨(w131 cx), rfl, hnm⟩) (w84 cx) (ty := (.object "java/util/Optional")) (by decide) rfl rfl (mc P4) (hb hby d13_54) ?_
  intro T29 h29 X29 W29 G29
  have K30 : Keep h h29 [x] := K26.wr W29 (Or.inl (mg 0 rfl))
  refine P.aloadN X29 hx 58 (hb hby d13_57) rfl rfl rfl ?_
  refine P.aloadN X29 hx 59 (hb hby d13_58) rfl rfl rfl ?_
  have F31 := (((P3.keep J2 nin0).ext E10).other W25 (Or.inr (slot_ne (Or.inr (w133 cx)) (Or.inr (w129 cx)) (by decide) (t := (.object "java/util/List")) (t' := (.object "java/util/List")) (by decide) (by decide)))).other W29 (Or.inr (slot_ne (Or.inr (w133 cx)) (Or.inr (w131 cx)) (by decide) (t := (.object "java/util/List")) (t' := (.object "java/util/Optional")) (by decide) (by decide)))
  have F32 := F28.wr W29
  refine X29.putF hx (host := "") (Or.inl (w132 cx)) Via.refl F31 F32 (Or.inr ⟨(w133 cx), rfl, hnm⟩) (w84 cx) (ty := (.object "java/util/List")) (by decide) rfl rfl (mc P4) (hb hby d13_59) ?_
  intro T33 h33 X33 W33 G33
  have K34 : Keep h h33 [x] := K30.wr W33 (Or.inl (mg 0 rfl))
  have F35 := (G25.other W29 (Or.inr (slot_ne (Or.inr (w129 cx)) (Or.inr (w131 cx)) (by decide) (t := (.object "java/util/List")) (t' := (.object "java/util/Optional")) (by decide) (by decide)))).other W33 (Or.inr (slot_ne (Or.inr (w129 cx)) (Or.inr (w133 cx)) (by decide) (t := (.object "java/util/List")) (t' := (.object "java/util/List")) (by decide) (by decide)))
  have F36 := G29.other W33 (Or.inr (slot_ne (Or.inr (w131 cx)) (Or.inr (w133 cx)) (by decide) (t := (.object "java/util/Optional")) (t' := (.object "java/util/List")) (by decide) (by decide)))
  have F37 := ((F19.wr W25).wr W29).wr W33
  have F38 := ((F20.other W25 (Or.inl (X33.neT (A := [a3]) (B := WL) (mg 0 rfl) P4))).other W29 (Or.inl (X33.neT (A := [a3]) (B := WL) (mg 0 rfl) P4))).other W33 (Or.inl (X33.neT (A := [a3]) (B := WL) (mg 0 rfl) P4))
  have F39 := ((F21.other W25 (Or.inl (X33.neT (A := [a3]) (B := WL) (mg 0 rfl) P4))).other W29 (Or.inl (X33.neT (A := [a3]) (B := WL) (mg 0 rfl) P4))).other W33 (Or.inl (X33.neT (A := [a3]) (B := WL) (mg 0 rfl) P4))
  exact WS.retV X33 (WL' := [a3]) (FL' := []) hx hret hlk (hb hby d13_62) (nle rfl) (nle rfl) ⟨a3, rfl, rfl, rfl, K34, ge8, F35, F36, F37, F38, F39⟩
def Q_exini30 (Z : State) (gC : Int32) (v_DE : Addr) (k_DE : ClassId) (v_EL : Addr) (v_EM : Addr) (v_OE : Addr) (m_OA : Addr) (x : Addr) (lq : Addr) (b : Addr) (kb : ClassId) (y0 : Addr) (y1 : Addr) (y2 : Addr) (l2 : Addr) (h : Heap) (v : Option Value) (h' : Heap) (WL' FL' : List Addr) : Prop := ∃ r : Addr, ∃ el : Addr, ∃ kel : ClassId, v = none ∧ WL' = [r, el] ∧ FL' = [] ∧ Keep h h' [x] ∧ h.size ≤ r ∧ h.size ≤ el ∧ Fld Z h' x "com/example/lexbind/lexbind/messages/Explanation" "steps" "Ljava/util/List;" (.ref r) ∧ Fld Z h' x "com/example/lexbind/lexbind/messages/Explanation" "text" "Ljava/util/Optional;" (.ref v_OE) ∧ Exa Z h' r "java/util/ImmutableCollections$ListN" ∧ Fld Z h' r "java/util/ImmutableCollections$ListN" "elements" "[Ljava/lang/Object;" (.ref el) ∧ Arv Z h' el kel (.object "java/lang/Object") (3 : Int32) [(.ref y0), (.ref y1), (.ref y2)] .null
theorem ct_exini30 (cx : Cx a0 Z gC v_DE k_DE v_EL v_EM v_OE m_OA) (x : Addr) (lq : Addr) (b : Addr) (kb : ClassId) (y0 : Addr) (y1 : Addr) (y2 : Addr) (l2 : Addr) (h : Heap) (WL FL : List Addr) (P0 : Exa Z h x "com/example/lexbind/lexbind/messages/Explanation") (P1 : Fld Z h x "com/example/lexbind/lexbind/messages/Explanation" "steps" "Ljava/util/List;" .null) (P2 : Fld Z h x "com/example/lexbind/lexbind/messages/Explanation" "text" "Ljava/util/Optional;" .null) (P3 : Fld Z h x "com/example/lexbind/lexbind/messages/Explanation" "readAgain" "Ljava/util/List;" .null) (P4 : x ∈ WL) (P5 : Exa Z h lq "java/util/ArrayList") (P6 : Fld Z h lq "java/util/ArrayList" "size" "I" (.int 3)) (P7 : Fld Z h lq "java/util/ArrayList" "elementData" "[Ljava/lang/Object;" (.ref b)) (P8 : Arv Z h b kb (.object "java/lang/Object") (10 : Int32) [(.ref y0), (.ref y1), (.ref y2), .null, .null, .null, .null, .null, .null, .null] .null) (P9 : Exa Z h b "[Ljava/lang/Object;") (P10 : Exa Z h y0 "com/example/lexbind/lexbind/messages/Explanation$Step") (P11 : Exa Z h y1 "com/example/lexbind/lexbind/messages/Explanation$Step") (P12 : Exa Z h y2 "com/example/lexbind/lexbind/messages/Explanation$Step") (P13 : Exa Z h l2 "java/util/ArrayList") (P14 : Fld Z h l2 "java/util/ArrayList" "size" "I" (.int 0)) :
    Ct l Z EL1 n0 (⟨"com/example/lexbind/lexbind/messages/Explanation", "<init>", "(Ljava/util/List;Ljava/util/Optional;Ljava/util/List;)V"⟩ : MethodName) prog_36_method_1_code 4 (Option.none : Option Jvm.ClassFile.FieldType) ({ frames := 9, cells := 5, slots := 28, locals := 115 } : Room) #[(.ref x), (.ref lq), (.ref v_OE), (.ref l2)] h WL FL (Q_exini30 Z gC v_DE k_DE v_EL v_EM v_OE m_OA x lq b kb y0 y1 y2 l2 h) := by
  refine Ct.of (plainFor_of_name pn16) ?_
  intro p e s m below meth c s1 hx hby hml hnm hret hlk X0
  refine Wo.cast (f' := (mkF m 0 #[.val (.ref x), .val (.ref lq), .val (.ref v_OE), .val (.ref l2)] [])) (by rfl) ?_
  have K0 : Keep h h [x] := Keep.refl _ _
  show Wo _ _ _ _ _ _ _ _ _ _ _ s1 (mkF m 0 #[.val (.ref x), .val (.ref lq), .val (.ref v_OE), .val (.ref l2)] [])
  refine P.aloadN X0 hx 1 (hb hby d13_0) rfl rfl rfl ?_
  refine X0.callC hx rfl (w89 cx) (w36 cx) (w39 cx) (by decide) (Ct.pay (W := 0) (ct_recini cx x h _ _ ) (w39 cx) (w38 cx) (nle rfl) (nle rfl)) (by rw [hml]; rfl) (argsL := []) (rest := []) (lenOf pd3 rfl) rfl rfl (Nat.le_of_eq rfl) (hb hby d13_1) (nle rfl) (nle rfl) ?_
  rintro T1 h1 _ _ _ X1 ⟨rfl, rfl, rfl, J1⟩
  rw [J1] at X1
  refine P.aloadN X1 hx 5 (hb hby d13_4) rfl rfl rfl ?_
  refine X1.callS hx (w90 cx) (w91 cx) (w92 cx) (w93 cx) (by decide) (Ct.pay (W := 0) (ct_cof3 cx lq b kb y0 y1 y2 h _ _ P5 P6 P7 P8 P9 P10 P11 P12) (w93 cx) (w92 cx) (nle rfl) (nle rfl)) (by rw [hml]; rfl) (argsL := [.ref lq]) (rest := []) (lenOf pd18 rfl) rfl rfl (Nat.le_of_eq rfl) (hb hby d13_5) (nle rfl) (nle rfl) ?_
  rintro T2 h2 _ _ _ X2 ⟨a3, a4, k5, rfl, rfl, rfl, J2, g9, g10, G6, G7, G8⟩
  have ge11 : h.size ≤ a3 := Nat.le_trans K0.1 g9
  have ge12 : h.size ≤ a4 := Nat.le_trans K0.1 g10
  have K13 : Keep h h2 [x] := K0.trans J2 all0
  refine P.astoreN X2 hx 9 #[.val (.ref x), .val (.ref a3), .val (.ref v_OE), .val (.ref l2)] (hb hby d13_8) rfl rfl rfl ?_
  refine P.aloadN X2 hx 10 (hb hby d13_9) rfl rfl rfl ?_
  refine X2.ldcO hx (w119 cx) (strAtoms cx) (hb hby d13_10) (n := 16) (nle rfl) (nle rfl) (nle rfl) (nle rfl) ?_
  intro T14 h14 a14 X14 E14
  have K15 : Keep h h14 [x] := K13.ext E14
  refine X14.callS hx (w120 cx) (w43 cx) (w44 cx) (w45 cx) (by decide) (Ct.pay (W := 0) (ct_rnn2 cx v_OE a14 h14 _ _ ) (w45 cx) (w44 cx) (nle rfl) (nle rfl)) (by rw [hml]; rfl) (argsL := [.ref v_OE, .ref a14]) (rest := []) (lenOf pd4 rfl) rfl rfl (Nat.le_of_eq rfl) (hb hby d13_12) (nle rfl) (nle rfl) ?_
  rintro T16 h16 _ _ _ X16 ⟨rfl, rfl, rfl, J16⟩
  rw [J16] at X16
  refine P.pop X16 hx 16 (hb hby d13_15) rfl rfl ?_
  refine P.aloadN X16 hx 17 (hb hby d13_16) rfl rfl rfl ?_
  have F17 := (P14.keep J2 nin0).ext E14
  have F18 := (P13.keep J2).ext E14
  refine X16.callS hx (w90 cx) (w91 cx) (w92 cx) (w93 cx) (by decide) (Ct.pay (W := 0) (ct_cof0 cx l2 h14 _ _ F18 F17) (w93 cx) (w92 cx) (nle rfl) (nle rfl)) (by rw [hml]; rfl) (argsL := [.ref l2]) (rest := []) (lenOf pd18 rfl) rfl rfl (Nat.le_of_eq rfl) (hb hby d13_17) (nle rfl) (nle rfl) ?_
  rintro T19 h19 _ _ _ X19 ⟨rfl, rfl, rfl, J19⟩
  rw [J19] at X19
  refine P.astoreN X19 hx 21 #[.val (.ref x), .val (.ref a3), .val (.ref v_OE), .val (.ref v_EL)] (hb hby d13_20) rfl rfl rfl ?_
  refine P.aloadN X19 hx 22 (hb hby d13_21) rfl rfl rfl ?_
  refine X19.callV hx (w121 cx) (w122 cx) (w124 cx) (w123 cx) (fun _ hZ => nf hZ (w124 cx)) (by decide) ((E_OE cx).ext X19.old.2) (Ct.pay (W := 0) (ct_opisPresent0 cx v_OE v_OE h14 _ _ ((F_OE0 cx).ext X19.old.2)) (w125 cx) (w80 cx) (nle rfl) (nle rfl)) (by rw [hml]; rfl) (argsL := []) (rest := []) (lenOf pd16 rfl) rfl rfl (Nat.le_of_eq rfl) (hb hby d13_22) (nle rfl) (nle rfl) ?_
  rintro T20 h20 _ _ _ X20 ⟨rfl, rfl, rfl, J20⟩
  rw [J20] at X20
  refine P.ifYes X20 hx 47 (hb hby d13_25) (by decide) (by decide) (by decide) ?_
  refine P.aloadN X20 hx 48 (hb hby d13_47) rfl rfl rfl ?_
  refine P.aloadN X20 hx 49 (hb hby d13_48) rfl rfl rfl ?_
  have F21 := (P1.keep J2 nin0).ext E14
  have F22 := (P0.keep J2).ext E14
  refine X20.putF hx (host := "") (Or.inl (w128 cx)) Via.refl F21 F22 (Or.inr ⟨(w129 cx), rfl, hnm⟩) (w84 cx) (ty := (.object "java/util/List")) (by decide) rfl rfl (mc (mc P4)) (hb hby d13_49) ?_
  intro T23 h23 X23 W23 G23
  have K24 : Keep h h23 [x] := K15.wr W23 (Or.inl (mg 0 rfl))
  refine P.aloadN X23 hx 53 (hb hby d13_52) rfl rfl rfl ?_
  refine P.aloadN X23 hx 54 (hb hby d13_53) rfl rfl rfl ?_
  have F25 := ((P2.keep J2 nin0).ext E14).other W23 (Or.inr (slot_ne (Or.inr (w131 cx)) (Or.inr (w129 cx)) (by decide) (t := (.object "java/util/Optional")) (t' := (.object "java/util/List")) (by decide) (by decide)))
  have F26 := F22.wr W23
  refine X23.putF hx (host := "") (Or.inl (w130 cx)) Via.refl F25 F26 (Or.inr ⟨(w131 cx), rfl, hnm⟩) (w84 cx) (ty := (.object "java/util/Optional")) (by decide) rfl rfl (mc (mc P4)) (hb hby d13_54) ?_
  intro T27 h27 X27 W27 G27
  have K28 : Keep h h27 [x] := K24.wr W27 (Or.inl (mg 0 rfl))
  refine P.aloadN X27 hx 58 (hb hby d13_57) rfl rfl rfl ?_
  refine P.aloadN X27 hx 59 (hb hby d13_58) rfl rfl rfl ?_
  have F29 := (((P3.keep J2 nin0).ext E14).other W23 (Or.inr (slot_ne (Or.inr (w133 cx)) (Or.inr (w129 cx)) (by decide) (t := (.object "java/util/List")) (t' := (.object "java/util/List")) (by decide) (by decide)))).other W27 (Or.inr (slot_ne (Or.inr (w133 cx)) (Or.inr (w131 cx)) (by decide) (t := (.object "java/util/List")) (t' := (.object "java/util/Optional")) (by decide) (by decide)))
  have F30 := F26.wr W27
  refine X27.putF hx (host := "") (Or.inl (w132 cx)) Via.refl F29 F30 (Or.inr ⟨(w133 cx), rfl, hnm⟩) (w84 cx) (ty := (.object "java/util/List")) (by decide) rfl rfl (mc (mc P4)) (hb hby d13_59) ?_
  intro T31 h31 X31 W31 G31
  have K32 : Keep h h31 [x] := K28.wr W31 (Or.inl (mg 0 rfl))
  have F33 := (G23.other W27 (Or.inr (slot_ne (Or.inr (w129 cx)) (Or.inr (w131 cx)) (by decide) (t := (.object "java/util/List")) (t' := (.object "java/util/Optional")) (by decide) (by decide)))).other W31 (Or.inr (slot_ne (Or.inr (w129 cx)) (Or.inr (w133 cx)) (by decide) (t := (.object "java/util/List")) (t' := (.object "java/util/List")) (by decide) (by decide)))
  have F34 := (((G7.ext E14).other W23 (Or.inl (X31.neT (A := [a3, a4]) (B := WL) (mg 0 rfl) P4))).other W27 (Or.inl (X31.neT (A := [a3, a4]) (B := WL) (mg 0 rfl) P4))).other W31 (Or.inl (X31.neT (A := [a3, a4]) (B := WL) (mg 0 rfl) P4))
  have F35 := (((G8.ext E14).other W23 (X31.neT (A := [a3, a4]) (B := WL) (mg 1 rfl) P4)).other W27 (X31.neT (A := [a3, a4]) (B := WL) (mg 1 rfl) P4)).other W31 (X31.neT (A := [a3, a4]) (B := WL) (mg 1 rfl) P4)
  have F36 := G27.other W31 (Or.inr (slot_ne (Or.inr (w131 cx)) (Or.inr (w133 cx)) (by decide) (t := (.object "java/util/Optional")) (t' := (.object "java/util/List")) (by decide) (by decide)))
  have F37 := (((G6.ext E14).wr W23).wr W27).wr W31
  exact WS.retV X31 (WL' := [a3, a4]) (FL' := []) hx hret hlk (hb hby d13_62) (nle rfl) (nle rfl) ⟨a3, a4, k5, rfl, rfl, rfl, K32, ge11, ge12, F33, F36, F37, F34, F35⟩
def Q_exini31 (Z : State) (gC : Int32) (v_DE : Addr) (k_DE : ClassId) (v_EL : Addr) (v_EM : Addr) (v_OE : Addr) (m_OA : Addr) (x : Addr) (lq : Addr) (b : Addr) (kb : ClassId) (y0 : Addr) (y1 : Addr) (y2 : Addr) (l2 : Addr) (o : Addr) (g : Addr) (h : Heap) (v : Option Value) (h' : Heap) (WL' FL' : List Addr) : Prop := ∃ r : Addr, ∃ el : Addr, ∃ kel : ClassId, v = none ∧ WL' = [r, el] ∧ FL' = [] ∧ Keep h h' [x] ∧ h.size ≤ r ∧ h.size ≤ el ∧ Fld Z h' x "com/example/lexbind/lexbind/messages/Explanation" "steps" "Ljava/util/List;" (.ref r) ∧ Fld Z h' x "com/example/lexbind/lexbind/messages/Explanation" "text" "Ljava/util/Optional;" (.ref o) ∧ Exa Z h' r "java/util/ImmutableCollections$ListN" ∧ Fld Z h' r "java/util/ImmutableCollections$ListN" "elements" "[Ljava/lang/Object;" (.ref el) ∧ Arv Z h' el kel (.object "java/lang/Object") (3 : Int32) [(.ref y0), (.ref y1), (.ref y2)] .null
theorem ct_exini31 (cx : Cx a0 Z gC v_DE k_DE v_EL v_EM v_OE m_OA) (x : Addr) (lq : Addr) (b : Addr) (kb : ClassId) (y0 : Addr) (y1 : Addr) (y2 : Addr) (l2 : Addr) (o : Addr) (g : Addr) (h : Heap) (WL FL : List Addr) (P0 : Exa Z h x "com/example/lexbind/lexbind/messages/Explanation") (P1 : Fld Z h x "com/example/lexbind/lexbind/messages/Explanation" "steps" "Ljava/util/List;" .null) (P2 : Fld Z h x "com/example/lexbind/lexbind/messages/Explanation" "text" "Ljava/util/Optional;" .null) (P3 : Fld Z h x "com/example/lexbind/lexbind/messages/Explanation" "readAgain" "Ljava/util/List;" .null) (P4 : x ∈ WL) (P5 : Exa Z h lq "java/util/ArrayList") (P6 : Fld Z h lq "java/util/ArrayList" "size" "I" (.int 3)) (P7 : Fld Z h lq "java/util/ArrayList" "elementData" "[Ljava/lang/Object;" (.ref b)) (P8 : Arv Z h b kb (.object "java/lang/Object") (10 : Int32) [(.ref y0), (.ref y1), (.ref y2), .null, .null, .null, .null, .null, .null, .null] .null) (P9 : Exa Z h b "[Ljava/lang/Object;") (P10 : Exa Z h y0 "com/example/lexbind/lexbind/messages/Explanation$Step") (P11 : Exa Z h y1 "com/example/lexbind/lexbind/messages/Explanation$Step") (P12 : Exa Z h y2 "com/example/lexbind/lexbind/messages/Explanation$Step") (P13 : Exa Z h l2 "java/util/ArrayList") (P14 : Fld Z h l2 "java/util/ArrayList" "size" "I" (.int 0)) (P15 : Exa Z h o "java/util/Optional") (P16 : Fld Z h o "java/util/Optional" "value" "Ljava/lang/Object;" (.ref g)) :
    Ct l Z EL1 n0 (⟨"com/example/lexbind/lexbind/messages/Explanation", "<init>", "(Ljava/util/List;Ljava/util/Optional;Ljava/util/List;)V"⟩ : MethodName) prog_36_method_1_code 4 (Option.none : Option Jvm.ClassFile.FieldType) ({ frames := 9, cells := 5, slots := 28, locals := 115 } : Room) #[(.ref x), (.ref lq), (.ref o), (.ref l2)] h WL FL (Q_exini31 Z gC v_DE k_DE v_EL v_EM v_OE m_OA x lq b kb y0 y1 y2 l2 o g h) := by
  refine Ct.of (plainFor_of_name pn16) ?_
  intro p e s m below meth c s1 hx hby hml hnm hret hlk X0
  refine Wo.cast (f' := (mkF m 0 #[.val (.ref x), .val (.ref lq), .val (.ref o), .val (.ref l2)] [])) (by rfl) ?_
  have K0 : Keep h h [x] := Keep.refl _ _
  show Wo _ _ _ _ _ _ _ _ _ _ _ s1 (mkF m 0 #[.val (.ref x), .val (.ref lq), .val (.ref o), .val (.ref l2)] [])
  refine P.aloadN X0 hx 1 (hb hby d13_0) rfl rfl rfl ?_
  refine X0.callC hx rfl (w89 cx) (w36 cx) (w39 cx) (by decide) (Ct.pay (W := 0) (ct_recini cx x h _ _ ) (w39 cx) (w38 cx) (nle rfl) (nle rfl)) (by rw [hml]; rfl) (argsL := []) (rest := []) (lenOf pd3 rfl) rfl rfl (Nat.le_of_eq rfl) (hb hby d13_1) (nle rfl) (nle rfl) ?_
  rintro T1 h1 _ _ _ X1 ⟨rfl, rfl, rfl, J1⟩
  rw [J1] at X1
  refine P.aloadN X1 hx 5 (hb hby d13_4) rfl rfl rfl ?_
  refine X1.callS hx (w90 cx) (w91 cx) (w92 cx) (w93 cx) (by decide) (Ct.pay (W := 0) (ct_cof3 cx lq b kb y0 y1 y2 h _ _ P5 P6 P7 P8 P9 P10 P11 P12) (w93 cx) (w92 cx) (nle rfl) (nle rfl)) (by rw [hml]; rfl) (argsL := [.ref lq]) (rest := []) (lenOf pd18 rfl) rfl rfl (Nat.le_of_eq rfl) (hb hby d13_5) (nle rfl) (nle rfl) ?_
  rintro T2 h2 _ _ _ X2 ⟨a3, a4, k5, rfl, rfl, rfl, J2, g9, g10, G6, G7, G8⟩
  have ge11 : h.size ≤ a3 := Nat.le_trans K0.1 g9
  have ge12 : h.size ≤ a4 := Nat.le_trans K0.1 g10
  have K13 : Keep h h2 [x] := K0.trans J2 all0
  refine P.astoreN X2 hx 9 #[.val (.ref x), .val (.ref a3), .val (.ref o), .val (.ref l2)] (hb hby d13_8) rfl rfl rfl ?_
  refine P.aloadN X2 hx 10 (hb hby d13_9) rfl rfl rfl ?_
  refine X2.ldcO hx (w119 cx) (strAtoms cx) (hb hby d13_10) (n := 16) (nle rfl) (nle rfl) (nle rfl) (nle rfl) ?_
  intro T14 h14 a14 X14 E14
  have K15 : Keep h h14 [x] := K13.ext E14
  refine X14.callS hx (w120 cx) (w43 cx) (w44 cx) (w45 cx) (by decide) (Ct.pay (W := 0) (ct_rnn2 cx o a14 h14 _ _ ) (w45 cx) (w44 cx) (nle rfl) (nle rfl)) (by rw [hml]; rfl) (argsL := [.ref o, .ref a14]) (rest := []) (lenOf pd4 rfl) rfl rfl (Nat.le_of_eq rfl) (hb hby d13_12) (nle rfl) (nle rfl) ?_
  rintro T16 h16 _ _ _ X16 ⟨rfl, rfl, rfl, J16⟩
  rw [J16] at X16
  refine P.pop X16 hx 16 (hb hby d13_15) rfl rfl ?_
  refine P.aloadN X16 hx 17 (hb hby d13_16) rfl rfl rfl ?_
  have F17 := (P14.keep J2 nin0).ext E14
  have F18 := (P13.keep J2).ext E14
  refine X16.callS hx (w90 cx) (w91 cx) (w92 cx) (w93 cx) (by decide) (Ct.pay (W := 0) (ct_cof0 cx l2 h14 _ _ F18 F17) (w93 cx) (w92 cx) (nle rfl) (nle rfl)) (by rw [hml]; rfl) (argsL := [.ref l2]) (rest := []) (lenOf pd18 rfl) rfl rfl (Nat.le_of_eq rfl) (hb hby d13_17) (nle rfl) (nle rfl) ?_
  rintro T19 h19 _ _ _ X19 ⟨rfl, rfl, rfl, J19⟩
  rw [J19] at X19
  refine P.astoreN X19 hx 21 #[.val (.ref x), .val (.ref a3), .val (.ref o), .val (.ref v_EL)] (hb hby d13_20) rfl rfl rfl ?_
  refine P.aloadN X19 hx 22 (hb hby d13_21) rfl rfl rfl ?_
  have F20 := (P15.keep J2).ext E14
  have F21 := (P16.keep J2 nin0).ext E14
  refine X19.callV hx (w121 cx) (w122 cx) (w124 cx) (w123 cx) (fun _ hZ => nf hZ (w124 cx)) (by decide) F20 (Ct.pay (W := 0) (ct_opisPresent1 cx o g h14 _ _ F21) (w125 cx) (w80 cx) (nle rfl) (nle rfl)) (by rw [hml]; rfl) (argsL := []) (rest := []) (lenOf pd16 rfl) rfl rfl (Nat.le_of_eq rfl) (hb hby d13_22) (nle rfl) (nle rfl) ?_
  rintro T22 h22 _ _ _ X22 ⟨rfl, rfl, rfl, J22⟩
  rw [J22] at X22
  refine P.ifNo X22 hx 28 (hb hby d13_25) (by decide) rfl ?_
  refine P.aloadN X22 hx 29 (hb hby d13_28) rfl rfl rfl ?_
  have F23 := G6.ext E14
  have F24 := G7.ext E14
  have F25 := G8.ext E14
  refine X22.callI hx (w280 cx) (w281 cx) (w282 cx) (w283 cx) (w284 cx) (w285 cx) (w286 cx) (w287 cx) (by decide) F23 (Ct.pay (W := 0) (ct_lemp3 cx a3 a4 k5 y0 y1 y2 h14 _ _ F23 F24 F25) (w288 cx) (w257 cx) (nle rfl) (nle rfl)) (by rw [hml]; rfl) (argsL := []) (rest := []) (lenOf pd16 rfl) rfl rfl (Nat.le_of_eq rfl) (hb hby d13_29) (nle rfl) (nle rfl) ?_
  rintro T26 h26 _ _ _ X26 ⟨rfl, rfl, rfl, J26⟩
  rw [J26] at X26
  refine P.ifYes X26 hx 47 (hb hby d13_34) (by decide) (by decide) (by decide) ?_
  refine P.aloadN X26 hx 48 (hb hby d13_47) rfl rfl rfl ?_
  refine P.aloadN X26 hx 49 (hb hby d13_48) rfl rfl rfl ?_
  have F27 := (P1.keep J2 nin0).ext E14
  have F28 := (P0.keep J2).ext E14
  refine X26.putF hx (host := "") (Or.inl (w128 cx)) Via.refl F27 F28 (Or.inr ⟨(w129 cx), rfl, hnm⟩) (w84 cx) (ty := (.object "java/util/List")) (by decide) rfl rfl (mc (mc P4)) (hb hby d13_49) ?_
  intro T29 h29 X29 W29 G29
  have K30 : Keep h h29 [x] := K15.wr W29 (Or.inl (mg 0 rfl))
  refine P.aloadN X29 hx 53 (hb hby d13_52) rfl rfl rfl ?_
  refine P.aloadN X29 hx 54 (hb hby d13_53) rfl rfl rfl ?_
  have F31 := ((P2.keep J2 nin0).ext E14).other W29 (Or.inr (slot_ne (Or.inr (w131 cx)) (Or.inr (w129 cx)) (by decide) (t := (.object "java/util/Optional")) (t' := (.object "java/util/List")) (by decide) (by decide)))
  have F32 := F28.wr W29
  refine X29.putF hx (host := "") (Or.inl (w130 cx)) Via.refl F31 F32 (Or.inr ⟨(w131 cx), rfl, hnm⟩) (w84 cx) (ty := (.object "java/util/Optional")) (by decide) rfl rfl (mc (mc P4)) (hb hby d13_54) ?_
  intro T33 h33 X33 W33 G33
  have K34 : Keep h h33 [x] := K30.wr W33 (Or.inl (mg 0 rfl))
  refine P.aloadN X33 hx 58 (hb hby d13_57) rfl rfl rfl ?_
  refine P.aloadN X33 hx 59 (hb hby d13_58) rfl rfl rfl ?_
  have F35 := (((P3.keep J2 nin0).ext E14).other W29 (Or.inr (slot_ne (Or.inr (w133 cx)) (Or.inr (w129 cx)) (by decide) (t := (.object "java/util/List")) (t' := (.object "java/util/List")) (by decide) (by decide)))).other W33 (Or.inr (slot_ne (Or.inr (w133 cx)) (Or.inr (w131 cx)) (by decide) (t := (.object "java/util/List")) (t' := (.object "java/util/Optional")) (by decide) (by decide)))
  have F36 := F32.wr W33
  refine X33.putF hx (host := "") (Or.inl (w132 cx)) Via.refl F35 F36 (Or.inr ⟨(w133 cx), rfl, hnm⟩) (w84 cx) (ty := (.object "java/util/List")) (by decide) rfl rfl (mc (mc P4)) (hb hby d13_59) ?_
  intro T37 h37 X37 W37 G37
  have K38 : Keep h h37 [x] := K34.wr W37 (Or.inl (mg 0 rfl))
  have F39 := (G29.other W33 (Or.inr (slot_ne (Or.inr (w129 cx)) (Or.inr (w131 cx)) (by decide) (t := (.object "java/util/List")) (t' := (.object "java/util/Optional")) (by decide) (by decide)))).other W37 (Or.inr (slot_ne (Or.inr (w129 cx)) (Or.inr (w133 cx)) (by decide) (t := (.object "java/util/List")) (t' := (.object "java/util/List")) (by decide) (by decide)))
  have F40 := ((F24.other W29 (Or.inl (X37.neT (A := [a3, a4]) (B := WL) (mg 0 rfl) P4))).other W33 (Or.inl (X37.neT (A := [a3, a4]) (B := WL) (mg 0 rfl) P4))).other W37 (Or.inl (X37.neT (A := [a3, a4]) (B := WL) (mg 0 rfl) P4))
  have F41 := ((F25.other W29 (X37.neT (A := [a3, a4]) (B := WL) (mg 1 rfl) P4)).other W33 (X37.neT (A := [a3, a4]) (B := WL) (mg 1 rfl) P4)).other W37 (X37.neT (A := [a3, a4]) (B := WL) (mg 1 rfl) P4)
  have F42 := G33.other W37 (Or.inr (slot_ne (Or.inr (w131 cx)) (Or.inr (w133 cx)) (by decide) (t := (.object "java/util/Optional")) (t' := (.object "java/util/List")) (by decide) (by decide)))
  have F43 := ((F23.wr W29).wr W33).wr W37
  exact WS.retV X37 (WL' := [a3, a4]) (FL' := []) hx hret hlk (hb hby d13_62) (nle rfl) (nle rfl) ⟨a3, a4, k5, rfl, rfl, rfl, K38, ge11, ge12, F39, F42, F43, F40, F41⟩
def Q_lamb1 (Z : State) (gC : Int32) (v_DE : Addr) (k_DE : ClassId) (v_EL : Addr) (v_EM : Addr) (v_OE : Addr) (m_OA : Addr) (x : Addr) (r : Addr) (y0 : Addr) (g : Addr) (h : Heap) (v : Option Value) (h' : Heap) (WL' FL' : List Addr) : Prop := v = some (.ref y0) ∧ WL' = [] ∧ FL' = [] ∧ h' = h
theorem ct_lamb1 (cx : Cx a0 Z gC v_DE k_DE v_EL v_EM v_OE m_OA) (x : Addr) (r : Addr) (y0 : Addr) (g : Addr) (h : Heap) (WL FL : List Addr) (P0 : Exa Z h x "com/example/lexbind/lexbind/messages/Explanation") (P1 : Fld Z h x "com/example/lexbind/lexbind/messages/Explanation" "steps" "Ljava/util/List;" (.ref r)) (P2 : Exa Z h r "java/util/ImmutableCollections$List12") (P3 : Fld Z h r "java/util/ImmutableCollections$List12" "e0" "Ljava/lang/Object;" (.ref y0)) (P4 : Fld Z h r "java/util/ImmutableCollections$List12" "e1" "Ljava/lang/Object;" (.ref v_EM)) (P5 : Exa Z h y0 "com/example/lexbind/lexbind/messages/Explanation$Step") :
    Ct l Z EL1 n0 (⟨"com/example/lexbind/lexbind/messages/Explanation", "lambda$answer$0", "(Ljava/lang/String;)Lcom/example/lexbind/lexbind/messages/Explanation$Step;"⟩ : MethodName) prog_36_method_11_code 2 (Option.some (FieldType.object "com/example/lexbind/lexbind/messages/Explanation$Step")) ({ frames := 1, cells := 0, slots := 0, locals := 13 } : Room) #[(.ref x), (.ref g)] h WL FL (Q_lamb1 Z gC v_DE k_DE v_EL v_EM v_OE m_OA x r y0 g h) := by
  refine Ct.of (plainFor_of_name pn16) ?_
  intro p e s m below meth c s1 hx hby hml hnm hret hlk X0
  refine Wo.cast (f' := (mkF m 0 #[.val (.ref x), .val (.ref g)] [])) (by rfl) ?_
  show Wo _ _ _ _ _ _ _ _ _ _ _ s1 (mkF m 0 #[.val (.ref x), .val (.ref g)] [])
  refine P.aloadN X0 hx 1 (hb hby d45_0) rfl rfl rfl ?_
  refine X0.getF hx (host := "") (Or.inl (w128 cx)) Via.refl P1 (hb hby d45_1) ?_
  intro T1 X1
  refine P.aloadN X1 hx 5 (hb hby d45_4) rfl rfl rfl ?_
  refine X1.getF hx (host := "") (Or.inl (w128 cx)) Via.refl P1 (hb hby d45_5) ?_
  intro T2 X2
  refine X2.callI hx (w295 cx) (w296 cx) (w297 cx) (w347 cx) (w348 cx) (w349 cx) (w350 cx) (w345 cx) (by decide) P2 (Ct.pay (W := 1) (ct_lsz1 cx r y0 h _ _ P2 P3 P4) (w351 cx) (w323 cx) (nle rfl) (nle rfl)) (by rw [hml]; rfl) (argsL := []) (rest := [.ref r]) (lenOf pd19 rfl) rfl rfl (Nat.le_of_eq rfl) (hb hby d45_8) (nle rfl) (nle rfl) ?_
  rintro T3 h3 _ _ _ X3 ⟨rfl, rfl, rfl, J3⟩
  rw [J3] at X3
  refine P.iconst X3 hx 14 1 (hb hby d45_13) rfl rfl ?_
  refine P.isub X3 hx 15 (z := (0 : Int32)) (hb hby d45_14) rfl rfl ?_
  refine X3.callI hx (w303 cx) (w304 cx) (w305 cx) (w352 cx) (w353 cx) (w354 cx) (w355 cx) (w345 cx) (by decide) P2 (Ct.pay (W := 0) (ct_lget1 cx r y0 h _ _ P2 P3 P4) (w356 cx) (w323 cx) (nle rfl) (nle rfl)) (by rw [hml]; rfl) (argsL := [.int 0]) (rest := []) (lenOf pd20 rfl) rfl rfl (Nat.le_of_eq rfl) (hb hby d45_15) (nle rfl) (nle rfl) ?_
  rintro T4 h4 _ _ _ X4 ⟨rfl, rfl, rfl, J4⟩
  rw [J4] at X4
  refine X4.castY hx (w311 cx) (Ins.self P5) (hb hby d45_20) ?_
  intro T5 X5
  exact WS.retA X5 (WL' := []) (FL' := []) hx hret rfl rfl hlk (hb hby d45_23) (nle rfl) (nle rfl) ⟨rfl, rfl, rfl, rfl⟩
def Q_lamb2 (Z : State) (gC : Int32) (v_DE : Addr) (k_DE : ClassId) (v_EL : Addr) (v_EM : Addr) (v_OE : Addr) (m_OA : Addr) (x : Addr) (r : Addr) (y0 : Addr) (y1 : Addr) (g : Addr) (h : Heap) (v : Option Value) (h' : Heap) (WL' FL' : List Addr) : Prop := v = some (.ref y1) ∧ WL' = [] ∧ FL' = [] ∧ h' = h
theorem ct_lamb2 (cx : Cx a0 Z gC v_DE k_DE v_EL v_EM v_OE m_OA) (x : Addr) (r : Addr) (y0 : Addr) (y1 : Addr) (g : Addr) (h : Heap) (WL FL : List Addr) (P0 : Exa Z h x "com/example/lexbind/lexbind/messages/Explanation") (P1 : Fld Z h x "com/example/lexbind/lexbind/messages/Explanation" "steps" "Ljava/util/List;" (.ref r)) (P2 : Exa Z h r "java/util/ImmutableCollections$List12") (P3 : Fld Z h r "java/util/ImmutableCollections$List12" "e0" "Ljava/lang/Object;" (.ref y0)) (P4 : Fld Z h r "java/util/ImmutableCollections$List12" "e1" "Ljava/lang/Object;" (.ref y1)) (hye : y1 ≠ v_EM) (P6 : Exa Z h y1 "com/example/lexbind/lexbind/messages/Explanation$Step") :
    Ct l Z EL1 n0 (⟨"com/example/lexbind/lexbind/messages/Explanation", "lambda$answer$0", "(Ljava/lang/String;)Lcom/example/lexbind/lexbind/messages/Explanation$Step;"⟩ : MethodName) prog_36_method_11_code 2 (Option.some (FieldType.object "com/example/lexbind/lexbind/messages/Explanation$Step")) ({ frames := 1, cells := 0, slots := 0, locals := 13 } : Room) #[(.ref x), (.ref g)] h WL FL (Q_lamb2 Z gC v_DE k_DE v_EL v_EM v_OE m_OA x r y0 y1 g h) := by
  refine Ct.of (plainFor_of_name pn16) ?_
  intro p e s m below meth c s1 hx hby hml hnm hret hlk X0
  refine Wo.cast (f' := (mkF m 0 #[.val (.ref x), .val (.ref g)] [])) (by rfl) ?_
  show Wo _ _ _ _ _ _ _ _ _ _ _ s1 (mkF m 0 #[.val (.ref x), .val (.ref g)] [])
  refine P.aloadN X0 hx 1 (hb hby d45_0) rfl rfl rfl ?_
  refine X0.getF hx (host := "") (Or.inl (w128 cx)) Via.refl P1 (hb hby d45_1) ?_
  intro T1 X1
  refine P.aloadN X1 hx 5 (hb hby d45_4) rfl rfl rfl ?_
  refine X1.getF hx (host := "") (Or.inl (w128 cx)) Via.refl P1 (hb hby d45_5) ?_
  intro T2 X2
  refine X2.callI hx (w295 cx) (w296 cx) (w297 cx) (w347 cx) (w348 cx) (w349 cx) (w350 cx) (w345 cx) (by decide) P2 (Ct.pay (W := 1) (ct_lsz2 cx r y0 y1 h _ _ P2 P3 P4 hye) (w351 cx) (w323 cx) (nle rfl) (nle rfl)) (by rw [hml]; rfl) (argsL := []) (rest := [.ref r]) (lenOf pd19 rfl) rfl rfl (Nat.le_of_eq rfl) (hb hby d45_8) (nle rfl) (nle rfl) ?_
  rintro T3 h3 _ _ _ X3 ⟨rfl, rfl, rfl, J3⟩
  rw [J3] at X3
  refine P.iconst X3 hx 14 1 (hb hby d45_13) rfl rfl ?_
  refine P.isub X3 hx 15 (z := (1 : Int32)) (hb hby d45_14) rfl rfl ?_
  refine X3.callI hx (w303 cx) (w304 cx) (w305 cx) (w352 cx) (w353 cx) (w354 cx) (w355 cx) (w345 cx) (by decide) P2 (Ct.pay (W := 0) (ct_lget2 cx r y0 y1 h _ _ P2 P3 P4 hye) (w356 cx) (w323 cx) (nle rfl) (nle rfl)) (by rw [hml]; rfl) (argsL := [.int 1]) (rest := []) (lenOf pd20 rfl) rfl rfl (Nat.le_of_eq rfl) (hb hby d45_15) (nle rfl) (nle rfl) ?_
  rintro T4 h4 _ _ _ X4 ⟨rfl, rfl, rfl, J4⟩
  rw [J4] at X4
  refine X4.castY hx (w311 cx) (Ins.self P6) (hb hby d45_20) ?_
  intro T5 X5
  exact WS.retA X5 (WL' := []) (FL' := []) hx hret rfl rfl hlk (hb hby d45_23) (nle rfl) (nle rfl) ⟨rfl, rfl, rfl, rfl⟩
def Q_lamb3 (Z : State) (gC : Int32) (v_DE : Addr) (k_DE : ClassId) (v_EL : Addr) (v_EM : Addr) (v_OE : Addr) (m_OA : Addr) (x : Addr) (r : Addr) (el : Addr) (kel : ClassId) (y0 : Addr) (y1 : Addr) (y2 : Addr) (g : Addr) (h : Heap) (v : Option Value) (h' : Heap) (WL' FL' : List Addr) : Prop := v = some (.ref y2) ∧ WL' = [] ∧ FL' = [] ∧ h' = h
theorem ct_lamb3 (cx : Cx a0 Z gC v_DE k_DE v_EL v_EM v_OE m_OA) (x : Addr) (r : Addr) (el : Addr) (kel : ClassId) (y0 : Addr) (y1 : Addr) (y2 : Addr) (g : Addr) (h : Heap) (WL FL : List Addr) (P0 : Exa Z h x "com/example/lexbind/lexbind/messages/Explanation") (P1 : Fld Z h x "com/example/lexbind/lexbind/messages/Explanation" "steps" "Ljava/util/List;" (.ref r)) (P2 : Exa Z h r "java/util/ImmutableCollections$ListN") (P3 : Fld Z h r "java/util/ImmutableCollections$ListN" "elements" "[Ljava/lang/Object;" (.ref el)) (P4 : Arv Z h el kel (.object "java/lang/Object") (3 : Int32) [(.ref y0), (.ref y1), (.ref y2)] .null) (P5 : Exa Z h y2 "com/example/lexbind/lexbind/messages/Explanation$Step") :
    Ct l Z EL1 n0 (⟨"com/example/lexbind/lexbind/messages/Explanation", "lambda$answer$0", "(Ljava/lang/String;)Lcom/example/lexbind/lexbind/messages/Explanation$Step;"⟩ : MethodName) prog_36_method_11_code 2 (Option.some (FieldType.object "com/example/lexbind/lexbind/messages/Explanation$Step")) ({ frames := 1, cells := 0, slots := 0, locals := 13 } : Room) #[(.ref x), (.ref g)] h WL FL (Q_lamb3 Z gC v_DE k_DE v_EL v_EM v_OE m_OA x r el kel y0 y1 y2 g h) := by
  refine Ct.of (plainFor_of_name pn16) ?_
  intro p e s m below meth c s1 hx hby hml hnm hret hlk X0
  refine Wo.cast (f' := (mkF m 0 #[.val (.ref x), .val (.ref g)] [])) (by rfl) ?_
  show Wo _ _ _ _ _ _ _ _ _ _ _ s1 (mkF m 0 #[.val (.ref x), .val (.ref g)] [])
  refine P.aloadN X0 hx 1 (hb hby d45_0) rfl rfl rfl ?_
  refine X0.getF hx (host := "") (Or.inl (w128 cx)) Via.refl P1 (hb hby d45_1) ?_
  intro T1 X1
  refine P.aloadN X1 hx 5 (hb hby d45_4) rfl rfl rfl ?_
  refine X1.getF hx (host := "") (Or.inl (w128 cx)) Via.refl P1 (hb hby d45_5) ?_
  intro T2 X2
  refine X2.callI hx (w295 cx) (w296 cx) (w297 cx) (w298 cx) (w299 cx) (w300 cx) (w301 cx) (w287 cx) (by decide) P2 (Ct.pay (W := 1) (ct_lsz3 cx r el kel y0 y1 y2 h _ _ P2 P3 P4) (w302 cx) (w257 cx) (nle rfl) (nle rfl)) (by rw [hml]; rfl) (argsL := []) (rest := [.ref r]) (lenOf pd19 rfl) rfl rfl (Nat.le_of_eq rfl) (hb hby d45_8) (nle rfl) (nle rfl) ?_
  rintro T3 h3 _ _ _ X3 ⟨rfl, rfl, rfl, J3⟩
  rw [J3] at X3
  refine P.iconst X3 hx 14 1 (hb hby d45_13) rfl rfl ?_
  refine P.isub X3 hx 15 (z := (2 : Int32)) (hb hby d45_14) rfl rfl ?_
  refine X3.callI hx (w303 cx) (w304 cx) (w305 cx) (w306 cx) (w307 cx) (w308 cx) (w309 cx) (w287 cx) (by decide) P2 (Ct.pay (W := 0) (ct_lget3 cx r el kel y0 y1 y2 h _ _ P2 P3 P4) (w310 cx) (w257 cx) (nle rfl) (nle rfl)) (by rw [hml]; rfl) (argsL := [.int 2]) (rest := []) (lenOf pd20 rfl) rfl rfl (Nat.le_of_eq rfl) (hb hby d45_15) (nle rfl) (nle rfl) ?_
  rintro T4 h4 _ _ _ X4 ⟨rfl, rfl, rfl, J4⟩
  rw [J4] at X4
  refine X4.castY hx (w311 cx) (Ins.self P5) (hb hby d45_20) ?_
  intro T5 X5
  exact WS.retA X5 (WL' := []) (FL' := []) hx hret rfl rfl hlk (hb hby d45_23) (nle rfl) (nle rfl) ⟨rfl, rfl, rfl, rfl⟩
def Q_map0 (Z : State) (gC : Int32) (v_DE : Addr) (k_DE : ClassId) (v_EL : Addr) (v_EM : Addr) (v_OE : Addr) (m_OA : Addr) (f : Addr) (h : Heap) (v : Option Value) (h' : Heap) (WL' FL' : List Addr) : Prop := v = some (.ref v_OE) ∧ WL' = [] ∧ FL' = [] ∧ h' = h
theorem ct_map0 (cx : Cx a0 Z gC v_DE k_DE v_EL v_EM v_OE m_OA) (f : Addr) (h : Heap) (WL FL : List Addr)  :
    Ct l Z EL1 n0 (⟨"java/util/Optional", "map", "(Ljava/util/function/Function;)Ljava/util/Optional;"⟩ : MethodName) jdk_32_method_11_code 2 (Option.some (FieldType.object "java/util/Optional")) ({ frames := 1, cells := 0, slots := 0, locals := 12 } : Room) #[(.ref v_OE), (.ref f)] h WL FL (Q_map0 Z gC v_DE k_DE v_EL v_EM v_OE m_OA f h) := by
  refine Ct.of (plainFor_of_name pn15) ?_
  intro p e s m below meth c s1 hx hby hml hnm hret hlk X0
  refine Wo.cast (f' := (mkF m 0 #[.val (.ref v_OE), .val (.ref f)] [])) (by rfl) ?_
  show Wo _ _ _ _ _ _ _ _ _ _ _ s1 (mkF m 0 #[.val (.ref v_OE), .val (.ref f)] [])
  refine P.aloadN X0 hx 1 (hb hby d20_0) rfl rfl rfl ?_
  refine X0.callS hx (w148 cx) (w149 cx) (w44 cx) (w150 cx) (by decide) (Ct.pay (W := 0) (ct_rnn1 cx f h _ _ ) (w150 cx) (w44 cx) (nle rfl) (nle rfl)) (by rw [hml]; rfl) (argsL := [.ref f]) (rest := []) (lenOf pd11 rfl) rfl rfl (Nat.le_of_eq rfl) (hb hby d20_1) (nle rfl) (nle rfl) ?_
  rintro T1 h1 _ _ _ X1 ⟨rfl, rfl, rfl, J1⟩
  rw [J1] at X1
  refine P.pop X1 hx 5 (hb hby d20_4) rfl rfl ?_
  refine P.aloadN X1 hx 6 (hb hby d20_5) rfl rfl rfl ?_
  refine X1.callV hx (w151 cx) (w152 cx) (w154 cx) (w153 cx) (fun _ hZ => nf hZ (w154 cx)) (by decide) ((E_OE cx).ext X1.old.2) (Ct.pay (W := 0) (ct_opisEmpty0 cx v_OE v_OE h _ _ ((F_OE0 cx).ext X1.old.2)) (w155 cx) (w80 cx) (nle rfl) (nle rfl)) (by rw [hml]; rfl) (argsL := []) (rest := []) (lenOf pd16 rfl) rfl rfl (Nat.le_of_eq rfl) (hb hby d20_6) (nle rfl) (nle rfl) ?_
  rintro T2 h2 _ _ _ X2 ⟨rfl, rfl, rfl, J2⟩
  rw [J2] at X2
  refine P.ifNo X2 hx 12 (hb hby d20_9) (by decide) rfl ?_
  refine X2.callS hx (w156 cx) (w79 cx) (w80 cx) (w81 cx) (by decide) (Ct.pay (W := 0) (ct_opemp cx  h _ _ ) (w81 cx) (w80 cx) (nle rfl) (nle rfl)) (by rw [hml]; rfl) (argsL := []) (rest := []) (lenOf pd21 rfl) rfl rfl (Nat.le_of_eq rfl) (hb hby d20_12) (nle rfl) (nle rfl) ?_
  rintro T3 h3 _ _ _ X3 ⟨rfl, rfl, rfl, J3⟩
  rw [J3] at X3
  exact WS.retA X3 (WL' := []) (FL' := []) hx hret rfl rfl hlk (hb hby d20_15) (nle rfl) (nle rfl) ⟨rfl, rfl, rfl, rfl⟩
def Q_map1 (Z : State) (gC : Int32) (v_DE : Addr) (k_DE : ClassId) (v_EL : Addr) (v_EM : Addr) (v_OE : Addr) (m_OA : Addr) (x : Addr) (r : Addr) (y0 : Addr) (o : Addr) (g : Addr) (f : Addr) (h : Heap) (v : Option Value) (h' : Heap) (WL' FL' : List Addr) : Prop := ∃ q : Addr, v = some (.ref q) ∧ WL' = [q] ∧ FL' = [] ∧ Keep h h' [] ∧ h.size ≤ q ∧ Exa Z h' q "java/util/Optional" ∧ Fld Z h' q "java/util/Optional" "value" "Ljava/lang/Object;" (.ref y0)
theorem ct_map1 (cx : Cx a0 Z gC v_DE k_DE v_EL v_EM v_OE m_OA) (x : Addr) (r : Addr) (y0 : Addr) (o : Addr) (g : Addr) (f : Addr) (h : Heap) (WL FL : List Addr) (P0 : Exa Z h x "com/example/lexbind/lexbind/messages/Explanation") (P1 : Fld Z h x "com/example/lexbind/lexbind/messages/Explanation" "steps" "Ljava/util/List;" (.ref r)) (P2 : Exa Z h r "java/util/ImmutableCollections$List12") (P3 : Fld Z h r "java/util/ImmutableCollections$List12" "e0" "Ljava/lang/Object;" (.ref y0)) (P4 : Fld Z h r "java/util/ImmutableCollections$List12" "e1" "Ljava/lang/Object;" (.ref v_EM)) (P5 : Exa Z h y0 "com/example/lexbind/lexbind/messages/Explanation$Step") (P6 : Exa Z h o "java/util/Optional") (P7 : Fld Z h o "java/util/Optional" "value" "Ljava/lang/Object;" (.ref g)) (P8 : Exa Z h g "java/lang/String") (P9 : LamO Z h f x lamH lamS) :
    Ct l Z EL1 n0 (⟨"java/util/Optional", "map", "(Ljava/util/function/Function;)Ljava/util/Optional;"⟩ : MethodName) jdk_32_method_11_code 2 (Option.some (FieldType.object "java/util/Optional")) ({ frames := 3, cells := 1, slots := 1, locals := 39 } : Room) #[(.ref o), (.ref f)] h WL FL (Q_map1 Z gC v_DE k_DE v_EL v_EM v_OE m_OA x r y0 o g f h) := by
  refine Ct.of (plainFor_of_name pn15) ?_
  intro p e s m below meth c s1 hx hby hml hnm hret hlk X0
  refine Wo.cast (f' := (mkF m 0 #[.val (.ref o), .val (.ref f)] [])) (by rfl) ?_
  have K0 : Keep h h [] := Keep.refl _ _
  show Wo _ _ _ _ _ _ _ _ _ _ _ s1 (mkF m 0 #[.val (.ref o), .val (.ref f)] [])
  refine P.aloadN X0 hx 1 (hb hby d20_0) rfl rfl rfl ?_
  refine X0.callS hx (w148 cx) (w149 cx) (w44 cx) (w150 cx) (by decide) (Ct.pay (W := 0) (ct_rnn1 cx f h _ _ ) (w150 cx) (w44 cx) (nle rfl) (nle rfl)) (by rw [hml]; rfl) (argsL := [.ref f]) (rest := []) (lenOf pd11 rfl) rfl rfl (Nat.le_of_eq rfl) (hb hby d20_1) (nle rfl) (nle rfl) ?_
  rintro T1 h1 _ _ _ X1 ⟨rfl, rfl, rfl, J1⟩
  rw [J1] at X1
  refine P.pop X1 hx 5 (hb hby d20_4) rfl rfl ?_
  refine P.aloadN X1 hx 6 (hb hby d20_5) rfl rfl rfl ?_
  refine X1.callV hx (w151 cx) (w152 cx) (w154 cx) (w153 cx) (fun _ hZ => nf hZ (w154 cx)) (by decide) P6 (Ct.pay (W := 0) (ct_opisEmpty1 cx o g h _ _ P7) (w155 cx) (w80 cx) (nle rfl) (nle rfl)) (by rw [hml]; rfl) (argsL := []) (rest := []) (lenOf pd16 rfl) rfl rfl (Nat.le_of_eq rfl) (hb hby d20_6) (nle rfl) (nle rfl) ?_
  rintro T2 h2 _ _ _ X2 ⟨rfl, rfl, rfl, J2⟩
  rw [J2] at X2
  refine P.ifYes X2 hx 16 (hb hby d20_9) (by decide) (by decide) (by decide) ?_
  refine P.aloadN X2 hx 17 (hb hby d20_16) rfl rfl rfl ?_
  refine P.aloadN X2 hx 18 (hb hby d20_17) rfl rfl rfl ?_
  refine X2.getF hx (host := "") (Or.inl (w126 cx)) Via.refl P7 (hb hby d20_18) ?_
  intro T3 X3
  refine X3.lamCall hx (w289 cx) (w290 cx) (w291 cx) rfl (by decide) pd11 P9 lam_ok lam_cap lam_cls lam_d0 lam_d1 lam_d4 lam_d5 lam_d8 lam_d11 (w142 cx) ⟨rfl, rfl, by decide⟩ ⟨rfl, rfl, by decide⟩ (by decide) (w294 cx) (w292 cx) (w293 cx) (w85 cx) (faceO (w137 cx) rfl) ⟨_, _, pd22⟩ P0 P8 (ct_lamb1 cx x r y0 g h _ _ P0 P1 P2 P3 P4 P5) (by rintro v h' W' F' ⟨rfl, -⟩; exact ⟨_, rfl⟩) (by rw [hml]; rfl) (hb hby d20_21) (nle rfl) (W := 0) (Nat.le_of_eq rfl) (nle rfl) (nle rfl) (nle rfl) ?_
  rintro T4 h4 _ _ _ X4 ⟨rfl, rfl, rfl, J4⟩
  rw [J4] at X4
  refine X4.callS hx (w313 cx) (w314 cx) (w80 cx) (w315 cx) (by decide) (Ct.pay (W := 0) (ct_opofNullable cx y0 h _ _ ) (w315 cx) (w80 cx) (nle rfl) (nle rfl)) (by rw [hml]; rfl) (argsL := [.ref y0]) (rest := []) (lenOf pd23 rfl) rfl rfl (Nat.le_of_eq rfl) (hb hby d20_26) (nle rfl) (nle rfl) ?_
  rintro T5 h5 _ _ _ X5 ⟨a6, rfl, rfl, rfl, J5, g9, G7, G8⟩
  have ge10 : h.size ≤ a6 := Nat.le_trans K0.1 g9
  have K11 : Keep h h5 [] := K0.trans J5 all0
  exact WS.retA X5 (WL' := [a6]) (FL' := []) hx hret rfl rfl hlk (hb hby d20_29) (nle rfl) (nle rfl) ⟨a6, rfl, rfl, rfl, K11, ge10, G7, G8⟩
def Q_map2 (Z : State) (gC : Int32) (v_DE : Addr) (k_DE : ClassId) (v_EL : Addr) (v_EM : Addr) (v_OE : Addr) (m_OA : Addr) (x : Addr) (r : Addr) (y0 : Addr) (y1 : Addr) (o : Addr) (g : Addr) (f : Addr) (h : Heap) (v : Option Value) (h' : Heap) (WL' FL' : List Addr) : Prop := ∃ q : Addr, v = some (.ref q) ∧ WL' = [q] ∧ FL' = [] ∧ Keep h h' [] ∧ h.size ≤ q ∧ Exa Z h' q "java/util/Optional" ∧ Fld Z h' q "java/util/Optional" "value" "Ljava/lang/Object;" (.ref y1)
theorem ct_map2 (cx : Cx a0 Z gC v_DE k_DE v_EL v_EM v_OE m_OA) (x : Addr) (r : Addr) (y0 : Addr) (y1 : Addr) (o : Addr) (g : Addr) (f : Addr) (h : Heap) (WL FL : List Addr) (P0 : Exa Z h x "com/example/lexbind/lexbind/messages/Explanation") (P1 : Fld Z h x "com/example/lexbind/lexbind/messages/Explanation" "steps" "Ljava/util/List;" (.ref r)) (P2 : Exa Z h r "java/util/ImmutableCollections$List12") (P3 : Fld Z h r "java/util/ImmutableCollections$List12" "e0" "Ljava/lang/Object;" (.ref y0)) (P4 : Fld Z h r "java/util/ImmutableCollections$List12" "e1" "Ljava/lang/Object;" (.ref y1)) (hye : y1 ≠ v_EM) (P6 : Exa Z h y1 "com/example/lexbind/lexbind/messages/Explanation$Step") (P7 : Exa Z h o "java/util/Optional") (P8 : Fld Z h o "java/util/Optional" "value" "Ljava/lang/Object;" (.ref g)) (P9 : Exa Z h g "java/lang/String") (P10 : LamO Z h f x lamH lamS) :
    Ct l Z EL1 n0 (⟨"java/util/Optional", "map", "(Ljava/util/function/Function;)Ljava/util/Optional;"⟩ : MethodName) jdk_32_method_11_code 2 (Option.some (FieldType.object "java/util/Optional")) ({ frames := 3, cells := 1, slots := 1, locals := 39 } : Room) #[(.ref o), (.ref f)] h WL FL (Q_map2 Z gC v_DE k_DE v_EL v_EM v_OE m_OA x r y0 y1 o g f h) := by
  refine Ct.of (plainFor_of_name pn15) ?_
  intro p e s m below meth c s1 hx hby hml hnm hret hlk X0
  refine Wo.cast (f' := (mkF m 0 #[.val (.ref o), .val (.ref f)] [])) (by rfl) ?_
  have K0 : Keep h h [] := Keep.refl _ _
  show Wo _ _ _ _ _ _ _ _ _ _ _ s1 (mkF m 0 #[.val (.ref o), .val (.ref f)] [])
  refine P.aloadN X0 hx 1 (hb hby d20_0) rfl rfl rfl ?_
  refine X0.callS hx (w148 cx) (w149 cx) (w44 cx) (w150 cx) (by decide) (Ct.pay (W := 0) (ct_rnn1 cx f h _ _ ) (w150 cx) (w44 cx) (nle rfl) (nle rfl)) (by rw [hml]; rfl) (argsL := [.ref f]) (rest := []) (lenOf pd11 rfl) rfl rfl (Nat.le_of_eq rfl) (hb hby d20_1) (nle rfl) (nle rfl) ?_
  rintro T1 h1 _ _ _ X1 ⟨rfl, rfl, rfl, J1⟩
  rw [J1] at X1
  refine P.pop X1 hx 5 (hb hby d20_4) rfl rfl ?_
  refine P.aloadN X1 hx 6 (hb hby d20_5) rfl rfl rfl ?_
  refine X1.callV hx (w151 cx) (w152 cx) (w154 cx) (w153 cx) (fun _ hZ => nf hZ (w154 cx)) (by decide) P7 (Ct.pay (W := 0) (ct_opisEmpty1 cx o g h _ _ P8) (w155 cx) (w80 cx) (nle rfl) (nle rfl)) (by rw [hml]; rfl) (argsL := []) (rest := []) (lenOf pd16 rfl) rfl rfl (Nat.le_of_eq rfl) (hb hby d20_6) (nle rfl) (nle rfl) ?_
  rintro T2 h2 _ _ _ X2 ⟨rfl, rfl, rfl, J2⟩
  rw [J2] at X2
  refine P.ifYes X2 hx 16 (hb hby d20_9) (by decide) (by decide) (by decide) ?_
  refine P.aloadN X2 hx 17 (hb hby d20_16) rfl rfl rfl ?_
  refine P.aloadN X2 hx 18 (hb hby d20_17) rfl rfl rfl ?_
  refine X2.getF hx (host := "") (Or.inl (w126 cx)) Via.refl P8 (hb hby d20_18) ?_
  intro T3 X3
  refine X3.lamCall hx (w289 cx) (w290 cx) (w291 cx) rfl (by decide) pd11 P10 lam_ok lam_cap lam_cls lam_d0 lam_d1 lam_d4 lam_d5 lam_d8 lam_d11 (w142 cx) ⟨rfl, rfl, by decide⟩ ⟨rfl, rfl, by decide⟩ (by decide) (w294 cx) (w292 cx) (w293 cx) (w85 cx) (faceO (w137 cx) rfl) ⟨_, _, pd22⟩ P0 P9 (ct_lamb2 cx x r y0 y1 g h _ _ P0 P1 P2 P3 P4 hye P6) (by rintro v h' W' F' ⟨rfl, -⟩; exact ⟨_, rfl⟩) (by rw [hml]; rfl) (hb hby d20_21) (nle rfl) (W := 0) (Nat.le_of_eq rfl) (nle rfl) (nle rfl) (nle rfl) ?_
  rintro T4 h4 _ _ _ X4 ⟨rfl, rfl, rfl, J4⟩
  rw [J4] at X4
  refine X4.callS hx (w313 cx) (w314 cx) (w80 cx) (w315 cx) (by decide) (Ct.pay (W := 0) (ct_opofNullable cx y1 h _ _ ) (w315 cx) (w80 cx) (nle rfl) (nle rfl)) (by rw [hml]; rfl) (argsL := [.ref y1]) (rest := []) (lenOf pd23 rfl) rfl rfl (Nat.le_of_eq rfl) (hb hby d20_26) (nle rfl) (nle rfl) ?_
  rintro T5 h5 _ _ _ X5 ⟨a6, rfl, rfl, rfl, J5, g9, G7, G8⟩
  have ge10 : h.size ≤ a6 := Nat.le_trans K0.1 g9
  have K11 : Keep h h5 [] := K0.trans J5 all0
  exact WS.retA X5 (WL' := [a6]) (FL' := []) hx hret rfl rfl hlk (hb hby d20_29) (nle rfl) (nle rfl) ⟨a6, rfl, rfl, rfl, K11, ge10, G7, G8⟩
def Q_map3 (Z : State) (gC : Int32) (v_DE : Addr) (k_DE : ClassId) (v_EL : Addr) (v_EM : Addr) (v_OE : Addr) (m_OA : Addr) (x : Addr) (r : Addr) (el : Addr) (kel : ClassId) (y0 : Addr) (y1 : Addr) (y2 : Addr) (o : Addr) (g : Addr) (f : Addr) (h : Heap) (v : Option Value) (h' : Heap) (WL' FL' : List Addr) : Prop := ∃ q : Addr, v = some (.ref q) ∧ WL' = [q] ∧ FL' = [] ∧ Keep h h' [] ∧ h.size ≤ q ∧ Exa Z h' q "java/util/Optional" ∧ Fld Z h' q "java/util/Optional" "value" "Ljava/lang/Object;" (.ref y2)
theorem ct_map3 (cx : Cx a0 Z gC v_DE k_DE v_EL v_EM v_OE m_OA) (x : Addr) (r : Addr) (el : Addr) (kel : ClassId) (y0 : Addr) (y1 : Addr) (y2 : Addr) (o : Addr) (g : Addr) (f : Addr) (h : Heap) (WL FL : List Addr) (P0 : Exa Z h x "com/example/lexbind/lexbind/messages/Explanation") (P1 : Fld Z h x "com/example/lexbind/lexbind/messages/Explanation" "steps" "Ljava/util/List;" (.ref r)) (P2 : Exa Z h r "java/util/ImmutableCollections$ListN") (P3 : Fld Z h r "java/util/ImmutableCollections$ListN" "elements" "[Ljava/lang/Object;" (.ref el)) (P4 : Arv Z h el kel (.object "java/lang/Object") (3 : Int32) [(.ref y0), (.ref y1), (.ref y2)] .null) (P5 : Exa Z h y2 "com/example/lexbind/lexbind/messages/Explanation$Step") (P6 : Exa Z h o "java/util/Optional") (P7 : Fld Z h o "java/util/Optional" "value" "Ljava/lang/Object;" (.ref g)) (P8 : Exa Z h g "java/lang/String") (P9 : LamO Z h f x lamH lamS) :
    Ct l Z EL1 n0 (⟨"java/util/Optional", "map", "(Ljava/util/function/Function;)Ljava/util/Optional;"⟩ : MethodName) jdk_32_method_11_code 2 (Option.some (FieldType.object "java/util/Optional")) ({ frames := 3, cells := 1, slots := 1, locals := 39 } : Room) #[(.ref o), (.ref f)] h WL FL (Q_map3 Z gC v_DE k_DE v_EL v_EM v_OE m_OA x r el kel y0 y1 y2 o g f h) := by
  refine Ct.of (plainFor_of_name pn15) ?_
  intro p e s m below meth c s1 hx hby hml hnm hret hlk X0
  refine Wo.cast (f' := (mkF m 0 #[.val (.ref o), .val (.ref f)] [])) (by rfl) ?_
  have K0 : Keep h h [] := Keep.refl _ _
  show Wo _ _ _ _ _ _ _ _ _ _ _ s1 (mkF m 0 #[.val (.ref o), .val (.ref f)] [])
  refine P.aloadN X0 hx 1 (hb hby d20_0) rfl rfl rfl ?_
  refine X0.callS hx (w148 cx) (w149 cx) (w44 cx) (w150 cx) (by decide) (Ct.pay (W := 0) (ct_rnn1 cx f h _ _ ) (w150 cx) (w44 cx) (nle rfl) (nle rfl)) (by rw [hml]; rfl) (argsL := [.ref f]) (rest := []) (lenOf pd11 rfl) rfl rfl (Nat.le_of_eq rfl) (hb hby d20_1) (nle rfl) (nle rfl) ?_
  rintro T1 h1 _ _ _ X1 ⟨rfl, rfl, rfl, J1⟩
  rw [J1] at X1
  refine P.pop X1 hx 5 (hb hby d20_4) rfl rfl ?_
  refine P.aloadN X1 hx 6 (hb hby d20_5) rfl rfl rfl ?_
  refine X1.callV hx (w151 cx) (w152 cx) (w154 cx) (w153 cx) (fun _ hZ => nf hZ (w154 cx)) (by decide) P6 (Ct.pay (W := 0) (ct_opisEmpty1 cx o g h _ _ P7) (w155 cx) (w80 cx) (nle rfl) (nle rfl)) (by rw [hml]; rfl) (argsL := []) (rest := []) (lenOf pd16 rfl) rfl rfl (Nat.le_of_eq rfl) (hb hby d20_6) (nle rfl) (nle rfl) ?_
  rintro T2 h2 _ _ _ X2 ⟨rfl, rfl, rfl, J2⟩
  rw [J2] at X2
  refine P.ifYes X2 hx 16 (hb hby d20_9) (by decide) (by decide) (by decide) ?_
  refine P.aloadN X2 hx 17 (hb hby d20_16) rfl rfl rfl ?_
  refine P.aloadN X2 hx 18 (hb hby d20_17) rfl rfl rfl ?_
  refine X2.getF hx (host := "") (Or.inl (w126 cx)) Via.refl P7 (hb hby d20_18) ?_
  intro T3 X3
  refine X3.lamCall hx (w289 cx) (w290 cx) (w291 cx) rfl (by decide) pd11 P9 lam_ok lam_cap lam_cls lam_d0 lam_d1 lam_d4 lam_d5 lam_d8 lam_d11 (w142 cx) ⟨rfl, rfl, by decide⟩ ⟨rfl, rfl, by decide⟩ (by decide) (w294 cx) (w292 cx) (w293 cx) (w85 cx) (faceO (w137 cx) rfl) ⟨_, _, pd22⟩ P0 P8 (ct_lamb3 cx x r el kel y0 y1 y2 g h _ _ P0 P1 P2 P3 P4 P5) (by rintro v h' W' F' ⟨rfl, -⟩; exact ⟨_, rfl⟩) (by rw [hml]; rfl) (hb hby d20_21) (nle rfl) (W := 0) (Nat.le_of_eq rfl) (nle rfl) (nle rfl) (nle rfl) ?_
  rintro T4 h4 _ _ _ X4 ⟨rfl, rfl, rfl, J4⟩
  rw [J4] at X4
  refine X4.callS hx (w313 cx) (w314 cx) (w80 cx) (w315 cx) (by decide) (Ct.pay (W := 0) (ct_opofNullable cx y2 h _ _ ) (w315 cx) (w80 cx) (nle rfl) (nle rfl)) (by rw [hml]; rfl) (argsL := [.ref y2]) (rest := []) (lenOf pd23 rfl) rfl rfl (Nat.le_of_eq rfl) (hb hby d20_26) (nle rfl) (nle rfl) ?_
  rintro T5 h5 _ _ _ X5 ⟨a6, rfl, rfl, rfl, J5, g9, G7, G8⟩
  have ge10 : h.size ≤ a6 := Nat.le_trans K0.1 g9
  have K11 : Keep h h5 [] := K0.trans J5 all0
  exact WS.retA X5 (WL' := [a6]) (FL' := []) hx hret rfl rfl hlk (hb hby d20_29) (nle rfl) (nle rfl) ⟨a6, rfl, rfl, rfl, K11, ge10, G7, G8⟩
def Q_ans0 (Z : State) (gC : Int32) (v_DE : Addr) (k_DE : ClassId) (v_EL : Addr) (v_EM : Addr) (v_OE : Addr) (m_OA : Addr) (x : Addr) (h : Heap) (v : Option Value) (h' : Heap) (WL' FL' : List Addr) : Prop := v = some (.ref v_OE) ∧ WL' = [] ∧ FL' = [] ∧ Keep h h' []
theorem ct_ans0 (cx : Cx a0 Z gC v_DE k_DE v_EL v_EM v_OE m_OA) (x : Addr) (h : Heap) (WL FL : List Addr) (P0 : Exa Z h x "com/example/lexbind/lexbind/messages/Explanation") (P1 : Fld Z h x "com/example/lexbind/lexbind/messages/Explanation" "text" "Ljava/util/Optional;" (.ref v_OE)) :
    Ct l Z EL1 n0 (⟨"com/example/lexbind/lexbind/messages/Explanation", "answer", "()Ljava/util/Optional;"⟩ : MethodName) prog_36_method_3_code 1 (Option.some (FieldType.object "java/util/Optional")) ({ frames := 2, cells := 1, slots := 1, locals := 3074 } : Room) #[(.ref x)] h WL FL (Q_ans0 Z gC v_DE k_DE v_EL v_EM v_OE m_OA x h) := by
  refine Ct.ofN (plainFor_of_name pn16) ?_
  intro p e s m below meth c s1 hx hby hml hnm hret hlk hnd X0
  refine Wo.cast (f' := (mkF m 0 #[.val (.ref x)] [])) (by rfl) ?_
  have K0 : Keep h h [] := Keep.refl _ _
  show Wo _ _ _ _ _ _ _ _ _ _ _ s1 (mkF m 0 #[.val (.ref x)] [])
  refine P.aloadN X0 hx 1 (hb hby d19_0) rfl rfl rfl ?_
  refine X0.getF hx (host := "") (Or.inl (w130 cx)) Via.refl P1 (hb hby d19_1) ?_
  intro T1 X1
  refine P.aloadN X1 hx 5 (hb hby d19_4) rfl rfl rfl ?_
  refine X1.lamMake hx (x := (⟨"com/example/lexbind/lexbind/messages/Explanation", "answer", "()Ljava/util/Optional;"⟩ : MethodName)) (σ := lamS) (fi := 15) (w139 cx) hnd rfl lam_cap (w142 cx) (b := x) (by rw [hml]; rfl) (hb hby d19_5) (W := 1) (Nat.le_of_eq rfl) (nle rfl) (nle rfl) (nle rfl) ?_
  intro T2 h2 a2 X2 E2 g2 L2
  have ge3 : h.size ≤ a2 := Nat.le_trans K0.1 g2
  have K4 : Keep h h2 [] := K0.ext E2
  refine X2.callV hx (w143 cx) (w144 cx) (w146 cx) (w145 cx) (fun _ hZ => nf hZ (w146 cx)) (by decide) ((E_OE cx).ext X2.old.2) (Ct.pay (W := 0) (ct_map0 cx a2 h2 _ _ ) (w147 cx) (w80 cx) (nle rfl) (nle rfl)) (by rw [hml]; rfl) (argsL := [.ref a2]) (rest := []) (lenOf pd24 rfl) rfl rfl (Nat.le_of_eq rfl) (hb hby d19_10) (nle rfl) (nle rfl) ?_
  rintro T5 h5 _ _ _ X5 ⟨rfl, rfl, rfl, J5⟩
  rw [J5] at X5
  have X6 := WS.drop (A := []) (B := WL) X5
  have X7 := WS.fl (FL2 := FL) X6 (fun y hy => (List.mem_append_right [a2] hy))
  exact WS.retA X7 (WL' := []) (FL' := []) hx hret rfl rfl hlk (hb hby d19_13) (nle rfl) (nle rfl) ⟨rfl, rfl, rfl, K4⟩
def Q_ans1 (Z : State) (gC : Int32) (v_DE : Addr) (k_DE : ClassId) (v_EL : Addr) (v_EM : Addr) (v_OE : Addr) (m_OA : Addr) (x : Addr) (r : Addr) (y0 : Addr) (o : Addr) (g : Addr) (h : Heap) (v : Option Value) (h' : Heap) (WL' FL' : List Addr) : Prop := ∃ q : Addr, v = some (.ref q) ∧ WL' = [q] ∧ FL' = [] ∧ Keep h h' [] ∧ h.size ≤ q ∧ Exa Z h' q "java/util/Optional" ∧ Fld Z h' q "java/util/Optional" "value" "Ljava/lang/Object;" (.ref y0)
theorem ct_ans1 (cx : Cx a0 Z gC v_DE k_DE v_EL v_EM v_OE m_OA) (x : Addr) (r : Addr) (y0 : Addr) (o : Addr) (g : Addr) (h : Heap) (WL FL : List Addr) (P0 : Exa Z h x "com/example/lexbind/lexbind/messages/Explanation") (P1 : Fld Z h x "com/example/lexbind/lexbind/messages/Explanation" "steps" "Ljava/util/List;" (.ref r)) (P2 : Exa Z h r "java/util/ImmutableCollections$List12") (P3 : Fld Z h r "java/util/ImmutableCollections$List12" "e0" "Ljava/lang/Object;" (.ref y0)) (P4 : Fld Z h r "java/util/ImmutableCollections$List12" "e1" "Ljava/lang/Object;" (.ref v_EM)) (P5 : Exa Z h y0 "com/example/lexbind/lexbind/messages/Explanation$Step") (P6 : Fld Z h x "com/example/lexbind/lexbind/messages/Explanation" "text" "Ljava/util/Optional;" (.ref o)) (P7 : Exa Z h o "java/util/Optional") (P8 : Fld Z h o "java/util/Optional" "value" "Ljava/lang/Object;" (.ref g)) (P9 : Exa Z h g "java/lang/String") :
    Ct l Z EL1 n0 (⟨"com/example/lexbind/lexbind/messages/Explanation", "answer", "()Ljava/util/Optional;"⟩ : MethodName) prog_36_method_3_code 1 (Option.some (FieldType.object "java/util/Optional")) ({ frames := 4, cells := 2, slots := 2, locals := 3074 } : Room) #[(.ref x)] h WL FL (Q_ans1 Z gC v_DE k_DE v_EL v_EM v_OE m_OA x r y0 o g h) := by
  refine Ct.ofN (plainFor_of_name pn16) ?_
  intro p e s m below meth c s1 hx hby hml hnm hret hlk hnd X0
  refine Wo.cast (f' := (mkF m 0 #[.val (.ref x)] [])) (by rfl) ?_
  have K0 : Keep h h [] := Keep.refl _ _
  show Wo _ _ _ _ _ _ _ _ _ _ _ s1 (mkF m 0 #[.val (.ref x)] [])
  refine P.aloadN X0 hx 1 (hb hby d19_0) rfl rfl rfl ?_
  refine X0.getF hx (host := "") (Or.inl (w130 cx)) Via.refl P6 (hb hby d19_1) ?_
  intro T1 X1
  refine P.aloadN X1 hx 5 (hb hby d19_4) rfl rfl rfl ?_
  refine X1.lamMake hx (x := (⟨"com/example/lexbind/lexbind/messages/Explanation", "answer", "()Ljava/util/Optional;"⟩ : MethodName)) (σ := lamS) (fi := 15) (w139 cx) hnd rfl lam_cap (w142 cx) (b := x) (by rw [hml]; rfl) (hb hby d19_5) (W := 1) (Nat.le_of_eq rfl) (nle rfl) (nle rfl) (nle rfl) ?_
  intro T2 h2 a2 X2 E2 g2 L2
  have ge3 : h.size ≤ a2 := Nat.le_trans K0.1 g2
  have K4 : Keep h h2 [] := K0.ext E2
  have F5 := P7.ext E2
  have F6 := P8.ext E2
  have F7 := P1.ext E2
  have F8 := P3.ext E2
  have F9 := P0.ext E2
  have F10 := P2.ext E2
  have F11 := P4.ext E2
  have F12 := P5.ext E2
  have F13 := P9.ext E2
  refine X2.callV hx (w143 cx) (w144 cx) (w146 cx) (w145 cx) (fun _ hZ => nf hZ (w146 cx)) (by decide) F5 (Ct.pay (W := 0) (ct_map1 cx x r y0 o g a2 h2 _ _ F9 F7 F10 F8 F11 F12 F5 F6 F13 L2) (w147 cx) (w80 cx) (nle rfl) (nle rfl)) (by rw [hml]; rfl) (argsL := [.ref a2]) (rest := []) (lenOf pd24 rfl) rfl rfl (Nat.le_of_eq rfl) (hb hby d19_10) (nle rfl) (nle rfl) ?_
  rintro T14 h14 _ _ _ X14 ⟨a15, rfl, rfl, rfl, J14, g18, G16, G17⟩
  have ge19 : h.size ≤ a15 := Nat.le_trans K4.1 g18
  have K20 : Keep h h14 [] := K4.trans J14 all0
  have X21 := WS.drop (A := [a15]) (B := WL) X14
  have X22 := WS.fl (FL2 := FL) X21 (fun y hy => (List.mem_append_right [a2] hy))
  exact WS.retA X22 (WL' := [a15]) (FL' := []) hx hret rfl rfl hlk (hb hby d19_13) (nle rfl) (nle rfl) ⟨a15, rfl, rfl, rfl, K20, ge19, G16, G17⟩
def Q_ans2 (Z : State) (gC : Int32) (v_DE : Addr) (k_DE : ClassId) (v_EL : Addr) (v_EM : Addr) (v_OE : Addr) (m_OA : Addr) (x : Addr) (r : Addr) (y0 : Addr) (y1 : Addr) (o : Addr) (g : Addr) (h : Heap) (v : Option Value) (h' : Heap) (WL' FL' : List Addr) : Prop := ∃ q : Addr, v = some (.ref q) ∧ WL' = [q] ∧ FL' = [] ∧ Keep h h' [] ∧ h.size ≤ q ∧ Exa Z h' q "java/util/Optional" ∧ Fld Z h' q "java/util/Optional" "value" "Ljava/lang/Object;" (.ref y1)
theorem ct_ans2 (cx : Cx a0 Z gC v_DE k_DE v_EL v_EM v_OE m_OA) (x : Addr) (r : Addr) (y0 : Addr) (y1 : Addr) (o : Addr) (g : Addr) (h : Heap) (WL FL : List Addr) (P0 : Exa Z h x "com/example/lexbind/lexbind/messages/Explanation") (P1 : Fld Z h x "com/example/lexbind/lexbind/messages/Explanation" "steps" "Ljava/util/List;" (.ref r)) (P2 : Exa Z h r "java/util/ImmutableCollections$List12") (P3 : Fld Z h r "java/util/ImmutableCollections$List12" "e0" "Ljava/lang/Object;" (.ref y0)) (P4 : Fld Z h r "java/util/ImmutableCollections$List12" "e1" "Ljava/lang/Object;" (.ref y1)) (hye : y1 ≠ v_EM) (P6 : Exa Z h y1 "com/example/lexbind/lexbind/messages/Explanation$Step") (P7 : Fld Z h x "com/example/lexbind/lexbind/messages/Explanation" "text" "Ljava/util/Optional;" (.ref o)) (P8 : Exa Z h o "java/util/Optional") (P9 : Fld Z h o "java/util/Optional" "value" "Ljava/lang/Object;" (.ref g)) (P10 : Exa Z h g "java/lang/String") :
    Ct l Z EL1 n0 (⟨"com/example/lexbind/lexbind/messages/Explanation", "answer", "()Ljava/util/Optional;"⟩ : MethodName) prog_36_method_3_code 1 (Option.some (FieldType.object "java/util/Optional")) ({ frames := 4, cells := 2, slots := 2, locals := 3074 } : Room) #[(.ref x)] h WL FL (Q_ans2 Z gC v_DE k_DE v_EL v_EM v_OE m_OA x r y0 y1 o g h) := by
  refine Ct.ofN (plainFor_of_name pn16) ?_
  intro p e s m below meth c s1 hx hby hml hnm hret hlk hnd X0
  refine Wo.cast (f' := (mkF m 0 #[.val (.ref x)] [])) (by rfl) ?_
  have K0 : Keep h h [] := Keep.refl _ _
  show Wo _ _ _ _ _ _ _ _ _ _ _ s1 (mkF m 0 #[.val (.ref x)] [])
  refine P.aloadN X0 hx 1 (hb hby d19_0) rfl rfl rfl ?_
  refine X0.getF hx (host := "") (Or.inl (w130 cx)) Via.refl P7 (hb hby d19_1) ?_
  intro T1 X1
  refine P.aloadN X1 hx 5 (hb hby d19_4) rfl rfl rfl ?_
  refine X1.lamMake hx (x := (⟨"com/example/lexbind/lexbind/messages/Explanation", "answer", "()Ljava/util/Optional;"⟩ : MethodName)) (σ := lamS) (fi := 15) (w139 cx) hnd rfl lam_cap (w142 cx) (b := x) (by rw [hml]; rfl) (hb hby d19_5) (W := 1) (Nat.le_of_eq rfl) (nle rfl) (nle rfl) (nle rfl) ?_
  intro T2 h2 a2 X2 E2 g2 L2
  have ge3 : h.size ≤ a2 := Nat.le_trans K0.1 g2
  have K4 : Keep h h2 [] := K0.ext E2
  have F5 := P8.ext E2
  have F6 := P9.ext E2
  have F7 := P1.ext E2
  have F8 := P3.ext E2
  have F9 := P4.ext E2
  have F10 := P0.ext E2
  have F11 := P2.ext E2
  have F12 := P6.ext E2
  have F13 := P10.ext E2
  refine X2.callV hx (w143 cx) (w144 cx) (w146 cx) (w145 cx) (fun _ hZ => nf hZ (w146 cx)) (by decide) F5 (Ct.pay (W := 0) (ct_map2 cx x r y0 y1 o g a2 h2 _ _ F10 F7 F11 F8 F9 hye F12 F5 F6 F13 L2) (w147 cx) (w80 cx) (nle rfl) (nle rfl)) (by rw [hml]; rfl) (argsL := [.ref a2]) (rest := []) (lenOf pd24 rfl) rfl rfl (Nat.le_of_eq rfl) (hb hby d19_10) (nle rfl) (nle rfl) ?_
  rintro T14 h14 _ _ _ X14 ⟨a15, rfl, rfl, rfl, J14, g18, G16, G17⟩
  have ge19 : h.size ≤ a15 := Nat.le_trans K4.1 g18
  have K20 : Keep h h14 [] := K4.trans J14 all0
  have X21 := WS.drop (A := [a15]) (B := WL) X14
  have X22 := WS.fl (FL2 := FL) X21 (fun y hy => (List.mem_append_right [a2] hy))
  exact WS.retA X22 (WL' := [a15]) (FL' := []) hx hret rfl rfl hlk (hb hby d19_13) (nle rfl) (nle rfl) ⟨a15, rfl, rfl, rfl, K20, ge19, G16, G17⟩
def Q_ans3 (Z : State) (gC : Int32) (v_DE : Addr) (k_DE : ClassId) (v_EL : Addr) (v_EM : Addr) (v_OE : Addr) (m_OA : Addr) (x : Addr) (r : Addr) (el : Addr) (kel : ClassId) (y0 : Addr) (y1 : Addr) (y2 : Addr) (o : Addr) (g : Addr) (h : Heap) (v : Option Value) (h' : Heap) (WL' FL' : List Addr) : Prop := ∃ q : Addr, v = some (.ref q) ∧ WL' = [q] ∧ FL' = [] ∧ Keep h h' [] ∧ h.size ≤ q ∧ Exa Z h' q "java/util/Optional" ∧ Fld Z h' q "java/util/Optional" "value" "Ljava/lang/Object;" (.ref y2)
theorem ct_ans3 (cx : Cx a0 Z gC v_DE k_DE v_EL v_EM v_OE m_OA) (x : Addr) (r : Addr) (el : Addr) (kel : ClassId) (y0 : Addr) (y1 : Addr) (y2 : Addr) (o : Addr) (g : Addr) (h : Heap) (WL FL : List Addr) (P0 : Exa Z h x "com/example/lexbind/lexbind/messages/Explanation") (P1 : Fld Z h x "com/example/lexbind/lexbind/messages/Explanation" "steps" "Ljava/util/List;" (.ref r)) (P2 : Exa Z h r "java/util/ImmutableCollections$ListN") (P3 : Fld Z h r "java/util/ImmutableCollections$ListN" "elements" "[Ljava/lang/Object;" (.ref el)) (P4 : Arv Z h el kel (.object "java/lang/Object") (3 : Int32) [(.ref y0), (.ref y1), (.ref y2)] .null) (P5 : Exa Z h y2 "com/example/lexbind/lexbind/messages/Explanation$Step") (P6 : Fld Z h x "com/example/lexbind/lexbind/messages/Explanation" "text" "Ljava/util/Optional;" (.ref o)) (P7 : Exa Z h o "java/util/Optional") (P8 : Fld Z h o "java/util/Optional" "value" "Ljava/lang/Object;" (.ref g)) (P9 : Exa Z h g "java/lang/String") :
    Ct l Z EL1 n0 (⟨"com/example/lexbind/lexbind/messages/Explanation", "answer", "()Ljava/util/Optional;"⟩ : MethodName) prog_36_method_3_code 1 (Option.some (FieldType.object "java/util/Optional")) ({ frames := 4, cells := 2, slots := 2, locals := 3074 } : Room) #[(.ref x)] h WL FL (Q_ans3 Z gC v_DE k_DE v_EL v_EM v_OE m_OA x r el kel y0 y1 y2 o g h) := by
  refine Ct.ofN (plainFor_of_name pn16) ?_
  intro p e s m below meth c s1 hx hby hml hnm hret hlk hnd X0
  refine Wo.cast (f' := (mkF m 0 #[.val (.ref x)] [])) (by rfl) ?_
  have K0 : Keep h h [] := Keep.refl _ _
  show Wo _ _ _ _ _ _ _ _ _ _ _ s1 (mkF m 0 #[.val (.ref x)] [])
  refine P.aloadN X0 hx 1 (hb hby d19_0) rfl rfl rfl ?_
  refine X0.getF hx (host := "") (Or.inl (w130 cx)) Via.refl P6 (hb hby d19_1) ?_
  intro T1 X1
  refine P.aloadN X1 hx 5 (hb hby d19_4) rfl rfl rfl ?_
  refine X1.lamMake hx (x := (⟨"com/example/lexbind/lexbind/messages/Explanation", "answer", "()Ljava/util/Optional;"⟩ : MethodName)) (σ := lamS) (fi := 15) (w139 cx) hnd rfl lam_cap (w142 cx) (b := x) (by rw [hml]; rfl) (hb hby d19_5) (W := 1) (Nat.le_of_eq rfl) (nle rfl) (nle rfl) (nle rfl) ?_
  intro T2 h2 a2 X2 E2 g2 L2
  have ge3 : h.size ≤ a2 := Nat.le_trans K0.1 g2
  have K4 : Keep h h2 [] := K0.ext E2
  have F5 := P7.ext E2
  have F6 := P8.ext E2
  have F7 := P1.ext E2
  have F8 := P3.ext E2
  have F9 := P4.ext E2
  have F10 := P0.ext E2
  have F11 := P2.ext E2
  have F12 := P5.ext E2
  have F13 := P9.ext E2
  refine X2.callV hx (w143 cx) (w144 cx) (w146 cx) (w145 cx) (fun _ hZ => nf hZ (w146 cx)) (by decide) F5 (Ct.pay (W := 0) (ct_map3 cx x r el kel y0 y1 y2 o g a2 h2 _ _ F10 F7 F11 F8 F9 F12 F5 F6 F13 L2) (w147 cx) (w80 cx) (nle rfl) (nle rfl)) (by rw [hml]; rfl) (argsL := [.ref a2]) (rest := []) (lenOf pd24 rfl) rfl rfl (Nat.le_of_eq rfl) (hb hby d19_10) (nle rfl) (nle rfl) ?_
  rintro T14 h14 _ _ _ X14 ⟨a15, rfl, rfl, rfl, J14, g18, G16, G17⟩
  have ge19 : h.size ≤ a15 := Nat.le_trans K4.1 g18
  have K20 : Keep h h14 [] := K4.trans J14 all0
  have X21 := WS.drop (A := [a15]) (B := WL) X14
  have X22 := WS.fl (FL2 := FL) X21 (fun y hy => (List.mem_append_right [a2] hy))
  exact WS.retA X22 (WL' := [a15]) (FL' := []) hx hret rfl rfl hlk (hb hby d19_13) (nle rfl) (nle rfl) ⟨a15, rfl, rfl, rfl, K20, ge19, G16, G17⟩
def Q_law (Z : State) (gC : Int32) (v_DE : Addr) (k_DE : ClassId) (v_EL : Addr) (v_EM : Addr) (v_OE : Addr) (m_OA : Addr) (p0 : Int32) (p1 : Int32) (p2 : Int32) (p3 : Int32) (h : Heap) (v : Option Value) (h' : Heap) (WL' FL' : List Addr) : Prop := v = some (.int 1) ∧ WL' = [] ∧ FL' = [] ∧ Keep h h' []
theorem ct_law_00 (cx : Cx a0 Z gC v_DE k_DE v_EL v_EM v_OE m_OA) (p0 : Int32) (p1 : Int32) (p2 : Int32) (p3 : Int32) (h : Heap) (WL FL : List Addr)  (e4 : (p0 &&& (3 : Int32)) = (0 : Int32)) (eb : (p1 &&& (1 : Int32)) = (0 : Int32)) :
    Ct l Z EL1 n0 x code maxLocals ret room_1 #[(.int p0), (.int p1), (.int p2), (.int p3)] h WL FL (Q_law Z gC v_DE k_DE v_EL v_EM v_OE m_OA p0 p1 p2 p3 h) := by
  refine Ct.of (plainFor_of_name pn17) ?_
  intro p e s m below meth c s1 hx hby hml hnm hret hlk X0
  refine Wo.cast (f' := (mkF m 0 #[.val (.int p0), .val (.int p1), .val (.int p2), .val (.int p3), .unset, .unset, .unset, .unset, .unset, .unset, .unset, .unset, .unset, .unset, .unset, .unset, .unset] [])) (by first | (simp [entryFrame, mkF, argsToLocals, Value.category, maxLocals]; done) | rfl) ?_
  have K0 : Keep h h [] := Keep.refl _ _
  show Wo _ _ _ _ _ _ _ _ _ _ _ s1 (mkF m 0 #[.val (.int p0), .val (.int p1), .val (.int p2), .val (.int p3), .unset, .unset, .unset, .unset, .unset, .unset, .unset, .unset, .unset, .unset, .unset, .unset, .unset] [])
  refine P.iloadN X0 hx 1 (hb hby at_0) rfl rfl ?_
  refine P.iconst X0 hx 2 3 (hb hby at_1) rfl rfl ?_
  refine P.iand X0 hx 3 (z := (0 : Int32)) (hb hby at_2) (e4) rfl ?_
  refine P.istore X0 hx 5 #[.val (.int p0), .val (.int p1), .val (.int p2), .val (.int p3), .val (.int 0), .unset, .unset, .unset, .unset, .unset, .unset, .unset, .unset, .unset, .unset, .unset, .unset] (hb hby at_3) rfl rfl ?_
  refine P.iloadN X0 hx 6 (hb hby at_5) rfl rfl ?_
  refine P.iconst X0 hx 7 1 (hb hby at_6) rfl rfl ?_
  refine P.iand X0 hx 8 (z := (p1 &&& (1 : Int32))) (hb hby at_7) rfl rfl ?_
  refine P.ifYes X0 hx 20 (hb hby at_8) ((if0 _ _).trans (teq eb).1) (by decide) (by decide) ?_
  refine P.iconst X0 hx 21 0 (hb hby at_20) rfl rfl ?_
  refine P.istore X0 hx 23 #[.val (.int p0), .val (.int p1), .val (.int p2), .val (.int p3), .val (.int 0), .val (.int 0), .unset, .unset, .unset, .unset, .unset, .unset, .unset, .unset, .unset, .unset, .unset] (hb hby at_21) rfl rfl ?_
  refine P.iloadN X0 hx 24 (hb hby at_23) rfl rfl ?_
  refine P.sipush X0 hx 27 255 (hb hby at_24) rfl rfl ?_
  refine P.iand X0 hx 28 (z := (p2 &&& (255 : Int32))) (hb hby at_27) rfl rfl ?_
  refine P.i2c X0 hx 29 (z := (p2 &&& (255 : Int32))) (hb hby at_28) (by rw [i2c_mask]) rfl ?_
  refine X0.callS hx (w0 cx) (w1 cx) (w2 cx) (w3 cx) (by decide) (Ct.pay (W := 0) (ct_valC cx (p2 &&& (255 : Int32)) h _ _ (rng255 _)) (w3 cx) (w2 cx) (nle rfl) (nle rfl)) (by rw [hml]; rfl) (argsL := [.int (p2 &&& (255 : Int32))]) (rest := []) (lenOf pd25 rfl) rfl rfl (Nat.le_of_eq rfl) (hb hby at_29) (nle rfl) (nle rfl) ?_
  rintro T1 h1 _ _ _ X1 ⟨a2, a3, rfl, rfl, rfl, J1, g5, G4⟩
  have ge6 : h.size ≤ a2 := Nat.le_trans K0.1 g5
  have K7 : Keep h h1 [] := K0.trans J1 all0
  refine P.astore X1 hx 34 #[.val (.int p0), .val (.int p1), .val (.int p2), .val (.int p3), .val (.int 0), .val (.int 0), .val (.ref a2), .unset, .unset, .unset, .unset, .unset, .unset, .unset, .unset, .unset, .unset] (hb hby at_32) rfl rfl rfl ?_
  refine P.iloadN X1 hx 35 (hb hby at_34) rfl rfl ?_
  refine P.sipush X1 hx 38 255 (hb hby at_35) rfl rfl ?_
  refine P.iand X1 hx 39 (z := (p3 &&& (255 : Int32))) (hb hby at_38) rfl rfl ?_
  refine P.i2c X1 hx 40 (z := (p3 &&& (255 : Int32))) (hb hby at_39) (by rw [i2c_mask]) rfl ?_
  refine X1.callS hx (w0 cx) (w1 cx) (w2 cx) (w3 cx) (by decide) (Ct.pay (W := 0) (ct_valC cx (p3 &&& (255 : Int32)) h1 _ _ (rng255 _)) (w3 cx) (w2 cx) (nle rfl) (nle rfl)) (by rw [hml]; rfl) (argsL := [.int (p3 &&& (255 : Int32))]) (rest := []) (lenOf pd25 rfl) rfl rfl (Nat.le_of_eq rfl) (hb hby at_40) (nle rfl) (nle rfl) ?_
  rintro T8 h8 _ _ _ X8 ⟨a9, a10, rfl, rfl, rfl, J8, g12, G11⟩
  have ge13 : h.size ≤ a9 := Nat.le_trans K7.1 g12
  have K14 : Keep h h8 [] := K7.trans J8 all0
  refine P.astore X8 hx 45 #[.val (.int p0), .val (.int p1), .val (.int p2), .val (.int p3), .val (.int 0), .val (.int 0), .val (.ref a2), .val (.ref a9), .unset, .unset, .unset, .unset, .unset, .unset, .unset, .unset, .unset] (hb hby at_43) rfl rfl rfl ?_
  refine X8.newO hx (w26 cx) (w27 cx) (w28 cx) (hb hby at_45) (nle rfl) (nle rfl) ?_
  intro T15 h15 a15 X15 E15 g15 A15 D15
  have ge16 : h.size ≤ a15 := Nat.le_trans K14.1 g15
  have K17 : Keep h h15 [] := K14.ext E15
  have D18 : Fld Z h15 a15 "com/example/lexbind/lexbind/messages/Explanation$Step" "source" "Ljava/lang/String;" .null := D15 (Or.inr (w48 cx)) (ty := (.object "java/lang/String")) (by decide)
  have D19 : Fld Z h15 a15 "com/example/lexbind/lexbind/messages/Explanation$Step" "key" "Ljava/lang/String;" .null := D15 (Or.inr (w50 cx)) (ty := (.object "java/lang/String")) (by decide)
  refine P.dup X15 hx 49 (hb hby at_48) rfl rfl ?_
  refine P.aload X15 hx 51 (hb hby at_49) rfl rfl rfl ?_
  refine X15.ldcO hx (w29 cx) (strAtoms cx) (hb hby at_51) (n := 8) (nle rfl) (nle rfl) (nle rfl) (nle rfl) ?_
  intro T20 h20 a20 X20 E20
  have K21 : Keep h h20 [] := K17.ext E20
  have F22 := A15.ext E20
  have F23 := D18.ext E20
  have F24 := D19.ext E20
  refine X20.callC hx rfl (w32 cx) (w33 cx) (w34 cx) (by decide) (Ct.pay (W := 1) (ct_stpini cx a15 a2 a20 h20 _ _ F22 F23 F24 (mg 0 rfl)) (w34 cx) (w28 cx) (nle rfl) (nle rfl)) (by rw [hml]; rfl) (argsL := [.ref a2, .ref a20]) (rest := [.ref a15]) (lenOf pd26 rfl) rfl rfl (Nat.le_of_eq rfl) (hb hby at_53) (nle rfl) (nle rfl) ?_
  rintro T25 h25 _ _ _ X25 ⟨rfl, rfl, rfl, J25⟩
  have K26 : Keep h h25 [] := K21.trans J25 (allS (Or.inr ge16) all0)
  refine P.astore X25 hx 58 #[.val (.int p0), .val (.int p1), .val (.int p2), .val (.int p3), .val (.int 0), .val (.int 0), .val (.ref a2), .val (.ref a9), .val (.ref a15), .unset, .unset, .unset, .unset, .unset, .unset, .unset, .unset] (hb hby at_56) rfl rfl rfl ?_
  refine X25.newO hx (w26 cx) (w27 cx) (w28 cx) (hb hby at_58) (nle rfl) (nle rfl) ?_
  intro T27 h27 a27 X27 E27 g27 A27 D27
  have ge28 : h.size ≤ a27 := Nat.le_trans K26.1 g27
  have K29 : Keep h h27 [] := K26.ext E27
  have D30 : Fld Z h27 a27 "com/example/lexbind/lexbind/messages/Explanation$Step" "source" "Ljava/lang/String;" .null := D27 (Or.inr (w48 cx)) (ty := (.object "java/lang/String")) (by decide)
  have D31 : Fld Z h27 a27 "com/example/lexbind/lexbind/messages/Explanation$Step" "key" "Ljava/lang/String;" .null := D27 (Or.inr (w50 cx)) (ty := (.object "java/lang/String")) (by decide)
  refine P.dup X27 hx 62 (hb hby at_61) rfl rfl ?_
  refine P.aload X27 hx 64 (hb hby at_62) rfl rfl rfl ?_
  refine X27.ldcO hx (w51 cx) (strAtoms cx) (hb hby at_64) (n := 8) (nle rfl) (nle rfl) (nle rfl) (nle rfl) ?_
  intro T32 h32 a32 X32 E32
  have K33 : Keep h h32 [] := K29.ext E32
  have F34 := A27.ext E32
  have F35 := D30.ext E32
  have F36 := D31.ext E32
  refine X32.callC hx rfl (w32 cx) (w33 cx) (w34 cx) (by decide) (Ct.pay (W := 1) (ct_stpini cx a27 a9 a32 h32 _ _ F34 F35 F36 (mg 0 rfl)) (w34 cx) (w28 cx) (nle rfl) (nle rfl)) (by rw [hml]; rfl) (argsL := [.ref a9, .ref a32]) (rest := [.ref a27]) (lenOf pd26 rfl) rfl rfl (Nat.le_of_eq rfl) (hb hby at_66) (nle rfl) (nle rfl) ?_
  rintro T37 h37 _ _ _ X37 ⟨rfl, rfl, rfl, J37⟩
  have K38 : Keep h h37 [] := K33.trans J37 (allS (Or.inr ge28) all0)
  refine P.astore X37 hx 71 #[.val (.int p0), .val (.int p1), .val (.int p2), .val (.int p3), .val (.int 0), .val (.int 0), .val (.ref a2), .val (.ref a9), .val (.ref a15), .val (.ref a27), .unset, .unset, .unset, .unset, .unset, .unset, .unset] (hb hby at_69) rfl rfl rfl ?_
  refine X37.newO hx (w26 cx) (w27 cx) (w28 cx) (hb hby at_71) (nle rfl) (nle rfl) ?_
  intro T39 h39 a39 X39 E39 g39 A39 D39
  have ge40 : h.size ≤ a39 := Nat.le_trans K38.1 g39
  have K41 : Keep h h39 [] := K38.ext E39
  have D42 : Fld Z h39 a39 "com/example/lexbind/lexbind/messages/Explanation$Step" "source" "Ljava/lang/String;" .null := D39 (Or.inr (w48 cx)) (ty := (.object "java/lang/String")) (by decide)
  have D43 : Fld Z h39 a39 "com/example/lexbind/lexbind/messages/Explanation$Step" "key" "Ljava/lang/String;" .null := D39 (Or.inr (w50 cx)) (ty := (.object "java/lang/String")) (by decide)
  refine P.dup X39 hx 75 (hb hby at_74) rfl rfl ?_
  refine P.aload X39 hx 77 (hb hby at_75) rfl rfl rfl ?_
  refine X39.ldcO hx (w52 cx) (strAtoms cx) (hb hby at_77) (n := 8) (nle rfl) (nle rfl) (nle rfl) (nle rfl) ?_
  intro T44 h44 a44 X44 E44
  have K45 : Keep h h44 [] := K41.ext E44
  have F46 := A39.ext E44
  have F47 := D42.ext E44
  have F48 := D43.ext E44
  refine X44.callC hx rfl (w32 cx) (w33 cx) (w34 cx) (by decide) (Ct.pay (W := 1) (ct_stpini cx a39 a2 a44 h44 _ _ F46 F47 F48 (mg 0 rfl)) (w34 cx) (w28 cx) (nle rfl) (nle rfl)) (by rw [hml]; rfl) (argsL := [.ref a2, .ref a44]) (rest := [.ref a39]) (lenOf pd26 rfl) rfl rfl (Nat.le_of_eq rfl) (hb hby at_79) (nle rfl) (nle rfl) ?_
  rintro T49 h49 _ _ _ X49 ⟨rfl, rfl, rfl, J49⟩
  have K50 : Keep h h49 [] := K45.trans J49 (allS (Or.inr ge40) all0)
  refine P.astore X49 hx 84 #[.val (.int p0), .val (.int p1), .val (.int p2), .val (.int p3), .val (.int 0), .val (.int 0), .val (.ref a2), .val (.ref a9), .val (.ref a15), .val (.ref a27), .val (.ref a39), .unset, .unset, .unset, .unset, .unset, .unset] (hb hby at_82) rfl rfl rfl ?_
  refine X49.newO hx (w53 cx) (w54 cx) (w55 cx) (hb hby at_84) (nle rfl) (nle rfl) ?_
  intro T51 h51 a51 X51 E51 g51 A51 D51
  have ge52 : h.size ≤ a51 := Nat.le_trans K50.1 g51
  have K53 : Keep h h51 [] := K50.ext E51
  have D54 : Fld Z h51 a51 "java/util/AbstractList" "modCount" "I" (.int 0) := D51 (Or.inl (w73 cx)) (ty := .int) (by decide)
  have D55 : Fld Z h51 a51 "java/util/ArrayList" "elementData" "[Ljava/lang/Object;" .null := D51 (Or.inl (w76 cx)) (ty := (.array (.object "java/lang/Object"))) (by decide)
  have D56 : Fld Z h51 a51 "java/util/ArrayList" "size" "I" (.int 0) := D51 (Or.inl (w114 cx)) (ty := .int) (by decide)
  refine P.dup X51 hx 88 (hb hby at_87) rfl rfl ?_
  refine X51.callC hx rfl (w56 cx) (w57 cx) (w58 cx) (by decide) (Ct.pay (W := 1) (ct_alini cx a51 h51 _ _ A51 D54 D55 D56 (mg 0 rfl)) (w58 cx) (w55 cx) (nle rfl) (nle rfl)) (by rw [hml]; rfl) (argsL := []) (rest := [.ref a51]) (lenOf pd3 rfl) rfl rfl (Nat.le_of_eq rfl) (hb hby at_88) (nle rfl) (nle rfl) ?_
  rintro T57 h57 _ _ _ X57 ⟨rfl, rfl, rfl, J57, G58, G59, G60⟩
  have K61 : Keep h h57 [] := K53.trans J57 (allS (Or.inr ge52) all0)
  refine P.astore X57 hx 93 #[.val (.int p0), .val (.int p1), .val (.int p2), .val (.int p3), .val (.int 0), .val (.int 0), .val (.ref a2), .val (.ref a9), .val (.ref a15), .val (.ref a27), .val (.ref a39), .val (.ref a51), .unset, .unset, .unset, .unset, .unset] (hb hby at_91) rfl rfl rfl ?_
  refine P.aconstNull X57 hx 94 (hb hby at_93) rfl ?_
  refine P.astore X57 hx 96 #[.val (.int p0), .val (.int p1), .val (.int p2), .val (.int p3), .val (.int 0), .val (.int 0), .val (.ref a2), .val (.ref a9), .val (.ref a15), .val (.ref a27), .val (.ref a39), .val (.ref a51), .val .null, .unset, .unset, .unset, .unset] (hb hby at_94) rfl rfl rfl ?_
  refine P.iload X57 hx 98 (hb hby at_96) rfl rfl ?_
  refine P.iconst X57 hx 99 1 (hb hby at_98) rfl rfl ?_
  refine P.icmpYes X57 hx 116 (hb hby at_99) (by decide) (by decide) (by decide) ?_
  refine P.iload X57 hx 118 (hb hby at_116) rfl rfl ?_
  refine P.iconst X57 hx 119 2 (hb hby at_118) rfl rfl ?_
  refine P.icmpYes X57 hx 136 (hb hby at_119) (by decide) (by decide) (by decide) ?_
  refine P.iload X57 hx 138 (hb hby at_136) rfl rfl ?_
  refine P.iconst X57 hx 139 3 (hb hby at_138) rfl rfl ?_
  refine P.icmpYes X57 hx 156 (hb hby at_139) (by decide) (by decide) (by decide) ?_
  refine P.iconst X57 hx 157 2 (hb hby at_156) rfl rfl ?_
  refine X57.newP (aty := .char) hx (w77 cx) (hb hby at_157) (by decide) (cap := 2) (nle rfl) (nle rfl) (nle rfl) (nle rfl) ?_
  intro T62 h62 a62 k62 X62 E62 g62 A62
  have ge63 : h.size ≤ a62 := Nat.le_trans K61.1 g62
  have K64 : Keep h h62 [] := K61.ext E62
  have V65 : Arv Z h62 a62 k62 .char (2 : Int32) [(.int 0), (.int 0)] (.int 0) := Arv.pad A62 (pad_rep [] _ 2)
  refine P.astore X62 hx 161 #[.val (.int p0), .val (.int p1), .val (.int p2), .val (.int p3), .val (.int 0), .val (.int 0), .val (.ref a2), .val (.ref a9), .val (.ref a15), .val (.ref a27), .val (.ref a39), .val (.ref a51), .val .null, .val (.ref a62), .unset, .unset, .unset] (hb hby at_159) rfl rfl rfl ?_
  refine P.aload X62 hx 163 (hb hby at_161) rfl rfl rfl ?_
  refine P.iconst X62 hx 164 0 (hb hby at_163) rfl rfl ?_
  refine P.iloadN X62 hx 165 (hb hby at_164) rfl rfl ?_
  refine P.sipush X62 hx 168 255 (hb hby at_165) rfl rfl ?_
  refine P.iand X62 hx 169 (z := (p2 &&& (255 : Int32))) (hb hby at_168) rfl rfl ?_
  refine P.i2c X62 hx 170 (z := (p2 &&& (255 : Int32))) (hb hby at_169) (by rw [i2c_mask]) rfl ?_
  refine X62.stC hx V65 (j := (0 : Int32)) (x := (p2 &&& (255 : Int32))) (i := 0) (by decide) rfl (nlt rfl) (mg 0 rfl) (hb hby at_170) ?_
  intro T66 h66 X66 W66 G66
  have K67 : Keep h h66 [] := K64.wr W66 (Or.inr ge63)
  have V68 : Arv Z h66 a62 k62 .char (2 : Int32) [(.int (p2 &&& (255 : Int32))), (.int 0)] (.int 0) := by have q := G66; rw [nar255] at q; exact q
  refine P.aload X66 hx 173 (hb hby at_171) rfl rfl rfl ?_
  refine P.iconst X66 hx 174 1 (hb hby at_173) rfl rfl ?_
  refine P.iloadN X66 hx 175 (hb hby at_174) rfl rfl ?_
  refine P.sipush X66 hx 178 255 (hb hby at_175) rfl rfl ?_
  refine P.iand X66 hx 179 (z := (p3 &&& (255 : Int32))) (hb hby at_178) rfl rfl ?_
  refine P.i2c X66 hx 180 (z := (p3 &&& (255 : Int32))) (hb hby at_179) (by rw [i2c_mask]) rfl ?_
  refine X66.stC hx V68 (j := (1 : Int32)) (x := (p3 &&& (255 : Int32))) (i := 1) (by decide) rfl (nlt rfl) (mg 0 rfl) (hb hby at_180) ?_
  intro T69 h69 X69 W69 G69
  have K70 : Keep h h69 [] := K67.wr W69 (Or.inr ge63)
  have V71 : Arv Z h69 a62 k62 .char (2 : Int32) [(.int (p2 &&& (255 : Int32))), (.int (p3 &&& (255 : Int32)))] (.int 0) := by have q := G69; rw [nar255] at q; exact q
  refine P.iload X69 hx 183 (hb hby at_181) rfl rfl ?_
  refine P.ifYes X69 hx 201 (hb hby at_183) (by decide) (by decide) (by decide) ?_
  refine X69.callS hx (w78 cx) (w79 cx) (w80 cx) (w81 cx) (by decide) (Ct.pay (W := 0) (ct_opemp cx  h69 _ _ ) (w81 cx) (w80 cx) (nle rfl) (nle rfl)) (by rw [hml]; rfl) (argsL := []) (rest := []) (lenOf pd21 rfl) rfl rfl (Nat.le_of_eq rfl) (hb hby at_201) (nle rfl) (nle rfl) ?_
  rintro T72 h72 _ _ _ X72 ⟨rfl, rfl, rfl, J72⟩
  rw [J72] at X72
  refine P.astore X72 hx 206 #[.val (.int p0), .val (.int p1), .val (.int p2), .val (.int p3), .val (.int 0), .val (.int 0), .val (.ref a2), .val (.ref a9), .val (.ref a15), .val (.ref a27), .val (.ref a39), .val (.ref a51), .val .null, .val (.ref a62), .val (.ref v_OE), .unset, .unset] (hb hby at_204) rfl rfl rfl ?_
  refine X72.newO hx (w83 cx) (w84 cx) (w85 cx) (hb hby at_206) (nle rfl) (nle rfl) ?_
  intro T73 h73 a73 X73 E73 g73 A73 D73
  have ge74 : h.size ≤ a73 := Nat.le_trans K70.1 g73
  have K75 : Keep h h73 [] := K70.ext E73
  have D76 : Fld Z h73 a73 "com/example/lexbind/lexbind/messages/Explanation" "steps" "Ljava/util/List;" .null := D73 (Or.inr (w129 cx)) (ty := (.object "java/util/List")) (by decide)
  have D77 : Fld Z h73 a73 "com/example/lexbind/lexbind/messages/Explanation" "text" "Ljava/util/Optional;" .null := D73 (Or.inr (w131 cx)) (ty := (.object "java/util/Optional")) (by decide)
  have D78 : Fld Z h73 a73 "com/example/lexbind/lexbind/messages/Explanation" "readAgain" "Ljava/util/List;" .null := D73 (Or.inr (w133 cx)) (ty := (.object "java/util/List")) (by decide)
  refine P.dup X73 hx 210 (hb hby at_209) rfl rfl ?_
  refine P.aload X73 hx 212 (hb hby at_210) rfl rfl rfl ?_
  refine P.aload X73 hx 214 (hb hby at_212) rfl rfl rfl ?_
  refine X73.newO hx (w53 cx) (w54 cx) (w55 cx) (hb hby at_214) (nle rfl) (nle rfl) ?_
  intro T79 h79 a79 X79 E79 g79 A79 D79
  have ge80 : h.size ≤ a79 := Nat.le_trans K75.1 g79
  have K81 : Keep h h79 [] := K75.ext E79
  have D82 : Fld Z h79 a79 "java/util/AbstractList" "modCount" "I" (.int 0) := D79 (Or.inl (w73 cx)) (ty := .int) (by decide)
  have D83 : Fld Z h79 a79 "java/util/ArrayList" "elementData" "[Ljava/lang/Object;" .null := D79 (Or.inl (w76 cx)) (ty := (.array (.object "java/lang/Object"))) (by decide)
  have D84 : Fld Z h79 a79 "java/util/ArrayList" "size" "I" (.int 0) := D79 (Or.inl (w114 cx)) (ty := .int) (by decide)
  refine P.dup X79 hx 218 (hb hby at_217) rfl rfl ?_
  refine X79.callC hx rfl (w56 cx) (w57 cx) (w58 cx) (by decide) (Ct.pay (W := 5) (ct_alini cx a79 h79 _ _ A79 D82 D83 D84 (mg 0 rfl)) (w58 cx) (w55 cx) (nle rfl) (nle rfl)) (by rw [hml]; rfl) (argsL := []) (rest := [.ref a79, .ref v_OE, .ref a51, .ref a73, .ref a73]) (lenOf pd3 rfl) rfl rfl (Nat.le_of_eq rfl) (hb hby at_218) (nle rfl) (nle rfl) ?_
  rintro T85 h85 _ _ _ X85 ⟨rfl, rfl, rfl, J85, G86, G87, G88⟩
  have K89 : Keep h h85 [] := K81.trans J85 (allS (Or.inr ge80) all0)
  have F90 := (A73.ext E79).keep J85
  have F91 := (D76.ext E79).keep J85 (ninS (X85.ne (i := 1) (j := 0) rfl rfl (by decide)) nin0)
  have F92 := (D77.ext E79).keep J85 (ninS (X85.ne (i := 1) (j := 0) rfl rfl (by decide)) nin0)
  have F93 := (D78.ext E79).keep J85 (ninS (X85.ne (i := 1) (j := 0) rfl rfl (by decide)) nin0)
  have F94 := ((((((A51.keep J57).ext E62).wr W66).wr W69).ext E73).ext E79).keep J85
  have F95 := (((((G60.ext E62).other W66 (Or.inl (X85.ne (i := 3) (j := 2) rfl rfl (by decide)))).other W69 (Or.inl (X85.ne (i := 3) (j := 2) rfl rfl (by decide)))).ext E73).ext E79).keep J85 (ninS (X85.ne (i := 3) (j := 0) rfl rfl (by decide)) nin0)
  have F96 := A79.keep J85
  refine X85.callC hx rfl (w86 cx) (w87 cx) (w88 cx) (by decide) (Ct.pay (W := 1) (ct_exini00 cx a73 a51 a79 h85 _ _ F90 F91 F92 F93 (mg 1 rfl) F94 F95 F96 G88) (w88 cx) (w85 cx) (nle rfl) (nle rfl)) (by rw [hml]; rfl) (argsL := [.ref a51, .ref v_OE, .ref a79]) (rest := [.ref a73]) (lenOf pd27 rfl) rfl rfl (Nat.le_of_eq rfl) (hb hby at_221) (nle rfl) (nle rfl) ?_
  rintro T97 h97 _ _ _ X97 ⟨rfl, rfl, rfl, J97, G98, G99⟩
  have K100 : Keep h h97 [] := K89.trans J97 (allS (Or.inr ge74) all0)
  refine P.astore X97 hx 226 #[.val (.int p0), .val (.int p1), .val (.int p2), .val (.int p3), .val (.int 0), .val (.int 0), .val (.ref a2), .val (.ref a9), .val (.ref a15), .val (.ref a27), .val (.ref a39), .val (.ref a51), .val .null, .val (.ref a62), .val (.ref v_OE), .val (.ref a73), .unset] (hb hby at_224) rfl rfl rfl ?_
  refine P.aload X97 hx 228 (hb hby at_226) rfl rfl rfl ?_
  have F101 := F90.keep J97
  refine X97.callV hx (w134 cx) (w135 cx) (w137 cx) (w136 cx) (fun _ hZ => nf hZ (w137 cx)) (by decide) F101 (Ct.pay (W := 0) (ct_ans0 cx a73 h97 _ _ F101 G99) (w138 cx) (w85 cx) (nle rfl) (nle rfl)) (by rw [hml]; rfl) (argsL := []) (rest := []) (lenOf pd21 rfl) rfl rfl (Nat.le_of_eq rfl) (hb hby at_228) (nle rfl) (nle rfl) ?_
  rintro T102 h102 _ _ _ X102 ⟨rfl, rfl, rfl, J102⟩
  have K103 : Keep h h102 [] := K100.trans J102 all0
  refine P.astore X102 hx 233 #[.val (.int p0), .val (.int p1), .val (.int p2), .val (.int p3), .val (.int 0), .val (.int 0), .val (.ref a2), .val (.ref a9), .val (.ref a15), .val (.ref a27), .val (.ref a39), .val (.ref a51), .val .null, .val (.ref a62), .val (.ref v_OE), .val (.ref a73), .val (.ref v_OE)] (hb hby at_231) rfl rfl rfl ?_
  refine P.iload X102 hx 235 (hb hby at_233) rfl rfl ?_
  refine P.ifNo X102 hx 238 (hb hby at_235) (by decide) rfl ?_
  refine P.aload X102 hx 240 (hb hby at_238) rfl rfl rfl ?_
  refine X102.callV hx (w157 cx) (w122 cx) (w124 cx) (w123 cx) (fun _ hZ => nf hZ (w124 cx)) (by decide) ((E_OE cx).ext X102.old.2) (Ct.pay (W := 0) (ct_opisPresent0 cx v_OE v_OE h102 _ _ ((F_OE0 cx).ext X102.old.2)) (w125 cx) (w80 cx) (nle rfl) (nle rfl)) (by rw [hml]; rfl) (argsL := []) (rest := []) (lenOf pd16 rfl) rfl rfl (Nat.le_of_eq rfl) (hb hby at_240) (nle rfl) (nle rfl) ?_
  rintro T104 h104 _ _ _ X104 ⟨rfl, rfl, rfl, J104⟩
  rw [J104] at X104
  refine P.ifNo X104 hx 246 (hb hby at_243) (by decide) rfl ?_
  refine P.iconst X104 hx 247 1 (hb hby at_246) rfl rfl ?_
  refine P.goto X104 hx 251 (hb hby at_247) (by decide) (by decide) ?_
  have X105 := WS.drop (A := []) (B := (a73 :: a62 :: a51 :: a39 :: a27 :: a15 :: a9 :: a2 :: WL)) X104
  have X106 := WS.drop (A := []) (B := (a62 :: a51 :: a39 :: a27 :: a15 :: a9 :: a2 :: WL)) X105
  have X107 := WS.drop (A := []) (B := (a51 :: a39 :: a27 :: a15 :: a9 :: a2 :: WL)) X106
  have X108 := WS.drop (A := []) (B := (a39 :: a27 :: a15 :: a9 :: a2 :: WL)) X107
  have X109 := WS.drop (A := []) (B := (a27 :: a15 :: a9 :: a2 :: WL)) X108
  have X110 := WS.drop (A := []) (B := (a15 :: a9 :: a2 :: WL)) X109
  have X111 := WS.drop (A := []) (B := (a9 :: a2 :: WL)) X110
  have X112 := WS.drop (A := []) (B := (a2 :: WL)) X111
  have X113 := WS.drop (A := []) (B := WL) X112
  have X114 := WS.fl (FL2 := FL) X113 (fun y hy => (List.mem_append_right [a2, a9, a15, a27, a39, a51, a62, a73, a79, a10, a3] hy))
  exact WS.retN X114 (WL' := []) (FL' := []) hx (t := .boolean) hret (by simp) hlk (hb hby at_251) (nle rfl) (nle rfl) ⟨rfl, rfl, rfl, K103⟩
theorem ct_law_01 (cx : Cx a0 Z gC v_DE k_DE v_EL v_EM v_OE m_OA) (p0 : Int32) (p1 : Int32) (p2 : Int32) (p3 : Int32) (h : Heap) (WL FL : List Addr)  (e4 : (p0 &&& (3 : Int32)) = (0 : Int32)) (eb : ¬ (p1 &&& (1 : Int32)) = (0 : Int32)) :
    Ct l Z EL1 n0 x code maxLocals ret room_1 #[(.int p0), (.int p1), (.int p2), (.int p3)] h WL FL (Q_law Z gC v_DE k_DE v_EL v_EM v_OE m_OA p0 p1 p2 p3 h) := by
  refine Ct.of (plainFor_of_name pn17) ?_
  intro p e s m below meth c s1 hx hby hml hnm hret hlk X0
  refine Wo.cast (f' := (mkF m 0 #[.val (.int p0), .val (.int p1), .val (.int p2), .val (.int p3), .unset, .unset, .unset, .unset, .unset, .unset, .unset, .unset, .unset, .unset, .unset, .unset, .unset] [])) (by first | (simp [entryFrame, mkF, argsToLocals, Value.category, maxLocals]; done) | rfl) ?_
  have K0 : Keep h h [] := Keep.refl _ _
  show Wo _ _ _ _ _ _ _ _ _ _ _ s1 (mkF m 0 #[.val (.int p0), .val (.int p1), .val (.int p2), .val (.int p3), .unset, .unset, .unset, .unset, .unset, .unset, .unset, .unset, .unset, .unset, .unset, .unset, .unset] [])
  refine P.iloadN X0 hx 1 (hb hby at_0) rfl rfl ?_
  refine P.iconst X0 hx 2 3 (hb hby at_1) rfl rfl ?_
  refine P.iand X0 hx 3 (z := (0 : Int32)) (hb hby at_2) (e4) rfl ?_
  refine P.istore X0 hx 5 #[.val (.int p0), .val (.int p1), .val (.int p2), .val (.int p3), .val (.int 0), .unset, .unset, .unset, .unset, .unset, .unset, .unset, .unset, .unset, .unset, .unset, .unset] (hb hby at_3) rfl rfl ?_
  refine P.iloadN X0 hx 6 (hb hby at_5) rfl rfl ?_
  refine P.iconst X0 hx 7 1 (hb hby at_6) rfl rfl ?_
  refine P.iand X0 hx 8 (z := (p1 &&& (1 : Int32))) (hb hby at_7) rfl rfl ?_
  refine P.ifNo X0 hx 11 (hb hby at_8) ((if0 _ _).trans (feq eb).1) rfl ?_
  refine P.iload X0 hx 13 (hb hby at_11) rfl rfl ?_
  refine P.ifYes X0 hx 20 (hb hby at_13) (by decide) (by decide) (by decide) ?_
  refine P.iconst X0 hx 21 0 (hb hby at_20) rfl rfl ?_
  refine P.istore X0 hx 23 #[.val (.int p0), .val (.int p1), .val (.int p2), .val (.int p3), .val (.int 0), .val (.int 0), .unset, .unset, .unset, .unset, .unset, .unset, .unset, .unset, .unset, .unset, .unset] (hb hby at_21) rfl rfl ?_
  refine P.iloadN X0 hx 24 (hb hby at_23) rfl rfl ?_
  refine P.sipush X0 hx 27 255 (hb hby at_24) rfl rfl ?_
  refine P.iand X0 hx 28 (z := (p2 &&& (255 : Int32))) (hb hby at_27) rfl rfl ?_
  refine P.i2c X0 hx 29 (z := (p2 &&& (255 : Int32))) (hb hby at_28) (by rw [i2c_mask]) rfl ?_
  refine X0.callS hx (w0 cx) (w1 cx) (w2 cx) (w3 cx) (by decide) (Ct.pay (W := 0) (ct_valC cx (p2 &&& (255 : Int32)) h _ _ (rng255 _)) (w3 cx) (w2 cx) (nle rfl) (nle rfl)) (by rw [hml]; rfl) (argsL := [.int (p2 &&& (255 : Int32))]) (rest := []) (lenOf pd25 rfl) rfl rfl (Nat.le_of_eq rfl) (hb hby at_29) (nle rfl) (nle rfl) ?_
  rintro T1 h1 _ _ _ X1 ⟨a2, a3, rfl, rfl, rfl, J1, g5, G4⟩
  have ge6 : h.size ≤ a2 := Nat.le_trans K0.1 g5
  have K7 : Keep h h1 [] := K0.trans J1 all0
  refine P.astore X1 hx 34 #[.val (.int p0), .val (.int p1), .val (.int p2), .val (.int p3), .val (.int 0), .val (.int 0), .val (.ref a2), .unset, .unset, .unset, .unset, .unset, .unset, .unset, .unset, .unset, .unset] (hb hby at_32) rfl rfl rfl ?_
  refine P.iloadN X1 hx 35 (hb hby at_34) rfl rfl ?_
  refine P.sipush X1 hx 38 255 (hb hby at_35) rfl rfl ?_
  refine P.iand X1 hx 39 (z := (p3 &&& (255 : Int32))) (hb hby at_38) rfl rfl ?_
  refine P.i2c X1 hx 40 (z := (p3 &&& (255 : Int32))) (hb hby at_39) (by rw [i2c_mask]) rfl ?_
  refine X1.callS hx (w0 cx) (w1 cx) (w2 cx) (w3 cx) (by decide) (Ct.pay (W := 0) (ct_valC cx (p3 &&& (255 : Int32)) h1 _ _ (rng255 _)) (w3 cx) (w2 cx) (nle rfl) (nle rfl)) (by rw [hml]; rfl) (argsL := [.int (p3 &&& (255 : Int32))]) (rest := []) (lenOf pd25 rfl) rfl rfl (Nat.le_of_eq rfl) (hb hby at_40) (nle rfl) (nle rfl) ?_
  rintro T8 h8 _ _ _ X8 ⟨a9, a10, rfl, rfl, rfl, J8, g12, G11⟩
  have ge13 : h.size ≤ a9 := Nat.le_trans K7.1 g12
  have K14 : Keep h h8 [] := K7.trans J8 all0
  refine P.astore X8 hx 45 #[.val (.int p0), .val (.int p1), .val (.int p2), .val (.int p3), .val (.int 0), .val (.int 0), .val (.ref a2), .val (.ref a9), .unset, .unset, .unset, .unset, .unset, .unset, .unset, .unset, .unset] (hb hby at_43) rfl rfl rfl ?_
  refine X8.newO hx (w26 cx) (w27 cx) (w28 cx) (hb hby at_45) (nle rfl) (nle rfl) ?_
  intro T15 h15 a15 X15 E15 g15 A15 D15
  have ge16 : h.size ≤ a15 := Nat.le_trans K14.1 g15
  have K17 : Keep h h15 [] := K14.ext E15
  have D18 : Fld Z h15 a15 "com/example/lexbind/lexbind/messages/Explanation$Step" "source" "Ljava/lang/String;" .null := D15 (Or.inr (w48 cx)) (ty := (.object "java/lang/String")) (by decide)
  have D19 : Fld Z h15 a15 "com/example/lexbind/lexbind/messages/Explanation$Step" "key" "Ljava/lang/String;" .null := D15 (Or.inr (w50 cx)) (ty := (.object "java/lang/String")) (by decide)
  refine P.dup X15 hx 49 (hb hby at_48) rfl rfl ?_
  refine P.aload X15 hx 51 (hb hby at_49) rfl rfl rfl ?_
  refine X15.ldcO hx (w29 cx) (strAtoms cx) (hb hby at_51) (n := 8) (nle rfl) (nle rfl) (nle rfl) (nle rfl) ?_
  intro T20 h20 a20 X20 E20
  have K21 : Keep h h20 [] := K17.ext E20
  have F22 := A15.ext E20
  have F23 := D18.ext E20
  have F24 := D19.ext E20
  refine X20.callC hx rfl (w32 cx) (w33 cx) (w34 cx) (by decide) (Ct.pay (W := 1) (ct_stpini cx a15 a2 a20 h20 _ _ F22 F23 F24 (mg 0 rfl)) (w34 cx) (w28 cx) (nle rfl) (nle rfl)) (by rw [hml]; rfl) (argsL := [.ref a2, .ref a20]) (rest := [.ref a15]) (lenOf pd26 rfl) rfl rfl (Nat.le_of_eq rfl) (hb hby at_53) (nle rfl) (nle rfl) ?_
  rintro T25 h25 _ _ _ X25 ⟨rfl, rfl, rfl, J25⟩
  have K26 : Keep h h25 [] := K21.trans J25 (allS (Or.inr ge16) all0)
  refine P.astore X25 hx 58 #[.val (.int p0), .val (.int p1), .val (.int p2), .val (.int p3), .val (.int 0), .val (.int 0), .val (.ref a2), .val (.ref a9), .val (.ref a15), .unset, .unset, .unset, .unset, .unset, .unset, .unset, .unset] (hb hby at_56) rfl rfl rfl ?_
  refine X25.newO hx (w26 cx) (w27 cx) (w28 cx) (hb hby at_58) (nle rfl) (nle rfl) ?_
  intro T27 h27 a27 X27 E27 g27 A27 D27
  have ge28 : h.size ≤ a27 := Nat.le_trans K26.1 g27
  have K29 : Keep h h27 [] := K26.ext E27
  have D30 : Fld Z h27 a27 "com/example/lexbind/lexbind/messages/Explanation$Step" "source" "Ljava/lang/String;" .null := D27 (Or.inr (w48 cx)) (ty := (.object "java/lang/String")) (by decide)
  have D31 : Fld Z h27 a27 "com/example/lexbind/lexbind/messages/Explanation$Step" "key" "Ljava/lang/String;" .null := D27 (Or.inr (w50 cx)) (ty := (.object "java/lang/String")) (by decide)
  refine P.dup X27 hx 62 (hb hby at_61) rfl rfl ?_
  refine P.aload X27 hx 64 (hb hby at_62) rfl rfl rfl ?_
  refine X27.ldcO hx (w51 cx) (strAtoms cx) (hb hby at_64) (n := 8) (nle rfl) (nle rfl) (nle rfl) (nle rfl) ?_
  intro T32 h32 a32 X32 E32
  have K33 : Keep h h32 [] := K29.ext E32
  have F34 := A27.ext E32
  have F35 := D30.ext E32
  have F36 := D31.ext E32
  refine X32.callC hx rfl (w32 cx) (w33 cx) (w34 cx) (by decide) (Ct.pay (W := 1) (ct_stpini cx a27 a9 a32 h32 _ _ F34 F35 F36 (mg 0 rfl)) (w34 cx) (w28 cx) (nle rfl) (nle rfl)) (by rw [hml]; rfl) (argsL := [.ref a9, .ref a32]) (rest := [.ref a27]) (lenOf pd26 rfl) rfl rfl (Nat.le_of_eq rfl) (hb hby at_66) (nle rfl) (nle rfl) ?_
  rintro T37 h37 _ _ _ X37 ⟨rfl, rfl, rfl, J37⟩
  have K38 : Keep h h37 [] := K33.trans J37 (allS (Or.inr ge28) all0)
  refine P.astore X37 hx 71 #[.val (.int p0), .val (.int p1), .val (.int p2), .val (.int p3), .val (.int 0), .val (.int 0), .val (.ref a2), .val (.ref a9), .val (.ref a15), .val (.ref a27), .unset, .unset, .unset, .unset, .unset, .unset, .unset] (hb hby at_69) rfl rfl rfl ?_
  refine X37.newO hx (w26 cx) (w27 cx) (w28 cx) (hb hby at_71) (nle rfl) (nle rfl) ?_
  intro T39 h39 a39 X39 E39 g39 A39 D39
  have ge40 : h.size ≤ a39 := Nat.le_trans K38.1 g39
  have K41 : Keep h h39 [] := K38.ext E39
  have D42 : Fld Z h39 a39 "com/example/lexbind/lexbind/messages/Explanation$Step" "source" "Ljava/lang/String;" .null := D39 (Or.inr (w48 cx)) (ty := (.object "java/lang/String")) (by decide)
  have D43 : Fld Z h39 a39 "com/example/lexbind/lexbind/messages/Explanation$Step" "key" "Ljava/lang/String;" .null := D39 (Or.inr (w50 cx)) (ty := (.object "java/lang/String")) (by decide)
  refine P.dup X39 hx 75 (hb hby at_74) rfl rfl ?_
  refine P.aload X39 hx 77 (hb hby at_75) rfl rfl rfl ?_
  refine X39.ldcO hx (w52 cx) (strAtoms cx) (hb hby at_77) (n := 8) (nle rfl) (nle rfl) (nle rfl) (nle rfl) ?_
  intro T44 h44 a44 X44 E44
  have K45 : Keep h h44 [] := K41.ext E44
  have F46 := A39.ext E44
  have F47 := D42.ext E44
  have F48 := D43.ext E44
  refine X44.callC hx rfl (w32 cx) (w33 cx) (w34 cx) (by decide) (Ct.pay (W := 1) (ct_stpini cx a39 a2 a44 h44 _ _ F46 F47 F48 (mg 0 rfl)) (w34 cx) (w28 cx) (nle rfl) (nle rfl)) (by rw [hml]; rfl) (argsL := [.ref a2, .ref a44]) (rest := [.ref a39]) (lenOf pd26 rfl) rfl rfl (Nat.le_of_eq rfl) (hb hby at_79) (nle rfl) (nle rfl) ?_
  rintro T49 h49 _ _ _ X49 ⟨rfl, rfl, rfl, J49⟩
  have K50 : Keep h h49 [] := K45.trans J49 (allS (Or.inr ge40) all0)
  refine P.astore X49 hx 84 #[.val (.int p0), .val (.int p1), .val (.int p2), .val (.int p3), .val (.int 0), .val (.int 0), .val (.ref a2), .val (.ref a9), .val (.ref a15), .val (.ref a27), .val (.ref a39), .unset, .unset, .unset, .unset, .unset, .unset] (hb hby at_82) rfl rfl rfl ?_
  refine X49.newO hx (w53 cx) (w54 cx) (w55 cx) (hb hby at_84) (nle rfl) (nle rfl) ?_
  intro T51 h51 a51 X51 E51 g51 A51 D51
  have ge52 : h.size ≤ a51 := Nat.le_trans K50.1 g51
  have K53 : Keep h h51 [] := K50.ext E51
  have D54 : Fld Z h51 a51 "java/util/AbstractList" "modCount" "I" (.int 0) := D51 (Or.inl (w73 cx)) (ty := .int) (by decide)
  have D55 : Fld Z h51 a51 "java/util/ArrayList" "elementData" "[Ljava/lang/Object;" .null := D51 (Or.inl (w76 cx)) (ty := (.array (.object "java/lang/Object"))) (by decide)
  have D56 : Fld Z h51 a51 "java/util/ArrayList" "size" "I" (.int 0) := D51 (Or.inl (w114 cx)) (ty := .int) (by decide)
  refine P.dup X51 hx 88 (hb hby at_87) rfl rfl ?_
  refine X51.callC hx rfl (w56 cx) (w57 cx) (w58 cx) (by decide) (Ct.pay (W := 1) (ct_alini cx a51 h51 _ _ A51 D54 D55 D56 (mg 0 rfl)) (w58 cx) (w55 cx) (nle rfl) (nle rfl)) (by rw [hml]; rfl) (argsL := []) (rest := [.ref a51]) (lenOf pd3 rfl) rfl rfl (Nat.le_of_eq rfl) (hb hby at_88) (nle rfl) (nle rfl) ?_
  rintro T57 h57 _ _ _ X57 ⟨rfl, rfl, rfl, J57, G58, G59, G60⟩
  have K61 : Keep h h57 [] := K53.trans J57 (allS (Or.inr ge52) all0)
  refine P.astore X57 hx 93 #[.val (.int p0), .val (.int p1), .val (.int p2), .val (.int p3), .val (.int 0), .val (.int 0), .val (.ref a2), .val (.ref a9), .val (.ref a15), .val (.ref a27), .val (.ref a39), .val (.ref a51), .unset, .unset, .unset, .unset, .unset] (hb hby at_91) rfl rfl rfl ?_
  refine P.aconstNull X57 hx 94 (hb hby at_93) rfl ?_
  refine P.astore X57 hx 96 #[.val (.int p0), .val (.int p1), .val (.int p2), .val (.int p3), .val (.int 0), .val (.int 0), .val (.ref a2), .val (.ref a9), .val (.ref a15), .val (.ref a27), .val (.ref a39), .val (.ref a51), .val .null, .unset, .unset, .unset, .unset] (hb hby at_94) rfl rfl rfl ?_
  refine P.iload X57 hx 98 (hb hby at_96) rfl rfl ?_
  refine P.iconst X57 hx 99 1 (hb hby at_98) rfl rfl ?_
  refine P.icmpYes X57 hx 116 (hb hby at_99) (by decide) (by decide) (by decide) ?_
  refine P.iload X57 hx 118 (hb hby at_116) rfl rfl ?_
  refine P.iconst X57 hx 119 2 (hb hby at_118) rfl rfl ?_
  refine P.icmpYes X57 hx 136 (hb hby at_119) (by decide) (by decide) (by decide) ?_
  refine P.iload X57 hx 138 (hb hby at_136) rfl rfl ?_
  refine P.iconst X57 hx 139 3 (hb hby at_138) rfl rfl ?_
  refine P.icmpYes X57 hx 156 (hb hby at_139) (by decide) (by decide) (by decide) ?_
  refine P.iconst X57 hx 157 2 (hb hby at_156) rfl rfl ?_
  refine X57.newP (aty := .char) hx (w77 cx) (hb hby at_157) (by decide) (cap := 2) (nle rfl) (nle rfl) (nle rfl) (nle rfl) ?_
  intro T62 h62 a62 k62 X62 E62 g62 A62
  have ge63 : h.size ≤ a62 := Nat.le_trans K61.1 g62
  have K64 : Keep h h62 [] := K61.ext E62
  have V65 : Arv Z h62 a62 k62 .char (2 : Int32) [(.int 0), (.int 0)] (.int 0) := Arv.pad A62 (pad_rep [] _ 2)
  refine P.astore X62 hx 161 #[.val (.int p0), .val (.int p1), .val (.int p2), .val (.int p3), .val (.int 0), .val (.int 0), .val (.ref a2), .val (.ref a9), .val (.ref a15), .val (.ref a27), .val (.ref a39), .val (.ref a51), .val .null, .val (.ref a62), .unset, .unset, .unset] (hb hby at_159) rfl rfl rfl ?_
  refine P.aload X62 hx 163 (hb hby at_161) rfl rfl rfl ?_
  refine P.iconst X62 hx 164 0 (hb hby at_163) rfl rfl ?_
  refine P.iloadN X62 hx 165 (hb hby at_164) rfl rfl ?_
  refine P.sipush X62 hx 168 255 (hb hby at_165) rfl rfl ?_
  refine P.iand X62 hx 169 (z := (p2 &&& (255 : Int32))) (hb hby at_168) rfl rfl ?_
  refine P.i2c X62 hx 170 (z := (p2 &&& (255 : Int32))) (hb hby at_169) (by rw [i2c_mask]) rfl ?_
  refine X62.stC hx V65 (j := (0 : Int32)) (x := (p2 &&& (255 : Int32))) (i := 0) (by decide) rfl (nlt rfl) (mg 0 rfl) (hb hby at_170) ?_
  intro T66 h66 X66 W66 G66
  have K67 : Keep h h66 [] := K64.wr W66 (Or.inr ge63)
  have V68 : Arv Z h66 a62 k62 .char (2 : Int32) [(.int (p2 &&& (255 : Int32))), (.int 0)] (.int 0) := by have q := G66; rw [nar255] at q; exact q
  refine P.aload X66 hx 173 (hb hby at_171) rfl rfl rfl ?_
  refine P.iconst X66 hx 174 1 (hb hby at_173) rfl rfl ?_
  refine P.iloadN X66 hx 175 (hb hby at_174) rfl rfl ?_
  refine P.sipush X66 hx 178 255 (hb hby at_175) rfl rfl ?_
  refine P.iand X66 hx 179 (z := (p3 &&& (255 : Int32))) (hb hby at_178) rfl rfl ?_
  refine P.i2c X66 hx 180 (z := (p3 &&& (255 : Int32))) (hb hby at_179) (by rw [i2c_mask]) rfl ?_
  refine X66.stC hx V68 (j := (1 : Int32)) (x := (p3 &&& (255 : Int32))) (i := 1) (by decide) rfl (nlt rfl) (mg 0 rfl) (hb hby at_180) ?_
  intro T69 h69 X69 W69 G69
  have K70 : Keep h h69 [] := K67.wr W69 (Or.inr ge63)
  have V71 : Arv Z h69 a62 k62 .char (2 : Int32) [(.int (p2 &&& (255 : Int32))), (.int (p3 &&& (255 : Int32)))] (.int 0) := by have q := G69; rw [nar255] at q; exact q
  refine P.iload X69 hx 183 (hb hby at_181) rfl rfl ?_
  refine P.ifYes X69 hx 201 (hb hby at_183) (by decide) (by decide) (by decide) ?_
  refine X69.callS hx (w78 cx) (w79 cx) (w80 cx) (w81 cx) (by decide) (Ct.pay (W := 0) (ct_opemp cx  h69 _ _ ) (w81 cx) (w80 cx) (nle rfl) (nle rfl)) (by rw [hml]; rfl) (argsL := []) (rest := []) (lenOf pd21 rfl) rfl rfl (Nat.le_of_eq rfl) (hb hby at_201) (nle rfl) (nle rfl) ?_
  rintro T72 h72 _ _ _ X72 ⟨rfl, rfl, rfl, J72⟩
  rw [J72] at X72
  refine P.astore X72 hx 206 #[.val (.int p0), .val (.int p1), .val (.int p2), .val (.int p3), .val (.int 0), .val (.int 0), .val (.ref a2), .val (.ref a9), .val (.ref a15), .val (.ref a27), .val (.ref a39), .val (.ref a51), .val .null, .val (.ref a62), .val (.ref v_OE), .unset, .unset] (hb hby at_204) rfl rfl rfl ?_
  refine X72.newO hx (w83 cx) (w84 cx) (w85 cx) (hb hby at_206) (nle rfl) (nle rfl) ?_
  intro T73 h73 a73 X73 E73 g73 A73 D73
  have ge74 : h.size ≤ a73 := Nat.le_trans K70.1 g73
  have K75 : Keep h h73 [] := K70.ext E73
  have D76 : Fld Z h73 a73 "com/example/lexbind/lexbind/messages/Explanation" "steps" "Ljava/util/List;" .null := D73 (Or.inr (w129 cx)) (ty := (.object "java/util/List")) (by decide)
  have D77 : Fld Z h73 a73 "com/example/lexbind/lexbind/messages/Explanation" "text" "Ljava/util/Optional;" .null := D73 (Or.inr (w131 cx)) (ty := (.object "java/util/Optional")) (by decide)
  have D78 : Fld Z h73 a73 "com/example/lexbind/lexbind/messages/Explanation" "readAgain" "Ljava/util/List;" .null := D73 (Or.inr (w133 cx)) (ty := (.object "java/util/List")) (by decide)
  refine P.dup X73 hx 210 (hb hby at_209) rfl rfl ?_
  refine P.aload X73 hx 212 (hb hby at_210) rfl rfl rfl ?_
  refine P.aload X73 hx 214 (hb hby at_212) rfl rfl rfl ?_
  refine X73.newO hx (w53 cx) (w54 cx) (w55 cx) (hb hby at_214) (nle rfl) (nle rfl) ?_
  intro T79 h79 a79 X79 E79 g79 A79 D79
  have ge80 : h.size ≤ a79 := Nat.le_trans K75.1 g79
  have K81 : Keep h h79 [] := K75.ext E79
  have D82 : Fld Z h79 a79 "java/util/AbstractList" "modCount" "I" (.int 0) := D79 (Or.inl (w73 cx)) (ty := .int) (by decide)
  have D83 : Fld Z h79 a79 "java/util/ArrayList" "elementData" "[Ljava/lang/Object;" .null := D79 (Or.inl (w76 cx)) (ty := (.array (.object "java/lang/Object"))) (by decide)
  have D84 : Fld Z h79 a79 "java/util/ArrayList" "size" "I" (.int 0) := D79 (Or.inl (w114 cx)) (ty := .int) (by decide)
  refine P.dup X79 hx 218 (hb hby at_217) rfl rfl ?_
  refine X79.callC hx rfl (w56 cx) (w57 cx) (w58 cx) (by decide) (Ct.pay (W := 5) (ct_alini cx a79 h79 _ _ A79 D82 D83 D84 (mg 0 rfl)) (w58 cx) (w55 cx) (nle rfl) (nle rfl)) (by rw [hml]; rfl) (argsL := []) (rest := [.ref a79, .ref v_OE, .ref a51, .ref a73, .ref a73]) (lenOf pd3 rfl) rfl rfl (Nat.le_of_eq rfl) (hb hby at_218) (nle rfl) (nle rfl) ?_
  rintro T85 h85 _ _ _ X85 ⟨rfl, rfl, rfl, J85, G86, G87, G88⟩
  have K89 : Keep h h85 [] := K81.trans J85 (allS (Or.inr ge80) all0)
  have F90 := (A73.ext E79).keep J85
  have F91 := (D76.ext E79).keep J85 (ninS (X85.ne (i := 1) (j := 0) rfl rfl (by decide)) nin0)
  have F92 := (D77.ext E79).keep J85 (ninS (X85.ne (i := 1) (j := 0) rfl rfl (by decide)) nin0)
  have F93 := (D78.ext E79).keep J85 (ninS (X85.ne (i := 1) (j := 0) rfl rfl (by decide)) nin0)
  have F94 := ((((((A51.keep J57).ext E62).wr W66).wr W69).ext E73).ext E79).keep J85
  have F95 := (((((G60.ext E62).other W66 (Or.inl (X85.ne (i := 3) (j := 2) rfl rfl (by decide)))).other W69 (Or.inl (X85.ne (i := 3) (j := 2) rfl rfl (by decide)))).ext E73).ext E79).keep J85 (ninS (X85.ne (i := 3) (j := 0) rfl rfl (by decide)) nin0)
  have F96 := A79.keep J85
  refine X85.callC hx rfl (w86 cx) (w87 cx) (w88 cx) (by decide) (Ct.pay (W := 1) (ct_exini00 cx a73 a51 a79 h85 _ _ F90 F91 F92 F93 (mg 1 rfl) F94 F95 F96 G88) (w88 cx) (w85 cx) (nle rfl) (nle rfl)) (by rw [hml]; rfl) (argsL := [.ref a51, .ref v_OE, .ref a79]) (rest := [.ref a73]) (lenOf pd27 rfl) rfl rfl (Nat.le_of_eq rfl) (hb hby at_221) (nle rfl) (nle rfl) ?_
  rintro T97 h97 _ _ _ X97 ⟨rfl, rfl, rfl, J97, G98, G99⟩
  have K100 : Keep h h97 [] := K89.trans J97 (allS (Or.inr ge74) all0)
  refine P.astore X97 hx 226 #[.val (.int p0), .val (.int p1), .val (.int p2), .val (.int p3), .val (.int 0), .val (.int 0), .val (.ref a2), .val (.ref a9), .val (.ref a15), .val (.ref a27), .val (.ref a39), .val (.ref a51), .val .null, .val (.ref a62), .val (.ref v_OE), .val (.ref a73), .unset] (hb hby at_224) rfl rfl rfl ?_
  refine P.aload X97 hx 228 (hb hby at_226) rfl rfl rfl ?_
  have F101 := F90.keep J97
  refine X97.callV hx (w134 cx) (w135 cx) (w137 cx) (w136 cx) (fun _ hZ => nf hZ (w137 cx)) (by decide) F101 (Ct.pay (W := 0) (ct_ans0 cx a73 h97 _ _ F101 G99) (w138 cx) (w85 cx) (nle rfl) (nle rfl)) (by rw [hml]; rfl) (argsL := []) (rest := []) (lenOf pd21 rfl) rfl rfl (Nat.le_of_eq rfl) (hb hby at_228) (nle rfl) (nle rfl) ?_
  rintro T102 h102 _ _ _ X102 ⟨rfl, rfl, rfl, J102⟩
  have K103 : Keep h h102 [] := K100.trans J102 all0
  refine P.astore X102 hx 233 #[.val (.int p0), .val (.int p1), .val (.int p2), .val (.int p3), .val (.int 0), .val (.int 0), .val (.ref a2), .val (.ref a9), .val (.ref a15), .val (.ref a27), .val (.ref a39), .val (.ref a51), .val .null, .val (.ref a62), .val (.ref v_OE), .val (.ref a73), .val (.ref v_OE)] (hb hby at_231) rfl rfl rfl ?_
  refine P.iload X102 hx 235 (hb hby at_233) rfl rfl ?_
  refine P.ifNo X102 hx 238 (hb hby at_235) (by decide) rfl ?_
  refine P.aload X102 hx 240 (hb hby at_238) rfl rfl rfl ?_
  refine X102.callV hx (w157 cx) (w122 cx) (w124 cx) (w123 cx) (fun _ hZ => nf hZ (w124 cx)) (by decide) ((E_OE cx).ext X102.old.2) (Ct.pay (W := 0) (ct_opisPresent0 cx v_OE v_OE h102 _ _ ((F_OE0 cx).ext X102.old.2)) (w125 cx) (w80 cx) (nle rfl) (nle rfl)) (by rw [hml]; rfl) (argsL := []) (rest := []) (lenOf pd16 rfl) rfl rfl (Nat.le_of_eq rfl) (hb hby at_240) (nle rfl) (nle rfl) ?_
  rintro T104 h104 _ _ _ X104 ⟨rfl, rfl, rfl, J104⟩
  rw [J104] at X104
  refine P.ifNo X104 hx 246 (hb hby at_243) (by decide) rfl ?_
  refine P.iconst X104 hx 247 1 (hb hby at_246) rfl rfl ?_
  refine P.goto X104 hx 251 (hb hby at_247) (by decide) (by decide) ?_
  have X105 := WS.drop (A := []) (B := (a73 :: a62 :: a51 :: a39 :: a27 :: a15 :: a9 :: a2 :: WL)) X104
  have X106 := WS.drop (A := []) (B := (a62 :: a51 :: a39 :: a27 :: a15 :: a9 :: a2 :: WL)) X105
  have X107 := WS.drop (A := []) (B := (a51 :: a39 :: a27 :: a15 :: a9 :: a2 :: WL)) X106
  have X108 := WS.drop (A := []) (B := (a39 :: a27 :: a15 :: a9 :: a2 :: WL)) X107
  have X109 := WS.drop (A := []) (B := (a27 :: a15 :: a9 :: a2 :: WL)) X108
  have X110 := WS.drop (A := []) (B := (a15 :: a9 :: a2 :: WL)) X109
  have X111 := WS.drop (A := []) (B := (a9 :: a2 :: WL)) X110
  have X112 := WS.drop (A := []) (B := (a2 :: WL)) X111
  have X113 := WS.drop (A := []) (B := WL) X112
  have X114 := WS.fl (FL2 := FL) X113 (fun y hy => (List.mem_append_right [a2, a9, a15, a27, a39, a51, a62, a73, a79, a10, a3] hy))
  exact WS.retN X114 (WL' := []) (FL' := []) hx (t := .boolean) hret (by simp) hlk (hb hby at_251) (nle rfl) (nle rfl) ⟨rfl, rfl, rfl, K103⟩
theorem ct_law_10 (cx : Cx a0 Z gC v_DE k_DE v_EL v_EM v_OE m_OA) (p0 : Int32) (p1 : Int32) (p2 : Int32) (p3 : Int32) (h : Heap) (WL FL : List Addr)  (e4 : (p0 &&& (3 : Int32)) = (1 : Int32)) (eb : (p1 &&& (1 : Int32)) = (0 : Int32)) :
    Ct l Z EL1 n0 x code maxLocals ret room_1 #[(.int p0), (.int p1), (.int p2), (.int p3)] h WL FL (Q_law Z gC v_DE k_DE v_EL v_EM v_OE m_OA p0 p1 p2 p3 h) := by
  refine Ct.of (plainFor_of_name pn17) ?_
  intro p e s m below meth c s1 hx hby hml hnm hret hlk X0
  refine Wo.cast (f' := (mkF m 0 #[.val (.int p0), .val (.int p1), .val (.int p2), .val (.int p3), .unset, .unset, .unset, .unset, .unset, .unset, .unset, .unset, .unset, .unset, .unset, .unset, .unset] [])) (by first | (simp [entryFrame, mkF, argsToLocals, Value.category, maxLocals]; done) | rfl) ?_
  have K0 : Keep h h [] := Keep.refl _ _
  show Wo _ _ _ _ _ _ _ _ _ _ _ s1 (mkF m 0 #[.val (.int p0), .val (.int p1), .val (.int p2), .val (.int p3), .unset, .unset, .unset, .unset, .unset, .unset, .unset, .unset, .unset, .unset, .unset, .unset, .unset] [])
  refine P.iloadN X0 hx 1 (hb hby at_0) rfl rfl ?_
  refine P.iconst X0 hx 2 3 (hb hby at_1) rfl rfl ?_
  refine P.iand X0 hx 3 (z := (1 : Int32)) (hb hby at_2) (e4) rfl ?_
  refine P.istore X0 hx 5 #[.val (.int p0), .val (.int p1), .val (.int p2), .val (.int p3), .val (.int 1), .unset, .unset, .unset, .unset, .unset, .unset, .unset, .unset, .unset, .unset, .unset, .unset] (hb hby at_3) rfl rfl ?_
  refine P.iloadN X0 hx 6 (hb hby at_5) rfl rfl ?_
  refine P.iconst X0 hx 7 1 (hb hby at_6) rfl rfl ?_
  refine P.iand X0 hx 8 (z := (p1 &&& (1 : Int32))) (hb hby at_7) rfl rfl ?_
  refine P.ifYes X0 hx 20 (hb hby at_8) ((if0 _ _).trans (teq eb).1) (by decide) (by decide) ?_
  refine P.iconst X0 hx 21 0 (hb hby at_20) rfl rfl ?_
  refine P.istore X0 hx 23 #[.val (.int p0), .val (.int p1), .val (.int p2), .val (.int p3), .val (.int 1), .val (.int 0), .unset, .unset, .unset, .unset, .unset, .unset, .unset, .unset, .unset, .unset, .unset] (hb hby at_21) rfl rfl ?_
  refine P.iloadN X0 hx 24 (hb hby at_23) rfl rfl ?_
  refine P.sipush X0 hx 27 255 (hb hby at_24) rfl rfl ?_
  refine P.iand X0 hx 28 (z := (p2 &&& (255 : Int32))) (hb hby at_27) rfl rfl ?_
  refine P.i2c X0 hx 29 (z := (p2 &&& (255 : Int32))) (hb hby at_28) (by rw [i2c_mask]) rfl ?_
  refine X0.callS hx (w0 cx) (w1 cx) (w2 cx) (w3 cx) (by decide) (Ct.pay (W := 0) (ct_valC cx (p2 &&& (255 : Int32)) h _ _ (rng255 _)) (w3 cx) (w2 cx) (nle rfl) (nle rfl)) (by rw [hml]; rfl) (argsL := [.int (p2 &&& (255 : Int32))]) (rest := []) (lenOf pd25 rfl) rfl rfl (Nat.le_of_eq rfl) (hb hby at_29) (nle rfl) (nle rfl) ?_
  rintro T1 h1 _ _ _ X1 ⟨a2, a3, rfl, rfl, rfl, J1, g5, G4⟩
  have ge6 : h.size ≤ a2 := Nat.le_trans K0.1 g5
  have K7 : Keep h h1 [] := K0.trans J1 all0
  refine P.astore X1 hx 34 #[.val (.int p0), .val (.int p1), .val (.int p2), .val (.int p3), .val (.int 1), .val (.int 0), .val (.ref a2), .unset, .unset, .unset, .unset, .unset, .unset, .unset, .unset, .unset, .unset] (hb hby at_32) rfl rfl rfl ?_
  refine P.iloadN X1 hx 35 (hb hby at_34) rfl rfl ?_
  refine P.sipush X1 hx 38 255 (hb hby at_35) rfl rfl ?_
  refine P.iand X1 hx 39 (z := (p3 &&& (255 : Int32))) (hb hby at_38) rfl rfl ?_
  refine P.i2c X1 hx 40 (z := (p3 &&& (255 : Int32))) (hb hby at_39) (by rw [i2c_mask]) rfl ?_
  refine X1.callS hx (w0 cx) (w1 cx) (w2 cx) (w3 cx) (by decide) (Ct.pay (W := 0) (ct_valC cx (p3 &&& (255 : Int32)) h1 _ _ (rng255 _)) (w3 cx) (w2 cx) (nle rfl) (nle rfl)) (by rw [hml]; rfl) (argsL := [.int (p3 &&& (255 : Int32))]) (rest := []) (lenOf pd25 rfl) rfl rfl (Nat.le_of_eq rfl) (hb hby at_40) (nle rfl) (nle rfl) ?_
  rintro T8 h8 _ _ _ X8 ⟨a9, a10, rfl, rfl, rfl, J8, g12, G11⟩
  have ge13 : h.size ≤ a9 := Nat.le_trans K7.1 g12
  have K14 : Keep h h8 [] := K7.trans J8 all0
  refine P.astore X8 hx 45 #[.val (.int p0), .val (.int p1), .val (.int p2), .val (.int p3), .val (.int 1), .val (.int 0), .val (.ref a2), .val (.ref a9), .unset, .unset, .unset, .unset, .unset, .unset, .unset, .unset, .unset] (hb hby at_43) rfl rfl rfl ?_
  refine X8.newO hx (w26 cx) (w27 cx) (w28 cx) (hb hby at_45) (nle rfl) (nle rfl) ?_
  intro T15 h15 a15 X15 E15 g15 A15 D15
  have ge16 : h.size ≤ a15 := Nat.le_trans K14.1 g15
  have K17 : Keep h h15 [] := K14.ext E15
  have D18 : Fld Z h15 a15 "com/example/lexbind/lexbind/messages/Explanation$Step" "source" "Ljava/lang/String;" .null := D15 (Or.inr (w48 cx)) (ty := (.object "java/lang/String")) (by decide)
  have D19 : Fld Z h15 a15 "com/example/lexbind/lexbind/messages/Explanation$Step" "key" "Ljava/lang/String;" .null := D15 (Or.inr (w50 cx)) (ty := (.object "java/lang/String")) (by decide)
  refine P.dup X15 hx 49 (hb hby at_48) rfl rfl ?_
  refine P.aload X15 hx 51 (hb hby at_49) rfl rfl rfl ?_
  refine X15.ldcO hx (w29 cx) (strAtoms cx) (hb hby at_51) (n := 8) (nle rfl) (nle rfl) (nle rfl) (nle rfl) ?_
  intro T20 h20 a20 X20 E20
  have K21 : Keep h h20 [] := K17.ext E20
  have F22 := A15.ext E20
  have F23 := D18.ext E20
  have F24 := D19.ext E20
  refine X20.callC hx rfl (w32 cx) (w33 cx) (w34 cx) (by decide) (Ct.pay (W := 1) (ct_stpini cx a15 a2 a20 h20 _ _ F22 F23 F24 (mg 0 rfl)) (w34 cx) (w28 cx) (nle rfl) (nle rfl)) (by rw [hml]; rfl) (argsL := [.ref a2, .ref a20]) (rest := [.ref a15]) (lenOf pd26 rfl) rfl rfl (Nat.le_of_eq rfl) (hb hby at_53) (nle rfl) (nle rfl) ?_
  rintro T25 h25 _ _ _ X25 ⟨rfl, rfl, rfl, J25⟩
  have K26 : Keep h h25 [] := K21.trans J25 (allS (Or.inr ge16) all0)
  refine P.astore X25 hx 58 #[.val (.int p0), .val (.int p1), .val (.int p2), .val (.int p3), .val (.int 1), .val (.int 0), .val (.ref a2), .val (.ref a9), .val (.ref a15), .unset, .unset, .unset, .unset, .unset, .unset, .unset, .unset] (hb hby at_56) rfl rfl rfl ?_
  refine X25.newO hx (w26 cx) (w27 cx) (w28 cx) (hb hby at_58) (nle rfl) (nle rfl) ?_
  intro T27 h27 a27 X27 E27 g27 A27 D27
  have ge28 : h.size ≤ a27 := Nat.le_trans K26.1 g27
  have K29 : Keep h h27 [] := K26.ext E27
  have D30 : Fld Z h27 a27 "com/example/lexbind/lexbind/messages/Explanation$Step" "source" "Ljava/lang/String;" .null := D27 (Or.inr (w48 cx)) (ty := (.object "java/lang/String")) (by decide)
  have D31 : Fld Z h27 a27 "com/example/lexbind/lexbind/messages/Explanation$Step" "key" "Ljava/lang/String;" .null := D27 (Or.inr (w50 cx)) (ty := (.object "java/lang/String")) (by decide)
  refine P.dup X27 hx 62 (hb hby at_61) rfl rfl ?_
  refine P.aload X27 hx 64 (hb hby at_62) rfl rfl rfl ?_
  refine X27.ldcO hx (w51 cx) (strAtoms cx) (hb hby at_64) (n := 8) (nle rfl) (nle rfl) (nle rfl) (nle rfl) ?_
  intro T32 h32 a32 X32 E32
  have K33 : Keep h h32 [] := K29.ext E32
  have F34 := A27.ext E32
  have F35 := D30.ext E32
  have F36 := D31.ext E32
  refine X32.callC hx rfl (w32 cx) (w33 cx) (w34 cx) (by decide) (Ct.pay (W := 1) (ct_stpini cx a27 a9 a32 h32 _ _ F34 F35 F36 (mg 0 rfl)) (w34 cx) (w28 cx) (nle rfl) (nle rfl)) (by rw [hml]; rfl) (argsL := [.ref a9, .ref a32]) (rest := [.ref a27]) (lenOf pd26 rfl) rfl rfl (Nat.le_of_eq rfl) (hb hby at_66) (nle rfl) (nle rfl) ?_
  rintro T37 h37 _ _ _ X37 ⟨rfl, rfl, rfl, J37⟩
  have K38 : Keep h h37 [] := K33.trans J37 (allS (Or.inr ge28) all0)
  refine P.astore X37 hx 71 #[.val (.int p0), .val (.int p1), .val (.int p2), .val (.int p3), .val (.int 1), .val (.int 0), .val (.ref a2), .val (.ref a9), .val (.ref a15), .val (.ref a27), .unset, .unset, .unset, .unset, .unset, .unset, .unset] (hb hby at_69) rfl rfl rfl ?_
  refine X37.newO hx (w26 cx) (w27 cx) (w28 cx) (hb hby at_71) (nle rfl) (nle rfl) ?_
  intro T39 h39 a39 X39 E39 g39 A39 D39
  have ge40 : h.size ≤ a39 := Nat.le_trans K38.1 g39
  have K41 : Keep h h39 [] := K38.ext E39
  have D42 : Fld Z h39 a39 "com/example/lexbind/lexbind/messages/Explanation$Step" "source" "Ljava/lang/String;" .null := D39 (Or.inr (w48 cx)) (ty := (.object "java/lang/String")) (by decide)
  have D43 : Fld Z h39 a39 "com/example/lexbind/lexbind/messages/Explanation$Step" "key" "Ljava/lang/String;" .null := D39 (Or.inr (w50 cx)) (ty := (.object "java/lang/String")) (by decide)
  refine P.dup X39 hx 75 (hb hby at_74) rfl rfl ?_
  refine P.aload X39 hx 77 (hb hby at_75) rfl rfl rfl ?_
  refine X39.ldcO hx (w52 cx) (strAtoms cx) (hb hby at_77) (n := 8) (nle rfl) (nle rfl) (nle rfl) (nle rfl) ?_
  intro T44 h44 a44 X44 E44
  have K45 : Keep h h44 [] := K41.ext E44
  have F46 := A39.ext E44
  have F47 := D42.ext E44
  have F48 := D43.ext E44
  refine X44.callC hx rfl (w32 cx) (w33 cx) (w34 cx) (by decide) (Ct.pay (W := 1) (ct_stpini cx a39 a2 a44 h44 _ _ F46 F47 F48 (mg 0 rfl)) (w34 cx) (w28 cx) (nle rfl) (nle rfl)) (by rw [hml]; rfl) (argsL := [.ref a2, .ref a44]) (rest := [.ref a39]) (lenOf pd26 rfl) rfl rfl (Nat.le_of_eq rfl) (hb hby at_79) (nle rfl) (nle rfl) ?_
  rintro T49 h49 _ _ _ X49 ⟨rfl, rfl, rfl, J49⟩
  have K50 : Keep h h49 [] := K45.trans J49 (allS (Or.inr ge40) all0)
  refine P.astore X49 hx 84 #[.val (.int p0), .val (.int p1), .val (.int p2), .val (.int p3), .val (.int 1), .val (.int 0), .val (.ref a2), .val (.ref a9), .val (.ref a15), .val (.ref a27), .val (.ref a39), .unset, .unset, .unset, .unset, .unset, .unset] (hb hby at_82) rfl rfl rfl ?_
  refine X49.newO hx (w53 cx) (w54 cx) (w55 cx) (hb hby at_84) (nle rfl) (nle rfl) ?_
  intro T51 h51 a51 X51 E51 g51 A51 D51
  have ge52 : h.size ≤ a51 := Nat.le_trans K50.1 g51
  have K53 : Keep h h51 [] := K50.ext E51
  have D54 : Fld Z h51 a51 "java/util/AbstractList" "modCount" "I" (.int 0) := D51 (Or.inl (w73 cx)) (ty := .int) (by decide)
  have D55 : Fld Z h51 a51 "java/util/ArrayList" "elementData" "[Ljava/lang/Object;" .null := D51 (Or.inl (w76 cx)) (ty := (.array (.object "java/lang/Object"))) (by decide)
  have D56 : Fld Z h51 a51 "java/util/ArrayList" "size" "I" (.int 0) := D51 (Or.inl (w114 cx)) (ty := .int) (by decide)
  refine P.dup X51 hx 88 (hb hby at_87) rfl rfl ?_
  refine X51.callC hx rfl (w56 cx) (w57 cx) (w58 cx) (by decide) (Ct.pay (W := 1) (ct_alini cx a51 h51 _ _ A51 D54 D55 D56 (mg 0 rfl)) (w58 cx) (w55 cx) (nle rfl) (nle rfl)) (by rw [hml]; rfl) (argsL := []) (rest := [.ref a51]) (lenOf pd3 rfl) rfl rfl (Nat.le_of_eq rfl) (hb hby at_88) (nle rfl) (nle rfl) ?_
  rintro T57 h57 _ _ _ X57 ⟨rfl, rfl, rfl, J57, G58, G59, G60⟩
  have K61 : Keep h h57 [] := K53.trans J57 (allS (Or.inr ge52) all0)
  refine P.astore X57 hx 93 #[.val (.int p0), .val (.int p1), .val (.int p2), .val (.int p3), .val (.int 1), .val (.int 0), .val (.ref a2), .val (.ref a9), .val (.ref a15), .val (.ref a27), .val (.ref a39), .val (.ref a51), .unset, .unset, .unset, .unset, .unset] (hb hby at_91) rfl rfl rfl ?_
  refine P.aconstNull X57 hx 94 (hb hby at_93) rfl ?_
  refine P.astore X57 hx 96 #[.val (.int p0), .val (.int p1), .val (.int p2), .val (.int p3), .val (.int 1), .val (.int 0), .val (.ref a2), .val (.ref a9), .val (.ref a15), .val (.ref a27), .val (.ref a39), .val (.ref a51), .val .null, .unset, .unset, .unset, .unset] (hb hby at_94) rfl rfl rfl ?_
  refine P.iload X57 hx 98 (hb hby at_96) rfl rfl ?_
  refine P.iconst X57 hx 99 1 (hb hby at_98) rfl rfl ?_
  refine P.icmpNo X57 hx 102 (hb hby at_99) (by decide) rfl ?_
  refine P.aload X57 hx 104 (hb hby at_102) rfl rfl rfl ?_
  refine P.aload X57 hx 106 (hb hby at_104) rfl rfl rfl ?_
  have F62 := A51.keep J57
  have F63 := ((((((((F22.keep J25).ext E27).ext E32).keep J37).ext E39).ext E44).keep J49).ext E51).keep J57
  refine X57.callI hx (w158 cx) (w159 cx) (w160 cx) (w161 cx) (w162 cx) (w163 cx) (w164 cx) (w165 cx) (by decide) F62 (Ct.pay (W := 0) (ct_add0 cx a51 a15 h57 _ _ F62 G58 G59 G60 (mg 0 rfl) F63) (w166 cx) (w55 cx) (nle rfl) (nle rfl)) (by rw [hml]; rfl) (argsL := [.ref a15]) (rest := []) (lenOf pd28 rfl) rfl rfl (Nat.le_of_eq rfl) (hb hby at_106) (nle rfl) (nle rfl) ?_
  rintro T64 h64 _ _ _ X64 ⟨a65, k66, rfl, rfl, rfl, J64, g72, G67, G68, G69, G70, G71⟩
  have ge73 : h.size ≤ a65 := Nat.le_trans K61.1 g72
  have K74 : Keep h h64 [] := K61.trans J64 (allS (Or.inr ge52) all0)
  refine P.pop X64 hx 112 (hb hby at_111) rfl rfl ?_
  refine P.aload X64 hx 114 (hb hby at_112) rfl rfl rfl ?_
  refine P.astore X64 hx 116 #[.val (.int p0), .val (.int p1), .val (.int p2), .val (.int p3), .val (.int 1), .val (.int 0), .val (.ref a2), .val (.ref a9), .val (.ref a15), .val (.ref a27), .val (.ref a39), .val (.ref a51), .val (.ref a15), .unset, .unset, .unset, .unset] (hb hby at_114) rfl rfl rfl ?_
  refine P.iload X64 hx 118 (hb hby at_116) rfl rfl ?_
  refine P.iconst X64 hx 119 2 (hb hby at_118) rfl rfl ?_
  refine P.icmpYes X64 hx 136 (hb hby at_119) (by decide) (by decide) (by decide) ?_
  refine P.iload X64 hx 138 (hb hby at_136) rfl rfl ?_
  refine P.iconst X64 hx 139 3 (hb hby at_138) rfl rfl ?_
  refine P.icmpYes X64 hx 156 (hb hby at_139) (by decide) (by decide) (by decide) ?_
  refine P.iconst X64 hx 157 2 (hb hby at_156) rfl rfl ?_
  refine X64.newP (aty := .char) hx (w77 cx) (hb hby at_157) (by decide) (cap := 2) (nle rfl) (nle rfl) (nle rfl) (nle rfl) ?_
  intro T75 h75 a75 k75 X75 E75 g75 A75
  have ge76 : h.size ≤ a75 := Nat.le_trans K74.1 g75
  have K77 : Keep h h75 [] := K74.ext E75
  have V78 : Arv Z h75 a75 k75 .char (2 : Int32) [(.int 0), (.int 0)] (.int 0) := Arv.pad A75 (pad_rep [] _ 2)
  refine P.astore X75 hx 161 #[.val (.int p0), .val (.int p1), .val (.int p2), .val (.int p3), .val (.int 1), .val (.int 0), .val (.ref a2), .val (.ref a9), .val (.ref a15), .val (.ref a27), .val (.ref a39), .val (.ref a51), .val (.ref a15), .val (.ref a75), .unset, .unset, .unset] (hb hby at_159) rfl rfl rfl ?_
  refine P.aload X75 hx 163 (hb hby at_161) rfl rfl rfl ?_
  refine P.iconst X75 hx 164 0 (hb hby at_163) rfl rfl ?_
  refine P.iloadN X75 hx 165 (hb hby at_164) rfl rfl ?_
  refine P.sipush X75 hx 168 255 (hb hby at_165) rfl rfl ?_
  refine P.iand X75 hx 169 (z := (p2 &&& (255 : Int32))) (hb hby at_168) rfl rfl ?_
  refine P.i2c X75 hx 170 (z := (p2 &&& (255 : Int32))) (hb hby at_169) (by rw [i2c_mask]) rfl ?_
  refine X75.stC hx V78 (j := (0 : Int32)) (x := (p2 &&& (255 : Int32))) (i := 0) (by decide) rfl (nlt rfl) (mg 0 rfl) (hb hby at_170) ?_
  intro T79 h79 X79 W79 G79
  have K80 : Keep h h79 [] := K77.wr W79 (Or.inr ge76)
  have V81 : Arv Z h79 a75 k75 .char (2 : Int32) [(.int (p2 &&& (255 : Int32))), (.int 0)] (.int 0) := by have q := G79; rw [nar255] at q; exact q
  refine P.aload X79 hx 173 (hb hby at_171) rfl rfl rfl ?_
  refine P.iconst X79 hx 174 1 (hb hby at_173) rfl rfl ?_
  refine P.iloadN X79 hx 175 (hb hby at_174) rfl rfl ?_
  refine P.sipush X79 hx 178 255 (hb hby at_175) rfl rfl ?_
  refine P.iand X79 hx 179 (z := (p3 &&& (255 : Int32))) (hb hby at_178) rfl rfl ?_
  refine P.i2c X79 hx 180 (z := (p3 &&& (255 : Int32))) (hb hby at_179) (by rw [i2c_mask]) rfl ?_
  refine X79.stC hx V81 (j := (1 : Int32)) (x := (p3 &&& (255 : Int32))) (i := 1) (by decide) rfl (nlt rfl) (mg 0 rfl) (hb hby at_180) ?_
  intro T82 h82 X82 W82 G82
  have K83 : Keep h h82 [] := K80.wr W82 (Or.inr ge76)
  have V84 : Arv Z h82 a75 k75 .char (2 : Int32) [(.int (p2 &&& (255 : Int32))), (.int (p3 &&& (255 : Int32)))] (.int 0) := by have q := G82; rw [nar255] at q; exact q
  refine P.iload X82 hx 183 (hb hby at_181) rfl rfl ?_
  refine P.ifYes X82 hx 201 (hb hby at_183) (by decide) (by decide) (by decide) ?_
  refine X82.callS hx (w78 cx) (w79 cx) (w80 cx) (w81 cx) (by decide) (Ct.pay (W := 0) (ct_opemp cx  h82 _ _ ) (w81 cx) (w80 cx) (nle rfl) (nle rfl)) (by rw [hml]; rfl) (argsL := []) (rest := []) (lenOf pd21 rfl) rfl rfl (Nat.le_of_eq rfl) (hb hby at_201) (nle rfl) (nle rfl) ?_
  rintro T85 h85 _ _ _ X85 ⟨rfl, rfl, rfl, J85⟩
  rw [J85] at X85
  refine P.astore X85 hx 206 #[.val (.int p0), .val (.int p1), .val (.int p2), .val (.int p3), .val (.int 1), .val (.int 0), .val (.ref a2), .val (.ref a9), .val (.ref a15), .val (.ref a27), .val (.ref a39), .val (.ref a51), .val (.ref a15), .val (.ref a75), .val (.ref v_OE), .unset, .unset] (hb hby at_204) rfl rfl rfl ?_
  refine X85.newO hx (w83 cx) (w84 cx) (w85 cx) (hb hby at_206) (nle rfl) (nle rfl) ?_
  intro T86 h86 a86 X86 E86 g86 A86 D86
  have ge87 : h.size ≤ a86 := Nat.le_trans K83.1 g86
  have K88 : Keep h h86 [] := K83.ext E86
  have D89 : Fld Z h86 a86 "com/example/lexbind/lexbind/messages/Explanation" "steps" "Ljava/util/List;" .null := D86 (Or.inr (w129 cx)) (ty := (.object "java/util/List")) (by decide)
  have D90 : Fld Z h86 a86 "com/example/lexbind/lexbind/messages/Explanation" "text" "Ljava/util/Optional;" .null := D86 (Or.inr (w131 cx)) (ty := (.object "java/util/Optional")) (by decide)
  have D91 : Fld Z h86 a86 "com/example/lexbind/lexbind/messages/Explanation" "readAgain" "Ljava/util/List;" .null := D86 (Or.inr (w133 cx)) (ty := (.object "java/util/List")) (by decide)
  refine P.dup X86 hx 210 (hb hby at_209) rfl rfl ?_
  refine P.aload X86 hx 212 (hb hby at_210) rfl rfl rfl ?_
  refine P.aload X86 hx 214 (hb hby at_212) rfl rfl rfl ?_
  refine X86.newO hx (w53 cx) (w54 cx) (w55 cx) (hb hby at_214) (nle rfl) (nle rfl) ?_
  intro T92 h92 a92 X92 E92 g92 A92 D92
  have ge93 : h.size ≤ a92 := Nat.le_trans K88.1 g92
  have K94 : Keep h h92 [] := K88.ext E92
  have D95 : Fld Z h92 a92 "java/util/AbstractList" "modCount" "I" (.int 0) := D92 (Or.inl (w73 cx)) (ty := .int) (by decide)
  have D96 : Fld Z h92 a92 "java/util/ArrayList" "elementData" "[Ljava/lang/Object;" .null := D92 (Or.inl (w76 cx)) (ty := (.array (.object "java/lang/Object"))) (by decide)
  have D97 : Fld Z h92 a92 "java/util/ArrayList" "size" "I" (.int 0) := D92 (Or.inl (w114 cx)) (ty := .int) (by decide)
  refine P.dup X92 hx 218 (hb hby at_217) rfl rfl ?_
  refine X92.callC hx rfl (w56 cx) (w57 cx) (w58 cx) (by decide) (Ct.pay (W := 5) (ct_alini cx a92 h92 _ _ A92 D95 D96 D97 (mg 0 rfl)) (w58 cx) (w55 cx) (nle rfl) (nle rfl)) (by rw [hml]; rfl) (argsL := []) (rest := [.ref a92, .ref v_OE, .ref a51, .ref a86, .ref a86]) (lenOf pd3 rfl) rfl rfl (Nat.le_of_eq rfl) (hb hby at_218) (nle rfl) (nle rfl) ?_
  rintro T98 h98 _ _ _ X98 ⟨rfl, rfl, rfl, J98, G99, G100, G101⟩
  have K102 : Keep h h98 [] := K94.trans J98 (allS (Or.inr ge93) all0)
  have F103 := (((((G68.ext E75).other W79 (Or.inl (X98.ne (i := 4) (j := 2) rfl rfl (by decide)))).other W82 (Or.inl (X98.ne (i := 4) (j := 2) rfl rfl (by decide)))).ext E86).ext E92).keep J98 (ninS (X98.ne (i := 4) (j := 0) rfl rfl (by decide)) nin0)
  have F104 := (((((G70.ext E75).other W79 (X98.ne (i := 3) (j := 2) rfl rfl (by decide))).other W82 (X98.ne (i := 3) (j := 2) rfl rfl (by decide))).ext E86).ext E92).keep J98 (ninS (X98.ne (i := 3) (j := 0) rfl rfl (by decide)) nin0)
  have F105 := (A86.ext E92).keep J98
  have F106 := (D89.ext E92).keep J98 (ninS (X98.ne (i := 1) (j := 0) rfl rfl (by decide)) nin0)
  have F107 := (D90.ext E92).keep J98 (ninS (X98.ne (i := 1) (j := 0) rfl rfl (by decide)) nin0)
  have F108 := (D91.ext E92).keep J98 (ninS (X98.ne (i := 1) (j := 0) rfl rfl (by decide)) nin0)
  have F109 := ((((((F62.keep J64).ext E75).wr W79).wr W82).ext E86).ext E92).keep J98
  have F110 := (((((G69.ext E75).other W79 (Or.inl (X98.ne (i := 4) (j := 2) rfl rfl (by decide)))).other W82 (Or.inl (X98.ne (i := 4) (j := 2) rfl rfl (by decide)))).ext E86).ext E92).keep J98 (ninS (X98.ne (i := 4) (j := 0) rfl rfl (by decide)) nin0)
  have F111 := (((((G71.ext E75).wr W79).wr W82).ext E86).ext E92).keep J98
  have F112 := ((((((F63.keep J64).ext E75).wr W79).wr W82).ext E86).ext E92).keep J98
  have F113 := A92.keep J98
  refine X98.callC hx rfl (w86 cx) (w87 cx) (w88 cx) (by decide) (Ct.pay (W := 1) (ct_exini10 cx a86 a51 a65 k66 a15 a92 h98 _ _ F105 F106 F107 F108 (mg 1 rfl) F109 F110 F103 F104 F111 F112 F113 G101) (w88 cx) (w85 cx) (nle rfl) (nle rfl)) (by rw [hml]; rfl) (argsL := [.ref a51, .ref v_OE, .ref a92]) (rest := [.ref a86]) (lenOf pd27 rfl) rfl rfl (Nat.le_of_eq rfl) (hb hby at_221) (nle rfl) (nle rfl) ?_
  rintro T114 h114 _ _ _ X114 ⟨a115, rfl, rfl, rfl, J114, g121, G116, G117, G118, G119, G120⟩
  have ge122 : h.size ≤ a115 := Nat.le_trans K102.1 g121
  have K123 : Keep h h114 [] := K102.trans J114 (allS (Or.inr ge87) all0)
  refine P.astore X114 hx 226 #[.val (.int p0), .val (.int p1), .val (.int p2), .val (.int p3), .val (.int 1), .val (.int 0), .val (.ref a2), .val (.ref a9), .val (.ref a15), .val (.ref a27), .val (.ref a39), .val (.ref a51), .val (.ref a15), .val (.ref a75), .val (.ref v_OE), .val (.ref a86), .unset] (hb hby at_224) rfl rfl rfl ?_
  refine P.aload X114 hx 228 (hb hby at_226) rfl rfl rfl ?_
  have F124 := F105.keep J114
  refine X114.callV hx (w134 cx) (w135 cx) (w137 cx) (w136 cx) (fun _ hZ => nf hZ (w137 cx)) (by decide) F124 (Ct.pay (W := 0) (ct_ans0 cx a86 h114 _ _ F124 G117) (w138 cx) (w85 cx) (nle rfl) (nle rfl)) (by rw [hml]; rfl) (argsL := []) (rest := []) (lenOf pd21 rfl) rfl rfl (Nat.le_of_eq rfl) (hb hby at_228) (nle rfl) (nle rfl) ?_
  rintro T125 h125 _ _ _ X125 ⟨rfl, rfl, rfl, J125⟩
  have K126 : Keep h h125 [] := K123.trans J125 all0
  refine P.astore X125 hx 233 #[.val (.int p0), .val (.int p1), .val (.int p2), .val (.int p3), .val (.int 1), .val (.int 0), .val (.ref a2), .val (.ref a9), .val (.ref a15), .val (.ref a27), .val (.ref a39), .val (.ref a51), .val (.ref a15), .val (.ref a75), .val (.ref v_OE), .val (.ref a86), .val (.ref v_OE)] (hb hby at_231) rfl rfl rfl ?_
  refine P.iload X125 hx 235 (hb hby at_233) rfl rfl ?_
  refine P.ifNo X125 hx 238 (hb hby at_235) (by decide) rfl ?_
  refine P.aload X125 hx 240 (hb hby at_238) rfl rfl rfl ?_
  refine X125.callV hx (w157 cx) (w122 cx) (w124 cx) (w123 cx) (fun _ hZ => nf hZ (w124 cx)) (by decide) ((E_OE cx).ext X125.old.2) (Ct.pay (W := 0) (ct_opisPresent0 cx v_OE v_OE h125 _ _ ((F_OE0 cx).ext X125.old.2)) (w125 cx) (w80 cx) (nle rfl) (nle rfl)) (by rw [hml]; rfl) (argsL := []) (rest := []) (lenOf pd16 rfl) rfl rfl (Nat.le_of_eq rfl) (hb hby at_240) (nle rfl) (nle rfl) ?_
  rintro T127 h127 _ _ _ X127 ⟨rfl, rfl, rfl, J127⟩
  rw [J127] at X127
  refine P.ifNo X127 hx 246 (hb hby at_243) (by decide) rfl ?_
  refine P.iconst X127 hx 247 1 (hb hby at_246) rfl rfl ?_
  refine P.goto X127 hx 251 (hb hby at_247) (by decide) (by decide) ?_
  have X128 := WS.drop (A := []) (B := (a92 :: a86 :: a75 :: a65 :: a51 :: a39 :: a27 :: a15 :: a9 :: a2 :: WL)) X127
  have X129 := WS.drop (A := []) (B := (a86 :: a75 :: a65 :: a51 :: a39 :: a27 :: a15 :: a9 :: a2 :: WL)) X128
  have X130 := WS.drop (A := []) (B := (a75 :: a65 :: a51 :: a39 :: a27 :: a15 :: a9 :: a2 :: WL)) X129
  have X131 := WS.drop (A := []) (B := (a65 :: a51 :: a39 :: a27 :: a15 :: a9 :: a2 :: WL)) X130
  have X132 := WS.drop (A := []) (B := (a51 :: a39 :: a27 :: a15 :: a9 :: a2 :: WL)) X131
  have X133 := WS.drop (A := []) (B := (a39 :: a27 :: a15 :: a9 :: a2 :: WL)) X132
  have X134 := WS.drop (A := []) (B := (a27 :: a15 :: a9 :: a2 :: WL)) X133
  have X135 := WS.drop (A := []) (B := (a15 :: a9 :: a2 :: WL)) X134
  have X136 := WS.drop (A := []) (B := (a9 :: a2 :: WL)) X135
  have X137 := WS.drop (A := []) (B := (a2 :: WL)) X136
  have X138 := WS.drop (A := []) (B := WL) X137
  have X139 := WS.fl (FL2 := FL) X138 (fun y hy => (List.mem_append_right [a2, a9, a15, a27, a39, a51, a65, a75, a86, a92, a115, a10, a3] hy))
  exact WS.retN X139 (WL' := []) (FL' := []) hx (t := .boolean) hret (by simp) hlk (hb hby at_251) (nle rfl) (nle rfl) ⟨rfl, rfl, rfl, K126⟩
theorem ct_law_11 (cx : Cx a0 Z gC v_DE k_DE v_EL v_EM v_OE m_OA) (p0 : Int32) (p1 : Int32) (p2 : Int32) (p3 : Int32) (h : Heap) (WL FL : List Addr)  (e4 : (p0 &&& (3 : Int32)) = (1 : Int32)) (eb : ¬ (p1 &&& (1 : Int32)) = (0 : Int32)) :
    Ct l Z EL1 n0 x code maxLocals ret room_1 #[(.int p0), (.int p1), (.int p2), (.int p3)] h WL FL (Q_law Z gC v_DE k_DE v_EL v_EM v_OE m_OA p0 p1 p2 p3 h) := by
  refine Ct.of (plainFor_of_name pn17) ?_
  intro p e s m below meth c s1 hx hby hml hnm hret hlk X0
  refine Wo.cast (f' := (mkF m 0 #[.val (.int p0), .val (.int p1), .val (.int p2), .val (.int p3), .unset, .unset, .unset, .unset, .unset, .unset, .unset, .unset, .unset, .unset, .unset, .unset, .unset] [])) (by first | (simp [entryFrame, mkF, argsToLocals, Value.category, maxLocals]; done) | rfl) ?_
  have K0 : Keep h h [] := Keep.refl _ _
  show Wo _ _ _ _ _ _ _ _ _ _ _ s1 (mkF m 0 #[.val (.int p0), .val (.int p1), .val (.int p2), .val (.int p3), .unset, .unset, .unset, .unset, .unset, .unset, .unset, .unset, .unset, .unset, .unset, .unset, .unset] [])
  refine P.iloadN X0 hx 1 (hb hby at_0) rfl rfl ?_
  refine P.iconst X0 hx 2 3 (hb hby at_1) rfl rfl ?_
  refine P.iand X0 hx 3 (z := (1 : Int32)) (hb hby at_2) (e4) rfl ?_
  refine P.istore X0 hx 5 #[.val (.int p0), .val (.int p1), .val (.int p2), .val (.int p3), .val (.int 1), .unset, .unset, .unset, .unset, .unset, .unset, .unset, .unset, .unset, .unset, .unset, .unset] (hb hby at_3) rfl rfl ?_
  refine P.iloadN X0 hx 6 (hb hby at_5) rfl rfl ?_
  refine P.iconst X0 hx 7 1 (hb hby at_6) rfl rfl ?_
  refine P.iand X0 hx 8 (z := (p1 &&& (1 : Int32))) (hb hby at_7) rfl rfl ?_
  refine P.ifNo X0 hx 11 (hb hby at_8) ((if0 _ _).trans (feq eb).1) rfl ?_
  refine P.iload X0 hx 13 (hb hby at_11) rfl rfl ?_
  refine P.ifNo X0 hx 16 (hb hby at_13) (by decide) rfl ?_
  refine P.iconst X0 hx 17 1 (hb hby at_16) rfl rfl ?_
  refine P.goto X0 hx 21 (hb hby at_17) (by decide) (by decide) ?_
  refine P.istore X0 hx 23 #[.val (.int p0), .val (.int p1), .val (.int p2), .val (.int p3), .val (.int 1), .val (.int 1), .unset, .unset, .unset, .unset, .unset, .unset, .unset, .unset, .unset, .unset, .unset] (hb hby at_21) rfl rfl ?_
  refine P.iloadN X0 hx 24 (hb hby at_23) rfl rfl ?_
  refine P.sipush X0 hx 27 255 (hb hby at_24) rfl rfl ?_
  refine P.iand X0 hx 28 (z := (p2 &&& (255 : Int32))) (hb hby at_27) rfl rfl ?_
  refine P.i2c X0 hx 29 (z := (p2 &&& (255 : Int32))) (hb hby at_28) (by rw [i2c_mask]) rfl ?_
  refine X0.callS hx (w0 cx) (w1 cx) (w2 cx) (w3 cx) (by decide) (Ct.pay (W := 0) (ct_valC cx (p2 &&& (255 : Int32)) h _ _ (rng255 _)) (w3 cx) (w2 cx) (nle rfl) (nle rfl)) (by rw [hml]; rfl) (argsL := [.int (p2 &&& (255 : Int32))]) (rest := []) (lenOf pd25 rfl) rfl rfl (Nat.le_of_eq rfl) (hb hby at_29) (nle rfl) (nle rfl) ?_
  rintro T1 h1 _ _ _ X1 ⟨a2, a3, rfl, rfl, rfl, J1, g5, G4⟩
  have ge6 : h.size ≤ a2 := Nat.le_trans K0.1 g5
  have K7 : Keep h h1 [] := K0.trans J1 all0
  refine P.astore X1 hx 34 #[.val (.int p0), .val (.int p1), .val (.int p2), .val (.int p3), .val (.int 1), .val (.int 1), .val (.ref a2), .unset, .unset, .unset, .unset, .unset, .unset, .unset, .unset, .unset, .unset] (hb hby at_32) rfl rfl rfl ?_
  refine P.iloadN X1 hx 35 (hb hby at_34) rfl rfl ?_
  refine P.sipush X1 hx 38 255 (hb hby at_35) rfl rfl ?_
  refine P.iand X1 hx 39 (z := (p3 &&& (255 : Int32))) (hb hby at_38) rfl rfl ?_
  refine P.i2c X1 hx 40 (z := (p3 &&& (255 : Int32))) (hb hby at_39) (by rw [i2c_mask]) rfl ?_
  refine X1.callS hx (w0 cx) (w1 cx) (w2 cx) (w3 cx) (by decide) (Ct.pay (W := 0) (ct_valC cx (p3 &&& (255 : Int32)) h1 _ _ (rng255 _)) (w3 cx) (w2 cx) (nle rfl) (nle rfl)) (by rw [hml]; rfl) (argsL := [.int (p3 &&& (255 : Int32))]) (rest := []) (lenOf pd25 rfl) rfl rfl (Nat.le_of_eq rfl) (hb hby at_40) (nle rfl) (nle rfl) ?_
  rintro T8 h8 _ _ _ X8 ⟨a9, a10, rfl, rfl, rfl, J8, g12, G11⟩
  have ge13 : h.size ≤ a9 := Nat.le_trans K7.1 g12
  have K14 : Keep h h8 [] := K7.trans J8 all0
  refine P.astore X8 hx 45 #[.val (.int p0), .val (.int p1), .val (.int p2), .val (.int p3), .val (.int 1), .val (.int 1), .val (.ref a2), .val (.ref a9), .unset, .unset, .unset, .unset, .unset, .unset, .unset, .unset, .unset] (hb hby at_43) rfl rfl rfl ?_
  refine X8.newO hx (w26 cx) (w27 cx) (w28 cx) (hb hby at_45) (nle rfl) (nle rfl) ?_
  intro T15 h15 a15 X15 E15 g15 A15 D15
  have ge16 : h.size ≤ a15 := Nat.le_trans K14.1 g15
  have K17 : Keep h h15 [] := K14.ext E15
  have D18 : Fld Z h15 a15 "com/example/lexbind/lexbind/messages/Explanation$Step" "source" "Ljava/lang/String;" .null := D15 (Or.inr (w48 cx)) (ty := (.object "java/lang/String")) (by decide)
  have D19 : Fld Z h15 a15 "com/example/lexbind/lexbind/messages/Explanation$Step" "key" "Ljava/lang/String;" .null := D15 (Or.inr (w50 cx)) (ty := (.object "java/lang/String")) (by decide)
  refine P.dup X15 hx 49 (hb hby at_48) rfl rfl ?_
  refine P.aload X15 hx 51 (hb hby at_49) rfl rfl rfl ?_
  refine X15.ldcO hx (w29 cx) (strAtoms cx) (hb hby at_51) (n := 8) (nle rfl) (nle rfl) (nle rfl) (nle rfl) ?_
  intro T20 h20 a20 X20 E20
  have K21 : Keep h h20 [] := K17.ext E20
  have F22 := A15.ext E20
  have F23 := D18.ext E20
  have F24 := D19.ext E20
  refine X20.callC hx rfl (w32 cx) (w33 cx) (w34 cx) (by decide) (Ct.pay (W := 1) (ct_stpini cx a15 a2 a20 h20 _ _ F22 F23 F24 (mg 0 rfl)) (w34 cx) (w28 cx) (nle rfl) (nle rfl)) (by rw [hml]; rfl) (argsL := [.ref a2, .ref a20]) (rest := [.ref a15]) (lenOf pd26 rfl) rfl rfl (Nat.le_of_eq rfl) (hb hby at_53) (nle rfl) (nle rfl) ?_
  rintro T25 h25 _ _ _ X25 ⟨rfl, rfl, rfl, J25⟩
  have K26 : Keep h h25 [] := K21.trans J25 (allS (Or.inr ge16) all0)
  refine P.astore X25 hx 58 #[.val (.int p0), .val (.int p1), .val (.int p2), .val (.int p3), .val (.int 1), .val (.int 1), .val (.ref a2), .val (.ref a9), .val (.ref a15), .unset, .unset, .unset, .unset, .unset, .unset, .unset, .unset] (hb hby at_56) rfl rfl rfl ?_
  refine X25.newO hx (w26 cx) (w27 cx) (w28 cx) (hb hby at_58) (nle rfl) (nle rfl) ?_
  intro T27 h27 a27 X27 E27 g27 A27 D27
  have ge28 : h.size ≤ a27 := Nat.le_trans K26.1 g27
  have K29 : Keep h h27 [] := K26.ext E27
  have D30 : Fld Z h27 a27 "com/example/lexbind/lexbind/messages/Explanation$Step" "source" "Ljava/lang/String;" .null := D27 (Or.inr (w48 cx)) (ty := (.object "java/lang/String")) (by decide)
  have D31 : Fld Z h27 a27 "com/example/lexbind/lexbind/messages/Explanation$Step" "key" "Ljava/lang/String;" .null := D27 (Or.inr (w50 cx)) (ty := (.object "java/lang/String")) (by decide)
  refine P.dup X27 hx 62 (hb hby at_61) rfl rfl ?_
  refine P.aload X27 hx 64 (hb hby at_62) rfl rfl rfl ?_
  refine X27.ldcO hx (w51 cx) (strAtoms cx) (hb hby at_64) (n := 8) (nle rfl) (nle rfl) (nle rfl) (nle rfl) ?_
  intro T32 h32 a32 X32 E32
  have K33 : Keep h h32 [] := K29.ext E32
  have F34 := A27.ext E32
  have F35 := D30.ext E32
  have F36 := D31.ext E32
  refine X32.callC hx rfl (w32 cx) (w33 cx) (w34 cx) (by decide) (Ct.pay (W := 1) (ct_stpini cx a27 a9 a32 h32 _ _ F34 F35 F36 (mg 0 rfl)) (w34 cx) (w28 cx) (nle rfl) (nle rfl)) (by rw [hml]; rfl) (argsL := [.ref a9, .ref a32]) (rest := [.ref a27]) (lenOf pd26 rfl) rfl rfl (Nat.le_of_eq rfl) (hb hby at_66) (nle rfl) (nle rfl) ?_
  rintro T37 h37 _ _ _ X37 ⟨rfl, rfl, rfl, J37⟩
  have K38 : Keep h h37 [] := K33.trans J37 (allS (Or.inr ge28) all0)
  refine P.astore X37 hx 71 #[.val (.int p0), .val (.int p1), .val (.int p2), .val (.int p3), .val (.int 1), .val (.int 1), .val (.ref a2), .val (.ref a9), .val (.ref a15), .val (.ref a27), .unset, .unset, .unset, .unset, .unset, .unset, .unset] (hb hby at_69) rfl rfl rfl ?_
  refine X37.newO hx (w26 cx) (w27 cx) (w28 cx) (hb hby at_71) (nle rfl) (nle rfl) ?_
  intro T39 h39 a39 X39 E39 g39 A39 D39
  have ge40 : h.size ≤ a39 := Nat.le_trans K38.1 g39
  have K41 : Keep h h39 [] := K38.ext E39
  have D42 : Fld Z h39 a39 "com/example/lexbind/lexbind/messages/Explanation$Step" "source" "Ljava/lang/String;" .null := D39 (Or.inr (w48 cx)) (ty := (.object "java/lang/String")) (by decide)
  have D43 : Fld Z h39 a39 "com/example/lexbind/lexbind/messages/Explanation$Step" "key" "Ljava/lang/String;" .null := D39 (Or.inr (w50 cx)) (ty := (.object "java/lang/String")) (by decide)
  refine P.dup X39 hx 75 (hb hby at_74) rfl rfl ?_
  refine P.aload X39 hx 77 (hb hby at_75) rfl rfl rfl ?_
  refine X39.ldcO hx (w52 cx) (strAtoms cx) (hb hby at_77) (n := 8) (nle rfl) (nle rfl) (nle rfl) (nle rfl) ?_
  intro T44 h44 a44 X44 E44
  have K45 : Keep h h44 [] := K41.ext E44
  have F46 := A39.ext E44
  have F47 := D42.ext E44
  have F48 := D43.ext E44
  refine X44.callC hx rfl (w32 cx) (w33 cx) (w34 cx) (by decide) (Ct.pay (W := 1) (ct_stpini cx a39 a2 a44 h44 _ _ F46 F47 F48 (mg 0 rfl)) (w34 cx) (w28 cx) (nle rfl) (nle rfl)) (by rw [hml]; rfl) (argsL := [.ref a2, .ref a44]) (rest := [.ref a39]) (lenOf pd26 rfl) rfl rfl (Nat.le_of_eq rfl) (hb hby at_79) (nle rfl) (nle rfl) ?_
  rintro T49 h49 _ _ _ X49 ⟨rfl, rfl, rfl, J49⟩
  have K50 : Keep h h49 [] := K45.trans J49 (allS (Or.inr ge40) all0)
  refine P.astore X49 hx 84 #[.val (.int p0), .val (.int p1), .val (.int p2), .val (.int p3), .val (.int 1), .val (.int 1), .val (.ref a2), .val (.ref a9), .val (.ref a15), .val (.ref a27), .val (.ref a39), .unset, .unset, .unset, .unset, .unset, .unset] (hb hby at_82) rfl rfl rfl ?_
  refine X49.newO hx (w53 cx) (w54 cx) (w55 cx) (hb hby at_84) (nle rfl) (nle rfl) ?_
  intro T51 h51 a51 X51 E51 g51 A51 D51
  have ge52 : h.size ≤ a51 := Nat.le_trans K50.1 g51
  have K53 : Keep h h51 [] := K50.ext E51
  have D54 : Fld Z h51 a51 "java/util/AbstractList" "modCount" "I" (.int 0) := D51 (Or.inl (w73 cx)) (ty := .int) (by decide)
  have D55 : Fld Z h51 a51 "java/util/ArrayList" "elementData" "[Ljava/lang/Object;" .null := D51 (Or.inl (w76 cx)) (ty := (.array (.object "java/lang/Object"))) (by decide)
  have D56 : Fld Z h51 a51 "java/util/ArrayList" "size" "I" (.int 0) := D51 (Or.inl (w114 cx)) (ty := .int) (by decide)
  refine P.dup X51 hx 88 (hb hby at_87) rfl rfl ?_
  refine X51.callC hx rfl (w56 cx) (w57 cx) (w58 cx) (by decide) (Ct.pay (W := 1) (ct_alini cx a51 h51 _ _ A51 D54 D55 D56 (mg 0 rfl)) (w58 cx) (w55 cx) (nle rfl) (nle rfl)) (by rw [hml]; rfl) (argsL := []) (rest := [.ref a51]) (lenOf pd3 rfl) rfl rfl (Nat.le_of_eq rfl) (hb hby at_88) (nle rfl) (nle rfl) ?_
  rintro T57 h57 _ _ _ X57 ⟨rfl, rfl, rfl, J57, G58, G59, G60⟩
  have K61 : Keep h h57 [] := K53.trans J57 (allS (Or.inr ge52) all0)
  refine P.astore X57 hx 93 #[.val (.int p0), .val (.int p1), .val (.int p2), .val (.int p3), .val (.int 1), .val (.int 1), .val (.ref a2), .val (.ref a9), .val (.ref a15), .val (.ref a27), .val (.ref a39), .val (.ref a51), .unset, .unset, .unset, .unset, .unset] (hb hby at_91) rfl rfl rfl ?_
  refine P.aconstNull X57 hx 94 (hb hby at_93) rfl ?_
  refine P.astore X57 hx 96 #[.val (.int p0), .val (.int p1), .val (.int p2), .val (.int p3), .val (.int 1), .val (.int 1), .val (.ref a2), .val (.ref a9), .val (.ref a15), .val (.ref a27), .val (.ref a39), .val (.ref a51), .val .null, .unset, .unset, .unset, .unset] (hb hby at_94) rfl rfl rfl ?_
  refine P.iload X57 hx 98 (hb hby at_96) rfl rfl ?_
  refine P.iconst X57 hx 99 1 (hb hby at_98) rfl rfl ?_
  refine P.icmpNo X57 hx 102 (hb hby at_99) (by decide) rfl ?_
  refine P.aload X57 hx 104 (hb hby at_102) rfl rfl rfl ?_
  refine P.aload X57 hx 106 (hb hby at_104) rfl rfl rfl ?_
  have F62 := A51.keep J57
  have F63 := ((((((((F22.keep J25).ext E27).ext E32).keep J37).ext E39).ext E44).keep J49).ext E51).keep J57
  refine X57.callI hx (w158 cx) (w159 cx) (w160 cx) (w161 cx) (w162 cx) (w163 cx) (w164 cx) (w165 cx) (by decide) F62 (Ct.pay (W := 0) (ct_add0 cx a51 a15 h57 _ _ F62 G58 G59 G60 (mg 0 rfl) F63) (w166 cx) (w55 cx) (nle rfl) (nle rfl)) (by rw [hml]; rfl) (argsL := [.ref a15]) (rest := []) (lenOf pd28 rfl) rfl rfl (Nat.le_of_eq rfl) (hb hby at_106) (nle rfl) (nle rfl) ?_
  rintro T64 h64 _ _ _ X64 ⟨a65, k66, rfl, rfl, rfl, J64, g72, G67, G68, G69, G70, G71⟩
  have ge73 : h.size ≤ a65 := Nat.le_trans K61.1 g72
  have K74 : Keep h h64 [] := K61.trans J64 (allS (Or.inr ge52) all0)
  refine P.pop X64 hx 112 (hb hby at_111) rfl rfl ?_
  refine P.aload X64 hx 114 (hb hby at_112) rfl rfl rfl ?_
  refine P.astore X64 hx 116 #[.val (.int p0), .val (.int p1), .val (.int p2), .val (.int p3), .val (.int 1), .val (.int 1), .val (.ref a2), .val (.ref a9), .val (.ref a15), .val (.ref a27), .val (.ref a39), .val (.ref a51), .val (.ref a15), .unset, .unset, .unset, .unset] (hb hby at_114) rfl rfl rfl ?_
  refine P.iload X64 hx 118 (hb hby at_116) rfl rfl ?_
  refine P.iconst X64 hx 119 2 (hb hby at_118) rfl rfl ?_
  refine P.icmpYes X64 hx 136 (hb hby at_119) (by decide) (by decide) (by decide) ?_
  refine P.iload X64 hx 138 (hb hby at_136) rfl rfl ?_
  refine P.iconst X64 hx 139 3 (hb hby at_138) rfl rfl ?_
  refine P.icmpYes X64 hx 156 (hb hby at_139) (by decide) (by decide) (by decide) ?_
  refine P.iconst X64 hx 157 2 (hb hby at_156) rfl rfl ?_
  refine X64.newP (aty := .char) hx (w77 cx) (hb hby at_157) (by decide) (cap := 2) (nle rfl) (nle rfl) (nle rfl) (nle rfl) ?_
  intro T75 h75 a75 k75 X75 E75 g75 A75
  have ge76 : h.size ≤ a75 := Nat.le_trans K74.1 g75
  have K77 : Keep h h75 [] := K74.ext E75
  have V78 : Arv Z h75 a75 k75 .char (2 : Int32) [(.int 0), (.int 0)] (.int 0) := Arv.pad A75 (pad_rep [] _ 2)
  refine P.astore X75 hx 161 #[.val (.int p0), .val (.int p1), .val (.int p2), .val (.int p3), .val (.int 1), .val (.int 1), .val (.ref a2), .val (.ref a9), .val (.ref a15), .val (.ref a27), .val (.ref a39), .val (.ref a51), .val (.ref a15), .val (.ref a75), .unset, .unset, .unset] (hb hby at_159) rfl rfl rfl ?_
  refine P.aload X75 hx 163 (hb hby at_161) rfl rfl rfl ?_
  refine P.iconst X75 hx 164 0 (hb hby at_163) rfl rfl ?_
  refine P.iloadN X75 hx 165 (hb hby at_164) rfl rfl ?_
  refine P.sipush X75 hx 168 255 (hb hby at_165) rfl rfl ?_
  refine P.iand X75 hx 169 (z := (p2 &&& (255 : Int32))) (hb hby at_168) rfl rfl ?_
  refine P.i2c X75 hx 170 (z := (p2 &&& (255 : Int32))) (hb hby at_169) (by rw [i2c_mask]) rfl ?_
  refine X75.stC hx V78 (j := (0 : Int32)) (x := (p2 &&& (255 : Int32))) (i := 0) (by decide) rfl (nlt rfl) (mg 0 rfl) (hb hby at_170) ?_
  intro T79 h79 X79 W79 G79
  have K80 : Keep h h79 [] := K77.wr W79 (Or.inr ge76)
  have V81 : Arv Z h79 a75 k75 .char (2 : Int32) [(.int (p2 &&& (255 : Int32))), (.int 0)] (.int 0) := by have q := G79; rw [nar255] at q; exact q
  refine P.aload X79 hx 173 (hb hby at_171) rfl rfl rfl ?_
  refine P.iconst X79 hx 174 1 (hb hby at_173) rfl rfl ?_
  refine P.iloadN X79 hx 175 (hb hby at_174) rfl rfl ?_
  refine P.sipush X79 hx 178 255 (hb hby at_175) rfl rfl ?_
  refine P.iand X79 hx 179 (z := (p3 &&& (255 : Int32))) (hb hby at_178) rfl rfl ?_
  refine P.i2c X79 hx 180 (z := (p3 &&& (255 : Int32))) (hb hby at_179) (by rw [i2c_mask]) rfl ?_
  refine X79.stC hx V81 (j := (1 : Int32)) (x := (p3 &&& (255 : Int32))) (i := 1) (by decide) rfl (nlt rfl) (mg 0 rfl) (hb hby at_180) ?_
  intro T82 h82 X82 W82 G82
  have K83 : Keep h h82 [] := K80.wr W82 (Or.inr ge76)
  have V84 : Arv Z h82 a75 k75 .char (2 : Int32) [(.int (p2 &&& (255 : Int32))), (.int (p3 &&& (255 : Int32)))] (.int 0) := by have q := G82; rw [nar255] at q; exact q
  refine P.iload X82 hx 183 (hb hby at_181) rfl rfl ?_
  refine P.ifNo X82 hx 186 (hb hby at_183) (by decide) rfl ?_
  refine X82.newO hx (w191 cx) (w10 cx) (w2 cx) (hb hby at_186) (nle rfl) (nle rfl) ?_
  intro T85 h85 a85 X85 E85 g85 A85 D85
  have ge86 : h.size ≤ a85 := Nat.le_trans K83.1 g85
  have K87 : Keep h h85 [] := K83.ext E85
  have D88 : Fld Z h85 a85 "java/lang/String" "value" "[B" .null := D85 (Or.inr (w23 cx)) (ty := (.array .byte)) (by decide)
  have D89 : Fld Z h85 a85 "java/lang/String" "coder" "B" (.int 0) := D85 (Or.inr (w25 cx)) (ty := .byte) (by decide)
  refine P.dup X85 hx 190 (hb hby at_189) rfl rfl ?_
  refine P.aload X85 hx 192 (hb hby at_190) rfl rfl rfl ?_
  have F90 := V84.ext E85
  refine X85.callC hx rfl (w192 cx) (w193 cx) (w194 cx) (by decide) (pay_new (W := 1) (hws cx) (w10 cx) (cs := [(p2 &&& (255 : Int32)), (p3 &&& (255 : Int32))]) (n := 2) (X85.ge (mg 0 rfl)) X85.n0le (mg 0 rfl) A85 D88 D89 F90 (X85.sta (S_C cx)) (N_C cx) rfl rfl (nle rfl) (nle rfl) (fcS (rng255 p2) (fcS (rng255 p3) fc0)) (nle rfl) (nle rfl)) (by rw [hml]; rfl) (argsL := [.ref a75]) (rest := [.ref a85]) (lenOf pd29 rfl) rfl rfl (Nat.le_of_eq rfl) (hb hby at_192) (nle rfl) (nle rfl) ?_
  rintro T91 h91 _ _ _ X91 ⟨a92, rfl, rfl, rfl, J91, G93⟩
  have K94 : Keep h h91 [] := K87.trans J91 (allS (Or.inr ge86) all0)
  refine X91.callS hx (w208 cx) (w209 cx) (w80 cx) (w210 cx) (by decide) (Ct.pay (W := 0) (ct_opof cx a85 h91 _ _ ) (w210 cx) (w80 cx) (nle rfl) (nle rfl)) (by rw [hml]; rfl) (argsL := [.ref a85]) (rest := []) (lenOf pd23 rfl) rfl rfl (Nat.le_of_eq rfl) (hb hby at_195) (nle rfl) (nle rfl) ?_
  rintro T95 h95 _ _ _ X95 ⟨a96, rfl, rfl, rfl, J95, g99, G97, G98⟩
  have ge100 : h.size ≤ a96 := Nat.le_trans K94.1 g99
  have K101 : Keep h h95 [] := K94.trans J95 all0
  refine P.goto X95 hx 204 (hb hby at_198) (by decide) (by decide) ?_
  refine P.astore X95 hx 206 #[.val (.int p0), .val (.int p1), .val (.int p2), .val (.int p3), .val (.int 1), .val (.int 1), .val (.ref a2), .val (.ref a9), .val (.ref a15), .val (.ref a27), .val (.ref a39), .val (.ref a51), .val (.ref a15), .val (.ref a75), .val (.ref a96), .unset, .unset] (hb hby at_204) rfl rfl rfl ?_
  refine X95.newO hx (w83 cx) (w84 cx) (w85 cx) (hb hby at_206) (nle rfl) (nle rfl) ?_
  intro T102 h102 a102 X102 E102 g102 A102 D102
  have ge103 : h.size ≤ a102 := Nat.le_trans K101.1 g102
  have K104 : Keep h h102 [] := K101.ext E102
  have D105 : Fld Z h102 a102 "com/example/lexbind/lexbind/messages/Explanation" "steps" "Ljava/util/List;" .null := D102 (Or.inr (w129 cx)) (ty := (.object "java/util/List")) (by decide)
  have D106 : Fld Z h102 a102 "com/example/lexbind/lexbind/messages/Explanation" "text" "Ljava/util/Optional;" .null := D102 (Or.inr (w131 cx)) (ty := (.object "java/util/Optional")) (by decide)
  have D107 : Fld Z h102 a102 "com/example/lexbind/lexbind/messages/Explanation" "readAgain" "Ljava/util/List;" .null := D102 (Or.inr (w133 cx)) (ty := (.object "java/util/List")) (by decide)
  refine P.dup X102 hx 210 (hb hby at_209) rfl rfl ?_
  refine P.aload X102 hx 212 (hb hby at_210) rfl rfl rfl ?_
  refine P.aload X102 hx 214 (hb hby at_212) rfl rfl rfl ?_
  refine X102.newO hx (w53 cx) (w54 cx) (w55 cx) (hb hby at_214) (nle rfl) (nle rfl) ?_
  intro T108 h108 a108 X108 E108 g108 A108 D108
  have ge109 : h.size ≤ a108 := Nat.le_trans K104.1 g108
  have K110 : Keep h h108 [] := K104.ext E108
  have D111 : Fld Z h108 a108 "java/util/AbstractList" "modCount" "I" (.int 0) := D108 (Or.inl (w73 cx)) (ty := .int) (by decide)
  have D112 : Fld Z h108 a108 "java/util/ArrayList" "elementData" "[Ljava/lang/Object;" .null := D108 (Or.inl (w76 cx)) (ty := (.array (.object "java/lang/Object"))) (by decide)
  have D113 : Fld Z h108 a108 "java/util/ArrayList" "size" "I" (.int 0) := D108 (Or.inl (w114 cx)) (ty := .int) (by decide)
  refine P.dup X108 hx 218 (hb hby at_217) rfl rfl ?_
  refine X108.callC hx rfl (w56 cx) (w57 cx) (w58 cx) (by decide) (Ct.pay (W := 5) (ct_alini cx a108 h108 _ _ A108 D111 D112 D113 (mg 0 rfl)) (w58 cx) (w55 cx) (nle rfl) (nle rfl)) (by rw [hml]; rfl) (argsL := []) (rest := [.ref a108, .ref a96, .ref a51, .ref a102, .ref a102]) (lenOf pd3 rfl) rfl rfl (Nat.le_of_eq rfl) (hb hby at_218) (nle rfl) (nle rfl) ?_
  rintro T114 h114 _ _ _ X114 ⟨rfl, rfl, rfl, J114, G115, G116, G117⟩
  have K118 : Keep h h114 [] := K110.trans J114 (allS (Or.inr ge109) all0)
  have F119 := ((((((((G68.ext E75).other W79 (Or.inl (X114.ne (i := 6) (j := 4) rfl rfl (by decide)))).other W82 (Or.inl (X114.ne (i := 6) (j := 4) rfl rfl (by decide)))).ext E85).keep J91 (ninS (X114.ne (i := 6) (j := 3) rfl rfl (by decide)) nin0)).keep J95 nin0).ext E102).ext E108).keep J114 (ninS (X114.ne (i := 6) (j := 0) rfl rfl (by decide)) nin0)
  have F120 := ((((((((G70.ext E75).other W79 (X114.ne (i := 5) (j := 4) rfl rfl (by decide))).other W82 (X114.ne (i := 5) (j := 4) rfl rfl (by decide))).ext E85).keep J91 (ninS (X114.ne (i := 5) (j := 3) rfl rfl (by decide)) nin0)).keep J95 nin0).ext E102).ext E108).keep J114 (ninS (X114.ne (i := 5) (j := 0) rfl rfl (by decide)) nin0)
  have F121 := ((G98.ext E102).ext E108).keep J114 (ninS (X114.ne (i := 2) (j := 0) rfl rfl (by decide)) nin0)
  have F122 := (A102.ext E108).keep J114
  have F123 := (D105.ext E108).keep J114 (ninS (X114.ne (i := 1) (j := 0) rfl rfl (by decide)) nin0)
  have F124 := (D106.ext E108).keep J114 (ninS (X114.ne (i := 1) (j := 0) rfl rfl (by decide)) nin0)
  have F125 := (D107.ext E108).keep J114 (ninS (X114.ne (i := 1) (j := 0) rfl rfl (by decide)) nin0)
  have F126 := (((((((((F62.keep J64).ext E75).wr W79).wr W82).ext E85).keep J91).keep J95).ext E102).ext E108).keep J114
  have F127 := ((((((((G69.ext E75).other W79 (Or.inl (X114.ne (i := 6) (j := 4) rfl rfl (by decide)))).other W82 (Or.inl (X114.ne (i := 6) (j := 4) rfl rfl (by decide)))).ext E85).keep J91 (ninS (X114.ne (i := 6) (j := 3) rfl rfl (by decide)) nin0)).keep J95 nin0).ext E102).ext E108).keep J114 (ninS (X114.ne (i := 6) (j := 0) rfl rfl (by decide)) nin0)
  have F128 := ((((((((G71.ext E75).wr W79).wr W82).ext E85).keep J91).keep J95).ext E102).ext E108).keep J114
  have F129 := (((((((((F63.keep J64).ext E75).wr W79).wr W82).ext E85).keep J91).keep J95).ext E102).ext E108).keep J114
  have F130 := A108.keep J114
  have F131 := ((G97.ext E102).ext E108).keep J114
  refine X114.callC hx rfl (w86 cx) (w87 cx) (w88 cx) (by decide) (Ct.pay (W := 1) (ct_exini11 cx a102 a51 a65 k66 a15 a108 a96 a85 h114 _ _ F122 F123 F124 F125 (mg 1 rfl) F126 F127 F119 F120 F128 F129 F130 G117 F131 F121) (w88 cx) (w85 cx) (nle rfl) (nle rfl)) (by rw [hml]; rfl) (argsL := [.ref a51, .ref a96, .ref a108]) (rest := [.ref a102]) (lenOf pd27 rfl) rfl rfl (Nat.le_of_eq rfl) (hb hby at_221) (nle rfl) (nle rfl) ?_
  rintro T132 h132 _ _ _ X132 ⟨a133, rfl, rfl, rfl, J132, g139, G134, G135, G136, G137, G138⟩
  have ge140 : h.size ≤ a133 := Nat.le_trans K118.1 g139
  have K141 : Keep h h132 [] := K118.trans J132 (allS (Or.inr ge103) all0)
  refine P.astore X132 hx 226 #[.val (.int p0), .val (.int p1), .val (.int p2), .val (.int p3), .val (.int 1), .val (.int 1), .val (.ref a2), .val (.ref a9), .val (.ref a15), .val (.ref a27), .val (.ref a39), .val (.ref a51), .val (.ref a15), .val (.ref a75), .val (.ref a96), .val (.ref a102), .unset] (hb hby at_224) rfl rfl rfl ?_
  refine P.aload X132 hx 228 (hb hby at_226) rfl rfl rfl ?_
  have F142 := F122.keep J132
  have F143 := F121.keep J132 (ninS (X132.ne (i := 3) (j := 2) rfl rfl (by decide)) nin0)
  have F144 := F129.keep J132
  have F145 := F131.keep J132
  have F146 := ((((G93.1.keep J95).ext E102).ext E108).keep J114).keep J132
  refine X132.callV hx (w134 cx) (w135 cx) (w137 cx) (w136 cx) (fun _ hZ => nf hZ (w137 cx)) (by decide) F142 (Ct.pay (W := 0) (ct_ans1 cx a102 a133 a15 a96 a85 h132 _ _ F142 G134 G136 G137 G138 F144 G135 F145 F143 F146) (w138 cx) (w85 cx) (nle rfl) (nle rfl)) (by rw [hml]; rfl) (argsL := []) (rest := []) (lenOf pd21 rfl) rfl rfl (Nat.le_of_eq rfl) (hb hby at_228) (nle rfl) (nle rfl) ?_
  rintro T147 h147 _ _ _ X147 ⟨a148, rfl, rfl, rfl, J147, g151, G149, G150⟩
  have ge152 : h.size ≤ a148 := Nat.le_trans K141.1 g151
  have K153 : Keep h h147 [] := K141.trans J147 all0
  refine P.astore X147 hx 233 #[.val (.int p0), .val (.int p1), .val (.int p2), .val (.int p3), .val (.int 1), .val (.int 1), .val (.ref a2), .val (.ref a9), .val (.ref a15), .val (.ref a27), .val (.ref a39), .val (.ref a51), .val (.ref a15), .val (.ref a75), .val (.ref a96), .val (.ref a102), .val (.ref a148)] (hb hby at_231) rfl rfl rfl ?_
  refine P.iload X147 hx 235 (hb hby at_233) rfl rfl ?_
  refine P.ifYes X147 hx 252 (hb hby at_235) (by decide) (by decide) (by decide) ?_
  refine P.aload X147 hx 254 (hb hby at_252) rfl rfl rfl ?_
  refine X147.callV hx (w157 cx) (w122 cx) (w124 cx) (w123 cx) (fun _ hZ => nf hZ (w124 cx)) (by decide) G149 (Ct.pay (W := 0) (ct_opisPresent1 cx a148 a15 h147 _ _ G150) (w125 cx) (w80 cx) (nle rfl) (nle rfl)) (by rw [hml]; rfl) (argsL := []) (rest := []) (lenOf pd16 rfl) rfl rfl (Nat.le_of_eq rfl) (hb hby at_254) (nle rfl) (nle rfl) ?_
  rintro T154 h154 _ _ _ X154 ⟨rfl, rfl, rfl, J154⟩
  rw [J154] at X154
  refine P.ifYes X154 hx 262 (hb hby at_257) (by decide) (by decide) (by decide) ?_
  refine P.aload X154 hx 264 (hb hby at_262) rfl rfl rfl ?_
  refine X154.callV hx (w316 cx) (w317 cx) (w319 cx) (w318 cx) (fun _ hZ => nf hZ (w319 cx)) (by decide) G149 (Ct.pay (W := 0) (ct_opget cx a148 a15 h147 _ _ G150) (w320 cx) (w80 cx) (nle rfl) (nle rfl)) (by rw [hml]; rfl) (argsL := []) (rest := []) (lenOf pd30 rfl) rfl rfl (Nat.le_of_eq rfl) (hb hby at_264) (nle rfl) (nle rfl) ?_
  rintro T155 h155 _ _ _ X155 ⟨rfl, rfl, rfl, J155⟩
  rw [J155] at X155
  refine P.aload X155 hx 269 (hb hby at_267) rfl rfl rfl ?_
  refine WS.acmp X155 hx (x := (.ref a15)) (y := (.ref a15)) rfl rfl (pc' := 272) (same := true) (hb hby at_269) (decide_eq_true rfl) (by decide) (by decide) ?_
  refine P.iconst X155 hx 273 1 (hb hby at_272) rfl rfl ?_
  refine P.goto X155 hx 277 (hb hby at_273) (by decide) (by decide) ?_
  have X156 := WS.drop (A := []) (B := (a133 :: a108 :: a102 :: a96 :: a85 :: a75 :: a65 :: a51 :: a39 :: a27 :: a15 :: a9 :: a2 :: WL)) X155
  have X157 := WS.drop (A := []) (B := (a108 :: a102 :: a96 :: a85 :: a75 :: a65 :: a51 :: a39 :: a27 :: a15 :: a9 :: a2 :: WL)) X156
  have X158 := WS.drop (A := []) (B := (a102 :: a96 :: a85 :: a75 :: a65 :: a51 :: a39 :: a27 :: a15 :: a9 :: a2 :: WL)) X157
  have X159 := WS.drop (A := []) (B := (a96 :: a85 :: a75 :: a65 :: a51 :: a39 :: a27 :: a15 :: a9 :: a2 :: WL)) X158
  have X160 := WS.drop (A := []) (B := (a85 :: a75 :: a65 :: a51 :: a39 :: a27 :: a15 :: a9 :: a2 :: WL)) X159
  have X161 := WS.drop (A := []) (B := (a75 :: a65 :: a51 :: a39 :: a27 :: a15 :: a9 :: a2 :: WL)) X160
  have X162 := WS.drop (A := []) (B := (a65 :: a51 :: a39 :: a27 :: a15 :: a9 :: a2 :: WL)) X161
  have X163 := WS.drop (A := []) (B := (a51 :: a39 :: a27 :: a15 :: a9 :: a2 :: WL)) X162
  have X164 := WS.drop (A := []) (B := (a39 :: a27 :: a15 :: a9 :: a2 :: WL)) X163
  have X165 := WS.drop (A := []) (B := (a27 :: a15 :: a9 :: a2 :: WL)) X164
  have X166 := WS.drop (A := []) (B := (a15 :: a9 :: a2 :: WL)) X165
  have X167 := WS.drop (A := []) (B := (a9 :: a2 :: WL)) X166
  have X168 := WS.drop (A := []) (B := (a2 :: WL)) X167
  have X169 := WS.drop (A := []) (B := WL) X168
  have X170 := WS.fl (FL2 := FL) X169 (fun y hy => (List.mem_append_right [a2, a9, a15, a27, a39, a51, a65, a75, a85, a96, a102, a108, a133, a148, a92, a10, a3] hy))
  exact WS.retN X170 (WL' := []) (FL' := []) hx (t := .boolean) hret (by simp) hlk (hb hby at_277) (nle rfl) (nle rfl) ⟨rfl, rfl, rfl, K153⟩
theorem ct_law_20 (cx : Cx a0 Z gC v_DE k_DE v_EL v_EM v_OE m_OA) (p0 : Int32) (p1 : Int32) (p2 : Int32) (p3 : Int32) (h : Heap) (WL FL : List Addr)  (e4 : (p0 &&& (3 : Int32)) = (2 : Int32)) (eb : (p1 &&& (1 : Int32)) = (0 : Int32)) :
    Ct l Z EL1 n0 x code maxLocals ret room_1 #[(.int p0), (.int p1), (.int p2), (.int p3)] h WL FL (Q_law Z gC v_DE k_DE v_EL v_EM v_OE m_OA p0 p1 p2 p3 h) := by
  refine Ct.of (plainFor_of_name pn17) ?_
  intro p e s m below meth c s1 hx hby hml hnm hret hlk X0
  refine Wo.cast (f' := (mkF m 0 #[.val (.int p0), .val (.int p1), .val (.int p2), .val (.int p3), .unset, .unset, .unset, .unset, .unset, .unset, .unset, .unset, .unset, .unset, .unset, .unset, .unset] [])) (by first | (simp [entryFrame, mkF, argsToLocals, Value.category, maxLocals]; done) | rfl) ?_
  have K0 : Keep h h [] := Keep.refl _ _
  show Wo _ _ _ _ _ _ _ _ _ _ _ s1 (mkF m 0 #[.val (.int p0), .val (.int p1), .val (.int p2), .val (.int p3), .unset, .unset, .unset, .unset, .unset, .unset, .unset, .unset, .unset, .unset, .unset, .unset, .unset] [])
  refine P.iloadN X0 hx 1 (hb hby at_0) rfl rfl ?_
  refine P.iconst X0 hx 2 3 (hb hby at_1) rfl rfl ?_
  refine P.iand X0 hx 3 (z := (2 : Int32)) (hb hby at_2) (e4) rfl ?_
  refine P.istore X0 hx 5 #[.val (.int p0), .val (.int p1), .val (.int p2), .val (.int p3), .val (.int 2), .unset, .unset, .unset, .unset, .unset, .unset, .unset, .unset, .unset, .unset, .unset, .unset] (hb hby at_3) rfl rfl ?_
  refine P.iloadN X0 hx 6 (hb hby at_5) rfl rfl ?_
  refine P.iconst X0 hx 7 1 (hb hby at_6) rfl rfl ?_
  refine P.iand X0 hx 8 (z := (p1 &&& (1 : Int32))) (hb hby at_7) rfl rfl ?_
  refine P.ifYes X0 hx 20 (hb hby at_8) ((if0 _ _).trans (teq eb).1) (by decide) (by decide) ?_
  refine P.iconst X0 hx 21 0 (hb hby at_20) rfl rfl ?_
  refine P.istore X0 hx 23 #[.val (.int p0), .val (.int p1), .val (.int p2), .val (.int p3), .val (.int 2), .val (.int 0), .unset, .unset, .unset, .unset, .unset, .unset, .unset, .unset, .unset, .unset, .unset] (hb hby at_21) rfl rfl ?_
  refine P.iloadN X0 hx 24 (hb hby at_23) rfl rfl ?_
  refine P.sipush X0 hx 27 255 (hb hby at_24) rfl rfl ?_
  refine P.iand X0 hx 28 (z := (p2 &&& (255 : Int32))) (hb hby at_27) rfl rfl ?_
  refine P.i2c X0 hx 29 (z := (p2 &&& (255 : Int32))) (hb hby at_28) (by rw [i2c_mask]) rfl ?_
  refine X0.callS hx (w0 cx) (w1 cx) (w2 cx) (w3 cx) (by decide) (Ct.pay (W := 0) (ct_valC cx (p2 &&& (255 : Int32)) h _ _ (rng255 _)) (w3 cx) (w2 cx) (nle rfl) (nle rfl)) (by rw [hml]; rfl) (argsL := [.int (p2 &&& (255 : Int32))]) (rest := []) (lenOf pd25 rfl) rfl rfl (Nat.le_of_eq rfl) (hb hby at_29) (nle rfl) (nle rfl) ?_
  rintro T1 h1 _ _ _ X1 ⟨a2, a3, rfl, rfl, rfl, J1, g5, G4⟩
  have ge6 : h.size ≤ a2 := Nat.le_trans K0.1 g5
  have K7 : Keep h h1 [] := K0.trans J1 all0
  refine P.astore X1 hx 34 #[.val (.int p0), .val (.int p1), .val (.int p2), .val (.int p3), .val (.int 2), .val (.int 0), .val (.ref a2), .unset, .unset, .unset, .unset, .unset, .unset, .unset, .unset, .unset, .unset] (hb hby at_32) rfl rfl rfl ?_
  refine P.iloadN X1 hx 35 (hb hby at_34) rfl rfl ?_
  refine P.sipush X1 hx 38 255 (hb hby at_35) rfl rfl ?_
  refine P.iand X1 hx 39 (z := (p3 &&& (255 : Int32))) (hb hby at_38) rfl rfl ?_
  refine P.i2c X1 hx 40 (z := (p3 &&& (255 : Int32))) (hb hby at_39) (by rw [i2c_mask]) rfl ?_
  refine X1.callS hx (w0 cx) (w1 cx) (w2 cx) (w3 cx) (by decide) (Ct.pay (W := 0) (ct_valC cx (p3 &&& (255 : Int32)) h1 _ _ (rng255 _)) (w3 cx) (w2 cx) (nle rfl) (nle rfl)) (by rw [hml]; rfl) (argsL := [.int (p3 &&& (255 : Int32))]) (rest := []) (lenOf pd25 rfl) rfl rfl (Nat.le_of_eq rfl) (hb hby at_40) (nle rfl) (nle rfl) ?_
  rintro T8 h8 _ _ _ X8 ⟨a9, a10, rfl, rfl, rfl, J8, g12, G11⟩
  have ge13 : h.size ≤ a9 := Nat.le_trans K7.1 g12
  have K14 : Keep h h8 [] := K7.trans J8 all0
  refine P.astore X8 hx 45 #[.val (.int p0), .val (.int p1), .val (.int p2), .val (.int p3), .val (.int 2), .val (.int 0), .val (.ref a2), .val (.ref a9), .unset, .unset, .unset, .unset, .unset, .unset, .unset, .unset, .unset] (hb hby at_43) rfl rfl rfl ?_
  refine X8.newO hx (w26 cx) (w27 cx) (w28 cx) (hb hby at_45) (nle rfl) (nle rfl) ?_
  intro T15 h15 a15 X15 E15 g15 A15 D15
  have ge16 : h.size ≤ a15 := Nat.le_trans K14.1 g15
  have K17 : Keep h h15 [] := K14.ext E15
  have D18 : Fld Z h15 a15 "com/example/lexbind/lexbind/messages/Explanation$Step" "source" "Ljava/lang/String;" .null := D15 (Or.inr (w48 cx)) (ty := (.object "java/lang/String")) (by decide)
  have D19 : Fld Z h15 a15 "com/example/lexbind/lexbind/messages/Explanation$Step" "key" "Ljava/lang/String;" .null := D15 (Or.inr (w50 cx)) (ty := (.object "java/lang/String")) (by decide)
  refine P.dup X15 hx 49 (hb hby at_48) rfl rfl ?_
  refine P.aload X15 hx 51 (hb hby at_49) rfl rfl rfl ?_
  refine X15.ldcO hx (w29 cx) (strAtoms cx) (hb hby at_51) (n := 8) (nle rfl) (nle rfl) (nle rfl) (nle rfl) ?_
  intro T20 h20 a20 X20 E20
  have K21 : Keep h h20 [] := K17.ext E20
  have F22 := A15.ext E20
  have F23 := D18.ext E20
  have F24 := D19.ext E20
  refine X20.callC hx rfl (w32 cx) (w33 cx) (w34 cx) (by decide) (Ct.pay (W := 1) (ct_stpini cx a15 a2 a20 h20 _ _ F22 F23 F24 (mg 0 rfl)) (w34 cx) (w28 cx) (nle rfl) (nle rfl)) (by rw [hml]; rfl) (argsL := [.ref a2, .ref a20]) (rest := [.ref a15]) (lenOf pd26 rfl) rfl rfl (Nat.le_of_eq rfl) (hb hby at_53) (nle rfl) (nle rfl) ?_
  rintro T25 h25 _ _ _ X25 ⟨rfl, rfl, rfl, J25⟩
  have K26 : Keep h h25 [] := K21.trans J25 (allS (Or.inr ge16) all0)
  refine P.astore X25 hx 58 #[.val (.int p0), .val (.int p1), .val (.int p2), .val (.int p3), .val (.int 2), .val (.int 0), .val (.ref a2), .val (.ref a9), .val (.ref a15), .unset, .unset, .unset, .unset, .unset, .unset, .unset, .unset] (hb hby at_56) rfl rfl rfl ?_
  refine X25.newO hx (w26 cx) (w27 cx) (w28 cx) (hb hby at_58) (nle rfl) (nle rfl) ?_
  intro T27 h27 a27 X27 E27 g27 A27 D27
  have ge28 : h.size ≤ a27 := Nat.le_trans K26.1 g27
  have K29 : Keep h h27 [] := K26.ext E27
  have D30 : Fld Z h27 a27 "com/example/lexbind/lexbind/messages/Explanation$Step" "source" "Ljava/lang/String;" .null := D27 (Or.inr (w48 cx)) (ty := (.object "java/lang/String")) (by decide)
  have D31 : Fld Z h27 a27 "com/example/lexbind/lexbind/messages/Explanation$Step" "key" "Ljava/lang/String;" .null := D27 (Or.inr (w50 cx)) (ty := (.object "java/lang/String")) (by decide)
  refine P.dup X27 hx 62 (hb hby at_61) rfl rfl ?_
  refine P.aload X27 hx 64 (hb hby at_62) rfl rfl rfl ?_
  refine X27.ldcO hx (w51 cx) (strAtoms cx) (hb hby at_64) (n := 8) (nle rfl) (nle rfl) (nle rfl) (nle rfl) ?_
  intro T32 h32 a32 X32 E32
  have K33 : Keep h h32 [] := K29.ext E32
  have F34 := A27.ext E32
  have F35 := D30.ext E32
  have F36 := D31.ext E32
  refine X32.callC hx rfl (w32 cx) (w33 cx) (w34 cx) (by decide) (Ct.pay (W := 1) (ct_stpini cx a27 a9 a32 h32 _ _ F34 F35 F36 (mg 0 rfl)) (w34 cx) (w28 cx) (nle rfl) (nle rfl)) (by rw [hml]; rfl) (argsL := [.ref a9, .ref a32]) (rest := [.ref a27]) (lenOf pd26 rfl) rfl rfl (Nat.le_of_eq rfl) (hb hby at_66) (nle rfl) (nle rfl) ?_
  rintro T37 h37 _ _ _ X37 ⟨rfl, rfl, rfl, J37⟩
  have K38 : Keep h h37 [] := K33.trans J37 (allS (Or.inr ge28) all0)
  refine P.astore X37 hx 71 #[.val (.int p0), .val (.int p1), .val (.int p2), .val (.int p3), .val (.int 2), .val (.int 0), .val (.ref a2), .val (.ref a9), .val (.ref a15), .val (.ref a27), .unset, .unset, .unset, .unset, .unset, .unset, .unset] (hb hby at_69) rfl rfl rfl ?_
  refine X37.newO hx (w26 cx) (w27 cx) (w28 cx) (hb hby at_71) (nle rfl) (nle rfl) ?_
  intro T39 h39 a39 X39 E39 g39 A39 D39
  have ge40 : h.size ≤ a39 := Nat.le_trans K38.1 g39
  have K41 : Keep h h39 [] := K38.ext E39
  have D42 : Fld Z h39 a39 "com/example/lexbind/lexbind/messages/Explanation$Step" "source" "Ljava/lang/String;" .null := D39 (Or.inr (w48 cx)) (ty := (.object "java/lang/String")) (by decide)
  have D43 : Fld Z h39 a39 "com/example/lexbind/lexbind/messages/Explanation$Step" "key" "Ljava/lang/String;" .null := D39 (Or.inr (w50 cx)) (ty := (.object "java/lang/String")) (by decide)
  refine P.dup X39 hx 75 (hb hby at_74) rfl rfl ?_
  refine P.aload X39 hx 77 (hb hby at_75) rfl rfl rfl ?_
  refine X39.ldcO hx (w52 cx) (strAtoms cx) (hb hby at_77) (n := 8) (nle rfl) (nle rfl) (nle rfl) (nle rfl) ?_
  intro T44 h44 a44 X44 E44
  have K45 : Keep h h44 [] := K41.ext E44
  have F46 := A39.ext E44
  have F47 := D42.ext E44
  have F48 := D43.ext E44
  refine X44.callC hx rfl (w32 cx) (w33 cx) (w34 cx) (by decide) (Ct.pay (W := 1) (ct_stpini cx a39 a2 a44 h44 _ _ F46 F47 F48 (mg 0 rfl)) (w34 cx) (w28 cx) (nle rfl) (nle rfl)) (by rw [hml]; rfl) (argsL := [.ref a2, .ref a44]) (rest := [.ref a39]) (lenOf pd26 rfl) rfl rfl (Nat.le_of_eq rfl) (hb hby at_79) (nle rfl) (nle rfl) ?_
  rintro T49 h49 _ _ _ X49 ⟨rfl, rfl, rfl, J49⟩
  have K50 : Keep h h49 [] := K45.trans J49 (allS (Or.inr ge40) all0)
  refine P.astore X49 hx 84 #[.val (.int p0), .val (.int p1), .val (.int p2), .val (.int p3), .val (.int 2), .val (.int 0), .val (.ref a2), .val (.ref a9), .val (.ref a15), .val (.ref a27), .val (.ref a39), .unset, .unset, .unset, .unset, .unset, .unset] (hb hby at_82) rfl rfl rfl ?_
  refine X49.newO hx (w53 cx) (w54 cx) (w55 cx) (hb hby at_84) (nle rfl) (nle rfl) ?_
  intro T51 h51 a51 X51 E51 g51 A51 D51
  have ge52 : h.size ≤ a51 := Nat.le_trans K50.1 g51
  have K53 : Keep h h51 [] := K50.ext E51
  have D54 : Fld Z h51 a51 "java/util/AbstractList" "modCount" "I" (.int 0) := D51 (Or.inl (w73 cx)) (ty := .int) (by decide)
  have D55 : Fld Z h51 a51 "java/util/ArrayList" "elementData" "[Ljava/lang/Object;" .null := D51 (Or.inl (w76 cx)) (ty := (.array (.object "java/lang/Object"))) (by decide)
  have D56 : Fld Z h51 a51 "java/util/ArrayList" "size" "I" (.int 0) := D51 (Or.inl (w114 cx)) (ty := .int) (by decide)
  refine P.dup X51 hx 88 (hb hby at_87) rfl rfl ?_
  refine X51.callC hx rfl (w56 cx) (w57 cx) (w58 cx) (by decide) (Ct.pay (W := 1) (ct_alini cx a51 h51 _ _ A51 D54 D55 D56 (mg 0 rfl)) (w58 cx) (w55 cx) (nle rfl) (nle rfl)) (by rw [hml]; rfl) (argsL := []) (rest := [.ref a51]) (lenOf pd3 rfl) rfl rfl (Nat.le_of_eq rfl) (hb hby at_88) (nle rfl) (nle rfl) ?_
  rintro T57 h57 _ _ _ X57 ⟨rfl, rfl, rfl, J57, G58, G59, G60⟩
  have K61 : Keep h h57 [] := K53.trans J57 (allS (Or.inr ge52) all0)
  refine P.astore X57 hx 93 #[.val (.int p0), .val (.int p1), .val (.int p2), .val (.int p3), .val (.int 2), .val (.int 0), .val (.ref a2), .val (.ref a9), .val (.ref a15), .val (.ref a27), .val (.ref a39), .val (.ref a51), .unset, .unset, .unset, .unset, .unset] (hb hby at_91) rfl rfl rfl ?_
  refine P.aconstNull X57 hx 94 (hb hby at_93) rfl ?_
  refine P.astore X57 hx 96 #[.val (.int p0), .val (.int p1), .val (.int p2), .val (.int p3), .val (.int 2), .val (.int 0), .val (.ref a2), .val (.ref a9), .val (.ref a15), .val (.ref a27), .val (.ref a39), .val (.ref a51), .val .null, .unset, .unset, .unset, .unset] (hb hby at_94) rfl rfl rfl ?_
  refine P.iload X57 hx 98 (hb hby at_96) rfl rfl ?_
  refine P.iconst X57 hx 99 1 (hb hby at_98) rfl rfl ?_
  refine P.icmpNo X57 hx 102 (hb hby at_99) (by decide) rfl ?_
  refine P.aload X57 hx 104 (hb hby at_102) rfl rfl rfl ?_
  refine P.aload X57 hx 106 (hb hby at_104) rfl rfl rfl ?_
  have F62 := A51.keep J57
  have F63 := ((((((((F22.keep J25).ext E27).ext E32).keep J37).ext E39).ext E44).keep J49).ext E51).keep J57
  refine X57.callI hx (w158 cx) (w159 cx) (w160 cx) (w161 cx) (w162 cx) (w163 cx) (w164 cx) (w165 cx) (by decide) F62 (Ct.pay (W := 0) (ct_add0 cx a51 a15 h57 _ _ F62 G58 G59 G60 (mg 0 rfl) F63) (w166 cx) (w55 cx) (nle rfl) (nle rfl)) (by rw [hml]; rfl) (argsL := [.ref a15]) (rest := []) (lenOf pd28 rfl) rfl rfl (Nat.le_of_eq rfl) (hb hby at_106) (nle rfl) (nle rfl) ?_
  rintro T64 h64 _ _ _ X64 ⟨a65, k66, rfl, rfl, rfl, J64, g72, G67, G68, G69, G70, G71⟩
  have ge73 : h.size ≤ a65 := Nat.le_trans K61.1 g72
  have K74 : Keep h h64 [] := K61.trans J64 (allS (Or.inr ge52) all0)
  refine P.pop X64 hx 112 (hb hby at_111) rfl rfl ?_
  refine P.aload X64 hx 114 (hb hby at_112) rfl rfl rfl ?_
  refine P.astore X64 hx 116 #[.val (.int p0), .val (.int p1), .val (.int p2), .val (.int p3), .val (.int 2), .val (.int 0), .val (.ref a2), .val (.ref a9), .val (.ref a15), .val (.ref a27), .val (.ref a39), .val (.ref a51), .val (.ref a15), .unset, .unset, .unset, .unset] (hb hby at_114) rfl rfl rfl ?_
  refine P.iload X64 hx 118 (hb hby at_116) rfl rfl ?_
  refine P.iconst X64 hx 119 2 (hb hby at_118) rfl rfl ?_
  refine P.icmpNo X64 hx 122 (hb hby at_119) (by decide) rfl ?_
  refine P.aload X64 hx 124 (hb hby at_122) rfl rfl rfl ?_
  refine P.aload X64 hx 126 (hb hby at_124) rfl rfl rfl ?_
  have F75 := F62.keep J64
  have F76 := ((((((F34.keep J37).ext E39).ext E44).keep J49).ext E51).keep J57).keep J64
  refine X64.callI hx (w158 cx) (w159 cx) (w160 cx) (w161 cx) (w162 cx) (w163 cx) (w164 cx) (w165 cx) (by decide) F75 (Ct.pay (W := 0) (ct_add1 cx a51 a65 k66 a15 a27 h64 _ _ F75 G67 G68 G69 (mg 1 rfl) G70 G71 (mg 0 rfl) (X64.ne (i := 1) (j := 0) rfl rfl (by decide)) F76) (w166 cx) (w55 cx) (nle rfl) (nle rfl)) (by rw [hml]; rfl) (argsL := [.ref a27]) (rest := []) (lenOf pd28 rfl) rfl rfl (Nat.le_of_eq rfl) (hb hby at_126) (nle rfl) (nle rfl) ?_
  rintro T77 h77 _ _ _ X77 ⟨rfl, rfl, rfl, J77, G78, G79, G80, G81, G82⟩
  have K83 : Keep h h77 [] := K74.trans J77 (allS (Or.inr ge52) (allS (Or.inr ge73) all0))
  refine P.pop X77 hx 132 (hb hby at_131) rfl rfl ?_
  refine P.aload X77 hx 134 (hb hby at_132) rfl rfl rfl ?_
  refine P.astore X77 hx 136 #[.val (.int p0), .val (.int p1), .val (.int p2), .val (.int p3), .val (.int 2), .val (.int 0), .val (.ref a2), .val (.ref a9), .val (.ref a15), .val (.ref a27), .val (.ref a39), .val (.ref a51), .val (.ref a27), .unset, .unset, .unset, .unset] (hb hby at_134) rfl rfl rfl ?_
  refine P.iload X77 hx 138 (hb hby at_136) rfl rfl ?_
  refine P.iconst X77 hx 139 3 (hb hby at_138) rfl rfl ?_
  refine P.icmpYes X77 hx 156 (hb hby at_139) (by decide) (by decide) (by decide) ?_
  refine P.iconst X77 hx 157 2 (hb hby at_156) rfl rfl ?_
  refine X77.newP (aty := .char) hx (w77 cx) (hb hby at_157) (by decide) (cap := 2) (nle rfl) (nle rfl) (nle rfl) (nle rfl) ?_
  intro T84 h84 a84 k84 X84 E84 g84 A84
  have ge85 : h.size ≤ a84 := Nat.le_trans K83.1 g84
  have K86 : Keep h h84 [] := K83.ext E84
  have V87 : Arv Z h84 a84 k84 .char (2 : Int32) [(.int 0), (.int 0)] (.int 0) := Arv.pad A84 (pad_rep [] _ 2)
  refine P.astore X84 hx 161 #[.val (.int p0), .val (.int p1), .val (.int p2), .val (.int p3), .val (.int 2), .val (.int 0), .val (.ref a2), .val (.ref a9), .val (.ref a15), .val (.ref a27), .val (.ref a39), .val (.ref a51), .val (.ref a27), .val (.ref a84), .unset, .unset, .unset] (hb hby at_159) rfl rfl rfl ?_
  refine P.aload X84 hx 163 (hb hby at_161) rfl rfl rfl ?_
  refine P.iconst X84 hx 164 0 (hb hby at_163) rfl rfl ?_
  refine P.iloadN X84 hx 165 (hb hby at_164) rfl rfl ?_
  refine P.sipush X84 hx 168 255 (hb hby at_165) rfl rfl ?_
  refine P.iand X84 hx 169 (z := (p2 &&& (255 : Int32))) (hb hby at_168) rfl rfl ?_
  refine P.i2c X84 hx 170 (z := (p2 &&& (255 : Int32))) (hb hby at_169) (by rw [i2c_mask]) rfl ?_
  refine X84.stC hx V87 (j := (0 : Int32)) (x := (p2 &&& (255 : Int32))) (i := 0) (by decide) rfl (nlt rfl) (mg 0 rfl) (hb hby at_170) ?_
  intro T88 h88 X88 W88 G88
  have K89 : Keep h h88 [] := K86.wr W88 (Or.inr ge85)
  have V90 : Arv Z h88 a84 k84 .char (2 : Int32) [(.int (p2 &&& (255 : Int32))), (.int 0)] (.int 0) := by have q := G88; rw [nar255] at q; exact q
  refine P.aload X88 hx 173 (hb hby at_171) rfl rfl rfl ?_
  refine P.iconst X88 hx 174 1 (hb hby at_173) rfl rfl ?_
  refine P.iloadN X88 hx 175 (hb hby at_174) rfl rfl ?_
  refine P.sipush X88 hx 178 255 (hb hby at_175) rfl rfl ?_
  refine P.iand X88 hx 179 (z := (p3 &&& (255 : Int32))) (hb hby at_178) rfl rfl ?_
  refine P.i2c X88 hx 180 (z := (p3 &&& (255 : Int32))) (hb hby at_179) (by rw [i2c_mask]) rfl ?_
  refine X88.stC hx V90 (j := (1 : Int32)) (x := (p3 &&& (255 : Int32))) (i := 1) (by decide) rfl (nlt rfl) (mg 0 rfl) (hb hby at_180) ?_
  intro T91 h91 X91 W91 G91
  have K92 : Keep h h91 [] := K89.wr W91 (Or.inr ge85)
  have V93 : Arv Z h91 a84 k84 .char (2 : Int32) [(.int (p2 &&& (255 : Int32))), (.int (p3 &&& (255 : Int32)))] (.int 0) := by have q := G91; rw [nar255] at q; exact q
  refine P.iload X91 hx 183 (hb hby at_181) rfl rfl ?_
  refine P.ifYes X91 hx 201 (hb hby at_183) (by decide) (by decide) (by decide) ?_
  refine X91.callS hx (w78 cx) (w79 cx) (w80 cx) (w81 cx) (by decide) (Ct.pay (W := 0) (ct_opemp cx  h91 _ _ ) (w81 cx) (w80 cx) (nle rfl) (nle rfl)) (by rw [hml]; rfl) (argsL := []) (rest := []) (lenOf pd21 rfl) rfl rfl (Nat.le_of_eq rfl) (hb hby at_201) (nle rfl) (nle rfl) ?_
  rintro T94 h94 _ _ _ X94 ⟨rfl, rfl, rfl, J94⟩
  rw [J94] at X94
  refine P.astore X94 hx 206 #[.val (.int p0), .val (.int p1), .val (.int p2), .val (.int p3), .val (.int 2), .val (.int 0), .val (.ref a2), .val (.ref a9), .val (.ref a15), .val (.ref a27), .val (.ref a39), .val (.ref a51), .val (.ref a27), .val (.ref a84), .val (.ref v_OE), .unset, .unset] (hb hby at_204) rfl rfl rfl ?_
  refine X94.newO hx (w83 cx) (w84 cx) (w85 cx) (hb hby at_206) (nle rfl) (nle rfl) ?_
  intro T95 h95 a95 X95 E95 g95 A95 D95
  have ge96 : h.size ≤ a95 := Nat.le_trans K92.1 g95
  have K97 : Keep h h95 [] := K92.ext E95
  have D98 : Fld Z h95 a95 "com/example/lexbind/lexbind/messages/Explanation" "steps" "Ljava/util/List;" .null := D95 (Or.inr (w129 cx)) (ty := (.object "java/util/List")) (by decide)
  have D99 : Fld Z h95 a95 "com/example/lexbind/lexbind/messages/Explanation" "text" "Ljava/util/Optional;" .null := D95 (Or.inr (w131 cx)) (ty := (.object "java/util/Optional")) (by decide)
  have D100 : Fld Z h95 a95 "com/example/lexbind/lexbind/messages/Explanation" "readAgain" "Ljava/util/List;" .null := D95 (Or.inr (w133 cx)) (ty := (.object "java/util/List")) (by decide)
  refine P.dup X95 hx 210 (hb hby at_209) rfl rfl ?_
  refine P.aload X95 hx 212 (hb hby at_210) rfl rfl rfl ?_
  refine P.aload X95 hx 214 (hb hby at_212) rfl rfl rfl ?_
  refine X95.newO hx (w53 cx) (w54 cx) (w55 cx) (hb hby at_214) (nle rfl) (nle rfl) ?_
  intro T101 h101 a101 X101 E101 g101 A101 D101
  have ge102 : h.size ≤ a101 := Nat.le_trans K97.1 g101
  have K103 : Keep h h101 [] := K97.ext E101
  have D104 : Fld Z h101 a101 "java/util/AbstractList" "modCount" "I" (.int 0) := D101 (Or.inl (w73 cx)) (ty := .int) (by decide)
  have D105 : Fld Z h101 a101 "java/util/ArrayList" "elementData" "[Ljava/lang/Object;" .null := D101 (Or.inl (w76 cx)) (ty := (.array (.object "java/lang/Object"))) (by decide)
  have D106 : Fld Z h101 a101 "java/util/ArrayList" "size" "I" (.int 0) := D101 (Or.inl (w114 cx)) (ty := .int) (by decide)
  refine P.dup X101 hx 218 (hb hby at_217) rfl rfl ?_
  refine X101.callC hx rfl (w56 cx) (w57 cx) (w58 cx) (by decide) (Ct.pay (W := 5) (ct_alini cx a101 h101 _ _ A101 D104 D105 D106 (mg 0 rfl)) (w58 cx) (w55 cx) (nle rfl) (nle rfl)) (by rw [hml]; rfl) (argsL := []) (rest := [.ref a101, .ref v_OE, .ref a51, .ref a95, .ref a95]) (lenOf pd3 rfl) rfl rfl (Nat.le_of_eq rfl) (hb hby at_218) (nle rfl) (nle rfl) ?_
  rintro T107 h107 _ _ _ X107 ⟨rfl, rfl, rfl, J107, G108, G109, G110⟩
  have K111 : Keep h h107 [] := K103.trans J107 (allS (Or.inr ge102) all0)
  have F112 := (((((G79.ext E84).other W88 (Or.inl (X107.ne (i := 4) (j := 2) rfl rfl (by decide)))).other W91 (Or.inl (X107.ne (i := 4) (j := 2) rfl rfl (by decide)))).ext E95).ext E101).keep J107 (ninS (X107.ne (i := 4) (j := 0) rfl rfl (by decide)) nin0)
  have F113 := (((((G81.ext E84).other W88 (X107.ne (i := 3) (j := 2) rfl rfl (by decide))).other W91 (X107.ne (i := 3) (j := 2) rfl rfl (by decide))).ext E95).ext E101).keep J107 (ninS (X107.ne (i := 3) (j := 0) rfl rfl (by decide)) nin0)
  have F114 := (A95.ext E101).keep J107
  have F115 := (D98.ext E101).keep J107 (ninS (X107.ne (i := 1) (j := 0) rfl rfl (by decide)) nin0)
  have F116 := (D99.ext E101).keep J107 (ninS (X107.ne (i := 1) (j := 0) rfl rfl (by decide)) nin0)
  have F117 := (D100.ext E101).keep J107 (ninS (X107.ne (i := 1) (j := 0) rfl rfl (by decide)) nin0)
  have F118 := ((((((F75.keep J77).ext E84).wr W88).wr W91).ext E95).ext E101).keep J107
  have F119 := (((((G80.ext E84).other W88 (Or.inl (X107.ne (i := 4) (j := 2) rfl rfl (by decide)))).other W91 (Or.inl (X107.ne (i := 4) (j := 2) rfl rfl (by decide)))).ext E95).ext E101).keep J107 (ninS (X107.ne (i := 4) (j := 0) rfl rfl (by decide)) nin0)
  have F120 := (((((G82.ext E84).wr W88).wr W91).ext E95).ext E101).keep J107
  have F121 := (((((((F63.keep J64).keep J77).ext E84).wr W88).wr W91).ext E95).ext E101).keep J107
  have F122 := ((((((F76.keep J77).ext E84).wr W88).wr W91).ext E95).ext E101).keep J107
  have F123 := A101.keep J107
  refine X107.callC hx rfl (w86 cx) (w87 cx) (w88 cx) (by decide) (Ct.pay (W := 1) (ct_exini20 cx a95 a51 a65 k66 a15 a27 a101 h107 _ _ F114 F115 F116 F117 (mg 1 rfl) F118 F119 F112 F113 F120 F121 F122 F123 G110) (w88 cx) (w85 cx) (nle rfl) (nle rfl)) (by rw [hml]; rfl) (argsL := [.ref a51, .ref v_OE, .ref a101]) (rest := [.ref a95]) (lenOf pd27 rfl) rfl rfl (Nat.le_of_eq rfl) (hb hby at_221) (nle rfl) (nle rfl) ?_
  rintro T124 h124 _ _ _ X124 ⟨a125, rfl, rfl, rfl, J124, g131, G126, G127, G128, G129, G130⟩
  have ge132 : h.size ≤ a125 := Nat.le_trans K111.1 g131
  have K133 : Keep h h124 [] := K111.trans J124 (allS (Or.inr ge96) all0)
  refine P.astore X124 hx 226 #[.val (.int p0), .val (.int p1), .val (.int p2), .val (.int p3), .val (.int 2), .val (.int 0), .val (.ref a2), .val (.ref a9), .val (.ref a15), .val (.ref a27), .val (.ref a39), .val (.ref a51), .val (.ref a27), .val (.ref a84), .val (.ref v_OE), .val (.ref a95), .unset] (hb hby at_224) rfl rfl rfl ?_
  refine P.aload X124 hx 228 (hb hby at_226) rfl rfl rfl ?_
  have F134 := F114.keep J124
  refine X124.callV hx (w134 cx) (w135 cx) (w137 cx) (w136 cx) (fun _ hZ => nf hZ (w137 cx)) (by decide) F134 (Ct.pay (W := 0) (ct_ans0 cx a95 h124 _ _ F134 G127) (w138 cx) (w85 cx) (nle rfl) (nle rfl)) (by rw [hml]; rfl) (argsL := []) (rest := []) (lenOf pd21 rfl) rfl rfl (Nat.le_of_eq rfl) (hb hby at_228) (nle rfl) (nle rfl) ?_
  rintro T135 h135 _ _ _ X135 ⟨rfl, rfl, rfl, J135⟩
  have K136 : Keep h h135 [] := K133.trans J135 all0
  refine P.astore X135 hx 233 #[.val (.int p0), .val (.int p1), .val (.int p2), .val (.int p3), .val (.int 2), .val (.int 0), .val (.ref a2), .val (.ref a9), .val (.ref a15), .val (.ref a27), .val (.ref a39), .val (.ref a51), .val (.ref a27), .val (.ref a84), .val (.ref v_OE), .val (.ref a95), .val (.ref v_OE)] (hb hby at_231) rfl rfl rfl ?_
  refine P.iload X135 hx 235 (hb hby at_233) rfl rfl ?_
  refine P.ifNo X135 hx 238 (hb hby at_235) (by decide) rfl ?_
  refine P.aload X135 hx 240 (hb hby at_238) rfl rfl rfl ?_
  refine X135.callV hx (w157 cx) (w122 cx) (w124 cx) (w123 cx) (fun _ hZ => nf hZ (w124 cx)) (by decide) ((E_OE cx).ext X135.old.2) (Ct.pay (W := 0) (ct_opisPresent0 cx v_OE v_OE h135 _ _ ((F_OE0 cx).ext X135.old.2)) (w125 cx) (w80 cx) (nle rfl) (nle rfl)) (by rw [hml]; rfl) (argsL := []) (rest := []) (lenOf pd16 rfl) rfl rfl (Nat.le_of_eq rfl) (hb hby at_240) (nle rfl) (nle rfl) ?_
  rintro T137 h137 _ _ _ X137 ⟨rfl, rfl, rfl, J137⟩
  rw [J137] at X137
  refine P.ifNo X137 hx 246 (hb hby at_243) (by decide) rfl ?_
  refine P.iconst X137 hx 247 1 (hb hby at_246) rfl rfl ?_
  refine P.goto X137 hx 251 (hb hby at_247) (by decide) (by decide) ?_
  have X138 := WS.drop (A := []) (B := (a101 :: a95 :: a84 :: a65 :: a51 :: a39 :: a27 :: a15 :: a9 :: a2 :: WL)) X137
  have X139 := WS.drop (A := []) (B := (a95 :: a84 :: a65 :: a51 :: a39 :: a27 :: a15 :: a9 :: a2 :: WL)) X138
  have X140 := WS.drop (A := []) (B := (a84 :: a65 :: a51 :: a39 :: a27 :: a15 :: a9 :: a2 :: WL)) X139
  have X141 := WS.drop (A := []) (B := (a65 :: a51 :: a39 :: a27 :: a15 :: a9 :: a2 :: WL)) X140
  have X142 := WS.drop (A := []) (B := (a51 :: a39 :: a27 :: a15 :: a9 :: a2 :: WL)) X141
  have X143 := WS.drop (A := []) (B := (a39 :: a27 :: a15 :: a9 :: a2 :: WL)) X142
  have X144 := WS.drop (A := []) (B := (a27 :: a15 :: a9 :: a2 :: WL)) X143
  have X145 := WS.drop (A := []) (B := (a15 :: a9 :: a2 :: WL)) X144
  have X146 := WS.drop (A := []) (B := (a9 :: a2 :: WL)) X145
  have X147 := WS.drop (A := []) (B := (a2 :: WL)) X146
  have X148 := WS.drop (A := []) (B := WL) X147
  have X149 := WS.fl (FL2 := FL) X148 (fun y hy => (List.mem_append_right [a2, a9, a15, a27, a39, a51, a65, a84, a95, a101, a125, a10, a3] hy))
  exact WS.retN X149 (WL' := []) (FL' := []) hx (t := .boolean) hret (by simp) hlk (hb hby at_251) (nle rfl) (nle rfl) ⟨rfl, rfl, rfl, K136⟩
theorem ct_law_21 (cx : Cx a0 Z gC v_DE k_DE v_EL v_EM v_OE m_OA) (p0 : Int32) (p1 : Int32) (p2 : Int32) (p3 : Int32) (h : Heap) (WL FL : List Addr)  (e4 : (p0 &&& (3 : Int32)) = (2 : Int32)) (eb : ¬ (p1 &&& (1 : Int32)) = (0 : Int32)) :
    Ct l Z EL1 n0 x code maxLocals ret room_1 #[(.int p0), (.int p1), (.int p2), (.int p3)] h WL FL (Q_law Z gC v_DE k_DE v_EL v_EM v_OE m_OA p0 p1 p2 p3 h) := by
  refine Ct.of (plainFor_of_name pn17) ?_
  intro p e s m below meth c s1 hx hby hml hnm hret hlk X0
  refine Wo.cast (f' := (mkF m 0 #[.val (.int p0), .val (.int p1), .val (.int p2), .val (.int p3), .unset, .unset, .unset, .unset, .unset, .unset, .unset, .unset, .unset, .unset, .unset, .unset, .unset] [])) (by first | (simp [entryFrame, mkF, argsToLocals, Value.category, maxLocals]; done) | rfl) ?_
  have K0 : Keep h h [] := Keep.refl _ _
  show Wo _ _ _ _ _ _ _ _ _ _ _ s1 (mkF m 0 #[.val (.int p0), .val (.int p1), .val (.int p2), .val (.int p3), .unset, .unset, .unset, .unset, .unset, .unset, .unset, .unset, .unset, .unset, .unset, .unset, .unset] [])
  refine P.iloadN X0 hx 1 (hb hby at_0) rfl rfl ?_
  refine P.iconst X0 hx 2 3 (hb hby at_1) rfl rfl ?_
  refine P.iand X0 hx 3 (z := (2 : Int32)) (hb hby at_2) (e4) rfl ?_
  refine P.istore X0 hx 5 #[.val (.int p0), .val (.int p1), .val (.int p2), .val (.int p3), .val (.int 2), .unset, .unset, .unset, .unset, .unset, .unset, .unset, .unset, .unset, .unset, .unset, .unset] (hb hby at_3) rfl rfl ?_
  refine P.iloadN X0 hx 6 (hb hby at_5) rfl rfl ?_
  refine P.iconst X0 hx 7 1 (hb hby at_6) rfl rfl ?_
  refine P.iand X0 hx 8 (z := (p1 &&& (1 : Int32))) (hb hby at_7) rfl rfl ?_
  refine P.ifNo X0 hx 11 (hb hby at_8) ((if0 _ _).trans (feq eb).1) rfl ?_
  refine P.iload X0 hx 13 (hb hby at_11) rfl rfl ?_
  refine P.ifNo X0 hx 16 (hb hby at_13) (by decide) rfl ?_
  refine P.iconst X0 hx 17 1 (hb hby at_16) rfl rfl ?_
  refine P.goto X0 hx 21 (hb hby at_17) (by decide) (by decide) ?_
  refine P.istore X0 hx 23 #[.val (.int p0), .val (.int p1), .val (.int p2), .val (.int p3), .val (.int 2), .val (.int 1), .unset, .unset, .unset, .unset, .unset, .unset, .unset, .unset, .unset, .unset, .unset] (hb hby at_21) rfl rfl ?_
  refine P.iloadN X0 hx 24 (hb hby at_23) rfl rfl ?_
  refine P.sipush X0 hx 27 255 (hb hby at_24) rfl rfl ?_
  refine P.iand X0 hx 28 (z := (p2 &&& (255 : Int32))) (hb hby at_27) rfl rfl ?_
  refine P.i2c X0 hx 29 (z := (p2 &&& (255 : Int32))) (hb hby at_28) (by rw [i2c_mask]) rfl ?_
  refine X0.callS hx (w0 cx) (w1 cx) (w2 cx) (w3 cx) (by decide) (Ct.pay (W := 0) (ct_valC cx (p2 &&& (255 : Int32)) h _ _ (rng255 _)) (w3 cx) (w2 cx) (nle rfl) (nle rfl)) (by rw [hml]; rfl) (argsL := [.int (p2 &&& (255 : Int32))]) (rest := []) (lenOf pd25 rfl) rfl rfl (Nat.le_of_eq rfl) (hb hby at_29) (nle rfl) (nle rfl) ?_
  rintro T1 h1 _ _ _ X1 ⟨a2, a3, rfl, rfl, rfl, J1, g5, G4⟩
  have ge6 : h.size ≤ a2 := Nat.le_trans K0.1 g5
  have K7 : Keep h h1 [] := K0.trans J1 all0
  refine P.astore X1 hx 34 #[.val (.int p0), .val (.int p1), .val (.int p2), .val (.int p3), .val (.int 2), .val (.int 1), .val (.ref a2), .unset, .unset, .unset, .unset, .unset, .unset, .unset, .unset, .unset, .unset] (hb hby at_32) rfl rfl rfl ?_
  refine P.iloadN X1 hx 35 (hb hby at_34) rfl rfl ?_
  refine P.sipush X1 hx 38 255 (hb hby at_35) rfl rfl ?_
  refine P.iand X1 hx 39 (z := (p3 &&& (255 : Int32))) (hb hby at_38) rfl rfl ?_
  refine P.i2c X1 hx 40 (z := (p3 &&& (255 : Int32))) (hb hby at_39) (by rw [i2c_mask]) rfl ?_
  refine X1.callS hx (w0 cx) (w1 cx) (w2 cx) (w3 cx) (by decide) (Ct.pay (W := 0) (ct_valC cx (p3 &&& (255 : Int32)) h1 _ _ (rng255 _)) (w3 cx) (w2 cx) (nle rfl) (nle rfl)) (by rw [hml]; rfl) (argsL := [.int (p3 &&& (255 : Int32))]) (rest := []) (lenOf pd25 rfl) rfl rfl (Nat.le_of_eq rfl) (hb hby at_40) (nle rfl) (nle rfl) ?_
  rintro T8 h8 _ _ _ X8 ⟨a9, a10, rfl, rfl, rfl, J8, g12, G11⟩
  have ge13 : h.size ≤ a9 := Nat.le_trans K7.1 g12
  have K14 : Keep h h8 [] := K7.trans J8 all0
  refine P.astore X8 hx 45 #[.val (.int p0), .val (.int p1), .val (.int p2), .val (.int p3), .val (.int 2), .val (.int 1), .val (.ref a2), .val (.ref a9), .unset, .unset, .unset, .unset, .unset, .unset, .unset, .unset, .unset] (hb hby at_43) rfl rfl rfl ?_
  refine X8.newO hx (w26 cx) (w27 cx) (w28 cx) (hb hby at_45) (nle rfl) (nle rfl) ?_
  intro T15 h15 a15 X15 E15 g15 A15 D15
  have ge16 : h.size ≤ a15 := Nat.le_trans K14.1 g15
  have K17 : Keep h h15 [] := K14.ext E15
  have D18 : Fld Z h15 a15 "com/example/lexbind/lexbind/messages/Explanation$Step" "source" "Ljava/lang/String;" .null := D15 (Or.inr (w48 cx)) (ty := (.object "java/lang/String")) (by decide)
  have D19 : Fld Z h15 a15 "com/example/lexbind/lexbind/messages/Explanation$Step" "key" "Ljava/lang/String;" .null := D15 (Or.inr (w50 cx)) (ty := (.object "java/lang/String")) (by decide)
  refine P.dup X15 hx 49 (hb hby at_48) rfl rfl ?_
  refine P.aload X15 hx 51 (hb hby at_49) rfl rfl rfl ?_
  refine X15.ldcO hx (w29 cx) (strAtoms cx) (hb hby at_51) (n := 8) (nle rfl) (nle rfl) (nle rfl) (nle rfl) ?_
  intro T20 h20 a20 X20 E20
  have K21 : Keep h h20 [] := K17.ext E20
  have F22 := A15.ext E20
  have F23 := D18.ext E20
  have F24 := D19.ext E20
  refine X20.callC hx rfl (w32 cx) (w33 cx) (w34 cx) (by decide) (Ct.pay (W := 1) (ct_stpini cx a15 a2 a20 h20 _ _ F22 F23 F24 (mg 0 rfl)) (w34 cx) (w28 cx) (nle rfl) (nle rfl)) (by rw [hml]; rfl) (argsL := [.ref a2, .ref a20]) (rest := [.ref a15]) (lenOf pd26 rfl) rfl rfl (Nat.le_of_eq rfl) (hb hby at_53) (nle rfl) (nle rfl) ?_
  rintro T25 h25 _ _ _ X25 ⟨rfl, rfl, rfl, J25⟩
  have K26 : Keep h h25 [] := K21.trans J25 (allS (Or.inr ge16) all0)
  refine P.astore X25 hx 58 #[.val (.int p0), .val (.int p1), .val (.int p2), .val (.int p3), .val (.int 2), .val (.int 1), .val (.ref a2), .val (.ref a9), .val (.ref a15), .unset, .unset, .unset, .unset, .unset, .unset, .unset, .unset] (hb hby at_56) rfl rfl rfl ?_
  refine X25.newO hx (w26 cx) (w27 cx) (w28 cx) (hb hby at_58) (nle rfl) (nle rfl) ?_
  intro T27 h27 a27 X27 E27 g27 A27 D27
  have ge28 : h.size ≤ a27 := Nat.le_trans K26.1 g27
  have K29 : Keep h h27 [] := K26.ext E27
  have D30 : Fld Z h27 a27 "com/example/lexbind/lexbind/messages/Explanation$Step" "source" "Ljava/lang/String;" .null := D27 (Or.inr (w48 cx)) (ty := (.object "java/lang/String")) (by decide)
  have D31 : Fld Z h27 a27 "com/example/lexbind/lexbind/messages/Explanation$Step" "key" "Ljava/lang/String;" .null := D27 (Or.inr (w50 cx)) (ty := (.object "java/lang/String")) (by decide)
  refine P.dup X27 hx 62 (hb hby at_61) rfl rfl ?_
  refine P.aload X27 hx 64 (hb hby at_62) rfl rfl rfl ?_
  refine X27.ldcO hx (w51 cx) (strAtoms cx) (hb hby at_64) (n := 8) (nle rfl) (nle rfl) (nle rfl) (nle rfl) ?_
  intro T32 h32 a32 X32 E32
  have K33 : Keep h h32 [] := K29.ext E32
  have F34 := A27.ext E32
  have F35 := D30.ext E32
  have F36 := D31.ext E32
  refine X32.callC hx rfl (w32 cx) (w33 cx) (w34 cx) (by decide) (Ct.pay (W := 1) (ct_stpini cx a27 a9 a32 h32 _ _ F34 F35 F36 (mg 0 rfl)) (w34 cx) (w28 cx) (nle rfl) (nle rfl)) (by rw [hml]; rfl) (argsL := [.ref a9, .ref a32]) (rest := [.ref a27]) (lenOf pd26 rfl) rfl rfl (Nat.le_of_eq rfl) (hb hby at_66) (nle rfl) (nle rfl) ?_
  rintro T37 h37 _ _ _ X37 ⟨rfl, rfl, rfl, J37⟩
  have K38 : Keep h h37 [] := K33.trans J37 (allS (Or.inr ge28) all0)
  refine P.astore X37 hx 71 #[.val (.int p0), .val (.int p1), .val (.int p2), .val (.int p3), .val (.int 2), .val (.int 1), .val (.ref a2), .val (.ref a9), .val (.ref a15), .val (.ref a27), .unset, .unset, .unset, .unset, .unset, .unset, .unset] (hb hby at_69) rfl rfl rfl ?_
  refine X37.newO hx (w26 cx) (w27 cx) (w28 cx) (hb hby at_71) (nle rfl) (nle rfl) ?_
  intro T39 h39 a39 X39 E39 g39 A39 D39
  have ge40 : h.size ≤ a39 := Nat.le_trans K38.1 g39
  have K41 : Keep h h39 [] := K38.ext E39
  have D42 : Fld Z h39 a39 "com/example/lexbind/lexbind/messages/Explanation$Step" "source" "Ljava/lang/String;" .null := D39 (Or.inr (w48 cx)) (ty := (.object "java/lang/String")) (by decide)
  have D43 : Fld Z h39 a39 "com/example/lexbind/lexbind/messages/Explanation$Step" "key" "Ljava/lang/String;" .null := D39 (Or.inr (w50 cx)) (ty := (.object "java/lang/String")) (by decide)
  refine P.dup X39 hx 75 (hb hby at_74) rfl rfl ?_
  refine P.aload X39 hx 77 (hb hby at_75) rfl rfl rfl ?_
  refine X39.ldcO hx (w52 cx) (strAtoms cx) (hb hby at_77) (n := 8) (nle rfl) (nle rfl) (nle rfl) (nle rfl) ?_
  intro T44 h44 a44 X44 E44
  have K45 : Keep h h44 [] := K41.ext E44
  have F46 := A39.ext E44
  have F47 := D42.ext E44
  have F48 := D43.ext E44
  refine X44.callC hx rfl (w32 cx) (w33 cx) (w34 cx) (by decide) (Ct.pay (W := 1) (ct_stpini cx a39 a2 a44 h44 _ _ F46 F47 F48 (mg 0 rfl)) (w34 cx) (w28 cx) (nle rfl) (nle rfl)) (by rw [hml]; rfl) (argsL := [.ref a2, .ref a44]) (rest := [.ref a39]) (lenOf pd26 rfl) rfl rfl (Nat.le_of_eq rfl) (hb hby at_79) (nle rfl) (nle rfl) ?_
  rintro T49 h49 _ _ _ X49 ⟨rfl, rfl, rfl, J49⟩
  have K50 : Keep h h49 [] := K45.trans J49 (allS (Or.inr ge40) all0)
  refine P.astore X49 hx 84 #[.val (.int p0), .val (.int p1), .val (.int p2), .val (.int p3), .val (.int 2), .val (.int 1), .val (.ref a2), .val (.ref a9), .val (.ref a15), .val (.ref a27), .val (.ref a39), .unset, .unset, .unset, .unset, .unset, .unset] (hb hby at_82) rfl rfl rfl ?_
  refine X49.newO hx (w53 cx) (w54 cx) (w55 cx) (hb hby at_84) (nle rfl) (nle rfl) ?_
  intro T51 h51 a51 X51 E51 g51 A51 D51
  have ge52 : h.size ≤ a51 := Nat.le_trans K50.1 g51
  have K53 : Keep h h51 [] := K50.ext E51
  have D54 : Fld Z h51 a51 "java/util/AbstractList" "modCount" "I" (.int 0) := D51 (Or.inl (w73 cx)) (ty := .int) (by decide)
  have D55 : Fld Z h51 a51 "java/util/ArrayList" "elementData" "[Ljava/lang/Object;" .null := D51 (Or.inl (w76 cx)) (ty := (.array (.object "java/lang/Object"))) (by decide)
  have D56 : Fld Z h51 a51 "java/util/ArrayList" "size" "I" (.int 0) := D51 (Or.inl (w114 cx)) (ty := .int) (by decide)
  refine P.dup X51 hx 88 (hb hby at_87) rfl rfl ?_
  refine X51.callC hx rfl (w56 cx) (w57 cx) (w58 cx) (by decide) (Ct.pay (W := 1) (ct_alini cx a51 h51 _ _ A51 D54 D55 D56 (mg 0 rfl)) (w58 cx) (w55 cx) (nle rfl) (nle rfl)) (by rw [hml]; rfl) (argsL := []) (rest := [.ref a51]) (lenOf pd3 rfl) rfl rfl (Nat.le_of_eq rfl) (hb hby at_88) (nle rfl) (nle rfl) ?_
  rintro T57 h57 _ _ _ X57 ⟨rfl, rfl, rfl, J57, G58, G59, G60⟩
  have K61 : Keep h h57 [] := K53.trans J57 (allS (Or.inr ge52) all0)
  refine P.astore X57 hx 93 #[.val (.int p0), .val (.int p1), .val (.int p2), .val (.int p3), .val (.int 2), .val (.int 1), .val (.ref a2), .val (.ref a9), .val (.ref a15), .val (.ref a27), .val (.ref a39), .val (.ref a51), .unset, .unset, .unset, .unset, .unset] (hb hby at_91) rfl rfl rfl ?_
  refine P.aconstNull X57 hx 94 (hb hby at_93) rfl ?_
  refine P.astore X57 hx 96 #[.val (.int p0), .val (.int p1), .val (.int p2), .val (.int p3), .val (.int 2), .val (.int 1), .val (.ref a2), .val (.ref a9), .val (.ref a15), .val (.ref a27), .val (.ref a39), .val (.ref a51), .val .null, .unset, .unset, .unset, .unset] (hb hby at_94) rfl rfl rfl ?_
  refine P.iload X57 hx 98 (hb hby at_96) rfl rfl ?_
  refine P.iconst X57 hx 99 1 (hb hby at_98) rfl rfl ?_
  refine P.icmpNo X57 hx 102 (hb hby at_99) (by decide) rfl ?_
  refine P.aload X57 hx 104 (hb hby at_102) rfl rfl rfl ?_
  refine P.aload X57 hx 106 (hb hby at_104) rfl rfl rfl ?_
  have F62 := A51.keep J57
  have F63 := ((((((((F22.keep J25).ext E27).ext E32).keep J37).ext E39).ext E44).keep J49).ext E51).keep J57
  refine X57.callI hx (w158 cx) (w159 cx) (w160 cx) (w161 cx) (w162 cx) (w163 cx) (w164 cx) (w165 cx) (by decide) F62 (Ct.pay (W := 0) (ct_add0 cx a51 a15 h57 _ _ F62 G58 G59 G60 (mg 0 rfl) F63) (w166 cx) (w55 cx) (nle rfl) (nle rfl)) (by rw [hml]; rfl) (argsL := [.ref a15]) (rest := []) (lenOf pd28 rfl) rfl rfl (Nat.le_of_eq rfl) (hb hby at_106) (nle rfl) (nle rfl) ?_
  rintro T64 h64 _ _ _ X64 ⟨a65, k66, rfl, rfl, rfl, J64, g72, G67, G68, G69, G70, G71⟩
  have ge73 : h.size ≤ a65 := Nat.le_trans K61.1 g72
  have K74 : Keep h h64 [] := K61.trans J64 (allS (Or.inr ge52) all0)
  refine P.pop X64 hx 112 (hb hby at_111) rfl rfl ?_
  refine P.aload X64 hx 114 (hb hby at_112) rfl rfl rfl ?_
  refine P.astore X64 hx 116 #[.val (.int p0), .val (.int p1), .val (.int p2), .val (.int p3), .val (.int 2), .val (.int 1), .val (.ref a2), .val (.ref a9), .val (.ref a15), .val (.ref a27), .val (.ref a39), .val (.ref a51), .val (.ref a15), .unset, .unset, .unset, .unset] (hb hby at_114) rfl rfl rfl ?_
  refine P.iload X64 hx 118 (hb hby at_116) rfl rfl ?_
  refine P.iconst X64 hx 119 2 (hb hby at_118) rfl rfl ?_
  refine P.icmpNo X64 hx 122 (hb hby at_119) (by decide) rfl ?_
  refine P.aload X64 hx 124 (hb hby at_122) rfl rfl rfl ?_
  refine P.aload X64 hx 126 (hb hby at_124) rfl rfl rfl ?_
  have F75 := F62.keep J64
  have F76 := ((((((F34.keep J37).ext E39).ext E44).keep J49).ext E51).keep J57).keep J64
  refine X64.callI hx (w158 cx) (w159 cx) (w160 cx) (w161 cx) (w162 cx) (w163 cx) (w164 cx) (w165 cx) (by decide) F75 (Ct.pay (W := 0) (ct_add1 cx a51 a65 k66 a15 a27 h64 _ _ F75 G67 G68 G69 (mg 1 rfl) G70 G71 (mg 0 rfl) (X64.ne (i := 1) (j := 0) rfl rfl (by decide)) F76) (w166 cx) (w55 cx) (nle rfl) (nle rfl)) (by rw [hml]; rfl) (argsL := [.ref a27]) (rest := []) (lenOf pd28 rfl) rfl rfl (Nat.le_of_eq rfl) (hb hby at_126) (nle rfl) (nle rfl) ?_
  rintro T77 h77 _ _ _ X77 ⟨rfl, rfl, rfl, J77, G78, G79, G80, G81, G82⟩
  have K83 : Keep h h77 [] := K74.trans J77 (allS (Or.inr ge52) (allS (Or.inr ge73) all0))
  refine P.pop X77 hx 132 (hb hby at_131) rfl rfl ?_
  refine P.aload X77 hx 134 (hb hby at_132) rfl rfl rfl ?_
  refine P.astore X77 hx 136 #[.val (.int p0), .val (.int p1), .val (.int p2), .val (.int p3), .val (.int 2), .val (.int 1), .val (.ref a2), .val (.ref a9), .val (.ref a15), .val (.ref a27), .val (.ref a39), .val (.ref a51), .val (.ref a27), .unset, .unset, .unset, .unset] (hb hby at_134) rfl rfl rfl ?_
  refine P.iload X77 hx 138 (hb hby at_136) rfl rfl ?_
  refine P.iconst X77 hx 139 3 (hb hby at_138) rfl rfl ?_
  refine P.icmpYes X77 hx 156 (hb hby at_139) (by decide) (by decide) (by decide) ?_
  refine P.iconst X77 hx 157 2 (hb hby at_156) rfl rfl ?_
  refine X77.newP (aty := .char) hx (w77 cx) (hb hby at_157) (by decide) (cap := 2) (nle rfl) (nle rfl) (nle rfl) (nle rfl) ?_
  intro T84 h84 a84 k84 X84 E84 g84 A84
  have ge85 : h.size ≤ a84 := Nat.le_trans K83.1 g84
  have K86 : Keep h h84 [] := K83.ext E84
  have V87 : Arv Z h84 a84 k84 .char (2 : Int32) [(.int 0), (.int 0)] (.int 0) := Arv.pad A84 (pad_rep [] _ 2)
  refine P.astore X84 hx 161 #[.val (.int p0), .val (.int p1), .val (.int p2), .val (.int p3), .val (.int 2), .val (.int 1), .val (.ref a2), .val (.ref a9), .val (.ref a15), .val (.ref a27), .val (.ref a39), .val (.ref a51), .val (.ref a27), .val (.ref a84), .unset, .unset, .unset] (hb hby at_159) rfl rfl rfl ?_
  refine P.aload X84 hx 163 (hb hby at_161) rfl rfl rfl ?_
  refine P.iconst X84 hx 164 0 (hb hby at_163) rfl rfl ?_
  refine P.iloadN X84 hx 165 (hb hby at_164) rfl rfl ?_
  refine P.sipush X84 hx 168 255 (hb hby at_165) rfl rfl ?_
  refine P.iand X84 hx 169 (z := (p2 &&& (255 : Int32))) (hb hby at_168) rfl rfl ?_
  refine P.i2c X84 hx 170 (z := (p2 &&& (255 : Int32))) (hb hby at_169) (by rw [i2c_mask]) rfl ?_
  refine X84.stC hx V87 (j := (0 : Int32)) (x := (p2 &&& (255 : Int32))) (i := 0) (by decide) rfl (nlt rfl) (mg 0 rfl) (hb hby at_170) ?_
  intro T88 h88 X88 W88 G88
  have K89 : Keep h h88 [] := K86.wr W88 (Or.inr ge85)
  have V90 : Arv Z h88 a84 k84 .char (2 : Int32) [(.int (p2 &&& (255 : Int32))), (.int 0)] (.int 0) := by have q := G88; rw [nar255] at q; exact q
  refine P.aload X88 hx 173 (hb hby at_171) rfl rfl rfl ?_
  refine P.iconst X88 hx 174 1 (hb hby at_173) rfl rfl ?_
  refine P.iloadN X88 hx 175 (hb hby at_174) rfl rfl ?_
  refine P.sipush X88 hx 178 255 (hb hby at_175) rfl rfl ?_
  refine P.iand X88 hx 179 (z := (p3 &&& (255 : Int32))) (hb hby at_178) rfl rfl ?_
  refine P.i2c X88 hx 180 (z := (p3 &&& (255 : Int32))) (hb hby at_179) (by rw [i2c_mask]) rfl ?_
  refine X88.stC hx V90 (j := (1 : Int32)) (x := (p3 &&& (255 : Int32))) (i := 1) (by decide) rfl (nlt rfl) (mg 0 rfl) (hb hby at_180) ?_
  intro T91 h91 X91 W91 G91
  have K92 : Keep h h91 [] := K89.wr W91 (Or.inr ge85)
  have V93 : Arv Z h91 a84 k84 .char (2 : Int32) [(.int (p2 &&& (255 : Int32))), (.int (p3 &&& (255 : Int32)))] (.int 0) := by have q := G91; rw [nar255] at q; exact q
  refine P.iload X91 hx 183 (hb hby at_181) rfl rfl ?_
  refine P.ifNo X91 hx 186 (hb hby at_183) (by decide) rfl ?_
  refine X91.newO hx (w191 cx) (w10 cx) (w2 cx) (hb hby at_186) (nle rfl) (nle rfl) ?_
  intro T94 h94 a94 X94 E94 g94 A94 D94
  have ge95 : h.size ≤ a94 := Nat.le_trans K92.1 g94
  have K96 : Keep h h94 [] := K92.ext E94
  have D97 : Fld Z h94 a94 "java/lang/String" "value" "[B" .null := D94 (Or.inr (w23 cx)) (ty := (.array .byte)) (by decide)
  have D98 : Fld Z h94 a94 "java/lang/String" "coder" "B" (.int 0) := D94 (Or.inr (w25 cx)) (ty := .byte) (by decide)
  refine P.dup X94 hx 190 (hb hby at_189) rfl rfl ?_
  refine P.aload X94 hx 192 (hb hby at_190) rfl rfl rfl ?_
  have F99 := V93.ext E94
  refine X94.callC hx rfl (w192 cx) (w193 cx) (w194 cx) (by decide) (pay_new (W := 1) (hws cx) (w10 cx) (cs := [(p2 &&& (255 : Int32)), (p3 &&& (255 : Int32))]) (n := 2) (X94.ge (mg 0 rfl)) X94.n0le (mg 0 rfl) A94 D97 D98 F99 (X94.sta (S_C cx)) (N_C cx) rfl rfl (nle rfl) (nle rfl) (fcS (rng255 p2) (fcS (rng255 p3) fc0)) (nle rfl) (nle rfl)) (by rw [hml]; rfl) (argsL := [.ref a84]) (rest := [.ref a94]) (lenOf pd29 rfl) rfl rfl (Nat.le_of_eq rfl) (hb hby at_192) (nle rfl) (nle rfl) ?_
  rintro T100 h100 _ _ _ X100 ⟨a101, rfl, rfl, rfl, J100, G102⟩
  have K103 : Keep h h100 [] := K96.trans J100 (allS (Or.inr ge95) all0)
  refine X100.callS hx (w208 cx) (w209 cx) (w80 cx) (w210 cx) (by decide) (Ct.pay (W := 0) (ct_opof cx a94 h100 _ _ ) (w210 cx) (w80 cx) (nle rfl) (nle rfl)) (by rw [hml]; rfl) (argsL := [.ref a94]) (rest := []) (lenOf pd23 rfl) rfl rfl (Nat.le_of_eq rfl) (hb hby at_195) (nle rfl) (nle rfl) ?_
  rintro T104 h104 _ _ _ X104 ⟨a105, rfl, rfl, rfl, J104, g108, G106, G107⟩
  have ge109 : h.size ≤ a105 := Nat.le_trans K103.1 g108
  have K110 : Keep h h104 [] := K103.trans J104 all0
  refine P.goto X104 hx 204 (hb hby at_198) (by decide) (by decide) ?_
  refine P.astore X104 hx 206 #[.val (.int p0), .val (.int p1), .val (.int p2), .val (.int p3), .val (.int 2), .val (.int 1), .val (.ref a2), .val (.ref a9), .val (.ref a15), .val (.ref a27), .val (.ref a39), .val (.ref a51), .val (.ref a27), .val (.ref a84), .val (.ref a105), .unset, .unset] (hb hby at_204) rfl rfl rfl ?_
  refine X104.newO hx (w83 cx) (w84 cx) (w85 cx) (hb hby at_206) (nle rfl) (nle rfl) ?_
  intro T111 h111 a111 X111 E111 g111 A111 D111
  have ge112 : h.size ≤ a111 := Nat.le_trans K110.1 g111
  have K113 : Keep h h111 [] := K110.ext E111
  have D114 : Fld Z h111 a111 "com/example/lexbind/lexbind/messages/Explanation" "steps" "Ljava/util/List;" .null := D111 (Or.inr (w129 cx)) (ty := (.object "java/util/List")) (by decide)
  have D115 : Fld Z h111 a111 "com/example/lexbind/lexbind/messages/Explanation" "text" "Ljava/util/Optional;" .null := D111 (Or.inr (w131 cx)) (ty := (.object "java/util/Optional")) (by decide)
  have D116 : Fld Z h111 a111 "com/example/lexbind/lexbind/messages/Explanation" "readAgain" "Ljava/util/List;" .null := D111 (Or.inr (w133 cx)) (ty := (.object "java/util/List")) (by decide)
  refine P.dup X111 hx 210 (hb hby at_209) rfl rfl ?_
  refine P.aload X111 hx 212 (hb hby at_210) rfl rfl rfl ?_
  refine P.aload X111 hx 214 (hb hby at_212) rfl rfl rfl ?_
  refine X111.newO hx (w53 cx) (w54 cx) (w55 cx) (hb hby at_214) (nle rfl) (nle rfl) ?_
  intro T117 h117 a117 X117 E117 g117 A117 D117
  have ge118 : h.size ≤ a117 := Nat.le_trans K113.1 g117
  have K119 : Keep h h117 [] := K113.ext E117
  have D120 : Fld Z h117 a117 "java/util/AbstractList" "modCount" "I" (.int 0) := D117 (Or.inl (w73 cx)) (ty := .int) (by decide)
  have D121 : Fld Z h117 a117 "java/util/ArrayList" "elementData" "[Ljava/lang/Object;" .null := D117 (Or.inl (w76 cx)) (ty := (.array (.object "java/lang/Object"))) (by decide)
  have D122 : Fld Z h117 a117 "java/util/ArrayList" "size" "I" (.int 0) := D117 (Or.inl (w114 cx)) (ty := .int) (by decide)
  refine P.dup X117 hx 218 (hb hby at_217) rfl rfl ?_
  refine X117.callC hx rfl (w56 cx) (w57 cx) (w58 cx) (by decide) (Ct.pay (W := 5) (ct_alini cx a117 h117 _ _ A117 D120 D121 D122 (mg 0 rfl)) (w58 cx) (w55 cx) (nle rfl) (nle rfl)) (by rw [hml]; rfl) (argsL := []) (rest := [.ref a117, .ref a105, .ref a51, .ref a111, .ref a111]) (lenOf pd3 rfl) rfl rfl (Nat.le_of_eq rfl) (hb hby at_218) (nle rfl) (nle rfl) ?_
  rintro T123 h123 _ _ _ X123 ⟨rfl, rfl, rfl, J123, G124, G125, G126⟩
  have K127 : Keep h h123 [] := K119.trans J123 (allS (Or.inr ge118) all0)
  have F128 := ((((((((G79.ext E84).other W88 (Or.inl (X123.ne (i := 6) (j := 4) rfl rfl (by decide)))).other W91 (Or.inl (X123.ne (i := 6) (j := 4) rfl rfl (by decide)))).ext E94).keep J100 (ninS (X123.ne (i := 6) (j := 3) rfl rfl (by decide)) nin0)).keep J104 nin0).ext E111).ext E117).keep J123 (ninS (X123.ne (i := 6) (j := 0) rfl rfl (by decide)) nin0)
  have F129 := ((((((((G81.ext E84).other W88 (X123.ne (i := 5) (j := 4) rfl rfl (by decide))).other W91 (X123.ne (i := 5) (j := 4) rfl rfl (by decide))).ext E94).keep J100 (ninS (X123.ne (i := 5) (j := 3) rfl rfl (by decide)) nin0)).keep J104 nin0).ext E111).ext E117).keep J123 (ninS (X123.ne (i := 5) (j := 0) rfl rfl (by decide)) nin0)
  have F130 := ((G107.ext E111).ext E117).keep J123 (ninS (X123.ne (i := 2) (j := 0) rfl rfl (by decide)) nin0)
  have F131 := (A111.ext E117).keep J123
  have F132 := (D114.ext E117).keep J123 (ninS (X123.ne (i := 1) (j := 0) rfl rfl (by decide)) nin0)
  have F133 := (D115.ext E117).keep J123 (ninS (X123.ne (i := 1) (j := 0) rfl rfl (by decide)) nin0)
  have F134 := (D116.ext E117).keep J123 (ninS (X123.ne (i := 1) (j := 0) rfl rfl (by decide)) nin0)
  have F135 := (((((((((F75.keep J77).ext E84).wr W88).wr W91).ext E94).keep J100).keep J104).ext E111).ext E117).keep J123
  have F136 := ((((((((G80.ext E84).other W88 (Or.inl (X123.ne (i := 6) (j := 4) rfl rfl (by decide)))).other W91 (Or.inl (X123.ne (i := 6) (j := 4) rfl rfl (by decide)))).ext E94).keep J100 (ninS (X123.ne (i := 6) (j := 3) rfl rfl (by decide)) nin0)).keep J104 nin0).ext E111).ext E117).keep J123 (ninS (X123.ne (i := 6) (j := 0) rfl rfl (by decide)) nin0)
  have F137 := ((((((((G82.ext E84).wr W88).wr W91).ext E94).keep J100).keep J104).ext E111).ext E117).keep J123
  have F138 := ((((((((((F63.keep J64).keep J77).ext E84).wr W88).wr W91).ext E94).keep J100).keep J104).ext E111).ext E117).keep J123
  have F139 := (((((((((F76.keep J77).ext E84).wr W88).wr W91).ext E94).keep J100).keep J104).ext E111).ext E117).keep J123
  have F140 := A117.keep J123
  have F141 := ((G106.ext E111).ext E117).keep J123
  refine X123.callC hx rfl (w86 cx) (w87 cx) (w88 cx) (by decide) (Ct.pay (W := 1) (ct_exini21 cx a111 a51 a65 k66 a15 a27 a117 a105 a94 h123 _ _ F131 F132 F133 F134 (mg 1 rfl) F135 F136 F128 F129 F137 F138 F139 F140 G126 F141 F130) (w88 cx) (w85 cx) (nle rfl) (nle rfl)) (by rw [hml]; rfl) (argsL := [.ref a51, .ref a105, .ref a117]) (rest := [.ref a111]) (lenOf pd27 rfl) rfl rfl (Nat.le_of_eq rfl) (hb hby at_221) (nle rfl) (nle rfl) ?_
  rintro T142 h142 _ _ _ X142 ⟨a143, rfl, rfl, rfl, J142, g149, G144, G145, G146, G147, G148⟩
  have ge150 : h.size ≤ a143 := Nat.le_trans K127.1 g149
  have K151 : Keep h h142 [] := K127.trans J142 (allS (Or.inr ge112) all0)
  refine P.astore X142 hx 226 #[.val (.int p0), .val (.int p1), .val (.int p2), .val (.int p3), .val (.int 2), .val (.int 1), .val (.ref a2), .val (.ref a9), .val (.ref a15), .val (.ref a27), .val (.ref a39), .val (.ref a51), .val (.ref a27), .val (.ref a84), .val (.ref a105), .val (.ref a111), .unset] (hb hby at_224) rfl rfl rfl ?_
  refine P.aload X142 hx 228 (hb hby at_226) rfl rfl rfl ?_
  have F152 := F131.keep J142
  have F153 := F130.keep J142 (ninS (X142.ne (i := 3) (j := 2) rfl rfl (by decide)) nin0)
  have F154 := F139.keep J142
  have F155 := F141.keep J142
  have F156 := ((((G102.1.keep J104).ext E111).ext E117).keep J123).keep J142
  refine X142.callV hx (w134 cx) (w135 cx) (w137 cx) (w136 cx) (fun _ hZ => nf hZ (w137 cx)) (by decide) F152 (Ct.pay (W := 0) (ct_ans2 cx a111 a143 a15 a27 a105 a94 h142 _ _ F152 G144 G146 G147 G148 (X142.neZ (mg 9 rfl) (E_EM cx)) F154 G145 F155 F153 F156) (w138 cx) (w85 cx) (nle rfl) (nle rfl)) (by rw [hml]; rfl) (argsL := []) (rest := []) (lenOf pd21 rfl) rfl rfl (Nat.le_of_eq rfl) (hb hby at_228) (nle rfl) (nle rfl) ?_
  rintro T157 h157 _ _ _ X157 ⟨a158, rfl, rfl, rfl, J157, g161, G159, G160⟩
  have ge162 : h.size ≤ a158 := Nat.le_trans K151.1 g161
  have K163 : Keep h h157 [] := K151.trans J157 all0
  refine P.astore X157 hx 233 #[.val (.int p0), .val (.int p1), .val (.int p2), .val (.int p3), .val (.int 2), .val (.int 1), .val (.ref a2), .val (.ref a9), .val (.ref a15), .val (.ref a27), .val (.ref a39), .val (.ref a51), .val (.ref a27), .val (.ref a84), .val (.ref a105), .val (.ref a111), .val (.ref a158)] (hb hby at_231) rfl rfl rfl ?_
  refine P.iload X157 hx 235 (hb hby at_233) rfl rfl ?_
  refine P.ifYes X157 hx 252 (hb hby at_235) (by decide) (by decide) (by decide) ?_
  refine P.aload X157 hx 254 (hb hby at_252) rfl rfl rfl ?_
  refine X157.callV hx (w157 cx) (w122 cx) (w124 cx) (w123 cx) (fun _ hZ => nf hZ (w124 cx)) (by decide) G159 (Ct.pay (W := 0) (ct_opisPresent1 cx a158 a27 h157 _ _ G160) (w125 cx) (w80 cx) (nle rfl) (nle rfl)) (by rw [hml]; rfl) (argsL := []) (rest := []) (lenOf pd16 rfl) rfl rfl (Nat.le_of_eq rfl) (hb hby at_254) (nle rfl) (nle rfl) ?_
  rintro T164 h164 _ _ _ X164 ⟨rfl, rfl, rfl, J164⟩
  rw [J164] at X164
  refine P.ifYes X164 hx 262 (hb hby at_257) (by decide) (by decide) (by decide) ?_
  refine P.aload X164 hx 264 (hb hby at_262) rfl rfl rfl ?_
  refine X164.callV hx (w316 cx) (w317 cx) (w319 cx) (w318 cx) (fun _ hZ => nf hZ (w319 cx)) (by decide) G159 (Ct.pay (W := 0) (ct_opget cx a158 a27 h157 _ _ G160) (w320 cx) (w80 cx) (nle rfl) (nle rfl)) (by rw [hml]; rfl) (argsL := []) (rest := []) (lenOf pd30 rfl) rfl rfl (Nat.le_of_eq rfl) (hb hby at_264) (nle rfl) (nle rfl) ?_
  rintro T165 h165 _ _ _ X165 ⟨rfl, rfl, rfl, J165⟩
  rw [J165] at X165
  refine P.aload X165 hx 269 (hb hby at_267) rfl rfl rfl ?_
  refine WS.acmp X165 hx (x := (.ref a27)) (y := (.ref a27)) rfl rfl (pc' := 272) (same := true) (hb hby at_269) (decide_eq_true rfl) (by decide) (by decide) ?_
  refine P.iconst X165 hx 273 1 (hb hby at_272) rfl rfl ?_
  refine P.goto X165 hx 277 (hb hby at_273) (by decide) (by decide) ?_
  have X166 := WS.drop (A := []) (B := (a143 :: a117 :: a111 :: a105 :: a94 :: a84 :: a65 :: a51 :: a39 :: a27 :: a15 :: a9 :: a2 :: WL)) X165
  have X167 := WS.drop (A := []) (B := (a117 :: a111 :: a105 :: a94 :: a84 :: a65 :: a51 :: a39 :: a27 :: a15 :: a9 :: a2 :: WL)) X166
  have X168 := WS.drop (A := []) (B := (a111 :: a105 :: a94 :: a84 :: a65 :: a51 :: a39 :: a27 :: a15 :: a9 :: a2 :: WL)) X167
  have X169 := WS.drop (A := []) (B := (a105 :: a94 :: a84 :: a65 :: a51 :: a39 :: a27 :: a15 :: a9 :: a2 :: WL)) X168
  have X170 := WS.drop (A := []) (B := (a94 :: a84 :: a65 :: a51 :: a39 :: a27 :: a15 :: a9 :: a2 :: WL)) X169
  have X171 := WS.drop (A := []) (B := (a84 :: a65 :: a51 :: a39 :: a27 :: a15 :: a9 :: a2 :: WL)) X170
  have X172 := WS.drop (A := []) (B := (a65 :: a51 :: a39 :: a27 :: a15 :: a9 :: a2 :: WL)) X171
  have X173 := WS.drop (A := []) (B := (a51 :: a39 :: a27 :: a15 :: a9 :: a2 :: WL)) X172
  have X174 := WS.drop (A := []) (B := (a39 :: a27 :: a15 :: a9 :: a2 :: WL)) X173
  have X175 := WS.drop (A := []) (B := (a27 :: a15 :: a9 :: a2 :: WL)) X174
  have X176 := WS.drop (A := []) (B := (a15 :: a9 :: a2 :: WL)) X175
  have X177 := WS.drop (A := []) (B := (a9 :: a2 :: WL)) X176
  have X178 := WS.drop (A := []) (B := (a2 :: WL)) X177
  have X179 := WS.drop (A := []) (B := WL) X178
  have X180 := WS.fl (FL2 := FL) X179 (fun y hy => (List.mem_append_right [a2, a9, a15, a27, a39, a51, a65, a84, a94, a105, a111, a117, a143, a158, a101, a10, a3] hy))
  exact WS.retN X180 (WL' := []) (FL' := []) hx (t := .boolean) hret (by simp) hlk (hb hby at_277) (nle rfl) (nle rfl) ⟨rfl, rfl, rfl, K163⟩
theorem ct_law_30 (cx : Cx a0 Z gC v_DE k_DE v_EL v_EM v_OE m_OA) (p0 : Int32) (p1 : Int32) (p2 : Int32) (p3 : Int32) (h : Heap) (WL FL : List Addr)  (e4 : (p0 &&& (3 : Int32)) = (3 : Int32)) (eb : (p1 &&& (1 : Int32)) = (0 : Int32)) :
    Ct l Z EL1 n0 x code maxLocals ret room_1 #[(.int p0), (.int p1), (.int p2), (.int p3)] h WL FL (Q_law Z gC v_DE k_DE v_EL v_EM v_OE m_OA p0 p1 p2 p3 h) := by
  refine Ct.of (plainFor_of_name pn17) ?_
  intro p e s m below meth c s1 hx hby hml hnm hret hlk X0
  refine Wo.cast (f' := (mkF m 0 #[.val (.int p0), .val (.int p1), .val (.int p2), .val (.int p3), .unset, .unset, .unset, .unset, .unset, .unset, .unset, .unset, .unset, .unset, .unset, .unset, .unset] [])) (by first | (simp [entryFrame, mkF, argsToLocals, Value.category, maxLocals]; done) | rfl) ?_
  have K0 : Keep h h [] := Keep.refl _ _
  show Wo _ _ _ _ _ _ _ _ _ _ _ s1 (mkF m 0 #[.val (.int p0), .val (.int p1), .val (.int p2), .val (.int p3), .unset, .unset, .unset, .unset, .unset, .unset, .unset, .unset, .unset, .unset, .unset, .unset, .unset] [])
  refine P.iloadN X0 hx 1 (hb hby at_0) rfl rfl ?_
  refine P.iconst X0 hx 2 3 (hb hby at_1) rfl rfl ?_
  refine P.iand X0 hx 3 (z := (3 : Int32)) (hb hby at_2) (e4) rfl ?_
  refine P.istore X0 hx 5 #[.val (.int p0), .val (.int p1), .val (.int p2), .val (.int p3), .val (.int 3), .unset, .unset, .unset, .unset, .unset, .unset, .unset, .unset, .unset, .unset, .unset, .unset] (hb hby at_3) rfl rfl ?_
  refine P.iloadN X0 hx 6 (hb hby at_5) rfl rfl ?_
  refine P.iconst X0 hx 7 1 (hb hby at_6) rfl rfl ?_
  refine P.iand X0 hx 8 (z := (p1 &&& (1 : Int32))) (hb hby at_7) rfl rfl ?_
  refine P.ifYes X0 hx 20 (hb hby at_8) ((if0 _ _).trans (teq eb).1) (by decide) (by decide) ?_
  refine P.iconst X0 hx 21 0 (hb hby at_20) rfl rfl ?_
  refine P.istore X0 hx 23 #[.val (.int p0), .val (.int p1), .val (.int p2), .val (.int p3), .val (.int 3), .val (.int 0), .unset, .unset, .unset, .unset, .unset, .unset, .unset, .unset, .unset, .unset, .unset] (hb hby at_21) rfl rfl ?_
  refine P.iloadN X0 hx 24 (hb hby at_23) rfl rfl ?_
  refine P.sipush X0 hx 27 255 (hb hby at_24) rfl rfl ?_
  refine P.iand X0 hx 28 (z := (p2 &&& (255 : Int32))) (hb hby at_27) rfl rfl ?_
  refine P.i2c X0 hx 29 (z := (p2 &&& (255 : Int32))) (hb hby at_28) (by rw [i2c_mask]) rfl ?_
  refine X0.callS hx (w0 cx) (w1 cx) (w2 cx) (w3 cx) (by decide) (Ct.pay (W := 0) (ct_valC cx (p2 &&& (255 : Int32)) h _ _ (rng255 _)) (w3 cx) (w2 cx) (nle rfl) (nle rfl)) (by rw [hml]; rfl) (argsL := [.int (p2 &&& (255 : Int32))]) (rest := []) (lenOf pd25 rfl) rfl rfl (Nat.le_of_eq rfl) (hb hby at_29) (nle rfl) (nle rfl) ?_
  rintro T1 h1 _ _ _ X1 ⟨a2, a3, rfl, rfl, rfl, J1, g5, G4⟩
  have ge6 : h.size ≤ a2 := Nat.le_trans K0.1 g5
  have K7 : Keep h h1 [] := K0.trans J1 all0
  refine P.astore X1 hx 34 #[.val (.int p0), .val (.int p1), .val (.int p2), .val (.int p3), .val (.int 3), .val (.int 0), .val (.ref a2), .unset, .unset, .unset, .unset, .unset, .unset, .unset, .unset, .unset, .unset] (hb hby at_32) rfl rfl rfl ?_
  refine P.iloadN X1 hx 35 (hb hby at_34) rfl rfl ?_
  refine P.sipush X1 hx 38 255 (hb hby at_35) rfl rfl ?_
  refine P.iand X1 hx 39 (z := (p3 &&& (255 : Int32))) (hb hby at_38) rfl rfl ?_
  refine P.i2c X1 hx 40 (z := (p3 &&& (255 : Int32))) (hb hby at_39) (by rw [i2c_mask]) rfl ?_
  refine X1.callS hx (w0 cx) (w1 cx) (w2 cx) (w3 cx) (by decide) (Ct.pay (W := 0) (ct_valC cx (p3 &&& (255 : Int32)) h1 _ _ (rng255 _)) (w3 cx) (w2 cx) (nle rfl) (nle rfl)) (by rw [hml]; rfl) (argsL := [.int (p3 &&& (255 : Int32))]) (rest := []) (lenOf pd25 rfl) rfl rfl (Nat.le_of_eq rfl) (hb hby at_40) (nle rfl) (nle rfl) ?_
  rintro T8 h8 _ _ _ X8 ⟨a9, a10, rfl, rfl, rfl, J8, g12, G11⟩
  have ge13 : h.size ≤ a9 := Nat.le_trans K7.1 g12
  have K14 : Keep h h8 [] := K7.trans J8 all0
  refine P.astore X8 hx 45 #[.val (.int p0), .val (.int p1), .val (.int p2), .val (.int p3), .val (.int 3), .val (.int 0), .val (.ref a2), .val (.ref a9), .unset, .unset, .unset, .unset, .unset, .unset, .unset, .unset, .unset] (hb hby at_43) rfl rfl rfl ?_
  refine X8.newO hx (w26 cx) (w27 cx) (w28 cx) (hb hby at_45) (nle rfl) (nle rfl) ?_
  intro T15 h15 a15 X15 E15 g15 A15 D15
  have ge16 : h.size ≤ a15 := Nat.le_trans K14.1 g15
  have K17 : Keep h h15 [] := K14.ext E15
  have D18 : Fld Z h15 a15 "com/example/lexbind/lexbind/messages/Explanation$Step" "source" "Ljava/lang/String;" .null := D15 (Or.inr (w48 cx)) (ty := (.object "java/lang/String")) (by decide)
  have D19 : Fld Z h15 a15 "com/example/lexbind/lexbind/messages/Explanation$Step" "key" "Ljava/lang/String;" .null := D15 (Or.inr (w50 cx)) (ty := (.object "java/lang/String")) (by decide)
  refine P.dup X15 hx 49 (hb hby at_48) rfl rfl ?_
  refine P.aload X15 hx 51 (hb hby at_49) rfl rfl rfl ?_
  refine X15.ldcO hx (w29 cx) (strAtoms cx) (hb hby at_51) (n := 8) (nle rfl) (nle rfl) (nle rfl) (nle rfl) ?_
  intro T20 h20 a20 X20 E20
  have K21 : Keep h h20 [] := K17.ext E20
  have F22 := A15.ext E20
  have F23 := D18.ext E20
  have F24 := D19.ext E20
  refine X20.callC hx rfl (w32 cx) (w33 cx) (w34 cx) (by decide) (Ct.pay (W := 1) (ct_stpini cx a15 a2 a20 h20 _ _ F22 F23 F24 (mg 0 rfl)) (w34 cx) (w28 cx) (nle rfl) (nle rfl)) (by rw [hml]; rfl) (argsL := [.ref a2, .ref a20]) (rest := [.ref a15]) (lenOf pd26 rfl) rfl rfl (Nat.le_of_eq rfl) (hb hby at_53) (nle rfl) (nle rfl) ?_
  rintro T25 h25 _ _ _ X25 ⟨rfl, rfl, rfl, J25⟩
  have K26 : Keep h h25 [] := K21.trans J25 (allS (Or.inr ge16) all0)
  refine P.astore X25 hx 58 #[.val (.int p0), .val (.int p1), .val (.int p2), .val (.int p3), .val (.int 3), .val (.int 0), .val (.ref a2), .val (.ref a9), .val (.ref a15), .unset, .unset, .unset, .unset, .unset, .unset, .unset, .unset] (hb hby at_56) rfl rfl rfl ?_
  refine X25.newO hx (w26 cx) (w27 cx) (w28 cx) (hb hby at_58) (nle rfl) (nle rfl) ?_
  intro T27 h27 a27 X27 E27 g27 A27 D27
  have ge28 : h.size ≤ a27 := Nat.le_trans K26.1 g27
  have K29 : Keep h h27 [] := K26.ext E27
  have D30 : Fld Z h27 a27 "com/example/lexbind/lexbind/messages/Explanation$Step" "source" "Ljava/lang/String;" .null := D27 (Or.inr (w48 cx)) (ty := (.object "java/lang/String")) (by decide)
  have D31 : Fld Z h27 a27 "com/example/lexbind/lexbind/messages/Explanation$Step" "key" "Ljava/lang/String;" .null := D27 (Or.inr (w50 cx)) (ty := (.object "java/lang/String")) (by decide)
  refine P.dup X27 hx 62 (hb hby at_61) rfl rfl ?_
  refine P.aload X27 hx 64 (hb hby at_62) rfl rfl rfl ?_
  refine X27.ldcO hx (w51 cx) (strAtoms cx) (hb hby at_64) (n := 8) (nle rfl) (nle rfl) (nle rfl) (nle rfl) ?_
  intro T32 h32 a32 X32 E32
  have K33 : Keep h h32 [] := K29.ext E32
  have F34 := A27.ext E32
  have F35 := D30.ext E32
  have F36 := D31.ext E32
  refine X32.callC hx rfl (w32 cx) (w33 cx) (w34 cx) (by decide) (Ct.pay (W := 1) (ct_stpini cx a27 a9 a32 h32 _ _ F34 F35 F36 (mg 0 rfl)) (w34 cx) (w28 cx) (nle rfl) (nle rfl)) (by rw [hml]; rfl) (argsL := [.ref a9, .ref a32]) (rest := [.ref a27]) (lenOf pd26 rfl) rfl rfl (Nat.le_of_eq rfl) (hb hby at_66) (nle rfl) (nle rfl) ?_
  rintro T37 h37 _ _ _ X37 ⟨rfl, rfl, rfl, J37⟩
  have K38 : Keep h h37 [] := K33.trans J37 (allS (Or.inr ge28) all0)
  refine P.astore X37 hx 71 #[.val (.int p0), .val (.int p1), .val (.int p2), .val (.int p3), .val (.int 3), .val (.int 0), .val (.ref a2), .val (.ref a9), .val (.ref a15), .val (.ref a27), .unset, .unset, .unset, .unset, .unset, .unset, .unset] (hb hby at_69) rfl rfl rfl ?_
  refine X37.newO hx (w26 cx) (w27 cx) (w28 cx) (hb hby at_71) (nle rfl) (nle rfl) ?_
  intro T39 h39 a39 X39 E39 g39 A39 D39
  have ge40 : h.size ≤ a39 := Nat.le_trans K38.1 g39
  have K41 : Keep h h39 [] := K38.ext E39
  have D42 : Fld Z h39 a39 "com/example/lexbind/lexbind/messages/Explanation$Step" "source" "Ljava/lang/String;" .null := D39 (Or.inr (w48 cx)) (ty := (.object "java/lang/String")) (by decide)
  have D43 : Fld Z h39 a39 "com/example/lexbind/lexbind/messages/Explanation$Step" "key" "Ljava/lang/String;" .null := D39 (Or.inr (w50 cx)) (ty := (.object "java/lang/String")) (by decide)
  refine P.dup X39 hx 75 (hb hby at_74) rfl rfl ?_
  refine P.aload X39 hx 77 (hb hby at_75) rfl rfl rfl ?_
  refine X39.ldcO hx (w52 cx) (strAtoms cx) (hb hby at_77) (n := 8) (nle rfl) (nle rfl) (nle rfl) (nle rfl) ?_
  intro T44 h44 a44 X44 E44
  have K45 : Keep h h44 [] := K41.ext E44
  have F46 := A39.ext E44
  have F47 := D42.ext E44
  have F48 := D43.ext E44
  refine X44.callC hx rfl (w32 cx) (w33 cx) (w34 cx) (by decide) (Ct.pay (W := 1) (ct_stpini cx a39 a2 a44 h44 _ _ F46 F47 F48 (mg 0 rfl)) (w34 cx) (w28 cx) (nle rfl) (nle rfl)) (by rw [hml]; rfl) (argsL := [.ref a2, .ref a44]) (rest := [.ref a39]) (lenOf pd26 rfl) rfl rfl (Nat.le_of_eq rfl) (hb hby at_79) (nle rfl) (nle rfl) ?_
  rintro T49 h49 _ _ _ X49 ⟨rfl, rfl, rfl, J49⟩
  have K50 : Keep h h49 [] := K45.trans J49 (allS (Or.inr ge40) all0)
  refine P.astore X49 hx 84 #[.val (.int p0), .val (.int p1), .val (.int p2), .val (.int p3), .val (.int 3), .val (.int 0), .val (.ref a2), .val (.ref a9), .val (.ref a15), .val (.ref a27), .val (.ref a39), .unset, .unset, .unset, .unset, .unset, .unset] (hb hby at_82) rfl rfl rfl ?_
  refine X49.newO hx (w53 cx) (w54 cx) (w55 cx) (hb hby at_84) (nle rfl) (nle rfl) ?_
  intro T51 h51 a51 X51 E51 g51 A51 D51
  have ge52 : h.size ≤ a51 := Nat.le_trans K50.1 g51
  have K53 : Keep h h51 [] := K50.ext E51
  have D54 : Fld Z h51 a51 "java/util/AbstractList" "modCount" "I" (.int 0) := D51 (Or.inl (w73 cx)) (ty := .int) (by decide)
  have D55 : Fld Z h51 a51 "java/util/ArrayList" "elementData" "[Ljava/lang/Object;" .null := D51 (Or.inl (w76 cx)) (ty := (.array (.object "java/lang/Object"))) (by decide)
  have D56 : Fld Z h51 a51 "java/util/ArrayList" "size" "I" (.int 0) := D51 (Or.inl (w114 cx)) (ty := .int) (by decide)
  refine P.dup X51 hx 88 (hb hby at_87) rfl rfl ?_
  refine X51.callC hx rfl (w56 cx) (w57 cx) (w58 cx) (by decide) (Ct.pay (W := 1) (ct_alini cx a51 h51 _ _ A51 D54 D55 D56 (mg 0 rfl)) (w58 cx) (w55 cx) (nle rfl) (nle rfl)) (by rw [hml]; rfl) (argsL := []) (rest := [.ref a51]) (lenOf pd3 rfl) rfl rfl (Nat.le_of_eq rfl) (hb hby at_88) (nle rfl) (nle rfl) ?_
  rintro T57 h57 _ _ _ X57 ⟨rfl, rfl, rfl, J57, G58, G59, G60⟩
  have K61 : Keep h h57 [] := K53.trans J57 (allS (Or.inr ge52) all0)
  refine P.astore X57 hx 93 #[.val (.int p0), .val (.int p1), .val (.int p2), .val (.int p3), .val (.int 3), .val (.int 0), .val (.ref a2), .val (.ref a9), .val (.ref a15), .val (.ref a27), .val (.ref a39), .val (.ref a51), .unset, .unset, .unset, .unset, .unset] (hb hby at_91) rfl rfl rfl ?_
  refine P.aconstNull X57 hx 94 (hb hby at_93) rfl ?_
  refine P.astore X57 hx 96 #[.val (.int p0), .val (.int p1), .val (.int p2), .val (.int p3), .val (.int 3), .val (.int 0), .val (.ref a2), .val (.ref a9), .val (.ref a15), .val (.ref a27), .val (.ref a39), .val (.ref a51), .val .null, .unset, .unset, .unset, .unset] (hb hby at_94) rfl rfl rfl ?_
  refine P.iload X57 hx 98 (hb hby at_96) rfl rfl ?_
  refine P.iconst X57 hx 99 1 (hb hby at_98) rfl rfl ?_
  refine P.icmpNo X57 hx 102 (hb hby at_99) (by decide) rfl ?_
  refine P.aload X57 hx 104 (hb hby at_102) rfl rfl rfl ?_
  refine P.aload X57 hx 106 (hb hby at_104) rfl rfl rfl ?_
  have F62 := A51.keep J57
  have F63 := ((((((((F22.keep J25).ext E27).ext E32).keep J37).ext E39).ext E44).keep J49).ext E51).keep J57
  refine X57.callI hx (w158 cx) (w159 cx) (w160 cx) (w161 cx) (w162 cx) (w163 cx) (w164 cx) (w165 cx) (by decide) F62 (Ct.pay (W := 0) (ct_add0 cx a51 a15 h57 _ _ F62 G58 G59 G60 (mg 0 rfl) F63) (w166 cx) (w55 cx) (nle rfl) (nle rfl)) (by rw [hml]; rfl) (argsL := [.ref a15]) (rest := []) (lenOf pd28 rfl) rfl rfl (Nat.le_of_eq rfl) (hb hby at_106) (nle rfl) (nle rfl) ?_
  rintro T64 h64 _ _ _ X64 ⟨a65, k66, rfl, rfl, rfl, J64, g72, G67, G68, G69, G70, G71⟩
  have ge73 : h.size ≤ a65 := Nat.le_trans K61.1 g72
  have K74 : Keep h h64 [] := K61.trans J64 (allS (Or.inr ge52) all0)
  refine P.pop X64 hx 112 (hb hby at_111) rfl rfl ?_
  refine P.aload X64 hx 114 (hb hby at_112) rfl rfl rfl ?_
  refine P.astore X64 hx 116 #[.val (.int p0), .val (.int p1), .val (.int p2), .val (.int p3), .val (.int 3), .val (.int 0), .val (.ref a2), .val (.ref a9), .val (.ref a15), .val (.ref a27), .val (.ref a39), .val (.ref a51), .val (.ref a15), .unset, .unset, .unset, .unset] (hb hby at_114) rfl rfl rfl ?_
  refine P.iload X64 hx 118 (hb hby at_116) rfl rfl ?_
  refine P.iconst X64 hx 119 2 (hb hby at_118) rfl rfl ?_
  refine P.icmpNo X64 hx 122 (hb hby at_119) (by decide) rfl ?_
  refine P.aload X64 hx 124 (hb hby at_122) rfl rfl rfl ?_
  refine P.aload X64 hx 126 (hb hby at_124) rfl rfl rfl ?_
  have F75 := F62.keep J64
  have F76 := ((((((F34.keep J37).ext E39).ext E44).keep J49).ext E51).keep J57).keep J64
  refine X64.callI hx (w158 cx) (w159 cx) (w160 cx) (w161 cx) (w162 cx) (w163 cx) (w164 cx) (w165 cx) (by decide) F75 (Ct.pay (W := 0) (ct_add1 cx a51 a65 k66 a15 a27 h64 _ _ F75 G67 G68 G69 (mg 1 rfl) G70 G71 (mg 0 rfl) (X64.ne (i := 1) (j := 0) rfl rfl (by decide)) F76) (w166 cx) (w55 cx) (nle rfl) (nle rfl)) (by rw [hml]; rfl) (argsL := [.ref a27]) (rest := []) (lenOf pd28 rfl) rfl rfl (Nat.le_of_eq rfl) (hb hby at_126) (nle rfl) (nle rfl) ?_
  rintro T77 h77 _ _ _ X77 ⟨rfl, rfl, rfl, J77, G78, G79, G80, G81, G82⟩
  have K83 : Keep h h77 [] := K74.trans J77 (allS (Or.inr ge52) (allS (Or.inr ge73) all0))
  refine P.pop X77 hx 132 (hb hby at_131) rfl rfl ?_
  refine P.aload X77 hx 134 (hb hby at_132) rfl rfl rfl ?_
  refine P.astore X77 hx 136 #[.val (.int p0), .val (.int p1), .val (.int p2), .val (.int p3), .val (.int 3), .val (.int 0), .val (.ref a2), .val (.ref a9), .val (.ref a15), .val (.ref a27), .val (.ref a39), .val (.ref a51), .val (.ref a27), .unset, .unset, .unset, .unset] (hb hby at_134) rfl rfl rfl ?_
  refine P.iload X77 hx 138 (hb hby at_136) rfl rfl ?_
  refine P.iconst X77 hx 139 3 (hb hby at_138) rfl rfl ?_
  refine P.icmpNo X77 hx 142 (hb hby at_139) (by decide) rfl ?_
  refine P.aload X77 hx 144 (hb hby at_142) rfl rfl rfl ?_
  refine P.aload X77 hx 146 (hb hby at_144) rfl rfl rfl ?_
  have F84 := F75.keep J77
  have F85 := ((((F46.keep J49).ext E51).keep J57).keep J64).keep J77
  refine X77.callI hx (w158 cx) (w159 cx) (w160 cx) (w161 cx) (w162 cx) (w163 cx) (w164 cx) (w165 cx) (by decide) F84 (Ct.pay (W := 0) (ct_add2 cx a51 a65 k66 a15 a27 a39 h77 _ _ F84 G78 G79 G80 (mg 1 rfl) G81 G82 (mg 0 rfl) (X77.ne (i := 1) (j := 0) rfl rfl (by decide)) F85) (w166 cx) (w55 cx) (nle rfl) (nle rfl)) (by rw [hml]; rfl) (argsL := [.ref a39]) (rest := []) (lenOf pd28 rfl) rfl rfl (Nat.le_of_eq rfl) (hb hby at_146) (nle rfl) (nle rfl) ?_
  rintro T86 h86 _ _ _ X86 ⟨rfl, rfl, rfl, J86, G87, G88, G89, G90, G91⟩
  have K92 : Keep h h86 [] := K83.trans J86 (allS (Or.inr ge52) (allS (Or.inr ge73) all0))
  refine P.pop X86 hx 152 (hb hby at_151) rfl rfl ?_
  refine P.aload X86 hx 154 (hb hby at_152) rfl rfl rfl ?_
  refine P.astore X86 hx 156 #[.val (.int p0), .val (.int p1), .val (.int p2), .val (.int p3), .val (.int 3), .val (.int 0), .val (.ref a2), .val (.ref a9), .val (.ref a15), .val (.ref a27), .val (.ref a39), .val (.ref a51), .val (.ref a39), .unset, .unset, .unset, .unset] (hb hby at_154) rfl rfl rfl ?_
  refine P.iconst X86 hx 157 2 (hb hby at_156) rfl rfl ?_
  refine X86.newP (aty := .char) hx (w77 cx) (hb hby at_157) (by decide) (cap := 2) (nle rfl) (nle rfl) (nle rfl) (nle rfl) ?_
  intro T93 h93 a93 k93 X93 E93 g93 A93
  have ge94 : h.size ≤ a93 := Nat.le_trans K92.1 g93
  have K95 : Keep h h93 [] := K92.ext E93
  have V96 : Arv Z h93 a93 k93 .char (2 : Int32) [(.int 0), (.int 0)] (.int 0) := Arv.pad A93 (pad_rep [] _ 2)
  refine P.astore X93 hx 161 #[.val (.int p0), .val (.int p1), .val (.int p2), .val (.int p3), .val (.int 3), .val (.int 0), .val (.ref a2), .val (.ref a9), .val (.ref a15), .val (.ref a27), .val (.ref a39), .val (.ref a51), .val (.ref a39), .val (.ref a93), .unset, .unset, .unset] (hb hby at_159) rfl rfl rfl ?_
  refine P.aload X93 hx 163 (hb hby at_161) rfl rfl rfl ?_
  refine P.iconst X93 hx 164 0 (hb hby at_163) rfl rfl ?_
  refine P.iloadN X93 hx 165 (hb hby at_164) rfl rfl ?_
  refine P.sipush X93 hx 168 255 (hb hby at_165) rfl rfl ?_
  refine P.iand X93 hx 169 (z := (p2 &&& (255 : Int32))) (hb hby at_168) rfl rfl ?_
  refine P.i2c X93 hx 170 (z := (p2 &&& (255 : Int32))) (hb hby at_169) (by rw [i2c_mask]) rfl ?_
  refine X93.stC hx V96 (j := (0 : Int32)) (x := (p2 &&& (255 : Int32))) (i := 0) (by decide) rfl (nlt rfl) (mg 0 rfl) (hb hby at_170) ?_
  intro T97 h97 X97 W97 G97
  have K98 : Keep h h97 [] := K95.wr W97 (Or.inr ge94)
  have V99 : Arv Z h97 a93 k93 .char (2 : Int32) [(.int (p2 &&& (255 : Int32))), (.int 0)] (.int 0) := by have q := G97; rw [nar255] at q; exact q
  refine P.aload X97 hx 173 (hb hby at_171) rfl rfl rfl ?_
  refine P.iconst X97 hx 174 1 (hb hby at_173) rfl rfl ?_
  refine P.iloadN X97 hx 175 (hb hby at_174) rfl rfl ?_
  refine P.sipush X97 hx 178 255 (hb hby at_175) rfl rfl ?_
  refine P.iand X97 hx 179 (z := (p3 &&& (255 : Int32))) (hb hby at_178) rfl rfl ?_
  refine P.i2c X97 hx 180 (z := (p3 &&& (255 : Int32))) (hb hby at_179) (by rw [i2c_mask]) rfl ?_
  refine X97.stC hx V99 (j := (1 : Int32)) (x := (p3 &&& (255 : Int32))) (i := 1) (by decide) rfl (nlt rfl) (mg 0 rfl) (hb hby at_180) ?_
  intro T100 h100 X100 W100 G100
  have K101 : Keep h h100 [] := K98.wr W100 (Or.inr ge94)
  have V102 : Arv Z h100 a93 k93 .char (2 : Int32) [(.int (p2 &&& (255 : Int32))), (.int (p3 &&& (255 : Int32)))] (.int 0) := by have q := G100; rw [nar255] at q; exact q
  refine P.iload X100 hx 183 (hb hby at_181) rfl rfl ?_
  refine P.ifYes X100 hx 201 (hb hby at_183) (by decide) (by decide) (by decide) ?_
  refine X100.callS hx (w78 cx) (w79 cx) (w80 cx) (w81 cx) (by decide) (Ct.pay (W := 0) (ct_opemp cx  h100 _ _ ) (w81 cx) (w80 cx) (nle rfl) (nle rfl)) (by rw [hml]; rfl) (argsL := []) (rest := []) (lenOf pd21 rfl) rfl rfl (Nat.le_of_eq rfl) (hb hby at_201) (nle rfl) (nle rfl) ?_
  rintro T103 h103 _ _ _ X103 ⟨rfl, rfl, rfl, J103⟩
  rw [J103] at X103
  refine P.astore X103 hx 206 #[.val (.int p0), .val (.int p1), .val (.int p2), .val (.int p3), .val (.int 3), .val (.int 0), .val (.ref a2), .val (.ref a9), .val (.ref a15), .val (.ref a27), .val (.ref a39), .val (.ref a51), .val (.ref a39), .val (.ref a93), .val (.ref v_OE), .unset, .unset] (hb hby at_204) rfl rfl rfl ?_
  refine X103.newO hx (w83 cx) (w84 cx) (w85 cx) (hb hby at_206) (nle rfl) (nle rfl) ?_
  intro T104 h104 a104 X104 E104 g104 A104 D104
  have ge105 : h.size ≤ a104 := Nat.le_trans K101.1 g104
  have K106 : Keep h h104 [] := K101.ext E104
  have D107 : Fld Z h104 a104 "com/example/lexbind/lexbind/messages/Explanation" "steps" "Ljava/util/List;" .null := D104 (Or.inr (w129 cx)) (ty := (.object "java/util/List")) (by decide)
  have D108 : Fld Z h104 a104 "com/example/lexbind/lexbind/messages/Explanation" "text" "Ljava/util/Optional;" .null := D104 (Or.inr (w131 cx)) (ty := (.object "java/util/Optional")) (by decide)
  have D109 : Fld Z h104 a104 "com/example/lexbind/lexbind/messages/Explanation" "readAgain" "Ljava/util/List;" .null := D104 (Or.inr (w133 cx)) (ty := (.object "java/util/List")) (by decide)
  refine P.dup X104 hx 210 (hb hby at_209) rfl rfl ?_
  refine P.aload X104 hx 212 (hb hby at_210) rfl rfl rfl ?_
  refine P.aload X104 hx 214 (hb hby at_212) rfl rfl rfl ?_
  refine X104.newO hx (w53 cx) (w54 cx) (w55 cx) (hb hby at_214) (nle rfl) (nle rfl) ?_
  intro T110 h110 a110 X110 E110 g110 A110 D110
  have ge111 : h.size ≤ a110 := Nat.le_trans K106.1 g110
  have K112 : Keep h h110 [] := K106.ext E110
  have D113 : Fld Z h110 a110 "java/util/AbstractList" "modCount" "I" (.int 0) := D110 (Or.inl (w73 cx)) (ty := .int) (by decide)
  have D114 : Fld Z h110 a110 "java/util/ArrayList" "elementData" "[Ljava/lang/Object;" .null := D110 (Or.inl (w76 cx)) (ty := (.array (.object "java/lang/Object"))) (by decide)
  have D115 : Fld Z h110 a110 "java/util/ArrayList" "size" "I" (.int 0) := D110 (Or.inl (w114 cx)) (ty := .int) (by decide)
  refine P.dup X110 hx 218 (hb hby at_217) rfl rfl ?_
  refine X110.callC hx rfl (w56 cx) (w57 cx) (w58 cx) (by decide) (Ct.pay (W := 5) (ct_alini cx a110 h110 _ _ A110 D113 D114 D115 (mg 0 rfl)) (w58 cx) (w55 cx) (nle rfl) (nle rfl)) (by rw [hml]; rfl) (argsL := []) (rest := [.ref a110, .ref v_OE, .ref a51, .ref a104, .ref a104]) (lenOf pd3 rfl) rfl rfl (Nat.le_of_eq rfl) (hb hby at_218) (nle rfl) (nle rfl) ?_
  rintro T116 h116 _ _ _ X116 ⟨rfl, rfl, rfl, J116, G117, G118, G119⟩
  have K120 : Keep h h116 [] := K112.trans J116 (allS (Or.inr ge111) all0)
  have F121 := (((((G88.ext E93).other W97 (Or.inl (X116.ne (i := 4) (j := 2) rfl rfl (by decide)))).other W100 (Or.inl (X116.ne (i := 4) (j := 2) rfl rfl (by decide)))).ext E104).ext E110).keep J116 (ninS (X116.ne (i := 4) (j := 0) rfl rfl (by decide)) nin0)
  have F122 := (((((G90.ext E93).other W97 (X116.ne (i := 3) (j := 2) rfl rfl (by decide))).other W100 (X116.ne (i := 3) (j := 2) rfl rfl (by decide))).ext E104).ext E110).keep J116 (ninS (X116.ne (i := 3) (j := 0) rfl rfl (by decide)) nin0)
  have F123 := (A104.ext E110).keep J116
  have F124 := (D107.ext E110).keep J116 (ninS (X116.ne (i := 1) (j := 0) rfl rfl (by decide)) nin0)
  have F125 := (D108.ext E110).keep J116 (ninS (X116.ne (i := 1) (j := 0) rfl rfl (by decide)) nin0)
  have F126 := (D109.ext E110).keep J116 (ninS (X116.ne (i := 1) (j := 0) rfl rfl (by decide)) nin0)
  have F127 := ((((((F84.keep J86).ext E93).wr W97).wr W100).ext E104).ext E110).keep J116
  have F128 := (((((G89.ext E93).other W97 (Or.inl (X116.ne (i := 4) (j := 2) rfl rfl (by decide)))).other W100 (Or.inl (X116.ne (i := 4) (j := 2) rfl rfl (by decide)))).ext E104).ext E110).keep J116 (ninS (X116.ne (i := 4) (j := 0) rfl rfl (by decide)) nin0)
  have F129 := (((((G91.ext E93).wr W97).wr W100).ext E104).ext E110).keep J116
  have F130 := ((((((((F63.keep J64).keep J77).keep J86).ext E93).wr W97).wr W100).ext E104).ext E110).keep J116
  have F131 := (((((((F76.keep J77).keep J86).ext E93).wr W97).wr W100).ext E104).ext E110).keep J116
  have F132 := ((((((F85.keep J86).ext E93).wr W97).wr W100).ext E104).ext E110).keep J116
  have F133 := A110.keep J116
  refine X116.callC hx rfl (w86 cx) (w87 cx) (w88 cx) (by decide) (Ct.pay (W := 1) (ct_exini30 cx a104 a51 a65 k66 a15 a27 a39 a110 h116 _ _ F123 F124 F125 F126 (mg 1 rfl) F127 F128 F121 F122 F129 F130 F131 F132 F133 G119) (w88 cx) (w85 cx) (nle rfl) (nle rfl)) (by rw [hml]; rfl) (argsL := [.ref a51, .ref v_OE, .ref a110]) (rest := [.ref a104]) (lenOf pd27 rfl) rfl rfl (Nat.le_of_eq rfl) (hb hby at_221) (nle rfl) (nle rfl) ?_
  rintro T134 h134 _ _ _ X134 ⟨a135, a136, k137, rfl, rfl, rfl, J134, g143, g144, G138, G139, G140, G141, G142⟩
  have ge145 : h.size ≤ a135 := Nat.le_trans K120.1 g143
  have ge146 : h.size ≤ a136 := Nat.le_trans K120.1 g144
  have K147 : Keep h h134 [] := K120.trans J134 (allS (Or.inr ge105) all0)
  refine P.astore X134 hx 226 #[.val (.int p0), .val (.int p1), .val (.int p2), .val (.int p3), .val (.int 3), .val (.int 0), .val (.ref a2), .val (.ref a9), .val (.ref a15), .val (.ref a27), .val (.ref a39), .val (.ref a51), .val (.ref a39), .val (.ref a93), .val (.ref v_OE), .val (.ref a104), .unset] (hb hby at_224) rfl rfl rfl ?_
  refine P.aload X134 hx 228 (hb hby at_226) rfl rfl rfl ?_
  have F148 := F123.keep J134
  refine X134.callV hx (w134 cx) (w135 cx) (w137 cx) (w136 cx) (fun _ hZ => nf hZ (w137 cx)) (by decide) F148 (Ct.pay (W := 0) (ct_ans0 cx a104 h134 _ _ F148 G139) (w138 cx) (w85 cx) (nle rfl) (nle rfl)) (by rw [hml]; rfl) (argsL := []) (rest := []) (lenOf pd21 rfl) rfl rfl (Nat.le_of_eq rfl) (hb hby at_228) (nle rfl) (nle rfl) ?_
  rintro T149 h149 _ _ _ X149 ⟨rfl, rfl, rfl, J149⟩
  have K150 : Keep h h149 [] := K147.trans J149 all0
  refine P.astore X149 hx 233 #[.val (.int p0), .val (.int p1), .val (.int p2), .val (.int p3), .val (.int 3), .val (.int 0), .val (.ref a2), .val (.ref a9), .val (.ref a15), .val (.ref a27), .val (.ref a39), .val (.ref a51), .val (.ref a39), .val (.ref a93), .val (.ref v_OE), .val (.ref a104), .val (.ref v_OE)] (hb hby at_231) rfl rfl rfl ?_
  refine P.iload X149 hx 235 (hb hby at_233) rfl rfl ?_
  refine P.ifNo X149 hx 238 (hb hby at_235) (by decide) rfl ?_
  refine P.aload X149 hx 240 (hb hby at_238) rfl rfl rfl ?_
  refine X149.callV hx (w157 cx) (w122 cx) (w124 cx) (w123 cx) (fun _ hZ => nf hZ (w124 cx)) (by decide) ((E_OE cx).ext X149.old.2) (Ct.pay (W := 0) (ct_opisPresent0 cx v_OE v_OE h149 _ _ ((F_OE0 cx).ext X149.old.2)) (w125 cx) (w80 cx) (nle rfl) (nle rfl)) (by rw [hml]; rfl) (argsL := []) (rest := []) (lenOf pd16 rfl) rfl rfl (Nat.le_of_eq rfl) (hb hby at_240) (nle rfl) (nle rfl) ?_
  rintro T151 h151 _ _ _ X151 ⟨rfl, rfl, rfl, J151⟩
  rw [J151] at X151
  refine P.ifNo X151 hx 246 (hb hby at_243) (by decide) rfl ?_
  refine P.iconst X151 hx 247 1 (hb hby at_246) rfl rfl ?_
  refine P.goto X151 hx 251 (hb hby at_247) (by decide) (by decide) ?_
  have X152 := WS.drop (A := []) (B := (a136 :: a110 :: a104 :: a93 :: a65 :: a51 :: a39 :: a27 :: a15 :: a9 :: a2 :: WL)) X151
  have X153 := WS.drop (A := []) (B := (a110 :: a104 :: a93 :: a65 :: a51 :: a39 :: a27 :: a15 :: a9 :: a2 :: WL)) X152
  have X154 := WS.drop (A := []) (B := (a104 :: a93 :: a65 :: a51 :: a39 :: a27 :: a15 :: a9 :: a2 :: WL)) X153
  have X155 := WS.drop (A := []) (B := (a93 :: a65 :: a51 :: a39 :: a27 :: a15 :: a9 :: a2 :: WL)) X154
  have X156 := WS.drop (A := []) (B := (a65 :: a51 :: a39 :: a27 :: a15 :: a9 :: a2 :: WL)) X155
  have X157 := WS.drop (A := []) (B := (a51 :: a39 :: a27 :: a15 :: a9 :: a2 :: WL)) X156
  have X158 := WS.drop (A := []) (B := (a39 :: a27 :: a15 :: a9 :: a2 :: WL)) X157
  have X159 := WS.drop (A := []) (B := (a27 :: a15 :: a9 :: a2 :: WL)) X158
  have X160 := WS.drop (A := []) (B := (a15 :: a9 :: a2 :: WL)) X159
  have X161 := WS.drop (A := []) (B := (a9 :: a2 :: WL)) X160
  have X162 := WS.drop (A := []) (B := (a2 :: WL)) X161
  have X163 := WS.drop (A := []) (B := WL) X162
  have X164 := WS.fl (FL2 := FL) X163 (fun y hy => (List.mem_append_right [a2, a9, a15, a27, a39, a51, a65, a93, a104, a110, a136, a135, a10, a3] hy))
  exact WS.retN X164 (WL' := []) (FL' := []) hx (t := .boolean) hret (by simp) hlk (hb hby at_251) (nle rfl) (nle rfl) ⟨rfl, rfl, rfl, K150⟩
theorem ct_law_31 (cx : Cx a0 Z gC v_DE k_DE v_EL v_EM v_OE m_OA) (p0 : Int32) (p1 : Int32) (p2 : Int32) (p3 : Int32) (h : Heap) (WL FL : List Addr)  (e4 : (p0 &&& (3 : Int32)) = (3 : Int32)) (eb : ¬ (p1 &&& (1 : Int32)) = (0 : Int32)) :
    Ct l Z EL1 n0 x code maxLocals ret room_1 #[(.int p0), (.int p1), (.int p2), (.int p3)] h WL FL (Q_law Z gC v_DE k_DE v_EL v_EM v_OE m_OA p0 p1 p2 p3 h) := by
  refine Ct.of (plainFor_of_name pn17) ?_
  intro p e s m below meth c s1 hx hby hml hnm hret hlk X0
  refine Wo.cast (f' := (mkF m 0 #[.val (.int p0), .val (.int p1), .val (.int p2), .val (.int p3), .unset, .unset, .unset, .unset, .unset, .unset, .unset, .unset, .unset, .unset, .unset, .unset, .unset] [])) (by first | (simp [entryFrame, mkF, argsToLocals, Value.category, maxLocals]; done) | rfl) ?_
  have K0 : Keep h h [] := Keep.refl _ _
  show Wo _ _ _ _ _ _ _ _ _ _ _ s1 (mkF m 0 #[.val (.int p0), .val (.int p1), .val (.int p2), .val (.int p3), .unset, .unset, .unset, .unset, .unset, .unset, .unset, .unset, .unset, .unset, .unset, .unset, .unset] [])
  refine P.iloadN X0 hx 1 (hb hby at_0) rfl rfl ?_
  refine P.iconst X0 hx 2 3 (hb hby at_1) rfl rfl ?_
  refine P.iand X0 hx 3 (z := (3 : Int32)) (hb hby at_2) (e4) rfl ?_
  refine P.istore X0 hx 5 #[.val (.int p0), .val (.int p1), .val (.int p2), .val (.int p3), .val (.int 3), .unset, .unset, .unset, .unset, .unset, .unset, .unset, .unset, .unset, .unset, .unset, .unset] (hb hby at_3) rfl rfl ?_
  refine P.iloadN X0 hx 6 (hb hby at_5) rfl rfl ?_
  refine P.iconst X0 hx 7 1 (hb hby at_6) rfl rfl ?_
  refine P.iand X0 hx 8 (z := (p1 &&& (1 : Int32))) (hb hby at_7) rfl rfl ?_
  refine P.ifNo X0 hx 11 (hb hby at_8) ((if0 _ _).trans (feq eb).1) rfl ?_
  refine P.iload X0 hx 13 (hb hby at_11) rfl rfl ?_
  refine P.ifNo X0 hx 16 (hb hby at_13) (by decide) rfl ?_
  refine P.iconst X0 hx 17 1 (hb hby at_16) rfl rfl ?_
  refine P.goto X0 hx 21 (hb hby at_17) (by decide) (by decide) ?_
  refine P.istore X0 hx 23 #[.val (.int p0), .val (.int p1), .val (.int p2), .val (.int p3), .val (.int 3), .val (.int 1), .unset, .unset, .unset, .unset, .unset, .unset, .unset, .unset, .unset, .unset, .unset] (hb hby at_21) rfl rfl ?_
  refine P.iloadN X0 hx 24 (hb hby at_23) rfl rfl ?_
  refine P.sipush X0 hx 27 255 (hb hby at_24) rfl rfl ?_
  refine P.iand X0 hx 28 (z := (p2 &&& (255 : Int32))) (hb hby at_27) rfl rfl ?_
  refine P.i2c X0 hx 29 (z := (p2 &&& (255 : Int32))) (hb hby at_28) (by rw [i2c_mask]) rfl ?_
  refine X0.callS hx (w0 cx) (w1 cx) (w2 cx) (w3 cx) (by decide) (Ct.pay (W := 0) (ct_valC cx (p2 &&& (255 : Int32)) h _ _ (rng255 _)) (w3 cx) (w2 cx) (nle rfl) (nle rfl)) (by rw [hml]; rfl) (argsL := [.int (p2 &&& (255 : Int32))]) (rest := []) (lenOf pd25 rfl) rfl rfl (Nat.le_of_eq rfl) (hb hby at_29) (nle rfl) (nle rfl) ?_
  rintro T1 h1 _ _ _ X1 ⟨a2, a3, rfl, rfl, rfl, J1, g5, G4⟩
  have ge6 : h.size ≤ a2 := Nat.le_trans K0.1 g5
  have K7 : Keep h h1 [] := K0.trans J1 all0
  refine P.astore X1 hx 34 #[.val (.int p0), .val (.int p1), .val (.int p2), .val (.int p3), .val (.int 3), .val (.int 1), .val (.ref a2), .unset, .unset, .unset, .unset, .unset, .unset, .unset, .unset, .unset, .unset] (hb hby at_32) rfl rfl rfl ?_
  refine P.iloadN X1 hx 35 (hb hby at_34) rfl rfl ?_
  refine P.sipush X1 hx 38 255 (hb hby at_35) rfl rfl ?_
  refine P.iand X1 hx 39 (z := (p3 &&& (255 : Int32))) (hb hby at_38) rfl rfl ?_
  refine P.i2c X1 hx 40 (z := (p3 &&& (255 : Int32))) (hb hby at_39) (by rw [i2c_mask]) rfl ?_
  refine X1.callS hx (w0 cx) (w1 cx) (w2 cx) (w3 cx) (by decide) (Ct.pay (W := 0) (ct_valC cx (p3 &&& (255 : Int32)) h1 _ _ (rng255 _)) (w3 cx) (w2 cx) (nle rfl) (nle rfl)) (by rw [hml]; rfl) (argsL := [.int (p3 &&& (255 : Int32))]) (rest := []) (lenOf pd25 rfl) rfl rfl (Nat.le_of_eq rfl) (hb hby at_40) (nle rfl) (nle rfl) ?_
  rintro T8 h8 _ _ _ X8 ⟨a9, a10, rfl, rfl, rfl, J8, g12, G11⟩
  have ge13 : h.size ≤ a9 := Nat.le_trans K7.1 g12
  have K14 : Keep h h8 [] := K7.trans J8 all0
  refine P.astore X8 hx 45 #[.val (.int p0), .val (.int p1), .val (.int p2), .val (.int p3), .val (.int 3), .val (.int 1), .val (.ref a2), .val (.ref a9), .unset, .unset, .unset, .unset, .unset, .unset, .unset, .unset, .unset] (hb hby at_43) rfl rfl rfl ?_
  refine X8.newO hx (w26 cx) (w27 cx) (w28 cx) (hb hby at_45) (nle rfl) (nle rfl) ?_
  intro T15 h15 a15 X15 E15 g15 A15 D15
  have ge16 : h.size ≤ a15 := Nat.le_trans K14.1 g15
  have K17 : Keep h h15 [] := K14.ext E15
  have D18 : Fld Z h15 a15 "com/example/lexbind/lexbind/messages/Explanation$Step" "source" "Ljava/lang/String;" .null := D15 (Or.inr (w48 cx)) (ty := (.object "java/lang/String")) (by decide)
  have D19 : Fld Z h15 a15 "com/example/lexbind/lexbind/messages/Explanation$Step" "key" "Ljava/lang/String;" .null := D15 (Or.inr (w50 cx)) (ty := (.object "java/lang/String")) (by decide)
  refine P.dup X15 hx 49 (hb hby at_48) rfl rfl ?_
  refine P.aload X15 hx 51 (hb hby at_49) rfl rfl rfl ?_
  refine X15.ldcO hx (w29 cx) (strAtoms cx) (hb hby at_51) (n := 8) (nle rfl) (nle rfl) (nle rfl) (nle rfl) ?_
  intro T20 h20 a20 X20 E20
  have K21 : Keep h h20 [] := K17.ext E20
  have F22 := A15.ext E20
  have F23 := D18.ext E20
  have F24 := D19.ext E20
  refine X20.callC hx rfl (w32 cx) (w33 cx) (w34 cx) (by decide) (Ct.pay (W := 1) (ct_stpini cx a15 a2 a20 h20 _ _ F22 F23 F24 (mg 0 rfl)) (w34 cx) (w28 cx) (nle rfl) (nle rfl)) (by rw [hml]; rfl) (argsL := [.ref a2, .ref a20]) (rest := [.ref a15]) (lenOf pd26 rfl) rfl rfl (Nat.le_of_eq rfl) (hb hby at_53) (nle rfl) (nle rfl) ?_
  rintro T25 h25 _ _ _ X25 ⟨rfl, rfl, rfl, J25⟩
  have K26 : Keep h h25 [] := K21.trans J25 (allS (Or.inr ge16) all0)
  refine P.astore X25 hx 58 #[.val (.int p0), .val (.int p1), .val (.int p2), .val (.int p3), .val (.int 3), .val (.int 1), .val (.ref a2), .val (.ref a9), .val (.ref a15), .unset, .unset, .unset, .unset, .unset, .unset, .unset, .unset] (hb hby at_56) rfl rfl rfl ?_
  refine X25.newO hx (w26 cx) (w27 cx) (w28 cx) (hb hby at_58) (nle rfl) (nle rfl) ?_
  intro T27 h27 a27 X27 E27 g27 A27 D27
  have ge28 : h.size ≤ a27 := Nat.le_trans K26.1 g27
  have K29 : Keep h h27 [] := K26.ext E27
  have D30 : Fld Z h27 a27 "com/example/lexbind/lexbind/messages/Explanation$Step" "source" "Ljava/lang/String;" .null := D27 (Or.inr (w48 cx)) (ty := (.object "java/lang/String")) (by decide)
  have D31 : Fld Z h27 a27 "com/example/lexbind/lexbind/messages/Explanation$Step" "key" "Ljava/lang/String;" .null := D27 (Or.inr (w50 cx)) (ty := (.object "java/lang/String")) (by decide)
  refine P.dup X27 hx 62 (hb hby at_61) rfl rfl ?_
  refine P.aload X27 hx 64 (hb hby at_62) rfl rfl rfl ?_
  refine X27.ldcO hx (w51 cx) (strAtoms cx) (hb hby at_64) (n := 8) (nle rfl) (nle rfl) (nle rfl) (nle rfl) ?_
  intro T32 h32 a32 X32 E32
  have K33 : Keep h h32 [] := K29.ext E32
  have F34 := A27.ext E32
  have F35 := D30.ext E32
  have F36 := D31.ext E32
  refine X32.callC hx rfl (w32 cx) (w33 cx) (w34 cx) (by decide) (Ct.pay (W := 1) (ct_stpini cx a27 a9 a32 h32 _ _ F34 F35 F36 (mg 0 rfl)) (w34 cx) (w28 cx) (nle rfl) (nle rfl)) (by rw [hml]; rfl) (argsL := [.ref a9, .ref a32]) (rest := [.ref a27]) (lenOf pd26 rfl) rfl rfl (Nat.le_of_eq rfl) (hb hby at_66) (nle rfl) (nle rfl) ?_
  rintro T37 h37 _ _ _ X37 ⟨rfl, rfl, rfl, J37⟩
  have K38 : Keep h h37 [] := K33.trans J37 (allS (Or.inr ge28) all0)
  refine P.astore X37 hx 71 #[.val (.int p0), .val (.int p1), .val (.int p2), .val (.int p3), .val (.int 3), .val (.int 1), .val (.ref a2), .val (.ref a9), .val (.ref a15), .val (.ref a27), .unset, .unset, .unset, .unset, .unset, .unset, .unset] (hb hby at_69) rfl rfl rfl ?_
  refine X37.newO hx (w26 cx) (w27 cx) (w28 cx) (hb hby at_71) (nle rfl) (nle rfl) ?_
  intro T39 h39 a39 X39 E39 g39 A39 D39
  have ge40 : h.size ≤ a39 := Nat.le_trans K38.1 g39
  have K41 : Keep h h39 [] := K38.ext E39
  have D42 : Fld Z h39 a39 "com/example/lexbind/lexbind/messages/Explanation$Step" "source" "Ljava/lang/String;" .null := D39 (Or.inr (w48 cx)) (ty := (.object "java/lang/String")) (by decide)
  have D43 : Fld Z h39 a39 "com/example/lexbind/lexbind/messages/Explanation$Step" "key" "Ljava/lang/String;" .null := D39 (Or.inr (w50 cx)) (ty := (.object "java/lang/String")) (by decide)
  refine P.dup X39 hx 75 (hb hby at_74) rfl rfl ?_
  refine P.aload X39 hx 77 (hb hby at_75) rfl rfl rfl ?_
  refine X39.ldcO hx (w52 cx) (strAtoms cx) (hb hby at_77) (n := 8) (nle rfl) (nle rfl) (nle rfl) (nle rfl) ?_
  intro T44 h44 a44 X44 E44
  have K45 : Keep h h44 [] := K41.ext E44
  have F46 := A39.ext E44
  have F47 := D42.ext E44
  have F48 := D43.ext E44
  refine X44.callC hx rfl (w32 cx) (w33 cx) (w34 cx) (by decide) (Ct.pay (W := 1) (ct_stpini cx a39 a2 a44 h44 _ _ F46 F47 F48 (mg 0 rfl)) (w34 cx) (w28 cx) (nle rfl) (nle rfl)) (by rw [hml]; rfl) (argsL := [.ref a2, .ref a44]) (rest := [.ref a39]) (lenOf pd26 rfl) rfl rfl (Nat.le_of_eq rfl) (hb hby at_79) (nle rfl) (nle rfl) ?_
  rintro T49 h49 _ _ _ X49 ⟨rfl, rfl, rfl, J49⟩
  have K50 : Keep h h49 [] := K45.trans J49 (allS (Or.inr ge40) all0)
  refine P.astore X49 hx 84 #[.val (.int p0), .val (.int p1), .val (.int p2), .val (.int p3), .val (.int 3), .val (.int 1), .val (.ref a2), .val (.ref a9), .val (.ref a15), .val (.ref a27), .val (.ref a39), .unset, .unset, .unset, .unset, .unset, .unset] (hb hby at_82) rfl rfl rfl ?_
  refine X49.newO hx (w53 cx) (w54 cx) (w55 cx) (hb hby at_84) (nle rfl) (nle rfl) ?_
  intro T51 h51 a51 X51 E51 g51 A51 D51
  have ge52 : h.size ≤ a51 := Nat.le_trans K50.1 g51
  have K53 : Keep h h51 [] := K50.ext E51
  have D54 : Fld Z h51 a51 "java/util/AbstractList" "modCount" "I" (.int 0) := D51 (Or.inl (w73 cx)) (ty := .int) (by decide)
  have D55 : Fld Z h51 a51 "java/util/ArrayList" "elementData" "[Ljava/lang/Object;" .null := D51 (Or.inl (w76 cx)) (ty := (.array (.object "java/lang/Object"))) (by decide)
  have D56 : Fld Z h51 a51 "java/util/ArrayList" "size" "I" (.int 0) := D51 (Or.inl (w114 cx)) (ty := .int) (by decide)
  refine P.dup X51 hx 88 (hb hby at_87) rfl rfl ?_
  refine X51.callC hx rfl (w56 cx) (w57 cx) (w58 cx) (by decide) (Ct.pay (W := 1) (ct_alini cx a51 h51 _ _ A51 D54 D55 D56 (mg 0 rfl)) (w58 cx) (w55 cx) (nle rfl) (nle rfl)) (by rw [hml]; rfl) (argsL := []) (rest := [.ref a51]) (lenOf pd3 rfl) rfl rfl (Nat.le_of_eq rfl) (hb hby at_88) (nle rfl) (nle rfl) ?_
  rintro T57 h57 _ _ _ X57 ⟨rfl, rfl, rfl, J57, G58, G59, G60⟩
  have K61 : Keep h h57 [] := K53.trans J57 (allS (Or.inr ge52) all0)
  refine P.astore X57 hx 93 #[.val (.int p0), .val (.int p1), .val (.int p2), .val (.int p3), .val (.int 3), .val (.int 1), .val (.ref a2), .val (.ref a9), .val (.ref a15), .val (.ref a27), .val (.ref a39), .val (.ref a51), .unset, .unset, .unset, .unset, .unset] (hb hby at_91) rfl rfl rfl ?_
  refine P.aconstNull X57 hx 94 (hb hby at_93) rfl ?_
  refine P.astore X57 hx 96 #[.val (.int p0), .val (.int p1), .val (.int p2), .val (.int p3), .val (.int 3), .val (.int 1), .val (.ref a2), .val (.ref a9), .val (.ref a15), .val (.ref a27), .val (.ref a39), .val (.ref a51), .val .null, .unset, .unset, .unset, .unset] (hb hby at_94) rfl rfl rfl ?_
  refine P.iload X57 hx 98 (hb hby at_96) rfl rfl ?_
  refine P.iconst X57 hx 99 1 (hb hby at_98) rfl rfl ?_
  refine P.icmpNo X57 hx 102 (hb hby at_99) (by decide) rfl ?_
  refine P.aload X57 hx 104 (hb hby at_102) rfl rfl rfl ?_
  refine P.aload X57 hx 106 (hb hby at_104) rfl rfl rfl ?_
  have F62 := A51.keep J57
  have F63 := ((((((((F22.keep J25).ext E27).ext E32).keep J37).ext E39).ext E44).keep J49).ext E51).keep J57
  refine X57.callI hx (w158 cx) (w159 cx) (w160 cx) (w161 cx) (w162 cx) (w163 cx) (w164 cx) (w165 cx) (by decide) F62 (Ct.pay (W := 0) (ct_add0 cx a51 a15 h57 _ _ F62 G58 G59 G60 (mg 0 rfl) F63) (w166 cx) (w55 cx) (nle rfl) (nle rfl)) (by rw [hml]; rfl) (argsL := [.ref a15]) (rest := []) (lenOf pd28 rfl) rfl rfl (Nat.le_of_eq rfl) (hb hby at_106) (nle rfl) (nle rfl) ?_
  rintro T64 h64 _ _ _ X64 ⟨a65, k66, rfl, rfl, rfl, J64, g72, G67, G68, G69, G70, G71⟩
  have ge73 : h.size ≤ a65 := Nat.le_trans K61.1 g72
  have K74 : Keep h h64 [] := K61.trans J64 (allS (Or.inr ge52) all0)
  refine P.pop X64 hx 112 (hb hby at_111) rfl rfl ?_
  refine P.aload X64 hx 114 (hb hby at_112) rfl rfl rfl ?_
  refine P.astore X64 hx 116 #[.val (.int p0), .val (.int p1), .val (.int p2), .val (.int p3), .val (.int 3), .val (.int 1), .val (.ref a2), .val (.ref a9), .val (.ref a15), .val (.ref a27), .val (.ref a39), .val (.ref a51), .val (.ref a15), .unset, .unset, .unset, .unset] (hb hby at_114) rfl rfl rfl ?_
  refine P.iload X64 hx 118 (hb hby at_116) rfl rfl ?_
  refine P.iconst X64 hx 119 2 (hb hby at_118) rfl rfl ?_
  refine P.icmpNo X64 hx 122 (hb hby at_119) (by decide) rfl ?_
  refine P.aload X64 hx 124 (hb hby at_122) rfl rfl rfl ?_
  refine P.aload X64 hx 126 (hb hby at_124) rfl rfl rfl ?_
  have F75 := F62.keep J64
  have F76 := ((((((F34.keep J37).ext E39).ext E44).keep J49).ext E51).keep J57).keep J64
  refine X64.callI hx (w158 cx) (w159 cx) (w160 cx) (w161 cx) (w162 cx) (w163 cx) (w164 cx) (w165 cx) (by decide) F75 (Ct.pay (W := 0) (ct_add1 cx a51 a65 k66 a15 a27 h64 _ _ F75 G67 G68 G69 (mg 1 rfl) G70 G71 (mg 0 rfl) (X64.ne (i := 1) (j := 0) rfl rfl (by decide)) F76) (w166 cx) (w55 cx) (nle rfl) (nle rfl)) (by rw [hml]; rfl) (argsL := [.ref a27]) (rest := []) (lenOf pd28 rfl) rfl rfl (Nat.le_of_eq rfl) (hb hby at_126) (nle rfl) (nle rfl) ?_
  rintro T77 h77 _ _ _ X77 ⟨rfl, rfl, rfl, J77, G78, G79, G80, G81, G82⟩
  have K83 : Keep h h77 [] := K74.trans J77 (allS (Or.inr ge52) (allS (Or.inr ge73) all0))
  refine P.pop X77 hx 132 (hb hby at_131) rfl rfl ?_
  refine P.aload X77 hx 134 (hb hby at_132) rfl rfl rfl ?_
  refine P.astore X77 hx 136 #[.val (.int p0), .val (.int p1), .val (.int p2), .val (.int p3), .val (.int 3), .val (.int 1), .val (.ref a2), .val (.ref a9), .val (.ref a15), .val (.ref a27), .val (.ref a39), .val (.ref a51), .val (.ref a27), .unset, .unset, .unset, .unset] (hb hby at_134) rfl rfl rfl ?_
  refine P.iload X77 hx 138 (hb hby at_136) rfl rfl ?_
  refine P.iconst X77 hx 139 3 (hb hby at_138) rfl rfl ?_
  refine P.icmpNo X77 hx 142 (hb hby at_139) (by decide) rfl ?_
  refine P.aload X77 hx 144 (hb hby at_142) rfl rfl rfl ?_
  refine P.aload X77 hx 146 (hb hby at_144) rfl rfl rfl ?_
  have F84 := F75.keep J77
  have F85 := ((((F46.keep J49).ext E51).keep J57).keep J64).keep J77
  refine X77.callI hx (w158 cx) (w159 cx) (w160 cx) (w161 cx) (w162 cx) (w163 cx) (w164 cx) (w165 cx) (by decide) F84 (Ct.pay (W := 0) (ct_add2 cx a51 a65 k66 a15 a27 a39 h77 _ _ F84 G78 G79 G80 (mg 1 rfl) G81 G82 (mg 0 rfl) (X77.ne (i := 1) (j := 0) rfl rfl (by decide)) F85) (w166 cx) (w55 cx) (nle rfl) (nle rfl)) (by rw [hml]; rfl) (argsL := [.ref a39]) (rest := []) (lenOf pd28 rfl) rfl rfl (Nat.le_of_eq rfl) (hb hby at_146) (nle rfl) (nle rfl) ?_
  rintro T86 h86 _ _ _ X86 ⟨rfl, rfl, rfl, J86, G87, G88, G89, G90, G91⟩
  have K92 : Keep h h86 [] := K83.trans J86 (allS (Or.inr ge52) (allS (Or.inr ge73) all0))
  refine P.pop X86 hx 152 (hb hby at_151) rfl rfl ?_
  refine P.aload X86 hx 154 (hb hby at_152) rfl rfl rfl ?_
  refine P.astore X86 hx 156 #[.val (.int p0), .val (.int p1), .val (.int p2), .val (.int p3), .val (.int 3), .val (.int 1), .val (.ref a2), .val (.ref a9), .val (.ref a15), .val (.ref a27), .val (.ref a39), .val (.ref a51), .val (.ref a39), .unset, .unset, .unset, .unset] (hb hby at_154) rfl rfl rfl ?_
  refine P.iconst X86 hx 157 2 (hb hby at_156) rfl rfl ?_
  refine X86.newP (aty := .char) hx (w77 cx) (hb hby at_157) (by decide) (cap := 2) (nle rfl) (nle rfl) (nle rfl) (nle rfl) ?_
  intro T93 h93 a93 k93 X93 E93 g93 A93
  have ge94 : h.size ≤ a93 := Nat.le_trans K92.1 g93
  have K95 : Keep h h93 [] := K92.ext E93
  have V96 : Arv Z h93 a93 k93 .char (2 : Int32) [(.int 0), (.int 0)] (.int 0) := Arv.pad A93 (pad_rep [] _ 2)
  refine P.astore X93 hx 161 #[.val (.int p0), .val (.int p1), .val (.int p2), .val (.int p3), .val (.int 3), .val (.int 1), .val (.ref a2), .val (.ref a9), .val (.ref a15), .val (.ref a27), .val (.ref a39), .val (.ref a51), .val (.ref a39), .val (.ref a93), .unset, .unset, .unset] (hb hby at_159) rfl rfl rfl ?_
  refine P.aload X93 hx 163 (hb hby at_161) rfl rfl rfl ?_
  refine P.iconst X93 hx 164 0 (hb hby at_163) rfl rfl ?_
  refine P.iloadN X93 hx 165 (hb hby at_164) rfl rfl ?_
  refine P.sipush X93 hx 168 255 (hb hby at_165) rfl rfl ?_
  refine P.iand X93 hx 169 (z := (p2 &&& (255 : Int32))) (hb hby at_168) rfl rfl ?_
  refine P.i2c X93 hx 170 (z := (p2 &&& (255 : Int32))) (hb hby at_169) (by rw [i2c_mask]) rfl ?_
  refine X93.stC hx V96 (j := (0 : Int32)) (x := (p2 &&& (255 : Int32))) (i := 0) (by decide) rfl (nlt rfl) (mg 0 rfl) (hb hby at_170) ?_
  intro T97 h97 X97 W97 G97
  have K98 : Keep h h97 [] := K95.wr W97 (Or.inr ge94)
  have V99 : Arv Z h97 a93 k93 .char (2 : Int32) [(.int (p2 &&& (255 : Int32))), (.int 0)] (.int 0) := by have q := G97; rw [nar255] at q; exact q
  refine P.aload X97 hx 173 (hb hby at_171) rfl rfl rfl ?_
  refine P.iconst X97 hx 174 1 (hb hby at_173) rfl rfl ?_
  refine P.iloadN X97 hx 175 (hb hby at_174) rfl rfl ?_
  refine P.sipush X97 hx 178 255 (hb hby at_175) rfl rfl ?_
  refine P.iand X97 hx 179 (z := (p3 &&& (255 : Int32))) (hb hby at_178) rfl rfl ?_
  refine P.i2c X97 hx 180 (z := (p3 &&& (255 : Int32))) (hb hby at_179) (by rw [i2c_mask]) rfl ?_
  refine X97.stC hx V99 (j := (1 : Int32)) (x := (p3 &&& (255 : Int32))) (i := 1) (by decide) rfl (nlt rfl) (mg 0 rfl) (hb hby at_180) ?_
  intro T100 h100 X100 W100 G100
  have K101 : Keep h h100 [] := K98.wr W100 (Or.inr ge94)
  have V102 : Arv Z h100 a93 k93 .char (2 : Int32) [(.int (p2 &&& (255 : Int32))), (.int (p3 &&& (255 : Int32)))] (.int 0) := by have q := G100; rw [nar255] at q; exact q
  refine P.iload X100 hx 183 (hb hby at_181) rfl rfl ?_
  refine P.ifNo X100 hx 186 (hb hby at_183) (by decide) rfl ?_
  refine X100.newO hx (w191 cx) (w10 cx) (w2 cx) (hb hby at_186) (nle rfl) (nle rfl) ?_
  intro T103 h103 a103 X103 E103 g103 A103 D103
  have ge104 : h.size ≤ a103 := Nat.le_trans K101.1 g103
  have K105 : Keep h h103 [] := K101.ext E103
  have D106 : Fld Z h103 a103 "java/lang/String" "value" "[B" .null := D103 (Or.inr (w23 cx)) (ty := (.array .byte)) (by decide)
  have D107 : Fld Z h103 a103 "java/lang/String" "coder" "B" (.int 0) := D103 (Or.inr (w25 cx)) (ty := .byte) (by decide)
  refine P.dup X103 hx 190 (hb hby at_189) rfl rfl ?_
  refine P.aload X103 hx 192 (hb hby at_190) rfl rfl rfl ?_
  have F108 := V102.ext E103
  refine X103.callC hx rfl (w192 cx) (w193 cx) (w194 cx) (by decide) (pay_new (W := 1) (hws cx) (w10 cx) (cs := [(p2 &&& (255 : Int32)), (p3 &&& (255 : Int32))]) (n := 2) (X103.ge (mg 0 rfl)) X103.n0le (mg 0 rfl) A103 D106 D107 F108 (X103.sta (S_C cx)) (N_C cx) rfl rfl (nle rfl) (nle rfl) (fcS (rng255 p2) (fcS (rng255 p3) fc0)) (nle rfl) (nle rfl)) (by rw [hml]; rfl) (argsL := [.ref a93]) (rest := [.ref a103]) (lenOf pd29 rfl) rfl rfl (Nat.le_of_eq rfl) (hb hby at_192) (nle rfl) (nle rfl) ?_
  rintro T109 h109 _ _ _ X109 ⟨a110, rfl, rfl, rfl, J109, G111⟩
  have K112 : Keep h h109 [] := K105.trans J109 (allS (Or.inr ge104) all0)
  refine X109.callS hx (w208 cx) (w209 cx) (w80 cx) (w210 cx) (by decide) (Ct.pay (W := 0) (ct_opof cx a103 h109 _ _ ) (w210 cx) (w80 cx) (nle rfl) (nle rfl)) (by rw [hml]; rfl) (argsL := [.ref a103]) (rest := []) (lenOf pd23 rfl) rfl rfl (Nat.le_of_eq rfl) (hb hby at_195) (nle rfl) (nle rfl) ?_
  rintro T113 h113 _ _ _ X113 ⟨a114, rfl, rfl, rfl, J113, g117, G115, G116⟩
  have ge118 : h.size ≤ a114 := Nat.le_trans K112.1 g117
  have K119 : Keep h h113 [] := K112.trans J113 all0
  refine P.goto X113 hx 204 (hb hby at_198) (by decide) (by decide) ?_
  refine P.astore X113 hx 206 #[.val (.int p0), .val (.int p1), .val (.int p2), .val (.int p3), .val (.int 3), .val (.int 1), .val (.ref a2), .val (.ref a9), .val (.ref a15), .val (.ref a27), .val (.ref a39), .val (.ref a51), .val (.ref a39), .val (.ref a93), .val (.ref a114), .unset, .unset] (hb hby at_204) rfl rfl rfl ?_
  refine X113.newO hx (w83 cx) (w84 cx) (w85 cx) (hb hby at_206) (nle rfl) (nle rfl) ?_
  intro T120 h120 a120 X120 E120 g120 A120 D120
  have ge121 : h.size ≤ a120 := Nat.le_trans K119.1 g120
  have K122 : Keep h h120 [] := K119.ext E120
  have D123 : Fld Z h120 a120 "com/example/lexbind/lexbind/messages/Explanation" "steps" "Ljava/util/List;" .null := D120 (Or.inr (w129 cx)) (ty := (.object "java/util/List")) (by decide)
  have D124 : Fld Z h120 a120 "com/example/lexbind/lexbind/messages/Explanation" "text" "Ljava/util/Optional;" .null := D120 (Or.inr (w131 cx)) (ty := (.object "java/util/Optional")) (by decide)
  have D125 : Fld Z h120 a120 "com/example/lexbind/lexbind/messages/Explanation" "readAgain" "Ljava/util/List;" .null := D120 (Or.inr (w133 cx)) (ty := (.object "java/util/List")) (by decide)
  refine P.dup X120 hx 210 (hb hby at_209) rfl rfl ?_
  refine P.aload X120 hx 212 (hb hby at_210) rfl rfl rfl ?_
  refine P.aload X120 hx 214 (hb hby at_212) rfl rfl rfl ?_
  refine X120.newO hx (w53 cx) (w54 cx) (w55 cx) (hb hby at_214) (nle rfl) (nle rfl) ?_
  intro T126 h126 a126 X126 E126 g126 A126 D126
  have ge127 : h.size ≤ a126 := Nat.le_trans K122.1 g126
  have K128 : Keep h h126 [] := K122.ext E126
  have D129 : Fld Z h126 a126 "java/util/AbstractList" "modCount" "I" (.int 0) := D126 (Or.inl (w73 cx)) (ty := .int) (by decide)
  have D130 : Fld Z h126 a126 "java/util/ArrayList" "elementData" "[Ljava/lang/Object;" .null := D126 (Or.inl (w76 cx)) (ty := (.array (.object "java/lang/Object"))) (by decide)
  have D131 : Fld Z h126 a126 "java/util/ArrayList" "size" "I" (.int 0) := D126 (Or.inl (w114 cx)) (ty := .int) (by decide)
  refine P.dup X126 hx 218 (hb hby at_217) rfl rfl ?_
  refine X126.callC hx rfl (w56 cx) (w57 cx) (w58 cx) (by decide) (Ct.pay (W := 5) (ct_alini cx a126 h126 _ _ A126 D129 D130 D131 (mg 0 rfl)) (w58 cx) (w55 cx) (nle rfl) (nle rfl)) (by rw [hml]; rfl) (argsL := []) (rest := [.ref a126, .ref a114, .ref a51, .ref a120, .ref a120]) (lenOf pd3 rfl) rfl rfl (Nat.le_of_eq rfl) (hb hby at_218) (nle rfl) (nle rfl) ?_
  rintro T132 h132 _ _ _ X132 ⟨rfl, rfl, rfl, J132, G133, G134, G135⟩
  have K136 : Keep h h132 [] := K128.trans J132 (allS (Or.inr ge127) all0)
  have F137 := ((((((((G88.ext E93).other W97 (Or.inl (X132.ne (i := 6) (j := 4) rfl rfl (by decide)))).other W100 (Or.inl (X132.ne (i := 6) (j := 4) rfl rfl (by decide)))).ext E103).keep J109 (ninS (X132.ne (i := 6) (j := 3) rfl rfl (by decide)) nin0)).keep J113 nin0).ext E120).ext E126).keep J132 (ninS (X132.ne (i := 6) (j := 0) rfl rfl (by decide)) nin0)
  have F138 := ((((((((G90.ext E93).other W97 (X132.ne (i := 5) (j := 4) rfl rfl (by decide))).other W100 (X132.ne (i := 5) (j := 4) rfl rfl (by decide))).ext E103).keep J109 (ninS (X132.ne (i := 5) (j := 3) rfl rfl (by decide)) nin0)).keep J113 nin0).ext E120).ext E126).keep J132 (ninS (X132.ne (i := 5) (j := 0) rfl rfl (by decide)) nin0)
  have F139 := ((G116.ext E120).ext E126).keep J132 (ninS (X132.ne (i := 2) (j := 0) rfl rfl (by decide)) nin0)
  have F140 := (A120.ext E126).keep J132
  have F141 := (D123.ext E126).keep J132 (ninS (X132.ne (i := 1) (j := 0) rfl rfl (by decide)) nin0)
  have F142 := (D124.ext E126).keep J132 (ninS (X132.ne (i := 1) (j := 0) rfl rfl (by decide)) nin0)
  have F143 := (D125.ext E126).keep J132 (ninS (X132.ne (i := 1) (j := 0) rfl rfl (by decide)) nin0)
  have F144 := (((((((((F84.keep J86).ext E93).wr W97).wr W100).ext E103).keep J109).keep J113).ext E120).ext E126).keep J132
  have F145 := ((((((((G89.ext E93).other W97 (Or.inl (X132.ne (i := 6) (j := 4) rfl rfl (by decide)))).other W100 (Or.inl (X132.ne (i := 6) (j := 4) rfl rfl (by decide)))).ext E103).keep J109 (ninS (X132.ne (i := 6) (j := 3) rfl rfl (by decide)) nin0)).keep J113 nin0).ext E120).ext E126).keep J132 (ninS (X132.ne (i := 6) (j := 0) rfl rfl (by decide)) nin0)
  have F146 := ((((((((G91.ext E93).wr W97).wr W100).ext E103).keep J109).keep J113).ext E120).ext E126).keep J132
  have F147 := (((((((((((F63.keep J64).keep J77).keep J86).ext E93).wr W97).wr W100).ext E103).keep J109).keep J113).ext E120).ext E126).keep J132
  have F148 := ((((((((((F76.keep J77).keep J86).ext E93).wr W97).wr W100).ext E103).keep J109).keep J113).ext E120).ext E126).keep J132
  have F149 := (((((((((F85.keep J86).ext E93).wr W97).wr W100).ext E103).keep J109).keep J113).ext E120).ext E126).keep J132
  have F150 := A126.keep J132
  have F151 := ((G115.ext E120).ext E126).keep J132
  refine X132.callC hx rfl (w86 cx) (w87 cx) (w88 cx) (by decide) (Ct.pay (W := 1) (ct_exini31 cx a120 a51 a65 k66 a15 a27 a39 a126 a114 a103 h132 _ _ F140 F141 F142 F143 (mg 1 rfl) F144 F145 F137 F138 F146 F147 F148 F149 F150 G135 F151 F139) (w88 cx) (w85 cx) (nle rfl) (nle rfl)) (by rw [hml]; rfl) (argsL := [.ref a51, .ref a114, .ref a126]) (rest := [.ref a120]) (lenOf pd27 rfl) rfl rfl (Nat.le_of_eq rfl) (hb hby at_221) (nle rfl) (nle rfl) ?_
  rintro T152 h152 _ _ _ X152 ⟨a153, a154, k155, rfl, rfl, rfl, J152, g161, g162, G156, G157, G158, G159, G160⟩
  have ge163 : h.size ≤ a153 := Nat.le_trans K136.1 g161
  have ge164 : h.size ≤ a154 := Nat.le_trans K136.1 g162
  have K165 : Keep h h152 [] := K136.trans J152 (allS (Or.inr ge121) all0)
  refine P.astore X152 hx 226 #[.val (.int p0), .val (.int p1), .val (.int p2), .val (.int p3), .val (.int 3), .val (.int 1), .val (.ref a2), .val (.ref a9), .val (.ref a15), .val (.ref a27), .val (.ref a39), .val (.ref a51), .val (.ref a39), .val (.ref a93), .val (.ref a114), .val (.ref a120), .unset] (hb hby at_224) rfl rfl rfl ?_
  refine P.aload X152 hx 228 (hb hby at_226) rfl rfl rfl ?_
  have F166 := F140.keep J152
  have F167 := F139.keep J152 (ninS (X152.ne (i := 4) (j := 3) rfl rfl (by decide)) nin0)
  have F168 := F149.keep J152
  have F169 := F151.keep J152
  have F170 := ((((G111.1.keep J113).ext E120).ext E126).keep J132).keep J152
  refine X152.callV hx (w134 cx) (w135 cx) (w137 cx) (w136 cx) (fun _ hZ => nf hZ (w137 cx)) (by decide) F166 (Ct.pay (W := 0) (ct_ans3 cx a120 a153 a154 k155 a15 a27 a39 a114 a103 h152 _ _ F166 G156 G158 G159 G160 F168 G157 F169 F167 F170) (w138 cx) (w85 cx) (nle rfl) (nle rfl)) (by rw [hml]; rfl) (argsL := []) (rest := []) (lenOf pd21 rfl) rfl rfl (Nat.le_of_eq rfl) (hb hby at_228) (nle rfl) (nle rfl) ?_
  rintro T171 h171 _ _ _ X171 ⟨a172, rfl, rfl, rfl, J171, g175, G173, G174⟩
  have ge176 : h.size ≤ a172 := Nat.le_trans K165.1 g175
  have K177 : Keep h h171 [] := K165.trans J171 all0
  refine P.astore X171 hx 233 #[.val (.int p0), .val (.int p1), .val (.int p2), .val (.int p3), .val (.int 3), .val (.int 1), .val (.ref a2), .val (.ref a9), .val (.ref a15), .val (.ref a27), .val (.ref a39), .val (.ref a51), .val (.ref a39), .val (.ref a93), .val (.ref a114), .val (.ref a120), .val (.ref a172)] (hb hby at_231) rfl rfl rfl ?_
  refine P.iload X171 hx 235 (hb hby at_233) rfl rfl ?_
  refine P.ifYes X171 hx 252 (hb hby at_235) (by decide) (by decide) (by decide) ?_
  refine P.aload X171 hx 254 (hb hby at_252) rfl rfl rfl ?_
  refine X171.callV hx (w157 cx) (w122 cx) (w124 cx) (w123 cx) (fun _ hZ => nf hZ (w124 cx)) (by decide) G173 (Ct.pay (W := 0) (ct_opisPresent1 cx a172 a39 h171 _ _ G174) (w125 cx) (w80 cx) (nle rfl) (nle rfl)) (by rw [hml]; rfl) (argsL := []) (rest := []) (lenOf pd16 rfl) rfl rfl (Nat.le_of_eq rfl) (hb hby at_254) (nle rfl) (nle rfl) ?_
  rintro T178 h178 _ _ _ X178 ⟨rfl, rfl, rfl, J178⟩
  rw [J178] at X178
  refine P.ifYes X178 hx 262 (hb hby at_257) (by decide) (by decide) (by decide) ?_
  refine P.aload X178 hx 264 (hb hby at_262) rfl rfl rfl ?_
  refine X178.callV hx (w316 cx) (w317 cx) (w319 cx) (w318 cx) (fun _ hZ => nf hZ (w319 cx)) (by decide) G173 (Ct.pay (W := 0) (ct_opget cx a172 a39 h171 _ _ G174) (w320 cx) (w80 cx) (nle rfl) (nle rfl)) (by rw [hml]; rfl) (argsL := []) (rest := []) (lenOf pd30 rfl) rfl rfl (Nat.le_of_eq rfl) (hb hby at_264) (nle rfl) (nle rfl) ?_
  rintro T179 h179 _ _ _ X179 ⟨rfl, rfl, rfl, J179⟩
  rw [J179] at X179
  refine P.aload X179 hx 269 (hb hby at_267) rfl rfl rfl ?_
  refine WS.acmp X179 hx (x := (.ref a39)) (y := (.ref a39)) rfl rfl (pc' := 272) (same := true) (hb hby at_269) (decide_eq_true rfl) (by decide) (by decide) ?_
  refine P.iconst X179 hx 273 1 (hb hby at_272) rfl rfl ?_
  refine P.goto X179 hx 277 (hb hby at_273) (by decide) (by decide) ?_
  have X180 := WS.drop (A := []) (B := (a153 :: a154 :: a126 :: a120 :: a114 :: a103 :: a93 :: a65 :: a51 :: a39 :: a27 :: a15 :: a9 :: a2 :: WL)) X179
  have X181 := WS.drop (A := []) (B := (a154 :: a126 :: a120 :: a114 :: a103 :: a93 :: a65 :: a51 :: a39 :: a27 :: a15 :: a9 :: a2 :: WL)) X180
  have X182 := WS.drop (A := []) (B := (a126 :: a120 :: a114 :: a103 :: a93 :: a65 :: a51 :: a39 :: a27 :: a15 :: a9 :: a2 :: WL)) X181
  have X183 := WS.drop (A := []) (B := (a120 :: a114 :: a103 :: a93 :: a65 :: a51 :: a39 :: a27 :: a15 :: a9 :: a2 :: WL)) X182
  have X184 := WS.drop (A := []) (B := (a114 :: a103 :: a93 :: a65 :: a51 :: a39 :: a27 :: a15 :: a9 :: a2 :: WL)) X183
  have X185 := WS.drop (A := []) (B := (a103 :: a93 :: a65 :: a51 :: a39 :: a27 :: a15 :: a9 :: a2 :: WL)) X184
  have X186 := WS.drop (A := []) (B := (a93 :: a65 :: a51 :: a39 :: a27 :: a15 :: a9 :: a2 :: WL)) X185
  have X187 := WS.drop (A := []) (B := (a65 :: a51 :: a39 :: a27 :: a15 :: a9 :: a2 :: WL)) X186
  have X188 := WS.drop (A := []) (B := (a51 :: a39 :: a27 :: a15 :: a9 :: a2 :: WL)) X187
  have X189 := WS.drop (A := []) (B := (a39 :: a27 :: a15 :: a9 :: a2 :: WL)) X188
  have X190 := WS.drop (A := []) (B := (a27 :: a15 :: a9 :: a2 :: WL)) X189
  have X191 := WS.drop (A := []) (B := (a15 :: a9 :: a2 :: WL)) X190
  have X192 := WS.drop (A := []) (B := (a9 :: a2 :: WL)) X191
  have X193 := WS.drop (A := []) (B := (a2 :: WL)) X192
  have X194 := WS.drop (A := []) (B := WL) X193
  have X195 := WS.fl (FL2 := FL) X194 (fun y hy => (List.mem_append_right [a2, a9, a15, a27, a39, a51, a65, a93, a103, a114, a120, a126, a154, a153, a172, a110, a10, a3] hy))
  exact WS.retN X195 (WL' := []) (FL' := []) hx (t := .boolean) hret (by simp) hlk (hb hby at_277) (nle rfl) (nle rfl) ⟨rfl, rfl, rfl, K177⟩
theorem ct_law (cx : Cx a0 Z gC v_DE k_DE v_EL v_EM v_OE m_OA) (p0 : Int32) (p1 : Int32) (p2 : Int32) (p3 : Int32) (h : Heap) (WL FL : List Addr)  :
    Ct l Z EL1 n0 x code maxLocals ret room_1 #[(.int p0), (.int p1), (.int p2), (.int p3)] h WL FL (Q_law Z gC v_DE k_DE v_EL v_EM v_OE m_OA p0 p1 p2 p3 h) := by
  rcases and3 p0 with e4 | e4 | e4 | e4 <;> by_cases eb : (p1 &&& (1 : Int32)) = (0 : Int32)
  · exact ct_law_00 cx p0 p1 p2 p3 h WL FL e4 eb
  · exact ct_law_01 cx p0 p1 p2 p3 h WL FL e4 eb
  · exact ct_law_10 cx p0 p1 p2 p3 h WL FL e4 eb
  · exact ct_law_11 cx p0 p1 p2 p3 h WL FL e4 eb
  · exact ct_law_20 cx p0 p1 p2 p3 h WL FL e4 eb
  · exact ct_law_21 cx p0 p1 p2 p3 h WL FL e4 eb
  · exact ct_law_30 cx p0 p1 p2 p3 h WL FL e4 eb
  · exact ct_law_31 cx p0 p1 p2 p3 h WL FL e4 eb
end Cts

set_option maxRecDepth 65536 in
set_option maxHeartbeats 4000000 in
theorem comes_1 {Post : Tables → Env → Array Value → State → Outcome → State → Prop} (hpost : ∀ tb e args s v u, (limb_1_1.after args s (.returned v) u = true ∧ limb_1_2.after args s (.returned v) u = true ∧ True) → Jvm.Pilot.@@N@@.Jvm.D.FramedW s (.returned v) u (Jvm.fieldLocs frame_1_writes args s ++ Jvm.arrayLocs frame_1_arrays args s ++ Jvm.staticLocs frame_1_statics s) 64 6400 → Post tb e args s (.returned v) u) :
    ArmFor flags0 classFile x code maxLocals ret World_1 tables_1 room_1 Calls_1 rest_1 Pre_1 Post := by
  intro l hfl _ _ p e ha hc hk s m args below hf hA hF happ hP
  obtain ⟨hcalls, hrest, hpre⟩ := hP
  obtain ⟨-, -, -, hnamed, -, -, -, hat⟩ := (Spec.applies_iff hf).mp happ
  obtain ⟨hg, hn⟩ := and_e (Cond.before_iff.mp (show (Jvm.Cond.and given_1 narrow_1).before args s = true from hpre))
  obtain ⟨h1, g0⟩ := and_e hg
  obtain ⟨b0, g1⟩ := and_e g0
  obtain ⟨b1, g2⟩ := and_e g1
  obtain ⟨b2, g3⟩ := and_e g2
  obtain ⟨z0, z1, z2, z3, rfl⟩ : ∃ z0 z1 z2 z3 : Value, args = #[z0, z1, z2, z3] := by
    have hs : args.size = 4 := by simpa [Cond.value, given_1] using h1
    obtain ⟨L⟩ := args
    match L, hs with
    | [z0, z1, z2, z3], _ => exact ⟨z0, z1, z2, z3, rfl⟩
  have hw := fun d (hd : d ∈ tables_1) => atoms_spec (ws := Jvm.Cond.code x code maxLocals ret :: tables_1) hat d (List.mem_cons_of_mem _ hd)
  obtain ⟨hsets, hown0⟩ := atoms_of _ (rest_1_c_eq ▸ (show rest_1_c.before _ s = true from hrest))
  have hfit : Fit s := fun {y c} hc i hi => by
    obtain ⟨ha, rfl⟩ := Array.getElem?_eq_some_iff.mp hc
    have q := List.all_eq_true.mp ((Array.all_eq_true_iff_forall_mem.mp hF) _ (Array.getElem_mem ha)) i (List.mem_range.mpr hi)
    simpa [Array.getElem?_eq_getElem hi] using q
  obtain ⟨i_0, e_0⟩ := is_v b0
  obtain rfl : z0 = (.int i_0) := Option.some.inj e_0
  obtain ⟨i_1, e_1⟩ := is_v b1
  obtain rfl : z1 = (.int i_1) := Option.some.inj e_1
  obtain ⟨i_2, e_2⟩ := is_v b2
  obtain rfl : z2 = (.int i_2) := Option.some.inj e_2
  obtain ⟨i_3, e_3⟩ := is_v g3
  obtain rfl : z3 = (.int i_3) := Option.some.inj e_3
  obtain ⟨i7, e7⟩ := is_v (Cond.before_iff.mp (hsets _ (List.mem_of_getElem? (i := 1) rfl)))
  have S7 : Sta s s.heap "java/lang/String" "COMPACT_STRINGS" "Z" (.int i7) := Sta.start e7 (Or.inl (hsets _ (List.mem_of_getElem? (i := 0) rfl)))
  have n7 := not_v (Cond.before_iff.mp (hsets _ (List.mem_of_getElem? (i := 2) rfl)))
  have c7 : ¬ (i7 = (0 : Int32)) := gotF (Cond.eq_ints e7 (Term.int_eval (0))) n7
  obtain ⟨a_DE, e_DE⟩ := exa_v (Cond.before_iff.mp (hsets _ (List.mem_of_getElem? (i := 16) rfl)))
  have S_DE : Sta s s.heap "java/util/ArrayList" "DEFAULTCAPACITY_EMPTY_ELEMENTDATA" "[Ljava/lang/Object;" (.ref a_DE) := Sta.start e_DE (Or.inr ⟨(hw _ (List.mem_of_getElem? (i := 55) rfl)), (hsets _ (List.mem_of_getElem? (i := 11) rfl))⟩)
  have E_DE : Exa s s.heap a_DE "[Ljava/lang/Object;" := Exa.start e_DE (Cond.before_iff.mp (hsets _ (List.mem_of_getElem? (i := 16) rfl)))
  obtain ⟨c_DE, A_DE⟩ := objStart hfit e_DE (Cond.before_iff.mp (hsets _ (List.mem_of_getElem? (i := 15) rfl))) (Cond.before_iff.mp (hsets _ (List.mem_of_getElem? (i := 17) rfl)))
  obtain ⟨a_EL, e_EL⟩ := exa_v (Cond.before_iff.mp (hsets _ (List.mem_of_getElem? (i := 24) rfl)))
  have S_EL : Sta s s.heap "java/util/ImmutableCollections" "EMPTY_LIST" "Ljava/util/ImmutableCollections$ListN;" (.ref a_EL) := Sta.start e_EL (Or.inl (hsets _ (List.mem_of_getElem? (i := 23) rfl)))
  have E_EL : Exa s s.heap a_EL "java/util/ImmutableCollections$ListN" := Exa.start e_EL (Cond.before_iff.mp (hsets _ (List.mem_of_getElem? (i := 24) rfl)))
  obtain ⟨a_EM, e_EM⟩ := exa_v (Cond.before_iff.mp (hsets _ (List.mem_of_getElem? (i := 31) rfl)))
  have S_EM : Sta s s.heap "java/util/ImmutableCollections" "EMPTY" "Ljava/lang/Object;" (.ref a_EM) := Sta.start e_EM (Or.inl (hsets _ (List.mem_of_getElem? (i := 30) rfl)))
  have E_EM : Exa s s.heap a_EM "java/lang/Object" := Exa.start e_EM (Cond.before_iff.mp (hsets _ (List.mem_of_getElem? (i := 31) rfl)))
  obtain ⟨a_OE, e_OE⟩ := exa_v (Cond.before_iff.mp (hsets _ (List.mem_of_getElem? (i := 20) rfl)))
  have S_OE : Sta s s.heap "java/util/Optional" "EMPTY" "Ljava/util/Optional;" (.ref a_OE) := Sta.start e_OE (Or.inl (hsets _ (List.mem_of_getElem? (i := 19) rfl)))
  have E_OE : Exa s s.heap a_OE "java/util/Optional" := Exa.start e_OE (Cond.before_iff.mp (hsets _ (List.mem_of_getElem? (i := 20) rfl)))
  have q_F_OE0 := null_v (Cond.before_iff.mp (hsets _ (List.mem_of_getElem? (i := 21) rfl)))
  rw [fld_at e_OE] at q_F_OE0
  have F_OE0 := Fld.start q_F_OE0
  obtain ⟨c_OA, k_OA, a_OA, f_OA, g_OA, h_OA⟩ := hcalls.1
  have M_OA : MM s "[Ljava/lang/Object;" a_OA := ⟨c_OA, k_OA, f_OA, g_OA, h_OA.1⟩
  have cx : Cx #[(.int i_0), (.int i_1), (.int i_2), (.int i_3)] s i7 a_DE c_DE a_EL a_EM a_OE a_OA := ⟨hw, S7, c7, S_DE, E_DE, A_DE, S_EL, E_EL, S_EM, E_EM, S_OE, E_OE, F_OE0, M_OA⟩
  have ew : EW s #[(.int i_0), (.int i_1), (.int i_2), (.int i_3)] EL1 := EW.nil
  have inv0 : Inv s EL1 s.heap.size s.vm s.heap [] [] := ⟨⟨_, ew⟩, (fun _ q => nomatch q), Old.start s, fun _ q => (nomatch q), List.nodup_nil, fun _ q => (nomatch q)⟩
  obtain ⟨n, o, h1, h2, h3, _, L, WL', FL', rfl, I', N, ⟨rfl, -⟩, hq⟩ := ct_law (l := l) (Z := s) cx (n0 := s.heap.size) i_0 i_1 i_2 i_3 s.heap [] [] tables_1 p e ha hc hk s m _ below hf ((Spec.applies_iff_loose hf).mp happ).1 ⟨rfl, State.Warmed39.refl s, rfl, inv0⟩ trivial
  exact ⟨n, _, h1, h2, h3, hpost _ _ _ _ _ _ ⟨Cond.after_iff.mpr rfl, Cond.after_iff.mpr (eq_i res_at (Term.int_eval (1)) rfl), trivial⟩ ⟨hq.1, hq.2.1, hq.2.2.1, (hq.2.2.2.sift fun y hy => Or.inr (N y hy)).mono (by decide) (by decide)⟩⟩
theorem main_1_1 : Claimed_1_1 := comes_1 fun _ _ _ _ _ _ h hF => ⟨h.1, hF⟩
theorem main_1_2 : Claimed_1_2 := comes_1 fun _ _ _ _ _ _ h hF => ⟨h.2.1, hF⟩
end Jvm.Pilot.@@N@@
namespace Jvm.Pilot.@@N@@
open Jvm Jvm.ClassFile Sem Op Lib Jvm.Free Jvm.Stand Jvm.Pilot.@@N@@.Jvm.D
/-! MADE BY PROGRAM (witnessworld.py) out of the Statement's table words and the real class files: 44 classes; the members and pool entries that the words name. The judged class is class 1, her method 1. -/
namespace start1
open Jvm.ClassFile
def u (s : String) : CpInfo := .utf8 (stringToUtf16 s)
/-- a pool by its gaps: so many unusable entries, then the entry; so many at the end -/
def gap : Nat → List CpInfo → List CpInfo
  | 0, r => r
  | n + 1, r => .unusable :: gap n r
def poolList (es : List (Nat × CpInfo)) (last : Nat) : List CpInfo := es.foldr (fun e r => gap e.1 (e.2 :: r)) (gap last [])
def pool (es : List (Nat × CpInfo)) (last : Nat) : Array CpInfo := ⟨poolList es last⟩
def fileOf (pool : Array CpInfo) (this : Nat) (attrs : Array Attribute := #[]) (ms : Array MethodInfo := #[]) (fl : Nat := 33) (sup : Nat := 0) (ifs : Array Nat := #[]) (fds : Array FieldInfo := #[]) : ClassFile where
  minorVersion := 0
  majorVersion := 65
  constantPool := pool
  accessFlags := fl
  thisClass := this
  superClass := sup
  interfaces := ifs
  fields := fds
  methods := ms
  attributes := attrs
def plain (name : String) (sup : Option ClassId) : Class where
  name := name
  kind := .ordinary
  loader := none
  accessFlags := 33
  super := sup
  interfaces := #[]
  cf := none
  fields := #[]
  methods := #[]
  instanceTypes := #[]
  staticTypes := #[]
  resolved := #[]
  callSites := []
  init := .initialized
  statics := none
  mirror := none

def pool0 : Array CpInfo := pool [(5, u "<init>"), (0, u "()V"), (1, .class_ 10), (1, u "java/lang/Object"), (0, u "getClass"), (0, u "()Ljava/lang/Class;")] 111

def k0c0 : Code := { maxStack := 0, maxLocals := 1, code := object_method_1_code, exceptionTable := #[], attributes := #[] }
def k0m0 : Method := { name := "<init>", desc := "()V", sig := { parameters := [], returnType := none }, accessFlags := 1, code := some k0c0 }
def k0m1 : Method := { name := "getClass", desc := "()Ljava/lang/Class;", sig := { parameters := [], returnType := some (.object "java/lang/Class") }, accessFlags := 273, code := none }
/-- java/lang/Object -/
def k0 : Class := { plain "java/lang/Object" none with
  accessFlags := 33
  interfaces := #[]
  cf := some (fileOf pool0 8 #[] #[{ accessFlags := 1, nameIndex := 5, descriptorIndex := 6, attributes := #[] }, { accessFlags := 273, nameIndex := 11, descriptorIndex := 12, attributes := #[] }] 33 0 #[] #[])
  fields := #[]
  methods := #[k0m0, k0m1]
  instanceTypes := #[]
  staticTypes := #[]
  resolved := Array.replicate 124 none
  statics := none }

def pool1 : Array CpInfo := pool [(2, .class_ 4), (0, .nameAndType 5 6), (0, u "java/lang/Object"), (0, u "<init>"), (0, u "()V"), (0, .methodref 8 9), (0, .class_ 10), (0, .nameAndType 11 12), (0, u "java/lang/String"), (0, u "valueOf"), (0, u "(C)Ljava/lang/String;"), (0, .class_ 14), (0, u "com/example/lexbind/lexbind/messages/Explanation$Step"), (0, .string 16), (0, u "k0"), (0, .methodref 13 18), (0, .nameAndType 5 19), (0, u "(Ljava/lang/String;Ljava/lang/String;)V"), (0, .string 21), (0, u "k1"), (0, .string 23), (0, u "k2"), (0, .class_ 25), (0, u "java/util/ArrayList"), (0, .methodref 24 3), (0, .interfaceMethodref 28 29), (0, .class_ 30), (0, .nameAndType 31 32), (0, u "java/util/List"), (0, u "add"), (0, u "(Ljava/lang/Object;)Z"), (0, .methodref 8 34), (0, .nameAndType 5 35), (0, u "([C)V"), (0, .methodref 37 38), (0, .class_ 39), (0, .nameAndType 40 41), (0, u "java/util/Optional"), (0, u "of"), (0, u "(Ljava/lang/Object;)Ljava/util/Optional;"), (0, .methodref 37 43), (0, .nameAndType 44 45), (0, u "empty"), (0, u "()Ljava/util/Optional;"), (0, .class_ 47), (0, u "com/example/lexbind/lexbind/messages/Explanation"), (0, .methodref 46 49), (0, .nameAndType 5 50), (0, u "(Ljava/util/List;Ljava/util/Optional;Ljava/util/List;)V"), (0, .methodref 46 52), (0, .nameAndType 53 45), (0, u "answer"), (0, .methodref 37 55), (0, .nameAndType 56 57), (0, u "isPresent"), (0, u "()Z"), (0, .methodref 37 59), (0, .nameAndType 60 61), (0, u "get"), (0, u "()Ljava/lang/Object;"), (0, .class_ 63), (0, u "com/example/lexbind/lexbind/messages/ExplanationAnswerPinLaw"), (2, u "law"), (0, u "(IIII)Z")] 7

def k1m0 : Method := { name := "<init>", desc := "()V", sig := { parameters := [], returnType := none }, accessFlags := 1, code := none }
def k1c1 : Code := { maxStack := 6, maxLocals := 17, code := code, exceptionTable := #[], attributes := #[] }
def k1m1 : Method := { name := "law", desc := "(IIII)Z", sig := { parameters := [.int, .int, .int, .int], returnType := some .boolean }, accessFlags := 9, code := some k1c1 }
/-- com/example/lexbind/lexbind/messages/ExplanationAnswerPinLaw -/
def k1 : Class := { plain "com/example/lexbind/lexbind/messages/ExplanationAnswerPinLaw" (some 0) with
  accessFlags := 49
  interfaces := #[]
  cf := some (fileOf pool1 62 #[] #[{ accessFlags := 1, nameIndex := 5, descriptorIndex := 6, attributes := #[] }, { accessFlags := 9, nameIndex := 66, descriptorIndex := 67, attributes := #[] }] 49 2 #[] #[])
  fields := #[]
  methods := #[k1m0, k1m1]
  instanceTypes := #[]
  staticTypes := #[]
  resolved := Array.replicate 75 none
  statics := none }

def pool2 : Array CpInfo := pool [(1, .class_ 2), (0, u "java/io/Serializable"), (0, .class_ 4), (0, u "java/lang/Object")] 2

/-- java/io/Serializable -/
def k2 : Class := { plain "java/io/Serializable" (some 0) with
  accessFlags := 1537
  interfaces := #[]
  cf := some (fileOf pool2 1 #[] #[] 1537 3 #[] #[])
  fields := #[]
  methods := #[]
  instanceTypes := #[]
  staticTypes := #[]
  resolved := Array.replicate 7 none
  statics := none }

def pool3 : Array CpInfo := pool [(1, .class_ 2), (0, u "java/lang/Comparable"), (0, .class_ 4), (0, u "java/lang/Object")] 7

/-- java/lang/Comparable -/
def k3 : Class := { plain "java/lang/Comparable" (some 0) with
  accessFlags := 1537
  interfaces := #[]
  cf := some (fileOf pool3 1 #[] #[] 1537 3 #[] #[])
  fields := #[]
  methods := #[]
  instanceTypes := #[]
  staticTypes := #[]
  resolved := Array.replicate 12 none
  statics := none }

def pool4 : Array CpInfo := pool [(2, .class_ 4), (1, u "java/lang/CharSequence"), (42, .class_ 48), (0, u "java/lang/CharSequence$1CodePointIterator"), (10, .class_ 60), (0, u "java/lang/CharSequence$1CharIterator"), (5, .class_ 67), (0, u "java/lang/Object")] 63

/-- java/lang/CharSequence -/
def k4 : Class := { plain "java/lang/CharSequence" (some 0) with
  accessFlags := 1537
  interfaces := #[]
  cf := some (fileOf pool4 2 #[.nestMembers #[47, 59]] #[] 1537 66 #[] #[])
  fields := #[]
  methods := #[]
  instanceTypes := #[]
  staticTypes := #[]
  resolved := Array.replicate 131 none
  statics := none }

def pool5 : Array CpInfo := pool [(1, .class_ 2), (0, u "java/lang/constant/Constable"), (0, .class_ 4), (0, u "java/lang/Object")] 6

/-- java/lang/constant/Constable -/
def k5 : Class := { plain "java/lang/constant/Constable" (some 0) with
  accessFlags := 1537
  interfaces := #[]
  cf := some (fileOf pool5 1 #[] #[] 1537 3 #[] #[])
  fields := #[]
  methods := #[]
  instanceTypes := #[]
  staticTypes := #[]
  resolved := Array.replicate 11 none
  statics := none }

def pool6 : Array CpInfo := pool [(1, .class_ 2), (0, u "java/lang/constant/ConstantDesc"), (0, .class_ 4), (0, u "java/lang/Object")] 32

/-- java/lang/constant/ConstantDesc -/
def k6 : Class := { plain "java/lang/constant/ConstantDesc" (some 0) with
  accessFlags := 1537
  interfaces := #[]
  cf := some (fileOf pool6 1 #[] #[] 1537 3 #[] #[])
  fields := #[]
  methods := #[]
  instanceTypes := #[]
  staticTypes := #[]
  resolved := Array.replicate 37 none
  statics := none }

def pool7 : Array CpInfo := pool [(1, .methodref 2 3), (0, .class_ 4), (0, .nameAndType 5 6), (0, u "java/lang/Object"), (0, u "<init>"), (0, u "()V"), (2, .fieldref 10 11), (0, .class_ 12), (0, .nameAndType 13 14), (0, u "java/lang/String"), (0, u "value"), (0, u "[B"), (0, .fieldref 10 16), (0, .nameAndType 17 18), (0, u "coder"), (0, u "B"), (2, u "hash"), (0, u "I"), (2, u "hashIsZero"), (0, u "Z"), (0, .methodref 10 28), (0, .nameAndType 5 29), (0, u "([CIILjava/lang/Void;)V"), (8, .fieldref 10 39), (0, .nameAndType 40 26), (0, u "COMPACT_STRINGS"), (1, .class_ 44), (1, u "java/lang/StringUTF16"), (0, u "compress"), (1, .methodref 42 48), (0, .nameAndType 49 50), (0, u "coderFromArrayLen"), (0, u "([BI)B"), (2, u "toBytes"), (53, .class_ 109), (1, u "java/lang/StringLatin1"), (67, .methodref 42 178), (0, .nameAndType 45 179), (0, u "([CII)[B"), (29, .methodref 10 210), (0, .nameAndType 5 211), (0, u "([BB)V"), (157, u "(C)Z"), (205, .class_ 576), (0, u "java/lang/CharSequence"), (22, u "CASE_INSENSITIVE_ORDER"), (0, u "Ljava/util/Comparator;"), (181, u "valueOf"), (0, u "(C)Ljava/lang/String;"), (226, u "([C)V"), (4, .methodref 107 1016), (0, .nameAndType 1017 369), (0, u "canEncode"), (0, .methodref 107 1019), (0, .nameAndType 53 1020), (0, u "(C)[B"), (80, u "serialPersistentFields"), (0, u "[Ljava/io/ObjectStreamField;"), (0, .class_ 1104), (0, u "java/lang/String$CaseInsensitiveComparator"), (1, .class_ 1107), (0, u "java/io/Serializable"), (0, .class_ 1109), (0, u "java/lang/Comparable"), (0, .class_ 1111), (0, u "java/lang/constant/Constable"), (0, .class_ 1113), (0, u "java/lang/constant/ConstantDesc"), (2, u "serialVersionUID"), (0, u "J"), (3, u "REPL"), (0, u "C"), (2, u "LATIN1"), (1, u "UTF16")] 323

def k7m0 : Method := { name := "<init>", desc := "()V", sig := { parameters := [], returnType := none }, accessFlags := 1, code := none }
def k7c1 : Code := { maxStack := 5, maxLocals := 2, code := jdk_42_method_3_code, exceptionTable := #[], attributes := #[] }
def k7m1 : Method := { name := "<init>", desc := "([C)V", sig := { parameters := [(.array .char)], returnType := none }, accessFlags := 1, code := some k7c1 }
def k7c2 : Code := { maxStack := 4, maxLocals := 1, code := jdk_42_method_139_code, exceptionTable := #[], attributes := #[] }
def k7m2 : Method := { name := "valueOf", desc := "(C)Ljava/lang/String;", sig := { parameters := [.char], returnType := some (.object "java/lang/String") }, accessFlags := 9, code := some k7c2 }
def k7c3 : Code := { maxStack := 4, maxLocals := 6, code := jdk_42_method_149_code, exceptionTable := #[], attributes := #[] }
def k7m3 : Method := { name := "<init>", desc := "([CIILjava/lang/Void;)V", sig := { parameters := [(.array .char), .int, .int, (.object "java/lang/Void")], returnType := none }, accessFlags := 2, code := some k7c3 }
def k7c4 : Code := { maxStack := 2, maxLocals := 3, code := jdk_42_method_151_code, exceptionTable := #[], attributes := #[] }
def k7m4 : Method := { name := "<init>", desc := "([BB)V", sig := { parameters := [(.array .byte), .byte], returnType := none }, accessFlags := 0, code := some k7c4 }
/-- java/lang/String -/
def k7 : Class := { plain "java/lang/String" (some 0) with
  accessFlags := 49
  interfaces := #[2, 3, 4, 5, 6]
  cf := some (fileOf pool7 10 #[.nestMembers #[1103]] #[{ accessFlags := 1, nameIndex := 5, descriptorIndex := 6, attributes := #[] }, { accessFlags := 1, nameIndex := 5, descriptorIndex := 1010, attributes := #[] }, { accessFlags := 9, nameIndex := 782, descriptorIndex := 783, attributes := #[] }, { accessFlags := 2, nameIndex := 5, descriptorIndex := 29, attributes := #[] }, { accessFlags := 0, nameIndex := 5, descriptorIndex := 211, attributes := #[] }] 49 2 #[1106, 1108, 575, 1110, 1112] #[{ accessFlags := 18, nameIndex := 13, descriptorIndex := 14, attributes := #[] }, { accessFlags := 18, nameIndex := 17, descriptorIndex := 18, attributes := #[] }, { accessFlags := 2, nameIndex := 21, descriptorIndex := 22, attributes := #[] }, { accessFlags := 2, nameIndex := 25, descriptorIndex := 26, attributes := #[] }, { accessFlags := 26, nameIndex := 1116, descriptorIndex := 1117, attributes := #[] }, { accessFlags := 24, nameIndex := 40, descriptorIndex := 26, attributes := #[] }, { accessFlags := 26, nameIndex := 1101, descriptorIndex := 1102, attributes := #[] }, { accessFlags := 26, nameIndex := 1121, descriptorIndex := 1122, attributes := #[] }, { accessFlags := 25, nameIndex := 599, descriptorIndex := 600, attributes := #[] }, { accessFlags := 24, nameIndex := 1125, descriptorIndex := 18, attributes := #[] }, { accessFlags := 24, nameIndex := 1127, descriptorIndex := 18, attributes := #[] }])
  fields := #[{ name := "value", type := (.array .byte), accessFlags := 18, slot := 0, constantValue := 0 }, { name := "coder", type := .byte, accessFlags := 18, slot := 1, constantValue := 0 }, { name := "hash", type := .int, accessFlags := 2, slot := 2, constantValue := 0 }, { name := "hashIsZero", type := .boolean, accessFlags := 2, slot := 3, constantValue := 0 }, { name := "serialVersionUID", type := .long, accessFlags := 26, slot := 0, constantValue := 0 }, { name := "COMPACT_STRINGS", type := .boolean, accessFlags := 24, slot := 1, constantValue := 0 }, { name := "serialPersistentFields", type := (.array (.object "java/io/ObjectStreamField")), accessFlags := 26, slot := 2, constantValue := 0 }, { name := "REPL", type := .char, accessFlags := 26, slot := 3, constantValue := 0 }, { name := "CASE_INSENSITIVE_ORDER", type := (.object "java/util/Comparator"), accessFlags := 25, slot := 4, constantValue := 0 }, { name := "LATIN1", type := .byte, accessFlags := 24, slot := 5, constantValue := 0 }, { name := "UTF16", type := .byte, accessFlags := 24, slot := 6, constantValue := 0 }]
  methods := #[k7m0, k7m1, k7m2, k7m3, k7m4]
  instanceTypes := #[(.array .byte), .byte, .int, .boolean]
  staticTypes := #[.long, .boolean, (.array (.object "java/io/ObjectStreamField")), .char, (.object "java/util/Comparator"), .byte, .byte]
  resolved := Array.replicate 1451 none
  statics := some 0 }

def pool8 : Array CpInfo := pool [(4, .class_ 6), (1, u "java/lang/Object"), (0, u "<init>"), (0, u "()V"), (5, .class_ 16), (1, u "java/lang/StringLatin1"), (73, u "canEncode"), (14, u "(C)Z"), (15, u "$assertionsDisabled"), (0, u "Z"), (98, .class_ 223), (1, u "java/lang/StringLatin1$LinesSpliterator"), (156, u "toBytes"), (1, u "(C)[B"), (7, .class_ 391), (0, u "java/lang/StringLatin1$CharsSpliterator")] 3

def k8m0 : Method := { name := "<init>", desc := "()V", sig := { parameters := [], returnType := none }, accessFlags := 0, code := none }
def k8c1 : Code := { maxStack := 2, maxLocals := 1, code := jdk_43_method_3_code, exceptionTable := #[], attributes := #[] }
def k8m1 : Method := { name := "canEncode", desc := "(C)Z", sig := { parameters := [.char], returnType := some .boolean }, accessFlags := 9, code := some k8c1 }
def k8c2 : Code := { maxStack := 4, maxLocals := 1, code := jdk_43_method_46_code, exceptionTable := #[], attributes := #[] }
def k8m2 : Method := { name := "toBytes", desc := "(C)[B", sig := { parameters := [.char], returnType := some (.array .byte) }, accessFlags := 9, code := some k8c2 }
/-- java/lang/StringLatin1 -/
def k8 : Class := { plain "java/lang/StringLatin1" (some 0) with
  accessFlags := 48
  interfaces := #[]
  cf := some (fileOf pool8 14 #[.nestMembers #[390, 221]] #[{ accessFlags := 0, nameIndex := 7, descriptorIndex := 8, attributes := #[] }, { accessFlags := 9, nameIndex := 90, descriptorIndex := 105, attributes := #[] }, { accessFlags := 9, nameIndex := 380, descriptorIndex := 382, attributes := #[] }] 48 4 #[] #[{ accessFlags := 4120, nameIndex := 121, descriptorIndex := 122, attributes := #[] }])
  fields := #[{ name := "$assertionsDisabled", type := .boolean, accessFlags := 4120, slot := 0, constantValue := 0 }]
  methods := #[k8m0, k8m1, k8m2]
  instanceTypes := #[]
  staticTypes := #[.boolean]
  resolved := Array.replicate 395 none
  statics := none }

def pool9 : Array CpInfo := pool [(1, .methodref 2 3), (0, .class_ 4), (0, .nameAndType 5 6), (0, u "java/lang/Object"), (0, u "<init>"), (0, u "()V"), (0, .class_ 8), (0, u "java/lang/Record")] 13

def k9c0 : Code := { maxStack := 1, maxLocals := 1, code := jdk_30_method_1_code, exceptionTable := #[], attributes := #[] }
def k9m0 : Method := { name := "<init>", desc := "()V", sig := { parameters := [], returnType := none }, accessFlags := 4, code := some k9c0 }
/-- java/lang/Record -/
def k9 : Class := { plain "java/lang/Record" (some 0) with
  accessFlags := 1057
  interfaces := #[]
  cf := some (fileOf pool9 7 #[] #[{ accessFlags := 4, nameIndex := 5, descriptorIndex := 6, attributes := #[] }] 1057 2 #[] #[])
  fields := #[]
  methods := #[k9m0]
  instanceTypes := #[]
  staticTypes := #[]
  resolved := Array.replicate 22 none
  statics := none }

def pool10 : Array CpInfo := pool [(1, .methodref 2 3), (0, .class_ 4), (0, .nameAndType 5 6), (0, u "java/lang/Record"), (0, u "<init>"), (0, u "()V"), (0, .string 8), (0, u "source"), (0, .methodref 10 11), (0, .class_ 12), (0, .nameAndType 13 14), (0, u "java/util/Objects"), (0, u "requireNonNull"), (0, u "(Ljava/lang/Object;Ljava/lang/String;)Ljava/lang/Object;"), (0, .string 16), (0, u "key"), (0, .fieldref 18 19), (0, .class_ 20), (0, .nameAndType 8 21), (0, u "com/example/lexbind/lexbind/messages/Explanation$Step"), (0, u "Ljava/lang/String;"), (0, .fieldref 18 23), (0, .nameAndType 16 21), (12, u "(Ljava/lang/String;Ljava/lang/String;)V"), (10, .class_ 48), (0, u "com/example/lexbind/lexbind/messages/Explanation")] 28

def k10c0 : Code := { maxStack := 2, maxLocals := 3, code := prog_37_method_1_code, exceptionTable := #[], attributes := #[] }
def k10m0 : Method := { name := "<init>", desc := "(Ljava/lang/String;Ljava/lang/String;)V", sig := { parameters := [(.object "java/lang/String"), (.object "java/lang/String")], returnType := none }, accessFlags := 1, code := some k10c0 }
/-- com/example/lexbind/lexbind/messages/Explanation$Step -/
def k10 : Class := { plain "com/example/lexbind/lexbind/messages/Explanation$Step" (some 9) with
  accessFlags := 49
  interfaces := #[]
  cf := some (fileOf pool10 18 #[.nestHost 47] #[{ accessFlags := 1, nameIndex := 5, descriptorIndex := 36, attributes := #[] }] 49 2 #[] #[{ accessFlags := 18, nameIndex := 8, descriptorIndex := 21, attributes := #[] }, { accessFlags := 18, nameIndex := 16, descriptorIndex := 21, attributes := #[] }])
  fields := #[{ name := "source", type := (.object "java/lang/String"), accessFlags := 18, slot := 0, constantValue := 0 }, { name := "key", type := (.object "java/lang/String"), accessFlags := 18, slot := 1, constantValue := 0 }]
  methods := #[k10m0]
  instanceTypes := #[(.object "java/lang/String"), (.object "java/lang/String")]
  staticTypes := #[]
  resolved := Array.replicate 77 none
  statics := none }

def pool11 : Array CpInfo := pool [(2, .class_ 4), (1, u "java/lang/Object"), (0, u "<init>"), (0, u "()V"), (35, .class_ 44), (1, u "java/util/Objects"), (0, u "requireNonNull"), (0, u "(Ljava/lang/Object;)Ljava/lang/Object;"), (47, u "(Ljava/lang/Object;Ljava/lang/String;)Ljava/lang/Object;")] 89

def k11m0 : Method := { name := "<init>", desc := "()V", sig := { parameters := [], returnType := none }, accessFlags := 2, code := none }
def k11c1 : Code := { maxStack := 2, maxLocals := 1, code := jdk_31_method_10_code, exceptionTable := #[], attributes := #[] }
def k11m1 : Method := { name := "requireNonNull", desc := "(Ljava/lang/Object;)Ljava/lang/Object;", sig := { parameters := [(.object "java/lang/Object")], returnType := some (.object "java/lang/Object") }, accessFlags := 9, code := some k11c1 }
def k11c2 : Code := { maxStack := 3, maxLocals := 2, code := jdk_31_method_11_code, exceptionTable := #[], attributes := #[] }
def k11m2 : Method := { name := "requireNonNull", desc := "(Ljava/lang/Object;Ljava/lang/String;)Ljava/lang/Object;", sig := { parameters := [(.object "java/lang/Object"), (.object "java/lang/String")], returnType := some (.object "java/lang/Object") }, accessFlags := 9, code := some k11c2 }
/-- java/util/Objects -/
def k11 : Class := { plain "java/util/Objects" (some 0) with
  accessFlags := 49
  interfaces := #[]
  cf := some (fileOf pool11 42 #[] #[{ accessFlags := 2, nameIndex := 5, descriptorIndex := 6, attributes := #[] }, { accessFlags := 9, nameIndex := 45, descriptorIndex := 46, attributes := #[] }, { accessFlags := 9, nameIndex := 45, descriptorIndex := 94, attributes := #[] }] 49 2 #[] #[])
  fields := #[]
  methods := #[k11m0, k11m1, k11m2]
  instanceTypes := #[]
  staticTypes := #[]
  resolved := Array.replicate 184 none
  statics := none }

def pool12 : Array CpInfo := pool [(8, .class_ 10), (1, u "java/lang/Iterable"), (24, .class_ 36), (0, u "java/lang/Object")] 25

/-- java/lang/Iterable -/
def k12 : Class := { plain "java/lang/Iterable" (some 0) with
  accessFlags := 1537
  interfaces := #[]
  cf := some (fileOf pool12 8 #[] #[] 1537 35 #[] #[])
  fields := #[]
  methods := #[]
  instanceTypes := #[]
  staticTypes := #[]
  resolved := Array.replicate 62 none
  statics := none }

def pool13 : Array CpInfo := pool [(10, .class_ 12), (1, u "java/util/Collection"), (0, u "toArray"), (16, u "()Z"), (29, .class_ 61), (0, u "java/lang/Object"), (0, .class_ 63), (0, u "java/lang/Iterable"), (2, u "isEmpty"), (3, u "()[Ljava/lang/Object;")] 44

def k13m0 : Method := { name := "isEmpty", desc := "()Z", sig := { parameters := [], returnType := some .boolean }, accessFlags := 1025, code := none }
def k13m1 : Method := { name := "toArray", desc := "()[Ljava/lang/Object;", sig := { parameters := [], returnType := some (.array (.object "java/lang/Object")) }, accessFlags := 1025, code := none }
/-- java/util/Collection -/
def k13 : Class := { plain "java/util/Collection" (some 0) with
  accessFlags := 1537
  interfaces := #[12]
  cf := some (fileOf pool13 10 #[] #[{ accessFlags := 1025, nameIndex := 66, descriptorIndex := 30, attributes := #[] }, { accessFlags := 1025, nameIndex := 13, descriptorIndex := 70, attributes := #[] }] 1537 60 #[62] #[])
  fields := #[]
  methods := #[k13m0, k13m1]
  instanceTypes := #[]
  staticTypes := #[]
  resolved := Array.replicate 115 none
  statics := none }

def pool14 : Array CpInfo := pool [(1, .methodref 2 3), (0, .class_ 4), (0, .nameAndType 5 6), (0, u "java/lang/Object"), (0, u "<init>"), (0, u "()V"), (1, .class_ 10), (1, u "java/util/AbstractCollection"), (66, .class_ 78), (0, u "java/util/Collection")] 81

def k14c0 : Code := { maxStack := 1, maxLocals := 1, code := jdk_22_method_1_code, exceptionTable := #[], attributes := #[] }
def k14m0 : Method := { name := "<init>", desc := "()V", sig := { parameters := [], returnType := none }, accessFlags := 4, code := some k14c0 }
/-- java/util/AbstractCollection -/
def k14 : Class := { plain "java/util/AbstractCollection" (some 0) with
  accessFlags := 1057
  interfaces := #[13]
  cf := some (fileOf pool14 8 #[] #[{ accessFlags := 4, nameIndex := 5, descriptorIndex := 6, attributes := #[] }] 1057 2 #[77] #[])
  fields := #[]
  methods := #[k14m0]
  instanceTypes := #[]
  staticTypes := #[]
  resolved := Array.replicate 160 none
  statics := none }

def pool15 : Array CpInfo := pool [(8, .class_ 10), (1, u "java/util/SequencedCollection"), (15, .class_ 27), (0, u "java/lang/Object"), (0, .class_ 29), (0, u "java/util/Collection")] 27

/-- java/util/SequencedCollection -/
def k15 : Class := { plain "java/util/SequencedCollection" (some 0) with
  accessFlags := 1537
  interfaces := #[13]
  cf := some (fileOf pool15 8 #[] #[] 1537 26 #[28] #[])
  fields := #[]
  methods := #[]
  instanceTypes := #[]
  staticTypes := #[]
  resolved := Array.replicate 57 none
  statics := none }

def pool16 : Array CpInfo := pool [(8, .class_ 10), (1, u "java/util/List"), (7, u "()Z"), (12, u "(Ljava/lang/Object;)V"), (16, u "<init>"), (11, u "add"), (3, u "(Ljava/lang/Object;)Z"), (2, u "isEmpty"), (7, u "get"), (0, u "(I)Ljava/lang/Object;"), (2, u "size"), (0, u "()I"), (7, u "of"), (1, .fieldref 91 92), (0, .class_ 93), (0, .nameAndType 94 95), (0, u "java/util/ImmutableCollections"), (0, u "EMPTY_LIST"), (0, u "Ljava/util/ImmutableCollections$ListN;"), (0, .class_ 97), (0, u "java/util/ImmutableCollections$List12"), (0, .methodref 96 99), (0, .nameAndType 48 31), (0, .methodref 96 101), (0, .nameAndType 48 102), (0, u "(Ljava/lang/Object;Ljava/lang/Object;)V"), (0, .class_ 104), (0, u "java/lang/Object"), (3, u "([Ljava/lang/Object;)Ljava/util/List;"), (0, .methodref 91 110), (0, .nameAndType 111 108), (0, u "listFromArray"), (0, .methodref 91 113), (0, .nameAndType 114 115), (0, u "listCopy"), (0, u "(Ljava/util/Collection;)Ljava/util/List;"), (3, u "()Ljava/util/List;"), (0, .class_ 121), (0, u "java/util/SequencedCollection"), (112, u "copyOf")] 16

def k16m0 : Method := { name := "size", desc := "()I", sig := { parameters := [], returnType := some .int }, accessFlags := 1025, code := none }
def k16m1 : Method := { name := "isEmpty", desc := "()Z", sig := { parameters := [], returnType := some .boolean }, accessFlags := 1025, code := none }
def k16m2 : Method := { name := "add", desc := "(Ljava/lang/Object;)Z", sig := { parameters := [(.object "java/lang/Object")], returnType := some .boolean }, accessFlags := 1025, code := none }
def k16m3 : Method := { name := "get", desc := "(I)Ljava/lang/Object;", sig := { parameters := [.int], returnType := some (.object "java/lang/Object") }, accessFlags := 1025, code := none }
def k16c4 : Code := { maxStack := 1, maxLocals := 0, code := jdk_40_method_36_code, exceptionTable := #[], attributes := #[] }
def k16m4 : Method := { name := "of", desc := "()Ljava/util/List;", sig := { parameters := [], returnType := some (.object "java/util/List") }, accessFlags := 9, code := some k16c4 }
def k16c5 : Code := { maxStack := 5, maxLocals := 2, code := jdk_40_method_47_code, exceptionTable := #[], attributes := #[] }
def k16m5 : Method := { name := "of", desc := "([Ljava/lang/Object;)Ljava/util/List;", sig := { parameters := [(.array (.object "java/lang/Object"))], returnType := some (.object "java/util/List") }, accessFlags := 137, code := some k16c5 }
def k16c6 : Code := { maxStack := 1, maxLocals := 1, code := jdk_40_method_48_code, exceptionTable := #[], attributes := #[] }
def k16m6 : Method := { name := "copyOf", desc := "(Ljava/util/Collection;)Ljava/util/List;", sig := { parameters := [(.object "java/util/Collection")], returnType := some (.object "java/util/List") }, accessFlags := 9, code := some k16c6 }
/-- java/util/List -/
def k16 : Class := { plain "java/util/List" (some 0) with
  accessFlags := 1537
  interfaces := #[15]
  cf := some (fileOf pool16 8 #[] #[{ accessFlags := 1025, nameIndex := 79, descriptorIndex := 80, attributes := #[] }, { accessFlags := 1025, nameIndex := 67, descriptorIndex := 18, attributes := #[] }, { accessFlags := 1025, nameIndex := 60, descriptorIndex := 64, attributes := #[] }, { accessFlags := 1025, nameIndex := 75, descriptorIndex := 76, attributes := #[] }, { accessFlags := 9, nameIndex := 88, descriptorIndex := 119, attributes := #[] }, { accessFlags := 137, nameIndex := 88, descriptorIndex := 108, attributes := #[] }, { accessFlags := 9, nameIndex := 234, descriptorIndex := 115, attributes := #[] }] 1537 103 #[120] #[])
  fields := #[]
  methods := #[k16m0, k16m1, k16m2, k16m3, k16m4, k16m5, k16m6]
  instanceTypes := #[]
  staticTypes := #[]
  resolved := Array.replicate 251 none
  statics := none }

def pool17 : Array CpInfo := pool [(1, .methodref 2 3), (0, .class_ 4), (0, .nameAndType 5 6), (0, u "java/util/AbstractCollection"), (0, u "<init>"), (0, u "()V"), (0, .fieldref 8 9), (0, .class_ 10), (0, .nameAndType 11 12), (0, u "java/util/AbstractList"), (0, u "modCount"), (0, u "I"), (64, .class_ 78), (0, u "java/util/AbstractList$Itr"), (3, .class_ 83), (0, u "java/util/AbstractList$ListItr"), (9, .class_ 94), (0, u "java/util/AbstractList$RandomAccessSubList"), (3, .class_ 99), (0, u "java/util/AbstractList$SubList"), (33, .class_ 134), (0, u "java/util/List"), (73, .class_ 209), (0, u "java/util/AbstractList$SubList$1"), (0, .class_ 211), (0, u "java/util/AbstractList$RandomAccessSpliterator")] 6

def k17c0 : Code := { maxStack := 2, maxLocals := 1, code := jdk_39_method_1_code, exceptionTable := #[], attributes := #[] }
def k17m0 : Method := { name := "<init>", desc := "()V", sig := { parameters := [], returnType := none }, accessFlags := 4, code := some k17c0 }
/-- java/util/AbstractList -/
def k17 : Class := { plain "java/util/AbstractList" (some 14) with
  accessFlags := 1057
  interfaces := #[16]
  cf := some (fileOf pool17 8 #[.nestMembers #[93, 98, 208, 210, 82, 77]] #[{ accessFlags := 4, nameIndex := 5, descriptorIndex := 6, attributes := #[] }] 1057 2 #[133] #[{ accessFlags := 132, nameIndex := 11, descriptorIndex := 12, attributes := #[] }])
  fields := #[{ name := "modCount", type := .int, accessFlags := 132, slot := 0, constantValue := 0 }]
  methods := #[k17m0]
  instanceTypes := #[.int]
  staticTypes := #[]
  resolved := Array.replicate 218 none
  statics := none }

def pool18 : Array CpInfo := pool [(1, .class_ 2), (0, u "java/util/RandomAccess"), (0, .class_ 4), (0, u "java/lang/Object")] 2

/-- java/util/RandomAccess -/
def k18 : Class := { plain "java/util/RandomAccess" (some 0) with
  accessFlags := 1537
  interfaces := #[]
  cf := some (fileOf pool18 1 #[] #[] 1537 3 #[] #[])
  fields := #[]
  methods := #[]
  instanceTypes := #[]
  staticTypes := #[]
  resolved := Array.replicate 7 none
  statics := none }

def pool19 : Array CpInfo := pool [(1, .class_ 2), (0, u "java/lang/Cloneable"), (0, .class_ 4), (0, u "java/lang/Object")] 2

/-- java/lang/Cloneable -/
def k19 : Class := { plain "java/lang/Cloneable" (some 0) with
  accessFlags := 1537
  interfaces := #[]
  cf := some (fileOf pool19 1 #[] #[] 1537 3 #[] #[])
  fields := #[]
  methods := #[]
  instanceTypes := #[]
  staticTypes := #[]
  resolved := Array.replicate 7 none
  statics := none }

def pool20 : Array CpInfo := pool [(1, .methodref 2 3), (0, .class_ 4), (0, .nameAndType 5 6), (0, u "java/util/AbstractList"), (0, u "<init>"), (0, u "()V"), (0, .class_ 8), (0, u "java/lang/Object"), (0, .fieldref 10 11), (0, .class_ 12), (0, .nameAndType 13 14), (0, u "java/util/ArrayList"), (0, u "elementData"), (0, u "[Ljava/lang/Object;"), (2, u "EMPTY_ELEMENTDATA"), (21, .fieldref 10 40), (0, .nameAndType 41 14), (0, u "DEFAULTCAPACITY_EMPTY_ELEMENTDATA"), (4, u "toArray"), (0, u "()[Ljava/lang/Object;"), (0, .fieldref 10 49), (0, .nameAndType 50 51), (0, u "size"), (0, u "I"), (6, .class_ 60), (1, u "java/util/Arrays"), (0, u "copyOf"), (1, .fieldref 10 64), (0, .nameAndType 65 51), (0, u "modCount"), (0, .methodref 58 67), (0, .nameAndType 61 68), (0, u "([Ljava/lang/Object;I)[Ljava/lang/Object;"), (0, .methodref 10 70), (0, .nameAndType 71 72), (0, u "grow"), (0, u "(I)[Ljava/lang/Object;"), (6, .methodref 80 81), (0, .class_ 82), (0, .nameAndType 83 84), (0, u "java/lang/Math"), (0, u "max"), (0, u "(II)I"), (11, u "(Ljava/lang/Object;)Z"), (32, .methodref 10 130), (0, .nameAndType 71 47), (0, .methodref 10 132), (0, .nameAndType 133 134), (0, u "add"), (0, u "(Ljava/lang/Object;[Ljava/lang/Object;I)V"), (13, .class_ 149), (0, u "java/util/List"), (23, u "()Z"), (88, .class_ 263), (0, u "java/util/ArrayList$ListItr"), (3, .class_ 268), (0, u "java/util/ArrayList$Itr"), (7, .class_ 277), (0, u "java/util/ArrayList$SubList"), (12, .class_ 291), (0, u "java/util/ArrayList$ArrayListSpliterator"), (37, .class_ 330), (0, u "java/util/RandomAccess"), (0, .class_ 332), (0, u "java/lang/Cloneable"), (0, .class_ 334), (0, u "java/io/Serializable"), (0, u "serialVersionUID"), (0, u "J"), (3, u "DEFAULT_CAPACITY"), (22, u "isEmpty"), (136, .class_ 501), (0, u "java/util/ArrayList$SubList$2"), (0, .class_ 503), (0, u "java/util/ArrayList$SubList$1")] 5

def k20c0 : Code := { maxStack := 2, maxLocals := 1, code := jdk_38_method_2_code, exceptionTable := #[], attributes := #[] }
def k20m0 : Method := { name := "<init>", desc := "()V", sig := { parameters := [], returnType := none }, accessFlags := 1, code := some k20c0 }
def k20c1 : Code := { maxStack := 4, maxLocals := 4, code := jdk_38_method_6_code, exceptionTable := #[], attributes := #[] }
def k20m1 : Method := { name := "grow", desc := "(I)[Ljava/lang/Object;", sig := { parameters := [.int], returnType := some (.array (.object "java/lang/Object")) }, accessFlags := 2, code := some k20c1 }
def k20c2 : Code := { maxStack := 3, maxLocals := 1, code := jdk_38_method_7_code, exceptionTable := #[], attributes := #[] }
def k20m2 : Method := { name := "grow", desc := "()[Ljava/lang/Object;", sig := { parameters := [], returnType := some (.array (.object "java/lang/Object")) }, accessFlags := 2, code := some k20c2 }
def k20c3 : Code := { maxStack := 1, maxLocals := 1, code := jdk_38_method_9_code, exceptionTable := #[], attributes := #[] }
def k20m3 : Method := { name := "isEmpty", desc := "()Z", sig := { parameters := [], returnType := some .boolean }, accessFlags := 1, code := some k20c3 }
def k20c4 : Code := { maxStack := 2, maxLocals := 1, code := jdk_38_method_16_code, exceptionTable := #[], attributes := #[] }
def k20m4 : Method := { name := "toArray", desc := "()[Ljava/lang/Object;", sig := { parameters := [], returnType := some (.array (.object "java/lang/Object")) }, accessFlags := 1, code := some k20c4 }
def k20c5 : Code := { maxStack := 3, maxLocals := 4, code := jdk_38_method_24_code, exceptionTable := #[], attributes := #[] }
def k20m5 : Method := { name := "add", desc := "(Ljava/lang/Object;[Ljava/lang/Object;I)V", sig := { parameters := [(.object "java/lang/Object"), (.array (.object "java/lang/Object")), .int], returnType := none }, accessFlags := 2, code := some k20c5 }
def k20c6 : Code := { maxStack := 4, maxLocals := 2, code := jdk_38_method_25_code, exceptionTable := #[], attributes := #[] }
def k20m6 : Method := { name := "add", desc := "(Ljava/lang/Object;)Z", sig := { parameters := [(.object "java/lang/Object")], returnType := some .boolean }, accessFlags := 1, code := some k20c6 }
/-- java/util/ArrayList -/
def k20 : Class := { plain "java/util/ArrayList" (some 17) with
  accessFlags := 33
  interfaces := #[16, 18, 19, 2]
  cf := some (fileOf pool20 10 #[.nestMembers #[290, 276, 500, 502, 262, 267]] #[{ accessFlags := 1, nameIndex := 5, descriptorIndex := 6, attributes := #[] }, { accessFlags := 2, nameIndex := 71, descriptorIndex := 72, attributes := #[] }, { accessFlags := 2, nameIndex := 71, descriptorIndex := 47, attributes := #[] }, { accessFlags := 1, nameIndex := 363, descriptorIndex := 173, attributes := #[] }, { accessFlags := 1, nameIndex := 46, descriptorIndex := 47, attributes := #[] }, { accessFlags := 2, nameIndex := 133, descriptorIndex := 134, attributes := #[] }, { accessFlags := 1, nameIndex := 133, descriptorIndex := 96, attributes := #[] }] 33 2 #[148, 329, 331, 333] #[{ accessFlags := 26, nameIndex := 335, descriptorIndex := 336, attributes := #[] }, { accessFlags := 26, nameIndex := 340, descriptorIndex := 51, attributes := #[] }, { accessFlags := 26, nameIndex := 17, descriptorIndex := 14, attributes := #[] }, { accessFlags := 26, nameIndex := 41, descriptorIndex := 14, attributes := #[] }, { accessFlags := 128, nameIndex := 13, descriptorIndex := 14, attributes := #[] }, { accessFlags := 2, nameIndex := 50, descriptorIndex := 51, attributes := #[] }])
  fields := #[{ name := "serialVersionUID", type := .long, accessFlags := 26, slot := 0, constantValue := 0 }, { name := "DEFAULT_CAPACITY", type := .int, accessFlags := 26, slot := 1, constantValue := 0 }, { name := "EMPTY_ELEMENTDATA", type := (.array (.object "java/lang/Object")), accessFlags := 26, slot := 2, constantValue := 0 }, { name := "DEFAULTCAPACITY_EMPTY_ELEMENTDATA", type := (.array (.object "java/lang/Object")), accessFlags := 26, slot := 3, constantValue := 0 }, { name := "elementData", type := (.array (.object "java/lang/Object")), accessFlags := 128, slot := 1, constantValue := 0 }, { name := "size", type := .int, accessFlags := 2, slot := 2, constantValue := 0 }]
  methods := #[k20m0, k20m1, k20m2, k20m3, k20m4, k20m5, k20m6]
  instanceTypes := #[.int, (.array (.object "java/lang/Object")), .int]
  staticTypes := #[.long, .int, (.array (.object "java/lang/Object")), (.array (.object "java/lang/Object"))]
  resolved := Array.replicate 509 none
  statics := some 1 }

def pool21 : Array CpInfo := pool [(1, .fieldref 2 3), (0, .class_ 4), (0, .nameAndType 5 6), (0, u "java/util/Optional"), (0, u "EMPTY"), (0, u "Ljava/util/Optional;"), (0, .methodref 8 9), (0, .class_ 10), (0, .nameAndType 11 12), (0, u "java/lang/Object"), (0, u "<init>"), (0, u "()V"), (0, .fieldref 2 14), (0, .nameAndType 15 16), (0, u "value"), (0, u "Ljava/lang/Object;"), (0, .methodref 18 19), (0, .class_ 20), (0, .nameAndType 21 22), (0, u "java/util/Objects"), (0, u "requireNonNull"), (0, u "(Ljava/lang/Object;)Ljava/lang/Object;"), (0, .methodref 2 24), (0, .nameAndType 11 25), (0, u "(Ljava/lang/Object;)V"), (17, .methodref 2 44), (0, .nameAndType 45 46), (0, u "isEmpty"), (0, u "()Z"), (6, .methodref 2 54), (0, .nameAndType 55 56), (0, u "empty"), (0, u "()Ljava/util/Optional;"), (0, .interfaceMethodref 58 59), (0, .class_ 60), (0, .nameAndType 61 22), (0, u "java/util/function/Function"), (0, u "apply"), (0, .methodref 2 63), (0, .nameAndType 64 65), (0, u "ofNullable"), (0, u "(Ljava/lang/Object;)Ljava/util/Optional;"), (2, u "isPresent"), (4, u "get"), (0, u "()Ljava/lang/Object;"), (7, u "of"), (63, u "map"), (0, u "(Ljava/util/function/Function;)Ljava/util/Optional;")] 39

def k21c0 : Code := { maxStack := 1, maxLocals := 1, code := jdk_32_method_1_code, exceptionTable := #[], attributes := #[] }
def k21m0 : Method := { name := "empty", desc := "()Ljava/util/Optional;", sig := { parameters := [], returnType := some (.object "java/util/Optional") }, accessFlags := 9, code := some k21c0 }
def k21c1 : Code := { maxStack := 2, maxLocals := 2, code := jdk_32_method_2_code, exceptionTable := #[], attributes := #[] }
def k21m1 : Method := { name := "<init>", desc := "(Ljava/lang/Object;)V", sig := { parameters := [(.object "java/lang/Object")], returnType := none }, accessFlags := 2, code := some k21c1 }
def k21c2 : Code := { maxStack := 3, maxLocals := 1, code := jdk_32_method_3_code, exceptionTable := #[], attributes := #[] }
def k21m2 : Method := { name := "of", desc := "(Ljava/lang/Object;)Ljava/util/Optional;", sig := { parameters := [(.object "java/lang/Object")], returnType := some (.object "java/util/Optional") }, accessFlags := 9, code := some k21c2 }
def k21c3 : Code := { maxStack := 3, maxLocals := 1, code := jdk_32_method_4_code, exceptionTable := #[], attributes := #[] }
def k21m3 : Method := { name := "ofNullable", desc := "(Ljava/lang/Object;)Ljava/util/Optional;", sig := { parameters := [(.object "java/lang/Object")], returnType := some (.object "java/util/Optional") }, accessFlags := 9, code := some k21c3 }
def k21c4 : Code := { maxStack := 3, maxLocals := 1, code := jdk_32_method_5_code, exceptionTable := #[], attributes := #[] }
def k21m4 : Method := { name := "get", desc := "()Ljava/lang/Object;", sig := { parameters := [], returnType := some (.object "java/lang/Object") }, accessFlags := 1, code := some k21c4 }
def k21c5 : Code := { maxStack := 1, maxLocals := 1, code := jdk_32_method_6_code, exceptionTable := #[], attributes := #[] }
def k21m5 : Method := { name := "isPresent", desc := "()Z", sig := { parameters := [], returnType := some .boolean }, accessFlags := 1, code := some k21c5 }
def k21c6 : Code := { maxStack := 1, maxLocals := 1, code := jdk_32_method_7_code, exceptionTable := #[], attributes := #[] }
def k21m6 : Method := { name := "isEmpty", desc := "()Z", sig := { parameters := [], returnType := some .boolean }, accessFlags := 1, code := some k21c6 }
def k21c7 : Code := { maxStack := 2, maxLocals := 2, code := jdk_32_method_11_code, exceptionTable := #[], attributes := #[] }
def k21m7 : Method := { name := "map", desc := "(Ljava/util/function/Function;)Ljava/util/Optional;", sig := { parameters := [(.object "java/util/function/Function")], returnType := some (.object "java/util/Optional") }, accessFlags := 1, code := some k21c7 }
/-- java/util/Optional -/
def k21 : Class := { plain "java/util/Optional" (some 0) with
  accessFlags := 49
  interfaces := #[]
  cf := some (fileOf pool21 2 #[] #[{ accessFlags := 9, nameIndex := 55, descriptorIndex := 56, attributes := #[] }, { accessFlags := 2, nameIndex := 11, descriptorIndex := 25, attributes := #[] }, { accessFlags := 9, nameIndex := 82, descriptorIndex := 65, attributes := #[] }, { accessFlags := 9, nameIndex := 64, descriptorIndex := 65, attributes := #[] }, { accessFlags := 1, nameIndex := 73, descriptorIndex := 74, attributes := #[] }, { accessFlags := 1, nameIndex := 68, descriptorIndex := 46, attributes := #[] }, { accessFlags := 1, nameIndex := 45, descriptorIndex := 46, attributes := #[] }, { accessFlags := 1, nameIndex := 146, descriptorIndex := 147, attributes := #[] }] 49 8 #[] #[{ accessFlags := 26, nameIndex := 5, descriptorIndex := 6, attributes := #[] }, { accessFlags := 18, nameIndex := 15, descriptorIndex := 16, attributes := #[] }])
  fields := #[{ name := "EMPTY", type := (.object "java/util/Optional"), accessFlags := 26, slot := 0, constantValue := 0 }, { name := "value", type := (.object "java/lang/Object"), accessFlags := 18, slot := 0, constantValue := 0 }]
  methods := #[k21m0, k21m1, k21m2, k21m3, k21m4, k21m5, k21m6, k21m7]
  instanceTypes := #[(.object "java/lang/Object")]
  staticTypes := #[(.object "java/util/Optional")]
  resolved := Array.replicate 187 none
  statics := some 2 }

def pool22 : Array CpInfo := pool [(1, .methodref 2 3), (0, .class_ 4), (0, .nameAndType 5 6), (0, u "java/lang/Record"), (0, u "<init>"), (0, u "()V"), (0, .interfaceMethodref 8 9), (0, .class_ 10), (0, .nameAndType 11 12), (0, u "java/util/List"), (0, u "copyOf"), (0, u "(Ljava/util/Collection;)Ljava/util/List;"), (0, .string 14), (0, u "text"), (0, .methodref 16 17), (0, .class_ 18), (0, .nameAndType 19 20), (0, u "java/util/Objects"), (0, u "requireNonNull"), (0, u "(Ljava/lang/Object;Ljava/lang/String;)Ljava/lang/Object;"), (0, .methodref 22 23), (0, .class_ 24), (0, .nameAndType 25 26), (0, u "java/util/Optional"), (0, u "isPresent"), (0, u "()Z"), (0, .interfaceMethodref 8 28), (0, .nameAndType 29 26), (0, u "isEmpty"), (7, .fieldref 38 39), (0, .class_ 40), (0, .nameAndType 41 42), (0, u "com/example/lexbind/lexbind/messages/Explanation"), (0, u "steps"), (0, u "Ljava/util/List;"), (0, .fieldref 38 44), (0, .nameAndType 14 45), (0, u "Ljava/util/Optional;"), (0, .fieldref 38 47), (0, .nameAndType 48 42), (0, u "readAgain"), (6, u "(Ljava/util/List;Ljava/util/Optional;Ljava/util/List;)V"), (0, .invokeDynamic 0 57), (0, .nameAndType 58 59), (0, u "apply"), (0, u "(Lcom/example/lexbind/lexbind/messages/Explanation;)Ljava/util/function/Function;"), (0, .methodref 22 61), (0, .nameAndType 62 63), (0, u "map"), (0, u "(Ljava/util/function/Function;)Ljava/util/Optional;"), (8, u "answer"), (0, u "()Ljava/util/Optional;"), (8, u "(Ljava/lang/Object;)Ljava/lang/Object;"), (10, .interfaceMethodref 8 94), (0, .nameAndType 95 96), (0, u "size"), (0, u "()I"), (0, .interfaceMethodref 8 98), (0, .nameAndType 99 100), (0, u "get"), (0, u "(I)Ljava/lang/Object;"), (0, .class_ 102), (0, u "com/example/lexbind/lexbind/messages/Explanation$Step"), (28, u "lambda$answer$0"), (0, u "(Ljava/lang/String;)Lcom/example/lexbind/lexbind/messages/Explanation$Step;"), (5, .methodType 82), (0, .methodHandle 5 140), (0, .methodref 38 141), (0, .nameAndType 131 132), (0, .methodType 132), (15, .methodHandle 6 159), (0, .methodref 160 161), (0, .class_ 162), (0, .nameAndType 163 164), (0, u "java/lang/invoke/LambdaMetafactory"), (0, u "metafactory"), (0, u "(Ljava/lang/invoke/MethodHandles$Lookup;Ljava/lang/String;Ljava/lang/invoke/MethodType;Ljava/lang/invoke/MethodType;Ljava/lang/invoke/MethodHandle;Ljava/lang/invoke/MethodType;)Ljava/lang/invoke/CallSite;")] 20

def k22c0 : Code := { maxStack := 3, maxLocals := 4, code := prog_36_method_1_code, exceptionTable := #[], attributes := #[] }
def k22m0 : Method := { name := "<init>", desc := "(Ljava/util/List;Ljava/util/Optional;Ljava/util/List;)V", sig := { parameters := [(.object "java/util/List"), (.object "java/util/Optional"), (.object "java/util/List")], returnType := none }, accessFlags := 1, code := some k22c0 }
def k22c1 : Code := { maxStack := 2, maxLocals := 1, code := prog_36_method_3_code, exceptionTable := #[], attributes := #[] }
def k22m1 : Method := { name := "answer", desc := "()Ljava/util/Optional;", sig := { parameters := [], returnType := some (.object "java/util/Optional") }, accessFlags := 1, code := some k22c1 }
def k22c2 : Code := { maxStack := 3, maxLocals := 2, code := prog_36_method_11_code, exceptionTable := #[], attributes := #[] }
def k22m2 : Method := { name := "lambda$answer$0", desc := "(Ljava/lang/String;)Lcom/example/lexbind/lexbind/messages/Explanation$Step;", sig := { parameters := [(.object "java/lang/String")], returnType := some (.object "com/example/lexbind/lexbind/messages/Explanation$Step") }, accessFlags := 4098, code := some k22c2 }
/-- com/example/lexbind/lexbind/messages/Explanation -/
def k22 : Class := { plain "com/example/lexbind/lexbind/messages/Explanation" (some 9) with
  accessFlags := 49
  interfaces := #[]
  cf := some (fileOf pool22 38 #[.nestMembers #[101], .bootstrapMethods #[⟨158, #[138, 139, 142]⟩, ⟨0, #[]⟩, ⟨0, #[]⟩, ⟨0, #[]⟩, ⟨0, #[]⟩, ⟨0, #[]⟩]] #[{ accessFlags := 1, nameIndex := 5, descriptorIndex := 55, attributes := #[] }, { accessFlags := 1, nameIndex := 72, descriptorIndex := 73, attributes := #[] }, { accessFlags := 4098, nameIndex := 131, descriptorIndex := 132, attributes := #[] }] 49 2 #[] #[{ accessFlags := 18, nameIndex := 41, descriptorIndex := 42, attributes := #[] }, { accessFlags := 18, nameIndex := 14, descriptorIndex := 45, attributes := #[] }, { accessFlags := 18, nameIndex := 48, descriptorIndex := 42, attributes := #[] }])
  fields := #[{ name := "steps", type := (.object "java/util/List"), accessFlags := 18, slot := 0, constantValue := 0 }, { name := "text", type := (.object "java/util/Optional"), accessFlags := 18, slot := 1, constantValue := 0 }, { name := "readAgain", type := (.object "java/util/List"), accessFlags := 18, slot := 2, constantValue := 0 }]
  methods := #[k22m0, k22m1, k22m2]
  instanceTypes := #[(.object "java/util/List"), (.object "java/util/Optional"), (.object "java/util/List")]
  staticTypes := #[]
  resolved := Array.replicate 185 none
  callSites := [(1, 5, .makes 43)]
  statics := none }

def pool23 : Array CpInfo := pool [(2, .class_ 4), (1, u "java/lang/Object"), (0, u "<init>"), (0, u "()V"), (3, .class_ 11), (0, u "java/util/ImmutableCollections$List12"), (0, .class_ 13), (0, u "java/util/ImmutableCollections$ListN"), (3, u "Z"), (0, .class_ 19), (0, u "java/util/List"), (0, .interfaceMethodref 21 22), (0, .class_ 23), (0, .nameAndType 24 25), (0, u "java/util/Collection"), (0, u "isEmpty"), (0, u "()Z"), (0, .interfaceMethodref 18 27), (0, .nameAndType 28 29), (0, u "of"), (0, u "()Ljava/util/List;"), (0, .interfaceMethodref 21 31), (0, .nameAndType 32 33), (0, u "toArray"), (0, u "()[Ljava/lang/Object;"), (0, .interfaceMethodref 18 35), (0, .nameAndType 28 36), (0, u "([Ljava/lang/Object;)Ljava/util/List;"), (0, .methodref 38 39), (0, .class_ 40), (0, .nameAndType 41 42), (0, u "java/util/Objects"), (0, u "requireNonNull"), (0, u "(Ljava/lang/Object;)Ljava/lang/Object;"), (0, .methodref 12 44), (0, .nameAndType 5 45), (0, u "([Ljava/lang/Object;Z)V"), (1, .class_ 49), (1, u "java/util/ImmutableCollections"), (0, u "$assertionsDisabled"), (5, u "[Ljava/lang/Object;"), (5, u "EMPTY_LIST"), (0, u "Ljava/util/ImmutableCollections$ListN;"), (8, u "EMPTY_LIST_NULLS"), (22, u "SALT32L"), (0, u "J"), (2, u "REVERSE"), (6, u "archivedObjects"), (2, u "EMPTY"), (0, u "Ljava/lang/Object;"), (0, .class_ 112), (0, u "java/util/ImmutableCollections$SetN"), (5, u "EMPTY_SET"), (0, u "Ljava/util/ImmutableCollections$SetN;"), (0, .class_ 121), (0, u "java/util/ImmutableCollections$MapN"), (3, u "EMPTY_MAP"), (0, u "Ljava/util/ImmutableCollections$MapN;"), (4, u "EXPAND_FACTOR"), (0, u "I"), (9, u "listCopy"), (0, u "(Ljava/util/Collection;)Ljava/util/List;"), (7, u "listFromArray"), (17, .class_ 170), (0, u "java/util/ImmutableCollections$MapN$MapNIterator"), (0, .class_ 172), (0, u "java/util/ImmutableCollections$MapN$1"), (0, .class_ 174), (0, u "java/util/ImmutableCollections$Map1"), (0, .class_ 176), (0, u "java/util/ImmutableCollections$AbstractImmutableMap"), (0, .class_ 178), (0, u "java/util/ImmutableCollections$SetN$SetNIterator"), (0, .class_ 180), (0, u "java/util/ImmutableCollections$Set12"), (0, .class_ 182), (0, u "java/util/ImmutableCollections$Set12$1"), (0, .class_ 184), (0, u "java/util/ImmutableCollections$AbstractImmutableSet"), (0, .class_ 186), (0, u "java/util/ImmutableCollections$SubList"), (0, .class_ 188), (0, u "java/util/ImmutableCollections$ListItr"), (0, .class_ 190), (0, u "java/util/ImmutableCollections$AbstractImmutableList"), (0, .class_ 192), (0, u "java/util/ImmutableCollections$AbstractImmutableCollection"), (0, .class_ 194), (0, u "java/util/ImmutableCollections$Access"), (0, .class_ 196), (0, u "java/util/ImmutableCollections$Access$1")] 16

def k23m0 : Method := { name := "<init>", desc := "()V", sig := { parameters := [], returnType := none }, accessFlags := 2, code := none }
def k23c1 : Code := { maxStack := 1, maxLocals := 2, code := jdk_56_method_3_code, exceptionTable := #[], attributes := #[] }
def k23m1 : Method := { name := "listCopy", desc := "(Ljava/util/Collection;)Ljava/util/List;", sig := { parameters := [(.object "java/util/Collection")], returnType := some (.object "java/util/List") }, accessFlags := 8, code := some k23c1 }
def k23c2 : Code := { maxStack := 4, maxLocals := 3, code := jdk_56_method_4_code, exceptionTable := #[], attributes := #[] }
def k23m2 : Method := { name := "listFromArray", desc := "([Ljava/lang/Object;)Ljava/util/List;", sig := { parameters := [(.array (.object "java/lang/Object"))], returnType := some (.object "java/util/List") }, accessFlags := 136, code := some k23c2 }
/-- java/util/ImmutableCollections -/
def k23 : Class := { plain "java/util/ImmutableCollections" (some 0) with
  accessFlags := 32
  interfaces := #[]
  cf := some (fileOf pool23 47 #[.nestMembers #[120, 169, 171, 173, 175, 111, 177, 179, 181, 183, 12, 10, 185, 187, 189, 191, 193, 195]] #[{ accessFlags := 2, nameIndex := 5, descriptorIndex := 6, attributes := #[] }, { accessFlags := 8, nameIndex := 142, descriptorIndex := 143, attributes := #[] }, { accessFlags := 136, nameIndex := 151, descriptorIndex := 36, attributes := #[] }] 32 2 #[] #[{ accessFlags := 26, nameIndex := 95, descriptorIndex := 96, attributes := #[] }, { accessFlags := 26, nameIndex := 99, descriptorIndex := 17, attributes := #[] }, { accessFlags := 10, nameIndex := 106, descriptorIndex := 56, attributes := #[] }, { accessFlags := 26, nameIndex := 109, descriptorIndex := 110, attributes := #[] }, { accessFlags := 24, nameIndex := 62, descriptorIndex := 63, attributes := #[] }, { accessFlags := 24, nameIndex := 72, descriptorIndex := 63, attributes := #[] }, { accessFlags := 24, nameIndex := 118, descriptorIndex := 119, attributes := #[] }, { accessFlags := 24, nameIndex := 125, descriptorIndex := 126, attributes := #[] }, { accessFlags := 24, nameIndex := 131, descriptorIndex := 132, attributes := #[] }, { accessFlags := 4120, nameIndex := 50, descriptorIndex := 17, attributes := #[] }])
  fields := #[{ name := "SALT32L", type := .long, accessFlags := 26, slot := 0, constantValue := 0 }, { name := "REVERSE", type := .boolean, accessFlags := 26, slot := 1, constantValue := 0 }, { name := "archivedObjects", type := (.array (.object "java/lang/Object")), accessFlags := 10, slot := 2, constantValue := 0 }, { name := "EMPTY", type := (.object "java/lang/Object"), accessFlags := 26, slot := 3, constantValue := 0 }, { name := "EMPTY_LIST", type := (.object "java/util/ImmutableCollections$ListN"), accessFlags := 24, slot := 4, constantValue := 0 }, { name := "EMPTY_LIST_NULLS", type := (.object "java/util/ImmutableCollections$ListN"), accessFlags := 24, slot := 5, constantValue := 0 }, { name := "EMPTY_SET", type := (.object "java/util/ImmutableCollections$SetN"), accessFlags := 24, slot := 6, constantValue := 0 }, { name := "EMPTY_MAP", type := (.object "java/util/ImmutableCollections$MapN"), accessFlags := 24, slot := 7, constantValue := 0 }, { name := "EXPAND_FACTOR", type := .int, accessFlags := 24, slot := 8, constantValue := 0 }, { name := "$assertionsDisabled", type := .boolean, accessFlags := 4120, slot := 9, constantValue := 0 }]
  methods := #[k23m0, k23m1, k23m2]
  instanceTypes := #[]
  staticTypes := #[.long, .boolean, (.array (.object "java/lang/Object")), (.object "java/lang/Object"), (.object "java/util/ImmutableCollections$ListN"), (.object "java/util/ImmutableCollections$ListN"), (.object "java/util/ImmutableCollections$SetN"), (.object "java/util/ImmutableCollections$MapN"), .int, .boolean]
  resolved := Array.replicate 213 none
  statics := some 3 }

def pool24 : Array CpInfo := pool [(1, .methodref 2 3), (0, .class_ 4), (0, .nameAndType 5 6), (0, u "java/util/AbstractCollection"), (0, u "<init>"), (0, u "()V"), (1, .class_ 10), (1, u "java/util/ImmutableCollections"), (2, .class_ 14), (0, u "java/util/ImmutableCollections$AbstractImmutableCollection")] 41

def k24c0 : Code := { maxStack := 1, maxLocals := 1, code := jdk_47_method_1_code, exceptionTable := #[], attributes := #[] }
def k24m0 : Method := { name := "<init>", desc := "()V", sig := { parameters := [], returnType := none }, accessFlags := 0, code := some k24c0 }
/-- java/util/ImmutableCollections$AbstractImmutableCollection -/
def k24 : Class := { plain "java/util/ImmutableCollections$AbstractImmutableCollection" (some 14) with
  accessFlags := 1056
  interfaces := #[]
  cf := some (fileOf pool24 13 #[.nestHost 8] #[{ accessFlags := 0, nameIndex := 5, descriptorIndex := 6, attributes := #[] }] 1056 2 #[] #[])
  fields := #[]
  methods := #[k24m0]
  instanceTypes := #[]
  staticTypes := #[]
  resolved := Array.replicate 56 none
  statics := none }

def pool25 : Array CpInfo := pool [(1, .methodref 2 3), (0, .class_ 4), (0, .nameAndType 5 6), (0, u "java/util/ImmutableCollections$AbstractImmutableCollection"), (0, u "<init>"), (0, u "()V"), (1, .class_ 10), (1, u "java/util/ImmutableCollections"), (3, .class_ 16), (1, u "java/util/ImmutableCollections$AbstractImmutableList"), (60, .class_ 78), (0, u "java/util/List"), (45, .class_ 125), (0, u "java/util/RandomAccess")] 70

def k25c0 : Code := { maxStack := 1, maxLocals := 1, code := jdk_46_method_1_code, exceptionTable := #[], attributes := #[] }
def k25m0 : Method := { name := "<init>", desc := "()V", sig := { parameters := [], returnType := none }, accessFlags := 0, code := some k25c0 }
/-- java/util/ImmutableCollections$AbstractImmutableList -/
def k25 : Class := { plain "java/util/ImmutableCollections$AbstractImmutableList" (some 24) with
  accessFlags := 1056
  interfaces := #[16, 18]
  cf := some (fileOf pool25 14 #[.nestHost 8] #[{ accessFlags := 0, nameIndex := 5, descriptorIndex := 6, attributes := #[] }] 1056 2 #[77, 124] #[])
  fields := #[]
  methods := #[k25m0]
  instanceTypes := #[]
  staticTypes := #[]
  resolved := Array.replicate 196 none
  statics := none }

def pool26 : Array CpInfo := pool [(1, .methodref 2 3), (0, .class_ 4), (0, .nameAndType 5 6), (0, u "java/util/ImmutableCollections$AbstractImmutableList"), (0, u "<init>"), (0, u "()V"), (0, .methodref 8 9), (0, .class_ 10), (0, .nameAndType 11 12), (0, u "java/util/Objects"), (0, u "requireNonNull"), (0, u "(Ljava/lang/Object;)Ljava/lang/Object;"), (0, .fieldref 14 15), (0, .class_ 16), (0, .nameAndType 17 18), (0, u "java/util/ImmutableCollections$List12"), (0, u "e0"), (0, u "Ljava/lang/Object;"), (0, .fieldref 20 21), (0, .class_ 22), (0, .nameAndType 23 18), (0, u "java/util/ImmutableCollections"), (0, u "EMPTY"), (0, .fieldref 14 25), (0, .nameAndType 26 18), (0, u "e1"), (24, u "size"), (0, u "()I"), (17, .class_ 71), (0, u "java/io/Serializable"), (4, u "(Ljava/lang/Object;)V"), (8, u "(Ljava/lang/Object;Ljava/lang/Object;)V"), (2, u "isEmpty"), (0, u "()Z"), (0, u "get"), (0, u "(I)Ljava/lang/Object;")] 33

def k26c0 : Code := { maxStack := 2, maxLocals := 2, code := jdk_44_method_1_code, exceptionTable := #[], attributes := #[] }
def k26m0 : Method := { name := "<init>", desc := "(Ljava/lang/Object;)V", sig := { parameters := [(.object "java/lang/Object")], returnType := none }, accessFlags := 0, code := some k26c0 }
def k26c1 : Code := { maxStack := 2, maxLocals := 3, code := jdk_44_method_2_code, exceptionTable := #[], attributes := #[] }
def k26m1 : Method := { name := "<init>", desc := "(Ljava/lang/Object;Ljava/lang/Object;)V", sig := { parameters := [(.object "java/lang/Object"), (.object "java/lang/Object")], returnType := none }, accessFlags := 0, code := some k26c1 }
def k26c2 : Code := { maxStack := 2, maxLocals := 1, code := jdk_44_method_3_code, exceptionTable := #[], attributes := #[] }
def k26m2 : Method := { name := "size", desc := "()I", sig := { parameters := [], returnType := some .int }, accessFlags := 1, code := some k26c2 }
def k26c3 : Code := { maxStack := 1, maxLocals := 1, code := jdk_44_method_4_code, exceptionTable := #[], attributes := #[] }
def k26m3 : Method := { name := "isEmpty", desc := "()Z", sig := { parameters := [], returnType := some .boolean }, accessFlags := 1, code := some k26c3 }
def k26c4 : Code := { maxStack := 2, maxLocals := 2, code := jdk_44_method_5_code, exceptionTable := #[], attributes := #[] }
def k26m4 : Method := { name := "get", desc := "(I)Ljava/lang/Object;", sig := { parameters := [.int], returnType := some (.object "java/lang/Object") }, accessFlags := 1, code := some k26c4 }
/-- java/util/ImmutableCollections$List12 -/
def k26 : Class := { plain "java/util/ImmutableCollections$List12" (some 25) with
  accessFlags := 48
  interfaces := #[2]
  cf := some (fileOf pool26 14 #[.nestHost 20] #[{ accessFlags := 0, nameIndex := 5, descriptorIndex := 76, attributes := #[] }, { accessFlags := 0, nameIndex := 5, descriptorIndex := 85, attributes := #[] }, { accessFlags := 1, nameIndex := 51, descriptorIndex := 52, attributes := #[] }, { accessFlags := 1, nameIndex := 88, descriptorIndex := 89, attributes := #[] }, { accessFlags := 1, nameIndex := 90, descriptorIndex := 91, attributes := #[] }] 48 2 #[70] #[{ accessFlags := 18, nameIndex := 17, descriptorIndex := 18, attributes := #[] }, { accessFlags := 18, nameIndex := 26, descriptorIndex := 18, attributes := #[] }])
  fields := #[{ name := "e0", type := (.object "java/lang/Object"), accessFlags := 18, slot := 0, constantValue := 0 }, { name := "e1", type := (.object "java/lang/Object"), accessFlags := 18, slot := 1, constantValue := 0 }]
  methods := #[k26m0, k26m1, k26m2, k26m3, k26m4]
  instanceTypes := #[(.object "java/lang/Object"), (.object "java/lang/Object")]
  staticTypes := #[]
  resolved := Array.replicate 125 none
  statics := none }

def pool27 : Array CpInfo := pool [(1, .methodref 2 3), (0, .class_ 4), (0, .nameAndType 5 6), (0, u "java/util/ImmutableCollections$AbstractImmutableList"), (0, u "<init>"), (0, u "()V"), (0, .fieldref 8 9), (0, .class_ 10), (0, .nameAndType 11 12), (0, u "java/util/ImmutableCollections$ListN"), (0, u "elements"), (0, u "[Ljava/lang/Object;"), (0, .fieldref 8 14), (0, .nameAndType 15 16), (0, u "allowNulls"), (0, u "Z"), (42, .class_ 60), (0, u "java/io/Serializable"), (4, u "([Ljava/lang/Object;Z)V"), (8, u "isEmpty"), (0, u "()Z"), (1, u "size"), (0, u "()I"), (0, u "get"), (0, u "(I)Ljava/lang/Object;"), (33, .class_ 115), (0, u "java/util/ImmutableCollections")] 3

def k27c0 : Code := { maxStack := 2, maxLocals := 3, code := jdk_45_method_1_code, exceptionTable := #[], attributes := #[] }
def k27m0 : Method := { name := "<init>", desc := "([Ljava/lang/Object;Z)V", sig := { parameters := [(.array (.object "java/lang/Object")), .boolean], returnType := none }, accessFlags := 2, code := some k27c0 }
def k27c1 : Code := { maxStack := 1, maxLocals := 1, code := jdk_45_method_2_code, exceptionTable := #[], attributes := #[] }
def k27m1 : Method := { name := "isEmpty", desc := "()Z", sig := { parameters := [], returnType := some .boolean }, accessFlags := 1, code := some k27c1 }
def k27c2 : Code := { maxStack := 1, maxLocals := 1, code := jdk_45_method_3_code, exceptionTable := #[], attributes := #[] }
def k27m2 : Method := { name := "size", desc := "()I", sig := { parameters := [], returnType := some .int }, accessFlags := 1, code := some k27c2 }
def k27c3 : Code := { maxStack := 2, maxLocals := 2, code := jdk_45_method_4_code, exceptionTable := #[], attributes := #[] }
def k27m3 : Method := { name := "get", desc := "(I)Ljava/lang/Object;", sig := { parameters := [.int], returnType := some (.object "java/lang/Object") }, accessFlags := 1, code := some k27c3 }
/-- java/util/ImmutableCollections$ListN -/
def k27 : Class := { plain "java/util/ImmutableCollections$ListN" (some 25) with
  accessFlags := 48
  interfaces := #[2]
  cf := some (fileOf pool27 8 #[.nestHost 114] #[{ accessFlags := 2, nameIndex := 5, descriptorIndex := 65, attributes := #[] }, { accessFlags := 1, nameIndex := 74, descriptorIndex := 75, attributes := #[] }, { accessFlags := 1, nameIndex := 77, descriptorIndex := 78, attributes := #[] }, { accessFlags := 1, nameIndex := 79, descriptorIndex := 80, attributes := #[] }] 48 2 #[59] #[{ accessFlags := 18, nameIndex := 11, descriptorIndex := 12, attributes := #[] }, { accessFlags := 18, nameIndex := 15, descriptorIndex := 16, attributes := #[] }])
  fields := #[{ name := "elements", type := (.array (.object "java/lang/Object")), accessFlags := 18, slot := 0, constantValue := 0 }, { name := "allowNulls", type := .boolean, accessFlags := 18, slot := 1, constantValue := 0 }]
  methods := #[k27m0, k27m1, k27m2, k27m3]
  instanceTypes := #[(.array (.object "java/lang/Object")), .boolean]
  staticTypes := #[]
  resolved := Array.replicate 119 none
  statics := none }

def pool28 : Array CpInfo := pool [(6, u "(Ljava/lang/Object;)Ljava/lang/Object;"), (2, u "apply"), (6, .class_ 18), (1, u "java/util/function/Function"), (0, .class_ 20), (0, u "java/lang/Object")] 56

def k28m0 : Method := { name := "apply", desc := "(Ljava/lang/Object;)Ljava/lang/Object;", sig := { parameters := [(.object "java/lang/Object")], returnType := some (.object "java/lang/Object") }, accessFlags := 1025, code := none }
/-- java/util/function/Function -/
def k28 : Class := { plain "java/util/function/Function" (some 0) with
  accessFlags := 1537
  interfaces := #[]
  cf := some (fileOf pool28 16 #[] #[{ accessFlags := 1025, nameIndex := 9, descriptorIndex := 6, attributes := #[] }] 1537 19 #[] #[])
  fields := #[]
  methods := #[k28m0]
  instanceTypes := #[]
  staticTypes := #[]
  resolved := Array.replicate 77 none
  statics := none }

def pool29 : Array CpInfo := pool [(1, .class_ 2), (0, u "java/lang/Math"), (1, .class_ 6), (1, u "java/lang/Object"), (0, u "<init>"), (0, u "()V"), (89, .class_ 100), (1, u "java/lang/Math$RandomNumberGeneratorHolder"), (71, u "negativeZeroFloatBits"), (0, u "J"), (2, u "negativeZeroDoubleBits"), (21, u "max"), (2, u "min"), (43, u "$assertionsDisabled"), (0, u "Z"), (88, u "(II)I"), (2, u "twoToTheDoubleScaleDown"), (0, u "D"), (4, u "twoToTheDoubleScaleUp"), (9, u "E"), (3, u "PI"), (2, u "TAU"), (2, u "DEGREES_TO_RADIANS"), (0, u "RADIANS_TO_DEGREES")] 94

def k29m0 : Method := { name := "<init>", desc := "()V", sig := { parameters := [], returnType := none }, accessFlags := 2, code := none }
def k29c1 : Code := { maxStack := 2, maxLocals := 2, code := jdk_29_method_65_code, exceptionTable := #[], attributes := #[] }
def k29m1 : Method := { name := "max", desc := "(II)I", sig := { parameters := [.int, .int], returnType := some .int }, accessFlags := 9, code := some k29c1 }
def k29c2 : Code := { maxStack := 2, maxLocals := 2, code := jdk_29_method_69_code, exceptionTable := #[], attributes := #[] }
def k29m2 : Method := { name := "min", desc := "(II)I", sig := { parameters := [.int, .int], returnType := some .int }, accessFlags := 9, code := some k29c2 }
/-- java/lang/Math -/
def k29 : Class := { plain "java/lang/Math" (some 0) with
  accessFlags := 49
  interfaces := #[]
  cf := some (fileOf pool29 1 #[.nestMembers #[98]] #[{ accessFlags := 2, nameIndex := 7, descriptorIndex := 8, attributes := #[] }, { accessFlags := 9, nameIndex := 198, descriptorIndex := 335, attributes := #[] }, { accessFlags := 9, nameIndex := 201, descriptorIndex := 335, attributes := #[] }] 49 4 #[] #[{ accessFlags := 25, nameIndex := 354, descriptorIndex := 339, attributes := #[] }, { accessFlags := 25, nameIndex := 358, descriptorIndex := 339, attributes := #[] }, { accessFlags := 25, nameIndex := 361, descriptorIndex := 339, attributes := #[] }, { accessFlags := 26, nameIndex := 364, descriptorIndex := 339, attributes := #[] }, { accessFlags := 26, nameIndex := 365, descriptorIndex := 339, attributes := #[] }, { accessFlags := 26, nameIndex := 172, descriptorIndex := 173, attributes := #[] }, { accessFlags := 26, nameIndex := 176, descriptorIndex := 173, attributes := #[] }, { accessFlags := 8, nameIndex := 344, descriptorIndex := 339, attributes := #[] }, { accessFlags := 8, nameIndex := 338, descriptorIndex := 339, attributes := #[] }, { accessFlags := 4120, nameIndex := 245, descriptorIndex := 246, attributes := #[] }])
  fields := #[{ name := "E", type := .double, accessFlags := 25, slot := 0, constantValue := 0 }, { name := "PI", type := .double, accessFlags := 25, slot := 1, constantValue := 0 }, { name := "TAU", type := .double, accessFlags := 25, slot := 2, constantValue := 0 }, { name := "DEGREES_TO_RADIANS", type := .double, accessFlags := 26, slot := 3, constantValue := 0 }, { name := "RADIANS_TO_DEGREES", type := .double, accessFlags := 26, slot := 4, constantValue := 0 }, { name := "negativeZeroFloatBits", type := .long, accessFlags := 26, slot := 5, constantValue := 0 }, { name := "negativeZeroDoubleBits", type := .long, accessFlags := 26, slot := 6, constantValue := 0 }, { name := "twoToTheDoubleScaleUp", type := .double, accessFlags := 8, slot := 7, constantValue := 0 }, { name := "twoToTheDoubleScaleDown", type := .double, accessFlags := 8, slot := 8, constantValue := 0 }, { name := "$assertionsDisabled", type := .boolean, accessFlags := 4120, slot := 9, constantValue := 0 }]
  methods := #[k29m0, k29m1, k29m2]
  instanceTypes := #[]
  staticTypes := #[.double, .double, .double, .double, .double, .long, .long, .double, .double, .boolean]
  resolved := Array.replicate 460 none
  statics := none }

def pool30 : Array CpInfo := pool [(6, .class_ 8), (1, u "java/lang/Object"), (0, u "<init>"), (0, u "()V"), (1, .class_ 14), (1, u "java/lang/StringUTF16"), (31, u "$assertionsDisabled"), (0, u "Z"), (13, u "HI_BYTE_SHIFT"), (0, u "I"), (2, u "LO_BYTE_SHIFT"), (49, .methodref 12 116), (0, .nameAndType 117 118), (0, u "compress"), (0, u "([CI[BII)I"), (3, u "([CII)[B"), (138, u "coderFromArrayLen"), (0, u "([BI)B"), (106, .class_ 371), (1, u "java/lang/StringUTF16$LinesSpliterator"), (58, u "MAX_LENGTH"), (196, .class_ 628), (0, u "java/lang/StringUTF16$CodePointsSpliterator"), (0, .class_ 630), (0, u "java/lang/StringUTF16$CharsSpliterator")] 4

def k30m0 : Method := { name := "<init>", desc := "()V", sig := { parameters := [], returnType := none }, accessFlags := 0, code := none }
def k30c1 : Code := { maxStack := 2, maxLocals := 2, code := jdk_52_method_15_code, exceptionTable := #[], attributes := #[] }
def k30m1 : Method := { name := "coderFromArrayLen", desc := "([BI)B", sig := { parameters := [(.array .byte), .int], returnType := some .byte }, accessFlags := 8, code := some k30c1 }
def k30c2 : Code := { maxStack := 5, maxLocals := 6, code := jdk_52_method_16_code, exceptionTable := #[], attributes := #[] }
def k30m2 : Method := { name := "compress", desc := "([CII)[B", sig := { parameters := [(.array .char), .int, .int], returnType := some (.array .byte) }, accessFlags := 9, code := some k30c2 }
def k30c3 : Code := { maxStack := 3, maxLocals := 7, code := jdk_52_method_21_code, exceptionTable := #[], attributes := #[] }
def k30m3 : Method := { name := "compress", desc := "([CI[BII)I", sig := { parameters := [(.array .char), .int, (.array .byte), .int, .int], returnType := some .int }, accessFlags := 9, code := some k30c3 }
/-- java/lang/StringUTF16 -/
def k30 : Class := { plain "java/lang/StringUTF16" (some 0) with
  accessFlags := 48
  interfaces := #[]
  cf := some (fileOf pool30 12 #[.nestMembers #[627, 629, 369]] #[{ accessFlags := 0, nameIndex := 9, descriptorIndex := 10, attributes := #[] }, { accessFlags := 8, nameIndex := 261, descriptorIndex := 262, attributes := #[] }, { accessFlags := 9, nameIndex := 117, descriptorIndex := 122, attributes := #[] }, { accessFlags := 9, nameIndex := 117, descriptorIndex := 118, attributes := #[] }] 48 6 #[] #[{ accessFlags := 26, nameIndex := 61, descriptorIndex := 62, attributes := #[] }, { accessFlags := 26, nameIndex := 65, descriptorIndex := 62, attributes := #[] }, { accessFlags := 24, nameIndex := 430, descriptorIndex := 62, attributes := #[] }, { accessFlags := 4120, nameIndex := 46, descriptorIndex := 47, attributes := #[] }])
  fields := #[{ name := "HI_BYTE_SHIFT", type := .int, accessFlags := 26, slot := 0, constantValue := 0 }, { name := "LO_BYTE_SHIFT", type := .int, accessFlags := 26, slot := 1, constantValue := 0 }, { name := "MAX_LENGTH", type := .int, accessFlags := 24, slot := 2, constantValue := 0 }, { name := "$assertionsDisabled", type := .boolean, accessFlags := 4120, slot := 3, constantValue := 0 }]
  methods := #[k30m0, k30m1, k30m2, k30m3]
  instanceTypes := #[]
  staticTypes := #[.int, .int, .int, .boolean]
  resolved := Array.replicate 635 none
  statics := none }

def pool31 : Array CpInfo := pool [(2, .class_ 4), (1, u "java/lang/Object"), (0, u "<init>"), (0, u "()V"), (7, .class_ 16), (1, u "java/util/Arrays"), (57, .class_ 76), (1, u "java/util/Arrays$NaturalOrder"), (9, .methodref 2 87), (0, .nameAndType 88 89), (0, u "getClass"), (0, u "()Ljava/lang/Class;"), (20, .class_ 111), (0, u "[Ljava/lang/Object;"), (1, .class_ 115), (1, u "java/util/Arrays$LegacyMergeSort"), (1, u "Z"), (32, .methodref 151 152), (0, .class_ 153), (0, .nameAndType 154 155), (0, u "java/lang/System"), (0, u "arraycopy"), (0, u "(Ljava/lang/Object;ILjava/lang/Object;II)V"), (144, .methodref 14 301), (0, .nameAndType 302 303), (0, u "copyOf"), (0, u "([Ljava/lang/Object;ILjava/lang/Class;)[Ljava/lang/Object;"), (0, .methodref 305 306), (0, .class_ 307), (0, .nameAndType 308 309), (0, u "java/lang/Math"), (0, u "min"), (0, u "(II)I"), (65, .class_ 376), (0, u "java/util/Arrays$ArrayList"), (68, u "$assertionsDisabled"), (269, u "MIN_ARRAY_SORT_GRAN"), (0, u "I"), (2, u "INSERTIONSORT_THRESHOLD"), (140, u "([Ljava/lang/Object;I)[Ljava/lang/Object;"), (114, .class_ 976), (0, u "java/util/Arrays$ArrayItr")] 52

def k31m0 : Method := { name := "<init>", desc := "()V", sig := { parameters := [], returnType := none }, accessFlags := 2, code := none }
def k31c1 : Code := { maxStack := 3, maxLocals := 2, code := jdk_65_method_119_code, exceptionTable := #[], attributes := #[] }
def k31m1 : Method := { name := "copyOf", desc := "([Ljava/lang/Object;I)[Ljava/lang/Object;", sig := { parameters := [(.array (.object "java/lang/Object")), .int], returnType := some (.array (.object "java/lang/Object")) }, accessFlags := 9, code := some k31c1 }
def k31c2 : Code := { maxStack := 6, maxLocals := 4, code := jdk_65_method_120_code, exceptionTable := #[], attributes := #[] }
def k31m2 : Method := { name := "copyOf", desc := "([Ljava/lang/Object;ILjava/lang/Class;)[Ljava/lang/Object;", sig := { parameters := [(.array (.object "java/lang/Object")), .int, (.object "java/lang/Class")], returnType := some (.array (.object "java/lang/Object")) }, accessFlags := 9, code := some k31c2 }
/-- java/util/Arrays -/
def k31 : Class := { plain "java/util/Arrays" (some 0) with
  accessFlags := 49
  interfaces := #[]
  cf := some (fileOf pool31 14 #[.nestMembers #[975, 375, 113, 74]] #[{ accessFlags := 2, nameIndex := 5, descriptorIndex := 6, attributes := #[] }, { accessFlags := 9, nameIndex := 302, descriptorIndex := 860, attributes := #[] }, { accessFlags := 9, nameIndex := 302, descriptorIndex := 303, attributes := #[] }] 49 2 #[] #[{ accessFlags := 26, nameIndex := 715, descriptorIndex := 716, attributes := #[] }, { accessFlags := 26, nameIndex := 719, descriptorIndex := 716, attributes := #[] }, { accessFlags := 4120, nameIndex := 445, descriptorIndex := 117, attributes := #[] }])
  fields := #[{ name := "MIN_ARRAY_SORT_GRAN", type := .int, accessFlags := 26, slot := 0, constantValue := 0 }, { name := "INSERTIONSORT_THRESHOLD", type := .int, accessFlags := 26, slot := 1, constantValue := 0 }, { name := "$assertionsDisabled", type := .boolean, accessFlags := 4120, slot := 2, constantValue := 0 }]
  methods := #[k31m0, k31m1, k31m2]
  instanceTypes := #[]
  staticTypes := #[.int, .int, .boolean]
  resolved := Array.replicate 1029 none
  statics := none }

def pool32 : Array CpInfo := pool [(2, .class_ 4), (1, u "java/lang/Object"), (0, u "<init>"), (0, u "()V"), (1, .class_ 10), (1, u "java/lang/System"), (0, u "allowSecurityManager"), (0, u "I"), (16, u "cons"), (0, u "Ljava/io/Console;"), (77, .class_ 110), (1, u "java/lang/System$CallersHolder"), (43, u "initialErrStream"), (0, u "Ljava/io/PrintStream;"), (19, u "security"), (0, u "Ljava/lang/SecurityManager;"), (31, .class_ 209), (0, u "java/lang/System$1"), (7, u "props"), (0, u "Ljava/util/Properties;"), (2, u "lineSeparator"), (0, u "Ljava/lang/String;"), (96, .class_ 321), (1, u "java/lang/System$LoggerFinder"), (5, .class_ 328), (0, u "java/lang/System$Logger"), (67, u "err"), (2, u "out"), (91, u "notSupportedJnuEncoding"), (15, u "in"), (17, u "initialIn"), (0, u "Ljava/io/InputStream;"), (35, u "bootLayer"), (0, u "Ljava/lang/ModuleLayer;"), (99, .class_ 664), (0, u "java/lang/System$2"), (9, u "NEVER"), (2, u "MAYBE"), (49, u "arraycopy"), (0, u "(Ljava/lang/Object;ILjava/lang/Object;II)V"), (72, .class_ 802), (0, u "java/lang/System$Logger$Level")] 31

def k32m0 : Method := { name := "<init>", desc := "()V", sig := { parameters := [], returnType := none }, accessFlags := 2, code := none }
def k32m1 : Method := { name := "arraycopy", desc := "(Ljava/lang/Object;ILjava/lang/Object;II)V", sig := { parameters := [(.object "java/lang/Object"), .int, (.object "java/lang/Object"), .int, .int], returnType := none }, accessFlags := 265, code := none }
/-- java/lang/System -/
def k32 : Class := { plain "java/lang/System" (some 0) with
  accessFlags := 49
  interfaces := #[]
  cf := some (fileOf pool32 8 #[.nestMembers #[319, 327, 801, 108, 663, 208]] #[{ accessFlags := 2, nameIndex := 5, descriptorIndex := 6, attributes := #[] }, { accessFlags := 265, nameIndex := 727, descriptorIndex := 728, attributes := #[] }] 49 2 #[] #[{ accessFlags := 25, nameIndex := 507, descriptorIndex := 526, attributes := #[] }, { accessFlags := 25, nameIndex := 399, descriptorIndex := 155, attributes := #[] }, { accessFlags := 25, nameIndex := 396, descriptorIndex := 155, attributes := #[] }, { accessFlags := 10, nameIndex := 525, descriptorIndex := 526, attributes := #[] }, { accessFlags := 26, nameIndex := 674, descriptorIndex := 12, attributes := #[] }, { accessFlags := 26, nameIndex := 677, descriptorIndex := 12, attributes := #[] }, { accessFlags := 10, nameIndex := 11, descriptorIndex := 12, attributes := #[] }, { accessFlags := 74, nameIndex := 175, descriptorIndex := 176, attributes := #[] }, { accessFlags := 10, nameIndex := 491, descriptorIndex := 222, attributes := #[] }, { accessFlags := 74, nameIndex := 29, descriptorIndex := 30, attributes := #[] }, { accessFlags := 74, nameIndex := 154, descriptorIndex := 155, attributes := #[] }, { accessFlags := 10, nameIndex := 217, descriptorIndex := 218, attributes := #[] }, { accessFlags := 10, nameIndex := 221, descriptorIndex := 222, attributes := #[] }, { accessFlags := 8, nameIndex := 562, descriptorIndex := 563, attributes := #[] }])
  fields := #[{ name := "in", type := (.object "java/io/InputStream"), accessFlags := 25, slot := 0, constantValue := 0 }, { name := "out", type := (.object "java/io/PrintStream"), accessFlags := 25, slot := 1, constantValue := 0 }, { name := "err", type := (.object "java/io/PrintStream"), accessFlags := 25, slot := 2, constantValue := 0 }, { name := "initialIn", type := (.object "java/io/InputStream"), accessFlags := 10, slot := 3, constantValue := 0 }, { name := "NEVER", type := .int, accessFlags := 26, slot := 4, constantValue := 0 }, { name := "MAYBE", type := .int, accessFlags := 26, slot := 5, constantValue := 0 }, { name := "allowSecurityManager", type := .int, accessFlags := 10, slot := 6, constantValue := 0 }, { name := "security", type := (.object "java/lang/SecurityManager"), accessFlags := 74, slot := 7, constantValue := 0 }, { name := "notSupportedJnuEncoding", type := (.object "java/lang/String"), accessFlags := 10, slot := 8, constantValue := 0 }, { name := "cons", type := (.object "java/io/Console"), accessFlags := 74, slot := 9, constantValue := 0 }, { name := "initialErrStream", type := (.object "java/io/PrintStream"), accessFlags := 74, slot := 10, constantValue := 0 }, { name := "props", type := (.object "java/util/Properties"), accessFlags := 10, slot := 11, constantValue := 0 }, { name := "lineSeparator", type := (.object "java/lang/String"), accessFlags := 10, slot := 12, constantValue := 0 }, { name := "bootLayer", type := (.object "java/lang/ModuleLayer"), accessFlags := 8, slot := 13, constantValue := 0 }]
  methods := #[k32m0, k32m1]
  instanceTypes := #[]
  staticTypes := #[(.object "java/io/InputStream"), (.object "java/io/PrintStream"), (.object "java/io/PrintStream"), (.object "java/io/InputStream"), .int, .int, .int, (.object "java/lang/SecurityManager"), (.object "java/lang/String"), (.object "java/io/Console"), (.object "java/io/PrintStream"), (.object "java/util/Properties"), (.object "java/lang/String"), (.object "java/lang/ModuleLayer")]
  resolved := Array.replicate 834 none
  statics := none }

def pool33 : Array CpInfo := pool [(2, .class_ 4), (1, u "java/lang/Object"), (0, u "<init>"), (0, u "()V"), (17, .class_ 26), (1, u "jdk/internal/util/Preconditions"), (28, .class_ 56), (0, u "jdk/internal/util/Preconditions$4"), (57, .class_ 115), (0, u "jdk/internal/util/Preconditions$1"), (7, u "SIOOBE_FORMATTER"), (0, u "Ljava/util/function/BiFunction;"), (0, .class_ 126), (0, u "jdk/internal/util/Preconditions$2"), (3, u "AIOOBE_FORMATTER"), (0, .class_ 132), (0, u "jdk/internal/util/Preconditions$3"), (3, u "IOOBE_FORMATTER")] 57

def k33m0 : Method := { name := "<init>", desc := "()V", sig := { parameters := [], returnType := none }, accessFlags := 1, code := none }
/-- jdk/internal/util/Preconditions -/
def k33 : Class := { plain "jdk/internal/util/Preconditions" (some 0) with
  accessFlags := 33
  interfaces := #[]
  cf := some (fileOf pool33 24 #[.nestMembers #[55, 131, 125, 114]] #[{ accessFlags := 1, nameIndex := 5, descriptorIndex := 6, attributes := #[] }] 33 2 #[] #[{ accessFlags := 25, nameIndex := 123, descriptorIndex := 124, attributes := #[] }, { accessFlags := 25, nameIndex := 130, descriptorIndex := 124, attributes := #[] }, { accessFlags := 25, nameIndex := 136, descriptorIndex := 124, attributes := #[] }])
  fields := #[{ name := "SIOOBE_FORMATTER", type := (.object "java/util/function/BiFunction"), accessFlags := 25, slot := 0, constantValue := 0 }, { name := "AIOOBE_FORMATTER", type := (.object "java/util/function/BiFunction"), accessFlags := 25, slot := 1, constantValue := 0 }, { name := "IOOBE_FORMATTER", type := (.object "java/util/function/BiFunction"), accessFlags := 25, slot := 2, constantValue := 0 }]
  methods := #[k33m0]
  instanceTypes := #[]
  staticTypes := #[(.object "java/util/function/BiFunction"), (.object "java/util/function/BiFunction"), (.object "java/util/function/BiFunction")]
  resolved := Array.replicate 194 none
  statics := some 4 }

def pool34 : Array CpInfo := pool [(9, u "<init>"), (6, .class_ 18), (1, u "java/lang/Object"), (0, u "()V"), (1, .class_ 23), (1, u "jdk/internal/util/ArraysSupport"), (0, u "LOG2_ARRAY_LONG_INDEX_SCALE"), (0, u "I"), (2, u "U"), (0, u "Ljdk/internal/misc/Unsafe;"), (8, u "BIG_ENDIAN"), (0, u "Z"), (8, u "LOG2_BYTE_BIT_SIZE"), (4, u "LOG2_ARRAY_INT_INDEX_SCALE"), (54, u "JLA"), (0, u "Ljdk/internal/access/JavaLangAccess;"), (11, u "LOG2_ARRAY_BOOLEAN_INDEX_SCALE"), (9, u "LOG2_ARRAY_BYTE_INDEX_SCALE"), (5, u "LOG2_ARRAY_CHAR_INDEX_SCALE"), (5, u "LOG2_ARRAY_SHORT_INDEX_SCALE"), (18, u "LOG2_ARRAY_FLOAT_INDEX_SCALE"), (24, u "LOG2_ARRAY_DOUBLE_INDEX_SCALE"), (89, u "T_BOOLEAN"), (2, u "T_CHAR"), (1, u "T_FLOAT"), (1, u "T_DOUBLE"), (1, u "T_BYTE"), (1, u "T_SHORT"), (1, u "T_INT"), (1, u "T_LONG"), (1, u "SOFT_MAX_ARRAY_LENGTH")] 83

def k34m0 : Method := { name := "<init>", desc := "()V", sig := { parameters := [], returnType := none }, accessFlags := 2, code := none }
/-- jdk/internal/util/ArraysSupport -/
def k34 : Class := { plain "jdk/internal/util/ArraysSupport" (some 0) with
  accessFlags := 33
  interfaces := #[]
  cf := some (fileOf pool34 21 #[] #[{ accessFlags := 2, nameIndex := 9, descriptorIndex := 19, attributes := #[] }] 33 16 #[] #[{ accessFlags := 24, nameIndex := 28, descriptorIndex := 29, attributes := #[] }, { accessFlags := 26, nameIndex := 38, descriptorIndex := 39, attributes := #[] }, { accessFlags := 25, nameIndex := 121, descriptorIndex := 25, attributes := #[] }, { accessFlags := 25, nameIndex := 131, descriptorIndex := 25, attributes := #[] }, { accessFlags := 25, nameIndex := 137, descriptorIndex := 25, attributes := #[] }, { accessFlags := 25, nameIndex := 143, descriptorIndex := 25, attributes := #[] }, { accessFlags := 25, nameIndex := 53, descriptorIndex := 25, attributes := #[] }, { accessFlags := 25, nameIndex := 24, descriptorIndex := 25, attributes := #[] }, { accessFlags := 25, nameIndex := 162, descriptorIndex := 25, attributes := #[] }, { accessFlags := 25, nameIndex := 187, descriptorIndex := 25, attributes := #[] }, { accessFlags := 26, nameIndex := 48, descriptorIndex := 25, attributes := #[] }, { accessFlags := 25, nameIndex := 277, descriptorIndex := 25, attributes := #[] }, { accessFlags := 25, nameIndex := 280, descriptorIndex := 25, attributes := #[] }, { accessFlags := 25, nameIndex := 282, descriptorIndex := 25, attributes := #[] }, { accessFlags := 25, nameIndex := 284, descriptorIndex := 25, attributes := #[] }, { accessFlags := 25, nameIndex := 286, descriptorIndex := 25, attributes := #[] }, { accessFlags := 25, nameIndex := 288, descriptorIndex := 25, attributes := #[] }, { accessFlags := 25, nameIndex := 290, descriptorIndex := 25, attributes := #[] }, { accessFlags := 25, nameIndex := 292, descriptorIndex := 25, attributes := #[] }, { accessFlags := 26, nameIndex := 108, descriptorIndex := 109, attributes := #[] }, { accessFlags := 25, nameIndex := 294, descriptorIndex := 25, attributes := #[] }])
  fields := #[{ name := "U", type := (.object "jdk/internal/misc/Unsafe"), accessFlags := 24, slot := 0, constantValue := 0 }, { name := "BIG_ENDIAN", type := .boolean, accessFlags := 26, slot := 1, constantValue := 0 }, { name := "LOG2_ARRAY_BOOLEAN_INDEX_SCALE", type := .int, accessFlags := 25, slot := 2, constantValue := 0 }, { name := "LOG2_ARRAY_BYTE_INDEX_SCALE", type := .int, accessFlags := 25, slot := 3, constantValue := 0 }, { name := "LOG2_ARRAY_CHAR_INDEX_SCALE", type := .int, accessFlags := 25, slot := 4, constantValue := 0 }, { name := "LOG2_ARRAY_SHORT_INDEX_SCALE", type := .int, accessFlags := 25, slot := 5, constantValue := 0 }, { name := "LOG2_ARRAY_INT_INDEX_SCALE", type := .int, accessFlags := 25, slot := 6, constantValue := 0 }, { name := "LOG2_ARRAY_LONG_INDEX_SCALE", type := .int, accessFlags := 25, slot := 7, constantValue := 0 }, { name := "LOG2_ARRAY_FLOAT_INDEX_SCALE", type := .int, accessFlags := 25, slot := 8, constantValue := 0 }, { name := "LOG2_ARRAY_DOUBLE_INDEX_SCALE", type := .int, accessFlags := 25, slot := 9, constantValue := 0 }, { name := "LOG2_BYTE_BIT_SIZE", type := .int, accessFlags := 26, slot := 10, constantValue := 0 }, { name := "T_BOOLEAN", type := .int, accessFlags := 25, slot := 11, constantValue := 0 }, { name := "T_CHAR", type := .int, accessFlags := 25, slot := 12, constantValue := 0 }, { name := "T_FLOAT", type := .int, accessFlags := 25, slot := 13, constantValue := 0 }, { name := "T_DOUBLE", type := .int, accessFlags := 25, slot := 14, constantValue := 0 }, { name := "T_BYTE", type := .int, accessFlags := 25, slot := 15, constantValue := 0 }, { name := "T_SHORT", type := .int, accessFlags := 25, slot := 16, constantValue := 0 }, { name := "T_INT", type := .int, accessFlags := 25, slot := 17, constantValue := 0 }, { name := "T_LONG", type := .int, accessFlags := 25, slot := 18, constantValue := 0 }, { name := "JLA", type := (.object "jdk/internal/access/JavaLangAccess"), accessFlags := 26, slot := 19, constantValue := 0 }, { name := "SOFT_MAX_ARRAY_LENGTH", type := .int, accessFlags := 25, slot := 20, constantValue := 0 }]
  methods := #[k34m0]
  instanceTypes := #[]
  staticTypes := #[(.object "jdk/internal/misc/Unsafe"), .boolean, .int, .int, .int, .int, .int, .int, .int, .int, .int, .int, .int, .int, .int, .int, .int, .int, .int, (.object "jdk/internal/access/JavaLangAccess"), .int]
  resolved := Array.replicate 378 none
  statics := none }

def pool35 : Array CpInfo := pool [(1, .class_ 2), (0, u "java/lang/Class"), (0, .class_ 4), (0, u "java/lang/Object")] 0

/-- java/lang/Class -/
def k35 : Class := { plain "java/lang/Class" (some 0) with
  accessFlags := 49
  interfaces := #[]
  cf := some (fileOf pool35 1 #[] #[] 49 3 #[] #[])
  fields := #[]
  methods := #[]
  instanceTypes := #[]
  staticTypes := #[]
  resolved := Array.replicate 5 none
  statics := none }

/-- the primitive byte -/
def k36 : Class := { plain "byte" none with kind := .primitive 'B', accessFlags := 0x411 }
/-- [B -/
def k37 : Class := { plain "[B" (some 0) with kind := .array 36 .byte, interfaces := #[19, 2], accessFlags := 1041 }

/-- the primitive char -/
def k38 : Class := { plain "char" none with kind := .primitive 'C', accessFlags := 0x411 }
/-- [C -/
def k39 : Class := { plain "[C" (some 0) with kind := .array 38 .char, interfaces := #[19, 2], accessFlags := 1041 }

/-- the primitive int -/
def k40 : Class := { plain "int" none with kind := .primitive 'I', accessFlags := 0x411 }
/-- [I -/
def k41 : Class := { plain "[I" (some 0) with kind := .array 40 .int, interfaces := #[19, 2], accessFlags := 1041 }

/-- [Ljava/lang/Object; -/
def k42 : Class := { plain "[Ljava/lang/Object;" (some 0) with kind := .array 0 (.object "java/lang/Object"), interfaces := #[19, 2], accessFlags := 1041, mirror := some 5 }

def classes0 : Array Class := #[k0, k1, k2, k3, k4, k5, k6, k7, k8, k9, k10, k11, k12, k13, k14, k15, k16, k17, k18, k19, k20, k21, k22, k23, k24, k25, k26, k27, k28, k29, k30, k31, k32, k33, k34, k35, k36, k37, k38, k39, k40, k41, k42]
/-- the class that the rule has made for the site at 5 of com/example/lexbind/lexbind/messages/Explanation.answer -/
def k43 : Class := Jvm.LamKit.madeRec { classes := classes0 } "com/example/lexbind/lexbind/messages/Explanation" (Jvm.Lambda.Shape.mk "java/util/function/Function" "apply" (Jvm.ClassFile.MethodDescriptor.mk ([(Jvm.ClassFile.FieldType.object "java/lang/Object")] : List Jvm.ClassFile.FieldType) (Option.some (Jvm.ClassFile.FieldType.object "java/lang/Object"))) ([(Jvm.ClassFile.FieldType.object "com/example/lexbind/lexbind/messages/Explanation")] : List Jvm.ClassFile.FieldType) (5 : Nat) "com/example/lexbind/lexbind/messages/Explanation" "lambda$answer$0" (Jvm.ClassFile.MethodDescriptor.mk ([(Jvm.ClassFile.FieldType.object "java/lang/String")] : List Jvm.ClassFile.FieldType) (Option.some (Jvm.ClassFile.FieldType.object "com/example/lexbind/lexbind/messages/Explanation$Step"))) false (Jvm.ClassFile.MethodDescriptor.mk ([(Jvm.ClassFile.FieldType.object "java/lang/String")] : List Jvm.ClassFile.FieldType) (Option.some (Jvm.ClassFile.FieldType.object "com/example/lexbind/lexbind/messages/Explanation$Step")))) 43

def heap : Heap := #[{ cls := 7, slots := #[.long 0, .int 1, .null, .int 0, .null, .int 0, .int 0], vm := .statics 7 },
  { cls := 20, slots := #[.long 0, .int 0, .ref 6, .ref 7], vm := .statics 20 },
  { cls := 21, slots := #[.ref 8], vm := .statics 21 },
  { cls := 23, slots := #[.long 0, .int 0, .null, .ref 10, .ref 9, .null, .null, .null, .int 0, .int 1], vm := .statics 23 },
  { cls := 33, slots := #[.null, .null, .null], vm := .statics 33 },
  { cls := 35, slots := #[], vm := .mirror 42 },
  { cls := 42, slots := #[], vm := .none },
  { cls := 42, slots := #[], vm := .none },
  { cls := 21, slots := #[.null], vm := .none },
  { cls := 27, slots := #[.ref 6, .int 0], vm := .none },
  { cls := 0, slots := #[], vm := .none }]
def classes : Array Class := #[k0, k1, k2, k3, k4, k5, k6, k7, k8, k9, k10, k11, k12, k13, k14, k15, k16, k17, k18, k19, k20, k21, k22, k23, k24, k25, k26, k27, k28, k29, k30, k31, k32, k33, k34, k35, k36, k37, k38, k39, k40, k41, k42, k43]
def interned : List (Array UInt16 × Addr) := []
def slotsUsed : Nat := 28
def theMethod : MethodId := ⟨1, 1⟩
def args0 : Array Value := #[.int 5, .int 5, .int 5, .int 5]
def aboutOver (below : List Frame) : State where
  vm := { classes := classes, interned := interned.toArray }
  heap := heap
  slotsUsed := slotsUsed
  threads := #[{ frames := .invoking theMethod args0 :: below }]
def below0 : List Frame := [.native { method := ⟨0, 0⟩, args := #[] }]
def about1 : State := aboutOver below0
def p0 : Program := .bare "" "" ""
def e0 : Env := launch0.env 0 0 0
theorem w_frames : about1.frames = Frame.invoking theMethod args0 :: below0 := rfl
set_option maxRecDepth 65536 in
theorem w_args : argsFit about1.vm theMethod args0 = true := by decide +kernel
set_option maxRecDepth 65536 in
theorem w_heap : heapFits about1 = true := by decide +kernel
set_option maxRecDepth 65536 in
theorem w_runnable : about1.curStatus? = some .runnable := by decide +kernel
set_option maxRecDepth 65536 in
theorem w_alone : about1.alone = true := by decide +kernel
set_option maxRecDepth 65536 in
theorem w_named : about1.methodNamed? x = some theMethod := by decide +kernel
set_option maxRecDepth 65536 in
theorem w_hears : about1.hears theMethod below0 = true := by decide +kernel
set_option maxRecDepth 65536 in
theorem w_ripe : about1.ripe theMethod args0 below0 = true := by decide +kernel
theorem w_running : about1.status = .running := rfl
set_option maxRecDepth 65536 in
theorem w_room : about1.hasRoom e0.platform room_1 = true :=
  launch0.hasRoom_least _ room_1 (by decide +kernel) (by decide +kernel) (by decide +kernel) (by decide +kernel) (by decide +kernel) (by decide +kernel)
theorem allAtoms_all (ts : List Jvm.Cond) (a : Array Jvm.Value) (st : Jvm.State) : (allAtoms ts).before a st = ts.all (fun c => c.before a st) := by
  induction ts with
  | nil => rfl
  | cons c t ih =>
    show (Jvm.Cond.and c (allAtoms t)).before a st = _
    rw [Jvm.Cond.before_and, ih, List.all_cons]
def words1 : List Jvm.Cond := Jvm.Cond.code x code maxLocals ret :: tables_1
/-- a 'code' word, met by the world's own term for the bytes: nothing is compared byte by byte -/
theorem code_word {y : MethodName} {bytes : ByteArray} {mx : Nat} {rt : Option FieldType} {a : Array Value} {s : State} {m : MethodId} {meth : Method} {c : Code} (h1 : s.methodNamed? y = some m) (h2 : s.vm.method? m = some meth) (h3 : meth.code = some c) (h4 : c.code = bytes)
    (h5 : (c.maxLocals == mx && c.exceptionTable.isEmpty && decide (c.maxStack ≤ mostOperands) && decide (meth.sig.returnType = rt) && !meth.locks && decide (parseMethodDescriptor y.desc = some meth.sig)) = true) : (Jvm.Cond.code y bytes mx rt).before a s = true := by
  simp only [Bool.and_eq_true, beq_iff_eq, Bool.not_eq_true', decide_eq_true_eq] at h5
  obtain ⟨⟨⟨⟨⟨g1, g2⟩, g3⟩, g4⟩, g5⟩, g6⟩ := h5
  simp [Cond.before, Cond.holds, Cond.value, h1, h2, h3, h4, g1, g2, g3, g4, g5, g6]
def isCode : Jvm.Cond → Bool
  | .code _ _ _ _ => true
  | _ => false
theorem all_split {L : List Jvm.Cond} {P : Jvm.Cond → Bool} (h1 : L.all (fun c => isCode c || P c) = true) (h2 : ∀ c ∈ L.filter isCode, P c = true) : L.all P = true := by
  refine List.all_eq_true.mpr fun c hc => ?_
  have h := List.all_eq_true.mp h1 c hc
  rcases Bool.eq_false_or_eq_true (isCode c) with hi | hi
  · exact h2 c (List.mem_filter.mpr ⟨hc, hi⟩)
  · simpa [hi] using h
set_option maxRecDepth 65536 in
theorem w_c0 : (Jvm.Cond.code x code maxLocals ret).before args0 about1 = true := code_word (m := ⟨1, 1⟩) (meth := k1m1) (c := k1c1) (by decide +kernel) rfl rfl rfl (by decide +kernel)
set_option maxRecDepth 65536 in
theorem w_c1 : (Jvm.Cond.code ({ cls := "java/lang/String", name := "valueOf", desc := "(C)Ljava/lang/String;" } : Jvm.MethodName) jdk_42_method_139_code (1 : Nat) (Option.some (Jvm.ClassFile.FieldType.object "java/lang/String"))).before args0 about1 = true := code_word (m := ⟨7, 2⟩) (meth := k7m2) (c := k7c2) (by decide +kernel) rfl rfl rfl (by decide +kernel)
set_option maxRecDepth 65536 in
theorem w_c2 : (Jvm.Cond.code ({ cls := "java/lang/StringLatin1", name := "canEncode", desc := "(C)Z" } : Jvm.MethodName) jdk_43_method_3_code (1 : Nat) (Option.some Jvm.ClassFile.FieldType.boolean)).before args0 about1 = true := code_word (m := ⟨8, 1⟩) (meth := k8m1) (c := k8c1) (by decide +kernel) rfl rfl rfl (by decide +kernel)
set_option maxRecDepth 65536 in
theorem w_c3 : (Jvm.Cond.code ({ cls := "java/lang/StringLatin1", name := "toBytes", desc := "(C)[B" } : Jvm.MethodName) jdk_43_method_46_code (1 : Nat) (Option.some (Jvm.ClassFile.FieldType.array Jvm.ClassFile.FieldType.byte))).before args0 about1 = true := code_word (m := ⟨8, 2⟩) (meth := k8m2) (c := k8c2) (by decide +kernel) rfl rfl rfl (by decide +kernel)
set_option maxRecDepth 65536 in
theorem w_c4 : (Jvm.Cond.code ({ cls := "java/lang/String", name := "<init>", desc := "([BB)V" } : Jvm.MethodName) jdk_42_method_151_code (3 : Nat) (Option.none : Option Jvm.ClassFile.FieldType)).before args0 about1 = true := code_word (m := ⟨7, 4⟩) (meth := k7m4) (c := k7c4) (by decide +kernel) rfl rfl rfl (by decide +kernel)
set_option maxRecDepth 65536 in
theorem w_c5 : (Jvm.Cond.code ({ cls := "java/lang/Object", name := "<init>", desc := "()V" } : Jvm.MethodName) object_method_1_code (1 : Nat) (Option.none : Option Jvm.ClassFile.FieldType)).before args0 about1 = true := code_word (m := ⟨0, 0⟩) (meth := k0m0) (c := k0c0) (by decide +kernel) rfl rfl rfl (by decide +kernel)
set_option maxRecDepth 65536 in
theorem w_c6 : (Jvm.Cond.code ({ cls := "com/example/lexbind/lexbind/messages/Explanation$Step", name := "<init>", desc := "(Ljava/lang/String;Ljava/lang/String;)V" } : Jvm.MethodName) prog_37_method_1_code (3 : Nat) (Option.none : Option Jvm.ClassFile.FieldType)).before args0 about1 = true := code_word (m := ⟨10, 0⟩) (meth := k10m0) (c := k10c0) (by decide +kernel) rfl rfl rfl (by decide +kernel)
set_option maxRecDepth 65536 in
theorem w_c7 : (Jvm.Cond.code ({ cls := "java/lang/Record", name := "<init>", desc := "()V" } : Jvm.MethodName) jdk_30_method_1_code (1 : Nat) (Option.none : Option Jvm.ClassFile.FieldType)).before args0 about1 = true := code_word (m := ⟨9, 0⟩) (meth := k9m0) (c := k9c0) (by decide +kernel) rfl rfl rfl (by decide +kernel)
set_option maxRecDepth 65536 in
theorem w_c8 : (Jvm.Cond.code ({ cls := "java/util/Objects", name := "requireNonNull", desc := "(Ljava/lang/Object;Ljava/lang/String;)Ljava/lang/Object;" } : Jvm.MethodName) jdk_31_method_11_code (2 : Nat) (Option.some (Jvm.ClassFile.FieldType.object "java/lang/Object"))).before args0 about1 = true := code_word (m := ⟨11, 2⟩) (meth := k11m2) (c := k11c2) (by decide +kernel) rfl rfl rfl (by decide +kernel)
set_option maxRecDepth 65536 in
theorem w_c9 : (Jvm.Cond.code ({ cls := "java/util/ArrayList", name := "<init>", desc := "()V" } : Jvm.MethodName) jdk_38_method_2_code (1 : Nat) (Option.none : Option Jvm.ClassFile.FieldType)).before args0 about1 = true := code_word (m := ⟨20, 0⟩) (meth := k20m0) (c := k20c0) (by decide +kernel) rfl rfl rfl (by decide +kernel)
set_option maxRecDepth 65536 in
theorem w_c10 : (Jvm.Cond.code ({ cls := "java/util/AbstractList", name := "<init>", desc := "()V" } : Jvm.MethodName) jdk_39_method_1_code (1 : Nat) (Option.none : Option Jvm.ClassFile.FieldType)).before args0 about1 = true := code_word (m := ⟨17, 0⟩) (meth := k17m0) (c := k17c0) (by decide +kernel) rfl rfl rfl (by decide +kernel)
set_option maxRecDepth 65536 in
theorem w_c11 : (Jvm.Cond.code ({ cls := "java/util/AbstractCollection", name := "<init>", desc := "()V" } : Jvm.MethodName) jdk_22_method_1_code (1 : Nat) (Option.none : Option Jvm.ClassFile.FieldType)).before args0 about1 = true := code_word (m := ⟨14, 0⟩) (meth := k14m0) (c := k14c0) (by decide +kernel) rfl rfl rfl (by decide +kernel)
set_option maxRecDepth 65536 in
theorem w_c12 : (Jvm.Cond.code ({ cls := "java/util/Optional", name := "empty", desc := "()Ljava/util/Optional;" } : Jvm.MethodName) jdk_32_method_1_code (1 : Nat) (Option.some (Jvm.ClassFile.FieldType.object "java/util/Optional"))).before args0 about1 = true := code_word (m := ⟨21, 0⟩) (meth := k21m0) (c := k21c0) (by decide +kernel) rfl rfl rfl (by decide +kernel)
set_option maxRecDepth 65536 in
theorem w_c13 : (Jvm.Cond.code ({ cls := "com/example/lexbind/lexbind/messages/Explanation", name := "<init>", desc := "(Ljava/util/List;Ljava/util/Optional;Ljava/util/List;)V" } : Jvm.MethodName) prog_36_method_1_code (4 : Nat) (Option.none : Option Jvm.ClassFile.FieldType)).before args0 about1 = true := code_word (m := ⟨22, 0⟩) (meth := k22m0) (c := k22c0) (by decide +kernel) rfl rfl rfl (by decide +kernel)
set_option maxRecDepth 65536 in
theorem w_c14 : (Jvm.Cond.code ({ cls := "java/util/List", name := "copyOf", desc := "(Ljava/util/Collection;)Ljava/util/List;" } : Jvm.MethodName) jdk_40_method_48_code (1 : Nat) (Option.some (Jvm.ClassFile.FieldType.object "java/util/List"))).before args0 about1 = true := code_word (m := ⟨16, 6⟩) (meth := k16m6) (c := k16c6) (by decide +kernel) rfl rfl rfl (by decide +kernel)
set_option maxRecDepth 65536 in
theorem w_c15 : (Jvm.Cond.code ({ cls := "java/util/ImmutableCollections", name := "listCopy", desc := "(Ljava/util/Collection;)Ljava/util/List;" } : Jvm.MethodName) jdk_56_method_3_code (2 : Nat) (Option.some (Jvm.ClassFile.FieldType.object "java/util/List"))).before args0 about1 = true := code_word (m := ⟨23, 1⟩) (meth := k23m1) (c := k23c1) (by decide +kernel) rfl rfl rfl (by decide +kernel)
set_option maxRecDepth 65536 in
theorem w_c16 : (Jvm.Cond.code ({ cls := "java/util/ArrayList", name := "isEmpty", desc := "()Z" } : Jvm.MethodName) jdk_38_method_9_code (1 : Nat) (Option.some Jvm.ClassFile.FieldType.boolean)).before args0 about1 = true := code_word (m := ⟨20, 3⟩) (meth := k20m3) (c := k20c3) (by decide +kernel) rfl rfl rfl (by decide +kernel)
set_option maxRecDepth 65536 in
theorem w_c17 : (Jvm.Cond.code ({ cls := "java/util/List", name := "of", desc := "()Ljava/util/List;" } : Jvm.MethodName) jdk_40_method_36_code (0 : Nat) (Option.some (Jvm.ClassFile.FieldType.object "java/util/List"))).before args0 about1 = true := code_word (m := ⟨16, 4⟩) (meth := k16m4) (c := k16c4) (by decide +kernel) rfl rfl rfl (by decide +kernel)
set_option maxRecDepth 65536 in
theorem w_c18 : (Jvm.Cond.code ({ cls := "java/util/Optional", name := "isPresent", desc := "()Z" } : Jvm.MethodName) jdk_32_method_6_code (1 : Nat) (Option.some Jvm.ClassFile.FieldType.boolean)).before args0 about1 = true := code_word (m := ⟨21, 5⟩) (meth := k21m5) (c := k21c5) (by decide +kernel) rfl rfl rfl (by decide +kernel)
set_option maxRecDepth 65536 in
theorem w_c19 : (Jvm.Cond.code ({ cls := "com/example/lexbind/lexbind/messages/Explanation", name := "answer", desc := "()Ljava/util/Optional;" } : Jvm.MethodName) prog_36_method_3_code (1 : Nat) (Option.some (Jvm.ClassFile.FieldType.object "java/util/Optional"))).before args0 about1 = true := code_word (m := ⟨22, 1⟩) (meth := k22m1) (c := k22c1) (by decide +kernel) rfl rfl rfl (by decide +kernel)
set_option maxRecDepth 65536 in
theorem w_c20 : (Jvm.Cond.code ({ cls := "java/util/Optional", name := "map", desc := "(Ljava/util/function/Function;)Ljava/util/Optional;" } : Jvm.MethodName) jdk_32_method_11_code (2 : Nat) (Option.some (Jvm.ClassFile.FieldType.object "java/util/Optional"))).before args0 about1 = true := code_word (m := ⟨21, 7⟩) (meth := k21m7) (c := k21c7) (by decide +kernel) rfl rfl rfl (by decide +kernel)
set_option maxRecDepth 65536 in
theorem w_c21 : (Jvm.Cond.code ({ cls := "java/util/Objects", name := "requireNonNull", desc := "(Ljava/lang/Object;)Ljava/lang/Object;" } : Jvm.MethodName) jdk_31_method_10_code (1 : Nat) (Option.some (Jvm.ClassFile.FieldType.object "java/lang/Object"))).before args0 about1 = true := code_word (m := ⟨11, 1⟩) (meth := k11m1) (c := k11c1) (by decide +kernel) rfl rfl rfl (by decide +kernel)
set_option maxRecDepth 65536 in
theorem w_c22 : (Jvm.Cond.code ({ cls := "java/util/Optional", name := "isEmpty", desc := "()Z" } : Jvm.MethodName) jdk_32_method_7_code (1 : Nat) (Option.some Jvm.ClassFile.FieldType.boolean)).before args0 about1 = true := code_word (m := ⟨21, 6⟩) (meth := k21m6) (c := k21c6) (by decide +kernel) rfl rfl rfl (by decide +kernel)
set_option maxRecDepth 65536 in
theorem w_c23 : (Jvm.Cond.code ({ cls := "java/util/ArrayList", name := "add", desc := "(Ljava/lang/Object;)Z" } : Jvm.MethodName) jdk_38_method_25_code (2 : Nat) (Option.some Jvm.ClassFile.FieldType.boolean)).before args0 about1 = true := code_word (m := ⟨20, 6⟩) (meth := k20m6) (c := k20c6) (by decide +kernel) rfl rfl rfl (by decide +kernel)
set_option maxRecDepth 65536 in
theorem w_c24 : (Jvm.Cond.code ({ cls := "java/util/ArrayList", name := "add", desc := "(Ljava/lang/Object;[Ljava/lang/Object;I)V" } : Jvm.MethodName) jdk_38_method_24_code (4 : Nat) (Option.none : Option Jvm.ClassFile.FieldType)).before args0 about1 = true := code_word (m := ⟨20, 5⟩) (meth := k20m5) (c := k20c5) (by decide +kernel) rfl rfl rfl (by decide +kernel)
set_option maxRecDepth 65536 in
theorem w_c25 : (Jvm.Cond.code ({ cls := "java/util/ArrayList", name := "grow", desc := "()[Ljava/lang/Object;" } : Jvm.MethodName) jdk_38_method_7_code (1 : Nat) (Option.some (Jvm.ClassFile.FieldType.array (Jvm.ClassFile.FieldType.object "java/lang/Object")))).before args0 about1 = true := code_word (m := ⟨20, 2⟩) (meth := k20m2) (c := k20c2) (by decide +kernel) rfl rfl rfl (by decide +kernel)
set_option maxRecDepth 65536 in
theorem w_c26 : (Jvm.Cond.code ({ cls := "java/util/ArrayList", name := "grow", desc := "(I)[Ljava/lang/Object;" } : Jvm.MethodName) jdk_38_method_6_code (4 : Nat) (Option.some (Jvm.ClassFile.FieldType.array (Jvm.ClassFile.FieldType.object "java/lang/Object")))).before args0 about1 = true := code_word (m := ⟨20, 1⟩) (meth := k20m1) (c := k20c1) (by decide +kernel) rfl rfl rfl (by decide +kernel)
set_option maxRecDepth 65536 in
theorem w_c27 : (Jvm.Cond.code ({ cls := "java/lang/Math", name := "max", desc := "(II)I" } : Jvm.MethodName) jdk_29_method_65_code (2 : Nat) (Option.some Jvm.ClassFile.FieldType.int)).before args0 about1 = true := code_word (m := ⟨29, 1⟩) (meth := k29m1) (c := k29c1) (by decide +kernel) rfl rfl rfl (by decide +kernel)
set_option maxRecDepth 65536 in
theorem w_c28 : (Jvm.Cond.code ({ cls := "java/lang/String", name := "<init>", desc := "([C)V" } : Jvm.MethodName) jdk_42_method_3_code (2 : Nat) (Option.none : Option Jvm.ClassFile.FieldType)).before args0 about1 = true := code_word (m := ⟨7, 1⟩) (meth := k7m1) (c := k7c1) (by decide +kernel) rfl rfl rfl (by decide +kernel)
set_option maxRecDepth 65536 in
theorem w_c29 : (Jvm.Cond.code ({ cls := "java/lang/String", name := "<init>", desc := "([CIILjava/lang/Void;)V" } : Jvm.MethodName) jdk_42_method_149_code (6 : Nat) (Option.none : Option Jvm.ClassFile.FieldType)).before args0 about1 = true := code_word (m := ⟨7, 3⟩) (meth := k7m3) (c := k7c3) (by decide +kernel) rfl rfl rfl (by decide +kernel)
set_option maxRecDepth 65536 in
theorem w_c30 : (Jvm.Cond.code ({ cls := "java/lang/StringUTF16", name := "compress", desc := "([CII)[B" } : Jvm.MethodName) jdk_52_method_16_code (6 : Nat) (Option.some (Jvm.ClassFile.FieldType.array Jvm.ClassFile.FieldType.byte))).before args0 about1 = true := code_word (m := ⟨30, 2⟩) (meth := k30m2) (c := k30c2) (by decide +kernel) rfl rfl rfl (by decide +kernel)
set_option maxRecDepth 65536 in
theorem w_c31 : (Jvm.Cond.code ({ cls := "java/lang/StringUTF16", name := "compress", desc := "([CI[BII)I" } : Jvm.MethodName) jdk_52_method_21_code (7 : Nat) (Option.some Jvm.ClassFile.FieldType.int)).before args0 about1 = true := code_word (m := ⟨30, 3⟩) (meth := k30m3) (c := k30c3) (by decide +kernel) rfl rfl rfl (by decide +kernel)
set_option maxRecDepth 65536 in
theorem w_c32 : (Jvm.Cond.code ({ cls := "java/lang/StringUTF16", name := "coderFromArrayLen", desc := "([BI)B" } : Jvm.MethodName) jdk_52_method_15_code (2 : Nat) (Option.some Jvm.ClassFile.FieldType.byte)).before args0 about1 = true := code_word (m := ⟨30, 1⟩) (meth := k30m1) (c := k30c1) (by decide +kernel) rfl rfl rfl (by decide +kernel)
set_option maxRecDepth 65536 in
theorem w_c33 : (Jvm.Cond.code ({ cls := "java/util/Optional", name := "of", desc := "(Ljava/lang/Object;)Ljava/util/Optional;" } : Jvm.MethodName) jdk_32_method_3_code (1 : Nat) (Option.some (Jvm.ClassFile.FieldType.object "java/util/Optional"))).before args0 about1 = true := code_word (m := ⟨21, 2⟩) (meth := k21m2) (c := k21c2) (by decide +kernel) rfl rfl rfl (by decide +kernel)
set_option maxRecDepth 65536 in
theorem w_c34 : (Jvm.Cond.code ({ cls := "java/util/Optional", name := "<init>", desc := "(Ljava/lang/Object;)V" } : Jvm.MethodName) jdk_32_method_2_code (2 : Nat) (Option.none : Option Jvm.ClassFile.FieldType)).before args0 about1 = true := code_word (m := ⟨21, 1⟩) (meth := k21m1) (c := k21c1) (by decide +kernel) rfl rfl rfl (by decide +kernel)
set_option maxRecDepth 65536 in
theorem w_c35 : (Jvm.Cond.code ({ cls := "java/util/ArrayList", name := "toArray", desc := "()[Ljava/lang/Object;" } : Jvm.MethodName) jdk_38_method_16_code (1 : Nat) (Option.some (Jvm.ClassFile.FieldType.array (Jvm.ClassFile.FieldType.object "java/lang/Object")))).before args0 about1 = true := code_word (m := ⟨20, 4⟩) (meth := k20m4) (c := k20c4) (by decide +kernel) rfl rfl rfl (by decide +kernel)
set_option maxRecDepth 65536 in
theorem w_c36 : (Jvm.Cond.code ({ cls := "java/util/Arrays", name := "copyOf", desc := "([Ljava/lang/Object;I)[Ljava/lang/Object;" } : Jvm.MethodName) jdk_65_method_119_code (2 : Nat) (Option.some (Jvm.ClassFile.FieldType.array (Jvm.ClassFile.FieldType.object "java/lang/Object")))).before args0 about1 = true := code_word (m := ⟨31, 1⟩) (meth := k31m1) (c := k31c1) (by decide +kernel) rfl rfl rfl (by decide +kernel)
set_option maxRecDepth 65536 in
theorem w_c37 : (Jvm.Cond.code ({ cls := "java/util/Arrays", name := "copyOf", desc := "([Ljava/lang/Object;ILjava/lang/Class;)[Ljava/lang/Object;" } : Jvm.MethodName) jdk_65_method_120_code (4 : Nat) (Option.some (Jvm.ClassFile.FieldType.array (Jvm.ClassFile.FieldType.object "java/lang/Object")))).before args0 about1 = true := code_word (m := ⟨31, 2⟩) (meth := k31m2) (c := k31c2) (by decide +kernel) rfl rfl rfl (by decide +kernel)
set_option maxRecDepth 65536 in
theorem w_c38 : (Jvm.Cond.code ({ cls := "java/lang/Math", name := "min", desc := "(II)I" } : Jvm.MethodName) jdk_29_method_69_code (2 : Nat) (Option.some Jvm.ClassFile.FieldType.int)).before args0 about1 = true := code_word (m := ⟨29, 2⟩) (meth := k29m2) (c := k29c2) (by decide +kernel) rfl rfl rfl (by decide +kernel)
set_option maxRecDepth 65536 in
theorem w_c39 : (Jvm.Cond.code ({ cls := "java/util/List", name := "of", desc := "([Ljava/lang/Object;)Ljava/util/List;" } : Jvm.MethodName) jdk_40_method_47_code (2 : Nat) (Option.some (Jvm.ClassFile.FieldType.object "java/util/List"))).before args0 about1 = true := code_word (m := ⟨16, 5⟩) (meth := k16m5) (c := k16c5) (by decide +kernel) rfl rfl rfl (by decide +kernel)
set_option maxRecDepth 65536 in
theorem w_c40 : (Jvm.Cond.code ({ cls := "java/util/ImmutableCollections", name := "listFromArray", desc := "([Ljava/lang/Object;)Ljava/util/List;" } : Jvm.MethodName) jdk_56_method_4_code (3 : Nat) (Option.some (Jvm.ClassFile.FieldType.object "java/util/List"))).before args0 about1 = true := code_word (m := ⟨23, 2⟩) (meth := k23m2) (c := k23c2) (by decide +kernel) rfl rfl rfl (by decide +kernel)
set_option maxRecDepth 65536 in
theorem w_c41 : (Jvm.Cond.code ({ cls := "java/util/ImmutableCollections$ListN", name := "<init>", desc := "([Ljava/lang/Object;Z)V" } : Jvm.MethodName) jdk_45_method_1_code (3 : Nat) (Option.none : Option Jvm.ClassFile.FieldType)).before args0 about1 = true := code_word (m := ⟨27, 0⟩) (meth := k27m0) (c := k27c0) (by decide +kernel) rfl rfl rfl (by decide +kernel)
set_option maxRecDepth 65536 in
theorem w_c42 : (Jvm.Cond.code ({ cls := "java/util/ImmutableCollections$AbstractImmutableList", name := "<init>", desc := "()V" } : Jvm.MethodName) jdk_46_method_1_code (1 : Nat) (Option.none : Option Jvm.ClassFile.FieldType)).before args0 about1 = true := code_word (m := ⟨25, 0⟩) (meth := k25m0) (c := k25c0) (by decide +kernel) rfl rfl rfl (by decide +kernel)
set_option maxRecDepth 65536 in
theorem w_c43 : (Jvm.Cond.code ({ cls := "java/util/ImmutableCollections$AbstractImmutableCollection", name := "<init>", desc := "()V" } : Jvm.MethodName) jdk_47_method_1_code (1 : Nat) (Option.none : Option Jvm.ClassFile.FieldType)).before args0 about1 = true := code_word (m := ⟨24, 0⟩) (meth := k24m0) (c := k24c0) (by decide +kernel) rfl rfl rfl (by decide +kernel)
set_option maxRecDepth 65536 in
theorem w_c44 : (Jvm.Cond.code ({ cls := "java/util/ImmutableCollections$ListN", name := "isEmpty", desc := "()Z" } : Jvm.MethodName) jdk_45_method_2_code (1 : Nat) (Option.some Jvm.ClassFile.FieldType.boolean)).before args0 about1 = true := code_word (m := ⟨27, 1⟩) (meth := k27m1) (c := k27c1) (by decide +kernel) rfl rfl rfl (by decide +kernel)
set_option maxRecDepth 65536 in
theorem w_c45 : (Jvm.Cond.code ({ cls := "com/example/lexbind/lexbind/messages/Explanation", name := "lambda$answer$0", desc := "(Ljava/lang/String;)Lcom/example/lexbind/lexbind/messages/Explanation$Step;" } : Jvm.MethodName) prog_36_method_11_code (2 : Nat) (Option.some (Jvm.ClassFile.FieldType.object "com/example/lexbind/lexbind/messages/Explanation$Step"))).before args0 about1 = true := code_word (m := ⟨22, 2⟩) (meth := k22m2) (c := k22c2) (by decide +kernel) rfl rfl rfl (by decide +kernel)
set_option maxRecDepth 65536 in
theorem w_c46 : (Jvm.Cond.code ({ cls := "java/util/ImmutableCollections$ListN", name := "size", desc := "()I" } : Jvm.MethodName) jdk_45_method_3_code (1 : Nat) (Option.some Jvm.ClassFile.FieldType.int)).before args0 about1 = true := code_word (m := ⟨27, 2⟩) (meth := k27m2) (c := k27c2) (by decide +kernel) rfl rfl rfl (by decide +kernel)
set_option maxRecDepth 65536 in
theorem w_c47 : (Jvm.Cond.code ({ cls := "java/util/ImmutableCollections$ListN", name := "get", desc := "(I)Ljava/lang/Object;" } : Jvm.MethodName) jdk_45_method_4_code (2 : Nat) (Option.some (Jvm.ClassFile.FieldType.object "java/lang/Object"))).before args0 about1 = true := code_word (m := ⟨27, 3⟩) (meth := k27m3) (c := k27c3) (by decide +kernel) rfl rfl rfl (by decide +kernel)
set_option maxRecDepth 65536 in
theorem w_c48 : (Jvm.Cond.code ({ cls := "java/util/Optional", name := "ofNullable", desc := "(Ljava/lang/Object;)Ljava/util/Optional;" } : Jvm.MethodName) jdk_32_method_4_code (1 : Nat) (Option.some (Jvm.ClassFile.FieldType.object "java/util/Optional"))).before args0 about1 = true := code_word (m := ⟨21, 3⟩) (meth := k21m3) (c := k21c3) (by decide +kernel) rfl rfl rfl (by decide +kernel)
set_option maxRecDepth 65536 in
theorem w_c49 : (Jvm.Cond.code ({ cls := "java/util/Optional", name := "get", desc := "()Ljava/lang/Object;" } : Jvm.MethodName) jdk_32_method_5_code (1 : Nat) (Option.some (Jvm.ClassFile.FieldType.object "java/lang/Object"))).before args0 about1 = true := code_word (m := ⟨21, 4⟩) (meth := k21m4) (c := k21c4) (by decide +kernel) rfl rfl rfl (by decide +kernel)
set_option maxRecDepth 65536 in
theorem w_c50 : (Jvm.Cond.code ({ cls := "java/util/ImmutableCollections$List12", name := "<init>", desc := "(Ljava/lang/Object;Ljava/lang/Object;)V" } : Jvm.MethodName) jdk_44_method_2_code (3 : Nat) (Option.none : Option Jvm.ClassFile.FieldType)).before args0 about1 = true := code_word (m := ⟨26, 1⟩) (meth := k26m1) (c := k26c1) (by decide +kernel) rfl rfl rfl (by decide +kernel)
set_option maxRecDepth 65536 in
theorem w_c51 : (Jvm.Cond.code ({ cls := "java/util/ImmutableCollections$List12", name := "<init>", desc := "(Ljava/lang/Object;)V" } : Jvm.MethodName) jdk_44_method_1_code (2 : Nat) (Option.none : Option Jvm.ClassFile.FieldType)).before args0 about1 = true := code_word (m := ⟨26, 0⟩) (meth := k26m0) (c := k26c0) (by decide +kernel) rfl rfl rfl (by decide +kernel)
set_option maxRecDepth 65536 in
theorem w_c52 : (Jvm.Cond.code ({ cls := "java/util/ImmutableCollections$List12", name := "isEmpty", desc := "()Z" } : Jvm.MethodName) jdk_44_method_4_code (1 : Nat) (Option.some Jvm.ClassFile.FieldType.boolean)).before args0 about1 = true := code_word (m := ⟨26, 3⟩) (meth := k26m3) (c := k26c3) (by decide +kernel) rfl rfl rfl (by decide +kernel)
set_option maxRecDepth 65536 in
theorem w_c53 : (Jvm.Cond.code ({ cls := "java/util/ImmutableCollections$List12", name := "size", desc := "()I" } : Jvm.MethodName) jdk_44_method_3_code (1 : Nat) (Option.some Jvm.ClassFile.FieldType.int)).before args0 about1 = true := code_word (m := ⟨26, 2⟩) (meth := k26m2) (c := k26c2) (by decide +kernel) rfl rfl rfl (by decide +kernel)
set_option maxRecDepth 65536 in
theorem w_c54 : (Jvm.Cond.code ({ cls := "java/util/ImmutableCollections$List12", name := "get", desc := "(I)Ljava/lang/Object;" } : Jvm.MethodName) jdk_44_method_5_code (2 : Nat) (Option.some (Jvm.ClassFile.FieldType.object "java/lang/Object"))).before args0 about1 = true := code_word (m := ⟨26, 4⟩) (meth := k26m4) (c := k26c4) (by decide +kernel) rfl rfl rfl (by decide +kernel)
def codes1 : List Jvm.Cond := [Jvm.Cond.code x code maxLocals ret, Jvm.Cond.code ({ cls := "java/lang/String", name := "valueOf", desc := "(C)Ljava/lang/String;" } : Jvm.MethodName) jdk_42_method_139_code (1 : Nat) (Option.some (Jvm.ClassFile.FieldType.object "java/lang/String")), Jvm.Cond.code ({ cls := "java/lang/StringLatin1", name := "canEncode", desc := "(C)Z" } : Jvm.MethodName) jdk_43_method_3_code (1 : Nat) (Option.some Jvm.ClassFile.FieldType.boolean), Jvm.Cond.code ({ cls := "java/lang/StringLatin1", name := "toBytes", desc := "(C)[B" } : Jvm.MethodName) jdk_43_method_46_code (1 : Nat) (Option.some (Jvm.ClassFile.FieldType.array Jvm.ClassFile.FieldType.byte)), Jvm.Cond.code ({ cls := "java/lang/String", name := "<init>", desc := "([BB)V" } : Jvm.MethodName) jdk_42_method_151_code (3 : Nat) (Option.none : Option Jvm.ClassFile.FieldType), Jvm.Cond.code ({ cls := "java/lang/Object", name := "<init>", desc := "()V" } : Jvm.MethodName) object_method_1_code (1 : Nat) (Option.none : Option Jvm.ClassFile.FieldType), Jvm.Cond.code ({ cls := "com/example/lexbind/lexbind/messages/Explanation$Step", name := "<init>", desc := "(Ljava/lang/String;Ljava/lang/String;)V" } : Jvm.MethodName) prog_37_method_1_code (3 : Nat) (Option.none : Option Jvm.ClassFile.FieldType), Jvm.Cond.code ({ cls := "java/lang/Record", name := "<init>", desc := "()V" } : Jvm.MethodName) jdk_30_method_1_code (1 : Nat) (Option.none : Option Jvm.ClassFile.FieldType), Jvm.Cond.code ({ cls := "java/util/Objects", name := "requireNonNull", desc := "(Ljava/lang/Object;Ljava/lang/String;)Ljava/lang/Object;" } : Jvm.MethodName) jdk_31_method_11_code (2 : Nat) (Option.some (Jvm.ClassFile.FieldType.object "java/lang/Object")), Jvm.Cond.code ({ cls := "java/util/ArrayList", name := "<init>", desc := "()V" } : Jvm.MethodName) jdk_38_method_2_code (1 : Nat) (Option.none : Option Jvm.ClassFile.FieldType), Jvm.Cond.code ({ cls := "java/util/AbstractList", name := "<init>", desc := "()V" } : Jvm.MethodName) jdk_39_method_1_code (1 : Nat) (Option.none : Option Jvm.ClassFile.FieldType), Jvm.Cond.code ({ cls := "java/util/AbstractCollection", name := "<init>", desc := "()V" } : Jvm.MethodName) jdk_22_method_1_code (1 : Nat) (Option.none : Option Jvm.ClassFile.FieldType), Jvm.Cond.code ({ cls := "java/util/Optional", name := "empty", desc := "()Ljava/util/Optional;" } : Jvm.MethodName) jdk_32_method_1_code (1 : Nat) (Option.some (Jvm.ClassFile.FieldType.object "java/util/Optional")), Jvm.Cond.code ({ cls := "com/example/lexbind/lexbind/messages/Explanation", name := "<init>", desc := "(Ljava/util/List;Ljava/util/Optional;Ljava/util/List;)V" } : Jvm.MethodName) prog_36_method_1_code (4 : Nat) (Option.none : Option Jvm.ClassFile.FieldType), Jvm.Cond.code ({ cls := "java/util/List", name := "copyOf", desc := "(Ljava/util/Collection;)Ljava/util/List;" } : Jvm.MethodName) jdk_40_method_48_code (1 : Nat) (Option.some (Jvm.ClassFile.FieldType.object "java/util/List")), Jvm.Cond.code ({ cls := "java/util/ImmutableCollections", name := "listCopy", desc := "(Ljava/util/Collection;)Ljava/util/List;" } : Jvm.MethodName) jdk_56_method_3_code (2 : Nat) (Option.some (Jvm.ClassFile.FieldType.object "java/util/List")), Jvm.Cond.code ({ cls := "java/util/ArrayList", name := "isEmpty", desc := "()Z" } : Jvm.MethodName) jdk_38_method_9_code (1 : Nat) (Option.some Jvm.ClassFile.FieldType.boolean), Jvm.Cond.code ({ cls := "java/util/List", name := "of", desc := "()Ljava/util/List;" } : Jvm.MethodName) jdk_40_method_36_code (0 : Nat) (Option.some (Jvm.ClassFile.FieldType.object "java/util/List")), Jvm.Cond.code ({ cls := "java/util/Optional", name := "isPresent", desc := "()Z" } : Jvm.MethodName) jdk_32_method_6_code (1 : Nat) (Option.some Jvm.ClassFile.FieldType.boolean), Jvm.Cond.code ({ cls := "com/example/lexbind/lexbind/messages/Explanation", name := "answer", desc := "()Ljava/util/Optional;" } : Jvm.MethodName) prog_36_method_3_code (1 : Nat) (Option.some (Jvm.ClassFile.FieldType.object "java/util/Optional")), Jvm.Cond.code ({ cls := "java/util/Optional", name := "map", desc := "(Ljava/util/function/Function;)Ljava/util/Optional;" } : Jvm.MethodName) jdk_32_method_11_code (2 : Nat) (Option.some (Jvm.ClassFile.FieldType.object "java/util/Optional")), Jvm.Cond.code ({ cls := "java/util/Objects", name := "requireNonNull", desc := "(Ljava/lang/Object;)Ljava/lang/Object;" } : Jvm.MethodName) jdk_31_method_10_code (1 : Nat) (Option.some (Jvm.ClassFile.FieldType.object "java/lang/Object")), Jvm.Cond.code ({ cls := "java/util/Optional", name := "isEmpty", desc := "()Z" } : Jvm.MethodName) jdk_32_method_7_code (1 : Nat) (Option.some Jvm.ClassFile.FieldType.boolean), Jvm.Cond.code ({ cls := "java/util/ArrayList", name := "add", desc := "(Ljava/lang/Object;)Z" } : Jvm.MethodName) jdk_38_method_25_code (2 : Nat) (Option.some Jvm.ClassFile.FieldType.boolean), Jvm.Cond.code ({ cls := "java/util/ArrayList", name := "add", desc := "(Ljava/lang/Object;[Ljava/lang/Object;I)V" } : Jvm.MethodName) jdk_38_method_24_code (4 : Nat) (Option.none : Option Jvm.ClassFile.FieldType), Jvm.Cond.code ({ cls := "java/util/ArrayList", name := "grow", desc := "()[Ljava/lang/Object;" } : Jvm.MethodName) jdk_38_method_7_code (1 : Nat) (Option.some (Jvm.ClassFile.FieldType.array (Jvm.ClassFile.FieldType.object "java/lang/Object"))), Jvm.Cond.code ({ cls := "java/util/ArrayList", name := "grow", desc := "(I)[Ljava/lang/Object;" } : Jvm.MethodName) jdk_38_method_6_code (4 : Nat) (Option.some (Jvm.ClassFile.FieldType.array (Jvm.ClassFile.FieldType.object "java/lang/Object"))), Jvm.Cond.code ({ cls := "java/lang/Math", name := "max", desc := "(II)I" } : Jvm.MethodName) jdk_29_method_65_code (2 : Nat) (Option.some Jvm.ClassFile.FieldType.int), Jvm.Cond.code ({ cls := "java/lang/String", name := "<init>", desc := "([C)V" } : Jvm.MethodName) jdk_42_method_3_code (2 : Nat) (Option.none : Option Jvm.ClassFile.FieldType), Jvm.Cond.code ({ cls := "java/lang/String", name := "<init>", desc := "([CIILjava/lang/Void;)V" } : Jvm.MethodName) jdk_42_method_149_code (6 : Nat) (Option.none : Option Jvm.ClassFile.FieldType), Jvm.Cond.code ({ cls := "java/lang/StringUTF16", name := "compress", desc := "([CII)[B" } : Jvm.MethodName) jdk_52_method_16_code (6 : Nat) (Option.some (Jvm.ClassFile.FieldType.array Jvm.ClassFile.FieldType.byte)), Jvm.Cond.code ({ cls := "java/lang/StringUTF16", name := "compress", desc := "([CI[BII)I" } : Jvm.MethodName) jdk_52_method_21_code (7 : Nat) (Option.some Jvm.ClassFile.FieldType.int), Jvm.Cond.code ({ cls := "java/lang/StringUTF16", name := "coderFromArrayLen", desc := "([BI)B" } : Jvm.MethodName) jdk_52_method_15_code (2 : Nat) (Option.some Jvm.ClassFile.FieldType.byte), Jvm.Cond.code ({ cls := "java/util/Optional", name := "of", desc := "(Ljava/lang/Object;)Ljava/util/Optional;" } : Jvm.MethodName) jdk_32_method_3_code (1 : Nat) (Option.some (Jvm.ClassFile.FieldType.object "java/util/Optional")), Jvm.Cond.code ({ cls := "java/util/Optional", name := "<init>", desc := "(Ljava/lang/Object;)V" } : Jvm.MethodName) jdk_32_method_2_code (2 : Nat) (Option.none : Option Jvm.ClassFile.FieldType), Jvm.Cond.code ({ cls := "java/util/ArrayList", name := "toArray", desc := "()[Ljava/lang/Object;" } : Jvm.MethodName) jdk_38_method_16_code (1 : Nat) (Option.some (Jvm.ClassFile.FieldType.array (Jvm.ClassFile.FieldType.object "java/lang/Object"))), Jvm.Cond.code ({ cls := "java/util/Arrays", name := "copyOf", desc := "([Ljava/lang/Object;I)[Ljava/lang/Object;" } : Jvm.MethodName) jdk_65_method_119_code (2 : Nat) (Option.some (Jvm.ClassFile.FieldType.array (Jvm.ClassFile.FieldType.object "java/lang/Object"))), Jvm.Cond.code ({ cls := "java/util/Arrays", name := "copyOf", desc := "([Ljava/lang/Object;ILjava/lang/Class;)[Ljava/lang/Object;" } : Jvm.MethodName) jdk_65_method_120_code (4 : Nat) (Option.some (Jvm.ClassFile.FieldType.array (Jvm.ClassFile.FieldType.object "java/lang/Object"))), Jvm.Cond.code ({ cls := "java/lang/Math", name := "min", desc := "(II)I" } : Jvm.MethodName) jdk_29_method_69_code (2 : Nat) (Option.some Jvm.ClassFile.FieldType.int), Jvm.Cond.code ({ cls := "java/util/List", name := "of", desc := "([Ljava/lang/Object;)Ljava/util/List;" } : Jvm.MethodName) jdk_40_method_47_code (2 : Nat) (Option.some (Jvm.ClassFile.FieldType.object "java/util/List")), Jvm.Cond.code ({ cls := "java/util/ImmutableCollections", name := "listFromArray", desc := "([Ljava/lang/Object;)Ljava/util/List;" } : Jvm.MethodName) jdk_56_method_4_code (3 : Nat) (Option.some (Jvm.ClassFile.FieldType.object "java/util/List")), Jvm.Cond.code ({ cls := "java/util/ImmutableCollections$ListN", name := "<init>", desc := "([Ljava/lang/Object;Z)V" } : Jvm.MethodName) jdk_45_method_1_code (3 : Nat) (Option.none : Option Jvm.ClassFile.FieldType), Jvm.Cond.code ({ cls := "java/util/ImmutableCollections$AbstractImmutableList", name := "<init>", desc := "()V" } : Jvm.MethodName) jdk_46_method_1_code (1 : Nat) (Option.none : Option Jvm.ClassFile.FieldType), Jvm.Cond.code ({ cls := "java/util/ImmutableCollections$AbstractImmutableCollection", name := "<init>", desc := "()V" } : Jvm.MethodName) jdk_47_method_1_code (1 : Nat) (Option.none : Option Jvm.ClassFile.FieldType), Jvm.Cond.code ({ cls := "java/util/ImmutableCollections$ListN", name := "isEmpty", desc := "()Z" } : Jvm.MethodName) jdk_45_method_2_code (1 : Nat) (Option.some Jvm.ClassFile.FieldType.boolean), Jvm.Cond.code ({ cls := "com/example/lexbind/lexbind/messages/Explanation", name := "lambda$answer$0", desc := "(Ljava/lang/String;)Lcom/example/lexbind/lexbind/messages/Explanation$Step;" } : Jvm.MethodName) prog_36_method_11_code (2 : Nat) (Option.some (Jvm.ClassFile.FieldType.object "com/example/lexbind/lexbind/messages/Explanation$Step")), Jvm.Cond.code ({ cls := "java/util/ImmutableCollections$ListN", name := "size", desc := "()I" } : Jvm.MethodName) jdk_45_method_3_code (1 : Nat) (Option.some Jvm.ClassFile.FieldType.int), Jvm.Cond.code ({ cls := "java/util/ImmutableCollections$ListN", name := "get", desc := "(I)Ljava/lang/Object;" } : Jvm.MethodName) jdk_45_method_4_code (2 : Nat) (Option.some (Jvm.ClassFile.FieldType.object "java/lang/Object")), Jvm.Cond.code ({ cls := "java/util/Optional", name := "ofNullable", desc := "(Ljava/lang/Object;)Ljava/util/Optional;" } : Jvm.MethodName) jdk_32_method_4_code (1 : Nat) (Option.some (Jvm.ClassFile.FieldType.object "java/util/Optional")), Jvm.Cond.code ({ cls := "java/util/Optional", name := "get", desc := "()Ljava/lang/Object;" } : Jvm.MethodName) jdk_32_method_5_code (1 : Nat) (Option.some (Jvm.ClassFile.FieldType.object "java/lang/Object")), Jvm.Cond.code ({ cls := "java/util/ImmutableCollections$List12", name := "<init>", desc := "(Ljava/lang/Object;Ljava/lang/Object;)V" } : Jvm.MethodName) jdk_44_method_2_code (3 : Nat) (Option.none : Option Jvm.ClassFile.FieldType), Jvm.Cond.code ({ cls := "java/util/ImmutableCollections$List12", name := "<init>", desc := "(Ljava/lang/Object;)V" } : Jvm.MethodName) jdk_44_method_1_code (2 : Nat) (Option.none : Option Jvm.ClassFile.FieldType), Jvm.Cond.code ({ cls := "java/util/ImmutableCollections$List12", name := "isEmpty", desc := "()Z" } : Jvm.MethodName) jdk_44_method_4_code (1 : Nat) (Option.some Jvm.ClassFile.FieldType.boolean), Jvm.Cond.code ({ cls := "java/util/ImmutableCollections$List12", name := "size", desc := "()I" } : Jvm.MethodName) jdk_44_method_3_code (1 : Nat) (Option.some Jvm.ClassFile.FieldType.int), Jvm.Cond.code ({ cls := "java/util/ImmutableCollections$List12", name := "get", desc := "(I)Ljava/lang/Object;" } : Jvm.MethodName) jdk_44_method_5_code (2 : Nat) (Option.some (Jvm.ClassFile.FieldType.object "java/lang/Object"))]
set_option maxRecDepth 65536 in
theorem codes_eq : words1.filter isCode = codes1 := rfl
theorem w_codes : ∀ c ∈ words1.filter isCode, c.before args0 about1 = true := by
  rw [codes_eq]
  intro c hc
  simp only [codes1, List.mem_cons, List.not_mem_nil, or_false] at hc
  rcases hc with rfl | rfl | rfl | rfl | rfl | rfl | rfl | rfl | rfl | rfl | rfl | rfl | rfl | rfl | rfl | rfl | rfl | rfl | rfl | rfl | rfl | rfl | rfl | rfl | rfl | rfl | rfl | rfl | rfl | rfl | rfl | rfl | rfl | rfl | rfl | rfl | rfl | rfl | rfl | rfl | rfl | rfl | rfl | rfl | rfl | rfl | rfl | rfl | rfl | rfl | rfl | rfl | rfl | rfl | rfl
  · exact w_c0
  · exact w_c1
  · exact w_c2
  · exact w_c3
  · exact w_c4
  · exact w_c5
  · exact w_c6
  · exact w_c7
  · exact w_c8
  · exact w_c9
  · exact w_c10
  · exact w_c11
  · exact w_c12
  · exact w_c13
  · exact w_c14
  · exact w_c15
  · exact w_c16
  · exact w_c17
  · exact w_c18
  · exact w_c19
  · exact w_c20
  · exact w_c21
  · exact w_c22
  · exact w_c23
  · exact w_c24
  · exact w_c25
  · exact w_c26
  · exact w_c27
  · exact w_c28
  · exact w_c29
  · exact w_c30
  · exact w_c31
  · exact w_c32
  · exact w_c33
  · exact w_c34
  · exact w_c35
  · exact w_c36
  · exact w_c37
  · exact w_c38
  · exact w_c39
  · exact w_c40
  · exact w_c41
  · exact w_c42
  · exact w_c43
  · exact w_c44
  · exact w_c45
  · exact w_c46
  · exact w_c47
  · exact w_c48
  · exact w_c49
  · exact w_c50
  · exact w_c51
  · exact w_c52
  · exact w_c53
  · exact w_c54
set_option maxRecDepth 65536 in
theorem w_t1 : (words1.take 24).all (fun c => isCode c || c.before args0 about1) = true := by decide +kernel
set_option maxRecDepth 65536 in
theorem w_t2 : ((words1.drop 24).take 24).all (fun c => isCode c || c.before args0 about1) = true := by decide +kernel
set_option maxRecDepth 65536 in
theorem w_t3 : (((words1.drop 24).drop 24).take 24).all (fun c => isCode c || c.before args0 about1) = true := by decide +kernel
set_option maxRecDepth 65536 in
theorem w_t4 : ((((words1.drop 24).drop 24).drop 24).take 24).all (fun c => isCode c || c.before args0 about1) = true := by decide +kernel
set_option maxRecDepth 65536 in
theorem w_t5 : (((((words1.drop 24).drop 24).drop 24).drop 24).take 24).all (fun c => isCode c || c.before args0 about1) = true := by decide +kernel
set_option maxRecDepth 65536 in
theorem w_t6 : ((((((words1.drop 24).drop 24).drop 24).drop 24).drop 24).take 24).all (fun c => isCode c || c.before args0 about1) = true := by decide +kernel
set_option maxRecDepth 65536 in
theorem w_t7 : (((((((words1.drop 24).drop 24).drop 24).drop 24).drop 24).drop 24).take 24).all (fun c => isCode c || c.before args0 about1) = true := by decide +kernel
set_option maxRecDepth 65536 in
theorem w_t8 : ((((((((words1.drop 24).drop 24).drop 24).drop 24).drop 24).drop 24).drop 24).take 24).all (fun c => isCode c || c.before args0 about1) = true := by decide +kernel
set_option maxRecDepth 65536 in
theorem w_t9 : (((((((((words1.drop 24).drop 24).drop 24).drop 24).drop 24).drop 24).drop 24).drop 24).take 24).all (fun c => isCode c || c.before args0 about1) = true := by decide +kernel
set_option maxRecDepth 65536 in
theorem w_t10 : ((((((((((words1.drop 24).drop 24).drop 24).drop 24).drop 24).drop 24).drop 24).drop 24).drop 24).take 24).all (fun c => isCode c || c.before args0 about1) = true := by decide +kernel
set_option maxRecDepth 65536 in
theorem w_t11 : (((((((((((words1.drop 24).drop 24).drop 24).drop 24).drop 24).drop 24).drop 24).drop 24).drop 24).drop 24).take 24).all (fun c => isCode c || c.before args0 about1) = true := by decide +kernel
set_option maxRecDepth 65536 in
theorem w_t12 : ((((((((((((words1.drop 24).drop 24).drop 24).drop 24).drop 24).drop 24).drop 24).drop 24).drop 24).drop 24).drop 24).take 24).all (fun c => isCode c || c.before args0 about1) = true := by decide +kernel
set_option maxRecDepth 65536 in
theorem w_t13 : (((((((((((((words1.drop 24).drop 24).drop 24).drop 24).drop 24).drop 24).drop 24).drop 24).drop 24).drop 24).drop 24).drop 24).take 24).all (fun c => isCode c || c.before args0 about1) = true := by decide +kernel
set_option maxRecDepth 65536 in
theorem w_t14 : ((((((((((((((words1.drop 24).drop 24).drop 24).drop 24).drop 24).drop 24).drop 24).drop 24).drop 24).drop 24).drop 24).drop 24).drop 24).take 24).all (fun c => isCode c || c.before args0 about1) = true := by decide +kernel
set_option maxRecDepth 65536 in
theorem w_t15 : ((((((((((((((words1.drop 24).drop 24).drop 24).drop 24).drop 24).drop 24).drop 24).drop 24).drop 24).drop 24).drop 24).drop 24).drop 24).drop 24).all (fun c => isCode c || c.before args0 about1) = true := by decide +kernel
theorem w_tables : (allAtoms (Jvm.Cond.code x code maxLocals ret :: tables_1)).before args0 about1 = true := by
  rw [allAtoms_all]
  show words1.all (fun c => c.before args0 about1) = true
  refine all_split ?_ w_codes
  rw [← List.take_append_drop 24 words1, List.all_append, w_t1, ← List.take_append_drop 24 (words1.drop 24), List.all_append, w_t2, ← List.take_append_drop 24 ((words1.drop 24).drop 24), List.all_append, w_t3, ← List.take_append_drop 24 (((words1.drop 24).drop 24).drop 24), List.all_append, w_t4, ← List.take_append_drop 24 ((((words1.drop 24).drop 24).drop 24).drop 24), List.all_append, w_t5, ← List.take_append_drop 24 (((((words1.drop 24).drop 24).drop 24).drop 24).drop 24), List.all_append, w_t6, ← List.take_append_drop 24 ((((((words1.drop 24).drop 24).drop 24).drop 24).drop 24).drop 24), List.all_append, w_t7, ← List.take_append_drop 24 (((((((words1.drop 24).drop 24).drop 24).drop 24).drop 24).drop 24).drop 24), List.all_append, w_t8, ← List.take_append_drop 24 ((((((((words1.drop 24).drop 24).drop 24).drop 24).drop 24).drop 24).drop 24).drop 24), List.all_append, w_t9, ← List.take_append_drop 24 (((((((((words1.drop 24).drop 24).drop 24).drop 24).drop 24).drop 24).drop 24).drop 24).drop 24), List.all_append, w_t10, ← List.take_append_drop 24 ((((((((((words1.drop 24).drop 24).drop 24).drop 24).drop 24).drop 24).drop 24).drop 24).drop 24).drop 24), List.all_append, w_t11, ← List.take_append_drop 24 (((((((((((words1.drop 24).drop 24).drop 24).drop 24).drop 24).drop 24).drop 24).drop 24).drop 24).drop 24).drop 24), List.all_append, w_t12, ← List.take_append_drop 24 ((((((((((((words1.drop 24).drop 24).drop 24).drop 24).drop 24).drop 24).drop 24).drop 24).drop 24).drop 24).drop 24).drop 24), List.all_append, w_t13, ← List.take_append_drop 24 (((((((((((((words1.drop 24).drop 24).drop 24).drop 24).drop 24).drop 24).drop 24).drop 24).drop 24).drop 24).drop 24).drop 24).drop 24), List.all_append, w_t14, w_t15]
  rfl
set_option maxRecDepth 65536 in
theorem w_rest : rest_1_c.before args0 about1 = true := by decide +kernel
set_option maxRecDepth 65536 in
theorem w_case : (Jvm.Cond.and given_1 narrow_1).before args0 about1 = true := by decide +kernel
theorem w_applies : (headSpec (Jvm.Cond.code x code maxLocals ret :: tables_1) room_1).applies x e0.platform about1 = true :=
  (Spec.applies_iff w_frames).mpr ⟨w_running, w_runnable, w_alone, w_named, w_hears, w_ripe, w_room, w_tables⟩
theorem atStart : AtStart classFile x code maxLocals ret World_1 tables_1 room_1 Calls_1 rest_1 Pre_1 launch0 p0 e0 about1 theMethod args0 below0 :=
  ⟨lists_1, trivial, launch0.admits_env _ _ _, launch0.least_env, fairChoices_fair.cas, fairChoices_fair.clock, w_frames, w_args, w_heap, w_applies, ⟨⟨42, k42, 5, by decide +kernel, rfl, rfl, _, rfl, rfl⟩, trivial⟩, w_rest, w_case⟩
end start1
theorem witness_1 : WitnessClaimed_1 := ⟨start1.p0, start1.e0, start1.about1, start1.theMethod, start1.args0, start1.below0, start1.atStart⟩
end Jvm.Pilot.@@N@@
