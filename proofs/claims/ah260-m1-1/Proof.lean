import JvmDerived
import JvmDerived.Pilot.@@N@@Statement
import JvmDerived.Pilot.@@N@@Code
set_option linter.unusedVariables false
set_option linter.unusedSimpArgs false
namespace Jvm.Pilot.@@N@@
open Jvm Jvm.ClassFile Sem Op Lib Jvm.Free Jvm.Stand Jvm.LawKit Jvm.RoadKit Bundle Jvm.Pilot.@@N@@.Jvm.D
namespace Wd
section Inv
variable {Z : State} {EL : List (String × Nat)} {n0 : Nat} {vm vm1 : Vm} {h h' : Heap} {WL FL : List Addr}
/-- of tables vm and heap h: the constants EL say their text; the start's cells stand; WL: cells of our own making that are no constant's; FL: other cells -/
def Inv (Z : State) (EL : List (String × Nat)) (n0 : Nat) (vm : Vm) (h : Heap) (WL FL : List Addr) : Prop :=
  (∃ a0, EW Z a0 EL) ∧ CHv Z EL vm h ∧ Old Z n0 h ∧ (∀ x ∈ WL, n0 ≤ x ∧ x < h.size ∧ Safe Z EL vm h x) ∧ WL.Nodup ∧ ∀ y ∈ FL, y < h.size ∧ y ∉ WL
theorem Inv.ext (I : Inv Z EL n0 vm h WL FL) (E : Ext h h') : Inv Z EL n0 vm h' WL FL := by
  obtain ⟨i1, i2, i3, i4, i5, i6⟩ := I
  exact ⟨i1, CHv.ext E i2, i3.ext E, fun x hx => ⟨(i4 x hx).1, Nat.lt_of_lt_of_le (i4 x hx).2.1 E.1, Safe.ext E i2 (i4 x hx).2.2⟩, i5, fun y hy => ⟨Nat.lt_of_lt_of_le (i6 y hy).1 E.1, (i6 y hy).2⟩⟩
theorem Inv.keep {ws : List Addr} (I : Inv Z EL n0 vm h WL FL) (K : Keep h h' ws) (hs : ∀ x ∈ ws, x ∈ WL) : Inv Z EL n0 vm h' WL FL := by
  obtain ⟨i1, i2, i3, i4, i5, i6⟩ := I
  have q : ∀ x ∈ ws, Safe Z EL vm h x := fun x hx => (i4 x (hs x hx)).2.2
  exact ⟨i1, CHv.keep K q i2, i3.keep K (fun x hx => (i4 x (hs x hx)).1), fun x hx => ⟨(i4 x hx).1, Nat.lt_of_lt_of_le (i4 x hx).2.1 K.1, Safe.keep K q i2 (i4 x hx).2.2⟩, i5, fun y hy => ⟨Nat.lt_of_lt_of_le (i6 y hy).1 K.1, (i6 y hy).2⟩⟩
theorem Inv.wr {a : Addr} {sl : Nat} {v : Value} (I : Inv Z EL n0 vm h WL FL) (W : Wr h h' a sl v) (ha : a ∈ WL) : Inv Z EL n0 vm h' WL FL :=
  I.keep (Keep.of_wr W) (allS ha all0)
theorem Inv.new (I : Inv Z EL n0 vm h WL FL) (E : Ext h h') (hlt : h.size < h'.size) : Inv Z EL n0 vm h' (h.size :: WL) FL := by
  have J := I.ext E
  obtain ⟨i1, i2, i3, i4, i5, i6⟩ := I
  obtain ⟨j1, j2, j3, j4, j5, j6⟩ := J
  refine ⟨j1, j2, j3, fun x hx => ?_, ?_, fun y hy => ⟨(j6 y hy).1, fun q => ?_⟩⟩
  · rcases List.mem_cons.mp hx with rfl | hx
    · exact ⟨by rw [← i3.1]; exact i3.2.1, hlt, Safe.ext E i2 (Safe.new (Nat.le_refl _))⟩
    · exact j4 x hx
  · exact List.nodup_cons.mpr ⟨fun q => Nat.lt_irrefl _ (i4 _ q).2.1, j5⟩
  · rcases List.mem_cons.mp q with rfl | q
    · exact Nat.lt_irrefl _ (i6 _ hy).1
    · exact (j6 y hy).2 q
/-- another cell comes into sight -/
theorem Inv.adopt {y : Addr} (I : Inv Z EL n0 vm h WL FL) (h1 : y < h.size) (h2 : y ∉ WL) : Inv Z EL n0 vm h WL (y :: FL) := by
  obtain ⟨i1, i2, i3, i4, i5, i6⟩ := I
  refine ⟨i1, i2, i3, i4, i5, fun x hx => ?_⟩
  rcases List.mem_cons.mp hx with rfl | hx
  · exact ⟨h1, h2⟩
  · exact i6 x hx
/-- a cell of ours is given up -/
theorem Inv.drop {A B : List Addr} {t : Addr} (I : Inv Z EL n0 vm h (A ++ t :: B) FL) : Inv Z EL n0 vm h (A ++ B) (t :: FL) := by
  obtain ⟨i1, i2, i3, i4, i5, i6⟩ := I
  have m : ∀ x, x ∈ A ++ B → x ∈ A ++ t :: B := fun x hx => by
    rcases List.mem_append.mp hx with q | q
    · exact List.mem_append_left _ q
    · exact List.mem_append_right _ (List.mem_cons_of_mem _ q)
  have pm : (A ++ t :: B).Perm (t :: (A ++ B)) := List.perm_middle
  have nd := pm.nodup_iff.mp i5
  obtain ⟨n1, n2⟩ := List.nodup_cons.mp nd
  refine ⟨i1, i2, i3, fun x hx => i4 x (m x hx), n2, fun y hy => ?_⟩
  rcases List.mem_cons.mp hy with rfl | hy
  · exact ⟨(i4 _ (List.mem_append_right _ (List.mem_cons_self ..))).2.1, n1⟩
  · exact ⟨(i6 y hy).1, fun q => (i6 y hy).2 (m y q)⟩
/-- other cells are forgotten -/
theorem Inv.fl {FL2 : List Addr} (I : Inv Z EL n0 vm h WL FL) (q : ∀ y ∈ FL2, y ∈ FL) : Inv Z EL n0 vm h WL FL2 := by
  obtain ⟨i1, i2, i3, i4, i5, i6⟩ := I
  exact ⟨i1, i2, i3, i4, i5, fun y hy => i6 y (q y hy)⟩
theorem Inv.ne {i j : Nat} {a b : Addr} (I : Inv Z EL n0 vm h WL FL) (ha : WL[i]? = some a) (hb : WL[j]? = some b) (q : i ≠ j) : a ≠ b := fun e => by
  obtain ⟨i1, i2, i3, i4, i5, i6⟩ := I
  subst e
  obtain ⟨hi, e1⟩ := List.getElem?_eq_some_iff.mp ha
  obtain ⟨hj, e2⟩ := List.getElem?_eq_some_iff.mp hb
  have pw := List.pairwise_iff_getElem.mp i5
  rcases Nat.lt_or_gt_of_ne q with z | z
  · exact pw i j hi hj z (e1.trans e2.symm)
  · exact pw j i hj hi z (e2.trans e1.symm)
theorem Inv.neF {a b : Addr} (I : Inv Z EL n0 vm h WL FL) (ha : a ∈ FL) (hb : b ∈ WL) : a ≠ b := fun e => by
  subst e; exact (I.2.2.2.2.2 _ ha).2 hb
theorem Inv.neT {A B : List Addr} {a b : Addr} (I : Inv Z EL n0 vm h (A ++ B) FL) (ha : a ∈ A) (hb : b ∈ B) : a ≠ b := fun e => by
  subst e; exact (List.nodup_append.mp I.2.2.2.2.1).2.2 a ha a hb rfl
theorem Inv.ge {a : Addr} (I : Inv Z EL n0 vm h WL FL) (ha : a ∈ WL) : n0 ≤ a := (I.2.2.2.1 a ha).1
theorem Inv.lt {a : Addr} (I : Inv Z EL n0 vm h WL FL) (ha : a ∈ WL) : a < h.size := (I.2.2.2.1 a ha).2.1
theorem Inv.old (I : Inv Z EL n0 vm h WL FL) : Old Z n0 h := I.2.2.1
theorem Inv.n0le (I : Inv Z EL n0 vm h WL FL) : n0 ≤ h.size := by have q := I.old; rw [← q.1]; exact q.2.1
end Inv
section Walk
variable {p : Program} {l : Launch} {e : Env} {R : Room} {s : State} {m : MethodId} {args : Array Value} {below : List Frame} {meth : Method} {c : Code} {T T' : State} {cells slots : Nat} {Z : State} {EL : List (String × Nat)} {n0 : Nat} {own : String} {h h' : Heap} {WL FL : List Addr} {a0 : Array Value}
/-- where the walk stands -/
def WS (p : Program) (l : Launch) (e : Env) (R : Room) (s : State) (m : MethodId) (args : Array Value) (below : List Frame) (meth : Method) (c : Code) (Z : State) (EL : List (String × Nat)) (n0 : Nat) (own : String) (T : State) (h : Heap) (WL FL : List Addr) (cells slots : Nat) : Prop :=
  ∃ (vm0 : Vm) (k0 : Nat) (locs : List Loc), Stand p l e R (s.setVm vm0) m args below meth c T locs cells slots ∧ T.heap = h ∧ s.Since vm0 k0 ∧ k0 ≤ h.size ∧ Z.Warmed39 vm0 ∧ vm0.findClass own = some m.cls ∧ Fr n0 locs ∧ Inv Z EL n0 vm0 h WL FL
theorem WS.here (X : WS p l e R s m args below meth c Z EL n0 own T h WL FL cells slots) : At T m c below := by
  obtain ⟨_, _, _, X, -⟩ := X; exact X.here
theorem WS.hZ (X : WS p l e R s m args below meth c Z EL n0 own T h WL FL cells slots) : ∃ vm0, Inv Z EL n0 vm0 h WL FL := by
  obtain ⟨vm0, _, _, _, _, _, _, _, _, _, I⟩ := X; exact ⟨vm0, I⟩
theorem WS.old (X : WS p l e R s m args below meth c Z EL n0 own T h WL FL cells slots) : Old Z n0 h := by obtain ⟨_, I⟩ := X.hZ; exact I.old
theorem WS.n0le (X : WS p l e R s m args below meth c Z EL n0 own T h WL FL cells slots) : n0 ≤ h.size := by obtain ⟨_, I⟩ := X.hZ; exact I.n0le
theorem WS.ge {a : Addr} (X : WS p l e R s m args below meth c Z EL n0 own T h WL FL cells slots) (ha : a ∈ WL) : n0 ≤ a := by obtain ⟨_, I⟩ := X.hZ; exact I.ge ha
theorem WS.ne {i j : Nat} {a b : Addr} (X : WS p l e R s m args below meth c Z EL n0 own T h WL FL cells slots) (ha : WL[i]? = some a) (hb : WL[j]? = some b) (q : i ≠ j) : a ≠ b := by obtain ⟨_, I⟩ := X.hZ; exact I.ne ha hb q
theorem WS.neF {a b : Addr} (X : WS p l e R s m args below meth c Z EL n0 own T h WL FL cells slots) (ha : a ∈ FL) (hb : b ∈ WL) : a ≠ b := by obtain ⟨_, I⟩ := X.hZ; exact I.neF ha hb
theorem WS.neT {A B : List Addr} {a b : Addr} (X : WS p l e R s m args below meth c Z EL n0 own T h (A ++ B) FL cells slots) (ha : a ∈ A) (hb : b ∈ B) : a ≠ b := by obtain ⟨_, I⟩ := X.hZ; exact I.neT ha hb
theorem WS.sta {C n d : String} {v : Value} (X : WS p l e R s m args below meth c Z EL n0 own T h WL FL cells slots) (F : Sta Z Z.heap C n d v) : Sta Z h C n d v := F.ext X.old.2
theorem WS.drop {A B : List Addr} {t : Addr} (X : WS p l e R s m args below meth c Z EL n0 own T h (A ++ t :: B) FL cells slots) : WS p l e R s m args below meth c Z EL n0 own T h (A ++ B) (t :: FL) cells slots := by
  obtain ⟨vm0, k0, locs, X, eT, hS, hk, hZ, hown, N, I⟩ := X; exact ⟨vm0, k0, locs, X, eT, hS, hk, hZ, hown, N, I.drop⟩
theorem WS.adopt {y : Addr} (X : WS p l e R s m args below meth c Z EL n0 own T h WL FL cells slots) (h1 : y < h.size) (h2 : y ∉ WL) : WS p l e R s m args below meth c Z EL n0 own T h WL (y :: FL) cells slots := by
  obtain ⟨vm0, k0, locs, X, eT, hS, hk, hZ, hown, N, I⟩ := X; exact ⟨vm0, k0, locs, X, eT, hS, hk, hZ, hown, N, I.adopt h1 h2⟩
theorem WS.fl {FL2 : List Addr} (X : WS p l e R s m args below meth c Z EL n0 own T h WL FL cells slots) (q : ∀ y ∈ FL2, y ∈ FL) : WS p l e R s m args below meth c Z EL n0 own T h WL FL2 cells slots := by
  obtain ⟨vm0, k0, locs, X, eT, hS, hk, hZ, hown, N, I⟩ := X; exact ⟨vm0, k0, locs, X, eT, hS, hk, hZ, hown, N, I.fl q⟩
theorem WS.mono {cells' slots' : Nat} (X : WS p l e R s m args below meth c Z EL n0 own T h WL FL cells slots) (h1 : cells ≤ cells') (h2 : slots ≤ slots') : WS p l e R s m args below meth c Z EL n0 own T h WL FL cells' slots' := by
  obtain ⟨vm0, k0, locs, X, eT, hS, hk, hZ, hown, N, I⟩ := X; exact ⟨vm0, k0, locs, X.mono h1 h2, eT, hS, hk, hZ, hown, N, I⟩
/-- what is to be shown from here on -/
def Wo (p : Program) (e : Env) (s : State) (below : List Frame) (Z : State) (EL : List (String × Nat)) (n0 : Nat) (WL0 FL0 : List Addr) (rm : Room) (Q : Option Value → Heap → List Addr → List Addr → Prop) (T : State) (f : JFrame) : Prop :=
  ∃ s₂ o, Steps p.tables e below (T.setTop f) s₂ ∧ s₂.status = .running ∧ Ended s₂ below o ∧ ∃ v L WL' FL', o = .returned v ∧ Inv Z EL n0 s₂.vm s₂.heap (WL' ++ WL0) (FL' ++ FL0) ∧ Fr n0 L ∧ Q v s₂.heap WL' FL' ∧ ReturnedEndW s o s₂ L rm.cells rm.slots
variable {WL0 FL0 : List Addr} {rm : Room} {Q : Option Value → Heap → List Addr → List Addr → Prop} {f f' : JFrame} {pc : Nat} {Ls : Array Slot} {st rest : List Value}
theorem Wo.by (k : ∀ t, Steps p.tables e below (T'.setTop f') t → Steps p.tables e below (T.setTop f) t) (o : Wo p e s below Z EL n0 WL0 FL0 rm Q T' f') : Wo p e s below Z EL n0 WL0 FL0 rm Q T f := by
  obtain ⟨s₂, o, h1, r⟩ := o; exact ⟨s₂, o, k _ h1, r⟩
theorem Wo.cast (q : f = f') (o : Wo p e s below Z EL n0 WL0 FL0 rm Q T f') : Wo p e s below Z EL n0 WL0 FL0 rm Q T f := q ▸ o
/-- a method's contract -/
def Ct (l : Launch) (Z : State) (EL : List (String × Nat)) (n0 : Nat) (y : MethodName) (bytes : ByteArray) (maxL : Nat) (ret : Option FieldType) (rm : Room) (as' : Array Value) (h : Heap) (WL FL : List Addr) (Q : Option Value → Heap → List Addr → List Addr → Prop) : Prop :=
  ∀ ws : List Jvm.Cond, MetFree l y (head1 (Jvm.Cond.code y bytes maxL ret :: ws) rm) (fun a U => a = as' ∧ Z.Warmed39 U.vm ∧ U.heap = h ∧ Inv Z EL n0 U.vm h WL FL) (fun _ _ _ _ _ => True)
    (fun _ U o U' => ∃ v L WL' FL', o = .returned v ∧ Inv Z EL n0 U'.vm U'.heap (WL' ++ WL) (FL' ++ FL) ∧ Fr n0 L ∧ Q v U'.heap WL' FL' ∧ ReturnedEndW U o U' L rm.cells rm.slots)
theorem Ct.of {y : MethodName} {bytes : ByteArray} {maxL : Nat} {ret : Option FieldType} {as' : Array Value} (hy : plainFor y = true)
    (body : ∀ p e s m below meth c s₁, p.tables.exec = Jvm.exec → c.code = bytes → c.maxLocals = maxL → meth.name = y.name → meth.sig.returnType = ret → meth.locks = false →
      WS p l e rm s m as' below meth c Z EL n0 y.cls s₁ h WL FL 0 0 → Wo p e s below Z EL n0 WL FL rm Q s₁ (entryFrame m as' maxL)) :
    Ct l Z EL n0 y bytes maxL ret rm as' h WL FL Q := by
  intro ws
  refine MetFree.of_bodySF hy hisR ?_
  intro p e s m args below meth c s₁ Bd hml hP _
  obtain ⟨rfl, hZ, hh, I⟩ := hP
  have e0 : s₁.heap = h := by rw [← hh, Bd.state]; rfl
  obtain ⟨s₂, o, h1, h2, h3, h4⟩ := body p e s m below meth c s₁ Bd.exec Bd.bytes hml (name_of_methodNamed Bd.named Bd.method).1 Bd.returns (BodyLoose.notSynchronized Bd)
    ⟨s.vm, h.size, [], Stand.of_body Bd, e0, (State.WarmedH.refl s).since _, Nat.le_refl _, hZ, findClass_of_methodNamed Bd.named, Fr.nil n0, I⟩
  exact ⟨s₂, o, h1, h2, h3, h4⟩
theorem Ct.mono {y : MethodName} {bytes : ByteArray} {maxL : Nat} {ret : Option FieldType} {as' : Array Value} {Q2 : Option Value → Heap → List Addr → List Addr → Prop} (C : Ct l Z EL n0 y bytes maxL ret rm as' h WL FL Q) (hq : ∀ v h' WL' FL', Q v h' WL' FL' → Q2 v h' WL' FL') : Ct l Z EL n0 y bytes maxL ret rm as' h WL FL Q2 := by
  intro ws p e ha hc hk s m args below hf happ hP hK
  obtain ⟨n, o, h1, h2, h3, v, L, WL', FL', r1, r2, r3, r4, r5⟩ := C ws p e ha hc hk s m args below hf happ hP hK
  exact ⟨n, o, h1, h2, h3, v, L, WL', FL', r1, r2, r3, hq _ _ _ _ r4, r5⟩
/-- the tables at hand -/
theorem WS.invT {vm0 : Vm} {locs : List Loc} (X : Stand p l e R (s.setVm vm0) m args below meth c T locs cells slots) (hZ : Z.Warmed39 vm0) (I : Inv Z EL n0 vm0 h WL FL) : Inv Z EL n0 T.vm h WL FL := by
  obtain ⟨⟨a0, i1⟩, i2, i3, i4, i5, i6⟩ := I
  have A := CHv.at X hZ i1 i2
  exact ⟨⟨a0, i1⟩, A.1, i3, fun x hx => ⟨(i4 x hx).1, (i4 x hx).2.1, A.safe (i4 x hx).2.1 (i4 x hx).2.2⟩, i5, i6⟩
theorem WS.retV {WL' FL' : List Addr} (X : WS p l e R s m args below meth c Z EL n0 own T h (WL' ++ WL0) (FL' ++ FL0) cells slots) (hx : p.tables.exec = Jvm.exec) (hret : meth.sig.returnType = none) (hlk : meth.locks = false) (hd : decode c.code pc = .ok (.return_, 1)) (hc : cells ≤ rm.cells) (hl : slots ≤ rm.slots) (hQ : Q none h WL' FL') :
    Wo p e s below Z EL n0 WL0 FL0 rm Q T (mkF m pc Ls []) := by
  obtain ⟨vm0, k0, locs, X, eT, hS, hk, hZ, hown, N, I⟩ := X
  obtain ⟨fs, hr, hrun, hend, hE⟩ := (X.mono hc hl).leaveW hS (by rw [eT]; exact hk) (v := none) (fun _ => rfl) hlk
  subst eT
  exact ⟨_, _, X.returnOut hx hret hd hr, hrun, hend, none, locs, WL', FL', rfl, (show Inv Z EL n0 T.vm T.heap (WL' ++ WL0) (FL' ++ FL0) from WS.invT X hZ I), N, hQ, hE⟩
theorem WS.retN {WL' FL' : List Addr} {z : Int32} {t : FieldType} (X : WS p l e R s m args below meth c Z EL n0 own T h (WL' ++ WL0) (FL' ++ FL0) cells slots) (hx : p.tables.exec = Jvm.exec) (hret : meth.sig.returnType = some t) (ht : t = .boolean ∨ t = .byte ∨ t = .char ∨ t = .short) (hlk : meth.locks = false) (hd : decode c.code pc = .ok (.ireturn, 1)) (hc : cells ≤ rm.cells) (hl : slots ≤ rm.slots) (hQ : Q (some (.int (nar t z))) h WL' FL') :
    Wo p e s below Z EL n0 WL0 FL0 rm Q T (mkF m pc Ls (.int z :: rest)) := by
  obtain ⟨vm0, k0, locs, X, eT, hS, hk, hZ, hown, N, I⟩ := X
  obtain ⟨fs, hr, hrun, hend, hE⟩ := (X.mono hc hl).leaveW hS (by rw [eT]; exact hk) (v := some (.int (nar t z))) (fun q => by rw [hret] at q; cases q) hlk
  subst eT
  exact ⟨_, _, RoadKit.retN X hx hret ht hd hr, hrun, hend, _, locs, WL', FL', rfl, (show Inv Z EL n0 T.vm T.heap (WL' ++ WL0) (FL' ++ FL0) from WS.invT X hZ I), N, hQ, hE⟩
theorem WS.ret {WL' FL' : List Addr} {w : Value} {t : FieldType} {i : Instr} (X : WS p l e R s m args below meth c Z EL n0 own T h (WL' ++ WL0) (FL' ++ FL0) cells slots) (hx : p.tables.exec = Jvm.exec) (hret : meth.sig.returnType = some t) (hn : narrow t w = w)
    (hi : (i = .ireturn ∧ (t = .int ∨ t = .boolean ∨ t = .byte ∨ t = .char ∨ t = .short) ∧ ∃ z, w = .int z) ∨ (i = .lreturn ∧ t = .long ∧ ∃ z, w = .long z) ∨ (i = .dreturn ∧ t = .double ∧ ∃ z, w = .double z) ∨ (i = .freturn ∧ t = .float ∧ ∃ z, w = .float z) ∨ (i = .areturn ∧ t.isReference = true ∧ w.isRef = true))
    (hlk : meth.locks = false) (hd : decode c.code pc = .ok (i, 1)) (hc : cells ≤ rm.cells) (hl : slots ≤ rm.slots) (hQ : Q (some w) h WL' FL') :
    Wo p e s below Z EL n0 WL0 FL0 rm Q T (mkF m pc Ls (w :: rest)) := by
  obtain ⟨vm0, k0, locs, X, eT, hS, hk, hZ, hown, N, I⟩ := X
  obtain ⟨fs, hr, hrun, hend, hE⟩ := (X.mono hc hl).leaveW hS (by rw [eT]; exact hk) (v := some w) (fun q => by rw [hret] at q; cases q) hlk
  subst eT
  exact ⟨_, _, retOut X hx hret hn hi hd hr, hrun, hend, _, locs, WL', FL', rfl, (show Inv Z EL n0 T.vm T.heap (WL' ++ WL0) (FL' ++ FL0) from WS.invT X hZ I), N, hQ, hE⟩
theorem WS.retA {WL' FL' : List Addr} {w : Value} {t : FieldType} (X : WS p l e R s m args below meth c Z EL n0 own T h (WL' ++ WL0) (FL' ++ FL0) cells slots) (hx : p.tables.exec = Jvm.exec) (hret : meth.sig.returnType = some t) (ht : t.isReference = true) (hw : w.isRef = true) (hlk : meth.locks = false) (hd : decode c.code pc = .ok (.areturn, 1)) (hc : cells ≤ rm.cells) (hl : slots ≤ rm.slots) (hQ : Q (some w) h WL' FL') :
    Wo p e s below Z EL n0 WL0 FL0 rm Q T (mkF m pc Ls (w :: rest)) :=
  X.ret hx hret (by cases t <;> first | (cases ht; done) | (rcases ref_cases hw with rfl | ⟨a, rfl⟩ <;> rfl)) (Or.inr (Or.inr (Or.inr (Or.inr ⟨rfl, ht, hw⟩)))) hlk hd hc hl hQ
theorem WS.retI {WL' FL' : List Addr} {z : Int32} (X : WS p l e R s m args below meth c Z EL n0 own T h (WL' ++ WL0) (FL' ++ FL0) cells slots) (hx : p.tables.exec = Jvm.exec) (hret : meth.sig.returnType = some .int) (hlk : meth.locks = false) (hd : decode c.code pc = .ok (.ireturn, 1)) (hc : cells ≤ rm.cells) (hl : slots ≤ rm.slots) (hQ : Q (some (.int z)) h WL' FL') :
    Wo p e s below Z EL n0 WL0 FL0 rm Q T (mkF m pc Ls (.int z :: rest)) :=
  X.ret hx hret rfl (Or.inl ⟨rfl, Or.inl rfl, z, rfl⟩) hlk hd hc hl hQ
/-- plain steps -/
theorem P.iloadN (X : WS p l e R s m args below meth c Z EL n0 own T h WL FL cells slots) (hx : p.tables.exec = Jvm.exec) (pc' : Nat) {k : Fin 4} {v : Int32} (hd : decode c.code pc = .ok (.iload_n k, 1)) (hl : Ls[k.val]? = some (.val (.int v))) (hp : pc + 1 = pc')
    (o : Wo p e s below Z EL n0 WL0 FL0 rm Q T (mkF m pc' Ls (.int v :: st))) : Wo p e s below Z EL n0 WL0 FL0 rm Q T (mkF m pc Ls (st)) := by
  subst hp; exact Wo.by (fun _ q => XS.iloadN X.here hx rfl hd hl q) o
theorem P.iload (X : WS p l e R s m args below meth c Z EL n0 own T h WL FL cells slots) (hx : p.tables.exec = Jvm.exec) (pc' : Nat) {k : Nat} {v : Int32} (hd : decode c.code pc = .ok (.iload k, 2)) (hl : Ls[k]? = some (.val (.int v))) (hp : pc + 2 = pc')
    (o : Wo p e s below Z EL n0 WL0 FL0 rm Q T (mkF m pc' Ls (.int v :: st))) : Wo p e s below Z EL n0 WL0 FL0 rm Q T (mkF m pc Ls (st)) := by
  subst hp; exact Wo.by (fun _ q => XS.iload X.here hx rfl hd hl q) o
theorem P.aloadN (X : WS p l e R s m args below meth c Z EL n0 own T h WL FL cells slots) (hx : p.tables.exec = Jvm.exec) (pc' : Nat) {k : Fin 4} {v : Value} (hd : decode c.code pc = .ok (.aload_n k, 1)) (hl : Ls[k.val]? = some (.val v)) (hv : v.isRef = true) (hp : pc + 1 = pc')
    (o : Wo p e s below Z EL n0 WL0 FL0 rm Q T (mkF m pc' Ls (v :: st))) : Wo p e s below Z EL n0 WL0 FL0 rm Q T (mkF m pc Ls (st)) := by
  subst hp; exact Wo.by (fun _ q => XS.aloadN X.here hx rfl hd hl hv q) o
theorem P.aload (X : WS p l e R s m args below meth c Z EL n0 own T h WL FL cells slots) (hx : p.tables.exec = Jvm.exec) (pc' : Nat) {k : Nat} {v : Value} (hd : decode c.code pc = .ok (.aload k, 2)) (hl : Ls[k]? = some (.val v)) (hv : v.isRef = true) (hp : pc + 2 = pc')
    (o : Wo p e s below Z EL n0 WL0 FL0 rm Q T (mkF m pc' Ls (v :: st))) : Wo p e s below Z EL n0 WL0 FL0 rm Q T (mkF m pc Ls (st)) := by
  subst hp; exact Wo.by (fun _ q => XS.aload X.here hx rfl hd hl hv q) o
theorem P.istoreN (X : WS p l e R s m args below meth c Z EL n0 own T h WL FL cells slots) (hx : p.tables.exec = Jvm.exec) (pc' : Nat) {k : Fin 4} {x : Int32} (L' : Array Slot) (hd : decode c.code pc = .ok (.istore_n k, 1)) (hl : storeLocals Ls k.val (.int x) = some L') (hp : pc + 1 = pc')
    (o : Wo p e s below Z EL n0 WL0 FL0 rm Q T (mkF m pc' L' (st))) : Wo p e s below Z EL n0 WL0 FL0 rm Q T (mkF m pc Ls (.int x :: st)) := by
  subst hp; exact Wo.by (fun _ q => XS.istoreN X.here hx rfl hd rfl hl q) o
theorem P.istore (X : WS p l e R s m args below meth c Z EL n0 own T h WL FL cells slots) (hx : p.tables.exec = Jvm.exec) (pc' : Nat) {k : Nat} {x : Int32} (L' : Array Slot) (hd : decode c.code pc = .ok (.istore k, 2)) (hl : storeLocals Ls k (.int x) = some L') (hp : pc + 2 = pc')
    (o : Wo p e s below Z EL n0 WL0 FL0 rm Q T (mkF m pc' L' (st))) : Wo p e s below Z EL n0 WL0 FL0 rm Q T (mkF m pc Ls (.int x :: st)) := by
  subst hp; exact Wo.by (fun _ q => XS.istore X.here hx rfl hd rfl hl q) o
theorem P.astoreN (X : WS p l e R s m args below meth c Z EL n0 own T h WL FL cells slots) (hx : p.tables.exec = Jvm.exec) (pc' : Nat) {k : Fin 4} {x : Value} (L' : Array Slot) (hd : decode c.code pc = .ok (.astore_n k, 1)) (hv : x.isRef = true) (hl : storeLocals Ls k.val x = some L') (hp : pc + 1 = pc')
    (o : Wo p e s below Z EL n0 WL0 FL0 rm Q T (mkF m pc' L' (st))) : Wo p e s below Z EL n0 WL0 FL0 rm Q T (mkF m pc Ls (x :: st)) := by
  subst hp; exact Wo.by (fun _ q => XS.astoreN X.here hx rfl hd rfl hv hl q) o
theorem P.astore (X : WS p l e R s m args below meth c Z EL n0 own T h WL FL cells slots) (hx : p.tables.exec = Jvm.exec) (pc' : Nat) {k : Nat} {x : Value} (L' : Array Slot) (hd : decode c.code pc = .ok (.astore k, 2)) (hv : x.isRef = true) (hl : storeLocals Ls k x = some L') (hp : pc + 2 = pc')
    (o : Wo p e s below Z EL n0 WL0 FL0 rm Q T (mkF m pc' L' (st))) : Wo p e s below Z EL n0 WL0 FL0 rm Q T (mkF m pc Ls (x :: st)) := by
  subst hp; exact Wo.by (fun _ q => XS.astore X.here hx rfl hd rfl hv hl q) o
theorem P.iconst (X : WS p l e R s m args below meth c Z EL n0 own T h WL FL cells slots) (hx : p.tables.exec = Jvm.exec) (pc' : Nat) (z : Int32) {i : Int} (hd : decode c.code pc = .ok (.iconst i, 1)) (hz : Int32.ofInt i = z) (hp : pc + 1 = pc')
    (o : Wo p e s below Z EL n0 WL0 FL0 rm Q T (mkF m pc' Ls (.int z :: st))) : Wo p e s below Z EL n0 WL0 FL0 rm Q T (mkF m pc Ls (st)) := by
  subst hp; subst hz; exact Wo.by (fun _ q => XS.iconst X.here hx rfl hd q) o
theorem P.bipush (X : WS p l e R s m args below meth c Z EL n0 own T h WL FL cells slots) (hx : p.tables.exec = Jvm.exec) (pc' : Nat) (z : Int32) {i : Int} (hd : decode c.code pc = .ok (.bipush i, 2)) (hz : (Int8.ofInt i).toInt32 = z) (hp : pc + 2 = pc')
    (o : Wo p e s below Z EL n0 WL0 FL0 rm Q T (mkF m pc' Ls (.int z :: st))) : Wo p e s below Z EL n0 WL0 FL0 rm Q T (mkF m pc Ls (st)) := by
  subst hp; subst hz; exact Wo.by (fun _ q => XS.bipush X.here hx rfl hd q) o
theorem P.sipush (X : WS p l e R s m args below meth c Z EL n0 own T h WL FL cells slots) (hx : p.tables.exec = Jvm.exec) (pc' : Nat) (z : Int32) {i : Int} (hd : decode c.code pc = .ok (.sipush i, 3)) (hz : (Int16.ofInt i).toInt32 = z) (hp : pc + 3 = pc')
    (o : Wo p e s below Z EL n0 WL0 FL0 rm Q T (mkF m pc' Ls (.int z :: st))) : Wo p e s below Z EL n0 WL0 FL0 rm Q T (mkF m pc Ls (st)) := by
  subst hp; subst hz; exact Wo.by (fun _ q => XS.sipush X.here hx rfl hd q) o
theorem P.aconstNull (X : WS p l e R s m args below meth c Z EL n0 own T h WL FL cells slots) (hx : p.tables.exec = Jvm.exec) (pc' : Nat) (hd : decode c.code pc = .ok (.aconst_null, 1))  (hp : pc + 1 = pc')
    (o : Wo p e s below Z EL n0 WL0 FL0 rm Q T (mkF m pc' Ls (.null :: st))) : Wo p e s below Z EL n0 WL0 FL0 rm Q T (mkF m pc Ls (st)) := by
  subst hp; exact Wo.by (fun _ q => XS.aconstNull X.here hx rfl hd q) o
theorem P.iadd (X : WS p l e R s m args below meth c Z EL n0 own T h WL FL cells slots) (hx : p.tables.exec = Jvm.exec) (pc' : Nat) {x y z : Int32} (hd : decode c.code pc = .ok (.iadd, 1)) (hz : x + y = z) (hp : pc + 1 = pc')
    (o : Wo p e s below Z EL n0 WL0 FL0 rm Q T (mkF m pc' Ls (.int z :: st))) : Wo p e s below Z EL n0 WL0 FL0 rm Q T (mkF m pc Ls (.int y :: .int x :: st)) := by
  subst hp; subst hz; exact Wo.by (fun _ q => XS.iadd X.here hx rfl hd rfl q) o
theorem P.isub (X : WS p l e R s m args below meth c Z EL n0 own T h WL FL cells slots) (hx : p.tables.exec = Jvm.exec) (pc' : Nat) {x y z : Int32} (hd : decode c.code pc = .ok (.isub, 1)) (hz : x - y = z) (hp : pc + 1 = pc')
    (o : Wo p e s below Z EL n0 WL0 FL0 rm Q T (mkF m pc' Ls (.int z :: st))) : Wo p e s below Z EL n0 WL0 FL0 rm Q T (mkF m pc Ls (.int y :: .int x :: st)) := by
  subst hp; subst hz; exact Wo.by (fun _ q => XS.isub X.here hx rfl hd rfl q) o
theorem P.imul (X : WS p l e R s m args below meth c Z EL n0 own T h WL FL cells slots) (hx : p.tables.exec = Jvm.exec) (pc' : Nat) {x y z : Int32} (hd : decode c.code pc = .ok (.imul, 1)) (hz : x * y = z) (hp : pc + 1 = pc')
    (o : Wo p e s below Z EL n0 WL0 FL0 rm Q T (mkF m pc' Ls (.int z :: st))) : Wo p e s below Z EL n0 WL0 FL0 rm Q T (mkF m pc Ls (.int y :: .int x :: st)) := by
  subst hp; subst hz; exact Wo.by (fun _ q => XS.imul X.here hx rfl hd rfl q) o
theorem P.iand (X : WS p l e R s m args below meth c Z EL n0 own T h WL FL cells slots) (hx : p.tables.exec = Jvm.exec) (pc' : Nat) {x y z : Int32} (hd : decode c.code pc = .ok (.iand, 1)) (hz : x &&& y = z) (hp : pc + 1 = pc')
    (o : Wo p e s below Z EL n0 WL0 FL0 rm Q T (mkF m pc' Ls (.int z :: st))) : Wo p e s below Z EL n0 WL0 FL0 rm Q T (mkF m pc Ls (.int y :: .int x :: st)) := by
  subst hp; subst hz; exact Wo.by (fun _ q => XS.iand X.here hx rfl hd rfl q) o
theorem P.ior (X : WS p l e R s m args below meth c Z EL n0 own T h WL FL cells slots) (hx : p.tables.exec = Jvm.exec) (pc' : Nat) {x y z : Int32} (hd : decode c.code pc = .ok (.ior, 1)) (hz : x ||| y = z) (hp : pc + 1 = pc')
    (o : Wo p e s below Z EL n0 WL0 FL0 rm Q T (mkF m pc' Ls (.int z :: st))) : Wo p e s below Z EL n0 WL0 FL0 rm Q T (mkF m pc Ls (.int y :: .int x :: st)) := by
  subst hp; subst hz; exact Wo.by (fun _ q => XS.ior X.here hx rfl hd rfl q) o
theorem P.ixor (X : WS p l e R s m args below meth c Z EL n0 own T h WL FL cells slots) (hx : p.tables.exec = Jvm.exec) (pc' : Nat) {x y z : Int32} (hd : decode c.code pc = .ok (.ixor, 1)) (hz : x ^^^ y = z) (hp : pc + 1 = pc')
    (o : Wo p e s below Z EL n0 WL0 FL0 rm Q T (mkF m pc' Ls (.int z :: st))) : Wo p e s below Z EL n0 WL0 FL0 rm Q T (mkF m pc Ls (.int y :: .int x :: st)) := by
  subst hp; subst hz; exact Wo.by (fun _ q => XS.ixor X.here hx rfl hd rfl q) o
theorem P.ishl (X : WS p l e R s m args below meth c Z EL n0 own T h WL FL cells slots) (hx : p.tables.exec = Jvm.exec) (pc' : Nat) {x y z : Int32} (hd : decode c.code pc = .ok (.ishl, 1)) (hz : x <<< (y &&& 31) = z) (hp : pc + 1 = pc')
    (o : Wo p e s below Z EL n0 WL0 FL0 rm Q T (mkF m pc' Ls (.int z :: st))) : Wo p e s below Z EL n0 WL0 FL0 rm Q T (mkF m pc Ls (.int y :: .int x :: st)) := by
  subst hp; subst hz; exact Wo.by (fun _ q => XS.ishl X.here hx rfl hd rfl q) o
theorem P.ishr (X : WS p l e R s m args below meth c Z EL n0 own T h WL FL cells slots) (hx : p.tables.exec = Jvm.exec) (pc' : Nat) {x y z : Int32} (hd : decode c.code pc = .ok (.ishr, 1)) (hz : x >>> (y &&& 31) = z) (hp : pc + 1 = pc')
    (o : Wo p e s below Z EL n0 WL0 FL0 rm Q T (mkF m pc' Ls (.int z :: st))) : Wo p e s below Z EL n0 WL0 FL0 rm Q T (mkF m pc Ls (.int y :: .int x :: st)) := by
  subst hp; subst hz; exact Wo.by (fun _ q => XS.ishr X.here hx rfl hd rfl q) o
theorem P.iushr (X : WS p l e R s m args below meth c Z EL n0 own T h WL FL cells slots) (hx : p.tables.exec = Jvm.exec) (pc' : Nat) {x y z : Int32} (hd : decode c.code pc = .ok (.iushr, 1)) (hz : (x.toUInt32 >>> (y &&& 31).toUInt32).toInt32 = z) (hp : pc + 1 = pc')
    (o : Wo p e s below Z EL n0 WL0 FL0 rm Q T (mkF m pc' Ls (.int z :: st))) : Wo p e s below Z EL n0 WL0 FL0 rm Q T (mkF m pc Ls (.int y :: .int x :: st)) := by
  subst hp; subst hz; exact Wo.by (fun _ q => XS.iushr X.here hx rfl hd rfl q) o
theorem P.i2c (X : WS p l e R s m args below meth c Z EL n0 own T h WL FL cells slots) (hx : p.tables.exec = Jvm.exec) (pc' : Nat) {x z : Int32} (hd : decode c.code pc = .ok (.i2c, 1)) (hz : x.toUInt32.toUInt16.toUInt32.toInt32 = z) (hp : pc + 1 = pc')
    (o : Wo p e s below Z EL n0 WL0 FL0 rm Q T (mkF m pc' Ls (.int z :: st))) : Wo p e s below Z EL n0 WL0 FL0 rm Q T (mkF m pc Ls (.int x :: st)) := by
  subst hp; subst hz; exact Wo.by (fun _ q => XS.i2c X.here hx rfl hd rfl q) o
theorem P.i2b (X : WS p l e R s m args below meth c Z EL n0 own T h WL FL cells slots) (hx : p.tables.exec = Jvm.exec) (pc' : Nat) {x z : Int32} (hd : decode c.code pc = .ok (.i2b, 1)) (hz : x.toInt8.toInt32 = z) (hp : pc + 1 = pc')
    (o : Wo p e s below Z EL n0 WL0 FL0 rm Q T (mkF m pc' Ls (.int z :: st))) : Wo p e s below Z EL n0 WL0 FL0 rm Q T (mkF m pc Ls (.int x :: st)) := by
  subst hp; subst hz; exact Wo.by (fun _ q => XS.i2b X.here hx rfl hd rfl q) o
theorem P.i2s (X : WS p l e R s m args below meth c Z EL n0 own T h WL FL cells slots) (hx : p.tables.exec = Jvm.exec) (pc' : Nat) {x z : Int32} (hd : decode c.code pc = .ok (.i2s, 1)) (hz : x.toInt16.toInt32 = z) (hp : pc + 1 = pc')
    (o : Wo p e s below Z EL n0 WL0 FL0 rm Q T (mkF m pc' Ls (.int z :: st))) : Wo p e s below Z EL n0 WL0 FL0 rm Q T (mkF m pc Ls (.int x :: st)) := by
  subst hp; subst hz; exact Wo.by (fun _ q => XS.i2s X.here hx rfl hd rfl q) o
theorem P.ineg (X : WS p l e R s m args below meth c Z EL n0 own T h WL FL cells slots) (hx : p.tables.exec = Jvm.exec) (pc' : Nat) {x z : Int32} (hd : decode c.code pc = .ok (.ineg, 1)) (hz : -x = z) (hp : pc + 1 = pc')
    (o : Wo p e s below Z EL n0 WL0 FL0 rm Q T (mkF m pc' Ls (.int z :: st))) : Wo p e s below Z EL n0 WL0 FL0 rm Q T (mkF m pc Ls (.int x :: st)) := by
  subst hp; subst hz; exact Wo.by (fun _ q => XS.ineg X.here hx rfl hd rfl q) o
theorem P.idiv (X : WS p l e R s m args below meth c Z EL n0 own T h WL FL cells slots) (hx : p.tables.exec = Jvm.exec) (pc' : Nat) {x y z : Int32} (hd : decode c.code pc = .ok (.idiv, 1)) (hy : y ≠ 0) (hz : x / y = z) (hp : pc + 1 = pc')
    (o : Wo p e s below Z EL n0 WL0 FL0 rm Q T (mkF m pc' Ls (.int z :: st))) : Wo p e s below Z EL n0 WL0 FL0 rm Q T (mkF m pc Ls (.int y :: .int x :: st)) := by
  subst hp; subst hz; exact Wo.by (fun _ q => XS.idiv X.here hx rfl hd rfl hy q) o
theorem P.irem (X : WS p l e R s m args below meth c Z EL n0 own T h WL FL cells slots) (hx : p.tables.exec = Jvm.exec) (pc' : Nat) {x y z : Int32} (hd : decode c.code pc = .ok (.irem, 1)) (hy : y ≠ 0) (hz : x % y = z) (hp : pc + 1 = pc')
    (o : Wo p e s below Z EL n0 WL0 FL0 rm Q T (mkF m pc' Ls (.int z :: st))) : Wo p e s below Z EL n0 WL0 FL0 rm Q T (mkF m pc Ls (.int y :: .int x :: st)) := by
  subst hp; subst hz; exact Wo.by (fun _ q => XS.irem X.here hx rfl hd rfl hy (by rw [irem_eq_mod]; exact q)) o
theorem P.iinc (X : WS p l e R s m args below meth c Z EL n0 own T h WL FL cells slots) (hx : p.tables.exec = Jvm.exec) (pc' : Nat) {k : Nat} {i : Int} {x : Int32} (L' : Array Slot) (hd : decode c.code pc = .ok (.iinc k i, 3)) (hl : Ls[k]? = some (.val (.int x))) (hl' : storeLocals Ls k (.int (x + Int32.ofInt i)) = some L') (hp : pc + 3 = pc')
    (o : Wo p e s below Z EL n0 WL0 FL0 rm Q T (mkF m pc' L' (st))) : Wo p e s below Z EL n0 WL0 FL0 rm Q T (mkF m pc Ls (st)) := by
  subst hp; exact Wo.by (fun _ q => XS.iinc X.here hx rfl hd hl hl' q) o
theorem P.dup (X : WS p l e R s m args below meth c Z EL n0 own T h WL FL cells slots) (hx : p.tables.exec = Jvm.exec) (pc' : Nat) {x : Value} (hd : decode c.code pc = .ok (.dup, 1)) (hc : x.category = 1) (hp : pc + 1 = pc')
    (o : Wo p e s below Z EL n0 WL0 FL0 rm Q T (mkF m pc' Ls (x :: x :: st))) : Wo p e s below Z EL n0 WL0 FL0 rm Q T (mkF m pc Ls (x :: st)) := by
  subst hp; exact Wo.by (fun _ q => XS.dup X.here hx rfl hd rfl hc q) o
theorem P.pop (X : WS p l e R s m args below meth c Z EL n0 own T h WL FL cells slots) (hx : p.tables.exec = Jvm.exec) (pc' : Nat) {x : Value} (hd : decode c.code pc = .ok (.pop, 1)) (hc : x.category = 1) (hp : pc + 1 = pc')
    (o : Wo p e s below Z EL n0 WL0 FL0 rm Q T (mkF m pc' Ls (st))) : Wo p e s below Z EL n0 WL0 FL0 rm Q T (mkF m pc Ls (x :: st)) := by
  subst hp; exact Wo.by (fun _ q => XS.pop X.here hx rfl hd rfl hc q) o
theorem P.dupX1 (X : WS p l e R s m args below meth c Z EL n0 own T h WL FL cells slots) (hx : p.tables.exec = Jvm.exec) (pc' : Nat) {x y : Value} (hd : decode c.code pc = .ok (.dup_x1, 1)) (hc : x.category = 1) (hc' : y.category = 1) (hp : pc + 1 = pc')
    (o : Wo p e s below Z EL n0 WL0 FL0 rm Q T (mkF m pc' Ls (x :: y :: x :: st))) : Wo p e s below Z EL n0 WL0 FL0 rm Q T (mkF m pc Ls (x :: y :: st)) := by
  subst hp; exact Wo.by (fun _ q => XS.dupX1 X.here hx rfl hd rfl hc hc' q) o
theorem P.goto (X : WS p l e R s m args below meth c Z EL n0 own T h WL FL cells slots) (hx : p.tables.exec = Jvm.exec) (pc' : Nat) {off : Int} (hd : decode c.code pc = .ok (.goto off, 3))  (ho : 0 ≤ (pc : Int) + off) (hp : ((pc : Int) + off).toNat = pc')
    (o : Wo p e s below Z EL n0 WL0 FL0 rm Q T (mkF m pc' Ls (st))) : Wo p e s below Z EL n0 WL0 FL0 rm Q T (mkF m pc Ls (st)) := by
  exact Wo.by (fun _ q => XS.goto X.here hx rfl (pc0 := pc) rfl hd ho hp q) o
theorem P.ifYes (X : WS p l e R s m args below meth c Z EL n0 own T h WL FL cells slots) (hx : p.tables.exec = Jvm.exec) (pc' : Nat) {off : Int} {cd : ClassFile.Cond} {x : Int32} (hd : decode c.code pc = .ok (.ifCond cd off, 3)) (hc : ifCond.holds cd x = true) (ho : 0 ≤ (pc : Int) + off) (hp : ((pc : Int) + off).toNat = pc')
    (o : Wo p e s below Z EL n0 WL0 FL0 rm Q T (mkF m pc' Ls (st))) : Wo p e s below Z EL n0 WL0 FL0 rm Q T (mkF m pc Ls (.int x :: st)) := by
  exact Wo.by (fun _ q => XS.ifYes X.here hx rfl (pc0 := pc) rfl hd rfl hc ho hp q) o
theorem P.ifNo (X : WS p l e R s m args below meth c Z EL n0 own T h WL FL cells slots) (hx : p.tables.exec = Jvm.exec) (pc' : Nat) {off : Int} {cd : ClassFile.Cond} {x : Int32} (hd : decode c.code pc = .ok (.ifCond cd off, 3)) (hc : ifCond.holds cd x = false) (hp : pc + 3 = pc')
    (o : Wo p e s below Z EL n0 WL0 FL0 rm Q T (mkF m pc' Ls (st))) : Wo p e s below Z EL n0 WL0 FL0 rm Q T (mkF m pc Ls (.int x :: st)) := by
  subst hp; exact Wo.by (fun _ q => XS.ifNo X.here hx rfl hd rfl hc q) o
theorem P.icmpYes (X : WS p l e R s m args below meth c Z EL n0 own T h WL FL cells slots) (hx : p.tables.exec = Jvm.exec) (pc' : Nat) {off : Int} {cd : ClassFile.Cond} {x y : Int32} (hd : decode c.code pc = .ok (.if_icmp cd off, 3)) (hc : if_icmp.holds cd x y = true) (ho : 0 ≤ (pc : Int) + off) (hp : ((pc : Int) + off).toNat = pc')
    (o : Wo p e s below Z EL n0 WL0 FL0 rm Q T (mkF m pc' Ls (st))) : Wo p e s below Z EL n0 WL0 FL0 rm Q T (mkF m pc Ls (.int y :: .int x :: st)) := by
  exact Wo.by (fun _ q => XS.icmpYes X.here hx rfl (pc0 := pc) rfl hd rfl hc ho hp q) o
theorem P.icmpNo (X : WS p l e R s m args below meth c Z EL n0 own T h WL FL cells slots) (hx : p.tables.exec = Jvm.exec) (pc' : Nat) {off : Int} {cd : ClassFile.Cond} {x y : Int32} (hd : decode c.code pc = .ok (.if_icmp cd off, 3)) (hc : if_icmp.holds cd x y = false) (hp : pc + 3 = pc')
    (o : Wo p e s below Z EL n0 WL0 FL0 rm Q T (mkF m pc' Ls (st))) : Wo p e s below Z EL n0 WL0 FL0 rm Q T (mkF m pc Ls (.int y :: .int x :: st)) := by
  subst hp; exact Wo.by (fun _ q => XS.icmpNo X.here hx rfl hd rfl hc q) o
theorem P.ifnullYes (X : WS p l e R s m args below meth c Z EL n0 own T h WL FL cells slots) (hx : p.tables.exec = Jvm.exec) (pc' : Nat) {off : Int} (hd : decode c.code pc = .ok (.ifnull off, 3))  (ho : 0 ≤ (pc : Int) + off) (hp : ((pc : Int) + off).toNat = pc')
    (o : Wo p e s below Z EL n0 WL0 FL0 rm Q T (mkF m pc' Ls (st))) : Wo p e s below Z EL n0 WL0 FL0 rm Q T (mkF m pc Ls (.null :: st)) := by
  exact Wo.by (fun _ q => XS.ifnullYes X.here hx rfl (pc0 := pc) rfl hd rfl ho hp q) o
theorem P.ifnullNo (X : WS p l e R s m args below meth c Z EL n0 own T h WL FL cells slots) (hx : p.tables.exec = Jvm.exec) (pc' : Nat) {off : Int} {b : Addr} (hd : decode c.code pc = .ok (.ifnull off, 3))  (hp : pc + 3 = pc')
    (o : Wo p e s below Z EL n0 WL0 FL0 rm Q T (mkF m pc' Ls (st))) : Wo p e s below Z EL n0 WL0 FL0 rm Q T (mkF m pc Ls (.ref b :: st)) := by
  subst hp; exact Wo.by (fun _ q => XS.ifnullNo X.here hx rfl hd rfl q) o
theorem P.ifnonnullYes (X : WS p l e R s m args below meth c Z EL n0 own T h WL FL cells slots) (hx : p.tables.exec = Jvm.exec) (pc' : Nat) {off : Int} {b : Addr} (hd : decode c.code pc = .ok (.ifnonnull off, 3))  (ho : 0 ≤ (pc : Int) + off) (hp : ((pc : Int) + off).toNat = pc')
    (o : Wo p e s below Z EL n0 WL0 FL0 rm Q T (mkF m pc' Ls (st))) : Wo p e s below Z EL n0 WL0 FL0 rm Q T (mkF m pc Ls (.ref b :: st)) := by
  exact Wo.by (fun _ q => XS.ifnonnullYes X.here hx rfl (pc0 := pc) rfl hd rfl ho hp q) o
theorem P.ifnonnullNo (X : WS p l e R s m args below meth c Z EL n0 own T h WL FL cells slots) (hx : p.tables.exec = Jvm.exec) (pc' : Nat) {off : Int} (hd : decode c.code pc = .ok (.ifnonnull off, 3))  (hp : pc + 3 = pc')
    (o : Wo p e s below Z EL n0 WL0 FL0 rm Q T (mkF m pc' Ls (st))) : Wo p e s below Z EL n0 WL0 FL0 rm Q T (mkF m pc Ls (.null :: st)) := by
  subst hp; exact Wo.by (fun _ q => XS.ifnonnullNo X.here hx rfl hd rfl q) o
/-- steps that read or write -/
theorem WS.getF (X : WS p l e R s m args below meth c Z EL n0 own T h WL FL cells slots) (hx : p.tables.exec = Jvm.exec) {R0 O n d host : String} {index : Nat} (w : (Jvm.Cond.fieldLink own index R0 n d).before a0 Z = true ∨ (Jvm.Cond.fieldLinkNest own index R0 n d host).before a0 Z = true) (via : Via Z R0 O n d) {a : Addr} {v : Value} (F : Fld Z h a O n d v)
    (hd : decode c.code pc = .ok (.getfield index, 3)) (k : ∀ T', WS p l e R s m args below meth c Z EL n0 own T' h WL FL cells slots → Wo p e s below Z EL n0 WL0 FL0 rm Q T' (mkF m (pc + 3) Ls (v :: rest))) :
    Wo p e s below Z EL n0 WL0 FL0 rm Q T (mkF m pc Ls (.ref a :: rest)) := by
  obtain ⟨vm0, k0, locs, X, eT, hS, hk, hZ, hown, N, I⟩ := X
  obtain ⟨T', X', eT', st⟩ := RoadKit.getF X hx hZ hown w via eT F (g := mkF m pc Ls (.ref a :: rest)) rfl rfl hd
  exact Wo.by st (k T' ⟨vm0, k0, locs, X', eT', hS, hk, hZ, hown, N, I⟩)
theorem WS.getS (X : WS p l e R s m args below meth c Z EL n0 own T h WL FL cells slots) (hx : p.tables.exec = Jvm.exec) {R0 O n d : String} {index : Nat} (w : (Jvm.Cond.fieldLink own index R0 n d).before a0 Z = true) (via : Via Z R0 O n d) {v : Value} (F : Sta Z Z.heap O n d v)
    (hd : decode c.code pc = .ok (.getstatic index, 3)) (k : ∀ T', WS p l e R s m args below meth c Z EL n0 own T' h WL FL cells slots → Wo p e s below Z EL n0 WL0 FL0 rm Q T' (mkF m (pc + 3) Ls (v :: st))) :
    Wo p e s below Z EL n0 WL0 FL0 rm Q T (mkF m pc Ls st) := by
  have F' := X.sta F
  obtain ⟨vm0, k0, locs, X, eT, hS, hk, hZ, hown, N, I⟩ := X
  obtain ⟨T', X', eT', st⟩ := RoadKit.getS (host := "") X hx hZ hown w via eT F' (g := mkF m pc Ls st) rfl hd
  exact Wo.by st (k T' ⟨vm0, k0, locs, X', eT', hS, hk, hZ, hown, N, I⟩)
theorem WS.putF (X : WS p l e R s m args below meth c Z EL n0 own T h WL FL cells slots) (hx : p.tables.exec = Jvm.exec) {R0 O n d host C : String} {index kk : Nat} {ty : FieldType} (w : (Jvm.Cond.fieldLink own index R0 n d).before a0 Z = true ∨ (Jvm.Cond.fieldLinkNest own index R0 n d host).before a0 Z = true) (via : Via Z R0 O n d) {a : Addr} {v old : Value} (F : Fld Z h a O n d old) (E : Exa Z h a C)
    (L : (Jvm.Cond.lays C O n d).before a0 Z = true ∨ ((Jvm.Cond.laysFinal C O n d).before a0 Z = true ∧ own = O ∧ meth.name = "<init>")) (wi : (Jvm.Cond.instantiable C kk).before a0 Z = true) (hty : parseFieldDescriptor d = some ty) (hn : narrow ty v = v) (hf : fits ty v = true) (ha : a ∈ WL)
    (hd : decode c.code pc = .ok (.putfield index, 3)) (k : ∀ T' h', WS p l e R s m args below meth c Z EL n0 own T' h' WL FL cells slots → Wr h h' a (Jvm.RoadKit.slotOf Z O n d) v → Fld Z h' a O n d v → Wo p e s below Z EL n0 WL0 FL0 rm Q T' (mkF m (pc + 3) Ls rest)) :
    Wo p e s below Z EL n0 WL0 FL0 rm Q T (mkF m pc Ls (v :: .ref a :: rest)) := by
  obtain ⟨vm0, k0, locs, X, eT, hS, hk, hZ, hown, N, I⟩ := X
  obtain ⟨T', h', X', eT', W, st⟩ := RoadKit.putF X hx hZ hown w via eT F E L wi hty hn hf (g := mkF m pc Ls (v :: .ref a :: rest)) rfl rfl hd
  exact Wo.by st (k T' h' ⟨vm0, k0, _, X', eT', hS, by rw [W.size]; exact hk, hZ, hown, Fr.snoc X' N (I.ge ha), I.wr W ha⟩ W (F.same W))
theorem WS.newO (X : WS p l e R s m args below meth c Z EL n0 own T h WL FL cells slots) (hx : p.tables.exec = Jvm.exec) {C : String} {index n : Nat} (w : (Jvm.Cond.classLink own index C).before a0 Z = true) (wi : (Jvm.Cond.instantiable C n).before a0 Z = true) (wz : (Jvm.Cond.initialized C).before a0 Z = true)
    (hd : decode c.code pc = .ok (.new index, 3)) (hc : cells + 1 ≤ R.cells) (hl : slots + n ≤ R.slots)
    (k : ∀ T' h' a, WS p l e R s m args below meth c Z EL n0 own T' h' (a :: WL) FL (cells + 1) (slots + n) → Ext h h' → h.size ≤ a → Exa Z h' a C → (∀ {O nm d : String} {ty : FieldType}, Laid Z a0 C O nm d → parseFieldDescriptor d = some ty → Fld Z h' a O nm d (defaultValue ty)) → Wo p e s below Z EL n0 WL0 FL0 rm Q T' (mkF m (pc + 3) Ls (.ref a :: st))) :
    Wo p e s below Z EL n0 WL0 FL0 rm Q T (mkF m pc Ls st) := by
  obtain ⟨vm0, k0, locs, X, eT, hS, hk, hZ, hown, N, I⟩ := X
  obtain ⟨T', h', X', eT', E, A, D, -, st⟩ := RoadKit.newO X hx hZ hown w wi wz eT (g := mkF m pc Ls st) rfl hd hc hl
  exact Wo.by st (k T' h' h.size ⟨vm0, k0, _, X', eT', hS, Nat.le_trans hk E.1, hZ, hown, N, I.new E A.lt⟩ E (Nat.le_refl _) A D)
theorem WS.newP (X : WS p l e R s m args below meth c Z EL n0 own T h WL FL cells slots) (hx : p.tables.exec = Jvm.exec) {aty : ArrayType} (w : (Jvm.Cond.arrayClass (newarray.typeOf aty)).before a0 Z = true) {n : Int32} (hd : decode c.code pc = .ok (.newarray aty, 2))
    (hn : ¬ n < 0) {cap : Nat} (hcap : n.toNatClampNeg ≤ cap) (hb : cap * 8 ≤ 536870912) (hc : cells + 1 ≤ R.cells) (hl : slots + cap ≤ R.slots)
    (k : ∀ T' h' a ka, WS p l e R s m args below meth c Z EL n0 own T' h' (a :: WL) FL (cells + 1) (slots + cap) → Ext h h' → h.size ≤ a → Arv Z h' a ka (newarray.typeOf aty) n [] (defaultValue (newarray.typeOf aty)) → Wo p e s below Z EL n0 WL0 FL0 rm Q T' (mkF m (pc + 2) Ls (.ref a :: rest))) :
    Wo p e s below Z EL n0 WL0 FL0 rm Q T (mkF m pc Ls (.int n :: rest)) := by
  obtain ⟨vm0, k0, locs, X, eT, hS, hk, hZ, hown, N, I⟩ := X
  obtain ⟨T', h', cA, X', eT', E, A, st⟩ := RoadKit.newP X hx hZ w eT (g := mkF m pc Ls (.int n :: rest)) rfl hd rfl hn hcap hb hc hl
  exact Wo.by st (k T' h' h.size cA ⟨vm0, k0, _, X', eT', hS, Nat.le_trans hk E.1, hZ, hown, N, I.new E A.lt⟩ E (Nat.le_refl _) (Arv.new A hn))
theorem WS.stC (X : WS p l e R s m args below meth c Z EL n0 own T h WL FL cells slots) (hx : p.tables.exec = Jvm.exec) {a : Addr} {ka : ClassId} {N : Int32} {vs : List Value} {dv : Value} (A : Arv Z h a ka .char N vs dv) {j x : Int32} {i : Nat} (hj : ¬ j < 0 ∧ j < N) (hi : j.toNatClampNeg = i) (hl : i < vs.length) (ha : a ∈ WL)
    (hd : decode c.code pc = .ok (.castore, 1)) (k : ∀ T' h', WS p l e R s m args below meth c Z EL n0 own T' h' WL FL cells slots → Wr h h' a j.toNatClampNeg (.int (nar .char x)) → Arv Z h' a ka .char N (vs.set i (.int (nar .char x))) dv → Wo p e s below Z EL n0 WL0 FL0 rm Q T' (mkF m (pc + 1) Ls rest)) :
    Wo p e s below Z EL n0 WL0 FL0 rm Q T (mkF m pc Ls (.int x :: .int j :: .ref a :: rest)) := by
  obtain ⟨vm0, k0, locs, X, eT, hS, hk, hZ, hown, N, I⟩ := X
  obtain ⟨cl, A1, A2, A3, A4, A5, A6⟩ := A
  obtain ⟨T', h', X', eT', W, st⟩ := RoadKit.stC X hx hZ eT A1 (inb_of A3 hj) (g := mkF m pc Ls (.int x :: .int j :: .ref a :: rest)) rfl rfl hd
  exact Wo.by st (k T' h' ⟨vm0, k0, _, X', eT', hS, by rw [W.size]; exact hk, hZ, hown, Fr.snoc X' N (I.ge ha), I.wr W ha⟩ W (Arv.set A1 A2 A3 A4 A5 A6 (fits_nar_char x) W i hi hl))
theorem WS.stB (X : WS p l e R s m args below meth c Z EL n0 own T h WL FL cells slots) (hx : p.tables.exec = Jvm.exec) {a : Addr} {ka : ClassId} {N : Int32} {vs : List Value} {dv : Value} (A : Arv Z h a ka .byte N vs dv) {j x : Int32} {i : Nat} (hj : ¬ j < 0 ∧ j < N) (hi : j.toNatClampNeg = i) (hl : i < vs.length) (ha : a ∈ WL)
    (hd : decode c.code pc = .ok (.bastore, 1)) (k : ∀ T' h', WS p l e R s m args below meth c Z EL n0 own T' h' WL FL cells slots → Wr h h' a j.toNatClampNeg (.int (nar .byte x)) → Arv Z h' a ka .byte N (vs.set i (.int (nar .byte x))) dv → Wo p e s below Z EL n0 WL0 FL0 rm Q T' (mkF m (pc + 1) Ls rest)) :
    Wo p e s below Z EL n0 WL0 FL0 rm Q T (mkF m pc Ls (.int x :: .int j :: .ref a :: rest)) := by
  obtain ⟨vm0, k0, locs, X, eT, hS, hk, hZ, hown, N, I⟩ := X
  obtain ⟨cl, A1, A2, A3, A4, A5, A6⟩ := A
  obtain ⟨T', h', X', eT', W, st⟩ := RoadKit.stB X hx hZ eT A1 (inb_of A3 hj) (g := mkF m pc Ls (.int x :: .int j :: .ref a :: rest)) rfl rfl hd
  exact Wo.by st (k T' h' ⟨vm0, k0, _, X', eT', hS, by rw [W.size]; exact hk, hZ, hown, Fr.snoc X' N (I.ge ha), I.wr W ha⟩ W (Arv.set A1 A2 A3 A4 A5 A6 (fits_nar_byte x) W i hi hl))
theorem WS.initO (X : WS p l e R s m args below meth c Z EL n0 own T h WL FL cells slots) (hx : p.tables.exec = Jvm.exec) {idx : Nat} (w1 : (Jvm.Cond.methodLink own idx Lib.objectInit).before a0 Z = true) (w2 : (Jvm.Cond.instanceMethod Lib.objectInit).before a0 Z = true)
    (w3 : (Jvm.Cond.code Lib.objectInit ⟨#[0xb1]⟩ 1 none).before a0 Z = true) (hsize : Ls.size = c.maxLocals) {a : Addr} (hd : decode c.code pc = .ok (.invokespecial idx, 3))
    (hf : 1 ≤ R.frames) {W : Nat} (hW : (rest.map fun v => v.category).sum ≤ W) (hl : W + 12 ≤ R.locals)
    (k : ∀ T', WS p l e R s m args below meth c Z EL n0 own T' h WL FL cells slots → Wo p e s below Z EL n0 WL0 FL0 rm Q T' (mkF m (pc + 3) Ls rest)) :
    Wo p e s below Z EL n0 WL0 FL0 rm Q T (mkF m pc Ls (.ref a :: rest)) := by
  obtain ⟨vm0, k0, locs, X, eT, hS, hk, hZ, hown, N, I⟩ := X
  obtain ⟨T', X', eT', st⟩ := RoadKit.initO X hx hZ hown w1 w2 w3 eT (g := mkF m pc Ls (.ref a :: rest)) rfl hsize rfl hd hf (W := W) (by show 2 * 0 + _ ≤ _; omega) hl
  exact Wo.by st (k T' ⟨vm0, k0, _, X', eT', hS, hk, hZ, hown, N, I⟩)
theorem cat_ref {v : Value} (hv : v.isRef = true) : v.category = 1 := by rcases ref_cases hv with rfl | ⟨a, rfl⟩ <;> rfl
theorem nar_ref {v : Value} {t : FieldType} (ht : t.isReference = true) (hv : v.isRef = true) : narrow t v = v := by cases t <;> first | (cases ht; done) | (rcases ref_cases hv with rfl | ⟨a, rfl⟩ <;> rfl)
theorem fit_ref {v : Value} {t : FieldType} (ht : t.isReference = true) (hv : v.isRef = true) : fits t v = true := by cases t <;> first | (cases ht; done) | (rcases ref_cases hv with rfl | ⟨a, rfl⟩ <;> rfl)
theorem WS.acmp (X : WS p l e R s m args below meth c Z EL n0 own T h WL FL cells slots) (hx : p.tables.exec = Jvm.exec) {cd : ACond} {x y : Value} (h1 : x.isRef = true) (h2 : y.isRef = true) {o : Int} {pc' : Nat} {same : Bool}
    (hd : decode c.code pc = .ok (.if_acmp cd o, 3)) (hq : decide (x = y) = same) (ho : 0 ≤ (pc : Int) + o) (hp : pc' = if acV cd same = true then ((pc : Int) + o).toNat else pc + 3)
    (k : Wo p e s below Z EL n0 WL0 FL0 rm Q T (mkF m pc' Ls rest)) : Wo p e s below Z EL n0 WL0 FL0 rm Q T (mkF m pc Ls (y :: x :: rest)) := by
  obtain ⟨vm0, k0, locs, X, eT, hS, hk, hZ, hown, N, I⟩ := X
  exact Wo.by (fun t q => RoadKit.acmp (g := mkF m pc Ls (y :: x :: rest)) X hx rfl h1 h2 (pc0 := pc) rfl hd rfl hq ho hp q) k
theorem WS.alen (X : WS p l e R s m args below meth c Z EL n0 own T h WL FL cells slots) (hx : p.tables.exec = Jvm.exec) {a : Addr} {ka : ClassId} {ty : FieldType} {N : Int32} {vs : List Value} {dv : Value} (A : Arv Z h a ka ty N vs dv) (hd : decode c.code pc = .ok (.arraylength, 1))
    (k : Wo p e s below Z EL n0 WL0 FL0 rm Q T (mkF m (pc + 1) Ls (.int N :: rest))) : Wo p e s below Z EL n0 WL0 FL0 rm Q T (mkF m pc Ls (.ref a :: rest)) := by
  obtain ⟨vm0, k0, locs, X, eT, hS, hk, hZ, hown, N, I⟩ := X
  obtain ⟨cl, A1, A2, A3, A4, -, -⟩ := A
  refine Wo.by (fun t q => X.arraylength hx (by rw [eT]; exact A1.1) (State.isArrayOf_alike hZ.alike A1.2.1) (g := mkF m pc Ls (.ref a :: rest)) rfl rfl hd t ?_) k
  rw [len_of A3 A4]; exact q
theorem WS.cld (X : WS p l e R s m args below meth c Z EL n0 own T h WL FL cells slots) (hx : p.tables.exec = Jvm.exec) {a : Addr} {ka : ClassId} {N : Int32} {vs : List Value} {dv : Value} (A : Arv Z h a ka .char N vs dv) {j x : Int32} (hj : ¬ j < 0 ∧ j < N) (hv : vs.getD j.toNatClampNeg dv = .int x) (hd : decode c.code pc = .ok (.caload, 1))
    (k : Wo p e s below Z EL n0 WL0 FL0 rm Q T (mkF m (pc + 1) Ls (.int x :: rest))) : Wo p e s below Z EL n0 WL0 FL0 rm Q T (mkF m pc Ls (.int j :: .ref a :: rest)) := by
  obtain ⟨vm0, k0, locs, X, eT, hS, hk, hZ, hown, N, I⟩ := X
  obtain ⟨cl, A1, A2, A3, A4, A5, -⟩ := A
  exact Wo.by (fun t q => X.caload hx (by rw [eT]; exact A1.1) (State.isArrayOf_alike hZ.alike A1.2.1) A1.2.2 (inb_of A3 hj) (A5.at (inb_of A3 hj) hv) (g := mkF m pc Ls (.int j :: .ref a :: rest)) rfl rfl hd t q) k
theorem WS.bld (X : WS p l e R s m args below meth c Z EL n0 own T h WL FL cells slots) (hx : p.tables.exec = Jvm.exec) {a : Addr} {ka : ClassId} {N : Int32} {vs : List Value} {dv : Value} (A : Arv Z h a ka .byte N vs dv) {j x : Int32} (hj : ¬ j < 0 ∧ j < N) (hv : vs.getD j.toNatClampNeg dv = .int x) (hd : decode c.code pc = .ok (.baload, 1))
    (k : Wo p e s below Z EL n0 WL0 FL0 rm Q T (mkF m (pc + 1) Ls (.int x :: rest))) : Wo p e s below Z EL n0 WL0 FL0 rm Q T (mkF m pc Ls (.int j :: .ref a :: rest)) := by
  obtain ⟨vm0, k0, locs, X, eT, hS, hk, hZ, hown, N, I⟩ := X
  obtain ⟨cl, A1, A2, A3, A4, A5, -⟩ := A
  exact Wo.by (fun t q => X.baloadBytes hx (by rw [eT]; exact A1.1) (State.isArrayOf_alike hZ.alike A1.2.1) A1.2.2 (inb_of A3 hj) (A5.at (inb_of A3 hj) hv) (g := mkF m pc Ls (.int j :: .ref a :: rest)) rfl rfl hd t q) k
theorem WS.castY (X : WS p l e R s m args below meth c Z EL n0 own T h WL FL cells slots) (hx : p.tables.exec = Jvm.exec) {C : String} {index : Nat} (w : (Jvm.Cond.classLink own index C).before a0 Z = true) {a : Addr} (F : Ins Z h a C true) (hd : decode c.code pc = .ok (.checkcast index, 3))
    (k : ∀ T', WS p l e R s m args below meth c Z EL n0 own T' h WL FL cells slots → Wo p e s below Z EL n0 WL0 FL0 rm Q T' (mkF m (pc + 3) Ls (.ref a :: rest))) : Wo p e s below Z EL n0 WL0 FL0 rm Q T (mkF m pc Ls (.ref a :: rest)) := by
  obtain ⟨vm0, k0, locs, X, eT, hS, hk, hZ, hown, N, I⟩ := X
  obtain ⟨T', X', eT', st⟩ := RoadKit.castY X hx hZ hown w eT F (g := mkF m pc Ls (.ref a :: rest)) rfl rfl hd
  exact Wo.by st (k T' ⟨vm0, k0, _, X', eT', hS, hk, hZ, hown, N, I⟩)
theorem WS.instY (X : WS p l e R s m args below meth c Z EL n0 own T h WL FL cells slots) (hx : p.tables.exec = Jvm.exec) {C : String} {index : Nat} (w : (Jvm.Cond.classLink own index C).before a0 Z = true) {a : Addr} (F : Ins Z h a C true) (hd : decode c.code pc = .ok (.instanceof index, 3))
    (k : ∀ T', WS p l e R s m args below meth c Z EL n0 own T' h WL FL cells slots → Wo p e s below Z EL n0 WL0 FL0 rm Q T' (mkF m (pc + 3) Ls (.int 1 :: rest))) : Wo p e s below Z EL n0 WL0 FL0 rm Q T (mkF m pc Ls (.ref a :: rest)) := by
  obtain ⟨vm0, k0, locs, X, eT, hS, hk, hZ, hown, N, I⟩ := X
  obtain ⟨T', X', eT', st⟩ := RoadKit.instY X hx hZ hown w eT F (g := mkF m pc Ls (.ref a :: rest)) rfl rfl hd
  exact Wo.by st (k T' ⟨vm0, k0, _, X', eT', hS, hk, hZ, hown, N, I⟩)
theorem WS.castN (X : WS p l e R s m args below meth c Z EL n0 own T h WL FL cells slots) (hx : p.tables.exec = Jvm.exec) {index : Nat} (hd : decode c.code pc = .ok (.checkcast index, 3))
    (k : Wo p e s below Z EL n0 WL0 FL0 rm Q T (mkF m (pc + 3) Ls (.null :: rest))) : Wo p e s below Z EL n0 WL0 FL0 rm Q T (mkF m pc Ls (.null :: rest)) := by
  obtain ⟨vm0, k0, locs, X, eT, hS, hk, hZ, hown, N, I⟩ := X
  exact Wo.by (X.checkcastNull hx (g := mkF m pc Ls (.null :: rest)) rfl rfl hd) k
theorem WS.ldcI (X : WS p l e R s m args below meth c Z EL n0 own T h WL FL cells slots) (hx : p.tables.exec = Jvm.exec) {index : Nat} {v : Int32} (w : (Jvm.Cond.constant own index v).before a0 Z = true) (hd : decode c.code pc = .ok (.ldc index, 2))
    (k : Wo p e s below Z EL n0 WL0 FL0 rm Q T (mkF m (pc + 2) Ls (.int v :: st))) : Wo p e s below Z EL n0 WL0 FL0 rm Q T (mkF m pc Ls st) := by
  obtain ⟨vm0, k0, locs, X, eT, hS, hk, hZ, hown, N, I⟩ := X
  exact Wo.by (X.ldcInt hx hown (mv hZ w) (g := mkF m pc Ls st) rfl hd) k
theorem WS.cpA (X : WS p l e R s m args below meth c Z EL n0 own T h WL FL cells slots) (hx : p.tables.exec = Jvm.exec) {index : Nat} (w1 : (Jvm.Cond.methodLink own index Jvm.Stand.acN).before a0 Z = true) (w2 : (Jvm.Cond.native Jvm.Stand.acN).before a0 Z = true) (w3 : (Jvm.Cond.static Jvm.Stand.acN).before a0 Z = true) (w4 : (Jvm.Cond.initialized "java/lang/System").before a0 Z = true)
    {a b : Addr} {ka kb : ClassId} {ty ty' : FieldType} {z z' sp dp nn : Int32} {vs vd us vr : List Value} {dv dd : Value} (A : Arv Z h a ka ty z vs dv) (B : Arv Z h b kb ty' z' vd dd) (hty : (ty = ty' ∧ refKind ty = false) ∨ (refKind ty = true ∧ refKind ty' = true ∧ StoL Z h b us))
    (h1 : ¬ sp < 0) (h2 : ¬ dp < 0) (h3 : ¬ nn < 0) (h4 : sp.toNatClampNeg + nn.toNatClampNeg ≤ z.toNatClampNeg) (h5 : dp.toNatClampNeg + nn.toNatClampNeg ≤ z'.toNatClampNeg)
    (hus : us = (List.range nn.toNatClampNeg).map fun i => vs.getD (sp.toNatClampNeg + i) dv) (hl : dp.toNatClampNeg + nn.toNatClampNeg ≤ vd.length) (hr : vd.take dp.toNatClampNeg ++ us ++ vd.drop (dp.toNatClampNeg + nn.toNatClampNeg) = vr) (hb : b ∈ WL)
    (hsize : Ls.size = c.maxLocals) (hd : decode c.code pc = .ok (.invokestatic index, 3)) (hf : 1 ≤ R.frames) {W : Nat} (hW : (rest.map fun v => v.category).sum ≤ W) (hlo : W + 18 ≤ R.locals)
    (k : ∀ T' h', WS p l e R s m args below meth c Z EL n0 own T' h' WL FL cells slots → Keep h h' [b] → Arv Z h' b kb ty' z' vr dd → Wo p e s below Z EL n0 WL0 FL0 rm Q T' (mkF m (pc + 3) Ls rest)) :
    Wo p e s below Z EL n0 WL0 FL0 rm Q T (mkF m pc Ls (.int nn :: .int dp :: .ref b :: .int sp :: .ref a :: rest)) := by
  obtain ⟨vm0, k0, locs, X, eT, hS, hk, hZ, hown, N, I⟩ := X
  obtain ⟨T', h', L, X', eT', N', K, V, st⟩ := RoadKit.cpA X hx hZ hown w1 w2 w3 w4 eT A B hty h1 h2 h3 h4 h5 hus hl N (I.ge hb) (g := mkF m pc Ls (.int nn :: .int dp :: .ref b :: .int sp :: .ref a :: rest)) rfl hsize rfl hd hf (W := W) (by show 2 * 0 + _ ≤ _; omega) (by rw [show nativeFrameWords "java/lang/System" "arraycopy" 5 = 7 by decide]; omega)
  subst hr
  exact Wo.by st (k T' h' ⟨vm0, k0, _, X', eT', hS, Nat.le_trans hk K.1, hZ, hown, N', I.keep K (allS hb all0)⟩ K V)
/-- a String constant, read -/
theorem WS.ldc (X : WS p l e R s m args below meth c Z EL n0 own T h WL FL cells slots) (hx : p.tables.exec = Jvm.exec) {index : Nat} {text : String} (w : (Jvm.Cond.stringLink own index text).before a0 Z = true) (wS : ∀ a ∈ Bundle.stringAtoms, a.before a0 Z = true) (hmem : (own, index) ∈ EL)
    {vs : List Value} {z : Int32} (ht : (∀ c ∈ text.toList, c.toNat < 256) ∧ text.toList.map (fun c => Value.int (Jvm.Lit.byteI c.toNat.toUInt16)) = vs) (hz : ¬ z < 0) (hl : z.toNatClampNeg = vs.length)
    (hd : decode c.code pc = .ok (.ldc index, 2)) {n : Nat} (hn : 4 * text.toList.length ≤ n) (hbig : n ≤ 536870912) (hc : cells + 2 ≤ R.cells) (hl' : slots + (n + 4) ≤ R.slots)
    (k : ∀ T' h' a b kb, WS p l e R s m args below meth c Z EL n0 own T' h' WL (a :: b :: FL) (cells + 2) (slots + (n + 4)) → Ext h h' → Exa Z h' a "java/lang/String" → Fld Z h' a "java/lang/String" "coder" "B" (.int 0) → Fld Z h' a "java/lang/String" "value" "[B" (.ref b) → Arv Z h' b kb .byte z vs (.int 0) → Wo p e s below Z EL n0 WL0 FL0 rm Q T' (mkF m (pc + 2) Ls (.ref a :: st))) :
    Wo p e s below Z EL n0 WL0 FL0 rm Q T (mkF m pc Ls st) := by
  obtain ⟨vm0, k0, locs, X, eT, hS, hk, hZ, hown, N, ⟨a1, i1⟩, i2, i3, i4, i5, i6⟩ := X
  obtain ⟨a, T', h', k1, b, kb, X', eT', E, hS', hk', hZ', hown', A, C, V, B, la, lb, hC, -, hne, st⟩ := ldcCH X hx hZ hown w wS eT hS hk i1 hmem i2 ht hz hl (g := mkF m pc Ls st) rfl hd hn hbig hc hl'
  have S : ∀ x ∈ WL, Safe Z EL T'.vm h' x := fun x hx => hC.safe (i4 x hx).2.1 (i4 x hx).2.2
  refine Wo.by st (k T' h' a b kb ⟨T'.vm, k1, _, X', eT', hS', hk', hZ', hown', N, ⟨a1, i1⟩, hC.1, i3.ext E, fun x hx => ⟨(i4 x hx).1, Nat.lt_of_lt_of_le (i4 x hx).2.1 E.1, S x hx⟩, i5, fun y hy => ?_⟩ E A C V B)
  rcases List.mem_cons.mp hy with rfl | hy
  · exact ⟨la, fun q => (hne _ (S _ q)).1 rfl⟩
  · rcases List.mem_cons.mp hy with rfl | hy
    · exact ⟨lb, fun q => (hne _ (S _ q)).2 rfl⟩
    · exact ⟨Nat.lt_of_lt_of_le (i6 y hy).1 E.1, (i6 y hy).2⟩
/-- a String constant that nobody reads -/
theorem WS.ldcO (X : WS p l e R s m args below meth c Z EL n0 own T h WL FL cells slots) (hx : p.tables.exec = Jvm.exec) {index : Nat} {text : String} (w : (Jvm.Cond.stringLink own index text).before a0 Z = true) (wS : ∀ a ∈ Bundle.stringAtoms, a.before a0 Z = true)
    (hd : decode c.code pc = .ok (.ldc index, 2)) {n : Nat} (hn : 4 * text.toList.length ≤ n) (hbig : n ≤ 536870912) (hc : cells + 2 ≤ R.cells) (hl' : slots + (n + 4) ≤ R.slots)
    (k : ∀ T' h' a, WS p l e R s m args below meth c Z EL n0 own T' h' WL FL (cells + 2) (slots + (n + 4)) → Ext h h' → Wo p e s below Z EL n0 WL0 FL0 rm Q T' (mkF m (pc + 2) Ls (.ref a :: st))) :
    Wo p e s below Z EL n0 WL0 FL0 rm Q T (mkF m pc Ls st) := by
  obtain ⟨vm0, k0, locs, X, eT, hS, hk, hZ, hown, N, ⟨a1, i1⟩, i2, i3, i4, i5, i6⟩ := X
  obtain ⟨a, T', h', k1, X', eT', E, hS', hk', hZ', hown', hC, -, st⟩ := ldcOH X hx hZ hown w wS eT hS hk i1 i2 (g := mkF m pc Ls st) rfl hd hn hbig hc hl'
  exact Wo.by st (k T' h' a ⟨T'.vm, k1, _, X', eT', hS', hk', hZ', hown', N, ⟨a1, i1⟩, hC.1, i3.ext E, fun x hx => ⟨(i4 x hx).1, Nat.lt_of_lt_of_le (i4 x hx).2.1 E.1, hC.safe (i4 x hx).2.1 (i4 x hx).2.2⟩, i5, fun y hy => ⟨Nat.lt_of_lt_of_le (i6 y hy).1 E.1, (i6 y hy).2⟩⟩ E)
/-- who pays a call -/
def Pay (l : Launch) (R : Room) (p : Program) (e : Env) (below : List Frame) (s : State) (args : Array Value) (Z : State) (EL : List (String × Nat)) (n0 : Nat) (y : MethodName) (len W : Nat) (as' : Array Value) (h : Heap) (WL FL : List Addr) (k n : Nat) (Q : Option Value → Heap → List Addr → List Addr → Prop) : Prop :=
  ∀ vm0, Z.Warmed39 vm0 → Inv Z EL n0 vm0 h WL FL → BackS l R p e below (s.setVm vm0) args y len W (fun A a => a = as' ∧ A.U.heap = h ∧ A.cells + k ≤ R.cells ∧ A.slots + n ≤ R.slots)
    (fun A _ v B => ∃ L WL' FL', Q v B.U.heap WL' FL' ∧ Fr n0 L ∧ B.locs = A.locs ++ L ∧ B.cells = A.cells + k ∧ B.slots = A.slots + n ∧ Inv Z EL n0 B.U.vm B.U.heap (WL' ++ WL) (FL' ++ FL))
theorem Ct.pay {y : MethodName} {bytes : ByteArray} {maxL : Nat} {ret : Option FieldType} {rm : Room} {as' : Array Value} {len W : Nat} {Q : Option Value → Heap → List Addr → List Addr → Prop} (C : Ct l Z EL n0 y bytes maxL ret rm as' h WL FL Q)
    (wc : (Jvm.Cond.code y bytes maxL ret).before a0 Z = true) (wz : (Jvm.Cond.initialized y.cls).before a0 Z = true) (hf : rm.frames + 1 ≤ R.frames) (hl : W + (maxL + 11) + rm.locals ≤ R.locals) :
    Pay l R p e below s args Z EL n0 y len W as' h WL FL rm.cells rm.slots Q := fun vm0 hZ I =>
  BackS.of_freeW (bytes := bytes) (maxL := maxL) (ret := ret) (E := fun _ first o t L k n => k = rm.cells ∧ n = rm.slots ∧ ∃ v WL' FL', o = .returned v ∧ Q v t.heap WL' FL' ∧ Fr n0 L ∧ Inv Z EL n0 t.vm t.heap (WL' ++ WL) (FL' ++ FL)) (C []) hf hl
    (fun m meth c A a Y hp => have hU : Z.Warmed39 A.U.vm := wtrans (s := s.setVm vm0) hZ Y.warmed
      ⟨by show (Jvm.Cond.and _ .tt).before a A.U = true; rw [Cond.before_and, mv hU wc]; rfl, mv hU wc, mv hU wz, hp.2.2.1, hp.2.2.2⟩)
    (fun m meth c A a g mk Y hp => ⟨hp.1, wtrans (s := s.setVm vm0) hZ Y.warmed, hp.2.1, (show Inv Z EL n0 A.U.vm h WL FL from WS.invT Y hZ I)⟩) (fun _ _ _ _ _ _ _ _ _ => trivial)
    (fun _ _ _ _ ⟨v, L, WL', FL', h1, h2, h3, h4, h5⟩ => ⟨L, _, _, h5, rfl, rfl, v, WL', FL', h1, h4, h3, h2⟩)
    (fun m meth c A a g mk v t L k n Y hp _ _ ⟨e1, e2, v', WL', FL', e3, e4, e5, e6⟩ => by
      cases e3; subst e1 e2
      exact ⟨L, WL', FL', e4, e5, rfl, rfl, rfl, e6⟩)
/-- a law of the narrow shape pays too -/
theorem Pay.ofN {y : MethodName} {as' : Array Value} {len W k n : Nat} {Qn : Option Value → Heap → List Loc → Prop} {Q : Option Value → Heap → List Addr → List Addr → Prop}
    (B : ∀ vm0, Z.Warmed39 (s.setVm vm0).vm → Back l R p e below (s.setVm vm0) args y len W (fun A a => a = as' ∧ A.U.heap = h ∧ A.cells + k ≤ R.cells ∧ A.slots + n ≤ R.slots) (fun A _ v B => ∃ L, Qn v B.U.heap L ∧ B.locs = A.locs ++ L ∧ B.cells = A.cells + k ∧ B.slots = A.slots + n))
    (hq : ∀ v h' L, Qn v h' L → Fr n0 L ∧ ∃ ws FL', Keep h h' ws ∧ (∀ x ∈ ws, x ∈ WL) ∧ (∀ y ∈ FL', h.size ≤ y ∧ y < h'.size) ∧ Q v h' [] FL') :
    Pay l R p e below s args Z EL n0 y len W as' h WL FL k n Q := fun vm0 hZ I => by
  intro m meth c A g ig mk a X hg hsize hdg hW hn hp
  obtain ⟨v, B, X', ⟨L, q1, q2, q3, q4⟩, st⟩ := B vm0 hZ m meth c A g ig mk a X hg hsize hdg hW hn hp
  obtain ⟨N, ws, FL', K, hws, hF, q⟩ := hq _ _ _ q1
  refine ⟨v, B, X'.retabled X'.warmed.wide, X'.warmed.since _, by rw [hp.2.1]; exact K.1, ⟨L, [], FL', q, N, q2, q3, q4, ?_⟩, st⟩
  obtain ⟨i1, i2, i3, i4, i5, i6⟩ := WS.invT X' hZ (I.keep K hws)
  refine ⟨i1, i2, i3, i4, i5, fun y hy => ?_⟩
  rcases List.mem_append.mp hy with z | z
  · exact ⟨(hF y z).2, fun w => Nat.lt_irrefl _ (Nat.lt_of_lt_of_le (I.lt w) (hF y z).1)⟩
  · exact i6 y z
/-- behind a call -/
theorem WS.back {vm0 : Vm} {k0 : Nat} {locs : List Loc} {B : Pt} {k n : Nat} {L : List Loc} {WL' FL' : List Addr} (hS : s.Since vm0 k0) (hk : k0 ≤ T.heap.size) (hZ : Z.Warmed39 vm0) (hown : vm0.findClass own = some m.cls) (N : Fr n0 locs) (X' : Stand p l e R ((s.setVm vm0).setVm B.U.vm) m args below meth c B.U B.locs B.cells B.slots)
    (hS' : (s.setVm vm0).Since B.U.vm B.U.heap.size) (hgr : T.heap.size ≤ B.U.heap.size) (N' : Fr n0 L) (q2 : B.locs = locs ++ L) (q3 : B.cells = cells + k) (q4 : B.slots = slots + n) (I' : Inv Z EL n0 B.U.vm B.U.heap (WL' ++ WL) (FL' ++ FL)) :
    WS p l e R s m args below meth c Z EL n0 own B.U B.U.heap (WL' ++ WL) (FL' ++ FL) (cells + k) (slots + n) := by
  obtain ⟨U, Lo, ck, sl⟩ := B
  dsimp only [Pt.U, Pt.locs, Pt.cells, Pt.slots] at *
  subst q2 q3 q4
  exact ⟨U.vm, U.heap.size, _, X', rfl, hS.trans hS' (Nat.le_trans hk hgr), Nat.le_refl _, State.Warmed39.trans (t := s.setVm vm0) hZ hS'.1, by rw [hS'.1.alike.findClass]; exact hown, N.app N', I'⟩
variable {index : Nat} {y z : MethodName} {bytes : ByteArray} {maxL : Nat} {ret : Option FieldType} {W k n : Nat} {as' : Array Value} {Qc : Option Value → Heap → List Addr → List Addr → Prop} {argsL : List Value}
theorem WS.callS (X : WS p l e R s m args below meth c Z EL n0 own T h WL FL cells slots) (hx : p.tables.exec = Jvm.exec) (w1 : (Jvm.Cond.methodLink own index y).before a0 Z = true) (w2 : (Jvm.Cond.static y).before a0 Z = true) (w3 : (Jvm.Cond.initialized y.cls).before a0 Z = true) (w4 : (Jvm.Cond.code y bytes maxL ret).before a0 Z = true) (hy : y.cls ≠ "java/lang/invoke/MethodHandle" ∧ y.cls ≠ "java/lang/invoke/VarHandle")
    (hP : Pay l R p e below s args Z EL n0 y 3 W as' h WL FL k n Qc) (hsize : Ls.size = c.maxLocals) (hlen : ∀ sig, parseMethodDescriptor y.desc = some sig → argsL.length = sig.parameters.length) (hst : st = argsL.reverse ++ rest) (has : argsL.toArray = as') (hW : (rest.map fun v => v.category).sum ≤ W)
    (hd : decode c.code pc = .ok (.invokestatic index, 3)) (hc : cells + k ≤ R.cells) (hl : slots + n ≤ R.slots)
    (kk : ∀ T' h' v WL' FL', WS p l e R s m args below meth c Z EL n0 own T' h' (WL' ++ WL) (FL' ++ FL) (cells + k) (slots + n) → Qc v h' WL' FL' → Wo p e s below Z EL n0 WL0 FL0 rm Q T' (mkF m (pc + 3) Ls (v.toList ++ rest))) :
    Wo p e s below Z EL n0 WL0 FL0 rm Q T (mkF m pc Ls st) := by
  obtain ⟨vm0, k0, locs, X, eT, hS, hk, hZ, hown, N, I⟩ := X
  obtain ⟨v, vm₁, B, -, X', hS', hgr, ⟨L, WL', FL', q, N', q2, q3, q4, I'⟩, stp⟩ := callSS X hx hown (mv hZ w1) (mv hZ w2) (mv hZ w3) (mv hZ w4) hy (hP vm0 hZ I) (g := mkF m pc Ls st) rfl hsize hlen hst (by show 2 * 0 + _ ≤ _; omega) hd (fun _ _ => ⟨has, eT, hc, hl⟩)
  exact Wo.by (fun t r => stp.trans r) (kk B.U _ v WL' FL' (WS.back hS (by rw [eT]; exact hk) hZ hown N X' hS' hgr N' q2 q3 q4 I') q)
theorem WS.callC (X : WS p l e R s m args below meth c Z EL n0 own T h WL FL cells slots) (hx : p.tables.exec = Jvm.exec) (hi : y.name = "<init>") (w1 : (Jvm.Cond.methodLink own index y).before a0 Z = true) (w2 : (Jvm.Cond.instanceMethod y).before a0 Z = true) (w4 : (Jvm.Cond.code y bytes maxL none).before a0 Z = true) (hy : y.cls ≠ "java/lang/invoke/MethodHandle" ∧ y.cls ≠ "java/lang/invoke/VarHandle")
    {a : Addr} (hP : Pay l R p e below s args Z EL n0 y 3 W as' h WL FL k n Qc) (hsize : Ls.size = c.maxLocals) (hlen : ∀ sig, parseMethodDescriptor y.desc = some sig → argsL.length = sig.parameters.length) (hst : st = argsL.reverse ++ .ref a :: rest) (has : (Value.ref a :: argsL).toArray = as') (hW : (rest.map fun v => v.category).sum ≤ W)
    (hd : decode c.code pc = .ok (.invokespecial index, 3)) (hc : cells + k ≤ R.cells) (hl : slots + n ≤ R.slots)
    (kk : ∀ T' h' v WL' FL', WS p l e R s m args below meth c Z EL n0 own T' h' (WL' ++ WL) (FL' ++ FL) (cells + k) (slots + n) → Qc v h' WL' FL' → Wo p e s below Z EL n0 WL0 FL0 rm Q T' (mkF m (pc + 3) Ls (v.toList ++ rest))) :
    Wo p e s below Z EL n0 WL0 FL0 rm Q T (mkF m pc Ls st) := by
  obtain ⟨vm0, k0, locs, X, eT, hS, hk, hZ, hown, N, I⟩ := X
  obtain ⟨v, vm₁, B, -, X', hS', hgr, ⟨L, WL', FL', q, N', q2, q3, q4, I'⟩, stp⟩ := X.specialBackS hx hi hown (mv hZ w1) (mv hZ w2) (mv hZ w4) hy (hP vm0 hZ I) (g := mkF m pc Ls st) rfl hsize (Steps.refl _) hlen hst (by show 2 * 0 + _ ≤ _; omega) hd (fun _ _ => ⟨has, eT, hc, hl⟩)
  exact Wo.by (fun t r => stp.trans r) (kk B.U _ v WL' FL' (WS.back hS (by rw [eT]; exact hk) hZ hown N X' hS' hgr N' q2 q3 q4 I') q)
theorem WS.callV {C : String} (X : WS p l e R s m args below meth c Z EL n0 own T h WL FL cells slots) (hx : p.tables.exec = Jvm.exec) (w1 : (Jvm.Cond.methodLink own index y).before a0 Z = true) (w2 : (Jvm.Cond.declares y).before a0 Z = true) (w3 : (Jvm.Cond.selects C y z).before a0 Z = true) (w4 : (Jvm.Cond.instanceMethod z).before a0 Z = true) (hf : ∀ vm0, Z.Warmed39 vm0 → NotFace (s.setVm vm0) y) (hy : y.cls ≠ "java/lang/invoke/MethodHandle" ∧ y.cls ≠ "java/lang/invoke/VarHandle")
    {a : Addr} (E : Exa Z h a C) (hP : Pay l R p e below s args Z EL n0 z 3 W as' h WL FL k n Qc) (hsize : Ls.size = c.maxLocals) (hlen : ∀ sig, parseMethodDescriptor y.desc = some sig → argsL.length = sig.parameters.length) (hst : st = argsL.reverse ++ .ref a :: rest) (has : (Value.ref a :: argsL).toArray = as') (hW : (rest.map fun v => v.category).sum ≤ W)
    (hd : decode c.code pc = .ok (.invokevirtual index, 3)) (hc : cells + k ≤ R.cells) (hl : slots + n ≤ R.slots)
    (kk : ∀ T' h' v WL' FL', WS p l e R s m args below meth c Z EL n0 own T' h' (WL' ++ WL) (FL' ++ FL) (cells + k) (slots + n) → Qc v h' WL' FL' → Wo p e s below Z EL n0 WL0 FL0 rm Q T' (mkF m (pc + 3) Ls (v.toList ++ rest))) :
    Wo p e s below Z EL n0 WL0 FL0 rm Q T (mkF m pc Ls st) := by
  obtain ⟨vm0, k0, locs, X, eT, hS, hk, hZ, hown, N, I⟩ := X
  obtain ⟨cB, kB, q0, q1, q5⟩ := isOf (s := s.setVm vm0) hZ eT E
  obtain ⟨v, vm₁, B, -, X', hS', hgr, ⟨L, WL', FL', q, N', q2, q3, q4, I'⟩, stp⟩ := X.virtualBackS hx hown (mv hZ w1) (mv hZ w2) (hf vm0 hZ) (mv hZ w3) (mv hZ w4) hy (hP vm0 hZ I) q0 q5 (g := mkF m pc Ls st) rfl hsize (Steps.refl _) hlen hst (by show 2 * 0 + _ ≤ _; omega) hd (fun _ _ => ⟨has, eT, hc, hl⟩)
  exact Wo.by (fun t r => stp.trans r) (kk B.U _ v WL' FL' (WS.back hS (by rw [eT]; exact hk) hZ hown N X' hS' hgr N' q2 q3 q4 I') q)
theorem WS.callI {C : String} {count : Nat} (X : WS p l e R s m args below meth c Z EL n0 own T h WL FL cells slots) (hx : p.tables.exec = Jvm.exec) (w1 : (Jvm.Cond.methodLink own index y).before a0 Z = true) (w2 : (Jvm.Cond.declares y).before a0 Z = true) (w2' : (Jvm.Cond.interfaceMethod y.cls y.cls y.name y.desc).before a0 Z = true) (w3 : (Jvm.Cond.selects C y z).before a0 Z = true) (w4 : (Jvm.Cond.instanceMethod z).before a0 Z = true)
    (w5 : (Jvm.Cond.publicMethod z).before a0 Z = true) (w6 : (Jvm.Cond.unhidden C y.name y.desc).before a0 Z = true) (w7 : (Jvm.Cond.castable C y.cls).before a0 Z = true) (hy : y.cls ≠ "java/lang/invoke/MethodHandle" ∧ y.cls ≠ "java/lang/invoke/VarHandle")
    {a : Addr} (E : Exa Z h a C) (hP : Pay l R p e below s args Z EL n0 z 5 W as' h WL FL k n Qc) (hsize : Ls.size = c.maxLocals) (hlen : ∀ sig, parseMethodDescriptor y.desc = some sig → argsL.length = sig.parameters.length) (hst : st = argsL.reverse ++ .ref a :: rest) (has : (Value.ref a :: argsL).toArray = as') (hW : (rest.map fun v => v.category).sum ≤ W)
    (hd : decode c.code pc = .ok (.invokeinterface index count, 5)) (hc : cells + k ≤ R.cells) (hl : slots + n ≤ R.slots)
    (kk : ∀ T' h' v WL' FL', WS p l e R s m args below meth c Z EL n0 own T' h' (WL' ++ WL) (FL' ++ FL) (cells + k) (slots + n) → Qc v h' WL' FL' → Wo p e s below Z EL n0 WL0 FL0 rm Q T' (mkF m (pc + 5) Ls (v.toList ++ rest))) :
    Wo p e s below Z EL n0 WL0 FL0 rm Q T (mkF m pc Ls st) := by
  obtain ⟨vm0, k0, locs, X, eT, hS, hk, hZ, hown, N, I⟩ := X
  obtain ⟨cB, kB, q0, q1, q5⟩ := isOf (s := s.setVm vm0) hZ eT E
  obtain ⟨v, vm₁, B, -, X', hS', hgr, ⟨L, WL', FL', q, N', q2, q3, q4, I'⟩, stp⟩ := X.interfaceBackS hx hown (mv hZ w1) (mv hZ w2) (mv hZ w2' (by simp [Cond.onTables, Cond.keepsFace, Cond.keeps, Cond.steady, Cond.faceAtom]; exact hy)) (mv hZ w3) (mv hZ w4) (mv hZ w5) (mv hZ w6) (mv hZ w7) hy (hP vm0 hZ I) q0 q1 q5 (g := mkF m pc Ls st) rfl hsize (Steps.refl _) hlen hst (by show 2 * 0 + _ ≤ _; omega) hd (fun _ _ => ⟨has, eT, hc, hl⟩)
  exact Wo.by (fun t r => stp.trans r) (kk B.U _ v WL' FL' (WS.back hS (by rw [eT]; exact hk) hZ hown N X' hS' hgr N' q2 q3 q4 I') q)
theorem declM (wi : (Jvm.Cond.instanceMethod y).before a0 Z = true) (wc : (Jvm.Cond.code y bytes maxL ret).before a0 Z = true) : (Jvm.Cond.declares y).before a0 Z = true := by
  obtain ⟨mk, me, hn, hm, hst, -⟩ := Cond.instanceMethod_spec wi
  obtain ⟨me', c', q1, -, -, -, -, -, -, hsig⟩ := Cond.code_spec hn wc
  cases hm.symm.trans q1
  simp [Cond.before, Cond.holds, Cond.value, hn, hm, hst, hsig]
theorem faceO {y' : MethodName} {C : String} (ws : (Jvm.Cond.selects C y' y').before a0 Z = true) (e : y'.cls = y.cls) : NotFace Z y := fun r0 h0 => by
  obtain ⟨c2, r2, m2, q1, q2, q3, q4, kP, hkP, hkPi⟩ := Cond.selects_spec ws
  have e1 := findClass_of_methodNamed q3
  have e2 := findClass_of_methodNamed h0
  rw [e] at e1
  have e3 := Option.some.inj (e1.symm.trans e2)
  exact ⟨kP, by rw [← e3]; exact hkP, hkPi⟩
theorem nfO {vm0 : Vm} {y' : MethodName} {C : String} (hZ : Z.Warmed39 vm0) (w : (Jvm.Cond.selects C y' y').before a0 Z = true) (e : y'.cls = y.cls) : NotFace (s.setVm vm0) y := faceO (a0 := #[]) (mv (s := s.setVm vm0) hZ w) e
theorem nfS {vm0 : Vm} {S : String} (hZ : Z.Warmed39 vm0) (w : (Jvm.Cond.superclass y.cls S).before a0 Z = true) : NotFace (s.setVm vm0) y := nf_super (args := #[]) (mv (s := s.setVm vm0) hZ w)
theorem sameM {y' : MethodName} {C : String} (hy : y.cls ≠ "java/lang/invoke/MethodHandle" ∧ y.cls ≠ "java/lang/invoke/VarHandle") (wi : (Jvm.Cond.instanceMethod y).before a0 Z = true) (ws : (Jvm.Cond.selects C y' y').before a0 Z = true) (e : y'.cls = y.cls) : (Jvm.Cond.sameMethod y.cls y.cls y.name y.desc).before a0 Z = true := by
  obtain ⟨mk, me, hn, hm, hst, -⟩ := Cond.instanceMethod_spec wi
  have hf := State.methodFound?_of_named hn hy
  have hc := findClass_of_methodNamed hn
  obtain ⟨kr, hkr, hni⟩ := faceO (y := y) ws e mk hn
  have hn' : Z.methodNamed? ⟨y.cls, y.name, y.desc⟩ = some mk := hn
  simp [Cond.before, Cond.holds, Cond.value, hc, hf, hn', hkr, hni]
theorem WS.callU {C K : String} {y' : MethodName} (X : WS p l e R s m args below meth c Z EL n0 own T h WL FL cells slots) (hx : p.tables.exec = Jvm.exec) (w1 : (Jvm.Cond.methodLink own index y).before a0 Z = true) (w2 : (Jvm.Cond.instanceMethod y).before a0 Z = true) (w3 : (Jvm.Cond.superclass own y.cls).before a0 Z = true) (w4 : (Jvm.Cond.code y bytes maxL ret).before a0 Z = true) (w5 : (Jvm.Cond.selects C y' y').before a0 Z = true) (e5 : y'.cls = y.cls) (hi : y.name ≠ "<init>") (hy : y.cls ≠ "java/lang/invoke/MethodHandle" ∧ y.cls ≠ "java/lang/invoke/VarHandle")
    {a : Addr} (F : Ins Z h a K true) (hP : Pay l R p e below s args Z EL n0 y 3 W as' h WL FL k n Qc) (hsize : Ls.size = c.maxLocals) (hlen : ∀ sig, parseMethodDescriptor y.desc = some sig → argsL.length = sig.parameters.length) (hst : st = argsL.reverse ++ .ref a :: rest) (has : (Value.ref a :: argsL).toArray = as') (hW : (rest.map fun v => v.category).sum ≤ W)
    (hd : decode c.code pc = .ok (.invokespecial index, 3)) (hc : cells + k ≤ R.cells) (hl : slots + n ≤ R.slots)
    (kk : ∀ T' h' v WL' FL', WS p l e R s m args below meth c Z EL n0 own T' h' (WL' ++ WL) (FL' ++ FL) (cells + k) (slots + n) → Qc v h' WL' FL' → Wo p e s below Z EL n0 WL0 FL0 rm Q T' (mkF m (pc + 3) Ls (v.toList ++ rest))) :
    Wo p e s below Z EL n0 WL0 FL0 rm Q T (mkF m pc Ls st) := by
  obtain ⟨vm0, k0, locs, X, eT, hS, hk, hZ, hown, N, I⟩ := X
  obtain ⟨v, vm₁, B, -, X', hS', hgr, ⟨L, WL', FL', q, N', q2, q3, q4, I'⟩, stp⟩ := superBackS X hx hZ hown w1 (sameM hy w2 w5 e5) w2 w3 hi (hP vm0 hZ I) eT F (g := mkF m pc Ls st) rfl hsize w4 hlen hst (by show 2 * 0 + _ ≤ _; omega) hd (fun _ _ => ⟨has, eT, hc, hl⟩)
  exact Wo.by (fun t r => stp.trans r) (kk B.U _ v WL' FL' (WS.back hS (by rw [eT]; exact hk) hZ hown N X' hS' hgr N' q2 q3 q4 I') q)
theorem nf {vm0 : Vm} {C : String} (hZ : Z.Warmed39 vm0) (w : (Jvm.Cond.selects C y y).before a0 Z = true) : NotFace (s.setVm vm0) y := notFace_of_selects (args := #[]) (mv (s := s.setVm vm0) hZ w)
end Walk
end Wd
end Jvm.Pilot.@@N@@
/- laws to paste: Road.backV, Road.lenW, Road.chN, Road.codOf (cut by pick.py; bodies as the Statement names them) -/
namespace Jvm.Pilot.@@N@@
namespace StrChars
open Jvm Sem ClassFile Op Lib Jvm.Stand Jvm.Free.XT Jvm.Free.ALB Jvm.Free.JM Jvm.Free
open Jvm.Lib.Cold (StaticIs)
/-- a char array whose places are chars -/
def Ch (a : Addr) (A : Cell) (U : State) : Prop := Arr .char a A U ∧ Typed .char A
theorem Ch.mv {a : Addr} {A : Cell} {U U' : State} (h : Ch a A U) (hal : U.vm.Alike U'.vm) (hh : U'.heap = U.heap) : Ch a A U' := ⟨h.1.mv hal hh, h.2⟩
theorem Ch.keep {a : Addr} {A : Cell} {U U' : State} (h : Ch a A U) (hal : U.vm.Alike U'.vm) (hk : U'.heap[a]? = some A) : Ch a A U' := ⟨h.1.keep hal hk, h.2⟩
/-- what place i of a char[]'s cell holds -/
def cv (A : Cell) (i : Nat) : Int32 := match A.slots[i]? with | some (.int x) => x | _ => 0
theorem Ch.get {a : Addr} {A : Cell} {U : State} (h : Ch a A U) {i : Nat} (hi : i < A.slots.size) : A.slots[i]? = some (.int (cv A i)) := by
  have e := Array.getElem?_eq_getElem hi
  have f := h.2 i _ e
  unfold cv; rw [e]
  generalize A.slots[i] = v at f
  cases v <;> simp [fits] at f ⊢
/-- the byte that i2b leaves of a char -/
def lo8 (x : Int32) : Int32 := x.toInt8.toInt32
theorem fits_lo8 (y : Int32) : fits .byte (.int (lo8 y)) = true := by
  have h1 := y.toInt8.le_toInt
  have h2 := y.toInt8.toInt_lt
  simp only [lo8, fits, Bool.and_eq_true, decide_eq_true_eq, Int32.le_iff_toInt_le, Int8.toInt_toInt32, show (-128 : Int32).toInt = -128 from by decide, show (127 : Int32).toInt = 127 from by decide]
  omega
/-- A' is A but that each place j of lo .. hi - 1 holds f j -/
def Laid (A A' : Cell) (lo hi : Nat) (f : Nat → Value) : Prop := A'.cls = A.cls ∧ A'.vm = A.vm ∧ A'.slots.size = A.slots.size ∧ ∀ i, A'.slots[i]? = if lo ≤ i ∧ i < hi then some (f i) else A.slots[i]?
theorem Laid.zero (A : Cell) (lo : Nat) (f : Nat → Value) : Laid A A lo (lo + 0) f := ⟨rfl, rfl, rfl, fun i => by rw [if_neg (by omega)]⟩
theorem Laid.step {A Ak : Cell} {lo k : Nat} {f : Nat → Value} {v : Value} (h : Laid A Ak lo k f) (hlo : lo ≤ k) (hk : k < Ak.slots.size) (hv : v = f k) : Laid A (Ak.setSlot k v) lo (k + 1) f := by
  refine ⟨h.1, h.2.1, by simpa [Cell.setSlot] using h.2.2.1, fun i => ?_⟩
  by_cases e : k = i
  · subst e; rw [Cell.slots_setSlot_self v hk, if_pos (by omega), hv]
  · rw [Cell.slots_setSlot_ne v e, h.2.2.2 i]
    by_cases q : lo ≤ i ∧ i < k
    · rw [if_pos q, if_pos (by omega)]
    · rw [if_neg q, if_neg (by omega)]
def U16 : String := "java/lang/StringUTF16"
namespace Cmp5
def yN : MethodName := ⟨"java/lang/StringUTF16", "compress", "([CI[BII)I"⟩
abbrev yB : ByteArray := jdk_52_method_21_code
theorem d0 : decode yB 0 = .ok (.iconst 0, 1) := by decide +kernel
theorem d1 : decode yB 1 = .ok (.istore 5, 2) := by decide +kernel
theorem d3 : decode yB 3 = .ok (.iload 5, 2) := by decide +kernel
theorem d5 : decode yB 5 = .ok (.iload 4, 2) := by decide +kernel
theorem d7 : decode yB 7 = .ok (.if_icmp (.ge) 37, 3) := by decide +kernel
theorem d10 : decode yB 10 = .ok (.aload_n 0, 1) := by decide +kernel
theorem d11 : decode yB 11 = .ok (.iload_n 1, 1) := by decide +kernel
theorem d12 : decode yB 12 = .ok (.caload, 1) := by decide +kernel
theorem d13 : decode yB 13 = .ok (.istore 6, 2) := by decide +kernel
theorem d15 : decode yB 15 = .ok (.iload 6, 2) := by decide +kernel
theorem d17 : decode yB 17 = .ok (.sipush 255, 3) := by decide +kernel
theorem d20 : decode yB 20 = .ok (.if_icmp (.le) 6, 3) := by decide +kernel
theorem d26 : decode yB 26 = .ok (.aload_n 2, 1) := by decide +kernel
theorem d27 : decode yB 27 = .ok (.iload_n 3, 1) := by decide +kernel
theorem d28 : decode yB 28 = .ok (.iload 6, 2) := by decide +kernel
theorem d30 : decode yB 30 = .ok (.i2b, 1) := by decide +kernel
theorem d31 : decode yB 31 = .ok (.bastore, 1) := by decide +kernel
theorem d32 : decode yB 32 = .ok (.iinc 1 1, 3) := by decide +kernel
theorem d35 : decode yB 35 = .ok (.iinc 3 1, 3) := by decide +kernel
theorem d38 : decode yB 38 = .ok (.iinc 5 1, 3) := by decide +kernel
theorem d41 : decode yB 41 = .ok (.goto (-38), 3) := by decide +kernel
theorem d44 : decode yB 44 = .ok (.iload 4, 2) := by decide +kernel
theorem d46 : decode yB 46 = .ok (.ireturn, 1) := by decide +kernel
def site : List Cond := []
def tab : Cond := tabOf yN yB 7 (some .int) site
def P (b : Addr) (A : Cell) (d : Addr) (B : Cell) (o q len : Nat) (args : Array Value) (s : State) : Prop := args = #[.ref b, .int (Int32.ofNat o), .ref d, .int (Int32.ofNat q), .int (Int32.ofNat len)] ∧ Ch b A s ∧ Arr .byte d B s ∧ b ≠ d ∧ o + len ≤ A.slots.size ∧ q + len ≤ B.slots.size ∧ ∀ i, i < len → ¬ 255 < cv A (o + i)
def E (b : Addr) (A : Cell) (d : Addr) (B : Cell) (o q len : Nat) (r : Option Value) (s u : State) : Prop := r = some (.int (Int32.ofNat len)) ∧ ∃ B', Put d B' s u ∧ Laid B B' q (q + len) (fun j => Value.int (lo8 (cv A (o + (j - q)))))
/-- no char of the range above 255: len; the places written hold each char's low byte -/
theorem law (l : Launch) (b : Addr) (A : Cell) (d : Addr) (B : Cell) (o q len : Nat) : Law l yN 5 5 0 0 yB 7 (some .int) site (P b A d B o q len) (E b A d B o q len) (copyLocs d q len) 0 0 := by
  refine Law.of_walk (plainFor_of_name (by decide +kernel)) (by decide +kernel) (by decide +kernel) (by decide) (fun _ _ h => by rw [h.1]; rfl) (fun _ U U' hal hh h => ⟨h.1, h.2.1.mv hal hh, h.2.2.1.mv hal hh, h.2.2.2⟩) (fun r U U' V V' h1 hal h2 h => ⟨h.1, h.2.elim fun B' q => ⟨B', q.1.mv h1 h2, q.2⟩⟩) ?_
  intro p e s m args below meth c s₁ X0 hexec hbytes hml hret hlk hnm hown hh0 W hP
  obtain ⟨rfl, hA, hB, hne, l1, l2, hp⟩ := hP
  have c1 : Steps p.tables e below (s₁.setTop (entryFrame m #[.ref b, .int (Int32.ofNat o), .ref d, .int (Int32.ofNat q), .int (Int32.ofNat len)] 7)) (s₁.setTop (mkF m 0 #[.val (.ref b), .val (.int (Int32.ofNat o)), .val (.ref d), .val (.int (Int32.ofNat q)), .val (.int (Int32.ofNat len)), .unset, .unset] [])) := entry rfl
  have hA0 := hA.1.mv X0.warmed.alike hh0
  have hB0 := hB.mv X0.warmed.alike hh0
  have a31 := hA.1.2.2.2
  have c2 : Steps p.tables e below (s₁.setTop (entryFrame m #[.ref b, .int (Int32.ofNat o), .ref d, .int (Int32.ofNat q), .int (Int32.ofNat len)] 7)) (s₁.setTop (mkF m 3 #[.val (.ref b), .val (.int (Int32.ofNat o)), .val (.ref d), .val (.int (Int32.ofNat q)), .val (.int (Int32.ofNat len)), .val (.int 0), .unset] [])) := c1.trans (by
    refine iconstV X0.here hexec rfl 0 (hb hbytes d0) (by decide) ?_
    refine XS.istore X0.here hexec rfl (hb hbytes d1) rfl rfl ?_
    exact Steps.refl _)
  have loop : ∀ (r i : Nat), i + r = len → ∀ (z : Slot), (z = .unset ∨ ∃ w, z = .val w ∧ w.category = 1) → ∀ (Tl : State) (Bk : Cell), Stand p l e { frames := 0, locals := 0, cells := 0, slots := 0 } s m #[.ref b, .int (Int32.ofNat o), .ref d, .int (Int32.ofNat q), .int (Int32.ofNat len)] below meth c Tl ([] ++ copyLocs d q i) 0 0 → Put d Bk s₁ Tl → Laid B Bk q (q + i) (fun j => Value.int (lo8 (cv A (o + (j - q))))) →
      Steps p.tables e below (s₁.setTop (entryFrame m #[.ref b, .int (Int32.ofNat o), .ref d, .int (Int32.ofNat q), .int (Int32.ofNat len)] 7)) (Tl.setTop (mkF m 3 #[.val (.ref b), .val (.int (Int32.ofNat (o + i))), .val (.ref d), .val (.int (Int32.ofNat (q + i))), .val (.int (Int32.ofNat len)), .val (.int (Int32.ofNat i)), z] [])) → ∃ (T' : State) (B' : Cell) (z' : Slot), Stand p l e { frames := 0, locals := 0, cells := 0, slots := 0 } s m #[.ref b, .int (Int32.ofNat o), .ref d, .int (Int32.ofNat q), .int (Int32.ofNat len)] below meth c T' ([] ++ copyLocs d q len) 0 0 ∧ Put d B' s₁ T' ∧ Laid B B' q (q + len) (fun j => Value.int (lo8 (cv A (o + (j - q))))) ∧
      Steps p.tables e below (s₁.setTop (entryFrame m #[.ref b, .int (Int32.ofNat o), .ref d, .int (Int32.ofNat q), .int (Int32.ofNat len)] 7)) (T'.setTop (mkF m 3 #[.val (.ref b), .val (.int (Int32.ofNat (o + len))), .val (.ref d), .val (.int (Int32.ofNat (q + len))), .val (.int (Int32.ofNat len)), .val (.int (Int32.ofNat len)), z'] [])) := by
    intro r
    induction r with
    | zero =>
      intro i hi z hz Tl Bk Xl pl fl cl
      have hil : i = len := by omega
      rw [hil] at Xl fl cl
      exact ⟨Tl, Bk, z, Xl, pl, fl, cl⟩
    | succ r ih =>
      intro i hi z hz Tl Bk Xl pl fl cl
      have all := X0.warmed.alike.symm.trans Xl.warmed.alike
      have hAl := hA0.keep all (pl.other hne hA0.1)
      have hBk := hB0.like all pl.1 fl.1 fl.2.1 fl.2.2.1
      have hlt : q + i < Bk.slots.size := by rw [fl.2.2.1]; omega
      have c3 : Steps p.tables e below (s₁.setTop (entryFrame m #[.ref b, .int (Int32.ofNat o), .ref d, .int (Int32.ofNat q), .int (Int32.ofNat len)] 7)) (Tl.setTop (mkF m 12 #[.val (.ref b), .val (.int (Int32.ofNat (o + i))), .val (.ref d), .val (.int (Int32.ofNat (q + i))), .val (.int (Int32.ofNat len)), .val (.int (Int32.ofNat i)), z] [.int (Int32.ofNat (o + i)), .ref b])) := cl.trans (by
        refine XS.iload Xl.here hexec rfl (hb hbytes d3) rfl ?_
        refine XS.iload Xl.here hexec rfl (hb hbytes d5) rfl ?_
        refine XS.icmpNo Xl.here hexec rfl (hb hbytes d7) rfl (ii_ge_f (lt32 (by omega) (by omega))) ?_
        refine XS.aloadN Xl.here hexec rfl (hb hbytes d10) rfl rfl ?_
        refine XS.iloadN Xl.here hexec rfl (hb hbytes d11) rfl ?_
        exact Steps.refl _)
      have c4 : Steps p.tables e below (s₁.setTop (entryFrame m #[.ref b, .int (Int32.ofNat o), .ref d, .int (Int32.ofNat q), .int (Int32.ofNat len)] 7)) (Tl.setTop (mkF m 13 #[.val (.ref b), .val (.int (Int32.ofNat (o + i))), .val (.ref d), .val (.int (Int32.ofNat (q + i))), .val (.int (Int32.ofNat len)), .val (.int (Int32.ofNat i)), z] [.int (cv A (o + i))])) := c3.trans (by
        refine Xl.aget hexec hAl rfl (hA.get (i := o + i) (by omega)) rfl rfl (hb hbytes d12) ?_
        exact Steps.refl _)
      have c5 : Steps p.tables e below (s₁.setTop (entryFrame m #[.ref b, .int (Int32.ofNat o), .ref d, .int (Int32.ofNat q), .int (Int32.ofNat len)] 7)) (Tl.setTop (mkF m 15 #[.val (.ref b), .val (.int (Int32.ofNat (o + i))), .val (.ref d), .val (.int (Int32.ofNat (q + i))), .val (.int (Int32.ofNat len)), .val (.int (Int32.ofNat i)), .val (.int (cv A (o + i)))] [])) := c4.trans (by
        refine XS.istoreS Xl.here hexec rfl (hb hbytes d13) rfl rfl hz ?_
        exact Steps.refl _)
      have c6 : Steps p.tables e below (s₁.setTop (entryFrame m #[.ref b, .int (Int32.ofNat o), .ref d, .int (Int32.ofNat q), .int (Int32.ofNat len)] 7)) (Tl.setTop (mkF m 31 #[.val (.ref b), .val (.int (Int32.ofNat (o + i))), .val (.ref d), .val (.int (Int32.ofNat (q + i))), .val (.int (Int32.ofNat len)), .val (.int (Int32.ofNat i)), .val (.int (cv A (o + i)))] [.int (lo8 (cv A (o + i))), .int (Int32.ofNat (q + i)), .ref d])) := c5.trans (by
        refine XS.iload Xl.here hexec rfl (hb hbytes d15) rfl ?_
        refine sipushV Xl.here hexec rfl 255 (hb hbytes d17) (by decide) ?_
        refine XS.icmpYes Xl.here hexec rfl (pc0 := 20) rfl (hb hbytes d20) rfl (ii_le_t (hp i (by omega))) (by decide) rfl ?_
        refine XS.aloadN Xl.here hexec rfl (hb hbytes d26) rfl rfl ?_
        refine XS.iloadN Xl.here hexec rfl (hb hbytes d27) rfl ?_
        refine XS.iload Xl.here hexec rfl (hb hbytes d28) rfl ?_
        refine i2b Xl.here hexec rfl (hb hbytes d30) rfl ?_
        exact Steps.refl _)
      obtain ⟨T7, X7, p7, st7⟩ := Xl.aput hexec hBk rfl hlt rfl (fits_lo8 (cv A (o + i))) (g := (mkF m 31 #[.val (.ref b), .val (.int (Int32.ofNat (o + i))), .val (.ref d), .val (.int (Int32.ofNat (q + i))), .val (.int (Int32.ofNat len)), .val (.int (Int32.ofNat i)), .val (.int (cv A (o + i)))] [.int (lo8 (cv A (o + i))), .int (Int32.ofNat (q + i)), .ref d])) rfl (rest := []) rfl (hb hbytes d31)
      have c8 : Steps p.tables e below (s₁.setTop (entryFrame m #[.ref b, .int (Int32.ofNat o), .ref d, .int (Int32.ofNat q), .int (Int32.ofNat len)] 7)) (T7.setTop (mkF m 32 #[.val (.ref b), .val (.int (Int32.ofNat (o + i))), .val (.ref d), .val (.int (Int32.ofNat (q + i))), .val (.int (Int32.ofNat len)), .val (.int (Int32.ofNat i)), .val (.int (cv A (o + i)))] [])) := c6.trans (st7 _ (Steps.refl _))
      have c9 : Steps p.tables e below (s₁.setTop (entryFrame m #[.ref b, .int (Int32.ofNat o), .ref d, .int (Int32.ofNat q), .int (Int32.ofNat len)] 7)) (T7.setTop (mkF m 3 #[.val (.ref b), .val (.int (Int32.ofNat (o + i) + 1)), .val (.ref d), .val (.int (Int32.ofNat (q + i) + 1)), .val (.int (Int32.ofNat len)), .val (.int (Int32.ofNat i + 1)), .val (.int (cv A (o + i)))] [])) := c8.trans (by
        refine iincV X7.here hexec rfl 1 (hb hbytes d32) (by decide) rfl rfl ?_
        refine iincV X7.here hexec rfl 1 (hb hbytes d35) (by decide) rfl rfl ?_
        refine iincV X7.here hexec rfl 1 (hb hbytes d38) (by decide) rfl rfl ?_
        refine XS.goto X7.here hexec rfl (pc0 := 41) rfl (hb hbytes d41) (by decide) rfl ?_
        exact Steps.refl _)
      have c10 : Steps p.tables e below (s₁.setTop (entryFrame m #[.ref b, .int (Int32.ofNat o), .ref d, .int (Int32.ofNat q), .int (Int32.ofNat len)] 7)) (T7.setTop (mkF m 3 #[.val (.ref b), .val (.int (Int32.ofNat (o + (i + 1)))), .val (.ref d), .val (.int (Int32.ofNat (q + (i + 1)))), .val (.int (Int32.ofNat len)), .val (.int (Int32.ofNat (i + 1))), .val (.int (cv A (o + i)))] [])) := by
        have := c9
        rw [succ32, succ32, succ32] at this
        exact this
      exact ih (i + 1) (by omega) _ (Or.inr ⟨_, rfl, rfl⟩) T7 _ (by rw [copyLocs_step, ← List.append_assoc]; exact X7) (pl.trans p7) (fl.step (by omega) hlt (by simp)) c10
  obtain ⟨T9, B9, z9, X9, p9, f9, g9⟩ := loop len 0 (by omega) .unset (Or.inl rfl) s₁ B (by simpa [copyLocs] using X0) ⟨hB0.1, fun _ _ => rfl, rfl⟩ (Laid.zero _ _ _) c2
  have c11 : Steps p.tables e below (s₁.setTop (entryFrame m #[.ref b, .int (Int32.ofNat o), .ref d, .int (Int32.ofNat q), .int (Int32.ofNat len)] 7)) (T9.setTop (mkF m 46 #[.val (.ref b), .val (.int (Int32.ofNat (o + len))), .val (.ref d), .val (.int (Int32.ofNat (q + len))), .val (.int (Int32.ofNat len)), .val (.int (Int32.ofNat len)), z9] [.int (Int32.ofNat len)])) := g9.trans (by
    refine XS.iload X9.here hexec rfl (hb hbytes d3) rfl ?_
    refine XS.iload X9.here hexec rfl (hb hbytes d5) rfl ?_
    refine XS.icmpYes X9.here hexec rfl (pc0 := 7) rfl (hb hbytes d7) rfl (ii_ge_t (nlt32 (by omega) (Nat.le_refl _))) (by decide) rfl ?_
    refine XS.iload X9.here hexec rfl (hb hbytes d44) rfl ?_
    exact Steps.refl _)
  exact ⟨T9, some (.int (Int32.ofNat len)), _, _, _, X9, by simp, rfl, rfl, (fun h => by cases h), ⟨rfl, B9, p9.from hh0, f9⟩, fun fs hl => c11.trans (X9.ireturnOut hexec hret rfl (Or.inl rfl) (hb hbytes d46) hl)⟩
end Cmp5
namespace Cmp3
def yN : MethodName := ⟨"java/lang/StringUTF16", "compress", "([CII)[B"⟩
abbrev yB : ByteArray := jdk_52_method_16_code
theorem d0 : decode yB 0 = .ok (.iload_n 2, 1) := by decide +kernel
theorem d1 : decode yB 1 = .ok (.newarray .byte, 2) := by decide +kernel
theorem d3 : decode yB 3 = .ok (.astore_n 3, 1) := by decide +kernel
theorem d4 : decode yB 4 = .ok (.aload_n 0, 1) := by decide +kernel
theorem d5 : decode yB 5 = .ok (.iload_n 1, 1) := by decide +kernel
theorem d6 : decode yB 6 = .ok (.aload_n 3, 1) := by decide +kernel
theorem d7 : decode yB 7 = .ok (.iconst 0, 1) := by decide +kernel
theorem d8 : decode yB 8 = .ok (.iload_n 2, 1) := by decide +kernel
theorem d9 : decode yB 9 = .ok (.invokestatic 115, 3) := by decide +kernel
theorem d12 : decode yB 12 = .ok (.istore 4, 2) := by decide +kernel
theorem d14 : decode yB 14 = .ok (.iload 4, 2) := by decide +kernel
theorem d16 : decode yB 16 = .ok (.iload_n 2, 1) := by decide +kernel
theorem d17 : decode yB 17 = .ok (.if_icmp (.eq) 40, 3) := by decide +kernel
theorem d57 : decode yB 57 = .ok (.aload_n 3, 1) := by decide +kernel
theorem d58 : decode yB 58 = .ok (.areturn, 1) := by decide +kernel
def site : List Cond := [.arrayClass .byte, Cmp5.tab] ++ staticW U16 115 Cmp5.yN
def tab : Cond := tabOf yN yB 6 (some (.array .byte)) site
def P (b : Addr) (A : Cell) (o len : Nat) (args : Array Value) (s : State) : Prop := args = #[.ref b, .int (Int32.ofNat o), .int (Int32.ofNat len)] ∧ Ch b A s ∧ o + len ≤ A.slots.size ∧ len ≤ 536870912 ∧ ∀ i, i < len → ¬ 255 < cv A (o + i)
def E (b : Addr) (A : Cell) (o len : Nat) (r : Option Value) (s u : State) : Prop := NewArr .byte "[B" len (fun j => .int (lo8 (cv A (o + j)))) r s u ∧ u.heap.size = s.heap.size + 1
/-- no char of the range above 255: a new byte[] of their low bytes -/
theorem law (l : Launch) (b : Addr) (A : Cell) (o len : Nat) : Law l yN 3 3 1 18 yB 6 (some (.array .byte)) site (P b A o len) (E b A o len) [] 1 len := by
  refine Law.of_walk (plainFor_of_name (by decide +kernel)) (by decide +kernel) (by decide +kernel) (by decide) (fun _ _ h => by rw [h.1]; rfl) (fun _ U U' hal hh h => ⟨h.1, h.2.1.mv hal hh, h.2.2⟩) (fun r U U' V V' h1 hal h2 h => ⟨NewArr.mv r U U' V V' h1 hal h2 h.1, by rw [h1, h2]; exact h.2⟩) ?_
  intro p e s m args below meth c s₁ X0 hexec hbytes hml hret hlk hnm hown hh0 W hP
  obtain ⟨rfl, hA, l1, l2, hp⟩ := hP
  have a31 := hA.1.2.2.2
  have c1 : Steps p.tables e below (s₁.setTop (entryFrame m #[.ref b, .int (Int32.ofNat o), .int (Int32.ofNat len)] 6)) (s₁.setTop (mkF m 0 #[.val (.ref b), .val (.int (Int32.ofNat o)), .val (.int (Int32.ofNat len)), .unset, .unset, .unset] [])) := entry rfl
  have c2 : Steps p.tables e below (s₁.setTop (entryFrame m #[.ref b, .int (Int32.ofNat o), .int (Int32.ofNat len)] 6)) (s₁.setTop (mkF m 1 #[.val (.ref b), .val (.int (Int32.ofNat o)), .val (.int (Int32.ofNat len)), .unset, .unset, .unset] [.int (Int32.ofNat len)])) := c1.trans (by
    refine XS.iloadN X0.here hexec rfl (hb hbytes d0) rfl ?_
    exact Steps.refl _)
  obtain ⟨T3, B3, X3, ba3, bs3, bv3, bh3, bf3, st3⟩ := X0.anew hexec (atype := .byte) (wk W (.arrayClass .byte)) rfl (by show len * 1 ≤ _; omega) (by omega) (g := (mkF m 1 #[.val (.ref b), .val (.int (Int32.ofNat o)), .val (.int (Int32.ofNat len)), .unset, .unset, .unset] [.int (Int32.ofNat len)])) rfl (hb hbytes d1) (rest := []) rfl (Nat.le_refl _) (by show 0 + len ≤ len; omega)
  rw [hh0] at ba3 st3
  have kp3 : XT.Kept s T3 := (XT.Kept.of_eq hh0).push bh3
  have hA3 := hA.keep X3.warmed.alike (kp3 _ _ hA.1.1)
  have hne : b ≠ s.heap.size := hA.1.ne
  have c4 : Steps p.tables e below (s₁.setTop (entryFrame m #[.ref b, .int (Int32.ofNat o), .int (Int32.ofNat len)] 6)) (T3.setTop (mkF m 3 #[.val (.ref b), .val (.int (Int32.ofNat o)), .val (.int (Int32.ofNat len)), .unset, .unset, .unset] [.ref s.heap.size])) := c2.trans (st3 _ (Steps.refl _))
  have c5 : Steps p.tables e below (s₁.setTop (entryFrame m #[.ref b, .int (Int32.ofNat o), .int (Int32.ofNat len)] 6)) (T3.setTop (mkF m 9 #[.val (.ref b), .val (.int (Int32.ofNat o)), .val (.int (Int32.ofNat len)), .val (.ref s.heap.size), .unset, .unset] [.int (Int32.ofNat len), .int 0, .ref s.heap.size, .int (Int32.ofNat o), .ref b])) := c4.trans (by
    refine XS.astoreN X3.here hexec rfl (hb hbytes d3) rfl rfl rfl ?_
    refine XS.aloadN X3.here hexec rfl (hb hbytes d4) rfl rfl ?_
    refine XS.iloadN X3.here hexec rfl (hb hbytes d5) rfl ?_
    refine XS.aloadN X3.here hexec rfl (hb hbytes d6) rfl rfl ?_
    refine iconstV X3.here hexec rfl 0 (hb hbytes d7) (by decide) ?_
    refine XS.iloadN X3.here hexec rfl (hb hbytes d8) rfl ?_
    exact Steps.refl _)
  obtain ⟨v6, T6, X6, E6, g6⟩ := X3.callS hexec (Cmp5.law l b A s.heap.size B3 o 0 len) hown (wks W (staticW U16 115 Cmp5.yN)) (wk W Cmp5.tab) (W := 0) (Nat.le_of_ble_eq_true rfl) (Nat.le_of_ble_eq_true rfl) (Nat.le_refl _) (by show 0 + len + 0 ≤ len; omega) (g := (mkF m 9 #[.val (.ref b), .val (.int (Int32.ofNat o)), .val (.int (Int32.ofNat len)), .val (.ref s.heap.size), .unset, .unset] [.int (Int32.ofNat len), .int (Int32.ofNat 0), .ref s.heap.size, .int (Int32.ofNat o), .ref b])) rfl (by rw [hml]; rfl) c5 (argsL := [.ref b, .int (Int32.ofNat o), .ref s.heap.size, .int (Int32.ofNat 0), .int (Int32.ofNat len)]) (rest := []) rfl rfl (by show 2 * 0 + 0 ≤ _; decide) (hb hbytes d9) (⟨rfl, hA3, ba3, hne, l1, by rw [bs3]; simp, hp⟩)
  obtain ⟨rfl, B6, p6, f6⟩ := E6
  have c7 : Steps p.tables e below (s₁.setTop (entryFrame m #[.ref b, .int (Int32.ofNat o), .int (Int32.ofNat len)] 6)) (T6.setTop (mkF m 12 #[.val (.ref b), .val (.int (Int32.ofNat o)), .val (.int (Int32.ofNat len)), .val (.ref s.heap.size), .unset, .unset] [.int (Int32.ofNat len)])) := g6
  have c8 : Steps p.tables e below (s₁.setTop (entryFrame m #[.ref b, .int (Int32.ofNat o), .int (Int32.ofNat len)] 6)) (T6.setTop (mkF m 58 #[.val (.ref b), .val (.int (Int32.ofNat o)), .val (.int (Int32.ofNat len)), .val (.ref s.heap.size), .val (.int (Int32.ofNat len)), .unset] [.ref s.heap.size])) := c7.trans (by
    refine XS.istore X6.here hexec rfl (hb hbytes d12) rfl rfl ?_
    refine XS.iload X6.here hexec rfl (hb hbytes d14) rfl ?_
    refine XS.iloadN X6.here hexec rfl (hb hbytes d16) rfl ?_
    refine XS.icmpYes X6.here hexec rfl (pc0 := 17) rfl (hb hbytes d17) rfl (ii_eq_t rfl) (by decide) rfl ?_
    refine XS.aloadN X6.here hexec rfl (hb hbytes d57) rfl rfl ?_
    exact Steps.refl _)
  have X8 := X6.wide (L' := []) (cells' := 1) (slots' := len) (fun x hx hlt => by
    simp only [List.nil_append, copyLocs, List.mem_map, List.mem_range] at hx
    obtain ⟨i, -, rfl⟩ := hx
    exact absurd hlt (Nat.lt_irrefl _)) (Nat.le_refl _) (by omega)
  exact ⟨T6, some (.ref s.heap.size), _, _, _, X8, rfl, rfl, rfl, (fun h => by cases h), ⟨⟨rfl, B6, ba3.like (X3.warmed.alike.symm.trans X6.warmed.alike) p6.1 f6.1 f6.2.1 f6.2.2.1, f6.2.1.trans bv3, by rw [X6.warmed.alike.findClass, f6.1]; exact bf3, by rw [f6.2.2.1, bs3]; simp, fun j hj => by rw [f6.2.2.2 j, if_pos (by omega)]; rfl, kp3.put p6 (Nat.le_refl _)⟩, by rw [p6.2.2, bh3, hh0]; simp⟩, fun fs hl => c8.trans (X8.areturnOut hexec rfl hret rfl (hb hbytes d58) hl)⟩
end Cmp3
namespace CodL
def yN : MethodName := ⟨"java/lang/StringUTF16", "coderFromArrayLen", "([BI)B"⟩
abbrev yB : ByteArray := jdk_52_method_15_code
theorem d0 : decode yB 0 = .ok (.iload_n 1, 1) := by decide +kernel
theorem d1 : decode yB 1 = .ok (.aload_n 0, 1) := by decide +kernel
theorem d2 : decode yB 2 = .ok (.arraylength, 1) := by decide +kernel
theorem d3 : decode yB 3 = .ok (.isub, 1) := by decide +kernel
theorem d4 : decode yB 4 = .ok (.bipush 31, 2) := by decide +kernel
theorem d6 : decode yB 6 = .ok (.iushr, 1) := by decide +kernel
theorem d7 : decode yB 7 = .ok (.i2b, 1) := by decide +kernel
theorem d8 : decode yB 8 = .ok (.ireturn, 1) := by decide +kernel
def site : List Cond := []
def tab : Cond := tabOf yN yB 2 (some .byte) site
def P (d : Addr) (B : Cell) (args : Array Value) (s : State) : Prop := args = #[.ref d, .int (Int32.ofNat B.slots.size)] ∧ Arr .byte d B s
def E (r : Option Value) (s u : State) : Prop := XT.PureE (some (.int 0)) r s u
/-- an array as long as the number of chars: LATIN1 -/
theorem law (l : Launch) (d : Addr) (B : Cell) : Law l yN 2 2 0 0 yB 2 (some .byte) site (P d B) E [] 0 0 := by
  refine Law.of_walk (plainFor_of_name (by decide +kernel)) (by decide +kernel) (by decide +kernel) (by decide) (fun _ _ h => by rw [h.1]; rfl) (fun _ U U' hal hh h => ⟨h.1, h.2.mv hal hh⟩) (fun r U U' V V' h1 hal h2 h => XT.PureE.mv r U U' V V' h1 hal h2 h) ?_
  intro p e s m args below meth c s₁ X0 hexec hbytes hml hret hlk hnm hown hh0 W hP
  obtain ⟨rfl, hB⟩ := hP
  have hB0 := hB.mv X0.warmed.alike hh0
  have c1 : Steps p.tables e below (s₁.setTop (entryFrame m #[.ref d, .int (Int32.ofNat B.slots.size)] 2)) (s₁.setTop (mkF m 0 #[.val (.ref d), .val (.int (Int32.ofNat B.slots.size))] [])) := entry rfl
  have c2 : Steps p.tables e below (s₁.setTop (entryFrame m #[.ref d, .int (Int32.ofNat B.slots.size)] 2)) (s₁.setTop (mkF m 2 #[.val (.ref d), .val (.int (Int32.ofNat B.slots.size))] [.ref d, .int (Int32.ofNat B.slots.size)])) := c1.trans (by
    refine XS.iloadN X0.here hexec rfl (hb hbytes d0) rfl ?_
    refine XS.aloadN X0.here hexec rfl (hb hbytes d1) rfl rfl ?_
    exact Steps.refl _)
  have c3 : Steps p.tables e below (s₁.setTop (entryFrame m #[.ref d, .int (Int32.ofNat B.slots.size)] 2)) (s₁.setTop (mkF m 8 #[.val (.ref d), .val (.int (Int32.ofNat B.slots.size))] [.int (lo8 (ushr (Int32.ofNat B.slots.size - Int32.ofNat B.slots.size) 31))])) := c2.trans (by
    refine X0.alen hexec hB0 rfl rfl (hb hbytes d2) ?_
    refine XS.isub X0.here hexec rfl (hb hbytes d3) rfl ?_
    refine bipushV X0.here hexec rfl 31 (hb hbytes d4) (by decide) ?_
    refine iushr X0.here hexec rfl (hb hbytes d6) rfl ?_
    refine i2b X0.here hexec rfl (hb hbytes d7) rfl ?_
    exact Steps.refl _)
  have e0 : lo8 (ushr (Int32.ofNat B.slots.size - Int32.ofNat B.slots.size) 31) = 0 := by rw [Int32.sub_self]; decide
  rw [e0] at c3
  exact ⟨s₁, some (.int 0), _, _, _, X0, rfl, rfl, rfl, (fun h => by cases h), ⟨rfl, hh0⟩, fun fs hl => c3.trans (X0.ireturnOut hexec hret rfl (Or.inr (Or.inr (Or.inl rfl))) (hb hbytes d8) hl)⟩
end CodL
/-- the String at a is Latin-1 over a new byte[] (the heap's one new cell): the low bytes of the len chars of A from o on; every cell but a is kept -/
def Got (a : Addr) (D : Cell) (fV fC : Field) (A : Cell) (o len : Nat) (r : Option Value) (s u : State) : Prop := r = none ∧ ∃ D' V : Cell, Blank "java/lang/String" a D' u ∧ Same D D' [fV.slot, fC.slot] ∧ D'.slots[fV.slot]? = some (.ref s.heap.size) ∧ D'.slots[fC.slot]? = some (.int 0) ∧ Arr .byte s.heap.size V u ∧ V.vm = .none ∧ u.vm.findClass "[B" = some V.cls ∧ V.slots.size = len ∧ (∀ j, j < len → V.slots[j]? = some (.int (lo8 (cv A (o + j))))) ∧ (∀ (y : Addr) (c : Cell), y ≠ a → s.heap[y]? = some c → u.heap[y]? = some c) ∧ u.heap.size = s.heap.size + 1
theorem Got.mv {a : Addr} {D A : Cell} {fV fC : Field} {o len : Nat} : ∀ r (U U' V V' : State), U'.heap = U.heap → V.vm.Alike V'.vm → V'.heap = V.heap → Got a D fV fC A o len r U V → Got a D fV fC A o len r U' V' :=
  fun r U U' V V' h1 hal h2 ⟨e0, D', X, a1, a2, a3, a4, a5, a6, a7, a8, a9, a10, a11⟩ => ⟨e0, D', X, a1.mv hal h2, a2, by rw [h1]; exact a3, a4, by rw [h1]; exact a5.mv hal h2, a6, by rw [hal.findClass]; exact a7, a8, a9, by rw [h1, h2]; exact a10, by rw [h1, h2]; exact a11⟩
namespace New4
def yN : MethodName := ⟨"java/lang/String", "<init>", "([CIILjava/lang/Void;)V"⟩
abbrev yB : ByteArray := jdk_42_method_149_code
theorem d0 : decode yB 0 = .ok (.aload_n 0, 1) := by decide +kernel
theorem d1 : decode yB 1 = .ok (.invokespecial 1, 3) := by decide +kernel
theorem d4 : decode yB 4 = .ok (.iload_n 3, 1) := by decide +kernel
theorem d5 : decode yB 5 = .ok (.ifCond (.ne) 22, 3) := by decide +kernel
theorem d27 : decode yB 27 = .ok (.getstatic 38, 3) := by decide +kernel
theorem d30 : decode yB 30 = .ok (.ifCond (.eq) 28, 3) := by decide +kernel
theorem d33 : decode yB 33 = .ok (.aload_n 1, 1) := by decide +kernel
theorem d34 : decode yB 34 = .ok (.iload_n 2, 1) := by decide +kernel
theorem d35 : decode yB 35 = .ok (.iload_n 3, 1) := by decide +kernel
theorem d36 : decode yB 36 = .ok (.invokestatic 177, 3) := by decide +kernel
theorem d39 : decode yB 39 = .ok (.astore 5, 2) := by decide +kernel
theorem d41 : decode yB 41 = .ok (.aload_n 0, 1) := by decide +kernel
theorem d42 : decode yB 42 = .ok (.aload 5, 2) := by decide +kernel
theorem d44 : decode yB 44 = .ok (.iload_n 3, 1) := by decide +kernel
theorem d45 : decode yB 45 = .ok (.invokestatic 47, 3) := by decide +kernel
theorem d48 : decode yB 48 = .ok (.putfield 15, 3) := by decide +kernel
theorem d51 : decode yB 51 = .ok (.aload_n 0, 1) := by decide +kernel
theorem d52 : decode yB 52 = .ok (.aload 5, 2) := by decide +kernel
theorem d54 : decode yB 54 = .ok (.putfield 9, 3) := by decide +kernel
theorem d57 : decode yB 57 = .ok (.return_, 1) := by decide +kernel
def site : List Cond := [.fieldLink "java/lang/String" 38 "java/lang/String" "COMPACT_STRINGS" "Z", Cmp3.tab, CodL.tab, .laysFinal "java/lang/String" "java/lang/String" "value" "[B", .fieldLink "java/lang/String" 9 "java/lang/String" "value" "[B", .laysFinal "java/lang/String" "java/lang/String" "coder" "B", .fieldLink "java/lang/String" 15 "java/lang/String" "coder" "B"] ++ objW "java/lang/String" 1 ++ staticW "java/lang/String" 177 Cmp3.yN ++ staticW "java/lang/String" 47 CodL.yN
def tab : Cond := tabOf yN yB 6 none site
def P (a : Addr) (D : Cell) (fV fC : Field) (b : Addr) (A : Cell) (z : Int32) (o len : Nat) (args : Array Value) (s : State) : Prop := args = #[.ref a, .ref b, .int (Int32.ofNat o), .int (Int32.ofNat len), .null] ∧ Blank "java/lang/String" a D s ∧ Found "java/lang/String" "value" "[B" fV s ∧ Found "java/lang/String" "coder" "B" fC s ∧ Ch b A s ∧ StaticIs s "java/lang/String" "COMPACT_STRINGS" "Z" (.int z) ∧ ¬ z = 0 ∧ 0 < len ∧ o + len ≤ A.slots.size ∧ len ≤ 536870912 ∧ ∀ i, i < len → ¬ 255 < cv A (o + i)
def E (a : Addr) (D : Cell) (fV fC : Field) (A : Cell) (o len : Nat) (r : Option Value) (s u : State) : Prop := Got a D fV fC A o len r s u
/-- len > 0, no char of the range above 255: a Latin-1 String of their low bytes -/
theorem law (l : Launch) (a : Addr) (D : Cell) (fV fC : Field) (b : Addr) (A : Cell) (z : Int32) (o len : Nat) : Law l yN 5 4 2 35 yB 6 none site (P a D fV fC b A z o len) (E a D fV fC A o len) [⟨a, fC.slot⟩, ⟨a, fV.slot⟩] 1 len := by
  refine Law.of_walk (plainFor_of_name (by decide +kernel)) (by decide +kernel) (by decide +kernel) (by decide) (fun _ _ h => by rw [h.1]; rfl) (fun _ U U' hal hh h => ⟨h.1, h.2.1.mv hal hh, h.2.2.1.al hal, h.2.2.2.1.al hal, h.2.2.2.2.1.mv hal hh, h.2.2.2.2.2.1.there hal hh, h.2.2.2.2.2.2⟩) (fun r U U' V V' h1 hal h2 h => Got.mv r U U' V V' h1 hal h2 h) ?_
  intro p e s m args below meth c s₁ X0 hexec hbytes hml hret hlk hnm hown hh0 W hP
  obtain ⟨rfl, hB, f1, f2, hA, s1, hz, l0, l1, l2, hp⟩ := hP
  have a31 := hA.1.2.2.2
  have c1 : Steps p.tables e below (s₁.setTop (entryFrame m #[.ref a, .ref b, .int (Int32.ofNat o), .int (Int32.ofNat len), .null] 6)) (s₁.setTop (mkF m 0 #[.val (.ref a), .val (.ref b), .val (.int (Int32.ofNat o)), .val (.int (Int32.ofNat len)), .val .null, .unset] [])) := entry rfl
  have c2 : Steps p.tables e below (s₁.setTop (entryFrame m #[.ref a, .ref b, .int (Int32.ofNat o), .int (Int32.ofNat len), .null] 6)) (s₁.setTop (mkF m 1 #[.val (.ref a), .val (.ref b), .val (.int (Int32.ofNat o)), .val (.int (Int32.ofNat len)), .val .null, .unset] [.ref a])) := c1.trans (by
    refine XS.aloadN X0.here hexec rfl (hb hbytes d0) rfl rfl ?_
    exact Steps.refl _)
  obtain ⟨T3, X3, q3, st3⟩ := X0.oinit hexec hown (wks W (objW "java/lang/String" 1)) (g := (mkF m 1 #[.val (.ref a), .val (.ref b), .val (.int (Int32.ofNat o)), .val (.int (Int32.ofNat len)), .val .null, .unset] [.ref a])) rfl (by rw [hml]; rfl) (rest := []) rfl (hb hbytes d1) (W := 0) (by show 2 * 0 + 0 ≤ _; decide) (Nat.le_of_ble_eq_true rfl) (Nat.le_of_ble_eq_true rfl)
  have hh3 := q3.trans hh0
  have c4 : Steps p.tables e below (s₁.setTop (entryFrame m #[.ref a, .ref b, .int (Int32.ofNat o), .int (Int32.ofNat len), .null] 6)) (T3.setTop (mkF m 27 #[.val (.ref a), .val (.ref b), .val (.int (Int32.ofNat o)), .val (.int (Int32.ofNat len)), .val .null, .unset] [])) := (c2.trans (st3 _ (Steps.refl _))).trans (by
    refine XS.iloadN X3.here hexec rfl (hb hbytes d4) rfl ?_
    refine XS.ifYes X3.here hexec rfl (pc0 := 5) rfl (hb hbytes d5) rfl (i0_ne_t (nz32 (by omega) l0)) (by decide) rfl ?_
    exact Steps.refl _)
  obtain ⟨T5, X5, q5, st5⟩ := X3.sget hexec hown (wk W (.fieldLink "java/lang/String" 38 "java/lang/String" "COMPACT_STRINGS" "Z")) s1 (fun _ _ h => by rw [hh3]; exact h) (g := (mkF m 27 #[.val (.ref a), .val (.ref b), .val (.int (Int32.ofNat o)), .val (.int (Int32.ofNat len)), .val .null, .unset] [])) rfl (hb hbytes d27)
  have hh5 := q5.trans hh3
  have c6 : Steps p.tables e below (s₁.setTop (entryFrame m #[.ref a, .ref b, .int (Int32.ofNat o), .int (Int32.ofNat len), .null] 6)) (T5.setTop (mkF m 30 #[.val (.ref a), .val (.ref b), .val (.int (Int32.ofNat o)), .val (.int (Int32.ofNat len)), .val .null, .unset] [.int z])) := c4.trans (st5 _ (Steps.refl _))
  have c7 : Steps p.tables e below (s₁.setTop (entryFrame m #[.ref a, .ref b, .int (Int32.ofNat o), .int (Int32.ofNat len), .null] 6)) (T5.setTop (mkF m 36 #[.val (.ref a), .val (.ref b), .val (.int (Int32.ofNat o)), .val (.int (Int32.ofNat len)), .val .null, .unset] [.int (Int32.ofNat len), .int (Int32.ofNat o), .ref b])) := c6.trans (by
    refine XS.ifNo X5.here hexec rfl (hb hbytes d30) rfl (i0_eq_f hz) ?_
    refine XS.aloadN X5.here hexec rfl (hb hbytes d33) rfl rfl ?_
    refine XS.iloadN X5.here hexec rfl (hb hbytes d34) rfl ?_
    refine XS.iloadN X5.here hexec rfl (hb hbytes d35) rfl ?_
    exact Steps.refl _)
  obtain ⟨v8, T8, X8, E8, g8⟩ := X5.callS hexec (Cmp3.law l b A o len) hown (wks W (staticW "java/lang/String" 177 Cmp3.yN)) (wk W Cmp3.tab) (W := 0) (Nat.le_of_ble_eq_true rfl) (Nat.le_of_ble_eq_true rfl) (Nat.le_refl _) (by show 0 + len ≤ len; omega) (g := (mkF m 36 #[.val (.ref a), .val (.ref b), .val (.int (Int32.ofNat o)), .val (.int (Int32.ofNat len)), .val .null, .unset] [.int (Int32.ofNat len), .int (Int32.ofNat o), .ref b])) rfl (by rw [hml]; rfl) c7 (argsL := [.ref b, .int (Int32.ofNat o), .int (Int32.ofNat len)]) (rest := []) rfl rfl (by show 2 * 0 + 0 ≤ _; decide) (hb hbytes d36) (⟨rfl, hA.mv X5.warmed.alike hh5, l1, l2, hp⟩)
  obtain ⟨e8, z8⟩ := E8
  obtain ⟨rfl, N, n1, n2, n3, n4, n5, n6⟩ := NewArr.mv _ T5 s _ _ hh5.symm (Vm.Alike.refl _) rfl e8
  rw [hh5] at z8
  have hB1 := hB.keep X8.warmed.alike (n6 _ _ hB.1)
  have hne : s.heap.size ≠ a := (Nat.ne_of_lt (Array.getElem?_eq_some_iff.mp hB.1).1).symm
  have c9 : Steps p.tables e below (s₁.setTop (entryFrame m #[.ref a, .ref b, .int (Int32.ofNat o), .int (Int32.ofNat len), .null] 6)) (T8.setTop (mkF m 39 #[.val (.ref a), .val (.ref b), .val (.int (Int32.ofNat o)), .val (.int (Int32.ofNat len)), .val .null, .unset] [.ref s.heap.size])) := g8
  have c10 : Steps p.tables e below (s₁.setTop (entryFrame m #[.ref a, .ref b, .int (Int32.ofNat o), .int (Int32.ofNat len), .null] 6)) (T8.setTop (mkF m 45 #[.val (.ref a), .val (.ref b), .val (.int (Int32.ofNat o)), .val (.int (Int32.ofNat len)), .val .null, .val (.ref s.heap.size)] [.int (Int32.ofNat N.slots.size), .ref s.heap.size, .ref a])) := by
    have hc : Steps p.tables e below (s₁.setTop (entryFrame m #[.ref a, .ref b, .int (Int32.ofNat o), .int (Int32.ofNat len), .null] 6)) (T8.setTop (mkF m 45 #[.val (.ref a), .val (.ref b), .val (.int (Int32.ofNat o)), .val (.int (Int32.ofNat len)), .val .null, .val (.ref s.heap.size)] [.int (Int32.ofNat len), .ref s.heap.size, .ref a])) := c9.trans (by
      refine XS.astore X8.here hexec rfl (hb hbytes d39) rfl rfl rfl ?_
      refine XS.aloadN X8.here hexec rfl (hb hbytes d41) rfl rfl ?_
      refine XS.aload X8.here hexec rfl (hb hbytes d42) rfl rfl ?_
      refine XS.iloadN X8.here hexec rfl (hb hbytes d44) rfl ?_
      exact Steps.refl _)
    rw [n4]; exact hc
  obtain ⟨v11, T11, X11, E11, g11⟩ := X8.callS hexec (CodL.law l s.heap.size N) hown (wks W (staticW "java/lang/String" 47 CodL.yN)) (wk W CodL.tab) (W := 1) (Nat.le_of_ble_eq_true rfl) (Nat.le_of_ble_eq_true rfl) (Nat.le_refl _) (by show 0 + len + 0 ≤ len; omega) (g := (mkF m 45 #[.val (.ref a), .val (.ref b), .val (.int (Int32.ofNat o)), .val (.int (Int32.ofNat len)), .val .null, .val (.ref s.heap.size)] [.int (Int32.ofNat N.slots.size), .ref s.heap.size, .ref a])) rfl (by rw [hml]; rfl) c10 (argsL := [.ref s.heap.size, .int (Int32.ofNat N.slots.size)]) (rest := [.ref a]) rfl rfl (by show 2 * 0 + (1 + 0) ≤ _; decide) (hb hbytes d45) (⟨rfl, n1⟩)
  obtain ⟨rfl, q11⟩ := E11
  have hB11 := hB1.mv (X8.warmed.alike.symm.trans X11.warmed.alike) q11
  have c12 : Steps p.tables e below (s₁.setTop (entryFrame m #[.ref a, .ref b, .int (Int32.ofNat o), .int (Int32.ofNat len), .null] 6)) (T11.setTop (mkF m 48 #[.val (.ref a), .val (.ref b), .val (.int (Int32.ofNat o)), .val (.int (Int32.ofNat len)), .val .null, .val (.ref s.heap.size)] [.int 0, .ref a])) := g11
  obtain ⟨T13, X13, p13, bl13, sl13, st13⟩ := X11.finit hexec hown (wk W (.fieldLink "java/lang/String" 15 "java/lang/String" "coder" "B")) (Or.inr ⟨_, (wk W (.laysFinal "java/lang/String" "java/lang/String" "coder" "B"))⟩) (Or.inl ⟨rfl, hnm⟩) f2 (Or.inl rfl) hB11 (t := .byte) (by decide +kernel) rfl (g := (mkF m 48 #[.val (.ref a), .val (.ref b), .val (.int (Int32.ofNat o)), .val (.int (Int32.ofNat len)), .val .null, .val (.ref s.heap.size)] [.int 0, .ref a])) rfl (rest := []) rfl (hb hbytes d48)
  have c14 : Steps p.tables e below (s₁.setTop (entryFrame m #[.ref a, .ref b, .int (Int32.ofNat o), .int (Int32.ofNat len), .null] 6)) (T13.setTop (mkF m 54 #[.val (.ref a), .val (.ref b), .val (.int (Int32.ofNat o)), .val (.int (Int32.ofNat len)), .val .null, .val (.ref s.heap.size)] [.ref s.heap.size, .ref a])) := (c12.trans (st13 _ (Steps.refl _))).trans (by
    refine XS.aloadN X13.here hexec rfl (hb hbytes d51) rfl rfl ?_
    refine XS.aload X13.here hexec rfl (hb hbytes d52) rfl rfl ?_
    exact Steps.refl _)
  obtain ⟨T15, X15, p15, bl15, sl15, st15⟩ := X13.finit hexec hown (wk W (.fieldLink "java/lang/String" 9 "java/lang/String" "value" "[B")) (Or.inr ⟨_, (wk W (.laysFinal "java/lang/String" "java/lang/String" "value" "[B"))⟩) (Or.inl ⟨rfl, hnm⟩) f1 (Or.inl rfl) bl13 (t := (.array .byte)) (by decide +kernel) rfl (g := (mkF m 54 #[.val (.ref a), .val (.ref b), .val (.int (Int32.ofNat o)), .val (.int (Int32.ofNat len)), .val .null, .val (.ref s.heap.size)] [.ref s.heap.size, .ref a])) rfl (rest := []) rfl (hb hbytes d54)
  have c16 : Steps p.tables e below (s₁.setTop (entryFrame m #[.ref a, .ref b, .int (Int32.ofNat o), .int (Int32.ofNat len), .null] 6)) (T15.setTop (mkF m 57 #[.val (.ref a), .val (.ref b), .val (.int (Int32.ofNat o)), .val (.int (Int32.ofNat len)), .val .null, .val (.ref s.heap.size)] [])) := c14.trans (st15 _ (Steps.refl _))
  have ap := apart (Or.inr ⟨_, (wk W (.laysFinal "java/lang/String" "java/lang/String" "value" "[B"))⟩) (Or.inr ⟨_, (wk W (.laysFinal "java/lang/String" "java/lang/String" "coder" "B"))⟩) f1 f2 (t₁ := .array .byte) (t₂ := .byte) (by decide +kernel) (by decide +kernel) (by decide)
  have al := X8.warmed.alike.symm.trans X15.warmed.alike
  have n7 : T11.heap[s.heap.size]? = some N := by rw [q11]; exact n1.1
  exact ⟨T15, none, _, _, _, X15, by simp, rfl, by omega, (fun _ => rfl), ⟨rfl, _, N, bl15, ((Same.refl D _).set _ (by simp)).set _ (by simp), sl15, (Cell.slots_setSlot_ne _ ap).trans sl13, n1.keep al (p15.other hne (p13.other hne n7)), n2, by rw [al.findClass]; exact n3, n4, n5, fun y c h1 h2 => p15.other h1 (p13.other h1 (by rw [q11]; exact n6 y c h2)), by rw [p15.2.2, p13.2.2, q11]; exact z8⟩, fun fs hl => c16.trans (X15.returnOut hexec hret (hb hbytes d57) hl)⟩
end New4
namespace New1
def yN : MethodName := ⟨"java/lang/String", "<init>", "([C)V"⟩
abbrev yB : ByteArray := jdk_42_method_3_code
theorem d0 : decode yB 0 = .ok (.aload_n 0, 1) := by decide +kernel
theorem d1 : decode yB 1 = .ok (.aload_n 1, 1) := by decide +kernel
theorem d2 : decode yB 2 = .ok (.iconst 0, 1) := by decide +kernel
theorem d3 : decode yB 3 = .ok (.aload_n 1, 1) := by decide +kernel
theorem d4 : decode yB 4 = .ok (.arraylength, 1) := by decide +kernel
theorem d5 : decode yB 5 = .ok (.aconst_null, 1) := by decide +kernel
theorem d6 : decode yB 6 = .ok (.invokespecial 27, 3) := by decide +kernel
theorem d9 : decode yB 9 = .ok (.return_, 1) := by decide +kernel
def site : List Cond := [New4.tab] ++ initW "java/lang/String" 27 New4.yN
def tab : Cond := tabOf yN yB 2 none site
def P (a : Addr) (D : Cell) (fV fC : Field) (b : Addr) (A : Cell) (z : Int32) (args : Array Value) (s : State) : Prop := args = #[.ref a, .ref b] ∧ Blank "java/lang/String" a D s ∧ Found "java/lang/String" "value" "[B" fV s ∧ Found "java/lang/String" "coder" "B" fC s ∧ Ch b A s ∧ StaticIs s "java/lang/String" "COMPACT_STRINGS" "Z" (.int z) ∧ ¬ z = 0 ∧ 0 < A.slots.size ∧ A.slots.size ≤ 536870912 ∧ ∀ i, i < A.slots.size → ¬ 255 < cv A i
def E (a : Addr) (D : Cell) (fV fC : Field) (A : Cell) (r : Option Value) (s u : State) : Prop := Got a D fV fC A 0 A.slots.size r s u
/-- new String(chars), not empty, no char above 255: a Latin-1 String of their low bytes -/
theorem law (l : Launch) (a : Addr) (D : Cell) (fV fC : Field) (b : Addr) (A : Cell) (z : Int32) : Law l yN 2 1 3 52 yB 2 none site (P a D fV fC b A z) (E a D fV fC A) [⟨a, fC.slot⟩, ⟨a, fV.slot⟩] 1 A.slots.size := by
  refine Law.of_walk (plainFor_of_name (by decide +kernel)) (by decide +kernel) (by decide +kernel) (by decide) (fun _ _ h => by rw [h.1]; rfl) (fun _ U U' hal hh h => ⟨h.1, h.2.1.mv hal hh, h.2.2.1.al hal, h.2.2.2.1.al hal, h.2.2.2.2.1.mv hal hh, h.2.2.2.2.2.1.there hal hh, h.2.2.2.2.2.2⟩) (fun r U U' V V' h1 hal h2 h => Got.mv r U U' V V' h1 hal h2 h) ?_
  intro p e s m args below meth c s₁ X0 hexec hbytes hml hret hlk hnm hown hh0 W hP
  obtain ⟨rfl, hB, f1, f2, hA, s1, hz, l0, l2, hp⟩ := hP
  have c1 : Steps p.tables e below (s₁.setTop (entryFrame m #[.ref a, .ref b] 2)) (s₁.setTop (mkF m 0 #[.val (.ref a), .val (.ref b)] [])) := entry rfl
  have c2 : Steps p.tables e below (s₁.setTop (entryFrame m #[.ref a, .ref b] 2)) (s₁.setTop (mkF m 6 #[.val (.ref a), .val (.ref b)] [.null, .int (Int32.ofNat A.slots.size), .int 0, .ref b, .ref a])) := c1.trans (by
    refine XS.aloadN X0.here hexec rfl (hb hbytes d0) rfl rfl ?_
    refine XS.aloadN X0.here hexec rfl (hb hbytes d1) rfl rfl ?_
    refine iconstV X0.here hexec rfl 0 (hb hbytes d2) (by decide) ?_
    refine XS.aloadN X0.here hexec rfl (hb hbytes d3) rfl rfl ?_
    refine X0.alen hexec (hA.1.mv X0.warmed.alike hh0) rfl rfl (hb hbytes d4) ?_
    refine XS.aconstNull X0.here hexec rfl (hb hbytes d5) ?_
    exact Steps.refl _)
  obtain ⟨v3, T3, X3, E3, g3⟩ := X0.callN hexec (New4.law l a D fV fC b A z 0 A.slots.size) rfl hown (wks W (initW "java/lang/String" 27 New4.yN)) (W New4.tab (by simp only [site, List.mem_cons, List.mem_append, true_or, or_true])) (W := 0) (Nat.le_of_ble_eq_true rfl) (Nat.le_of_ble_eq_true rfl) (Nat.le_refl _) (by show 0 + A.slots.size ≤ A.slots.size; omega) (g := (mkF m 6 #[.val (.ref a), .val (.ref b)] [.null, .int (Int32.ofNat A.slots.size), .int (Int32.ofNat 0), .ref b, .ref a])) rfl (by rw [hml]; rfl) c2 (argsL := [.ref b, .int (Int32.ofNat 0), .int (Int32.ofNat A.slots.size), .null]) (rest := []) rfl rfl (by show 2 * 0 + 0 ≤ _; decide) (hb hbytes d6) (⟨rfl, hB.mv X0.warmed.alike hh0, f1.al X0.warmed.alike, f2.al X0.warmed.alike, hA.mv X0.warmed.alike hh0, s1.there X0.warmed.alike hh0, hz, l0, by omega, l2, fun i hi => by rw [Nat.zero_add]; exact hp i hi⟩)
  have e0 := Got.mv _ s₁ s _ _ hh0.symm (Vm.Alike.refl _) rfl E3
  obtain rfl := e0.1
  have c4 : Steps p.tables e below (s₁.setTop (entryFrame m #[.ref a, .ref b] 2)) (T3.setTop (mkF m 9 #[.val (.ref a), .val (.ref b)] [])) := g3
  exact ⟨T3, none, _, _, _, X3, by simp, rfl, by omega, (fun _ => rfl), e0, fun fs hl => c4.trans (X3.returnOut hexec hret (hb hbytes d9) hl)⟩
theorem pays {l : Launch} {R : Room} {p : Program} {e : Env} {below : List Frame} {s : State} {sargs : Array Value} {len W : Nat} (a : Addr) (D : Cell) (fV fC : Field) (b : Addr) (A : Cell) (z : Int32) (htab : tab.before sargs s = true) (hfr : 4 ≤ R.frames) (hlo : W + 65 ≤ R.locals) :
    Back l R p e below s sargs yN len W (fun A₁ a₁ => A₁.cells + 1 ≤ R.cells ∧ A₁.slots + A.slots.size ≤ R.slots ∧ P a D fV fC b A z a₁ A₁.U) (fun A₁ _ v₁ B₁ => E a D fV fC A v₁ A₁.U B₁.U ∧ B₁.locs = A₁.locs ++ [⟨a, fC.slot⟩, ⟨a, fV.slot⟩] ∧ B₁.cells = A₁.cells + 1 ∧ B₁.slots = A₁.slots + A.slots.size) :=
  (law l a D fV fC b A z).pays htab hfr (by omega)
end New1
/-- the byte, read back as charAt reads it, is the char -/
theorem lo8_mask {x : Int32} (h0 : ¬ x < 0) (h1 : ¬ 255 < x) : lo8 x &&& 255 = x := by
  have t : ∀ k : Fin 256, lo8 (Int32.ofNat k.val) &&& 255 = Int32.ofNat k.val := by decide +kernel
  rw [Int32.lt_iff_toInt_lt] at h0 h1
  have e0 : (0 : Int32).toInt = 0 := rfl
  have e1 : (255 : Int32).toInt = 255 := rfl
  obtain ⟨k, hk⟩ : ∃ k : Nat, x.toInt = k := ⟨x.toInt.toNat, by omega⟩
  have hx : x = Int32.ofNat k := Int32.toInt_inj.mp (by rw [hk, Int32.toInt_ofNat_small (by omega)])
  rw [hx]
  exact t ⟨k, by omega⟩
end StrChars
namespace StrChars.Road
open Jvm Sem ClassFile Op Lib Jvm.Stand Jvm.Free Jvm.Free.XT
open Jvm.Lib.Cold (StaticIs)
abbrev ST : String := "java/lang/String"
/-- every table word that New1's law asks, flat -/
abbrev words : List Jvm.Cond := [.code New1.yN New1.yB 2 none, .initialized ST, .methodLink ST 27 New4.yN, .instanceMethod New4.yN,
  .code New4.yN New4.yB 6 none, .fieldLink ST 38 ST "COMPACT_STRINGS" "Z", .laysFinal ST ST "value" "[B", .fieldLink ST 9 ST "value" "[B", .laysFinal ST ST "coder" "B", .fieldLink ST 15 ST "coder" "B",
  .methodLink ST 1 Lib.objectInit, .instanceMethod Lib.objectInit, .code Lib.objectInit ⟨#[0xb1]⟩ 1 none, .methodLink ST 177 Cmp3.yN, .static Cmp3.yN, .methodLink ST 47 CodL.yN, .static CodL.yN,
  .code Cmp3.yN Cmp3.yB 6 (some (.array .byte)), .initialized U16, .arrayClass .byte, .methodLink U16 115 Cmp5.yN, .static Cmp5.yN, .code Cmp5.yN Cmp5.yB 7 (some .int), .code CodL.yN CodL.yB 2 (some .byte)]
theorem tab_of {a : Array Value} {s : State} (h : ∀ w ∈ words, w.before a s = true) : New1.tab.before a s = true := by
  have h5 : Cmp5.tab.before a s = true := unparts (wk h (.code Cmp5.yN Cmp5.yB 7 (some .int))) (wks h (.initialized Cmp5.yN.cls :: Cmp5.site))
  have hc : CodL.tab.before a s = true := unparts (wk h (.code CodL.yN CodL.yB 2 (some .byte))) (wks h (.initialized CodL.yN.cls :: CodL.site))
  have q5 : ∀ w ∈ Cmp5.tab :: words, w.before a s = true := fun w hw => (List.mem_cons.mp hw).elim (fun e => e ▸ h5) (h w)
  have h3 : Cmp3.tab.before a s = true := unparts (wk q5 (.code Cmp3.yN Cmp3.yB 6 (some (.array .byte)))) (wks q5 (.initialized Cmp3.yN.cls :: Cmp3.site))
  have q3 : ∀ w ∈ Cmp3.tab :: CodL.tab :: words, w.before a s = true := fun w hw => (List.mem_cons.mp hw).elim (fun e => e ▸ h3) fun hw => (List.mem_cons.mp hw).elim (fun e => e ▸ hc) (h w)
  have h4 : New4.tab.before a s = true := unparts (wk q3 (.code New4.yN New4.yB 6 none)) (wks q3 (.initialized New4.yN.cls :: New4.site))
  have q4 : ∀ w ∈ New4.tab :: words, w.before a s = true := fun w hw => (List.mem_cons.mp hw).elim (fun e => e ▸ h4) (h w)
  exact unparts (wk q4 (.code New1.yN New1.yB 2 none)) (wks q4 (.initialized New1.yN.cls :: New1.site))
/-- the words ride from the start Z to the walk's own state -/
theorem moved {Z s : State} {a0 args : Array Value} (hZ : Z.Warmed39 s.vm) (hw : ∀ d ∈ words, d.before a0 Z = true) : ∀ d ∈ words, d.before args s = true := fun d hd => by
  have q := hw d hd
  have t : ∀ d ∈ words, d = .arrayClass .byte ∨ (d.onTables && d.keepsFace) = true := by decide +kernel
  rcases t d hd with rfl | t
  · exact RoadKit.mvA hZ q
  · exact RoadKit.mv hZ q t
/-- WHAT COMES BACK, over the tables of the start Z: h the heap at the call, h' behind it -/
def Q (Z : State) (x : Addr) (A : Cell) (h : Heap) (v : Option Value) (h' : Heap) (L : List Loc) : Prop := v = none ∧ (∀ y ∈ L, y.base = x) ∧ RoadKit.Keep h h' [x] ∧ h'.size = h.size + 1 ∧ RoadKit.Exa Z h' x ST ∧ RoadKit.Fld Z h' x ST "value" "[B" (.ref h.size) ∧ RoadKit.Fld Z h' x ST "coder" "B" (.int 0) ∧
  (∃ V : Cell, RoadKit.Arr Z h' h.size V .byte ∧ V.vm = .none ∧ Z.vm.findClass "[B" = some V.cls ∧ V.slots.size = A.slots.size ∧ ∀ j, j < A.slots.size → V.slots[j]? = some (.int (lo8 (cv A j)))) ∧
  ∀ (O n d : String) (w : Value), RoadKit.Fld Z h x O n d w → RoadKit.slotOf Z O n d ≠ RoadKit.slotOf Z ST "value" "[B" → RoadKit.slotOf Z O n d ≠ RoadKit.slotOf Z ST "coder" "B" → RoadKit.Fld Z h' x O n d w
/-- **new String(chars) AT A CALL, IN THE ROAD'S FORM**: for specialBack behind newO: x the fresh String, b the char[] with the cell A -/
theorem back {p : Program} {l : Launch} {e : Env} {R : Room} {s : State} {args : Array Value} {below : List Frame} {len W : Nat} {Z : State} {a0 : Array Value} {h : Heap} (hZ : Z.Warmed39 s.vm) (hw : ∀ d ∈ words, d.before a0 Z = true) {kI : Nat} (wi : (Jvm.Cond.instantiable ST kI).before a0 Z = true)
    {x b : Addr} {A : Cell} {z : Int32} {v0 c0 : Value} (E : RoadKit.Exa Z h x ST) (V : RoadKit.Fld Z h x ST "value" "[B" v0) (C : RoadKit.Fld Z h x ST "coder" "B" c0) (K : RoadKit.Arr Z h b A .char) (hty : Typed .char A) (S : RoadKit.Sta Z h ST "COMPACT_STRINGS" "Z" (.int z)) (hz : ¬ z = 0)
    (l0 : 0 < A.slots.size) (l2 : A.slots.size ≤ 536870912) (hp : ∀ i, i < A.slots.size → ¬ 255 < cv A i) (hfr : 4 ≤ R.frames) (hlo : W + 65 ≤ R.locals) :
    Back l R p e below s args New1.yN len W (fun P a => a = #[.ref x, .ref b] ∧ P.U.heap = h ∧ P.cells + 1 ≤ R.cells ∧ P.slots + A.slots.size ≤ R.slots)
      (fun P _ v B => ∃ L, Q Z x A h v B.U.heap L ∧ B.locs = P.locs ++ L ∧ B.cells = P.cells + 1 ∧ B.slots = P.slots + A.slots.size) := by
  intro m meth c P g ig mk a X hg hsize hdg hW hn hp'
  obtain ⟨rfl, rfl, r1, r2⟩ := hp'
  have al : Z.vm.Alike P.U.vm := hZ.alike.trans X.warmed.alike
  obtain ⟨D, cfV, kV, iV, fV, hD, gV, stV, knV, obV, asV, slV⟩ := id V
  obtain ⟨D', cfC, kC, iC, fC, hD', gC, stC, -, -, asC, slC⟩ := id C
  cases hD.symm.trans hD'
  obtain ⟨D2, kD, e1, e2, e3, e4, e5⟩ := id E
  cases hD.symm.trans e1
  obtain ⟨c2, k2, i1, i2, i3, -⟩ := Cond.instantiable_spec wi
  cases e2.symm.trans i1
  cases e3.symm.trans i2
  obtain ⟨kU, u1, u2⟩ := al.2.2 _ _ e3
  have hB : Blank ST x D P.U := ⟨hD, ⟨knV, fun q hq => by rw [hq] at obV; cases obV⟩, by rw [al.findClass]; exact e2, kU, u1, by rw [u2]; exact i3, by rw [u2]; exact e5 i3⟩
  have F1 : Found ST "value" "[B" fV P.U := ⟨SBG.found_only al ⟨cfV, kV, iV, gV⟩, stV⟩
  have F2 : Found ST "coder" "B" fC P.U := ⟨SBG.found_only al ⟨cfC, kC, iC, gC⟩, stC⟩
  have hA : Ch b A P.U := ⟨⟨K.1, State.isArrayOf_alike al K.2.1, K.2.2, by omega⟩, hty⟩
  have hS : StaticIs P.U ST "COMPACT_STRINGS" "Z" (.int z) := by
    obtain ⟨cfS, iS, kS, fS, st, cS, t1, t2, t3, t4, t5, t6, t7⟩ := S
    exact StaticIs.there (s := { Z with heap := P.U.heap }) ⟨cfS, iS, kS, fS, st, cS, t1, t2, t3, t4, t5, (fun q => by rw [q] at t6; cases t6), t7⟩ al rfl
  obtain ⟨v, B, X', ⟨⟨hv, E', V', q1, q2, q3, q4, q5, q6, q7, q8, q9, q10, q11⟩, hl, hc, hs⟩, st⟩ := New1.pays x D fV fC b A z (tab_of (moved hZ hw)) hfr hlo m meth c P g ig mk _ X hg hsize hdg hW hn ⟨r1, r2, rfl, hB, F1, F2, hA, hS, hz, l0, l2, hp⟩
  have al' : Z.vm.Alike B.U.vm := hZ.alike.trans X'.warmed.alike
  have hsz : E'.slots.size = D.slots.size := by
    obtain ⟨-, -, -, kB, w1, w2, w3⟩ := q1
    obtain ⟨kB', y1, y2⟩ := al'.2.2 _ _ e3
    rw [q2.2.1] at w1
    cases w1.symm.trans y1
    rw [w3, e5 i3, y2]
  refine ⟨v, B, X', ⟨_, ⟨hv, ?_, ⟨by omega, fun y cy hy hn' => q10 y cy (by simpa using hn') hy, fun y cy hy => ?_⟩, q11, ⟨E', _, q1.1, by rw [q2.2.1]; exact e2, by rw [q2.2.1]; exact e3, by rw [q2.1]; exact obV, fun _ => by rw [hsz]; exact e5 i3⟩,
    ⟨E', cfV, kV, iV, fV, q1.1, gV, stV, by rw [q2.1]; exact knV, by rw [q2.1]; exact obV, by rw [q2.2.1]; exact asV, q3⟩, ⟨E', cfC, kC, iC, fC, q1.1, gC, stC, by rw [q2.1]; exact knV, by rw [q2.1]; exact obV, by rw [q2.2.1]; exact asC, q4⟩,
    ⟨V', ⟨q5.1, State.isArrayOf_alike al'.symm q5.2.1, q5.2.2.1⟩, q6, by rw [← al'.findClass]; exact q7, q8, fun j hj => by have := q9 j hj; rwa [Nat.zero_add] at this⟩, fun O n d w F n1 n2 => ?_⟩, hl, hc, hs⟩, st⟩
  · intro y hy
    simp only [List.mem_cons, List.not_mem_nil, or_false] at hy
    rcases hy with rfl | rfl <;> rfl
  · by_cases q : y = x
    · subst q
      cases hD.symm.trans hy
      exact ⟨E', q1.1, q2.2.1, q2.1, hsz⟩
    · exact ⟨cy, q10 y cy q hy, rfl, rfl, rfl⟩
  · obtain ⟨D3, cf, k, i, f, g1, g2, g3, g4, g5, g6, g7⟩ := F
    cases hD.symm.trans g1
    simp only [RoadKit.slotOf, g2, gV, gC, Option.map_some, Option.getD_some] at n1 n2
    exact ⟨E', cf, k, i, f, q1.1, g2, g3, by rw [q2.1]; exact g4, by rw [q2.1]; exact g5, by rw [q2.2.1]; exact g6, by rw [q2.2.2 f.slot (by simp [n1, n2])]; exact g7⟩
end StrChars.Road
namespace StrChars.Road
open Jvm Sem ClassFile Op Lib Jvm.Stand Jvm.Free Jvm.Free.XT
/-- WHAT COMES BACK, the byte[] as a list of values -/
def QA (Z : State) (x : Addr) (zn : Int32) (cs : List Int32) (h : Heap) (v : Option Value) (h' : Heap) (L : List Loc) : Prop := v = none ∧ (∀ y ∈ L, y.base = x) ∧ RoadKit.Keep h h' [x] ∧ h'.size = h.size + 1 ∧ RoadKit.Exa Z h' x ST ∧ RoadKit.Fld Z h' x ST "value" "[B" (.ref h.size) ∧ RoadKit.Fld Z h' x ST "coder" "B" (.int 0) ∧
  (∃ kb, Z.vm.findClass "[B" = some kb ∧ RoadKit.Arv Z h' h.size kb .byte zn (cs.map fun c => .int (lo8 c)) (.int 0)) ∧
  ∀ (O n d : String) (w : Value), RoadKit.Fld Z h x O n d w → RoadKit.slotOf Z O n d ≠ RoadKit.slotOf Z ST "value" "[B" → RoadKit.slotOf Z O n d ≠ RoadKit.slotOf Z ST "coder" "B" → RoadKit.Fld Z h' x O n d w
/-- **new String(chars) AT A CALL, THE ARRAYS AS LISTS**: the char[] at b holds cs, not empty, no char above 255 -/
theorem backArv {p : Program} {l : Launch} {e : Env} {R : Room} {s : State} {args : Array Value} {below : List Frame} {len W : Nat} {Z : State} {a0 : Array Value} {h : Heap} (hZ : Z.Warmed39 s.vm) (hw : ∀ d ∈ words, d.before a0 Z = true) {kI : Nat} (wi : (Jvm.Cond.instantiable ST kI).before a0 Z = true)
    {x b : Addr} {k : ClassId} {zn z : Int32} {cs : List Int32} {dv v0 c0 : Value} (E : RoadKit.Exa Z h x ST) (V : RoadKit.Fld Z h x ST "value" "[B" v0) (C : RoadKit.Fld Z h x ST "coder" "B" c0) (K : RoadKit.Arv Z h b k .char zn (cs.map Value.int) dv) (S : RoadKit.Sta Z h ST "COMPACT_STRINGS" "Z" (.int z)) (hz : ¬ z = 0)
    (hlen : zn.toNatClampNeg = cs.length) (h0 : 0 < cs.length) (hbig : cs.length ≤ 536870912) (hall : ∀ c ∈ cs, ¬ 255 < c) (hfr : 4 ≤ R.frames) (hlo : W + 65 ≤ R.locals) :
    Back l R p e below s args New1.yN len W (fun P a => a = #[.ref x, .ref b] ∧ P.U.heap = h ∧ P.cells + 1 ≤ R.cells ∧ P.slots + cs.length ≤ R.slots)
      (fun P _ v B => ∃ L, QA Z x zn cs h v B.U.heap L ∧ B.locs = P.locs ++ L ∧ B.cells = P.cells + 1 ∧ B.slots = P.slots + cs.length) := by
  obtain ⟨A, K1, K2, K3, K4, K5, K6⟩ := K
  have e : A.slots.size = cs.length := K3.trans hlen
  have hat : ∀ (i : Nat) (hi : i < cs.length), A.slots[i]? = some (.int cs[i]) := fun i hi => by rw [K5 i (by omega)]; simp [List.getD_eq_getElem?_getD, hi]
  have hcv : ∀ (i : Nat) (hi : i < cs.length), cv A i = cs[i] := fun i hi => by unfold cv; rw [hat i hi]
  have hty : Typed .char A := fun i v hv => by
    have hi : i < A.slots.size := (Array.getElem?_eq_some_iff.mp hv).1
    have q := K5 i hi
    rw [hv] at q
    rw [Option.some.inj q]
    exact K6 i hi
  refine Back.mono (back hZ hw wi E V C K1 hty S hz (by omega) (by omega) (fun i hi => by rw [hcv i (by omega)]; exact hall _ (List.getElem_mem _)) hfr hlo) (fun P a hp => ⟨hp.1, hp.2.1, hp.2.2.1, by rw [e]; exact hp.2.2.2⟩) (fun P a v B hp hq => ?_)
  obtain ⟨L, ⟨q1, q2, q3, q4, q5, q6, q7, ⟨V', v1, v2, v3, v4, v5⟩, q9⟩, hl, hc, hs⟩ := hq
  refine ⟨L, ⟨q1, q2, q3, q4, q5, q6, q7, ⟨V'.cls, v3, V', v1, rfl, by rw [v4, e, hlen], K4, fun i hi => ?_, fun i hi => ?_⟩, q9⟩, hl, hc, by rw [hs, e]⟩
  · have hi' : i < cs.length := by omega
    rw [v5 i (by omega), hcv i hi']; simp [List.getD_eq_getElem?_getD, hi']
  · have hi' : i < cs.length := by omega
    simp only [List.getD_eq_getElem?_getD, List.getElem?_map, List.getElem?_eq_getElem hi', Option.map_some, Option.getD_some]
    exact fits_lo8 _
end StrChars.Road
namespace StrChars.Road
open Jvm Sem ClassFile Op Lib Jvm.Stand Jvm.Free Jvm.Free.XT
/-- WHAT COMES BACK, in the writer's own shape -/
def QV (Z : State) (x : Addr) (N : Int32) (bs : List Int32) (h : Heap) (n0 : Nat) (v : Option Value) (h' : Heap) (L : List Loc) : Prop := v = none ∧ RoadKit.Fr n0 L ∧ RoadKit.Keep h h' [x] ∧ RoadKit.Exa Z h' x ST ∧ RoadKit.Fld Z h' x ST "coder" "B" (.int 0) ∧
  ∃ (t : Addr) (kb : ClassId), n0 ≤ t ∧ h.size ≤ t ∧ ¬ t = x ∧ RoadKit.Fld Z h' x ST "value" "[B" (.ref t) ∧ RoadKit.Arv Z h' t kb .byte N (bs.map Value.int) (.int 0)
/-- **new String(chars) AT A CALL, FOR THE WRITER**: a char[] of n known ints, each 0 to 255 -/
theorem backV {p : Program} {l : Launch} {e : Env} {R : Room} {s : State} {args : Array Value} {below : List Frame} {len W : Nat} {Z : State} {a0 : Array Value} {h : Heap} (hZ : Z.Warmed39 s.vm) (hw : ∀ d ∈ words, d.before a0 Z = true) {kI : Nat} (wi : (Jvm.Cond.instantiable ST kI).before a0 Z = true)
    {x b : Addr} {kC : ClassId} {cs bs : List Int32} {d v0 c0 : Value} {z N : Int32} {n n0 : Nat} (hx0 : n0 ≤ x) (hh0 : n0 ≤ h.size) (E : RoadKit.Exa Z h x ST) (V : RoadKit.Fld Z h x ST "value" "[B" v0) (C : RoadKit.Fld Z h x ST "coder" "B" c0) (K : RoadKit.Arv Z h b kC .char N (cs.map Value.int) d) (S : RoadKit.Sta Z h ST "COMPACT_STRINGS" "Z" (.int z)) (hz : ¬ z = 0)
    (hn : cs.length = n) (hN : N = Int32.ofNat n) (l0 : 0 < n) (l2 : n ≤ 4000) (hp : ∀ c ∈ cs, ¬ c < 0 ∧ ¬ (255 : Int32) < c) (hb : bs = cs.map (fun c => c.toInt8.toInt32)) (hfr : 4 ≤ R.frames) (hlo : W + 65 ≤ R.locals) :
    Back l R p e below s args (⟨"java/lang/String", "<init>", "([C)V"⟩ : MethodName) len W (fun P a => a = #[.ref x, .ref b] ∧ P.U.heap = h ∧ P.cells + 1 ≤ R.cells ∧ P.slots + n ≤ R.slots)
      (fun P _ v B => ∃ L, QV Z x N bs h n0 v B.U.heap L ∧ B.locs = P.locs ++ L ∧ B.cells = P.cells + 1 ∧ B.slots = P.slots + n) := by
  subst hn hN hb
  refine Back.mono (backArv hZ hw wi E V C K S hz (n32 (by omega)) l0 (by omega) (fun c hc => (hp c hc).2) hfr hlo) (fun P a hp => hp) (fun P a v B hp hq => ?_)
  obtain ⟨L, ⟨q1, q2, q3, q4, q5, q6, q7, ⟨kb, v1, v2⟩, q9⟩, hl, hc, hs⟩ := hq
  exact ⟨L, ⟨q1, fun y hy => by rw [q2 y hy]; exact hx0, q3, q5, q7, h.size, kb, hh0, Nat.le_refl _, Nat.ne_of_gt E.lt, q6, by rw [List.map_map]; exact v2⟩, hl, hc, hs⟩
end StrChars.Road
namespace StrChars
open Jvm Sem ClassFile Op Lib Jvm.Stand Jvm.Free.XT Jvm.Free.ALB Jvm.Free.JM Jvm.Free
open Jvm.Lib.Cold (StaticIs)
def hi8 (x : Int32) : Int32 := lo8 (x >>> ((8 : Int32) &&& 31))
/-- what StringUTF16.getChar makes of two bytes -/
def pairCh (u v : Int32) : Int32 := (((u &&& 255) <<< ((0 : Int32) &&& 31)) ||| ((v &&& 255) <<< ((8 : Int32) &&& 31))).toUInt32.toUInt16.toUInt32.toInt32
theorem shr0 (c : Int32) : c >>> ((0 : Int32) &&& 31) = c := by
  have e : ((0 : Int32) &&& 31) = 0 := by decide
  rw [e]
  apply Int32.toBitVec_inj.mp
  rw [Int32.toBitVec_shiftRight]
  have e1 : ((0 : Int32).toBitVec.smod 32) = 0#32 := by decide
  rw [e1, BitVec.sshiftRight_eq']
  exact BitVec.sshiftRight_zero
theorem lo8_and (x : Int32) : (lo8 x &&& 255).toBitVec.toNat = x.toBitVec.toNat % 256 := by
  have h : (lo8 x).toBitVec = (x.toBitVec.signExtend 8).signExtend 32 := by rw [lo8, Int8.toBitVec_toInt32, Int32.toBitVec_toInt8]
  rw [Int32.toBitVec_and, BitVec.toNat_and, h]
  have e : ((x.toBitVec.signExtend 8).signExtend 32).toNat % 256 = x.toBitVec.toNat % 256 := by
    rw [BitVec.toNat_signExtend]
    have hlt := x.toBitVec.isLt
    simp only [BitVec.toNat_setWidth, BitVec.toNat_signExtend]
    split <;> split <;> omega
  rw [← e]
  exact Nat.and_two_pow_sub_one_eq_mod _ 8
theorem pair_says {c : Int32} (h0 : ¬ c < 0) (h1 : ¬ 65535 < c) : pairCh (lo8 c) (hi8 c) = c := by
  rw [Int32.lt_iff_toInt_lt] at h0 h1
  have e0 : (0 : Int32).toInt = 0 := rfl
  have e1 : (65535 : Int32).toInt = 65535 := rfl
  have hc : c.toInt = c.toBitVec.toNat := by
    have := c.toBitVec.isLt
    have e : c.toInt = c.toBitVec.toInt := rfl
    rw [e] at h0 h1
    rw [e]
    rw [BitVec.toInt_eq_toNat_cond] at h0 h1 ⊢
    split at h0 <;> split <;> omega
  have hn : c.toBitVec.toNat < 65536 := by omega
  have a1 := lo8_and c
  have a2 : (hi8 c &&& 255).toBitVec.toNat = c.toBitVec.toNat / 256 := by
    rw [hi8, lo8_and]
    have e : ((8 : Int32) &&& 31) = 8 := by decide
    rw [e, Int32.toBitVec_shiftRight]
    have e2 : ((8 : Int32).toBitVec.smod 32) = 8#32 := by decide
    rw [e2, BitVec.sshiftRight_eq', BitVec.toNat_sshiftRight_of_msb_false (by rw [BitVec.msb_eq_false_iff_two_mul_lt]; omega)]
    show c.toBitVec.toNat >>> 8 % 256 = _
    rw [Nat.shiftRight_eq_div_pow]
    omega
  unfold pairCh
  apply Int32.toBitVec_inj.mp
  apply BitVec.eq_of_toNat_eq
  have f0 : ((0 : Int32) &&& 31) = 0 := by decide
  have f8 : ((8 : Int32) &&& 31) = 8 := by decide
  rw [f0, f8]
  have g : (((lo8 c &&& 255) <<< (0 : Int32)) ||| ((hi8 c &&& 255) <<< (8 : Int32))).toBitVec.toNat = c.toBitVec.toNat := by
    rw [Int32.toBitVec_or, Int32.toBitVec_shiftLeft, Int32.toBitVec_shiftLeft]
    have s0 : ((0 : Int32).toBitVec.smod 32) = 0#32 := by decide
    have s8 : ((8 : Int32).toBitVec.smod 32) = 8#32 := by decide
    rw [s0, s8, BitVec.toNat_or]
    simp only [BitVec.shiftLeft_eq', BitVec.toNat_shiftLeft, a1, a2]
    show (c.toBitVec.toNat % 256) <<< 0 % 2 ^ 32 ||| (c.toBitVec.toNat / 256) <<< 8 % 2 ^ 32 = _
    rw [Nat.shiftLeft_zero, Nat.mod_eq_of_lt (show c.toBitVec.toNat % 256 < 2 ^ 32 by omega), Nat.mod_eq_of_lt (show (c.toBitVec.toNat / 256) <<< 8 < 2 ^ 32 by rw [Nat.shiftLeft_eq]; omega), Nat.or_comm, ← Nat.shiftLeft_add_eq_or_of_lt (by omega), Nat.shiftLeft_eq]
    omega
  show BitVec.toNat (((((lo8 c &&& 255) <<< (0 : Int32)) ||| ((hi8 c &&& 255) <<< (8 : Int32))).toBitVec.setWidth 16).setWidth 32) = _
  rw [BitVec.toNat_setWidth, BitVec.toNat_setWidth, g]
  omega
end StrChars
namespace StrChars
open Jvm Sem ClassFile Op Lib Jvm.Stand Jvm.Free.XT Jvm.Free.ALB Jvm.Free.JM Jvm.Free
open Jvm.Lib.Cold (StaticIs)
theorem shr1 {n : Nat} (h : 2 * n < 2 ^ 31) : Int32.ofNat (2 * n) >>> ((1 : Int32) &&& 31) = Int32.ofNat n := by
  have e : ((1 : Int32) &&& 31) = 1 := by decide
  rw [e]
  apply Int32.toBitVec_inj.mp
  rw [Int32.toBitVec_shiftRight]
  have e1 : ((1 : Int32).toBitVec.smod 32) = 1#32 := by decide
  have hm : (BitVec.ofNat 32 (2 * n)).toNat = 2 * n := by rw [BitVec.toNat_ofNat, Nat.mod_eq_of_lt (by omega)]
  rw [e1, BitVec.sshiftRight_eq']
  apply BitVec.eq_of_toNat_eq
  show ((BitVec.ofNat 32 (2 * n)).sshiftRight 1).toNat = (BitVec.ofNat 32 n).toNat
  rw [BitVec.toNat_sshiftRight_of_msb_false (by rw [BitVec.msb_eq_false_iff_two_mul_lt, hm]; omega), hm, BitVec.toNat_ofNat, Nat.shiftRight_eq_div_pow]
  omega
/-- charAt's cast of a byte read back -/
def chr8 (u : Int32) : Int32 := (u &&& 255).toUInt32.toUInt16.toUInt32.toInt32
theorem chr8_lo8 {c : Int32} (h0 : ¬ c < 0) (h1 : ¬ 255 < c) : chr8 (lo8 c) = c := by
  have t : ∀ k : Fin 256, (Int32.ofNat k.val).toUInt32.toUInt16.toUInt32.toInt32 = Int32.ofNat k.val := by decide +kernel
  unfold chr8
  rw [lo8_mask h0 h1]
  rw [Int32.lt_iff_toInt_lt] at h0 h1
  have e0 : (0 : Int32).toInt = 0 := rfl
  have e1 : (255 : Int32).toInt = 255 := rfl
  obtain ⟨k, hk⟩ : ∃ k : Nat, c.toInt = k := ⟨c.toInt.toNat, by omega⟩
  have hx : c = Int32.ofNat k := Int32.toInt_inj.mp (by rw [hk, Int32.toInt_ofNat_small (by omega)])
  rw [hx]
  exact t ⟨k, by omega⟩
theorem narrow_ch {c : Int32} (h0 : ¬ c < 0) (h1 : ¬ 65535 < c) : narrow .char (.int c) = .int c := by
  have q : narrow .char (.int (pairCh (lo8 c) (hi8 c))) = .int (pairCh (lo8 c) (hi8 c)) := narrow_c _
  rwa [pair_says h0 h1] at q
/-- the array's cell V codes the n chars f 0 .. f (n - 1) by the coder cd, as the JDK does: coder 1 just where some char is above 255 -/
def Cod (cd : Int32) (n : Nat) (f : Nat → Int32) (V : Cell) : Prop := (cd = 0 ∧ V.slots.size = n ∧ ∀ j, j < n → V.slots[j]? = some (.int (lo8 (f j))) ∧ ¬ 255 < f j) ∨ (cd = 1 ∧ V.slots.size = 2 * n ∧ (∀ j, j < n → V.slots[2 * j]? = some (.int (lo8 (f j))) ∧ V.slots[2 * j + 1]? = some (.int (hi8 (f j)))) ∧ ∃ j, j < n ∧ 255 < f j)
theorem Cod.cd {cd : Int32} {n : Nat} {f : Nat → Int32} {V : Cell} (h : Cod cd n f V) : cd = 0 ∨ cd = 1 := h.imp (fun q => q.1) fun q => q.1
theorem Cod.len {cd : Int32} {n : Nat} {f : Nat → Int32} {V : Cell} (h : Cod cd n f V) (hs : V.slots.size < 2 ^ 31) : Int32.ofNat V.slots.size >>> (cd &&& 31) = Int32.ofNat n := by
  rcases h with ⟨rfl, h, -⟩ | ⟨rfl, h, -⟩
  · rw [shr0, h]
  · rw [h, shr1 (by omega)]
/-- **x is a String of the n chars f 0 .. f (n - 1)**, Latin-1 or UTF-16; its array at t has the cell V -/
def Txt (x t : Addr) (V : Cell) (cd : Int32) (n : Nat) (f : Nat → Int32) (U : State) : Prop := Exact "java/lang/String" x U ∧ Has x "java/lang/String" "value" "[B" (.ref t) U ∧ Has x "java/lang/String" "coder" "B" (.int cd) U ∧ XT.Arr .byte t V U ∧ Cod cd n f V ∧ ∀ j, j < n → ¬ f j < 0 ∧ ¬ 65535 < f j
theorem Txt.mv {x t : Addr} {V : Cell} {cd : Int32} {n : Nat} {f : Nat → Int32} {U U' : State} (h : Txt x t V cd n f U) (hal : U.vm.Alike U'.vm) (hh : U'.heap = U.heap) : Txt x t V cd n f U' := ⟨h.1.mv hal hh, h.2.1.mv hal hh, h.2.2.1.mv hal hh, h.2.2.2.1.mv hal hh, h.2.2.2.2⟩
namespace Cdr
def yN : MethodName := ⟨"java/lang/String", "coder", "()B"⟩
abbrev yB : ByteArray := jdk_42_method_152_code
theorem d0 : decode yB 0 = .ok (.getstatic 38, 3) := by decide +kernel
theorem d3 : decode yB 3 = .ok (.ifCond (.eq) 10, 3) := by decide +kernel
theorem d6 : decode yB 6 = .ok (.aload_n 0, 1) := by decide +kernel
theorem d7 : decode yB 7 = .ok (.getfield 15, 3) := by decide +kernel
theorem d10 : decode yB 10 = .ok (.goto 4, 3) := by decide +kernel
theorem d14 : decode yB 14 = .ok (.ireturn, 1) := by decide +kernel
def site : List Cond := [.fieldLink "java/lang/String" 38 "java/lang/String" "COMPACT_STRINGS" "Z", .fieldLink "java/lang/String" 15 "java/lang/String" "coder" "B"]
def tab : Cond := tabOf yN yB 1 (some .byte) site
def P (x : Addr) (cd z : Int32) (args : Array Value) (s : State) : Prop := args = #[.ref x] ∧ Has x "java/lang/String" "coder" "B" (.int cd) s ∧ (cd = 0 ∨ cd = 1) ∧ StaticIs s "java/lang/String" "COMPACT_STRINGS" "Z" (.int z) ∧ ¬ z = 0
def E (cd : Int32) (r : Option Value) (s u : State) : Prop := XT.PureE (some (.int cd)) r s u
theorem law (l : Launch) (x : Addr) (cd z : Int32) : Law l yN 1 0 0 0 yB 1 (some .byte) site (P x cd z) (E cd) [] 0 0 := by
  refine Law.of_walk (plainFor_of_name (by decide +kernel)) (by decide +kernel) (by decide +kernel) (by decide) (fun _ _ h => by rw [h.1]; rfl) (fun _ U U' hal hh h => ⟨h.1, h.2.1.mv hal hh, h.2.2.1, h.2.2.2.1.there hal hh, h.2.2.2.2⟩) (fun r U U' V V' h1 hal h2 h => XT.PureE.mv r U U' V V' h1 hal h2 h) ?_
  intro p e s m args below meth c s₁ X0 hexec hbytes hml hret hlk hnm hown hh0 W hP
  obtain ⟨rfl, hx, hc, s1, hz⟩ := hP
  have c1 : Steps p.tables e below (s₁.setTop (entryFrame m #[.ref x] 1)) (s₁.setTop (mkF m 0 #[.val (.ref x)] [])) := entry rfl
  obtain ⟨T2, X2, q2, st2⟩ := X0.sget hexec hown (wk W (.fieldLink "java/lang/String" 38 "java/lang/String" "COMPACT_STRINGS" "Z")) s1 (fun _ _ h => by rw [hh0]; exact h) (g := (mkF m 0 #[.val (.ref x)] [])) rfl (hb hbytes d0)
  have hh2 := q2.trans hh0
  have c3 : Steps p.tables e below (s₁.setTop (entryFrame m #[.ref x] 1)) (T2.setTop (mkF m 7 #[.val (.ref x)] [.ref x])) := (c1.trans (st2 _ (Steps.refl _))).trans (by
    refine XS.ifNo X2.here hexec rfl (hb hbytes d3) rfl (i0_eq_f hz) ?_
    refine XS.aloadN X2.here hexec rfl (hb hbytes d6) rfl rfl ?_
    exact Steps.refl _)
  obtain ⟨T4, X4, q4, st4⟩ := X2.hget hexec hown (wk W (.fieldLink "java/lang/String" 15 "java/lang/String" "coder" "B")) (hx.mv X2.warmed.alike hh2) (g := (mkF m 7 #[.val (.ref x)] [.ref x])) rfl (rest := []) rfl (hb hbytes d7)
  have c5 : Steps p.tables e below (s₁.setTop (entryFrame m #[.ref x] 1)) (T4.setTop (mkF m 14 #[.val (.ref x)] [.int cd])) := (c3.trans (st4 _ (Steps.refl _))).trans (by
    refine XS.goto X4.here hexec rfl (pc0 := 10) rfl (hb hbytes d10) (by decide) rfl ?_
    exact Steps.refl _)
  exact ⟨T4, some (.int cd), _, _, _, X4, rfl, rfl, rfl, (fun h => by cases h), ⟨rfl, q4.trans hh2⟩, fun fs hl => c5.trans (X4.ireturnOut hexec hret (by rcases hc with rfl | rfl <;> rfl) (Or.inr (Or.inr (Or.inl rfl))) (hb hbytes d14) hl)⟩
end Cdr
namespace Len
def yN : MethodName := ⟨"java/lang/String", "length", "()I"⟩
abbrev yB : ByteArray := jdk_42_method_54_code
theorem d0 : decode yB 0 = .ok (.aload_n 0, 1) := by decide +kernel
theorem d1 : decode yB 1 = .ok (.getfield 9, 3) := by decide +kernel
theorem d4 : decode yB 4 = .ok (.arraylength, 1) := by decide +kernel
theorem d5 : decode yB 5 = .ok (.aload_n 0, 1) := by decide +kernel
theorem d6 : decode yB 6 = .ok (.invokevirtual 335, 3) := by decide +kernel
theorem d9 : decode yB 9 = .ok (.ishr, 1) := by decide +kernel
theorem d10 : decode yB 10 = .ok (.ireturn, 1) := by decide +kernel
def site : List Cond := [.fieldLink "java/lang/String" 9 "java/lang/String" "value" "[B", Cdr.tab] ++ virtW "java/lang/String" 335 "java/lang/String" Cdr.yN Cdr.yN
def tab : Cond := tabOf yN yB 1 (some .int) site
def P (x t : Addr) (V : Cell) (cd : Int32) (n : Nat) (f : Nat → Int32) (z : Int32) (args : Array Value) (s : State) : Prop := args = #[.ref x] ∧ Txt x t V cd n f s ∧ StaticIs s "java/lang/String" "COMPACT_STRINGS" "Z" (.int z) ∧ ¬ z = 0
def E (n : Nat) (r : Option Value) (s u : State) : Prop := XT.PureE (some (.int (Int32.ofNat n))) r s u
/-- length() of a String of n chars, in either coding -/
theorem law (l : Launch) (x t : Addr) (V : Cell) (cd : Int32) (n : Nat) (f : Nat → Int32) (z : Int32) : Law l yN 1 0 1 13 yB 1 (some .int) site (P x t V cd n f z) (E n) [] 0 0 := by
  refine Law.of_walk (plainFor_of_name (by decide +kernel)) (by decide +kernel) (by decide +kernel) (by decide) (fun _ _ h => by rw [h.1]; rfl) (fun _ U U' hal hh h => ⟨h.1, h.2.1.mv hal hh, h.2.2.1.there hal hh, h.2.2.2⟩) (fun r U U' V V' h1 hal h2 h => XT.PureE.mv r U U' V V' h1 hal h2 h) ?_
  intro p e s m args below meth c s₁ X0 hexec hbytes hml hret hlk hnm hown hh0 W hP
  obtain ⟨rfl, hx, s1, hz⟩ := hP
  have v31 := hx.2.2.2.1.2.2.2
  have c1 : Steps p.tables e below (s₁.setTop (entryFrame m #[.ref x] 1)) (s₁.setTop (mkF m 1 #[.val (.ref x)] [.ref x])) := Steps.trans (entry rfl) (by
    show Steps p.tables e below (s₁.setTop (mkF m 0 #[.val (.ref x)] [])) _
    refine XS.aloadN X0.here hexec rfl (hb hbytes d0) rfl rfl ?_
    exact Steps.refl _)
  obtain ⟨T2, X2, q2, st2⟩ := X0.hget hexec hown (wk W (.fieldLink "java/lang/String" 9 "java/lang/String" "value" "[B")) (hx.mv X0.warmed.alike hh0).2.1 (g := (mkF m 1 #[.val (.ref x)] [.ref x])) rfl (rest := []) rfl (hb hbytes d1)
  have hh2 := q2.trans hh0
  have hx2 := hx.mv X2.warmed.alike hh2
  have c3 : Steps p.tables e below (s₁.setTop (entryFrame m #[.ref x] 1)) (T2.setTop (mkF m 6 #[.val (.ref x)] [.ref x, .int (Int32.ofNat V.slots.size)])) := (c1.trans (st2 _ (Steps.refl _))).trans (by
    refine X2.alen hexec hx2.2.2.2.1 rfl rfl (hb hbytes d4) ?_
    refine XS.aloadN X2.here hexec rfl (hb hbytes d5) rfl rfl ?_
    exact Steps.refl _)
  obtain ⟨v4, T4, X4, E4, g4⟩ := X2.callV hexec (Cdr.law l x cd z) hown (wks W (virtW "java/lang/String" 335 "java/lang/String" Cdr.yN Cdr.yN)) rfl (by decide) (wk W Cdr.tab) (W := 1) (Nat.le_of_ble_eq_true rfl) (Nat.le_of_ble_eq_true rfl) (Nat.le_refl _) (Nat.le_refl _) (hx2.1.fc X2.warmed.alike) hx2.1.is (g := (mkF m 6 #[.val (.ref x)] [.ref x, .int (Int32.ofNat V.slots.size)])) rfl (by rw [hml]; rfl) c3 (argsL := []) (rest := [.int (Int32.ofNat V.slots.size)]) rfl rfl (by show 2 * 0 + (1 + 0) ≤ _; decide) (hb hbytes d6) (⟨rfl, hx2.2.2.1, hx.2.2.2.2.1.cd, s1.there X2.warmed.alike hh2, hz⟩)
  obtain ⟨rfl, q4⟩ := E4
  have c5 : Steps p.tables e below (s₁.setTop (entryFrame m #[.ref x] 1)) (T4.setTop (mkF m 10 #[.val (.ref x)] [.int (Int32.ofNat V.slots.size >>> (cd &&& 31))])) := Steps.trans g4 (by
    refine ishr X4.here hexec rfl (hb hbytes d9) rfl ?_
    exact Steps.refl _)
  rw [hx.2.2.2.2.1.len v31] at c5
  exact ⟨T4, some (.int (Int32.ofNat n)), _, _, _, X4, rfl, rfl, rfl, (fun h => by cases h), ⟨rfl, q4.trans hh2⟩, fun fs hl => c5.trans (X4.ireturnOut hexec hret rfl (Or.inl rfl) (hb hbytes d10) hl)⟩
theorem pays {l : Launch} {R : Room} {p : Program} {e : Env} {below : List Frame} {s : State} {sargs : Array Value} {len W : Nat} (x t : Addr) (V : Cell) (cd : Int32) (n : Nat) (f : Nat → Int32) (z : Int32) (htab : tab.before sargs s = true) (hfr : 2 ≤ R.frames) (hlo : W + 25 ≤ R.locals) :
    Back l R p e below s sargs yN len W (fun A₁ a₁ => A₁.cells + 0 ≤ R.cells ∧ A₁.slots + 0 ≤ R.slots ∧ P x t V cd n f z a₁ A₁.U) (fun A₁ _ v₁ B₁ => E n v₁ A₁.U B₁.U ∧ B₁.locs = A₁.locs ++ [] ∧ B₁.cells = A₁.cells + 0 ∧ B₁.slots = A₁.slots + 0) :=
  (law l x t V cd n f z).pays htab hfr (by omega)
end Len
namespace IsL
def yN : MethodName := ⟨"java/lang/String", "isLatin1", "()Z"⟩
abbrev yB : ByteArray := jdk_42_method_154_code
theorem d0 : decode yB 0 = .ok (.getstatic 38, 3) := by decide +kernel
theorem d3 : decode yB 3 = .ok (.ifCond (.eq) 14, 3) := by decide +kernel
theorem d6 : decode yB 6 = .ok (.aload_n 0, 1) := by decide +kernel
theorem d7 : decode yB 7 = .ok (.getfield 15, 3) := by decide +kernel
theorem d10 : decode yB 10 = .ok (.ifCond (.ne) 7, 3) := by decide +kernel
theorem d13 : decode yB 13 = .ok (.iconst 1, 1) := by decide +kernel
theorem d14 : decode yB 14 = .ok (.goto 4, 3) := by decide +kernel
theorem d17 : decode yB 17 = .ok (.iconst 0, 1) := by decide +kernel
theorem d18 : decode yB 18 = .ok (.ireturn, 1) := by decide +kernel
def site : List Cond := [.fieldLink "java/lang/String" 38 "java/lang/String" "COMPACT_STRINGS" "Z", .fieldLink "java/lang/String" 15 "java/lang/String" "coder" "B"]
def tab : Cond := tabOf yN yB 1 (some .boolean) site
def P (x : Addr) (cd z : Int32) (args : Array Value) (s : State) : Prop := args = #[.ref x] ∧ Has x "java/lang/String" "coder" "B" (.int cd) s ∧ (cd = 0 ∨ cd = 1) ∧ StaticIs s "java/lang/String" "COMPACT_STRINGS" "Z" (.int z) ∧ ¬ z = 0
def E (cd : Int32) (r : Option Value) (s u : State) : Prop := XT.PureE (some (.int (1 - cd))) r s u
theorem law (l : Launch) (x : Addr) (cd z : Int32) : Law l yN 1 0 0 0 yB 1 (some .boolean) site (P x cd z) (E cd) [] 0 0 := by
  refine Law.of_walk (plainFor_of_name (by decide +kernel)) (by decide +kernel) (by decide +kernel) (by decide) (fun _ _ h => by rw [h.1]; rfl) (fun _ U U' hal hh h => ⟨h.1, h.2.1.mv hal hh, h.2.2.1, h.2.2.2.1.there hal hh, h.2.2.2.2⟩) (fun r U U' V V' h1 hal h2 h => XT.PureE.mv r U U' V V' h1 hal h2 h) ?_
  intro p e s m args below meth c s₁ X0 hexec hbytes hml hret hlk hnm hown hh0 W hP
  obtain ⟨rfl, hx, hc, s1, hz⟩ := hP
  have c1 : Steps p.tables e below (s₁.setTop (entryFrame m #[.ref x] 1)) (s₁.setTop (mkF m 0 #[.val (.ref x)] [])) := entry rfl
  obtain ⟨T2, X2, q2, st2⟩ := X0.sget hexec hown (wk W (.fieldLink "java/lang/String" 38 "java/lang/String" "COMPACT_STRINGS" "Z")) s1 (fun _ _ h => by rw [hh0]; exact h) (g := (mkF m 0 #[.val (.ref x)] [])) rfl (hb hbytes d0)
  have hh2 := q2.trans hh0
  have c3 : Steps p.tables e below (s₁.setTop (entryFrame m #[.ref x] 1)) (T2.setTop (mkF m 7 #[.val (.ref x)] [.ref x])) := (c1.trans (st2 _ (Steps.refl _))).trans (by
    refine XS.ifNo X2.here hexec rfl (hb hbytes d3) rfl (i0_eq_f hz) ?_
    refine XS.aloadN X2.here hexec rfl (hb hbytes d6) rfl rfl ?_
    exact Steps.refl _)
  obtain ⟨T4, X4, q4, st4⟩ := X2.hget hexec hown (wk W (.fieldLink "java/lang/String" 15 "java/lang/String" "coder" "B")) (hx.mv X2.warmed.alike hh2) (g := (mkF m 7 #[.val (.ref x)] [.ref x])) rfl (rest := []) rfl (hb hbytes d7)
  have c5 : Steps p.tables e below (s₁.setTop (entryFrame m #[.ref x] 1)) (T4.setTop (mkF m 10 #[.val (.ref x)] [.int cd])) := c3.trans (st4 _ (Steps.refl _))
  have c6 : Steps p.tables e below (s₁.setTop (entryFrame m #[.ref x] 1)) (T4.setTop (mkF m 18 #[.val (.ref x)] [.int (1 - cd)])) := by
    rcases hc with rfl | rfl
    · exact c5.trans (by
        refine XS.ifNo X4.here hexec rfl (hb hbytes d10) rfl (i0_ne_f rfl) ?_
        refine iconstV X4.here hexec rfl 1 (hb hbytes d13) (by decide) ?_
        refine XS.goto X4.here hexec rfl (pc0 := 14) rfl (hb hbytes d14) (by decide) rfl ?_
        exact Steps.refl _)
    · exact c5.trans (by
        refine XS.ifYes X4.here hexec rfl (pc0 := 10) rfl (hb hbytes d10) rfl (i0_ne_t (by decide)) (by decide) rfl ?_
        refine iconstV X4.here hexec rfl 0 (hb hbytes d17) (by decide) ?_
        exact Steps.refl _)
  exact ⟨T4, some (.int (1 - cd)), _, _, _, X4, rfl, rfl, rfl, (fun h => by cases h), ⟨rfl, q4.trans hh2⟩, fun fs hl => c6.trans (X4.ireturnOut hexec hret (by rcases hc with rfl | rfl <;> rfl) (Or.inr (Or.inl rfl)) (hb hbytes d18) hl)⟩
end IsL
namespace LChA
def yN : MethodName := ⟨"java/lang/StringLatin1", "charAt", "([BI)C"⟩
abbrev yB : ByteArray := jdk_43_method_2_code
theorem d0 : decode yB 0 = .ok (.iload_n 1, 1) := by decide +kernel
theorem d1 : decode yB 1 = .ok (.aload_n 0, 1) := by decide +kernel
theorem d2 : decode yB 2 = .ok (.arraylength, 1) := by decide +kernel
theorem d3 : decode yB 3 = .ok (.invokestatic 9, 3) := by decide +kernel
theorem d6 : decode yB 6 = .ok (.aload_n 0, 1) := by decide +kernel
theorem d7 : decode yB 7 = .ok (.iload_n 1, 1) := by decide +kernel
theorem d8 : decode yB 8 = .ok (.baload, 1) := by decide +kernel
theorem d9 : decode yB 9 = .ok (.sipush 255, 3) := by decide +kernel
theorem d12 : decode yB 12 = .ok (.iand, 1) := by decide +kernel
theorem d13 : decode yB 13 = .ok (.i2c, 1) := by decide +kernel
theorem d14 : decode yB 14 = .ok (.ireturn, 1) := by decide +kernel
def site : List Cond := [JO.Str_checkIndex.tab] ++ staticW "java/lang/StringLatin1" 9 JO.Str_checkIndex.yN
def tab : Cond := tabOf yN yB 2 (some .char) site
def P (t : Addr) (V : Cell) (i : Nat) (u : Int32) (fm : Value) (args : Array Value) (s : State) : Prop := args = #[.ref t, .int (Int32.ofNat i)] ∧ XT.Arr .byte t V s ∧ V.slots[i]? = some (.int u) ∧ (StaticIs s "jdk/internal/util/Preconditions" "SIOOBE_FORMATTER" "Ljava/util/function/BiFunction;" fm ∧ fm.isRef = true)
def E (u : Int32) (r : Option Value) (s w : State) : Prop := XT.PureE (some (.int (chr8 u))) r s w
theorem law (l : Launch) (t : Addr) (V : Cell) (i : Nat) (u : Int32) (fm : Value) : Law l yN 2 2 2 27 yB 2 (some .char) site (P t V i u fm) (E u) [] 0 0 := by
  refine Law.of_walk (plainFor_of_name (by decide +kernel)) (by decide +kernel) (by decide +kernel) (by decide) (fun _ _ h => by rw [h.1]; rfl) (fun _ U U' hal hh h => ⟨h.1, h.2.1.mv hal hh, h.2.2.1, h.2.2.2.1.there hal hh, h.2.2.2.2⟩) (fun r U U' V V' h1 hal h2 h => XT.PureE.mv r U U' V V' h1 hal h2 h) ?_
  intro p e s m args below meth c s₁ X0 hexec hbytes hml hret hlk hnm hown hh0 W hP
  obtain ⟨rfl, hV, hu, s1, rf⟩ := hP
  have v31 := hV.2.2.2
  have hi : i < V.slots.size := (Array.getElem?_eq_some_iff.mp hu).1
  have c1 : Steps p.tables e below (s₁.setTop (entryFrame m #[.ref t, .int (Int32.ofNat i)] 2)) (s₁.setTop (mkF m 0 #[.val (.ref t), .val (.int (Int32.ofNat i))] [])) := entry rfl
  have c2 : Steps p.tables e below (s₁.setTop (entryFrame m #[.ref t, .int (Int32.ofNat i)] 2)) (s₁.setTop (mkF m 3 #[.val (.ref t), .val (.int (Int32.ofNat i))] [.int (Int32.ofNat V.slots.size), .int (Int32.ofNat i)])) := c1.trans (by
    refine XS.iloadN X0.here hexec rfl (hb hbytes d0) rfl ?_
    refine XS.aloadN X0.here hexec rfl (hb hbytes d1) rfl rfl ?_
    refine X0.alen hexec (hV.mv X0.warmed.alike hh0) rfl rfl (hb hbytes d2) ?_
    exact Steps.refl _)
  obtain ⟨v3, T3, X3, E3, g3⟩ := X0.callS hexec (JO.Str_checkIndex.law l (Int32.ofNat i) (Int32.ofNat V.slots.size) fm) hown (wks W (staticW "java/lang/StringLatin1" 9 JO.Str_checkIndex.yN)) (wk W JO.Str_checkIndex.tab) (W := 0) (Nat.le_of_ble_eq_true rfl) (Nat.le_of_ble_eq_true rfl) (Nat.le_refl _) (Nat.le_refl _) (g := (mkF m 3 #[.val (.ref t), .val (.int (Int32.ofNat i))] [.int (Int32.ofNat V.slots.size), .int (Int32.ofNat i)])) rfl (by rw [hml]; rfl) c2 (argsL := [.int (Int32.ofNat i), .int (Int32.ofNat V.slots.size)]) (rest := []) rfl rfl (by show 2 * 0 + 0 ≤ _; decide) (hb hbytes d3) (⟨rfl, rf, s1.there X0.warmed.alike hh0, Int32.ofNat_not_neg (by omega), lt32 v31 hi⟩)
  obtain ⟨rfl, q3⟩ := E3
  have hh3 := q3.trans hh0
  have c4 : Steps p.tables e below (s₁.setTop (entryFrame m #[.ref t, .int (Int32.ofNat i)] 2)) (T3.setTop (mkF m 14 #[.val (.ref t), .val (.int (Int32.ofNat i))] [.int (chr8 u)])) := Steps.trans g3 (by
    refine XS.aloadN X3.here hexec rfl (hb hbytes d6) rfl rfl ?_
    refine XS.iloadN X3.here hexec rfl (hb hbytes d7) rfl ?_
    refine X3.aget hexec (hV.mv X3.warmed.alike hh3) rfl hu rfl rfl (hb hbytes d8) ?_
    refine sipushV X3.here hexec rfl 255 (hb hbytes d9) (by decide) ?_
    refine XS.iand X3.here hexec rfl (hb hbytes d12) rfl ?_
    refine i2c X3.here hexec rfl (hb hbytes d13) rfl ?_
    exact Steps.refl _)
  exact ⟨T3, some (.int (chr8 u)), _, _, _, X3, rfl, rfl, rfl, (fun h => by cases h), ⟨rfl, hh3⟩, fun fs hl => c4.trans (X3.ireturnOut hexec hret (narrow_c _) (Or.inr (Or.inr (Or.inr (Or.inl rfl)))) (hb hbytes d14) hl)⟩
end LChA
end StrChars
namespace StrChars.Road
open Jvm Sem ClassFile Op Lib Jvm.Stand Jvm.Free Jvm.Free.XT
open Jvm.Lib.Cold (StaticIs)
theorem consq {a : Array Value} {s : State} {c : Jvm.Cond} {L : List Jvm.Cond} (h0 : c.before a s = true) (h : ∀ w ∈ L, w.before a s = true) : ∀ w ∈ c :: L, w.before a s = true := fun w hw => (List.mem_cons.mp hw).elim (fun e => e ▸ h0) (h w)
/-- the words of String.length(), either coding -/
abbrev wordsLen : List Jvm.Cond := [.code Len.yN Len.yB 1 (some .int), .initialized ST, .fieldLink ST 9 ST "value" "[B", .fieldLink ST 38 ST "COMPACT_STRINGS" "Z", .fieldLink ST 15 ST "coder" "B", .code Cdr.yN Cdr.yB 1 (some .byte), .methodLink ST 335 Cdr.yN, .declares Cdr.yN, .selects ST Cdr.yN Cdr.yN, .instanceMethod Cdr.yN]
theorem tabLen_of {a : Array Value} {s : State} (h : ∀ w ∈ wordsLen, w.before a s = true) : Len.tab.before a s = true := by
  have hc : Cdr.tab.before a s = true := unparts (wk h (.code Cdr.yN Cdr.yB 1 (some .byte))) (wks h (.initialized Cdr.yN.cls :: Cdr.site))
  have q := consq hc h
  exact unparts (wk q (.code Len.yN Len.yB 1 (some .int))) (wks q (.initialized Len.yN.cls :: Len.site))
theorem movedLen {Z s : State} {a0 args : Array Value} (hZ : Z.Warmed39 s.vm) (hw : ∀ d ∈ wordsLen, d.before a0 Z = true) : ∀ d ∈ wordsLen, d.before args s = true := fun d hd => by
  have q := hw d hd
  have t : ∀ d ∈ wordsLen, d = .arrayClass .byte ∨ (d.onTables && d.keepsFace) = true := by decide +kernel
  rcases t d hd with rfl | t
  · exact RoadKit.mvA hZ q
  · exact RoadKit.mv hZ q t
/-- the bytes of the chars cs, low before high -/
def wideBytes : List Int32 → List Value
  | [] => []
  | c :: cs => .int (lo8 c) :: .int (hi8 c) :: wideBytes cs
theorem wide_lo (d : Value) : ∀ (cs : List Int32) (j : Nat), j < cs.length → (wideBytes cs).getD (2 * j) d = .int (lo8 (cs.getD j 0))
  | [], j, h => absurd h (Nat.not_lt_zero j)
  | c :: cs, 0, _ => rfl
  | c :: cs, j + 1, h => by
    have q := wide_lo d cs j (by simpa using h)
    rw [show 2 * (j + 1) = 2 * j + 1 + 1 from by omega]
    simpa [wideBytes] using q
theorem wide_hi (d : Value) : ∀ (cs : List Int32) (j : Nat), j < cs.length → (wideBytes cs).getD (2 * j + 1) d = .int (hi8 (cs.getD j 0))
  | [], j, h => absurd h (Nat.not_lt_zero j)
  | c :: cs, 0, _ => rfl
  | c :: cs, j + 1, h => by
    have q := wide_hi d cs j (by simpa using h)
    rw [show 2 * (j + 1) + 1 = 2 * j + 1 + 1 + 1 from by omega]
    simpa [wideBytes] using q
theorem low_at (d : Value) (cs : List Int32) (j : Nat) (h : j < cs.length) : (cs.map fun c => Value.int (lo8 c)).getD j d = .int (lo8 (cs.getD j 0)) := by
  simp [List.getD_eq_getElem?_getD, h]
/-- an array of N2 bytes vs codes the chars cs by the coder cd -/
def CodA (cs : List Int32) (cd N2 : Int32) (vs : List Value) : Prop := (cd = 0 ∧ N2 = Int32.ofNat cs.length ∧ vs = (cs.map fun c => Value.int (lo8 c)) ∧ ∀ c ∈ cs, ¬ 255 < c) ∨ (cd = 1 ∧ N2 = Int32.ofNat (2 * cs.length) ∧ vs = wideBytes cs ∧ ∃ c ∈ cs, 255 < c)
theorem CodA.cod {cs : List Int32} {cd N2 : Int32} {vs : List Value} {V : Cell} (h : CodA cs cd N2 vs) (hn : 2 * cs.length < 2 ^ 31) (hs : V.slots.size = N2.toNatClampNeg) (hv : RoadKit.Has V vs (.int 0)) : Cod cd cs.length (fun j => cs.getD j 0) V := by
  rcases h with ⟨rfl, rfl, rfl, h⟩ | ⟨rfl, rfl, rfl, c, hc, hw⟩
  · rw [n32 (by omega)] at hs
    exact Or.inl ⟨rfl, hs, fun j hj => ⟨by rw [hv j (by omega), low_at _ _ _ hj], by
      have e : cs.getD j 0 = cs[j] := by simp [List.getD_eq_getElem?_getD, hj]
      show ¬ 255 < cs.getD j 0
      rw [e]; exact h _ (List.getElem_mem _)⟩⟩
  · rw [n32 (by omega)] at hs
    obtain ⟨j, hj, rfl⟩ := List.getElem_of_mem hc
    exact Or.inr ⟨rfl, hs, fun j hj => ⟨by rw [hv _ (by omega), wide_lo _ _ _ hj], by rw [hv _ (by omega), wide_hi _ _ _ hj]⟩, j, hj, by
      have e : cs.getD j 0 = cs[j] := by simp [List.getD_eq_getElem?_getD, hj]
      show 255 < cs.getD j 0
      rw [e]; exact hw⟩
/-- an object of exactly java/lang/String, its two fields found: as the laws ask it -/
theorem strObj {Z U : State} {a0 : Array Value} {kI : Nat} (wi : (Jvm.Cond.instantiable ST kI).before a0 Z = true) (al : Z.vm.Alike U.vm) {x : Addr} {v0 c0 : Value} (E : RoadKit.Exa Z U.heap x ST) (V : RoadKit.Fld Z U.heap x ST "value" "[B" v0) (C : RoadKit.Fld Z U.heap x ST "coder" "B" c0) :
    ∃ (D : Cell) (fV fC : Field), Blank ST x D U ∧ Found ST "value" "[B" fV U ∧ Found ST "coder" "B" fC U ∧ D.slots[fV.slot]? = some v0 ∧ D.slots[fC.slot]? = some c0 ∧ RoadKit.slotOf Z ST "value" "[B" = fV.slot ∧ RoadKit.slotOf Z ST "coder" "B" = fC.slot := by
  obtain ⟨D, cfV, kV, iV, fV, hD, gV, stV, knV, obV, asV, slV⟩ := V
  obtain ⟨D', cfC, kC, iC, fC, hD', gC, stC, -, -, asC, slC⟩ := C
  cases hD.symm.trans hD'
  obtain ⟨D2, kD, e1, e2, e3, e4, e5⟩ := E
  cases hD.symm.trans e1
  obtain ⟨c2, k2, i1, i2, i3, -⟩ := Cond.instantiable_spec wi
  cases e2.symm.trans i1
  cases e3.symm.trans i2
  obtain ⟨kU, u1, u2⟩ := al.2.2 _ _ e3
  exact ⟨D, fV, fC, ⟨hD, ⟨knV, fun q hq => by rw [hq] at obV; cases obV⟩, by rw [al.findClass]; exact e2, kU, u1, by rw [u2]; exact i3, by rw [u2]; exact e5 i3⟩, ⟨SBG.found_only al ⟨cfV, kV, iV, gV⟩, stV⟩, ⟨SBG.found_only al ⟨cfC, kC, iC, gC⟩, stC⟩, slV, slC, by simp [RoadKit.slotOf, gV], by simp [RoadKit.slotOf, gC]⟩
theorem sta_is {Z U : State} (al : Z.vm.Alike U.vm) {C n d : String} {v : Value} (S : RoadKit.Sta Z U.heap C n d v) : StaticIs U C n d v := by
  obtain ⟨cfS, iS, kS, fS, st, cS, t1, t2, t3, t4, t5, t6, t7⟩ := S
  exact StaticIs.there (s := { Z with heap := U.heap }) ⟨cfS, iS, kS, fS, st, cS, t1, t2, t3, t4, t5, (fun q => by rw [q] at t6; cases t6), t7⟩ al rfl
/-- **length() OF SUCH A STRING** -/
theorem lenW {p : Program} {l : Launch} {e : Env} {R : Room} {s : State} {args : Array Value} {below : List Frame} {len W : Nat} {Z : State} {a0 : Array Value} {h : Heap} (hZ : Z.Warmed39 s.vm) (hw : ∀ d ∈ wordsLen, d.before a0 Z = true) {kI : Nat} (wi : (Jvm.Cond.instantiable ST kI).before a0 Z = true)
    {x t : Addr} {kb : ClassId} {cs : List Int32} {cd N2 z : Int32} {vs : List Value} (E : RoadKit.Exa Z h x ST) (V : RoadKit.Fld Z h x ST "value" "[B" (.ref t)) (C : RoadKit.Fld Z h x ST "coder" "B" (.int cd)) (K : RoadKit.Arv Z h t kb .byte N2 vs (.int 0)) (hc : CodA cs cd N2 vs) (hb : ∀ c ∈ cs, ¬ c < 0 ∧ ¬ (65535 : Int32) < c)
    (S : RoadKit.Sta Z h ST "COMPACT_STRINGS" "Z" (.int z)) (hz : ¬ z = 0) (l2 : cs.length ≤ 4000) (hfr : 2 ≤ R.frames) (hlo : W + 25 ≤ R.locals) :
    Back l R p e below s args (⟨"java/lang/String", "length", "()I"⟩ : MethodName) len W (fun P a => a = #[.ref x] ∧ P.U.heap = h ∧ P.cells + 0 ≤ R.cells ∧ P.slots + 0 ≤ R.slots)
      (fun P _ v B => ∃ L, (v = some (.int (Int32.ofNat cs.length)) ∧ L = [] ∧ B.U.heap = h) ∧ B.locs = P.locs ++ L ∧ B.cells = P.cells + 0 ∧ B.slots = P.slots + 0) := by
  obtain ⟨A, K1, K2, K3, K4, K5, K6⟩ := K
  have hcod := hc.cod (by omega) K3 K5
  intro m meth c P g ig mk a X hg hsize hdg hW hn hp'
  obtain ⟨rfl, rfl, r1, r2⟩ := hp'
  have al : Z.vm.Alike P.U.vm := hZ.alike.trans X.warmed.alike
  obtain ⟨D, fV, fC, hB, F1, F2, g1, g2, -, -⟩ := strObj wi al E V C
  have hx : Txt x t A cd cs.length (fun j => cs.getD j 0) P.U := ⟨⟨_, hB.2.2.1, D, hB.1, rfl, by cases q : D.vm <;> first | rfl | exact absurd q (hB.2.1.2 _)⟩, Has.of hB F1 g1, Has.of hB F2 g2, ⟨K1.1, State.isArrayOf_alike al K1.2.1, K1.2.2, by rcases hcod with ⟨-, q, -⟩ | ⟨-, q, -⟩ <;> omega⟩, hcod, fun j hj => by
    have e : cs.getD j 0 = cs[j] := by simp [List.getD_eq_getElem?_getD, hj]
    show ¬ cs.getD j 0 < 0 ∧ ¬ 65535 < cs.getD j 0
    rw [e]; exact hb _ (List.getElem_mem _)⟩
  obtain ⟨v, B, X', ⟨⟨hv, hh⟩, hl, hk, hs⟩, st⟩ := Len.pays x t A cd cs.length (fun j => cs.getD j 0) z (tabLen_of (movedLen hZ hw)) hfr hlo m meth c P g ig mk _ X hg hsize hdg hW hn ⟨r1, r2, rfl, hx, sta_is al S, hz⟩
  exact ⟨v, B, X', ⟨[], ⟨hv, rfl, hh⟩, hl, hk, hs⟩, st⟩
end StrChars.Road
namespace StrChars.Road
open Jvm Sem ClassFile Op Lib Jvm.Stand Jvm.Free Jvm.Free.XT
open Jvm.Lib.Cold (StaticIs)
/-- the road's facts of a String, as the laws ask it -/
theorem txt_of {Z U : State} {a0 : Array Value} {kI : Nat} (wi : (Jvm.Cond.instantiable ST kI).before a0 Z = true) (al : Z.vm.Alike U.vm) {x t : Addr} {kb : ClassId} {cs : List Int32} {cd N2 : Int32} {vs : List Value} (E : RoadKit.Exa Z U.heap x ST) (V : RoadKit.Fld Z U.heap x ST "value" "[B" (.ref t)) (C : RoadKit.Fld Z U.heap x ST "coder" "B" (.int cd)) (K : RoadKit.Arv Z U.heap t kb .byte N2 vs (.int 0)) (hc : CodA cs cd N2 vs) (hb : ∀ c ∈ cs, ¬ c < 0 ∧ ¬ (65535 : Int32) < c) (l2 : cs.length ≤ 4000) :
    ∃ A, Txt x t A cd cs.length (fun j => cs.getD j 0) U := by
  obtain ⟨A, K1, K2, K3, K4, K5, K6⟩ := K
  have hcod := hc.cod (by omega) K3 K5
  obtain ⟨D, fV, fC, hB, F1, F2, g1, g2, -, -⟩ := strObj wi al E V C
  exact ⟨A, ⟨_, hB.2.2.1, D, hB.1, rfl, by cases q : D.vm <;> first | rfl | exact absurd q (hB.2.1.2 _)⟩, Has.of hB F1 g1, Has.of hB F2 g2, ⟨K1.1, State.isArrayOf_alike al K1.2.1, K1.2.2, by rcases hcod with ⟨-, q, -⟩ | ⟨-, q, -⟩ <;> omega⟩, hcod, fun j hj => by
    have e : cs.getD j 0 = cs[j] := by simp [List.getD_eq_getElem?_getD, hj]
    show ¬ cs.getD j 0 < 0 ∧ ¬ 65535 < cs.getD j 0
    rw [e]; exact hb _ (List.getElem_mem _)⟩
end StrChars.Road
namespace StrChars
open Jvm Sem ClassFile Op Lib Jvm.Stand Jvm.Free.XT Jvm.Free.ALB Jvm.Free.JM Jvm.Free
open Jvm.Lib.Cold (StaticIs)
namespace ChN
def yN : MethodName := ⟨"java/lang/String", "charAt", "(I)C"⟩
abbrev yB : ByteArray := jdk_42_method_56_code
theorem d0 : decode yB 0 = .ok (.aload_n 0, 1) := by decide +kernel
theorem d1 : decode yB 1 = .ok (.invokevirtual 492, 3) := by decide +kernel
theorem d4 : decode yB 4 = .ok (.ifCond (.eq) 12, 3) := by decide +kernel
theorem d7 : decode yB 7 = .ok (.aload_n 0, 1) := by decide +kernel
theorem d8 : decode yB 8 = .ok (.getfield 9, 3) := by decide +kernel
theorem d11 : decode yB 11 = .ok (.iload_n 1, 1) := by decide +kernel
theorem d12 : decode yB 12 = .ok (.invokestatic 495, 3) := by decide +kernel
theorem d15 : decode yB 15 = .ok (.ireturn, 1) := by decide +kernel
def site : List Cond := [.fieldLink "java/lang/String" 9 "java/lang/String" "value" "[B", IsL.tab, LChA.tab] ++ virtW "java/lang/String" 492 "java/lang/String" IsL.yN IsL.yN ++ staticW "java/lang/String" 495 LChA.yN
def tab : Cond := tabOf yN yB 2 (some .char) site
def P (x t : Addr) (V : Cell) (n : Nat) (f : Nat → Int32) (z : Int32) (fm : Value) (i : Nat) (args : Array Value) (s : State) : Prop := args = #[.ref x, .int (Int32.ofNat i)] ∧ Txt x t V 0 n f s ∧ i < n ∧ StaticIs s "java/lang/String" "COMPACT_STRINGS" "Z" (.int z) ∧ ¬ z = 0 ∧ StaticIs s "jdk/internal/util/Preconditions" "SIOOBE_FORMATTER" "Ljava/util/function/BiFunction;" fm ∧ fm.isRef = true
def E (f : Nat → Int32) (i : Nat) (r : Option Value) (s u : State) : Prop := XT.PureE (some (.int (f i))) r s u
/-- charAt(i) of a Latin-1 String of n chars, i < n: f i -/
theorem law (l : Launch) (x t : Addr) (V : Cell) (n : Nat) (f : Nat → Int32) (z : Int32) (fm : Value) (i : Nat) : Law l yN 2 1 3 40 yB 2 (some .char) site (P x t V n f z fm i) (E f i) [] 0 0 := by
  refine Law.of_walk (plainFor_of_name (by decide +kernel)) (by decide +kernel) (by decide +kernel) (by decide) (fun _ _ h => by rw [h.1]; rfl) (fun _ U U' hal hh h => ⟨h.1, h.2.1.mv hal hh, h.2.2.1, h.2.2.2.1.there hal hh, h.2.2.2.2.1, h.2.2.2.2.2.1.there hal hh, h.2.2.2.2.2.2⟩) (fun r U U' V V' h1 hal h2 h => XT.PureE.mv r U U' V V' h1 hal h2 h) ?_
  intro p e s m args below meth c s₁ X0 hexec hbytes hml hret hlk hnm hown hh0 W hP
  obtain ⟨rfl, hx, hi, s1, hz, s3, rf⟩ := hP
  have v31 := hx.2.2.2.1.2.2.2
  have hr := hx.2.2.2.2.2 i hi
  have hx0 := hx.mv X0.warmed.alike hh0
  have c1 : Steps p.tables e below (s₁.setTop (entryFrame m #[.ref x, .int (Int32.ofNat i)] 2)) (s₁.setTop (mkF m 1 #[.val (.ref x), .val (.int (Int32.ofNat i))] [.ref x])) := Steps.trans (entry rfl) (by
    show Steps p.tables e below (s₁.setTop (mkF m 0 #[.val (.ref x), .val (.int (Int32.ofNat i))] [])) _
    refine XS.aloadN X0.here hexec rfl (hb hbytes d0) rfl rfl ?_
    exact Steps.refl _)
  obtain ⟨v2, T2, X2, E2, g2⟩ := X0.callV hexec (IsL.law l x 0 z) hown (wks W (virtW "java/lang/String" 492 "java/lang/String" IsL.yN IsL.yN)) rfl (by decide) (wk W IsL.tab) (W := 0) (Nat.le_of_ble_eq_true rfl) (Nat.le_of_ble_eq_true rfl) (Nat.le_refl _) (Nat.le_refl _) (hx0.1.fc X0.warmed.alike) hx0.1.is (g := (mkF m 1 #[.val (.ref x), .val (.int (Int32.ofNat i))] [.ref x])) rfl (by rw [hml]; rfl) c1 (argsL := []) (rest := []) rfl rfl (by show 2 * 0 + 0 ≤ _; decide) (hb hbytes d1) (⟨rfl, hx0.2.2.1, hx.2.2.2.2.1.cd, s1.there X0.warmed.alike hh0, hz⟩)
  obtain ⟨rfl, q2⟩ := E2
  have hh2 := q2.trans hh0
  have hx2 := hx.mv X2.warmed.alike hh2
  obtain ⟨-, k1, k2⟩ | ⟨k0, -⟩ := hx.2.2.2.2.1
  · have c3 : Steps p.tables e below (s₁.setTop (entryFrame m #[.ref x, .int (Int32.ofNat i)] 2)) (T2.setTop (mkF m 8 #[.val (.ref x), .val (.int (Int32.ofNat i))] [.ref x])) := Steps.trans g2 (by
      refine XS.ifNo X2.here hexec rfl (hb hbytes d4) rfl (i0_eq_f (by decide)) ?_
      refine XS.aloadN X2.here hexec rfl (hb hbytes d7) rfl rfl ?_
      exact Steps.refl _)
    obtain ⟨T4, X4, q4, st4⟩ := X2.hget hexec hown (wk W (.fieldLink "java/lang/String" 9 "java/lang/String" "value" "[B")) hx2.2.1 (g := (mkF m 8 #[.val (.ref x), .val (.int (Int32.ofNat i))] [.ref x])) rfl (rest := []) rfl (hb hbytes d8)
    have hh4 := q4.trans hh2
    have c5 : Steps p.tables e below (s₁.setTop (entryFrame m #[.ref x, .int (Int32.ofNat i)] 2)) (T4.setTop (mkF m 12 #[.val (.ref x), .val (.int (Int32.ofNat i))] [.int (Int32.ofNat i), .ref t])) := (c3.trans (st4 _ (Steps.refl _))).trans (by
      refine XS.iloadN X4.here hexec rfl (hb hbytes d11) rfl ?_
      exact Steps.refl _)
    obtain ⟨v6, T6, X6, E6, g6⟩ := X4.callS hexec (LChA.law l t V i (lo8 (f i)) fm) hown (wks W (staticW "java/lang/String" 495 LChA.yN)) (wk W LChA.tab) (W := 0) (Nat.le_of_ble_eq_true rfl) (Nat.le_of_ble_eq_true rfl) (Nat.le_refl _) (Nat.le_refl _) (g := (mkF m 12 #[.val (.ref x), .val (.int (Int32.ofNat i))] [.int (Int32.ofNat i), .ref t])) rfl (by rw [hml]; rfl) c5 (argsL := [.ref t, .int (Int32.ofNat i)]) (rest := []) rfl rfl (by show 2 * 0 + 0 ≤ _; decide) (hb hbytes d12) (⟨rfl, hx.2.2.2.1.mv X4.warmed.alike hh4, (k2 i hi).1, s3.there X4.warmed.alike hh4, rf⟩)
    obtain ⟨rfl, q6⟩ := E6
    rw [chr8_lo8 hr.1 (k2 i hi).2] at g6
    exact ⟨T6, some (.int (f i)), _, _, _, X6, rfl, rfl, rfl, (fun h => by cases h), ⟨rfl, q6.trans hh4⟩, fun fs hl => Steps.trans g6 (X6.ireturnOut hexec hret (narrow_ch hr.1 hr.2) (Or.inr (Or.inr (Or.inr (Or.inl rfl)))) (hb hbytes d15) hl)⟩
  · exact absurd k0 (by decide)
theorem pays {l : Launch} {R : Room} {p : Program} {e : Env} {below : List Frame} {s : State} {sargs : Array Value} {len W : Nat} (x t : Addr) (V : Cell) (n : Nat) (f : Nat → Int32) (z : Int32) (fm : Value) (i : Nat) (htab : tab.before sargs s = true) (hfr : 4 ≤ R.frames) (hlo : W + 53 ≤ R.locals) :
    Back l R p e below s sargs yN len W (fun A₁ a₁ => A₁.cells + 0 ≤ R.cells ∧ A₁.slots + 0 ≤ R.slots ∧ P x t V n f z fm i a₁ A₁.U) (fun A₁ _ v₁ B₁ => E f i v₁ A₁.U B₁.U ∧ B₁.locs = A₁.locs ++ [] ∧ B₁.cells = A₁.cells + 0 ∧ B₁.slots = A₁.slots + 0) :=
  (law l x t V n f z fm i).pays htab hfr (by omega)
end ChN
end StrChars
namespace StrChars.Road
open Jvm Sem ClassFile Op Lib Jvm.Stand Jvm.Free Jvm.Free.XT
open Jvm.Lib.Cold (StaticIs)
/-- the words of String.charAt(int), the Latin-1 road alone -/
abbrev wordsChN : List Jvm.Cond := [.code ChN.yN ChN.yB 2 (some .char), .initialized ST, .fieldLink ST 9 ST "value" "[B", .fieldLink ST 38 ST "COMPACT_STRINGS" "Z", .fieldLink ST 15 ST "coder" "B", .code IsL.yN IsL.yB 1 (some .boolean), .methodLink ST 492 IsL.yN, .declares IsL.yN, .selects ST IsL.yN IsL.yN, .instanceMethod IsL.yN,
  .methodLink ST 495 LChA.yN, .static LChA.yN, .code LChA.yN LChA.yB 2 (some .char), .initialized "java/lang/StringLatin1", .methodLink "java/lang/StringLatin1" 9 JO.Str_checkIndex.yN, .static JO.Str_checkIndex.yN, .code JO.Str_checkIndex.yN JO.Str_checkIndex.yB 2 none,
  .fieldLink ST 1053 "jdk/internal/util/Preconditions" "SIOOBE_FORMATTER" "Ljava/util/function/BiFunction;", .methodLink ST 1059 JC.PreCheck.yN, .static JC.PreCheck.yN, .code JC.PreCheck.yN JC.PreCheck.yB 3 (some .int), .initialized "jdk/internal/util/Preconditions"]
theorem tabChN_of {a : Array Value} {s : State} (h : ∀ w ∈ wordsChN, w.before a s = true) : ChN.tab.before a s = true := by
  have hp : JC.PreCheck.tab.before a s = true := unparts (wk h (.code JC.PreCheck.yN JC.PreCheck.yB 3 (some .int))) (wks h (.initialized JC.PreCheck.yN.cls :: JC.PreCheck.site))
  have qk := consq hp h
  have hk : JO.Str_checkIndex.tab.before a s = true := unparts (wk qk (.code JO.Str_checkIndex.yN JO.Str_checkIndex.yB 2 none)) (wks qk (.initialized JO.Str_checkIndex.yN.cls :: JO.Str_checkIndex.site))
  have ql := consq hk h
  have hl : LChA.tab.before a s = true := unparts (wk ql (.code LChA.yN LChA.yB 2 (some .char))) (wks ql (.initialized LChA.yN.cls :: LChA.site))
  have hi : IsL.tab.before a s = true := unparts (wk h (.code IsL.yN IsL.yB 1 (some .boolean))) (wks h (.initialized IsL.yN.cls :: IsL.site))
  have q := consq hi (consq hl h)
  exact unparts (wk q (.code ChN.yN ChN.yB 2 (some .char))) (wks q (.initialized ChN.yN.cls :: ChN.site))
theorem movedChN {Z s : State} {a0 args : Array Value} (hZ : Z.Warmed39 s.vm) (hw : ∀ d ∈ wordsChN, d.before a0 Z = true) : ∀ d ∈ wordsChN, d.before args s = true := fun d hd => by
  have t : ∀ d ∈ wordsChN, (d.onTables && d.keepsFace) = true := by decide +kernel
  exact RoadKit.mv hZ (hw d hd) (t d hd)
/-- **charAt(i) OF A LATIN-1 STRING**, i < n: the char -/
theorem chN {p : Program} {l : Launch} {e : Env} {R : Room} {s : State} {args : Array Value} {below : List Frame} {len W : Nat} {Z : State} {a0 : Array Value} {h : Heap} (hZ : Z.Warmed39 s.vm) (hw : ∀ d ∈ wordsChN, d.before a0 Z = true) {kI : Nat} (wi : (Jvm.Cond.instantiable ST kI).before a0 Z = true)
    {x t : Addr} {kb : ClassId} {cs : List Int32} {N2 z : Int32} {vs : List Value} {fm : Value} {i : Nat} {j : Int32} (E : RoadKit.Exa Z h x ST) (V : RoadKit.Fld Z h x ST "value" "[B" (.ref t)) (C : RoadKit.Fld Z h x ST "coder" "B" (.int 0)) (K : RoadKit.Arv Z h t kb .byte N2 vs (.int 0)) (hc : CodA cs 0 N2 vs) (hb : ∀ c ∈ cs, ¬ c < 0 ∧ ¬ (65535 : Int32) < c)
    (S : RoadKit.Sta Z h ST "COMPACT_STRINGS" "Z" (.int z)) (hz : ¬ z = 0) (F : RoadKit.Sta Z h "jdk/internal/util/Preconditions" "SIOOBE_FORMATTER" "Ljava/util/function/BiFunction;" fm) (rf : fm.isRef = true) (l2 : cs.length ≤ 4000) (hi : i < cs.length) (hj : j = Int32.ofNat i) (hfr : 4 ≤ R.frames) (hlo : W + 53 ≤ R.locals) :
    Back l R p e below s args (⟨"java/lang/String", "charAt", "(I)C"⟩ : MethodName) len W (fun P a => a = #[.ref x, .int j] ∧ P.U.heap = h ∧ P.cells + 0 ≤ R.cells ∧ P.slots + 0 ≤ R.slots)
      (fun P _ v B => ∃ L, (v = some (.int (cs.getD i 0)) ∧ L = [] ∧ B.U.heap = h) ∧ B.locs = P.locs ++ L ∧ B.cells = P.cells + 0 ∧ B.slots = P.slots + 0) := by
  subst hj
  intro m meth c P g ig mk a X hg hsize hdg hW hn hp'
  obtain ⟨rfl, rfl, r1, r2⟩ := hp'
  have al : Z.vm.Alike P.U.vm := hZ.alike.trans X.warmed.alike
  obtain ⟨A, hx⟩ := txt_of wi al E V C K hc hb l2
  obtain ⟨v, B, X', ⟨⟨hv, hh⟩, hl, hk, hs⟩, st⟩ := ChN.pays x t A cs.length (fun j => cs.getD j 0) z fm i (tabChN_of (movedChN hZ hw)) hfr hlo m meth c P g ig mk _ X hg hsize hdg hW hn ⟨r1, r2, rfl, hx, hi, sta_is al S, hz, sta_is al F, rf⟩
  exact ⟨v, B, X', ⟨[], ⟨hv, rfl, hh⟩, hl, hk, hs⟩, st⟩
/-- what backV says of its String, as the contracts of this text ask it: cs's low bytes, coder 0 -/
theorem codOf {cs : List Int32} {n : Nat} (hn : cs.length = n) (hb : ∀ c ∈ cs, ¬ 255 < c) : CodA cs 0 (Int32.ofNat n) ((cs.map lo8).map Value.int) := Or.inl ⟨rfl, by rw [hn], by simp [List.map_map, Function.comp_def], hb⟩
end StrChars.Road
end Jvm.Pilot.@@N@@
namespace Jvm.Pilot.@@N@@
open Jvm Jvm.ClassFile Sem Op Lib Jvm.Free Jvm.Stand Jvm.LawKit Jvm.RoadKit Bundle Jvm.Pilot.@@N@@.Jvm.D
namespace Wd
section Strs
variable {p : Program} {l : Launch} {e : Env} {R : Room} {s : State} {args : Array Value} {below : List Frame} {Z : State} {EL : List (String × Nat)} {n0 : Nat} {h h' : Heap} {WL FL : List Addr} {a0 : Array Value} {len W : Nat} {x t : Addr} {cs : List Int32}
abbrev lat (cs : List Int32) : List Value := (cs.map fun c => c.toInt8.toInt32).map Value.int
/-- x is a String of the chars cs, each at most 255; t its bytes -/
def StrL (Z : State) (h : Heap) (x t : Addr) (cs : List Int32) : Prop :=
  Exa Z h x "java/lang/String" ∧ Fld Z h x "java/lang/String" "value" "[B" (.ref t) ∧ Fld Z h x "java/lang/String" "coder" "B" (.int 0) ∧ (∃ kb, Arv Z h t kb .byte (Int32.ofNat cs.length) (lat cs) (.int 0)) ∧ (∀ c ∈ cs, ¬ c < 0 ∧ ¬ (255 : Int32) < c) ∧ cs.length ≤ 4000
theorem StrL.ext (S : StrL Z h x t cs) (E : Ext h h') : StrL Z h' x t cs := by
  obtain ⟨s1, s2, s3, ⟨kb, s4⟩, s5⟩ := S; exact ⟨s1.ext E, s2.ext E, s3.ext E, ⟨kb, s4.ext E⟩, s5⟩
theorem StrL.keep {ws : List Addr} (S : StrL Z h x t cs) (K : Keep h h' ws) (h1 : x ∉ ws) (h2 : t ∉ ws) : StrL Z h' x t cs := by
  obtain ⟨s1, s2, s3, ⟨kb, s4⟩, s5⟩ := S; exact ⟨s1.keep K, s2.keep K h1, s3.keep K h1, ⟨kb, s4.keep K h2⟩, s5⟩
theorem StrL.wr {a : Addr} {sl : Nat} {v : Value} (S : StrL Z h x t cs) (W : Wr h h' a sl v) (h1 : x ≠ a) (h2 : t ≠ a) : StrL Z h' x t cs := by
  obtain ⟨s1, s2, s3, ⟨kb, s4⟩, s5⟩ := S; exact ⟨s1.wr W, s2.other W (Or.inl h1), s3.other W (Or.inl h1), ⟨kb, s4.other W h2⟩, s5⟩
/-- what new String(chars) leaves -/
def QNew (Z : State) (x : Addr) (cs : List Int32) (h : Heap) (v : Option Value) (h' : Heap) (WL' FL' : List Addr) : Prop := ∃ t : Addr, v = none ∧ WL' = [] ∧ FL' = [t] ∧ Keep h h' [x] ∧ StrL Z h' x t cs
theorem StrL.up (S : StrL Z h x t cs) : ∀ c ∈ cs, ¬ c < 0 ∧ ¬ (65535 : Int32) < c := fun c hc => ⟨(S.2.2.2.2.1 c hc).1, fun q => (S.2.2.2.2.1 c hc).2 (by rw [Int32.lt_iff_toInt_lt] at q ⊢; have e1 : (65535 : Int32).toInt = 65535 := rfl; have e2 : (255 : Int32).toInt = 255 := rfl; omega)⟩
theorem StrL.cod (S : StrL Z h x t cs) : StrChars.Road.CodA cs 0 (Int32.ofNat cs.length) (lat cs) := StrChars.Road.codOf rfl (fun c hc => (S.2.2.2.2.1 c hc).2)
theorem pay_new (hw : ∀ d ∈ StrChars.Road.words, d.before a0 Z = true) {kI : Nat} (wi : (Jvm.Cond.instantiable "java/lang/String" kI).before a0 Z = true) {b : Addr} {kC : ClassId} {d v0 c0 : Value} {z N : Int32} {n : Nat} (ge : n0 ≤ x) (ge' : n0 ≤ h.size) (hx : x ∈ WL) (E : Exa Z h x "java/lang/String") (V : Fld Z h x "java/lang/String" "value" "[B" v0) (C : Fld Z h x "java/lang/String" "coder" "B" c0) (A : Arv Z h b kC .char N (cs.map Value.int) d) (S : Sta Z h "java/lang/String" "COMPACT_STRINGS" "Z" (.int z)) (hz : ¬ z = 0)
    (hn : cs.length = n) (hN : N = Int32.ofNat n) (l0 : 0 < n) (l2 : n ≤ 4000) (hp : ∀ c ∈ cs, ¬ c < 0 ∧ ¬ (255 : Int32) < c) (hfr : 4 ≤ R.frames) (hlo : W + 65 ≤ R.locals) :
    Pay l R p e below s args Z EL n0 (⟨"java/lang/String", "<init>", "([C)V"⟩ : MethodName) len W #[.ref x, .ref b] h WL FL 1 n (QNew Z x cs h) :=
  Pay.ofN (fun vm0 hZ => StrChars.Road.backV (n0 := n0) hZ hw wi ge ge' E V C A S hz hn hN l0 l2 hp rfl hfr hlo) (fun v h' L ⟨q1, q2, q3, q4, q5, t, kb, q6, q7, q8, q9, q10⟩ => by
    refine ⟨q2, [x], [t], q3, allS hx all0, allS ⟨q7, q10.lt⟩ all0, t, q1, rfl, rfl, q3, q4, q9, q5, ⟨kb, ?_⟩, hp, by omega⟩
    rw [hN] at q10; rw [hn]; exact q10)
theorem pay_len (hw : ∀ d ∈ StrChars.Road.wordsLen, d.before a0 Z = true) {kI : Nat} (wi : (Jvm.Cond.instantiable "java/lang/String" kI).before a0 Z = true) {z : Int32} (S : StrL Z h x t cs) (O : Sta Z h "java/lang/String" "COMPACT_STRINGS" "Z" (.int z)) (hz : ¬ z = 0) (hfr : 2 ≤ R.frames) (hlo : W + 25 ≤ R.locals) :
    Pay l R p e below s args Z EL n0 (⟨"java/lang/String", "length", "()I"⟩ : MethodName) len W #[.ref x] h WL FL 0 0 (fun v h' WL' FL' => v = some (.int (Int32.ofNat cs.length)) ∧ WL' = [] ∧ FL' = [] ∧ h' = h) := by
  have up := S.up; have cd := S.cod
  obtain ⟨s1, s2, s3, ⟨kb, s4⟩, s5, s6⟩ := S
  exact Pay.ofN (Qn := fun v h' L => v = some (.int (Int32.ofNat cs.length)) ∧ L = [] ∧ h' = h) (fun vm0 hZ => StrChars.Road.lenW hZ hw wi s1 s2 s3 s4 cd up O hz s6 hfr hlo) (fun v h' L ⟨q1, q2, q3⟩ => by
    subst q2 q3
    exact ⟨Fr.nil _, [], [], Keep.refl _ _, all0, all0, q1, rfl, rfl, rfl⟩)
theorem pay_chr (hw : ∀ d ∈ StrChars.Road.wordsChN, d.before a0 Z = true) {kI : Nat} (wi : (Jvm.Cond.instantiable "java/lang/String" kI).before a0 Z = true) {z : Int32} {fm : Value} {i : Nat} {j : Int32} (S : StrL Z h x t cs) (O : Sta Z h "java/lang/String" "COMPACT_STRINGS" "Z" (.int z)) (hz : ¬ z = 0) (F : Sta Z h "jdk/internal/util/Preconditions" "SIOOBE_FORMATTER" "Ljava/util/function/BiFunction;" fm) (rf : fm.isRef = true) (hi : i < cs.length) (hj : j = Int32.ofNat i) (hfr : 4 ≤ R.frames) (hlo : W + 53 ≤ R.locals) :
    Pay l R p e below s args Z EL n0 (⟨"java/lang/String", "charAt", "(I)C"⟩ : MethodName) len W #[.ref x, .int j] h WL FL 0 0 (fun v h' WL' FL' => v = some (.int (cs.getD i 0)) ∧ WL' = [] ∧ FL' = [] ∧ h' = h) := by
  have up := S.up; have cd := S.cod
  obtain ⟨s1, s2, s3, ⟨kb, s4⟩, s5, s6⟩ := S
  exact Pay.ofN (Qn := fun v h' L => v = some (.int (cs.getD i 0)) ∧ L = [] ∧ h' = h) (fun vm0 hZ => StrChars.Road.chN hZ hw wi s1 s2 s3 s4 cd up O hz F rf s6 hi hj hfr hlo) (fun v h' L ⟨q1, q2, q3⟩ => by
    subst q2 q3
    exact ⟨Fr.nil _, [], [], Keep.refl _ _, all0, all0, q1, rfl, rfl, rfl⟩)
theorem lat_len : (lat cs).length = cs.length := by simp [lat]
theorem lat_app (cs ds : List Int32) : lat (cs ++ ds) = lat cs ++ lat ds := by simp [lat]
theorem oN {n : Nat} (h : n < 2147483648) : (Int32.ofNat n).toInt = (n : Int) := Int32.toInt_ofNat_small h
theorem oC {n : Nat} (h : n < 2147483648) : (Int32.ofNat n).toNatClampNeg = n := by simp only [Int32.toNatClampNeg, oN h]; rfl
theorem oNn {n : Nat} (h : n < 2147483648) : ¬ Int32.ofNat n < 0 := by
  rw [Int32.lt_iff_toInt_lt, oN h]; have e2 : (0 : Int32).toInt = 0 := rfl; omega
theorem oLt {a b : Nat} (h1 : a < 2147483648) (h2 : b < 2147483648) : Int32.ofNat a < Int32.ofNat b ↔ a < b := by
  rw [Int32.lt_iff_toInt_lt, oN h1, oN h2]; omega
theorem oEq {a b : Nat} (h1 : a < 2147483648) (h2 : b < 2147483648) : Int32.ofNat a = Int32.ofNat b ↔ a = b := by
  rw [← Int32.toInt_inj, oN h1, oN h2]; omega
theorem oapp (cs ds : List Int32) : Int32.ofNat cs.length + Int32.ofNat ds.length = Int32.ofNat (cs ++ ds).length := by rw [List.length_append, Int32.ofNat_add]
theorem oNo {a b : Nat} (h : a ≤ b) (hb : b < 2147483648) : ¬ (0 : Int32) < Int32.ofNat a - Int32.ofNat b := by
  have q := c_isub (Int32.ofNat a) (Int32.ofNat b)
  have r := rng32 (Int32.ofNat a - Int32.ofNat b)
  rw [oN (show a < 2147483648 by omega), oN hb] at q
  rw [Int32.lt_iff_toInt_lt]; have e2 : (0 : Int32).toInt = 0 := rfl
  omega
theorem shl0 (x : Int32) : x <<< ((0 : Int32) &&& 31) = x := by
  have e : ((0 : Int32) &&& 31) = 0 := rfl
  rw [e]; simp
theorem shr0 (x : Int32) : x >>> ((0 : Int32) &&& 31) = x := by
  have e : ((0 : Int32) &&& 31) = 0 := rfl
  rw [e]; simp
/-- x is a StringBuilder that holds the chars cs, each at most 255; t its bytes, cap many -/
def SB (Z : State) (h : Heap) (x t : Addr) (cap : Nat) (cs : List Int32) : Prop :=
  Exa Z h x "java/lang/StringBuilder" ∧ Fld Z h x "java/lang/AbstractStringBuilder" "value" "[B" (.ref t) ∧ Fld Z h x "java/lang/AbstractStringBuilder" "coder" "B" (.int 0) ∧ Fld Z h x "java/lang/AbstractStringBuilder" "count" "I" (.int (Int32.ofNat cs.length)) ∧ (∃ kb, Arv Z h t kb .byte (Int32.ofNat cap) (lat cs) (.int 0)) ∧ (∀ c ∈ cs, ¬ c < 0 ∧ ¬ (255 : Int32) < c) ∧ cs.length ≤ cap ∧ cap ≤ 4000 ∧ Exa Z h t "[B"
theorem SB.ext {cap : Nat} (S : SB Z h x t cap cs) (E : Ext h h') : SB Z h' x t cap cs := by
  obtain ⟨s1, s2, s3, s4, ⟨kb, s5⟩, s6, s7, s8, s9⟩ := S; exact ⟨s1.ext E, s2.ext E, s3.ext E, s4.ext E, ⟨kb, s5.ext E⟩, s6, s7, s8, s9.ext E⟩
theorem SB.keep {cap : Nat} {ws : List Addr} (S : SB Z h x t cap cs) (K : Keep h h' ws) (h1 : x ∉ ws) (h2 : t ∉ ws) : SB Z h' x t cap cs := by
  obtain ⟨s1, s2, s3, s4, ⟨kb, s5⟩, s6, s7, s8, s9⟩ := S; exact ⟨s1.keep K, s2.keep K h1, s3.keep K h1, s4.keep K h1, ⟨kb, s5.keep K h2⟩, s6, s7, s8, s9.keep K⟩
theorem SB.wr {cap : Nat} {a : Addr} {sl : Nat} {v : Value} (S : SB Z h x t cap cs) (W : Wr h h' a sl v) (h1 : x ≠ a) (h2 : t ≠ a) : SB Z h' x t cap cs := by
  obtain ⟨s1, s2, s3, s4, ⟨kb, s5⟩, s6, s7, s8, s9⟩ := S; exact ⟨s1.wr W, s2.other W (Or.inl h1), s3.other W (Or.inl h1), s4.other W (Or.inl h1), ⟨kb, s5.other W h2⟩, s6, s7, s8, s9.wr W⟩
section Copy
variable {m : MethodId} {meth : Method} {c : Code} {T : State} {cells slots : Nat} {own : String} {WL0 FL0 : List Addr} {rm : Room} {Q : Option Value → Heap → List Addr → List Addr → Prop} {pc : Nat} {Ls : Array Slot} {rest : List Value}
/-- arraycopy of the bytes of ds behind those of cs -/
theorem WS.cpL (X : WS p l e R s m args below meth c Z EL n0 own T h WL FL cells slots) (hx : p.tables.exec = Jvm.exec) {index : Nat} (w1 : (Jvm.Cond.methodLink own index Jvm.Stand.acN).before a0 Z = true) (w2 : (Jvm.Cond.native Jvm.Stand.acN).before a0 Z = true) (w3 : (Jvm.Cond.static Jvm.Stand.acN).before a0 Z = true) (w4 : (Jvm.Cond.initialized "java/lang/System").before a0 Z = true)
    {a b : Addr} {ka kb : ClassId} {capA cap : Nat} {cs ds : List Int32} (A : Arv Z h a ka .byte (Int32.ofNat capA) (lat ds) (.int 0)) (B : Arv Z h b kb .byte (Int32.ofNat cap) (lat cs) (.int 0))
    (hA : ds.length ≤ capA) (hB : cs.length + ds.length ≤ cap) (hc1 : capA ≤ 4000) (hc2 : cap ≤ 4000) (hb : b ∈ WL)
    (hsize : Ls.size = c.maxLocals) (hd : decode c.code pc = .ok (.invokestatic index, 3)) (hf : 1 ≤ R.frames) {W : Nat} (hW : (rest.map fun v => v.category).sum ≤ W) (hlo : W + 18 ≤ R.locals)
    (k : ∀ T' h', WS p l e R s m args below meth c Z EL n0 own T' h' WL FL cells slots → Keep h h' [b] → Arv Z h' b kb .byte (Int32.ofNat cap) (lat (cs ++ ds)) (.int 0) → Wo p e s below Z EL n0 WL0 FL0 rm Q T' (mkF m (pc + 3) Ls rest)) :
    Wo p e s below Z EL n0 WL0 FL0 rm Q T (mkF m pc Ls (.int (Int32.ofNat ds.length) :: .int (Int32.ofNat cs.length) :: .ref b :: .int 0 :: .ref a :: rest)) := by
  have z0 : (0 : Int32).toNatClampNeg = 0 := rfl
  have e1 : (Int32.ofNat ds.length).toNatClampNeg = ds.length := oC (by omega)
  have e2 : (Int32.ofNat cs.length).toNatClampNeg = cs.length := oC (by omega)
  have e3 : (Int32.ofNat cap).toNatClampNeg = cap := oC (by omega)
  have e4 : (Int32.ofNat capA).toNatClampNeg = capA := oC (by omega)
  have B' := B.pad (pad_rep (lat cs) (.int 0) (cap - cs.length))
  refine X.cpA hx w1 w2 w3 w4 A B' (Or.inl ⟨rfl, rfl⟩) (us := lat ds) (vr := lat (cs ++ ds) ++ List.replicate (cap - cs.length - ds.length) (.int 0)) (by decide) (oNn (by omega)) (oNn (by omega)) (by rw [z0, e1, e4]; omega) (by rw [e1, e2, e3]; omega) ?_ (by rw [e1, e2]; simp [lat_len]; omega) ?_ hb hsize hd hf hW hlo (fun T' h' X' K V => k T' h' X' K (V.pad (fun i => (pad_rep _ _ _ i).symm)))
  · rw [e1, z0]
    apply List.ext_getElem
    · simp [lat_len]
    · intro i h1 h2
      simp only [List.getElem_map, List.getElem_range, Nat.zero_add]
      rw [List.getD_eq_getElem?_getD, List.getElem?_eq_getElem h1]; simp [lat]
  · rw [e1, e2]
    have l1 : (lat cs).length = cs.length := lat_len
    rw [List.take_left' l1, lat_app, List.append_assoc, List.append_assoc]
    congr 2
    rw [List.drop_append, l1, List.drop_eq_nil_of_le (by rw [l1]; omega), List.nil_append, List.drop_replicate]
    congr 1; omega
/-- a byte array, copied whole into a longer fresh one -/
theorem WS.cpG (X : WS p l e R s m args below meth c Z EL n0 own T h WL FL cells slots) (hx : p.tables.exec = Jvm.exec) {index : Nat} (w1 : (Jvm.Cond.methodLink own index Jvm.Stand.acN).before a0 Z = true) (w2 : (Jvm.Cond.native Jvm.Stand.acN).before a0 Z = true) (w3 : (Jvm.Cond.static Jvm.Stand.acN).before a0 Z = true) (w4 : (Jvm.Cond.initialized "java/lang/System").before a0 Z = true)
    {a b : Addr} {ka kb : ClassId} {cap cap2 : Nat} {cs : List Int32} (A : Arv Z h a ka .byte (Int32.ofNat cap) (lat cs) (.int 0)) (B : Arv Z h b kb .byte (Int32.ofNat cap2) [] (.int 0))
    (hA : cs.length ≤ cap) (hB : cap ≤ cap2) (hc2 : cap2 ≤ 4000) (hb : b ∈ WL)
    (hsize : Ls.size = c.maxLocals) (hd : decode c.code pc = .ok (.invokestatic index, 3)) (hf : 1 ≤ R.frames) {W : Nat} (hW : (rest.map fun v => v.category).sum ≤ W) (hlo : W + 18 ≤ R.locals)
    (k : ∀ T' h', WS p l e R s m args below meth c Z EL n0 own T' h' WL FL cells slots → Keep h h' [b] → Arv Z h' b kb .byte (Int32.ofNat cap2) (lat cs) (.int 0) → Wo p e s below Z EL n0 WL0 FL0 rm Q T' (mkF m (pc + 3) Ls rest)) :
    Wo p e s below Z EL n0 WL0 FL0 rm Q T (mkF m pc Ls (.int (Int32.ofNat cap) :: .int 0 :: .ref b :: .int 0 :: .ref a :: rest)) := by
  have hl : (cs ++ List.replicate (cap - cs.length) 0).length = cap := by simp; omega
  have e2 : lat (cs ++ List.replicate (cap - cs.length) 0) = lat cs ++ List.replicate (cap - cs.length) (.int 0) := by
    rw [lat_app]; congr 1; simp [lat]
  have A' : Arv Z h a ka .byte (Int32.ofNat cap) (lat (cs ++ List.replicate (cap - cs.length) 0)) (.int 0) := by rw [e2]; exact A.pad (pad_rep (lat cs) (.int 0) (cap - cs.length))
  have r := X.cpL (Q := Q) (rm := rm) (WL0 := WL0) (FL0 := FL0) (Ls := Ls) (rest := rest) (pc := pc) hx w1 w2 w3 w4 (cs := []) (cap := cap2) A' B (Nat.le_of_eq hl) (by rw [hl]; show 0 + cap ≤ cap2; omega) (show cap ≤ 4000 by omega) hc2 hb hsize hd hf hW hlo (fun T' h' X' K V => k T' h' X' K (by
    rw [List.nil_append, e2] at V; exact V.pad (fun i => (pad_rep _ _ _ i).symm)))
  rw [hl] at r
  exact r
/-- an array of bytes, cloned -/
theorem WS.clone (X : WS p l e R s m args below meth c Z EL n0 own T h WL FL cells slots) (hx : p.tables.exec = Jvm.exec) {index : Nat} {ad : String} (w1 : (Jvm.Cond.methodLink own index ⟨ad, "clone", "()Ljava/lang/Object;"⟩).before a0 Z = true) (w2 : (Jvm.Cond.sameMethod ad "java/lang/Object" "clone" "()Ljava/lang/Object;").before a0 Z = true) (w3 : (Jvm.Cond.native ⟨"java/lang/Object", "clone", "()Ljava/lang/Object;"⟩).before a0 Z = true) (w4 : (Jvm.Cond.instanceMethod ⟨"java/lang/Object", "clone", "()Ljava/lang/Object;"⟩).before a0 Z = true)
    (w5 : (Jvm.Cond.selects ad ⟨ad, "clone", "()Ljava/lang/Object;"⟩ ⟨"java/lang/Object", "clone", "()Ljava/lang/Object;"⟩).before a0 Z = true) (w6 : (Jvm.Cond.castable ad "java/lang/Cloneable").before a0 Z = true)
    {a : Addr} {ka : ClassId} {ty : FieldType} {z : Int32} {vs : List Value} {dv : Value} (A : Arv Z h a ka ty z vs dv) (E0 : Exa Z h a ad)
    (hsize : Ls.size = c.maxLocals) (hd : decode c.code pc = .ok (.invokevirtual index, 3)) (hf : 1 ≤ R.frames) {W cap : Nat} (hW : (rest.map fun v => v.category).sum ≤ W) (hlo : W + 14 ≤ R.locals) (hcap : z.toNatClampNeg ≤ cap) (hc : cells + 1 ≤ R.cells) (hl : slots + cap ≤ R.slots)
    (k : ∀ T' h' b, WS p l e R s m args below meth c Z EL n0 own T' h' (b :: WL) FL (cells + 1) (slots + cap) → Ext h h' → h.size ≤ b → Exa Z h' b ad → Arv Z h' b ka ty z vs dv → Wo p e s below Z EL n0 WL0 FL0 rm Q T' (mkF m (pc + 3) Ls (.ref b :: rest))) :
    Wo p e s below Z EL n0 WL0 FL0 rm Q T (mkF m pc Ls (.ref a :: rest)) := by
  obtain ⟨vm0, k0, locs, X, eT, hS, hk, hZ, hown, N, I⟩ := X
  obtain ⟨T', h', X', eT', E, V, Ex, st⟩ := RoadKit.cloneH X hx hZ hown w1 w2 w3 w4 w5 w6 eT A.arh E0 (g := mkF m pc Ls (.ref a :: rest)) rfl hsize rfl hd hf (W := W) (cap := cap) (by show 2 * 0 + _ ≤ _; omega) hlo hcap hc hl
  exact Wo.by st (k T' h' h.size ⟨vm0, k0, _, X', eT', hS, Nat.le_trans hk E.1, hZ, hown, N, I.new E V.lt⟩ E (Nat.le_refl _) Ex V)
theorem WS.newPE (X : WS p l e R s m args below meth c Z EL n0 own T h WL FL cells slots) (hx : p.tables.exec = Jvm.exec) {aty : ArrayType} (w : (Jvm.Cond.arrayClass (newarray.typeOf aty)).before a0 Z = true) {n : Int32} (hd : decode c.code pc = .ok (.newarray aty, 2))
    (hn : ¬ n < 0) {cap : Nat} (hcap : n.toNatClampNeg ≤ cap) (hb : cap * 8 ≤ 536870912) (hc : cells + 1 ≤ R.cells) (hl : slots + cap ≤ R.slots) {ad : String} (had : "[" ++ (newarray.typeOf aty).toString = ad)
    (k : ∀ T' h' a ka, WS p l e R s m args below meth c Z EL n0 own T' h' (a :: WL) FL (cells + 1) (slots + cap) → Ext h h' → h.size ≤ a → Arv Z h' a ka (newarray.typeOf aty) n [] (defaultValue (newarray.typeOf aty)) → Exa Z h' a ad → Wo p e s below Z EL n0 WL0 FL0 rm Q T' (mkF m (pc + 2) Ls (.ref a :: rest))) :
    Wo p e s below Z EL n0 WL0 FL0 rm Q T (mkF m pc Ls (.int n :: rest)) := by
  obtain ⟨vm0, k0, locs, X, eT, hS, hk, hZ, hown, N, I⟩ := X
  obtain ⟨T', h', cA, X', eT', E, A, Ex, st⟩ := RoadKit.newPE X hx hZ w eT (g := mkF m pc Ls (.int n :: rest)) rfl hd rfl hn hcap hb hc hl had
  exact Wo.by st (k T' h' h.size cA ⟨vm0, k0, _, X', eT', hS, Nat.le_trans hk E.1, hZ, hown, N, I.new E A.lt⟩ E (Nat.le_refl _) (Arv.new A hn) Ex)
end Copy
theorem oAd (a b : Nat) : Int32.ofNat a + Int32.ofNat b = Int32.ofNat (a + b) := (Int32.ofNat_add a b).symm
theorem oSb {a b : Nat} (h : b ≤ a) : Int32.ofNat a - Int32.ofNat b = Int32.ofNat (a - b) := by
  obtain ⟨k, rfl⟩ : ∃ k, a = k + b := ⟨a - b, by omega⟩
  rw [Int32.ofNat_add, Int32.add_sub_cancel, Nat.add_sub_cancel]
theorem oA2 (a : Nat) : Int32.ofNat a + 2 = Int32.ofNat (a + 2) := oAd a 2
theorem oA16 (a : Nat) : Int32.ofNat a + 16 = Int32.ofNat (a + 16) := oAd a 16
theorem oPos {n : Nat} (h : 0 < n) (h2 : n < 2147483648) : (0 : Int32) < Int32.ofNat n := by
  rw [Int32.lt_iff_toInt_lt, oN h2]; have e2 : (0 : Int32).toInt = 0 := rfl; omega
theorem oBig {n : Nat} (h : n ≤ 4000) : ¬ (2147483639 : Int32) < Int32.ofNat n := by
  rw [Int32.lt_iff_toInt_lt, oN (by omega)]; have e2 : (2147483639 : Int32).toInt = 2147483639 := rfl; omega
theorem oMax {n : Nat} (h : n ≤ 4000) : ¬ Int32.ofNat n = (2147483647 : Int32) := by
  rw [← Int32.toInt_inj, oN (by omega)]; have e2 : (2147483647 : Int32).toInt = 2147483647 := rfl; omega
theorem oLt31 {n : Nat} (h : n ≤ 4000) : Int32.ofNat n < (2147483631 : Int32) := by
  rw [Int32.lt_iff_toInt_lt, oN (by omega)]; have e2 : (2147483631 : Int32).toInt = 2147483631 := rfl; omega
theorem oYes {a b : Nat} (h : b < a) (ha : a < 2147483648) : (0 : Int32) < Int32.ofNat a - Int32.ofNat b := by
  rw [oSb (Nat.le_of_lt h)]; exact oPos (by omega) (by omega)
end Strs
end Wd
end Jvm.Pilot.@@N@@
namespace Jvm.Pilot.@@N@@
open Jvm Jvm.ClassFile Sem Op Lib Jvm.Free Jvm.Stand Jvm.LawKit Jvm.RoadKit Bundle Jvm.Pilot.@@N@@.Jvm.D Wd
theorem nlt {a b : Nat} (h : Nat.ble (a + 1) b = true) : a < b := Nat.le_of_ble_eq_true h
theorem nle {a b : Nat} (h : Nat.ble a b = true) : a ≤ b := Nat.le_of_ble_eq_true h
theorem fc0 {P : Int32 → Prop} : ∀ c ∈ ([] : List Int32), P c := fun _ q => nomatch q
theorem fcS {P : Int32 → Prop} {y : Int32} {L : List Int32} (q : P y) (r : ∀ c ∈ L, P c) : ∀ c ∈ y :: L, P c := fun c z => (List.mem_cons.mp z).elim (fun u => u ▸ q) (r c)
theorem msk {x m : Int32} {k : Nat} (hk : k ≤ 31) (hm : m.toBitVec.toNat = 2 ^ k - 1) : (x &&& m).toInt = x.toInt % (2 ^ k : Nat) := c_mask x m k hk hm
theorem rng255 (x : Int32) : ¬ (x &&& 255) < 0 ∧ ¬ (255 : Int32) < (x &&& 255) := by
  have h := c_mask x 255 8 (by decide) (by decide)
  rw [Int32.lt_iff_toInt_lt, Int32.lt_iff_toInt_lt, h]
  have e1 : (255 : Int32).toInt = 255 := rfl
  have e2 : (0 : Int32).toInt = 0 := rfl
  have e3 : ((2 ^ 8 : Nat) : Int) = 256 := rfl
  rw [e1, e2, e3]
  omega
theorem nar255 (x : Int32) : nar .char (x &&& 255) = x &&& 255 := i2c_mask x
theorem and3 (x : Int32) : x &&& 3 = 0 ∨ x &&& 3 = 1 ∨ x &&& 3 = 2 ∨ x &&& 3 = 3 := by
  have h := c_mask x 3 2 (by decide) (by decide)
  have e3 : ((2 ^ 2 : Nat) : Int) = 4 := rfl
  rw [e3] at h
  have : (x &&& 3).toInt = 0 ∨ (x &&& 3).toInt = 1 ∨ (x &&& 3).toInt = 2 ∨ (x &&& 3).toInt = 3 := by omega
  rcases this with q | q | q | q
  · exact Or.inl (Int32.toInt_inj.mp q)
  · exact Or.inr (Or.inl (Int32.toInt_inj.mp q))
  · exact Or.inr (Or.inr (Or.inl (Int32.toInt_inj.mp q)))
  · exact Or.inr (Or.inr (Or.inr (Int32.toInt_inj.mp q)))
theorem ofn {c : Int32} (h : ¬ c < 0 ∧ ¬ (255 : Int32) < c) : ∃ k : Fin 256, c = Int32.ofNat k.val := by
  have h1 := h.1; have h2 := h.2
  rw [Int32.lt_iff_toInt_lt] at h1 h2
  have e1 : (255 : Int32).toInt = 255 := rfl
  have e2 : (0 : Int32).toInt = 0 := rfl
  rw [e2] at h1; rw [e1] at h2
  refine ⟨⟨c.toInt.toNat, by omega⟩, Int32.toInt_inj.mp ?_⟩
  rw [Int32.toInt_ofNat_small (show c.toInt.toNat < 2 ^ 31 by omega)]
  show c.toInt = ((c.toInt.toNat : Nat) : Int)
  omega
theorem narR {c : Int32} (h : ¬ c < 0 ∧ ¬ (255 : Int32) < c) : nar .char c = c := by
  obtain ⟨k, rfl⟩ := ofn h
  exact (by decide +kernel : ∀ k : Fin 256, nar .char (Int32.ofNat k.val) = Int32.ofNat k.val) k
theorem b8 {c : Int32} (h : ¬ c < 0 ∧ ¬ (255 : Int32) < c) (d : Int32) (hd : ∀ k : Fin 256, (Int32.ofNat k.val).toInt8.toInt32 = d ↔ Int32.ofNat k.val = d) : c.toInt8.toInt32 = d ↔ c = d := by
  obtain ⟨k, rfl⟩ := ofn h
  exact hd k
def EL1 : List (String × Nat) := consts_1
theorem jLt {j : Int32} {i a : Nat} (hj : j = Int32.ofNat i) (hi : i < 2147483648) (ha : a < 2147483648) : j < Int32.ofNat a ↔ i < a := by subst hj; exact oLt hi ha
theorem tlD {ss ts : List Int32} {i : Nat} : (ss ++ ts).getD (ss.length + i) 0 = ts.getD i 0 := by
  rw [List.getD_eq_getElem?_getD, List.getElem?_append_right (Nat.le_add_right _ _), Nat.add_sub_cancel_left, List.getD_eq_getElem?_getD]
theorem narB {c : Int32} : nar .byte (c.toInt8.toInt32) = c.toInt8.toInt32 := by simp [nar]
def Cx (a0 : Array Value) (Z : State) (gC : Int32) (gF : Value) : Prop := (∀ d ∈ tables_1, d.before a0 Z = true) ∧ (Sta Z Z.heap "java/lang/String" "COMPACT_STRINGS" "Z" (.int gC)) ∧ (¬ gC = (0 : Int32)) ∧ (Sta Z Z.heap "jdk/internal/util/Preconditions" "SIOOBE_FORMATTER" "Ljava/util/function/BiFunction;" gF) ∧ (gF.isRef = true)
def txt (i : Nat) : String := match tables_1[i]? with | some (Jvm.Cond.stringLink _ _ t) => t | _ => ""
theorem w0 {Z : State} {a0 : Array Value} {gC : Int32} {gF : Value} (cx : Cx a0 Z gC gF) : (Jvm.Cond.stringLink "com/example/estate4/estate4/jdbc/SelectTextPagedPinLaw" (23 : Nat) (txt 0)).before a0 Z = true := cx.1 _ (List.mem_of_getElem? (i := 0) rfl)
theorem w1 {Z : State} {a0 : Array Value} {gC : Int32} {gF : Value} (cx : Cx a0 Z gC gF) : (Jvm.Cond.initialized "java/lang/String").before a0 Z = true := cx.1 _ (List.mem_of_getElem? (i := 1) rfl)
theorem w2 {Z : State} {a0 : Array Value} {gC : Int32} {gF : Value} (cx : Cx a0 Z gC gF) : (Jvm.Cond.instantiable "java/lang/String" (4 : Nat)).before a0 Z = true := cx.1 _ (List.mem_of_getElem? (i := 2) rfl)
theorem w3 {Z : State} {a0 : Array Value} {gC : Int32} {gF : Value} (cx : Cx a0 Z gC gF) : (Jvm.Cond.arrayClass Jvm.ClassFile.FieldType.byte).before a0 Z = true := cx.1 _ (List.mem_of_getElem? (i := 3) rfl)
theorem w4 {Z : State} {a0 : Array Value} {gC : Int32} {gF : Value} (cx : Cx a0 Z gC gF) : (Jvm.Cond.laysFinal "java/lang/String" "java/lang/String" "value" "[B").before a0 Z = true := cx.1 _ (List.mem_of_getElem? (i := 4) rfl)
theorem w5 {Z : State} {a0 : Array Value} {gC : Int32} {gF : Value} (cx : Cx a0 Z gC gF) : (Jvm.Cond.laysFinal "java/lang/String" "java/lang/String" "coder" "B").before a0 Z = true := cx.1 _ (List.mem_of_getElem? (i := 5) rfl)
theorem w8 {Z : State} {a0 : Array Value} {gC : Int32} {gF : Value} (cx : Cx a0 Z gC gF) : (Jvm.Cond.methodLink "com/example/estate4/estate4/jdbc/SelectTextPagedPinLaw" (38 : Nat) ({ cls := "com/example/estate4/estate4/jdbc/SelectText", name := "paged", desc := "(Ljava/lang/String;ZZ)Ljava/lang/String;" } : Jvm.MethodName)).before a0 Z = true := cx.1 _ (List.mem_of_getElem? (i := 8) rfl)
theorem w9 {Z : State} {a0 : Array Value} {gC : Int32} {gF : Value} (cx : Cx a0 Z gC gF) : (Jvm.Cond.static ({ cls := "com/example/estate4/estate4/jdbc/SelectText", name := "paged", desc := "(Ljava/lang/String;ZZ)Ljava/lang/String;" } : Jvm.MethodName)).before a0 Z = true := cx.1 _ (List.mem_of_getElem? (i := 9) rfl)
theorem w10 {Z : State} {a0 : Array Value} {gC : Int32} {gF : Value} (cx : Cx a0 Z gC gF) : (Jvm.Cond.initialized "com/example/estate4/estate4/jdbc/SelectText").before a0 Z = true := cx.1 _ (List.mem_of_getElem? (i := 10) rfl)
theorem w11 {Z : State} {a0 : Array Value} {gC : Int32} {gF : Value} (cx : Cx a0 Z gC gF) : (Jvm.Cond.code ({ cls := "com/example/estate4/estate4/jdbc/SelectText", name := "paged", desc := "(Ljava/lang/String;ZZ)Ljava/lang/String;" } : Jvm.MethodName) prog_6_method_24_code (4 : Nat) (Option.some (Jvm.ClassFile.FieldType.object "java/lang/String"))).before a0 Z = true := cx.1 _ (List.mem_of_getElem? (i := 11) rfl)
theorem w12 {Z : State} {a0 : Array Value} {gC : Int32} {gF : Value} (cx : Cx a0 Z gC gF) : (Jvm.Cond.classLink "com/example/estate4/estate4/jdbc/SelectText" (28 : Nat) "java/lang/StringBuilder").before a0 Z = true := cx.1 _ (List.mem_of_getElem? (i := 12) rfl)
theorem w13 {Z : State} {a0 : Array Value} {gC : Int32} {gF : Value} (cx : Cx a0 Z gC gF) : (Jvm.Cond.instantiable "java/lang/StringBuilder" (4 : Nat)).before a0 Z = true := cx.1 _ (List.mem_of_getElem? (i := 13) rfl)
theorem w14 {Z : State} {a0 : Array Value} {gC : Int32} {gF : Value} (cx : Cx a0 Z gC gF) : (Jvm.Cond.initialized "java/lang/StringBuilder").before a0 Z = true := cx.1 _ (List.mem_of_getElem? (i := 14) rfl)
theorem w15 {Z : State} {a0 : Array Value} {gC : Int32} {gF : Value} (cx : Cx a0 Z gC gF) : (Jvm.Cond.methodLink "com/example/estate4/estate4/jdbc/SelectText" (124 : Nat) ({ cls := "java/lang/StringBuilder", name := "<init>", desc := "(Ljava/lang/String;)V" } : Jvm.MethodName)).before a0 Z = true := cx.1 _ (List.mem_of_getElem? (i := 15) rfl)
theorem w16 {Z : State} {a0 : Array Value} {gC : Int32} {gF : Value} (cx : Cx a0 Z gC gF) : (Jvm.Cond.instanceMethod ({ cls := "java/lang/StringBuilder", name := "<init>", desc := "(Ljava/lang/String;)V" } : Jvm.MethodName)).before a0 Z = true := cx.1 _ (List.mem_of_getElem? (i := 16) rfl)
theorem w17 {Z : State} {a0 : Array Value} {gC : Int32} {gF : Value} (cx : Cx a0 Z gC gF) : (Jvm.Cond.code ({ cls := "java/lang/StringBuilder", name := "<init>", desc := "(Ljava/lang/String;)V" } : Jvm.MethodName) jdk_67_method_3_code (2 : Nat) (Option.none : Option Jvm.ClassFile.FieldType)).before a0 Z = true := cx.1 _ (List.mem_of_getElem? (i := 17) rfl)
theorem w18 {Z : State} {a0 : Array Value} {gC : Int32} {gF : Value} (cx : Cx a0 Z gC gF) : (Jvm.Cond.methodLink "java/lang/StringBuilder" (7 : Nat) ({ cls := "java/lang/AbstractStringBuilder", name := "<init>", desc := "(Ljava/lang/String;)V" } : Jvm.MethodName)).before a0 Z = true := cx.1 _ (List.mem_of_getElem? (i := 18) rfl)
theorem w19 {Z : State} {a0 : Array Value} {gC : Int32} {gF : Value} (cx : Cx a0 Z gC gF) : (Jvm.Cond.instanceMethod ({ cls := "java/lang/AbstractStringBuilder", name := "<init>", desc := "(Ljava/lang/String;)V" } : Jvm.MethodName)).before a0 Z = true := cx.1 _ (List.mem_of_getElem? (i := 19) rfl)
theorem w22 {Z : State} {a0 : Array Value} {gC : Int32} {gF : Value} (cx : Cx a0 Z gC gF) : (Jvm.Cond.initialized "java/lang/AbstractStringBuilder").before a0 Z = true := cx.1 _ (List.mem_of_getElem? (i := 22) rfl)
theorem w23 {Z : State} {a0 : Array Value} {gC : Int32} {gF : Value} (cx : Cx a0 Z gC gF) : (Jvm.Cond.code ({ cls := "java/lang/AbstractStringBuilder", name := "<init>", desc := "(Ljava/lang/String;)V" } : Jvm.MethodName) jdk_68_method_3_code (5 : Nat) (Option.none : Option Jvm.ClassFile.FieldType)).before a0 Z = true := cx.1 _ (List.mem_of_getElem? (i := 23) rfl)
theorem w24 {Z : State} {a0 : Array Value} {gC : Int32} {gF : Value} (cx : Cx a0 Z gC gF) : (Jvm.Cond.methodLink "java/lang/AbstractStringBuilder" (3 : Nat) ({ cls := "java/lang/Object", name := "<init>", desc := "()V" } : Jvm.MethodName)).before a0 Z = true := cx.1 _ (List.mem_of_getElem? (i := 24) rfl)
theorem w25 {Z : State} {a0 : Array Value} {gC : Int32} {gF : Value} (cx : Cx a0 Z gC gF) : (Jvm.Cond.instanceMethod ({ cls := "java/lang/Object", name := "<init>", desc := "()V" } : Jvm.MethodName)).before a0 Z = true := cx.1 _ (List.mem_of_getElem? (i := 25) rfl)
theorem w26 {Z : State} {a0 : Array Value} {gC : Int32} {gF : Value} (cx : Cx a0 Z gC gF) : (Jvm.Cond.code ({ cls := "java/lang/Object", name := "<init>", desc := "()V" } : Jvm.MethodName) object_method_1_code (1 : Nat) (Option.none : Option Jvm.ClassFile.FieldType)).before a0 Z = true := cx.1 _ (List.mem_of_getElem? (i := 26) rfl)
theorem w27 {Z : State} {a0 : Array Value} {gC : Int32} {gF : Value} (cx : Cx a0 Z gC gF) : (Jvm.Cond.methodLink "java/lang/AbstractStringBuilder" (32 : Nat) ({ cls := "java/lang/String", name := "length", desc := "()I" } : Jvm.MethodName)).before a0 Z = true := cx.1 _ (List.mem_of_getElem? (i := 27) rfl)
theorem w28 {Z : State} {a0 : Array Value} {gC : Int32} {gF : Value} (cx : Cx a0 Z gC gF) : (Jvm.Cond.declares ({ cls := "java/lang/String", name := "length", desc := "()I" } : Jvm.MethodName)).before a0 Z = true := cx.1 _ (List.mem_of_getElem? (i := 28) rfl)
theorem w29 {Z : State} {a0 : Array Value} {gC : Int32} {gF : Value} (cx : Cx a0 Z gC gF) : (Jvm.Cond.instanceMethod ({ cls := "java/lang/String", name := "length", desc := "()I" } : Jvm.MethodName)).before a0 Z = true := cx.1 _ (List.mem_of_getElem? (i := 29) rfl)
theorem w30 {Z : State} {a0 : Array Value} {gC : Int32} {gF : Value} (cx : Cx a0 Z gC gF) : (Jvm.Cond.selects "java/lang/String" ({ cls := "java/lang/String", name := "length", desc := "()I" } : Jvm.MethodName) ({ cls := "java/lang/String", name := "length", desc := "()I" } : Jvm.MethodName)).before a0 Z = true := cx.1 _ (List.mem_of_getElem? (i := 30) rfl)
theorem w32 {Z : State} {a0 : Array Value} {gC : Int32} {gF : Value} (cx : Cx a0 Z gC gF) : (Jvm.Cond.fieldLink "java/lang/String" (9 : Nat) "java/lang/String" "value" "[B").before a0 Z = true := cx.1 _ (List.mem_of_getElem? (i := 32) rfl)
theorem w33 {Z : State} {a0 : Array Value} {gC : Int32} {gF : Value} (cx : Cx a0 Z gC gF) : (Jvm.Cond.methodLink "java/lang/String" (335 : Nat) ({ cls := "java/lang/String", name := "coder", desc := "()B" } : Jvm.MethodName)).before a0 Z = true := cx.1 _ (List.mem_of_getElem? (i := 33) rfl)
theorem w34 {Z : State} {a0 : Array Value} {gC : Int32} {gF : Value} (cx : Cx a0 Z gC gF) : (Jvm.Cond.declares ({ cls := "java/lang/String", name := "coder", desc := "()B" } : Jvm.MethodName)).before a0 Z = true := cx.1 _ (List.mem_of_getElem? (i := 34) rfl)
theorem w35 {Z : State} {a0 : Array Value} {gC : Int32} {gF : Value} (cx : Cx a0 Z gC gF) : (Jvm.Cond.instanceMethod ({ cls := "java/lang/String", name := "coder", desc := "()B" } : Jvm.MethodName)).before a0 Z = true := cx.1 _ (List.mem_of_getElem? (i := 35) rfl)
theorem w36 {Z : State} {a0 : Array Value} {gC : Int32} {gF : Value} (cx : Cx a0 Z gC gF) : (Jvm.Cond.selects "java/lang/String" ({ cls := "java/lang/String", name := "coder", desc := "()B" } : Jvm.MethodName) ({ cls := "java/lang/String", name := "coder", desc := "()B" } : Jvm.MethodName)).before a0 Z = true := cx.1 _ (List.mem_of_getElem? (i := 36) rfl)
theorem w37 {Z : State} {a0 : Array Value} {gC : Int32} {gF : Value} (cx : Cx a0 Z gC gF) : (Jvm.Cond.code ({ cls := "java/lang/String", name := "coder", desc := "()B" } : Jvm.MethodName) jdk_42_method_152_code (1 : Nat) (Option.some Jvm.ClassFile.FieldType.byte)).before a0 Z = true := cx.1 _ (List.mem_of_getElem? (i := 37) rfl)
theorem w38 {Z : State} {a0 : Array Value} {gC : Int32} {gF : Value} (cx : Cx a0 Z gC gF) : (Jvm.Cond.fieldLink "java/lang/String" (38 : Nat) "java/lang/String" "COMPACT_STRINGS" "Z").before a0 Z = true := cx.1 _ (List.mem_of_getElem? (i := 38) rfl)
theorem w39 {Z : State} {a0 : Array Value} {gC : Int32} {gF : Value} (cx : Cx a0 Z gC gF) : (Jvm.Cond.fieldLink "java/lang/String" (15 : Nat) "java/lang/String" "coder" "B").before a0 Z = true := cx.1 _ (List.mem_of_getElem? (i := 39) rfl)
theorem w40 {Z : State} {a0 : Array Value} {gC : Int32} {gF : Value} (cx : Cx a0 Z gC gF) : (Jvm.Cond.constant "java/lang/AbstractStringBuilder" (38 : Nat) (2147483631 : Int32)).before a0 Z = true := cx.1 _ (List.mem_of_getElem? (i := 40) rfl)
theorem w41 {Z : State} {a0 : Array Value} {gC : Int32} {gF : Value} (cx : Cx a0 Z gC gF) : (Jvm.Cond.methodLink "java/lang/AbstractStringBuilder" (40 : Nat) ({ cls := "java/lang/String", name := "coder", desc := "()B" } : Jvm.MethodName)).before a0 Z = true := cx.1 _ (List.mem_of_getElem? (i := 41) rfl)
theorem w42 {Z : State} {a0 : Array Value} {gC : Int32} {gF : Value} (cx : Cx a0 Z gC gF) : (Jvm.Cond.fieldLink "java/lang/AbstractStringBuilder" (22 : Nat) "java/lang/AbstractStringBuilder" "coder" "B").before a0 Z = true := cx.1 _ (List.mem_of_getElem? (i := 42) rfl)
theorem w43 {Z : State} {a0 : Array Value} {gC : Int32} {gF : Value} (cx : Cx a0 Z gC gF) : (Jvm.Cond.lays "java/lang/StringBuilder" "java/lang/AbstractStringBuilder" "coder" "B").before a0 Z = true := cx.1 _ (List.mem_of_getElem? (i := 43) rfl)
theorem w44 {Z : State} {a0 : Array Value} {gC : Int32} {gF : Value} (cx : Cx a0 Z gC gF) : (Jvm.Cond.fieldLink "java/lang/AbstractStringBuilder" (15 : Nat) "java/lang/AbstractStringBuilder" "value" "[B").before a0 Z = true := cx.1 _ (List.mem_of_getElem? (i := 44) rfl)
theorem w45 {Z : State} {a0 : Array Value} {gC : Int32} {gF : Value} (cx : Cx a0 Z gC gF) : (Jvm.Cond.lays "java/lang/StringBuilder" "java/lang/AbstractStringBuilder" "value" "[B").before a0 Z = true := cx.1 _ (List.mem_of_getElem? (i := 45) rfl)
theorem w46 {Z : State} {a0 : Array Value} {gC : Int32} {gF : Value} (cx : Cx a0 Z gC gF) : (Jvm.Cond.methodLink "java/lang/AbstractStringBuilder" (43 : Nat) ({ cls := "java/lang/AbstractStringBuilder", name := "append", desc := "(Ljava/lang/String;)Ljava/lang/AbstractStringBuilder;" } : Jvm.MethodName)).before a0 Z = true := cx.1 _ (List.mem_of_getElem? (i := 46) rfl)
theorem w47 {Z : State} {a0 : Array Value} {gC : Int32} {gF : Value} (cx : Cx a0 Z gC gF) : (Jvm.Cond.declares ({ cls := "java/lang/AbstractStringBuilder", name := "append", desc := "(Ljava/lang/String;)Ljava/lang/AbstractStringBuilder;" } : Jvm.MethodName)).before a0 Z = true := cx.1 _ (List.mem_of_getElem? (i := 47) rfl)
theorem w48 {Z : State} {a0 : Array Value} {gC : Int32} {gF : Value} (cx : Cx a0 Z gC gF) : (Jvm.Cond.instanceMethod ({ cls := "java/lang/AbstractStringBuilder", name := "append", desc := "(Ljava/lang/String;)Ljava/lang/AbstractStringBuilder;" } : Jvm.MethodName)).before a0 Z = true := cx.1 _ (List.mem_of_getElem? (i := 48) rfl)
theorem w49 {Z : State} {a0 : Array Value} {gC : Int32} {gF : Value} (cx : Cx a0 Z gC gF) : (Jvm.Cond.selects "java/lang/StringBuilder" ({ cls := "java/lang/AbstractStringBuilder", name := "append", desc := "(Ljava/lang/String;)Ljava/lang/AbstractStringBuilder;" } : Jvm.MethodName) ({ cls := "java/lang/StringBuilder", name := "append", desc := "(Ljava/lang/String;)Ljava/lang/AbstractStringBuilder;" } : Jvm.MethodName)).before a0 Z = true := cx.1 _ (List.mem_of_getElem? (i := 49) rfl)
theorem w50 {Z : State} {a0 : Array Value} {gC : Int32} {gF : Value} (cx : Cx a0 Z gC gF) : (Jvm.Cond.instanceMethod ({ cls := "java/lang/StringBuilder", name := "append", desc := "(Ljava/lang/String;)Ljava/lang/AbstractStringBuilder;" } : Jvm.MethodName)).before a0 Z = true := cx.1 _ (List.mem_of_getElem? (i := 50) rfl)
theorem w51 {Z : State} {a0 : Array Value} {gC : Int32} {gF : Value} (cx : Cx a0 Z gC gF) : (Jvm.Cond.code ({ cls := "java/lang/StringBuilder", name := "append", desc := "(Ljava/lang/String;)Ljava/lang/AbstractStringBuilder;" } : Jvm.MethodName) jdk_67_method_80_code (2 : Nat) (Option.some (Jvm.ClassFile.FieldType.object "java/lang/AbstractStringBuilder"))).before a0 Z = true := cx.1 _ (List.mem_of_getElem? (i := 51) rfl)
theorem w52 {Z : State} {a0 : Array Value} {gC : Int32} {gF : Value} (cx : Cx a0 Z gC gF) : (Jvm.Cond.methodLink "java/lang/StringBuilder" (23 : Nat) ({ cls := "java/lang/StringBuilder", name := "append", desc := "(Ljava/lang/String;)Ljava/lang/StringBuilder;" } : Jvm.MethodName)).before a0 Z = true := cx.1 _ (List.mem_of_getElem? (i := 52) rfl)
theorem w53 {Z : State} {a0 : Array Value} {gC : Int32} {gF : Value} (cx : Cx a0 Z gC gF) : (Jvm.Cond.declares ({ cls := "java/lang/StringBuilder", name := "append", desc := "(Ljava/lang/String;)Ljava/lang/StringBuilder;" } : Jvm.MethodName)).before a0 Z = true := cx.1 _ (List.mem_of_getElem? (i := 53) rfl)
theorem w54 {Z : State} {a0 : Array Value} {gC : Int32} {gF : Value} (cx : Cx a0 Z gC gF) : (Jvm.Cond.instanceMethod ({ cls := "java/lang/StringBuilder", name := "append", desc := "(Ljava/lang/String;)Ljava/lang/StringBuilder;" } : Jvm.MethodName)).before a0 Z = true := cx.1 _ (List.mem_of_getElem? (i := 54) rfl)
theorem w55 {Z : State} {a0 : Array Value} {gC : Int32} {gF : Value} (cx : Cx a0 Z gC gF) : (Jvm.Cond.selects "java/lang/StringBuilder" ({ cls := "java/lang/StringBuilder", name := "append", desc := "(Ljava/lang/String;)Ljava/lang/StringBuilder;" } : Jvm.MethodName) ({ cls := "java/lang/StringBuilder", name := "append", desc := "(Ljava/lang/String;)Ljava/lang/StringBuilder;" } : Jvm.MethodName)).before a0 Z = true := cx.1 _ (List.mem_of_getElem? (i := 55) rfl)
theorem w56 {Z : State} {a0 : Array Value} {gC : Int32} {gF : Value} (cx : Cx a0 Z gC gF) : (Jvm.Cond.code ({ cls := "java/lang/StringBuilder", name := "append", desc := "(Ljava/lang/String;)Ljava/lang/StringBuilder;" } : Jvm.MethodName) jdk_67_method_7_code (2 : Nat) (Option.some (Jvm.ClassFile.FieldType.object "java/lang/StringBuilder"))).before a0 Z = true := cx.1 _ (List.mem_of_getElem? (i := 56) rfl)
theorem w57 {Z : State} {a0 : Array Value} {gC : Int32} {gF : Value} (cx : Cx a0 Z gC gF) : (Jvm.Cond.methodLink "java/lang/StringBuilder" (29 : Nat) ({ cls := "java/lang/AbstractStringBuilder", name := "append", desc := "(Ljava/lang/String;)Ljava/lang/AbstractStringBuilder;" } : Jvm.MethodName)).before a0 Z = true := cx.1 _ (List.mem_of_getElem? (i := 57) rfl)
theorem w58 {Z : State} {a0 : Array Value} {gC : Int32} {gF : Value} (cx : Cx a0 Z gC gF) : (Jvm.Cond.superclass "java/lang/StringBuilder" "java/lang/AbstractStringBuilder").before a0 Z = true := cx.1 _ (List.mem_of_getElem? (i := 58) rfl)
theorem w59 {Z : State} {a0 : Array Value} {gC : Int32} {gF : Value} (cx : Cx a0 Z gC gF) : (Jvm.Cond.code ({ cls := "java/lang/AbstractStringBuilder", name := "append", desc := "(Ljava/lang/String;)Ljava/lang/AbstractStringBuilder;" } : Jvm.MethodName) jdk_68_method_22_code (3 : Nat) (Option.some (Jvm.ClassFile.FieldType.object "java/lang/AbstractStringBuilder"))).before a0 Z = true := cx.1 _ (List.mem_of_getElem? (i := 59) rfl)
theorem w60 {Z : State} {a0 : Array Value} {gC : Int32} {gF : Value} (cx : Cx a0 Z gC gF) : (Jvm.Cond.fieldLink "java/lang/AbstractStringBuilder" (79 : Nat) "java/lang/AbstractStringBuilder" "count" "I").before a0 Z = true := cx.1 _ (List.mem_of_getElem? (i := 60) rfl)
theorem w61 {Z : State} {a0 : Array Value} {gC : Int32} {gF : Value} (cx : Cx a0 Z gC gF) : (Jvm.Cond.lays "java/lang/StringBuilder" "java/lang/AbstractStringBuilder" "count" "I").before a0 Z = true := cx.1 _ (List.mem_of_getElem? (i := 61) rfl)
theorem w62 {Z : State} {a0 : Array Value} {gC : Int32} {gF : Value} (cx : Cx a0 Z gC gF) : (Jvm.Cond.methodLink "java/lang/AbstractStringBuilder" (100 : Nat) ({ cls := "java/lang/AbstractStringBuilder", name := "ensureCapacityInternal", desc := "(I)V" } : Jvm.MethodName)).before a0 Z = true := cx.1 _ (List.mem_of_getElem? (i := 62) rfl)
theorem w63 {Z : State} {a0 : Array Value} {gC : Int32} {gF : Value} (cx : Cx a0 Z gC gF) : (Jvm.Cond.instanceMethod ({ cls := "java/lang/AbstractStringBuilder", name := "ensureCapacityInternal", desc := "(I)V" } : Jvm.MethodName)).before a0 Z = true := cx.1 _ (List.mem_of_getElem? (i := 63) rfl)
theorem w65 {Z : State} {a0 : Array Value} {gC : Int32} {gF : Value} (cx : Cx a0 Z gC gF) : (Jvm.Cond.selects "java/lang/StringBuilder" ({ cls := "java/lang/AbstractStringBuilder", name := "ensureCapacityInternal", desc := "(I)V" } : Jvm.MethodName) ({ cls := "java/lang/AbstractStringBuilder", name := "ensureCapacityInternal", desc := "(I)V" } : Jvm.MethodName)).before a0 Z = true := cx.1 _ (List.mem_of_getElem? (i := 65) rfl)
theorem w66 {Z : State} {a0 : Array Value} {gC : Int32} {gF : Value} (cx : Cx a0 Z gC gF) : (Jvm.Cond.code ({ cls := "java/lang/AbstractStringBuilder", name := "ensureCapacityInternal", desc := "(I)V" } : Jvm.MethodName) jdk_68_method_9_code (3 : Nat) (Option.none : Option Jvm.ClassFile.FieldType)).before a0 Z = true := cx.1 _ (List.mem_of_getElem? (i := 66) rfl)
theorem w67 {Z : State} {a0 : Array Value} {gC : Int32} {gF : Value} (cx : Cx a0 Z gC gF) : (Jvm.Cond.methodLink "java/lang/AbstractStringBuilder" (208 : Nat) ({ cls := "java/lang/AbstractStringBuilder", name := "putStringAt", desc := "(ILjava/lang/String;)V" } : Jvm.MethodName)).before a0 Z = true := cx.1 _ (List.mem_of_getElem? (i := 67) rfl)
theorem w68 {Z : State} {a0 : Array Value} {gC : Int32} {gF : Value} (cx : Cx a0 Z gC gF) : (Jvm.Cond.instanceMethod ({ cls := "java/lang/AbstractStringBuilder", name := "putStringAt", desc := "(ILjava/lang/String;)V" } : Jvm.MethodName)).before a0 Z = true := cx.1 _ (List.mem_of_getElem? (i := 68) rfl)
theorem w70 {Z : State} {a0 : Array Value} {gC : Int32} {gF : Value} (cx : Cx a0 Z gC gF) : (Jvm.Cond.selects "java/lang/StringBuilder" ({ cls := "java/lang/AbstractStringBuilder", name := "putStringAt", desc := "(ILjava/lang/String;)V" } : Jvm.MethodName) ({ cls := "java/lang/AbstractStringBuilder", name := "putStringAt", desc := "(ILjava/lang/String;)V" } : Jvm.MethodName)).before a0 Z = true := cx.1 _ (List.mem_of_getElem? (i := 70) rfl)
theorem w71 {Z : State} {a0 : Array Value} {gC : Int32} {gF : Value} (cx : Cx a0 Z gC gF) : (Jvm.Cond.code ({ cls := "java/lang/AbstractStringBuilder", name := "putStringAt", desc := "(ILjava/lang/String;)V" } : Jvm.MethodName) jdk_68_method_73_code (3 : Nat) (Option.none : Option Jvm.ClassFile.FieldType)).before a0 Z = true := cx.1 _ (List.mem_of_getElem? (i := 71) rfl)
theorem w72 {Z : State} {a0 : Array Value} {gC : Int32} {gF : Value} (cx : Cx a0 Z gC gF) : (Jvm.Cond.methodLink "java/lang/AbstractStringBuilder" (397 : Nat) ({ cls := "java/lang/AbstractStringBuilder", name := "inflateIfNeededFor", desc := "(Ljava/lang/String;)V" } : Jvm.MethodName)).before a0 Z = true := cx.1 _ (List.mem_of_getElem? (i := 72) rfl)
theorem w73 {Z : State} {a0 : Array Value} {gC : Int32} {gF : Value} (cx : Cx a0 Z gC gF) : (Jvm.Cond.instanceMethod ({ cls := "java/lang/AbstractStringBuilder", name := "inflateIfNeededFor", desc := "(Ljava/lang/String;)V" } : Jvm.MethodName)).before a0 Z = true := cx.1 _ (List.mem_of_getElem? (i := 73) rfl)
theorem w75 {Z : State} {a0 : Array Value} {gC : Int32} {gF : Value} (cx : Cx a0 Z gC gF) : (Jvm.Cond.selects "java/lang/StringBuilder" ({ cls := "java/lang/AbstractStringBuilder", name := "inflateIfNeededFor", desc := "(Ljava/lang/String;)V" } : Jvm.MethodName) ({ cls := "java/lang/AbstractStringBuilder", name := "inflateIfNeededFor", desc := "(Ljava/lang/String;)V" } : Jvm.MethodName)).before a0 Z = true := cx.1 _ (List.mem_of_getElem? (i := 75) rfl)
theorem w76 {Z : State} {a0 : Array Value} {gC : Int32} {gF : Value} (cx : Cx a0 Z gC gF) : (Jvm.Cond.code ({ cls := "java/lang/AbstractStringBuilder", name := "inflateIfNeededFor", desc := "(Ljava/lang/String;)V" } : Jvm.MethodName) jdk_68_method_71_code (2 : Nat) (Option.none : Option Jvm.ClassFile.FieldType)).before a0 Z = true := cx.1 _ (List.mem_of_getElem? (i := 76) rfl)
theorem w77 {Z : State} {a0 : Array Value} {gC : Int32} {gF : Value} (cx : Cx a0 Z gC gF) : (Jvm.Cond.fieldLink "java/lang/AbstractStringBuilder" (18 : Nat) "java/lang/String" "COMPACT_STRINGS" "Z").before a0 Z = true := cx.1 _ (List.mem_of_getElem? (i := 77) rfl)
theorem w78 {Z : State} {a0 : Array Value} {gC : Int32} {gF : Value} (cx : Cx a0 Z gC gF) : (Jvm.Cond.methodLink "java/lang/AbstractStringBuilder" (399 : Nat) ({ cls := "java/lang/String", name := "getBytes", desc := "([BIB)V" } : Jvm.MethodName)).before a0 Z = true := cx.1 _ (List.mem_of_getElem? (i := 78) rfl)
theorem w79 {Z : State} {a0 : Array Value} {gC : Int32} {gF : Value} (cx : Cx a0 Z gC gF) : (Jvm.Cond.declares ({ cls := "java/lang/String", name := "getBytes", desc := "([BIB)V" } : Jvm.MethodName)).before a0 Z = true := cx.1 _ (List.mem_of_getElem? (i := 79) rfl)
theorem w80 {Z : State} {a0 : Array Value} {gC : Int32} {gF : Value} (cx : Cx a0 Z gC gF) : (Jvm.Cond.instanceMethod ({ cls := "java/lang/String", name := "getBytes", desc := "([BIB)V" } : Jvm.MethodName)).before a0 Z = true := cx.1 _ (List.mem_of_getElem? (i := 80) rfl)
theorem w81 {Z : State} {a0 : Array Value} {gC : Int32} {gF : Value} (cx : Cx a0 Z gC gF) : (Jvm.Cond.selects "java/lang/String" ({ cls := "java/lang/String", name := "getBytes", desc := "([BIB)V" } : Jvm.MethodName) ({ cls := "java/lang/String", name := "getBytes", desc := "([BIB)V" } : Jvm.MethodName)).before a0 Z = true := cx.1 _ (List.mem_of_getElem? (i := 81) rfl)
theorem w82 {Z : State} {a0 : Array Value} {gC : Int32} {gF : Value} (cx : Cx a0 Z gC gF) : (Jvm.Cond.code ({ cls := "java/lang/String", name := "getBytes", desc := "([BIB)V" } : Jvm.MethodName) jdk_42_method_147_code (4 : Nat) (Option.none : Option Jvm.ClassFile.FieldType)).before a0 Z = true := cx.1 _ (List.mem_of_getElem? (i := 82) rfl)
theorem w83 {Z : State} {a0 : Array Value} {gC : Int32} {gF : Value} (cx : Cx a0 Z gC gF) : (Jvm.Cond.methodLink "java/lang/String" (212 : Nat) ({ cls := "java/lang/System", name := "arraycopy", desc := "(Ljava/lang/Object;ILjava/lang/Object;II)V" } : Jvm.MethodName)).before a0 Z = true := cx.1 _ (List.mem_of_getElem? (i := 83) rfl)
theorem w84 {Z : State} {a0 : Array Value} {gC : Int32} {gF : Value} (cx : Cx a0 Z gC gF) : (Jvm.Cond.static ({ cls := "java/lang/System", name := "arraycopy", desc := "(Ljava/lang/Object;ILjava/lang/Object;II)V" } : Jvm.MethodName)).before a0 Z = true := cx.1 _ (List.mem_of_getElem? (i := 84) rfl)
theorem w85 {Z : State} {a0 : Array Value} {gC : Int32} {gF : Value} (cx : Cx a0 Z gC gF) : (Jvm.Cond.initialized "java/lang/System").before a0 Z = true := cx.1 _ (List.mem_of_getElem? (i := 85) rfl)
theorem w86 {Z : State} {a0 : Array Value} {gC : Int32} {gF : Value} (cx : Cx a0 Z gC gF) : (Jvm.Cond.native ({ cls := "java/lang/System", name := "arraycopy", desc := "(Ljava/lang/Object;ILjava/lang/Object;II)V" } : Jvm.MethodName)).before a0 Z = true := cx.1 _ (List.mem_of_getElem? (i := 86) rfl)
theorem w87 {Z : State} {a0 : Array Value} {gC : Int32} {gF : Value} (cx : Cx a0 Z gC gF) : (Jvm.Cond.methodLink "com/example/estate4/estate4/jdbc/SelectText" (164 : Nat) ({ cls := "java/lang/StringBuilder", name := "toString", desc := "()Ljava/lang/String;" } : Jvm.MethodName)).before a0 Z = true := cx.1 _ (List.mem_of_getElem? (i := 87) rfl)
theorem w88 {Z : State} {a0 : Array Value} {gC : Int32} {gF : Value} (cx : Cx a0 Z gC gF) : (Jvm.Cond.declares ({ cls := "java/lang/StringBuilder", name := "toString", desc := "()Ljava/lang/String;" } : Jvm.MethodName)).before a0 Z = true := cx.1 _ (List.mem_of_getElem? (i := 88) rfl)
theorem w89 {Z : State} {a0 : Array Value} {gC : Int32} {gF : Value} (cx : Cx a0 Z gC gF) : (Jvm.Cond.instanceMethod ({ cls := "java/lang/StringBuilder", name := "toString", desc := "()Ljava/lang/String;" } : Jvm.MethodName)).before a0 Z = true := cx.1 _ (List.mem_of_getElem? (i := 89) rfl)
theorem w90 {Z : State} {a0 : Array Value} {gC : Int32} {gF : Value} (cx : Cx a0 Z gC gF) : (Jvm.Cond.selects "java/lang/StringBuilder" ({ cls := "java/lang/StringBuilder", name := "toString", desc := "()Ljava/lang/String;" } : Jvm.MethodName) ({ cls := "java/lang/StringBuilder", name := "toString", desc := "()Ljava/lang/String;" } : Jvm.MethodName)).before a0 Z = true := cx.1 _ (List.mem_of_getElem? (i := 90) rfl)
theorem w91 {Z : State} {a0 : Array Value} {gC : Int32} {gF : Value} (cx : Cx a0 Z gC gF) : (Jvm.Cond.code ({ cls := "java/lang/StringBuilder", name := "toString", desc := "()Ljava/lang/String;" } : Jvm.MethodName) jdk_67_method_42_code (1 : Nat) (Option.some (Jvm.ClassFile.FieldType.object "java/lang/String"))).before a0 Z = true := cx.1 _ (List.mem_of_getElem? (i := 91) rfl)
theorem w92 {Z : State} {a0 : Array Value} {gC : Int32} {gF : Value} (cx : Cx a0 Z gC gF) : (Jvm.Cond.classLink "java/lang/StringBuilder" (18 : Nat) "java/lang/String").before a0 Z = true := cx.1 _ (List.mem_of_getElem? (i := 92) rfl)
theorem w93 {Z : State} {a0 : Array Value} {gC : Int32} {gF : Value} (cx : Cx a0 Z gC gF) : (Jvm.Cond.methodLink "java/lang/StringBuilder" (137 : Nat) ({ cls := "java/lang/String", name := "<init>", desc := "(Ljava/lang/StringBuilder;)V" } : Jvm.MethodName)).before a0 Z = true := cx.1 _ (List.mem_of_getElem? (i := 93) rfl)
theorem w94 {Z : State} {a0 : Array Value} {gC : Int32} {gF : Value} (cx : Cx a0 Z gC gF) : (Jvm.Cond.instanceMethod ({ cls := "java/lang/String", name := "<init>", desc := "(Ljava/lang/StringBuilder;)V" } : Jvm.MethodName)).before a0 Z = true := cx.1 _ (List.mem_of_getElem? (i := 94) rfl)
theorem w96 {Z : State} {a0 : Array Value} {gC : Int32} {gF : Value} (cx : Cx a0 Z gC gF) : (Jvm.Cond.code ({ cls := "java/lang/String", name := "<init>", desc := "(Ljava/lang/StringBuilder;)V" } : Jvm.MethodName) jdk_42_method_53_code (2 : Nat) (Option.none : Option Jvm.ClassFile.FieldType)).before a0 Z = true := cx.1 _ (List.mem_of_getElem? (i := 96) rfl)
theorem w97 {Z : State} {a0 : Array Value} {gC : Int32} {gF : Value} (cx : Cx a0 Z gC gF) : (Jvm.Cond.methodLink "java/lang/String" (489 : Nat) ({ cls := "java/lang/String", name := "<init>", desc := "(Ljava/lang/AbstractStringBuilder;Ljava/lang/Void;)V" } : Jvm.MethodName)).before a0 Z = true := cx.1 _ (List.mem_of_getElem? (i := 97) rfl)
theorem w98 {Z : State} {a0 : Array Value} {gC : Int32} {gF : Value} (cx : Cx a0 Z gC gF) : (Jvm.Cond.instanceMethod ({ cls := "java/lang/String", name := "<init>", desc := "(Ljava/lang/AbstractStringBuilder;Ljava/lang/Void;)V" } : Jvm.MethodName)).before a0 Z = true := cx.1 _ (List.mem_of_getElem? (i := 98) rfl)
theorem w99 {Z : State} {a0 : Array Value} {gC : Int32} {gF : Value} (cx : Cx a0 Z gC gF) : (Jvm.Cond.code ({ cls := "java/lang/String", name := "<init>", desc := "(Ljava/lang/AbstractStringBuilder;Ljava/lang/Void;)V" } : Jvm.MethodName) jdk_42_method_150_code (5 : Nat) (Option.none : Option Jvm.ClassFile.FieldType)).before a0 Z = true := cx.1 _ (List.mem_of_getElem? (i := 99) rfl)
theorem w100 {Z : State} {a0 : Array Value} {gC : Int32} {gF : Value} (cx : Cx a0 Z gC gF) : (Jvm.Cond.methodLink "java/lang/String" (1 : Nat) ({ cls := "java/lang/Object", name := "<init>", desc := "()V" } : Jvm.MethodName)).before a0 Z = true := cx.1 _ (List.mem_of_getElem? (i := 100) rfl)
theorem w101 {Z : State} {a0 : Array Value} {gC : Int32} {gF : Value} (cx : Cx a0 Z gC gF) : (Jvm.Cond.methodLink "java/lang/String" (552 : Nat) ({ cls := "java/lang/AbstractStringBuilder", name := "getValue", desc := "()[B" } : Jvm.MethodName)).before a0 Z = true := cx.1 _ (List.mem_of_getElem? (i := 101) rfl)
theorem w102 {Z : State} {a0 : Array Value} {gC : Int32} {gF : Value} (cx : Cx a0 Z gC gF) : (Jvm.Cond.declares ({ cls := "java/lang/AbstractStringBuilder", name := "getValue", desc := "()[B" } : Jvm.MethodName)).before a0 Z = true := cx.1 _ (List.mem_of_getElem? (i := 102) rfl)
theorem w103 {Z : State} {a0 : Array Value} {gC : Int32} {gF : Value} (cx : Cx a0 Z gC gF) : (Jvm.Cond.instanceMethod ({ cls := "java/lang/AbstractStringBuilder", name := "getValue", desc := "()[B" } : Jvm.MethodName)).before a0 Z = true := cx.1 _ (List.mem_of_getElem? (i := 103) rfl)
theorem w104 {Z : State} {a0 : Array Value} {gC : Int32} {gF : Value} (cx : Cx a0 Z gC gF) : (Jvm.Cond.selects "java/lang/StringBuilder" ({ cls := "java/lang/AbstractStringBuilder", name := "getValue", desc := "()[B" } : Jvm.MethodName) ({ cls := "java/lang/AbstractStringBuilder", name := "getValue", desc := "()[B" } : Jvm.MethodName)).before a0 Z = true := cx.1 _ (List.mem_of_getElem? (i := 104) rfl)
theorem w105 {Z : State} {a0 : Array Value} {gC : Int32} {gF : Value} (cx : Cx a0 Z gC gF) : (Jvm.Cond.code ({ cls := "java/lang/AbstractStringBuilder", name := "getValue", desc := "()[B" } : Jvm.MethodName) jdk_68_method_64_code (1 : Nat) (Option.some (Jvm.ClassFile.FieldType.array Jvm.ClassFile.FieldType.byte))).before a0 Z = true := cx.1 _ (List.mem_of_getElem? (i := 105) rfl)
theorem w106 {Z : State} {a0 : Array Value} {gC : Int32} {gF : Value} (cx : Cx a0 Z gC gF) : (Jvm.Cond.methodLink "java/lang/String" (549 : Nat) ({ cls := "java/lang/AbstractStringBuilder", name := "length", desc := "()I" } : Jvm.MethodName)).before a0 Z = true := cx.1 _ (List.mem_of_getElem? (i := 106) rfl)
theorem w107 {Z : State} {a0 : Array Value} {gC : Int32} {gF : Value} (cx : Cx a0 Z gC gF) : (Jvm.Cond.declares ({ cls := "java/lang/AbstractStringBuilder", name := "length", desc := "()I" } : Jvm.MethodName)).before a0 Z = true := cx.1 _ (List.mem_of_getElem? (i := 107) rfl)
theorem w108 {Z : State} {a0 : Array Value} {gC : Int32} {gF : Value} (cx : Cx a0 Z gC gF) : (Jvm.Cond.instanceMethod ({ cls := "java/lang/AbstractStringBuilder", name := "length", desc := "()I" } : Jvm.MethodName)).before a0 Z = true := cx.1 _ (List.mem_of_getElem? (i := 108) rfl)
theorem w109 {Z : State} {a0 : Array Value} {gC : Int32} {gF : Value} (cx : Cx a0 Z gC gF) : (Jvm.Cond.selects "java/lang/StringBuilder" ({ cls := "java/lang/AbstractStringBuilder", name := "length", desc := "()I" } : Jvm.MethodName) ({ cls := "java/lang/StringBuilder", name := "length", desc := "()I" } : Jvm.MethodName)).before a0 Z = true := cx.1 _ (List.mem_of_getElem? (i := 109) rfl)
theorem w110 {Z : State} {a0 : Array Value} {gC : Int32} {gF : Value} (cx : Cx a0 Z gC gF) : (Jvm.Cond.instanceMethod ({ cls := "java/lang/StringBuilder", name := "length", desc := "()I" } : Jvm.MethodName)).before a0 Z = true := cx.1 _ (List.mem_of_getElem? (i := 110) rfl)
theorem w111 {Z : State} {a0 : Array Value} {gC : Int32} {gF : Value} (cx : Cx a0 Z gC gF) : (Jvm.Cond.code ({ cls := "java/lang/StringBuilder", name := "length", desc := "()I" } : Jvm.MethodName) jdk_67_method_93_code (1 : Nat) (Option.some Jvm.ClassFile.FieldType.int)).before a0 Z = true := cx.1 _ (List.mem_of_getElem? (i := 111) rfl)
theorem w112 {Z : State} {a0 : Array Value} {gC : Int32} {gF : Value} (cx : Cx a0 Z gC gF) : (Jvm.Cond.methodLink "java/lang/StringBuilder" (343 : Nat) ({ cls := "java/lang/AbstractStringBuilder", name := "length", desc := "()I" } : Jvm.MethodName)).before a0 Z = true := cx.1 _ (List.mem_of_getElem? (i := 112) rfl)
theorem w113 {Z : State} {a0 : Array Value} {gC : Int32} {gF : Value} (cx : Cx a0 Z gC gF) : (Jvm.Cond.code ({ cls := "java/lang/AbstractStringBuilder", name := "length", desc := "()I" } : Jvm.MethodName) jdk_68_method_6_code (1 : Nat) (Option.some Jvm.ClassFile.FieldType.int)).before a0 Z = true := cx.1 _ (List.mem_of_getElem? (i := 113) rfl)
theorem w114 {Z : State} {a0 : Array Value} {gC : Int32} {gF : Value} (cx : Cx a0 Z gC gF) : (Jvm.Cond.methodLink "java/lang/String" (1047 : Nat) ({ cls := "java/lang/AbstractStringBuilder", name := "isLatin1", desc := "()Z" } : Jvm.MethodName)).before a0 Z = true := cx.1 _ (List.mem_of_getElem? (i := 114) rfl)
theorem w115 {Z : State} {a0 : Array Value} {gC : Int32} {gF : Value} (cx : Cx a0 Z gC gF) : (Jvm.Cond.declares ({ cls := "java/lang/AbstractStringBuilder", name := "isLatin1", desc := "()Z" } : Jvm.MethodName)).before a0 Z = true := cx.1 _ (List.mem_of_getElem? (i := 115) rfl)
theorem w116 {Z : State} {a0 : Array Value} {gC : Int32} {gF : Value} (cx : Cx a0 Z gC gF) : (Jvm.Cond.instanceMethod ({ cls := "java/lang/AbstractStringBuilder", name := "isLatin1", desc := "()Z" } : Jvm.MethodName)).before a0 Z = true := cx.1 _ (List.mem_of_getElem? (i := 116) rfl)
theorem w117 {Z : State} {a0 : Array Value} {gC : Int32} {gF : Value} (cx : Cx a0 Z gC gF) : (Jvm.Cond.selects "java/lang/StringBuilder" ({ cls := "java/lang/AbstractStringBuilder", name := "isLatin1", desc := "()Z" } : Jvm.MethodName) ({ cls := "java/lang/AbstractStringBuilder", name := "isLatin1", desc := "()Z" } : Jvm.MethodName)).before a0 Z = true := cx.1 _ (List.mem_of_getElem? (i := 117) rfl)
theorem w118 {Z : State} {a0 : Array Value} {gC : Int32} {gF : Value} (cx : Cx a0 Z gC gF) : (Jvm.Cond.code ({ cls := "java/lang/AbstractStringBuilder", name := "isLatin1", desc := "()Z" } : Jvm.MethodName) jdk_68_method_68_code (1 : Nat) (Option.some Jvm.ClassFile.FieldType.boolean)).before a0 Z = true := cx.1 _ (List.mem_of_getElem? (i := 118) rfl)
theorem w119 {Z : State} {a0 : Array Value} {gC : Int32} {gF : Value} (cx : Cx a0 Z gC gF) : (Jvm.Cond.methodLink "java/lang/String" (54 : Nat) ({ cls := "java/util/Arrays", name := "copyOfRange", desc := "([BII)[B" } : Jvm.MethodName)).before a0 Z = true := cx.1 _ (List.mem_of_getElem? (i := 119) rfl)
theorem w120 {Z : State} {a0 : Array Value} {gC : Int32} {gF : Value} (cx : Cx a0 Z gC gF) : (Jvm.Cond.static ({ cls := "java/util/Arrays", name := "copyOfRange", desc := "([BII)[B" } : Jvm.MethodName)).before a0 Z = true := cx.1 _ (List.mem_of_getElem? (i := 120) rfl)
theorem w121 {Z : State} {a0 : Array Value} {gC : Int32} {gF : Value} (cx : Cx a0 Z gC gF) : (Jvm.Cond.initialized "java/util/Arrays").before a0 Z = true := cx.1 _ (List.mem_of_getElem? (i := 121) rfl)
theorem w122 {Z : State} {a0 : Array Value} {gC : Int32} {gF : Value} (cx : Cx a0 Z gC gF) : (Jvm.Cond.code ({ cls := "java/util/Arrays", name := "copyOfRange", desc := "([BII)[B" } : Jvm.MethodName) jdk_65_method_132_code (3 : Nat) (Option.some (Jvm.ClassFile.FieldType.array Jvm.ClassFile.FieldType.byte))).before a0 Z = true := cx.1 _ (List.mem_of_getElem? (i := 122) rfl)
theorem w123 {Z : State} {a0 : Array Value} {gC : Int32} {gF : Value} (cx : Cx a0 Z gC gF) : (Jvm.Cond.methodLink "java/util/Arrays" (339 : Nat) ({ cls := "java/util/Arrays", name := "copyOfRangeByte", desc := "([BII)[B" } : Jvm.MethodName)).before a0 Z = true := cx.1 _ (List.mem_of_getElem? (i := 123) rfl)
theorem w124 {Z : State} {a0 : Array Value} {gC : Int32} {gF : Value} (cx : Cx a0 Z gC gF) : (Jvm.Cond.static ({ cls := "java/util/Arrays", name := "copyOfRangeByte", desc := "([BII)[B" } : Jvm.MethodName)).before a0 Z = true := cx.1 _ (List.mem_of_getElem? (i := 124) rfl)
theorem w125 {Z : State} {a0 : Array Value} {gC : Int32} {gF : Value} (cx : Cx a0 Z gC gF) : (Jvm.Cond.code ({ cls := "java/util/Arrays", name := "copyOfRangeByte", desc := "([BII)[B" } : Jvm.MethodName) jdk_65_method_133_code (5 : Nat) (Option.some (Jvm.ClassFile.FieldType.array Jvm.ClassFile.FieldType.byte))).before a0 Z = true := cx.1 _ (List.mem_of_getElem? (i := 125) rfl)
theorem w126 {Z : State} {a0 : Array Value} {gC : Int32} {gF : Value} (cx : Cx a0 Z gC gF) : (Jvm.Cond.methodLink "java/util/Arrays" (343 : Nat) ({ cls := "java/util/Arrays", name := "checkLength", desc := "(II)V" } : Jvm.MethodName)).before a0 Z = true := cx.1 _ (List.mem_of_getElem? (i := 126) rfl)
theorem w127 {Z : State} {a0 : Array Value} {gC : Int32} {gF : Value} (cx : Cx a0 Z gC gF) : (Jvm.Cond.static ({ cls := "java/util/Arrays", name := "checkLength", desc := "(II)V" } : Jvm.MethodName)).before a0 Z = true := cx.1 _ (List.mem_of_getElem? (i := 127) rfl)
theorem w128 {Z : State} {a0 : Array Value} {gC : Int32} {gF : Value} (cx : Cx a0 Z gC gF) : (Jvm.Cond.code ({ cls := "java/util/Arrays", name := "checkLength", desc := "(II)V" } : Jvm.MethodName) jdk_65_method_131_code (2 : Nat) (Option.none : Option Jvm.ClassFile.FieldType)).before a0 Z = true := cx.1 _ (List.mem_of_getElem? (i := 128) rfl)
theorem w129 {Z : State} {a0 : Array Value} {gC : Int32} {gF : Value} (cx : Cx a0 Z gC gF) : (Jvm.Cond.methodLink "java/util/Arrays" (304 : Nat) ({ cls := "java/lang/Math", name := "min", desc := "(II)I" } : Jvm.MethodName)).before a0 Z = true := cx.1 _ (List.mem_of_getElem? (i := 129) rfl)
theorem w130 {Z : State} {a0 : Array Value} {gC : Int32} {gF : Value} (cx : Cx a0 Z gC gF) : (Jvm.Cond.static ({ cls := "java/lang/Math", name := "min", desc := "(II)I" } : Jvm.MethodName)).before a0 Z = true := cx.1 _ (List.mem_of_getElem? (i := 130) rfl)
theorem w131 {Z : State} {a0 : Array Value} {gC : Int32} {gF : Value} (cx : Cx a0 Z gC gF) : (Jvm.Cond.initialized "java/lang/Math").before a0 Z = true := cx.1 _ (List.mem_of_getElem? (i := 131) rfl)
theorem w132 {Z : State} {a0 : Array Value} {gC : Int32} {gF : Value} (cx : Cx a0 Z gC gF) : (Jvm.Cond.code ({ cls := "java/lang/Math", name := "min", desc := "(II)I" } : Jvm.MethodName) jdk_29_method_69_code (2 : Nat) (Option.some Jvm.ClassFile.FieldType.int)).before a0 Z = true := cx.1 _ (List.mem_of_getElem? (i := 132) rfl)
theorem w133 {Z : State} {a0 : Array Value} {gC : Int32} {gF : Value} (cx : Cx a0 Z gC gF) : (Jvm.Cond.methodLink "java/util/Arrays" (150 : Nat) ({ cls := "java/lang/System", name := "arraycopy", desc := "(Ljava/lang/Object;ILjava/lang/Object;II)V" } : Jvm.MethodName)).before a0 Z = true := cx.1 _ (List.mem_of_getElem? (i := 133) rfl)
theorem w134 {Z : State} {a0 : Array Value} {gC : Int32} {gF : Value} (cx : Cx a0 Z gC gF) : (Jvm.Cond.methodLink "com/example/estate4/estate4/jdbc/SelectTextPagedPinLaw" (7 : Nat) ({ cls := "java/lang/String", name := "length", desc := "()I" } : Jvm.MethodName)).before a0 Z = true := cx.1 _ (List.mem_of_getElem? (i := 134) rfl)
theorem w135 {Z : State} {a0 : Array Value} {gC : Int32} {gF : Value} (cx : Cx a0 Z gC gF) : (Jvm.Cond.methodLink "com/example/estate4/estate4/jdbc/SelectTextPagedPinLaw" (44 : Nat) ({ cls := "com/example/estate4/estate4/jdbc/SelectTextPagedPinLaw", name := "quad", desc := "(Ljava/lang/String;ILjava/lang/String;I)Z" } : Jvm.MethodName)).before a0 Z = true := cx.1 _ (List.mem_of_getElem? (i := 135) rfl)
theorem w136 {Z : State} {a0 : Array Value} {gC : Int32} {gF : Value} (cx : Cx a0 Z gC gF) : (Jvm.Cond.static ({ cls := "com/example/estate4/estate4/jdbc/SelectTextPagedPinLaw", name := "quad", desc := "(Ljava/lang/String;ILjava/lang/String;I)Z" } : Jvm.MethodName)).before a0 Z = true := cx.1 _ (List.mem_of_getElem? (i := 136) rfl)
theorem w137 {Z : State} {a0 : Array Value} {gC : Int32} {gF : Value} (cx : Cx a0 Z gC gF) : (Jvm.Cond.initialized "com/example/estate4/estate4/jdbc/SelectTextPagedPinLaw").before a0 Z = true := cx.1 _ (List.mem_of_getElem? (i := 137) rfl)
theorem w138 {Z : State} {a0 : Array Value} {gC : Int32} {gF : Value} (cx : Cx a0 Z gC gF) : (Jvm.Cond.code ({ cls := "com/example/estate4/estate4/jdbc/SelectTextPagedPinLaw", name := "quad", desc := "(Ljava/lang/String;ILjava/lang/String;I)Z" } : Jvm.MethodName) method_3_code (4 : Nat) (Option.some Jvm.ClassFile.FieldType.boolean)).before a0 Z = true := cx.1 _ (List.mem_of_getElem? (i := 138) rfl)
theorem w139 {Z : State} {a0 : Array Value} {gC : Int32} {gF : Value} (cx : Cx a0 Z gC gF) : (Jvm.Cond.methodLink "com/example/estate4/estate4/jdbc/SelectTextPagedPinLaw" (17 : Nat) ({ cls := "com/example/estate4/estate4/jdbc/SelectTextPagedPinLaw", name := "tail", desc := "(Ljava/lang/String;ILjava/lang/String;I)Z" } : Jvm.MethodName)).before a0 Z = true := cx.1 _ (List.mem_of_getElem? (i := 139) rfl)
theorem w140 {Z : State} {a0 : Array Value} {gC : Int32} {gF : Value} (cx : Cx a0 Z gC gF) : (Jvm.Cond.static ({ cls := "com/example/estate4/estate4/jdbc/SelectTextPagedPinLaw", name := "tail", desc := "(Ljava/lang/String;ILjava/lang/String;I)Z" } : Jvm.MethodName)).before a0 Z = true := cx.1 _ (List.mem_of_getElem? (i := 140) rfl)
theorem w141 {Z : State} {a0 : Array Value} {gC : Int32} {gF : Value} (cx : Cx a0 Z gC gF) : (Jvm.Cond.code ({ cls := "com/example/estate4/estate4/jdbc/SelectTextPagedPinLaw", name := "tail", desc := "(Ljava/lang/String;ILjava/lang/String;I)Z" } : Jvm.MethodName) method_2_code (4 : Nat) (Option.some Jvm.ClassFile.FieldType.boolean)).before a0 Z = true := cx.1 _ (List.mem_of_getElem? (i := 141) rfl)
theorem w142 {Z : State} {a0 : Array Value} {gC : Int32} {gF : Value} (cx : Cx a0 Z gC gF) : (Jvm.Cond.classLink "com/example/estate4/estate4/jdbc/SelectTextPagedPinLaw" (8 : Nat) "java/lang/String").before a0 Z = true := cx.1 _ (List.mem_of_getElem? (i := 142) rfl)
theorem w143 {Z : State} {a0 : Array Value} {gC : Int32} {gF : Value} (cx : Cx a0 Z gC gF) : (Jvm.Cond.arrayClass Jvm.ClassFile.FieldType.char).before a0 Z = true := cx.1 _ (List.mem_of_getElem? (i := 143) rfl)
theorem w144 {Z : State} {a0 : Array Value} {gC : Int32} {gF : Value} (cx : Cx a0 Z gC gF) : (Jvm.Cond.methodLink "com/example/estate4/estate4/jdbc/SelectTextPagedPinLaw" (29 : Nat) ({ cls := "java/lang/String", name := "<init>", desc := "([C)V" } : Jvm.MethodName)).before a0 Z = true := cx.1 _ (List.mem_of_getElem? (i := 144) rfl)
theorem w145 {Z : State} {a0 : Array Value} {gC : Int32} {gF : Value} (cx : Cx a0 Z gC gF) : (Jvm.Cond.instanceMethod ({ cls := "java/lang/String", name := "<init>", desc := "([C)V" } : Jvm.MethodName)).before a0 Z = true := cx.1 _ (List.mem_of_getElem? (i := 145) rfl)
theorem w146 {Z : State} {a0 : Array Value} {gC : Int32} {gF : Value} (cx : Cx a0 Z gC gF) : (Jvm.Cond.code ({ cls := "java/lang/String", name := "<init>", desc := "([C)V" } : Jvm.MethodName) jdk_42_method_3_code (2 : Nat) (Option.none : Option Jvm.ClassFile.FieldType)).before a0 Z = true := cx.1 _ (List.mem_of_getElem? (i := 146) rfl)
theorem w160 {Z : State} {a0 : Array Value} {gC : Int32} {gF : Value} (cx : Cx a0 Z gC gF) : (Jvm.Cond.methodLink "com/example/estate4/estate4/jdbc/SelectTextPagedPinLaw" (13 : Nat) ({ cls := "java/lang/String", name := "charAt", desc := "(I)C" } : Jvm.MethodName)).before a0 Z = true := cx.1 _ (List.mem_of_getElem? (i := 160) rfl)
theorem w161 {Z : State} {a0 : Array Value} {gC : Int32} {gF : Value} (cx : Cx a0 Z gC gF) : (Jvm.Cond.declares ({ cls := "java/lang/String", name := "charAt", desc := "(I)C" } : Jvm.MethodName)).before a0 Z = true := cx.1 _ (List.mem_of_getElem? (i := 161) rfl)
theorem w162 {Z : State} {a0 : Array Value} {gC : Int32} {gF : Value} (cx : Cx a0 Z gC gF) : (Jvm.Cond.instanceMethod ({ cls := "java/lang/String", name := "charAt", desc := "(I)C" } : Jvm.MethodName)).before a0 Z = true := cx.1 _ (List.mem_of_getElem? (i := 162) rfl)
theorem w163 {Z : State} {a0 : Array Value} {gC : Int32} {gF : Value} (cx : Cx a0 Z gC gF) : (Jvm.Cond.selects "java/lang/String" ({ cls := "java/lang/String", name := "charAt", desc := "(I)C" } : Jvm.MethodName) ({ cls := "java/lang/String", name := "charAt", desc := "(I)C" } : Jvm.MethodName)).before a0 Z = true := cx.1 _ (List.mem_of_getElem? (i := 163) rfl)
theorem w172 {Z : State} {a0 : Array Value} {gC : Int32} {gF : Value} (cx : Cx a0 Z gC gF) : (Jvm.Cond.initialized "java/lang/StringLatin1").before a0 Z = true := cx.1 _ (List.mem_of_getElem? (i := 172) rfl)
theorem w182 {Z : State} {a0 : Array Value} {gC : Int32} {gF : Value} (cx : Cx a0 Z gC gF) : (Jvm.Cond.stringLink "com/example/estate4/estate4/jdbc/SelectTextPagedPinLaw" (32 : Nat) (txt 182)).before a0 Z = true := cx.1 _ (List.mem_of_getElem? (i := 182) rfl)
theorem w183 {Z : State} {a0 : Array Value} {gC : Int32} {gF : Value} (cx : Cx a0 Z gC gF) : (Jvm.Cond.stringLink "com/example/estate4/estate4/jdbc/SelectText" (194 : Nat) (txt 183)).before a0 Z = true := cx.1 _ (List.mem_of_getElem? (i := 183) rfl)
theorem w184 {Z : State} {a0 : Array Value} {gC : Int32} {gF : Value} (cx : Cx a0 Z gC gF) : (Jvm.Cond.methodLink "com/example/estate4/estate4/jdbc/SelectText" (50 : Nat) ({ cls := "java/lang/StringBuilder", name := "append", desc := "(Ljava/lang/String;)Ljava/lang/StringBuilder;" } : Jvm.MethodName)).before a0 Z = true := cx.1 _ (List.mem_of_getElem? (i := 184) rfl)
theorem w185 {Z : State} {a0 : Array Value} {gC : Int32} {gF : Value} (cx : Cx a0 Z gC gF) : (Jvm.Cond.stringLink "com/example/estate4/estate4/jdbc/SelectText" (196 : Nat) (txt 185)).before a0 Z = true := cx.1 _ (List.mem_of_getElem? (i := 185) rfl)
theorem w186 {Z : State} {a0 : Array Value} {gC : Int32} {gF : Value} (cx : Cx a0 Z gC gF) : (Jvm.Cond.methodLink "java/lang/AbstractStringBuilder" (104 : Nat) ({ cls := "java/lang/AbstractStringBuilder", name := "newCapacity", desc := "(I)I" } : Jvm.MethodName)).before a0 Z = true := cx.1 _ (List.mem_of_getElem? (i := 186) rfl)
theorem w187 {Z : State} {a0 : Array Value} {gC : Int32} {gF : Value} (cx : Cx a0 Z gC gF) : (Jvm.Cond.instanceMethod ({ cls := "java/lang/AbstractStringBuilder", name := "newCapacity", desc := "(I)I" } : Jvm.MethodName)).before a0 Z = true := cx.1 _ (List.mem_of_getElem? (i := 187) rfl)
theorem w189 {Z : State} {a0 : Array Value} {gC : Int32} {gF : Value} (cx : Cx a0 Z gC gF) : (Jvm.Cond.selects "java/lang/StringBuilder" ({ cls := "java/lang/AbstractStringBuilder", name := "newCapacity", desc := "(I)I" } : Jvm.MethodName) ({ cls := "java/lang/AbstractStringBuilder", name := "newCapacity", desc := "(I)I" } : Jvm.MethodName)).before a0 Z = true := cx.1 _ (List.mem_of_getElem? (i := 189) rfl)
theorem w190 {Z : State} {a0 : Array Value} {gC : Int32} {gF : Value} (cx : Cx a0 Z gC gF) : (Jvm.Cond.code ({ cls := "java/lang/AbstractStringBuilder", name := "newCapacity", desc := "(I)I" } : Jvm.MethodName) jdk_68_method_10_code (6 : Nat) (Option.some Jvm.ClassFile.FieldType.int)).before a0 Z = true := cx.1 _ (List.mem_of_getElem? (i := 190) rfl)
theorem w191 {Z : State} {a0 : Array Value} {gC : Int32} {gF : Value} (cx : Cx a0 Z gC gF) : (Jvm.Cond.methodLink "java/lang/AbstractStringBuilder" (114 : Nat) ({ cls := "jdk/internal/util/ArraysSupport", name := "newLength", desc := "(III)I" } : Jvm.MethodName)).before a0 Z = true := cx.1 _ (List.mem_of_getElem? (i := 191) rfl)
theorem w192 {Z : State} {a0 : Array Value} {gC : Int32} {gF : Value} (cx : Cx a0 Z gC gF) : (Jvm.Cond.static ({ cls := "jdk/internal/util/ArraysSupport", name := "newLength", desc := "(III)I" } : Jvm.MethodName)).before a0 Z = true := cx.1 _ (List.mem_of_getElem? (i := 192) rfl)
theorem w193 {Z : State} {a0 : Array Value} {gC : Int32} {gF : Value} (cx : Cx a0 Z gC gF) : (Jvm.Cond.initialized "jdk/internal/util/ArraysSupport").before a0 Z = true := cx.1 _ (List.mem_of_getElem? (i := 193) rfl)
theorem w194 {Z : State} {a0 : Array Value} {gC : Int32} {gF : Value} (cx : Cx a0 Z gC gF) : (Jvm.Cond.code ({ cls := "jdk/internal/util/ArraysSupport", name := "newLength", desc := "(III)I" } : Jvm.MethodName) jdk_48_method_27_code (4 : Nat) (Option.some Jvm.ClassFile.FieldType.int)).before a0 Z = true := cx.1 _ (List.mem_of_getElem? (i := 194) rfl)
theorem w195 {Z : State} {a0 : Array Value} {gC : Int32} {gF : Value} (cx : Cx a0 Z gC gF) : (Jvm.Cond.methodLink "jdk/internal/util/ArraysSupport" (194 : Nat) ({ cls := "java/lang/Math", name := "max", desc := "(II)I" } : Jvm.MethodName)).before a0 Z = true := cx.1 _ (List.mem_of_getElem? (i := 195) rfl)
theorem w196 {Z : State} {a0 : Array Value} {gC : Int32} {gF : Value} (cx : Cx a0 Z gC gF) : (Jvm.Cond.static ({ cls := "java/lang/Math", name := "max", desc := "(II)I" } : Jvm.MethodName)).before a0 Z = true := cx.1 _ (List.mem_of_getElem? (i := 196) rfl)
theorem w197 {Z : State} {a0 : Array Value} {gC : Int32} {gF : Value} (cx : Cx a0 Z gC gF) : (Jvm.Cond.code ({ cls := "java/lang/Math", name := "max", desc := "(II)I" } : Jvm.MethodName) jdk_29_method_65_code (2 : Nat) (Option.some Jvm.ClassFile.FieldType.int)).before a0 Z = true := cx.1 _ (List.mem_of_getElem? (i := 197) rfl)
theorem w198 {Z : State} {a0 : Array Value} {gC : Int32} {gF : Value} (cx : Cx a0 Z gC gF) : (Jvm.Cond.constant "jdk/internal/util/ArraysSupport" (200 : Nat) (2147483639 : Int32)).before a0 Z = true := cx.1 _ (List.mem_of_getElem? (i := 198) rfl)
theorem w199 {Z : State} {a0 : Array Value} {gC : Int32} {gF : Value} (cx : Cx a0 Z gC gF) : (Jvm.Cond.constant "java/lang/AbstractStringBuilder" (39 : Nat) (2147483647 : Int32)).before a0 Z = true := cx.1 _ (List.mem_of_getElem? (i := 199) rfl)
theorem w200 {Z : State} {a0 : Array Value} {gC : Int32} {gF : Value} (cx : Cx a0 Z gC gF) : (Jvm.Cond.methodLink "java/lang/AbstractStringBuilder" (108 : Nat) ({ cls := "java/util/Arrays", name := "copyOf", desc := "([BI)[B" } : Jvm.MethodName)).before a0 Z = true := cx.1 _ (List.mem_of_getElem? (i := 200) rfl)
theorem w201 {Z : State} {a0 : Array Value} {gC : Int32} {gF : Value} (cx : Cx a0 Z gC gF) : (Jvm.Cond.static ({ cls := "java/util/Arrays", name := "copyOf", desc := "([BI)[B" } : Jvm.MethodName)).before a0 Z = true := cx.1 _ (List.mem_of_getElem? (i := 201) rfl)
theorem w202 {Z : State} {a0 : Array Value} {gC : Int32} {gF : Value} (cx : Cx a0 Z gC gF) : (Jvm.Cond.code ({ cls := "java/util/Arrays", name := "copyOf", desc := "([BI)[B" } : Jvm.MethodName) jdk_65_method_121_code (3 : Nat) (Option.some (Jvm.ClassFile.FieldType.array Jvm.ClassFile.FieldType.byte))).before a0 Z = true := cx.1 _ (List.mem_of_getElem? (i := 202) rfl)
theorem w203 {Z : State} {a0 : Array Value} {gC : Int32} {gF : Value} (cx : Cx a0 Z gC gF) : (Jvm.Cond.methodLink "java/util/Arrays" (310 : Nat) ({ cls := "[B", name := "clone", desc := "()Ljava/lang/Object;" } : Jvm.MethodName)).before a0 Z = true := cx.1 _ (List.mem_of_getElem? (i := 203) rfl)
theorem w204 {Z : State} {a0 : Array Value} {gC : Int32} {gF : Value} (cx : Cx a0 Z gC gF) : (Jvm.Cond.sameMethod "[B" "java/lang/Object" "clone" "()Ljava/lang/Object;").before a0 Z = true := cx.1 _ (List.mem_of_getElem? (i := 204) rfl)
theorem w206 {Z : State} {a0 : Array Value} {gC : Int32} {gF : Value} (cx : Cx a0 Z gC gF) : (Jvm.Cond.instanceMethod ({ cls := "java/lang/Object", name := "clone", desc := "()Ljava/lang/Object;" } : Jvm.MethodName)).before a0 Z = true := cx.1 _ (List.mem_of_getElem? (i := 206) rfl)
theorem w207 {Z : State} {a0 : Array Value} {gC : Int32} {gF : Value} (cx : Cx a0 Z gC gF) : (Jvm.Cond.selects "[B" ({ cls := "[B", name := "clone", desc := "()Ljava/lang/Object;" } : Jvm.MethodName) ({ cls := "java/lang/Object", name := "clone", desc := "()Ljava/lang/Object;" } : Jvm.MethodName)).before a0 Z = true := cx.1 _ (List.mem_of_getElem? (i := 207) rfl)
theorem w208 {Z : State} {a0 : Array Value} {gC : Int32} {gF : Value} (cx : Cx a0 Z gC gF) : (Jvm.Cond.native ({ cls := "java/lang/Object", name := "clone", desc := "()Ljava/lang/Object;" } : Jvm.MethodName)).before a0 Z = true := cx.1 _ (List.mem_of_getElem? (i := 208) rfl)
theorem w209 {Z : State} {a0 : Array Value} {gC : Int32} {gF : Value} (cx : Cx a0 Z gC gF) : (Jvm.Cond.castable "[B" "java/lang/Cloneable").before a0 Z = true := cx.1 _ (List.mem_of_getElem? (i := 209) rfl)
theorem w210 {Z : State} {a0 : Array Value} {gC : Int32} {gF : Value} (cx : Cx a0 Z gC gF) : (Jvm.Cond.classLink "java/util/Arrays" (311 : Nat) "[B").before a0 Z = true := cx.1 _ (List.mem_of_getElem? (i := 210) rfl)
theorem w212 {Z : State} {a0 : Array Value} {gC : Int32} {gF : Value} (cx : Cx a0 Z gC gF) : (Jvm.Cond.stringLink "com/example/estate4/estate4/jdbc/SelectTextPagedPinLaw" (36 : Nat) (txt 212)).before a0 Z = true := cx.1 _ (List.mem_of_getElem? (i := 212) rfl)
theorem w213 {Z : State} {a0 : Array Value} {gC : Int32} {gF : Value} (cx : Cx a0 Z gC gF) : (Jvm.Cond.stringLink "com/example/estate4/estate4/jdbc/SelectTextPagedPinLaw" (34 : Nat) (txt 213)).before a0 Z = true := cx.1 _ (List.mem_of_getElem? (i := 213) rfl)
theorem w214 {Z : State} {a0 : Array Value} {gC : Int32} {gF : Value} (cx : Cx a0 Z gC gF) : (Jvm.Cond.methodLink "com/example/estate4/estate4/jdbc/SelectTextPagedPinLaw" (25 : Nat) ({ cls := "java/lang/String", name := "valueOf", desc := "(C)Ljava/lang/String;" } : Jvm.MethodName)).before a0 Z = true := cx.1 _ (List.mem_of_getElem? (i := 214) rfl)
theorem w215 {Z : State} {a0 : Array Value} {gC : Int32} {gF : Value} (cx : Cx a0 Z gC gF) : (Jvm.Cond.static ({ cls := "java/lang/String", name := "valueOf", desc := "(C)Ljava/lang/String;" } : Jvm.MethodName)).before a0 Z = true := cx.1 _ (List.mem_of_getElem? (i := 215) rfl)
theorem w216 {Z : State} {a0 : Array Value} {gC : Int32} {gF : Value} (cx : Cx a0 Z gC gF) : (Jvm.Cond.code ({ cls := "java/lang/String", name := "valueOf", desc := "(C)Ljava/lang/String;" } : Jvm.MethodName) jdk_42_method_139_code (1 : Nat) (Option.some (Jvm.ClassFile.FieldType.object "java/lang/String"))).before a0 Z = true := cx.1 _ (List.mem_of_getElem? (i := 216) rfl)
theorem w217 {Z : State} {a0 : Array Value} {gC : Int32} {gF : Value} (cx : Cx a0 Z gC gF) : (Jvm.Cond.methodLink "java/lang/String" (1015 : Nat) ({ cls := "java/lang/StringLatin1", name := "canEncode", desc := "(C)Z" } : Jvm.MethodName)).before a0 Z = true := cx.1 _ (List.mem_of_getElem? (i := 217) rfl)
theorem w218 {Z : State} {a0 : Array Value} {gC : Int32} {gF : Value} (cx : Cx a0 Z gC gF) : (Jvm.Cond.static ({ cls := "java/lang/StringLatin1", name := "canEncode", desc := "(C)Z" } : Jvm.MethodName)).before a0 Z = true := cx.1 _ (List.mem_of_getElem? (i := 218) rfl)
theorem w219 {Z : State} {a0 : Array Value} {gC : Int32} {gF : Value} (cx : Cx a0 Z gC gF) : (Jvm.Cond.code ({ cls := "java/lang/StringLatin1", name := "canEncode", desc := "(C)Z" } : Jvm.MethodName) jdk_43_method_3_code (1 : Nat) (Option.some Jvm.ClassFile.FieldType.boolean)).before a0 Z = true := cx.1 _ (List.mem_of_getElem? (i := 219) rfl)
theorem w220 {Z : State} {a0 : Array Value} {gC : Int32} {gF : Value} (cx : Cx a0 Z gC gF) : (Jvm.Cond.classLink "java/lang/String" (10 : Nat) "java/lang/String").before a0 Z = true := cx.1 _ (List.mem_of_getElem? (i := 220) rfl)
theorem w221 {Z : State} {a0 : Array Value} {gC : Int32} {gF : Value} (cx : Cx a0 Z gC gF) : (Jvm.Cond.methodLink "java/lang/String" (1018 : Nat) ({ cls := "java/lang/StringLatin1", name := "toBytes", desc := "(C)[B" } : Jvm.MethodName)).before a0 Z = true := cx.1 _ (List.mem_of_getElem? (i := 221) rfl)
theorem w222 {Z : State} {a0 : Array Value} {gC : Int32} {gF : Value} (cx : Cx a0 Z gC gF) : (Jvm.Cond.static ({ cls := "java/lang/StringLatin1", name := "toBytes", desc := "(C)[B" } : Jvm.MethodName)).before a0 Z = true := cx.1 _ (List.mem_of_getElem? (i := 222) rfl)
theorem w223 {Z : State} {a0 : Array Value} {gC : Int32} {gF : Value} (cx : Cx a0 Z gC gF) : (Jvm.Cond.code ({ cls := "java/lang/StringLatin1", name := "toBytes", desc := "(C)[B" } : Jvm.MethodName) jdk_43_method_46_code (1 : Nat) (Option.some (Jvm.ClassFile.FieldType.array Jvm.ClassFile.FieldType.byte))).before a0 Z = true := cx.1 _ (List.mem_of_getElem? (i := 223) rfl)
theorem w224 {Z : State} {a0 : Array Value} {gC : Int32} {gF : Value} (cx : Cx a0 Z gC gF) : (Jvm.Cond.methodLink "java/lang/String" (209 : Nat) ({ cls := "java/lang/String", name := "<init>", desc := "([BB)V" } : Jvm.MethodName)).before a0 Z = true := cx.1 _ (List.mem_of_getElem? (i := 224) rfl)
theorem w225 {Z : State} {a0 : Array Value} {gC : Int32} {gF : Value} (cx : Cx a0 Z gC gF) : (Jvm.Cond.instanceMethod ({ cls := "java/lang/String", name := "<init>", desc := "([BB)V" } : Jvm.MethodName)).before a0 Z = true := cx.1 _ (List.mem_of_getElem? (i := 225) rfl)
theorem w226 {Z : State} {a0 : Array Value} {gC : Int32} {gF : Value} (cx : Cx a0 Z gC gF) : (Jvm.Cond.code ({ cls := "java/lang/String", name := "<init>", desc := "([BB)V" } : Jvm.MethodName) jdk_42_method_151_code (3 : Nat) (Option.none : Option Jvm.ClassFile.FieldType)).before a0 Z = true := cx.1 _ (List.mem_of_getElem? (i := 226) rfl)
theorem S_C {Z : State} {a0 : Array Value} {gC : Int32} {gF : Value} (cx : Cx a0 Z gC gF) : Sta Z Z.heap "java/lang/String" "COMPACT_STRINGS" "Z" (.int gC) := cx.2.1
theorem N_C {Z : State} {a0 : Array Value} {gC : Int32} {gF : Value} (cx : Cx a0 Z gC gF) : ¬ gC = (0 : Int32) := cx.2.2.1
theorem S_F {Z : State} {a0 : Array Value} {gC : Int32} {gF : Value} (cx : Cx a0 Z gC gF) : Sta Z Z.heap "jdk/internal/util/Preconditions" "SIOOBE_FORMATTER" "Ljava/util/function/BiFunction;" gF := cx.2.2.2.1
theorem R_F {Z : State} {a0 : Array Value} {gC : Int32} {gF : Value} (cx : Cx a0 Z gC gF) : gF.isRef = true := cx.2.2.2.2
theorem hws {Z : State} {a0 : Array Value} {gC : Int32} {gF : Value} (cx : Cx a0 Z gC gF) : ∀ d ∈ StrChars.Road.words, d.before a0 Z = true := fun d hd => cx.1 d ((by decide +kernel : ∀ d ∈ StrChars.Road.words, d ∈ tables_1) d hd)
theorem hln {Z : State} {a0 : Array Value} {gC : Int32} {gF : Value} (cx : Cx a0 Z gC gF) : ∀ d ∈ StrChars.Road.wordsLen, d.before a0 Z = true := fun d hd => cx.1 d ((by decide +kernel : ∀ d ∈ StrChars.Road.wordsLen, d ∈ tables_1) d hd)
theorem hch {Z : State} {a0 : Array Value} {gC : Int32} {gF : Value} (cx : Cx a0 Z gC gF) : ∀ d ∈ StrChars.Road.wordsChN, d.before a0 Z = true := fun d hd => cx.1 d ((by decide +kernel : ∀ d ∈ StrChars.Road.wordsChN, d ∈ tables_1) d hd)
theorem strAtoms {Z : State} {a0 : Array Value} {gC : Int32} {gF : Value} (cx : Cx a0 Z gC gF) : ∀ d ∈ Bundle.stringAtoms, d.before a0 Z = true := fun d hd => cx.1 d ((by decide +kernel : ∀ d ∈ Bundle.stringAtoms, d ∈ tables_1) d hd)
theorem pn0 : plainName "java/lang/String" = true := by first | (simp [plainName, overriddenIn]; done) | decide +kernel
theorem pn1 : plainName "java/lang/AbstractStringBuilder" = true := by first | (simp [plainName, overriddenIn]; done) | decide +kernel
theorem pn2 : plainName "jdk/internal/util/ArraysSupport" = true := by first | (simp [plainName, overriddenIn]; done) | decide +kernel
theorem pn3 : plainName "java/util/Arrays" = true := by first | (simp [plainName, overriddenIn]; done) | decide +kernel
theorem pn4 : plainName "java/lang/StringBuilder" = true := by first | (simp [plainName, overriddenIn]; done) | decide +kernel
theorem pn5 : plainName "java/lang/StringLatin1" = true := by first | (simp [plainName, overriddenIn]; done) | decide +kernel
theorem pn6 : plainName "com/example/estate4/estate4/jdbc/SelectText" = true := by first | (simp [plainName, overriddenIn]; done) | decide +kernel
theorem pn7 : plainName "com/example/estate4/estate4/jdbc/SelectTextPagedPinLaw" = true := by first | (simp [plainName, overriddenIn]; done) | decide +kernel
theorem d1_0 : decode prog_6_method_24_code 0 = .ok (.new 28, 3) := by decide +kernel
theorem d1_3 : decode prog_6_method_24_code 3 = .ok (.dup, 1) := by decide +kernel
theorem d1_4 : decode prog_6_method_24_code 4 = .ok (.aload_n 0, 1) := by decide +kernel
theorem d1_5 : decode prog_6_method_24_code 5 = .ok (.invokespecial 124, 3) := by decide +kernel
theorem d1_8 : decode prog_6_method_24_code 8 = .ok (.astore_n 3, 1) := by decide +kernel
theorem d1_9 : decode prog_6_method_24_code 9 = .ok (.iload_n 1, 1) := by decide +kernel
theorem d1_10 : decode prog_6_method_24_code 10 = .ok (.ifCond .eq 10, 3) := by decide +kernel
theorem d1_13 : decode prog_6_method_24_code 13 = .ok (.aload_n 3, 1) := by decide +kernel
theorem d1_14 : decode prog_6_method_24_code 14 = .ok (.ldc 194, 2) := by decide +kernel
theorem d1_16 : decode prog_6_method_24_code 16 = .ok (.invokevirtual 50, 3) := by decide +kernel
theorem d1_19 : decode prog_6_method_24_code 19 = .ok (.pop, 1) := by decide +kernel
theorem d1_20 : decode prog_6_method_24_code 20 = .ok (.iload_n 2, 1) := by decide +kernel
theorem d1_21 : decode prog_6_method_24_code 21 = .ok (.ifCond .eq 10, 3) := by decide +kernel
theorem d1_24 : decode prog_6_method_24_code 24 = .ok (.aload_n 3, 1) := by decide +kernel
theorem d1_25 : decode prog_6_method_24_code 25 = .ok (.ldc 196, 2) := by decide +kernel
theorem d1_27 : decode prog_6_method_24_code 27 = .ok (.invokevirtual 50, 3) := by decide +kernel
theorem d1_30 : decode prog_6_method_24_code 30 = .ok (.pop, 1) := by decide +kernel
theorem d1_31 : decode prog_6_method_24_code 31 = .ok (.aload_n 3, 1) := by decide +kernel
theorem d1_32 : decode prog_6_method_24_code 32 = .ok (.invokevirtual 164, 3) := by decide +kernel
theorem d1_35 : decode prog_6_method_24_code 35 = .ok (.areturn, 1) := by decide +kernel
theorem d2_0 : decode jdk_67_method_3_code 0 = .ok (.aload_n 0, 1) := by decide +kernel
theorem d2_1 : decode jdk_67_method_3_code 1 = .ok (.aload_n 1, 1) := by decide +kernel
theorem d2_2 : decode jdk_67_method_3_code 2 = .ok (.invokespecial 7, 3) := by decide +kernel
theorem d2_5 : decode jdk_67_method_3_code 5 = .ok (.return_, 1) := by decide +kernel
theorem d3_0 : decode jdk_68_method_3_code 0 = .ok (.aload_n 0, 1) := by decide +kernel
theorem d3_1 : decode jdk_68_method_3_code 1 = .ok (.invokespecial 3, 3) := by decide +kernel
theorem d3_4 : decode jdk_68_method_3_code 4 = .ok (.aload_n 1, 1) := by decide +kernel
theorem d3_5 : decode jdk_68_method_3_code 5 = .ok (.invokevirtual 32, 3) := by decide +kernel
theorem d3_8 : decode jdk_68_method_3_code 8 = .ok (.istore_n 2, 1) := by decide +kernel
theorem d3_9 : decode jdk_68_method_3_code 9 = .ok (.iload_n 2, 1) := by decide +kernel
theorem d3_10 : decode jdk_68_method_3_code 10 = .ok (.ldc 38, 2) := by decide +kernel
theorem d3_12 : decode jdk_68_method_3_code 12 = .ok (.if_icmp .ge 10, 3) := by decide +kernel
theorem d3_15 : decode jdk_68_method_3_code 15 = .ok (.iload_n 2, 1) := by decide +kernel
theorem d3_16 : decode jdk_68_method_3_code 16 = .ok (.bipush 16, 2) := by decide +kernel
theorem d3_18 : decode jdk_68_method_3_code 18 = .ok (.iadd, 1) := by decide +kernel
theorem d3_19 : decode jdk_68_method_3_code 19 = .ok (.goto 5, 3) := by decide +kernel
theorem d3_24 : decode jdk_68_method_3_code 24 = .ok (.istore_n 3, 1) := by decide +kernel
theorem d3_25 : decode jdk_68_method_3_code 25 = .ok (.aload_n 1, 1) := by decide +kernel
theorem d3_26 : decode jdk_68_method_3_code 26 = .ok (.invokevirtual 40, 3) := by decide +kernel
theorem d3_29 : decode jdk_68_method_3_code 29 = .ok (.istore 4, 2) := by decide +kernel
theorem d3_31 : decode jdk_68_method_3_code 31 = .ok (.aload_n 0, 1) := by decide +kernel
theorem d3_32 : decode jdk_68_method_3_code 32 = .ok (.iload 4, 2) := by decide +kernel
theorem d3_34 : decode jdk_68_method_3_code 34 = .ok (.putfield 22, 3) := by decide +kernel
theorem d3_37 : decode jdk_68_method_3_code 37 = .ok (.aload_n 0, 1) := by decide +kernel
theorem d3_38 : decode jdk_68_method_3_code 38 = .ok (.iload 4, 2) := by decide +kernel
theorem d3_40 : decode jdk_68_method_3_code 40 = .ok (.ifCond .ne 9, 3) := by decide +kernel
theorem d3_43 : decode jdk_68_method_3_code 43 = .ok (.iload_n 3, 1) := by decide +kernel
theorem d3_44 : decode jdk_68_method_3_code 44 = .ok (.newarray .byte, 2) := by decide +kernel
theorem d3_46 : decode jdk_68_method_3_code 46 = .ok (.goto 7, 3) := by decide +kernel
theorem d3_53 : decode jdk_68_method_3_code 53 = .ok (.putfield 15, 3) := by decide +kernel
theorem d3_56 : decode jdk_68_method_3_code 56 = .ok (.aload_n 0, 1) := by decide +kernel
theorem d3_57 : decode jdk_68_method_3_code 57 = .ok (.aload_n 1, 1) := by decide +kernel
theorem d3_58 : decode jdk_68_method_3_code 58 = .ok (.invokevirtual 43, 3) := by decide +kernel
theorem d3_61 : decode jdk_68_method_3_code 61 = .ok (.pop, 1) := by decide +kernel
theorem d3_62 : decode jdk_68_method_3_code 62 = .ok (.return_, 1) := by decide +kernel
theorem d6_0 : decode jdk_42_method_152_code 0 = .ok (.getstatic 38, 3) := by decide +kernel
theorem d6_3 : decode jdk_42_method_152_code 3 = .ok (.ifCond .eq 10, 3) := by decide +kernel
theorem d6_6 : decode jdk_42_method_152_code 6 = .ok (.aload_n 0, 1) := by decide +kernel
theorem d6_7 : decode jdk_42_method_152_code 7 = .ok (.getfield 15, 3) := by decide +kernel
theorem d6_10 : decode jdk_42_method_152_code 10 = .ok (.goto 4, 3) := by decide +kernel
theorem d6_14 : decode jdk_42_method_152_code 14 = .ok (.ireturn, 1) := by decide +kernel
theorem d7_0 : decode jdk_67_method_80_code 0 = .ok (.aload_n 0, 1) := by decide +kernel
theorem d7_1 : decode jdk_67_method_80_code 1 = .ok (.aload_n 1, 1) := by decide +kernel
theorem d7_2 : decode jdk_67_method_80_code 2 = .ok (.invokevirtual 23, 3) := by decide +kernel
theorem d7_5 : decode jdk_67_method_80_code 5 = .ok (.areturn, 1) := by decide +kernel
theorem d8_0 : decode jdk_67_method_7_code 0 = .ok (.aload_n 0, 1) := by decide +kernel
theorem d8_1 : decode jdk_67_method_7_code 1 = .ok (.aload_n 1, 1) := by decide +kernel
theorem d8_2 : decode jdk_67_method_7_code 2 = .ok (.invokespecial 29, 3) := by decide +kernel
theorem d8_5 : decode jdk_67_method_7_code 5 = .ok (.pop, 1) := by decide +kernel
theorem d8_6 : decode jdk_67_method_7_code 6 = .ok (.aload_n 0, 1) := by decide +kernel
theorem d8_7 : decode jdk_67_method_7_code 7 = .ok (.areturn, 1) := by decide +kernel
theorem d9_0 : decode jdk_68_method_22_code 0 = .ok (.aload_n 1, 1) := by decide +kernel
theorem d9_1 : decode jdk_68_method_22_code 1 = .ok (.ifnonnull 8, 3) := by decide +kernel
theorem d9_9 : decode jdk_68_method_22_code 9 = .ok (.aload_n 1, 1) := by decide +kernel
theorem d9_10 : decode jdk_68_method_22_code 10 = .ok (.invokevirtual 32, 3) := by decide +kernel
theorem d9_13 : decode jdk_68_method_22_code 13 = .ok (.istore_n 2, 1) := by decide +kernel
theorem d9_14 : decode jdk_68_method_22_code 14 = .ok (.aload_n 0, 1) := by decide +kernel
theorem d9_15 : decode jdk_68_method_22_code 15 = .ok (.aload_n 0, 1) := by decide +kernel
theorem d9_16 : decode jdk_68_method_22_code 16 = .ok (.getfield 79, 3) := by decide +kernel
theorem d9_19 : decode jdk_68_method_22_code 19 = .ok (.iload_n 2, 1) := by decide +kernel
theorem d9_20 : decode jdk_68_method_22_code 20 = .ok (.iadd, 1) := by decide +kernel
theorem d9_21 : decode jdk_68_method_22_code 21 = .ok (.invokevirtual 100, 3) := by decide +kernel
theorem d9_24 : decode jdk_68_method_22_code 24 = .ok (.aload_n 0, 1) := by decide +kernel
theorem d9_25 : decode jdk_68_method_22_code 25 = .ok (.aload_n 0, 1) := by decide +kernel
theorem d9_26 : decode jdk_68_method_22_code 26 = .ok (.getfield 79, 3) := by decide +kernel
theorem d9_29 : decode jdk_68_method_22_code 29 = .ok (.aload_n 1, 1) := by decide +kernel
theorem d9_30 : decode jdk_68_method_22_code 30 = .ok (.invokevirtual 208, 3) := by decide +kernel
theorem d9_33 : decode jdk_68_method_22_code 33 = .ok (.aload_n 0, 1) := by decide +kernel
theorem d9_34 : decode jdk_68_method_22_code 34 = .ok (.dup, 1) := by decide +kernel
theorem d9_35 : decode jdk_68_method_22_code 35 = .ok (.getfield 79, 3) := by decide +kernel
theorem d9_38 : decode jdk_68_method_22_code 38 = .ok (.iload_n 2, 1) := by decide +kernel
theorem d9_39 : decode jdk_68_method_22_code 39 = .ok (.iadd, 1) := by decide +kernel
theorem d9_40 : decode jdk_68_method_22_code 40 = .ok (.putfield 79, 3) := by decide +kernel
theorem d9_43 : decode jdk_68_method_22_code 43 = .ok (.aload_n 0, 1) := by decide +kernel
theorem d9_44 : decode jdk_68_method_22_code 44 = .ok (.areturn, 1) := by decide +kernel
theorem d10_0 : decode jdk_68_method_9_code 0 = .ok (.aload_n 0, 1) := by decide +kernel
theorem d10_1 : decode jdk_68_method_9_code 1 = .ok (.getfield 15, 3) := by decide +kernel
theorem d10_4 : decode jdk_68_method_9_code 4 = .ok (.arraylength, 1) := by decide +kernel
theorem d10_5 : decode jdk_68_method_9_code 5 = .ok (.aload_n 0, 1) := by decide +kernel
theorem d10_6 : decode jdk_68_method_9_code 6 = .ok (.getfield 22, 3) := by decide +kernel
theorem d10_9 : decode jdk_68_method_9_code 9 = .ok (.ishr, 1) := by decide +kernel
theorem d10_10 : decode jdk_68_method_9_code 10 = .ok (.istore_n 2, 1) := by decide +kernel
theorem d10_11 : decode jdk_68_method_9_code 11 = .ok (.iload_n 1, 1) := by decide +kernel
theorem d10_12 : decode jdk_68_method_9_code 12 = .ok (.iload_n 2, 1) := by decide +kernel
theorem d10_13 : decode jdk_68_method_9_code 13 = .ok (.isub, 1) := by decide +kernel
theorem d10_14 : decode jdk_68_method_9_code 14 = .ok (.ifCond .le 24, 3) := by decide +kernel
theorem d10_17 : decode jdk_68_method_9_code 17 = .ok (.aload_n 0, 1) := by decide +kernel
theorem d10_18 : decode jdk_68_method_9_code 18 = .ok (.aload_n 0, 1) := by decide +kernel
theorem d10_19 : decode jdk_68_method_9_code 19 = .ok (.getfield 15, 3) := by decide +kernel
theorem d10_22 : decode jdk_68_method_9_code 22 = .ok (.aload_n 0, 1) := by decide +kernel
theorem d10_23 : decode jdk_68_method_9_code 23 = .ok (.iload_n 1, 1) := by decide +kernel
theorem d10_24 : decode jdk_68_method_9_code 24 = .ok (.invokevirtual 104, 3) := by decide +kernel
theorem d10_27 : decode jdk_68_method_9_code 27 = .ok (.aload_n 0, 1) := by decide +kernel
theorem d10_28 : decode jdk_68_method_9_code 28 = .ok (.getfield 22, 3) := by decide +kernel
theorem d10_31 : decode jdk_68_method_9_code 31 = .ok (.ishl, 1) := by decide +kernel
theorem d10_32 : decode jdk_68_method_9_code 32 = .ok (.invokestatic 108, 3) := by decide +kernel
theorem d10_35 : decode jdk_68_method_9_code 35 = .ok (.putfield 15, 3) := by decide +kernel
theorem d10_38 : decode jdk_68_method_9_code 38 = .ok (.return_, 1) := by decide +kernel
theorem d11_0 : decode jdk_68_method_73_code 0 = .ok (.aload_n 0, 1) := by decide +kernel
theorem d11_1 : decode jdk_68_method_73_code 1 = .ok (.aload_n 2, 1) := by decide +kernel
theorem d11_2 : decode jdk_68_method_73_code 2 = .ok (.invokevirtual 397, 3) := by decide +kernel
theorem d11_5 : decode jdk_68_method_73_code 5 = .ok (.aload_n 2, 1) := by decide +kernel
theorem d11_6 : decode jdk_68_method_73_code 6 = .ok (.aload_n 0, 1) := by decide +kernel
theorem d11_7 : decode jdk_68_method_73_code 7 = .ok (.getfield 15, 3) := by decide +kernel
theorem d11_10 : decode jdk_68_method_73_code 10 = .ok (.iload_n 1, 1) := by decide +kernel
theorem d11_11 : decode jdk_68_method_73_code 11 = .ok (.aload_n 0, 1) := by decide +kernel
theorem d11_12 : decode jdk_68_method_73_code 12 = .ok (.getfield 22, 3) := by decide +kernel
theorem d11_15 : decode jdk_68_method_73_code 15 = .ok (.invokevirtual 399, 3) := by decide +kernel
theorem d11_18 : decode jdk_68_method_73_code 18 = .ok (.return_, 1) := by decide +kernel
theorem d12_0 : decode jdk_68_method_71_code 0 = .ok (.getstatic 18, 3) := by decide +kernel
theorem d12_3 : decode jdk_68_method_71_code 3 = .ok (.ifCond .eq 18, 3) := by decide +kernel
theorem d12_6 : decode jdk_68_method_71_code 6 = .ok (.aload_n 0, 1) := by decide +kernel
theorem d12_7 : decode jdk_68_method_71_code 7 = .ok (.getfield 22, 3) := by decide +kernel
theorem d12_10 : decode jdk_68_method_71_code 10 = .ok (.aload_n 1, 1) := by decide +kernel
theorem d12_11 : decode jdk_68_method_71_code 11 = .ok (.invokevirtual 40, 3) := by decide +kernel
theorem d12_14 : decode jdk_68_method_71_code 14 = .ok (.if_icmp .eq 7, 3) := by decide +kernel
theorem d12_21 : decode jdk_68_method_71_code 21 = .ok (.return_, 1) := by decide +kernel
theorem d13_0 : decode jdk_42_method_147_code 0 = .ok (.aload_n 0, 1) := by decide +kernel
theorem d13_1 : decode jdk_42_method_147_code 1 = .ok (.invokevirtual 335, 3) := by decide +kernel
theorem d13_4 : decode jdk_42_method_147_code 4 = .ok (.iload_n 3, 1) := by decide +kernel
theorem d13_5 : decode jdk_42_method_147_code 5 = .ok (.if_icmp .ne 23, 3) := by decide +kernel
theorem d13_8 : decode jdk_42_method_147_code 8 = .ok (.aload_n 0, 1) := by decide +kernel
theorem d13_9 : decode jdk_42_method_147_code 9 = .ok (.getfield 9, 3) := by decide +kernel
theorem d13_12 : decode jdk_42_method_147_code 12 = .ok (.iconst 0, 1) := by decide +kernel
theorem d13_13 : decode jdk_42_method_147_code 13 = .ok (.aload_n 1, 1) := by decide +kernel
theorem d13_14 : decode jdk_42_method_147_code 14 = .ok (.iload_n 2, 1) := by decide +kernel
theorem d13_15 : decode jdk_42_method_147_code 15 = .ok (.iload_n 3, 1) := by decide +kernel
theorem d13_16 : decode jdk_42_method_147_code 16 = .ok (.ishl, 1) := by decide +kernel
theorem d13_17 : decode jdk_42_method_147_code 17 = .ok (.aload_n 0, 1) := by decide +kernel
theorem d13_18 : decode jdk_42_method_147_code 18 = .ok (.getfield 9, 3) := by decide +kernel
theorem d13_21 : decode jdk_42_method_147_code 21 = .ok (.arraylength, 1) := by decide +kernel
theorem d13_22 : decode jdk_42_method_147_code 22 = .ok (.invokestatic 212, 3) := by decide +kernel
theorem d13_25 : decode jdk_42_method_147_code 25 = .ok (.goto 18, 3) := by decide +kernel
theorem d13_43 : decode jdk_42_method_147_code 43 = .ok (.return_, 1) := by decide +kernel
theorem d14_0 : decode jdk_67_method_42_code 0 = .ok (.new 18, 3) := by decide +kernel
theorem d14_3 : decode jdk_67_method_42_code 3 = .ok (.dup, 1) := by decide +kernel
theorem d14_4 : decode jdk_67_method_42_code 4 = .ok (.aload_n 0, 1) := by decide +kernel
theorem d14_5 : decode jdk_67_method_42_code 5 = .ok (.invokespecial 137, 3) := by decide +kernel
theorem d14_8 : decode jdk_67_method_42_code 8 = .ok (.areturn, 1) := by decide +kernel
theorem d15_0 : decode jdk_42_method_53_code 0 = .ok (.aload_n 0, 1) := by decide +kernel
theorem d15_1 : decode jdk_42_method_53_code 1 = .ok (.aload_n 1, 1) := by decide +kernel
theorem d15_2 : decode jdk_42_method_53_code 2 = .ok (.aconst_null, 1) := by decide +kernel
theorem d15_3 : decode jdk_42_method_53_code 3 = .ok (.invokespecial 489, 3) := by decide +kernel
theorem d15_6 : decode jdk_42_method_53_code 6 = .ok (.return_, 1) := by decide +kernel
theorem d16_0 : decode jdk_42_method_150_code 0 = .ok (.aload_n 0, 1) := by decide +kernel
theorem d16_1 : decode jdk_42_method_150_code 1 = .ok (.invokespecial 1, 3) := by decide +kernel
theorem d16_4 : decode jdk_42_method_150_code 4 = .ok (.aload_n 1, 1) := by decide +kernel
theorem d16_5 : decode jdk_42_method_150_code 5 = .ok (.invokevirtual 552, 3) := by decide +kernel
theorem d16_8 : decode jdk_42_method_150_code 8 = .ok (.astore_n 3, 1) := by decide +kernel
theorem d16_9 : decode jdk_42_method_150_code 9 = .ok (.aload_n 1, 1) := by decide +kernel
theorem d16_10 : decode jdk_42_method_150_code 10 = .ok (.invokevirtual 549, 3) := by decide +kernel
theorem d16_13 : decode jdk_42_method_150_code 13 = .ok (.istore 4, 2) := by decide +kernel
theorem d16_15 : decode jdk_42_method_150_code 15 = .ok (.aload_n 1, 1) := by decide +kernel
theorem d16_16 : decode jdk_42_method_150_code 16 = .ok (.invokevirtual 1047, 3) := by decide +kernel
theorem d16_19 : decode jdk_42_method_150_code 19 = .ok (.ifCond .eq 22, 3) := by decide +kernel
theorem d16_22 : decode jdk_42_method_150_code 22 = .ok (.aload_n 0, 1) := by decide +kernel
theorem d16_23 : decode jdk_42_method_150_code 23 = .ok (.iconst 0, 1) := by decide +kernel
theorem d16_24 : decode jdk_42_method_150_code 24 = .ok (.putfield 15, 3) := by decide +kernel
theorem d16_27 : decode jdk_42_method_150_code 27 = .ok (.aload_n 0, 1) := by decide +kernel
theorem d16_28 : decode jdk_42_method_150_code 28 = .ok (.aload_n 3, 1) := by decide +kernel
theorem d16_29 : decode jdk_42_method_150_code 29 = .ok (.iconst 0, 1) := by decide +kernel
theorem d16_30 : decode jdk_42_method_150_code 30 = .ok (.iload 4, 2) := by decide +kernel
theorem d16_32 : decode jdk_42_method_150_code 32 = .ok (.invokestatic 54, 3) := by decide +kernel
theorem d16_35 : decode jdk_42_method_150_code 35 = .ok (.putfield 9, 3) := by decide +kernel
theorem d16_38 : decode jdk_42_method_150_code 38 = .ok (.goto 59, 3) := by decide +kernel
theorem d16_97 : decode jdk_42_method_150_code 97 = .ok (.return_, 1) := by decide +kernel
theorem d17_0 : decode jdk_68_method_64_code 0 = .ok (.aload_n 0, 1) := by decide +kernel
theorem d17_1 : decode jdk_68_method_64_code 1 = .ok (.getfield 15, 3) := by decide +kernel
theorem d17_4 : decode jdk_68_method_64_code 4 = .ok (.areturn, 1) := by decide +kernel
theorem d18_0 : decode jdk_67_method_93_code 0 = .ok (.aload_n 0, 1) := by decide +kernel
theorem d18_1 : decode jdk_67_method_93_code 1 = .ok (.invokespecial 343, 3) := by decide +kernel
theorem d18_4 : decode jdk_67_method_93_code 4 = .ok (.ireturn, 1) := by decide +kernel
theorem d19_0 : decode jdk_68_method_6_code 0 = .ok (.aload_n 0, 1) := by decide +kernel
theorem d19_1 : decode jdk_68_method_6_code 1 = .ok (.getfield 79, 3) := by decide +kernel
theorem d19_4 : decode jdk_68_method_6_code 4 = .ok (.ireturn, 1) := by decide +kernel
theorem d20_0 : decode jdk_68_method_68_code 0 = .ok (.getstatic 18, 3) := by decide +kernel
theorem d20_3 : decode jdk_68_method_68_code 3 = .ok (.ifCond .eq 14, 3) := by decide +kernel
theorem d20_6 : decode jdk_68_method_68_code 6 = .ok (.aload_n 0, 1) := by decide +kernel
theorem d20_7 : decode jdk_68_method_68_code 7 = .ok (.getfield 22, 3) := by decide +kernel
theorem d20_10 : decode jdk_68_method_68_code 10 = .ok (.ifCond .ne 7, 3) := by decide +kernel
theorem d20_13 : decode jdk_68_method_68_code 13 = .ok (.iconst 1, 1) := by decide +kernel
theorem d20_14 : decode jdk_68_method_68_code 14 = .ok (.goto 4, 3) := by decide +kernel
theorem d20_18 : decode jdk_68_method_68_code 18 = .ok (.ireturn, 1) := by decide +kernel
theorem d21_0 : decode jdk_65_method_132_code 0 = .ok (.iload_n 1, 1) := by decide +kernel
theorem d21_1 : decode jdk_65_method_132_code 1 = .ok (.ifCond .ne 9, 3) := by decide +kernel
theorem d21_4 : decode jdk_65_method_132_code 4 = .ok (.iload_n 2, 1) := by decide +kernel
theorem d21_5 : decode jdk_65_method_132_code 5 = .ok (.aload_n 0, 1) := by decide +kernel
theorem d21_6 : decode jdk_65_method_132_code 6 = .ok (.arraylength, 1) := by decide +kernel
theorem d21_7 : decode jdk_65_method_132_code 7 = .ok (.if_icmp .eq 10, 3) := by decide +kernel
theorem d21_10 : decode jdk_65_method_132_code 10 = .ok (.aload_n 0, 1) := by decide +kernel
theorem d21_11 : decode jdk_65_method_132_code 11 = .ok (.iload_n 1, 1) := by decide +kernel
theorem d21_12 : decode jdk_65_method_132_code 12 = .ok (.iload_n 2, 1) := by decide +kernel
theorem d21_13 : decode jdk_65_method_132_code 13 = .ok (.invokestatic 339, 3) := by decide +kernel
theorem d21_16 : decode jdk_65_method_132_code 16 = .ok (.areturn, 1) := by decide +kernel
theorem d21_17 : decode jdk_65_method_132_code 17 = .ok (.aload_n 0, 1) := by decide +kernel
theorem d21_18 : decode jdk_65_method_132_code 18 = .ok (.invokevirtual 310, 3) := by decide +kernel
theorem d21_21 : decode jdk_65_method_132_code 21 = .ok (.checkcast 311, 3) := by decide +kernel
theorem d21_24 : decode jdk_65_method_132_code 24 = .ok (.areturn, 1) := by decide +kernel
theorem d22_0 : decode jdk_65_method_133_code 0 = .ok (.iload_n 1, 1) := by decide +kernel
theorem d22_1 : decode jdk_65_method_133_code 1 = .ok (.iload_n 2, 1) := by decide +kernel
theorem d22_2 : decode jdk_65_method_133_code 2 = .ok (.invokestatic 343, 3) := by decide +kernel
theorem d22_5 : decode jdk_65_method_133_code 5 = .ok (.iload_n 2, 1) := by decide +kernel
theorem d22_6 : decode jdk_65_method_133_code 6 = .ok (.iload_n 1, 1) := by decide +kernel
theorem d22_7 : decode jdk_65_method_133_code 7 = .ok (.isub, 1) := by decide +kernel
theorem d22_8 : decode jdk_65_method_133_code 8 = .ok (.istore_n 3, 1) := by decide +kernel
theorem d22_9 : decode jdk_65_method_133_code 9 = .ok (.iload_n 3, 1) := by decide +kernel
theorem d22_10 : decode jdk_65_method_133_code 10 = .ok (.newarray .byte, 2) := by decide +kernel
theorem d22_12 : decode jdk_65_method_133_code 12 = .ok (.astore 4, 2) := by decide +kernel
theorem d22_14 : decode jdk_65_method_133_code 14 = .ok (.aload_n 0, 1) := by decide +kernel
theorem d22_15 : decode jdk_65_method_133_code 15 = .ok (.iload_n 1, 1) := by decide +kernel
theorem d22_16 : decode jdk_65_method_133_code 16 = .ok (.aload 4, 2) := by decide +kernel
theorem d22_18 : decode jdk_65_method_133_code 18 = .ok (.iconst 0, 1) := by decide +kernel
theorem d22_19 : decode jdk_65_method_133_code 19 = .ok (.aload_n 0, 1) := by decide +kernel
theorem d22_20 : decode jdk_65_method_133_code 20 = .ok (.arraylength, 1) := by decide +kernel
theorem d22_21 : decode jdk_65_method_133_code 21 = .ok (.iload_n 1, 1) := by decide +kernel
theorem d22_22 : decode jdk_65_method_133_code 22 = .ok (.isub, 1) := by decide +kernel
theorem d22_23 : decode jdk_65_method_133_code 23 = .ok (.iload_n 3, 1) := by decide +kernel
theorem d22_24 : decode jdk_65_method_133_code 24 = .ok (.invokestatic 304, 3) := by decide +kernel
theorem d22_27 : decode jdk_65_method_133_code 27 = .ok (.invokestatic 150, 3) := by decide +kernel
theorem d22_30 : decode jdk_65_method_133_code 30 = .ok (.aload 4, 2) := by decide +kernel
theorem d22_32 : decode jdk_65_method_133_code 32 = .ok (.areturn, 1) := by decide +kernel
theorem d23_0 : decode jdk_65_method_131_code 0 = .ok (.iload_n 1, 1) := by decide +kernel
theorem d23_1 : decode jdk_65_method_131_code 1 = .ok (.iload_n 0, 1) := by decide +kernel
theorem d23_2 : decode jdk_65_method_131_code 2 = .ok (.if_icmp .ge 35, 3) := by decide +kernel
theorem d23_37 : decode jdk_65_method_131_code 37 = .ok (.return_, 1) := by decide +kernel
theorem d24_0 : decode jdk_29_method_69_code 0 = .ok (.iload_n 0, 1) := by decide +kernel
theorem d24_1 : decode jdk_29_method_69_code 1 = .ok (.iload_n 1, 1) := by decide +kernel
theorem d24_2 : decode jdk_29_method_69_code 2 = .ok (.if_icmp .gt 7, 3) := by decide +kernel
theorem d24_5 : decode jdk_29_method_69_code 5 = .ok (.iload_n 0, 1) := by decide +kernel
theorem d24_6 : decode jdk_29_method_69_code 6 = .ok (.goto 4, 3) := by decide +kernel
theorem d24_9 : decode jdk_29_method_69_code 9 = .ok (.iload_n 1, 1) := by decide +kernel
theorem d24_10 : decode jdk_29_method_69_code 10 = .ok (.ireturn, 1) := by decide +kernel
theorem d25_0 : decode method_3_code 0 = .ok (.aload_n 0, 1) := by decide +kernel
theorem d25_1 : decode method_3_code 1 = .ok (.iload_n 1, 1) := by decide +kernel
theorem d25_2 : decode method_3_code 2 = .ok (.aload_n 2, 1) := by decide +kernel
theorem d25_3 : decode method_3_code 3 = .ok (.iload_n 3, 1) := by decide +kernel
theorem d25_4 : decode method_3_code 4 = .ok (.invokestatic 17, 3) := by decide +kernel
theorem d25_7 : decode method_3_code 7 = .ok (.ifCond .eq 43, 3) := by decide +kernel
theorem d25_10 : decode method_3_code 10 = .ok (.aload_n 0, 1) := by decide +kernel
theorem d25_11 : decode method_3_code 11 = .ok (.iload_n 1, 1) := by decide +kernel
theorem d25_12 : decode method_3_code 12 = .ok (.aload_n 2, 1) := by decide +kernel
theorem d25_13 : decode method_3_code 13 = .ok (.iload_n 3, 1) := by decide +kernel
theorem d25_14 : decode method_3_code 14 = .ok (.iconst 1, 1) := by decide +kernel
theorem d25_15 : decode method_3_code 15 = .ok (.iadd, 1) := by decide +kernel
theorem d25_16 : decode method_3_code 16 = .ok (.invokestatic 17, 3) := by decide +kernel
theorem d25_19 : decode method_3_code 19 = .ok (.ifCond .eq 31, 3) := by decide +kernel
theorem d25_22 : decode method_3_code 22 = .ok (.aload_n 0, 1) := by decide +kernel
theorem d25_23 : decode method_3_code 23 = .ok (.iload_n 1, 1) := by decide +kernel
theorem d25_24 : decode method_3_code 24 = .ok (.aload_n 2, 1) := by decide +kernel
theorem d25_25 : decode method_3_code 25 = .ok (.iload_n 3, 1) := by decide +kernel
theorem d25_26 : decode method_3_code 26 = .ok (.iconst 2, 1) := by decide +kernel
theorem d25_27 : decode method_3_code 27 = .ok (.iadd, 1) := by decide +kernel
theorem d25_28 : decode method_3_code 28 = .ok (.invokestatic 17, 3) := by decide +kernel
theorem d25_31 : decode method_3_code 31 = .ok (.ifCond .eq 19, 3) := by decide +kernel
theorem d25_34 : decode method_3_code 34 = .ok (.aload_n 0, 1) := by decide +kernel
theorem d25_35 : decode method_3_code 35 = .ok (.iload_n 1, 1) := by decide +kernel
theorem d25_36 : decode method_3_code 36 = .ok (.aload_n 2, 1) := by decide +kernel
theorem d25_37 : decode method_3_code 37 = .ok (.iload_n 3, 1) := by decide +kernel
theorem d25_38 : decode method_3_code 38 = .ok (.iconst 3, 1) := by decide +kernel
theorem d25_39 : decode method_3_code 39 = .ok (.iadd, 1) := by decide +kernel
theorem d25_40 : decode method_3_code 40 = .ok (.invokestatic 17, 3) := by decide +kernel
theorem d25_43 : decode method_3_code 43 = .ok (.ifCond .eq 7, 3) := by decide +kernel
theorem d25_46 : decode method_3_code 46 = .ok (.iconst 1, 1) := by decide +kernel
theorem d25_47 : decode method_3_code 47 = .ok (.goto 4, 3) := by decide +kernel
theorem d25_51 : decode method_3_code 51 = .ok (.ireturn, 1) := by decide +kernel
theorem d26_0 : decode method_2_code 0 = .ok (.iload_n 3, 1) := by decide +kernel
theorem d26_1 : decode method_2_code 1 = .ok (.aload_n 2, 1) := by decide +kernel
theorem d26_2 : decode method_2_code 2 = .ok (.invokevirtual 7, 3) := by decide +kernel
theorem d26_5 : decode method_2_code 5 = .ok (.if_icmp .ge 18, 3) := by decide +kernel
theorem d26_8 : decode method_2_code 8 = .ok (.aload_n 0, 1) := by decide +kernel
theorem d26_9 : decode method_2_code 9 = .ok (.iload_n 1, 1) := by decide +kernel
theorem d26_10 : decode method_2_code 10 = .ok (.iload_n 3, 1) := by decide +kernel
theorem d26_11 : decode method_2_code 11 = .ok (.iadd, 1) := by decide +kernel
theorem d26_12 : decode method_2_code 12 = .ok (.invokevirtual 13, 3) := by decide +kernel
theorem d26_15 : decode method_2_code 15 = .ok (.aload_n 2, 1) := by decide +kernel
theorem d26_16 : decode method_2_code 16 = .ok (.iload_n 3, 1) := by decide +kernel
theorem d26_17 : decode method_2_code 17 = .ok (.invokevirtual 13, 3) := by decide +kernel
theorem d26_20 : decode method_2_code 20 = .ok (.if_icmp .ne 7, 3) := by decide +kernel
theorem d26_23 : decode method_2_code 23 = .ok (.iconst 1, 1) := by decide +kernel
theorem d26_24 : decode method_2_code 24 = .ok (.goto 4, 3) := by decide +kernel
theorem d26_28 : decode method_2_code 28 = .ok (.ireturn, 1) := by decide +kernel
theorem d37_0 : decode jdk_68_method_10_code 0 = .ok (.aload_n 0, 1) := by decide +kernel
theorem d37_1 : decode jdk_68_method_10_code 1 = .ok (.getfield 15, 3) := by decide +kernel
theorem d37_4 : decode jdk_68_method_10_code 4 = .ok (.arraylength, 1) := by decide +kernel
theorem d37_5 : decode jdk_68_method_10_code 5 = .ok (.istore_n 2, 1) := by decide +kernel
theorem d37_6 : decode jdk_68_method_10_code 6 = .ok (.iload_n 1, 1) := by decide +kernel
theorem d37_7 : decode jdk_68_method_10_code 7 = .ok (.aload_n 0, 1) := by decide +kernel
theorem d37_8 : decode jdk_68_method_10_code 8 = .ok (.getfield 22, 3) := by decide +kernel
theorem d37_11 : decode jdk_68_method_10_code 11 = .ok (.ishl, 1) := by decide +kernel
theorem d37_12 : decode jdk_68_method_10_code 12 = .ok (.istore_n 3, 1) := by decide +kernel
theorem d37_13 : decode jdk_68_method_10_code 13 = .ok (.iload_n 3, 1) := by decide +kernel
theorem d37_14 : decode jdk_68_method_10_code 14 = .ok (.iload_n 2, 1) := by decide +kernel
theorem d37_15 : decode jdk_68_method_10_code 15 = .ok (.isub, 1) := by decide +kernel
theorem d37_16 : decode jdk_68_method_10_code 16 = .ok (.istore 4, 2) := by decide +kernel
theorem d37_18 : decode jdk_68_method_10_code 18 = .ok (.iload_n 2, 1) := by decide +kernel
theorem d37_19 : decode jdk_68_method_10_code 19 = .ok (.iload 4, 2) := by decide +kernel
theorem d37_21 : decode jdk_68_method_10_code 21 = .ok (.iload_n 2, 1) := by decide +kernel
theorem d37_22 : decode jdk_68_method_10_code 22 = .ok (.iconst 2, 1) := by decide +kernel
theorem d37_23 : decode jdk_68_method_10_code 23 = .ok (.aload_n 0, 1) := by decide +kernel
theorem d37_24 : decode jdk_68_method_10_code 24 = .ok (.getfield 22, 3) := by decide +kernel
theorem d37_27 : decode jdk_68_method_10_code 27 = .ok (.ishl, 1) := by decide +kernel
theorem d37_28 : decode jdk_68_method_10_code 28 = .ok (.iadd, 1) := by decide +kernel
theorem d37_29 : decode jdk_68_method_10_code 29 = .ok (.invokestatic 114, 3) := by decide +kernel
theorem d37_32 : decode jdk_68_method_10_code 32 = .ok (.istore 5, 2) := by decide +kernel
theorem d37_34 : decode jdk_68_method_10_code 34 = .ok (.iload 5, 2) := by decide +kernel
theorem d37_36 : decode jdk_68_method_10_code 36 = .ok (.ldc 39, 2) := by decide +kernel
theorem d37_38 : decode jdk_68_method_10_code 38 = .ok (.if_icmp .ne 13, 3) := by decide +kernel
theorem d37_51 : decode jdk_68_method_10_code 51 = .ok (.iload 5, 2) := by decide +kernel
theorem d37_53 : decode jdk_68_method_10_code 53 = .ok (.aload_n 0, 1) := by decide +kernel
theorem d37_54 : decode jdk_68_method_10_code 54 = .ok (.getfield 22, 3) := by decide +kernel
theorem d37_57 : decode jdk_68_method_10_code 57 = .ok (.ishr, 1) := by decide +kernel
theorem d37_58 : decode jdk_68_method_10_code 58 = .ok (.ireturn, 1) := by decide +kernel
theorem d38_0 : decode jdk_48_method_27_code 0 = .ok (.iload_n 0, 1) := by decide +kernel
theorem d38_1 : decode jdk_48_method_27_code 1 = .ok (.iload_n 1, 1) := by decide +kernel
theorem d38_2 : decode jdk_48_method_27_code 2 = .ok (.iload_n 2, 1) := by decide +kernel
theorem d38_3 : decode jdk_48_method_27_code 3 = .ok (.invokestatic 194, 3) := by decide +kernel
theorem d38_6 : decode jdk_48_method_27_code 6 = .ok (.iadd, 1) := by decide +kernel
theorem d38_7 : decode jdk_48_method_27_code 7 = .ok (.istore_n 3, 1) := by decide +kernel
theorem d38_8 : decode jdk_48_method_27_code 8 = .ok (.iconst 0, 1) := by decide +kernel
theorem d38_9 : decode jdk_48_method_27_code 9 = .ok (.iload_n 3, 1) := by decide +kernel
theorem d38_10 : decode jdk_48_method_27_code 10 = .ok (.if_icmp .ge 11, 3) := by decide +kernel
theorem d38_13 : decode jdk_48_method_27_code 13 = .ok (.iload_n 3, 1) := by decide +kernel
theorem d38_14 : decode jdk_48_method_27_code 14 = .ok (.ldc 200, 2) := by decide +kernel
theorem d38_16 : decode jdk_48_method_27_code 16 = .ok (.if_icmp .gt 5, 3) := by decide +kernel
theorem d38_19 : decode jdk_48_method_27_code 19 = .ok (.iload_n 3, 1) := by decide +kernel
theorem d38_20 : decode jdk_48_method_27_code 20 = .ok (.ireturn, 1) := by decide +kernel
theorem d39_0 : decode jdk_29_method_65_code 0 = .ok (.iload_n 0, 1) := by decide +kernel
theorem d39_1 : decode jdk_29_method_65_code 1 = .ok (.iload_n 1, 1) := by decide +kernel
theorem d39_2 : decode jdk_29_method_65_code 2 = .ok (.if_icmp .lt 7, 3) := by decide +kernel
theorem d39_5 : decode jdk_29_method_65_code 5 = .ok (.iload_n 0, 1) := by decide +kernel
theorem d39_6 : decode jdk_29_method_65_code 6 = .ok (.goto 4, 3) := by decide +kernel
theorem d39_9 : decode jdk_29_method_65_code 9 = .ok (.iload_n 1, 1) := by decide +kernel
theorem d39_10 : decode jdk_29_method_65_code 10 = .ok (.ireturn, 1) := by decide +kernel
theorem d40_0 : decode jdk_65_method_121_code 0 = .ok (.iload_n 1, 1) := by decide +kernel
theorem d40_1 : decode jdk_65_method_121_code 1 = .ok (.aload_n 0, 1) := by decide +kernel
theorem d40_2 : decode jdk_65_method_121_code 2 = .ok (.arraylength, 1) := by decide +kernel
theorem d40_3 : decode jdk_65_method_121_code 3 = .ok (.if_icmp .ne 11, 3) := by decide +kernel
theorem d40_14 : decode jdk_65_method_121_code 14 = .ok (.iload_n 1, 1) := by decide +kernel
theorem d40_15 : decode jdk_65_method_121_code 15 = .ok (.newarray .byte, 2) := by decide +kernel
theorem d40_17 : decode jdk_65_method_121_code 17 = .ok (.astore_n 2, 1) := by decide +kernel
theorem d40_18 : decode jdk_65_method_121_code 18 = .ok (.aload_n 0, 1) := by decide +kernel
theorem d40_19 : decode jdk_65_method_121_code 19 = .ok (.iconst 0, 1) := by decide +kernel
theorem d40_20 : decode jdk_65_method_121_code 20 = .ok (.aload_n 2, 1) := by decide +kernel
theorem d40_21 : decode jdk_65_method_121_code 21 = .ok (.iconst 0, 1) := by decide +kernel
theorem d40_22 : decode jdk_65_method_121_code 22 = .ok (.aload_n 0, 1) := by decide +kernel
theorem d40_23 : decode jdk_65_method_121_code 23 = .ok (.arraylength, 1) := by decide +kernel
theorem d40_24 : decode jdk_65_method_121_code 24 = .ok (.iload_n 1, 1) := by decide +kernel
theorem d40_25 : decode jdk_65_method_121_code 25 = .ok (.invokestatic 304, 3) := by decide +kernel
theorem d40_28 : decode jdk_65_method_121_code 28 = .ok (.invokestatic 150, 3) := by decide +kernel
theorem d40_31 : decode jdk_65_method_121_code 31 = .ok (.aload_n 2, 1) := by decide +kernel
theorem d40_32 : decode jdk_65_method_121_code 32 = .ok (.areturn, 1) := by decide +kernel
theorem d41_0 : decode jdk_42_method_139_code 0 = .ok (.getstatic 38, 3) := by decide +kernel
theorem d41_3 : decode jdk_42_method_139_code 3 = .ok (.ifCond .eq 23, 3) := by decide +kernel
theorem d41_6 : decode jdk_42_method_139_code 6 = .ok (.iload_n 0, 1) := by decide +kernel
theorem d41_7 : decode jdk_42_method_139_code 7 = .ok (.invokestatic 1015, 3) := by decide +kernel
theorem d41_10 : decode jdk_42_method_139_code 10 = .ok (.ifCond .eq 16, 3) := by decide +kernel
theorem d41_13 : decode jdk_42_method_139_code 13 = .ok (.new 10, 3) := by decide +kernel
theorem d41_16 : decode jdk_42_method_139_code 16 = .ok (.dup, 1) := by decide +kernel
theorem d41_17 : decode jdk_42_method_139_code 17 = .ok (.iload_n 0, 1) := by decide +kernel
theorem d41_18 : decode jdk_42_method_139_code 18 = .ok (.invokestatic 1018, 3) := by decide +kernel
theorem d41_21 : decode jdk_42_method_139_code 21 = .ok (.iconst 0, 1) := by decide +kernel
theorem d41_22 : decode jdk_42_method_139_code 22 = .ok (.invokespecial 209, 3) := by decide +kernel
theorem d41_25 : decode jdk_42_method_139_code 25 = .ok (.areturn, 1) := by decide +kernel
theorem d42_0 : decode jdk_43_method_3_code 0 = .ok (.iload_n 0, 1) := by decide +kernel
theorem d42_1 : decode jdk_43_method_3_code 1 = .ok (.sipush 255, 3) := by decide +kernel
theorem d42_4 : decode jdk_43_method_3_code 4 = .ok (.if_icmp .gt 7, 3) := by decide +kernel
theorem d42_7 : decode jdk_43_method_3_code 7 = .ok (.iconst 1, 1) := by decide +kernel
theorem d42_8 : decode jdk_43_method_3_code 8 = .ok (.goto 4, 3) := by decide +kernel
theorem d42_12 : decode jdk_43_method_3_code 12 = .ok (.ireturn, 1) := by decide +kernel
theorem d43_0 : decode jdk_43_method_46_code 0 = .ok (.iconst 1, 1) := by decide +kernel
theorem d43_1 : decode jdk_43_method_46_code 1 = .ok (.newarray .byte, 2) := by decide +kernel
theorem d43_3 : decode jdk_43_method_46_code 3 = .ok (.dup, 1) := by decide +kernel
theorem d43_4 : decode jdk_43_method_46_code 4 = .ok (.iconst 0, 1) := by decide +kernel
theorem d43_5 : decode jdk_43_method_46_code 5 = .ok (.iload_n 0, 1) := by decide +kernel
theorem d43_6 : decode jdk_43_method_46_code 6 = .ok (.i2b, 1) := by decide +kernel
theorem d43_7 : decode jdk_43_method_46_code 7 = .ok (.bastore, 1) := by decide +kernel
theorem d43_8 : decode jdk_43_method_46_code 8 = .ok (.areturn, 1) := by decide +kernel
theorem d44_0 : decode jdk_42_method_151_code 0 = .ok (.aload_n 0, 1) := by decide +kernel
theorem d44_1 : decode jdk_42_method_151_code 1 = .ok (.invokespecial 1, 3) := by decide +kernel
theorem d44_4 : decode jdk_42_method_151_code 4 = .ok (.aload_n 0, 1) := by decide +kernel
theorem d44_5 : decode jdk_42_method_151_code 5 = .ok (.aload_n 1, 1) := by decide +kernel
theorem d44_6 : decode jdk_42_method_151_code 6 = .ok (.putfield 9, 3) := by decide +kernel
theorem d44_9 : decode jdk_42_method_151_code 9 = .ok (.aload_n 0, 1) := by decide +kernel
theorem d44_10 : decode jdk_42_method_151_code 10 = .ok (.iload_n 2, 1) := by decide +kernel
theorem d44_11 : decode jdk_42_method_151_code 11 = .ok (.putfield 15, 3) := by decide +kernel
theorem d44_14 : decode jdk_42_method_151_code 14 = .ok (.return_, 1) := by decide +kernel
theorem pd0 : parseMethodDescriptor "()B" = some ⟨[], some .byte⟩ := by decide +kernel
theorem pd1 : parseMethodDescriptor "(Ljava/lang/String;)V" = some ⟨[(.object "java/lang/String")], none⟩ := by decide +kernel
theorem pd2 : parseMethodDescriptor "([BIB)V" = some ⟨[(.array .byte), .int, .byte], none⟩ := by decide +kernel
theorem pd3 : parseMethodDescriptor "(II)I" = some ⟨[.int, .int], some .int⟩ := by decide +kernel
theorem pd4 : parseMethodDescriptor "(III)I" = some ⟨[.int, .int, .int], some .int⟩ := by decide +kernel
theorem pd5 : parseMethodDescriptor "(I)I" = some ⟨[.int], some .int⟩ := by decide +kernel
theorem pd6 : parseMethodDescriptor "([BI)[B" = some ⟨[(.array .byte), .int], some (.array .byte)⟩ := by decide +kernel
theorem pd7 : parseMethodDescriptor "()I" = some ⟨[], some .int⟩ := by decide +kernel
theorem pd8 : parseMethodDescriptor "(I)V" = some ⟨[.int], none⟩ := by decide +kernel
theorem pd9 : parseMethodDescriptor "(ILjava/lang/String;)V" = some ⟨[.int, (.object "java/lang/String")], none⟩ := by decide +kernel
theorem pd10 : parseMethodDescriptor "(Ljava/lang/String;)Ljava/lang/AbstractStringBuilder;" = some ⟨[(.object "java/lang/String")], some (.object "java/lang/AbstractStringBuilder")⟩ := by decide +kernel
theorem pd11 : parseMethodDescriptor "(Ljava/lang/String;)Ljava/lang/StringBuilder;" = some ⟨[(.object "java/lang/String")], some (.object "java/lang/StringBuilder")⟩ := by decide +kernel
theorem pd12 : parseMethodDescriptor "(II)V" = some ⟨[.int, .int], none⟩ := by decide +kernel
theorem pd13 : parseMethodDescriptor "([BII)[B" = some ⟨[(.array .byte), .int, .int], some (.array .byte)⟩ := by decide +kernel
theorem pd14 : parseMethodDescriptor "()[B" = some ⟨[], some (.array .byte)⟩ := by decide +kernel
theorem pd15 : parseMethodDescriptor "()Z" = some ⟨[], some .boolean⟩ := by decide +kernel
theorem pd16 : parseMethodDescriptor "(Ljava/lang/AbstractStringBuilder;Ljava/lang/Void;)V" = some ⟨[(.object "java/lang/AbstractStringBuilder"), (.object "java/lang/Void")], none⟩ := by decide +kernel
theorem pd17 : parseMethodDescriptor "(Ljava/lang/StringBuilder;)V" = some ⟨[(.object "java/lang/StringBuilder")], none⟩ := by decide +kernel
theorem pd18 : parseMethodDescriptor "(C)Z" = some ⟨[.char], some .boolean⟩ := by decide +kernel
theorem pd19 : parseMethodDescriptor "(C)[B" = some ⟨[.char], some (.array .byte)⟩ := by decide +kernel
theorem pd20 : parseMethodDescriptor "([BB)V" = some ⟨[(.array .byte), .byte], none⟩ := by decide +kernel
theorem pd21 : parseMethodDescriptor "()Ljava/lang/String;" = some ⟨[], some (.object "java/lang/String")⟩ := by decide +kernel
theorem pd22 : parseMethodDescriptor "(I)C" = some ⟨[.int], some .char⟩ := by decide +kernel
theorem pd23 : parseMethodDescriptor "(Ljava/lang/String;ILjava/lang/String;I)Z" = some ⟨[(.object "java/lang/String"), .int, (.object "java/lang/String"), .int], some .boolean⟩ := by decide +kernel
theorem pd24 : parseMethodDescriptor "(Ljava/lang/String;ZZ)Ljava/lang/String;" = some ⟨[(.object "java/lang/String"), .boolean, .boolean], some (.object "java/lang/String")⟩ := by decide +kernel
theorem pd25 : parseMethodDescriptor "(C)Ljava/lang/String;" = some ⟨[.char], some (.object "java/lang/String")⟩ := by decide +kernel
theorem pd26 : parseMethodDescriptor "([C)V" = some ⟨[(.array .char)], none⟩ := by decide +kernel
def Q_scoder (Z : State) (gC : Int32) (gF : Value) (x : Addr) (h : Heap) (v : Option Value) (h' : Heap) (WL' FL' : List Addr) : Prop := v = some (.int 0) ∧ WL' = [] ∧ FL' = [] ∧ h' = h
set_option maxRecDepth 65536 in
set_option maxHeartbeats 4000000 in
theorem ct_scoder {l : Launch} {Z : State} {a0 : Array Value} {gC : Int32} {gF : Value} (cx : Cx a0 Z gC gF) {n0 : Nat} (x : Addr) (h : Heap) (WL FL : List Addr) (P0 : Fld Z h x "java/lang/String" "coder" "B" (.int 0)) :
    Ct l Z EL1 n0 (⟨"java/lang/String", "coder", "()B"⟩ : MethodName) jdk_42_method_152_code 1 (Option.some Jvm.ClassFile.FieldType.byte) ({ frames := 0, cells := 0, slots := 0, locals := 0 } : Room) #[(.ref x)] h WL FL (Q_scoder Z gC gF x h) := by
  refine Ct.of (plainFor_of_name pn0) ?_
  intro p e s m below meth c s1 hx hby hml hnm hret hlk X0
  refine Wo.cast (f' := (mkF m 0 #[.val (.ref x)] [])) (by first | rfl | (simp [entryFrame, mkF, argsToLocals, Value.category]; done)) ?_
  show Wo _ _ _ _ _ _ _ _ _ _ _ s1 (mkF m 0 #[.val (.ref x)] [])
  refine X0.getS hx (w38 cx) Via.refl (S_C cx) (hb hby d6_0) ?_
  intro T1 X1
  refine P.ifNo X1 hx 6 (hb hby d6_3) ((if0 _ _).trans (feq (N_C cx)).1) rfl ?_
  refine P.aloadN X1 hx 7 (hb hby d6_6) rfl rfl rfl ?_
  refine X1.getF hx (host := "") (Or.inl (w39 cx)) Via.refl P0 (hb hby d6_7) ?_
  intro T2 X2
  refine P.goto X2 hx 14 (hb hby d6_10) (by decide) (by decide) ?_
  exact WS.retN X2 (WL' := []) (FL' := []) hx (t := .byte) hret (by simp) hlk (hb hby d6_14) (nle rfl) (nle rfl) ⟨rfl, rfl, rfl, rfl⟩
def Q_getby (Z : State) (gC : Int32) (gF : Value) (g : Addr) (u : Addr) (t : Addr) (kt : ClassId) (cap : Nat) (cs : List Int32) (ds : List Int32) (h : Heap) (v : Option Value) (h' : Heap) (WL' FL' : List Addr) : Prop := v = none ∧ WL' = [] ∧ FL' = [] ∧ Keep h h' [t] ∧ Arv Z h' t kt .byte (Int32.ofNat cap) (lat (cs ++ ds)) (.int 0)
set_option maxRecDepth 65536 in
set_option maxHeartbeats 4000000 in
theorem ct_getby {l : Launch} {Z : State} {a0 : Array Value} {gC : Int32} {gF : Value} (cx : Cx a0 Z gC gF) {n0 : Nat} (g : Addr) (u : Addr) (t : Addr) (kt : ClassId) (cap : Nat) (cs : List Int32) (ds : List Int32) (h : Heap) (WL FL : List Addr) (P0 : StrL Z h g u ds) (P1 : Arv Z h t kt .byte (Int32.ofNat cap) (lat cs) (.int 0)) (P2 : t ∈ WL) (hBB : cs.length + ds.length ≤ cap) (hc : cap ≤ 4000) :
    Ct l Z EL1 n0 (⟨"java/lang/String", "getBytes", "([BIB)V"⟩ : MethodName) jdk_42_method_147_code 4 (Option.none : Option Jvm.ClassFile.FieldType) ({ frames := 1, cells := 0, slots := 0, locals := 18 } : Room) #[(.ref g), (.ref t), (.int (Int32.ofNat cs.length)), (.int 0)] h WL FL (Q_getby Z gC gF g u t kt cap cs ds h) := by
  refine Ct.of (plainFor_of_name pn0) ?_
  intro p e s m below meth c s1 hx hby hml hnm hret hlk X0
  refine Wo.cast (f' := (mkF m 0 #[.val (.ref g), .val (.ref t), .val (.int (Int32.ofNat cs.length)), .val (.int 0)] [])) (by first | rfl | (simp [entryFrame, mkF, argsToLocals, Value.category]; done)) ?_
  have K0 : Keep h h [t] := Keep.refl _ _
  show Wo _ _ _ _ _ _ _ _ _ _ _ s1 (mkF m 0 #[.val (.ref g), .val (.ref t), .val (.int (Int32.ofNat cs.length)), .val (.int 0)] [])
  refine P.aloadN X0 hx 1 (hb hby d13_0) rfl rfl rfl ?_
  obtain ⟨k1, A1⟩ := P0.2.2.2.1
  refine X0.callV hx (w33 cx) (w34 cx) (w36 cx) (w35 cx) (fun _ hZ => nf hZ (w36 cx)) (by decide) P0.1 (Ct.pay (W := 0) (ct_scoder cx g h _ _ P0.2.2.1) (w37 cx) (w1 cx) (nle rfl) (nle rfl)) (by rw [hml]; rfl) (argsL := []) (rest := []) (lenOf pd0 rfl) rfl rfl (Nat.le_of_eq rfl) (hb hby d13_1) (nle rfl) (nle rfl) ?_
  rintro T2 h2 _ _ _ X2 ⟨rfl, rfl, rfl, J2⟩
  rw [J2] at X2
  refine P.iloadN X2 hx 5 (hb hby d13_4) rfl rfl ?_
  refine P.icmpNo X2 hx 8 (hb hby d13_5) (by decide) rfl ?_
  refine P.aloadN X2 hx 9 (hb hby d13_8) rfl rfl rfl ?_
  refine X2.getF hx (host := "") (Or.inl (w32 cx)) Via.refl P0.2.1 (hb hby d13_9) ?_
  intro T3 X3
  refine P.iconst X3 hx 13 0 (hb hby d13_12) rfl rfl ?_
  refine P.aloadN X3 hx 14 (hb hby d13_13) rfl rfl rfl ?_
  refine P.iloadN X3 hx 15 (hb hby d13_14) rfl rfl ?_
  refine P.iloadN X3 hx 16 (hb hby d13_15) rfl rfl ?_
  refine P.ishl X3 hx 17 (z := (Int32.ofNat cs.length)) (hb hby d13_16) (by rw [shl0]) rfl ?_
  refine P.aloadN X3 hx 18 (hb hby d13_17) rfl rfl rfl ?_
  refine X3.getF hx (host := "") (Or.inl (w32 cx)) Via.refl P0.2.1 (hb hby d13_18) ?_
  intro T4 X4
  refine WS.alen X4 hx A1 (hb hby d13_21) ?_
  refine WS.cpL (cs := cs) (ds := ds) X4 hx (w83 cx) (w86 cx) (w84 cx) (w85 cx) A1 P1 (Nat.le_refl _) hBB (show ds.length ≤ 4000 by omega) hc P2 (by rw [hml]; rfl) (hb hby d13_22) (nle rfl) (W := 0) (Nat.le_of_eq rfl) (nle rfl) ?_
  intro T5 h5 X5 J5 G5
  have K6 : Keep h h5 [t] := K0.trans J5 (allS (Or.inl (List.mem_of_getElem? (i := 0) rfl)) all0)
  refine P.goto X5 hx 43 (hb hby d13_25) (by decide) (by decide) ?_
  exact WS.retV X5 (WL' := []) (FL' := []) hx hret hlk (hb hby d13_43) (nle rfl) (nle rfl) ⟨rfl, rfl, rfl, K6, G5⟩
def Q_infl (Z : State) (gC : Int32) (gF : Value) (x : Addr) (g : Addr) (u : Addr) (ds : List Int32) (h : Heap) (v : Option Value) (h' : Heap) (WL' FL' : List Addr) : Prop := v = none ∧ WL' = [] ∧ FL' = [] ∧ h' = h
set_option maxRecDepth 65536 in
set_option maxHeartbeats 4000000 in
theorem ct_infl {l : Launch} {Z : State} {a0 : Array Value} {gC : Int32} {gF : Value} (cx : Cx a0 Z gC gF) {n0 : Nat} (x : Addr) (g : Addr) (u : Addr) (ds : List Int32) (h : Heap) (WL FL : List Addr) (P0 : Fld Z h x "java/lang/AbstractStringBuilder" "coder" "B" (.int 0)) (P1 : StrL Z h g u ds) :
    Ct l Z EL1 n0 (⟨"java/lang/AbstractStringBuilder", "inflateIfNeededFor", "(Ljava/lang/String;)V"⟩ : MethodName) jdk_68_method_71_code 2 (Option.none : Option Jvm.ClassFile.FieldType) ({ frames := 1, cells := 0, slots := 0, locals := 13 } : Room) #[(.ref x), (.ref g)] h WL FL (Q_infl Z gC gF x g u ds h) := by
  refine Ct.of (plainFor_of_name pn1) ?_
  intro p e s m below meth c s1 hx hby hml hnm hret hlk X0
  refine Wo.cast (f' := (mkF m 0 #[.val (.ref x), .val (.ref g)] [])) (by first | rfl | (simp [entryFrame, mkF, argsToLocals, Value.category]; done)) ?_
  show Wo _ _ _ _ _ _ _ _ _ _ _ s1 (mkF m 0 #[.val (.ref x), .val (.ref g)] [])
  refine X0.getS hx (w77 cx) Via.refl (S_C cx) (hb hby d12_0) ?_
  intro T1 X1
  refine P.ifNo X1 hx 6 (hb hby d12_3) ((if0 _ _).trans (feq (N_C cx)).1) rfl ?_
  refine P.aloadN X1 hx 7 (hb hby d12_6) rfl rfl rfl ?_
  refine X1.getF hx (host := "") (Or.inl (w42 cx)) Via.refl P0 (hb hby d12_7) ?_
  intro T2 X2
  refine P.aloadN X2 hx 11 (hb hby d12_10) rfl rfl rfl ?_
  obtain ⟨k3, A3⟩ := P1.2.2.2.1
  refine X2.callV hx (w41 cx) (w34 cx) (w36 cx) (w35 cx) (fun _ hZ => nf hZ (w36 cx)) (by decide) P1.1 (Ct.pay (W := 1) (ct_scoder cx g h _ _ P1.2.2.1) (w37 cx) (w1 cx) (nle rfl) (nle rfl)) (by rw [hml]; rfl) (argsL := []) (rest := [.int 0]) (lenOf pd0 rfl) rfl rfl (Nat.le_of_eq rfl) (hb hby d12_11) (nle rfl) (nle rfl) ?_
  rintro T4 h4 _ _ _ X4 ⟨rfl, rfl, rfl, J4⟩
  rw [J4] at X4
  refine P.icmpYes X4 hx 21 (hb hby d12_14) (by decide) (by decide) (by decide) ?_
  exact WS.retV X4 (WL' := []) (FL' := []) hx hret hlk (hb hby d12_21) (nle rfl) (nle rfl) ⟨rfl, rfl, rfl, rfl⟩
def Q_putsa (Z : State) (gC : Int32) (gF : Value) (x : Addr) (g : Addr) (u : Addr) (t : Addr) (kt : ClassId) (cap : Nat) (cs : List Int32) (ds : List Int32) (h : Heap) (v : Option Value) (h' : Heap) (WL' FL' : List Addr) : Prop := v = none ∧ WL' = [] ∧ FL' = [] ∧ Keep h h' [t] ∧ Arv Z h' t kt .byte (Int32.ofNat cap) (lat (cs ++ ds)) (.int 0)
set_option maxRecDepth 65536 in
set_option maxHeartbeats 4000000 in
theorem ct_putsa {l : Launch} {Z : State} {a0 : Array Value} {gC : Int32} {gF : Value} (cx : Cx a0 Z gC gF) {n0 : Nat} (x : Addr) (g : Addr) (u : Addr) (t : Addr) (kt : ClassId) (cap : Nat) (cs : List Int32) (ds : List Int32) (h : Heap) (WL FL : List Addr) (P0 : Exa Z h x "java/lang/StringBuilder") (P1 : Fld Z h x "java/lang/AbstractStringBuilder" "value" "[B" (.ref t)) (P2 : Fld Z h x "java/lang/AbstractStringBuilder" "coder" "B" (.int 0)) (P3 : StrL Z h g u ds) (P4 : Arv Z h t kt .byte (Int32.ofNat cap) (lat cs) (.int 0)) (P5 : t ∈ WL) (hBB : cs.length + ds.length ≤ cap) (hc : cap ≤ 4000) :
    Ct l Z EL1 n0 (⟨"java/lang/AbstractStringBuilder", "putStringAt", "(ILjava/lang/String;)V"⟩ : MethodName) jdk_68_method_73_code 3 (Option.none : Option Jvm.ClassFile.FieldType) ({ frames := 2, cells := 0, slots := 0, locals := 33 } : Room) #[(.ref x), (.int (Int32.ofNat cs.length)), (.ref g)] h WL FL (Q_putsa Z gC gF x g u t kt cap cs ds h) := by
  refine Ct.of (plainFor_of_name pn1) ?_
  intro p e s m below meth c s1 hx hby hml hnm hret hlk X0
  refine Wo.cast (f' := (mkF m 0 #[.val (.ref x), .val (.int (Int32.ofNat cs.length)), .val (.ref g)] [])) (by first | rfl | (simp [entryFrame, mkF, argsToLocals, Value.category]; done)) ?_
  have K0 : Keep h h [t] := Keep.refl _ _
  show Wo _ _ _ _ _ _ _ _ _ _ _ s1 (mkF m 0 #[.val (.ref x), .val (.int (Int32.ofNat cs.length)), .val (.ref g)] [])
  refine P.aloadN X0 hx 1 (hb hby d11_0) rfl rfl rfl ?_
  refine P.aloadN X0 hx 2 (hb hby d11_1) rfl rfl rfl ?_
  refine X0.callV hx (w72 cx) (declM (w73 cx) (w76 cx)) (w75 cx) (w73 cx) (fun _ hZ => nf hZ (w75 cx)) (by decide) P0 (Ct.pay (W := 0) (ct_infl cx x g u ds h _ _ P2 P3) (w76 cx) (w22 cx) (nle rfl) (nle rfl)) (by rw [hml]; rfl) (argsL := [.ref g]) (rest := []) (lenOf pd1 rfl) rfl rfl (Nat.le_of_eq rfl) (hb hby d11_2) (nle rfl) (nle rfl) ?_
  rintro T1 h1 _ _ _ X1 ⟨rfl, rfl, rfl, J1⟩
  rw [J1] at X1
  refine P.aloadN X1 hx 6 (hb hby d11_5) rfl rfl rfl ?_
  refine P.aloadN X1 hx 7 (hb hby d11_6) rfl rfl rfl ?_
  refine X1.getF hx (host := "") (Or.inl (w44 cx)) Via.refl P1 (hb hby d11_7) ?_
  intro T2 X2
  refine P.iloadN X2 hx 11 (hb hby d11_10) rfl rfl ?_
  refine P.aloadN X2 hx 12 (hb hby d11_11) rfl rfl rfl ?_
  refine X2.getF hx (host := "") (Or.inl (w42 cx)) Via.refl P2 (hb hby d11_12) ?_
  intro T3 X3
  refine X3.callV hx (w78 cx) (w79 cx) (w81 cx) (w80 cx) (fun _ hZ => nf hZ (w81 cx)) (by decide) P3.1 (Ct.pay (W := 0) (ct_getby cx g u t kt cap cs ds h _ _ P3 P4 P5 hBB hc) (w82 cx) (w1 cx) (nle rfl) (nle rfl)) (by rw [hml]; rfl) (argsL := [.ref t, .int (Int32.ofNat cs.length), .int 0]) (rest := []) (lenOf pd2 rfl) rfl rfl (Nat.le_of_eq rfl) (hb hby d11_15) (nle rfl) (nle rfl) ?_
  rintro T4 h4 _ _ _ X4 ⟨rfl, rfl, rfl, J4, G5⟩
  have K6 : Keep h h4 [t] := K0.trans J4 (allS (Or.inl (List.mem_of_getElem? (i := 0) rfl)) all0)
  exact WS.retV X4 (WL' := []) (FL' := []) hx hret hlk (hb hby d11_18) (nle rfl) (nle rfl) ⟨rfl, rfl, rfl, K6, G5⟩
def Q_enscap (Z : State) (gC : Int32) (gF : Value) (x : Addr) (t : Addr) (kt : ClassId) (cap : Nat) (cs : List Int32) (z : Int32) (h : Heap) (v : Option Value) (h' : Heap) (WL' FL' : List Addr) : Prop := v = none ∧ WL' = [] ∧ FL' = [] ∧ h' = h
set_option maxRecDepth 65536 in
set_option maxHeartbeats 4000000 in
theorem ct_enscap {l : Launch} {Z : State} {a0 : Array Value} {gC : Int32} {gF : Value} (cx : Cx a0 Z gC gF) {n0 : Nat} (x : Addr) (t : Addr) (kt : ClassId) (cap : Nat) (cs : List Int32) (z : Int32) (h : Heap) (WL FL : List Addr) (P0 : Fld Z h x "java/lang/AbstractStringBuilder" "value" "[B" (.ref t)) (P1 : Fld Z h x "java/lang/AbstractStringBuilder" "coder" "B" (.int 0)) (P2 : Arv Z h t kt .byte (Int32.ofNat cap) (lat cs) (.int 0)) (hz : ¬ ((0 : Int32) < (z - (Int32.ofNat cap)))) :
    Ct l Z EL1 n0 (⟨"java/lang/AbstractStringBuilder", "ensureCapacityInternal", "(I)V"⟩ : MethodName) jdk_68_method_9_code 3 (Option.none : Option Jvm.ClassFile.FieldType) ({ frames := 0, cells := 0, slots := 0, locals := 0 } : Room) #[(.ref x), (.int z)] h WL FL (Q_enscap Z gC gF x t kt cap cs z h) := by
  refine Ct.of (plainFor_of_name pn1) ?_
  intro p e s m below meth c s1 hx hby hml hnm hret hlk X0
  refine Wo.cast (f' := (mkF m 0 #[.val (.ref x), .val (.int z), .unset] [])) (by first | rfl | (simp [entryFrame, mkF, argsToLocals, Value.category]; done)) ?_
  show Wo _ _ _ _ _ _ _ _ _ _ _ s1 (mkF m 0 #[.val (.ref x), .val (.int z), .unset] [])
  refine P.aloadN X0 hx 1 (hb hby d10_0) rfl rfl rfl ?_
  refine X0.getF hx (host := "") (Or.inl (w44 cx)) Via.refl P0 (hb hby d10_1) ?_
  intro T1 X1
  refine WS.alen X1 hx P2 (hb hby d10_4) ?_
  refine P.aloadN X1 hx 6 (hb hby d10_5) rfl rfl rfl ?_
  refine X1.getF hx (host := "") (Or.inl (w42 cx)) Via.refl P1 (hb hby d10_6) ?_
  intro T2 X2
  refine P.ishr X2 hx 10 (z := (Int32.ofNat cap)) (hb hby d10_9) (by rw [shr0]) rfl ?_
  refine P.istoreN X2 hx 11 #[.val (.ref x), .val (.int z), .val (.int (Int32.ofNat cap))] (hb hby d10_10) rfl rfl ?_
  refine P.iloadN X2 hx 12 (hb hby d10_11) rfl rfl ?_
  refine P.iloadN X2 hx 13 (hb hby d10_12) rfl rfl ?_
  refine P.isub X2 hx 14 (z := (z - (Int32.ofNat cap))) (hb hby d10_13) rfl rfl ?_
  refine P.ifYes X2 hx 38 (hb hby d10_14) ((if0 _ _).trans (flt hz).2.2.2) (by decide) (by decide) ?_
  exact WS.retV X2 (WL' := []) (FL' := []) hx hret hlk (hb hby d10_38) (nle rfl) (nle rfl) ⟨rfl, rfl, rfl, rfl⟩
def Q_maxqr (Z : State) (gC : Int32) (gF : Value) (a : Int32) (b : Int32) (h : Heap) (v : Option Value) (h' : Heap) (WL' FL' : List Addr) : Prop := v = some (.int b) ∧ WL' = [] ∧ FL' = [] ∧ h' = h
set_option maxRecDepth 65536 in
set_option maxHeartbeats 4000000 in
theorem ct_maxqr {l : Launch} {Z : State} {a0 : Array Value} {gC : Int32} {gF : Value} (cx : Cx a0 Z gC gF) {n0 : Nat} (a : Int32) (b : Int32) (h : Heap) (WL FL : List Addr) (hz : a < b) :
    Ct l Z EL1 n0 (⟨"java/lang/Math", "max", "(II)I"⟩ : MethodName) jdk_29_method_65_code 2 (Option.some Jvm.ClassFile.FieldType.int) ({ frames := 0, cells := 0, slots := 0, locals := 0 } : Room) #[(.int a), (.int b)] h WL FL (Q_maxqr Z gC gF a b h) := by
  refine Ct.of (by decide +kernel) ?_
  intro p e s m below meth c s1 hx hby hml hnm hret hlk X0
  refine Wo.cast (f' := (mkF m 0 #[.val (.int a), .val (.int b)] [])) (by first | rfl | (simp [entryFrame, mkF, argsToLocals, Value.category]; done)) ?_
  show Wo _ _ _ _ _ _ _ _ _ _ _ s1 (mkF m 0 #[.val (.int a), .val (.int b)] [])
  refine P.iloadN X0 hx 1 (hb hby d39_0) rfl rfl ?_
  refine P.iloadN X0 hx 2 (hb hby d39_1) rfl rfl ?_
  refine P.icmpYes X0 hx 9 (hb hby d39_2) (tlt hz).1 (by decide) (by decide) ?_
  refine P.iloadN X0 hx 10 (hb hby d39_9) rfl rfl ?_
  exact WS.retI X0 (WL' := []) (FL' := []) hx hret hlk (hb hby d39_10) (nle rfl) (nle rfl) ⟨rfl, rfl, rfl, rfl⟩
def Q_nlenA (Z : State) (gC : Int32) (gF : Value) (cap : Nat) (n : Nat) (h : Heap) (v : Option Value) (h' : Heap) (WL' FL' : List Addr) : Prop := v = some (.int (Int32.ofNat (2 * cap + 2))) ∧ WL' = [] ∧ FL' = [] ∧ h' = h
set_option maxRecDepth 65536 in
set_option maxHeartbeats 4000000 in
theorem ct_nlenA {l : Launch} {Z : State} {a0 : Array Value} {gC : Int32} {gF : Value} (cx : Cx a0 Z gC gF) {n0 : Nat} (cap : Nat) (n : Nat) (h : Heap) (WL FL : List Addr) (hg : cap < n) (hk : n < 2 * cap + 2) (hc : (2 * cap + 2) ≤ 4000) :
    Ct l Z EL1 n0 (⟨"jdk/internal/util/ArraysSupport", "newLength", "(III)I"⟩ : MethodName) jdk_48_method_27_code 4 (Option.some Jvm.ClassFile.FieldType.int) ({ frames := 1, cells := 0, slots := 0, locals := 14 } : Room) #[(.int (Int32.ofNat cap)), (.int (Int32.ofNat (n - cap))), (.int (Int32.ofNat (cap + 2)))] h WL FL (Q_nlenA Z gC gF cap n h) := by
  refine Ct.of (plainFor_of_name pn2) ?_
  intro p e s m below meth c s1 hx hby hml hnm hret hlk X0
  refine Wo.cast (f' := (mkF m 0 #[.val (.int (Int32.ofNat cap)), .val (.int (Int32.ofNat (n - cap))), .val (.int (Int32.ofNat (cap + 2))), .unset] [])) (by first | rfl | (simp [entryFrame, mkF, argsToLocals, Value.category]; done)) ?_
  show Wo _ _ _ _ _ _ _ _ _ _ _ s1 (mkF m 0 #[.val (.int (Int32.ofNat cap)), .val (.int (Int32.ofNat (n - cap))), .val (.int (Int32.ofNat (cap + 2))), .unset] [])
  refine P.iloadN X0 hx 1 (hb hby d38_0) rfl rfl ?_
  refine P.iloadN X0 hx 2 (hb hby d38_1) rfl rfl ?_
  refine P.iloadN X0 hx 3 (hb hby d38_2) rfl rfl ?_
  refine X0.callS hx (w195 cx) (w196 cx) (w131 cx) (w197 cx) (by decide) (Ct.pay (W := 1) (ct_maxqr cx (Int32.ofNat (n - cap)) (Int32.ofNat (cap + 2)) h _ _ ((oLt (by omega) (by omega)).mpr (by omega))) (w197 cx) (w131 cx) (nle rfl) (nle rfl)) (by rw [hml]; rfl) (argsL := [.int (Int32.ofNat (n - cap)), .int (Int32.ofNat (cap + 2))]) (rest := [.int (Int32.ofNat cap)]) (lenOf pd3 rfl) rfl rfl (Nat.le_of_eq rfl) (hb hby d38_3) (nle rfl) (nle rfl) ?_
  rintro T1 h1 _ _ _ X1 ⟨rfl, rfl, rfl, J1⟩
  rw [J1] at X1
  refine P.iadd X1 hx 7 (z := (Int32.ofNat (2 * cap + 2))) (hb hby d38_6) (by rw [oAd, show cap + (cap + 2) = 2 * cap + 2 by omega]) rfl ?_
  refine P.istoreN X1 hx 8 #[.val (.int (Int32.ofNat cap)), .val (.int (Int32.ofNat (n - cap))), .val (.int (Int32.ofNat (cap + 2))), .val (.int (Int32.ofNat (2 * cap + 2)))] (hb hby d38_7) rfl rfl ?_
  refine P.iconst X1 hx 9 0 (hb hby d38_8) rfl rfl ?_
  refine P.iloadN X1 hx 10 (hb hby d38_9) rfl rfl ?_
  refine P.icmpNo X1 hx 13 (hb hby d38_10) (tlt (oPos (by omega) (by omega))).2.1 rfl ?_
  refine P.iloadN X1 hx 14 (hb hby d38_13) rfl rfl ?_
  refine WS.ldcI X1 hx (w198 cx) (hb hby d38_14) ?_
  refine P.icmpNo X1 hx 19 (hb hby d38_16) (flt (oBig hc)).2.2.1 rfl ?_
  refine P.iloadN X1 hx 20 (hb hby d38_19) rfl rfl ?_
  exact WS.retI X1 (WL' := []) (FL' := []) hx hret hlk (hb hby d38_20) (nle rfl) (nle rfl) ⟨rfl, rfl, rfl, rfl⟩
def Q_ncapA (Z : State) (gC : Int32) (gF : Value) (x : Addr) (t : Addr) (kt : ClassId) (cs : List Int32) (cap : Nat) (n : Nat) (h : Heap) (v : Option Value) (h' : Heap) (WL' FL' : List Addr) : Prop := v = some (.int (Int32.ofNat (2 * cap + 2))) ∧ WL' = [] ∧ FL' = [] ∧ h' = h
set_option maxRecDepth 65536 in
set_option maxHeartbeats 4000000 in
theorem ct_ncapA {l : Launch} {Z : State} {a0 : Array Value} {gC : Int32} {gF : Value} (cx : Cx a0 Z gC gF) {n0 : Nat} (x : Addr) (t : Addr) (kt : ClassId) (cs : List Int32) (cap : Nat) (n : Nat) (h : Heap) (WL FL : List Addr) (P0 : Exa Z h x "java/lang/StringBuilder") (P1 : Fld Z h x "java/lang/AbstractStringBuilder" "value" "[B" (.ref t)) (P2 : Fld Z h x "java/lang/AbstractStringBuilder" "coder" "B" (.int 0)) (P3 : Arv Z h t kt .byte (Int32.ofNat cap) (lat cs) (.int 0)) (hg : cap < n) (hk : n < 2 * cap + 2) (hc : (2 * cap + 2) ≤ 4000) :
    Ct l Z EL1 n0 (⟨"java/lang/AbstractStringBuilder", "newCapacity", "(I)I"⟩ : MethodName) jdk_68_method_10_code 6 (Option.some Jvm.ClassFile.FieldType.int) ({ frames := 2, cells := 0, slots := 0, locals := 29 } : Room) #[(.ref x), (.int (Int32.ofNat n))] h WL FL (Q_ncapA Z gC gF x t kt cs cap n h) := by
  refine Ct.of (plainFor_of_name pn1) ?_
  intro p e s m below meth c s1 hx hby hml hnm hret hlk X0
  refine Wo.cast (f' := (mkF m 0 #[.val (.ref x), .val (.int (Int32.ofNat n)), .unset, .unset, .unset, .unset] [])) (by first | rfl | (simp [entryFrame, mkF, argsToLocals, Value.category]; done)) ?_
  show Wo _ _ _ _ _ _ _ _ _ _ _ s1 (mkF m 0 #[.val (.ref x), .val (.int (Int32.ofNat n)), .unset, .unset, .unset, .unset] [])
  refine P.aloadN X0 hx 1 (hb hby d37_0) rfl rfl rfl ?_
  refine X0.getF hx (host := "") (Or.inl (w44 cx)) Via.refl P1 (hb hby d37_1) ?_
  intro T1 X1
  refine WS.alen X1 hx P3 (hb hby d37_4) ?_
  refine P.istoreN X1 hx 6 #[.val (.ref x), .val (.int (Int32.ofNat n)), .val (.int (Int32.ofNat cap)), .unset, .unset, .unset] (hb hby d37_5) rfl rfl ?_
  refine P.iloadN X1 hx 7 (hb hby d37_6) rfl rfl ?_
  refine P.aloadN X1 hx 8 (hb hby d37_7) rfl rfl rfl ?_
  refine X1.getF hx (host := "") (Or.inl (w42 cx)) Via.refl P2 (hb hby d37_8) ?_
  intro T2 X2
  refine P.ishl X2 hx 12 (z := (Int32.ofNat n)) (hb hby d37_11) (by rw [shl0]) rfl ?_
  refine P.istoreN X2 hx 13 #[.val (.ref x), .val (.int (Int32.ofNat n)), .val (.int (Int32.ofNat cap)), .val (.int (Int32.ofNat n)), .unset, .unset] (hb hby d37_12) rfl rfl ?_
  refine P.iloadN X2 hx 14 (hb hby d37_13) rfl rfl ?_
  refine P.iloadN X2 hx 15 (hb hby d37_14) rfl rfl ?_
  refine P.isub X2 hx 16 (z := (Int32.ofNat (n - cap))) (hb hby d37_15) (by rw [oSb (Nat.le_of_lt hg)]) rfl ?_
  refine P.istore X2 hx 18 #[.val (.ref x), .val (.int (Int32.ofNat n)), .val (.int (Int32.ofNat cap)), .val (.int (Int32.ofNat n)), .val (.int (Int32.ofNat (n - cap))), .unset] (hb hby d37_16) rfl rfl ?_
  refine P.iloadN X2 hx 19 (hb hby d37_18) rfl rfl ?_
  refine P.iload X2 hx 21 (hb hby d37_19) rfl rfl ?_
  refine P.iloadN X2 hx 22 (hb hby d37_21) rfl rfl ?_
  refine P.iconst X2 hx 23 2 (hb hby d37_22) rfl rfl ?_
  refine P.aloadN X2 hx 24 (hb hby d37_23) rfl rfl rfl ?_
  refine X2.getF hx (host := "") (Or.inl (w42 cx)) Via.refl P2 (hb hby d37_24) ?_
  intro T3 X3
  refine P.ishl X3 hx 28 (z := (2 : Int32)) (hb hby d37_27) rfl rfl ?_
  refine P.iadd X3 hx 29 (z := (Int32.ofNat (cap + 2))) (hb hby d37_28) (by rw [oA2]) rfl ?_
  refine X3.callS hx (w191 cx) (w192 cx) (w193 cx) (w194 cx) (by decide) (Ct.pay (W := 0) (ct_nlenA cx cap n h _ _ hg hk hc) (w194 cx) (w193 cx) (nle rfl) (nle rfl)) (by rw [hml]; rfl) (argsL := [.int (Int32.ofNat cap), .int (Int32.ofNat (n - cap)), .int (Int32.ofNat (cap + 2))]) (rest := []) (lenOf pd4 rfl) rfl rfl (Nat.le_of_eq rfl) (hb hby d37_29) (nle rfl) (nle rfl) ?_
  rintro T4 h4 _ _ _ X4 ⟨rfl, rfl, rfl, J4⟩
  rw [J4] at X4
  refine P.istore X4 hx 34 #[.val (.ref x), .val (.int (Int32.ofNat n)), .val (.int (Int32.ofNat cap)), .val (.int (Int32.ofNat n)), .val (.int (Int32.ofNat (n - cap))), .val (.int (Int32.ofNat (2 * cap + 2)))] (hb hby d37_32) rfl rfl ?_
  refine P.iload X4 hx 36 (hb hby d37_34) rfl rfl ?_
  refine WS.ldcI X4 hx (w199 cx) (hb hby d37_36) ?_
  refine P.icmpYes X4 hx 51 (hb hby d37_38) (feq (oMax hc)).2 (by decide) (by decide) ?_
  refine P.iload X4 hx 53 (hb hby d37_51) rfl rfl ?_
  refine P.aloadN X4 hx 54 (hb hby d37_53) rfl rfl rfl ?_
  refine X4.getF hx (host := "") (Or.inl (w42 cx)) Via.refl P2 (hb hby d37_54) ?_
  intro T5 X5
  refine P.ishr X5 hx 58 (z := (Int32.ofNat (2 * cap + 2))) (hb hby d37_57) (by rw [shr0]) rfl ?_
  exact WS.retI X5 (WL' := []) (FL' := []) hx hret hlk (hb hby d37_58) (nle rfl) (nle rfl) ⟨rfl, rfl, rfl, rfl⟩
def Q_minql (Z : State) (gC : Int32) (gF : Value) (a : Int32) (b : Int32) (h : Heap) (v : Option Value) (h' : Heap) (WL' FL' : List Addr) : Prop := v = some (.int a) ∧ WL' = [] ∧ FL' = [] ∧ h' = h
set_option maxRecDepth 65536 in
set_option maxHeartbeats 4000000 in
theorem ct_minql {l : Launch} {Z : State} {a0 : Array Value} {gC : Int32} {gF : Value} (cx : Cx a0 Z gC gF) {n0 : Nat} (a : Int32) (b : Int32) (h : Heap) (WL FL : List Addr) (hz : ¬ (b < a)) :
    Ct l Z EL1 n0 (⟨"java/lang/Math", "min", "(II)I"⟩ : MethodName) jdk_29_method_69_code 2 (Option.some Jvm.ClassFile.FieldType.int) ({ frames := 0, cells := 0, slots := 0, locals := 0 } : Room) #[(.int a), (.int b)] h WL FL (Q_minql Z gC gF a b h) := by
  refine Ct.of (by decide +kernel) ?_
  intro p e s m below meth c s1 hx hby hml hnm hret hlk X0
  refine Wo.cast (f' := (mkF m 0 #[.val (.int a), .val (.int b)] [])) (by first | rfl | (simp [entryFrame, mkF, argsToLocals, Value.category]; done)) ?_
  show Wo _ _ _ _ _ _ _ _ _ _ _ s1 (mkF m 0 #[.val (.int a), .val (.int b)] [])
  refine P.iloadN X0 hx 1 (hb hby d24_0) rfl rfl ?_
  refine P.iloadN X0 hx 2 (hb hby d24_1) rfl rfl ?_
  refine P.icmpNo X0 hx 5 (hb hby d24_2) (flt hz).2.2.1 rfl ?_
  refine P.iloadN X0 hx 6 (hb hby d24_5) rfl rfl ?_
  refine P.goto X0 hx 10 (hb hby d24_6) (by decide) (by decide) ?_
  exact WS.retI X0 (WL' := []) (FL' := []) hx hret hlk (hb hby d24_10) (nle rfl) (nle rfl) ⟨rfl, rfl, rfl, rfl⟩
def Q_cpof (Z : State) (gC : Int32) (gF : Value) (t : Addr) (kt : ClassId) (cap : Nat) (cs : List Int32) (w2 : Nat) (h : Heap) (v : Option Value) (h' : Heap) (WL' FL' : List Addr) : Prop := ∃ u : Addr, ∃ ku : ClassId, v = some (.ref u) ∧ WL' = [u] ∧ FL' = [] ∧ Keep h h' [] ∧ h.size ≤ u ∧ Arv Z h' u ku .byte (Int32.ofNat w2) (lat cs) (.int 0) ∧ Exa Z h' u "[B"
set_option maxRecDepth 65536 in
set_option maxHeartbeats 4000000 in
theorem ct_cpof {l : Launch} {Z : State} {a0 : Array Value} {gC : Int32} {gF : Value} (cx : Cx a0 Z gC gF) {n0 : Nat} (t : Addr) (kt : ClassId) (cap : Nat) (cs : List Int32) (w2 : Nat) (h : Heap) (WL FL : List Addr) (P0 : Arv Z h t kt .byte (Int32.ofNat cap) (lat cs) (.int 0)) (hA : cs.length ≤ cap) (hlt : cap < w2) (hc : w2 ≤ 4000) (hG : w2 ≤ 48) :
    Ct l Z EL1 n0 (⟨"java/util/Arrays", "copyOf", "([BI)[B"⟩ : MethodName) jdk_65_method_121_code 3 (Option.some (Jvm.ClassFile.FieldType.array Jvm.ClassFile.FieldType.byte)) ({ frames := 1, cells := 1, slots := 48, locals := 18 } : Room) #[(.ref t), (.int (Int32.ofNat w2))] h WL FL (Q_cpof Z gC gF t kt cap cs w2 h) := by
  refine Ct.of (plainFor_of_name pn3) ?_
  intro p e s m below meth c s1 hx hby hml hnm hret hlk X0
  refine Wo.cast (f' := (mkF m 0 #[.val (.ref t), .val (.int (Int32.ofNat w2)), .unset] [])) (by first | rfl | (simp [entryFrame, mkF, argsToLocals, Value.category]; done)) ?_
  have K0 : Keep h h [] := Keep.refl _ _
  show Wo _ _ _ _ _ _ _ _ _ _ _ s1 (mkF m 0 #[.val (.ref t), .val (.int (Int32.ofNat w2)), .unset] [])
  refine P.iloadN X0 hx 1 (hb hby d40_0) rfl rfl ?_
  refine P.aloadN X0 hx 2 (hb hby d40_1) rfl rfl rfl ?_
  refine WS.alen X0 hx P0 (hb hby d40_2) ?_
  refine P.icmpYes X0 hx 14 (hb hby d40_3) (feq (fun q => Nat.ne_of_gt hlt ((oEq (by omega) (by omega)).mp q))).2 (by decide) (by decide) ?_
  refine P.iloadN X0 hx 15 (hb hby d40_14) rfl rfl ?_
  refine X0.newPE (aty := .byte) hx (w3 cx) (hb hby d40_15) (oNn (by omega)) (cap := 48) (by rw [oC (by omega)]; exact hG) (nle rfl) (nle rfl) (nle rfl) (ad := "[B") (by decide) ?_
  intro T1 h1 a1 k1 X1 E1 g1 A1 Ex1
  have ge2 : h.size ≤ a1 := Nat.le_trans K0.1 g1
  have K3 : Keep h h1 [] := K0.ext E1
  have V4 : Arv Z h1 a1 k1 .byte (Int32.ofNat w2) [] (.int 0) := A1
  refine P.astoreN X1 hx 18 #[.val (.ref t), .val (.int (Int32.ofNat w2)), .val (.ref a1)] (hb hby d40_17) rfl rfl rfl ?_
  refine P.aloadN X1 hx 19 (hb hby d40_18) rfl rfl rfl ?_
  refine P.iconst X1 hx 20 0 (hb hby d40_19) rfl rfl ?_
  refine P.aloadN X1 hx 21 (hb hby d40_20) rfl rfl rfl ?_
  refine P.iconst X1 hx 22 0 (hb hby d40_21) rfl rfl ?_
  refine P.aloadN X1 hx 23 (hb hby d40_22) rfl rfl rfl ?_
  have F5 : Arv Z h1 t kt .byte (Int32.ofNat cap) (lat cs) (.int 0) := (P0.ext E1)
  refine WS.alen X1 hx F5 (hb hby d40_23) ?_
  refine P.iloadN X1 hx 25 (hb hby d40_24) rfl rfl ?_
  refine X1.callS hx (w129 cx) (w130 cx) (w131 cx) (w132 cx) (by decide) (Ct.pay (W := 4) (ct_minql cx (Int32.ofNat cap) (Int32.ofNat w2) h1 _ _ ((not_congr (oLt (by omega) (by omega))).mpr (by omega))) (w132 cx) (w131 cx) (nle rfl) (nle rfl)) (by rw [hml]; rfl) (argsL := [.int (Int32.ofNat cap), .int (Int32.ofNat w2)]) (rest := [.int 0, .ref a1, .int 0, .ref t]) (lenOf pd3 rfl) rfl rfl (Nat.le_of_eq rfl) (hb hby d40_25) (nle rfl) (nle rfl) ?_
  rintro T6 h6 _ _ _ X6 ⟨rfl, rfl, rfl, J6⟩
  rw [J6] at X6
  refine WS.cpG (cs := cs) X6 hx (w133 cx) (w86 cx) (w84 cx) (w85 cx) F5 V4 hA (Nat.le_of_lt hlt) hc (List.mem_of_getElem? (i := 0) rfl) (by rw [hml]; rfl) (hb hby d40_28) (nle rfl) (W := 0) (Nat.le_of_eq rfl) (nle rfl) ?_
  intro T7 h7 X7 J7 G7
  have K8 : Keep h h7 [] := K3.trans J7 (allS (Or.inr ge2) all0)
  refine P.aloadN X7 hx 32 (hb hby d40_31) rfl rfl rfl ?_
  have F9 : Exa Z h7 a1 "[B" := (Ex1.keep J7)
  exact WS.retA X7 (WL' := [a1]) (FL' := []) hx hret rfl rfl hlk (hb hby d40_32) (nle rfl) (nle rfl) ⟨a1, k1, rfl, rfl, rfl, K8, ge2, G7, F9⟩
def Q_ensgA (Z : State) (gC : Int32) (gF : Value) (x : Addr) (t : Addr) (kt : ClassId) (cs : List Int32) (cz : Int32) (cap : Nat) (n : Nat) (h : Heap) (v : Option Value) (h' : Heap) (WL' FL' : List Addr) : Prop := ∃ u : Addr, ∃ ku : ClassId, v = none ∧ WL' = [u] ∧ FL' = [] ∧ Keep h h' [x] ∧ h.size ≤ u ∧ Fld Z h' x "java/lang/AbstractStringBuilder" "value" "[B" (.ref u) ∧ Fld Z h' x "java/lang/AbstractStringBuilder" "coder" "B" (.int 0) ∧ Fld Z h' x "java/lang/AbstractStringBuilder" "count" "I" (.int cz) ∧ Arv Z h' u ku .byte (Int32.ofNat (2 * cap + 2)) (lat cs) (.int 0) ∧ Exa Z h' u "[B"
set_option maxRecDepth 65536 in
set_option maxHeartbeats 4000000 in
theorem ct_ensgA {l : Launch} {Z : State} {a0 : Array Value} {gC : Int32} {gF : Value} (cx : Cx a0 Z gC gF) {n0 : Nat} (x : Addr) (t : Addr) (kt : ClassId) (cs : List Int32) (cz : Int32) (cap : Nat) (n : Nat) (h : Heap) (WL FL : List Addr) (P0 : Exa Z h x "java/lang/StringBuilder") (P1 : Fld Z h x "java/lang/AbstractStringBuilder" "value" "[B" (.ref t)) (P2 : Fld Z h x "java/lang/AbstractStringBuilder" "coder" "B" (.int 0)) (P3 : Fld Z h x "java/lang/AbstractStringBuilder" "count" "I" (.int cz)) (P4 : Arv Z h t kt .byte (Int32.ofNat cap) (lat cs) (.int 0)) (P5 : x ∈ WL) (P6 : t ∈ WL) (hxt : x ≠ t) (hA : cs.length ≤ cap) (hg : cap < n) (hk : n < 2 * cap + 2) (hc : (2 * cap + 2) ≤ 4000) (hG : (2 * cap + 2) ≤ 48) :
    Ct l Z EL1 n0 (⟨"java/lang/AbstractStringBuilder", "ensureCapacityInternal", "(I)V"⟩ : MethodName) jdk_68_method_9_code 3 (Option.none : Option Jvm.ClassFile.FieldType) ({ frames := 3, cells := 1, slots := 48, locals := 48 } : Room) #[(.ref x), (.int (Int32.ofNat n))] h WL FL (Q_ensgA Z gC gF x t kt cs cz cap n h) := by
  refine Ct.of (plainFor_of_name pn1) ?_
  intro p e s m below meth c s1 hx hby hml hnm hret hlk X0
  refine Wo.cast (f' := (mkF m 0 #[.val (.ref x), .val (.int (Int32.ofNat n)), .unset] [])) (by first | rfl | (simp [entryFrame, mkF, argsToLocals, Value.category]; done)) ?_
  have K0 : Keep h h [x] := Keep.refl _ _
  show Wo _ _ _ _ _ _ _ _ _ _ _ s1 (mkF m 0 #[.val (.ref x), .val (.int (Int32.ofNat n)), .unset] [])
  refine P.aloadN X0 hx 1 (hb hby d10_0) rfl rfl rfl ?_
  refine X0.getF hx (host := "") (Or.inl (w44 cx)) Via.refl P1 (hb hby d10_1) ?_
  intro T1 X1
  refine WS.alen X1 hx P4 (hb hby d10_4) ?_
  refine P.aloadN X1 hx 6 (hb hby d10_5) rfl rfl rfl ?_
  refine X1.getF hx (host := "") (Or.inl (w42 cx)) Via.refl P2 (hb hby d10_6) ?_
  intro T2 X2
  refine P.ishr X2 hx 10 (z := (Int32.ofNat cap)) (hb hby d10_9) (by rw [shr0]) rfl ?_
  refine P.istoreN X2 hx 11 #[.val (.ref x), .val (.int (Int32.ofNat n)), .val (.int (Int32.ofNat cap))] (hb hby d10_10) rfl rfl ?_
  refine P.iloadN X2 hx 12 (hb hby d10_11) rfl rfl ?_
  refine P.iloadN X2 hx 13 (hb hby d10_12) rfl rfl ?_
  refine P.isub X2 hx 14 (z := ((Int32.ofNat n) - (Int32.ofNat cap))) (hb hby d10_13) rfl rfl ?_
  refine P.ifNo X2 hx 17 (hb hby d10_14) ((if0 _ _).trans (tlt (oYes hg (by omega))).2.2.2) rfl ?_
  refine P.aloadN X2 hx 18 (hb hby d10_17) rfl rfl rfl ?_
  refine P.aloadN X2 hx 19 (hb hby d10_18) rfl rfl rfl ?_
  refine X2.getF hx (host := "") (Or.inl (w44 cx)) Via.refl P1 (hb hby d10_19) ?_
  intro T3 X3
  refine P.aloadN X3 hx 23 (hb hby d10_22) rfl rfl rfl ?_
  refine P.iloadN X3 hx 24 (hb hby d10_23) rfl rfl ?_
  refine X3.callV hx (w186 cx) (declM (w187 cx) (w190 cx)) (w189 cx) (w187 cx) (fun _ hZ => nf hZ (w189 cx)) (by decide) P0 (Ct.pay (W := 2) (ct_ncapA cx x t kt cs cap n h _ _ P0 P1 P2 P4 hg hk hc) (w190 cx) (w22 cx) (nle rfl) (nle rfl)) (by rw [hml]; rfl) (argsL := [.int (Int32.ofNat n)]) (rest := [.ref t, .ref x]) (lenOf pd5 rfl) rfl rfl (Nat.le_of_eq rfl) (hb hby d10_24) (nle rfl) (nle rfl) ?_
  rintro T4 h4 _ _ _ X4 ⟨rfl, rfl, rfl, J4⟩
  rw [J4] at X4
  refine P.aloadN X4 hx 28 (hb hby d10_27) rfl rfl rfl ?_
  refine X4.getF hx (host := "") (Or.inl (w42 cx)) Via.refl P2 (hb hby d10_28) ?_
  intro T5 X5
  refine P.ishl X5 hx 32 (z := (Int32.ofNat (2 * cap + 2))) (hb hby d10_31) (by rw [shl0]) rfl ?_
  refine X5.callS hx (w200 cx) (w201 cx) (w121 cx) (w202 cx) (by decide) (Ct.pay (W := 1) (ct_cpof cx t kt cap cs (2 * cap + 2) h _ _ P4 hA (by omega) hc hG) (w202 cx) (w121 cx) (nle rfl) (nle rfl)) (by rw [hml]; rfl) (argsL := [.ref t, .int (Int32.ofNat (2 * cap + 2))]) (rest := [.ref x]) (lenOf pd6 rfl) rfl rfl (Nat.le_of_eq rfl) (hb hby d10_32) (nle rfl) (nle rfl) ?_
  rintro T6 h6 _ _ _ X6 ⟨a7, k8, rfl, rfl, rfl, J6, g11, G9, G10⟩
  have ge12 : h.size ≤ a7 := Nat.le_trans K0.1 g11
  have K13 : Keep h h6 [x] := K0.trans J6 all0
  have F14 : Fld Z h6 x "java/lang/AbstractStringBuilder" "value" "[B" (.ref t) := (P1.keep J6 nin0)
  have F15 : Exa Z h6 x "java/lang/StringBuilder" := (P0.keep J6)
  refine X6.putF hx (host := "") (Or.inl (w44 cx)) Via.refl F14 F15 (Or.inl (w45 cx)) (w13 cx) (ty := (.array .byte)) (by decide) rfl rfl (List.mem_cons_of_mem _ P5) (hb hby d10_35) ?_
  intro T16 h16 X16 W16 G16
  have K17 : Keep h h16 [x] := K13.wr W16 (Or.inl (List.mem_of_getElem? (i := 0) rfl))
  have F18 : Arv Z h16 a7 k8 .byte (Int32.ofNat (2 * cap + 2)) (lat cs) (.int 0) := (G9.other W16 (X16.neT (A := [a7]) (B := WL) (List.mem_of_getElem? (i := 0) rfl) P5))
  have F19 : Fld Z h16 x "java/lang/AbstractStringBuilder" "coder" "B" (.int 0) := ((P2.keep J6 nin0).other W16 (Or.inr (slot_ne (Or.inl (w43 cx)) (Or.inl (w45 cx)) (by decide) (t := .byte) (t' := (.array .byte)) (by decide) (by decide))))
  have F20 : Fld Z h16 x "java/lang/AbstractStringBuilder" "count" "I" (.int cz) := ((P3.keep J6 nin0).other W16 (Or.inr (slot_ne (Or.inl (w61 cx)) (Or.inl (w45 cx)) (by decide) (t := .int) (t' := (.array .byte)) (by decide) (by decide))))
  have F21 : Exa Z h16 a7 "[B" := (G10.wr W16)
  exact WS.retV X16 (WL' := [a7]) (FL' := []) hx hret hlk (hb hby d10_38) (nle rfl) (nle rfl) ⟨a7, k8, rfl, rfl, rfl, K17, ge12, G16, F19, F20, F18, F21⟩
def Q_maxql (Z : State) (gC : Int32) (gF : Value) (a : Int32) (b : Int32) (h : Heap) (v : Option Value) (h' : Heap) (WL' FL' : List Addr) : Prop := v = some (.int a) ∧ WL' = [] ∧ FL' = [] ∧ h' = h
set_option maxRecDepth 65536 in
set_option maxHeartbeats 4000000 in
theorem ct_maxql {l : Launch} {Z : State} {a0 : Array Value} {gC : Int32} {gF : Value} (cx : Cx a0 Z gC gF) {n0 : Nat} (a : Int32) (b : Int32) (h : Heap) (WL FL : List Addr) (hz : ¬ (a < b)) :
    Ct l Z EL1 n0 (⟨"java/lang/Math", "max", "(II)I"⟩ : MethodName) jdk_29_method_65_code 2 (Option.some Jvm.ClassFile.FieldType.int) ({ frames := 0, cells := 0, slots := 0, locals := 0 } : Room) #[(.int a), (.int b)] h WL FL (Q_maxql Z gC gF a b h) := by
  refine Ct.of (by decide +kernel) ?_
  intro p e s m below meth c s1 hx hby hml hnm hret hlk X0
  refine Wo.cast (f' := (mkF m 0 #[.val (.int a), .val (.int b)] [])) (by first | rfl | (simp [entryFrame, mkF, argsToLocals, Value.category]; done)) ?_
  show Wo _ _ _ _ _ _ _ _ _ _ _ s1 (mkF m 0 #[.val (.int a), .val (.int b)] [])
  refine P.iloadN X0 hx 1 (hb hby d39_0) rfl rfl ?_
  refine P.iloadN X0 hx 2 (hb hby d39_1) rfl rfl ?_
  refine P.icmpNo X0 hx 5 (hb hby d39_2) (flt hz).1 rfl ?_
  refine P.iloadN X0 hx 6 (hb hby d39_5) rfl rfl ?_
  refine P.goto X0 hx 10 (hb hby d39_6) (by decide) (by decide) ?_
  exact WS.retI X0 (WL' := []) (FL' := []) hx hret hlk (hb hby d39_10) (nle rfl) (nle rfl) ⟨rfl, rfl, rfl, rfl⟩
def Q_nlenB (Z : State) (gC : Int32) (gF : Value) (cap : Nat) (n : Nat) (h : Heap) (v : Option Value) (h' : Heap) (WL' FL' : List Addr) : Prop := v = some (.int (Int32.ofNat n)) ∧ WL' = [] ∧ FL' = [] ∧ h' = h
set_option maxRecDepth 65536 in
set_option maxHeartbeats 4000000 in
theorem ct_nlenB {l : Launch} {Z : State} {a0 : Array Value} {gC : Int32} {gF : Value} (cx : Cx a0 Z gC gF) {n0 : Nat} (cap : Nat) (n : Nat) (h : Heap) (WL FL : List Addr) (hg : cap < n) (hk : 2 * cap + 2 ≤ n) (hc : n ≤ 4000) :
    Ct l Z EL1 n0 (⟨"jdk/internal/util/ArraysSupport", "newLength", "(III)I"⟩ : MethodName) jdk_48_method_27_code 4 (Option.some Jvm.ClassFile.FieldType.int) ({ frames := 1, cells := 0, slots := 0, locals := 14 } : Room) #[(.int (Int32.ofNat cap)), (.int (Int32.ofNat (n - cap))), (.int (Int32.ofNat (cap + 2)))] h WL FL (Q_nlenB Z gC gF cap n h) := by
  refine Ct.of (plainFor_of_name pn2) ?_
  intro p e s m below meth c s1 hx hby hml hnm hret hlk X0
  refine Wo.cast (f' := (mkF m 0 #[.val (.int (Int32.ofNat cap)), .val (.int (Int32.ofNat (n - cap))), .val (.int (Int32.ofNat (cap + 2))), .unset] [])) (by first | rfl | (simp [entryFrame, mkF, argsToLocals, Value.category]; done)) ?_
  show Wo _ _ _ _ _ _ _ _ _ _ _ s1 (mkF m 0 #[.val (.int (Int32.ofNat cap)), .val (.int (Int32.ofNat (n - cap))), .val (.int (Int32.ofNat (cap + 2))), .unset] [])
  refine P.iloadN X0 hx 1 (hb hby d38_0) rfl rfl ?_
  refine P.iloadN X0 hx 2 (hb hby d38_1) rfl rfl ?_
  refine P.iloadN X0 hx 3 (hb hby d38_2) rfl rfl ?_
  refine X0.callS hx (w195 cx) (w196 cx) (w131 cx) (w197 cx) (by decide) (Ct.pay (W := 1) (ct_maxql cx (Int32.ofNat (n - cap)) (Int32.ofNat (cap + 2)) h _ _ ((not_congr (oLt (by omega) (by omega))).mpr (by omega))) (w197 cx) (w131 cx) (nle rfl) (nle rfl)) (by rw [hml]; rfl) (argsL := [.int (Int32.ofNat (n - cap)), .int (Int32.ofNat (cap + 2))]) (rest := [.int (Int32.ofNat cap)]) (lenOf pd3 rfl) rfl rfl (Nat.le_of_eq rfl) (hb hby d38_3) (nle rfl) (nle rfl) ?_
  rintro T1 h1 _ _ _ X1 ⟨rfl, rfl, rfl, J1⟩
  rw [J1] at X1
  refine P.iadd X1 hx 7 (z := (Int32.ofNat n)) (hb hby d38_6) (by rw [oAd, show cap + (n - cap) = n by omega]) rfl ?_
  refine P.istoreN X1 hx 8 #[.val (.int (Int32.ofNat cap)), .val (.int (Int32.ofNat (n - cap))), .val (.int (Int32.ofNat (cap + 2))), .val (.int (Int32.ofNat n))] (hb hby d38_7) rfl rfl ?_
  refine P.iconst X1 hx 9 0 (hb hby d38_8) rfl rfl ?_
  refine P.iloadN X1 hx 10 (hb hby d38_9) rfl rfl ?_
  refine P.icmpNo X1 hx 13 (hb hby d38_10) (tlt (oPos (by omega) (by omega))).2.1 rfl ?_
  refine P.iloadN X1 hx 14 (hb hby d38_13) rfl rfl ?_
  refine WS.ldcI X1 hx (w198 cx) (hb hby d38_14) ?_
  refine P.icmpNo X1 hx 19 (hb hby d38_16) (flt (oBig hc)).2.2.1 rfl ?_
  refine P.iloadN X1 hx 20 (hb hby d38_19) rfl rfl ?_
  exact WS.retI X1 (WL' := []) (FL' := []) hx hret hlk (hb hby d38_20) (nle rfl) (nle rfl) ⟨rfl, rfl, rfl, rfl⟩
def Q_ncapB (Z : State) (gC : Int32) (gF : Value) (x : Addr) (t : Addr) (kt : ClassId) (cs : List Int32) (cap : Nat) (n : Nat) (h : Heap) (v : Option Value) (h' : Heap) (WL' FL' : List Addr) : Prop := v = some (.int (Int32.ofNat n)) ∧ WL' = [] ∧ FL' = [] ∧ h' = h
set_option maxRecDepth 65536 in
set_option maxHeartbeats 4000000 in
theorem ct_ncapB {l : Launch} {Z : State} {a0 : Array Value} {gC : Int32} {gF : Value} (cx : Cx a0 Z gC gF) {n0 : Nat} (x : Addr) (t : Addr) (kt : ClassId) (cs : List Int32) (cap : Nat) (n : Nat) (h : Heap) (WL FL : List Addr) (P0 : Exa Z h x "java/lang/StringBuilder") (P1 : Fld Z h x "java/lang/AbstractStringBuilder" "value" "[B" (.ref t)) (P2 : Fld Z h x "java/lang/AbstractStringBuilder" "coder" "B" (.int 0)) (P3 : Arv Z h t kt .byte (Int32.ofNat cap) (lat cs) (.int 0)) (hg : cap < n) (hk : 2 * cap + 2 ≤ n) (hc : n ≤ 4000) :
    Ct l Z EL1 n0 (⟨"java/lang/AbstractStringBuilder", "newCapacity", "(I)I"⟩ : MethodName) jdk_68_method_10_code 6 (Option.some Jvm.ClassFile.FieldType.int) ({ frames := 2, cells := 0, slots := 0, locals := 29 } : Room) #[(.ref x), (.int (Int32.ofNat n))] h WL FL (Q_ncapB Z gC gF x t kt cs cap n h) := by
  refine Ct.of (plainFor_of_name pn1) ?_
  intro p e s m below meth c s1 hx hby hml hnm hret hlk X0
  refine Wo.cast (f' := (mkF m 0 #[.val (.ref x), .val (.int (Int32.ofNat n)), .unset, .unset, .unset, .unset] [])) (by first | rfl | (simp [entryFrame, mkF, argsToLocals, Value.category]; done)) ?_
  show Wo _ _ _ _ _ _ _ _ _ _ _ s1 (mkF m 0 #[.val (.ref x), .val (.int (Int32.ofNat n)), .unset, .unset, .unset, .unset] [])
  refine P.aloadN X0 hx 1 (hb hby d37_0) rfl rfl rfl ?_
  refine X0.getF hx (host := "") (Or.inl (w44 cx)) Via.refl P1 (hb hby d37_1) ?_
  intro T1 X1
  refine WS.alen X1 hx P3 (hb hby d37_4) ?_
  refine P.istoreN X1 hx 6 #[.val (.ref x), .val (.int (Int32.ofNat n)), .val (.int (Int32.ofNat cap)), .unset, .unset, .unset] (hb hby d37_5) rfl rfl ?_
  refine P.iloadN X1 hx 7 (hb hby d37_6) rfl rfl ?_
  refine P.aloadN X1 hx 8 (hb hby d37_7) rfl rfl rfl ?_
  refine X1.getF hx (host := "") (Or.inl (w42 cx)) Via.refl P2 (hb hby d37_8) ?_
  intro T2 X2
  refine P.ishl X2 hx 12 (z := (Int32.ofNat n)) (hb hby d37_11) (by rw [shl0]) rfl ?_
  refine P.istoreN X2 hx 13 #[.val (.ref x), .val (.int (Int32.ofNat n)), .val (.int (Int32.ofNat cap)), .val (.int (Int32.ofNat n)), .unset, .unset] (hb hby d37_12) rfl rfl ?_
  refine P.iloadN X2 hx 14 (hb hby d37_13) rfl rfl ?_
  refine P.iloadN X2 hx 15 (hb hby d37_14) rfl rfl ?_
  refine P.isub X2 hx 16 (z := (Int32.ofNat (n - cap))) (hb hby d37_15) (by rw [oSb (Nat.le_of_lt hg)]) rfl ?_
  refine P.istore X2 hx 18 #[.val (.ref x), .val (.int (Int32.ofNat n)), .val (.int (Int32.ofNat cap)), .val (.int (Int32.ofNat n)), .val (.int (Int32.ofNat (n - cap))), .unset] (hb hby d37_16) rfl rfl ?_
  refine P.iloadN X2 hx 19 (hb hby d37_18) rfl rfl ?_
  refine P.iload X2 hx 21 (hb hby d37_19) rfl rfl ?_
  refine P.iloadN X2 hx 22 (hb hby d37_21) rfl rfl ?_
  refine P.iconst X2 hx 23 2 (hb hby d37_22) rfl rfl ?_
  refine P.aloadN X2 hx 24 (hb hby d37_23) rfl rfl rfl ?_
  refine X2.getF hx (host := "") (Or.inl (w42 cx)) Via.refl P2 (hb hby d37_24) ?_
  intro T3 X3
  refine P.ishl X3 hx 28 (z := (2 : Int32)) (hb hby d37_27) rfl rfl ?_
  refine P.iadd X3 hx 29 (z := (Int32.ofNat (cap + 2))) (hb hby d37_28) (by rw [oA2]) rfl ?_
  refine X3.callS hx (w191 cx) (w192 cx) (w193 cx) (w194 cx) (by decide) (Ct.pay (W := 0) (ct_nlenB cx cap n h _ _ hg hk hc) (w194 cx) (w193 cx) (nle rfl) (nle rfl)) (by rw [hml]; rfl) (argsL := [.int (Int32.ofNat cap), .int (Int32.ofNat (n - cap)), .int (Int32.ofNat (cap + 2))]) (rest := []) (lenOf pd4 rfl) rfl rfl (Nat.le_of_eq rfl) (hb hby d37_29) (nle rfl) (nle rfl) ?_
  rintro T4 h4 _ _ _ X4 ⟨rfl, rfl, rfl, J4⟩
  rw [J4] at X4
  refine P.istore X4 hx 34 #[.val (.ref x), .val (.int (Int32.ofNat n)), .val (.int (Int32.ofNat cap)), .val (.int (Int32.ofNat n)), .val (.int (Int32.ofNat (n - cap))), .val (.int (Int32.ofNat n))] (hb hby d37_32) rfl rfl ?_
  refine P.iload X4 hx 36 (hb hby d37_34) rfl rfl ?_
  refine WS.ldcI X4 hx (w199 cx) (hb hby d37_36) ?_
  refine P.icmpYes X4 hx 51 (hb hby d37_38) (feq (oMax hc)).2 (by decide) (by decide) ?_
  refine P.iload X4 hx 53 (hb hby d37_51) rfl rfl ?_
  refine P.aloadN X4 hx 54 (hb hby d37_53) rfl rfl rfl ?_
  refine X4.getF hx (host := "") (Or.inl (w42 cx)) Via.refl P2 (hb hby d37_54) ?_
  intro T5 X5
  refine P.ishr X5 hx 58 (z := (Int32.ofNat n)) (hb hby d37_57) (by rw [shr0]) rfl ?_
  exact WS.retI X5 (WL' := []) (FL' := []) hx hret hlk (hb hby d37_58) (nle rfl) (nle rfl) ⟨rfl, rfl, rfl, rfl⟩
def Q_ensgB (Z : State) (gC : Int32) (gF : Value) (x : Addr) (t : Addr) (kt : ClassId) (cs : List Int32) (cz : Int32) (cap : Nat) (n : Nat) (h : Heap) (v : Option Value) (h' : Heap) (WL' FL' : List Addr) : Prop := ∃ u : Addr, ∃ ku : ClassId, v = none ∧ WL' = [u] ∧ FL' = [] ∧ Keep h h' [x] ∧ h.size ≤ u ∧ Fld Z h' x "java/lang/AbstractStringBuilder" "value" "[B" (.ref u) ∧ Fld Z h' x "java/lang/AbstractStringBuilder" "coder" "B" (.int 0) ∧ Fld Z h' x "java/lang/AbstractStringBuilder" "count" "I" (.int cz) ∧ Arv Z h' u ku .byte (Int32.ofNat n) (lat cs) (.int 0) ∧ Exa Z h' u "[B"
set_option maxRecDepth 65536 in
set_option maxHeartbeats 4000000 in
theorem ct_ensgB {l : Launch} {Z : State} {a0 : Array Value} {gC : Int32} {gF : Value} (cx : Cx a0 Z gC gF) {n0 : Nat} (x : Addr) (t : Addr) (kt : ClassId) (cs : List Int32) (cz : Int32) (cap : Nat) (n : Nat) (h : Heap) (WL FL : List Addr) (P0 : Exa Z h x "java/lang/StringBuilder") (P1 : Fld Z h x "java/lang/AbstractStringBuilder" "value" "[B" (.ref t)) (P2 : Fld Z h x "java/lang/AbstractStringBuilder" "coder" "B" (.int 0)) (P3 : Fld Z h x "java/lang/AbstractStringBuilder" "count" "I" (.int cz)) (P4 : Arv Z h t kt .byte (Int32.ofNat cap) (lat cs) (.int 0)) (P5 : x ∈ WL) (P6 : t ∈ WL) (hxt : x ≠ t) (hA : cs.length ≤ cap) (hg : cap < n) (hk : 2 * cap + 2 ≤ n) (hc : n ≤ 4000) (hG : n ≤ 48) :
    Ct l Z EL1 n0 (⟨"java/lang/AbstractStringBuilder", "ensureCapacityInternal", "(I)V"⟩ : MethodName) jdk_68_method_9_code 3 (Option.none : Option Jvm.ClassFile.FieldType) ({ frames := 3, cells := 1, slots := 48, locals := 48 } : Room) #[(.ref x), (.int (Int32.ofNat n))] h WL FL (Q_ensgB Z gC gF x t kt cs cz cap n h) := by
  refine Ct.of (plainFor_of_name pn1) ?_
  intro p e s m below meth c s1 hx hby hml hnm hret hlk X0
  refine Wo.cast (f' := (mkF m 0 #[.val (.ref x), .val (.int (Int32.ofNat n)), .unset] [])) (by first | rfl | (simp [entryFrame, mkF, argsToLocals, Value.category]; done)) ?_
  have K0 : Keep h h [x] := Keep.refl _ _
  show Wo _ _ _ _ _ _ _ _ _ _ _ s1 (mkF m 0 #[.val (.ref x), .val (.int (Int32.ofNat n)), .unset] [])
  refine P.aloadN X0 hx 1 (hb hby d10_0) rfl rfl rfl ?_
  refine X0.getF hx (host := "") (Or.inl (w44 cx)) Via.refl P1 (hb hby d10_1) ?_
  intro T1 X1
  refine WS.alen X1 hx P4 (hb hby d10_4) ?_
  refine P.aloadN X1 hx 6 (hb hby d10_5) rfl rfl rfl ?_
  refine X1.getF hx (host := "") (Or.inl (w42 cx)) Via.refl P2 (hb hby d10_6) ?_
  intro T2 X2
  refine P.ishr X2 hx 10 (z := (Int32.ofNat cap)) (hb hby d10_9) (by rw [shr0]) rfl ?_
  refine P.istoreN X2 hx 11 #[.val (.ref x), .val (.int (Int32.ofNat n)), .val (.int (Int32.ofNat cap))] (hb hby d10_10) rfl rfl ?_
  refine P.iloadN X2 hx 12 (hb hby d10_11) rfl rfl ?_
  refine P.iloadN X2 hx 13 (hb hby d10_12) rfl rfl ?_
  refine P.isub X2 hx 14 (z := ((Int32.ofNat n) - (Int32.ofNat cap))) (hb hby d10_13) rfl rfl ?_
  refine P.ifNo X2 hx 17 (hb hby d10_14) ((if0 _ _).trans (tlt (oYes hg (by omega))).2.2.2) rfl ?_
  refine P.aloadN X2 hx 18 (hb hby d10_17) rfl rfl rfl ?_
  refine P.aloadN X2 hx 19 (hb hby d10_18) rfl rfl rfl ?_
  refine X2.getF hx (host := "") (Or.inl (w44 cx)) Via.refl P1 (hb hby d10_19) ?_
  intro T3 X3
  refine P.aloadN X3 hx 23 (hb hby d10_22) rfl rfl rfl ?_
  refine P.iloadN X3 hx 24 (hb hby d10_23) rfl rfl ?_
  refine X3.callV hx (w186 cx) (declM (w187 cx) (w190 cx)) (w189 cx) (w187 cx) (fun _ hZ => nf hZ (w189 cx)) (by decide) P0 (Ct.pay (W := 2) (ct_ncapB cx x t kt cs cap n h _ _ P0 P1 P2 P4 (by omega) hk hc) (w190 cx) (w22 cx) (nle rfl) (nle rfl)) (by rw [hml]; rfl) (argsL := [.int (Int32.ofNat n)]) (rest := [.ref t, .ref x]) (lenOf pd5 rfl) rfl rfl (Nat.le_of_eq rfl) (hb hby d10_24) (nle rfl) (nle rfl) ?_
  rintro T4 h4 _ _ _ X4 ⟨rfl, rfl, rfl, J4⟩
  rw [J4] at X4
  refine P.aloadN X4 hx 28 (hb hby d10_27) rfl rfl rfl ?_
  refine X4.getF hx (host := "") (Or.inl (w42 cx)) Via.refl P2 (hb hby d10_28) ?_
  intro T5 X5
  refine P.ishl X5 hx 32 (z := (Int32.ofNat n)) (hb hby d10_31) (by rw [shl0]) rfl ?_
  refine X5.callS hx (w200 cx) (w201 cx) (w121 cx) (w202 cx) (by decide) (Ct.pay (W := 1) (ct_cpof cx t kt cap cs n h _ _ P4 hA (by omega) hc hG) (w202 cx) (w121 cx) (nle rfl) (nle rfl)) (by rw [hml]; rfl) (argsL := [.ref t, .int (Int32.ofNat n)]) (rest := [.ref x]) (lenOf pd6 rfl) rfl rfl (Nat.le_of_eq rfl) (hb hby d10_32) (nle rfl) (nle rfl) ?_
  rintro T6 h6 _ _ _ X6 ⟨a7, k8, rfl, rfl, rfl, J6, g11, G9, G10⟩
  have ge12 : h.size ≤ a7 := Nat.le_trans K0.1 g11
  have K13 : Keep h h6 [x] := K0.trans J6 all0
  have F14 : Fld Z h6 x "java/lang/AbstractStringBuilder" "value" "[B" (.ref t) := (P1.keep J6 nin0)
  have F15 : Exa Z h6 x "java/lang/StringBuilder" := (P0.keep J6)
  refine X6.putF hx (host := "") (Or.inl (w44 cx)) Via.refl F14 F15 (Or.inl (w45 cx)) (w13 cx) (ty := (.array .byte)) (by decide) rfl rfl (List.mem_cons_of_mem _ P5) (hb hby d10_35) ?_
  intro T16 h16 X16 W16 G16
  have K17 : Keep h h16 [x] := K13.wr W16 (Or.inl (List.mem_of_getElem? (i := 0) rfl))
  have F18 : Arv Z h16 a7 k8 .byte (Int32.ofNat n) (lat cs) (.int 0) := (G9.other W16 (X16.neT (A := [a7]) (B := WL) (List.mem_of_getElem? (i := 0) rfl) P5))
  have F19 : Fld Z h16 x "java/lang/AbstractStringBuilder" "coder" "B" (.int 0) := ((P2.keep J6 nin0).other W16 (Or.inr (slot_ne (Or.inl (w43 cx)) (Or.inl (w45 cx)) (by decide) (t := .byte) (t' := (.array .byte)) (by decide) (by decide))))
  have F20 : Fld Z h16 x "java/lang/AbstractStringBuilder" "count" "I" (.int cz) := ((P3.keep J6 nin0).other W16 (Or.inr (slot_ne (Or.inl (w61 cx)) (Or.inl (w45 cx)) (by decide) (t := .int) (t' := (.array .byte)) (by decide) (by decide))))
  have F21 : Exa Z h16 a7 "[B" := (G10.wr W16)
  exact WS.retV X16 (WL' := [a7]) (FL' := []) hx hret hlk (hb hby d10_38) (nle rfl) (nle rfl) ⟨a7, k8, rfl, rfl, rfl, K17, ge12, G16, F19, F20, F18, F21⟩
def Q_asbappN (Z : State) (gC : Int32) (gF : Value) (x : Addr) (g : Addr) (u : Addr) (t : Addr) (cap : Nat) (cs : List Int32) (ds : List Int32) (h : Heap) (v : Option Value) (h' : Heap) (WL' FL' : List Addr) : Prop := v = some (.ref x) ∧ WL' = [] ∧ FL' = [] ∧ Keep h h' [x, t] ∧ SB Z h' x t cap (cs ++ ds)
set_option maxRecDepth 65536 in
set_option maxHeartbeats 4000000 in
theorem ct_asbappN {l : Launch} {Z : State} {a0 : Array Value} {gC : Int32} {gF : Value} (cx : Cx a0 Z gC gF) {n0 : Nat} (x : Addr) (g : Addr) (u : Addr) (t : Addr) (cap : Nat) (cs : List Int32) (ds : List Int32) (h : Heap) (WL FL : List Addr) (P0 : SB Z h x t cap cs) (P1 : StrL Z h g u ds) (P2 : x ∈ WL) (P3 : t ∈ WL) (hxt : x ≠ t) (hBB : cs.length + ds.length ≤ cap) :
    Ct l Z EL1 n0 (⟨"java/lang/AbstractStringBuilder", "append", "(Ljava/lang/String;)Ljava/lang/AbstractStringBuilder;"⟩ : MethodName) jdk_68_method_22_code 3 (Option.some (Jvm.ClassFile.FieldType.object "java/lang/AbstractStringBuilder")) ({ frames := 3, cells := 0, slots := 0, locals := 47 } : Room) #[(.ref x), (.ref g)] h WL FL (Q_asbappN Z gC gF x g u t cap cs ds h) := by
  refine Ct.of (plainFor_of_name pn1) ?_
  intro p e s m below meth c s1 hx hby hml hnm hret hlk X0
  refine Wo.cast (f' := (mkF m 0 #[.val (.ref x), .val (.ref g), .unset] [])) (by first | rfl | (simp [entryFrame, mkF, argsToLocals, Value.category]; done)) ?_
  have K0 : Keep h h [x, t] := Keep.refl _ _
  show Wo _ _ _ _ _ _ _ _ _ _ _ s1 (mkF m 0 #[.val (.ref x), .val (.ref g), .unset] [])
  refine P.aloadN X0 hx 1 (hb hby d9_0) rfl rfl rfl ?_
  refine P.ifnonnullYes X0 hx 9 (hb hby d9_1) (by decide) (by decide) ?_
  refine P.aloadN X0 hx 10 (hb hby d9_9) rfl rfl rfl ?_
  refine X0.callV hx (w27 cx) (w28 cx) (w30 cx) (w29 cx) (fun _ hZ => nf hZ (w30 cx)) (by decide) P1.1 (pay_len (W := 0) (hln cx) (w2 cx) P1 (X0.sta (S_C cx)) (N_C cx) (nle rfl) (nle rfl)) (by rw [hml]; rfl) (argsL := []) (rest := []) (lenOf pd7 rfl) rfl rfl (Nat.le_of_eq rfl) (hb hby d9_10) (nle rfl) (nle rfl) ?_
  rintro T1 h1 _ _ _ X1 ⟨rfl, rfl, rfl, J1⟩
  rw [J1] at X1
  show Wo _ _ _ _ _ _ _ _ _ _ _ T1 (mkF m 13 #[.val (.ref x), .val (.ref g), .unset] [.int (Int32.ofNat ds.length)])
  refine P.istoreN X1 hx 14 #[.val (.ref x), .val (.ref g), .val (.int (Int32.ofNat ds.length))] (hb hby d9_13) rfl rfl ?_
  refine P.aloadN X1 hx 15 (hb hby d9_14) rfl rfl rfl ?_
  refine P.aloadN X1 hx 16 (hb hby d9_15) rfl rfl rfl ?_
  obtain ⟨k2, A2⟩ := P0.2.2.2.2.1
  refine X1.getF hx (host := "") (Or.inl (w60 cx)) Via.refl P0.2.2.2.1 (hb hby d9_16) ?_
  intro T3 X3
  refine P.iloadN X3 hx 20 (hb hby d9_19) rfl rfl ?_
  refine P.iadd X3 hx 21 (z := (Int32.ofNat (cs ++ ds).length)) (hb hby d9_20) (by rw [oapp]) rfl ?_
  refine X3.callV hx (w62 cx) (declM (w63 cx) (w66 cx)) (w65 cx) (w63 cx) (fun _ hZ => nf hZ (w65 cx)) (by decide) P0.1 (Ct.pay (W := 0) (ct_enscap cx x t k2 cap cs (Int32.ofNat (cs ++ ds).length) h _ _ P0.2.1 P0.2.2.1 A2 (oNo (by rw [List.length_append]; exact hBB) (Nat.lt_of_le_of_lt P0.2.2.2.2.2.2.2.1 (by decide)))) (w66 cx) (w22 cx) (nle rfl) (nle rfl)) (by rw [hml]; rfl) (argsL := [.int (Int32.ofNat (cs ++ ds).length)]) (rest := []) (lenOf pd8 rfl) rfl rfl (Nat.le_of_eq rfl) (hb hby d9_21) (nle rfl) (nle rfl) ?_
  rintro T4 h4 _ _ _ X4 ⟨rfl, rfl, rfl, J4⟩
  rw [J4] at X4
  refine P.aloadN X4 hx 25 (hb hby d9_24) rfl rfl rfl ?_
  refine P.aloadN X4 hx 26 (hb hby d9_25) rfl rfl rfl ?_
  refine X4.getF hx (host := "") (Or.inl (w60 cx)) Via.refl P0.2.2.2.1 (hb hby d9_26) ?_
  intro T5 X5
  refine P.aloadN X5 hx 30 (hb hby d9_29) rfl rfl rfl ?_
  refine X5.callV hx (w67 cx) (declM (w68 cx) (w71 cx)) (w70 cx) (w68 cx) (fun _ hZ => nf hZ (w70 cx)) (by decide) P0.1 (Ct.pay (W := 0) (ct_putsa cx x g u t k2 cap cs ds h _ _ P0.1 P0.2.1 P0.2.2.1 P1 A2 P3 hBB P0.2.2.2.2.2.2.2.1) (w71 cx) (w22 cx) (nle rfl) (nle rfl)) (by rw [hml]; rfl) (argsL := [.int (Int32.ofNat cs.length), .ref g]) (rest := []) (lenOf pd9 rfl) rfl rfl (Nat.le_of_eq rfl) (hb hby d9_30) (nle rfl) (nle rfl) ?_
  rintro T6 h6 _ _ _ X6 ⟨rfl, rfl, rfl, J6, G7⟩
  have K8 : Keep h h6 [x, t] := K0.trans J6 (allS (Or.inl (List.mem_of_getElem? (i := 1) rfl)) all0)
  refine P.aloadN X6 hx 34 (hb hby d9_33) rfl rfl rfl ?_
  refine P.dup X6 hx 35 (hb hby d9_34) rfl rfl ?_
  have F9 : Fld Z h6 x "java/lang/AbstractStringBuilder" "count" "I" (.int (Int32.ofNat cs.length)) := (P0.2.2.2.1.keep J6 (ninS hxt nin0))
  refine X6.getF hx (host := "") (Or.inl (w60 cx)) Via.refl F9 (hb hby d9_35) ?_
  intro T10 X10
  refine P.iloadN X10 hx 39 (hb hby d9_38) rfl rfl ?_
  refine P.iadd X10 hx 40 (z := (Int32.ofNat (cs ++ ds).length)) (hb hby d9_39) (by rw [oapp]) rfl ?_
  have F11 : Exa Z h6 x "java/lang/StringBuilder" := (P0.1.keep J6)
  refine X10.putF hx (host := "") (Or.inl (w60 cx)) Via.refl F9 F11 (Or.inl (w61 cx)) (w13 cx) (ty := .int) (by decide) rfl rfl P2 (hb hby d9_40) ?_
  intro T12 h12 X12 W12 G12
  have K13 : Keep h h12 [x, t] := K8.wr W12 (Or.inl (List.mem_of_getElem? (i := 0) rfl))
  refine P.aloadN X12 hx 44 (hb hby d9_43) rfl rfl rfl ?_
  have F14 : Fld Z h12 x "java/lang/AbstractStringBuilder" "value" "[B" (.ref t) := ((P0.2.1.keep J6 (ninS hxt nin0)).other W12 (Or.inr (slot_ne (Or.inl (w45 cx)) (Or.inl (w61 cx)) (by decide) (t := (.array .byte)) (t' := .int) (by decide) (by decide))))
  have F15 : Exa Z h12 x "java/lang/StringBuilder" := (F11.wr W12)
  have F16 : Fld Z h12 x "java/lang/AbstractStringBuilder" "coder" "B" (.int 0) := ((P0.2.2.1.keep J6 (ninS hxt nin0)).other W12 (Or.inr (slot_ne (Or.inl (w43 cx)) (Or.inl (w61 cx)) (by decide) (t := .byte) (t' := .int) (by decide) (by decide))))
  have F17 : Arv Z h12 t k2 .byte (Int32.ofNat cap) (lat (cs ++ ds)) (.int 0) := (G7.other W12 (Ne.symm hxt))
  have F18 : Exa Z h12 t "[B" := ((P0.2.2.2.2.2.2.2.2.keep J6).wr W12)
  have S19 : SB Z h12 x t cap (cs ++ ds) := ⟨F15, F14, F16, G12, ⟨_, F17⟩, fun c hc => (List.mem_append.mp hc).elim (P0.2.2.2.2.2.1 c) (P1.2.2.2.2.1 c), by rw [List.length_append]; exact hBB, P0.2.2.2.2.2.2.2.1, F18⟩
  exact WS.retA X12 (WL' := []) (FL' := []) hx hret rfl rfl hlk (hb hby d9_44) (nle rfl) (nle rfl) ⟨rfl, rfl, rfl, K13, S19⟩
def Q_sbappN (Z : State) (gC : Int32) (gF : Value) (x : Addr) (g : Addr) (u : Addr) (t : Addr) (cap : Nat) (cs : List Int32) (ds : List Int32) (h : Heap) (v : Option Value) (h' : Heap) (WL' FL' : List Addr) : Prop := v = some (.ref x) ∧ WL' = [] ∧ FL' = [] ∧ Keep h h' [x, t] ∧ SB Z h' x t cap (cs ++ ds)
set_option maxRecDepth 65536 in
set_option maxHeartbeats 4000000 in
theorem ct_sbappN {l : Launch} {Z : State} {a0 : Array Value} {gC : Int32} {gF : Value} (cx : Cx a0 Z gC gF) {n0 : Nat} (x : Addr) (g : Addr) (u : Addr) (t : Addr) (cap : Nat) (cs : List Int32) (ds : List Int32) (h : Heap) (WL FL : List Addr) (P0 : SB Z h x t cap cs) (P1 : StrL Z h g u ds) (P2 : x ∈ WL) (P3 : t ∈ WL) (hxt : x ≠ t) (hBB : cs.length + ds.length ≤ cap) :
    Ct l Z EL1 n0 (⟨"java/lang/StringBuilder", "append", "(Ljava/lang/String;)Ljava/lang/StringBuilder;"⟩ : MethodName) jdk_67_method_7_code 2 (Option.some (Jvm.ClassFile.FieldType.object "java/lang/StringBuilder")) ({ frames := 4, cells := 0, slots := 0, locals := 61 } : Room) #[(.ref x), (.ref g)] h WL FL (Q_sbappN Z gC gF x g u t cap cs ds h) := by
  refine Ct.of (plainFor_of_name pn4) ?_
  intro p e s m below meth c s1 hx hby hml hnm hret hlk X0
  refine Wo.cast (f' := (mkF m 0 #[.val (.ref x), .val (.ref g)] [])) (by first | rfl | (simp [entryFrame, mkF, argsToLocals, Value.category]; done)) ?_
  have K0 : Keep h h [x, t] := Keep.refl _ _
  show Wo _ _ _ _ _ _ _ _ _ _ _ s1 (mkF m 0 #[.val (.ref x), .val (.ref g)] [])
  refine P.aloadN X0 hx 1 (hb hby d8_0) rfl rfl rfl ?_
  refine P.aloadN X0 hx 2 (hb hby d8_1) rfl rfl rfl ?_
  refine X0.callU hx (w57 cx) (w48 cx) (w58 cx) (w59 cx) (w65 cx) rfl (by decide) (by decide) (Ins.self P0.1) (Ct.pay (W := 0) (ct_asbappN cx x g u t cap cs ds h _ _ P0 P1 P2 P3 hxt hBB) (w59 cx) (w22 cx) (nle rfl) (nle rfl)) (by rw [hml]; rfl) (argsL := [.ref g]) (rest := []) (lenOf pd10 rfl) rfl rfl (Nat.le_of_eq rfl) (hb hby d8_2) (nle rfl) (nle rfl) ?_
  rintro T1 h1 _ _ _ X1 ⟨rfl, rfl, rfl, J1, G2⟩
  have K3 : Keep h h1 [x, t] := K0.trans J1 (allS (Or.inl (List.mem_of_getElem? (i := 0) rfl)) (allS (Or.inl (List.mem_of_getElem? (i := 1) rfl)) all0))
  refine P.pop X1 hx 6 (hb hby d8_5) rfl rfl ?_
  refine P.aloadN X1 hx 7 (hb hby d8_6) rfl rfl rfl ?_
  exact WS.retA X1 (WL' := []) (FL' := []) hx hret rfl rfl hlk (hb hby d8_7) (nle rfl) (nle rfl) ⟨rfl, rfl, rfl, K3, G2⟩
def Q_sbbrdN (Z : State) (gC : Int32) (gF : Value) (x : Addr) (g : Addr) (u : Addr) (t : Addr) (cap : Nat) (cs : List Int32) (ds : List Int32) (h : Heap) (v : Option Value) (h' : Heap) (WL' FL' : List Addr) : Prop := v = some (.ref x) ∧ WL' = [] ∧ FL' = [] ∧ Keep h h' [x, t] ∧ SB Z h' x t cap (cs ++ ds)
set_option maxRecDepth 65536 in
set_option maxHeartbeats 4000000 in
theorem ct_sbbrdN {l : Launch} {Z : State} {a0 : Array Value} {gC : Int32} {gF : Value} (cx : Cx a0 Z gC gF) {n0 : Nat} (x : Addr) (g : Addr) (u : Addr) (t : Addr) (cap : Nat) (cs : List Int32) (ds : List Int32) (h : Heap) (WL FL : List Addr) (P0 : SB Z h x t cap cs) (P1 : StrL Z h g u ds) (P2 : x ∈ WL) (P3 : t ∈ WL) (hxt : x ≠ t) (hBB : cs.length + ds.length ≤ cap) :
    Ct l Z EL1 n0 (⟨"java/lang/StringBuilder", "append", "(Ljava/lang/String;)Ljava/lang/AbstractStringBuilder;"⟩ : MethodName) jdk_67_method_80_code 2 (Option.some (Jvm.ClassFile.FieldType.object "java/lang/AbstractStringBuilder")) ({ frames := 5, cells := 0, slots := 0, locals := 74 } : Room) #[(.ref x), (.ref g)] h WL FL (Q_sbbrdN Z gC gF x g u t cap cs ds h) := by
  refine Ct.of (plainFor_of_name pn4) ?_
  intro p e s m below meth c s1 hx hby hml hnm hret hlk X0
  refine Wo.cast (f' := (mkF m 0 #[.val (.ref x), .val (.ref g)] [])) (by first | rfl | (simp [entryFrame, mkF, argsToLocals, Value.category]; done)) ?_
  have K0 : Keep h h [x, t] := Keep.refl _ _
  show Wo _ _ _ _ _ _ _ _ _ _ _ s1 (mkF m 0 #[.val (.ref x), .val (.ref g)] [])
  refine P.aloadN X0 hx 1 (hb hby d7_0) rfl rfl rfl ?_
  refine P.aloadN X0 hx 2 (hb hby d7_1) rfl rfl rfl ?_
  refine X0.callV hx (w52 cx) (w53 cx) (w55 cx) (w54 cx) (fun _ hZ => nf hZ (w55 cx)) (by decide) P0.1 (Ct.pay (W := 0) (ct_sbappN cx x g u t cap cs ds h _ _ P0 P1 P2 P3 hxt hBB) (w56 cx) (w14 cx) (nle rfl) (nle rfl)) (by rw [hml]; rfl) (argsL := [.ref g]) (rest := []) (lenOf pd11 rfl) rfl rfl (Nat.le_of_eq rfl) (hb hby d7_2) (nle rfl) (nle rfl) ?_
  rintro T1 h1 _ _ _ X1 ⟨rfl, rfl, rfl, J1, G2⟩
  have K3 : Keep h h1 [x, t] := K0.trans J1 (allS (Or.inl (List.mem_of_getElem? (i := 0) rfl)) (allS (Or.inl (List.mem_of_getElem? (i := 1) rfl)) all0))
  exact WS.retA X1 (WL' := []) (FL' := []) hx hret rfl rfl hlk (hb hby d7_5) (nle rfl) (nle rfl) ⟨rfl, rfl, rfl, K3, G2⟩
def Q_asbappA (Z : State) (gC : Int32) (gF : Value) (x : Addr) (g : Addr) (u : Addr) (t : Addr) (cap : Nat) (cs : List Int32) (ds : List Int32) (h : Heap) (v : Option Value) (h' : Heap) (WL' FL' : List Addr) : Prop := ∃ b : Addr, v = some (.ref x) ∧ WL' = [b] ∧ FL' = [] ∧ Keep h h' [x] ∧ h.size ≤ b ∧ SB Z h' x b (2 * cap + 2) (cs ++ ds)
set_option maxRecDepth 65536 in
set_option maxHeartbeats 4000000 in
theorem ct_asbappA {l : Launch} {Z : State} {a0 : Array Value} {gC : Int32} {gF : Value} (cx : Cx a0 Z gC gF) {n0 : Nat} (x : Addr) (g : Addr) (u : Addr) (t : Addr) (cap : Nat) (cs : List Int32) (ds : List Int32) (h : Heap) (WL FL : List Addr) (P0 : SB Z h x t cap cs) (P1 : StrL Z h g u ds) (P2 : x ∈ WL) (P3 : t ∈ WL) (hxt : x ≠ t) (P5 : g ∈ FL) (P6 : u ∈ FL) (hg : cap < (cs ++ ds).length) (hk : (cs ++ ds).length < 2 * cap + 2) (hc : (2 * cap + 2) ≤ 4000) (hG : (2 * cap + 2) ≤ 48) :
    Ct l Z EL1 n0 (⟨"java/lang/AbstractStringBuilder", "append", "(Ljava/lang/String;)Ljava/lang/AbstractStringBuilder;"⟩ : MethodName) jdk_68_method_22_code 3 (Option.some (Jvm.ClassFile.FieldType.object "java/lang/AbstractStringBuilder")) ({ frames := 4, cells := 1, slots := 48, locals := 62 } : Room) #[(.ref x), (.ref g)] h WL FL (Q_asbappA Z gC gF x g u t cap cs ds h) := by
  refine Ct.of (plainFor_of_name pn1) ?_
  intro p e s m below meth c s1 hx hby hml hnm hret hlk X0
  refine Wo.cast (f' := (mkF m 0 #[.val (.ref x), .val (.ref g), .unset] [])) (by first | rfl | (simp [entryFrame, mkF, argsToLocals, Value.category]; done)) ?_
  have K0 : Keep h h [x] := Keep.refl _ _
  show Wo _ _ _ _ _ _ _ _ _ _ _ s1 (mkF m 0 #[.val (.ref x), .val (.ref g), .unset] [])
  refine P.aloadN X0 hx 1 (hb hby d9_0) rfl rfl rfl ?_
  refine P.ifnonnullYes X0 hx 9 (hb hby d9_1) (by decide) (by decide) ?_
  refine P.aloadN X0 hx 10 (hb hby d9_9) rfl rfl rfl ?_
  refine X0.callV hx (w27 cx) (w28 cx) (w30 cx) (w29 cx) (fun _ hZ => nf hZ (w30 cx)) (by decide) P1.1 (pay_len (W := 0) (hln cx) (w2 cx) P1 (X0.sta (S_C cx)) (N_C cx) (nle rfl) (nle rfl)) (by rw [hml]; rfl) (argsL := []) (rest := []) (lenOf pd7 rfl) rfl rfl (Nat.le_of_eq rfl) (hb hby d9_10) (nle rfl) (nle rfl) ?_
  rintro T1 h1 _ _ _ X1 ⟨rfl, rfl, rfl, J1⟩
  rw [J1] at X1
  show Wo _ _ _ _ _ _ _ _ _ _ _ T1 (mkF m 13 #[.val (.ref x), .val (.ref g), .unset] [.int (Int32.ofNat ds.length)])
  refine P.istoreN X1 hx 14 #[.val (.ref x), .val (.ref g), .val (.int (Int32.ofNat ds.length))] (hb hby d9_13) rfl rfl ?_
  refine P.aloadN X1 hx 15 (hb hby d9_14) rfl rfl rfl ?_
  refine P.aloadN X1 hx 16 (hb hby d9_15) rfl rfl rfl ?_
  obtain ⟨k2, A2⟩ := P0.2.2.2.2.1
  refine X1.getF hx (host := "") (Or.inl (w60 cx)) Via.refl P0.2.2.2.1 (hb hby d9_16) ?_
  intro T3 X3
  refine P.iloadN X3 hx 20 (hb hby d9_19) rfl rfl ?_
  refine P.iadd X3 hx 21 (z := (Int32.ofNat (cs ++ ds).length)) (hb hby d9_20) (by rw [oapp]) rfl ?_
  refine X3.callV hx (w62 cx) (declM (w63 cx) (w66 cx)) (w65 cx) (w63 cx) (fun _ hZ => nf hZ (w65 cx)) (by decide) P0.1 (Ct.pay (W := 0) (ct_ensgA cx x t k2 cs (Int32.ofNat cs.length) cap ((cs ++ ds).length) h _ _ P0.1 P0.2.1 P0.2.2.1 P0.2.2.2.1 A2 P2 P3 hxt P0.2.2.2.2.2.2.1 hg hk hc hG) (w66 cx) (w22 cx) (nle rfl) (nle rfl)) (by rw [hml]; rfl) (argsL := [.int (Int32.ofNat (cs ++ ds).length)]) (rest := []) (lenOf pd8 rfl) rfl rfl (Nat.le_of_eq rfl) (hb hby d9_21) (nle rfl) (nle rfl) ?_
  rintro T4 h4 _ _ _ X4 ⟨a5, k6, rfl, rfl, rfl, J4, g12, G7, G8, G9, G10, G11⟩
  have ge13 : h.size ≤ a5 := Nat.le_trans K0.1 g12
  have K14 : Keep h h4 [x] := K0.trans J4 (allS (Or.inl (List.mem_of_getElem? (i := 0) rfl)) all0)
  refine P.aloadN X4 hx 25 (hb hby d9_24) rfl rfl rfl ?_
  refine P.aloadN X4 hx 26 (hb hby d9_25) rfl rfl rfl ?_
  refine X4.getF hx (host := "") (Or.inl (w60 cx)) Via.refl G9 (hb hby d9_26) ?_
  intro T15 X15
  refine P.aloadN X15 hx 30 (hb hby d9_29) rfl rfl rfl ?_
  have F16 : Exa Z h4 x "java/lang/StringBuilder" := (P0.1.keep J4)
  have F17 : StrL Z h4 g u ds := (P1.keep J4 (ninS (X15.neF P5 (List.mem_cons_of_mem _ P2)) nin0) (ninS (X15.neF P6 (List.mem_cons_of_mem _ P2)) nin0))
  refine X15.callV hx (w67 cx) (declM (w68 cx) (w71 cx)) (w70 cx) (w68 cx) (fun _ hZ => nf hZ (w70 cx)) (by decide) F16 (Ct.pay (W := 0) (ct_putsa cx x g u a5 k6 (2 * cap + 2) cs ds h4 _ _ F16 G7 G8 F17 G10 (List.mem_of_getElem? (i := 0) rfl) (by rw [List.length_append] at hk hg; omega) hc) (w71 cx) (w22 cx) (nle rfl) (nle rfl)) (by rw [hml]; rfl) (argsL := [.int (Int32.ofNat cs.length), .ref g]) (rest := []) (lenOf pd9 rfl) rfl rfl (Nat.le_of_eq rfl) (hb hby d9_30) (nle rfl) (nle rfl) ?_
  rintro T18 h18 _ _ _ X18 ⟨rfl, rfl, rfl, J18, G19⟩
  have K20 : Keep h h18 [x] := K14.trans J18 (allS (Or.inr ge13) all0)
  refine P.aloadN X18 hx 34 (hb hby d9_33) rfl rfl rfl ?_
  refine P.dup X18 hx 35 (hb hby d9_34) rfl rfl ?_
  have F21 : Fld Z h18 x "java/lang/AbstractStringBuilder" "count" "I" (.int (Int32.ofNat cs.length)) := (G9.keep J18 (ninS (Ne.symm (X18.neT (A := [a5]) (B := WL) (List.mem_of_getElem? (i := 0) rfl) P2)) nin0))
  refine X18.getF hx (host := "") (Or.inl (w60 cx)) Via.refl F21 (hb hby d9_35) ?_
  intro T22 X22
  refine P.iloadN X22 hx 39 (hb hby d9_38) rfl rfl ?_
  refine P.iadd X22 hx 40 (z := (Int32.ofNat (cs ++ ds).length)) (hb hby d9_39) (by rw [oapp]) rfl ?_
  have F23 : Exa Z h18 x "java/lang/StringBuilder" := (F16.keep J18)
  refine X22.putF hx (host := "") (Or.inl (w60 cx)) Via.refl F21 F23 (Or.inl (w61 cx)) (w13 cx) (ty := .int) (by decide) rfl rfl (List.mem_cons_of_mem _ P2) (hb hby d9_40) ?_
  intro T24 h24 X24 W24 G24
  have K25 : Keep h h24 [x] := K20.wr W24 (Or.inl (List.mem_of_getElem? (i := 0) rfl))
  refine P.aloadN X24 hx 44 (hb hby d9_43) rfl rfl rfl ?_
  have F26 : Fld Z h24 x "java/lang/AbstractStringBuilder" "value" "[B" (.ref a5) := ((G7.keep J18 (ninS (Ne.symm (X24.neT (A := [a5]) (B := WL) (List.mem_of_getElem? (i := 0) rfl) P2)) nin0)).other W24 (Or.inr (slot_ne (Or.inl (w45 cx)) (Or.inl (w61 cx)) (by decide) (t := (.array .byte)) (t' := .int) (by decide) (by decide))))
  have F27 : Exa Z h24 x "java/lang/StringBuilder" := (F23.wr W24)
  have F28 : Fld Z h24 x "java/lang/AbstractStringBuilder" "coder" "B" (.int 0) := ((G8.keep J18 (ninS (Ne.symm (X24.neT (A := [a5]) (B := WL) (List.mem_of_getElem? (i := 0) rfl) P2)) nin0)).other W24 (Or.inr (slot_ne (Or.inl (w43 cx)) (Or.inl (w61 cx)) (by decide) (t := .byte) (t' := .int) (by decide) (by decide))))
  have F29 : Arv Z h24 a5 k6 .byte (Int32.ofNat (2 * cap + 2)) (lat (cs ++ ds)) (.int 0) := (G19.other W24 (X24.neT (A := [a5]) (B := WL) (List.mem_of_getElem? (i := 0) rfl) P2))
  have F30 : Exa Z h24 a5 "[B" := ((G11.keep J18).wr W24)
  have S31 : SB Z h24 x a5 (2 * cap + 2) (cs ++ ds) := ⟨F27, F26, F28, G24, ⟨_, F29⟩, fun c hc => (List.mem_append.mp hc).elim (P0.2.2.2.2.2.1 c) (P1.2.2.2.2.1 c), by omega, hc, F30⟩
  exact WS.retA X24 (WL' := [a5]) (FL' := []) hx hret rfl rfl hlk (hb hby d9_44) (nle rfl) (nle rfl) ⟨a5, rfl, rfl, rfl, K25, ge13, S31⟩
def Q_sbappA (Z : State) (gC : Int32) (gF : Value) (x : Addr) (g : Addr) (u : Addr) (t : Addr) (cap : Nat) (cs : List Int32) (ds : List Int32) (h : Heap) (v : Option Value) (h' : Heap) (WL' FL' : List Addr) : Prop := ∃ b : Addr, v = some (.ref x) ∧ WL' = [b] ∧ FL' = [] ∧ Keep h h' [x] ∧ h.size ≤ b ∧ SB Z h' x b (2 * cap + 2) (cs ++ ds)
set_option maxRecDepth 65536 in
set_option maxHeartbeats 4000000 in
theorem ct_sbappA {l : Launch} {Z : State} {a0 : Array Value} {gC : Int32} {gF : Value} (cx : Cx a0 Z gC gF) {n0 : Nat} (x : Addr) (g : Addr) (u : Addr) (t : Addr) (cap : Nat) (cs : List Int32) (ds : List Int32) (h : Heap) (WL FL : List Addr) (P0 : SB Z h x t cap cs) (P1 : StrL Z h g u ds) (P2 : x ∈ WL) (P3 : t ∈ WL) (hxt : x ≠ t) (P5 : g ∈ FL) (P6 : u ∈ FL) (hg : cap < (cs ++ ds).length) (hk : (cs ++ ds).length < 2 * cap + 2) (hc : (2 * cap + 2) ≤ 4000) (hG : (2 * cap + 2) ≤ 48) :
    Ct l Z EL1 n0 (⟨"java/lang/StringBuilder", "append", "(Ljava/lang/String;)Ljava/lang/StringBuilder;"⟩ : MethodName) jdk_67_method_7_code 2 (Option.some (Jvm.ClassFile.FieldType.object "java/lang/StringBuilder")) ({ frames := 5, cells := 1, slots := 48, locals := 76 } : Room) #[(.ref x), (.ref g)] h WL FL (Q_sbappA Z gC gF x g u t cap cs ds h) := by
  refine Ct.of (plainFor_of_name pn4) ?_
  intro p e s m below meth c s1 hx hby hml hnm hret hlk X0
  refine Wo.cast (f' := (mkF m 0 #[.val (.ref x), .val (.ref g)] [])) (by first | rfl | (simp [entryFrame, mkF, argsToLocals, Value.category]; done)) ?_
  have K0 : Keep h h [x] := Keep.refl _ _
  show Wo _ _ _ _ _ _ _ _ _ _ _ s1 (mkF m 0 #[.val (.ref x), .val (.ref g)] [])
  refine P.aloadN X0 hx 1 (hb hby d8_0) rfl rfl rfl ?_
  refine P.aloadN X0 hx 2 (hb hby d8_1) rfl rfl rfl ?_
  refine X0.callU hx (w57 cx) (w48 cx) (w58 cx) (w59 cx) (w65 cx) rfl (by decide) (by decide) (Ins.self P0.1) (Ct.pay (W := 0) (ct_asbappA cx x g u t cap cs ds h _ _ P0 P1 P2 P3 hxt P5 P6 hg hk hc hG) (w59 cx) (w22 cx) (nle rfl) (nle rfl)) (by rw [hml]; rfl) (argsL := [.ref g]) (rest := []) (lenOf pd10 rfl) rfl rfl (Nat.le_of_eq rfl) (hb hby d8_2) (nle rfl) (nle rfl) ?_
  rintro T1 h1 _ _ _ X1 ⟨a2, rfl, rfl, rfl, J1, g4, G3⟩
  have ge5 : h.size ≤ a2 := Nat.le_trans K0.1 g4
  have K6 : Keep h h1 [x] := K0.trans J1 (allS (Or.inl (List.mem_of_getElem? (i := 0) rfl)) all0)
  refine P.pop X1 hx 6 (hb hby d8_5) rfl rfl ?_
  refine P.aloadN X1 hx 7 (hb hby d8_6) rfl rfl rfl ?_
  exact WS.retA X1 (WL' := [a2]) (FL' := []) hx hret rfl rfl hlk (hb hby d8_7) (nle rfl) (nle rfl) ⟨a2, rfl, rfl, rfl, K6, ge5, G3⟩
def Q_asbappB (Z : State) (gC : Int32) (gF : Value) (x : Addr) (g : Addr) (u : Addr) (t : Addr) (cap : Nat) (cs : List Int32) (ds : List Int32) (h : Heap) (v : Option Value) (h' : Heap) (WL' FL' : List Addr) : Prop := ∃ b : Addr, v = some (.ref x) ∧ WL' = [b] ∧ FL' = [] ∧ Keep h h' [x] ∧ h.size ≤ b ∧ SB Z h' x b (cs ++ ds).length (cs ++ ds)
set_option maxRecDepth 65536 in
set_option maxHeartbeats 4000000 in
theorem ct_asbappB {l : Launch} {Z : State} {a0 : Array Value} {gC : Int32} {gF : Value} (cx : Cx a0 Z gC gF) {n0 : Nat} (x : Addr) (g : Addr) (u : Addr) (t : Addr) (cap : Nat) (cs : List Int32) (ds : List Int32) (h : Heap) (WL FL : List Addr) (P0 : SB Z h x t cap cs) (P1 : StrL Z h g u ds) (P2 : x ∈ WL) (P3 : t ∈ WL) (hxt : x ≠ t) (P5 : g ∈ FL) (P6 : u ∈ FL) (hg : cap < (cs ++ ds).length) (hk : 2 * cap + 2 ≤ (cs ++ ds).length) (hc : (cs ++ ds).length ≤ 4000) (hG : (cs ++ ds).length ≤ 48) :
    Ct l Z EL1 n0 (⟨"java/lang/AbstractStringBuilder", "append", "(Ljava/lang/String;)Ljava/lang/AbstractStringBuilder;"⟩ : MethodName) jdk_68_method_22_code 3 (Option.some (Jvm.ClassFile.FieldType.object "java/lang/AbstractStringBuilder")) ({ frames := 4, cells := 1, slots := 48, locals := 62 } : Room) #[(.ref x), (.ref g)] h WL FL (Q_asbappB Z gC gF x g u t cap cs ds h) := by
  refine Ct.of (plainFor_of_name pn1) ?_
  intro p e s m below meth c s1 hx hby hml hnm hret hlk X0
  refine Wo.cast (f' := (mkF m 0 #[.val (.ref x), .val (.ref g), .unset] [])) (by first | rfl | (simp [entryFrame, mkF, argsToLocals, Value.category]; done)) ?_
  have K0 : Keep h h [x] := Keep.refl _ _
  show Wo _ _ _ _ _ _ _ _ _ _ _ s1 (mkF m 0 #[.val (.ref x), .val (.ref g), .unset] [])
  refine P.aloadN X0 hx 1 (hb hby d9_0) rfl rfl rfl ?_
  refine P.ifnonnullYes X0 hx 9 (hb hby d9_1) (by decide) (by decide) ?_
  refine P.aloadN X0 hx 10 (hb hby d9_9) rfl rfl rfl ?_
  refine X0.callV hx (w27 cx) (w28 cx) (w30 cx) (w29 cx) (fun _ hZ => nf hZ (w30 cx)) (by decide) P1.1 (pay_len (W := 0) (hln cx) (w2 cx) P1 (X0.sta (S_C cx)) (N_C cx) (nle rfl) (nle rfl)) (by rw [hml]; rfl) (argsL := []) (rest := []) (lenOf pd7 rfl) rfl rfl (Nat.le_of_eq rfl) (hb hby d9_10) (nle rfl) (nle rfl) ?_
  rintro T1 h1 _ _ _ X1 ⟨rfl, rfl, rfl, J1⟩
  rw [J1] at X1
  show Wo _ _ _ _ _ _ _ _ _ _ _ T1 (mkF m 13 #[.val (.ref x), .val (.ref g), .unset] [.int (Int32.ofNat ds.length)])
  refine P.istoreN X1 hx 14 #[.val (.ref x), .val (.ref g), .val (.int (Int32.ofNat ds.length))] (hb hby d9_13) rfl rfl ?_
  refine P.aloadN X1 hx 15 (hb hby d9_14) rfl rfl rfl ?_
  refine P.aloadN X1 hx 16 (hb hby d9_15) rfl rfl rfl ?_
  obtain ⟨k2, A2⟩ := P0.2.2.2.2.1
  refine X1.getF hx (host := "") (Or.inl (w60 cx)) Via.refl P0.2.2.2.1 (hb hby d9_16) ?_
  intro T3 X3
  refine P.iloadN X3 hx 20 (hb hby d9_19) rfl rfl ?_
  refine P.iadd X3 hx 21 (z := (Int32.ofNat (cs ++ ds).length)) (hb hby d9_20) (by rw [oapp]) rfl ?_
  refine X3.callV hx (w62 cx) (declM (w63 cx) (w66 cx)) (w65 cx) (w63 cx) (fun _ hZ => nf hZ (w65 cx)) (by decide) P0.1 (Ct.pay (W := 0) (ct_ensgB cx x t k2 cs (Int32.ofNat cs.length) cap ((cs ++ ds).length) h _ _ P0.1 P0.2.1 P0.2.2.1 P0.2.2.2.1 A2 P2 P3 hxt P0.2.2.2.2.2.2.1 hg hk hc hG) (w66 cx) (w22 cx) (nle rfl) (nle rfl)) (by rw [hml]; rfl) (argsL := [.int (Int32.ofNat (cs ++ ds).length)]) (rest := []) (lenOf pd8 rfl) rfl rfl (Nat.le_of_eq rfl) (hb hby d9_21) (nle rfl) (nle rfl) ?_
  rintro T4 h4 _ _ _ X4 ⟨a5, k6, rfl, rfl, rfl, J4, g12, G7, G8, G9, G10, G11⟩
  have ge13 : h.size ≤ a5 := Nat.le_trans K0.1 g12
  have K14 : Keep h h4 [x] := K0.trans J4 (allS (Or.inl (List.mem_of_getElem? (i := 0) rfl)) all0)
  refine P.aloadN X4 hx 25 (hb hby d9_24) rfl rfl rfl ?_
  refine P.aloadN X4 hx 26 (hb hby d9_25) rfl rfl rfl ?_
  refine X4.getF hx (host := "") (Or.inl (w60 cx)) Via.refl G9 (hb hby d9_26) ?_
  intro T15 X15
  refine P.aloadN X15 hx 30 (hb hby d9_29) rfl rfl rfl ?_
  have F16 : Exa Z h4 x "java/lang/StringBuilder" := (P0.1.keep J4)
  have F17 : StrL Z h4 g u ds := (P1.keep J4 (ninS (X15.neF P5 (List.mem_cons_of_mem _ P2)) nin0) (ninS (X15.neF P6 (List.mem_cons_of_mem _ P2)) nin0))
  refine X15.callV hx (w67 cx) (declM (w68 cx) (w71 cx)) (w70 cx) (w68 cx) (fun _ hZ => nf hZ (w70 cx)) (by decide) F16 (Ct.pay (W := 0) (ct_putsa cx x g u a5 k6 ((cs ++ ds).length) cs ds h4 _ _ F16 G7 G8 F17 G10 (List.mem_of_getElem? (i := 0) rfl) (Nat.le_of_eq (List.length_append).symm) hc) (w71 cx) (w22 cx) (nle rfl) (nle rfl)) (by rw [hml]; rfl) (argsL := [.int (Int32.ofNat cs.length), .ref g]) (rest := []) (lenOf pd9 rfl) rfl rfl (Nat.le_of_eq rfl) (hb hby d9_30) (nle rfl) (nle rfl) ?_
  rintro T18 h18 _ _ _ X18 ⟨rfl, rfl, rfl, J18, G19⟩
  have K20 : Keep h h18 [x] := K14.trans J18 (allS (Or.inr ge13) all0)
  refine P.aloadN X18 hx 34 (hb hby d9_33) rfl rfl rfl ?_
  refine P.dup X18 hx 35 (hb hby d9_34) rfl rfl ?_
  have F21 : Fld Z h18 x "java/lang/AbstractStringBuilder" "count" "I" (.int (Int32.ofNat cs.length)) := (G9.keep J18 (ninS (Ne.symm (X18.neT (A := [a5]) (B := WL) (List.mem_of_getElem? (i := 0) rfl) P2)) nin0))
  refine X18.getF hx (host := "") (Or.inl (w60 cx)) Via.refl F21 (hb hby d9_35) ?_
  intro T22 X22
  refine P.iloadN X22 hx 39 (hb hby d9_38) rfl rfl ?_
  refine P.iadd X22 hx 40 (z := (Int32.ofNat (cs ++ ds).length)) (hb hby d9_39) (by rw [oapp]) rfl ?_
  have F23 : Exa Z h18 x "java/lang/StringBuilder" := (F16.keep J18)
  refine X22.putF hx (host := "") (Or.inl (w60 cx)) Via.refl F21 F23 (Or.inl (w61 cx)) (w13 cx) (ty := .int) (by decide) rfl rfl (List.mem_cons_of_mem _ P2) (hb hby d9_40) ?_
  intro T24 h24 X24 W24 G24
  have K25 : Keep h h24 [x] := K20.wr W24 (Or.inl (List.mem_of_getElem? (i := 0) rfl))
  refine P.aloadN X24 hx 44 (hb hby d9_43) rfl rfl rfl ?_
  have F26 : Fld Z h24 x "java/lang/AbstractStringBuilder" "value" "[B" (.ref a5) := ((G7.keep J18 (ninS (Ne.symm (X24.neT (A := [a5]) (B := WL) (List.mem_of_getElem? (i := 0) rfl) P2)) nin0)).other W24 (Or.inr (slot_ne (Or.inl (w45 cx)) (Or.inl (w61 cx)) (by decide) (t := (.array .byte)) (t' := .int) (by decide) (by decide))))
  have F27 : Exa Z h24 x "java/lang/StringBuilder" := (F23.wr W24)
  have F28 : Fld Z h24 x "java/lang/AbstractStringBuilder" "coder" "B" (.int 0) := ((G8.keep J18 (ninS (Ne.symm (X24.neT (A := [a5]) (B := WL) (List.mem_of_getElem? (i := 0) rfl) P2)) nin0)).other W24 (Or.inr (slot_ne (Or.inl (w43 cx)) (Or.inl (w61 cx)) (by decide) (t := .byte) (t' := .int) (by decide) (by decide))))
  have F29 : Arv Z h24 a5 k6 .byte (Int32.ofNat (cs ++ ds).length) (lat (cs ++ ds)) (.int 0) := (G19.other W24 (X24.neT (A := [a5]) (B := WL) (List.mem_of_getElem? (i := 0) rfl) P2))
  have F30 : Exa Z h24 a5 "[B" := ((G11.keep J18).wr W24)
  have S31 : SB Z h24 x a5 (cs ++ ds).length (cs ++ ds) := ⟨F27, F26, F28, G24, ⟨_, F29⟩, fun c hc => (List.mem_append.mp hc).elim (P0.2.2.2.2.2.1 c) (P1.2.2.2.2.1 c), Nat.le_refl _, hc, F30⟩
  exact WS.retA X24 (WL' := [a5]) (FL' := []) hx hret rfl rfl hlk (hb hby d9_44) (nle rfl) (nle rfl) ⟨a5, rfl, rfl, rfl, K25, ge13, S31⟩
def Q_sbappB (Z : State) (gC : Int32) (gF : Value) (x : Addr) (g : Addr) (u : Addr) (t : Addr) (cap : Nat) (cs : List Int32) (ds : List Int32) (h : Heap) (v : Option Value) (h' : Heap) (WL' FL' : List Addr) : Prop := ∃ b : Addr, v = some (.ref x) ∧ WL' = [b] ∧ FL' = [] ∧ Keep h h' [x] ∧ h.size ≤ b ∧ SB Z h' x b (cs ++ ds).length (cs ++ ds)
set_option maxRecDepth 65536 in
set_option maxHeartbeats 4000000 in
theorem ct_sbappB {l : Launch} {Z : State} {a0 : Array Value} {gC : Int32} {gF : Value} (cx : Cx a0 Z gC gF) {n0 : Nat} (x : Addr) (g : Addr) (u : Addr) (t : Addr) (cap : Nat) (cs : List Int32) (ds : List Int32) (h : Heap) (WL FL : List Addr) (P0 : SB Z h x t cap cs) (P1 : StrL Z h g u ds) (P2 : x ∈ WL) (P3 : t ∈ WL) (hxt : x ≠ t) (P5 : g ∈ FL) (P6 : u ∈ FL) (hg : cap < (cs ++ ds).length) (hk : 2 * cap + 2 ≤ (cs ++ ds).length) (hc : (cs ++ ds).length ≤ 4000) (hG : (cs ++ ds).length ≤ 48) :
    Ct l Z EL1 n0 (⟨"java/lang/StringBuilder", "append", "(Ljava/lang/String;)Ljava/lang/StringBuilder;"⟩ : MethodName) jdk_67_method_7_code 2 (Option.some (Jvm.ClassFile.FieldType.object "java/lang/StringBuilder")) ({ frames := 5, cells := 1, slots := 48, locals := 76 } : Room) #[(.ref x), (.ref g)] h WL FL (Q_sbappB Z gC gF x g u t cap cs ds h) := by
  refine Ct.of (plainFor_of_name pn4) ?_
  intro p e s m below meth c s1 hx hby hml hnm hret hlk X0
  refine Wo.cast (f' := (mkF m 0 #[.val (.ref x), .val (.ref g)] [])) (by first | rfl | (simp [entryFrame, mkF, argsToLocals, Value.category]; done)) ?_
  have K0 : Keep h h [x] := Keep.refl _ _
  show Wo _ _ _ _ _ _ _ _ _ _ _ s1 (mkF m 0 #[.val (.ref x), .val (.ref g)] [])
  refine P.aloadN X0 hx 1 (hb hby d8_0) rfl rfl rfl ?_
  refine P.aloadN X0 hx 2 (hb hby d8_1) rfl rfl rfl ?_
  refine X0.callU hx (w57 cx) (w48 cx) (w58 cx) (w59 cx) (w65 cx) rfl (by decide) (by decide) (Ins.self P0.1) (Ct.pay (W := 0) (ct_asbappB cx x g u t cap cs ds h _ _ P0 P1 P2 P3 hxt P5 P6 hg hk hc hG) (w59 cx) (w22 cx) (nle rfl) (nle rfl)) (by rw [hml]; rfl) (argsL := [.ref g]) (rest := []) (lenOf pd10 rfl) rfl rfl (Nat.le_of_eq rfl) (hb hby d8_2) (nle rfl) (nle rfl) ?_
  rintro T1 h1 _ _ _ X1 ⟨a2, rfl, rfl, rfl, J1, g4, G3⟩
  have ge5 : h.size ≤ a2 := Nat.le_trans K0.1 g4
  have K6 : Keep h h1 [x] := K0.trans J1 (allS (Or.inl (List.mem_of_getElem? (i := 0) rfl)) all0)
  refine P.pop X1 hx 6 (hb hby d8_5) rfl rfl ?_
  refine P.aloadN X1 hx 7 (hb hby d8_6) rfl rfl rfl ?_
  exact WS.retA X1 (WL' := [a2]) (FL' := []) hx hret rfl rfl hlk (hb hby d8_7) (nle rfl) (nle rfl) ⟨a2, rfl, rfl, rfl, K6, ge5, G3⟩
def Q_asbinS (Z : State) (gC : Int32) (gF : Value) (x : Addr) (g : Addr) (u : Addr) (ds : List Int32) (h : Heap) (v : Option Value) (h' : Heap) (WL' FL' : List Addr) : Prop := ∃ t : Addr, v = none ∧ WL' = [t] ∧ FL' = [] ∧ Keep h h' [x] ∧ h.size ≤ t ∧ SB Z h' x t (ds.length + 16) ds
set_option maxRecDepth 65536 in
set_option maxHeartbeats 4000000 in
theorem ct_asbinS {l : Launch} {Z : State} {a0 : Array Value} {gC : Int32} {gF : Value} (cx : Cx a0 Z gC gF) {n0 : Nat} (x : Addr) (g : Addr) (u : Addr) (ds : List Int32) (h : Heap) (WL FL : List Addr) (P0 : Exa Z h x "java/lang/StringBuilder") (P1 : Fld Z h x "java/lang/AbstractStringBuilder" "value" "[B" .null) (P2 : Fld Z h x "java/lang/AbstractStringBuilder" "coder" "B" (.int 0)) (P3 : Fld Z h x "java/lang/AbstractStringBuilder" "count" "I" (.int 0)) (P4 : x ∈ WL) (P5 : StrL Z h g u ds) (P6 : g ∈ FL) (P7 : u ∈ FL) (hI : ds.length ≤ 3) :
    Ct l Z EL1 n0 (⟨"java/lang/AbstractStringBuilder", "<init>", "(Ljava/lang/String;)V"⟩ : MethodName) jdk_68_method_3_code 5 (Option.none : Option Jvm.ClassFile.FieldType) ({ frames := 6, cells := 1, slots := 19, locals := 87 } : Room) #[(.ref x), (.ref g)] h WL FL (Q_asbinS Z gC gF x g u ds h) := by
  refine Ct.of (plainFor_of_name pn1) ?_
  intro p e s m below meth c s1 hx hby hml hnm hret hlk X0
  refine Wo.cast (f' := (mkF m 0 #[.val (.ref x), .val (.ref g), .unset, .unset, .unset] [])) (by first | rfl | (simp [entryFrame, mkF, argsToLocals, Value.category]; done)) ?_
  have K0 : Keep h h [x] := Keep.refl _ _
  show Wo _ _ _ _ _ _ _ _ _ _ _ s1 (mkF m 0 #[.val (.ref x), .val (.ref g), .unset, .unset, .unset] [])
  refine P.aloadN X0 hx 1 (hb hby d3_0) rfl rfl rfl ?_
  refine X0.initO hx (w24 cx) (w25 cx) (w26 cx) (by rw [hml]; rfl) (hb hby d3_1) (nle rfl) (W := 0) (Nat.le_of_eq rfl) (nle rfl) ?_
  intro T1 X1
  refine P.aloadN X1 hx 5 (hb hby d3_4) rfl rfl rfl ?_
  refine X1.callV hx (w27 cx) (w28 cx) (w30 cx) (w29 cx) (fun _ hZ => nf hZ (w30 cx)) (by decide) P5.1 (pay_len (W := 0) (hln cx) (w2 cx) P5 (X1.sta (S_C cx)) (N_C cx) (nle rfl) (nle rfl)) (by rw [hml]; rfl) (argsL := []) (rest := []) (lenOf pd7 rfl) rfl rfl (Nat.le_of_eq rfl) (hb hby d3_5) (nle rfl) (nle rfl) ?_
  rintro T2 h2 _ _ _ X2 ⟨rfl, rfl, rfl, J2⟩
  rw [J2] at X2
  show Wo _ _ _ _ _ _ _ _ _ _ _ T2 (mkF m 8 #[.val (.ref x), .val (.ref g), .unset, .unset, .unset] [.int (Int32.ofNat ds.length)])
  refine P.istoreN X2 hx 9 #[.val (.ref x), .val (.ref g), .val (.int (Int32.ofNat ds.length)), .unset, .unset] (hb hby d3_8) rfl rfl ?_
  refine P.iloadN X2 hx 10 (hb hby d3_9) rfl rfl ?_
  refine WS.ldcI X2 hx (w40 cx) (hb hby d3_10) ?_
  refine P.icmpNo X2 hx 15 (hb hby d3_12) (tlt (oLt31 (Nat.le_trans hI (by decide)))).2.1 rfl ?_
  refine P.iloadN X2 hx 16 (hb hby d3_15) rfl rfl ?_
  refine P.bipush X2 hx 18 16 (hb hby d3_16) rfl rfl ?_
  refine P.iadd X2 hx 19 (z := (Int32.ofNat (ds.length + 16))) (hb hby d3_18) (by rw [oA16]) rfl ?_
  refine P.goto X2 hx 24 (hb hby d3_19) (by decide) (by decide) ?_
  refine P.istoreN X2 hx 25 #[.val (.ref x), .val (.ref g), .val (.int (Int32.ofNat ds.length)), .val (.int (Int32.ofNat (ds.length + 16))), .unset] (hb hby d3_24) rfl rfl ?_
  refine P.aloadN X2 hx 26 (hb hby d3_25) rfl rfl rfl ?_
  obtain ⟨k3, A3⟩ := P5.2.2.2.1
  refine X2.callV hx (w41 cx) (w34 cx) (w36 cx) (w35 cx) (fun _ hZ => nf hZ (w36 cx)) (by decide) P5.1 (Ct.pay (W := 0) (ct_scoder cx g h _ _ P5.2.2.1) (w37 cx) (w1 cx) (nle rfl) (nle rfl)) (by rw [hml]; rfl) (argsL := []) (rest := []) (lenOf pd0 rfl) rfl rfl (Nat.le_of_eq rfl) (hb hby d3_26) (nle rfl) (nle rfl) ?_
  rintro T4 h4 _ _ _ X4 ⟨rfl, rfl, rfl, J4⟩
  rw [J4] at X4
  refine P.istore X4 hx 31 #[.val (.ref x), .val (.ref g), .val (.int (Int32.ofNat ds.length)), .val (.int (Int32.ofNat (ds.length + 16))), .val (.int 0)] (hb hby d3_29) rfl rfl ?_
  refine P.aloadN X4 hx 32 (hb hby d3_31) rfl rfl rfl ?_
  refine P.iload X4 hx 34 (hb hby d3_32) rfl rfl ?_
  refine X4.putF hx (host := "") (Or.inl (w42 cx)) Via.refl P2 P0 (Or.inl (w43 cx)) (w13 cx) (ty := .byte) (by decide) rfl rfl P4 (hb hby d3_34) ?_
  intro T5 h5 X5 W5 G5
  have K6 : Keep h h5 [x] := K0.wr W5 (Or.inl (List.mem_of_getElem? (i := 0) rfl))
  refine P.aloadN X5 hx 38 (hb hby d3_37) rfl rfl rfl ?_
  refine P.iload X5 hx 40 (hb hby d3_38) rfl rfl ?_
  refine P.ifNo X5 hx 43 (hb hby d3_40) (by decide) rfl ?_
  refine P.iloadN X5 hx 44 (hb hby d3_43) rfl rfl ?_
  refine X5.newPE (aty := .byte) hx (w3 cx) (hb hby d3_44) (oNn (by omega)) (cap := 19) (by rw [oC (by omega)]; omega) (nle rfl) (nle rfl) (nle rfl) (ad := "[B") (by decide) ?_
  intro T7 h7 a7 k7 X7 E7 g7 A7 Ex7
  have ge8 : h.size ≤ a7 := Nat.le_trans K6.1 g7
  have K9 : Keep h h7 [x] := K6.ext E7
  have V10 : Arv Z h7 a7 k7 .byte (Int32.ofNat (ds.length + 16)) [] (.int 0) := A7
  refine P.goto X7 hx 53 (hb hby d3_46) (by decide) (by decide) ?_
  have F11 : Fld Z h7 x "java/lang/AbstractStringBuilder" "value" "[B" .null := ((P1.other W5 (Or.inr (slot_ne (Or.inl (w45 cx)) (Or.inl (w43 cx)) (by decide) (t := (.array .byte)) (t' := .byte) (by decide) (by decide)))).ext E7)
  have F12 : Exa Z h7 x "java/lang/StringBuilder" := ((P0.wr W5).ext E7)
  refine X7.putF hx (host := "") (Or.inl (w44 cx)) Via.refl F11 F12 (Or.inl (w45 cx)) (w13 cx) (ty := (.array .byte)) (by decide) rfl rfl (List.mem_cons_of_mem _ P4) (hb hby d3_53) ?_
  intro T13 h13 X13 W13 G13
  have K14 : Keep h h13 [x] := K9.wr W13 (Or.inl (List.mem_of_getElem? (i := 0) rfl))
  have F15 : Exa Z h13 x "java/lang/StringBuilder" := (F12.wr W13)
  have F16 : Fld Z h13 x "java/lang/AbstractStringBuilder" "coder" "B" (.int 0) := ((G5.ext E7).other W13 (Or.inr (slot_ne (Or.inl (w43 cx)) (Or.inl (w45 cx)) (by decide) (t := .byte) (t' := (.array .byte)) (by decide) (by decide))))
  have F17 : Fld Z h13 x "java/lang/AbstractStringBuilder" "count" "I" (.int 0) := (((P3.other W5 (Or.inr (slot_ne (Or.inl (w61 cx)) (Or.inl (w43 cx)) (by decide) (t := .int) (t' := .byte) (by decide) (by decide)))).ext E7).other W13 (Or.inr (slot_ne (Or.inl (w61 cx)) (Or.inl (w45 cx)) (by decide) (t := .int) (t' := (.array .byte)) (by decide) (by decide))))
  have F18 : Arv Z h13 a7 k7 .byte (Int32.ofNat (ds.length + 16)) [] (.int 0) := (V10.other W13 (X13.neT (A := [a7]) (B := WL) (List.mem_of_getElem? (i := 0) rfl) P4))
  have F19 : Exa Z h13 a7 "[B" := (Ex7.wr W13)
  have S20 : SB Z h13 x a7 (ds.length + 16) [] := ⟨F15, G13, F16, F17, ⟨_, F18⟩, fc0, Nat.zero_le _, (by omega), F19⟩
  refine P.aloadN X13 hx 57 (hb hby d3_56) rfl rfl rfl ?_
  refine P.aloadN X13 hx 58 (hb hby d3_57) rfl rfl rfl ?_
  have F21 : StrL Z h13 g u ds := (((P5.wr W5 (X13.neF P6 (List.mem_cons_of_mem _ P4)) (X13.neF P7 (List.mem_cons_of_mem _ P4))).ext E7).wr W13 (X13.neF P6 (List.mem_cons_of_mem _ P4)) (X13.neF P7 (List.mem_cons_of_mem _ P4)))
  refine X13.callV hx (w46 cx) (w47 cx) (w49 cx) (w50 cx) (fun _ hZ => nfO hZ (w65 cx) rfl) (by decide) S20.1 (Ct.pay (W := 0) (ct_sbbrdN cx x g u a7 (ds.length + 16) ([]) ds h13 _ _ S20 F21 (List.mem_cons_of_mem _ P4) (List.mem_of_getElem? (i := 0) rfl) (Ne.symm (X13.neT (A := [a7]) (B := WL) (List.mem_of_getElem? (i := 0) rfl) P4)) (by simp)) (w51 cx) (w14 cx) (nle rfl) (nle rfl)) (by rw [hml]; rfl) (argsL := [.ref g]) (rest := []) (lenOf pd10 rfl) rfl rfl (Nat.le_of_eq rfl) (hb hby d3_58) (nle rfl) (nle rfl) ?_
  rintro T22 h22 _ _ _ X22 ⟨rfl, rfl, rfl, J22, G23⟩
  have K24 : Keep h h22 [x] := K14.trans J22 (allS (Or.inl (List.mem_of_getElem? (i := 0) rfl)) (allS (Or.inr ge8) all0))
  refine P.pop X22 hx 62 (hb hby d3_61) rfl rfl ?_
  exact WS.retV X22 (WL' := [a7]) (FL' := []) hx hret hlk (hb hby d3_62) (nle rfl) (nle rfl) ⟨a7, rfl, rfl, rfl, K24, ge8, G23⟩
def Q_sbinS (Z : State) (gC : Int32) (gF : Value) (x : Addr) (g : Addr) (u : Addr) (ds : List Int32) (h : Heap) (v : Option Value) (h' : Heap) (WL' FL' : List Addr) : Prop := ∃ t : Addr, v = none ∧ WL' = [t] ∧ FL' = [] ∧ Keep h h' [x] ∧ h.size ≤ t ∧ SB Z h' x t (ds.length + 16) ds
set_option maxRecDepth 65536 in
set_option maxHeartbeats 4000000 in
theorem ct_sbinS {l : Launch} {Z : State} {a0 : Array Value} {gC : Int32} {gF : Value} (cx : Cx a0 Z gC gF) {n0 : Nat} (x : Addr) (g : Addr) (u : Addr) (ds : List Int32) (h : Heap) (WL FL : List Addr) (P0 : Exa Z h x "java/lang/StringBuilder") (P1 : Fld Z h x "java/lang/AbstractStringBuilder" "value" "[B" .null) (P2 : Fld Z h x "java/lang/AbstractStringBuilder" "coder" "B" (.int 0)) (P3 : Fld Z h x "java/lang/AbstractStringBuilder" "count" "I" (.int 0)) (P4 : x ∈ WL) (P5 : StrL Z h g u ds) (P6 : g ∈ FL) (P7 : u ∈ FL) (hI : ds.length ≤ 3) :
    Ct l Z EL1 n0 (⟨"java/lang/StringBuilder", "<init>", "(Ljava/lang/String;)V"⟩ : MethodName) jdk_67_method_3_code 2 (Option.none : Option Jvm.ClassFile.FieldType) ({ frames := 7, cells := 1, slots := 19, locals := 103 } : Room) #[(.ref x), (.ref g)] h WL FL (Q_sbinS Z gC gF x g u ds h) := by
  refine Ct.of (plainFor_of_name pn4) ?_
  intro p e s m below meth c s1 hx hby hml hnm hret hlk X0
  refine Wo.cast (f' := (mkF m 0 #[.val (.ref x), .val (.ref g)] [])) (by first | rfl | (simp [entryFrame, mkF, argsToLocals, Value.category]; done)) ?_
  have K0 : Keep h h [x] := Keep.refl _ _
  show Wo _ _ _ _ _ _ _ _ _ _ _ s1 (mkF m 0 #[.val (.ref x), .val (.ref g)] [])
  refine P.aloadN X0 hx 1 (hb hby d2_0) rfl rfl rfl ?_
  refine P.aloadN X0 hx 2 (hb hby d2_1) rfl rfl rfl ?_
  refine X0.callC hx rfl (w18 cx) (w19 cx) (w23 cx) (by decide) (Ct.pay (W := 0) (ct_asbinS cx x g u ds h _ _ P0 P1 P2 P3 P4 P5 P6 P7 hI) (w23 cx) (w22 cx) (nle rfl) (nle rfl)) (by rw [hml]; rfl) (argsL := [.ref g]) (rest := []) (lenOf pd1 rfl) rfl rfl (Nat.le_of_eq rfl) (hb hby d2_2) (nle rfl) (nle rfl) ?_
  rintro T1 h1 _ _ _ X1 ⟨a2, rfl, rfl, rfl, J1, g4, G3⟩
  have ge5 : h.size ≤ a2 := Nat.le_trans K0.1 g4
  have K6 : Keep h h1 [x] := K0.trans J1 (allS (Or.inl (List.mem_of_getElem? (i := 0) rfl)) all0)
  exact WS.retV X1 (WL' := [a2]) (FL' := []) hx hret hlk (hb hby d2_5) (nle rfl) (nle rfl) ⟨a2, rfl, rfl, rfl, K6, ge5, G3⟩
def Q_getval (Z : State) (gC : Int32) (gF : Value) (x : Addr) (t : Addr) (h : Heap) (v : Option Value) (h' : Heap) (WL' FL' : List Addr) : Prop := v = some (.ref t) ∧ WL' = [] ∧ FL' = [] ∧ h' = h
set_option maxRecDepth 65536 in
set_option maxHeartbeats 4000000 in
theorem ct_getval {l : Launch} {Z : State} {a0 : Array Value} {gC : Int32} {gF : Value} (cx : Cx a0 Z gC gF) {n0 : Nat} (x : Addr) (t : Addr) (h : Heap) (WL FL : List Addr) (P0 : Fld Z h x "java/lang/AbstractStringBuilder" "value" "[B" (.ref t)) :
    Ct l Z EL1 n0 (⟨"java/lang/AbstractStringBuilder", "getValue", "()[B"⟩ : MethodName) jdk_68_method_64_code 1 (Option.some (Jvm.ClassFile.FieldType.array Jvm.ClassFile.FieldType.byte)) ({ frames := 0, cells := 0, slots := 0, locals := 0 } : Room) #[(.ref x)] h WL FL (Q_getval Z gC gF x t h) := by
  refine Ct.of (plainFor_of_name pn1) ?_
  intro p e s m below meth c s1 hx hby hml hnm hret hlk X0
  refine Wo.cast (f' := (mkF m 0 #[.val (.ref x)] [])) (by first | rfl | (simp [entryFrame, mkF, argsToLocals, Value.category]; done)) ?_
  show Wo _ _ _ _ _ _ _ _ _ _ _ s1 (mkF m 0 #[.val (.ref x)] [])
  refine P.aloadN X0 hx 1 (hb hby d17_0) rfl rfl rfl ?_
  refine X0.getF hx (host := "") (Or.inl (w44 cx)) Via.refl P0 (hb hby d17_1) ?_
  intro T1 X1
  exact WS.retA X1 (WL' := []) (FL' := []) hx hret rfl rfl hlk (hb hby d17_4) (nle rfl) (nle rfl) ⟨rfl, rfl, rfl, rfl⟩
def Q_asblen (Z : State) (gC : Int32) (gF : Value) (x : Addr) (z : Int32) (h : Heap) (v : Option Value) (h' : Heap) (WL' FL' : List Addr) : Prop := v = some (.int z) ∧ WL' = [] ∧ FL' = [] ∧ h' = h
set_option maxRecDepth 65536 in
set_option maxHeartbeats 4000000 in
theorem ct_asblen {l : Launch} {Z : State} {a0 : Array Value} {gC : Int32} {gF : Value} (cx : Cx a0 Z gC gF) {n0 : Nat} (x : Addr) (z : Int32) (h : Heap) (WL FL : List Addr) (P0 : Fld Z h x "java/lang/AbstractStringBuilder" "count" "I" (.int z)) :
    Ct l Z EL1 n0 (⟨"java/lang/AbstractStringBuilder", "length", "()I"⟩ : MethodName) jdk_68_method_6_code 1 (Option.some Jvm.ClassFile.FieldType.int) ({ frames := 0, cells := 0, slots := 0, locals := 0 } : Room) #[(.ref x)] h WL FL (Q_asblen Z gC gF x z h) := by
  refine Ct.of (plainFor_of_name pn1) ?_
  intro p e s m below meth c s1 hx hby hml hnm hret hlk X0
  refine Wo.cast (f' := (mkF m 0 #[.val (.ref x)] [])) (by first | rfl | (simp [entryFrame, mkF, argsToLocals, Value.category]; done)) ?_
  show Wo _ _ _ _ _ _ _ _ _ _ _ s1 (mkF m 0 #[.val (.ref x)] [])
  refine P.aloadN X0 hx 1 (hb hby d19_0) rfl rfl rfl ?_
  refine X0.getF hx (host := "") (Or.inl (w60 cx)) Via.refl P0 (hb hby d19_1) ?_
  intro T1 X1
  exact WS.retI X1 (WL' := []) (FL' := []) hx hret hlk (hb hby d19_4) (nle rfl) (nle rfl) ⟨rfl, rfl, rfl, rfl⟩
def Q_sblen (Z : State) (gC : Int32) (gF : Value) (x : Addr) (z : Int32) (h : Heap) (v : Option Value) (h' : Heap) (WL' FL' : List Addr) : Prop := v = some (.int z) ∧ WL' = [] ∧ FL' = [] ∧ h' = h
set_option maxRecDepth 65536 in
set_option maxHeartbeats 4000000 in
theorem ct_sblen {l : Launch} {Z : State} {a0 : Array Value} {gC : Int32} {gF : Value} (cx : Cx a0 Z gC gF) {n0 : Nat} (x : Addr) (z : Int32) (h : Heap) (WL FL : List Addr) (P0 : Exa Z h x "java/lang/StringBuilder") (P1 : Fld Z h x "java/lang/AbstractStringBuilder" "count" "I" (.int z)) :
    Ct l Z EL1 n0 (⟨"java/lang/StringBuilder", "length", "()I"⟩ : MethodName) jdk_67_method_93_code 1 (Option.some Jvm.ClassFile.FieldType.int) ({ frames := 1, cells := 0, slots := 0, locals := 12 } : Room) #[(.ref x)] h WL FL (Q_sblen Z gC gF x z h) := by
  refine Ct.of (plainFor_of_name pn4) ?_
  intro p e s m below meth c s1 hx hby hml hnm hret hlk X0
  refine Wo.cast (f' := (mkF m 0 #[.val (.ref x)] [])) (by first | rfl | (simp [entryFrame, mkF, argsToLocals, Value.category]; done)) ?_
  show Wo _ _ _ _ _ _ _ _ _ _ _ s1 (mkF m 0 #[.val (.ref x)] [])
  refine P.aloadN X0 hx 1 (hb hby d18_0) rfl rfl rfl ?_
  refine X0.callU hx (w112 cx) (w108 cx) (w58 cx) (w113 cx) (w65 cx) rfl (by decide) (by decide) (Ins.self P0) (Ct.pay (W := 0) (ct_asblen cx x z h _ _ P1) (w113 cx) (w22 cx) (nle rfl) (nle rfl)) (by rw [hml]; rfl) (argsL := []) (rest := []) (lenOf pd7 rfl) rfl rfl (Nat.le_of_eq rfl) (hb hby d18_1) (nle rfl) (nle rfl) ?_
  rintro T1 h1 _ _ _ X1 ⟨rfl, rfl, rfl, J1⟩
  rw [J1] at X1
  exact WS.retI X1 (WL' := []) (FL' := []) hx hret hlk (hb hby d18_4) (nle rfl) (nle rfl) ⟨rfl, rfl, rfl, rfl⟩
def Q_asblat (Z : State) (gC : Int32) (gF : Value) (x : Addr) (h : Heap) (v : Option Value) (h' : Heap) (WL' FL' : List Addr) : Prop := v = some (.int 1) ∧ WL' = [] ∧ FL' = [] ∧ h' = h
set_option maxRecDepth 65536 in
set_option maxHeartbeats 4000000 in
theorem ct_asblat {l : Launch} {Z : State} {a0 : Array Value} {gC : Int32} {gF : Value} (cx : Cx a0 Z gC gF) {n0 : Nat} (x : Addr) (h : Heap) (WL FL : List Addr) (P0 : Fld Z h x "java/lang/AbstractStringBuilder" "coder" "B" (.int 0)) :
    Ct l Z EL1 n0 (⟨"java/lang/AbstractStringBuilder", "isLatin1", "()Z"⟩ : MethodName) jdk_68_method_68_code 1 (Option.some Jvm.ClassFile.FieldType.boolean) ({ frames := 0, cells := 0, slots := 0, locals := 0 } : Room) #[(.ref x)] h WL FL (Q_asblat Z gC gF x h) := by
  refine Ct.of (plainFor_of_name pn1) ?_
  intro p e s m below meth c s1 hx hby hml hnm hret hlk X0
  refine Wo.cast (f' := (mkF m 0 #[.val (.ref x)] [])) (by first | rfl | (simp [entryFrame, mkF, argsToLocals, Value.category]; done)) ?_
  show Wo _ _ _ _ _ _ _ _ _ _ _ s1 (mkF m 0 #[.val (.ref x)] [])
  refine X0.getS hx (w77 cx) Via.refl (S_C cx) (hb hby d20_0) ?_
  intro T1 X1
  refine P.ifNo X1 hx 6 (hb hby d20_3) ((if0 _ _).trans (feq (N_C cx)).1) rfl ?_
  refine P.aloadN X1 hx 7 (hb hby d20_6) rfl rfl rfl ?_
  refine X1.getF hx (host := "") (Or.inl (w42 cx)) Via.refl P0 (hb hby d20_7) ?_
  intro T2 X2
  refine P.ifNo X2 hx 13 (hb hby d20_10) (by decide) rfl ?_
  refine P.iconst X2 hx 14 1 (hb hby d20_13) rfl rfl ?_
  refine P.goto X2 hx 18 (hb hby d20_14) (by decide) (by decide) ?_
  exact WS.retN X2 (WL' := []) (FL' := []) hx (t := .boolean) hret (by simp) hlk (hb hby d20_18) (nle rfl) (nle rfl) ⟨rfl, rfl, rfl, rfl⟩
def Q_chklen (Z : State) (gC : Int32) (gF : Value) (z : Int32) (h : Heap) (v : Option Value) (h' : Heap) (WL' FL' : List Addr) : Prop := v = none ∧ WL' = [] ∧ FL' = [] ∧ h' = h
set_option maxRecDepth 65536 in
set_option maxHeartbeats 4000000 in
theorem ct_chklen {l : Launch} {Z : State} {a0 : Array Value} {gC : Int32} {gF : Value} (cx : Cx a0 Z gC gF) {n0 : Nat} (z : Int32) (h : Heap) (WL FL : List Addr) (hz : ¬ (z < (0 : Int32))) :
    Ct l Z EL1 n0 (⟨"java/util/Arrays", "checkLength", "(II)V"⟩ : MethodName) jdk_65_method_131_code 2 (Option.none : Option Jvm.ClassFile.FieldType) ({ frames := 0, cells := 0, slots := 0, locals := 0 } : Room) #[(.int 0), (.int z)] h WL FL (Q_chklen Z gC gF z h) := by
  refine Ct.of (plainFor_of_name pn3) ?_
  intro p e s m below meth c s1 hx hby hml hnm hret hlk X0
  refine Wo.cast (f' := (mkF m 0 #[.val (.int 0), .val (.int z)] [])) (by first | rfl | (simp [entryFrame, mkF, argsToLocals, Value.category]; done)) ?_
  show Wo _ _ _ _ _ _ _ _ _ _ _ s1 (mkF m 0 #[.val (.int 0), .val (.int z)] [])
  refine P.iloadN X0 hx 1 (hb hby d23_0) rfl rfl ?_
  refine P.iloadN X0 hx 2 (hb hby d23_1) rfl rfl ?_
  refine P.icmpYes X0 hx 37 (hb hby d23_2) (flt hz).2.1 (by decide) (by decide) ?_
  exact WS.retV X0 (WL' := []) (FL' := []) hx hret hlk (hb hby d23_37) (nle rfl) (nle rfl) ⟨rfl, rfl, rfl, rfl⟩
def Q_minqr (Z : State) (gC : Int32) (gF : Value) (a : Int32) (b : Int32) (h : Heap) (v : Option Value) (h' : Heap) (WL' FL' : List Addr) : Prop := v = some (.int b) ∧ WL' = [] ∧ FL' = [] ∧ h' = h
set_option maxRecDepth 65536 in
set_option maxHeartbeats 4000000 in
theorem ct_minqr {l : Launch} {Z : State} {a0 : Array Value} {gC : Int32} {gF : Value} (cx : Cx a0 Z gC gF) {n0 : Nat} (a : Int32) (b : Int32) (h : Heap) (WL FL : List Addr) (hz : b < a) :
    Ct l Z EL1 n0 (⟨"java/lang/Math", "min", "(II)I"⟩ : MethodName) jdk_29_method_69_code 2 (Option.some Jvm.ClassFile.FieldType.int) ({ frames := 0, cells := 0, slots := 0, locals := 0 } : Room) #[(.int a), (.int b)] h WL FL (Q_minqr Z gC gF a b h) := by
  refine Ct.of (by decide +kernel) ?_
  intro p e s m below meth c s1 hx hby hml hnm hret hlk X0
  refine Wo.cast (f' := (mkF m 0 #[.val (.int a), .val (.int b)] [])) (by first | rfl | (simp [entryFrame, mkF, argsToLocals, Value.category]; done)) ?_
  show Wo _ _ _ _ _ _ _ _ _ _ _ s1 (mkF m 0 #[.val (.int a), .val (.int b)] [])
  refine P.iloadN X0 hx 1 (hb hby d24_0) rfl rfl ?_
  refine P.iloadN X0 hx 2 (hb hby d24_1) rfl rfl ?_
  refine P.icmpYes X0 hx 9 (hb hby d24_2) (tlt hz).2.2.1 (by decide) (by decide) ?_
  refine P.iloadN X0 hx 10 (hb hby d24_9) rfl rfl ?_
  exact WS.retI X0 (WL' := []) (FL' := []) hx hret hlk (hb hby d24_10) (nle rfl) (nle rfl) ⟨rfl, rfl, rfl, rfl⟩
def Q_corb (Z : State) (gC : Int32) (gF : Value) (t : Addr) (kt : ClassId) (cap : Nat) (cs : List Int32) (h : Heap) (v : Option Value) (h' : Heap) (WL' FL' : List Addr) : Prop := ∃ u : Addr, ∃ ku : ClassId, v = some (.ref u) ∧ WL' = [u] ∧ FL' = [] ∧ Keep h h' [] ∧ h.size ≤ u ∧ Arv Z h' u ku .byte (Int32.ofNat cs.length) (lat cs) (.int 0)
set_option maxRecDepth 65536 in
set_option maxHeartbeats 4000000 in
theorem ct_corb {l : Launch} {Z : State} {a0 : Array Value} {gC : Int32} {gF : Value} (cx : Cx a0 Z gC gF) {n0 : Nat} (t : Addr) (kt : ClassId) (cap : Nat) (cs : List Int32) (h : Heap) (WL FL : List Addr) (P0 : Arv Z h t kt .byte (Int32.ofNat cap) (lat cs) (.int 0)) (hl : cs.length < cap) (hc : cap ≤ 4000) (hB : cs.length ≤ 48) :
    Ct l Z EL1 n0 (⟨"java/util/Arrays", "copyOfRangeByte", "([BII)[B"⟩ : MethodName) jdk_65_method_133_code 5 (Option.some (Jvm.ClassFile.FieldType.array Jvm.ClassFile.FieldType.byte)) ({ frames := 1, cells := 1, slots := 48, locals := 18 } : Room) #[(.ref t), (.int 0), (.int (Int32.ofNat cs.length))] h WL FL (Q_corb Z gC gF t kt cap cs h) := by
  refine Ct.of (plainFor_of_name pn3) ?_
  intro p e s m below meth c s1 hx hby hml hnm hret hlk X0
  refine Wo.cast (f' := (mkF m 0 #[.val (.ref t), .val (.int 0), .val (.int (Int32.ofNat cs.length)), .unset, .unset] [])) (by first | rfl | (simp [entryFrame, mkF, argsToLocals, Value.category]; done)) ?_
  have K0 : Keep h h [] := Keep.refl _ _
  show Wo _ _ _ _ _ _ _ _ _ _ _ s1 (mkF m 0 #[.val (.ref t), .val (.int 0), .val (.int (Int32.ofNat cs.length)), .unset, .unset] [])
  refine P.iloadN X0 hx 1 (hb hby d22_0) rfl rfl ?_
  refine P.iloadN X0 hx 2 (hb hby d22_1) rfl rfl ?_
  refine X0.callS hx (w126 cx) (w127 cx) (w121 cx) (w128 cx) (by decide) (Ct.pay (W := 0) (ct_chklen cx (Int32.ofNat cs.length) h _ _ (oNn (Nat.lt_of_le_of_lt hB (by decide)))) (w128 cx) (w121 cx) (nle rfl) (nle rfl)) (by rw [hml]; rfl) (argsL := [.int 0, .int (Int32.ofNat cs.length)]) (rest := []) (lenOf pd12 rfl) rfl rfl (Nat.le_of_eq rfl) (hb hby d22_2) (nle rfl) (nle rfl) ?_
  rintro T1 h1 _ _ _ X1 ⟨rfl, rfl, rfl, J1⟩
  rw [J1] at X1
  refine P.iloadN X1 hx 6 (hb hby d22_5) rfl rfl ?_
  refine P.iloadN X1 hx 7 (hb hby d22_6) rfl rfl ?_
  refine P.isub X1 hx 8 (z := (Int32.ofNat cs.length)) (hb hby d22_7) (by rw [Int32.sub_zero]) rfl ?_
  refine P.istoreN X1 hx 9 #[.val (.ref t), .val (.int 0), .val (.int (Int32.ofNat cs.length)), .val (.int (Int32.ofNat cs.length)), .unset] (hb hby d22_8) rfl rfl ?_
  refine P.iloadN X1 hx 10 (hb hby d22_9) rfl rfl ?_
  refine X1.newPE (aty := .byte) hx (w3 cx) (hb hby d22_10) (oNn (Nat.lt_of_le_of_lt hB (by decide))) (cap := 48) (by rw [oC (Nat.lt_of_le_of_lt hB (by decide))]; exact hB) (nle rfl) (nle rfl) (nle rfl) (ad := "[B") (by decide) ?_
  intro T2 h2 a2 k2 X2 E2 g2 A2 Ex2
  have ge3 : h.size ≤ a2 := Nat.le_trans K0.1 g2
  have K4 : Keep h h2 [] := K0.ext E2
  have V5 : Arv Z h2 a2 k2 .byte (Int32.ofNat cs.length) [] (.int 0) := A2
  refine P.astore X2 hx 14 #[.val (.ref t), .val (.int 0), .val (.int (Int32.ofNat cs.length)), .val (.int (Int32.ofNat cs.length)), .val (.ref a2)] (hb hby d22_12) rfl rfl rfl ?_
  refine P.aloadN X2 hx 15 (hb hby d22_14) rfl rfl rfl ?_
  refine P.iloadN X2 hx 16 (hb hby d22_15) rfl rfl ?_
  refine P.aload X2 hx 18 (hb hby d22_16) rfl rfl rfl ?_
  refine P.iconst X2 hx 19 0 (hb hby d22_18) rfl rfl ?_
  refine P.aloadN X2 hx 20 (hb hby d22_19) rfl rfl rfl ?_
  have F6 : Arv Z h2 t kt .byte (Int32.ofNat cap) (lat cs) (.int 0) := (P0.ext E2)
  refine WS.alen X2 hx F6 (hb hby d22_20) ?_
  refine P.iloadN X2 hx 22 (hb hby d22_21) rfl rfl ?_
  refine P.isub X2 hx 23 (z := (Int32.ofNat cap)) (hb hby d22_22) (by rw [Int32.sub_zero]) rfl ?_
  refine P.iloadN X2 hx 24 (hb hby d22_23) rfl rfl ?_
  refine X2.callS hx (w129 cx) (w130 cx) (w131 cx) (w132 cx) (by decide) (Ct.pay (W := 4) (ct_minqr cx (Int32.ofNat cap) (Int32.ofNat cs.length) h2 _ _ ((oLt (Nat.lt_of_le_of_lt hB (by decide)) (Nat.lt_of_le_of_lt hc (by decide))).mpr hl)) (w132 cx) (w131 cx) (nle rfl) (nle rfl)) (by rw [hml]; rfl) (argsL := [.int (Int32.ofNat cap), .int (Int32.ofNat cs.length)]) (rest := [.int 0, .ref a2, .int 0, .ref t]) (lenOf pd3 rfl) rfl rfl (Nat.le_of_eq rfl) (hb hby d22_24) (nle rfl) (nle rfl) ?_
  rintro T7 h7 _ _ _ X7 ⟨rfl, rfl, rfl, J7⟩
  rw [J7] at X7
  refine WS.cpL (cs := []) (ds := cs) X7 hx (w133 cx) (w86 cx) (w84 cx) (w85 cx) F6 V5 (Nat.le_of_lt hl) (by simp) hc (Nat.le_trans hB (by decide)) (List.mem_of_getElem? (i := 0) rfl) (by rw [hml]; rfl) (hb hby d22_27) (nle rfl) (W := 0) (Nat.le_of_eq rfl) (nle rfl) ?_
  intro T8 h8 X8 J8 G8
  have K9 : Keep h h8 [] := K4.trans J8 (allS (Or.inr ge3) all0)
  refine P.aload X8 hx 32 (hb hby d22_30) rfl rfl rfl ?_
  exact WS.retA X8 (WL' := [a2]) (FL' := []) hx hret rfl rfl hlk (hb hby d22_32) (nle rfl) (nle rfl) ⟨a2, k2, rfl, rfl, rfl, K9, ge3, G8⟩
def Q_cor (Z : State) (gC : Int32) (gF : Value) (t : Addr) (kt : ClassId) (cap : Nat) (cs : List Int32) (h : Heap) (v : Option Value) (h' : Heap) (WL' FL' : List Addr) : Prop := ∃ u : Addr, ∃ ku : ClassId, v = some (.ref u) ∧ WL' = [u] ∧ FL' = [] ∧ Keep h h' [] ∧ h.size ≤ u ∧ Arv Z h' u ku .byte (Int32.ofNat cs.length) (lat cs) (.int 0)
set_option maxRecDepth 65536 in
set_option maxHeartbeats 4000000 in
theorem ct_cor {l : Launch} {Z : State} {a0 : Array Value} {gC : Int32} {gF : Value} (cx : Cx a0 Z gC gF) {n0 : Nat} (t : Addr) (kt : ClassId) (cap : Nat) (cs : List Int32) (h : Heap) (WL FL : List Addr) (P0 : Arv Z h t kt .byte (Int32.ofNat cap) (lat cs) (.int 0)) (hl : cs.length < cap) (hc : cap ≤ 4000) (hB : cs.length ≤ 48) :
    Ct l Z EL1 n0 (⟨"java/util/Arrays", "copyOfRange", "([BII)[B"⟩ : MethodName) jdk_65_method_132_code 3 (Option.some (Jvm.ClassFile.FieldType.array Jvm.ClassFile.FieldType.byte)) ({ frames := 2, cells := 1, slots := 48, locals := 34 } : Room) #[(.ref t), (.int 0), (.int (Int32.ofNat cs.length))] h WL FL (Q_cor Z gC gF t kt cap cs h) := by
  refine Ct.of (plainFor_of_name pn3) ?_
  intro p e s m below meth c s1 hx hby hml hnm hret hlk X0
  refine Wo.cast (f' := (mkF m 0 #[.val (.ref t), .val (.int 0), .val (.int (Int32.ofNat cs.length))] [])) (by first | rfl | (simp [entryFrame, mkF, argsToLocals, Value.category]; done)) ?_
  have K0 : Keep h h [] := Keep.refl _ _
  show Wo _ _ _ _ _ _ _ _ _ _ _ s1 (mkF m 0 #[.val (.ref t), .val (.int 0), .val (.int (Int32.ofNat cs.length))] [])
  refine P.iloadN X0 hx 1 (hb hby d21_0) rfl rfl ?_
  refine P.ifNo X0 hx 4 (hb hby d21_1) (by decide) rfl ?_
  refine P.iloadN X0 hx 5 (hb hby d21_4) rfl rfl ?_
  refine P.aloadN X0 hx 6 (hb hby d21_5) rfl rfl rfl ?_
  refine WS.alen X0 hx P0 (hb hby d21_6) ?_
  refine P.icmpNo X0 hx 10 (hb hby d21_7) (feq (fun q => Nat.ne_of_lt hl ((oEq (Nat.lt_of_le_of_lt hB (by decide)) (Nat.lt_of_le_of_lt hc (by decide))).mp q))).1 rfl ?_
  refine P.aloadN X0 hx 11 (hb hby d21_10) rfl rfl rfl ?_
  refine P.iloadN X0 hx 12 (hb hby d21_11) rfl rfl ?_
  refine P.iloadN X0 hx 13 (hb hby d21_12) rfl rfl ?_
  refine X0.callS hx (w123 cx) (w124 cx) (w121 cx) (w125 cx) (by decide) (Ct.pay (W := 0) (ct_corb cx t kt cap cs h _ _ P0 hl hc hB) (w125 cx) (w121 cx) (nle rfl) (nle rfl)) (by rw [hml]; rfl) (argsL := [.ref t, .int 0, .int (Int32.ofNat cs.length)]) (rest := []) (lenOf pd13 rfl) rfl rfl (Nat.le_of_eq rfl) (hb hby d21_13) (nle rfl) (nle rfl) ?_
  rintro T1 h1 _ _ _ X1 ⟨a2, k3, rfl, rfl, rfl, J1, g5, G4⟩
  have ge6 : h.size ≤ a2 := Nat.le_trans K0.1 g5
  have K7 : Keep h h1 [] := K0.trans J1 all0
  exact WS.retA X1 (WL' := [a2]) (FL' := []) hx hret rfl rfl hlk (hb hby d21_16) (nle rfl) (nle rfl) ⟨a2, k3, rfl, rfl, rfl, K7, ge6, G4⟩
def Q_sasb (Z : State) (gC : Int32) (gF : Value) (x : Addr) (q : Addr) (t : Addr) (cap : Nat) (cs : List Int32) (h : Heap) (v : Option Value) (h' : Heap) (WL' FL' : List Addr) : Prop := ∃ u : Addr, v = none ∧ WL' = [] ∧ FL' = [u] ∧ Keep h h' [x] ∧ StrL Z h' x u cs
set_option maxRecDepth 65536 in
set_option maxHeartbeats 4000000 in
theorem ct_sasb {l : Launch} {Z : State} {a0 : Array Value} {gC : Int32} {gF : Value} (cx : Cx a0 Z gC gF) {n0 : Nat} (x : Addr) (q : Addr) (t : Addr) (cap : Nat) (cs : List Int32) (h : Heap) (WL FL : List Addr) (P0 : Exa Z h x "java/lang/String") (P1 : Fld Z h x "java/lang/String" "value" "[B" .null) (P2 : Fld Z h x "java/lang/String" "coder" "B" (.int 0)) (P3 : x ∈ WL) (P4 : SB Z h q t cap cs) (hl : cs.length < cap) (hB : cs.length ≤ 48) (hqx : q ≠ x) (htx : t ≠ x) :
    Ct l Z EL1 n0 (⟨"java/lang/String", "<init>", "(Ljava/lang/AbstractStringBuilder;Ljava/lang/Void;)V"⟩ : MethodName) jdk_42_method_150_code 5 (Option.none : Option Jvm.ClassFile.FieldType) ({ frames := 3, cells := 1, slots := 48, locals := 49 } : Room) #[(.ref x), (.ref q), .null] h WL FL (Q_sasb Z gC gF x q t cap cs h) := by
  refine Ct.of (plainFor_of_name pn0) ?_
  intro p e s m below meth c s1 hx hby hml hnm hret hlk X0
  refine Wo.cast (f' := (mkF m 0 #[.val (.ref x), .val (.ref q), .val .null, .unset, .unset] [])) (by first | rfl | (simp [entryFrame, mkF, argsToLocals, Value.category]; done)) ?_
  have K0 : Keep h h [x] := Keep.refl _ _
  show Wo _ _ _ _ _ _ _ _ _ _ _ s1 (mkF m 0 #[.val (.ref x), .val (.ref q), .val .null, .unset, .unset] [])
  refine P.aloadN X0 hx 1 (hb hby d16_0) rfl rfl rfl ?_
  refine X0.initO hx (w100 cx) (w25 cx) (w26 cx) (by rw [hml]; rfl) (hb hby d16_1) (nle rfl) (W := 0) (Nat.le_of_eq rfl) (nle rfl) ?_
  intro T1 X1
  refine P.aloadN X1 hx 5 (hb hby d16_4) rfl rfl rfl ?_
  obtain ⟨k2, A2⟩ := P4.2.2.2.2.1
  refine X1.callV hx (w101 cx) (w102 cx) (w104 cx) (w103 cx) (fun _ hZ => nf hZ (w104 cx)) (by decide) P4.1 (Ct.pay (W := 0) (ct_getval cx q t h _ _ P4.2.1) (w105 cx) (w22 cx) (nle rfl) (nle rfl)) (by rw [hml]; rfl) (argsL := []) (rest := []) (lenOf pd14 rfl) rfl rfl (Nat.le_of_eq rfl) (hb hby d16_5) (nle rfl) (nle rfl) ?_
  rintro T3 h3 _ _ _ X3 ⟨rfl, rfl, rfl, J3⟩
  rw [J3] at X3
  refine P.astoreN X3 hx 9 #[.val (.ref x), .val (.ref q), .val .null, .val (.ref t), .unset] (hb hby d16_8) rfl rfl rfl ?_
  refine P.aloadN X3 hx 10 (hb hby d16_9) rfl rfl rfl ?_
  refine X3.callV hx (w106 cx) (w107 cx) (w109 cx) (w110 cx) (fun _ hZ => nfO hZ (w65 cx) rfl) (by decide) P4.1 (Ct.pay (W := 0) (ct_sblen cx q (Int32.ofNat cs.length) h _ _ P4.1 P4.2.2.2.1) (w111 cx) (w14 cx) (nle rfl) (nle rfl)) (by rw [hml]; rfl) (argsL := []) (rest := []) (lenOf pd7 rfl) rfl rfl (Nat.le_of_eq rfl) (hb hby d16_10) (nle rfl) (nle rfl) ?_
  rintro T4 h4 _ _ _ X4 ⟨rfl, rfl, rfl, J4⟩
  rw [J4] at X4
  refine P.istore X4 hx 15 #[.val (.ref x), .val (.ref q), .val .null, .val (.ref t), .val (.int (Int32.ofNat cs.length))] (hb hby d16_13) rfl rfl ?_
  refine P.aloadN X4 hx 16 (hb hby d16_15) rfl rfl rfl ?_
  refine X4.callV hx (w114 cx) (w115 cx) (w117 cx) (w116 cx) (fun _ hZ => nf hZ (w117 cx)) (by decide) P4.1 (Ct.pay (W := 0) (ct_asblat cx q h _ _ P4.2.2.1) (w118 cx) (w22 cx) (nle rfl) (nle rfl)) (by rw [hml]; rfl) (argsL := []) (rest := []) (lenOf pd15 rfl) rfl rfl (Nat.le_of_eq rfl) (hb hby d16_16) (nle rfl) (nle rfl) ?_
  rintro T5 h5 _ _ _ X5 ⟨rfl, rfl, rfl, J5⟩
  rw [J5] at X5
  refine P.ifNo X5 hx 22 (hb hby d16_19) (by decide) rfl ?_
  refine P.aloadN X5 hx 23 (hb hby d16_22) rfl rfl rfl ?_
  refine P.iconst X5 hx 24 0 (hb hby d16_23) rfl rfl ?_
  refine X5.putF hx (host := "") (Or.inl (w39 cx)) Via.refl P2 P0 (Or.inr ⟨(w5 cx), rfl, hnm⟩) (w2 cx) (ty := .byte) (by decide) rfl rfl P3 (hb hby d16_24) ?_
  intro T6 h6 X6 W6 G6
  have K7 : Keep h h6 [x] := K0.wr W6 (Or.inl (List.mem_of_getElem? (i := 0) rfl))
  refine P.aloadN X6 hx 28 (hb hby d16_27) rfl rfl rfl ?_
  refine P.aloadN X6 hx 29 (hb hby d16_28) rfl rfl rfl ?_
  refine P.iconst X6 hx 30 0 (hb hby d16_29) rfl rfl ?_
  refine P.iload X6 hx 32 (hb hby d16_30) rfl rfl ?_
  have F8 : Arv Z h6 t k2 .byte (Int32.ofNat cap) (lat cs) (.int 0) := (A2.other W6 htx)
  refine X6.callS hx (w119 cx) (w120 cx) (w121 cx) (w122 cx) (by decide) (Ct.pay (W := 1) (ct_cor cx t k2 cap cs h6 _ _ F8 hl P4.2.2.2.2.2.2.2.1 hB) (w122 cx) (w121 cx) (nle rfl) (nle rfl)) (by rw [hml]; rfl) (argsL := [.ref t, .int 0, .int (Int32.ofNat cs.length)]) (rest := [.ref x]) (lenOf pd13 rfl) rfl rfl (Nat.le_of_eq rfl) (hb hby d16_32) (nle rfl) (nle rfl) ?_
  rintro T9 h9 _ _ _ X9 ⟨a10, k11, rfl, rfl, rfl, J9, g13, G12⟩
  have ge14 : h.size ≤ a10 := Nat.le_trans K7.1 g13
  have K15 : Keep h h9 [x] := K7.trans J9 all0
  have F16 : Fld Z h9 x "java/lang/String" "value" "[B" .null := ((P1.other W6 (Or.inr (slot_ne (Or.inr (w4 cx)) (Or.inr (w5 cx)) (by decide) (t := (.array .byte)) (t' := .byte) (by decide) (by decide)))).keep J9 nin0)
  have F17 : Exa Z h9 x "java/lang/String" := ((P0.wr W6).keep J9)
  refine X9.putF hx (host := "") (Or.inl (w32 cx)) Via.refl F16 F17 (Or.inr ⟨(w4 cx), rfl, hnm⟩) (w2 cx) (ty := (.array .byte)) (by decide) rfl rfl (List.mem_cons_of_mem _ P3) (hb hby d16_35) ?_
  intro T18 h18 X18 W18 G18
  have K19 : Keep h h18 [x] := K15.wr W18 (Or.inl (List.mem_of_getElem? (i := 0) rfl))
  refine P.goto X18 hx 97 (hb hby d16_38) (by decide) (by decide) ?_
  have F20 : Exa Z h18 x "java/lang/String" := (F17.wr W18)
  have F21 : Fld Z h18 x "java/lang/String" "coder" "B" (.int 0) := ((G6.keep J9 nin0).other W18 (Or.inr (slot_ne (Or.inr (w5 cx)) (Or.inr (w4 cx)) (by decide) (t := .byte) (t' := (.array .byte)) (by decide) (by decide))))
  have F22 : Arv Z h18 a10 k11 .byte (Int32.ofNat cs.length) (lat cs) (.int 0) := (G12.other W18 (X18.neT (A := [a10]) (B := WL) (List.mem_of_getElem? (i := 0) rfl) P3))
  have S23 : StrL Z h18 x a10 cs := ⟨F20, G18, F21, ⟨_, F22⟩, P4.2.2.2.2.2.1, Nat.le_trans hB (by decide)⟩
  have X24 := WS.drop (A := []) (B := WL) X18
  exact WS.retV X24 (WL' := []) (FL' := [a10]) hx hret hlk (hb hby d16_97) (nle rfl) (nle rfl) ⟨a10, rfl, rfl, rfl, K19, S23⟩
def Q_ssb (Z : State) (gC : Int32) (gF : Value) (x : Addr) (q : Addr) (t : Addr) (cap : Nat) (cs : List Int32) (h : Heap) (v : Option Value) (h' : Heap) (WL' FL' : List Addr) : Prop := ∃ u : Addr, v = none ∧ WL' = [] ∧ FL' = [u] ∧ Keep h h' [x] ∧ StrL Z h' x u cs
set_option maxRecDepth 65536 in
set_option maxHeartbeats 4000000 in
theorem ct_ssb {l : Launch} {Z : State} {a0 : Array Value} {gC : Int32} {gF : Value} (cx : Cx a0 Z gC gF) {n0 : Nat} (x : Addr) (q : Addr) (t : Addr) (cap : Nat) (cs : List Int32) (h : Heap) (WL FL : List Addr) (P0 : Exa Z h x "java/lang/String") (P1 : Fld Z h x "java/lang/String" "value" "[B" .null) (P2 : Fld Z h x "java/lang/String" "coder" "B" (.int 0)) (P3 : x ∈ WL) (P4 : SB Z h q t cap cs) (hl : cs.length < cap) (hB : cs.length ≤ 48) (hqx : q ≠ x) (htx : t ≠ x) :
    Ct l Z EL1 n0 (⟨"java/lang/String", "<init>", "(Ljava/lang/StringBuilder;)V"⟩ : MethodName) jdk_42_method_53_code 2 (Option.none : Option Jvm.ClassFile.FieldType) ({ frames := 4, cells := 1, slots := 48, locals := 65 } : Room) #[(.ref x), (.ref q)] h WL FL (Q_ssb Z gC gF x q t cap cs h) := by
  refine Ct.of (plainFor_of_name pn0) ?_
  intro p e s m below meth c s1 hx hby hml hnm hret hlk X0
  refine Wo.cast (f' := (mkF m 0 #[.val (.ref x), .val (.ref q)] [])) (by first | rfl | (simp [entryFrame, mkF, argsToLocals, Value.category]; done)) ?_
  have K0 : Keep h h [x] := Keep.refl _ _
  show Wo _ _ _ _ _ _ _ _ _ _ _ s1 (mkF m 0 #[.val (.ref x), .val (.ref q)] [])
  refine P.aloadN X0 hx 1 (hb hby d15_0) rfl rfl rfl ?_
  refine P.aloadN X0 hx 2 (hb hby d15_1) rfl rfl rfl ?_
  refine P.aconstNull X0 hx 3 (hb hby d15_2) rfl ?_
  refine X0.callC hx rfl (w97 cx) (w98 cx) (w99 cx) (by decide) (Ct.pay (W := 0) (ct_sasb cx x q t cap cs h _ _ P0 P1 P2 P3 P4 hl hB hqx htx) (w99 cx) (w1 cx) (nle rfl) (nle rfl)) (by rw [hml]; rfl) (argsL := [.ref q, .null]) (rest := []) (lenOf pd16 rfl) rfl rfl (Nat.le_of_eq rfl) (hb hby d15_3) (nle rfl) (nle rfl) ?_
  rintro T1 h1 _ _ _ X1 ⟨a2, rfl, rfl, rfl, J1, G3⟩
  have K4 : Keep h h1 [x] := K0.trans J1 (allS (Or.inl (List.mem_of_getElem? (i := 0) rfl)) all0)
  exact WS.retV X1 (WL' := []) (FL' := [a2]) hx hret hlk (hb hby d15_6) (nle rfl) (nle rfl) ⟨a2, rfl, rfl, rfl, K4, G3⟩
def Q_sbstr (Z : State) (gC : Int32) (gF : Value) (q : Addr) (t : Addr) (cap : Nat) (cs : List Int32) (h : Heap) (v : Option Value) (h' : Heap) (WL' FL' : List Addr) : Prop := ∃ x : Addr, ∃ u : Addr, v = some (.ref x) ∧ WL' = [x] ∧ FL' = [u] ∧ Keep h h' [] ∧ h.size ≤ x ∧ StrL Z h' x u cs
set_option maxRecDepth 65536 in
set_option maxHeartbeats 4000000 in
theorem ct_sbstr {l : Launch} {Z : State} {a0 : Array Value} {gC : Int32} {gF : Value} (cx : Cx a0 Z gC gF) {n0 : Nat} (q : Addr) (t : Addr) (cap : Nat) (cs : List Int32) (h : Heap) (WL FL : List Addr) (P0 : SB Z h q t cap cs) (P1 : q ∈ WL) (P2 : t ∈ WL) (hl : cs.length < cap) (hB : cs.length ≤ 48) :
    Ct l Z EL1 n0 (⟨"java/lang/StringBuilder", "toString", "()Ljava/lang/String;"⟩ : MethodName) jdk_67_method_42_code 1 (Option.some (Jvm.ClassFile.FieldType.object "java/lang/String")) ({ frames := 5, cells := 2, slots := 52, locals := 79 } : Room) #[(.ref q)] h WL FL (Q_sbstr Z gC gF q t cap cs h) := by
  refine Ct.of (plainFor_of_name pn4) ?_
  intro p e s m below meth c s1 hx hby hml hnm hret hlk X0
  refine Wo.cast (f' := (mkF m 0 #[.val (.ref q)] [])) (by first | rfl | (simp [entryFrame, mkF, argsToLocals, Value.category]; done)) ?_
  have K0 : Keep h h [] := Keep.refl _ _
  show Wo _ _ _ _ _ _ _ _ _ _ _ s1 (mkF m 0 #[.val (.ref q)] [])
  refine X0.newO hx (w92 cx) (w2 cx) (w1 cx) (hb hby d14_0) (nle rfl) (nle rfl) ?_
  intro T1 h1 a1 X1 E1 g1 A1 D1
  have ge2 : h.size ≤ a1 := Nat.le_trans K0.1 g1
  have K3 : Keep h h1 [] := K0.ext E1
  have D4 : Fld Z h1 a1 "java/lang/String" "value" "[B" .null := D1 (Or.inr (w4 cx)) (ty := (.array .byte)) (by decide)
  have D5 : Fld Z h1 a1 "java/lang/String" "coder" "B" (.int 0) := D1 (Or.inr (w5 cx)) (ty := .byte) (by decide)
  refine P.dup X1 hx 4 (hb hby d14_3) rfl rfl ?_
  refine P.aloadN X1 hx 5 (hb hby d14_4) rfl rfl rfl ?_
  have F6 : SB Z h1 q t cap cs := (P0.ext E1)
  refine X1.callC hx rfl (w93 cx) (w94 cx) (w96 cx) (by decide) (Ct.pay (W := 1) (ct_ssb cx a1 q t cap cs h1 _ _ A1 D4 D5 (List.mem_of_getElem? (i := 0) rfl) F6 hl hB (Ne.symm (X1.neT (A := [a1]) (B := WL) (List.mem_of_getElem? (i := 0) rfl) P1)) (Ne.symm (X1.neT (A := [a1]) (B := WL) (List.mem_of_getElem? (i := 0) rfl) P2))) (w96 cx) (w1 cx) (nle rfl) (nle rfl)) (by rw [hml]; rfl) (argsL := [.ref q]) (rest := [.ref a1]) (lenOf pd17 rfl) rfl rfl (Nat.le_of_eq rfl) (hb hby d14_5) (nle rfl) (nle rfl) ?_
  rintro T7 h7 _ _ _ X7 ⟨a8, rfl, rfl, rfl, J7, G9⟩
  have K10 : Keep h h7 [] := K3.trans J7 (allS (Or.inr ge2) all0)
  exact WS.retA X7 (WL' := [a1]) (FL' := [a8]) hx hret rfl rfl hlk (hb hby d14_8) (nle rfl) (nle rfl) ⟨a1, a8, rfl, rfl, rfl, K10, ge2, G9⟩
def Q_corF (Z : State) (gC : Int32) (gF : Value) (t : Addr) (kt : ClassId) (cap : Nat) (cs : List Int32) (h : Heap) (v : Option Value) (h' : Heap) (WL' FL' : List Addr) : Prop := ∃ u : Addr, ∃ ku : ClassId, v = some (.ref u) ∧ WL' = [u] ∧ FL' = [] ∧ Keep h h' [] ∧ h.size ≤ u ∧ Arv Z h' u ku .byte (Int32.ofNat cs.length) (lat cs) (.int 0)
set_option maxRecDepth 65536 in
set_option maxHeartbeats 4000000 in
theorem ct_corF {l : Launch} {Z : State} {a0 : Array Value} {gC : Int32} {gF : Value} (cx : Cx a0 Z gC gF) {n0 : Nat} (t : Addr) (kt : ClassId) (cap : Nat) (cs : List Int32) (h : Heap) (WL FL : List Addr) (P0 : Arv Z h t kt .byte (Int32.ofNat cap) (lat cs) (.int 0)) (hl : cs.length = cap) (hc : cap ≤ 4000) (hB : cs.length ≤ 48) (P4 : Exa Z h t "[B") :
    Ct l Z EL1 n0 (⟨"java/util/Arrays", "copyOfRange", "([BII)[B"⟩ : MethodName) jdk_65_method_132_code 3 (Option.some (Jvm.ClassFile.FieldType.array Jvm.ClassFile.FieldType.byte)) ({ frames := 1, cells := 1, slots := 48, locals := 14 } : Room) #[(.ref t), (.int 0), (.int (Int32.ofNat cs.length))] h WL FL (Q_corF Z gC gF t kt cap cs h) := by
  refine Ct.of (plainFor_of_name pn3) ?_
  intro p e s m below meth c s1 hx hby hml hnm hret hlk X0
  refine Wo.cast (f' := (mkF m 0 #[.val (.ref t), .val (.int 0), .val (.int (Int32.ofNat cs.length))] [])) (by first | rfl | (simp [entryFrame, mkF, argsToLocals, Value.category]; done)) ?_
  have K0 : Keep h h [] := Keep.refl _ _
  show Wo _ _ _ _ _ _ _ _ _ _ _ s1 (mkF m 0 #[.val (.ref t), .val (.int 0), .val (.int (Int32.ofNat cs.length))] [])
  refine P.iloadN X0 hx 1 (hb hby d21_0) rfl rfl ?_
  refine P.ifNo X0 hx 4 (hb hby d21_1) (by decide) rfl ?_
  refine P.iloadN X0 hx 5 (hb hby d21_4) rfl rfl ?_
  refine P.aloadN X0 hx 6 (hb hby d21_5) rfl rfl rfl ?_
  refine WS.alen X0 hx P0 (hb hby d21_6) ?_
  refine P.icmpYes X0 hx 17 (hb hby d21_7) (teq (by rw [hl])).1 (by decide) (by decide) ?_
  refine P.aloadN X0 hx 18 (hb hby d21_17) rfl rfl rfl ?_
  refine X0.clone hx (w203 cx) (w204 cx) (w208 cx) (w206 cx) (w207 cx) (w209 cx) P0 P4 (by rw [hml]; rfl) (hb hby d21_18) (nle rfl) (W := 0) (cap := 48) (Nat.le_of_eq rfl) (nle rfl) (by rw [← hl, oC (Nat.lt_of_le_of_lt hB (by decide))]; exact hB) (nle rfl) (nle rfl) ?_
  intro T1 h1 a1 X1 E1 g1 Ex1 A1
  have ge2 : h.size ≤ a1 := Nat.le_trans K0.1 g1
  have K3 : Keep h h1 [] := K0.ext E1
  refine X1.castY hx (w210 cx) (Ins.self Ex1) (hb hby d21_21) ?_
  intro T4 X4
  have V5 : Arv Z h1 a1 kt .byte (Int32.ofNat cs.length) (lat cs) (.int 0) := by rw [hl]; exact A1
  exact WS.retA X4 (WL' := [a1]) (FL' := []) hx hret rfl rfl hlk (hb hby d21_24) (nle rfl) (nle rfl) ⟨a1, kt, rfl, rfl, rfl, K3, ge2, V5⟩
def Q_sasbF (Z : State) (gC : Int32) (gF : Value) (x : Addr) (q : Addr) (t : Addr) (cap : Nat) (cs : List Int32) (h : Heap) (v : Option Value) (h' : Heap) (WL' FL' : List Addr) : Prop := ∃ u : Addr, v = none ∧ WL' = [] ∧ FL' = [u] ∧ Keep h h' [x] ∧ StrL Z h' x u cs
set_option maxRecDepth 65536 in
set_option maxHeartbeats 4000000 in
theorem ct_sasbF {l : Launch} {Z : State} {a0 : Array Value} {gC : Int32} {gF : Value} (cx : Cx a0 Z gC gF) {n0 : Nat} (x : Addr) (q : Addr) (t : Addr) (cap : Nat) (cs : List Int32) (h : Heap) (WL FL : List Addr) (P0 : Exa Z h x "java/lang/String") (P1 : Fld Z h x "java/lang/String" "value" "[B" .null) (P2 : Fld Z h x "java/lang/String" "coder" "B" (.int 0)) (P3 : x ∈ WL) (P4 : SB Z h q t cap cs) (hl : cs.length = cap) (hB : cs.length ≤ 48) (hqx : q ≠ x) (htx : t ≠ x) :
    Ct l Z EL1 n0 (⟨"java/lang/String", "<init>", "(Ljava/lang/AbstractStringBuilder;Ljava/lang/Void;)V"⟩ : MethodName) jdk_42_method_150_code 5 (Option.none : Option Jvm.ClassFile.FieldType) ({ frames := 2, cells := 1, slots := 48, locals := 29 } : Room) #[(.ref x), (.ref q), .null] h WL FL (Q_sasbF Z gC gF x q t cap cs h) := by
  refine Ct.of (plainFor_of_name pn0) ?_
  intro p e s m below meth c s1 hx hby hml hnm hret hlk X0
  refine Wo.cast (f' := (mkF m 0 #[.val (.ref x), .val (.ref q), .val .null, .unset, .unset] [])) (by first | rfl | (simp [entryFrame, mkF, argsToLocals, Value.category]; done)) ?_
  have K0 : Keep h h [x] := Keep.refl _ _
  show Wo _ _ _ _ _ _ _ _ _ _ _ s1 (mkF m 0 #[.val (.ref x), .val (.ref q), .val .null, .unset, .unset] [])
  refine P.aloadN X0 hx 1 (hb hby d16_0) rfl rfl rfl ?_
  refine X0.initO hx (w100 cx) (w25 cx) (w26 cx) (by rw [hml]; rfl) (hb hby d16_1) (nle rfl) (W := 0) (Nat.le_of_eq rfl) (nle rfl) ?_
  intro T1 X1
  refine P.aloadN X1 hx 5 (hb hby d16_4) rfl rfl rfl ?_
  obtain ⟨k2, A2⟩ := P4.2.2.2.2.1
  refine X1.callV hx (w101 cx) (w102 cx) (w104 cx) (w103 cx) (fun _ hZ => nf hZ (w104 cx)) (by decide) P4.1 (Ct.pay (W := 0) (ct_getval cx q t h _ _ P4.2.1) (w105 cx) (w22 cx) (nle rfl) (nle rfl)) (by rw [hml]; rfl) (argsL := []) (rest := []) (lenOf pd14 rfl) rfl rfl (Nat.le_of_eq rfl) (hb hby d16_5) (nle rfl) (nle rfl) ?_
  rintro T3 h3 _ _ _ X3 ⟨rfl, rfl, rfl, J3⟩
  rw [J3] at X3
  refine P.astoreN X3 hx 9 #[.val (.ref x), .val (.ref q), .val .null, .val (.ref t), .unset] (hb hby d16_8) rfl rfl rfl ?_
  refine P.aloadN X3 hx 10 (hb hby d16_9) rfl rfl rfl ?_
  refine X3.callV hx (w106 cx) (w107 cx) (w109 cx) (w110 cx) (fun _ hZ => nfO hZ (w65 cx) rfl) (by decide) P4.1 (Ct.pay (W := 0) (ct_sblen cx q (Int32.ofNat cs.length) h _ _ P4.1 P4.2.2.2.1) (w111 cx) (w14 cx) (nle rfl) (nle rfl)) (by rw [hml]; rfl) (argsL := []) (rest := []) (lenOf pd7 rfl) rfl rfl (Nat.le_of_eq rfl) (hb hby d16_10) (nle rfl) (nle rfl) ?_
  rintro T4 h4 _ _ _ X4 ⟨rfl, rfl, rfl, J4⟩
  rw [J4] at X4
  refine P.istore X4 hx 15 #[.val (.ref x), .val (.ref q), .val .null, .val (.ref t), .val (.int (Int32.ofNat cs.length))] (hb hby d16_13) rfl rfl ?_
  refine P.aloadN X4 hx 16 (hb hby d16_15) rfl rfl rfl ?_
  refine X4.callV hx (w114 cx) (w115 cx) (w117 cx) (w116 cx) (fun _ hZ => nf hZ (w117 cx)) (by decide) P4.1 (Ct.pay (W := 0) (ct_asblat cx q h _ _ P4.2.2.1) (w118 cx) (w22 cx) (nle rfl) (nle rfl)) (by rw [hml]; rfl) (argsL := []) (rest := []) (lenOf pd15 rfl) rfl rfl (Nat.le_of_eq rfl) (hb hby d16_16) (nle rfl) (nle rfl) ?_
  rintro T5 h5 _ _ _ X5 ⟨rfl, rfl, rfl, J5⟩
  rw [J5] at X5
  refine P.ifNo X5 hx 22 (hb hby d16_19) (by decide) rfl ?_
  refine P.aloadN X5 hx 23 (hb hby d16_22) rfl rfl rfl ?_
  refine P.iconst X5 hx 24 0 (hb hby d16_23) rfl rfl ?_
  refine X5.putF hx (host := "") (Or.inl (w39 cx)) Via.refl P2 P0 (Or.inr ⟨(w5 cx), rfl, hnm⟩) (w2 cx) (ty := .byte) (by decide) rfl rfl P3 (hb hby d16_24) ?_
  intro T6 h6 X6 W6 G6
  have K7 : Keep h h6 [x] := K0.wr W6 (Or.inl (List.mem_of_getElem? (i := 0) rfl))
  refine P.aloadN X6 hx 28 (hb hby d16_27) rfl rfl rfl ?_
  refine P.aloadN X6 hx 29 (hb hby d16_28) rfl rfl rfl ?_
  refine P.iconst X6 hx 30 0 (hb hby d16_29) rfl rfl ?_
  refine P.iload X6 hx 32 (hb hby d16_30) rfl rfl ?_
  have F8 : Arv Z h6 t k2 .byte (Int32.ofNat cap) (lat cs) (.int 0) := (A2.other W6 htx)
  have F9 : Exa Z h6 t "[B" := (P4.2.2.2.2.2.2.2.2.wr W6)
  refine X6.callS hx (w119 cx) (w120 cx) (w121 cx) (w122 cx) (by decide) (Ct.pay (W := 1) (ct_corF cx t k2 cap cs h6 _ _ F8 hl P4.2.2.2.2.2.2.2.1 hB F9) (w122 cx) (w121 cx) (nle rfl) (nle rfl)) (by rw [hml]; rfl) (argsL := [.ref t, .int 0, .int (Int32.ofNat cs.length)]) (rest := [.ref x]) (lenOf pd13 rfl) rfl rfl (Nat.le_of_eq rfl) (hb hby d16_32) (nle rfl) (nle rfl) ?_
  rintro T10 h10 _ _ _ X10 ⟨a11, k12, rfl, rfl, rfl, J10, g14, G13⟩
  have ge15 : h.size ≤ a11 := Nat.le_trans K7.1 g14
  have K16 : Keep h h10 [x] := K7.trans J10 all0
  have F17 : Fld Z h10 x "java/lang/String" "value" "[B" .null := ((P1.other W6 (Or.inr (slot_ne (Or.inr (w4 cx)) (Or.inr (w5 cx)) (by decide) (t := (.array .byte)) (t' := .byte) (by decide) (by decide)))).keep J10 nin0)
  have F18 : Exa Z h10 x "java/lang/String" := ((P0.wr W6).keep J10)
  refine X10.putF hx (host := "") (Or.inl (w32 cx)) Via.refl F17 F18 (Or.inr ⟨(w4 cx), rfl, hnm⟩) (w2 cx) (ty := (.array .byte)) (by decide) rfl rfl (List.mem_cons_of_mem _ P3) (hb hby d16_35) ?_
  intro T19 h19 X19 W19 G19
  have K20 : Keep h h19 [x] := K16.wr W19 (Or.inl (List.mem_of_getElem? (i := 0) rfl))
  refine P.goto X19 hx 97 (hb hby d16_38) (by decide) (by decide) ?_
  have F21 : Exa Z h19 x "java/lang/String" := (F18.wr W19)
  have F22 : Fld Z h19 x "java/lang/String" "coder" "B" (.int 0) := ((G6.keep J10 nin0).other W19 (Or.inr (slot_ne (Or.inr (w5 cx)) (Or.inr (w4 cx)) (by decide) (t := .byte) (t' := (.array .byte)) (by decide) (by decide))))
  have F23 : Arv Z h19 a11 k12 .byte (Int32.ofNat cs.length) (lat cs) (.int 0) := (G13.other W19 (X19.neT (A := [a11]) (B := WL) (List.mem_of_getElem? (i := 0) rfl) P3))
  have S24 : StrL Z h19 x a11 cs := ⟨F21, G19, F22, ⟨_, F23⟩, P4.2.2.2.2.2.1, Nat.le_trans hB (by decide)⟩
  have X25 := WS.drop (A := []) (B := WL) X19
  exact WS.retV X25 (WL' := []) (FL' := [a11]) hx hret hlk (hb hby d16_97) (nle rfl) (nle rfl) ⟨a11, rfl, rfl, rfl, K20, S24⟩
def Q_ssbF (Z : State) (gC : Int32) (gF : Value) (x : Addr) (q : Addr) (t : Addr) (cap : Nat) (cs : List Int32) (h : Heap) (v : Option Value) (h' : Heap) (WL' FL' : List Addr) : Prop := ∃ u : Addr, v = none ∧ WL' = [] ∧ FL' = [u] ∧ Keep h h' [x] ∧ StrL Z h' x u cs
set_option maxRecDepth 65536 in
set_option maxHeartbeats 4000000 in
theorem ct_ssbF {l : Launch} {Z : State} {a0 : Array Value} {gC : Int32} {gF : Value} (cx : Cx a0 Z gC gF) {n0 : Nat} (x : Addr) (q : Addr) (t : Addr) (cap : Nat) (cs : List Int32) (h : Heap) (WL FL : List Addr) (P0 : Exa Z h x "java/lang/String") (P1 : Fld Z h x "java/lang/String" "value" "[B" .null) (P2 : Fld Z h x "java/lang/String" "coder" "B" (.int 0)) (P3 : x ∈ WL) (P4 : SB Z h q t cap cs) (hl : cs.length = cap) (hB : cs.length ≤ 48) (hqx : q ≠ x) (htx : t ≠ x) :
    Ct l Z EL1 n0 (⟨"java/lang/String", "<init>", "(Ljava/lang/StringBuilder;)V"⟩ : MethodName) jdk_42_method_53_code 2 (Option.none : Option Jvm.ClassFile.FieldType) ({ frames := 3, cells := 1, slots := 48, locals := 45 } : Room) #[(.ref x), (.ref q)] h WL FL (Q_ssbF Z gC gF x q t cap cs h) := by
  refine Ct.of (plainFor_of_name pn0) ?_
  intro p e s m below meth c s1 hx hby hml hnm hret hlk X0
  refine Wo.cast (f' := (mkF m 0 #[.val (.ref x), .val (.ref q)] [])) (by first | rfl | (simp [entryFrame, mkF, argsToLocals, Value.category]; done)) ?_
  have K0 : Keep h h [x] := Keep.refl _ _
  show Wo _ _ _ _ _ _ _ _ _ _ _ s1 (mkF m 0 #[.val (.ref x), .val (.ref q)] [])
  refine P.aloadN X0 hx 1 (hb hby d15_0) rfl rfl rfl ?_
  refine P.aloadN X0 hx 2 (hb hby d15_1) rfl rfl rfl ?_
  refine P.aconstNull X0 hx 3 (hb hby d15_2) rfl ?_
  refine X0.callC hx rfl (w97 cx) (w98 cx) (w99 cx) (by decide) (Ct.pay (W := 0) (ct_sasbF cx x q t cap cs h _ _ P0 P1 P2 P3 P4 hl hB hqx htx) (w99 cx) (w1 cx) (nle rfl) (nle rfl)) (by rw [hml]; rfl) (argsL := [.ref q, .null]) (rest := []) (lenOf pd16 rfl) rfl rfl (Nat.le_of_eq rfl) (hb hby d15_3) (nle rfl) (nle rfl) ?_
  rintro T1 h1 _ _ _ X1 ⟨a2, rfl, rfl, rfl, J1, G3⟩
  have K4 : Keep h h1 [x] := K0.trans J1 (allS (Or.inl (List.mem_of_getElem? (i := 0) rfl)) all0)
  exact WS.retV X1 (WL' := []) (FL' := [a2]) hx hret hlk (hb hby d15_6) (nle rfl) (nle rfl) ⟨a2, rfl, rfl, rfl, K4, G3⟩
def Q_sbstrF (Z : State) (gC : Int32) (gF : Value) (q : Addr) (t : Addr) (cap : Nat) (cs : List Int32) (h : Heap) (v : Option Value) (h' : Heap) (WL' FL' : List Addr) : Prop := ∃ x : Addr, ∃ u : Addr, v = some (.ref x) ∧ WL' = [x] ∧ FL' = [u] ∧ Keep h h' [] ∧ h.size ≤ x ∧ StrL Z h' x u cs
set_option maxRecDepth 65536 in
set_option maxHeartbeats 4000000 in
theorem ct_sbstrF {l : Launch} {Z : State} {a0 : Array Value} {gC : Int32} {gF : Value} (cx : Cx a0 Z gC gF) {n0 : Nat} (q : Addr) (t : Addr) (cap : Nat) (cs : List Int32) (h : Heap) (WL FL : List Addr) (P0 : SB Z h q t cap cs) (P1 : q ∈ WL) (P2 : t ∈ WL) (hl : cs.length = cap) (hB : cs.length ≤ 48) :
    Ct l Z EL1 n0 (⟨"java/lang/StringBuilder", "toString", "()Ljava/lang/String;"⟩ : MethodName) jdk_67_method_42_code 1 (Option.some (Jvm.ClassFile.FieldType.object "java/lang/String")) ({ frames := 4, cells := 2, slots := 52, locals := 59 } : Room) #[(.ref q)] h WL FL (Q_sbstrF Z gC gF q t cap cs h) := by
  refine Ct.of (plainFor_of_name pn4) ?_
  intro p e s m below meth c s1 hx hby hml hnm hret hlk X0
  refine Wo.cast (f' := (mkF m 0 #[.val (.ref q)] [])) (by first | rfl | (simp [entryFrame, mkF, argsToLocals, Value.category]; done)) ?_
  have K0 : Keep h h [] := Keep.refl _ _
  show Wo _ _ _ _ _ _ _ _ _ _ _ s1 (mkF m 0 #[.val (.ref q)] [])
  refine X0.newO hx (w92 cx) (w2 cx) (w1 cx) (hb hby d14_0) (nle rfl) (nle rfl) ?_
  intro T1 h1 a1 X1 E1 g1 A1 D1
  have ge2 : h.size ≤ a1 := Nat.le_trans K0.1 g1
  have K3 : Keep h h1 [] := K0.ext E1
  have D4 : Fld Z h1 a1 "java/lang/String" "value" "[B" .null := D1 (Or.inr (w4 cx)) (ty := (.array .byte)) (by decide)
  have D5 : Fld Z h1 a1 "java/lang/String" "coder" "B" (.int 0) := D1 (Or.inr (w5 cx)) (ty := .byte) (by decide)
  refine P.dup X1 hx 4 (hb hby d14_3) rfl rfl ?_
  refine P.aloadN X1 hx 5 (hb hby d14_4) rfl rfl rfl ?_
  have F6 : SB Z h1 q t cap cs := (P0.ext E1)
  refine X1.callC hx rfl (w93 cx) (w94 cx) (w96 cx) (by decide) (Ct.pay (W := 1) (ct_ssbF cx a1 q t cap cs h1 _ _ A1 D4 D5 (List.mem_of_getElem? (i := 0) rfl) F6 hl hB (Ne.symm (X1.neT (A := [a1]) (B := WL) (List.mem_of_getElem? (i := 0) rfl) P1)) (Ne.symm (X1.neT (A := [a1]) (B := WL) (List.mem_of_getElem? (i := 0) rfl) P2))) (w96 cx) (w1 cx) (nle rfl) (nle rfl)) (by rw [hml]; rfl) (argsL := [.ref q]) (rest := [.ref a1]) (lenOf pd17 rfl) rfl rfl (Nat.le_of_eq rfl) (hb hby d14_5) (nle rfl) (nle rfl) ?_
  rintro T7 h7 _ _ _ X7 ⟨a8, rfl, rfl, rfl, J7, G9⟩
  have K10 : Keep h h7 [] := K3.trans J7 (allS (Or.inr ge2) all0)
  exact WS.retA X7 (WL' := [a1]) (FL' := [a8]) hx hret rfl rfl hlk (hb hby d14_8) (nle rfl) (nle rfl) ⟨a1, a8, rfl, rfl, rfl, K10, ge2, G9⟩
def Q_cencC (Z : State) (gC : Int32) (gF : Value) (c1 : Int32) (h : Heap) (v : Option Value) (h' : Heap) (WL' FL' : List Addr) : Prop := v = some (.int 1) ∧ WL' = [] ∧ FL' = [] ∧ h' = h
set_option maxRecDepth 65536 in
set_option maxHeartbeats 4000000 in
theorem ct_cencC {l : Launch} {Z : State} {a0 : Array Value} {gC : Int32} {gF : Value} (cx : Cx a0 Z gC gF) {n0 : Nat} (c1 : Int32) (h : Heap) (WL FL : List Addr) (hR : ¬ c1 < 0 ∧ ¬ (255 : Int32) < c1) :
    Ct l Z EL1 n0 (⟨"java/lang/StringLatin1", "canEncode", "(C)Z"⟩ : MethodName) jdk_43_method_3_code 1 (Option.some Jvm.ClassFile.FieldType.boolean) ({ frames := 0, cells := 0, slots := 0, locals := 0 } : Room) #[(.int c1)] h WL FL (Q_cencC Z gC gF c1 h) := by
  refine Ct.of (plainFor_of_name pn5) ?_
  intro p e s m below meth c s1 hx hby hml hnm hret hlk X0
  refine Wo.cast (f' := (mkF m 0 #[.val (.int c1)] [])) (by first | rfl | (simp [entryFrame, mkF, argsToLocals, Value.category]; done)) ?_
  show Wo _ _ _ _ _ _ _ _ _ _ _ s1 (mkF m 0 #[.val (.int c1)] [])
  refine P.iloadN X0 hx 1 (hb hby d42_0) rfl rfl ?_
  refine P.sipush X0 hx 4 255 (hb hby d42_1) rfl rfl ?_
  refine P.icmpNo X0 hx 7 (hb hby d42_4) (flt hR.2).2.2.1 rfl ?_
  refine P.iconst X0 hx 8 1 (hb hby d42_7) rfl rfl ?_
  refine P.goto X0 hx 12 (hb hby d42_8) (by decide) (by decide) ?_
  exact WS.retN X0 (WL' := []) (FL' := []) hx (t := .boolean) hret (by simp) hlk (hb hby d42_12) (nle rfl) (nle rfl) ⟨rfl, rfl, rfl, rfl⟩
def Q_tobyC (Z : State) (gC : Int32) (gF : Value) (c1 : Int32) (h : Heap) (v : Option Value) (h' : Heap) (WL' FL' : List Addr) : Prop := ∃ u : Addr, ∃ ku : ClassId, v = some (.ref u) ∧ WL' = [u] ∧ FL' = [] ∧ Keep h h' [] ∧ h.size ≤ u ∧ Arv Z h' u ku .byte (1 : Int32) [(.int (c1.toInt8.toInt32))] (.int 0)
set_option maxRecDepth 65536 in
set_option maxHeartbeats 4000000 in
theorem ct_tobyC {l : Launch} {Z : State} {a0 : Array Value} {gC : Int32} {gF : Value} (cx : Cx a0 Z gC gF) {n0 : Nat} (c1 : Int32) (h : Heap) (WL FL : List Addr)  :
    Ct l Z EL1 n0 (⟨"java/lang/StringLatin1", "toBytes", "(C)[B"⟩ : MethodName) jdk_43_method_46_code 1 (Option.some (Jvm.ClassFile.FieldType.array Jvm.ClassFile.FieldType.byte)) ({ frames := 0, cells := 1, slots := 1, locals := 0 } : Room) #[(.int c1)] h WL FL (Q_tobyC Z gC gF c1 h) := by
  refine Ct.of (plainFor_of_name pn5) ?_
  intro p e s m below meth c s1 hx hby hml hnm hret hlk X0
  refine Wo.cast (f' := (mkF m 0 #[.val (.int c1)] [])) (by first | rfl | (simp [entryFrame, mkF, argsToLocals, Value.category]; done)) ?_
  have K0 : Keep h h [] := Keep.refl _ _
  show Wo _ _ _ _ _ _ _ _ _ _ _ s1 (mkF m 0 #[.val (.int c1)] [])
  refine P.iconst X0 hx 1 1 (hb hby d43_0) rfl rfl ?_
  refine X0.newPE (aty := .byte) hx (w3 cx) (hb hby d43_1) (by decide) (cap := 1) (nle rfl) (nle rfl) (nle rfl) (nle rfl) (ad := "[B") (by decide) ?_
  intro T1 h1 a1 k1 X1 E1 g1 A1 Ex1
  have ge2 : h.size ≤ a1 := Nat.le_trans K0.1 g1
  have K3 : Keep h h1 [] := K0.ext E1
  have V4 : Arv Z h1 a1 k1 .byte (1 : Int32) [(.int 0)] (.int 0) := Arv.pad A1 (pad_rep [] _ 1)
  refine P.dup X1 hx 4 (hb hby d43_3) rfl rfl ?_
  refine P.iconst X1 hx 5 0 (hb hby d43_4) rfl rfl ?_
  refine P.iloadN X1 hx 6 (hb hby d43_5) rfl rfl ?_
  refine P.i2b X1 hx 7 (z := (c1.toInt8.toInt32)) (hb hby d43_6) rfl rfl ?_
  refine X1.stB hx V4 (j := (0 : Int32)) (x := (c1.toInt8.toInt32)) (i := 0) (by decide) rfl (nlt rfl) (List.mem_of_getElem? (i := 0) rfl) (hb hby d43_7) ?_
  intro T5 h5 X5 W5 G5
  have K6 : Keep h h5 [] := K3.wr W5 (Or.inr ge2)
  have V7 : Arv Z h5 a1 k1 .byte (1 : Int32) [(.int (c1.toInt8.toInt32))] (.int 0) := by have q := G5; rw [narB] at q; exact q
  exact WS.retA X5 (WL' := [a1]) (FL' := []) hx hret rfl rfl hlk (hb hby d43_8) (nle rfl) (nle rfl) ⟨a1, k1, rfl, rfl, rfl, K6, ge2, V7⟩
def Q_sinBB (Z : State) (gC : Int32) (gF : Value) (x : Addr) (u : Addr) (h : Heap) (v : Option Value) (h' : Heap) (WL' FL' : List Addr) : Prop := v = none ∧ WL' = [] ∧ FL' = [] ∧ Keep h h' [x] ∧ Fld Z h' x "java/lang/String" "value" "[B" (.ref u) ∧ Fld Z h' x "java/lang/String" "coder" "B" (.int 0)
set_option maxRecDepth 65536 in
set_option maxHeartbeats 4000000 in
theorem ct_sinBB {l : Launch} {Z : State} {a0 : Array Value} {gC : Int32} {gF : Value} (cx : Cx a0 Z gC gF) {n0 : Nat} (x : Addr) (u : Addr) (h : Heap) (WL FL : List Addr) (P0 : Exa Z h x "java/lang/String") (P1 : Fld Z h x "java/lang/String" "value" "[B" .null) (P2 : Fld Z h x "java/lang/String" "coder" "B" (.int 0)) (P3 : x ∈ WL) :
    Ct l Z EL1 n0 (⟨"java/lang/String", "<init>", "([BB)V"⟩ : MethodName) jdk_42_method_151_code 3 (Option.none : Option Jvm.ClassFile.FieldType) ({ frames := 1, cells := 0, slots := 0, locals := 12 } : Room) #[(.ref x), (.ref u), (.int 0)] h WL FL (Q_sinBB Z gC gF x u h) := by
  refine Ct.of (plainFor_of_name pn0) ?_
  intro p e s m below meth c s1 hx hby hml hnm hret hlk X0
  refine Wo.cast (f' := (mkF m 0 #[.val (.ref x), .val (.ref u), .val (.int 0)] [])) (by first | rfl | (simp [entryFrame, mkF, argsToLocals, Value.category]; done)) ?_
  have K0 : Keep h h [x] := Keep.refl _ _
  show Wo _ _ _ _ _ _ _ _ _ _ _ s1 (mkF m 0 #[.val (.ref x), .val (.ref u), .val (.int 0)] [])
  refine P.aloadN X0 hx 1 (hb hby d44_0) rfl rfl rfl ?_
  refine X0.initO hx (w100 cx) (w25 cx) (w26 cx) (by rw [hml]; rfl) (hb hby d44_1) (nle rfl) (W := 0) (Nat.le_of_eq rfl) (nle rfl) ?_
  intro T1 X1
  refine P.aloadN X1 hx 5 (hb hby d44_4) rfl rfl rfl ?_
  refine P.aloadN X1 hx 6 (hb hby d44_5) rfl rfl rfl ?_
  refine X1.putF hx (host := "") (Or.inl (w32 cx)) Via.refl P1 P0 (Or.inr ⟨(w4 cx), rfl, hnm⟩) (w2 cx) (ty := (.array .byte)) (by decide) rfl rfl P3 (hb hby d44_6) ?_
  intro T2 h2 X2 W2 G2
  have K3 : Keep h h2 [x] := K0.wr W2 (Or.inl (List.mem_of_getElem? (i := 0) rfl))
  refine P.aloadN X2 hx 10 (hb hby d44_9) rfl rfl rfl ?_
  refine P.iloadN X2 hx 11 (hb hby d44_10) rfl rfl ?_
  have F4 : Fld Z h2 x "java/lang/String" "coder" "B" (.int 0) := (P2.other W2 (Or.inr (slot_ne (Or.inr (w5 cx)) (Or.inr (w4 cx)) (by decide) (t := .byte) (t' := (.array .byte)) (by decide) (by decide))))
  have F5 : Exa Z h2 x "java/lang/String" := (P0.wr W2)
  refine X2.putF hx (host := "") (Or.inl (w39 cx)) Via.refl F4 F5 (Or.inr ⟨(w5 cx), rfl, hnm⟩) (w2 cx) (ty := .byte) (by decide) rfl rfl P3 (hb hby d44_11) ?_
  intro T6 h6 X6 W6 G6
  have K7 : Keep h h6 [x] := K3.wr W6 (Or.inl (List.mem_of_getElem? (i := 0) rfl))
  have F8 : Fld Z h6 x "java/lang/String" "value" "[B" (.ref u) := (G2.other W6 (Or.inr (slot_ne (Or.inr (w4 cx)) (Or.inr (w5 cx)) (by decide) (t := (.array .byte)) (t' := .byte) (by decide) (by decide))))
  exact WS.retV X6 (WL' := []) (FL' := []) hx hret hlk (hb hby d44_14) (nle rfl) (nle rfl) ⟨rfl, rfl, rfl, K7, F8, G6⟩
def Q_valC (Z : State) (gC : Int32) (gF : Value) (c1 : Int32) (h : Heap) (v : Option Value) (h' : Heap) (WL' FL' : List Addr) : Prop := ∃ x : Addr, ∃ u : Addr, v = some (.ref x) ∧ WL' = [x] ∧ FL' = [u] ∧ Keep h h' [] ∧ h.size ≤ x ∧ StrL Z h' x u [c1]
set_option maxRecDepth 65536 in
set_option maxHeartbeats 4000000 in
theorem ct_valC {l : Launch} {Z : State} {a0 : Array Value} {gC : Int32} {gF : Value} (cx : Cx a0 Z gC gF) {n0 : Nat} (c1 : Int32) (h : Heap) (WL FL : List Addr) (hR : ¬ c1 < 0 ∧ ¬ (255 : Int32) < c1) :
    Ct l Z EL1 n0 (⟨"java/lang/String", "valueOf", "(C)Ljava/lang/String;"⟩ : MethodName) jdk_42_method_139_code 1 (Option.some (Jvm.ClassFile.FieldType.object "java/lang/String")) ({ frames := 2, cells := 2, slots := 5, locals := 27 } : Room) #[(.int c1)] h WL FL (Q_valC Z gC gF c1 h) := by
  refine Ct.of (plainFor_of_name pn0) ?_
  intro p e s m below meth c s1 hx hby hml hnm hret hlk X0
  refine Wo.cast (f' := (mkF m 0 #[.val (.int c1)] [])) (by first | rfl | (simp [entryFrame, mkF, argsToLocals, Value.category]; done)) ?_
  have K0 : Keep h h [] := Keep.refl _ _
  show Wo _ _ _ _ _ _ _ _ _ _ _ s1 (mkF m 0 #[.val (.int c1)] [])
  refine X0.getS hx (w38 cx) Via.refl (S_C cx) (hb hby d41_0) ?_
  intro T1 X1
  refine P.ifNo X1 hx 6 (hb hby d41_3) ((if0 _ _).trans (feq (N_C cx)).1) rfl ?_
  refine P.iloadN X1 hx 7 (hb hby d41_6) rfl rfl ?_
  refine X1.callS hx (w217 cx) (w218 cx) (w172 cx) (w219 cx) (by decide) (Ct.pay (W := 0) (ct_cencC cx c1 h _ _ hR) (w219 cx) (w172 cx) (nle rfl) (nle rfl)) (by rw [hml]; rfl) (argsL := [.int c1]) (rest := []) (lenOf pd18 rfl) rfl rfl (Nat.le_of_eq rfl) (hb hby d41_7) (nle rfl) (nle rfl) ?_
  rintro T2 h2 _ _ _ X2 ⟨rfl, rfl, rfl, J2⟩
  rw [J2] at X2
  refine P.ifNo X2 hx 13 (hb hby d41_10) (by decide) rfl ?_
  refine X2.newO hx (w220 cx) (w2 cx) (w1 cx) (hb hby d41_13) (nle rfl) (nle rfl) ?_
  intro T3 h3 a3 X3 E3 g3 A3 D3
  have ge4 : h.size ≤ a3 := Nat.le_trans K0.1 g3
  have K5 : Keep h h3 [] := K0.ext E3
  have D6 : Fld Z h3 a3 "java/lang/String" "value" "[B" .null := D3 (Or.inr (w4 cx)) (ty := (.array .byte)) (by decide)
  have D7 : Fld Z h3 a3 "java/lang/String" "coder" "B" (.int 0) := D3 (Or.inr (w5 cx)) (ty := .byte) (by decide)
  refine P.dup X3 hx 17 (hb hby d41_16) rfl rfl ?_
  refine P.iloadN X3 hx 18 (hb hby d41_17) rfl rfl ?_
  refine X3.callS hx (w221 cx) (w222 cx) (w172 cx) (w223 cx) (by decide) (Ct.pay (W := 2) (ct_tobyC cx c1 h3 _ _ ) (w223 cx) (w172 cx) (nle rfl) (nle rfl)) (by rw [hml]; rfl) (argsL := [.int c1]) (rest := [.ref a3, .ref a3]) (lenOf pd19 rfl) rfl rfl (Nat.le_of_eq rfl) (hb hby d41_18) (nle rfl) (nle rfl) ?_
  rintro T8 h8 _ _ _ X8 ⟨a9, k10, rfl, rfl, rfl, J8, g12, G11⟩
  have ge13 : h.size ≤ a9 := Nat.le_trans K5.1 g12
  have K14 : Keep h h8 [] := K5.trans J8 all0
  refine P.iconst X8 hx 22 0 (hb hby d41_21) rfl rfl ?_
  have F15 : Exa Z h8 a3 "java/lang/String" := (A3.keep J8)
  have F16 : Fld Z h8 a3 "java/lang/String" "value" "[B" .null := (D6.keep J8 nin0)
  have F17 : Fld Z h8 a3 "java/lang/String" "coder" "B" (.int 0) := (D7.keep J8 nin0)
  refine X8.callC hx rfl (w224 cx) (w225 cx) (w226 cx) (by decide) (Ct.pay (W := 1) (ct_sinBB cx a3 a9 h8 _ _ F15 F16 F17 (List.mem_of_getElem? (i := 1) rfl)) (w226 cx) (w1 cx) (nle rfl) (nle rfl)) (by rw [hml]; rfl) (argsL := [.ref a9, .int 0]) (rest := [.ref a3]) (lenOf pd20 rfl) rfl rfl (Nat.le_of_eq rfl) (hb hby d41_22) (nle rfl) (nle rfl) ?_
  rintro T18 h18 _ _ _ X18 ⟨rfl, rfl, rfl, J18, G19, G20⟩
  have K21 : Keep h h18 [] := K14.trans J18 (allS (Or.inr ge4) all0)
  have F22 : Exa Z h18 a3 "java/lang/String" := (F15.keep J18)
  have F23 : Arv Z h18 a9 k10 .byte (1 : Int32) [(.int (c1.toInt8.toInt32))] (.int 0) := (G11.keep J18 (ninS (X18.ne (i := 0) (j := 1) rfl rfl (by decide)) nin0))
  have S24 : StrL Z h18 a3 a9 [c1] := ⟨F22, G19, G20, ⟨_, F23⟩, (fcS hR fc0), nle rfl⟩
  have X25 := WS.drop (A := []) (B := (a3 :: WL)) X18
  exact WS.retA X25 (WL' := [a3]) (FL' := [a9]) hx hret rfl rfl hlk (hb hby d41_25) (nle rfl) (nle rfl) ⟨a3, a9, rfl, rfl, rfl, K21, ge4, S24⟩
def Q_pag00 (Z : State) (gC : Int32) (gF : Value) (g : Addr) (u : Addr) (ss : List Int32) (h : Heap) (v : Option Value) (h' : Heap) (WL' FL' : List Addr) : Prop := ∃ r : Addr, ∃ ru : Addr, v = some (.ref r) ∧ WL' = [r] ∧ FL' = [ru] ∧ Keep h h' [] ∧ h.size ≤ r ∧ StrL Z h' r ru (ss ++ [])
set_option maxRecDepth 65536 in
set_option maxHeartbeats 4000000 in
theorem ct_pag00 {l : Launch} {Z : State} {a0 : Array Value} {gC : Int32} {gF : Value} (cx : Cx a0 Z gC gF) {n0 : Nat} (g : Addr) (u : Addr) (ss : List Int32) (h : Heap) (WL FL : List Addr) (P0 : StrL Z h g u ss) (P1 : g ∈ FL) (P2 : u ∈ FL) (hs : ss.length ≤ 3) :
    Ct l Z EL1 n0 (⟨"com/example/estate4/estate4/jdbc/SelectText", "paged", "(Ljava/lang/String;ZZ)Ljava/lang/String;"⟩ : MethodName) prog_6_method_24_code 4 (Option.some (Jvm.ClassFile.FieldType.object "java/lang/String")) ({ frames := 8, cells := 4, slots := 75, locals := 117 } : Room) #[(.ref g), (.int 0), (.int 0)] h WL FL (Q_pag00 Z gC gF g u ss h) := by
  refine Ct.of (plainFor_of_name pn6) ?_
  intro p e s m below meth c s1 hx hby hml hnm hret hlk X0
  refine Wo.cast (f' := (mkF m 0 #[.val (.ref g), .val (.int 0), .val (.int 0), .unset] [])) (by first | rfl | (simp [entryFrame, mkF, argsToLocals, Value.category]; done)) ?_
  have K0 : Keep h h [] := Keep.refl _ _
  show Wo _ _ _ _ _ _ _ _ _ _ _ s1 (mkF m 0 #[.val (.ref g), .val (.int 0), .val (.int 0), .unset] [])
  refine X0.newO hx (w12 cx) (w13 cx) (w14 cx) (hb hby d1_0) (nle rfl) (nle rfl) ?_
  intro T1 h1 a1 X1 E1 g1 A1 D1
  have ge2 : h.size ≤ a1 := Nat.le_trans K0.1 g1
  have K3 : Keep h h1 [] := K0.ext E1
  have D4 : Fld Z h1 a1 "java/lang/AbstractStringBuilder" "coder" "B" (.int 0) := D1 (Or.inl (w43 cx)) (ty := .byte) (by decide)
  have D5 : Fld Z h1 a1 "java/lang/AbstractStringBuilder" "value" "[B" .null := D1 (Or.inl (w45 cx)) (ty := (.array .byte)) (by decide)
  have D6 : Fld Z h1 a1 "java/lang/AbstractStringBuilder" "count" "I" (.int 0) := D1 (Or.inl (w61 cx)) (ty := .int) (by decide)
  refine P.dup X1 hx 4 (hb hby d1_3) rfl rfl ?_
  refine P.aloadN X1 hx 5 (hb hby d1_4) rfl rfl rfl ?_
  have F7 : StrL Z h1 g u ss := (P0.ext E1)
  refine X1.callC hx rfl (w15 cx) (w16 cx) (w17 cx) (by decide) (Ct.pay (W := 1) (ct_sbinS cx a1 g u ss h1 _ _ A1 D5 D4 D6 (List.mem_of_getElem? (i := 0) rfl) F7 P1 P2 hs) (w17 cx) (w14 cx) (nle rfl) (nle rfl)) (by rw [hml]; rfl) (argsL := [.ref g]) (rest := [.ref a1]) (lenOf pd1 rfl) rfl rfl (Nat.le_of_eq rfl) (hb hby d1_5) (nle rfl) (nle rfl) ?_
  rintro T8 h8 _ _ _ X8 ⟨a9, rfl, rfl, rfl, J8, g11, G10⟩
  have ge12 : h.size ≤ a9 := Nat.le_trans K3.1 g11
  have K13 : Keep h h8 [] := K3.trans J8 (allS (Or.inr ge2) all0)
  refine P.astoreN X8 hx 9 #[.val (.ref g), .val (.int 0), .val (.int 0), .val (.ref a1)] (hb hby d1_8) rfl rfl rfl ?_
  refine P.iloadN X8 hx 10 (hb hby d1_9) rfl rfl ?_
  refine P.ifYes X8 hx 20 (hb hby d1_10) (by decide) (by decide) (by decide) ?_
  refine P.iloadN X8 hx 21 (hb hby d1_20) rfl rfl ?_
  refine P.ifYes X8 hx 31 (hb hby d1_21) (by decide) (by decide) (by decide) ?_
  refine P.aloadN X8 hx 32 (hb hby d1_31) rfl rfl rfl ?_
  refine X8.callV hx (w87 cx) (w88 cx) (w90 cx) (w89 cx) (fun _ hZ => nf hZ (w90 cx)) (by decide) G10.1 (Ct.pay (W := 0) (ct_sbstr cx a1 a9 (ss.length + 16) ss h8 _ _ G10 (List.mem_of_getElem? (i := 1) rfl) (List.mem_of_getElem? (i := 0) rfl) (by omega) (by omega)) (w91 cx) (w14 cx) (nle rfl) (nle rfl)) (by rw [hml]; rfl) (argsL := []) (rest := []) (lenOf pd21 rfl) rfl rfl (Nat.le_of_eq rfl) (hb hby d1_32) (nle rfl) (nle rfl) ?_
  rintro T14 h14 _ _ _ X14 ⟨a15, a16, rfl, rfl, rfl, J14, g18, G17⟩
  have ge19 : h.size ≤ a15 := Nat.le_trans K13.1 g18
  have K20 : Keep h h14 [] := K13.trans J14 all0
  have S21 : StrL Z h14 a15 a16 (ss ++ []) := by have q := G17; rw [← List.append_nil ss] at q; exact q
  have X22 := WS.drop (A := [a15]) (B := (a1 :: WL)) X14
  have X23 := WS.drop (A := [a15]) (B := WL) X22
  have X24 := WS.fl (FL2 := (a16 :: FL)) X23 (fun y hy => (List.mem_cons.mp hy).elim (fun q => q ▸ (List.mem_of_getElem? (i := 2) rfl)) (fun q0 => (List.mem_append_right [a1, a9, a16] q0)))
  exact WS.retA X24 (WL' := [a15]) (FL' := [a16]) hx hret rfl rfl hlk (hb hby d1_35) (nle rfl) (nle rfl) ⟨a15, a16, rfl, rfl, rfl, K20, ge19, S21⟩
def Q_pag01 (Z : State) (gC : Int32) (gF : Value) (g : Addr) (u : Addr) (ss : List Int32) (h : Heap) (v : Option Value) (h' : Heap) (WL' FL' : List Addr) : Prop := ∃ r : Addr, ∃ ru : Addr, v = some (.ref r) ∧ WL' = [r] ∧ FL' = [ru] ∧ Keep h h' [] ∧ h.size ≤ r ∧ StrL Z h' r ru (ss ++ [(32 : Int32), 102, 101, 116, 99, 104, 32, 102, 105, 114, 115, 116, 32, 63, 32, 114, 111, 119, 115, 32, 111, 110, 108, 121])
set_option maxRecDepth 65536 in
set_option maxHeartbeats 4000000 in
theorem ct_pag01 {l : Launch} {Z : State} {a0 : Array Value} {gC : Int32} {gF : Value} (cx : Cx a0 Z gC gF) {n0 : Nat} (g : Addr) (u : Addr) (ss : List Int32) (h : Heap) (WL FL : List Addr) (P0 : StrL Z h g u ss) (P1 : g ∈ FL) (P2 : u ∈ FL) (hs : ss.length ≤ 3) :
    Ct l Z EL1 n0 (⟨"com/example/estate4/estate4/jdbc/SelectText", "paged", "(Ljava/lang/String;ZZ)Ljava/lang/String;"⟩ : MethodName) prog_6_method_24_code 4 (Option.some (Jvm.ClassFile.FieldType.object "java/lang/String")) ({ frames := 8, cells := 7, slots := 223, locals := 117 } : Room) #[(.ref g), (.int 0), (.int 1)] h WL FL (Q_pag01 Z gC gF g u ss h) := by
  refine Ct.of (plainFor_of_name pn6) ?_
  intro p e s m below meth c s1 hx hby hml hnm hret hlk X0
  refine Wo.cast (f' := (mkF m 0 #[.val (.ref g), .val (.int 0), .val (.int 1), .unset] [])) (by first | rfl | (simp [entryFrame, mkF, argsToLocals, Value.category]; done)) ?_
  have K0 : Keep h h [] := Keep.refl _ _
  show Wo _ _ _ _ _ _ _ _ _ _ _ s1 (mkF m 0 #[.val (.ref g), .val (.int 0), .val (.int 1), .unset] [])
  refine X0.newO hx (w12 cx) (w13 cx) (w14 cx) (hb hby d1_0) (nle rfl) (nle rfl) ?_
  intro T1 h1 a1 X1 E1 g1 A1 D1
  have ge2 : h.size ≤ a1 := Nat.le_trans K0.1 g1
  have K3 : Keep h h1 [] := K0.ext E1
  have D4 : Fld Z h1 a1 "java/lang/AbstractStringBuilder" "coder" "B" (.int 0) := D1 (Or.inl (w43 cx)) (ty := .byte) (by decide)
  have D5 : Fld Z h1 a1 "java/lang/AbstractStringBuilder" "value" "[B" .null := D1 (Or.inl (w45 cx)) (ty := (.array .byte)) (by decide)
  have D6 : Fld Z h1 a1 "java/lang/AbstractStringBuilder" "count" "I" (.int 0) := D1 (Or.inl (w61 cx)) (ty := .int) (by decide)
  refine P.dup X1 hx 4 (hb hby d1_3) rfl rfl ?_
  refine P.aloadN X1 hx 5 (hb hby d1_4) rfl rfl rfl ?_
  have F7 : StrL Z h1 g u ss := (P0.ext E1)
  refine X1.callC hx rfl (w15 cx) (w16 cx) (w17 cx) (by decide) (Ct.pay (W := 1) (ct_sbinS cx a1 g u ss h1 _ _ A1 D5 D4 D6 (List.mem_of_getElem? (i := 0) rfl) F7 P1 P2 hs) (w17 cx) (w14 cx) (nle rfl) (nle rfl)) (by rw [hml]; rfl) (argsL := [.ref g]) (rest := [.ref a1]) (lenOf pd1 rfl) rfl rfl (Nat.le_of_eq rfl) (hb hby d1_5) (nle rfl) (nle rfl) ?_
  rintro T8 h8 _ _ _ X8 ⟨a9, rfl, rfl, rfl, J8, g11, G10⟩
  have ge12 : h.size ≤ a9 := Nat.le_trans K3.1 g11
  have K13 : Keep h h8 [] := K3.trans J8 (allS (Or.inr ge2) all0)
  refine P.astoreN X8 hx 9 #[.val (.ref g), .val (.int 0), .val (.int 1), .val (.ref a1)] (hb hby d1_8) rfl rfl rfl ?_
  refine P.iloadN X8 hx 10 (hb hby d1_9) rfl rfl ?_
  refine P.ifYes X8 hx 20 (hb hby d1_10) (by decide) (by decide) (by decide) ?_
  refine P.iloadN X8 hx 21 (hb hby d1_20) rfl rfl ?_
  refine P.ifNo X8 hx 24 (hb hby d1_21) (by decide) rfl ?_
  refine P.aloadN X8 hx 25 (hb hby d1_24) rfl rfl rfl ?_
  refine X8.ldc hx (w185 cx) (strAtoms cx) (by decide) (vs := [(.int 32), (.int 102), (.int 101), (.int 116), (.int 99), (.int 104), (.int 32), (.int 102), (.int 105), (.int 114), (.int 115), (.int 116), (.int 32), (.int 63), (.int 32), (.int 114), (.int 111), (.int 119), (.int 115), (.int 32), (.int 111), (.int 110), (.int 108), (.int 121)]) (z := (24 : Int32)) ⟨by decide, by decide⟩ (by decide) rfl (hb hby d1_25) (n := 96) (nle rfl) (nle rfl) (nle rfl) (nle rfl) ?_
  intro T14 h14 a14 b14 k14 X14 E14 A14 C14 V14 B14
  have K15 : Keep h h14 [] := K13.ext E14
  have S16 : StrL Z h14 a14 b14 [(32 : Int32), 102, 101, 116, 99, 104, 32, 102, 105, 114, 115, 116, 32, 63, 32, 114, 111, 119, 115, 32, 111, 110, 108, 121] := ⟨A14, V14, C14, ⟨_, B14⟩, (by decide), nle rfl⟩
  have F17 : Exa Z h14 a1 "java/lang/StringBuilder" := (G10.1.ext E14)
  have F18 : SB Z h14 a1 a9 (ss.length + 16) ss := (G10.ext E14)
  refine X14.callV hx (w184 cx) (w53 cx) (w55 cx) (w54 cx) (fun _ hZ => nf hZ (w55 cx)) (by decide) F17 (Ct.pay (W := 0) (ct_sbappA cx a1 a14 b14 a9 (ss.length + 16) ss ([(32 : Int32), 102, 101, 116, 99, 104, 32, 102, 105, 114, 115, 116, 32, 63, 32, 114, 111, 119, 115, 32, 111, 110, 108, 121]) h14 _ _ F18 S16 (List.mem_of_getElem? (i := 1) rfl) (List.mem_of_getElem? (i := 0) rfl) (X14.ne (i := 1) (j := 0) rfl rfl (by decide)) (List.mem_of_getElem? (i := 0) rfl) (List.mem_of_getElem? (i := 1) rfl) (by simp <;> omega) (by simp <;> omega) (by simp <;> omega) (by simp <;> omega)) (w56 cx) (w14 cx) (nle rfl) (nle rfl)) (by rw [hml]; rfl) (argsL := [.ref a14]) (rest := []) (lenOf pd11 rfl) rfl rfl (Nat.le_of_eq rfl) (hb hby d1_27) (nle rfl) (nle rfl) ?_
  rintro T19 h19 _ _ _ X19 ⟨a20, rfl, rfl, rfl, J19, g22, G21⟩
  have ge23 : h.size ≤ a20 := Nat.le_trans K15.1 g22
  have K24 : Keep h h19 [] := K15.trans J19 (allS (Or.inr ge2) all0)
  refine P.pop X19 hx 31 (hb hby d1_30) rfl rfl ?_
  refine P.aloadN X19 hx 32 (hb hby d1_31) rfl rfl rfl ?_
  refine X19.callV hx (w87 cx) (w88 cx) (w90 cx) (w89 cx) (fun _ hZ => nf hZ (w90 cx)) (by decide) G21.1 (Ct.pay (W := 0) (ct_sbstr cx a1 a20 (2 * (ss.length + 16) + 2) (ss ++ [(32 : Int32), 102, 101, 116, 99, 104, 32, 102, 105, 114, 115, 116, 32, 63, 32, 114, 111, 119, 115, 32, 111, 110, 108, 121]) h19 _ _ G21 (List.mem_of_getElem? (i := 2) rfl) (List.mem_of_getElem? (i := 0) rfl) (by simp <;> omega) (by simp <;> omega)) (w91 cx) (w14 cx) (nle rfl) (nle rfl)) (by rw [hml]; rfl) (argsL := []) (rest := []) (lenOf pd21 rfl) rfl rfl (Nat.le_of_eq rfl) (hb hby d1_32) (nle rfl) (nle rfl) ?_
  rintro T25 h25 _ _ _ X25 ⟨a26, a27, rfl, rfl, rfl, J25, g29, G28⟩
  have ge30 : h.size ≤ a26 := Nat.le_trans K24.1 g29
  have K31 : Keep h h25 [] := K24.trans J25 all0
  have S32 : StrL Z h25 a26 a27 (ss ++ [(32 : Int32), 102, 101, 116, 99, 104, 32, 102, 105, 114, 115, 116, 32, 63, 32, 114, 111, 119, 115, 32, 111, 110, 108, 121]) := by have q := G28; exact q
  have X33 := WS.drop (A := [a26]) (B := (a9 :: a1 :: WL)) X25
  have X34 := WS.drop (A := [a26]) (B := (a1 :: WL)) X33
  have X35 := WS.drop (A := [a26]) (B := WL) X34
  have X36 := WS.fl (FL2 := (a27 :: FL)) X35 (fun y hy => (List.mem_cons.mp hy).elim (fun q => q ▸ (List.mem_of_getElem? (i := 3) rfl)) (fun q0 => (List.mem_append_right [a1, a9, a20, a27, a14, b14] q0)))
  exact WS.retA X36 (WL' := [a26]) (FL' := [a27]) hx hret rfl rfl hlk (hb hby d1_35) (nle rfl) (nle rfl) ⟨a26, a27, rfl, rfl, rfl, K31, ge30, S32⟩
def Q_pag10 (Z : State) (gC : Int32) (gF : Value) (g : Addr) (u : Addr) (ss : List Int32) (h : Heap) (v : Option Value) (h' : Heap) (WL' FL' : List Addr) : Prop := ∃ r : Addr, ∃ ru : Addr, v = some (.ref r) ∧ WL' = [r] ∧ FL' = [ru] ∧ Keep h h' [] ∧ h.size ≤ r ∧ StrL Z h' r ru (ss ++ [(32 : Int32), 111, 102, 102, 115, 101, 116, 32, 63, 32, 114, 111, 119, 115])
set_option maxRecDepth 65536 in
set_option maxHeartbeats 4000000 in
theorem ct_pag10 {l : Launch} {Z : State} {a0 : Array Value} {gC : Int32} {gF : Value} (cx : Cx a0 Z gC gF) {n0 : Nat} (g : Addr) (u : Addr) (ss : List Int32) (h : Heap) (WL FL : List Addr) (P0 : StrL Z h g u ss) (P1 : g ∈ FL) (P2 : u ∈ FL) (hs : ss.length ≤ 3) :
    Ct l Z EL1 n0 (⟨"com/example/estate4/estate4/jdbc/SelectText", "paged", "(Ljava/lang/String;ZZ)Ljava/lang/String;"⟩ : MethodName) prog_6_method_24_code 4 (Option.some (Jvm.ClassFile.FieldType.object "java/lang/String")) ({ frames := 8, cells := 6, slots := 135, locals := 117 } : Room) #[(.ref g), (.int 1), (.int 0)] h WL FL (Q_pag10 Z gC gF g u ss h) := by
  refine Ct.of (plainFor_of_name pn6) ?_
  intro p e s m below meth c s1 hx hby hml hnm hret hlk X0
  refine Wo.cast (f' := (mkF m 0 #[.val (.ref g), .val (.int 1), .val (.int 0), .unset] [])) (by first | rfl | (simp [entryFrame, mkF, argsToLocals, Value.category]; done)) ?_
  have K0 : Keep h h [] := Keep.refl _ _
  show Wo _ _ _ _ _ _ _ _ _ _ _ s1 (mkF m 0 #[.val (.ref g), .val (.int 1), .val (.int 0), .unset] [])
  refine X0.newO hx (w12 cx) (w13 cx) (w14 cx) (hb hby d1_0) (nle rfl) (nle rfl) ?_
  intro T1 h1 a1 X1 E1 g1 A1 D1
  have ge2 : h.size ≤ a1 := Nat.le_trans K0.1 g1
  have K3 : Keep h h1 [] := K0.ext E1
  have D4 : Fld Z h1 a1 "java/lang/AbstractStringBuilder" "coder" "B" (.int 0) := D1 (Or.inl (w43 cx)) (ty := .byte) (by decide)
  have D5 : Fld Z h1 a1 "java/lang/AbstractStringBuilder" "value" "[B" .null := D1 (Or.inl (w45 cx)) (ty := (.array .byte)) (by decide)
  have D6 : Fld Z h1 a1 "java/lang/AbstractStringBuilder" "count" "I" (.int 0) := D1 (Or.inl (w61 cx)) (ty := .int) (by decide)
  refine P.dup X1 hx 4 (hb hby d1_3) rfl rfl ?_
  refine P.aloadN X1 hx 5 (hb hby d1_4) rfl rfl rfl ?_
  have F7 : StrL Z h1 g u ss := (P0.ext E1)
  refine X1.callC hx rfl (w15 cx) (w16 cx) (w17 cx) (by decide) (Ct.pay (W := 1) (ct_sbinS cx a1 g u ss h1 _ _ A1 D5 D4 D6 (List.mem_of_getElem? (i := 0) rfl) F7 P1 P2 hs) (w17 cx) (w14 cx) (nle rfl) (nle rfl)) (by rw [hml]; rfl) (argsL := [.ref g]) (rest := [.ref a1]) (lenOf pd1 rfl) rfl rfl (Nat.le_of_eq rfl) (hb hby d1_5) (nle rfl) (nle rfl) ?_
  rintro T8 h8 _ _ _ X8 ⟨a9, rfl, rfl, rfl, J8, g11, G10⟩
  have ge12 : h.size ≤ a9 := Nat.le_trans K3.1 g11
  have K13 : Keep h h8 [] := K3.trans J8 (allS (Or.inr ge2) all0)
  refine P.astoreN X8 hx 9 #[.val (.ref g), .val (.int 1), .val (.int 0), .val (.ref a1)] (hb hby d1_8) rfl rfl rfl ?_
  refine P.iloadN X8 hx 10 (hb hby d1_9) rfl rfl ?_
  refine P.ifNo X8 hx 13 (hb hby d1_10) (by decide) rfl ?_
  refine P.aloadN X8 hx 14 (hb hby d1_13) rfl rfl rfl ?_
  refine X8.ldc hx (w183 cx) (strAtoms cx) (by decide) (vs := [(.int 32), (.int 111), (.int 102), (.int 102), (.int 115), (.int 101), (.int 116), (.int 32), (.int 63), (.int 32), (.int 114), (.int 111), (.int 119), (.int 115)]) (z := (14 : Int32)) ⟨by decide, by decide⟩ (by decide) rfl (hb hby d1_14) (n := 56) (nle rfl) (nle rfl) (nle rfl) (nle rfl) ?_
  intro T14 h14 a14 b14 k14 X14 E14 A14 C14 V14 B14
  have K15 : Keep h h14 [] := K13.ext E14
  have S16 : StrL Z h14 a14 b14 [(32 : Int32), 111, 102, 102, 115, 101, 116, 32, 63, 32, 114, 111, 119, 115] := ⟨A14, V14, C14, ⟨_, B14⟩, (by decide), nle rfl⟩
  have F17 : Exa Z h14 a1 "java/lang/StringBuilder" := (G10.1.ext E14)
  have F18 : SB Z h14 a1 a9 (ss.length + 16) ss := (G10.ext E14)
  refine X14.callV hx (w184 cx) (w53 cx) (w55 cx) (w54 cx) (fun _ hZ => nf hZ (w55 cx)) (by decide) F17 (Ct.pay (W := 0) (ct_sbappN cx a1 a14 b14 a9 (ss.length + 16) ss ([(32 : Int32), 111, 102, 102, 115, 101, 116, 32, 63, 32, 114, 111, 119, 115]) h14 _ _ F18 S16 (List.mem_of_getElem? (i := 1) rfl) (List.mem_of_getElem? (i := 0) rfl) (X14.ne (i := 1) (j := 0) rfl rfl (by decide)) (by simp)) (w56 cx) (w14 cx) (nle rfl) (nle rfl)) (by rw [hml]; rfl) (argsL := [.ref a14]) (rest := []) (lenOf pd11 rfl) rfl rfl (Nat.le_of_eq rfl) (hb hby d1_16) (nle rfl) (nle rfl) ?_
  rintro T19 h19 _ _ _ X19 ⟨rfl, rfl, rfl, J19, G20⟩
  have K21 : Keep h h19 [] := K15.trans J19 (allS (Or.inr ge2) (allS (Or.inr ge12) all0))
  refine P.pop X19 hx 20 (hb hby d1_19) rfl rfl ?_
  refine P.iloadN X19 hx 21 (hb hby d1_20) rfl rfl ?_
  refine P.ifYes X19 hx 31 (hb hby d1_21) (by decide) (by decide) (by decide) ?_
  refine P.aloadN X19 hx 32 (hb hby d1_31) rfl rfl rfl ?_
  refine X19.callV hx (w87 cx) (w88 cx) (w90 cx) (w89 cx) (fun _ hZ => nf hZ (w90 cx)) (by decide) G20.1 (Ct.pay (W := 0) (ct_sbstr cx a1 a9 (ss.length + 16) (ss ++ [(32 : Int32), 111, 102, 102, 115, 101, 116, 32, 63, 32, 114, 111, 119, 115]) h19 _ _ G20 (List.mem_of_getElem? (i := 1) rfl) (List.mem_of_getElem? (i := 0) rfl) (by simp) (by simp <;> omega)) (w91 cx) (w14 cx) (nle rfl) (nle rfl)) (by rw [hml]; rfl) (argsL := []) (rest := []) (lenOf pd21 rfl) rfl rfl (Nat.le_of_eq rfl) (hb hby d1_32) (nle rfl) (nle rfl) ?_
  rintro T22 h22 _ _ _ X22 ⟨a23, a24, rfl, rfl, rfl, J22, g26, G25⟩
  have ge27 : h.size ≤ a23 := Nat.le_trans K21.1 g26
  have K28 : Keep h h22 [] := K21.trans J22 all0
  have S29 : StrL Z h22 a23 a24 (ss ++ [(32 : Int32), 111, 102, 102, 115, 101, 116, 32, 63, 32, 114, 111, 119, 115]) := by have q := G25; exact q
  have X30 := WS.drop (A := [a23]) (B := (a1 :: WL)) X22
  have X31 := WS.drop (A := [a23]) (B := WL) X30
  have X32 := WS.fl (FL2 := (a24 :: FL)) X31 (fun y hy => (List.mem_cons.mp hy).elim (fun q => q ▸ (List.mem_of_getElem? (i := 2) rfl)) (fun q0 => (List.mem_append_right [a1, a9, a24, a14, b14] q0)))
  exact WS.retA X32 (WL' := [a23]) (FL' := [a24]) hx hret rfl rfl hlk (hb hby d1_35) (nle rfl) (nle rfl) ⟨a23, a24, rfl, rfl, rfl, K28, ge27, S29⟩
def Q_pag11 (Z : State) (gC : Int32) (gF : Value) (g : Addr) (u : Addr) (ss : List Int32) (h : Heap) (v : Option Value) (h' : Heap) (WL' FL' : List Addr) : Prop := ∃ r : Addr, ∃ ru : Addr, v = some (.ref r) ∧ WL' = [r] ∧ FL' = [ru] ∧ Keep h h' [] ∧ h.size ≤ r ∧ StrL Z h' r ru (ss ++ [(32 : Int32), 111, 102, 102, 115, 101, 116, 32, 63, 32, 114, 111, 119, 115, 32, 102, 101, 116, 99, 104, 32, 102, 105, 114, 115, 116, 32, 63, 32, 114, 111, 119, 115, 32, 111, 110, 108, 121])
set_option maxRecDepth 65536 in
set_option maxHeartbeats 4000000 in
theorem ct_pag11 {l : Launch} {Z : State} {a0 : Array Value} {gC : Int32} {gF : Value} (cx : Cx a0 Z gC gF) {n0 : Nat} (g : Addr) (u : Addr) (ss : List Int32) (h : Heap) (WL FL : List Addr) (P0 : StrL Z h g u ss) (P1 : g ∈ FL) (P2 : u ∈ FL) (hs : ss.length ≤ 3) :
    Ct l Z EL1 n0 (⟨"com/example/estate4/estate4/jdbc/SelectText", "paged", "(Ljava/lang/String;ZZ)Ljava/lang/String;"⟩ : MethodName) prog_6_method_24_code 4 (Option.some (Jvm.ClassFile.FieldType.object "java/lang/String")) ({ frames := 8, cells := 9, slots := 283, locals := 117 } : Room) #[(.ref g), (.int 1), (.int 1)] h WL FL (Q_pag11 Z gC gF g u ss h) := by
  refine Ct.of (plainFor_of_name pn6) ?_
  intro p e s m below meth c s1 hx hby hml hnm hret hlk X0
  refine Wo.cast (f' := (mkF m 0 #[.val (.ref g), .val (.int 1), .val (.int 1), .unset] [])) (by first | rfl | (simp [entryFrame, mkF, argsToLocals, Value.category]; done)) ?_
  have K0 : Keep h h [] := Keep.refl _ _
  show Wo _ _ _ _ _ _ _ _ _ _ _ s1 (mkF m 0 #[.val (.ref g), .val (.int 1), .val (.int 1), .unset] [])
  refine X0.newO hx (w12 cx) (w13 cx) (w14 cx) (hb hby d1_0) (nle rfl) (nle rfl) ?_
  intro T1 h1 a1 X1 E1 g1 A1 D1
  have ge2 : h.size ≤ a1 := Nat.le_trans K0.1 g1
  have K3 : Keep h h1 [] := K0.ext E1
  have D4 : Fld Z h1 a1 "java/lang/AbstractStringBuilder" "coder" "B" (.int 0) := D1 (Or.inl (w43 cx)) (ty := .byte) (by decide)
  have D5 : Fld Z h1 a1 "java/lang/AbstractStringBuilder" "value" "[B" .null := D1 (Or.inl (w45 cx)) (ty := (.array .byte)) (by decide)
  have D6 : Fld Z h1 a1 "java/lang/AbstractStringBuilder" "count" "I" (.int 0) := D1 (Or.inl (w61 cx)) (ty := .int) (by decide)
  refine P.dup X1 hx 4 (hb hby d1_3) rfl rfl ?_
  refine P.aloadN X1 hx 5 (hb hby d1_4) rfl rfl rfl ?_
  have F7 : StrL Z h1 g u ss := (P0.ext E1)
  refine X1.callC hx rfl (w15 cx) (w16 cx) (w17 cx) (by decide) (Ct.pay (W := 1) (ct_sbinS cx a1 g u ss h1 _ _ A1 D5 D4 D6 (List.mem_of_getElem? (i := 0) rfl) F7 P1 P2 hs) (w17 cx) (w14 cx) (nle rfl) (nle rfl)) (by rw [hml]; rfl) (argsL := [.ref g]) (rest := [.ref a1]) (lenOf pd1 rfl) rfl rfl (Nat.le_of_eq rfl) (hb hby d1_5) (nle rfl) (nle rfl) ?_
  rintro T8 h8 _ _ _ X8 ⟨a9, rfl, rfl, rfl, J8, g11, G10⟩
  have ge12 : h.size ≤ a9 := Nat.le_trans K3.1 g11
  have K13 : Keep h h8 [] := K3.trans J8 (allS (Or.inr ge2) all0)
  refine P.astoreN X8 hx 9 #[.val (.ref g), .val (.int 1), .val (.int 1), .val (.ref a1)] (hb hby d1_8) rfl rfl rfl ?_
  refine P.iloadN X8 hx 10 (hb hby d1_9) rfl rfl ?_
  refine P.ifNo X8 hx 13 (hb hby d1_10) (by decide) rfl ?_
  refine P.aloadN X8 hx 14 (hb hby d1_13) rfl rfl rfl ?_
  refine X8.ldc hx (w183 cx) (strAtoms cx) (by decide) (vs := [(.int 32), (.int 111), (.int 102), (.int 102), (.int 115), (.int 101), (.int 116), (.int 32), (.int 63), (.int 32), (.int 114), (.int 111), (.int 119), (.int 115)]) (z := (14 : Int32)) ⟨by decide, by decide⟩ (by decide) rfl (hb hby d1_14) (n := 56) (nle rfl) (nle rfl) (nle rfl) (nle rfl) ?_
  intro T14 h14 a14 b14 k14 X14 E14 A14 C14 V14 B14
  have K15 : Keep h h14 [] := K13.ext E14
  have S16 : StrL Z h14 a14 b14 [(32 : Int32), 111, 102, 102, 115, 101, 116, 32, 63, 32, 114, 111, 119, 115] := ⟨A14, V14, C14, ⟨_, B14⟩, (by decide), nle rfl⟩
  have F17 : Exa Z h14 a1 "java/lang/StringBuilder" := (G10.1.ext E14)
  have F18 : SB Z h14 a1 a9 (ss.length + 16) ss := (G10.ext E14)
  refine X14.callV hx (w184 cx) (w53 cx) (w55 cx) (w54 cx) (fun _ hZ => nf hZ (w55 cx)) (by decide) F17 (Ct.pay (W := 0) (ct_sbappN cx a1 a14 b14 a9 (ss.length + 16) ss ([(32 : Int32), 111, 102, 102, 115, 101, 116, 32, 63, 32, 114, 111, 119, 115]) h14 _ _ F18 S16 (List.mem_of_getElem? (i := 1) rfl) (List.mem_of_getElem? (i := 0) rfl) (X14.ne (i := 1) (j := 0) rfl rfl (by decide)) (by simp)) (w56 cx) (w14 cx) (nle rfl) (nle rfl)) (by rw [hml]; rfl) (argsL := [.ref a14]) (rest := []) (lenOf pd11 rfl) rfl rfl (Nat.le_of_eq rfl) (hb hby d1_16) (nle rfl) (nle rfl) ?_
  rintro T19 h19 _ _ _ X19 ⟨rfl, rfl, rfl, J19, G20⟩
  have K21 : Keep h h19 [] := K15.trans J19 (allS (Or.inr ge2) (allS (Or.inr ge12) all0))
  refine P.pop X19 hx 20 (hb hby d1_19) rfl rfl ?_
  refine P.iloadN X19 hx 21 (hb hby d1_20) rfl rfl ?_
  refine P.ifNo X19 hx 24 (hb hby d1_21) (by decide) rfl ?_
  refine P.aloadN X19 hx 25 (hb hby d1_24) rfl rfl rfl ?_
  refine X19.ldc hx (w185 cx) (strAtoms cx) (by decide) (vs := [(.int 32), (.int 102), (.int 101), (.int 116), (.int 99), (.int 104), (.int 32), (.int 102), (.int 105), (.int 114), (.int 115), (.int 116), (.int 32), (.int 63), (.int 32), (.int 114), (.int 111), (.int 119), (.int 115), (.int 32), (.int 111), (.int 110), (.int 108), (.int 121)]) (z := (24 : Int32)) ⟨by decide, by decide⟩ (by decide) rfl (hb hby d1_25) (n := 96) (nle rfl) (nle rfl) (nle rfl) (nle rfl) ?_
  intro T22 h22 a22 b22 k22 X22 E22 A22 C22 V22 B22
  have K23 : Keep h h22 [] := K21.ext E22
  have S24 : StrL Z h22 a22 b22 [(32 : Int32), 102, 101, 116, 99, 104, 32, 102, 105, 114, 115, 116, 32, 63, 32, 114, 111, 119, 115, 32, 111, 110, 108, 121] := ⟨A22, V22, C22, ⟨_, B22⟩, (by decide), nle rfl⟩
  have F25 : Exa Z h22 a1 "java/lang/StringBuilder" := (G20.1.ext E22)
  have F26 : SB Z h22 a1 a9 (ss.length + 16) (ss ++ [(32 : Int32), 111, 102, 102, 115, 101, 116, 32, 63, 32, 114, 111, 119, 115]) := (G20.ext E22)
  refine X22.callV hx (w184 cx) (w53 cx) (w55 cx) (w54 cx) (fun _ hZ => nf hZ (w55 cx)) (by decide) F25 (Ct.pay (W := 0) (ct_sbappB cx a1 a22 b22 a9 (ss.length + 16) (ss ++ [(32 : Int32), 111, 102, 102, 115, 101, 116, 32, 63, 32, 114, 111, 119, 115]) ([(32 : Int32), 102, 101, 116, 99, 104, 32, 102, 105, 114, 115, 116, 32, 63, 32, 114, 111, 119, 115, 32, 111, 110, 108, 121]) h22 _ _ F26 S24 (List.mem_of_getElem? (i := 1) rfl) (List.mem_of_getElem? (i := 0) rfl) (X22.ne (i := 1) (j := 0) rfl rfl (by decide)) (List.mem_of_getElem? (i := 0) rfl) (List.mem_of_getElem? (i := 1) rfl) (by simp <;> omega) (by simp <;> omega) (by simp <;> omega) (by simp <;> omega)) (w56 cx) (w14 cx) (nle rfl) (nle rfl)) (by rw [hml]; rfl) (argsL := [.ref a22]) (rest := []) (lenOf pd11 rfl) rfl rfl (Nat.le_of_eq rfl) (hb hby d1_27) (nle rfl) (nle rfl) ?_
  rintro T27 h27 _ _ _ X27 ⟨a28, rfl, rfl, rfl, J27, g30, G29⟩
  have ge31 : h.size ≤ a28 := Nat.le_trans K23.1 g30
  have K32 : Keep h h27 [] := K23.trans J27 (allS (Or.inr ge2) all0)
  refine P.pop X27 hx 31 (hb hby d1_30) rfl rfl ?_
  refine P.aloadN X27 hx 32 (hb hby d1_31) rfl rfl rfl ?_
  refine X27.callV hx (w87 cx) (w88 cx) (w90 cx) (w89 cx) (fun _ hZ => nf hZ (w90 cx)) (by decide) G29.1 (Ct.pay (W := 0) (ct_sbstrF cx a1 a28 (((ss ++ [(32 : Int32), 111, 102, 102, 115, 101, 116, 32, 63, 32, 114, 111, 119, 115]) ++ [(32 : Int32), 102, 101, 116, 99, 104, 32, 102, 105, 114, 115, 116, 32, 63, 32, 114, 111, 119, 115, 32, 111, 110, 108, 121]).length) ((ss ++ [(32 : Int32), 111, 102, 102, 115, 101, 116, 32, 63, 32, 114, 111, 119, 115]) ++ [(32 : Int32), 102, 101, 116, 99, 104, 32, 102, 105, 114, 115, 116, 32, 63, 32, 114, 111, 119, 115, 32, 111, 110, 108, 121]) h27 _ _ G29 (List.mem_of_getElem? (i := 2) rfl) (List.mem_of_getElem? (i := 0) rfl) rfl (by simp <;> omega)) (w91 cx) (w14 cx) (nle rfl) (nle rfl)) (by rw [hml]; rfl) (argsL := []) (rest := []) (lenOf pd21 rfl) rfl rfl (Nat.le_of_eq rfl) (hb hby d1_32) (nle rfl) (nle rfl) ?_
  rintro T33 h33 _ _ _ X33 ⟨a34, a35, rfl, rfl, rfl, J33, g37, G36⟩
  have ge38 : h.size ≤ a34 := Nat.le_trans K32.1 g37
  have K39 : Keep h h33 [] := K32.trans J33 all0
  have S40 : StrL Z h33 a34 a35 (ss ++ [(32 : Int32), 111, 102, 102, 115, 101, 116, 32, 63, 32, 114, 111, 119, 115, 32, 102, 101, 116, 99, 104, 32, 102, 105, 114, 115, 116, 32, 63, 32, 114, 111, 119, 115, 32, 111, 110, 108, 121]) := by have q := G36; rw [List.append_assoc] at q; exact q
  have X41 := WS.drop (A := [a34]) (B := (a9 :: a1 :: WL)) X33
  have X42 := WS.drop (A := [a34]) (B := (a1 :: WL)) X41
  have X43 := WS.drop (A := [a34]) (B := WL) X42
  have X44 := WS.fl (FL2 := (a35 :: FL)) X43 (fun y hy => (List.mem_cons.mp hy).elim (fun q => q ▸ (List.mem_of_getElem? (i := 3) rfl)) (fun q0 => (List.mem_append_right [a1, a9, a28, a35, a22, b22, a14, b14] q0)))
  exact WS.retA X44 (WL' := [a34]) (FL' := [a35]) hx hret rfl rfl hlk (hb hby d1_35) (nle rfl) (nle rfl) ⟨a34, a35, rfl, rfl, rfl, K39, ge38, S40⟩
def Q_tail (Z : State) (gC : Int32) (gF : Value) (x : Addr) (xu : Addr) (g : Addr) (gu : Addr) (ss : List Int32) (ts : List Int32) (k : Int32) (i : Nat) (j : Int32) (h : Heap) (v : Option Value) (h' : Heap) (WL' FL' : List Addr) : Prop := v = some (.int 1) ∧ WL' = [] ∧ FL' = [] ∧ h' = h
set_option maxRecDepth 65536 in
set_option maxHeartbeats 4000000 in
theorem ct_tail_0 {l : Launch} {Z : State} {a0 : Array Value} {gC : Int32} {gF : Value} (cx : Cx a0 Z gC gF) {n0 : Nat} (x : Addr) (xu : Addr) (g : Addr) (gu : Addr) (ss : List Int32) (ts : List Int32) (k : Int32) (i : Nat) (j : Int32) (h : Heap) (WL FL : List Addr) (P0 : StrL Z h x xu (ss ++ ts)) (P1 : StrL Z h g gu ts) (hk : k = Int32.ofNat ss.length) (hj : j = Int32.ofNat i) (hi : i ≤ 100) (hl : ts.length ≤ 100) (e0 : i < ts.length) :
    Ct l Z EL1 n0 (⟨"com/example/estate4/estate4/jdbc/SelectTextPagedPinLaw", "tail", "(Ljava/lang/String;ILjava/lang/String;I)Z"⟩ : MethodName) method_2_code 4 (Option.some Jvm.ClassFile.FieldType.boolean) ({ frames := 4, cells := 0, slots := 0, locals := 54 } : Room) #[(.ref x), (.int k), (.ref g), (.int j)] h WL FL (Q_tail Z gC gF x xu g gu ss ts k i j h) := by
  refine Ct.of (plainFor_of_name pn7) ?_
  intro p e s m below meth c s1 hx hby hml hnm hret hlk X0
  refine Wo.cast (f' := (mkF m 0 #[.val (.ref x), .val (.int k), .val (.ref g), .val (.int j)] [])) (by first | rfl | (simp [entryFrame, mkF, argsToLocals, Value.category]; done)) ?_
  show Wo _ _ _ _ _ _ _ _ _ _ _ s1 (mkF m 0 #[.val (.ref x), .val (.int k), .val (.ref g), .val (.int j)] [])
  refine P.iloadN X0 hx 1 (hb hby d26_0) rfl rfl ?_
  refine P.aloadN X0 hx 2 (hb hby d26_1) rfl rfl rfl ?_
  refine X0.callV hx (w134 cx) (w28 cx) (w30 cx) (w29 cx) (fun _ hZ => nf hZ (w30 cx)) (by decide) P1.1 (pay_len (W := 1) (hln cx) (w2 cx) P1 (X0.sta (S_C cx)) (N_C cx) (nle rfl) (nle rfl)) (by rw [hml]; rfl) (argsL := []) (rest := [.int j]) (lenOf pd7 rfl) rfl rfl (Nat.le_of_eq rfl) (hb hby d26_2) (nle rfl) (nle rfl) ?_
  rintro T1 h1 _ _ _ X1 ⟨rfl, rfl, rfl, J1⟩
  rw [J1] at X1
  show Wo _ _ _ _ _ _ _ _ _ _ _ T1 (mkF m 5 #[.val (.ref x), .val (.int k), .val (.ref g), .val (.int j)] [.int (Int32.ofNat ts.length), .int j])
  refine P.icmpNo X1 hx 8 (hb hby d26_5) (tlt ((jLt hj (by omega) (by omega)).mpr e0)).2.1 rfl ?_
  refine P.aloadN X1 hx 9 (hb hby d26_8) rfl rfl rfl ?_
  refine P.iloadN X1 hx 10 (hb hby d26_9) rfl rfl ?_
  refine P.iloadN X1 hx 11 (hb hby d26_10) rfl rfl ?_
  refine P.iadd X1 hx 12 (z := (k + j)) (hb hby d26_11) rfl rfl ?_
  refine X1.callV hx (w160 cx) (w161 cx) (w163 cx) (w162 cx) (fun _ hZ => nf hZ (w163 cx)) (by decide) P0.1 (pay_chr (W := 0) (hch cx) (w2 cx) P0 (X1.sta (S_C cx)) (N_C cx) (X1.sta (S_F cx)) (R_F cx) (i := (ss.length + i)) (by rw [List.length_append]; omega) (by rw [hk, hj, oAd]) (nle rfl) (nle rfl)) (by rw [hml]; rfl) (argsL := [.int (k + j)]) (rest := []) (lenOf pd22 rfl) rfl rfl (Nat.le_of_eq rfl) (hb hby d26_12) (nle rfl) (nle rfl) ?_
  rintro T2 h2 _ _ _ X2 ⟨rfl, rfl, rfl, J2⟩
  rw [J2] at X2
  show Wo _ _ _ _ _ _ _ _ _ _ _ T2 (mkF m 15 #[.val (.ref x), .val (.int k), .val (.ref g), .val (.int j)] [.int ((ss ++ ts).getD (ss.length + i) 0)])
  refine P.aloadN X2 hx 16 (hb hby d26_15) rfl rfl rfl ?_
  refine P.iloadN X2 hx 17 (hb hby d26_16) rfl rfl ?_
  refine X2.callV hx (w160 cx) (w161 cx) (w163 cx) (w162 cx) (fun _ hZ => nf hZ (w163 cx)) (by decide) P1.1 (pay_chr (W := 1) (hch cx) (w2 cx) P1 (X2.sta (S_C cx)) (N_C cx) (X2.sta (S_F cx)) (R_F cx) (i := i) e0 hj (nle rfl) (nle rfl)) (by rw [hml]; rfl) (argsL := [.int j]) (rest := [.int ((ss ++ ts).getD (ss.length + i) 0)]) (lenOf pd22 rfl) rfl rfl (Nat.le_of_eq rfl) (hb hby d26_17) (nle rfl) (nle rfl) ?_
  rintro T3 h3 _ _ _ X3 ⟨rfl, rfl, rfl, J3⟩
  rw [J3] at X3
  show Wo _ _ _ _ _ _ _ _ _ _ _ T3 (mkF m 20 #[.val (.ref x), .val (.int k), .val (.ref g), .val (.int j)] [.int (ts.getD i 0), .int ((ss ++ ts).getD (ss.length + i) 0)])
  refine P.icmpNo X3 hx 23 (hb hby d26_20) (teq tlD).2 rfl ?_
  refine P.iconst X3 hx 24 1 (hb hby d26_23) rfl rfl ?_
  refine P.goto X3 hx 28 (hb hby d26_24) (by decide) (by decide) ?_
  exact WS.retN X3 (WL' := []) (FL' := []) hx (t := .boolean) hret (by simp) hlk (hb hby d26_28) (nle rfl) (nle rfl) ⟨rfl, rfl, rfl, rfl⟩
set_option maxRecDepth 65536 in
set_option maxHeartbeats 4000000 in
theorem ct_tail_1 {l : Launch} {Z : State} {a0 : Array Value} {gC : Int32} {gF : Value} (cx : Cx a0 Z gC gF) {n0 : Nat} (x : Addr) (xu : Addr) (g : Addr) (gu : Addr) (ss : List Int32) (ts : List Int32) (k : Int32) (i : Nat) (j : Int32) (h : Heap) (WL FL : List Addr) (P0 : StrL Z h x xu (ss ++ ts)) (P1 : StrL Z h g gu ts) (hk : k = Int32.ofNat ss.length) (hj : j = Int32.ofNat i) (hi : i ≤ 100) (hl : ts.length ≤ 100) (e0 : ¬ i < ts.length) :
    Ct l Z EL1 n0 (⟨"com/example/estate4/estate4/jdbc/SelectTextPagedPinLaw", "tail", "(Ljava/lang/String;ILjava/lang/String;I)Z"⟩ : MethodName) method_2_code 4 (Option.some Jvm.ClassFile.FieldType.boolean) ({ frames := 4, cells := 0, slots := 0, locals := 54 } : Room) #[(.ref x), (.int k), (.ref g), (.int j)] h WL FL (Q_tail Z gC gF x xu g gu ss ts k i j h) := by
  refine Ct.of (plainFor_of_name pn7) ?_
  intro p e s m below meth c s1 hx hby hml hnm hret hlk X0
  refine Wo.cast (f' := (mkF m 0 #[.val (.ref x), .val (.int k), .val (.ref g), .val (.int j)] [])) (by first | rfl | (simp [entryFrame, mkF, argsToLocals, Value.category]; done)) ?_
  show Wo _ _ _ _ _ _ _ _ _ _ _ s1 (mkF m 0 #[.val (.ref x), .val (.int k), .val (.ref g), .val (.int j)] [])
  refine P.iloadN X0 hx 1 (hb hby d26_0) rfl rfl ?_
  refine P.aloadN X0 hx 2 (hb hby d26_1) rfl rfl rfl ?_
  refine X0.callV hx (w134 cx) (w28 cx) (w30 cx) (w29 cx) (fun _ hZ => nf hZ (w30 cx)) (by decide) P1.1 (pay_len (W := 1) (hln cx) (w2 cx) P1 (X0.sta (S_C cx)) (N_C cx) (nle rfl) (nle rfl)) (by rw [hml]; rfl) (argsL := []) (rest := [.int j]) (lenOf pd7 rfl) rfl rfl (Nat.le_of_eq rfl) (hb hby d26_2) (nle rfl) (nle rfl) ?_
  rintro T1 h1 _ _ _ X1 ⟨rfl, rfl, rfl, J1⟩
  rw [J1] at X1
  show Wo _ _ _ _ _ _ _ _ _ _ _ T1 (mkF m 5 #[.val (.ref x), .val (.int k), .val (.ref g), .val (.int j)] [.int (Int32.ofNat ts.length), .int j])
  refine P.icmpYes X1 hx 23 (hb hby d26_5) (flt ((not_congr (jLt hj (by omega) (by omega))).mpr e0)).2.1 (by decide) (by decide) ?_
  refine P.iconst X1 hx 24 1 (hb hby d26_23) rfl rfl ?_
  refine P.goto X1 hx 28 (hb hby d26_24) (by decide) (by decide) ?_
  exact WS.retN X1 (WL' := []) (FL' := []) hx (t := .boolean) hret (by simp) hlk (hb hby d26_28) (nle rfl) (nle rfl) ⟨rfl, rfl, rfl, rfl⟩
set_option maxRecDepth 65536 in
theorem ct_tail {l : Launch} {Z : State} {a0 : Array Value} {gC : Int32} {gF : Value} (cx : Cx a0 Z gC gF) {n0 : Nat} (x : Addr) (xu : Addr) (g : Addr) (gu : Addr) (ss : List Int32) (ts : List Int32) (k : Int32) (i : Nat) (j : Int32) (h : Heap) (WL FL : List Addr) (P0 : StrL Z h x xu (ss ++ ts)) (P1 : StrL Z h g gu ts) (hk : k = Int32.ofNat ss.length) (hj : j = Int32.ofNat i) (hi : i ≤ 100) (hl : ts.length ≤ 100) :
    Ct l Z EL1 n0 (⟨"com/example/estate4/estate4/jdbc/SelectTextPagedPinLaw", "tail", "(Ljava/lang/String;ILjava/lang/String;I)Z"⟩ : MethodName) method_2_code 4 (Option.some Jvm.ClassFile.FieldType.boolean) ({ frames := 4, cells := 0, slots := 0, locals := 54 } : Room) #[(.ref x), (.int k), (.ref g), (.int j)] h WL FL (Q_tail Z gC gF x xu g gu ss ts k i j h) := by
  by_cases e0 : i < ts.length
  · exact ct_tail_0 cx x xu g gu ss ts k i j h WL FL P0 P1 hk hj hi hl e0
  · exact ct_tail_1 cx x xu g gu ss ts k i j h WL FL P0 P1 hk hj hi hl e0
def Q_quad (Z : State) (gC : Int32) (gF : Value) (x : Addr) (xu : Addr) (g : Addr) (gu : Addr) (ss : List Int32) (ts : List Int32) (k : Int32) (i : Nat) (j : Int32) (h : Heap) (v : Option Value) (h' : Heap) (WL' FL' : List Addr) : Prop := v = some (.int 1) ∧ WL' = [] ∧ FL' = [] ∧ h' = h
set_option maxRecDepth 65536 in
set_option maxHeartbeats 4000000 in
theorem ct_quad {l : Launch} {Z : State} {a0 : Array Value} {gC : Int32} {gF : Value} (cx : Cx a0 Z gC gF) {n0 : Nat} (x : Addr) (xu : Addr) (g : Addr) (gu : Addr) (ss : List Int32) (ts : List Int32) (k : Int32) (i : Nat) (j : Int32) (h : Heap) (WL FL : List Addr) (P0 : StrL Z h x xu (ss ++ ts)) (P1 : StrL Z h g gu ts) (hk : k = Int32.ofNat ss.length) (hj : j = Int32.ofNat i) (hi : i ≤ 90) (hl : ts.length ≤ 100) :
    Ct l Z EL1 n0 (⟨"com/example/estate4/estate4/jdbc/SelectTextPagedPinLaw", "quad", "(Ljava/lang/String;ILjava/lang/String;I)Z"⟩ : MethodName) method_3_code 4 (Option.some Jvm.ClassFile.FieldType.boolean) ({ frames := 5, cells := 0, slots := 0, locals := 69 } : Room) #[(.ref x), (.int k), (.ref g), (.int j)] h WL FL (Q_quad Z gC gF x xu g gu ss ts k i j h) := by
  refine Ct.of (plainFor_of_name pn7) ?_
  intro p e s m below meth c s1 hx hby hml hnm hret hlk X0
  refine Wo.cast (f' := (mkF m 0 #[.val (.ref x), .val (.int k), .val (.ref g), .val (.int j)] [])) (by first | rfl | (simp [entryFrame, mkF, argsToLocals, Value.category]; done)) ?_
  show Wo _ _ _ _ _ _ _ _ _ _ _ s1 (mkF m 0 #[.val (.ref x), .val (.int k), .val (.ref g), .val (.int j)] [])
  refine P.aloadN X0 hx 1 (hb hby d25_0) rfl rfl rfl ?_
  refine P.iloadN X0 hx 2 (hb hby d25_1) rfl rfl ?_
  refine P.aloadN X0 hx 3 (hb hby d25_2) rfl rfl rfl ?_
  refine P.iloadN X0 hx 4 (hb hby d25_3) rfl rfl ?_
  refine X0.callS hx (w139 cx) (w140 cx) (w137 cx) (w141 cx) (by decide) (Ct.pay (W := 0) (ct_tail cx x xu g gu ss ts k i j h _ _ P0 P1 hk hj (by omega) hl) (w141 cx) (w137 cx) (nle rfl) (nle rfl)) (by rw [hml]; rfl) (argsL := [.ref x, .int k, .ref g, .int j]) (rest := []) (lenOf pd23 rfl) rfl rfl (Nat.le_of_eq rfl) (hb hby d25_4) (nle rfl) (nle rfl) ?_
  rintro T1 h1 _ _ _ X1 ⟨rfl, rfl, rfl, J1⟩
  rw [J1] at X1
  refine P.ifNo X1 hx 10 (hb hby d25_7) (by decide) rfl ?_
  refine P.aloadN X1 hx 11 (hb hby d25_10) rfl rfl rfl ?_
  refine P.iloadN X1 hx 12 (hb hby d25_11) rfl rfl ?_
  refine P.aloadN X1 hx 13 (hb hby d25_12) rfl rfl rfl ?_
  refine P.iloadN X1 hx 14 (hb hby d25_13) rfl rfl ?_
  refine P.iconst X1 hx 15 1 (hb hby d25_14) rfl rfl ?_
  refine P.iadd X1 hx 16 (z := (j + (1 : Int32))) (hb hby d25_15) rfl rfl ?_
  refine X1.callS hx (w139 cx) (w140 cx) (w137 cx) (w141 cx) (by decide) (Ct.pay (W := 0) (ct_tail cx x xu g gu ss ts k (i + 1) (j + (1 : Int32)) h _ _ P0 P1 hk (by rw [hj]; exact oAd i 1) (by omega) hl) (w141 cx) (w137 cx) (nle rfl) (nle rfl)) (by rw [hml]; rfl) (argsL := [.ref x, .int k, .ref g, .int (j + (1 : Int32))]) (rest := []) (lenOf pd23 rfl) rfl rfl (Nat.le_of_eq rfl) (hb hby d25_16) (nle rfl) (nle rfl) ?_
  rintro T2 h2 _ _ _ X2 ⟨rfl, rfl, rfl, J2⟩
  rw [J2] at X2
  refine P.ifNo X2 hx 22 (hb hby d25_19) (by decide) rfl ?_
  refine P.aloadN X2 hx 23 (hb hby d25_22) rfl rfl rfl ?_
  refine P.iloadN X2 hx 24 (hb hby d25_23) rfl rfl ?_
  refine P.aloadN X2 hx 25 (hb hby d25_24) rfl rfl rfl ?_
  refine P.iloadN X2 hx 26 (hb hby d25_25) rfl rfl ?_
  refine P.iconst X2 hx 27 2 (hb hby d25_26) rfl rfl ?_
  refine P.iadd X2 hx 28 (z := (j + (2 : Int32))) (hb hby d25_27) rfl rfl ?_
  refine X2.callS hx (w139 cx) (w140 cx) (w137 cx) (w141 cx) (by decide) (Ct.pay (W := 0) (ct_tail cx x xu g gu ss ts k (i + 2) (j + (2 : Int32)) h _ _ P0 P1 hk (by rw [hj]; exact oAd i 2) (by omega) hl) (w141 cx) (w137 cx) (nle rfl) (nle rfl)) (by rw [hml]; rfl) (argsL := [.ref x, .int k, .ref g, .int (j + (2 : Int32))]) (rest := []) (lenOf pd23 rfl) rfl rfl (Nat.le_of_eq rfl) (hb hby d25_28) (nle rfl) (nle rfl) ?_
  rintro T3 h3 _ _ _ X3 ⟨rfl, rfl, rfl, J3⟩
  rw [J3] at X3
  refine P.ifNo X3 hx 34 (hb hby d25_31) (by decide) rfl ?_
  refine P.aloadN X3 hx 35 (hb hby d25_34) rfl rfl rfl ?_
  refine P.iloadN X3 hx 36 (hb hby d25_35) rfl rfl ?_
  refine P.aloadN X3 hx 37 (hb hby d25_36) rfl rfl rfl ?_
  refine P.iloadN X3 hx 38 (hb hby d25_37) rfl rfl ?_
  refine P.iconst X3 hx 39 3 (hb hby d25_38) rfl rfl ?_
  refine P.iadd X3 hx 40 (z := (j + (3 : Int32))) (hb hby d25_39) rfl rfl ?_
  refine X3.callS hx (w139 cx) (w140 cx) (w137 cx) (w141 cx) (by decide) (Ct.pay (W := 0) (ct_tail cx x xu g gu ss ts k (i + 3) (j + (3 : Int32)) h _ _ P0 P1 hk (by rw [hj]; exact oAd i 3) (by omega) hl) (w141 cx) (w137 cx) (nle rfl) (nle rfl)) (by rw [hml]; rfl) (argsL := [.ref x, .int k, .ref g, .int (j + (3 : Int32))]) (rest := []) (lenOf pd23 rfl) rfl rfl (Nat.le_of_eq rfl) (hb hby d25_40) (nle rfl) (nle rfl) ?_
  rintro T4 h4 _ _ _ X4 ⟨rfl, rfl, rfl, J4⟩
  rw [J4] at X4
  refine P.ifNo X4 hx 46 (hb hby d25_43) (by decide) rfl ?_
  refine P.iconst X4 hx 47 1 (hb hby d25_46) rfl rfl ?_
  refine P.goto X4 hx 51 (hb hby d25_47) (by decide) (by decide) ?_
  exact WS.retN X4 (WL' := []) (FL' := []) hx (t := .boolean) hret (by simp) hlk (hb hby d25_51) (nle rfl) (nle rfl) ⟨rfl, rfl, rfl, rfl⟩
def Q_law (Z : State) (gC : Int32) (gF : Value) (p0 : Int32) (p1 : Int32) (p2 : Int32) (p3 : Int32) (h : Heap) (v : Option Value) (h' : Heap) (WL' FL' : List Addr) : Prop := v = some (.int 1) ∧ WL' = [] ∧ FL' = [] ∧ Keep h h' []
set_option maxRecDepth 65536 in
set_option maxHeartbeats 4000000 in
theorem ct_law_000 {l : Launch} {Z : State} {a0 : Array Value} {gC : Int32} {gF : Value} (cx : Cx a0 Z gC gF) {n0 : Nat} (p0 : Int32) (p1 : Int32) (p2 : Int32) (p3 : Int32) (h : Heap) (WL FL : List Addr)  (en : (((p0.toUInt32 >>> ((2 : Int32) &&& 31).toUInt32).toInt32) &&& (3 : Int32)) = (0 : Int32)) (es : (p0 &&& (1 : Int32)) = (0 : Int32)) (el : (p0 &&& (2 : Int32)) = (0 : Int32)) :
    Ct l Z EL1 n0 x code maxLocals ret room_1 #[(.int p0), (.int p1), (.int p2), (.int p3)] h WL FL (Q_law Z gC gF p0 p1 p2 p3 h) := by
  refine Ct.of (plainFor_of_name pn7) ?_
  intro p e s m below meth c s1 hx hby hml hnm hret hlk X0
  refine Wo.cast (f' := (mkF m 0 #[.val (.int p0), .val (.int p1), .val (.int p2), .val (.int p3), .unset, .unset, .unset, .unset, .unset, .unset, .unset, .unset, .unset] [])) (by first | rfl | (simp [entryFrame, mkF, argsToLocals, Value.category]; done)) ?_
  have K0 : Keep h h [] := Keep.refl _ _
  show Wo _ _ _ _ _ _ _ _ _ _ _ s1 (mkF m 0 #[.val (.int p0), .val (.int p1), .val (.int p2), .val (.int p3), .unset, .unset, .unset, .unset, .unset, .unset, .unset, .unset, .unset] [])
  refine P.iloadN X0 hx 1 (hb hby at_0) rfl rfl ?_
  refine P.iconst X0 hx 2 1 (hb hby at_1) rfl rfl ?_
  refine P.iand X0 hx 3 (z := (p0 &&& (1 : Int32))) (hb hby at_2) rfl rfl ?_
  refine P.ifYes X0 hx 10 (hb hby at_3) ((if0 _ _).trans (teq es).1) (by decide) (by decide) ?_
  refine P.iconst X0 hx 11 0 (hb hby at_10) rfl rfl ?_
  refine P.istore X0 hx 13 #[.val (.int p0), .val (.int p1), .val (.int p2), .val (.int p3), .val (.int 0), .unset, .unset, .unset, .unset, .unset, .unset, .unset, .unset] (hb hby at_11) rfl rfl ?_
  refine P.iloadN X0 hx 14 (hb hby at_13) rfl rfl ?_
  refine P.iconst X0 hx 15 2 (hb hby at_14) rfl rfl ?_
  refine P.iand X0 hx 16 (z := (p0 &&& (2 : Int32))) (hb hby at_15) rfl rfl ?_
  refine P.ifYes X0 hx 23 (hb hby at_16) ((if0 _ _).trans (teq el).1) (by decide) (by decide) ?_
  refine P.iconst X0 hx 24 0 (hb hby at_23) rfl rfl ?_
  refine P.istore X0 hx 26 #[.val (.int p0), .val (.int p1), .val (.int p2), .val (.int p3), .val (.int 0), .val (.int 0), .unset, .unset, .unset, .unset, .unset, .unset, .unset] (hb hby at_24) rfl rfl ?_
  refine P.iloadN X0 hx 27 (hb hby at_26) rfl rfl ?_
  refine P.iconst X0 hx 28 2 (hb hby at_27) rfl rfl ?_
  refine P.iushr X0 hx 29 (z := ((p0.toUInt32 >>> ((2 : Int32) &&& 31).toUInt32).toInt32)) (hb hby at_28) rfl rfl ?_
  refine P.iconst X0 hx 30 3 (hb hby at_29) rfl rfl ?_
  refine P.iand X0 hx 31 (z := (0 : Int32)) (hb hby at_30) (by rw [en]) rfl ?_
  refine P.istore X0 hx 33 #[.val (.int p0), .val (.int p1), .val (.int p2), .val (.int p3), .val (.int 0), .val (.int 0), .val (.int 0), .unset, .unset, .unset, .unset, .unset, .unset] (hb hby at_31) rfl rfl ?_
  refine P.iloadN X0 hx 34 (hb hby at_33) rfl rfl ?_
  refine P.sipush X0 hx 37 255 (hb hby at_34) rfl rfl ?_
  refine P.iand X0 hx 38 (z := (p1 &&& (255 : Int32))) (hb hby at_37) rfl rfl ?_
  refine P.i2c X0 hx 39 (z := (p1 &&& (255 : Int32))) (hb hby at_38) (by rw [i2c_mask]) rfl ?_
  refine P.istore X0 hx 41 #[.val (.int p0), .val (.int p1), .val (.int p2), .val (.int p3), .val (.int 0), .val (.int 0), .val (.int 0), .val (.int (p1 &&& (255 : Int32))), .unset, .unset, .unset, .unset, .unset] (hb hby at_39) rfl rfl ?_
  refine P.iloadN X0 hx 42 (hb hby at_41) rfl rfl ?_
  refine P.sipush X0 hx 45 255 (hb hby at_42) rfl rfl ?_
  refine P.iand X0 hx 46 (z := (p2 &&& (255 : Int32))) (hb hby at_45) rfl rfl ?_
  refine P.i2c X0 hx 47 (z := (p2 &&& (255 : Int32))) (hb hby at_46) (by rw [i2c_mask]) rfl ?_
  refine P.istore X0 hx 49 #[.val (.int p0), .val (.int p1), .val (.int p2), .val (.int p3), .val (.int 0), .val (.int 0), .val (.int 0), .val (.int (p1 &&& (255 : Int32))), .val (.int (p2 &&& (255 : Int32))), .unset, .unset, .unset, .unset] (hb hby at_47) rfl rfl ?_
  refine P.iloadN X0 hx 50 (hb hby at_49) rfl rfl ?_
  refine P.sipush X0 hx 53 255 (hb hby at_50) rfl rfl ?_
  refine P.iand X0 hx 54 (z := (p3 &&& (255 : Int32))) (hb hby at_53) rfl rfl ?_
  refine P.i2c X0 hx 55 (z := (p3 &&& (255 : Int32))) (hb hby at_54) (by rw [i2c_mask]) rfl ?_
  refine P.istore X0 hx 57 #[.val (.int p0), .val (.int p1), .val (.int p2), .val (.int p3), .val (.int 0), .val (.int 0), .val (.int 0), .val (.int (p1 &&& (255 : Int32))), .val (.int (p2 &&& (255 : Int32))), .val (.int (p3 &&& (255 : Int32))), .unset, .unset, .unset] (hb hby at_55) rfl rfl ?_
  refine P.iload X0 hx 59 (hb hby at_57) rfl rfl ?_
  refine P.ifNo X0 hx 62 (hb hby at_59) (by decide) rfl ?_
  refine X0.ldc hx (w0 cx) (strAtoms cx) (by decide) (vs := []) (z := (0 : Int32)) ⟨by decide, by decide⟩ (by decide) rfl (hb hby at_62) (n := 0) (nle rfl) (nle rfl) (nle rfl) (nle rfl) ?_
  intro T1 h1 a1 b1 k1 X1 E1 A1 C1 V1 B1
  have K2 : Keep h h1 [] := K0.ext E1
  refine P.astore X1 hx 66 #[.val (.int p0), .val (.int p1), .val (.int p2), .val (.int p3), .val (.int 0), .val (.int 0), .val (.int 0), .val (.int (p1 &&& (255 : Int32))), .val (.int (p2 &&& (255 : Int32))), .val (.int (p3 &&& (255 : Int32))), .val (.ref a1), .unset, .unset] (hb hby at_64) rfl rfl rfl ?_
  refine P.goto X1 hx 143 (hb hby at_66) (by decide) (by decide) ?_
  have S3 : StrL Z h1 a1 b1 [] := ⟨A1, V1, C1, ⟨_, B1⟩, fc0, nle rfl⟩
  refine P.iload X1 hx 145 (hb hby at_143) rfl rfl ?_
  refine P.ifYes X1 hx 167 (hb hby at_145) (by decide) (by decide) (by decide) ?_
  refine P.iload X1 hx 169 (hb hby at_167) rfl rfl ?_
  refine P.ifYes X1 hx 179 (hb hby at_169) (by decide) (by decide) (by decide) ?_
  refine X1.ldc hx (w0 cx) (strAtoms cx) (by decide) (vs := []) (z := (0 : Int32)) ⟨by decide, by decide⟩ (by decide) rfl (hb hby at_179) (n := 0) (nle rfl) (nle rfl) (nle rfl) (nle rfl) ?_
  intro T4 h4 a4 b4 k4 X4 E4 A4 C4 V4 B4
  have K5 : Keep h h4 [] := K2.ext E4
  refine P.astore X4 hx 183 #[.val (.int p0), .val (.int p1), .val (.int p2), .val (.int p3), .val (.int 0), .val (.int 0), .val (.int 0), .val (.int (p1 &&& (255 : Int32))), .val (.int (p2 &&& (255 : Int32))), .val (.int (p3 &&& (255 : Int32))), .val (.ref a1), .val (.ref a4), .unset] (hb hby at_181) rfl rfl rfl ?_
  have S6 : StrL Z h4 a4 b4 [] := ⟨A4, V4, C4, ⟨_, B4⟩, (by decide), nle rfl⟩
  refine P.aload X4 hx 185 (hb hby at_183) rfl rfl rfl ?_
  refine P.iload X4 hx 187 (hb hby at_185) rfl rfl ?_
  refine P.iload X4 hx 189 (hb hby at_187) rfl rfl ?_
  have F7 : StrL Z h4 a1 b1 [] := (S3.ext E4)
  refine X4.callS hx (w8 cx) (w9 cx) (w10 cx) (w11 cx) (by decide) (Ct.pay (W := 0) (ct_pag00 cx a1 b1 ([]) h4 _ _ F7 (List.mem_of_getElem? (i := 2) rfl) (List.mem_of_getElem? (i := 3) rfl) (nle rfl)) (w11 cx) (w10 cx) (nle rfl) (nle rfl)) (by rw [hml]; rfl) (argsL := [.ref a1, .int 0, .int 0]) (rest := []) (lenOf pd24 rfl) rfl rfl (Nat.le_of_eq rfl) (hb hby at_189) (nle rfl) (nle rfl) ?_
  rintro T8 h8 _ _ _ X8 ⟨a9, a10, rfl, rfl, rfl, J8, g12, G11⟩
  have ge13 : h.size ≤ a9 := Nat.le_trans K5.1 g12
  have K14 : Keep h h8 [] := K5.trans J8 all0
  have S15 : StrL Z h8 a9 a10 [] := G11
  refine P.astore X8 hx 194 #[.val (.int p0), .val (.int p1), .val (.int p2), .val (.int p3), .val (.int 0), .val (.int 0), .val (.int 0), .val (.int (p1 &&& (255 : Int32))), .val (.int (p2 &&& (255 : Int32))), .val (.int (p3 &&& (255 : Int32))), .val (.ref a1), .val (.ref a4), .val (.ref a9)] (hb hby at_192) rfl rfl rfl ?_
  refine P.aload X8 hx 196 (hb hby at_194) rfl rfl rfl ?_
  refine P.ifnonnullYes X8 hx 201 (hb hby at_196) (by decide) (by decide) ?_
  refine P.aload X8 hx 203 (hb hby at_201) rfl rfl rfl ?_
  refine X8.callV hx (w134 cx) (w28 cx) (w30 cx) (w29 cx) (fun _ hZ => nf hZ (w30 cx)) (by decide) S15.1 (pay_len (W := 0) (hln cx) (w2 cx) S15 (X8.sta (S_C cx)) (N_C cx) (nle rfl) (nle rfl)) (by rw [hml]; rfl) (argsL := []) (rest := []) (lenOf pd7 rfl) rfl rfl (Nat.le_of_eq rfl) (hb hby at_203) (nle rfl) (nle rfl) ?_
  rintro T16 h16 _ _ _ X16 ⟨rfl, rfl, rfl, J16⟩
  rw [J16] at X16
  show Wo _ _ _ _ _ _ _ _ _ _ _ T16 (mkF m 206 #[.val (.int p0), .val (.int p1), .val (.int p2), .val (.int p3), .val (.int 0), .val (.int 0), .val (.int 0), .val (.int (p1 &&& (255 : Int32))), .val (.int (p2 &&& (255 : Int32))), .val (.int (p3 &&& (255 : Int32))), .val (.ref a1), .val (.ref a4), .val (.ref a9)] [.int 0])
  refine P.iload X16 hx 208 (hb hby at_206) rfl rfl ?_
  refine P.aload X16 hx 210 (hb hby at_208) rfl rfl rfl ?_
  have F17 : Exa Z h8 a4 "java/lang/String" := (S6.1.keep J8)
  have F18 : StrL Z h8 a4 b4 [] := (S6.keep J8 nin0 nin0)
  refine X16.callV hx (w134 cx) (w28 cx) (w30 cx) (w29 cx) (fun _ hZ => nf hZ (w30 cx)) (by decide) F17 (pay_len (W := 2) (hln cx) (w2 cx) F18 (X16.sta (S_C cx)) (N_C cx) (nle rfl) (nle rfl)) (by rw [hml]; rfl) (argsL := []) (rest := [.int 0, .int 0]) (lenOf pd7 rfl) rfl rfl (Nat.le_of_eq rfl) (hb hby at_210) (nle rfl) (nle rfl) ?_
  rintro T19 h19 _ _ _ X19 ⟨rfl, rfl, rfl, J19⟩
  rw [J19] at X19
  show Wo _ _ _ _ _ _ _ _ _ _ _ T19 (mkF m 213 #[.val (.int p0), .val (.int p1), .val (.int p2), .val (.int p3), .val (.int 0), .val (.int 0), .val (.int 0), .val (.int (p1 &&& (255 : Int32))), .val (.int (p2 &&& (255 : Int32))), .val (.int (p3 &&& (255 : Int32))), .val (.ref a1), .val (.ref a4), .val (.ref a9)] [.int 0, .int 0, .int 0])
  refine P.iadd X19 hx 214 (z := (0 : Int32)) (hb hby at_213) rfl rfl ?_
  refine P.icmpNo X19 hx 217 (hb hby at_214) (by decide) rfl ?_
  refine P.iload X19 hx 219 (hb hby at_217) rfl rfl ?_
  refine P.iconst X19 hx 220 1 (hb hby at_219) rfl rfl ?_
  refine P.icmpYes X19 hx 234 (hb hby at_220) (by decide) (by decide) (by decide) ?_
  refine P.iload X19 hx 236 (hb hby at_234) rfl rfl ?_
  refine P.iconst X19 hx 237 2 (hb hby at_236) rfl rfl ?_
  refine P.icmpYes X19 hx 251 (hb hby at_237) (by decide) (by decide) (by decide) ?_
  refine P.iload X19 hx 253 (hb hby at_251) rfl rfl ?_
  refine P.iconst X19 hx 254 3 (hb hby at_253) rfl rfl ?_
  refine P.icmpYes X19 hx 268 (hb hby at_254) (by decide) (by decide) (by decide) ?_
  refine P.aload X19 hx 270 (hb hby at_268) rfl rfl rfl ?_
  refine P.iload X19 hx 272 (hb hby at_270) rfl rfl ?_
  refine P.aload X19 hx 274 (hb hby at_272) rfl rfl rfl ?_
  refine P.iconst X19 hx 275 0 (hb hby at_274) rfl rfl ?_
  refine X19.callS hx (w135 cx) (w136 cx) (w137 cx) (w138 cx) (by decide) (Ct.pay (W := 0) (ct_quad cx a9 a10 a4 b4 ([]) ([]) (0 : Int32) 0 (0 : Int32) h8 _ _ S15 F18 rfl rfl (nle rfl) (nle rfl)) (w138 cx) (w137 cx) (nle rfl) (nle rfl)) (by rw [hml]; rfl) (argsL := [.ref a9, .int 0, .ref a4, .int 0]) (rest := []) (lenOf pd23 rfl) rfl rfl (Nat.le_of_eq rfl) (hb hby at_275) (nle rfl) (nle rfl) ?_
  rintro T20 h20 _ _ _ X20 ⟨rfl, rfl, rfl, J20⟩
  rw [J20] at X20
  refine P.ifNo X20 hx 281 (hb hby at_278) (by decide) rfl ?_
  refine P.aload X20 hx 283 (hb hby at_281) rfl rfl rfl ?_
  refine P.iload X20 hx 285 (hb hby at_283) rfl rfl ?_
  refine P.aload X20 hx 287 (hb hby at_285) rfl rfl rfl ?_
  refine P.iconst X20 hx 288 4 (hb hby at_287) rfl rfl ?_
  refine X20.callS hx (w135 cx) (w136 cx) (w137 cx) (w138 cx) (by decide) (Ct.pay (W := 0) (ct_quad cx a9 a10 a4 b4 ([]) ([]) (0 : Int32) 4 (4 : Int32) h8 _ _ S15 F18 rfl rfl (nle rfl) (nle rfl)) (w138 cx) (w137 cx) (nle rfl) (nle rfl)) (by rw [hml]; rfl) (argsL := [.ref a9, .int 0, .ref a4, .int 4]) (rest := []) (lenOf pd23 rfl) rfl rfl (Nat.le_of_eq rfl) (hb hby at_288) (nle rfl) (nle rfl) ?_
  rintro T21 h21 _ _ _ X21 ⟨rfl, rfl, rfl, J21⟩
  rw [J21] at X21
  refine P.ifNo X21 hx 294 (hb hby at_291) (by decide) rfl ?_
  refine P.aload X21 hx 296 (hb hby at_294) rfl rfl rfl ?_
  refine P.iload X21 hx 298 (hb hby at_296) rfl rfl ?_
  refine P.aload X21 hx 300 (hb hby at_298) rfl rfl rfl ?_
  refine P.bipush X21 hx 302 8 (hb hby at_300) rfl rfl ?_
  refine X21.callS hx (w135 cx) (w136 cx) (w137 cx) (w138 cx) (by decide) (Ct.pay (W := 0) (ct_quad cx a9 a10 a4 b4 ([]) ([]) (0 : Int32) 8 (8 : Int32) h8 _ _ S15 F18 rfl rfl (nle rfl) (nle rfl)) (w138 cx) (w137 cx) (nle rfl) (nle rfl)) (by rw [hml]; rfl) (argsL := [.ref a9, .int 0, .ref a4, .int 8]) (rest := []) (lenOf pd23 rfl) rfl rfl (Nat.le_of_eq rfl) (hb hby at_302) (nle rfl) (nle rfl) ?_
  rintro T22 h22 _ _ _ X22 ⟨rfl, rfl, rfl, J22⟩
  rw [J22] at X22
  refine P.ifNo X22 hx 308 (hb hby at_305) (by decide) rfl ?_
  refine P.aload X22 hx 310 (hb hby at_308) rfl rfl rfl ?_
  refine P.iload X22 hx 312 (hb hby at_310) rfl rfl ?_
  refine P.aload X22 hx 314 (hb hby at_312) rfl rfl rfl ?_
  refine P.bipush X22 hx 316 12 (hb hby at_314) rfl rfl ?_
  refine X22.callS hx (w135 cx) (w136 cx) (w137 cx) (w138 cx) (by decide) (Ct.pay (W := 0) (ct_quad cx a9 a10 a4 b4 ([]) ([]) (0 : Int32) 12 (12 : Int32) h8 _ _ S15 F18 rfl rfl (nle rfl) (nle rfl)) (w138 cx) (w137 cx) (nle rfl) (nle rfl)) (by rw [hml]; rfl) (argsL := [.ref a9, .int 0, .ref a4, .int 12]) (rest := []) (lenOf pd23 rfl) rfl rfl (Nat.le_of_eq rfl) (hb hby at_316) (nle rfl) (nle rfl) ?_
  rintro T23 h23 _ _ _ X23 ⟨rfl, rfl, rfl, J23⟩
  rw [J23] at X23
  refine P.ifNo X23 hx 322 (hb hby at_319) (by decide) rfl ?_
  refine P.aload X23 hx 324 (hb hby at_322) rfl rfl rfl ?_
  refine P.iload X23 hx 326 (hb hby at_324) rfl rfl ?_
  refine P.aload X23 hx 328 (hb hby at_326) rfl rfl rfl ?_
  refine P.bipush X23 hx 330 16 (hb hby at_328) rfl rfl ?_
  refine X23.callS hx (w135 cx) (w136 cx) (w137 cx) (w138 cx) (by decide) (Ct.pay (W := 0) (ct_quad cx a9 a10 a4 b4 ([]) ([]) (0 : Int32) 16 (16 : Int32) h8 _ _ S15 F18 rfl rfl (nle rfl) (nle rfl)) (w138 cx) (w137 cx) (nle rfl) (nle rfl)) (by rw [hml]; rfl) (argsL := [.ref a9, .int 0, .ref a4, .int 16]) (rest := []) (lenOf pd23 rfl) rfl rfl (Nat.le_of_eq rfl) (hb hby at_330) (nle rfl) (nle rfl) ?_
  rintro T24 h24 _ _ _ X24 ⟨rfl, rfl, rfl, J24⟩
  rw [J24] at X24
  refine P.ifNo X24 hx 336 (hb hby at_333) (by decide) rfl ?_
  refine P.aload X24 hx 338 (hb hby at_336) rfl rfl rfl ?_
  refine P.iload X24 hx 340 (hb hby at_338) rfl rfl ?_
  refine P.aload X24 hx 342 (hb hby at_340) rfl rfl rfl ?_
  refine P.bipush X24 hx 344 20 (hb hby at_342) rfl rfl ?_
  refine X24.callS hx (w135 cx) (w136 cx) (w137 cx) (w138 cx) (by decide) (Ct.pay (W := 0) (ct_quad cx a9 a10 a4 b4 ([]) ([]) (0 : Int32) 20 (20 : Int32) h8 _ _ S15 F18 rfl rfl (nle rfl) (nle rfl)) (w138 cx) (w137 cx) (nle rfl) (nle rfl)) (by rw [hml]; rfl) (argsL := [.ref a9, .int 0, .ref a4, .int 20]) (rest := []) (lenOf pd23 rfl) rfl rfl (Nat.le_of_eq rfl) (hb hby at_344) (nle rfl) (nle rfl) ?_
  rintro T25 h25 _ _ _ X25 ⟨rfl, rfl, rfl, J25⟩
  rw [J25] at X25
  refine P.ifNo X25 hx 350 (hb hby at_347) (by decide) rfl ?_
  refine P.aload X25 hx 352 (hb hby at_350) rfl rfl rfl ?_
  refine P.iload X25 hx 354 (hb hby at_352) rfl rfl ?_
  refine P.aload X25 hx 356 (hb hby at_354) rfl rfl rfl ?_
  refine P.bipush X25 hx 358 24 (hb hby at_356) rfl rfl ?_
  refine X25.callS hx (w135 cx) (w136 cx) (w137 cx) (w138 cx) (by decide) (Ct.pay (W := 0) (ct_quad cx a9 a10 a4 b4 ([]) ([]) (0 : Int32) 24 (24 : Int32) h8 _ _ S15 F18 rfl rfl (nle rfl) (nle rfl)) (w138 cx) (w137 cx) (nle rfl) (nle rfl)) (by rw [hml]; rfl) (argsL := [.ref a9, .int 0, .ref a4, .int 24]) (rest := []) (lenOf pd23 rfl) rfl rfl (Nat.le_of_eq rfl) (hb hby at_358) (nle rfl) (nle rfl) ?_
  rintro T26 h26 _ _ _ X26 ⟨rfl, rfl, rfl, J26⟩
  rw [J26] at X26
  refine P.ifNo X26 hx 364 (hb hby at_361) (by decide) rfl ?_
  refine P.aload X26 hx 366 (hb hby at_364) rfl rfl rfl ?_
  refine P.iload X26 hx 368 (hb hby at_366) rfl rfl ?_
  refine P.aload X26 hx 370 (hb hby at_368) rfl rfl rfl ?_
  refine P.bipush X26 hx 372 28 (hb hby at_370) rfl rfl ?_
  refine X26.callS hx (w135 cx) (w136 cx) (w137 cx) (w138 cx) (by decide) (Ct.pay (W := 0) (ct_quad cx a9 a10 a4 b4 ([]) ([]) (0 : Int32) 28 (28 : Int32) h8 _ _ S15 F18 rfl rfl (nle rfl) (nle rfl)) (w138 cx) (w137 cx) (nle rfl) (nle rfl)) (by rw [hml]; rfl) (argsL := [.ref a9, .int 0, .ref a4, .int 28]) (rest := []) (lenOf pd23 rfl) rfl rfl (Nat.le_of_eq rfl) (hb hby at_372) (nle rfl) (nle rfl) ?_
  rintro T27 h27 _ _ _ X27 ⟨rfl, rfl, rfl, J27⟩
  rw [J27] at X27
  refine P.ifNo X27 hx 378 (hb hby at_375) (by decide) rfl ?_
  refine P.aload X27 hx 380 (hb hby at_378) rfl rfl rfl ?_
  refine P.iload X27 hx 382 (hb hby at_380) rfl rfl ?_
  refine P.aload X27 hx 384 (hb hby at_382) rfl rfl rfl ?_
  refine P.bipush X27 hx 386 32 (hb hby at_384) rfl rfl ?_
  refine X27.callS hx (w135 cx) (w136 cx) (w137 cx) (w138 cx) (by decide) (Ct.pay (W := 0) (ct_quad cx a9 a10 a4 b4 ([]) ([]) (0 : Int32) 32 (32 : Int32) h8 _ _ S15 F18 rfl rfl (nle rfl) (nle rfl)) (w138 cx) (w137 cx) (nle rfl) (nle rfl)) (by rw [hml]; rfl) (argsL := [.ref a9, .int 0, .ref a4, .int 32]) (rest := []) (lenOf pd23 rfl) rfl rfl (Nat.le_of_eq rfl) (hb hby at_386) (nle rfl) (nle rfl) ?_
  rintro T28 h28 _ _ _ X28 ⟨rfl, rfl, rfl, J28⟩
  rw [J28] at X28
  refine P.ifNo X28 hx 392 (hb hby at_389) (by decide) rfl ?_
  refine P.aload X28 hx 394 (hb hby at_392) rfl rfl rfl ?_
  refine P.iload X28 hx 396 (hb hby at_394) rfl rfl ?_
  refine P.aload X28 hx 398 (hb hby at_396) rfl rfl rfl ?_
  refine P.bipush X28 hx 400 36 (hb hby at_398) rfl rfl ?_
  refine X28.callS hx (w135 cx) (w136 cx) (w137 cx) (w138 cx) (by decide) (Ct.pay (W := 0) (ct_quad cx a9 a10 a4 b4 ([]) ([]) (0 : Int32) 36 (36 : Int32) h8 _ _ S15 F18 rfl rfl (nle rfl) (nle rfl)) (w138 cx) (w137 cx) (nle rfl) (nle rfl)) (by rw [hml]; rfl) (argsL := [.ref a9, .int 0, .ref a4, .int 36]) (rest := []) (lenOf pd23 rfl) rfl rfl (Nat.le_of_eq rfl) (hb hby at_400) (nle rfl) (nle rfl) ?_
  rintro T29 h29 _ _ _ X29 ⟨rfl, rfl, rfl, J29⟩
  rw [J29] at X29
  refine P.ifNo X29 hx 406 (hb hby at_403) (by decide) rfl ?_
  refine P.iconst X29 hx 407 1 (hb hby at_406) rfl rfl ?_
  refine P.goto X29 hx 411 (hb hby at_407) (by decide) (by decide) ?_
  have X30 := WS.drop (A := []) (B := WL) X29
  have X31 := WS.fl (FL2 := FL) X30 (fun y hy => (List.mem_append_right [a9, a10, a4, b4, a1, b1] hy))
  exact WS.retN X31 (WL' := []) (FL' := []) hx (t := .boolean) hret (by simp) hlk (hb hby at_411) (nle rfl) (nle rfl) ⟨rfl, rfl, rfl, K14⟩
set_option maxRecDepth 65536 in
set_option maxHeartbeats 4000000 in
theorem ct_law_001 {l : Launch} {Z : State} {a0 : Array Value} {gC : Int32} {gF : Value} (cx : Cx a0 Z gC gF) {n0 : Nat} (p0 : Int32) (p1 : Int32) (p2 : Int32) (p3 : Int32) (h : Heap) (WL FL : List Addr)  (en : (((p0.toUInt32 >>> ((2 : Int32) &&& 31).toUInt32).toInt32) &&& (3 : Int32)) = (0 : Int32)) (es : (p0 &&& (1 : Int32)) = (0 : Int32)) (el : ¬ (p0 &&& (2 : Int32)) = (0 : Int32)) :
    Ct l Z EL1 n0 x code maxLocals ret room_1 #[(.int p0), (.int p1), (.int p2), (.int p3)] h WL FL (Q_law Z gC gF p0 p1 p2 p3 h) := by
  refine Ct.of (plainFor_of_name pn7) ?_
  intro p e s m below meth c s1 hx hby hml hnm hret hlk X0
  refine Wo.cast (f' := (mkF m 0 #[.val (.int p0), .val (.int p1), .val (.int p2), .val (.int p3), .unset, .unset, .unset, .unset, .unset, .unset, .unset, .unset, .unset] [])) (by first | rfl | (simp [entryFrame, mkF, argsToLocals, Value.category]; done)) ?_
  have K0 : Keep h h [] := Keep.refl _ _
  show Wo _ _ _ _ _ _ _ _ _ _ _ s1 (mkF m 0 #[.val (.int p0), .val (.int p1), .val (.int p2), .val (.int p3), .unset, .unset, .unset, .unset, .unset, .unset, .unset, .unset, .unset] [])
  refine P.iloadN X0 hx 1 (hb hby at_0) rfl rfl ?_
  refine P.iconst X0 hx 2 1 (hb hby at_1) rfl rfl ?_
  refine P.iand X0 hx 3 (z := (p0 &&& (1 : Int32))) (hb hby at_2) rfl rfl ?_
  refine P.ifYes X0 hx 10 (hb hby at_3) ((if0 _ _).trans (teq es).1) (by decide) (by decide) ?_
  refine P.iconst X0 hx 11 0 (hb hby at_10) rfl rfl ?_
  refine P.istore X0 hx 13 #[.val (.int p0), .val (.int p1), .val (.int p2), .val (.int p3), .val (.int 0), .unset, .unset, .unset, .unset, .unset, .unset, .unset, .unset] (hb hby at_11) rfl rfl ?_
  refine P.iloadN X0 hx 14 (hb hby at_13) rfl rfl ?_
  refine P.iconst X0 hx 15 2 (hb hby at_14) rfl rfl ?_
  refine P.iand X0 hx 16 (z := (p0 &&& (2 : Int32))) (hb hby at_15) rfl rfl ?_
  refine P.ifNo X0 hx 19 (hb hby at_16) ((if0 _ _).trans (feq el).1) rfl ?_
  refine P.iconst X0 hx 20 1 (hb hby at_19) rfl rfl ?_
  refine P.goto X0 hx 24 (hb hby at_20) (by decide) (by decide) ?_
  refine P.istore X0 hx 26 #[.val (.int p0), .val (.int p1), .val (.int p2), .val (.int p3), .val (.int 0), .val (.int 1), .unset, .unset, .unset, .unset, .unset, .unset, .unset] (hb hby at_24) rfl rfl ?_
  refine P.iloadN X0 hx 27 (hb hby at_26) rfl rfl ?_
  refine P.iconst X0 hx 28 2 (hb hby at_27) rfl rfl ?_
  refine P.iushr X0 hx 29 (z := ((p0.toUInt32 >>> ((2 : Int32) &&& 31).toUInt32).toInt32)) (hb hby at_28) rfl rfl ?_
  refine P.iconst X0 hx 30 3 (hb hby at_29) rfl rfl ?_
  refine P.iand X0 hx 31 (z := (0 : Int32)) (hb hby at_30) (by rw [en]) rfl ?_
  refine P.istore X0 hx 33 #[.val (.int p0), .val (.int p1), .val (.int p2), .val (.int p3), .val (.int 0), .val (.int 1), .val (.int 0), .unset, .unset, .unset, .unset, .unset, .unset] (hb hby at_31) rfl rfl ?_
  refine P.iloadN X0 hx 34 (hb hby at_33) rfl rfl ?_
  refine P.sipush X0 hx 37 255 (hb hby at_34) rfl rfl ?_
  refine P.iand X0 hx 38 (z := (p1 &&& (255 : Int32))) (hb hby at_37) rfl rfl ?_
  refine P.i2c X0 hx 39 (z := (p1 &&& (255 : Int32))) (hb hby at_38) (by rw [i2c_mask]) rfl ?_
  refine P.istore X0 hx 41 #[.val (.int p0), .val (.int p1), .val (.int p2), .val (.int p3), .val (.int 0), .val (.int 1), .val (.int 0), .val (.int (p1 &&& (255 : Int32))), .unset, .unset, .unset, .unset, .unset] (hb hby at_39) rfl rfl ?_
  refine P.iloadN X0 hx 42 (hb hby at_41) rfl rfl ?_
  refine P.sipush X0 hx 45 255 (hb hby at_42) rfl rfl ?_
  refine P.iand X0 hx 46 (z := (p2 &&& (255 : Int32))) (hb hby at_45) rfl rfl ?_
  refine P.i2c X0 hx 47 (z := (p2 &&& (255 : Int32))) (hb hby at_46) (by rw [i2c_mask]) rfl ?_
  refine P.istore X0 hx 49 #[.val (.int p0), .val (.int p1), .val (.int p2), .val (.int p3), .val (.int 0), .val (.int 1), .val (.int 0), .val (.int (p1 &&& (255 : Int32))), .val (.int (p2 &&& (255 : Int32))), .unset, .unset, .unset, .unset] (hb hby at_47) rfl rfl ?_
  refine P.iloadN X0 hx 50 (hb hby at_49) rfl rfl ?_
  refine P.sipush X0 hx 53 255 (hb hby at_50) rfl rfl ?_
  refine P.iand X0 hx 54 (z := (p3 &&& (255 : Int32))) (hb hby at_53) rfl rfl ?_
  refine P.i2c X0 hx 55 (z := (p3 &&& (255 : Int32))) (hb hby at_54) (by rw [i2c_mask]) rfl ?_
  refine P.istore X0 hx 57 #[.val (.int p0), .val (.int p1), .val (.int p2), .val (.int p3), .val (.int 0), .val (.int 1), .val (.int 0), .val (.int (p1 &&& (255 : Int32))), .val (.int (p2 &&& (255 : Int32))), .val (.int (p3 &&& (255 : Int32))), .unset, .unset, .unset] (hb hby at_55) rfl rfl ?_
  refine P.iload X0 hx 59 (hb hby at_57) rfl rfl ?_
  refine P.ifNo X0 hx 62 (hb hby at_59) (by decide) rfl ?_
  refine X0.ldc hx (w0 cx) (strAtoms cx) (by decide) (vs := []) (z := (0 : Int32)) ⟨by decide, by decide⟩ (by decide) rfl (hb hby at_62) (n := 0) (nle rfl) (nle rfl) (nle rfl) (nle rfl) ?_
  intro T1 h1 a1 b1 k1 X1 E1 A1 C1 V1 B1
  have K2 : Keep h h1 [] := K0.ext E1
  refine P.astore X1 hx 66 #[.val (.int p0), .val (.int p1), .val (.int p2), .val (.int p3), .val (.int 0), .val (.int 1), .val (.int 0), .val (.int (p1 &&& (255 : Int32))), .val (.int (p2 &&& (255 : Int32))), .val (.int (p3 &&& (255 : Int32))), .val (.ref a1), .unset, .unset] (hb hby at_64) rfl rfl rfl ?_
  refine P.goto X1 hx 143 (hb hby at_66) (by decide) (by decide) ?_
  have S3 : StrL Z h1 a1 b1 [] := ⟨A1, V1, C1, ⟨_, B1⟩, fc0, nle rfl⟩
  refine P.iload X1 hx 145 (hb hby at_143) rfl rfl ?_
  refine P.ifYes X1 hx 167 (hb hby at_145) (by decide) (by decide) (by decide) ?_
  refine P.iload X1 hx 169 (hb hby at_167) rfl rfl ?_
  refine P.ifNo X1 hx 172 (hb hby at_169) (by decide) rfl ?_
  refine X1.ldc hx (w212 cx) (strAtoms cx) (by decide) (vs := [(.int 32), (.int 102), (.int 101), (.int 116), (.int 99), (.int 104), (.int 32), (.int 102), (.int 105), (.int 114), (.int 115), (.int 116), (.int 32), (.int 63), (.int 32), (.int 114), (.int 111), (.int 119), (.int 115), (.int 32), (.int 111), (.int 110), (.int 108), (.int 121)]) (z := (24 : Int32)) ⟨by decide, by decide⟩ (by decide) rfl (hb hby at_172) (n := 96) (nle rfl) (nle rfl) (nle rfl) (nle rfl) ?_
  intro T4 h4 a4 b4 k4 X4 E4 A4 C4 V4 B4
  have K5 : Keep h h4 [] := K2.ext E4
  refine P.astore X4 hx 176 #[.val (.int p0), .val (.int p1), .val (.int p2), .val (.int p3), .val (.int 0), .val (.int 1), .val (.int 0), .val (.int (p1 &&& (255 : Int32))), .val (.int (p2 &&& (255 : Int32))), .val (.int (p3 &&& (255 : Int32))), .val (.ref a1), .val (.ref a4), .unset] (hb hby at_174) rfl rfl rfl ?_
  refine P.goto X4 hx 183 (hb hby at_176) (by decide) (by decide) ?_
  have S6 : StrL Z h4 a4 b4 [(32 : Int32), 102, 101, 116, 99, 104, 32, 102, 105, 114, 115, 116, 32, 63, 32, 114, 111, 119, 115, 32, 111, 110, 108, 121] := ⟨A4, V4, C4, ⟨_, B4⟩, (by decide), nle rfl⟩
  refine P.aload X4 hx 185 (hb hby at_183) rfl rfl rfl ?_
  refine P.iload X4 hx 187 (hb hby at_185) rfl rfl ?_
  refine P.iload X4 hx 189 (hb hby at_187) rfl rfl ?_
  have F7 : StrL Z h4 a1 b1 [] := (S3.ext E4)
  refine X4.callS hx (w8 cx) (w9 cx) (w10 cx) (w11 cx) (by decide) (Ct.pay (W := 0) (ct_pag01 cx a1 b1 ([]) h4 _ _ F7 (List.mem_of_getElem? (i := 2) rfl) (List.mem_of_getElem? (i := 3) rfl) (nle rfl)) (w11 cx) (w10 cx) (nle rfl) (nle rfl)) (by rw [hml]; rfl) (argsL := [.ref a1, .int 0, .int 1]) (rest := []) (lenOf pd24 rfl) rfl rfl (Nat.le_of_eq rfl) (hb hby at_189) (nle rfl) (nle rfl) ?_
  rintro T8 h8 _ _ _ X8 ⟨a9, a10, rfl, rfl, rfl, J8, g12, G11⟩
  have ge13 : h.size ≤ a9 := Nat.le_trans K5.1 g12
  have K14 : Keep h h8 [] := K5.trans J8 all0
  have S15 : StrL Z h8 a9 a10 [(32 : Int32), 102, 101, 116, 99, 104, 32, 102, 105, 114, 115, 116, 32, 63, 32, 114, 111, 119, 115, 32, 111, 110, 108, 121] := G11
  refine P.astore X8 hx 194 #[.val (.int p0), .val (.int p1), .val (.int p2), .val (.int p3), .val (.int 0), .val (.int 1), .val (.int 0), .val (.int (p1 &&& (255 : Int32))), .val (.int (p2 &&& (255 : Int32))), .val (.int (p3 &&& (255 : Int32))), .val (.ref a1), .val (.ref a4), .val (.ref a9)] (hb hby at_192) rfl rfl rfl ?_
  refine P.aload X8 hx 196 (hb hby at_194) rfl rfl rfl ?_
  refine P.ifnonnullYes X8 hx 201 (hb hby at_196) (by decide) (by decide) ?_
  refine P.aload X8 hx 203 (hb hby at_201) rfl rfl rfl ?_
  refine X8.callV hx (w134 cx) (w28 cx) (w30 cx) (w29 cx) (fun _ hZ => nf hZ (w30 cx)) (by decide) S15.1 (pay_len (W := 0) (hln cx) (w2 cx) S15 (X8.sta (S_C cx)) (N_C cx) (nle rfl) (nle rfl)) (by rw [hml]; rfl) (argsL := []) (rest := []) (lenOf pd7 rfl) rfl rfl (Nat.le_of_eq rfl) (hb hby at_203) (nle rfl) (nle rfl) ?_
  rintro T16 h16 _ _ _ X16 ⟨rfl, rfl, rfl, J16⟩
  rw [J16] at X16
  show Wo _ _ _ _ _ _ _ _ _ _ _ T16 (mkF m 206 #[.val (.int p0), .val (.int p1), .val (.int p2), .val (.int p3), .val (.int 0), .val (.int 1), .val (.int 0), .val (.int (p1 &&& (255 : Int32))), .val (.int (p2 &&& (255 : Int32))), .val (.int (p3 &&& (255 : Int32))), .val (.ref a1), .val (.ref a4), .val (.ref a9)] [.int 24])
  refine P.iload X16 hx 208 (hb hby at_206) rfl rfl ?_
  refine P.aload X16 hx 210 (hb hby at_208) rfl rfl rfl ?_
  have F17 : Exa Z h8 a4 "java/lang/String" := (S6.1.keep J8)
  have F18 : StrL Z h8 a4 b4 [(32 : Int32), 102, 101, 116, 99, 104, 32, 102, 105, 114, 115, 116, 32, 63, 32, 114, 111, 119, 115, 32, 111, 110, 108, 121] := (S6.keep J8 nin0 nin0)
  refine X16.callV hx (w134 cx) (w28 cx) (w30 cx) (w29 cx) (fun _ hZ => nf hZ (w30 cx)) (by decide) F17 (pay_len (W := 2) (hln cx) (w2 cx) F18 (X16.sta (S_C cx)) (N_C cx) (nle rfl) (nle rfl)) (by rw [hml]; rfl) (argsL := []) (rest := [.int 0, .int 24]) (lenOf pd7 rfl) rfl rfl (Nat.le_of_eq rfl) (hb hby at_210) (nle rfl) (nle rfl) ?_
  rintro T19 h19 _ _ _ X19 ⟨rfl, rfl, rfl, J19⟩
  rw [J19] at X19
  show Wo _ _ _ _ _ _ _ _ _ _ _ T19 (mkF m 213 #[.val (.int p0), .val (.int p1), .val (.int p2), .val (.int p3), .val (.int 0), .val (.int 1), .val (.int 0), .val (.int (p1 &&& (255 : Int32))), .val (.int (p2 &&& (255 : Int32))), .val (.int (p3 &&& (255 : Int32))), .val (.ref a1), .val (.ref a4), .val (.ref a9)] [.int 24, .int 0, .int 24])
  refine P.iadd X19 hx 214 (z := (24 : Int32)) (hb hby at_213) rfl rfl ?_
  refine P.icmpNo X19 hx 217 (hb hby at_214) (by decide) rfl ?_
  refine P.iload X19 hx 219 (hb hby at_217) rfl rfl ?_
  refine P.iconst X19 hx 220 1 (hb hby at_219) rfl rfl ?_
  refine P.icmpYes X19 hx 234 (hb hby at_220) (by decide) (by decide) (by decide) ?_
  refine P.iload X19 hx 236 (hb hby at_234) rfl rfl ?_
  refine P.iconst X19 hx 237 2 (hb hby at_236) rfl rfl ?_
  refine P.icmpYes X19 hx 251 (hb hby at_237) (by decide) (by decide) (by decide) ?_
  refine P.iload X19 hx 253 (hb hby at_251) rfl rfl ?_
  refine P.iconst X19 hx 254 3 (hb hby at_253) rfl rfl ?_
  refine P.icmpYes X19 hx 268 (hb hby at_254) (by decide) (by decide) (by decide) ?_
  refine P.aload X19 hx 270 (hb hby at_268) rfl rfl rfl ?_
  refine P.iload X19 hx 272 (hb hby at_270) rfl rfl ?_
  refine P.aload X19 hx 274 (hb hby at_272) rfl rfl rfl ?_
  refine P.iconst X19 hx 275 0 (hb hby at_274) rfl rfl ?_
  refine X19.callS hx (w135 cx) (w136 cx) (w137 cx) (w138 cx) (by decide) (Ct.pay (W := 0) (ct_quad cx a9 a10 a4 b4 ([]) ([(32 : Int32), 102, 101, 116, 99, 104, 32, 102, 105, 114, 115, 116, 32, 63, 32, 114, 111, 119, 115, 32, 111, 110, 108, 121]) (0 : Int32) 0 (0 : Int32) h8 _ _ S15 F18 rfl rfl (nle rfl) (nle rfl)) (w138 cx) (w137 cx) (nle rfl) (nle rfl)) (by rw [hml]; rfl) (argsL := [.ref a9, .int 0, .ref a4, .int 0]) (rest := []) (lenOf pd23 rfl) rfl rfl (Nat.le_of_eq rfl) (hb hby at_275) (nle rfl) (nle rfl) ?_
  rintro T20 h20 _ _ _ X20 ⟨rfl, rfl, rfl, J20⟩
  rw [J20] at X20
  refine P.ifNo X20 hx 281 (hb hby at_278) (by decide) rfl ?_
  refine P.aload X20 hx 283 (hb hby at_281) rfl rfl rfl ?_
  refine P.iload X20 hx 285 (hb hby at_283) rfl rfl ?_
  refine P.aload X20 hx 287 (hb hby at_285) rfl rfl rfl ?_
  refine P.iconst X20 hx 288 4 (hb hby at_287) rfl rfl ?_
  refine X20.callS hx (w135 cx) (w136 cx) (w137 cx) (w138 cx) (by decide) (Ct.pay (W := 0) (ct_quad cx a9 a10 a4 b4 ([]) ([(32 : Int32), 102, 101, 116, 99, 104, 32, 102, 105, 114, 115, 116, 32, 63, 32, 114, 111, 119, 115, 32, 111, 110, 108, 121]) (0 : Int32) 4 (4 : Int32) h8 _ _ S15 F18 rfl rfl (nle rfl) (nle rfl)) (w138 cx) (w137 cx) (nle rfl) (nle rfl)) (by rw [hml]; rfl) (argsL := [.ref a9, .int 0, .ref a4, .int 4]) (rest := []) (lenOf pd23 rfl) rfl rfl (Nat.le_of_eq rfl) (hb hby at_288) (nle rfl) (nle rfl) ?_
  rintro T21 h21 _ _ _ X21 ⟨rfl, rfl, rfl, J21⟩
  rw [J21] at X21
  refine P.ifNo X21 hx 294 (hb hby at_291) (by decide) rfl ?_
  refine P.aload X21 hx 296 (hb hby at_294) rfl rfl rfl ?_
  refine P.iload X21 hx 298 (hb hby at_296) rfl rfl ?_
  refine P.aload X21 hx 300 (hb hby at_298) rfl rfl rfl ?_
  refine P.bipush X21 hx 302 8 (hb hby at_300) rfl rfl ?_
  refine X21.callS hx (w135 cx) (w136 cx) (w137 cx) (w138 cx) (by decide) (Ct.pay (W := 0) (ct_quad cx a9 a10 a4 b4 ([]) ([(32 : Int32), 102, 101, 116, 99, 104, 32, 102, 105, 114, 115, 116, 32, 63, 32, 114, 111, 119, 115, 32, 111, 110, 108, 121]) (0 : Int32) 8 (8 : Int32) h8 _ _ S15 F18 rfl rfl (nle rfl) (nle rfl)) (w138 cx) (w137 cx) (nle rfl) (nle rfl)) (by rw [hml]; rfl) (argsL := [.ref a9, .int 0, .ref a4, .int 8]) (rest := []) (lenOf pd23 rfl) rfl rfl (Nat.le_of_eq rfl) (hb hby at_302) (nle rfl) (nle rfl) ?_
  rintro T22 h22 _ _ _ X22 ⟨rfl, rfl, rfl, J22⟩
  rw [J22] at X22
  refine P.ifNo X22 hx 308 (hb hby at_305) (by decide) rfl ?_
  refine P.aload X22 hx 310 (hb hby at_308) rfl rfl rfl ?_
  refine P.iload X22 hx 312 (hb hby at_310) rfl rfl ?_
  refine P.aload X22 hx 314 (hb hby at_312) rfl rfl rfl ?_
  refine P.bipush X22 hx 316 12 (hb hby at_314) rfl rfl ?_
  refine X22.callS hx (w135 cx) (w136 cx) (w137 cx) (w138 cx) (by decide) (Ct.pay (W := 0) (ct_quad cx a9 a10 a4 b4 ([]) ([(32 : Int32), 102, 101, 116, 99, 104, 32, 102, 105, 114, 115, 116, 32, 63, 32, 114, 111, 119, 115, 32, 111, 110, 108, 121]) (0 : Int32) 12 (12 : Int32) h8 _ _ S15 F18 rfl rfl (nle rfl) (nle rfl)) (w138 cx) (w137 cx) (nle rfl) (nle rfl)) (by rw [hml]; rfl) (argsL := [.ref a9, .int 0, .ref a4, .int 12]) (rest := []) (lenOf pd23 rfl) rfl rfl (Nat.le_of_eq rfl) (hb hby at_316) (nle rfl) (nle rfl) ?_
  rintro T23 h23 _ _ _ X23 ⟨rfl, rfl, rfl, J23⟩
  rw [J23] at X23
  refine P.ifNo X23 hx 322 (hb hby at_319) (by decide) rfl ?_
  refine P.aload X23 hx 324 (hb hby at_322) rfl rfl rfl ?_
  refine P.iload X23 hx 326 (hb hby at_324) rfl rfl ?_
  refine P.aload X23 hx 328 (hb hby at_326) rfl rfl rfl ?_
  refine P.bipush X23 hx 330 16 (hb hby at_328) rfl rfl ?_
  refine X23.callS hx (w135 cx) (w136 cx) (w137 cx) (w138 cx) (by decide) (Ct.pay (W := 0) (ct_quad cx a9 a10 a4 b4 ([]) ([(32 : Int32), 102, 101, 116, 99, 104, 32, 102, 105, 114, 115, 116, 32, 63, 32, 114, 111, 119, 115, 32, 111, 110, 108, 121]) (0 : Int32) 16 (16 : Int32) h8 _ _ S15 F18 rfl rfl (nle rfl) (nle rfl)) (w138 cx) (w137 cx) (nle rfl) (nle rfl)) (by rw [hml]; rfl) (argsL := [.ref a9, .int 0, .ref a4, .int 16]) (rest := []) (lenOf pd23 rfl) rfl rfl (Nat.le_of_eq rfl) (hb hby at_330) (nle rfl) (nle rfl) ?_
  rintro T24 h24 _ _ _ X24 ⟨rfl, rfl, rfl, J24⟩
  rw [J24] at X24
  refine P.ifNo X24 hx 336 (hb hby at_333) (by decide) rfl ?_
  refine P.aload X24 hx 338 (hb hby at_336) rfl rfl rfl ?_
  refine P.iload X24 hx 340 (hb hby at_338) rfl rfl ?_
  refine P.aload X24 hx 342 (hb hby at_340) rfl rfl rfl ?_
  refine P.bipush X24 hx 344 20 (hb hby at_342) rfl rfl ?_
  refine X24.callS hx (w135 cx) (w136 cx) (w137 cx) (w138 cx) (by decide) (Ct.pay (W := 0) (ct_quad cx a9 a10 a4 b4 ([]) ([(32 : Int32), 102, 101, 116, 99, 104, 32, 102, 105, 114, 115, 116, 32, 63, 32, 114, 111, 119, 115, 32, 111, 110, 108, 121]) (0 : Int32) 20 (20 : Int32) h8 _ _ S15 F18 rfl rfl (nle rfl) (nle rfl)) (w138 cx) (w137 cx) (nle rfl) (nle rfl)) (by rw [hml]; rfl) (argsL := [.ref a9, .int 0, .ref a4, .int 20]) (rest := []) (lenOf pd23 rfl) rfl rfl (Nat.le_of_eq rfl) (hb hby at_344) (nle rfl) (nle rfl) ?_
  rintro T25 h25 _ _ _ X25 ⟨rfl, rfl, rfl, J25⟩
  rw [J25] at X25
  refine P.ifNo X25 hx 350 (hb hby at_347) (by decide) rfl ?_
  refine P.aload X25 hx 352 (hb hby at_350) rfl rfl rfl ?_
  refine P.iload X25 hx 354 (hb hby at_352) rfl rfl ?_
  refine P.aload X25 hx 356 (hb hby at_354) rfl rfl rfl ?_
  refine P.bipush X25 hx 358 24 (hb hby at_356) rfl rfl ?_
  refine X25.callS hx (w135 cx) (w136 cx) (w137 cx) (w138 cx) (by decide) (Ct.pay (W := 0) (ct_quad cx a9 a10 a4 b4 ([]) ([(32 : Int32), 102, 101, 116, 99, 104, 32, 102, 105, 114, 115, 116, 32, 63, 32, 114, 111, 119, 115, 32, 111, 110, 108, 121]) (0 : Int32) 24 (24 : Int32) h8 _ _ S15 F18 rfl rfl (nle rfl) (nle rfl)) (w138 cx) (w137 cx) (nle rfl) (nle rfl)) (by rw [hml]; rfl) (argsL := [.ref a9, .int 0, .ref a4, .int 24]) (rest := []) (lenOf pd23 rfl) rfl rfl (Nat.le_of_eq rfl) (hb hby at_358) (nle rfl) (nle rfl) ?_
  rintro T26 h26 _ _ _ X26 ⟨rfl, rfl, rfl, J26⟩
  rw [J26] at X26
  refine P.ifNo X26 hx 364 (hb hby at_361) (by decide) rfl ?_
  refine P.aload X26 hx 366 (hb hby at_364) rfl rfl rfl ?_
  refine P.iload X26 hx 368 (hb hby at_366) rfl rfl ?_
  refine P.aload X26 hx 370 (hb hby at_368) rfl rfl rfl ?_
  refine P.bipush X26 hx 372 28 (hb hby at_370) rfl rfl ?_
  refine X26.callS hx (w135 cx) (w136 cx) (w137 cx) (w138 cx) (by decide) (Ct.pay (W := 0) (ct_quad cx a9 a10 a4 b4 ([]) ([(32 : Int32), 102, 101, 116, 99, 104, 32, 102, 105, 114, 115, 116, 32, 63, 32, 114, 111, 119, 115, 32, 111, 110, 108, 121]) (0 : Int32) 28 (28 : Int32) h8 _ _ S15 F18 rfl rfl (nle rfl) (nle rfl)) (w138 cx) (w137 cx) (nle rfl) (nle rfl)) (by rw [hml]; rfl) (argsL := [.ref a9, .int 0, .ref a4, .int 28]) (rest := []) (lenOf pd23 rfl) rfl rfl (Nat.le_of_eq rfl) (hb hby at_372) (nle rfl) (nle rfl) ?_
  rintro T27 h27 _ _ _ X27 ⟨rfl, rfl, rfl, J27⟩
  rw [J27] at X27
  refine P.ifNo X27 hx 378 (hb hby at_375) (by decide) rfl ?_
  refine P.aload X27 hx 380 (hb hby at_378) rfl rfl rfl ?_
  refine P.iload X27 hx 382 (hb hby at_380) rfl rfl ?_
  refine P.aload X27 hx 384 (hb hby at_382) rfl rfl rfl ?_
  refine P.bipush X27 hx 386 32 (hb hby at_384) rfl rfl ?_
  refine X27.callS hx (w135 cx) (w136 cx) (w137 cx) (w138 cx) (by decide) (Ct.pay (W := 0) (ct_quad cx a9 a10 a4 b4 ([]) ([(32 : Int32), 102, 101, 116, 99, 104, 32, 102, 105, 114, 115, 116, 32, 63, 32, 114, 111, 119, 115, 32, 111, 110, 108, 121]) (0 : Int32) 32 (32 : Int32) h8 _ _ S15 F18 rfl rfl (nle rfl) (nle rfl)) (w138 cx) (w137 cx) (nle rfl) (nle rfl)) (by rw [hml]; rfl) (argsL := [.ref a9, .int 0, .ref a4, .int 32]) (rest := []) (lenOf pd23 rfl) rfl rfl (Nat.le_of_eq rfl) (hb hby at_386) (nle rfl) (nle rfl) ?_
  rintro T28 h28 _ _ _ X28 ⟨rfl, rfl, rfl, J28⟩
  rw [J28] at X28
  refine P.ifNo X28 hx 392 (hb hby at_389) (by decide) rfl ?_
  refine P.aload X28 hx 394 (hb hby at_392) rfl rfl rfl ?_
  refine P.iload X28 hx 396 (hb hby at_394) rfl rfl ?_
  refine P.aload X28 hx 398 (hb hby at_396) rfl rfl rfl ?_
  refine P.bipush X28 hx 400 36 (hb hby at_398) rfl rfl ?_
  refine X28.callS hx (w135 cx) (w136 cx) (w137 cx) (w138 cx) (by decide) (Ct.pay (W := 0) (ct_quad cx a9 a10 a4 b4 ([]) ([(32 : Int32), 102, 101, 116, 99, 104, 32, 102, 105, 114, 115, 116, 32, 63, 32, 114, 111, 119, 115, 32, 111, 110, 108, 121]) (0 : Int32) 36 (36 : Int32) h8 _ _ S15 F18 rfl rfl (nle rfl) (nle rfl)) (w138 cx) (w137 cx) (nle rfl) (nle rfl)) (by rw [hml]; rfl) (argsL := [.ref a9, .int 0, .ref a4, .int 36]) (rest := []) (lenOf pd23 rfl) rfl rfl (Nat.le_of_eq rfl) (hb hby at_400) (nle rfl) (nle rfl) ?_
  rintro T29 h29 _ _ _ X29 ⟨rfl, rfl, rfl, J29⟩
  rw [J29] at X29
  refine P.ifNo X29 hx 406 (hb hby at_403) (by decide) rfl ?_
  refine P.iconst X29 hx 407 1 (hb hby at_406) rfl rfl ?_
  refine P.goto X29 hx 411 (hb hby at_407) (by decide) (by decide) ?_
  have X30 := WS.drop (A := []) (B := WL) X29
  have X31 := WS.fl (FL2 := FL) X30 (fun y hy => (List.mem_append_right [a9, a10, a4, b4, a1, b1] hy))
  exact WS.retN X31 (WL' := []) (FL' := []) hx (t := .boolean) hret (by simp) hlk (hb hby at_411) (nle rfl) (nle rfl) ⟨rfl, rfl, rfl, K14⟩
set_option maxRecDepth 65536 in
set_option maxHeartbeats 4000000 in
theorem ct_law_010 {l : Launch} {Z : State} {a0 : Array Value} {gC : Int32} {gF : Value} (cx : Cx a0 Z gC gF) {n0 : Nat} (p0 : Int32) (p1 : Int32) (p2 : Int32) (p3 : Int32) (h : Heap) (WL FL : List Addr)  (en : (((p0.toUInt32 >>> ((2 : Int32) &&& 31).toUInt32).toInt32) &&& (3 : Int32)) = (0 : Int32)) (es : ¬ (p0 &&& (1 : Int32)) = (0 : Int32)) (el : (p0 &&& (2 : Int32)) = (0 : Int32)) :
    Ct l Z EL1 n0 x code maxLocals ret room_1 #[(.int p0), (.int p1), (.int p2), (.int p3)] h WL FL (Q_law Z gC gF p0 p1 p2 p3 h) := by
  refine Ct.of (plainFor_of_name pn7) ?_
  intro p e s m below meth c s1 hx hby hml hnm hret hlk X0
  refine Wo.cast (f' := (mkF m 0 #[.val (.int p0), .val (.int p1), .val (.int p2), .val (.int p3), .unset, .unset, .unset, .unset, .unset, .unset, .unset, .unset, .unset] [])) (by first | rfl | (simp [entryFrame, mkF, argsToLocals, Value.category]; done)) ?_
  have K0 : Keep h h [] := Keep.refl _ _
  show Wo _ _ _ _ _ _ _ _ _ _ _ s1 (mkF m 0 #[.val (.int p0), .val (.int p1), .val (.int p2), .val (.int p3), .unset, .unset, .unset, .unset, .unset, .unset, .unset, .unset, .unset] [])
  refine P.iloadN X0 hx 1 (hb hby at_0) rfl rfl ?_
  refine P.iconst X0 hx 2 1 (hb hby at_1) rfl rfl ?_
  refine P.iand X0 hx 3 (z := (p0 &&& (1 : Int32))) (hb hby at_2) rfl rfl ?_
  refine P.ifNo X0 hx 6 (hb hby at_3) ((if0 _ _).trans (feq es).1) rfl ?_
  refine P.iconst X0 hx 7 1 (hb hby at_6) rfl rfl ?_
  refine P.goto X0 hx 11 (hb hby at_7) (by decide) (by decide) ?_
  refine P.istore X0 hx 13 #[.val (.int p0), .val (.int p1), .val (.int p2), .val (.int p3), .val (.int 1), .unset, .unset, .unset, .unset, .unset, .unset, .unset, .unset] (hb hby at_11) rfl rfl ?_
  refine P.iloadN X0 hx 14 (hb hby at_13) rfl rfl ?_
  refine P.iconst X0 hx 15 2 (hb hby at_14) rfl rfl ?_
  refine P.iand X0 hx 16 (z := (p0 &&& (2 : Int32))) (hb hby at_15) rfl rfl ?_
  refine P.ifYes X0 hx 23 (hb hby at_16) ((if0 _ _).trans (teq el).1) (by decide) (by decide) ?_
  refine P.iconst X0 hx 24 0 (hb hby at_23) rfl rfl ?_
  refine P.istore X0 hx 26 #[.val (.int p0), .val (.int p1), .val (.int p2), .val (.int p3), .val (.int 1), .val (.int 0), .unset, .unset, .unset, .unset, .unset, .unset, .unset] (hb hby at_24) rfl rfl ?_
  refine P.iloadN X0 hx 27 (hb hby at_26) rfl rfl ?_
  refine P.iconst X0 hx 28 2 (hb hby at_27) rfl rfl ?_
  refine P.iushr X0 hx 29 (z := ((p0.toUInt32 >>> ((2 : Int32) &&& 31).toUInt32).toInt32)) (hb hby at_28) rfl rfl ?_
  refine P.iconst X0 hx 30 3 (hb hby at_29) rfl rfl ?_
  refine P.iand X0 hx 31 (z := (0 : Int32)) (hb hby at_30) (by rw [en]) rfl ?_
  refine P.istore X0 hx 33 #[.val (.int p0), .val (.int p1), .val (.int p2), .val (.int p3), .val (.int 1), .val (.int 0), .val (.int 0), .unset, .unset, .unset, .unset, .unset, .unset] (hb hby at_31) rfl rfl ?_
  refine P.iloadN X0 hx 34 (hb hby at_33) rfl rfl ?_
  refine P.sipush X0 hx 37 255 (hb hby at_34) rfl rfl ?_
  refine P.iand X0 hx 38 (z := (p1 &&& (255 : Int32))) (hb hby at_37) rfl rfl ?_
  refine P.i2c X0 hx 39 (z := (p1 &&& (255 : Int32))) (hb hby at_38) (by rw [i2c_mask]) rfl ?_
  refine P.istore X0 hx 41 #[.val (.int p0), .val (.int p1), .val (.int p2), .val (.int p3), .val (.int 1), .val (.int 0), .val (.int 0), .val (.int (p1 &&& (255 : Int32))), .unset, .unset, .unset, .unset, .unset] (hb hby at_39) rfl rfl ?_
  refine P.iloadN X0 hx 42 (hb hby at_41) rfl rfl ?_
  refine P.sipush X0 hx 45 255 (hb hby at_42) rfl rfl ?_
  refine P.iand X0 hx 46 (z := (p2 &&& (255 : Int32))) (hb hby at_45) rfl rfl ?_
  refine P.i2c X0 hx 47 (z := (p2 &&& (255 : Int32))) (hb hby at_46) (by rw [i2c_mask]) rfl ?_
  refine P.istore X0 hx 49 #[.val (.int p0), .val (.int p1), .val (.int p2), .val (.int p3), .val (.int 1), .val (.int 0), .val (.int 0), .val (.int (p1 &&& (255 : Int32))), .val (.int (p2 &&& (255 : Int32))), .unset, .unset, .unset, .unset] (hb hby at_47) rfl rfl ?_
  refine P.iloadN X0 hx 50 (hb hby at_49) rfl rfl ?_
  refine P.sipush X0 hx 53 255 (hb hby at_50) rfl rfl ?_
  refine P.iand X0 hx 54 (z := (p3 &&& (255 : Int32))) (hb hby at_53) rfl rfl ?_
  refine P.i2c X0 hx 55 (z := (p3 &&& (255 : Int32))) (hb hby at_54) (by rw [i2c_mask]) rfl ?_
  refine P.istore X0 hx 57 #[.val (.int p0), .val (.int p1), .val (.int p2), .val (.int p3), .val (.int 1), .val (.int 0), .val (.int 0), .val (.int (p1 &&& (255 : Int32))), .val (.int (p2 &&& (255 : Int32))), .val (.int (p3 &&& (255 : Int32))), .unset, .unset, .unset] (hb hby at_55) rfl rfl ?_
  refine P.iload X0 hx 59 (hb hby at_57) rfl rfl ?_
  refine P.ifNo X0 hx 62 (hb hby at_59) (by decide) rfl ?_
  refine X0.ldc hx (w0 cx) (strAtoms cx) (by decide) (vs := []) (z := (0 : Int32)) ⟨by decide, by decide⟩ (by decide) rfl (hb hby at_62) (n := 0) (nle rfl) (nle rfl) (nle rfl) (nle rfl) ?_
  intro T1 h1 a1 b1 k1 X1 E1 A1 C1 V1 B1
  have K2 : Keep h h1 [] := K0.ext E1
  refine P.astore X1 hx 66 #[.val (.int p0), .val (.int p1), .val (.int p2), .val (.int p3), .val (.int 1), .val (.int 0), .val (.int 0), .val (.int (p1 &&& (255 : Int32))), .val (.int (p2 &&& (255 : Int32))), .val (.int (p3 &&& (255 : Int32))), .val (.ref a1), .unset, .unset] (hb hby at_64) rfl rfl rfl ?_
  refine P.goto X1 hx 143 (hb hby at_66) (by decide) (by decide) ?_
  have S3 : StrL Z h1 a1 b1 [] := ⟨A1, V1, C1, ⟨_, B1⟩, fc0, nle rfl⟩
  refine P.iload X1 hx 145 (hb hby at_143) rfl rfl ?_
  refine P.ifNo X1 hx 148 (hb hby at_145) (by decide) rfl ?_
  refine P.iload X1 hx 150 (hb hby at_148) rfl rfl ?_
  refine P.ifYes X1 hx 160 (hb hby at_150) (by decide) (by decide) (by decide) ?_
  refine X1.ldc hx (w213 cx) (strAtoms cx) (by decide) (vs := [(.int 32), (.int 111), (.int 102), (.int 102), (.int 115), (.int 101), (.int 116), (.int 32), (.int 63), (.int 32), (.int 114), (.int 111), (.int 119), (.int 115)]) (z := (14 : Int32)) ⟨by decide, by decide⟩ (by decide) rfl (hb hby at_160) (n := 56) (nle rfl) (nle rfl) (nle rfl) (nle rfl) ?_
  intro T4 h4 a4 b4 k4 X4 E4 A4 C4 V4 B4
  have K5 : Keep h h4 [] := K2.ext E4
  refine P.astore X4 hx 164 #[.val (.int p0), .val (.int p1), .val (.int p2), .val (.int p3), .val (.int 1), .val (.int 0), .val (.int 0), .val (.int (p1 &&& (255 : Int32))), .val (.int (p2 &&& (255 : Int32))), .val (.int (p3 &&& (255 : Int32))), .val (.ref a1), .val (.ref a4), .unset] (hb hby at_162) rfl rfl rfl ?_
  refine P.goto X4 hx 183 (hb hby at_164) (by decide) (by decide) ?_
  have S6 : StrL Z h4 a4 b4 [(32 : Int32), 111, 102, 102, 115, 101, 116, 32, 63, 32, 114, 111, 119, 115] := ⟨A4, V4, C4, ⟨_, B4⟩, (by decide), nle rfl⟩
  refine P.aload X4 hx 185 (hb hby at_183) rfl rfl rfl ?_
  refine P.iload X4 hx 187 (hb hby at_185) rfl rfl ?_
  refine P.iload X4 hx 189 (hb hby at_187) rfl rfl ?_
  have F7 : StrL Z h4 a1 b1 [] := (S3.ext E4)
  refine X4.callS hx (w8 cx) (w9 cx) (w10 cx) (w11 cx) (by decide) (Ct.pay (W := 0) (ct_pag10 cx a1 b1 ([]) h4 _ _ F7 (List.mem_of_getElem? (i := 2) rfl) (List.mem_of_getElem? (i := 3) rfl) (nle rfl)) (w11 cx) (w10 cx) (nle rfl) (nle rfl)) (by rw [hml]; rfl) (argsL := [.ref a1, .int 1, .int 0]) (rest := []) (lenOf pd24 rfl) rfl rfl (Nat.le_of_eq rfl) (hb hby at_189) (nle rfl) (nle rfl) ?_
  rintro T8 h8 _ _ _ X8 ⟨a9, a10, rfl, rfl, rfl, J8, g12, G11⟩
  have ge13 : h.size ≤ a9 := Nat.le_trans K5.1 g12
  have K14 : Keep h h8 [] := K5.trans J8 all0
  have S15 : StrL Z h8 a9 a10 [(32 : Int32), 111, 102, 102, 115, 101, 116, 32, 63, 32, 114, 111, 119, 115] := G11
  refine P.astore X8 hx 194 #[.val (.int p0), .val (.int p1), .val (.int p2), .val (.int p3), .val (.int 1), .val (.int 0), .val (.int 0), .val (.int (p1 &&& (255 : Int32))), .val (.int (p2 &&& (255 : Int32))), .val (.int (p3 &&& (255 : Int32))), .val (.ref a1), .val (.ref a4), .val (.ref a9)] (hb hby at_192) rfl rfl rfl ?_
  refine P.aload X8 hx 196 (hb hby at_194) rfl rfl rfl ?_
  refine P.ifnonnullYes X8 hx 201 (hb hby at_196) (by decide) (by decide) ?_
  refine P.aload X8 hx 203 (hb hby at_201) rfl rfl rfl ?_
  refine X8.callV hx (w134 cx) (w28 cx) (w30 cx) (w29 cx) (fun _ hZ => nf hZ (w30 cx)) (by decide) S15.1 (pay_len (W := 0) (hln cx) (w2 cx) S15 (X8.sta (S_C cx)) (N_C cx) (nle rfl) (nle rfl)) (by rw [hml]; rfl) (argsL := []) (rest := []) (lenOf pd7 rfl) rfl rfl (Nat.le_of_eq rfl) (hb hby at_203) (nle rfl) (nle rfl) ?_
  rintro T16 h16 _ _ _ X16 ⟨rfl, rfl, rfl, J16⟩
  rw [J16] at X16
  show Wo _ _ _ _ _ _ _ _ _ _ _ T16 (mkF m 206 #[.val (.int p0), .val (.int p1), .val (.int p2), .val (.int p3), .val (.int 1), .val (.int 0), .val (.int 0), .val (.int (p1 &&& (255 : Int32))), .val (.int (p2 &&& (255 : Int32))), .val (.int (p3 &&& (255 : Int32))), .val (.ref a1), .val (.ref a4), .val (.ref a9)] [.int 14])
  refine P.iload X16 hx 208 (hb hby at_206) rfl rfl ?_
  refine P.aload X16 hx 210 (hb hby at_208) rfl rfl rfl ?_
  have F17 : Exa Z h8 a4 "java/lang/String" := (S6.1.keep J8)
  have F18 : StrL Z h8 a4 b4 [(32 : Int32), 111, 102, 102, 115, 101, 116, 32, 63, 32, 114, 111, 119, 115] := (S6.keep J8 nin0 nin0)
  refine X16.callV hx (w134 cx) (w28 cx) (w30 cx) (w29 cx) (fun _ hZ => nf hZ (w30 cx)) (by decide) F17 (pay_len (W := 2) (hln cx) (w2 cx) F18 (X16.sta (S_C cx)) (N_C cx) (nle rfl) (nle rfl)) (by rw [hml]; rfl) (argsL := []) (rest := [.int 0, .int 14]) (lenOf pd7 rfl) rfl rfl (Nat.le_of_eq rfl) (hb hby at_210) (nle rfl) (nle rfl) ?_
  rintro T19 h19 _ _ _ X19 ⟨rfl, rfl, rfl, J19⟩
  rw [J19] at X19
  show Wo _ _ _ _ _ _ _ _ _ _ _ T19 (mkF m 213 #[.val (.int p0), .val (.int p1), .val (.int p2), .val (.int p3), .val (.int 1), .val (.int 0), .val (.int 0), .val (.int (p1 &&& (255 : Int32))), .val (.int (p2 &&& (255 : Int32))), .val (.int (p3 &&& (255 : Int32))), .val (.ref a1), .val (.ref a4), .val (.ref a9)] [.int 14, .int 0, .int 14])
  refine P.iadd X19 hx 214 (z := (14 : Int32)) (hb hby at_213) rfl rfl ?_
  refine P.icmpNo X19 hx 217 (hb hby at_214) (by decide) rfl ?_
  refine P.iload X19 hx 219 (hb hby at_217) rfl rfl ?_
  refine P.iconst X19 hx 220 1 (hb hby at_219) rfl rfl ?_
  refine P.icmpYes X19 hx 234 (hb hby at_220) (by decide) (by decide) (by decide) ?_
  refine P.iload X19 hx 236 (hb hby at_234) rfl rfl ?_
  refine P.iconst X19 hx 237 2 (hb hby at_236) rfl rfl ?_
  refine P.icmpYes X19 hx 251 (hb hby at_237) (by decide) (by decide) (by decide) ?_
  refine P.iload X19 hx 253 (hb hby at_251) rfl rfl ?_
  refine P.iconst X19 hx 254 3 (hb hby at_253) rfl rfl ?_
  refine P.icmpYes X19 hx 268 (hb hby at_254) (by decide) (by decide) (by decide) ?_
  refine P.aload X19 hx 270 (hb hby at_268) rfl rfl rfl ?_
  refine P.iload X19 hx 272 (hb hby at_270) rfl rfl ?_
  refine P.aload X19 hx 274 (hb hby at_272) rfl rfl rfl ?_
  refine P.iconst X19 hx 275 0 (hb hby at_274) rfl rfl ?_
  refine X19.callS hx (w135 cx) (w136 cx) (w137 cx) (w138 cx) (by decide) (Ct.pay (W := 0) (ct_quad cx a9 a10 a4 b4 ([]) ([(32 : Int32), 111, 102, 102, 115, 101, 116, 32, 63, 32, 114, 111, 119, 115]) (0 : Int32) 0 (0 : Int32) h8 _ _ S15 F18 rfl rfl (nle rfl) (nle rfl)) (w138 cx) (w137 cx) (nle rfl) (nle rfl)) (by rw [hml]; rfl) (argsL := [.ref a9, .int 0, .ref a4, .int 0]) (rest := []) (lenOf pd23 rfl) rfl rfl (Nat.le_of_eq rfl) (hb hby at_275) (nle rfl) (nle rfl) ?_
  rintro T20 h20 _ _ _ X20 ⟨rfl, rfl, rfl, J20⟩
  rw [J20] at X20
  refine P.ifNo X20 hx 281 (hb hby at_278) (by decide) rfl ?_
  refine P.aload X20 hx 283 (hb hby at_281) rfl rfl rfl ?_
  refine P.iload X20 hx 285 (hb hby at_283) rfl rfl ?_
  refine P.aload X20 hx 287 (hb hby at_285) rfl rfl rfl ?_
  refine P.iconst X20 hx 288 4 (hb hby at_287) rfl rfl ?_
  refine X20.callS hx (w135 cx) (w136 cx) (w137 cx) (w138 cx) (by decide) (Ct.pay (W := 0) (ct_quad cx a9 a10 a4 b4 ([]) ([(32 : Int32), 111, 102, 102, 115, 101, 116, 32, 63, 32, 114, 111, 119, 115]) (0 : Int32) 4 (4 : Int32) h8 _ _ S15 F18 rfl rfl (nle rfl) (nle rfl)) (w138 cx) (w137 cx) (nle rfl) (nle rfl)) (by rw [hml]; rfl) (argsL := [.ref a9, .int 0, .ref a4, .int 4]) (rest := []) (lenOf pd23 rfl) rfl rfl (Nat.le_of_eq rfl) (hb hby at_288) (nle rfl) (nle rfl) ?_
  rintro T21 h21 _ _ _ X21 ⟨rfl, rfl, rfl, J21⟩
  rw [J21] at X21
  refine P.ifNo X21 hx 294 (hb hby at_291) (by decide) rfl ?_
  refine P.aload X21 hx 296 (hb hby at_294) rfl rfl rfl ?_
  refine P.iload X21 hx 298 (hb hby at_296) rfl rfl ?_
  refine P.aload X21 hx 300 (hb hby at_298) rfl rfl rfl ?_
  refine P.bipush X21 hx 302 8 (hb hby at_300) rfl rfl ?_
  refine X21.callS hx (w135 cx) (w136 cx) (w137 cx) (w138 cx) (by decide) (Ct.pay (W := 0) (ct_quad cx a9 a10 a4 b4 ([]) ([(32 : Int32), 111, 102, 102, 115, 101, 116, 32, 63, 32, 114, 111, 119, 115]) (0 : Int32) 8 (8 : Int32) h8 _ _ S15 F18 rfl rfl (nle rfl) (nle rfl)) (w138 cx) (w137 cx) (nle rfl) (nle rfl)) (by rw [hml]; rfl) (argsL := [.ref a9, .int 0, .ref a4, .int 8]) (rest := []) (lenOf pd23 rfl) rfl rfl (Nat.le_of_eq rfl) (hb hby at_302) (nle rfl) (nle rfl) ?_
  rintro T22 h22 _ _ _ X22 ⟨rfl, rfl, rfl, J22⟩
  rw [J22] at X22
  refine P.ifNo X22 hx 308 (hb hby at_305) (by decide) rfl ?_
  refine P.aload X22 hx 310 (hb hby at_308) rfl rfl rfl ?_
  refine P.iload X22 hx 312 (hb hby at_310) rfl rfl ?_
  refine P.aload X22 hx 314 (hb hby at_312) rfl rfl rfl ?_
  refine P.bipush X22 hx 316 12 (hb hby at_314) rfl rfl ?_
  refine X22.callS hx (w135 cx) (w136 cx) (w137 cx) (w138 cx) (by decide) (Ct.pay (W := 0) (ct_quad cx a9 a10 a4 b4 ([]) ([(32 : Int32), 111, 102, 102, 115, 101, 116, 32, 63, 32, 114, 111, 119, 115]) (0 : Int32) 12 (12 : Int32) h8 _ _ S15 F18 rfl rfl (nle rfl) (nle rfl)) (w138 cx) (w137 cx) (nle rfl) (nle rfl)) (by rw [hml]; rfl) (argsL := [.ref a9, .int 0, .ref a4, .int 12]) (rest := []) (lenOf pd23 rfl) rfl rfl (Nat.le_of_eq rfl) (hb hby at_316) (nle rfl) (nle rfl) ?_
  rintro T23 h23 _ _ _ X23 ⟨rfl, rfl, rfl, J23⟩
  rw [J23] at X23
  refine P.ifNo X23 hx 322 (hb hby at_319) (by decide) rfl ?_
  refine P.aload X23 hx 324 (hb hby at_322) rfl rfl rfl ?_
  refine P.iload X23 hx 326 (hb hby at_324) rfl rfl ?_
  refine P.aload X23 hx 328 (hb hby at_326) rfl rfl rfl ?_
  refine P.bipush X23 hx 330 16 (hb hby at_328) rfl rfl ?_
  refine X23.callS hx (w135 cx) (w136 cx) (w137 cx) (w138 cx) (by decide) (Ct.pay (W := 0) (ct_quad cx a9 a10 a4 b4 ([]) ([(32 : Int32), 111, 102, 102, 115, 101, 116, 32, 63, 32, 114, 111, 119, 115]) (0 : Int32) 16 (16 : Int32) h8 _ _ S15 F18 rfl rfl (nle rfl) (nle rfl)) (w138 cx) (w137 cx) (nle rfl) (nle rfl)) (by rw [hml]; rfl) (argsL := [.ref a9, .int 0, .ref a4, .int 16]) (rest := []) (lenOf pd23 rfl) rfl rfl (Nat.le_of_eq rfl) (hb hby at_330) (nle rfl) (nle rfl) ?_
  rintro T24 h24 _ _ _ X24 ⟨rfl, rfl, rfl, J24⟩
  rw [J24] at X24
  refine P.ifNo X24 hx 336 (hb hby at_333) (by decide) rfl ?_
  refine P.aload X24 hx 338 (hb hby at_336) rfl rfl rfl ?_
  refine P.iload X24 hx 340 (hb hby at_338) rfl rfl ?_
  refine P.aload X24 hx 342 (hb hby at_340) rfl rfl rfl ?_
  refine P.bipush X24 hx 344 20 (hb hby at_342) rfl rfl ?_
  refine X24.callS hx (w135 cx) (w136 cx) (w137 cx) (w138 cx) (by decide) (Ct.pay (W := 0) (ct_quad cx a9 a10 a4 b4 ([]) ([(32 : Int32), 111, 102, 102, 115, 101, 116, 32, 63, 32, 114, 111, 119, 115]) (0 : Int32) 20 (20 : Int32) h8 _ _ S15 F18 rfl rfl (nle rfl) (nle rfl)) (w138 cx) (w137 cx) (nle rfl) (nle rfl)) (by rw [hml]; rfl) (argsL := [.ref a9, .int 0, .ref a4, .int 20]) (rest := []) (lenOf pd23 rfl) rfl rfl (Nat.le_of_eq rfl) (hb hby at_344) (nle rfl) (nle rfl) ?_
  rintro T25 h25 _ _ _ X25 ⟨rfl, rfl, rfl, J25⟩
  rw [J25] at X25
  refine P.ifNo X25 hx 350 (hb hby at_347) (by decide) rfl ?_
  refine P.aload X25 hx 352 (hb hby at_350) rfl rfl rfl ?_
  refine P.iload X25 hx 354 (hb hby at_352) rfl rfl ?_
  refine P.aload X25 hx 356 (hb hby at_354) rfl rfl rfl ?_
  refine P.bipush X25 hx 358 24 (hb hby at_356) rfl rfl ?_
  refine X25.callS hx (w135 cx) (w136 cx) (w137 cx) (w138 cx) (by decide) (Ct.pay (W := 0) (ct_quad cx a9 a10 a4 b4 ([]) ([(32 : Int32), 111, 102, 102, 115, 101, 116, 32, 63, 32, 114, 111, 119, 115]) (0 : Int32) 24 (24 : Int32) h8 _ _ S15 F18 rfl rfl (nle rfl) (nle rfl)) (w138 cx) (w137 cx) (nle rfl) (nle rfl)) (by rw [hml]; rfl) (argsL := [.ref a9, .int 0, .ref a4, .int 24]) (rest := []) (lenOf pd23 rfl) rfl rfl (Nat.le_of_eq rfl) (hb hby at_358) (nle rfl) (nle rfl) ?_
  rintro T26 h26 _ _ _ X26 ⟨rfl, rfl, rfl, J26⟩
  rw [J26] at X26
  refine P.ifNo X26 hx 364 (hb hby at_361) (by decide) rfl ?_
  refine P.aload X26 hx 366 (hb hby at_364) rfl rfl rfl ?_
  refine P.iload X26 hx 368 (hb hby at_366) rfl rfl ?_
  refine P.aload X26 hx 370 (hb hby at_368) rfl rfl rfl ?_
  refine P.bipush X26 hx 372 28 (hb hby at_370) rfl rfl ?_
  refine X26.callS hx (w135 cx) (w136 cx) (w137 cx) (w138 cx) (by decide) (Ct.pay (W := 0) (ct_quad cx a9 a10 a4 b4 ([]) ([(32 : Int32), 111, 102, 102, 115, 101, 116, 32, 63, 32, 114, 111, 119, 115]) (0 : Int32) 28 (28 : Int32) h8 _ _ S15 F18 rfl rfl (nle rfl) (nle rfl)) (w138 cx) (w137 cx) (nle rfl) (nle rfl)) (by rw [hml]; rfl) (argsL := [.ref a9, .int 0, .ref a4, .int 28]) (rest := []) (lenOf pd23 rfl) rfl rfl (Nat.le_of_eq rfl) (hb hby at_372) (nle rfl) (nle rfl) ?_
  rintro T27 h27 _ _ _ X27 ⟨rfl, rfl, rfl, J27⟩
  rw [J27] at X27
  refine P.ifNo X27 hx 378 (hb hby at_375) (by decide) rfl ?_
  refine P.aload X27 hx 380 (hb hby at_378) rfl rfl rfl ?_
  refine P.iload X27 hx 382 (hb hby at_380) rfl rfl ?_
  refine P.aload X27 hx 384 (hb hby at_382) rfl rfl rfl ?_
  refine P.bipush X27 hx 386 32 (hb hby at_384) rfl rfl ?_
  refine X27.callS hx (w135 cx) (w136 cx) (w137 cx) (w138 cx) (by decide) (Ct.pay (W := 0) (ct_quad cx a9 a10 a4 b4 ([]) ([(32 : Int32), 111, 102, 102, 115, 101, 116, 32, 63, 32, 114, 111, 119, 115]) (0 : Int32) 32 (32 : Int32) h8 _ _ S15 F18 rfl rfl (nle rfl) (nle rfl)) (w138 cx) (w137 cx) (nle rfl) (nle rfl)) (by rw [hml]; rfl) (argsL := [.ref a9, .int 0, .ref a4, .int 32]) (rest := []) (lenOf pd23 rfl) rfl rfl (Nat.le_of_eq rfl) (hb hby at_386) (nle rfl) (nle rfl) ?_
  rintro T28 h28 _ _ _ X28 ⟨rfl, rfl, rfl, J28⟩
  rw [J28] at X28
  refine P.ifNo X28 hx 392 (hb hby at_389) (by decide) rfl ?_
  refine P.aload X28 hx 394 (hb hby at_392) rfl rfl rfl ?_
  refine P.iload X28 hx 396 (hb hby at_394) rfl rfl ?_
  refine P.aload X28 hx 398 (hb hby at_396) rfl rfl rfl ?_
  refine P.bipush X28 hx 400 36 (hb hby at_398) rfl rfl ?_
  refine X28.callS hx (w135 cx) (w136 cx) (w137 cx) (w138 cx) (by decide) (Ct.pay (W := 0) (ct_quad cx a9 a10 a4 b4 ([]) ([(32 : Int32), 111, 102, 102, 115, 101, 116, 32, 63, 32, 114, 111, 119, 115]) (0 : Int32) 36 (36 : Int32) h8 _ _ S15 F18 rfl rfl (nle rfl) (nle rfl)) (w138 cx) (w137 cx) (nle rfl) (nle rfl)) (by rw [hml]; rfl) (argsL := [.ref a9, .int 0, .ref a4, .int 36]) (rest := []) (lenOf pd23 rfl) rfl rfl (Nat.le_of_eq rfl) (hb hby at_400) (nle rfl) (nle rfl) ?_
  rintro T29 h29 _ _ _ X29 ⟨rfl, rfl, rfl, J29⟩
  rw [J29] at X29
  refine P.ifNo X29 hx 406 (hb hby at_403) (by decide) rfl ?_
  refine P.iconst X29 hx 407 1 (hb hby at_406) rfl rfl ?_
  refine P.goto X29 hx 411 (hb hby at_407) (by decide) (by decide) ?_
  have X30 := WS.drop (A := []) (B := WL) X29
  have X31 := WS.fl (FL2 := FL) X30 (fun y hy => (List.mem_append_right [a9, a10, a4, b4, a1, b1] hy))
  exact WS.retN X31 (WL' := []) (FL' := []) hx (t := .boolean) hret (by simp) hlk (hb hby at_411) (nle rfl) (nle rfl) ⟨rfl, rfl, rfl, K14⟩
set_option maxRecDepth 65536 in
set_option maxHeartbeats 4000000 in
theorem ct_law_011 {l : Launch} {Z : State} {a0 : Array Value} {gC : Int32} {gF : Value} (cx : Cx a0 Z gC gF) {n0 : Nat} (p0 : Int32) (p1 : Int32) (p2 : Int32) (p3 : Int32) (h : Heap) (WL FL : List Addr)  (en : (((p0.toUInt32 >>> ((2 : Int32) &&& 31).toUInt32).toInt32) &&& (3 : Int32)) = (0 : Int32)) (es : ¬ (p0 &&& (1 : Int32)) = (0 : Int32)) (el : ¬ (p0 &&& (2 : Int32)) = (0 : Int32)) :
    Ct l Z EL1 n0 x code maxLocals ret room_1 #[(.int p0), (.int p1), (.int p2), (.int p3)] h WL FL (Q_law Z gC gF p0 p1 p2 p3 h) := by
  refine Ct.of (plainFor_of_name pn7) ?_
  intro p e s m below meth c s1 hx hby hml hnm hret hlk X0
  refine Wo.cast (f' := (mkF m 0 #[.val (.int p0), .val (.int p1), .val (.int p2), .val (.int p3), .unset, .unset, .unset, .unset, .unset, .unset, .unset, .unset, .unset] [])) (by first | rfl | (simp [entryFrame, mkF, argsToLocals, Value.category]; done)) ?_
  have K0 : Keep h h [] := Keep.refl _ _
  show Wo _ _ _ _ _ _ _ _ _ _ _ s1 (mkF m 0 #[.val (.int p0), .val (.int p1), .val (.int p2), .val (.int p3), .unset, .unset, .unset, .unset, .unset, .unset, .unset, .unset, .unset] [])
  refine P.iloadN X0 hx 1 (hb hby at_0) rfl rfl ?_
  refine P.iconst X0 hx 2 1 (hb hby at_1) rfl rfl ?_
  refine P.iand X0 hx 3 (z := (p0 &&& (1 : Int32))) (hb hby at_2) rfl rfl ?_
  refine P.ifNo X0 hx 6 (hb hby at_3) ((if0 _ _).trans (feq es).1) rfl ?_
  refine P.iconst X0 hx 7 1 (hb hby at_6) rfl rfl ?_
  refine P.goto X0 hx 11 (hb hby at_7) (by decide) (by decide) ?_
  refine P.istore X0 hx 13 #[.val (.int p0), .val (.int p1), .val (.int p2), .val (.int p3), .val (.int 1), .unset, .unset, .unset, .unset, .unset, .unset, .unset, .unset] (hb hby at_11) rfl rfl ?_
  refine P.iloadN X0 hx 14 (hb hby at_13) rfl rfl ?_
  refine P.iconst X0 hx 15 2 (hb hby at_14) rfl rfl ?_
  refine P.iand X0 hx 16 (z := (p0 &&& (2 : Int32))) (hb hby at_15) rfl rfl ?_
  refine P.ifNo X0 hx 19 (hb hby at_16) ((if0 _ _).trans (feq el).1) rfl ?_
  refine P.iconst X0 hx 20 1 (hb hby at_19) rfl rfl ?_
  refine P.goto X0 hx 24 (hb hby at_20) (by decide) (by decide) ?_
  refine P.istore X0 hx 26 #[.val (.int p0), .val (.int p1), .val (.int p2), .val (.int p3), .val (.int 1), .val (.int 1), .unset, .unset, .unset, .unset, .unset, .unset, .unset] (hb hby at_24) rfl rfl ?_
  refine P.iloadN X0 hx 27 (hb hby at_26) rfl rfl ?_
  refine P.iconst X0 hx 28 2 (hb hby at_27) rfl rfl ?_
  refine P.iushr X0 hx 29 (z := ((p0.toUInt32 >>> ((2 : Int32) &&& 31).toUInt32).toInt32)) (hb hby at_28) rfl rfl ?_
  refine P.iconst X0 hx 30 3 (hb hby at_29) rfl rfl ?_
  refine P.iand X0 hx 31 (z := (0 : Int32)) (hb hby at_30) (by rw [en]) rfl ?_
  refine P.istore X0 hx 33 #[.val (.int p0), .val (.int p1), .val (.int p2), .val (.int p3), .val (.int 1), .val (.int 1), .val (.int 0), .unset, .unset, .unset, .unset, .unset, .unset] (hb hby at_31) rfl rfl ?_
  refine P.iloadN X0 hx 34 (hb hby at_33) rfl rfl ?_
  refine P.sipush X0 hx 37 255 (hb hby at_34) rfl rfl ?_
  refine P.iand X0 hx 38 (z := (p1 &&& (255 : Int32))) (hb hby at_37) rfl rfl ?_
  refine P.i2c X0 hx 39 (z := (p1 &&& (255 : Int32))) (hb hby at_38) (by rw [i2c_mask]) rfl ?_
  refine P.istore X0 hx 41 #[.val (.int p0), .val (.int p1), .val (.int p2), .val (.int p3), .val (.int 1), .val (.int 1), .val (.int 0), .val (.int (p1 &&& (255 : Int32))), .unset, .unset, .unset, .unset, .unset] (hb hby at_39) rfl rfl ?_
  refine P.iloadN X0 hx 42 (hb hby at_41) rfl rfl ?_
  refine P.sipush X0 hx 45 255 (hb hby at_42) rfl rfl ?_
  refine P.iand X0 hx 46 (z := (p2 &&& (255 : Int32))) (hb hby at_45) rfl rfl ?_
  refine P.i2c X0 hx 47 (z := (p2 &&& (255 : Int32))) (hb hby at_46) (by rw [i2c_mask]) rfl ?_
  refine P.istore X0 hx 49 #[.val (.int p0), .val (.int p1), .val (.int p2), .val (.int p3), .val (.int 1), .val (.int 1), .val (.int 0), .val (.int (p1 &&& (255 : Int32))), .val (.int (p2 &&& (255 : Int32))), .unset, .unset, .unset, .unset] (hb hby at_47) rfl rfl ?_
  refine P.iloadN X0 hx 50 (hb hby at_49) rfl rfl ?_
  refine P.sipush X0 hx 53 255 (hb hby at_50) rfl rfl ?_
  refine P.iand X0 hx 54 (z := (p3 &&& (255 : Int32))) (hb hby at_53) rfl rfl ?_
  refine P.i2c X0 hx 55 (z := (p3 &&& (255 : Int32))) (hb hby at_54) (by rw [i2c_mask]) rfl ?_
  refine P.istore X0 hx 57 #[.val (.int p0), .val (.int p1), .val (.int p2), .val (.int p3), .val (.int 1), .val (.int 1), .val (.int 0), .val (.int (p1 &&& (255 : Int32))), .val (.int (p2 &&& (255 : Int32))), .val (.int (p3 &&& (255 : Int32))), .unset, .unset, .unset] (hb hby at_55) rfl rfl ?_
  refine P.iload X0 hx 59 (hb hby at_57) rfl rfl ?_
  refine P.ifNo X0 hx 62 (hb hby at_59) (by decide) rfl ?_
  refine X0.ldc hx (w0 cx) (strAtoms cx) (by decide) (vs := []) (z := (0 : Int32)) ⟨by decide, by decide⟩ (by decide) rfl (hb hby at_62) (n := 0) (nle rfl) (nle rfl) (nle rfl) (nle rfl) ?_
  intro T1 h1 a1 b1 k1 X1 E1 A1 C1 V1 B1
  have K2 : Keep h h1 [] := K0.ext E1
  refine P.astore X1 hx 66 #[.val (.int p0), .val (.int p1), .val (.int p2), .val (.int p3), .val (.int 1), .val (.int 1), .val (.int 0), .val (.int (p1 &&& (255 : Int32))), .val (.int (p2 &&& (255 : Int32))), .val (.int (p3 &&& (255 : Int32))), .val (.ref a1), .unset, .unset] (hb hby at_64) rfl rfl rfl ?_
  refine P.goto X1 hx 143 (hb hby at_66) (by decide) (by decide) ?_
  have S3 : StrL Z h1 a1 b1 [] := ⟨A1, V1, C1, ⟨_, B1⟩, fc0, nle rfl⟩
  refine P.iload X1 hx 145 (hb hby at_143) rfl rfl ?_
  refine P.ifNo X1 hx 148 (hb hby at_145) (by decide) rfl ?_
  refine P.iload X1 hx 150 (hb hby at_148) rfl rfl ?_
  refine P.ifNo X1 hx 153 (hb hby at_150) (by decide) rfl ?_
  refine X1.ldc hx (w182 cx) (strAtoms cx) (by decide) (vs := [(.int 32), (.int 111), (.int 102), (.int 102), (.int 115), (.int 101), (.int 116), (.int 32), (.int 63), (.int 32), (.int 114), (.int 111), (.int 119), (.int 115), (.int 32), (.int 102), (.int 101), (.int 116), (.int 99), (.int 104), (.int 32), (.int 102), (.int 105), (.int 114), (.int 115), (.int 116), (.int 32), (.int 63), (.int 32), (.int 114), (.int 111), (.int 119), (.int 115), (.int 32), (.int 111), (.int 110), (.int 108), (.int 121)]) (z := (38 : Int32)) ⟨by decide, by decide⟩ (by decide) rfl (hb hby at_153) (n := 152) (nle rfl) (nle rfl) (nle rfl) (nle rfl) ?_
  intro T4 h4 a4 b4 k4 X4 E4 A4 C4 V4 B4
  have K5 : Keep h h4 [] := K2.ext E4
  refine P.astore X4 hx 157 #[.val (.int p0), .val (.int p1), .val (.int p2), .val (.int p3), .val (.int 1), .val (.int 1), .val (.int 0), .val (.int (p1 &&& (255 : Int32))), .val (.int (p2 &&& (255 : Int32))), .val (.int (p3 &&& (255 : Int32))), .val (.ref a1), .val (.ref a4), .unset] (hb hby at_155) rfl rfl rfl ?_
  refine P.goto X4 hx 183 (hb hby at_157) (by decide) (by decide) ?_
  have S6 : StrL Z h4 a4 b4 [(32 : Int32), 111, 102, 102, 115, 101, 116, 32, 63, 32, 114, 111, 119, 115, 32, 102, 101, 116, 99, 104, 32, 102, 105, 114, 115, 116, 32, 63, 32, 114, 111, 119, 115, 32, 111, 110, 108, 121] := ⟨A4, V4, C4, ⟨_, B4⟩, (by decide), nle rfl⟩
  refine P.aload X4 hx 185 (hb hby at_183) rfl rfl rfl ?_
  refine P.iload X4 hx 187 (hb hby at_185) rfl rfl ?_
  refine P.iload X4 hx 189 (hb hby at_187) rfl rfl ?_
  have F7 : StrL Z h4 a1 b1 [] := (S3.ext E4)
  refine X4.callS hx (w8 cx) (w9 cx) (w10 cx) (w11 cx) (by decide) (Ct.pay (W := 0) (ct_pag11 cx a1 b1 ([]) h4 _ _ F7 (List.mem_of_getElem? (i := 2) rfl) (List.mem_of_getElem? (i := 3) rfl) (nle rfl)) (w11 cx) (w10 cx) (nle rfl) (nle rfl)) (by rw [hml]; rfl) (argsL := [.ref a1, .int 1, .int 1]) (rest := []) (lenOf pd24 rfl) rfl rfl (Nat.le_of_eq rfl) (hb hby at_189) (nle rfl) (nle rfl) ?_
  rintro T8 h8 _ _ _ X8 ⟨a9, a10, rfl, rfl, rfl, J8, g12, G11⟩
  have ge13 : h.size ≤ a9 := Nat.le_trans K5.1 g12
  have K14 : Keep h h8 [] := K5.trans J8 all0
  have S15 : StrL Z h8 a9 a10 [(32 : Int32), 111, 102, 102, 115, 101, 116, 32, 63, 32, 114, 111, 119, 115, 32, 102, 101, 116, 99, 104, 32, 102, 105, 114, 115, 116, 32, 63, 32, 114, 111, 119, 115, 32, 111, 110, 108, 121] := G11
  refine P.astore X8 hx 194 #[.val (.int p0), .val (.int p1), .val (.int p2), .val (.int p3), .val (.int 1), .val (.int 1), .val (.int 0), .val (.int (p1 &&& (255 : Int32))), .val (.int (p2 &&& (255 : Int32))), .val (.int (p3 &&& (255 : Int32))), .val (.ref a1), .val (.ref a4), .val (.ref a9)] (hb hby at_192) rfl rfl rfl ?_
  refine P.aload X8 hx 196 (hb hby at_194) rfl rfl rfl ?_
  refine P.ifnonnullYes X8 hx 201 (hb hby at_196) (by decide) (by decide) ?_
  refine P.aload X8 hx 203 (hb hby at_201) rfl rfl rfl ?_
  refine X8.callV hx (w134 cx) (w28 cx) (w30 cx) (w29 cx) (fun _ hZ => nf hZ (w30 cx)) (by decide) S15.1 (pay_len (W := 0) (hln cx) (w2 cx) S15 (X8.sta (S_C cx)) (N_C cx) (nle rfl) (nle rfl)) (by rw [hml]; rfl) (argsL := []) (rest := []) (lenOf pd7 rfl) rfl rfl (Nat.le_of_eq rfl) (hb hby at_203) (nle rfl) (nle rfl) ?_
  rintro T16 h16 _ _ _ X16 ⟨rfl, rfl, rfl, J16⟩
  rw [J16] at X16
  show Wo _ _ _ _ _ _ _ _ _ _ _ T16 (mkF m 206 #[.val (.int p0), .val (.int p1), .val (.int p2), .val (.int p3), .val (.int 1), .val (.int 1), .val (.int 0), .val (.int (p1 &&& (255 : Int32))), .val (.int (p2 &&& (255 : Int32))), .val (.int (p3 &&& (255 : Int32))), .val (.ref a1), .val (.ref a4), .val (.ref a9)] [.int 38])
  refine P.iload X16 hx 208 (hb hby at_206) rfl rfl ?_
  refine P.aload X16 hx 210 (hb hby at_208) rfl rfl rfl ?_
  have F17 : Exa Z h8 a4 "java/lang/String" := (S6.1.keep J8)
  have F18 : StrL Z h8 a4 b4 [(32 : Int32), 111, 102, 102, 115, 101, 116, 32, 63, 32, 114, 111, 119, 115, 32, 102, 101, 116, 99, 104, 32, 102, 105, 114, 115, 116, 32, 63, 32, 114, 111, 119, 115, 32, 111, 110, 108, 121] := (S6.keep J8 nin0 nin0)
  refine X16.callV hx (w134 cx) (w28 cx) (w30 cx) (w29 cx) (fun _ hZ => nf hZ (w30 cx)) (by decide) F17 (pay_len (W := 2) (hln cx) (w2 cx) F18 (X16.sta (S_C cx)) (N_C cx) (nle rfl) (nle rfl)) (by rw [hml]; rfl) (argsL := []) (rest := [.int 0, .int 38]) (lenOf pd7 rfl) rfl rfl (Nat.le_of_eq rfl) (hb hby at_210) (nle rfl) (nle rfl) ?_
  rintro T19 h19 _ _ _ X19 ⟨rfl, rfl, rfl, J19⟩
  rw [J19] at X19
  show Wo _ _ _ _ _ _ _ _ _ _ _ T19 (mkF m 213 #[.val (.int p0), .val (.int p1), .val (.int p2), .val (.int p3), .val (.int 1), .val (.int 1), .val (.int 0), .val (.int (p1 &&& (255 : Int32))), .val (.int (p2 &&& (255 : Int32))), .val (.int (p3 &&& (255 : Int32))), .val (.ref a1), .val (.ref a4), .val (.ref a9)] [.int 38, .int 0, .int 38])
  refine P.iadd X19 hx 214 (z := (38 : Int32)) (hb hby at_213) rfl rfl ?_
  refine P.icmpNo X19 hx 217 (hb hby at_214) (by decide) rfl ?_
  refine P.iload X19 hx 219 (hb hby at_217) rfl rfl ?_
  refine P.iconst X19 hx 220 1 (hb hby at_219) rfl rfl ?_
  refine P.icmpYes X19 hx 234 (hb hby at_220) (by decide) (by decide) (by decide) ?_
  refine P.iload X19 hx 236 (hb hby at_234) rfl rfl ?_
  refine P.iconst X19 hx 237 2 (hb hby at_236) rfl rfl ?_
  refine P.icmpYes X19 hx 251 (hb hby at_237) (by decide) (by decide) (by decide) ?_
  refine P.iload X19 hx 253 (hb hby at_251) rfl rfl ?_
  refine P.iconst X19 hx 254 3 (hb hby at_253) rfl rfl ?_
  refine P.icmpYes X19 hx 268 (hb hby at_254) (by decide) (by decide) (by decide) ?_
  refine P.aload X19 hx 270 (hb hby at_268) rfl rfl rfl ?_
  refine P.iload X19 hx 272 (hb hby at_270) rfl rfl ?_
  refine P.aload X19 hx 274 (hb hby at_272) rfl rfl rfl ?_
  refine P.iconst X19 hx 275 0 (hb hby at_274) rfl rfl ?_
  refine X19.callS hx (w135 cx) (w136 cx) (w137 cx) (w138 cx) (by decide) (Ct.pay (W := 0) (ct_quad cx a9 a10 a4 b4 ([]) ([(32 : Int32), 111, 102, 102, 115, 101, 116, 32, 63, 32, 114, 111, 119, 115, 32, 102, 101, 116, 99, 104, 32, 102, 105, 114, 115, 116, 32, 63, 32, 114, 111, 119, 115, 32, 111, 110, 108, 121]) (0 : Int32) 0 (0 : Int32) h8 _ _ S15 F18 rfl rfl (nle rfl) (nle rfl)) (w138 cx) (w137 cx) (nle rfl) (nle rfl)) (by rw [hml]; rfl) (argsL := [.ref a9, .int 0, .ref a4, .int 0]) (rest := []) (lenOf pd23 rfl) rfl rfl (Nat.le_of_eq rfl) (hb hby at_275) (nle rfl) (nle rfl) ?_
  rintro T20 h20 _ _ _ X20 ⟨rfl, rfl, rfl, J20⟩
  rw [J20] at X20
  refine P.ifNo X20 hx 281 (hb hby at_278) (by decide) rfl ?_
  refine P.aload X20 hx 283 (hb hby at_281) rfl rfl rfl ?_
  refine P.iload X20 hx 285 (hb hby at_283) rfl rfl ?_
  refine P.aload X20 hx 287 (hb hby at_285) rfl rfl rfl ?_
  refine P.iconst X20 hx 288 4 (hb hby at_287) rfl rfl ?_
  refine X20.callS hx (w135 cx) (w136 cx) (w137 cx) (w138 cx) (by decide) (Ct.pay (W := 0) (ct_quad cx a9 a10 a4 b4 ([]) ([(32 : Int32), 111, 102, 102, 115, 101, 116, 32, 63, 32, 114, 111, 119, 115, 32, 102, 101, 116, 99, 104, 32, 102, 105, 114, 115, 116, 32, 63, 32, 114, 111, 119, 115, 32, 111, 110, 108, 121]) (0 : Int32) 4 (4 : Int32) h8 _ _ S15 F18 rfl rfl (nle rfl) (nle rfl)) (w138 cx) (w137 cx) (nle rfl) (nle rfl)) (by rw [hml]; rfl) (argsL := [.ref a9, .int 0, .ref a4, .int 4]) (rest := []) (lenOf pd23 rfl) rfl rfl (Nat.le_of_eq rfl) (hb hby at_288) (nle rfl) (nle rfl) ?_
  rintro T21 h21 _ _ _ X21 ⟨rfl, rfl, rfl, J21⟩
  rw [J21] at X21
  refine P.ifNo X21 hx 294 (hb hby at_291) (by decide) rfl ?_
  refine P.aload X21 hx 296 (hb hby at_294) rfl rfl rfl ?_
  refine P.iload X21 hx 298 (hb hby at_296) rfl rfl ?_
  refine P.aload X21 hx 300 (hb hby at_298) rfl rfl rfl ?_
  refine P.bipush X21 hx 302 8 (hb hby at_300) rfl rfl ?_
  refine X21.callS hx (w135 cx) (w136 cx) (w137 cx) (w138 cx) (by decide) (Ct.pay (W := 0) (ct_quad cx a9 a10 a4 b4 ([]) ([(32 : Int32), 111, 102, 102, 115, 101, 116, 32, 63, 32, 114, 111, 119, 115, 32, 102, 101, 116, 99, 104, 32, 102, 105, 114, 115, 116, 32, 63, 32, 114, 111, 119, 115, 32, 111, 110, 108, 121]) (0 : Int32) 8 (8 : Int32) h8 _ _ S15 F18 rfl rfl (nle rfl) (nle rfl)) (w138 cx) (w137 cx) (nle rfl) (nle rfl)) (by rw [hml]; rfl) (argsL := [.ref a9, .int 0, .ref a4, .int 8]) (rest := []) (lenOf pd23 rfl) rfl rfl (Nat.le_of_eq rfl) (hb hby at_302) (nle rfl) (nle rfl) ?_
  rintro T22 h22 _ _ _ X22 ⟨rfl, rfl, rfl, J22⟩
  rw [J22] at X22
  refine P.ifNo X22 hx 308 (hb hby at_305) (by decide) rfl ?_
  refine P.aload X22 hx 310 (hb hby at_308) rfl rfl rfl ?_
  refine P.iload X22 hx 312 (hb hby at_310) rfl rfl ?_
  refine P.aload X22 hx 314 (hb hby at_312) rfl rfl rfl ?_
  refine P.bipush X22 hx 316 12 (hb hby at_314) rfl rfl ?_
  refine X22.callS hx (w135 cx) (w136 cx) (w137 cx) (w138 cx) (by decide) (Ct.pay (W := 0) (ct_quad cx a9 a10 a4 b4 ([]) ([(32 : Int32), 111, 102, 102, 115, 101, 116, 32, 63, 32, 114, 111, 119, 115, 32, 102, 101, 116, 99, 104, 32, 102, 105, 114, 115, 116, 32, 63, 32, 114, 111, 119, 115, 32, 111, 110, 108, 121]) (0 : Int32) 12 (12 : Int32) h8 _ _ S15 F18 rfl rfl (nle rfl) (nle rfl)) (w138 cx) (w137 cx) (nle rfl) (nle rfl)) (by rw [hml]; rfl) (argsL := [.ref a9, .int 0, .ref a4, .int 12]) (rest := []) (lenOf pd23 rfl) rfl rfl (Nat.le_of_eq rfl) (hb hby at_316) (nle rfl) (nle rfl) ?_
  rintro T23 h23 _ _ _ X23 ⟨rfl, rfl, rfl, J23⟩
  rw [J23] at X23
  refine P.ifNo X23 hx 322 (hb hby at_319) (by decide) rfl ?_
  refine P.aload X23 hx 324 (hb hby at_322) rfl rfl rfl ?_
  refine P.iload X23 hx 326 (hb hby at_324) rfl rfl ?_
  refine P.aload X23 hx 328 (hb hby at_326) rfl rfl rfl ?_
  refine P.bipush X23 hx 330 16 (hb hby at_328) rfl rfl ?_
  refine X23.callS hx (w135 cx) (w136 cx) (w137 cx) (w138 cx) (by decide) (Ct.pay (W := 0) (ct_quad cx a9 a10 a4 b4 ([]) ([(32 : Int32), 111, 102, 102, 115, 101, 116, 32, 63, 32, 114, 111, 119, 115, 32, 102, 101, 116, 99, 104, 32, 102, 105, 114, 115, 116, 32, 63, 32, 114, 111, 119, 115, 32, 111, 110, 108, 121]) (0 : Int32) 16 (16 : Int32) h8 _ _ S15 F18 rfl rfl (nle rfl) (nle rfl)) (w138 cx) (w137 cx) (nle rfl) (nle rfl)) (by rw [hml]; rfl) (argsL := [.ref a9, .int 0, .ref a4, .int 16]) (rest := []) (lenOf pd23 rfl) rfl rfl (Nat.le_of_eq rfl) (hb hby at_330) (nle rfl) (nle rfl) ?_
  rintro T24 h24 _ _ _ X24 ⟨rfl, rfl, rfl, J24⟩
  rw [J24] at X24
  refine P.ifNo X24 hx 336 (hb hby at_333) (by decide) rfl ?_
  refine P.aload X24 hx 338 (hb hby at_336) rfl rfl rfl ?_
  refine P.iload X24 hx 340 (hb hby at_338) rfl rfl ?_
  refine P.aload X24 hx 342 (hb hby at_340) rfl rfl rfl ?_
  refine P.bipush X24 hx 344 20 (hb hby at_342) rfl rfl ?_
  refine X24.callS hx (w135 cx) (w136 cx) (w137 cx) (w138 cx) (by decide) (Ct.pay (W := 0) (ct_quad cx a9 a10 a4 b4 ([]) ([(32 : Int32), 111, 102, 102, 115, 101, 116, 32, 63, 32, 114, 111, 119, 115, 32, 102, 101, 116, 99, 104, 32, 102, 105, 114, 115, 116, 32, 63, 32, 114, 111, 119, 115, 32, 111, 110, 108, 121]) (0 : Int32) 20 (20 : Int32) h8 _ _ S15 F18 rfl rfl (nle rfl) (nle rfl)) (w138 cx) (w137 cx) (nle rfl) (nle rfl)) (by rw [hml]; rfl) (argsL := [.ref a9, .int 0, .ref a4, .int 20]) (rest := []) (lenOf pd23 rfl) rfl rfl (Nat.le_of_eq rfl) (hb hby at_344) (nle rfl) (nle rfl) ?_
  rintro T25 h25 _ _ _ X25 ⟨rfl, rfl, rfl, J25⟩
  rw [J25] at X25
  refine P.ifNo X25 hx 350 (hb hby at_347) (by decide) rfl ?_
  refine P.aload X25 hx 352 (hb hby at_350) rfl rfl rfl ?_
  refine P.iload X25 hx 354 (hb hby at_352) rfl rfl ?_
  refine P.aload X25 hx 356 (hb hby at_354) rfl rfl rfl ?_
  refine P.bipush X25 hx 358 24 (hb hby at_356) rfl rfl ?_
  refine X25.callS hx (w135 cx) (w136 cx) (w137 cx) (w138 cx) (by decide) (Ct.pay (W := 0) (ct_quad cx a9 a10 a4 b4 ([]) ([(32 : Int32), 111, 102, 102, 115, 101, 116, 32, 63, 32, 114, 111, 119, 115, 32, 102, 101, 116, 99, 104, 32, 102, 105, 114, 115, 116, 32, 63, 32, 114, 111, 119, 115, 32, 111, 110, 108, 121]) (0 : Int32) 24 (24 : Int32) h8 _ _ S15 F18 rfl rfl (nle rfl) (nle rfl)) (w138 cx) (w137 cx) (nle rfl) (nle rfl)) (by rw [hml]; rfl) (argsL := [.ref a9, .int 0, .ref a4, .int 24]) (rest := []) (lenOf pd23 rfl) rfl rfl (Nat.le_of_eq rfl) (hb hby at_358) (nle rfl) (nle rfl) ?_
  rintro T26 h26 _ _ _ X26 ⟨rfl, rfl, rfl, J26⟩
  rw [J26] at X26
  refine P.ifNo X26 hx 364 (hb hby at_361) (by decide) rfl ?_
  refine P.aload X26 hx 366 (hb hby at_364) rfl rfl rfl ?_
  refine P.iload X26 hx 368 (hb hby at_366) rfl rfl ?_
  refine P.aload X26 hx 370 (hb hby at_368) rfl rfl rfl ?_
  refine P.bipush X26 hx 372 28 (hb hby at_370) rfl rfl ?_
  refine X26.callS hx (w135 cx) (w136 cx) (w137 cx) (w138 cx) (by decide) (Ct.pay (W := 0) (ct_quad cx a9 a10 a4 b4 ([]) ([(32 : Int32), 111, 102, 102, 115, 101, 116, 32, 63, 32, 114, 111, 119, 115, 32, 102, 101, 116, 99, 104, 32, 102, 105, 114, 115, 116, 32, 63, 32, 114, 111, 119, 115, 32, 111, 110, 108, 121]) (0 : Int32) 28 (28 : Int32) h8 _ _ S15 F18 rfl rfl (nle rfl) (nle rfl)) (w138 cx) (w137 cx) (nle rfl) (nle rfl)) (by rw [hml]; rfl) (argsL := [.ref a9, .int 0, .ref a4, .int 28]) (rest := []) (lenOf pd23 rfl) rfl rfl (Nat.le_of_eq rfl) (hb hby at_372) (nle rfl) (nle rfl) ?_
  rintro T27 h27 _ _ _ X27 ⟨rfl, rfl, rfl, J27⟩
  rw [J27] at X27
  refine P.ifNo X27 hx 378 (hb hby at_375) (by decide) rfl ?_
  refine P.aload X27 hx 380 (hb hby at_378) rfl rfl rfl ?_
  refine P.iload X27 hx 382 (hb hby at_380) rfl rfl ?_
  refine P.aload X27 hx 384 (hb hby at_382) rfl rfl rfl ?_
  refine P.bipush X27 hx 386 32 (hb hby at_384) rfl rfl ?_
  refine X27.callS hx (w135 cx) (w136 cx) (w137 cx) (w138 cx) (by decide) (Ct.pay (W := 0) (ct_quad cx a9 a10 a4 b4 ([]) ([(32 : Int32), 111, 102, 102, 115, 101, 116, 32, 63, 32, 114, 111, 119, 115, 32, 102, 101, 116, 99, 104, 32, 102, 105, 114, 115, 116, 32, 63, 32, 114, 111, 119, 115, 32, 111, 110, 108, 121]) (0 : Int32) 32 (32 : Int32) h8 _ _ S15 F18 rfl rfl (nle rfl) (nle rfl)) (w138 cx) (w137 cx) (nle rfl) (nle rfl)) (by rw [hml]; rfl) (argsL := [.ref a9, .int 0, .ref a4, .int 32]) (rest := []) (lenOf pd23 rfl) rfl rfl (Nat.le_of_eq rfl) (hb hby at_386) (nle rfl) (nle rfl) ?_
  rintro T28 h28 _ _ _ X28 ⟨rfl, rfl, rfl, J28⟩
  rw [J28] at X28
  refine P.ifNo X28 hx 392 (hb hby at_389) (by decide) rfl ?_
  refine P.aload X28 hx 394 (hb hby at_392) rfl rfl rfl ?_
  refine P.iload X28 hx 396 (hb hby at_394) rfl rfl ?_
  refine P.aload X28 hx 398 (hb hby at_396) rfl rfl rfl ?_
  refine P.bipush X28 hx 400 36 (hb hby at_398) rfl rfl ?_
  refine X28.callS hx (w135 cx) (w136 cx) (w137 cx) (w138 cx) (by decide) (Ct.pay (W := 0) (ct_quad cx a9 a10 a4 b4 ([]) ([(32 : Int32), 111, 102, 102, 115, 101, 116, 32, 63, 32, 114, 111, 119, 115, 32, 102, 101, 116, 99, 104, 32, 102, 105, 114, 115, 116, 32, 63, 32, 114, 111, 119, 115, 32, 111, 110, 108, 121]) (0 : Int32) 36 (36 : Int32) h8 _ _ S15 F18 rfl rfl (nle rfl) (nle rfl)) (w138 cx) (w137 cx) (nle rfl) (nle rfl)) (by rw [hml]; rfl) (argsL := [.ref a9, .int 0, .ref a4, .int 36]) (rest := []) (lenOf pd23 rfl) rfl rfl (Nat.le_of_eq rfl) (hb hby at_400) (nle rfl) (nle rfl) ?_
  rintro T29 h29 _ _ _ X29 ⟨rfl, rfl, rfl, J29⟩
  rw [J29] at X29
  refine P.ifNo X29 hx 406 (hb hby at_403) (by decide) rfl ?_
  refine P.iconst X29 hx 407 1 (hb hby at_406) rfl rfl ?_
  refine P.goto X29 hx 411 (hb hby at_407) (by decide) (by decide) ?_
  have X30 := WS.drop (A := []) (B := WL) X29
  have X31 := WS.fl (FL2 := FL) X30 (fun y hy => (List.mem_append_right [a9, a10, a4, b4, a1, b1] hy))
  exact WS.retN X31 (WL' := []) (FL' := []) hx (t := .boolean) hret (by simp) hlk (hb hby at_411) (nle rfl) (nle rfl) ⟨rfl, rfl, rfl, K14⟩
set_option maxRecDepth 65536 in
set_option maxHeartbeats 4000000 in
theorem ct_law_100 {l : Launch} {Z : State} {a0 : Array Value} {gC : Int32} {gF : Value} (cx : Cx a0 Z gC gF) {n0 : Nat} (p0 : Int32) (p1 : Int32) (p2 : Int32) (p3 : Int32) (h : Heap) (WL FL : List Addr)  (en : (((p0.toUInt32 >>> ((2 : Int32) &&& 31).toUInt32).toInt32) &&& (3 : Int32)) = (1 : Int32)) (es : (p0 &&& (1 : Int32)) = (0 : Int32)) (el : (p0 &&& (2 : Int32)) = (0 : Int32)) :
    Ct l Z EL1 n0 x code maxLocals ret room_1 #[(.int p0), (.int p1), (.int p2), (.int p3)] h WL FL (Q_law Z gC gF p0 p1 p2 p3 h) := by
  refine Ct.of (plainFor_of_name pn7) ?_
  intro p e s m below meth c s1 hx hby hml hnm hret hlk X0
  refine Wo.cast (f' := (mkF m 0 #[.val (.int p0), .val (.int p1), .val (.int p2), .val (.int p3), .unset, .unset, .unset, .unset, .unset, .unset, .unset, .unset, .unset] [])) (by first | rfl | (simp [entryFrame, mkF, argsToLocals, Value.category]; done)) ?_
  have K0 : Keep h h [] := Keep.refl _ _
  show Wo _ _ _ _ _ _ _ _ _ _ _ s1 (mkF m 0 #[.val (.int p0), .val (.int p1), .val (.int p2), .val (.int p3), .unset, .unset, .unset, .unset, .unset, .unset, .unset, .unset, .unset] [])
  refine P.iloadN X0 hx 1 (hb hby at_0) rfl rfl ?_
  refine P.iconst X0 hx 2 1 (hb hby at_1) rfl rfl ?_
  refine P.iand X0 hx 3 (z := (p0 &&& (1 : Int32))) (hb hby at_2) rfl rfl ?_
  refine P.ifYes X0 hx 10 (hb hby at_3) ((if0 _ _).trans (teq es).1) (by decide) (by decide) ?_
  refine P.iconst X0 hx 11 0 (hb hby at_10) rfl rfl ?_
  refine P.istore X0 hx 13 #[.val (.int p0), .val (.int p1), .val (.int p2), .val (.int p3), .val (.int 0), .unset, .unset, .unset, .unset, .unset, .unset, .unset, .unset] (hb hby at_11) rfl rfl ?_
  refine P.iloadN X0 hx 14 (hb hby at_13) rfl rfl ?_
  refine P.iconst X0 hx 15 2 (hb hby at_14) rfl rfl ?_
  refine P.iand X0 hx 16 (z := (p0 &&& (2 : Int32))) (hb hby at_15) rfl rfl ?_
  refine P.ifYes X0 hx 23 (hb hby at_16) ((if0 _ _).trans (teq el).1) (by decide) (by decide) ?_
  refine P.iconst X0 hx 24 0 (hb hby at_23) rfl rfl ?_
  refine P.istore X0 hx 26 #[.val (.int p0), .val (.int p1), .val (.int p2), .val (.int p3), .val (.int 0), .val (.int 0), .unset, .unset, .unset, .unset, .unset, .unset, .unset] (hb hby at_24) rfl rfl ?_
  refine P.iloadN X0 hx 27 (hb hby at_26) rfl rfl ?_
  refine P.iconst X0 hx 28 2 (hb hby at_27) rfl rfl ?_
  refine P.iushr X0 hx 29 (z := ((p0.toUInt32 >>> ((2 : Int32) &&& 31).toUInt32).toInt32)) (hb hby at_28) rfl rfl ?_
  refine P.iconst X0 hx 30 3 (hb hby at_29) rfl rfl ?_
  refine P.iand X0 hx 31 (z := (1 : Int32)) (hb hby at_30) (by rw [en]) rfl ?_
  refine P.istore X0 hx 33 #[.val (.int p0), .val (.int p1), .val (.int p2), .val (.int p3), .val (.int 0), .val (.int 0), .val (.int 1), .unset, .unset, .unset, .unset, .unset, .unset] (hb hby at_31) rfl rfl ?_
  refine P.iloadN X0 hx 34 (hb hby at_33) rfl rfl ?_
  refine P.sipush X0 hx 37 255 (hb hby at_34) rfl rfl ?_
  refine P.iand X0 hx 38 (z := (p1 &&& (255 : Int32))) (hb hby at_37) rfl rfl ?_
  refine P.i2c X0 hx 39 (z := (p1 &&& (255 : Int32))) (hb hby at_38) (by rw [i2c_mask]) rfl ?_
  refine P.istore X0 hx 41 #[.val (.int p0), .val (.int p1), .val (.int p2), .val (.int p3), .val (.int 0), .val (.int 0), .val (.int 1), .val (.int (p1 &&& (255 : Int32))), .unset, .unset, .unset, .unset, .unset] (hb hby at_39) rfl rfl ?_
  refine P.iloadN X0 hx 42 (hb hby at_41) rfl rfl ?_
  refine P.sipush X0 hx 45 255 (hb hby at_42) rfl rfl ?_
  refine P.iand X0 hx 46 (z := (p2 &&& (255 : Int32))) (hb hby at_45) rfl rfl ?_
  refine P.i2c X0 hx 47 (z := (p2 &&& (255 : Int32))) (hb hby at_46) (by rw [i2c_mask]) rfl ?_
  refine P.istore X0 hx 49 #[.val (.int p0), .val (.int p1), .val (.int p2), .val (.int p3), .val (.int 0), .val (.int 0), .val (.int 1), .val (.int (p1 &&& (255 : Int32))), .val (.int (p2 &&& (255 : Int32))), .unset, .unset, .unset, .unset] (hb hby at_47) rfl rfl ?_
  refine P.iloadN X0 hx 50 (hb hby at_49) rfl rfl ?_
  refine P.sipush X0 hx 53 255 (hb hby at_50) rfl rfl ?_
  refine P.iand X0 hx 54 (z := (p3 &&& (255 : Int32))) (hb hby at_53) rfl rfl ?_
  refine P.i2c X0 hx 55 (z := (p3 &&& (255 : Int32))) (hb hby at_54) (by rw [i2c_mask]) rfl ?_
  refine P.istore X0 hx 57 #[.val (.int p0), .val (.int p1), .val (.int p2), .val (.int p3), .val (.int 0), .val (.int 0), .val (.int 1), .val (.int (p1 &&& (255 : Int32))), .val (.int (p2 &&& (255 : Int32))), .val (.int (p3 &&& (255 : Int32))), .unset, .unset, .unset] (hb hby at_55) rfl rfl ?_
  refine P.iload X0 hx 59 (hb hby at_57) rfl rfl ?_
  refine P.ifYes X0 hx 69 (hb hby at_59) (by decide) (by decide) (by decide) ?_
  refine P.iload X0 hx 71 (hb hby at_69) rfl rfl ?_
  refine P.iconst X0 hx 72 1 (hb hby at_71) rfl rfl ?_
  refine P.icmpNo X0 hx 75 (hb hby at_72) (by decide) rfl ?_
  refine P.iload X0 hx 77 (hb hby at_75) rfl rfl ?_
  refine X0.callS hx (w214 cx) (w215 cx) (w1 cx) (w216 cx) (by decide) (Ct.pay (W := 0) (ct_valC cx (p1 &&& (255 : Int32)) h _ _ (rng255 _)) (w216 cx) (w1 cx) (nle rfl) (nle rfl)) (by rw [hml]; rfl) (argsL := [.int (p1 &&& (255 : Int32))]) (rest := []) (lenOf pd25 rfl) rfl rfl (Nat.le_of_eq rfl) (hb hby at_77) (nle rfl) (nle rfl) ?_
  rintro T1 h1 _ _ _ X1 ⟨a2, a3, rfl, rfl, rfl, J1, g5, G4⟩
  have ge6 : h.size ≤ a2 := Nat.le_trans K0.1 g5
  have K7 : Keep h h1 [] := K0.trans J1 all0
  refine P.astore X1 hx 82 #[.val (.int p0), .val (.int p1), .val (.int p2), .val (.int p3), .val (.int 0), .val (.int 0), .val (.int 1), .val (.int (p1 &&& (255 : Int32))), .val (.int (p2 &&& (255 : Int32))), .val (.int (p3 &&& (255 : Int32))), .val (.ref a2), .unset, .unset] (hb hby at_80) rfl rfl rfl ?_
  refine P.goto X1 hx 143 (hb hby at_82) (by decide) (by decide) ?_
  have X8 := WS.drop (A := []) (B := WL) X1
  refine P.iload X8 hx 145 (hb hby at_143) rfl rfl ?_
  refine P.ifYes X8 hx 167 (hb hby at_145) (by decide) (by decide) (by decide) ?_
  refine P.iload X8 hx 169 (hb hby at_167) rfl rfl ?_
  refine P.ifYes X8 hx 179 (hb hby at_169) (by decide) (by decide) (by decide) ?_
  refine X8.ldc hx (w0 cx) (strAtoms cx) (by decide) (vs := []) (z := (0 : Int32)) ⟨by decide, by decide⟩ (by decide) rfl (hb hby at_179) (n := 0) (nle rfl) (nle rfl) (nle rfl) (nle rfl) ?_
  intro T9 h9 a9 b9 k9 X9 E9 A9 C9 V9 B9
  have K10 : Keep h h9 [] := K7.ext E9
  refine P.astore X9 hx 183 #[.val (.int p0), .val (.int p1), .val (.int p2), .val (.int p3), .val (.int 0), .val (.int 0), .val (.int 1), .val (.int (p1 &&& (255 : Int32))), .val (.int (p2 &&& (255 : Int32))), .val (.int (p3 &&& (255 : Int32))), .val (.ref a2), .val (.ref a9), .unset] (hb hby at_181) rfl rfl rfl ?_
  have S11 : StrL Z h9 a9 b9 [] := ⟨A9, V9, C9, ⟨_, B9⟩, (by decide), nle rfl⟩
  refine P.aload X9 hx 185 (hb hby at_183) rfl rfl rfl ?_
  refine P.iload X9 hx 187 (hb hby at_185) rfl rfl ?_
  refine P.iload X9 hx 189 (hb hby at_187) rfl rfl ?_
  have F12 : StrL Z h9 a2 a3 [(p1 &&& (255 : Int32))] := (G4.ext E9)
  refine X9.callS hx (w8 cx) (w9 cx) (w10 cx) (w11 cx) (by decide) (Ct.pay (W := 0) (ct_pag00 cx a2 a3 ([(p1 &&& (255 : Int32))]) h9 _ _ F12 (List.mem_of_getElem? (i := 2) rfl) (List.mem_of_getElem? (i := 3) rfl) (nle rfl)) (w11 cx) (w10 cx) (nle rfl) (nle rfl)) (by rw [hml]; rfl) (argsL := [.ref a2, .int 0, .int 0]) (rest := []) (lenOf pd24 rfl) rfl rfl (Nat.le_of_eq rfl) (hb hby at_189) (nle rfl) (nle rfl) ?_
  rintro T13 h13 _ _ _ X13 ⟨a14, a15, rfl, rfl, rfl, J13, g17, G16⟩
  have ge18 : h.size ≤ a14 := Nat.le_trans K10.1 g17
  have K19 : Keep h h13 [] := K10.trans J13 all0
  have S20 : StrL Z h13 a14 a15 [(p1 &&& (255 : Int32))] := G16
  refine P.astore X13 hx 194 #[.val (.int p0), .val (.int p1), .val (.int p2), .val (.int p3), .val (.int 0), .val (.int 0), .val (.int 1), .val (.int (p1 &&& (255 : Int32))), .val (.int (p2 &&& (255 : Int32))), .val (.int (p3 &&& (255 : Int32))), .val (.ref a2), .val (.ref a9), .val (.ref a14)] (hb hby at_192) rfl rfl rfl ?_
  refine P.aload X13 hx 196 (hb hby at_194) rfl rfl rfl ?_
  refine P.ifnonnullYes X13 hx 201 (hb hby at_196) (by decide) (by decide) ?_
  refine P.aload X13 hx 203 (hb hby at_201) rfl rfl rfl ?_
  refine X13.callV hx (w134 cx) (w28 cx) (w30 cx) (w29 cx) (fun _ hZ => nf hZ (w30 cx)) (by decide) S20.1 (pay_len (W := 0) (hln cx) (w2 cx) S20 (X13.sta (S_C cx)) (N_C cx) (nle rfl) (nle rfl)) (by rw [hml]; rfl) (argsL := []) (rest := []) (lenOf pd7 rfl) rfl rfl (Nat.le_of_eq rfl) (hb hby at_203) (nle rfl) (nle rfl) ?_
  rintro T21 h21 _ _ _ X21 ⟨rfl, rfl, rfl, J21⟩
  rw [J21] at X21
  show Wo _ _ _ _ _ _ _ _ _ _ _ T21 (mkF m 206 #[.val (.int p0), .val (.int p1), .val (.int p2), .val (.int p3), .val (.int 0), .val (.int 0), .val (.int 1), .val (.int (p1 &&& (255 : Int32))), .val (.int (p2 &&& (255 : Int32))), .val (.int (p3 &&& (255 : Int32))), .val (.ref a2), .val (.ref a9), .val (.ref a14)] [.int 1])
  refine P.iload X21 hx 208 (hb hby at_206) rfl rfl ?_
  refine P.aload X21 hx 210 (hb hby at_208) rfl rfl rfl ?_
  have F22 : Exa Z h13 a9 "java/lang/String" := (S11.1.keep J13)
  have F23 : StrL Z h13 a9 b9 [] := (S11.keep J13 nin0 nin0)
  refine X21.callV hx (w134 cx) (w28 cx) (w30 cx) (w29 cx) (fun _ hZ => nf hZ (w30 cx)) (by decide) F22 (pay_len (W := 2) (hln cx) (w2 cx) F23 (X21.sta (S_C cx)) (N_C cx) (nle rfl) (nle rfl)) (by rw [hml]; rfl) (argsL := []) (rest := [.int 1, .int 1]) (lenOf pd7 rfl) rfl rfl (Nat.le_of_eq rfl) (hb hby at_210) (nle rfl) (nle rfl) ?_
  rintro T24 h24 _ _ _ X24 ⟨rfl, rfl, rfl, J24⟩
  rw [J24] at X24
  show Wo _ _ _ _ _ _ _ _ _ _ _ T24 (mkF m 213 #[.val (.int p0), .val (.int p1), .val (.int p2), .val (.int p3), .val (.int 0), .val (.int 0), .val (.int 1), .val (.int (p1 &&& (255 : Int32))), .val (.int (p2 &&& (255 : Int32))), .val (.int (p3 &&& (255 : Int32))), .val (.ref a2), .val (.ref a9), .val (.ref a14)] [.int 0, .int 1, .int 1])
  refine P.iadd X24 hx 214 (z := (1 : Int32)) (hb hby at_213) rfl rfl ?_
  refine P.icmpNo X24 hx 217 (hb hby at_214) (by decide) rfl ?_
  refine P.iload X24 hx 219 (hb hby at_217) rfl rfl ?_
  refine P.iconst X24 hx 220 1 (hb hby at_219) rfl rfl ?_
  refine P.icmpNo X24 hx 223 (hb hby at_220) (by decide) rfl ?_
  refine P.aload X24 hx 225 (hb hby at_223) rfl rfl rfl ?_
  refine P.iconst X24 hx 226 0 (hb hby at_225) rfl rfl ?_
  refine X24.callV hx (w160 cx) (w161 cx) (w163 cx) (w162 cx) (fun _ hZ => nf hZ (w163 cx)) (by decide) S20.1 (pay_chr (W := 0) (hch cx) (w2 cx) S20 (X24.sta (S_C cx)) (N_C cx) (X24.sta (S_F cx)) (R_F cx) (i := 0) (nlt rfl) rfl (nle rfl) (nle rfl)) (by rw [hml]; rfl) (argsL := [.int 0]) (rest := []) (lenOf pd22 rfl) rfl rfl (Nat.le_of_eq rfl) (hb hby at_226) (nle rfl) (nle rfl) ?_
  rintro T25 h25 _ _ _ X25 ⟨rfl, rfl, rfl, J25⟩
  rw [J25] at X25
  show Wo _ _ _ _ _ _ _ _ _ _ _ T25 (mkF m 229 #[.val (.int p0), .val (.int p1), .val (.int p2), .val (.int p3), .val (.int 0), .val (.int 0), .val (.int 1), .val (.int (p1 &&& (255 : Int32))), .val (.int (p2 &&& (255 : Int32))), .val (.int (p3 &&& (255 : Int32))), .val (.ref a2), .val (.ref a9), .val (.ref a14)] [.int (p1 &&& (255 : Int32))])
  refine P.iload X25 hx 231 (hb hby at_229) rfl rfl ?_
  refine P.icmpNo X25 hx 234 (hb hby at_231) (teq rfl).2 rfl ?_
  refine P.iload X25 hx 236 (hb hby at_234) rfl rfl ?_
  refine P.iconst X25 hx 237 2 (hb hby at_236) rfl rfl ?_
  refine P.icmpYes X25 hx 251 (hb hby at_237) (by decide) (by decide) (by decide) ?_
  refine P.iload X25 hx 253 (hb hby at_251) rfl rfl ?_
  refine P.iconst X25 hx 254 3 (hb hby at_253) rfl rfl ?_
  refine P.icmpYes X25 hx 268 (hb hby at_254) (by decide) (by decide) (by decide) ?_
  refine P.aload X25 hx 270 (hb hby at_268) rfl rfl rfl ?_
  refine P.iload X25 hx 272 (hb hby at_270) rfl rfl ?_
  refine P.aload X25 hx 274 (hb hby at_272) rfl rfl rfl ?_
  refine P.iconst X25 hx 275 0 (hb hby at_274) rfl rfl ?_
  refine X25.callS hx (w135 cx) (w136 cx) (w137 cx) (w138 cx) (by decide) (Ct.pay (W := 0) (ct_quad cx a14 a15 a9 b9 ([(p1 &&& (255 : Int32))]) ([]) (1 : Int32) 0 (0 : Int32) h13 _ _ S20 F23 rfl rfl (nle rfl) (nle rfl)) (w138 cx) (w137 cx) (nle rfl) (nle rfl)) (by rw [hml]; rfl) (argsL := [.ref a14, .int 1, .ref a9, .int 0]) (rest := []) (lenOf pd23 rfl) rfl rfl (Nat.le_of_eq rfl) (hb hby at_275) (nle rfl) (nle rfl) ?_
  rintro T26 h26 _ _ _ X26 ⟨rfl, rfl, rfl, J26⟩
  rw [J26] at X26
  refine P.ifNo X26 hx 281 (hb hby at_278) (by decide) rfl ?_
  refine P.aload X26 hx 283 (hb hby at_281) rfl rfl rfl ?_
  refine P.iload X26 hx 285 (hb hby at_283) rfl rfl ?_
  refine P.aload X26 hx 287 (hb hby at_285) rfl rfl rfl ?_
  refine P.iconst X26 hx 288 4 (hb hby at_287) rfl rfl ?_
  refine X26.callS hx (w135 cx) (w136 cx) (w137 cx) (w138 cx) (by decide) (Ct.pay (W := 0) (ct_quad cx a14 a15 a9 b9 ([(p1 &&& (255 : Int32))]) ([]) (1 : Int32) 4 (4 : Int32) h13 _ _ S20 F23 rfl rfl (nle rfl) (nle rfl)) (w138 cx) (w137 cx) (nle rfl) (nle rfl)) (by rw [hml]; rfl) (argsL := [.ref a14, .int 1, .ref a9, .int 4]) (rest := []) (lenOf pd23 rfl) rfl rfl (Nat.le_of_eq rfl) (hb hby at_288) (nle rfl) (nle rfl) ?_
  rintro T27 h27 _ _ _ X27 ⟨rfl, rfl, rfl, J27⟩
  rw [J27] at X27
  refine P.ifNo X27 hx 294 (hb hby at_291) (by decide) rfl ?_
  refine P.aload X27 hx 296 (hb hby at_294) rfl rfl rfl ?_
  refine P.iload X27 hx 298 (hb hby at_296) rfl rfl ?_
  refine P.aload X27 hx 300 (hb hby at_298) rfl rfl rfl ?_
  refine P.bipush X27 hx 302 8 (hb hby at_300) rfl rfl ?_
  refine X27.callS hx (w135 cx) (w136 cx) (w137 cx) (w138 cx) (by decide) (Ct.pay (W := 0) (ct_quad cx a14 a15 a9 b9 ([(p1 &&& (255 : Int32))]) ([]) (1 : Int32) 8 (8 : Int32) h13 _ _ S20 F23 rfl rfl (nle rfl) (nle rfl)) (w138 cx) (w137 cx) (nle rfl) (nle rfl)) (by rw [hml]; rfl) (argsL := [.ref a14, .int 1, .ref a9, .int 8]) (rest := []) (lenOf pd23 rfl) rfl rfl (Nat.le_of_eq rfl) (hb hby at_302) (nle rfl) (nle rfl) ?_
  rintro T28 h28 _ _ _ X28 ⟨rfl, rfl, rfl, J28⟩
  rw [J28] at X28
  refine P.ifNo X28 hx 308 (hb hby at_305) (by decide) rfl ?_
  refine P.aload X28 hx 310 (hb hby at_308) rfl rfl rfl ?_
  refine P.iload X28 hx 312 (hb hby at_310) rfl rfl ?_
  refine P.aload X28 hx 314 (hb hby at_312) rfl rfl rfl ?_
  refine P.bipush X28 hx 316 12 (hb hby at_314) rfl rfl ?_
  refine X28.callS hx (w135 cx) (w136 cx) (w137 cx) (w138 cx) (by decide) (Ct.pay (W := 0) (ct_quad cx a14 a15 a9 b9 ([(p1 &&& (255 : Int32))]) ([]) (1 : Int32) 12 (12 : Int32) h13 _ _ S20 F23 rfl rfl (nle rfl) (nle rfl)) (w138 cx) (w137 cx) (nle rfl) (nle rfl)) (by rw [hml]; rfl) (argsL := [.ref a14, .int 1, .ref a9, .int 12]) (rest := []) (lenOf pd23 rfl) rfl rfl (Nat.le_of_eq rfl) (hb hby at_316) (nle rfl) (nle rfl) ?_
  rintro T29 h29 _ _ _ X29 ⟨rfl, rfl, rfl, J29⟩
  rw [J29] at X29
  refine P.ifNo X29 hx 322 (hb hby at_319) (by decide) rfl ?_
  refine P.aload X29 hx 324 (hb hby at_322) rfl rfl rfl ?_
  refine P.iload X29 hx 326 (hb hby at_324) rfl rfl ?_
  refine P.aload X29 hx 328 (hb hby at_326) rfl rfl rfl ?_
  refine P.bipush X29 hx 330 16 (hb hby at_328) rfl rfl ?_
  refine X29.callS hx (w135 cx) (w136 cx) (w137 cx) (w138 cx) (by decide) (Ct.pay (W := 0) (ct_quad cx a14 a15 a9 b9 ([(p1 &&& (255 : Int32))]) ([]) (1 : Int32) 16 (16 : Int32) h13 _ _ S20 F23 rfl rfl (nle rfl) (nle rfl)) (w138 cx) (w137 cx) (nle rfl) (nle rfl)) (by rw [hml]; rfl) (argsL := [.ref a14, .int 1, .ref a9, .int 16]) (rest := []) (lenOf pd23 rfl) rfl rfl (Nat.le_of_eq rfl) (hb hby at_330) (nle rfl) (nle rfl) ?_
  rintro T30 h30 _ _ _ X30 ⟨rfl, rfl, rfl, J30⟩
  rw [J30] at X30
  refine P.ifNo X30 hx 336 (hb hby at_333) (by decide) rfl ?_
  refine P.aload X30 hx 338 (hb hby at_336) rfl rfl rfl ?_
  refine P.iload X30 hx 340 (hb hby at_338) rfl rfl ?_
  refine P.aload X30 hx 342 (hb hby at_340) rfl rfl rfl ?_
  refine P.bipush X30 hx 344 20 (hb hby at_342) rfl rfl ?_
  refine X30.callS hx (w135 cx) (w136 cx) (w137 cx) (w138 cx) (by decide) (Ct.pay (W := 0) (ct_quad cx a14 a15 a9 b9 ([(p1 &&& (255 : Int32))]) ([]) (1 : Int32) 20 (20 : Int32) h13 _ _ S20 F23 rfl rfl (nle rfl) (nle rfl)) (w138 cx) (w137 cx) (nle rfl) (nle rfl)) (by rw [hml]; rfl) (argsL := [.ref a14, .int 1, .ref a9, .int 20]) (rest := []) (lenOf pd23 rfl) rfl rfl (Nat.le_of_eq rfl) (hb hby at_344) (nle rfl) (nle rfl) ?_
  rintro T31 h31 _ _ _ X31 ⟨rfl, rfl, rfl, J31⟩
  rw [J31] at X31
  refine P.ifNo X31 hx 350 (hb hby at_347) (by decide) rfl ?_
  refine P.aload X31 hx 352 (hb hby at_350) rfl rfl rfl ?_
  refine P.iload X31 hx 354 (hb hby at_352) rfl rfl ?_
  refine P.aload X31 hx 356 (hb hby at_354) rfl rfl rfl ?_
  refine P.bipush X31 hx 358 24 (hb hby at_356) rfl rfl ?_
  refine X31.callS hx (w135 cx) (w136 cx) (w137 cx) (w138 cx) (by decide) (Ct.pay (W := 0) (ct_quad cx a14 a15 a9 b9 ([(p1 &&& (255 : Int32))]) ([]) (1 : Int32) 24 (24 : Int32) h13 _ _ S20 F23 rfl rfl (nle rfl) (nle rfl)) (w138 cx) (w137 cx) (nle rfl) (nle rfl)) (by rw [hml]; rfl) (argsL := [.ref a14, .int 1, .ref a9, .int 24]) (rest := []) (lenOf pd23 rfl) rfl rfl (Nat.le_of_eq rfl) (hb hby at_358) (nle rfl) (nle rfl) ?_
  rintro T32 h32 _ _ _ X32 ⟨rfl, rfl, rfl, J32⟩
  rw [J32] at X32
  refine P.ifNo X32 hx 364 (hb hby at_361) (by decide) rfl ?_
  refine P.aload X32 hx 366 (hb hby at_364) rfl rfl rfl ?_
  refine P.iload X32 hx 368 (hb hby at_366) rfl rfl ?_
  refine P.aload X32 hx 370 (hb hby at_368) rfl rfl rfl ?_
  refine P.bipush X32 hx 372 28 (hb hby at_370) rfl rfl ?_
  refine X32.callS hx (w135 cx) (w136 cx) (w137 cx) (w138 cx) (by decide) (Ct.pay (W := 0) (ct_quad cx a14 a15 a9 b9 ([(p1 &&& (255 : Int32))]) ([]) (1 : Int32) 28 (28 : Int32) h13 _ _ S20 F23 rfl rfl (nle rfl) (nle rfl)) (w138 cx) (w137 cx) (nle rfl) (nle rfl)) (by rw [hml]; rfl) (argsL := [.ref a14, .int 1, .ref a9, .int 28]) (rest := []) (lenOf pd23 rfl) rfl rfl (Nat.le_of_eq rfl) (hb hby at_372) (nle rfl) (nle rfl) ?_
  rintro T33 h33 _ _ _ X33 ⟨rfl, rfl, rfl, J33⟩
  rw [J33] at X33
  refine P.ifNo X33 hx 378 (hb hby at_375) (by decide) rfl ?_
  refine P.aload X33 hx 380 (hb hby at_378) rfl rfl rfl ?_
  refine P.iload X33 hx 382 (hb hby at_380) rfl rfl ?_
  refine P.aload X33 hx 384 (hb hby at_382) rfl rfl rfl ?_
  refine P.bipush X33 hx 386 32 (hb hby at_384) rfl rfl ?_
  refine X33.callS hx (w135 cx) (w136 cx) (w137 cx) (w138 cx) (by decide) (Ct.pay (W := 0) (ct_quad cx a14 a15 a9 b9 ([(p1 &&& (255 : Int32))]) ([]) (1 : Int32) 32 (32 : Int32) h13 _ _ S20 F23 rfl rfl (nle rfl) (nle rfl)) (w138 cx) (w137 cx) (nle rfl) (nle rfl)) (by rw [hml]; rfl) (argsL := [.ref a14, .int 1, .ref a9, .int 32]) (rest := []) (lenOf pd23 rfl) rfl rfl (Nat.le_of_eq rfl) (hb hby at_386) (nle rfl) (nle rfl) ?_
  rintro T34 h34 _ _ _ X34 ⟨rfl, rfl, rfl, J34⟩
  rw [J34] at X34
  refine P.ifNo X34 hx 392 (hb hby at_389) (by decide) rfl ?_
  refine P.aload X34 hx 394 (hb hby at_392) rfl rfl rfl ?_
  refine P.iload X34 hx 396 (hb hby at_394) rfl rfl ?_
  refine P.aload X34 hx 398 (hb hby at_396) rfl rfl rfl ?_
  refine P.bipush X34 hx 400 36 (hb hby at_398) rfl rfl ?_
  refine X34.callS hx (w135 cx) (w136 cx) (w137 cx) (w138 cx) (by decide) (Ct.pay (W := 0) (ct_quad cx a14 a15 a9 b9 ([(p1 &&& (255 : Int32))]) ([]) (1 : Int32) 36 (36 : Int32) h13 _ _ S20 F23 rfl rfl (nle rfl) (nle rfl)) (w138 cx) (w137 cx) (nle rfl) (nle rfl)) (by rw [hml]; rfl) (argsL := [.ref a14, .int 1, .ref a9, .int 36]) (rest := []) (lenOf pd23 rfl) rfl rfl (Nat.le_of_eq rfl) (hb hby at_400) (nle rfl) (nle rfl) ?_
  rintro T35 h35 _ _ _ X35 ⟨rfl, rfl, rfl, J35⟩
  rw [J35] at X35
  refine P.ifNo X35 hx 406 (hb hby at_403) (by decide) rfl ?_
  refine P.iconst X35 hx 407 1 (hb hby at_406) rfl rfl ?_
  refine P.goto X35 hx 411 (hb hby at_407) (by decide) (by decide) ?_
  have X36 := WS.drop (A := []) (B := WL) X35
  have X37 := WS.fl (FL2 := FL) X36 (fun y hy => (List.mem_append_right [a14, a15, a9, b9, a2, a3] hy))
  exact WS.retN X37 (WL' := []) (FL' := []) hx (t := .boolean) hret (by simp) hlk (hb hby at_411) (nle rfl) (nle rfl) ⟨rfl, rfl, rfl, K19⟩
set_option maxRecDepth 65536 in
set_option maxHeartbeats 4000000 in
theorem ct_law_101 {l : Launch} {Z : State} {a0 : Array Value} {gC : Int32} {gF : Value} (cx : Cx a0 Z gC gF) {n0 : Nat} (p0 : Int32) (p1 : Int32) (p2 : Int32) (p3 : Int32) (h : Heap) (WL FL : List Addr)  (en : (((p0.toUInt32 >>> ((2 : Int32) &&& 31).toUInt32).toInt32) &&& (3 : Int32)) = (1 : Int32)) (es : (p0 &&& (1 : Int32)) = (0 : Int32)) (el : ¬ (p0 &&& (2 : Int32)) = (0 : Int32)) :
    Ct l Z EL1 n0 x code maxLocals ret room_1 #[(.int p0), (.int p1), (.int p2), (.int p3)] h WL FL (Q_law Z gC gF p0 p1 p2 p3 h) := by
  refine Ct.of (plainFor_of_name pn7) ?_
  intro p e s m below meth c s1 hx hby hml hnm hret hlk X0
  refine Wo.cast (f' := (mkF m 0 #[.val (.int p0), .val (.int p1), .val (.int p2), .val (.int p3), .unset, .unset, .unset, .unset, .unset, .unset, .unset, .unset, .unset] [])) (by first | rfl | (simp [entryFrame, mkF, argsToLocals, Value.category]; done)) ?_
  have K0 : Keep h h [] := Keep.refl _ _
  show Wo _ _ _ _ _ _ _ _ _ _ _ s1 (mkF m 0 #[.val (.int p0), .val (.int p1), .val (.int p2), .val (.int p3), .unset, .unset, .unset, .unset, .unset, .unset, .unset, .unset, .unset] [])
  refine P.iloadN X0 hx 1 (hb hby at_0) rfl rfl ?_
  refine P.iconst X0 hx 2 1 (hb hby at_1) rfl rfl ?_
  refine P.iand X0 hx 3 (z := (p0 &&& (1 : Int32))) (hb hby at_2) rfl rfl ?_
  refine P.ifYes X0 hx 10 (hb hby at_3) ((if0 _ _).trans (teq es).1) (by decide) (by decide) ?_
  refine P.iconst X0 hx 11 0 (hb hby at_10) rfl rfl ?_
  refine P.istore X0 hx 13 #[.val (.int p0), .val (.int p1), .val (.int p2), .val (.int p3), .val (.int 0), .unset, .unset, .unset, .unset, .unset, .unset, .unset, .unset] (hb hby at_11) rfl rfl ?_
  refine P.iloadN X0 hx 14 (hb hby at_13) rfl rfl ?_
  refine P.iconst X0 hx 15 2 (hb hby at_14) rfl rfl ?_
  refine P.iand X0 hx 16 (z := (p0 &&& (2 : Int32))) (hb hby at_15) rfl rfl ?_
  refine P.ifNo X0 hx 19 (hb hby at_16) ((if0 _ _).trans (feq el).1) rfl ?_
  refine P.iconst X0 hx 20 1 (hb hby at_19) rfl rfl ?_
  refine P.goto X0 hx 24 (hb hby at_20) (by decide) (by decide) ?_
  refine P.istore X0 hx 26 #[.val (.int p0), .val (.int p1), .val (.int p2), .val (.int p3), .val (.int 0), .val (.int 1), .unset, .unset, .unset, .unset, .unset, .unset, .unset] (hb hby at_24) rfl rfl ?_
  refine P.iloadN X0 hx 27 (hb hby at_26) rfl rfl ?_
  refine P.iconst X0 hx 28 2 (hb hby at_27) rfl rfl ?_
  refine P.iushr X0 hx 29 (z := ((p0.toUInt32 >>> ((2 : Int32) &&& 31).toUInt32).toInt32)) (hb hby at_28) rfl rfl ?_
  refine P.iconst X0 hx 30 3 (hb hby at_29) rfl rfl ?_
  refine P.iand X0 hx 31 (z := (1 : Int32)) (hb hby at_30) (by rw [en]) rfl ?_
  refine P.istore X0 hx 33 #[.val (.int p0), .val (.int p1), .val (.int p2), .val (.int p3), .val (.int 0), .val (.int 1), .val (.int 1), .unset, .unset, .unset, .unset, .unset, .unset] (hb hby at_31) rfl rfl ?_
  refine P.iloadN X0 hx 34 (hb hby at_33) rfl rfl ?_
  refine P.sipush X0 hx 37 255 (hb hby at_34) rfl rfl ?_
  refine P.iand X0 hx 38 (z := (p1 &&& (255 : Int32))) (hb hby at_37) rfl rfl ?_
  refine P.i2c X0 hx 39 (z := (p1 &&& (255 : Int32))) (hb hby at_38) (by rw [i2c_mask]) rfl ?_
  refine P.istore X0 hx 41 #[.val (.int p0), .val (.int p1), .val (.int p2), .val (.int p3), .val (.int 0), .val (.int 1), .val (.int 1), .val (.int (p1 &&& (255 : Int32))), .unset, .unset, .unset, .unset, .unset] (hb hby at_39) rfl rfl ?_
  refine P.iloadN X0 hx 42 (hb hby at_41) rfl rfl ?_
  refine P.sipush X0 hx 45 255 (hb hby at_42) rfl rfl ?_
  refine P.iand X0 hx 46 (z := (p2 &&& (255 : Int32))) (hb hby at_45) rfl rfl ?_
  refine P.i2c X0 hx 47 (z := (p2 &&& (255 : Int32))) (hb hby at_46) (by rw [i2c_mask]) rfl ?_
  refine P.istore X0 hx 49 #[.val (.int p0), .val (.int p1), .val (.int p2), .val (.int p3), .val (.int 0), .val (.int 1), .val (.int 1), .val (.int (p1 &&& (255 : Int32))), .val (.int (p2 &&& (255 : Int32))), .unset, .unset, .unset, .unset] (hb hby at_47) rfl rfl ?_
  refine P.iloadN X0 hx 50 (hb hby at_49) rfl rfl ?_
  refine P.sipush X0 hx 53 255 (hb hby at_50) rfl rfl ?_
  refine P.iand X0 hx 54 (z := (p3 &&& (255 : Int32))) (hb hby at_53) rfl rfl ?_
  refine P.i2c X0 hx 55 (z := (p3 &&& (255 : Int32))) (hb hby at_54) (by rw [i2c_mask]) rfl ?_
  refine P.istore X0 hx 57 #[.val (.int p0), .val (.int p1), .val (.int p2), .val (.int p3), .val (.int 0), .val (.int 1), .val (.int 1), .val (.int (p1 &&& (255 : Int32))), .val (.int (p2 &&& (255 : Int32))), .val (.int (p3 &&& (255 : Int32))), .unset, .unset, .unset] (hb hby at_55) rfl rfl ?_
  refine P.iload X0 hx 59 (hb hby at_57) rfl rfl ?_
  refine P.ifYes X0 hx 69 (hb hby at_59) (by decide) (by decide) (by decide) ?_
  refine P.iload X0 hx 71 (hb hby at_69) rfl rfl ?_
  refine P.iconst X0 hx 72 1 (hb hby at_71) rfl rfl ?_
  refine P.icmpNo X0 hx 75 (hb hby at_72) (by decide) rfl ?_
  refine P.iload X0 hx 77 (hb hby at_75) rfl rfl ?_
  refine X0.callS hx (w214 cx) (w215 cx) (w1 cx) (w216 cx) (by decide) (Ct.pay (W := 0) (ct_valC cx (p1 &&& (255 : Int32)) h _ _ (rng255 _)) (w216 cx) (w1 cx) (nle rfl) (nle rfl)) (by rw [hml]; rfl) (argsL := [.int (p1 &&& (255 : Int32))]) (rest := []) (lenOf pd25 rfl) rfl rfl (Nat.le_of_eq rfl) (hb hby at_77) (nle rfl) (nle rfl) ?_
  rintro T1 h1 _ _ _ X1 ⟨a2, a3, rfl, rfl, rfl, J1, g5, G4⟩
  have ge6 : h.size ≤ a2 := Nat.le_trans K0.1 g5
  have K7 : Keep h h1 [] := K0.trans J1 all0
  refine P.astore X1 hx 82 #[.val (.int p0), .val (.int p1), .val (.int p2), .val (.int p3), .val (.int 0), .val (.int 1), .val (.int 1), .val (.int (p1 &&& (255 : Int32))), .val (.int (p2 &&& (255 : Int32))), .val (.int (p3 &&& (255 : Int32))), .val (.ref a2), .unset, .unset] (hb hby at_80) rfl rfl rfl ?_
  refine P.goto X1 hx 143 (hb hby at_82) (by decide) (by decide) ?_
  have X8 := WS.drop (A := []) (B := WL) X1
  refine P.iload X8 hx 145 (hb hby at_143) rfl rfl ?_
  refine P.ifYes X8 hx 167 (hb hby at_145) (by decide) (by decide) (by decide) ?_
  refine P.iload X8 hx 169 (hb hby at_167) rfl rfl ?_
  refine P.ifNo X8 hx 172 (hb hby at_169) (by decide) rfl ?_
  refine X8.ldc hx (w212 cx) (strAtoms cx) (by decide) (vs := [(.int 32), (.int 102), (.int 101), (.int 116), (.int 99), (.int 104), (.int 32), (.int 102), (.int 105), (.int 114), (.int 115), (.int 116), (.int 32), (.int 63), (.int 32), (.int 114), (.int 111), (.int 119), (.int 115), (.int 32), (.int 111), (.int 110), (.int 108), (.int 121)]) (z := (24 : Int32)) ⟨by decide, by decide⟩ (by decide) rfl (hb hby at_172) (n := 96) (nle rfl) (nle rfl) (nle rfl) (nle rfl) ?_
  intro T9 h9 a9 b9 k9 X9 E9 A9 C9 V9 B9
  have K10 : Keep h h9 [] := K7.ext E9
  refine P.astore X9 hx 176 #[.val (.int p0), .val (.int p1), .val (.int p2), .val (.int p3), .val (.int 0), .val (.int 1), .val (.int 1), .val (.int (p1 &&& (255 : Int32))), .val (.int (p2 &&& (255 : Int32))), .val (.int (p3 &&& (255 : Int32))), .val (.ref a2), .val (.ref a9), .unset] (hb hby at_174) rfl rfl rfl ?_
  refine P.goto X9 hx 183 (hb hby at_176) (by decide) (by decide) ?_
  have S11 : StrL Z h9 a9 b9 [(32 : Int32), 102, 101, 116, 99, 104, 32, 102, 105, 114, 115, 116, 32, 63, 32, 114, 111, 119, 115, 32, 111, 110, 108, 121] := ⟨A9, V9, C9, ⟨_, B9⟩, (by decide), nle rfl⟩
  refine P.aload X9 hx 185 (hb hby at_183) rfl rfl rfl ?_
  refine P.iload X9 hx 187 (hb hby at_185) rfl rfl ?_
  refine P.iload X9 hx 189 (hb hby at_187) rfl rfl ?_
  have F12 : StrL Z h9 a2 a3 [(p1 &&& (255 : Int32))] := (G4.ext E9)
  refine X9.callS hx (w8 cx) (w9 cx) (w10 cx) (w11 cx) (by decide) (Ct.pay (W := 0) (ct_pag01 cx a2 a3 ([(p1 &&& (255 : Int32))]) h9 _ _ F12 (List.mem_of_getElem? (i := 2) rfl) (List.mem_of_getElem? (i := 3) rfl) (nle rfl)) (w11 cx) (w10 cx) (nle rfl) (nle rfl)) (by rw [hml]; rfl) (argsL := [.ref a2, .int 0, .int 1]) (rest := []) (lenOf pd24 rfl) rfl rfl (Nat.le_of_eq rfl) (hb hby at_189) (nle rfl) (nle rfl) ?_
  rintro T13 h13 _ _ _ X13 ⟨a14, a15, rfl, rfl, rfl, J13, g17, G16⟩
  have ge18 : h.size ≤ a14 := Nat.le_trans K10.1 g17
  have K19 : Keep h h13 [] := K10.trans J13 all0
  have S20 : StrL Z h13 a14 a15 [(p1 &&& (255 : Int32)), 32, 102, 101, 116, 99, 104, 32, 102, 105, 114, 115, 116, 32, 63, 32, 114, 111, 119, 115, 32, 111, 110, 108, 121] := G16
  refine P.astore X13 hx 194 #[.val (.int p0), .val (.int p1), .val (.int p2), .val (.int p3), .val (.int 0), .val (.int 1), .val (.int 1), .val (.int (p1 &&& (255 : Int32))), .val (.int (p2 &&& (255 : Int32))), .val (.int (p3 &&& (255 : Int32))), .val (.ref a2), .val (.ref a9), .val (.ref a14)] (hb hby at_192) rfl rfl rfl ?_
  refine P.aload X13 hx 196 (hb hby at_194) rfl rfl rfl ?_
  refine P.ifnonnullYes X13 hx 201 (hb hby at_196) (by decide) (by decide) ?_
  refine P.aload X13 hx 203 (hb hby at_201) rfl rfl rfl ?_
  refine X13.callV hx (w134 cx) (w28 cx) (w30 cx) (w29 cx) (fun _ hZ => nf hZ (w30 cx)) (by decide) S20.1 (pay_len (W := 0) (hln cx) (w2 cx) S20 (X13.sta (S_C cx)) (N_C cx) (nle rfl) (nle rfl)) (by rw [hml]; rfl) (argsL := []) (rest := []) (lenOf pd7 rfl) rfl rfl (Nat.le_of_eq rfl) (hb hby at_203) (nle rfl) (nle rfl) ?_
  rintro T21 h21 _ _ _ X21 ⟨rfl, rfl, rfl, J21⟩
  rw [J21] at X21
  show Wo _ _ _ _ _ _ _ _ _ _ _ T21 (mkF m 206 #[.val (.int p0), .val (.int p1), .val (.int p2), .val (.int p3), .val (.int 0), .val (.int 1), .val (.int 1), .val (.int (p1 &&& (255 : Int32))), .val (.int (p2 &&& (255 : Int32))), .val (.int (p3 &&& (255 : Int32))), .val (.ref a2), .val (.ref a9), .val (.ref a14)] [.int 25])
  refine P.iload X21 hx 208 (hb hby at_206) rfl rfl ?_
  refine P.aload X21 hx 210 (hb hby at_208) rfl rfl rfl ?_
  have F22 : Exa Z h13 a9 "java/lang/String" := (S11.1.keep J13)
  have F23 : StrL Z h13 a9 b9 [(32 : Int32), 102, 101, 116, 99, 104, 32, 102, 105, 114, 115, 116, 32, 63, 32, 114, 111, 119, 115, 32, 111, 110, 108, 121] := (S11.keep J13 nin0 nin0)
  refine X21.callV hx (w134 cx) (w28 cx) (w30 cx) (w29 cx) (fun _ hZ => nf hZ (w30 cx)) (by decide) F22 (pay_len (W := 2) (hln cx) (w2 cx) F23 (X21.sta (S_C cx)) (N_C cx) (nle rfl) (nle rfl)) (by rw [hml]; rfl) (argsL := []) (rest := [.int 1, .int 25]) (lenOf pd7 rfl) rfl rfl (Nat.le_of_eq rfl) (hb hby at_210) (nle rfl) (nle rfl) ?_
  rintro T24 h24 _ _ _ X24 ⟨rfl, rfl, rfl, J24⟩
  rw [J24] at X24
  show Wo _ _ _ _ _ _ _ _ _ _ _ T24 (mkF m 213 #[.val (.int p0), .val (.int p1), .val (.int p2), .val (.int p3), .val (.int 0), .val (.int 1), .val (.int 1), .val (.int (p1 &&& (255 : Int32))), .val (.int (p2 &&& (255 : Int32))), .val (.int (p3 &&& (255 : Int32))), .val (.ref a2), .val (.ref a9), .val (.ref a14)] [.int 24, .int 1, .int 25])
  refine P.iadd X24 hx 214 (z := (25 : Int32)) (hb hby at_213) rfl rfl ?_
  refine P.icmpNo X24 hx 217 (hb hby at_214) (by decide) rfl ?_
  refine P.iload X24 hx 219 (hb hby at_217) rfl rfl ?_
  refine P.iconst X24 hx 220 1 (hb hby at_219) rfl rfl ?_
  refine P.icmpNo X24 hx 223 (hb hby at_220) (by decide) rfl ?_
  refine P.aload X24 hx 225 (hb hby at_223) rfl rfl rfl ?_
  refine P.iconst X24 hx 226 0 (hb hby at_225) rfl rfl ?_
  refine X24.callV hx (w160 cx) (w161 cx) (w163 cx) (w162 cx) (fun _ hZ => nf hZ (w163 cx)) (by decide) S20.1 (pay_chr (W := 0) (hch cx) (w2 cx) S20 (X24.sta (S_C cx)) (N_C cx) (X24.sta (S_F cx)) (R_F cx) (i := 0) (nlt rfl) rfl (nle rfl) (nle rfl)) (by rw [hml]; rfl) (argsL := [.int 0]) (rest := []) (lenOf pd22 rfl) rfl rfl (Nat.le_of_eq rfl) (hb hby at_226) (nle rfl) (nle rfl) ?_
  rintro T25 h25 _ _ _ X25 ⟨rfl, rfl, rfl, J25⟩
  rw [J25] at X25
  show Wo _ _ _ _ _ _ _ _ _ _ _ T25 (mkF m 229 #[.val (.int p0), .val (.int p1), .val (.int p2), .val (.int p3), .val (.int 0), .val (.int 1), .val (.int 1), .val (.int (p1 &&& (255 : Int32))), .val (.int (p2 &&& (255 : Int32))), .val (.int (p3 &&& (255 : Int32))), .val (.ref a2), .val (.ref a9), .val (.ref a14)] [.int (p1 &&& (255 : Int32))])
  refine P.iload X25 hx 231 (hb hby at_229) rfl rfl ?_
  refine P.icmpNo X25 hx 234 (hb hby at_231) (teq rfl).2 rfl ?_
  refine P.iload X25 hx 236 (hb hby at_234) rfl rfl ?_
  refine P.iconst X25 hx 237 2 (hb hby at_236) rfl rfl ?_
  refine P.icmpYes X25 hx 251 (hb hby at_237) (by decide) (by decide) (by decide) ?_
  refine P.iload X25 hx 253 (hb hby at_251) rfl rfl ?_
  refine P.iconst X25 hx 254 3 (hb hby at_253) rfl rfl ?_
  refine P.icmpYes X25 hx 268 (hb hby at_254) (by decide) (by decide) (by decide) ?_
  refine P.aload X25 hx 270 (hb hby at_268) rfl rfl rfl ?_
  refine P.iload X25 hx 272 (hb hby at_270) rfl rfl ?_
  refine P.aload X25 hx 274 (hb hby at_272) rfl rfl rfl ?_
  refine P.iconst X25 hx 275 0 (hb hby at_274) rfl rfl ?_
  refine X25.callS hx (w135 cx) (w136 cx) (w137 cx) (w138 cx) (by decide) (Ct.pay (W := 0) (ct_quad cx a14 a15 a9 b9 ([(p1 &&& (255 : Int32))]) ([(32 : Int32), 102, 101, 116, 99, 104, 32, 102, 105, 114, 115, 116, 32, 63, 32, 114, 111, 119, 115, 32, 111, 110, 108, 121]) (1 : Int32) 0 (0 : Int32) h13 _ _ S20 F23 rfl rfl (nle rfl) (nle rfl)) (w138 cx) (w137 cx) (nle rfl) (nle rfl)) (by rw [hml]; rfl) (argsL := [.ref a14, .int 1, .ref a9, .int 0]) (rest := []) (lenOf pd23 rfl) rfl rfl (Nat.le_of_eq rfl) (hb hby at_275) (nle rfl) (nle rfl) ?_
  rintro T26 h26 _ _ _ X26 ⟨rfl, rfl, rfl, J26⟩
  rw [J26] at X26
  refine P.ifNo X26 hx 281 (hb hby at_278) (by decide) rfl ?_
  refine P.aload X26 hx 283 (hb hby at_281) rfl rfl rfl ?_
  refine P.iload X26 hx 285 (hb hby at_283) rfl rfl ?_
  refine P.aload X26 hx 287 (hb hby at_285) rfl rfl rfl ?_
  refine P.iconst X26 hx 288 4 (hb hby at_287) rfl rfl ?_
  refine X26.callS hx (w135 cx) (w136 cx) (w137 cx) (w138 cx) (by decide) (Ct.pay (W := 0) (ct_quad cx a14 a15 a9 b9 ([(p1 &&& (255 : Int32))]) ([(32 : Int32), 102, 101, 116, 99, 104, 32, 102, 105, 114, 115, 116, 32, 63, 32, 114, 111, 119, 115, 32, 111, 110, 108, 121]) (1 : Int32) 4 (4 : Int32) h13 _ _ S20 F23 rfl rfl (nle rfl) (nle rfl)) (w138 cx) (w137 cx) (nle rfl) (nle rfl)) (by rw [hml]; rfl) (argsL := [.ref a14, .int 1, .ref a9, .int 4]) (rest := []) (lenOf pd23 rfl) rfl rfl (Nat.le_of_eq rfl) (hb hby at_288) (nle rfl) (nle rfl) ?_
  rintro T27 h27 _ _ _ X27 ⟨rfl, rfl, rfl, J27⟩
  rw [J27] at X27
  refine P.ifNo X27 hx 294 (hb hby at_291) (by decide) rfl ?_
  refine P.aload X27 hx 296 (hb hby at_294) rfl rfl rfl ?_
  refine P.iload X27 hx 298 (hb hby at_296) rfl rfl ?_
  refine P.aload X27 hx 300 (hb hby at_298) rfl rfl rfl ?_
  refine P.bipush X27 hx 302 8 (hb hby at_300) rfl rfl ?_
  refine X27.callS hx (w135 cx) (w136 cx) (w137 cx) (w138 cx) (by decide) (Ct.pay (W := 0) (ct_quad cx a14 a15 a9 b9 ([(p1 &&& (255 : Int32))]) ([(32 : Int32), 102, 101, 116, 99, 104, 32, 102, 105, 114, 115, 116, 32, 63, 32, 114, 111, 119, 115, 32, 111, 110, 108, 121]) (1 : Int32) 8 (8 : Int32) h13 _ _ S20 F23 rfl rfl (nle rfl) (nle rfl)) (w138 cx) (w137 cx) (nle rfl) (nle rfl)) (by rw [hml]; rfl) (argsL := [.ref a14, .int 1, .ref a9, .int 8]) (rest := []) (lenOf pd23 rfl) rfl rfl (Nat.le_of_eq rfl) (hb hby at_302) (nle rfl) (nle rfl) ?_
  rintro T28 h28 _ _ _ X28 ⟨rfl, rfl, rfl, J28⟩
  rw [J28] at X28
  refine P.ifNo X28 hx 308 (hb hby at_305) (by decide) rfl ?_
  refine P.aload X28 hx 310 (hb hby at_308) rfl rfl rfl ?_
  refine P.iload X28 hx 312 (hb hby at_310) rfl rfl ?_
  refine P.aload X28 hx 314 (hb hby at_312) rfl rfl rfl ?_
  refine P.bipush X28 hx 316 12 (hb hby at_314) rfl rfl ?_
  refine X28.callS hx (w135 cx) (w136 cx) (w137 cx) (w138 cx) (by decide) (Ct.pay (W := 0) (ct_quad cx a14 a15 a9 b9 ([(p1 &&& (255 : Int32))]) ([(32 : Int32), 102, 101, 116, 99, 104, 32, 102, 105, 114, 115, 116, 32, 63, 32, 114, 111, 119, 115, 32, 111, 110, 108, 121]) (1 : Int32) 12 (12 : Int32) h13 _ _ S20 F23 rfl rfl (nle rfl) (nle rfl)) (w138 cx) (w137 cx) (nle rfl) (nle rfl)) (by rw [hml]; rfl) (argsL := [.ref a14, .int 1, .ref a9, .int 12]) (rest := []) (lenOf pd23 rfl) rfl rfl (Nat.le_of_eq rfl) (hb hby at_316) (nle rfl) (nle rfl) ?_
  rintro T29 h29 _ _ _ X29 ⟨rfl, rfl, rfl, J29⟩
  rw [J29] at X29
  refine P.ifNo X29 hx 322 (hb hby at_319) (by decide) rfl ?_
  refine P.aload X29 hx 324 (hb hby at_322) rfl rfl rfl ?_
  refine P.iload X29 hx 326 (hb hby at_324) rfl rfl ?_
  refine P.aload X29 hx 328 (hb hby at_326) rfl rfl rfl ?_
  refine P.bipush X29 hx 330 16 (hb hby at_328) rfl rfl ?_
  refine X29.callS hx (w135 cx) (w136 cx) (w137 cx) (w138 cx) (by decide) (Ct.pay (W := 0) (ct_quad cx a14 a15 a9 b9 ([(p1 &&& (255 : Int32))]) ([(32 : Int32), 102, 101, 116, 99, 104, 32, 102, 105, 114, 115, 116, 32, 63, 32, 114, 111, 119, 115, 32, 111, 110, 108, 121]) (1 : Int32) 16 (16 : Int32) h13 _ _ S20 F23 rfl rfl (nle rfl) (nle rfl)) (w138 cx) (w137 cx) (nle rfl) (nle rfl)) (by rw [hml]; rfl) (argsL := [.ref a14, .int 1, .ref a9, .int 16]) (rest := []) (lenOf pd23 rfl) rfl rfl (Nat.le_of_eq rfl) (hb hby at_330) (nle rfl) (nle rfl) ?_
  rintro T30 h30 _ _ _ X30 ⟨rfl, rfl, rfl, J30⟩
  rw [J30] at X30
  refine P.ifNo X30 hx 336 (hb hby at_333) (by decide) rfl ?_
  refine P.aload X30 hx 338 (hb hby at_336) rfl rfl rfl ?_
  refine P.iload X30 hx 340 (hb hby at_338) rfl rfl ?_
  refine P.aload X30 hx 342 (hb hby at_340) rfl rfl rfl ?_
  refine P.bipush X30 hx 344 20 (hb hby at_342) rfl rfl ?_
  refine X30.callS hx (w135 cx) (w136 cx) (w137 cx) (w138 cx) (by decide) (Ct.pay (W := 0) (ct_quad cx a14 a15 a9 b9 ([(p1 &&& (255 : Int32))]) ([(32 : Int32), 102, 101, 116, 99, 104, 32, 102, 105, 114, 115, 116, 32, 63, 32, 114, 111, 119, 115, 32, 111, 110, 108, 121]) (1 : Int32) 20 (20 : Int32) h13 _ _ S20 F23 rfl rfl (nle rfl) (nle rfl)) (w138 cx) (w137 cx) (nle rfl) (nle rfl)) (by rw [hml]; rfl) (argsL := [.ref a14, .int 1, .ref a9, .int 20]) (rest := []) (lenOf pd23 rfl) rfl rfl (Nat.le_of_eq rfl) (hb hby at_344) (nle rfl) (nle rfl) ?_
  rintro T31 h31 _ _ _ X31 ⟨rfl, rfl, rfl, J31⟩
  rw [J31] at X31
  refine P.ifNo X31 hx 350 (hb hby at_347) (by decide) rfl ?_
  refine P.aload X31 hx 352 (hb hby at_350) rfl rfl rfl ?_
  refine P.iload X31 hx 354 (hb hby at_352) rfl rfl ?_
  refine P.aload X31 hx 356 (hb hby at_354) rfl rfl rfl ?_
  refine P.bipush X31 hx 358 24 (hb hby at_356) rfl rfl ?_
  refine X31.callS hx (w135 cx) (w136 cx) (w137 cx) (w138 cx) (by decide) (Ct.pay (W := 0) (ct_quad cx a14 a15 a9 b9 ([(p1 &&& (255 : Int32))]) ([(32 : Int32), 102, 101, 116, 99, 104, 32, 102, 105, 114, 115, 116, 32, 63, 32, 114, 111, 119, 115, 32, 111, 110, 108, 121]) (1 : Int32) 24 (24 : Int32) h13 _ _ S20 F23 rfl rfl (nle rfl) (nle rfl)) (w138 cx) (w137 cx) (nle rfl) (nle rfl)) (by rw [hml]; rfl) (argsL := [.ref a14, .int 1, .ref a9, .int 24]) (rest := []) (lenOf pd23 rfl) rfl rfl (Nat.le_of_eq rfl) (hb hby at_358) (nle rfl) (nle rfl) ?_
  rintro T32 h32 _ _ _ X32 ⟨rfl, rfl, rfl, J32⟩
  rw [J32] at X32
  refine P.ifNo X32 hx 364 (hb hby at_361) (by decide) rfl ?_
  refine P.aload X32 hx 366 (hb hby at_364) rfl rfl rfl ?_
  refine P.iload X32 hx 368 (hb hby at_366) rfl rfl ?_
  refine P.aload X32 hx 370 (hb hby at_368) rfl rfl rfl ?_
  refine P.bipush X32 hx 372 28 (hb hby at_370) rfl rfl ?_
  refine X32.callS hx (w135 cx) (w136 cx) (w137 cx) (w138 cx) (by decide) (Ct.pay (W := 0) (ct_quad cx a14 a15 a9 b9 ([(p1 &&& (255 : Int32))]) ([(32 : Int32), 102, 101, 116, 99, 104, 32, 102, 105, 114, 115, 116, 32, 63, 32, 114, 111, 119, 115, 32, 111, 110, 108, 121]) (1 : Int32) 28 (28 : Int32) h13 _ _ S20 F23 rfl rfl (nle rfl) (nle rfl)) (w138 cx) (w137 cx) (nle rfl) (nle rfl)) (by rw [hml]; rfl) (argsL := [.ref a14, .int 1, .ref a9, .int 28]) (rest := []) (lenOf pd23 rfl) rfl rfl (Nat.le_of_eq rfl) (hb hby at_372) (nle rfl) (nle rfl) ?_
  rintro T33 h33 _ _ _ X33 ⟨rfl, rfl, rfl, J33⟩
  rw [J33] at X33
  refine P.ifNo X33 hx 378 (hb hby at_375) (by decide) rfl ?_
  refine P.aload X33 hx 380 (hb hby at_378) rfl rfl rfl ?_
  refine P.iload X33 hx 382 (hb hby at_380) rfl rfl ?_
  refine P.aload X33 hx 384 (hb hby at_382) rfl rfl rfl ?_
  refine P.bipush X33 hx 386 32 (hb hby at_384) rfl rfl ?_
  refine X33.callS hx (w135 cx) (w136 cx) (w137 cx) (w138 cx) (by decide) (Ct.pay (W := 0) (ct_quad cx a14 a15 a9 b9 ([(p1 &&& (255 : Int32))]) ([(32 : Int32), 102, 101, 116, 99, 104, 32, 102, 105, 114, 115, 116, 32, 63, 32, 114, 111, 119, 115, 32, 111, 110, 108, 121]) (1 : Int32) 32 (32 : Int32) h13 _ _ S20 F23 rfl rfl (nle rfl) (nle rfl)) (w138 cx) (w137 cx) (nle rfl) (nle rfl)) (by rw [hml]; rfl) (argsL := [.ref a14, .int 1, .ref a9, .int 32]) (rest := []) (lenOf pd23 rfl) rfl rfl (Nat.le_of_eq rfl) (hb hby at_386) (nle rfl) (nle rfl) ?_
  rintro T34 h34 _ _ _ X34 ⟨rfl, rfl, rfl, J34⟩
  rw [J34] at X34
  refine P.ifNo X34 hx 392 (hb hby at_389) (by decide) rfl ?_
  refine P.aload X34 hx 394 (hb hby at_392) rfl rfl rfl ?_
  refine P.iload X34 hx 396 (hb hby at_394) rfl rfl ?_
  refine P.aload X34 hx 398 (hb hby at_396) rfl rfl rfl ?_
  refine P.bipush X34 hx 400 36 (hb hby at_398) rfl rfl ?_
  refine X34.callS hx (w135 cx) (w136 cx) (w137 cx) (w138 cx) (by decide) (Ct.pay (W := 0) (ct_quad cx a14 a15 a9 b9 ([(p1 &&& (255 : Int32))]) ([(32 : Int32), 102, 101, 116, 99, 104, 32, 102, 105, 114, 115, 116, 32, 63, 32, 114, 111, 119, 115, 32, 111, 110, 108, 121]) (1 : Int32) 36 (36 : Int32) h13 _ _ S20 F23 rfl rfl (nle rfl) (nle rfl)) (w138 cx) (w137 cx) (nle rfl) (nle rfl)) (by rw [hml]; rfl) (argsL := [.ref a14, .int 1, .ref a9, .int 36]) (rest := []) (lenOf pd23 rfl) rfl rfl (Nat.le_of_eq rfl) (hb hby at_400) (nle rfl) (nle rfl) ?_
  rintro T35 h35 _ _ _ X35 ⟨rfl, rfl, rfl, J35⟩
  rw [J35] at X35
  refine P.ifNo X35 hx 406 (hb hby at_403) (by decide) rfl ?_
  refine P.iconst X35 hx 407 1 (hb hby at_406) rfl rfl ?_
  refine P.goto X35 hx 411 (hb hby at_407) (by decide) (by decide) ?_
  have X36 := WS.drop (A := []) (B := WL) X35
  have X37 := WS.fl (FL2 := FL) X36 (fun y hy => (List.mem_append_right [a14, a15, a9, b9, a2, a3] hy))
  exact WS.retN X37 (WL' := []) (FL' := []) hx (t := .boolean) hret (by simp) hlk (hb hby at_411) (nle rfl) (nle rfl) ⟨rfl, rfl, rfl, K19⟩
set_option maxRecDepth 65536 in
set_option maxHeartbeats 4000000 in
theorem ct_law_110 {l : Launch} {Z : State} {a0 : Array Value} {gC : Int32} {gF : Value} (cx : Cx a0 Z gC gF) {n0 : Nat} (p0 : Int32) (p1 : Int32) (p2 : Int32) (p3 : Int32) (h : Heap) (WL FL : List Addr)  (en : (((p0.toUInt32 >>> ((2 : Int32) &&& 31).toUInt32).toInt32) &&& (3 : Int32)) = (1 : Int32)) (es : ¬ (p0 &&& (1 : Int32)) = (0 : Int32)) (el : (p0 &&& (2 : Int32)) = (0 : Int32)) :
    Ct l Z EL1 n0 x code maxLocals ret room_1 #[(.int p0), (.int p1), (.int p2), (.int p3)] h WL FL (Q_law Z gC gF p0 p1 p2 p3 h) := by
  refine Ct.of (plainFor_of_name pn7) ?_
  intro p e s m below meth c s1 hx hby hml hnm hret hlk X0
  refine Wo.cast (f' := (mkF m 0 #[.val (.int p0), .val (.int p1), .val (.int p2), .val (.int p3), .unset, .unset, .unset, .unset, .unset, .unset, .unset, .unset, .unset] [])) (by first | rfl | (simp [entryFrame, mkF, argsToLocals, Value.category]; done)) ?_
  have K0 : Keep h h [] := Keep.refl _ _
  show Wo _ _ _ _ _ _ _ _ _ _ _ s1 (mkF m 0 #[.val (.int p0), .val (.int p1), .val (.int p2), .val (.int p3), .unset, .unset, .unset, .unset, .unset, .unset, .unset, .unset, .unset] [])
  refine P.iloadN X0 hx 1 (hb hby at_0) rfl rfl ?_
  refine P.iconst X0 hx 2 1 (hb hby at_1) rfl rfl ?_
  refine P.iand X0 hx 3 (z := (p0 &&& (1 : Int32))) (hb hby at_2) rfl rfl ?_
  refine P.ifNo X0 hx 6 (hb hby at_3) ((if0 _ _).trans (feq es).1) rfl ?_
  refine P.iconst X0 hx 7 1 (hb hby at_6) rfl rfl ?_
  refine P.goto X0 hx 11 (hb hby at_7) (by decide) (by decide) ?_
  refine P.istore X0 hx 13 #[.val (.int p0), .val (.int p1), .val (.int p2), .val (.int p3), .val (.int 1), .unset, .unset, .unset, .unset, .unset, .unset, .unset, .unset] (hb hby at_11) rfl rfl ?_
  refine P.iloadN X0 hx 14 (hb hby at_13) rfl rfl ?_
  refine P.iconst X0 hx 15 2 (hb hby at_14) rfl rfl ?_
  refine P.iand X0 hx 16 (z := (p0 &&& (2 : Int32))) (hb hby at_15) rfl rfl ?_
  refine P.ifYes X0 hx 23 (hb hby at_16) ((if0 _ _).trans (teq el).1) (by decide) (by decide) ?_
  refine P.iconst X0 hx 24 0 (hb hby at_23) rfl rfl ?_
  refine P.istore X0 hx 26 #[.val (.int p0), .val (.int p1), .val (.int p2), .val (.int p3), .val (.int 1), .val (.int 0), .unset, .unset, .unset, .unset, .unset, .unset, .unset] (hb hby at_24) rfl rfl ?_
  refine P.iloadN X0 hx 27 (hb hby at_26) rfl rfl ?_
  refine P.iconst X0 hx 28 2 (hb hby at_27) rfl rfl ?_
  refine P.iushr X0 hx 29 (z := ((p0.toUInt32 >>> ((2 : Int32) &&& 31).toUInt32).toInt32)) (hb hby at_28) rfl rfl ?_
  refine P.iconst X0 hx 30 3 (hb hby at_29) rfl rfl ?_
  refine P.iand X0 hx 31 (z := (1 : Int32)) (hb hby at_30) (by rw [en]) rfl ?_
  refine P.istore X0 hx 33 #[.val (.int p0), .val (.int p1), .val (.int p2), .val (.int p3), .val (.int 1), .val (.int 0), .val (.int 1), .unset, .unset, .unset, .unset, .unset, .unset] (hb hby at_31) rfl rfl ?_
  refine P.iloadN X0 hx 34 (hb hby at_33) rfl rfl ?_
  refine P.sipush X0 hx 37 255 (hb hby at_34) rfl rfl ?_
  refine P.iand X0 hx 38 (z := (p1 &&& (255 : Int32))) (hb hby at_37) rfl rfl ?_
  refine P.i2c X0 hx 39 (z := (p1 &&& (255 : Int32))) (hb hby at_38) (by rw [i2c_mask]) rfl ?_
  refine P.istore X0 hx 41 #[.val (.int p0), .val (.int p1), .val (.int p2), .val (.int p3), .val (.int 1), .val (.int 0), .val (.int 1), .val (.int (p1 &&& (255 : Int32))), .unset, .unset, .unset, .unset, .unset] (hb hby at_39) rfl rfl ?_
  refine P.iloadN X0 hx 42 (hb hby at_41) rfl rfl ?_
  refine P.sipush X0 hx 45 255 (hb hby at_42) rfl rfl ?_
  refine P.iand X0 hx 46 (z := (p2 &&& (255 : Int32))) (hb hby at_45) rfl rfl ?_
  refine P.i2c X0 hx 47 (z := (p2 &&& (255 : Int32))) (hb hby at_46) (by rw [i2c_mask]) rfl ?_
  refine P.istore X0 hx 49 #[.val (.int p0), .val (.int p1), .val (.int p2), .val (.int p3), .val (.int 1), .val (.int 0), .val (.int 1), .val (.int (p1 &&& (255 : Int32))), .val (.int (p2 &&& (255 : Int32))), .unset, .unset, .unset, .unset] (hb hby at_47) rfl rfl ?_
  refine P.iloadN X0 hx 50 (hb hby at_49) rfl rfl ?_
  refine P.sipush X0 hx 53 255 (hb hby at_50) rfl rfl ?_
  refine P.iand X0 hx 54 (z := (p3 &&& (255 : Int32))) (hb hby at_53) rfl rfl ?_
  refine P.i2c X0 hx 55 (z := (p3 &&& (255 : Int32))) (hb hby at_54) (by rw [i2c_mask]) rfl ?_
  refine P.istore X0 hx 57 #[.val (.int p0), .val (.int p1), .val (.int p2), .val (.int p3), .val (.int 1), .val (.int 0), .val (.int 1), .val (.int (p1 &&& (255 : Int32))), .val (.int (p2 &&& (255 : Int32))), .val (.int (p3 &&& (255 : Int32))), .unset, .unset, .unset] (hb hby at_55) rfl rfl ?_
  refine P.iload X0 hx 59 (hb hby at_57) rfl rfl ?_
  refine P.ifYes X0 hx 69 (hb hby at_59) (by decide) (by decide) (by decide) ?_
  refine P.iload X0 hx 71 (hb hby at_69) rfl rfl ?_
  refine P.iconst X0 hx 72 1 (hb hby at_71) rfl rfl ?_
  refine P.icmpNo X0 hx 75 (hb hby at_72) (by decide) rfl ?_
  refine P.iload X0 hx 77 (hb hby at_75) rfl rfl ?_
  refine X0.callS hx (w214 cx) (w215 cx) (w1 cx) (w216 cx) (by decide) (Ct.pay (W := 0) (ct_valC cx (p1 &&& (255 : Int32)) h _ _ (rng255 _)) (w216 cx) (w1 cx) (nle rfl) (nle rfl)) (by rw [hml]; rfl) (argsL := [.int (p1 &&& (255 : Int32))]) (rest := []) (lenOf pd25 rfl) rfl rfl (Nat.le_of_eq rfl) (hb hby at_77) (nle rfl) (nle rfl) ?_
  rintro T1 h1 _ _ _ X1 ⟨a2, a3, rfl, rfl, rfl, J1, g5, G4⟩
  have ge6 : h.size ≤ a2 := Nat.le_trans K0.1 g5
  have K7 : Keep h h1 [] := K0.trans J1 all0
  refine P.astore X1 hx 82 #[.val (.int p0), .val (.int p1), .val (.int p2), .val (.int p3), .val (.int 1), .val (.int 0), .val (.int 1), .val (.int (p1 &&& (255 : Int32))), .val (.int (p2 &&& (255 : Int32))), .val (.int (p3 &&& (255 : Int32))), .val (.ref a2), .unset, .unset] (hb hby at_80) rfl rfl rfl ?_
  refine P.goto X1 hx 143 (hb hby at_82) (by decide) (by decide) ?_
  have X8 := WS.drop (A := []) (B := WL) X1
  refine P.iload X8 hx 145 (hb hby at_143) rfl rfl ?_
  refine P.ifNo X8 hx 148 (hb hby at_145) (by decide) rfl ?_
  refine P.iload X8 hx 150 (hb hby at_148) rfl rfl ?_
  refine P.ifYes X8 hx 160 (hb hby at_150) (by decide) (by decide) (by decide) ?_
  refine X8.ldc hx (w213 cx) (strAtoms cx) (by decide) (vs := [(.int 32), (.int 111), (.int 102), (.int 102), (.int 115), (.int 101), (.int 116), (.int 32), (.int 63), (.int 32), (.int 114), (.int 111), (.int 119), (.int 115)]) (z := (14 : Int32)) ⟨by decide, by decide⟩ (by decide) rfl (hb hby at_160) (n := 56) (nle rfl) (nle rfl) (nle rfl) (nle rfl) ?_
  intro T9 h9 a9 b9 k9 X9 E9 A9 C9 V9 B9
  have K10 : Keep h h9 [] := K7.ext E9
  refine P.astore X9 hx 164 #[.val (.int p0), .val (.int p1), .val (.int p2), .val (.int p3), .val (.int 1), .val (.int 0), .val (.int 1), .val (.int (p1 &&& (255 : Int32))), .val (.int (p2 &&& (255 : Int32))), .val (.int (p3 &&& (255 : Int32))), .val (.ref a2), .val (.ref a9), .unset] (hb hby at_162) rfl rfl rfl ?_
  refine P.goto X9 hx 183 (hb hby at_164) (by decide) (by decide) ?_
  have S11 : StrL Z h9 a9 b9 [(32 : Int32), 111, 102, 102, 115, 101, 116, 32, 63, 32, 114, 111, 119, 115] := ⟨A9, V9, C9, ⟨_, B9⟩, (by decide), nle rfl⟩
  refine P.aload X9 hx 185 (hb hby at_183) rfl rfl rfl ?_
  refine P.iload X9 hx 187 (hb hby at_185) rfl rfl ?_
  refine P.iload X9 hx 189 (hb hby at_187) rfl rfl ?_
  have F12 : StrL Z h9 a2 a3 [(p1 &&& (255 : Int32))] := (G4.ext E9)
  refine X9.callS hx (w8 cx) (w9 cx) (w10 cx) (w11 cx) (by decide) (Ct.pay (W := 0) (ct_pag10 cx a2 a3 ([(p1 &&& (255 : Int32))]) h9 _ _ F12 (List.mem_of_getElem? (i := 2) rfl) (List.mem_of_getElem? (i := 3) rfl) (nle rfl)) (w11 cx) (w10 cx) (nle rfl) (nle rfl)) (by rw [hml]; rfl) (argsL := [.ref a2, .int 1, .int 0]) (rest := []) (lenOf pd24 rfl) rfl rfl (Nat.le_of_eq rfl) (hb hby at_189) (nle rfl) (nle rfl) ?_
  rintro T13 h13 _ _ _ X13 ⟨a14, a15, rfl, rfl, rfl, J13, g17, G16⟩
  have ge18 : h.size ≤ a14 := Nat.le_trans K10.1 g17
  have K19 : Keep h h13 [] := K10.trans J13 all0
  have S20 : StrL Z h13 a14 a15 [(p1 &&& (255 : Int32)), 32, 111, 102, 102, 115, 101, 116, 32, 63, 32, 114, 111, 119, 115] := G16
  refine P.astore X13 hx 194 #[.val (.int p0), .val (.int p1), .val (.int p2), .val (.int p3), .val (.int 1), .val (.int 0), .val (.int 1), .val (.int (p1 &&& (255 : Int32))), .val (.int (p2 &&& (255 : Int32))), .val (.int (p3 &&& (255 : Int32))), .val (.ref a2), .val (.ref a9), .val (.ref a14)] (hb hby at_192) rfl rfl rfl ?_
  refine P.aload X13 hx 196 (hb hby at_194) rfl rfl rfl ?_
  refine P.ifnonnullYes X13 hx 201 (hb hby at_196) (by decide) (by decide) ?_
  refine P.aload X13 hx 203 (hb hby at_201) rfl rfl rfl ?_
  refine X13.callV hx (w134 cx) (w28 cx) (w30 cx) (w29 cx) (fun _ hZ => nf hZ (w30 cx)) (by decide) S20.1 (pay_len (W := 0) (hln cx) (w2 cx) S20 (X13.sta (S_C cx)) (N_C cx) (nle rfl) (nle rfl)) (by rw [hml]; rfl) (argsL := []) (rest := []) (lenOf pd7 rfl) rfl rfl (Nat.le_of_eq rfl) (hb hby at_203) (nle rfl) (nle rfl) ?_
  rintro T21 h21 _ _ _ X21 ⟨rfl, rfl, rfl, J21⟩
  rw [J21] at X21
  show Wo _ _ _ _ _ _ _ _ _ _ _ T21 (mkF m 206 #[.val (.int p0), .val (.int p1), .val (.int p2), .val (.int p3), .val (.int 1), .val (.int 0), .val (.int 1), .val (.int (p1 &&& (255 : Int32))), .val (.int (p2 &&& (255 : Int32))), .val (.int (p3 &&& (255 : Int32))), .val (.ref a2), .val (.ref a9), .val (.ref a14)] [.int 15])
  refine P.iload X21 hx 208 (hb hby at_206) rfl rfl ?_
  refine P.aload X21 hx 210 (hb hby at_208) rfl rfl rfl ?_
  have F22 : Exa Z h13 a9 "java/lang/String" := (S11.1.keep J13)
  have F23 : StrL Z h13 a9 b9 [(32 : Int32), 111, 102, 102, 115, 101, 116, 32, 63, 32, 114, 111, 119, 115] := (S11.keep J13 nin0 nin0)
  refine X21.callV hx (w134 cx) (w28 cx) (w30 cx) (w29 cx) (fun _ hZ => nf hZ (w30 cx)) (by decide) F22 (pay_len (W := 2) (hln cx) (w2 cx) F23 (X21.sta (S_C cx)) (N_C cx) (nle rfl) (nle rfl)) (by rw [hml]; rfl) (argsL := []) (rest := [.int 1, .int 15]) (lenOf pd7 rfl) rfl rfl (Nat.le_of_eq rfl) (hb hby at_210) (nle rfl) (nle rfl) ?_
  rintro T24 h24 _ _ _ X24 ⟨rfl, rfl, rfl, J24⟩
  rw [J24] at X24
  show Wo _ _ _ _ _ _ _ _ _ _ _ T24 (mkF m 213 #[.val (.int p0), .val (.int p1), .val (.int p2), .val (.int p3), .val (.int 1), .val (.int 0), .val (.int 1), .val (.int (p1 &&& (255 : Int32))), .val (.int (p2 &&& (255 : Int32))), .val (.int (p3 &&& (255 : Int32))), .val (.ref a2), .val (.ref a9), .val (.ref a14)] [.int 14, .int 1, .int 15])
  refine P.iadd X24 hx 214 (z := (15 : Int32)) (hb hby at_213) rfl rfl ?_
  refine P.icmpNo X24 hx 217 (hb hby at_214) (by decide) rfl ?_
  refine P.iload X24 hx 219 (hb hby at_217) rfl rfl ?_
  refine P.iconst X24 hx 220 1 (hb hby at_219) rfl rfl ?_
  refine P.icmpNo X24 hx 223 (hb hby at_220) (by decide) rfl ?_
  refine P.aload X24 hx 225 (hb hby at_223) rfl rfl rfl ?_
  refine P.iconst X24 hx 226 0 (hb hby at_225) rfl rfl ?_
  refine X24.callV hx (w160 cx) (w161 cx) (w163 cx) (w162 cx) (fun _ hZ => nf hZ (w163 cx)) (by decide) S20.1 (pay_chr (W := 0) (hch cx) (w2 cx) S20 (X24.sta (S_C cx)) (N_C cx) (X24.sta (S_F cx)) (R_F cx) (i := 0) (nlt rfl) rfl (nle rfl) (nle rfl)) (by rw [hml]; rfl) (argsL := [.int 0]) (rest := []) (lenOf pd22 rfl) rfl rfl (Nat.le_of_eq rfl) (hb hby at_226) (nle rfl) (nle rfl) ?_
  rintro T25 h25 _ _ _ X25 ⟨rfl, rfl, rfl, J25⟩
  rw [J25] at X25
  show Wo _ _ _ _ _ _ _ _ _ _ _ T25 (mkF m 229 #[.val (.int p0), .val (.int p1), .val (.int p2), .val (.int p3), .val (.int 1), .val (.int 0), .val (.int 1), .val (.int (p1 &&& (255 : Int32))), .val (.int (p2 &&& (255 : Int32))), .val (.int (p3 &&& (255 : Int32))), .val (.ref a2), .val (.ref a9), .val (.ref a14)] [.int (p1 &&& (255 : Int32))])
  refine P.iload X25 hx 231 (hb hby at_229) rfl rfl ?_
  refine P.icmpNo X25 hx 234 (hb hby at_231) (teq rfl).2 rfl ?_
  refine P.iload X25 hx 236 (hb hby at_234) rfl rfl ?_
  refine P.iconst X25 hx 237 2 (hb hby at_236) rfl rfl ?_
  refine P.icmpYes X25 hx 251 (hb hby at_237) (by decide) (by decide) (by decide) ?_
  refine P.iload X25 hx 253 (hb hby at_251) rfl rfl ?_
  refine P.iconst X25 hx 254 3 (hb hby at_253) rfl rfl ?_
  refine P.icmpYes X25 hx 268 (hb hby at_254) (by decide) (by decide) (by decide) ?_
  refine P.aload X25 hx 270 (hb hby at_268) rfl rfl rfl ?_
  refine P.iload X25 hx 272 (hb hby at_270) rfl rfl ?_
  refine P.aload X25 hx 274 (hb hby at_272) rfl rfl rfl ?_
  refine P.iconst X25 hx 275 0 (hb hby at_274) rfl rfl ?_
  refine X25.callS hx (w135 cx) (w136 cx) (w137 cx) (w138 cx) (by decide) (Ct.pay (W := 0) (ct_quad cx a14 a15 a9 b9 ([(p1 &&& (255 : Int32))]) ([(32 : Int32), 111, 102, 102, 115, 101, 116, 32, 63, 32, 114, 111, 119, 115]) (1 : Int32) 0 (0 : Int32) h13 _ _ S20 F23 rfl rfl (nle rfl) (nle rfl)) (w138 cx) (w137 cx) (nle rfl) (nle rfl)) (by rw [hml]; rfl) (argsL := [.ref a14, .int 1, .ref a9, .int 0]) (rest := []) (lenOf pd23 rfl) rfl rfl (Nat.le_of_eq rfl) (hb hby at_275) (nle rfl) (nle rfl) ?_
  rintro T26 h26 _ _ _ X26 ⟨rfl, rfl, rfl, J26⟩
  rw [J26] at X26
  refine P.ifNo X26 hx 281 (hb hby at_278) (by decide) rfl ?_
  refine P.aload X26 hx 283 (hb hby at_281) rfl rfl rfl ?_
  refine P.iload X26 hx 285 (hb hby at_283) rfl rfl ?_
  refine P.aload X26 hx 287 (hb hby at_285) rfl rfl rfl ?_
  refine P.iconst X26 hx 288 4 (hb hby at_287) rfl rfl ?_
  refine X26.callS hx (w135 cx) (w136 cx) (w137 cx) (w138 cx) (by decide) (Ct.pay (W := 0) (ct_quad cx a14 a15 a9 b9 ([(p1 &&& (255 : Int32))]) ([(32 : Int32), 111, 102, 102, 115, 101, 116, 32, 63, 32, 114, 111, 119, 115]) (1 : Int32) 4 (4 : Int32) h13 _ _ S20 F23 rfl rfl (nle rfl) (nle rfl)) (w138 cx) (w137 cx) (nle rfl) (nle rfl)) (by rw [hml]; rfl) (argsL := [.ref a14, .int 1, .ref a9, .int 4]) (rest := []) (lenOf pd23 rfl) rfl rfl (Nat.le_of_eq rfl) (hb hby at_288) (nle rfl) (nle rfl) ?_
  rintro T27 h27 _ _ _ X27 ⟨rfl, rfl, rfl, J27⟩
  rw [J27] at X27
  refine P.ifNo X27 hx 294 (hb hby at_291) (by decide) rfl ?_
  refine P.aload X27 hx 296 (hb hby at_294) rfl rfl rfl ?_
  refine P.iload X27 hx 298 (hb hby at_296) rfl rfl ?_
  refine P.aload X27 hx 300 (hb hby at_298) rfl rfl rfl ?_
  refine P.bipush X27 hx 302 8 (hb hby at_300) rfl rfl ?_
  refine X27.callS hx (w135 cx) (w136 cx) (w137 cx) (w138 cx) (by decide) (Ct.pay (W := 0) (ct_quad cx a14 a15 a9 b9 ([(p1 &&& (255 : Int32))]) ([(32 : Int32), 111, 102, 102, 115, 101, 116, 32, 63, 32, 114, 111, 119, 115]) (1 : Int32) 8 (8 : Int32) h13 _ _ S20 F23 rfl rfl (nle rfl) (nle rfl)) (w138 cx) (w137 cx) (nle rfl) (nle rfl)) (by rw [hml]; rfl) (argsL := [.ref a14, .int 1, .ref a9, .int 8]) (rest := []) (lenOf pd23 rfl) rfl rfl (Nat.le_of_eq rfl) (hb hby at_302) (nle rfl) (nle rfl) ?_
  rintro T28 h28 _ _ _ X28 ⟨rfl, rfl, rfl, J28⟩
  rw [J28] at X28
  refine P.ifNo X28 hx 308 (hb hby at_305) (by decide) rfl ?_
  refine P.aload X28 hx 310 (hb hby at_308) rfl rfl rfl ?_
  refine P.iload X28 hx 312 (hb hby at_310) rfl rfl ?_
  refine P.aload X28 hx 314 (hb hby at_312) rfl rfl rfl ?_
  refine P.bipush X28 hx 316 12 (hb hby at_314) rfl rfl ?_
  refine X28.callS hx (w135 cx) (w136 cx) (w137 cx) (w138 cx) (by decide) (Ct.pay (W := 0) (ct_quad cx a14 a15 a9 b9 ([(p1 &&& (255 : Int32))]) ([(32 : Int32), 111, 102, 102, 115, 101, 116, 32, 63, 32, 114, 111, 119, 115]) (1 : Int32) 12 (12 : Int32) h13 _ _ S20 F23 rfl rfl (nle rfl) (nle rfl)) (w138 cx) (w137 cx) (nle rfl) (nle rfl)) (by rw [hml]; rfl) (argsL := [.ref a14, .int 1, .ref a9, .int 12]) (rest := []) (lenOf pd23 rfl) rfl rfl (Nat.le_of_eq rfl) (hb hby at_316) (nle rfl) (nle rfl) ?_
  rintro T29 h29 _ _ _ X29 ⟨rfl, rfl, rfl, J29⟩
  rw [J29] at X29
  refine P.ifNo X29 hx 322 (hb hby at_319) (by decide) rfl ?_
  refine P.aload X29 hx 324 (hb hby at_322) rfl rfl rfl ?_
  refine P.iload X29 hx 326 (hb hby at_324) rfl rfl ?_
  refine P.aload X29 hx 328 (hb hby at_326) rfl rfl rfl ?_
  refine P.bipush X29 hx 330 16 (hb hby at_328) rfl rfl ?_
  refine X29.callS hx (w135 cx) (w136 cx) (w137 cx) (w138 cx) (by decide) (Ct.pay (W := 0) (ct_quad cx a14 a15 a9 b9 ([(p1 &&& (255 : Int32))]) ([(32 : Int32), 111, 102, 102, 115, 101, 116, 32, 63, 32, 114, 111, 119, 115]) (1 : Int32) 16 (16 : Int32) h13 _ _ S20 F23 rfl rfl (nle rfl) (nle rfl)) (w138 cx) (w137 cx) (nle rfl) (nle rfl)) (by rw [hml]; rfl) (argsL := [.ref a14, .int 1, .ref a9, .int 16]) (rest := []) (lenOf pd23 rfl) rfl rfl (Nat.le_of_eq rfl) (hb hby at_330) (nle rfl) (nle rfl) ?_
  rintro T30 h30 _ _ _ X30 ⟨rfl, rfl, rfl, J30⟩
  rw [J30] at X30
  refine P.ifNo X30 hx 336 (hb hby at_333) (by decide) rfl ?_
  refine P.aload X30 hx 338 (hb hby at_336) rfl rfl rfl ?_
  refine P.iload X30 hx 340 (hb hby at_338) rfl rfl ?_
  refine P.aload X30 hx 342 (hb hby at_340) rfl rfl rfl ?_
  refine P.bipush X30 hx 344 20 (hb hby at_342) rfl rfl ?_
  refine X30.callS hx (w135 cx) (w136 cx) (w137 cx) (w138 cx) (by decide) (Ct.pay (W := 0) (ct_quad cx a14 a15 a9 b9 ([(p1 &&& (255 : Int32))]) ([(32 : Int32), 111, 102, 102, 115, 101, 116, 32, 63, 32, 114, 111, 119, 115]) (1 : Int32) 20 (20 : Int32) h13 _ _ S20 F23 rfl rfl (nle rfl) (nle rfl)) (w138 cx) (w137 cx) (nle rfl) (nle rfl)) (by rw [hml]; rfl) (argsL := [.ref a14, .int 1, .ref a9, .int 20]) (rest := []) (lenOf pd23 rfl) rfl rfl (Nat.le_of_eq rfl) (hb hby at_344) (nle rfl) (nle rfl) ?_
  rintro T31 h31 _ _ _ X31 ⟨rfl, rfl, rfl, J31⟩
  rw [J31] at X31
  refine P.ifNo X31 hx 350 (hb hby at_347) (by decide) rfl ?_
  refine P.aload X31 hx 352 (hb hby at_350) rfl rfl rfl ?_
  refine P.iload X31 hx 354 (hb hby at_352) rfl rfl ?_
  refine P.aload X31 hx 356 (hb hby at_354) rfl rfl rfl ?_
  refine P.bipush X31 hx 358 24 (hb hby at_356) rfl rfl ?_
  refine X31.callS hx (w135 cx) (w136 cx) (w137 cx) (w138 cx) (by decide) (Ct.pay (W := 0) (ct_quad cx a14 a15 a9 b9 ([(p1 &&& (255 : Int32))]) ([(32 : Int32), 111, 102, 102, 115, 101, 116, 32, 63, 32, 114, 111, 119, 115]) (1 : Int32) 24 (24 : Int32) h13 _ _ S20 F23 rfl rfl (nle rfl) (nle rfl)) (w138 cx) (w137 cx) (nle rfl) (nle rfl)) (by rw [hml]; rfl) (argsL := [.ref a14, .int 1, .ref a9, .int 24]) (rest := []) (lenOf pd23 rfl) rfl rfl (Nat.le_of_eq rfl) (hb hby at_358) (nle rfl) (nle rfl) ?_
  rintro T32 h32 _ _ _ X32 ⟨rfl, rfl, rfl, J32⟩
  rw [J32] at X32
  refine P.ifNo X32 hx 364 (hb hby at_361) (by decide) rfl ?_
  refine P.aload X32 hx 366 (hb hby at_364) rfl rfl rfl ?_
  refine P.iload X32 hx 368 (hb hby at_366) rfl rfl ?_
  refine P.aload X32 hx 370 (hb hby at_368) rfl rfl rfl ?_
  refine P.bipush X32 hx 372 28 (hb hby at_370) rfl rfl ?_
  refine X32.callS hx (w135 cx) (w136 cx) (w137 cx) (w138 cx) (by decide) (Ct.pay (W := 0) (ct_quad cx a14 a15 a9 b9 ([(p1 &&& (255 : Int32))]) ([(32 : Int32), 111, 102, 102, 115, 101, 116, 32, 63, 32, 114, 111, 119, 115]) (1 : Int32) 28 (28 : Int32) h13 _ _ S20 F23 rfl rfl (nle rfl) (nle rfl)) (w138 cx) (w137 cx) (nle rfl) (nle rfl)) (by rw [hml]; rfl) (argsL := [.ref a14, .int 1, .ref a9, .int 28]) (rest := []) (lenOf pd23 rfl) rfl rfl (Nat.le_of_eq rfl) (hb hby at_372) (nle rfl) (nle rfl) ?_
  rintro T33 h33 _ _ _ X33 ⟨rfl, rfl, rfl, J33⟩
  rw [J33] at X33
  refine P.ifNo X33 hx 378 (hb hby at_375) (by decide) rfl ?_
  refine P.aload X33 hx 380 (hb hby at_378) rfl rfl rfl ?_
  refine P.iload X33 hx 382 (hb hby at_380) rfl rfl ?_
  refine P.aload X33 hx 384 (hb hby at_382) rfl rfl rfl ?_
  refine P.bipush X33 hx 386 32 (hb hby at_384) rfl rfl ?_
  refine X33.callS hx (w135 cx) (w136 cx) (w137 cx) (w138 cx) (by decide) (Ct.pay (W := 0) (ct_quad cx a14 a15 a9 b9 ([(p1 &&& (255 : Int32))]) ([(32 : Int32), 111, 102, 102, 115, 101, 116, 32, 63, 32, 114, 111, 119, 115]) (1 : Int32) 32 (32 : Int32) h13 _ _ S20 F23 rfl rfl (nle rfl) (nle rfl)) (w138 cx) (w137 cx) (nle rfl) (nle rfl)) (by rw [hml]; rfl) (argsL := [.ref a14, .int 1, .ref a9, .int 32]) (rest := []) (lenOf pd23 rfl) rfl rfl (Nat.le_of_eq rfl) (hb hby at_386) (nle rfl) (nle rfl) ?_
  rintro T34 h34 _ _ _ X34 ⟨rfl, rfl, rfl, J34⟩
  rw [J34] at X34
  refine P.ifNo X34 hx 392 (hb hby at_389) (by decide) rfl ?_
  refine P.aload X34 hx 394 (hb hby at_392) rfl rfl rfl ?_
  refine P.iload X34 hx 396 (hb hby at_394) rfl rfl ?_
  refine P.aload X34 hx 398 (hb hby at_396) rfl rfl rfl ?_
  refine P.bipush X34 hx 400 36 (hb hby at_398) rfl rfl ?_
  refine X34.callS hx (w135 cx) (w136 cx) (w137 cx) (w138 cx) (by decide) (Ct.pay (W := 0) (ct_quad cx a14 a15 a9 b9 ([(p1 &&& (255 : Int32))]) ([(32 : Int32), 111, 102, 102, 115, 101, 116, 32, 63, 32, 114, 111, 119, 115]) (1 : Int32) 36 (36 : Int32) h13 _ _ S20 F23 rfl rfl (nle rfl) (nle rfl)) (w138 cx) (w137 cx) (nle rfl) (nle rfl)) (by rw [hml]; rfl) (argsL := [.ref a14, .int 1, .ref a9, .int 36]) (rest := []) (lenOf pd23 rfl) rfl rfl (Nat.le_of_eq rfl) (hb hby at_400) (nle rfl) (nle rfl) ?_
  rintro T35 h35 _ _ _ X35 ⟨rfl, rfl, rfl, J35⟩
  rw [J35] at X35
  refine P.ifNo X35 hx 406 (hb hby at_403) (by decide) rfl ?_
  refine P.iconst X35 hx 407 1 (hb hby at_406) rfl rfl ?_
  refine P.goto X35 hx 411 (hb hby at_407) (by decide) (by decide) ?_
  have X36 := WS.drop (A := []) (B := WL) X35
  have X37 := WS.fl (FL2 := FL) X36 (fun y hy => (List.mem_append_right [a14, a15, a9, b9, a2, a3] hy))
  exact WS.retN X37 (WL' := []) (FL' := []) hx (t := .boolean) hret (by simp) hlk (hb hby at_411) (nle rfl) (nle rfl) ⟨rfl, rfl, rfl, K19⟩
set_option maxRecDepth 65536 in
set_option maxHeartbeats 4000000 in
theorem ct_law_111 {l : Launch} {Z : State} {a0 : Array Value} {gC : Int32} {gF : Value} (cx : Cx a0 Z gC gF) {n0 : Nat} (p0 : Int32) (p1 : Int32) (p2 : Int32) (p3 : Int32) (h : Heap) (WL FL : List Addr)  (en : (((p0.toUInt32 >>> ((2 : Int32) &&& 31).toUInt32).toInt32) &&& (3 : Int32)) = (1 : Int32)) (es : ¬ (p0 &&& (1 : Int32)) = (0 : Int32)) (el : ¬ (p0 &&& (2 : Int32)) = (0 : Int32)) :
    Ct l Z EL1 n0 x code maxLocals ret room_1 #[(.int p0), (.int p1), (.int p2), (.int p3)] h WL FL (Q_law Z gC gF p0 p1 p2 p3 h) := by
  refine Ct.of (plainFor_of_name pn7) ?_
  intro p e s m below meth c s1 hx hby hml hnm hret hlk X0
  refine Wo.cast (f' := (mkF m 0 #[.val (.int p0), .val (.int p1), .val (.int p2), .val (.int p3), .unset, .unset, .unset, .unset, .unset, .unset, .unset, .unset, .unset] [])) (by first | rfl | (simp [entryFrame, mkF, argsToLocals, Value.category]; done)) ?_
  have K0 : Keep h h [] := Keep.refl _ _
  show Wo _ _ _ _ _ _ _ _ _ _ _ s1 (mkF m 0 #[.val (.int p0), .val (.int p1), .val (.int p2), .val (.int p3), .unset, .unset, .unset, .unset, .unset, .unset, .unset, .unset, .unset] [])
  refine P.iloadN X0 hx 1 (hb hby at_0) rfl rfl ?_
  refine P.iconst X0 hx 2 1 (hb hby at_1) rfl rfl ?_
  refine P.iand X0 hx 3 (z := (p0 &&& (1 : Int32))) (hb hby at_2) rfl rfl ?_
  refine P.ifNo X0 hx 6 (hb hby at_3) ((if0 _ _).trans (feq es).1) rfl ?_
  refine P.iconst X0 hx 7 1 (hb hby at_6) rfl rfl ?_
  refine P.goto X0 hx 11 (hb hby at_7) (by decide) (by decide) ?_
  refine P.istore X0 hx 13 #[.val (.int p0), .val (.int p1), .val (.int p2), .val (.int p3), .val (.int 1), .unset, .unset, .unset, .unset, .unset, .unset, .unset, .unset] (hb hby at_11) rfl rfl ?_
  refine P.iloadN X0 hx 14 (hb hby at_13) rfl rfl ?_
  refine P.iconst X0 hx 15 2 (hb hby at_14) rfl rfl ?_
  refine P.iand X0 hx 16 (z := (p0 &&& (2 : Int32))) (hb hby at_15) rfl rfl ?_
  refine P.ifNo X0 hx 19 (hb hby at_16) ((if0 _ _).trans (feq el).1) rfl ?_
  refine P.iconst X0 hx 20 1 (hb hby at_19) rfl rfl ?_
  refine P.goto X0 hx 24 (hb hby at_20) (by decide) (by decide) ?_
  refine P.istore X0 hx 26 #[.val (.int p0), .val (.int p1), .val (.int p2), .val (.int p3), .val (.int 1), .val (.int 1), .unset, .unset, .unset, .unset, .unset, .unset, .unset] (hb hby at_24) rfl rfl ?_
  refine P.iloadN X0 hx 27 (hb hby at_26) rfl rfl ?_
  refine P.iconst X0 hx 28 2 (hb hby at_27) rfl rfl ?_
  refine P.iushr X0 hx 29 (z := ((p0.toUInt32 >>> ((2 : Int32) &&& 31).toUInt32).toInt32)) (hb hby at_28) rfl rfl ?_
  refine P.iconst X0 hx 30 3 (hb hby at_29) rfl rfl ?_
  refine P.iand X0 hx 31 (z := (1 : Int32)) (hb hby at_30) (by rw [en]) rfl ?_
  refine P.istore X0 hx 33 #[.val (.int p0), .val (.int p1), .val (.int p2), .val (.int p3), .val (.int 1), .val (.int 1), .val (.int 1), .unset, .unset, .unset, .unset, .unset, .unset] (hb hby at_31) rfl rfl ?_
  refine P.iloadN X0 hx 34 (hb hby at_33) rfl rfl ?_
  refine P.sipush X0 hx 37 255 (hb hby at_34) rfl rfl ?_
  refine P.iand X0 hx 38 (z := (p1 &&& (255 : Int32))) (hb hby at_37) rfl rfl ?_
  refine P.i2c X0 hx 39 (z := (p1 &&& (255 : Int32))) (hb hby at_38) (by rw [i2c_mask]) rfl ?_
  refine P.istore X0 hx 41 #[.val (.int p0), .val (.int p1), .val (.int p2), .val (.int p3), .val (.int 1), .val (.int 1), .val (.int 1), .val (.int (p1 &&& (255 : Int32))), .unset, .unset, .unset, .unset, .unset] (hb hby at_39) rfl rfl ?_
  refine P.iloadN X0 hx 42 (hb hby at_41) rfl rfl ?_
  refine P.sipush X0 hx 45 255 (hb hby at_42) rfl rfl ?_
  refine P.iand X0 hx 46 (z := (p2 &&& (255 : Int32))) (hb hby at_45) rfl rfl ?_
  refine P.i2c X0 hx 47 (z := (p2 &&& (255 : Int32))) (hb hby at_46) (by rw [i2c_mask]) rfl ?_
  refine P.istore X0 hx 49 #[.val (.int p0), .val (.int p1), .val (.int p2), .val (.int p3), .val (.int 1), .val (.int 1), .val (.int 1), .val (.int (p1 &&& (255 : Int32))), .val (.int (p2 &&& (255 : Int32))), .unset, .unset, .unset, .unset] (hb hby at_47) rfl rfl ?_
  refine P.iloadN X0 hx 50 (hb hby at_49) rfl rfl ?_
  refine P.sipush X0 hx 53 255 (hb hby at_50) rfl rfl ?_
  refine P.iand X0 hx 54 (z := (p3 &&& (255 : Int32))) (hb hby at_53) rfl rfl ?_
  refine P.i2c X0 hx 55 (z := (p3 &&& (255 : Int32))) (hb hby at_54) (by rw [i2c_mask]) rfl ?_
  refine P.istore X0 hx 57 #[.val (.int p0), .val (.int p1), .val (.int p2), .val (.int p3), .val (.int 1), .val (.int 1), .val (.int 1), .val (.int (p1 &&& (255 : Int32))), .val (.int (p2 &&& (255 : Int32))), .val (.int (p3 &&& (255 : Int32))), .unset, .unset, .unset] (hb hby at_55) rfl rfl ?_
  refine P.iload X0 hx 59 (hb hby at_57) rfl rfl ?_
  refine P.ifYes X0 hx 69 (hb hby at_59) (by decide) (by decide) (by decide) ?_
  refine P.iload X0 hx 71 (hb hby at_69) rfl rfl ?_
  refine P.iconst X0 hx 72 1 (hb hby at_71) rfl rfl ?_
  refine P.icmpNo X0 hx 75 (hb hby at_72) (by decide) rfl ?_
  refine P.iload X0 hx 77 (hb hby at_75) rfl rfl ?_
  refine X0.callS hx (w214 cx) (w215 cx) (w1 cx) (w216 cx) (by decide) (Ct.pay (W := 0) (ct_valC cx (p1 &&& (255 : Int32)) h _ _ (rng255 _)) (w216 cx) (w1 cx) (nle rfl) (nle rfl)) (by rw [hml]; rfl) (argsL := [.int (p1 &&& (255 : Int32))]) (rest := []) (lenOf pd25 rfl) rfl rfl (Nat.le_of_eq rfl) (hb hby at_77) (nle rfl) (nle rfl) ?_
  rintro T1 h1 _ _ _ X1 ⟨a2, a3, rfl, rfl, rfl, J1, g5, G4⟩
  have ge6 : h.size ≤ a2 := Nat.le_trans K0.1 g5
  have K7 : Keep h h1 [] := K0.trans J1 all0
  refine P.astore X1 hx 82 #[.val (.int p0), .val (.int p1), .val (.int p2), .val (.int p3), .val (.int 1), .val (.int 1), .val (.int 1), .val (.int (p1 &&& (255 : Int32))), .val (.int (p2 &&& (255 : Int32))), .val (.int (p3 &&& (255 : Int32))), .val (.ref a2), .unset, .unset] (hb hby at_80) rfl rfl rfl ?_
  refine P.goto X1 hx 143 (hb hby at_82) (by decide) (by decide) ?_
  have X8 := WS.drop (A := []) (B := WL) X1
  refine P.iload X8 hx 145 (hb hby at_143) rfl rfl ?_
  refine P.ifNo X8 hx 148 (hb hby at_145) (by decide) rfl ?_
  refine P.iload X8 hx 150 (hb hby at_148) rfl rfl ?_
  refine P.ifNo X8 hx 153 (hb hby at_150) (by decide) rfl ?_
  refine X8.ldc hx (w182 cx) (strAtoms cx) (by decide) (vs := [(.int 32), (.int 111), (.int 102), (.int 102), (.int 115), (.int 101), (.int 116), (.int 32), (.int 63), (.int 32), (.int 114), (.int 111), (.int 119), (.int 115), (.int 32), (.int 102), (.int 101), (.int 116), (.int 99), (.int 104), (.int 32), (.int 102), (.int 105), (.int 114), (.int 115), (.int 116), (.int 32), (.int 63), (.int 32), (.int 114), (.int 111), (.int 119), (.int 115), (.int 32), (.int 111), (.int 110), (.int 108), (.int 121)]) (z := (38 : Int32)) ⟨by decide, by decide⟩ (by decide) rfl (hb hby at_153) (n := 152) (nle rfl) (nle rfl) (nle rfl) (nle rfl) ?_
  intro T9 h9 a9 b9 k9 X9 E9 A9 C9 V9 B9
  have K10 : Keep h h9 [] := K7.ext E9
  refine P.astore X9 hx 157 #[.val (.int p0), .val (.int p1), .val (.int p2), .val (.int p3), .val (.int 1), .val (.int 1), .val (.int 1), .val (.int (p1 &&& (255 : Int32))), .val (.int (p2 &&& (255 : Int32))), .val (.int (p3 &&& (255 : Int32))), .val (.ref a2), .val (.ref a9), .unset] (hb hby at_155) rfl rfl rfl ?_
  refine P.goto X9 hx 183 (hb hby at_157) (by decide) (by decide) ?_
  have S11 : StrL Z h9 a9 b9 [(32 : Int32), 111, 102, 102, 115, 101, 116, 32, 63, 32, 114, 111, 119, 115, 32, 102, 101, 116, 99, 104, 32, 102, 105, 114, 115, 116, 32, 63, 32, 114, 111, 119, 115, 32, 111, 110, 108, 121] := ⟨A9, V9, C9, ⟨_, B9⟩, (by decide), nle rfl⟩
  refine P.aload X9 hx 185 (hb hby at_183) rfl rfl rfl ?_
  refine P.iload X9 hx 187 (hb hby at_185) rfl rfl ?_
  refine P.iload X9 hx 189 (hb hby at_187) rfl rfl ?_
  have F12 : StrL Z h9 a2 a3 [(p1 &&& (255 : Int32))] := (G4.ext E9)
  refine X9.callS hx (w8 cx) (w9 cx) (w10 cx) (w11 cx) (by decide) (Ct.pay (W := 0) (ct_pag11 cx a2 a3 ([(p1 &&& (255 : Int32))]) h9 _ _ F12 (List.mem_of_getElem? (i := 2) rfl) (List.mem_of_getElem? (i := 3) rfl) (nle rfl)) (w11 cx) (w10 cx) (nle rfl) (nle rfl)) (by rw [hml]; rfl) (argsL := [.ref a2, .int 1, .int 1]) (rest := []) (lenOf pd24 rfl) rfl rfl (Nat.le_of_eq rfl) (hb hby at_189) (nle rfl) (nle rfl) ?_
  rintro T13 h13 _ _ _ X13 ⟨a14, a15, rfl, rfl, rfl, J13, g17, G16⟩
  have ge18 : h.size ≤ a14 := Nat.le_trans K10.1 g17
  have K19 : Keep h h13 [] := K10.trans J13 all0
  have S20 : StrL Z h13 a14 a15 [(p1 &&& (255 : Int32)), 32, 111, 102, 102, 115, 101, 116, 32, 63, 32, 114, 111, 119, 115, 32, 102, 101, 116, 99, 104, 32, 102, 105, 114, 115, 116, 32, 63, 32, 114, 111, 119, 115, 32, 111, 110, 108, 121] := G16
  refine P.astore X13 hx 194 #[.val (.int p0), .val (.int p1), .val (.int p2), .val (.int p3), .val (.int 1), .val (.int 1), .val (.int 1), .val (.int (p1 &&& (255 : Int32))), .val (.int (p2 &&& (255 : Int32))), .val (.int (p3 &&& (255 : Int32))), .val (.ref a2), .val (.ref a9), .val (.ref a14)] (hb hby at_192) rfl rfl rfl ?_
  refine P.aload X13 hx 196 (hb hby at_194) rfl rfl rfl ?_
  refine P.ifnonnullYes X13 hx 201 (hb hby at_196) (by decide) (by decide) ?_
  refine P.aload X13 hx 203 (hb hby at_201) rfl rfl rfl ?_
  refine X13.callV hx (w134 cx) (w28 cx) (w30 cx) (w29 cx) (fun _ hZ => nf hZ (w30 cx)) (by decide) S20.1 (pay_len (W := 0) (hln cx) (w2 cx) S20 (X13.sta (S_C cx)) (N_C cx) (nle rfl) (nle rfl)) (by rw [hml]; rfl) (argsL := []) (rest := []) (lenOf pd7 rfl) rfl rfl (Nat.le_of_eq rfl) (hb hby at_203) (nle rfl) (nle rfl) ?_
  rintro T21 h21 _ _ _ X21 ⟨rfl, rfl, rfl, J21⟩
  rw [J21] at X21
  show Wo _ _ _ _ _ _ _ _ _ _ _ T21 (mkF m 206 #[.val (.int p0), .val (.int p1), .val (.int p2), .val (.int p3), .val (.int 1), .val (.int 1), .val (.int 1), .val (.int (p1 &&& (255 : Int32))), .val (.int (p2 &&& (255 : Int32))), .val (.int (p3 &&& (255 : Int32))), .val (.ref a2), .val (.ref a9), .val (.ref a14)] [.int 39])
  refine P.iload X21 hx 208 (hb hby at_206) rfl rfl ?_
  refine P.aload X21 hx 210 (hb hby at_208) rfl rfl rfl ?_
  have F22 : Exa Z h13 a9 "java/lang/String" := (S11.1.keep J13)
  have F23 : StrL Z h13 a9 b9 [(32 : Int32), 111, 102, 102, 115, 101, 116, 32, 63, 32, 114, 111, 119, 115, 32, 102, 101, 116, 99, 104, 32, 102, 105, 114, 115, 116, 32, 63, 32, 114, 111, 119, 115, 32, 111, 110, 108, 121] := (S11.keep J13 nin0 nin0)
  refine X21.callV hx (w134 cx) (w28 cx) (w30 cx) (w29 cx) (fun _ hZ => nf hZ (w30 cx)) (by decide) F22 (pay_len (W := 2) (hln cx) (w2 cx) F23 (X21.sta (S_C cx)) (N_C cx) (nle rfl) (nle rfl)) (by rw [hml]; rfl) (argsL := []) (rest := [.int 1, .int 39]) (lenOf pd7 rfl) rfl rfl (Nat.le_of_eq rfl) (hb hby at_210) (nle rfl) (nle rfl) ?_
  rintro T24 h24 _ _ _ X24 ⟨rfl, rfl, rfl, J24⟩
  rw [J24] at X24
  show Wo _ _ _ _ _ _ _ _ _ _ _ T24 (mkF m 213 #[.val (.int p0), .val (.int p1), .val (.int p2), .val (.int p3), .val (.int 1), .val (.int 1), .val (.int 1), .val (.int (p1 &&& (255 : Int32))), .val (.int (p2 &&& (255 : Int32))), .val (.int (p3 &&& (255 : Int32))), .val (.ref a2), .val (.ref a9), .val (.ref a14)] [.int 38, .int 1, .int 39])
  refine P.iadd X24 hx 214 (z := (39 : Int32)) (hb hby at_213) rfl rfl ?_
  refine P.icmpNo X24 hx 217 (hb hby at_214) (by decide) rfl ?_
  refine P.iload X24 hx 219 (hb hby at_217) rfl rfl ?_
  refine P.iconst X24 hx 220 1 (hb hby at_219) rfl rfl ?_
  refine P.icmpNo X24 hx 223 (hb hby at_220) (by decide) rfl ?_
  refine P.aload X24 hx 225 (hb hby at_223) rfl rfl rfl ?_
  refine P.iconst X24 hx 226 0 (hb hby at_225) rfl rfl ?_
  refine X24.callV hx (w160 cx) (w161 cx) (w163 cx) (w162 cx) (fun _ hZ => nf hZ (w163 cx)) (by decide) S20.1 (pay_chr (W := 0) (hch cx) (w2 cx) S20 (X24.sta (S_C cx)) (N_C cx) (X24.sta (S_F cx)) (R_F cx) (i := 0) (nlt rfl) rfl (nle rfl) (nle rfl)) (by rw [hml]; rfl) (argsL := [.int 0]) (rest := []) (lenOf pd22 rfl) rfl rfl (Nat.le_of_eq rfl) (hb hby at_226) (nle rfl) (nle rfl) ?_
  rintro T25 h25 _ _ _ X25 ⟨rfl, rfl, rfl, J25⟩
  rw [J25] at X25
  show Wo _ _ _ _ _ _ _ _ _ _ _ T25 (mkF m 229 #[.val (.int p0), .val (.int p1), .val (.int p2), .val (.int p3), .val (.int 1), .val (.int 1), .val (.int 1), .val (.int (p1 &&& (255 : Int32))), .val (.int (p2 &&& (255 : Int32))), .val (.int (p3 &&& (255 : Int32))), .val (.ref a2), .val (.ref a9), .val (.ref a14)] [.int (p1 &&& (255 : Int32))])
  refine P.iload X25 hx 231 (hb hby at_229) rfl rfl ?_
  refine P.icmpNo X25 hx 234 (hb hby at_231) (teq rfl).2 rfl ?_
  refine P.iload X25 hx 236 (hb hby at_234) rfl rfl ?_
  refine P.iconst X25 hx 237 2 (hb hby at_236) rfl rfl ?_
  refine P.icmpYes X25 hx 251 (hb hby at_237) (by decide) (by decide) (by decide) ?_
  refine P.iload X25 hx 253 (hb hby at_251) rfl rfl ?_
  refine P.iconst X25 hx 254 3 (hb hby at_253) rfl rfl ?_
  refine P.icmpYes X25 hx 268 (hb hby at_254) (by decide) (by decide) (by decide) ?_
  refine P.aload X25 hx 270 (hb hby at_268) rfl rfl rfl ?_
  refine P.iload X25 hx 272 (hb hby at_270) rfl rfl ?_
  refine P.aload X25 hx 274 (hb hby at_272) rfl rfl rfl ?_
  refine P.iconst X25 hx 275 0 (hb hby at_274) rfl rfl ?_
  refine X25.callS hx (w135 cx) (w136 cx) (w137 cx) (w138 cx) (by decide) (Ct.pay (W := 0) (ct_quad cx a14 a15 a9 b9 ([(p1 &&& (255 : Int32))]) ([(32 : Int32), 111, 102, 102, 115, 101, 116, 32, 63, 32, 114, 111, 119, 115, 32, 102, 101, 116, 99, 104, 32, 102, 105, 114, 115, 116, 32, 63, 32, 114, 111, 119, 115, 32, 111, 110, 108, 121]) (1 : Int32) 0 (0 : Int32) h13 _ _ S20 F23 rfl rfl (nle rfl) (nle rfl)) (w138 cx) (w137 cx) (nle rfl) (nle rfl)) (by rw [hml]; rfl) (argsL := [.ref a14, .int 1, .ref a9, .int 0]) (rest := []) (lenOf pd23 rfl) rfl rfl (Nat.le_of_eq rfl) (hb hby at_275) (nle rfl) (nle rfl) ?_
  rintro T26 h26 _ _ _ X26 ⟨rfl, rfl, rfl, J26⟩
  rw [J26] at X26
  refine P.ifNo X26 hx 281 (hb hby at_278) (by decide) rfl ?_
  refine P.aload X26 hx 283 (hb hby at_281) rfl rfl rfl ?_
  refine P.iload X26 hx 285 (hb hby at_283) rfl rfl ?_
  refine P.aload X26 hx 287 (hb hby at_285) rfl rfl rfl ?_
  refine P.iconst X26 hx 288 4 (hb hby at_287) rfl rfl ?_
  refine X26.callS hx (w135 cx) (w136 cx) (w137 cx) (w138 cx) (by decide) (Ct.pay (W := 0) (ct_quad cx a14 a15 a9 b9 ([(p1 &&& (255 : Int32))]) ([(32 : Int32), 111, 102, 102, 115, 101, 116, 32, 63, 32, 114, 111, 119, 115, 32, 102, 101, 116, 99, 104, 32, 102, 105, 114, 115, 116, 32, 63, 32, 114, 111, 119, 115, 32, 111, 110, 108, 121]) (1 : Int32) 4 (4 : Int32) h13 _ _ S20 F23 rfl rfl (nle rfl) (nle rfl)) (w138 cx) (w137 cx) (nle rfl) (nle rfl)) (by rw [hml]; rfl) (argsL := [.ref a14, .int 1, .ref a9, .int 4]) (rest := []) (lenOf pd23 rfl) rfl rfl (Nat.le_of_eq rfl) (hb hby at_288) (nle rfl) (nle rfl) ?_
  rintro T27 h27 _ _ _ X27 ⟨rfl, rfl, rfl, J27⟩
  rw [J27] at X27
  refine P.ifNo X27 hx 294 (hb hby at_291) (by decide) rfl ?_
  refine P.aload X27 hx 296 (hb hby at_294) rfl rfl rfl ?_
  refine P.iload X27 hx 298 (hb hby at_296) rfl rfl ?_
  refine P.aload X27 hx 300 (hb hby at_298) rfl rfl rfl ?_
  refine P.bipush X27 hx 302 8 (hb hby at_300) rfl rfl ?_
  refine X27.callS hx (w135 cx) (w136 cx) (w137 cx) (w138 cx) (by decide) (Ct.pay (W := 0) (ct_quad cx a14 a15 a9 b9 ([(p1 &&& (255 : Int32))]) ([(32 : Int32), 111, 102, 102, 115, 101, 116, 32, 63, 32, 114, 111, 119, 115, 32, 102, 101, 116, 99, 104, 32, 102, 105, 114, 115, 116, 32, 63, 32, 114, 111, 119, 115, 32, 111, 110, 108, 121]) (1 : Int32) 8 (8 : Int32) h13 _ _ S20 F23 rfl rfl (nle rfl) (nle rfl)) (w138 cx) (w137 cx) (nle rfl) (nle rfl)) (by rw [hml]; rfl) (argsL := [.ref a14, .int 1, .ref a9, .int 8]) (rest := []) (lenOf pd23 rfl) rfl rfl (Nat.le_of_eq rfl) (hb hby at_302) (nle rfl) (nle rfl) ?_
  rintro T28 h28 _ _ _ X28 ⟨rfl, rfl, rfl, J28⟩
  rw [J28] at X28
  refine P.ifNo X28 hx 308 (hb hby at_305) (by decide) rfl ?_
  refine P.aload X28 hx 310 (hb hby at_308) rfl rfl rfl ?_
  refine P.iload X28 hx 312 (hb hby at_310) rfl rfl ?_
  refine P.aload X28 hx 314 (hb hby at_312) rfl rfl rfl ?_
  refine P.bipush X28 hx 316 12 (hb hby at_314) rfl rfl ?_
  refine X28.callS hx (w135 cx) (w136 cx) (w137 cx) (w138 cx) (by decide) (Ct.pay (W := 0) (ct_quad cx a14 a15 a9 b9 ([(p1 &&& (255 : Int32))]) ([(32 : Int32), 111, 102, 102, 115, 101, 116, 32, 63, 32, 114, 111, 119, 115, 32, 102, 101, 116, 99, 104, 32, 102, 105, 114, 115, 116, 32, 63, 32, 114, 111, 119, 115, 32, 111, 110, 108, 121]) (1 : Int32) 12 (12 : Int32) h13 _ _ S20 F23 rfl rfl (nle rfl) (nle rfl)) (w138 cx) (w137 cx) (nle rfl) (nle rfl)) (by rw [hml]; rfl) (argsL := [.ref a14, .int 1, .ref a9, .int 12]) (rest := []) (lenOf pd23 rfl) rfl rfl (Nat.le_of_eq rfl) (hb hby at_316) (nle rfl) (nle rfl) ?_
  rintro T29 h29 _ _ _ X29 ⟨rfl, rfl, rfl, J29⟩
  rw [J29] at X29
  refine P.ifNo X29 hx 322 (hb hby at_319) (by decide) rfl ?_
  refine P.aload X29 hx 324 (hb hby at_322) rfl rfl rfl ?_
  refine P.iload X29 hx 326 (hb hby at_324) rfl rfl ?_
  refine P.aload X29 hx 328 (hb hby at_326) rfl rfl rfl ?_
  refine P.bipush X29 hx 330 16 (hb hby at_328) rfl rfl ?_
  refine X29.callS hx (w135 cx) (w136 cx) (w137 cx) (w138 cx) (by decide) (Ct.pay (W := 0) (ct_quad cx a14 a15 a9 b9 ([(p1 &&& (255 : Int32))]) ([(32 : Int32), 111, 102, 102, 115, 101, 116, 32, 63, 32, 114, 111, 119, 115, 32, 102, 101, 116, 99, 104, 32, 102, 105, 114, 115, 116, 32, 63, 32, 114, 111, 119, 115, 32, 111, 110, 108, 121]) (1 : Int32) 16 (16 : Int32) h13 _ _ S20 F23 rfl rfl (nle rfl) (nle rfl)) (w138 cx) (w137 cx) (nle rfl) (nle rfl)) (by rw [hml]; rfl) (argsL := [.ref a14, .int 1, .ref a9, .int 16]) (rest := []) (lenOf pd23 rfl) rfl rfl (Nat.le_of_eq rfl) (hb hby at_330) (nle rfl) (nle rfl) ?_
  rintro T30 h30 _ _ _ X30 ⟨rfl, rfl, rfl, J30⟩
  rw [J30] at X30
  refine P.ifNo X30 hx 336 (hb hby at_333) (by decide) rfl ?_
  refine P.aload X30 hx 338 (hb hby at_336) rfl rfl rfl ?_
  refine P.iload X30 hx 340 (hb hby at_338) rfl rfl ?_
  refine P.aload X30 hx 342 (hb hby at_340) rfl rfl rfl ?_
  refine P.bipush X30 hx 344 20 (hb hby at_342) rfl rfl ?_
  refine X30.callS hx (w135 cx) (w136 cx) (w137 cx) (w138 cx) (by decide) (Ct.pay (W := 0) (ct_quad cx a14 a15 a9 b9 ([(p1 &&& (255 : Int32))]) ([(32 : Int32), 111, 102, 102, 115, 101, 116, 32, 63, 32, 114, 111, 119, 115, 32, 102, 101, 116, 99, 104, 32, 102, 105, 114, 115, 116, 32, 63, 32, 114, 111, 119, 115, 32, 111, 110, 108, 121]) (1 : Int32) 20 (20 : Int32) h13 _ _ S20 F23 rfl rfl (nle rfl) (nle rfl)) (w138 cx) (w137 cx) (nle rfl) (nle rfl)) (by rw [hml]; rfl) (argsL := [.ref a14, .int 1, .ref a9, .int 20]) (rest := []) (lenOf pd23 rfl) rfl rfl (Nat.le_of_eq rfl) (hb hby at_344) (nle rfl) (nle rfl) ?_
  rintro T31 h31 _ _ _ X31 ⟨rfl, rfl, rfl, J31⟩
  rw [J31] at X31
  refine P.ifNo X31 hx 350 (hb hby at_347) (by decide) rfl ?_
  refine P.aload X31 hx 352 (hb hby at_350) rfl rfl rfl ?_
  refine P.iload X31 hx 354 (hb hby at_352) rfl rfl ?_
  refine P.aload X31 hx 356 (hb hby at_354) rfl rfl rfl ?_
  refine P.bipush X31 hx 358 24 (hb hby at_356) rfl rfl ?_
  refine X31.callS hx (w135 cx) (w136 cx) (w137 cx) (w138 cx) (by decide) (Ct.pay (W := 0) (ct_quad cx a14 a15 a9 b9 ([(p1 &&& (255 : Int32))]) ([(32 : Int32), 111, 102, 102, 115, 101, 116, 32, 63, 32, 114, 111, 119, 115, 32, 102, 101, 116, 99, 104, 32, 102, 105, 114, 115, 116, 32, 63, 32, 114, 111, 119, 115, 32, 111, 110, 108, 121]) (1 : Int32) 24 (24 : Int32) h13 _ _ S20 F23 rfl rfl (nle rfl) (nle rfl)) (w138 cx) (w137 cx) (nle rfl) (nle rfl)) (by rw [hml]; rfl) (argsL := [.ref a14, .int 1, .ref a9, .int 24]) (rest := []) (lenOf pd23 rfl) rfl rfl (Nat.le_of_eq rfl) (hb hby at_358) (nle rfl) (nle rfl) ?_
  rintro T32 h32 _ _ _ X32 ⟨rfl, rfl, rfl, J32⟩
  rw [J32] at X32
  refine P.ifNo X32 hx 364 (hb hby at_361) (by decide) rfl ?_
  refine P.aload X32 hx 366 (hb hby at_364) rfl rfl rfl ?_
  refine P.iload X32 hx 368 (hb hby at_366) rfl rfl ?_
  refine P.aload X32 hx 370 (hb hby at_368) rfl rfl rfl ?_
  refine P.bipush X32 hx 372 28 (hb hby at_370) rfl rfl ?_
  refine X32.callS hx (w135 cx) (w136 cx) (w137 cx) (w138 cx) (by decide) (Ct.pay (W := 0) (ct_quad cx a14 a15 a9 b9 ([(p1 &&& (255 : Int32))]) ([(32 : Int32), 111, 102, 102, 115, 101, 116, 32, 63, 32, 114, 111, 119, 115, 32, 102, 101, 116, 99, 104, 32, 102, 105, 114, 115, 116, 32, 63, 32, 114, 111, 119, 115, 32, 111, 110, 108, 121]) (1 : Int32) 28 (28 : Int32) h13 _ _ S20 F23 rfl rfl (nle rfl) (nle rfl)) (w138 cx) (w137 cx) (nle rfl) (nle rfl)) (by rw [hml]; rfl) (argsL := [.ref a14, .int 1, .ref a9, .int 28]) (rest := []) (lenOf pd23 rfl) rfl rfl (Nat.le_of_eq rfl) (hb hby at_372) (nle rfl) (nle rfl) ?_
  rintro T33 h33 _ _ _ X33 ⟨rfl, rfl, rfl, J33⟩
  rw [J33] at X33
  refine P.ifNo X33 hx 378 (hb hby at_375) (by decide) rfl ?_
  refine P.aload X33 hx 380 (hb hby at_378) rfl rfl rfl ?_
  refine P.iload X33 hx 382 (hb hby at_380) rfl rfl ?_
  refine P.aload X33 hx 384 (hb hby at_382) rfl rfl rfl ?_
  refine P.bipush X33 hx 386 32 (hb hby at_384) rfl rfl ?_
  refine X33.callS hx (w135 cx) (w136 cx) (w137 cx) (w138 cx) (by decide) (Ct.pay (W := 0) (ct_quad cx a14 a15 a9 b9 ([(p1 &&& (255 : Int32))]) ([(32 : Int32), 111, 102, 102, 115, 101, 116, 32, 63, 32, 114, 111, 119, 115, 32, 102, 101, 116, 99, 104, 32, 102, 105, 114, 115, 116, 32, 63, 32, 114, 111, 119, 115, 32, 111, 110, 108, 121]) (1 : Int32) 32 (32 : Int32) h13 _ _ S20 F23 rfl rfl (nle rfl) (nle rfl)) (w138 cx) (w137 cx) (nle rfl) (nle rfl)) (by rw [hml]; rfl) (argsL := [.ref a14, .int 1, .ref a9, .int 32]) (rest := []) (lenOf pd23 rfl) rfl rfl (Nat.le_of_eq rfl) (hb hby at_386) (nle rfl) (nle rfl) ?_
  rintro T34 h34 _ _ _ X34 ⟨rfl, rfl, rfl, J34⟩
  rw [J34] at X34
  refine P.ifNo X34 hx 392 (hb hby at_389) (by decide) rfl ?_
  refine P.aload X34 hx 394 (hb hby at_392) rfl rfl rfl ?_
  refine P.iload X34 hx 396 (hb hby at_394) rfl rfl ?_
  refine P.aload X34 hx 398 (hb hby at_396) rfl rfl rfl ?_
  refine P.bipush X34 hx 400 36 (hb hby at_398) rfl rfl ?_
  refine X34.callS hx (w135 cx) (w136 cx) (w137 cx) (w138 cx) (by decide) (Ct.pay (W := 0) (ct_quad cx a14 a15 a9 b9 ([(p1 &&& (255 : Int32))]) ([(32 : Int32), 111, 102, 102, 115, 101, 116, 32, 63, 32, 114, 111, 119, 115, 32, 102, 101, 116, 99, 104, 32, 102, 105, 114, 115, 116, 32, 63, 32, 114, 111, 119, 115, 32, 111, 110, 108, 121]) (1 : Int32) 36 (36 : Int32) h13 _ _ S20 F23 rfl rfl (nle rfl) (nle rfl)) (w138 cx) (w137 cx) (nle rfl) (nle rfl)) (by rw [hml]; rfl) (argsL := [.ref a14, .int 1, .ref a9, .int 36]) (rest := []) (lenOf pd23 rfl) rfl rfl (Nat.le_of_eq rfl) (hb hby at_400) (nle rfl) (nle rfl) ?_
  rintro T35 h35 _ _ _ X35 ⟨rfl, rfl, rfl, J35⟩
  rw [J35] at X35
  refine P.ifNo X35 hx 406 (hb hby at_403) (by decide) rfl ?_
  refine P.iconst X35 hx 407 1 (hb hby at_406) rfl rfl ?_
  refine P.goto X35 hx 411 (hb hby at_407) (by decide) (by decide) ?_
  have X36 := WS.drop (A := []) (B := WL) X35
  have X37 := WS.fl (FL2 := FL) X36 (fun y hy => (List.mem_append_right [a14, a15, a9, b9, a2, a3] hy))
  exact WS.retN X37 (WL' := []) (FL' := []) hx (t := .boolean) hret (by simp) hlk (hb hby at_411) (nle rfl) (nle rfl) ⟨rfl, rfl, rfl, K19⟩
set_option maxRecDepth 65536 in
set_option maxHeartbeats 4000000 in
theorem ct_law_200 {l : Launch} {Z : State} {a0 : Array Value} {gC : Int32} {gF : Value} (cx : Cx a0 Z gC gF) {n0 : Nat} (p0 : Int32) (p1 : Int32) (p2 : Int32) (p3 : Int32) (h : Heap) (WL FL : List Addr)  (en : (((p0.toUInt32 >>> ((2 : Int32) &&& 31).toUInt32).toInt32) &&& (3 : Int32)) = (2 : Int32)) (es : (p0 &&& (1 : Int32)) = (0 : Int32)) (el : (p0 &&& (2 : Int32)) = (0 : Int32)) :
    Ct l Z EL1 n0 x code maxLocals ret room_1 #[(.int p0), (.int p1), (.int p2), (.int p3)] h WL FL (Q_law Z gC gF p0 p1 p2 p3 h) := by
  refine Ct.of (plainFor_of_name pn7) ?_
  intro p e s m below meth c s1 hx hby hml hnm hret hlk X0
  refine Wo.cast (f' := (mkF m 0 #[.val (.int p0), .val (.int p1), .val (.int p2), .val (.int p3), .unset, .unset, .unset, .unset, .unset, .unset, .unset, .unset, .unset] [])) (by first | rfl | (simp [entryFrame, mkF, argsToLocals, Value.category]; done)) ?_
  have K0 : Keep h h [] := Keep.refl _ _
  show Wo _ _ _ _ _ _ _ _ _ _ _ s1 (mkF m 0 #[.val (.int p0), .val (.int p1), .val (.int p2), .val (.int p3), .unset, .unset, .unset, .unset, .unset, .unset, .unset, .unset, .unset] [])
  refine P.iloadN X0 hx 1 (hb hby at_0) rfl rfl ?_
  refine P.iconst X0 hx 2 1 (hb hby at_1) rfl rfl ?_
  refine P.iand X0 hx 3 (z := (p0 &&& (1 : Int32))) (hb hby at_2) rfl rfl ?_
  refine P.ifYes X0 hx 10 (hb hby at_3) ((if0 _ _).trans (teq es).1) (by decide) (by decide) ?_
  refine P.iconst X0 hx 11 0 (hb hby at_10) rfl rfl ?_
  refine P.istore X0 hx 13 #[.val (.int p0), .val (.int p1), .val (.int p2), .val (.int p3), .val (.int 0), .unset, .unset, .unset, .unset, .unset, .unset, .unset, .unset] (hb hby at_11) rfl rfl ?_
  refine P.iloadN X0 hx 14 (hb hby at_13) rfl rfl ?_
  refine P.iconst X0 hx 15 2 (hb hby at_14) rfl rfl ?_
  refine P.iand X0 hx 16 (z := (p0 &&& (2 : Int32))) (hb hby at_15) rfl rfl ?_
  refine P.ifYes X0 hx 23 (hb hby at_16) ((if0 _ _).trans (teq el).1) (by decide) (by decide) ?_
  refine P.iconst X0 hx 24 0 (hb hby at_23) rfl rfl ?_
  refine P.istore X0 hx 26 #[.val (.int p0), .val (.int p1), .val (.int p2), .val (.int p3), .val (.int 0), .val (.int 0), .unset, .unset, .unset, .unset, .unset, .unset, .unset] (hb hby at_24) rfl rfl ?_
  refine P.iloadN X0 hx 27 (hb hby at_26) rfl rfl ?_
  refine P.iconst X0 hx 28 2 (hb hby at_27) rfl rfl ?_
  refine P.iushr X0 hx 29 (z := ((p0.toUInt32 >>> ((2 : Int32) &&& 31).toUInt32).toInt32)) (hb hby at_28) rfl rfl ?_
  refine P.iconst X0 hx 30 3 (hb hby at_29) rfl rfl ?_
  refine P.iand X0 hx 31 (z := (2 : Int32)) (hb hby at_30) (by rw [en]) rfl ?_
  refine P.istore X0 hx 33 #[.val (.int p0), .val (.int p1), .val (.int p2), .val (.int p3), .val (.int 0), .val (.int 0), .val (.int 2), .unset, .unset, .unset, .unset, .unset, .unset] (hb hby at_31) rfl rfl ?_
  refine P.iloadN X0 hx 34 (hb hby at_33) rfl rfl ?_
  refine P.sipush X0 hx 37 255 (hb hby at_34) rfl rfl ?_
  refine P.iand X0 hx 38 (z := (p1 &&& (255 : Int32))) (hb hby at_37) rfl rfl ?_
  refine P.i2c X0 hx 39 (z := (p1 &&& (255 : Int32))) (hb hby at_38) (by rw [i2c_mask]) rfl ?_
  refine P.istore X0 hx 41 #[.val (.int p0), .val (.int p1), .val (.int p2), .val (.int p3), .val (.int 0), .val (.int 0), .val (.int 2), .val (.int (p1 &&& (255 : Int32))), .unset, .unset, .unset, .unset, .unset] (hb hby at_39) rfl rfl ?_
  refine P.iloadN X0 hx 42 (hb hby at_41) rfl rfl ?_
  refine P.sipush X0 hx 45 255 (hb hby at_42) rfl rfl ?_
  refine P.iand X0 hx 46 (z := (p2 &&& (255 : Int32))) (hb hby at_45) rfl rfl ?_
  refine P.i2c X0 hx 47 (z := (p2 &&& (255 : Int32))) (hb hby at_46) (by rw [i2c_mask]) rfl ?_
  refine P.istore X0 hx 49 #[.val (.int p0), .val (.int p1), .val (.int p2), .val (.int p3), .val (.int 0), .val (.int 0), .val (.int 2), .val (.int (p1 &&& (255 : Int32))), .val (.int (p2 &&& (255 : Int32))), .unset, .unset, .unset, .unset] (hb hby at_47) rfl rfl ?_
  refine P.iloadN X0 hx 50 (hb hby at_49) rfl rfl ?_
  refine P.sipush X0 hx 53 255 (hb hby at_50) rfl rfl ?_
  refine P.iand X0 hx 54 (z := (p3 &&& (255 : Int32))) (hb hby at_53) rfl rfl ?_
  refine P.i2c X0 hx 55 (z := (p3 &&& (255 : Int32))) (hb hby at_54) (by rw [i2c_mask]) rfl ?_
  refine P.istore X0 hx 57 #[.val (.int p0), .val (.int p1), .val (.int p2), .val (.int p3), .val (.int 0), .val (.int 0), .val (.int 2), .val (.int (p1 &&& (255 : Int32))), .val (.int (p2 &&& (255 : Int32))), .val (.int (p3 &&& (255 : Int32))), .unset, .unset, .unset] (hb hby at_55) rfl rfl ?_
  refine P.iload X0 hx 59 (hb hby at_57) rfl rfl ?_
  refine P.ifYes X0 hx 69 (hb hby at_59) (by decide) (by decide) (by decide) ?_
  refine P.iload X0 hx 71 (hb hby at_69) rfl rfl ?_
  refine P.iconst X0 hx 72 1 (hb hby at_71) rfl rfl ?_
  refine P.icmpYes X0 hx 85 (hb hby at_72) (by decide) (by decide) (by decide) ?_
  refine P.iload X0 hx 87 (hb hby at_85) rfl rfl ?_
  refine P.iconst X0 hx 88 2 (hb hby at_87) rfl rfl ?_
  refine P.icmpNo X0 hx 91 (hb hby at_88) (by decide) rfl ?_
  refine X0.newO hx (w142 cx) (w2 cx) (w1 cx) (hb hby at_91) (nle rfl) (nle rfl) ?_
  intro T1 h1 a1 X1 E1 g1 A1 D1
  have ge2 : h.size ≤ a1 := Nat.le_trans K0.1 g1
  have K3 : Keep h h1 [] := K0.ext E1
  have D4 : Fld Z h1 a1 "java/lang/String" "value" "[B" .null := D1 (Or.inr (w4 cx)) (ty := (.array .byte)) (by decide)
  have D5 : Fld Z h1 a1 "java/lang/String" "coder" "B" (.int 0) := D1 (Or.inr (w5 cx)) (ty := .byte) (by decide)
  refine P.dup X1 hx 95 (hb hby at_94) rfl rfl ?_
  refine P.iconst X1 hx 96 2 (hb hby at_95) rfl rfl ?_
  refine X1.newP (aty := .char) hx (w143 cx) (hb hby at_96) (by decide) (cap := 2) (nle rfl) (nle rfl) (nle rfl) (nle rfl) ?_
  intro T6 h6 a6 k6 X6 E6 g6 A6
  have ge7 : h.size ≤ a6 := Nat.le_trans K3.1 g6
  have K8 : Keep h h6 [] := K3.ext E6
  have V9 : Arv Z h6 a6 k6 .char (2 : Int32) [(.int 0), (.int 0)] (.int 0) := Arv.pad A6 (pad_rep [] _ 2)
  refine P.dup X6 hx 99 (hb hby at_98) rfl rfl ?_
  refine P.iconst X6 hx 100 0 (hb hby at_99) rfl rfl ?_
  refine P.iload X6 hx 102 (hb hby at_100) rfl rfl ?_
  refine X6.stC hx V9 (j := (0 : Int32)) (x := (p1 &&& (255 : Int32))) (i := 0) (by decide) rfl (nlt rfl) (List.mem_of_getElem? (i := 0) rfl) (hb hby at_102) ?_
  intro T10 h10 X10 W10 G10
  have K11 : Keep h h10 [] := K8.wr W10 (Or.inr ge7)
  have V12 : Arv Z h10 a6 k6 .char (2 : Int32) [(.int (p1 &&& (255 : Int32))), (.int 0)] (.int 0) := by have q := G10; rw [nar255] at q; exact q
  refine P.dup X10 hx 104 (hb hby at_103) rfl rfl ?_
  refine P.iconst X10 hx 105 1 (hb hby at_104) rfl rfl ?_
  refine P.iload X10 hx 107 (hb hby at_105) rfl rfl ?_
  refine X10.stC hx V12 (j := (1 : Int32)) (x := (p2 &&& (255 : Int32))) (i := 1) (by decide) rfl (nlt rfl) (List.mem_of_getElem? (i := 0) rfl) (hb hby at_107) ?_
  intro T13 h13 X13 W13 G13
  have K14 : Keep h h13 [] := K11.wr W13 (Or.inr ge7)
  have V15 : Arv Z h13 a6 k6 .char (2 : Int32) [(.int (p1 &&& (255 : Int32))), (.int (p2 &&& (255 : Int32)))] (.int 0) := by have q := G13; rw [nar255] at q; exact q
  have F16 : Exa Z h13 a1 "java/lang/String" := (((A1.ext E6).wr W10).wr W13)
  have F17 : Fld Z h13 a1 "java/lang/String" "value" "[B" .null := (((D4.ext E6).other W10 (Or.inl (X13.ne (i := 1) (j := 0) rfl rfl (by decide)))).other W13 (Or.inl (X13.ne (i := 1) (j := 0) rfl rfl (by decide))))
  have F18 : Fld Z h13 a1 "java/lang/String" "coder" "B" (.int 0) := (((D5.ext E6).other W10 (Or.inl (X13.ne (i := 1) (j := 0) rfl rfl (by decide)))).other W13 (Or.inl (X13.ne (i := 1) (j := 0) rfl rfl (by decide))))
  refine X13.callC hx rfl (w144 cx) (w145 cx) (w146 cx) (by decide) (pay_new (W := 1) (hws cx) (w2 cx) (cs := [(p1 &&& (255 : Int32)), (p2 &&& (255 : Int32))]) (n := 2) (X13.ge (List.mem_of_getElem? (i := 1) rfl)) X13.n0le (List.mem_of_getElem? (i := 1) rfl) F16 F17 F18 V15 (X13.sta (S_C cx)) (N_C cx) rfl rfl (nle rfl) (nle rfl) (fcS (rng255 p1) (fcS (rng255 p2) fc0)) (nle rfl) (nle rfl)) (by rw [hml]; rfl) (argsL := [.ref a6]) (rest := [.ref a1]) (lenOf pd26 rfl) rfl rfl (Nat.le_of_eq rfl) (hb hby at_108) (nle rfl) (nle rfl) ?_
  rintro T19 h19 _ _ _ X19 ⟨a20, rfl, rfl, rfl, J19, G21⟩
  have K22 : Keep h h19 [] := K14.trans J19 (allS (Or.inr ge2) all0)
  refine P.astore X19 hx 113 #[.val (.int p0), .val (.int p1), .val (.int p2), .val (.int p3), .val (.int 0), .val (.int 0), .val (.int 2), .val (.int (p1 &&& (255 : Int32))), .val (.int (p2 &&& (255 : Int32))), .val (.int (p3 &&& (255 : Int32))), .val (.ref a1), .unset, .unset] (hb hby at_111) rfl rfl rfl ?_
  refine P.goto X19 hx 143 (hb hby at_113) (by decide) (by decide) ?_
  have X23 := WS.drop (A := [a6]) (B := WL) X19
  refine P.iload X23 hx 145 (hb hby at_143) rfl rfl ?_
  refine P.ifYes X23 hx 167 (hb hby at_145) (by decide) (by decide) (by decide) ?_
  refine P.iload X23 hx 169 (hb hby at_167) rfl rfl ?_
  refine P.ifYes X23 hx 179 (hb hby at_169) (by decide) (by decide) (by decide) ?_
  refine X23.ldc hx (w0 cx) (strAtoms cx) (by decide) (vs := []) (z := (0 : Int32)) ⟨by decide, by decide⟩ (by decide) rfl (hb hby at_179) (n := 0) (nle rfl) (nle rfl) (nle rfl) (nle rfl) ?_
  intro T24 h24 a24 b24 k24 X24 E24 A24 C24 V24 B24
  have K25 : Keep h h24 [] := K22.ext E24
  refine P.astore X24 hx 183 #[.val (.int p0), .val (.int p1), .val (.int p2), .val (.int p3), .val (.int 0), .val (.int 0), .val (.int 2), .val (.int (p1 &&& (255 : Int32))), .val (.int (p2 &&& (255 : Int32))), .val (.int (p3 &&& (255 : Int32))), .val (.ref a1), .val (.ref a24), .unset] (hb hby at_181) rfl rfl rfl ?_
  have S26 : StrL Z h24 a24 b24 [] := ⟨A24, V24, C24, ⟨_, B24⟩, (by decide), nle rfl⟩
  refine P.aload X24 hx 185 (hb hby at_183) rfl rfl rfl ?_
  refine P.iload X24 hx 187 (hb hby at_185) rfl rfl ?_
  refine P.iload X24 hx 189 (hb hby at_187) rfl rfl ?_
  have F27 : StrL Z h24 a1 a20 [(p1 &&& (255 : Int32)), (p2 &&& (255 : Int32))] := (G21.ext E24)
  refine X24.callS hx (w8 cx) (w9 cx) (w10 cx) (w11 cx) (by decide) (Ct.pay (W := 0) (ct_pag00 cx a1 a20 ([(p1 &&& (255 : Int32)), (p2 &&& (255 : Int32))]) h24 _ _ F27 (List.mem_of_getElem? (i := 2) rfl) (List.mem_of_getElem? (i := 3) rfl) (nle rfl)) (w11 cx) (w10 cx) (nle rfl) (nle rfl)) (by rw [hml]; rfl) (argsL := [.ref a1, .int 0, .int 0]) (rest := []) (lenOf pd24 rfl) rfl rfl (Nat.le_of_eq rfl) (hb hby at_189) (nle rfl) (nle rfl) ?_
  rintro T28 h28 _ _ _ X28 ⟨a29, a30, rfl, rfl, rfl, J28, g32, G31⟩
  have ge33 : h.size ≤ a29 := Nat.le_trans K25.1 g32
  have K34 : Keep h h28 [] := K25.trans J28 all0
  have S35 : StrL Z h28 a29 a30 [(p1 &&& (255 : Int32)), (p2 &&& (255 : Int32))] := G31
  refine P.astore X28 hx 194 #[.val (.int p0), .val (.int p1), .val (.int p2), .val (.int p3), .val (.int 0), .val (.int 0), .val (.int 2), .val (.int (p1 &&& (255 : Int32))), .val (.int (p2 &&& (255 : Int32))), .val (.int (p3 &&& (255 : Int32))), .val (.ref a1), .val (.ref a24), .val (.ref a29)] (hb hby at_192) rfl rfl rfl ?_
  refine P.aload X28 hx 196 (hb hby at_194) rfl rfl rfl ?_
  refine P.ifnonnullYes X28 hx 201 (hb hby at_196) (by decide) (by decide) ?_
  refine P.aload X28 hx 203 (hb hby at_201) rfl rfl rfl ?_
  refine X28.callV hx (w134 cx) (w28 cx) (w30 cx) (w29 cx) (fun _ hZ => nf hZ (w30 cx)) (by decide) S35.1 (pay_len (W := 0) (hln cx) (w2 cx) S35 (X28.sta (S_C cx)) (N_C cx) (nle rfl) (nle rfl)) (by rw [hml]; rfl) (argsL := []) (rest := []) (lenOf pd7 rfl) rfl rfl (Nat.le_of_eq rfl) (hb hby at_203) (nle rfl) (nle rfl) ?_
  rintro T36 h36 _ _ _ X36 ⟨rfl, rfl, rfl, J36⟩
  rw [J36] at X36
  show Wo _ _ _ _ _ _ _ _ _ _ _ T36 (mkF m 206 #[.val (.int p0), .val (.int p1), .val (.int p2), .val (.int p3), .val (.int 0), .val (.int 0), .val (.int 2), .val (.int (p1 &&& (255 : Int32))), .val (.int (p2 &&& (255 : Int32))), .val (.int (p3 &&& (255 : Int32))), .val (.ref a1), .val (.ref a24), .val (.ref a29)] [.int 2])
  refine P.iload X36 hx 208 (hb hby at_206) rfl rfl ?_
  refine P.aload X36 hx 210 (hb hby at_208) rfl rfl rfl ?_
  have F37 : Exa Z h28 a24 "java/lang/String" := (S26.1.keep J28)
  have F38 : StrL Z h28 a24 b24 [] := (S26.keep J28 nin0 nin0)
  refine X36.callV hx (w134 cx) (w28 cx) (w30 cx) (w29 cx) (fun _ hZ => nf hZ (w30 cx)) (by decide) F37 (pay_len (W := 2) (hln cx) (w2 cx) F38 (X36.sta (S_C cx)) (N_C cx) (nle rfl) (nle rfl)) (by rw [hml]; rfl) (argsL := []) (rest := [.int 2, .int 2]) (lenOf pd7 rfl) rfl rfl (Nat.le_of_eq rfl) (hb hby at_210) (nle rfl) (nle rfl) ?_
  rintro T39 h39 _ _ _ X39 ⟨rfl, rfl, rfl, J39⟩
  rw [J39] at X39
  show Wo _ _ _ _ _ _ _ _ _ _ _ T39 (mkF m 213 #[.val (.int p0), .val (.int p1), .val (.int p2), .val (.int p3), .val (.int 0), .val (.int 0), .val (.int 2), .val (.int (p1 &&& (255 : Int32))), .val (.int (p2 &&& (255 : Int32))), .val (.int (p3 &&& (255 : Int32))), .val (.ref a1), .val (.ref a24), .val (.ref a29)] [.int 0, .int 2, .int 2])
  refine P.iadd X39 hx 214 (z := (2 : Int32)) (hb hby at_213) rfl rfl ?_
  refine P.icmpNo X39 hx 217 (hb hby at_214) (by decide) rfl ?_
  refine P.iload X39 hx 219 (hb hby at_217) rfl rfl ?_
  refine P.iconst X39 hx 220 1 (hb hby at_219) rfl rfl ?_
  refine P.icmpNo X39 hx 223 (hb hby at_220) (by decide) rfl ?_
  refine P.aload X39 hx 225 (hb hby at_223) rfl rfl rfl ?_
  refine P.iconst X39 hx 226 0 (hb hby at_225) rfl rfl ?_
  refine X39.callV hx (w160 cx) (w161 cx) (w163 cx) (w162 cx) (fun _ hZ => nf hZ (w163 cx)) (by decide) S35.1 (pay_chr (W := 0) (hch cx) (w2 cx) S35 (X39.sta (S_C cx)) (N_C cx) (X39.sta (S_F cx)) (R_F cx) (i := 0) (nlt rfl) rfl (nle rfl) (nle rfl)) (by rw [hml]; rfl) (argsL := [.int 0]) (rest := []) (lenOf pd22 rfl) rfl rfl (Nat.le_of_eq rfl) (hb hby at_226) (nle rfl) (nle rfl) ?_
  rintro T40 h40 _ _ _ X40 ⟨rfl, rfl, rfl, J40⟩
  rw [J40] at X40
  show Wo _ _ _ _ _ _ _ _ _ _ _ T40 (mkF m 229 #[.val (.int p0), .val (.int p1), .val (.int p2), .val (.int p3), .val (.int 0), .val (.int 0), .val (.int 2), .val (.int (p1 &&& (255 : Int32))), .val (.int (p2 &&& (255 : Int32))), .val (.int (p3 &&& (255 : Int32))), .val (.ref a1), .val (.ref a24), .val (.ref a29)] [.int (p1 &&& (255 : Int32))])
  refine P.iload X40 hx 231 (hb hby at_229) rfl rfl ?_
  refine P.icmpNo X40 hx 234 (hb hby at_231) (teq rfl).2 rfl ?_
  refine P.iload X40 hx 236 (hb hby at_234) rfl rfl ?_
  refine P.iconst X40 hx 237 2 (hb hby at_236) rfl rfl ?_
  refine P.icmpNo X40 hx 240 (hb hby at_237) (by decide) rfl ?_
  refine P.aload X40 hx 242 (hb hby at_240) rfl rfl rfl ?_
  refine P.iconst X40 hx 243 1 (hb hby at_242) rfl rfl ?_
  refine X40.callV hx (w160 cx) (w161 cx) (w163 cx) (w162 cx) (fun _ hZ => nf hZ (w163 cx)) (by decide) S35.1 (pay_chr (W := 0) (hch cx) (w2 cx) S35 (X40.sta (S_C cx)) (N_C cx) (X40.sta (S_F cx)) (R_F cx) (i := 1) (nlt rfl) rfl (nle rfl) (nle rfl)) (by rw [hml]; rfl) (argsL := [.int 1]) (rest := []) (lenOf pd22 rfl) rfl rfl (Nat.le_of_eq rfl) (hb hby at_243) (nle rfl) (nle rfl) ?_
  rintro T41 h41 _ _ _ X41 ⟨rfl, rfl, rfl, J41⟩
  rw [J41] at X41
  show Wo _ _ _ _ _ _ _ _ _ _ _ T41 (mkF m 246 #[.val (.int p0), .val (.int p1), .val (.int p2), .val (.int p3), .val (.int 0), .val (.int 0), .val (.int 2), .val (.int (p1 &&& (255 : Int32))), .val (.int (p2 &&& (255 : Int32))), .val (.int (p3 &&& (255 : Int32))), .val (.ref a1), .val (.ref a24), .val (.ref a29)] [.int (p2 &&& (255 : Int32))])
  refine P.iload X41 hx 248 (hb hby at_246) rfl rfl ?_
  refine P.icmpNo X41 hx 251 (hb hby at_248) (teq rfl).2 rfl ?_
  refine P.iload X41 hx 253 (hb hby at_251) rfl rfl ?_
  refine P.iconst X41 hx 254 3 (hb hby at_253) rfl rfl ?_
  refine P.icmpYes X41 hx 268 (hb hby at_254) (by decide) (by decide) (by decide) ?_
  refine P.aload X41 hx 270 (hb hby at_268) rfl rfl rfl ?_
  refine P.iload X41 hx 272 (hb hby at_270) rfl rfl ?_
  refine P.aload X41 hx 274 (hb hby at_272) rfl rfl rfl ?_
  refine P.iconst X41 hx 275 0 (hb hby at_274) rfl rfl ?_
  refine X41.callS hx (w135 cx) (w136 cx) (w137 cx) (w138 cx) (by decide) (Ct.pay (W := 0) (ct_quad cx a29 a30 a24 b24 ([(p1 &&& (255 : Int32)), (p2 &&& (255 : Int32))]) ([]) (2 : Int32) 0 (0 : Int32) h28 _ _ S35 F38 rfl rfl (nle rfl) (nle rfl)) (w138 cx) (w137 cx) (nle rfl) (nle rfl)) (by rw [hml]; rfl) (argsL := [.ref a29, .int 2, .ref a24, .int 0]) (rest := []) (lenOf pd23 rfl) rfl rfl (Nat.le_of_eq rfl) (hb hby at_275) (nle rfl) (nle rfl) ?_
  rintro T42 h42 _ _ _ X42 ⟨rfl, rfl, rfl, J42⟩
  rw [J42] at X42
  refine P.ifNo X42 hx 281 (hb hby at_278) (by decide) rfl ?_
  refine P.aload X42 hx 283 (hb hby at_281) rfl rfl rfl ?_
  refine P.iload X42 hx 285 (hb hby at_283) rfl rfl ?_
  refine P.aload X42 hx 287 (hb hby at_285) rfl rfl rfl ?_
  refine P.iconst X42 hx 288 4 (hb hby at_287) rfl rfl ?_
  refine X42.callS hx (w135 cx) (w136 cx) (w137 cx) (w138 cx) (by decide) (Ct.pay (W := 0) (ct_quad cx a29 a30 a24 b24 ([(p1 &&& (255 : Int32)), (p2 &&& (255 : Int32))]) ([]) (2 : Int32) 4 (4 : Int32) h28 _ _ S35 F38 rfl rfl (nle rfl) (nle rfl)) (w138 cx) (w137 cx) (nle rfl) (nle rfl)) (by rw [hml]; rfl) (argsL := [.ref a29, .int 2, .ref a24, .int 4]) (rest := []) (lenOf pd23 rfl) rfl rfl (Nat.le_of_eq rfl) (hb hby at_288) (nle rfl) (nle rfl) ?_
  rintro T43 h43 _ _ _ X43 ⟨rfl, rfl, rfl, J43⟩
  rw [J43] at X43
  refine P.ifNo X43 hx 294 (hb hby at_291) (by decide) rfl ?_
  refine P.aload X43 hx 296 (hb hby at_294) rfl rfl rfl ?_
  refine P.iload X43 hx 298 (hb hby at_296) rfl rfl ?_
  refine P.aload X43 hx 300 (hb hby at_298) rfl rfl rfl ?_
  refine P.bipush X43 hx 302 8 (hb hby at_300) rfl rfl ?_
  refine X43.callS hx (w135 cx) (w136 cx) (w137 cx) (w138 cx) (by decide) (Ct.pay (W := 0) (ct_quad cx a29 a30 a24 b24 ([(p1 &&& (255 : Int32)), (p2 &&& (255 : Int32))]) ([]) (2 : Int32) 8 (8 : Int32) h28 _ _ S35 F38 rfl rfl (nle rfl) (nle rfl)) (w138 cx) (w137 cx) (nle rfl) (nle rfl)) (by rw [hml]; rfl) (argsL := [.ref a29, .int 2, .ref a24, .int 8]) (rest := []) (lenOf pd23 rfl) rfl rfl (Nat.le_of_eq rfl) (hb hby at_302) (nle rfl) (nle rfl) ?_
  rintro T44 h44 _ _ _ X44 ⟨rfl, rfl, rfl, J44⟩
  rw [J44] at X44
  refine P.ifNo X44 hx 308 (hb hby at_305) (by decide) rfl ?_
  refine P.aload X44 hx 310 (hb hby at_308) rfl rfl rfl ?_
  refine P.iload X44 hx 312 (hb hby at_310) rfl rfl ?_
  refine P.aload X44 hx 314 (hb hby at_312) rfl rfl rfl ?_
  refine P.bipush X44 hx 316 12 (hb hby at_314) rfl rfl ?_
  refine X44.callS hx (w135 cx) (w136 cx) (w137 cx) (w138 cx) (by decide) (Ct.pay (W := 0) (ct_quad cx a29 a30 a24 b24 ([(p1 &&& (255 : Int32)), (p2 &&& (255 : Int32))]) ([]) (2 : Int32) 12 (12 : Int32) h28 _ _ S35 F38 rfl rfl (nle rfl) (nle rfl)) (w138 cx) (w137 cx) (nle rfl) (nle rfl)) (by rw [hml]; rfl) (argsL := [.ref a29, .int 2, .ref a24, .int 12]) (rest := []) (lenOf pd23 rfl) rfl rfl (Nat.le_of_eq rfl) (hb hby at_316) (nle rfl) (nle rfl) ?_
  rintro T45 h45 _ _ _ X45 ⟨rfl, rfl, rfl, J45⟩
  rw [J45] at X45
  refine P.ifNo X45 hx 322 (hb hby at_319) (by decide) rfl ?_
  refine P.aload X45 hx 324 (hb hby at_322) rfl rfl rfl ?_
  refine P.iload X45 hx 326 (hb hby at_324) rfl rfl ?_
  refine P.aload X45 hx 328 (hb hby at_326) rfl rfl rfl ?_
  refine P.bipush X45 hx 330 16 (hb hby at_328) rfl rfl ?_
  refine X45.callS hx (w135 cx) (w136 cx) (w137 cx) (w138 cx) (by decide) (Ct.pay (W := 0) (ct_quad cx a29 a30 a24 b24 ([(p1 &&& (255 : Int32)), (p2 &&& (255 : Int32))]) ([]) (2 : Int32) 16 (16 : Int32) h28 _ _ S35 F38 rfl rfl (nle rfl) (nle rfl)) (w138 cx) (w137 cx) (nle rfl) (nle rfl)) (by rw [hml]; rfl) (argsL := [.ref a29, .int 2, .ref a24, .int 16]) (rest := []) (lenOf pd23 rfl) rfl rfl (Nat.le_of_eq rfl) (hb hby at_330) (nle rfl) (nle rfl) ?_
  rintro T46 h46 _ _ _ X46 ⟨rfl, rfl, rfl, J46⟩
  rw [J46] at X46
  refine P.ifNo X46 hx 336 (hb hby at_333) (by decide) rfl ?_
  refine P.aload X46 hx 338 (hb hby at_336) rfl rfl rfl ?_
  refine P.iload X46 hx 340 (hb hby at_338) rfl rfl ?_
  refine P.aload X46 hx 342 (hb hby at_340) rfl rfl rfl ?_
  refine P.bipush X46 hx 344 20 (hb hby at_342) rfl rfl ?_
  refine X46.callS hx (w135 cx) (w136 cx) (w137 cx) (w138 cx) (by decide) (Ct.pay (W := 0) (ct_quad cx a29 a30 a24 b24 ([(p1 &&& (255 : Int32)), (p2 &&& (255 : Int32))]) ([]) (2 : Int32) 20 (20 : Int32) h28 _ _ S35 F38 rfl rfl (nle rfl) (nle rfl)) (w138 cx) (w137 cx) (nle rfl) (nle rfl)) (by rw [hml]; rfl) (argsL := [.ref a29, .int 2, .ref a24, .int 20]) (rest := []) (lenOf pd23 rfl) rfl rfl (Nat.le_of_eq rfl) (hb hby at_344) (nle rfl) (nle rfl) ?_
  rintro T47 h47 _ _ _ X47 ⟨rfl, rfl, rfl, J47⟩
  rw [J47] at X47
  refine P.ifNo X47 hx 350 (hb hby at_347) (by decide) rfl ?_
  refine P.aload X47 hx 352 (hb hby at_350) rfl rfl rfl ?_
  refine P.iload X47 hx 354 (hb hby at_352) rfl rfl ?_
  refine P.aload X47 hx 356 (hb hby at_354) rfl rfl rfl ?_
  refine P.bipush X47 hx 358 24 (hb hby at_356) rfl rfl ?_
  refine X47.callS hx (w135 cx) (w136 cx) (w137 cx) (w138 cx) (by decide) (Ct.pay (W := 0) (ct_quad cx a29 a30 a24 b24 ([(p1 &&& (255 : Int32)), (p2 &&& (255 : Int32))]) ([]) (2 : Int32) 24 (24 : Int32) h28 _ _ S35 F38 rfl rfl (nle rfl) (nle rfl)) (w138 cx) (w137 cx) (nle rfl) (nle rfl)) (by rw [hml]; rfl) (argsL := [.ref a29, .int 2, .ref a24, .int 24]) (rest := []) (lenOf pd23 rfl) rfl rfl (Nat.le_of_eq rfl) (hb hby at_358) (nle rfl) (nle rfl) ?_
  rintro T48 h48 _ _ _ X48 ⟨rfl, rfl, rfl, J48⟩
  rw [J48] at X48
  refine P.ifNo X48 hx 364 (hb hby at_361) (by decide) rfl ?_
  refine P.aload X48 hx 366 (hb hby at_364) rfl rfl rfl ?_
  refine P.iload X48 hx 368 (hb hby at_366) rfl rfl ?_
  refine P.aload X48 hx 370 (hb hby at_368) rfl rfl rfl ?_
  refine P.bipush X48 hx 372 28 (hb hby at_370) rfl rfl ?_
  refine X48.callS hx (w135 cx) (w136 cx) (w137 cx) (w138 cx) (by decide) (Ct.pay (W := 0) (ct_quad cx a29 a30 a24 b24 ([(p1 &&& (255 : Int32)), (p2 &&& (255 : Int32))]) ([]) (2 : Int32) 28 (28 : Int32) h28 _ _ S35 F38 rfl rfl (nle rfl) (nle rfl)) (w138 cx) (w137 cx) (nle rfl) (nle rfl)) (by rw [hml]; rfl) (argsL := [.ref a29, .int 2, .ref a24, .int 28]) (rest := []) (lenOf pd23 rfl) rfl rfl (Nat.le_of_eq rfl) (hb hby at_372) (nle rfl) (nle rfl) ?_
  rintro T49 h49 _ _ _ X49 ⟨rfl, rfl, rfl, J49⟩
  rw [J49] at X49
  refine P.ifNo X49 hx 378 (hb hby at_375) (by decide) rfl ?_
  refine P.aload X49 hx 380 (hb hby at_378) rfl rfl rfl ?_
  refine P.iload X49 hx 382 (hb hby at_380) rfl rfl ?_
  refine P.aload X49 hx 384 (hb hby at_382) rfl rfl rfl ?_
  refine P.bipush X49 hx 386 32 (hb hby at_384) rfl rfl ?_
  refine X49.callS hx (w135 cx) (w136 cx) (w137 cx) (w138 cx) (by decide) (Ct.pay (W := 0) (ct_quad cx a29 a30 a24 b24 ([(p1 &&& (255 : Int32)), (p2 &&& (255 : Int32))]) ([]) (2 : Int32) 32 (32 : Int32) h28 _ _ S35 F38 rfl rfl (nle rfl) (nle rfl)) (w138 cx) (w137 cx) (nle rfl) (nle rfl)) (by rw [hml]; rfl) (argsL := [.ref a29, .int 2, .ref a24, .int 32]) (rest := []) (lenOf pd23 rfl) rfl rfl (Nat.le_of_eq rfl) (hb hby at_386) (nle rfl) (nle rfl) ?_
  rintro T50 h50 _ _ _ X50 ⟨rfl, rfl, rfl, J50⟩
  rw [J50] at X50
  refine P.ifNo X50 hx 392 (hb hby at_389) (by decide) rfl ?_
  refine P.aload X50 hx 394 (hb hby at_392) rfl rfl rfl ?_
  refine P.iload X50 hx 396 (hb hby at_394) rfl rfl ?_
  refine P.aload X50 hx 398 (hb hby at_396) rfl rfl rfl ?_
  refine P.bipush X50 hx 400 36 (hb hby at_398) rfl rfl ?_
  refine X50.callS hx (w135 cx) (w136 cx) (w137 cx) (w138 cx) (by decide) (Ct.pay (W := 0) (ct_quad cx a29 a30 a24 b24 ([(p1 &&& (255 : Int32)), (p2 &&& (255 : Int32))]) ([]) (2 : Int32) 36 (36 : Int32) h28 _ _ S35 F38 rfl rfl (nle rfl) (nle rfl)) (w138 cx) (w137 cx) (nle rfl) (nle rfl)) (by rw [hml]; rfl) (argsL := [.ref a29, .int 2, .ref a24, .int 36]) (rest := []) (lenOf pd23 rfl) rfl rfl (Nat.le_of_eq rfl) (hb hby at_400) (nle rfl) (nle rfl) ?_
  rintro T51 h51 _ _ _ X51 ⟨rfl, rfl, rfl, J51⟩
  rw [J51] at X51
  refine P.ifNo X51 hx 406 (hb hby at_403) (by decide) rfl ?_
  refine P.iconst X51 hx 407 1 (hb hby at_406) rfl rfl ?_
  refine P.goto X51 hx 411 (hb hby at_407) (by decide) (by decide) ?_
  have X52 := WS.drop (A := []) (B := (a6 :: WL)) X51
  have X53 := WS.drop (A := []) (B := WL) X52
  have X54 := WS.fl (FL2 := FL) X53 (fun y hy => (List.mem_append_right [a6, a29, a30, a24, b24, a1, a20] hy))
  exact WS.retN X54 (WL' := []) (FL' := []) hx (t := .boolean) hret (by simp) hlk (hb hby at_411) (nle rfl) (nle rfl) ⟨rfl, rfl, rfl, K34⟩
set_option maxRecDepth 65536 in
set_option maxHeartbeats 4000000 in
theorem ct_law_201 {l : Launch} {Z : State} {a0 : Array Value} {gC : Int32} {gF : Value} (cx : Cx a0 Z gC gF) {n0 : Nat} (p0 : Int32) (p1 : Int32) (p2 : Int32) (p3 : Int32) (h : Heap) (WL FL : List Addr)  (en : (((p0.toUInt32 >>> ((2 : Int32) &&& 31).toUInt32).toInt32) &&& (3 : Int32)) = (2 : Int32)) (es : (p0 &&& (1 : Int32)) = (0 : Int32)) (el : ¬ (p0 &&& (2 : Int32)) = (0 : Int32)) :
    Ct l Z EL1 n0 x code maxLocals ret room_1 #[(.int p0), (.int p1), (.int p2), (.int p3)] h WL FL (Q_law Z gC gF p0 p1 p2 p3 h) := by
  refine Ct.of (plainFor_of_name pn7) ?_
  intro p e s m below meth c s1 hx hby hml hnm hret hlk X0
  refine Wo.cast (f' := (mkF m 0 #[.val (.int p0), .val (.int p1), .val (.int p2), .val (.int p3), .unset, .unset, .unset, .unset, .unset, .unset, .unset, .unset, .unset] [])) (by first | rfl | (simp [entryFrame, mkF, argsToLocals, Value.category]; done)) ?_
  have K0 : Keep h h [] := Keep.refl _ _
  show Wo _ _ _ _ _ _ _ _ _ _ _ s1 (mkF m 0 #[.val (.int p0), .val (.int p1), .val (.int p2), .val (.int p3), .unset, .unset, .unset, .unset, .unset, .unset, .unset, .unset, .unset] [])
  refine P.iloadN X0 hx 1 (hb hby at_0) rfl rfl ?_
  refine P.iconst X0 hx 2 1 (hb hby at_1) rfl rfl ?_
  refine P.iand X0 hx 3 (z := (p0 &&& (1 : Int32))) (hb hby at_2) rfl rfl ?_
  refine P.ifYes X0 hx 10 (hb hby at_3) ((if0 _ _).trans (teq es).1) (by decide) (by decide) ?_
  refine P.iconst X0 hx 11 0 (hb hby at_10) rfl rfl ?_
  refine P.istore X0 hx 13 #[.val (.int p0), .val (.int p1), .val (.int p2), .val (.int p3), .val (.int 0), .unset, .unset, .unset, .unset, .unset, .unset, .unset, .unset] (hb hby at_11) rfl rfl ?_
  refine P.iloadN X0 hx 14 (hb hby at_13) rfl rfl ?_
  refine P.iconst X0 hx 15 2 (hb hby at_14) rfl rfl ?_
  refine P.iand X0 hx 16 (z := (p0 &&& (2 : Int32))) (hb hby at_15) rfl rfl ?_
  refine P.ifNo X0 hx 19 (hb hby at_16) ((if0 _ _).trans (feq el).1) rfl ?_
  refine P.iconst X0 hx 20 1 (hb hby at_19) rfl rfl ?_
  refine P.goto X0 hx 24 (hb hby at_20) (by decide) (by decide) ?_
  refine P.istore X0 hx 26 #[.val (.int p0), .val (.int p1), .val (.int p2), .val (.int p3), .val (.int 0), .val (.int 1), .unset, .unset, .unset, .unset, .unset, .unset, .unset] (hb hby at_24) rfl rfl ?_
  refine P.iloadN X0 hx 27 (hb hby at_26) rfl rfl ?_
  refine P.iconst X0 hx 28 2 (hb hby at_27) rfl rfl ?_
  refine P.iushr X0 hx 29 (z := ((p0.toUInt32 >>> ((2 : Int32) &&& 31).toUInt32).toInt32)) (hb hby at_28) rfl rfl ?_
  refine P.iconst X0 hx 30 3 (hb hby at_29) rfl rfl ?_
  refine P.iand X0 hx 31 (z := (2 : Int32)) (hb hby at_30) (by rw [en]) rfl ?_
  refine P.istore X0 hx 33 #[.val (.int p0), .val (.int p1), .val (.int p2), .val (.int p3), .val (.int 0), .val (.int 1), .val (.int 2), .unset, .unset, .unset, .unset, .unset, .unset] (hb hby at_31) rfl rfl ?_
  refine P.iloadN X0 hx 34 (hb hby at_33) rfl rfl ?_
  refine P.sipush X0 hx 37 255 (hb hby at_34) rfl rfl ?_
  refine P.iand X0 hx 38 (z := (p1 &&& (255 : Int32))) (hb hby at_37) rfl rfl ?_
  refine P.i2c X0 hx 39 (z := (p1 &&& (255 : Int32))) (hb hby at_38) (by rw [i2c_mask]) rfl ?_
  refine P.istore X0 hx 41 #[.val (.int p0), .val (.int p1), .val (.int p2), .val (.int p3), .val (.int 0), .val (.int 1), .val (.int 2), .val (.int (p1 &&& (255 : Int32))), .unset, .unset, .unset, .unset, .unset] (hb hby at_39) rfl rfl ?_
  refine P.iloadN X0 hx 42 (hb hby at_41) rfl rfl ?_
  refine P.sipush X0 hx 45 255 (hb hby at_42) rfl rfl ?_
  refine P.iand X0 hx 46 (z := (p2 &&& (255 : Int32))) (hb hby at_45) rfl rfl ?_
  refine P.i2c X0 hx 47 (z := (p2 &&& (255 : Int32))) (hb hby at_46) (by rw [i2c_mask]) rfl ?_
  refine P.istore X0 hx 49 #[.val (.int p0), .val (.int p1), .val (.int p2), .val (.int p3), .val (.int 0), .val (.int 1), .val (.int 2), .val (.int (p1 &&& (255 : Int32))), .val (.int (p2 &&& (255 : Int32))), .unset, .unset, .unset, .unset] (hb hby at_47) rfl rfl ?_
  refine P.iloadN X0 hx 50 (hb hby at_49) rfl rfl ?_
  refine P.sipush X0 hx 53 255 (hb hby at_50) rfl rfl ?_
  refine P.iand X0 hx 54 (z := (p3 &&& (255 : Int32))) (hb hby at_53) rfl rfl ?_
  refine P.i2c X0 hx 55 (z := (p3 &&& (255 : Int32))) (hb hby at_54) (by rw [i2c_mask]) rfl ?_
  refine P.istore X0 hx 57 #[.val (.int p0), .val (.int p1), .val (.int p2), .val (.int p3), .val (.int 0), .val (.int 1), .val (.int 2), .val (.int (p1 &&& (255 : Int32))), .val (.int (p2 &&& (255 : Int32))), .val (.int (p3 &&& (255 : Int32))), .unset, .unset, .unset] (hb hby at_55) rfl rfl ?_
  refine P.iload X0 hx 59 (hb hby at_57) rfl rfl ?_
  refine P.ifYes X0 hx 69 (hb hby at_59) (by decide) (by decide) (by decide) ?_
  refine P.iload X0 hx 71 (hb hby at_69) rfl rfl ?_
  refine P.iconst X0 hx 72 1 (hb hby at_71) rfl rfl ?_
  refine P.icmpYes X0 hx 85 (hb hby at_72) (by decide) (by decide) (by decide) ?_
  refine P.iload X0 hx 87 (hb hby at_85) rfl rfl ?_
  refine P.iconst X0 hx 88 2 (hb hby at_87) rfl rfl ?_
  refine P.icmpNo X0 hx 91 (hb hby at_88) (by decide) rfl ?_
  refine X0.newO hx (w142 cx) (w2 cx) (w1 cx) (hb hby at_91) (nle rfl) (nle rfl) ?_
  intro T1 h1 a1 X1 E1 g1 A1 D1
  have ge2 : h.size ≤ a1 := Nat.le_trans K0.1 g1
  have K3 : Keep h h1 [] := K0.ext E1
  have D4 : Fld Z h1 a1 "java/lang/String" "value" "[B" .null := D1 (Or.inr (w4 cx)) (ty := (.array .byte)) (by decide)
  have D5 : Fld Z h1 a1 "java/lang/String" "coder" "B" (.int 0) := D1 (Or.inr (w5 cx)) (ty := .byte) (by decide)
  refine P.dup X1 hx 95 (hb hby at_94) rfl rfl ?_
  refine P.iconst X1 hx 96 2 (hb hby at_95) rfl rfl ?_
  refine X1.newP (aty := .char) hx (w143 cx) (hb hby at_96) (by decide) (cap := 2) (nle rfl) (nle rfl) (nle rfl) (nle rfl) ?_
  intro T6 h6 a6 k6 X6 E6 g6 A6
  have ge7 : h.size ≤ a6 := Nat.le_trans K3.1 g6
  have K8 : Keep h h6 [] := K3.ext E6
  have V9 : Arv Z h6 a6 k6 .char (2 : Int32) [(.int 0), (.int 0)] (.int 0) := Arv.pad A6 (pad_rep [] _ 2)
  refine P.dup X6 hx 99 (hb hby at_98) rfl rfl ?_
  refine P.iconst X6 hx 100 0 (hb hby at_99) rfl rfl ?_
  refine P.iload X6 hx 102 (hb hby at_100) rfl rfl ?_
  refine X6.stC hx V9 (j := (0 : Int32)) (x := (p1 &&& (255 : Int32))) (i := 0) (by decide) rfl (nlt rfl) (List.mem_of_getElem? (i := 0) rfl) (hb hby at_102) ?_
  intro T10 h10 X10 W10 G10
  have K11 : Keep h h10 [] := K8.wr W10 (Or.inr ge7)
  have V12 : Arv Z h10 a6 k6 .char (2 : Int32) [(.int (p1 &&& (255 : Int32))), (.int 0)] (.int 0) := by have q := G10; rw [nar255] at q; exact q
  refine P.dup X10 hx 104 (hb hby at_103) rfl rfl ?_
  refine P.iconst X10 hx 105 1 (hb hby at_104) rfl rfl ?_
  refine P.iload X10 hx 107 (hb hby at_105) rfl rfl ?_
  refine X10.stC hx V12 (j := (1 : Int32)) (x := (p2 &&& (255 : Int32))) (i := 1) (by decide) rfl (nlt rfl) (List.mem_of_getElem? (i := 0) rfl) (hb hby at_107) ?_
  intro T13 h13 X13 W13 G13
  have K14 : Keep h h13 [] := K11.wr W13 (Or.inr ge7)
  have V15 : Arv Z h13 a6 k6 .char (2 : Int32) [(.int (p1 &&& (255 : Int32))), (.int (p2 &&& (255 : Int32)))] (.int 0) := by have q := G13; rw [nar255] at q; exact q
  have F16 : Exa Z h13 a1 "java/lang/String" := (((A1.ext E6).wr W10).wr W13)
  have F17 : Fld Z h13 a1 "java/lang/String" "value" "[B" .null := (((D4.ext E6).other W10 (Or.inl (X13.ne (i := 1) (j := 0) rfl rfl (by decide)))).other W13 (Or.inl (X13.ne (i := 1) (j := 0) rfl rfl (by decide))))
  have F18 : Fld Z h13 a1 "java/lang/String" "coder" "B" (.int 0) := (((D5.ext E6).other W10 (Or.inl (X13.ne (i := 1) (j := 0) rfl rfl (by decide)))).other W13 (Or.inl (X13.ne (i := 1) (j := 0) rfl rfl (by decide))))
  refine X13.callC hx rfl (w144 cx) (w145 cx) (w146 cx) (by decide) (pay_new (W := 1) (hws cx) (w2 cx) (cs := [(p1 &&& (255 : Int32)), (p2 &&& (255 : Int32))]) (n := 2) (X13.ge (List.mem_of_getElem? (i := 1) rfl)) X13.n0le (List.mem_of_getElem? (i := 1) rfl) F16 F17 F18 V15 (X13.sta (S_C cx)) (N_C cx) rfl rfl (nle rfl) (nle rfl) (fcS (rng255 p1) (fcS (rng255 p2) fc0)) (nle rfl) (nle rfl)) (by rw [hml]; rfl) (argsL := [.ref a6]) (rest := [.ref a1]) (lenOf pd26 rfl) rfl rfl (Nat.le_of_eq rfl) (hb hby at_108) (nle rfl) (nle rfl) ?_
  rintro T19 h19 _ _ _ X19 ⟨a20, rfl, rfl, rfl, J19, G21⟩
  have K22 : Keep h h19 [] := K14.trans J19 (allS (Or.inr ge2) all0)
  refine P.astore X19 hx 113 #[.val (.int p0), .val (.int p1), .val (.int p2), .val (.int p3), .val (.int 0), .val (.int 1), .val (.int 2), .val (.int (p1 &&& (255 : Int32))), .val (.int (p2 &&& (255 : Int32))), .val (.int (p3 &&& (255 : Int32))), .val (.ref a1), .unset, .unset] (hb hby at_111) rfl rfl rfl ?_
  refine P.goto X19 hx 143 (hb hby at_113) (by decide) (by decide) ?_
  have X23 := WS.drop (A := [a6]) (B := WL) X19
  refine P.iload X23 hx 145 (hb hby at_143) rfl rfl ?_
  refine P.ifYes X23 hx 167 (hb hby at_145) (by decide) (by decide) (by decide) ?_
  refine P.iload X23 hx 169 (hb hby at_167) rfl rfl ?_
  refine P.ifNo X23 hx 172 (hb hby at_169) (by decide) rfl ?_
  refine X23.ldc hx (w212 cx) (strAtoms cx) (by decide) (vs := [(.int 32), (.int 102), (.int 101), (.int 116), (.int 99), (.int 104), (.int 32), (.int 102), (.int 105), (.int 114), (.int 115), (.int 116), (.int 32), (.int 63), (.int 32), (.int 114), (.int 111), (.int 119), (.int 115), (.int 32), (.int 111), (.int 110), (.int 108), (.int 121)]) (z := (24 : Int32)) ⟨by decide, by decide⟩ (by decide) rfl (hb hby at_172) (n := 96) (nle rfl) (nle rfl) (nle rfl) (nle rfl) ?_
  intro T24 h24 a24 b24 k24 X24 E24 A24 C24 V24 B24
  have K25 : Keep h h24 [] := K22.ext E24
  refine P.astore X24 hx 176 #[.val (.int p0), .val (.int p1), .val (.int p2), .val (.int p3), .val (.int 0), .val (.int 1), .val (.int 2), .val (.int (p1 &&& (255 : Int32))), .val (.int (p2 &&& (255 : Int32))), .val (.int (p3 &&& (255 : Int32))), .val (.ref a1), .val (.ref a24), .unset] (hb hby at_174) rfl rfl rfl ?_
  refine P.goto X24 hx 183 (hb hby at_176) (by decide) (by decide) ?_
  have S26 : StrL Z h24 a24 b24 [(32 : Int32), 102, 101, 116, 99, 104, 32, 102, 105, 114, 115, 116, 32, 63, 32, 114, 111, 119, 115, 32, 111, 110, 108, 121] := ⟨A24, V24, C24, ⟨_, B24⟩, (by decide), nle rfl⟩
  refine P.aload X24 hx 185 (hb hby at_183) rfl rfl rfl ?_
  refine P.iload X24 hx 187 (hb hby at_185) rfl rfl ?_
  refine P.iload X24 hx 189 (hb hby at_187) rfl rfl ?_
  have F27 : StrL Z h24 a1 a20 [(p1 &&& (255 : Int32)), (p2 &&& (255 : Int32))] := (G21.ext E24)
  refine X24.callS hx (w8 cx) (w9 cx) (w10 cx) (w11 cx) (by decide) (Ct.pay (W := 0) (ct_pag01 cx a1 a20 ([(p1 &&& (255 : Int32)), (p2 &&& (255 : Int32))]) h24 _ _ F27 (List.mem_of_getElem? (i := 2) rfl) (List.mem_of_getElem? (i := 3) rfl) (nle rfl)) (w11 cx) (w10 cx) (nle rfl) (nle rfl)) (by rw [hml]; rfl) (argsL := [.ref a1, .int 0, .int 1]) (rest := []) (lenOf pd24 rfl) rfl rfl (Nat.le_of_eq rfl) (hb hby at_189) (nle rfl) (nle rfl) ?_
  rintro T28 h28 _ _ _ X28 ⟨a29, a30, rfl, rfl, rfl, J28, g32, G31⟩
  have ge33 : h.size ≤ a29 := Nat.le_trans K25.1 g32
  have K34 : Keep h h28 [] := K25.trans J28 all0
  have S35 : StrL Z h28 a29 a30 [(p1 &&& (255 : Int32)), (p2 &&& (255 : Int32)), 32, 102, 101, 116, 99, 104, 32, 102, 105, 114, 115, 116, 32, 63, 32, 114, 111, 119, 115, 32, 111, 110, 108, 121] := G31
  refine P.astore X28 hx 194 #[.val (.int p0), .val (.int p1), .val (.int p2), .val (.int p3), .val (.int 0), .val (.int 1), .val (.int 2), .val (.int (p1 &&& (255 : Int32))), .val (.int (p2 &&& (255 : Int32))), .val (.int (p3 &&& (255 : Int32))), .val (.ref a1), .val (.ref a24), .val (.ref a29)] (hb hby at_192) rfl rfl rfl ?_
  refine P.aload X28 hx 196 (hb hby at_194) rfl rfl rfl ?_
  refine P.ifnonnullYes X28 hx 201 (hb hby at_196) (by decide) (by decide) ?_
  refine P.aload X28 hx 203 (hb hby at_201) rfl rfl rfl ?_
  refine X28.callV hx (w134 cx) (w28 cx) (w30 cx) (w29 cx) (fun _ hZ => nf hZ (w30 cx)) (by decide) S35.1 (pay_len (W := 0) (hln cx) (w2 cx) S35 (X28.sta (S_C cx)) (N_C cx) (nle rfl) (nle rfl)) (by rw [hml]; rfl) (argsL := []) (rest := []) (lenOf pd7 rfl) rfl rfl (Nat.le_of_eq rfl) (hb hby at_203) (nle rfl) (nle rfl) ?_
  rintro T36 h36 _ _ _ X36 ⟨rfl, rfl, rfl, J36⟩
  rw [J36] at X36
  show Wo _ _ _ _ _ _ _ _ _ _ _ T36 (mkF m 206 #[.val (.int p0), .val (.int p1), .val (.int p2), .val (.int p3), .val (.int 0), .val (.int 1), .val (.int 2), .val (.int (p1 &&& (255 : Int32))), .val (.int (p2 &&& (255 : Int32))), .val (.int (p3 &&& (255 : Int32))), .val (.ref a1), .val (.ref a24), .val (.ref a29)] [.int 26])
  refine P.iload X36 hx 208 (hb hby at_206) rfl rfl ?_
  refine P.aload X36 hx 210 (hb hby at_208) rfl rfl rfl ?_
  have F37 : Exa Z h28 a24 "java/lang/String" := (S26.1.keep J28)
  have F38 : StrL Z h28 a24 b24 [(32 : Int32), 102, 101, 116, 99, 104, 32, 102, 105, 114, 115, 116, 32, 63, 32, 114, 111, 119, 115, 32, 111, 110, 108, 121] := (S26.keep J28 nin0 nin0)
  refine X36.callV hx (w134 cx) (w28 cx) (w30 cx) (w29 cx) (fun _ hZ => nf hZ (w30 cx)) (by decide) F37 (pay_len (W := 2) (hln cx) (w2 cx) F38 (X36.sta (S_C cx)) (N_C cx) (nle rfl) (nle rfl)) (by rw [hml]; rfl) (argsL := []) (rest := [.int 2, .int 26]) (lenOf pd7 rfl) rfl rfl (Nat.le_of_eq rfl) (hb hby at_210) (nle rfl) (nle rfl) ?_
  rintro T39 h39 _ _ _ X39 ⟨rfl, rfl, rfl, J39⟩
  rw [J39] at X39
  show Wo _ _ _ _ _ _ _ _ _ _ _ T39 (mkF m 213 #[.val (.int p0), .val (.int p1), .val (.int p2), .val (.int p3), .val (.int 0), .val (.int 1), .val (.int 2), .val (.int (p1 &&& (255 : Int32))), .val (.int (p2 &&& (255 : Int32))), .val (.int (p3 &&& (255 : Int32))), .val (.ref a1), .val (.ref a24), .val (.ref a29)] [.int 24, .int 2, .int 26])
  refine P.iadd X39 hx 214 (z := (26 : Int32)) (hb hby at_213) rfl rfl ?_
  refine P.icmpNo X39 hx 217 (hb hby at_214) (by decide) rfl ?_
  refine P.iload X39 hx 219 (hb hby at_217) rfl rfl ?_
  refine P.iconst X39 hx 220 1 (hb hby at_219) rfl rfl ?_
  refine P.icmpNo X39 hx 223 (hb hby at_220) (by decide) rfl ?_
  refine P.aload X39 hx 225 (hb hby at_223) rfl rfl rfl ?_
  refine P.iconst X39 hx 226 0 (hb hby at_225) rfl rfl ?_
  refine X39.callV hx (w160 cx) (w161 cx) (w163 cx) (w162 cx) (fun _ hZ => nf hZ (w163 cx)) (by decide) S35.1 (pay_chr (W := 0) (hch cx) (w2 cx) S35 (X39.sta (S_C cx)) (N_C cx) (X39.sta (S_F cx)) (R_F cx) (i := 0) (nlt rfl) rfl (nle rfl) (nle rfl)) (by rw [hml]; rfl) (argsL := [.int 0]) (rest := []) (lenOf pd22 rfl) rfl rfl (Nat.le_of_eq rfl) (hb hby at_226) (nle rfl) (nle rfl) ?_
  rintro T40 h40 _ _ _ X40 ⟨rfl, rfl, rfl, J40⟩
  rw [J40] at X40
  show Wo _ _ _ _ _ _ _ _ _ _ _ T40 (mkF m 229 #[.val (.int p0), .val (.int p1), .val (.int p2), .val (.int p3), .val (.int 0), .val (.int 1), .val (.int 2), .val (.int (p1 &&& (255 : Int32))), .val (.int (p2 &&& (255 : Int32))), .val (.int (p3 &&& (255 : Int32))), .val (.ref a1), .val (.ref a24), .val (.ref a29)] [.int (p1 &&& (255 : Int32))])
  refine P.iload X40 hx 231 (hb hby at_229) rfl rfl ?_
  refine P.icmpNo X40 hx 234 (hb hby at_231) (teq rfl).2 rfl ?_
  refine P.iload X40 hx 236 (hb hby at_234) rfl rfl ?_
  refine P.iconst X40 hx 237 2 (hb hby at_236) rfl rfl ?_
  refine P.icmpNo X40 hx 240 (hb hby at_237) (by decide) rfl ?_
  refine P.aload X40 hx 242 (hb hby at_240) rfl rfl rfl ?_
  refine P.iconst X40 hx 243 1 (hb hby at_242) rfl rfl ?_
  refine X40.callV hx (w160 cx) (w161 cx) (w163 cx) (w162 cx) (fun _ hZ => nf hZ (w163 cx)) (by decide) S35.1 (pay_chr (W := 0) (hch cx) (w2 cx) S35 (X40.sta (S_C cx)) (N_C cx) (X40.sta (S_F cx)) (R_F cx) (i := 1) (nlt rfl) rfl (nle rfl) (nle rfl)) (by rw [hml]; rfl) (argsL := [.int 1]) (rest := []) (lenOf pd22 rfl) rfl rfl (Nat.le_of_eq rfl) (hb hby at_243) (nle rfl) (nle rfl) ?_
  rintro T41 h41 _ _ _ X41 ⟨rfl, rfl, rfl, J41⟩
  rw [J41] at X41
  show Wo _ _ _ _ _ _ _ _ _ _ _ T41 (mkF m 246 #[.val (.int p0), .val (.int p1), .val (.int p2), .val (.int p3), .val (.int 0), .val (.int 1), .val (.int 2), .val (.int (p1 &&& (255 : Int32))), .val (.int (p2 &&& (255 : Int32))), .val (.int (p3 &&& (255 : Int32))), .val (.ref a1), .val (.ref a24), .val (.ref a29)] [.int (p2 &&& (255 : Int32))])
  refine P.iload X41 hx 248 (hb hby at_246) rfl rfl ?_
  refine P.icmpNo X41 hx 251 (hb hby at_248) (teq rfl).2 rfl ?_
  refine P.iload X41 hx 253 (hb hby at_251) rfl rfl ?_
  refine P.iconst X41 hx 254 3 (hb hby at_253) rfl rfl ?_
  refine P.icmpYes X41 hx 268 (hb hby at_254) (by decide) (by decide) (by decide) ?_
  refine P.aload X41 hx 270 (hb hby at_268) rfl rfl rfl ?_
  refine P.iload X41 hx 272 (hb hby at_270) rfl rfl ?_
  refine P.aload X41 hx 274 (hb hby at_272) rfl rfl rfl ?_
  refine P.iconst X41 hx 275 0 (hb hby at_274) rfl rfl ?_
  refine X41.callS hx (w135 cx) (w136 cx) (w137 cx) (w138 cx) (by decide) (Ct.pay (W := 0) (ct_quad cx a29 a30 a24 b24 ([(p1 &&& (255 : Int32)), (p2 &&& (255 : Int32))]) ([(32 : Int32), 102, 101, 116, 99, 104, 32, 102, 105, 114, 115, 116, 32, 63, 32, 114, 111, 119, 115, 32, 111, 110, 108, 121]) (2 : Int32) 0 (0 : Int32) h28 _ _ S35 F38 rfl rfl (nle rfl) (nle rfl)) (w138 cx) (w137 cx) (nle rfl) (nle rfl)) (by rw [hml]; rfl) (argsL := [.ref a29, .int 2, .ref a24, .int 0]) (rest := []) (lenOf pd23 rfl) rfl rfl (Nat.le_of_eq rfl) (hb hby at_275) (nle rfl) (nle rfl) ?_
  rintro T42 h42 _ _ _ X42 ⟨rfl, rfl, rfl, J42⟩
  rw [J42] at X42
  refine P.ifNo X42 hx 281 (hb hby at_278) (by decide) rfl ?_
  refine P.aload X42 hx 283 (hb hby at_281) rfl rfl rfl ?_
  refine P.iload X42 hx 285 (hb hby at_283) rfl rfl ?_
  refine P.aload X42 hx 287 (hb hby at_285) rfl rfl rfl ?_
  refine P.iconst X42 hx 288 4 (hb hby at_287) rfl rfl ?_
  refine X42.callS hx (w135 cx) (w136 cx) (w137 cx) (w138 cx) (by decide) (Ct.pay (W := 0) (ct_quad cx a29 a30 a24 b24 ([(p1 &&& (255 : Int32)), (p2 &&& (255 : Int32))]) ([(32 : Int32), 102, 101, 116, 99, 104, 32, 102, 105, 114, 115, 116, 32, 63, 32, 114, 111, 119, 115, 32, 111, 110, 108, 121]) (2 : Int32) 4 (4 : Int32) h28 _ _ S35 F38 rfl rfl (nle rfl) (nle rfl)) (w138 cx) (w137 cx) (nle rfl) (nle rfl)) (by rw [hml]; rfl) (argsL := [.ref a29, .int 2, .ref a24, .int 4]) (rest := []) (lenOf pd23 rfl) rfl rfl (Nat.le_of_eq rfl) (hb hby at_288) (nle rfl) (nle rfl) ?_
  rintro T43 h43 _ _ _ X43 ⟨rfl, rfl, rfl, J43⟩
  rw [J43] at X43
  refine P.ifNo X43 hx 294 (hb hby at_291) (by decide) rfl ?_
  refine P.aload X43 hx 296 (hb hby at_294) rfl rfl rfl ?_
  refine P.iload X43 hx 298 (hb hby at_296) rfl rfl ?_
  refine P.aload X43 hx 300 (hb hby at_298) rfl rfl rfl ?_
  refine P.bipush X43 hx 302 8 (hb hby at_300) rfl rfl ?_
  refine X43.callS hx (w135 cx) (w136 cx) (w137 cx) (w138 cx) (by decide) (Ct.pay (W := 0) (ct_quad cx a29 a30 a24 b24 ([(p1 &&& (255 : Int32)), (p2 &&& (255 : Int32))]) ([(32 : Int32), 102, 101, 116, 99, 104, 32, 102, 105, 114, 115, 116, 32, 63, 32, 114, 111, 119, 115, 32, 111, 110, 108, 121]) (2 : Int32) 8 (8 : Int32) h28 _ _ S35 F38 rfl rfl (nle rfl) (nle rfl)) (w138 cx) (w137 cx) (nle rfl) (nle rfl)) (by rw [hml]; rfl) (argsL := [.ref a29, .int 2, .ref a24, .int 8]) (rest := []) (lenOf pd23 rfl) rfl rfl (Nat.le_of_eq rfl) (hb hby at_302) (nle rfl) (nle rfl) ?_
  rintro T44 h44 _ _ _ X44 ⟨rfl, rfl, rfl, J44⟩
  rw [J44] at X44
  refine P.ifNo X44 hx 308 (hb hby at_305) (by decide) rfl ?_
  refine P.aload X44 hx 310 (hb hby at_308) rfl rfl rfl ?_
  refine P.iload X44 hx 312 (hb hby at_310) rfl rfl ?_
  refine P.aload X44 hx 314 (hb hby at_312) rfl rfl rfl ?_
  refine P.bipush X44 hx 316 12 (hb hby at_314) rfl rfl ?_
  refine X44.callS hx (w135 cx) (w136 cx) (w137 cx) (w138 cx) (by decide) (Ct.pay (W := 0) (ct_quad cx a29 a30 a24 b24 ([(p1 &&& (255 : Int32)), (p2 &&& (255 : Int32))]) ([(32 : Int32), 102, 101, 116, 99, 104, 32, 102, 105, 114, 115, 116, 32, 63, 32, 114, 111, 119, 115, 32, 111, 110, 108, 121]) (2 : Int32) 12 (12 : Int32) h28 _ _ S35 F38 rfl rfl (nle rfl) (nle rfl)) (w138 cx) (w137 cx) (nle rfl) (nle rfl)) (by rw [hml]; rfl) (argsL := [.ref a29, .int 2, .ref a24, .int 12]) (rest := []) (lenOf pd23 rfl) rfl rfl (Nat.le_of_eq rfl) (hb hby at_316) (nle rfl) (nle rfl) ?_
  rintro T45 h45 _ _ _ X45 ⟨rfl, rfl, rfl, J45⟩
  rw [J45] at X45
  refine P.ifNo X45 hx 322 (hb hby at_319) (by decide) rfl ?_
  refine P.aload X45 hx 324 (hb hby at_322) rfl rfl rfl ?_
  refine P.iload X45 hx 326 (hb hby at_324) rfl rfl ?_
  refine P.aload X45 hx 328 (hb hby at_326) rfl rfl rfl ?_
  refine P.bipush X45 hx 330 16 (hb hby at_328) rfl rfl ?_
  refine X45.callS hx (w135 cx) (w136 cx) (w137 cx) (w138 cx) (by decide) (Ct.pay (W := 0) (ct_quad cx a29 a30 a24 b24 ([(p1 &&& (255 : Int32)), (p2 &&& (255 : Int32))]) ([(32 : Int32), 102, 101, 116, 99, 104, 32, 102, 105, 114, 115, 116, 32, 63, 32, 114, 111, 119, 115, 32, 111, 110, 108, 121]) (2 : Int32) 16 (16 : Int32) h28 _ _ S35 F38 rfl rfl (nle rfl) (nle rfl)) (w138 cx) (w137 cx) (nle rfl) (nle rfl)) (by rw [hml]; rfl) (argsL := [.ref a29, .int 2, .ref a24, .int 16]) (rest := []) (lenOf pd23 rfl) rfl rfl (Nat.le_of_eq rfl) (hb hby at_330) (nle rfl) (nle rfl) ?_
  rintro T46 h46 _ _ _ X46 ⟨rfl, rfl, rfl, J46⟩
  rw [J46] at X46
  refine P.ifNo X46 hx 336 (hb hby at_333) (by decide) rfl ?_
  refine P.aload X46 hx 338 (hb hby at_336) rfl rfl rfl ?_
  refine P.iload X46 hx 340 (hb hby at_338) rfl rfl ?_
  refine P.aload X46 hx 342 (hb hby at_340) rfl rfl rfl ?_
  refine P.bipush X46 hx 344 20 (hb hby at_342) rfl rfl ?_
  refine X46.callS hx (w135 cx) (w136 cx) (w137 cx) (w138 cx) (by decide) (Ct.pay (W := 0) (ct_quad cx a29 a30 a24 b24 ([(p1 &&& (255 : Int32)), (p2 &&& (255 : Int32))]) ([(32 : Int32), 102, 101, 116, 99, 104, 32, 102, 105, 114, 115, 116, 32, 63, 32, 114, 111, 119, 115, 32, 111, 110, 108, 121]) (2 : Int32) 20 (20 : Int32) h28 _ _ S35 F38 rfl rfl (nle rfl) (nle rfl)) (w138 cx) (w137 cx) (nle rfl) (nle rfl)) (by rw [hml]; rfl) (argsL := [.ref a29, .int 2, .ref a24, .int 20]) (rest := []) (lenOf pd23 rfl) rfl rfl (Nat.le_of_eq rfl) (hb hby at_344) (nle rfl) (nle rfl) ?_
  rintro T47 h47 _ _ _ X47 ⟨rfl, rfl, rfl, J47⟩
  rw [J47] at X47
  refine P.ifNo X47 hx 350 (hb hby at_347) (by decide) rfl ?_
  refine P.aload X47 hx 352 (hb hby at_350) rfl rfl rfl ?_
  refine P.iload X47 hx 354 (hb hby at_352) rfl rfl ?_
  refine P.aload X47 hx 356 (hb hby at_354) rfl rfl rfl ?_
  refine P.bipush X47 hx 358 24 (hb hby at_356) rfl rfl ?_
  refine X47.callS hx (w135 cx) (w136 cx) (w137 cx) (w138 cx) (by decide) (Ct.pay (W := 0) (ct_quad cx a29 a30 a24 b24 ([(p1 &&& (255 : Int32)), (p2 &&& (255 : Int32))]) ([(32 : Int32), 102, 101, 116, 99, 104, 32, 102, 105, 114, 115, 116, 32, 63, 32, 114, 111, 119, 115, 32, 111, 110, 108, 121]) (2 : Int32) 24 (24 : Int32) h28 _ _ S35 F38 rfl rfl (nle rfl) (nle rfl)) (w138 cx) (w137 cx) (nle rfl) (nle rfl)) (by rw [hml]; rfl) (argsL := [.ref a29, .int 2, .ref a24, .int 24]) (rest := []) (lenOf pd23 rfl) rfl rfl (Nat.le_of_eq rfl) (hb hby at_358) (nle rfl) (nle rfl) ?_
  rintro T48 h48 _ _ _ X48 ⟨rfl, rfl, rfl, J48⟩
  rw [J48] at X48
  refine P.ifNo X48 hx 364 (hb hby at_361) (by decide) rfl ?_
  refine P.aload X48 hx 366 (hb hby at_364) rfl rfl rfl ?_
  refine P.iload X48 hx 368 (hb hby at_366) rfl rfl ?_
  refine P.aload X48 hx 370 (hb hby at_368) rfl rfl rfl ?_
  refine P.bipush X48 hx 372 28 (hb hby at_370) rfl rfl ?_
  refine X48.callS hx (w135 cx) (w136 cx) (w137 cx) (w138 cx) (by decide) (Ct.pay (W := 0) (ct_quad cx a29 a30 a24 b24 ([(p1 &&& (255 : Int32)), (p2 &&& (255 : Int32))]) ([(32 : Int32), 102, 101, 116, 99, 104, 32, 102, 105, 114, 115, 116, 32, 63, 32, 114, 111, 119, 115, 32, 111, 110, 108, 121]) (2 : Int32) 28 (28 : Int32) h28 _ _ S35 F38 rfl rfl (nle rfl) (nle rfl)) (w138 cx) (w137 cx) (nle rfl) (nle rfl)) (by rw [hml]; rfl) (argsL := [.ref a29, .int 2, .ref a24, .int 28]) (rest := []) (lenOf pd23 rfl) rfl rfl (Nat.le_of_eq rfl) (hb hby at_372) (nle rfl) (nle rfl) ?_
  rintro T49 h49 _ _ _ X49 ⟨rfl, rfl, rfl, J49⟩
  rw [J49] at X49
  refine P.ifNo X49 hx 378 (hb hby at_375) (by decide) rfl ?_
  refine P.aload X49 hx 380 (hb hby at_378) rfl rfl rfl ?_
  refine P.iload X49 hx 382 (hb hby at_380) rfl rfl ?_
  refine P.aload X49 hx 384 (hb hby at_382) rfl rfl rfl ?_
  refine P.bipush X49 hx 386 32 (hb hby at_384) rfl rfl ?_
  refine X49.callS hx (w135 cx) (w136 cx) (w137 cx) (w138 cx) (by decide) (Ct.pay (W := 0) (ct_quad cx a29 a30 a24 b24 ([(p1 &&& (255 : Int32)), (p2 &&& (255 : Int32))]) ([(32 : Int32), 102, 101, 116, 99, 104, 32, 102, 105, 114, 115, 116, 32, 63, 32, 114, 111, 119, 115, 32, 111, 110, 108, 121]) (2 : Int32) 32 (32 : Int32) h28 _ _ S35 F38 rfl rfl (nle rfl) (nle rfl)) (w138 cx) (w137 cx) (nle rfl) (nle rfl)) (by rw [hml]; rfl) (argsL := [.ref a29, .int 2, .ref a24, .int 32]) (rest := []) (lenOf pd23 rfl) rfl rfl (Nat.le_of_eq rfl) (hb hby at_386) (nle rfl) (nle rfl) ?_
  rintro T50 h50 _ _ _ X50 ⟨rfl, rfl, rfl, J50⟩
  rw [J50] at X50
  refine P.ifNo X50 hx 392 (hb hby at_389) (by decide) rfl ?_
  refine P.aload X50 hx 394 (hb hby at_392) rfl rfl rfl ?_
  refine P.iload X50 hx 396 (hb hby at_394) rfl rfl ?_
  refine P.aload X50 hx 398 (hb hby at_396) rfl rfl rfl ?_
  refine P.bipush X50 hx 400 36 (hb hby at_398) rfl rfl ?_
  refine X50.callS hx (w135 cx) (w136 cx) (w137 cx) (w138 cx) (by decide) (Ct.pay (W := 0) (ct_quad cx a29 a30 a24 b24 ([(p1 &&& (255 : Int32)), (p2 &&& (255 : Int32))]) ([(32 : Int32), 102, 101, 116, 99, 104, 32, 102, 105, 114, 115, 116, 32, 63, 32, 114, 111, 119, 115, 32, 111, 110, 108, 121]) (2 : Int32) 36 (36 : Int32) h28 _ _ S35 F38 rfl rfl (nle rfl) (nle rfl)) (w138 cx) (w137 cx) (nle rfl) (nle rfl)) (by rw [hml]; rfl) (argsL := [.ref a29, .int 2, .ref a24, .int 36]) (rest := []) (lenOf pd23 rfl) rfl rfl (Nat.le_of_eq rfl) (hb hby at_400) (nle rfl) (nle rfl) ?_
  rintro T51 h51 _ _ _ X51 ⟨rfl, rfl, rfl, J51⟩
  rw [J51] at X51
  refine P.ifNo X51 hx 406 (hb hby at_403) (by decide) rfl ?_
  refine P.iconst X51 hx 407 1 (hb hby at_406) rfl rfl ?_
  refine P.goto X51 hx 411 (hb hby at_407) (by decide) (by decide) ?_
  have X52 := WS.drop (A := []) (B := (a6 :: WL)) X51
  have X53 := WS.drop (A := []) (B := WL) X52
  have X54 := WS.fl (FL2 := FL) X53 (fun y hy => (List.mem_append_right [a6, a29, a30, a24, b24, a1, a20] hy))
  exact WS.retN X54 (WL' := []) (FL' := []) hx (t := .boolean) hret (by simp) hlk (hb hby at_411) (nle rfl) (nle rfl) ⟨rfl, rfl, rfl, K34⟩
set_option maxRecDepth 65536 in
set_option maxHeartbeats 4000000 in
theorem ct_law_210 {l : Launch} {Z : State} {a0 : Array Value} {gC : Int32} {gF : Value} (cx : Cx a0 Z gC gF) {n0 : Nat} (p0 : Int32) (p1 : Int32) (p2 : Int32) (p3 : Int32) (h : Heap) (WL FL : List Addr)  (en : (((p0.toUInt32 >>> ((2 : Int32) &&& 31).toUInt32).toInt32) &&& (3 : Int32)) = (2 : Int32)) (es : ¬ (p0 &&& (1 : Int32)) = (0 : Int32)) (el : (p0 &&& (2 : Int32)) = (0 : Int32)) :
    Ct l Z EL1 n0 x code maxLocals ret room_1 #[(.int p0), (.int p1), (.int p2), (.int p3)] h WL FL (Q_law Z gC gF p0 p1 p2 p3 h) := by
  refine Ct.of (plainFor_of_name pn7) ?_
  intro p e s m below meth c s1 hx hby hml hnm hret hlk X0
  refine Wo.cast (f' := (mkF m 0 #[.val (.int p0), .val (.int p1), .val (.int p2), .val (.int p3), .unset, .unset, .unset, .unset, .unset, .unset, .unset, .unset, .unset] [])) (by first | rfl | (simp [entryFrame, mkF, argsToLocals, Value.category]; done)) ?_
  have K0 : Keep h h [] := Keep.refl _ _
  show Wo _ _ _ _ _ _ _ _ _ _ _ s1 (mkF m 0 #[.val (.int p0), .val (.int p1), .val (.int p2), .val (.int p3), .unset, .unset, .unset, .unset, .unset, .unset, .unset, .unset, .unset] [])
  refine P.iloadN X0 hx 1 (hb hby at_0) rfl rfl ?_
  refine P.iconst X0 hx 2 1 (hb hby at_1) rfl rfl ?_
  refine P.iand X0 hx 3 (z := (p0 &&& (1 : Int32))) (hb hby at_2) rfl rfl ?_
  refine P.ifNo X0 hx 6 (hb hby at_3) ((if0 _ _).trans (feq es).1) rfl ?_
  refine P.iconst X0 hx 7 1 (hb hby at_6) rfl rfl ?_
  refine P.goto X0 hx 11 (hb hby at_7) (by decide) (by decide) ?_
  refine P.istore X0 hx 13 #[.val (.int p0), .val (.int p1), .val (.int p2), .val (.int p3), .val (.int 1), .unset, .unset, .unset, .unset, .unset, .unset, .unset, .unset] (hb hby at_11) rfl rfl ?_
  refine P.iloadN X0 hx 14 (hb hby at_13) rfl rfl ?_
  refine P.iconst X0 hx 15 2 (hb hby at_14) rfl rfl ?_
  refine P.iand X0 hx 16 (z := (p0 &&& (2 : Int32))) (hb hby at_15) rfl rfl ?_
  refine P.ifYes X0 hx 23 (hb hby at_16) ((if0 _ _).trans (teq el).1) (by decide) (by decide) ?_
  refine P.iconst X0 hx 24 0 (hb hby at_23) rfl rfl ?_
  refine P.istore X0 hx 26 #[.val (.int p0), .val (.int p1), .val (.int p2), .val (.int p3), .val (.int 1), .val (.int 0), .unset, .unset, .unset, .unset, .unset, .unset, .unset] (hb hby at_24) rfl rfl ?_
  refine P.iloadN X0 hx 27 (hb hby at_26) rfl rfl ?_
  refine P.iconst X0 hx 28 2 (hb hby at_27) rfl rfl ?_
  refine P.iushr X0 hx 29 (z := ((p0.toUInt32 >>> ((2 : Int32) &&& 31).toUInt32).toInt32)) (hb hby at_28) rfl rfl ?_
  refine P.iconst X0 hx 30 3 (hb hby at_29) rfl rfl ?_
  refine P.iand X0 hx 31 (z := (2 : Int32)) (hb hby at_30) (by rw [en]) rfl ?_
  refine P.istore X0 hx 33 #[.val (.int p0), .val (.int p1), .val (.int p2), .val (.int p3), .val (.int 1), .val (.int 0), .val (.int 2), .unset, .unset, .unset, .unset, .unset, .unset] (hb hby at_31) rfl rfl ?_
  refine P.iloadN X0 hx 34 (hb hby at_33) rfl rfl ?_
  refine P.sipush X0 hx 37 255 (hb hby at_34) rfl rfl ?_
  refine P.iand X0 hx 38 (z := (p1 &&& (255 : Int32))) (hb hby at_37) rfl rfl ?_
  refine P.i2c X0 hx 39 (z := (p1 &&& (255 : Int32))) (hb hby at_38) (by rw [i2c_mask]) rfl ?_
  refine P.istore X0 hx 41 #[.val (.int p0), .val (.int p1), .val (.int p2), .val (.int p3), .val (.int 1), .val (.int 0), .val (.int 2), .val (.int (p1 &&& (255 : Int32))), .unset, .unset, .unset, .unset, .unset] (hb hby at_39) rfl rfl ?_
  refine P.iloadN X0 hx 42 (hb hby at_41) rfl rfl ?_
  refine P.sipush X0 hx 45 255 (hb hby at_42) rfl rfl ?_
  refine P.iand X0 hx 46 (z := (p2 &&& (255 : Int32))) (hb hby at_45) rfl rfl ?_
  refine P.i2c X0 hx 47 (z := (p2 &&& (255 : Int32))) (hb hby at_46) (by rw [i2c_mask]) rfl ?_
  refine P.istore X0 hx 49 #[.val (.int p0), .val (.int p1), .val (.int p2), .val (.int p3), .val (.int 1), .val (.int 0), .val (.int 2), .val (.int (p1 &&& (255 : Int32))), .val (.int (p2 &&& (255 : Int32))), .unset, .unset, .unset, .unset] (hb hby at_47) rfl rfl ?_
  refine P.iloadN X0 hx 50 (hb hby at_49) rfl rfl ?_
  refine P.sipush X0 hx 53 255 (hb hby at_50) rfl rfl ?_
  refine P.iand X0 hx 54 (z := (p3 &&& (255 : Int32))) (hb hby at_53) rfl rfl ?_
  refine P.i2c X0 hx 55 (z := (p3 &&& (255 : Int32))) (hb hby at_54) (by rw [i2c_mask]) rfl ?_
  refine P.istore X0 hx 57 #[.val (.int p0), .val (.int p1), .val (.int p2), .val (.int p3), .val (.int 1), .val (.int 0), .val (.int 2), .val (.int (p1 &&& (255 : Int32))), .val (.int (p2 &&& (255 : Int32))), .val (.int (p3 &&& (255 : Int32))), .unset, .unset, .unset] (hb hby at_55) rfl rfl ?_
  refine P.iload X0 hx 59 (hb hby at_57) rfl rfl ?_
  refine P.ifYes X0 hx 69 (hb hby at_59) (by decide) (by decide) (by decide) ?_
  refine P.iload X0 hx 71 (hb hby at_69) rfl rfl ?_
  refine P.iconst X0 hx 72 1 (hb hby at_71) rfl rfl ?_
  refine P.icmpYes X0 hx 85 (hb hby at_72) (by decide) (by decide) (by decide) ?_
  refine P.iload X0 hx 87 (hb hby at_85) rfl rfl ?_
  refine P.iconst X0 hx 88 2 (hb hby at_87) rfl rfl ?_
  refine P.icmpNo X0 hx 91 (hb hby at_88) (by decide) rfl ?_
  refine X0.newO hx (w142 cx) (w2 cx) (w1 cx) (hb hby at_91) (nle rfl) (nle rfl) ?_
  intro T1 h1 a1 X1 E1 g1 A1 D1
  have ge2 : h.size ≤ a1 := Nat.le_trans K0.1 g1
  have K3 : Keep h h1 [] := K0.ext E1
  have D4 : Fld Z h1 a1 "java/lang/String" "value" "[B" .null := D1 (Or.inr (w4 cx)) (ty := (.array .byte)) (by decide)
  have D5 : Fld Z h1 a1 "java/lang/String" "coder" "B" (.int 0) := D1 (Or.inr (w5 cx)) (ty := .byte) (by decide)
  refine P.dup X1 hx 95 (hb hby at_94) rfl rfl ?_
  refine P.iconst X1 hx 96 2 (hb hby at_95) rfl rfl ?_
  refine X1.newP (aty := .char) hx (w143 cx) (hb hby at_96) (by decide) (cap := 2) (nle rfl) (nle rfl) (nle rfl) (nle rfl) ?_
  intro T6 h6 a6 k6 X6 E6 g6 A6
  have ge7 : h.size ≤ a6 := Nat.le_trans K3.1 g6
  have K8 : Keep h h6 [] := K3.ext E6
  have V9 : Arv Z h6 a6 k6 .char (2 : Int32) [(.int 0), (.int 0)] (.int 0) := Arv.pad A6 (pad_rep [] _ 2)
  refine P.dup X6 hx 99 (hb hby at_98) rfl rfl ?_
  refine P.iconst X6 hx 100 0 (hb hby at_99) rfl rfl ?_
  refine P.iload X6 hx 102 (hb hby at_100) rfl rfl ?_
  refine X6.stC hx V9 (j := (0 : Int32)) (x := (p1 &&& (255 : Int32))) (i := 0) (by decide) rfl (nlt rfl) (List.mem_of_getElem? (i := 0) rfl) (hb hby at_102) ?_
  intro T10 h10 X10 W10 G10
  have K11 : Keep h h10 [] := K8.wr W10 (Or.inr ge7)
  have V12 : Arv Z h10 a6 k6 .char (2 : Int32) [(.int (p1 &&& (255 : Int32))), (.int 0)] (.int 0) := by have q := G10; rw [nar255] at q; exact q
  refine P.dup X10 hx 104 (hb hby at_103) rfl rfl ?_
  refine P.iconst X10 hx 105 1 (hb hby at_104) rfl rfl ?_
  refine P.iload X10 hx 107 (hb hby at_105) rfl rfl ?_
  refine X10.stC hx V12 (j := (1 : Int32)) (x := (p2 &&& (255 : Int32))) (i := 1) (by decide) rfl (nlt rfl) (List.mem_of_getElem? (i := 0) rfl) (hb hby at_107) ?_
  intro T13 h13 X13 W13 G13
  have K14 : Keep h h13 [] := K11.wr W13 (Or.inr ge7)
  have V15 : Arv Z h13 a6 k6 .char (2 : Int32) [(.int (p1 &&& (255 : Int32))), (.int (p2 &&& (255 : Int32)))] (.int 0) := by have q := G13; rw [nar255] at q; exact q
  have F16 : Exa Z h13 a1 "java/lang/String" := (((A1.ext E6).wr W10).wr W13)
  have F17 : Fld Z h13 a1 "java/lang/String" "value" "[B" .null := (((D4.ext E6).other W10 (Or.inl (X13.ne (i := 1) (j := 0) rfl rfl (by decide)))).other W13 (Or.inl (X13.ne (i := 1) (j := 0) rfl rfl (by decide))))
  have F18 : Fld Z h13 a1 "java/lang/String" "coder" "B" (.int 0) := (((D5.ext E6).other W10 (Or.inl (X13.ne (i := 1) (j := 0) rfl rfl (by decide)))).other W13 (Or.inl (X13.ne (i := 1) (j := 0) rfl rfl (by decide))))
  refine X13.callC hx rfl (w144 cx) (w145 cx) (w146 cx) (by decide) (pay_new (W := 1) (hws cx) (w2 cx) (cs := [(p1 &&& (255 : Int32)), (p2 &&& (255 : Int32))]) (n := 2) (X13.ge (List.mem_of_getElem? (i := 1) rfl)) X13.n0le (List.mem_of_getElem? (i := 1) rfl) F16 F17 F18 V15 (X13.sta (S_C cx)) (N_C cx) rfl rfl (nle rfl) (nle rfl) (fcS (rng255 p1) (fcS (rng255 p2) fc0)) (nle rfl) (nle rfl)) (by rw [hml]; rfl) (argsL := [.ref a6]) (rest := [.ref a1]) (lenOf pd26 rfl) rfl rfl (Nat.le_of_eq rfl) (hb hby at_108) (nle rfl) (nle rfl) ?_
  rintro T19 h19 _ _ _ X19 ⟨a20, rfl, rfl, rfl, J19, G21⟩
  have K22 : Keep h h19 [] := K14.trans J19 (allS (Or.inr ge2) all0)
  refine P.astore X19 hx 113 #[.val (.int p0), .val (.int p1), .val (.int p2), .val (.int p3), .val (.int 1), .val (.int 0), .val (.int 2), .val (.int (p1 &&& (255 : Int32))), .val (.int (p2 &&& (255 : Int32))), .val (.int (p3 &&& (255 : Int32))), .val (.ref a1), .unset, .unset] (hb hby at_111) rfl rfl rfl ?_
  refine P.goto X19 hx 143 (hb hby at_113) (by decide) (by decide) ?_
  have X23 := WS.drop (A := [a6]) (B := WL) X19
  refine P.iload X23 hx 145 (hb hby at_143) rfl rfl ?_
  refine P.ifNo X23 hx 148 (hb hby at_145) (by decide) rfl ?_
  refine P.iload X23 hx 150 (hb hby at_148) rfl rfl ?_
  refine P.ifYes X23 hx 160 (hb hby at_150) (by decide) (by decide) (by decide) ?_
  refine X23.ldc hx (w213 cx) (strAtoms cx) (by decide) (vs := [(.int 32), (.int 111), (.int 102), (.int 102), (.int 115), (.int 101), (.int 116), (.int 32), (.int 63), (.int 32), (.int 114), (.int 111), (.int 119), (.int 115)]) (z := (14 : Int32)) ⟨by decide, by decide⟩ (by decide) rfl (hb hby at_160) (n := 56) (nle rfl) (nle rfl) (nle rfl) (nle rfl) ?_
  intro T24 h24 a24 b24 k24 X24 E24 A24 C24 V24 B24
  have K25 : Keep h h24 [] := K22.ext E24
  refine P.astore X24 hx 164 #[.val (.int p0), .val (.int p1), .val (.int p2), .val (.int p3), .val (.int 1), .val (.int 0), .val (.int 2), .val (.int (p1 &&& (255 : Int32))), .val (.int (p2 &&& (255 : Int32))), .val (.int (p3 &&& (255 : Int32))), .val (.ref a1), .val (.ref a24), .unset] (hb hby at_162) rfl rfl rfl ?_
  refine P.goto X24 hx 183 (hb hby at_164) (by decide) (by decide) ?_
  have S26 : StrL Z h24 a24 b24 [(32 : Int32), 111, 102, 102, 115, 101, 116, 32, 63, 32, 114, 111, 119, 115] := ⟨A24, V24, C24, ⟨_, B24⟩, (by decide), nle rfl⟩
  refine P.aload X24 hx 185 (hb hby at_183) rfl rfl rfl ?_
  refine P.iload X24 hx 187 (hb hby at_185) rfl rfl ?_
  refine P.iload X24 hx 189 (hb hby at_187) rfl rfl ?_
  have F27 : StrL Z h24 a1 a20 [(p1 &&& (255 : Int32)), (p2 &&& (255 : Int32))] := (G21.ext E24)
  refine X24.callS hx (w8 cx) (w9 cx) (w10 cx) (w11 cx) (by decide) (Ct.pay (W := 0) (ct_pag10 cx a1 a20 ([(p1 &&& (255 : Int32)), (p2 &&& (255 : Int32))]) h24 _ _ F27 (List.mem_of_getElem? (i := 2) rfl) (List.mem_of_getElem? (i := 3) rfl) (nle rfl)) (w11 cx) (w10 cx) (nle rfl) (nle rfl)) (by rw [hml]; rfl) (argsL := [.ref a1, .int 1, .int 0]) (rest := []) (lenOf pd24 rfl) rfl rfl (Nat.le_of_eq rfl) (hb hby at_189) (nle rfl) (nle rfl) ?_
  rintro T28 h28 _ _ _ X28 ⟨a29, a30, rfl, rfl, rfl, J28, g32, G31⟩
  have ge33 : h.size ≤ a29 := Nat.le_trans K25.1 g32
  have K34 : Keep h h28 [] := K25.trans J28 all0
  have S35 : StrL Z h28 a29 a30 [(p1 &&& (255 : Int32)), (p2 &&& (255 : Int32)), 32, 111, 102, 102, 115, 101, 116, 32, 63, 32, 114, 111, 119, 115] := G31
  refine P.astore X28 hx 194 #[.val (.int p0), .val (.int p1), .val (.int p2), .val (.int p3), .val (.int 1), .val (.int 0), .val (.int 2), .val (.int (p1 &&& (255 : Int32))), .val (.int (p2 &&& (255 : Int32))), .val (.int (p3 &&& (255 : Int32))), .val (.ref a1), .val (.ref a24), .val (.ref a29)] (hb hby at_192) rfl rfl rfl ?_
  refine P.aload X28 hx 196 (hb hby at_194) rfl rfl rfl ?_
  refine P.ifnonnullYes X28 hx 201 (hb hby at_196) (by decide) (by decide) ?_
  refine P.aload X28 hx 203 (hb hby at_201) rfl rfl rfl ?_
  refine X28.callV hx (w134 cx) (w28 cx) (w30 cx) (w29 cx) (fun _ hZ => nf hZ (w30 cx)) (by decide) S35.1 (pay_len (W := 0) (hln cx) (w2 cx) S35 (X28.sta (S_C cx)) (N_C cx) (nle rfl) (nle rfl)) (by rw [hml]; rfl) (argsL := []) (rest := []) (lenOf pd7 rfl) rfl rfl (Nat.le_of_eq rfl) (hb hby at_203) (nle rfl) (nle rfl) ?_
  rintro T36 h36 _ _ _ X36 ⟨rfl, rfl, rfl, J36⟩
  rw [J36] at X36
  show Wo _ _ _ _ _ _ _ _ _ _ _ T36 (mkF m 206 #[.val (.int p0), .val (.int p1), .val (.int p2), .val (.int p3), .val (.int 1), .val (.int 0), .val (.int 2), .val (.int (p1 &&& (255 : Int32))), .val (.int (p2 &&& (255 : Int32))), .val (.int (p3 &&& (255 : Int32))), .val (.ref a1), .val (.ref a24), .val (.ref a29)] [.int 16])
  refine P.iload X36 hx 208 (hb hby at_206) rfl rfl ?_
  refine P.aload X36 hx 210 (hb hby at_208) rfl rfl rfl ?_
  have F37 : Exa Z h28 a24 "java/lang/String" := (S26.1.keep J28)
  have F38 : StrL Z h28 a24 b24 [(32 : Int32), 111, 102, 102, 115, 101, 116, 32, 63, 32, 114, 111, 119, 115] := (S26.keep J28 nin0 nin0)
  refine X36.callV hx (w134 cx) (w28 cx) (w30 cx) (w29 cx) (fun _ hZ => nf hZ (w30 cx)) (by decide) F37 (pay_len (W := 2) (hln cx) (w2 cx) F38 (X36.sta (S_C cx)) (N_C cx) (nle rfl) (nle rfl)) (by rw [hml]; rfl) (argsL := []) (rest := [.int 2, .int 16]) (lenOf pd7 rfl) rfl rfl (Nat.le_of_eq rfl) (hb hby at_210) (nle rfl) (nle rfl) ?_
  rintro T39 h39 _ _ _ X39 ⟨rfl, rfl, rfl, J39⟩
  rw [J39] at X39
  show Wo _ _ _ _ _ _ _ _ _ _ _ T39 (mkF m 213 #[.val (.int p0), .val (.int p1), .val (.int p2), .val (.int p3), .val (.int 1), .val (.int 0), .val (.int 2), .val (.int (p1 &&& (255 : Int32))), .val (.int (p2 &&& (255 : Int32))), .val (.int (p3 &&& (255 : Int32))), .val (.ref a1), .val (.ref a24), .val (.ref a29)] [.int 14, .int 2, .int 16])
  refine P.iadd X39 hx 214 (z := (16 : Int32)) (hb hby at_213) rfl rfl ?_
  refine P.icmpNo X39 hx 217 (hb hby at_214) (by decide) rfl ?_
  refine P.iload X39 hx 219 (hb hby at_217) rfl rfl ?_
  refine P.iconst X39 hx 220 1 (hb hby at_219) rfl rfl ?_
  refine P.icmpNo X39 hx 223 (hb hby at_220) (by decide) rfl ?_
  refine P.aload X39 hx 225 (hb hby at_223) rfl rfl rfl ?_
  refine P.iconst X39 hx 226 0 (hb hby at_225) rfl rfl ?_
  refine X39.callV hx (w160 cx) (w161 cx) (w163 cx) (w162 cx) (fun _ hZ => nf hZ (w163 cx)) (by decide) S35.1 (pay_chr (W := 0) (hch cx) (w2 cx) S35 (X39.sta (S_C cx)) (N_C cx) (X39.sta (S_F cx)) (R_F cx) (i := 0) (nlt rfl) rfl (nle rfl) (nle rfl)) (by rw [hml]; rfl) (argsL := [.int 0]) (rest := []) (lenOf pd22 rfl) rfl rfl (Nat.le_of_eq rfl) (hb hby at_226) (nle rfl) (nle rfl) ?_
  rintro T40 h40 _ _ _ X40 ⟨rfl, rfl, rfl, J40⟩
  rw [J40] at X40
  show Wo _ _ _ _ _ _ _ _ _ _ _ T40 (mkF m 229 #[.val (.int p0), .val (.int p1), .val (.int p2), .val (.int p3), .val (.int 1), .val (.int 0), .val (.int 2), .val (.int (p1 &&& (255 : Int32))), .val (.int (p2 &&& (255 : Int32))), .val (.int (p3 &&& (255 : Int32))), .val (.ref a1), .val (.ref a24), .val (.ref a29)] [.int (p1 &&& (255 : Int32))])
  refine P.iload X40 hx 231 (hb hby at_229) rfl rfl ?_
  refine P.icmpNo X40 hx 234 (hb hby at_231) (teq rfl).2 rfl ?_
  refine P.iload X40 hx 236 (hb hby at_234) rfl rfl ?_
  refine P.iconst X40 hx 237 2 (hb hby at_236) rfl rfl ?_
  refine P.icmpNo X40 hx 240 (hb hby at_237) (by decide) rfl ?_
  refine P.aload X40 hx 242 (hb hby at_240) rfl rfl rfl ?_
  refine P.iconst X40 hx 243 1 (hb hby at_242) rfl rfl ?_
  refine X40.callV hx (w160 cx) (w161 cx) (w163 cx) (w162 cx) (fun _ hZ => nf hZ (w163 cx)) (by decide) S35.1 (pay_chr (W := 0) (hch cx) (w2 cx) S35 (X40.sta (S_C cx)) (N_C cx) (X40.sta (S_F cx)) (R_F cx) (i := 1) (nlt rfl) rfl (nle rfl) (nle rfl)) (by rw [hml]; rfl) (argsL := [.int 1]) (rest := []) (lenOf pd22 rfl) rfl rfl (Nat.le_of_eq rfl) (hb hby at_243) (nle rfl) (nle rfl) ?_
  rintro T41 h41 _ _ _ X41 ⟨rfl, rfl, rfl, J41⟩
  rw [J41] at X41
  show Wo _ _ _ _ _ _ _ _ _ _ _ T41 (mkF m 246 #[.val (.int p0), .val (.int p1), .val (.int p2), .val (.int p3), .val (.int 1), .val (.int 0), .val (.int 2), .val (.int (p1 &&& (255 : Int32))), .val (.int (p2 &&& (255 : Int32))), .val (.int (p3 &&& (255 : Int32))), .val (.ref a1), .val (.ref a24), .val (.ref a29)] [.int (p2 &&& (255 : Int32))])
  refine P.iload X41 hx 248 (hb hby at_246) rfl rfl ?_
  refine P.icmpNo X41 hx 251 (hb hby at_248) (teq rfl).2 rfl ?_
  refine P.iload X41 hx 253 (hb hby at_251) rfl rfl ?_
  refine P.iconst X41 hx 254 3 (hb hby at_253) rfl rfl ?_
  refine P.icmpYes X41 hx 268 (hb hby at_254) (by decide) (by decide) (by decide) ?_
  refine P.aload X41 hx 270 (hb hby at_268) rfl rfl rfl ?_
  refine P.iload X41 hx 272 (hb hby at_270) rfl rfl ?_
  refine P.aload X41 hx 274 (hb hby at_272) rfl rfl rfl ?_
  refine P.iconst X41 hx 275 0 (hb hby at_274) rfl rfl ?_
  refine X41.callS hx (w135 cx) (w136 cx) (w137 cx) (w138 cx) (by decide) (Ct.pay (W := 0) (ct_quad cx a29 a30 a24 b24 ([(p1 &&& (255 : Int32)), (p2 &&& (255 : Int32))]) ([(32 : Int32), 111, 102, 102, 115, 101, 116, 32, 63, 32, 114, 111, 119, 115]) (2 : Int32) 0 (0 : Int32) h28 _ _ S35 F38 rfl rfl (nle rfl) (nle rfl)) (w138 cx) (w137 cx) (nle rfl) (nle rfl)) (by rw [hml]; rfl) (argsL := [.ref a29, .int 2, .ref a24, .int 0]) (rest := []) (lenOf pd23 rfl) rfl rfl (Nat.le_of_eq rfl) (hb hby at_275) (nle rfl) (nle rfl) ?_
  rintro T42 h42 _ _ _ X42 ⟨rfl, rfl, rfl, J42⟩
  rw [J42] at X42
  refine P.ifNo X42 hx 281 (hb hby at_278) (by decide) rfl ?_
  refine P.aload X42 hx 283 (hb hby at_281) rfl rfl rfl ?_
  refine P.iload X42 hx 285 (hb hby at_283) rfl rfl ?_
  refine P.aload X42 hx 287 (hb hby at_285) rfl rfl rfl ?_
  refine P.iconst X42 hx 288 4 (hb hby at_287) rfl rfl ?_
  refine X42.callS hx (w135 cx) (w136 cx) (w137 cx) (w138 cx) (by decide) (Ct.pay (W := 0) (ct_quad cx a29 a30 a24 b24 ([(p1 &&& (255 : Int32)), (p2 &&& (255 : Int32))]) ([(32 : Int32), 111, 102, 102, 115, 101, 116, 32, 63, 32, 114, 111, 119, 115]) (2 : Int32) 4 (4 : Int32) h28 _ _ S35 F38 rfl rfl (nle rfl) (nle rfl)) (w138 cx) (w137 cx) (nle rfl) (nle rfl)) (by rw [hml]; rfl) (argsL := [.ref a29, .int 2, .ref a24, .int 4]) (rest := []) (lenOf pd23 rfl) rfl rfl (Nat.le_of_eq rfl) (hb hby at_288) (nle rfl) (nle rfl) ?_
  rintro T43 h43 _ _ _ X43 ⟨rfl, rfl, rfl, J43⟩
  rw [J43] at X43
  refine P.ifNo X43 hx 294 (hb hby at_291) (by decide) rfl ?_
  refine P.aload X43 hx 296 (hb hby at_294) rfl rfl rfl ?_
  refine P.iload X43 hx 298 (hb hby at_296) rfl rfl ?_
  refine P.aload X43 hx 300 (hb hby at_298) rfl rfl rfl ?_
  refine P.bipush X43 hx 302 8 (hb hby at_300) rfl rfl ?_
  refine X43.callS hx (w135 cx) (w136 cx) (w137 cx) (w138 cx) (by decide) (Ct.pay (W := 0) (ct_quad cx a29 a30 a24 b24 ([(p1 &&& (255 : Int32)), (p2 &&& (255 : Int32))]) ([(32 : Int32), 111, 102, 102, 115, 101, 116, 32, 63, 32, 114, 111, 119, 115]) (2 : Int32) 8 (8 : Int32) h28 _ _ S35 F38 rfl rfl (nle rfl) (nle rfl)) (w138 cx) (w137 cx) (nle rfl) (nle rfl)) (by rw [hml]; rfl) (argsL := [.ref a29, .int 2, .ref a24, .int 8]) (rest := []) (lenOf pd23 rfl) rfl rfl (Nat.le_of_eq rfl) (hb hby at_302) (nle rfl) (nle rfl) ?_
  rintro T44 h44 _ _ _ X44 ⟨rfl, rfl, rfl, J44⟩
  rw [J44] at X44
  refine P.ifNo X44 hx 308 (hb hby at_305) (by decide) rfl ?_
  refine P.aload X44 hx 310 (hb hby at_308) rfl rfl rfl ?_
  refine P.iload X44 hx 312 (hb hby at_310) rfl rfl ?_
  refine P.aload X44 hx 314 (hb hby at_312) rfl rfl rfl ?_
  refine P.bipush X44 hx 316 12 (hb hby at_314) rfl rfl ?_
  refine X44.callS hx (w135 cx) (w136 cx) (w137 cx) (w138 cx) (by decide) (Ct.pay (W := 0) (ct_quad cx a29 a30 a24 b24 ([(p1 &&& (255 : Int32)), (p2 &&& (255 : Int32))]) ([(32 : Int32), 111, 102, 102, 115, 101, 116, 32, 63, 32, 114, 111, 119, 115]) (2 : Int32) 12 (12 : Int32) h28 _ _ S35 F38 rfl rfl (nle rfl) (nle rfl)) (w138 cx) (w137 cx) (nle rfl) (nle rfl)) (by rw [hml]; rfl) (argsL := [.ref a29, .int 2, .ref a24, .int 12]) (rest := []) (lenOf pd23 rfl) rfl rfl (Nat.le_of_eq rfl) (hb hby at_316) (nle rfl) (nle rfl) ?_
  rintro T45 h45 _ _ _ X45 ⟨rfl, rfl, rfl, J45⟩
  rw [J45] at X45
  refine P.ifNo X45 hx 322 (hb hby at_319) (by decide) rfl ?_
  refine P.aload X45 hx 324 (hb hby at_322) rfl rfl rfl ?_
  refine P.iload X45 hx 326 (hb hby at_324) rfl rfl ?_
  refine P.aload X45 hx 328 (hb hby at_326) rfl rfl rfl ?_
  refine P.bipush X45 hx 330 16 (hb hby at_328) rfl rfl ?_
  refine X45.callS hx (w135 cx) (w136 cx) (w137 cx) (w138 cx) (by decide) (Ct.pay (W := 0) (ct_quad cx a29 a30 a24 b24 ([(p1 &&& (255 : Int32)), (p2 &&& (255 : Int32))]) ([(32 : Int32), 111, 102, 102, 115, 101, 116, 32, 63, 32, 114, 111, 119, 115]) (2 : Int32) 16 (16 : Int32) h28 _ _ S35 F38 rfl rfl (nle rfl) (nle rfl)) (w138 cx) (w137 cx) (nle rfl) (nle rfl)) (by rw [hml]; rfl) (argsL := [.ref a29, .int 2, .ref a24, .int 16]) (rest := []) (lenOf pd23 rfl) rfl rfl (Nat.le_of_eq rfl) (hb hby at_330) (nle rfl) (nle rfl) ?_
  rintro T46 h46 _ _ _ X46 ⟨rfl, rfl, rfl, J46⟩
  rw [J46] at X46
  refine P.ifNo X46 hx 336 (hb hby at_333) (by decide) rfl ?_
  refine P.aload X46 hx 338 (hb hby at_336) rfl rfl rfl ?_
  refine P.iload X46 hx 340 (hb hby at_338) rfl rfl ?_
  refine P.aload X46 hx 342 (hb hby at_340) rfl rfl rfl ?_
  refine P.bipush X46 hx 344 20 (hb hby at_342) rfl rfl ?_
  refine X46.callS hx (w135 cx) (w136 cx) (w137 cx) (w138 cx) (by decide) (Ct.pay (W := 0) (ct_quad cx a29 a30 a24 b24 ([(p1 &&& (255 : Int32)), (p2 &&& (255 : Int32))]) ([(32 : Int32), 111, 102, 102, 115, 101, 116, 32, 63, 32, 114, 111, 119, 115]) (2 : Int32) 20 (20 : Int32) h28 _ _ S35 F38 rfl rfl (nle rfl) (nle rfl)) (w138 cx) (w137 cx) (nle rfl) (nle rfl)) (by rw [hml]; rfl) (argsL := [.ref a29, .int 2, .ref a24, .int 20]) (rest := []) (lenOf pd23 rfl) rfl rfl (Nat.le_of_eq rfl) (hb hby at_344) (nle rfl) (nle rfl) ?_
  rintro T47 h47 _ _ _ X47 ⟨rfl, rfl, rfl, J47⟩
  rw [J47] at X47
  refine P.ifNo X47 hx 350 (hb hby at_347) (by decide) rfl ?_
  refine P.aload X47 hx 352 (hb hby at_350) rfl rfl rfl ?_
  refine P.iload X47 hx 354 (hb hby at_352) rfl rfl ?_
  refine P.aload X47 hx 356 (hb hby at_354) rfl rfl rfl ?_
  refine P.bipush X47 hx 358 24 (hb hby at_356) rfl rfl ?_
  refine X47.callS hx (w135 cx) (w136 cx) (w137 cx) (w138 cx) (by decide) (Ct.pay (W := 0) (ct_quad cx a29 a30 a24 b24 ([(p1 &&& (255 : Int32)), (p2 &&& (255 : Int32))]) ([(32 : Int32), 111, 102, 102, 115, 101, 116, 32, 63, 32, 114, 111, 119, 115]) (2 : Int32) 24 (24 : Int32) h28 _ _ S35 F38 rfl rfl (nle rfl) (nle rfl)) (w138 cx) (w137 cx) (nle rfl) (nle rfl)) (by rw [hml]; rfl) (argsL := [.ref a29, .int 2, .ref a24, .int 24]) (rest := []) (lenOf pd23 rfl) rfl rfl (Nat.le_of_eq rfl) (hb hby at_358) (nle rfl) (nle rfl) ?_
  rintro T48 h48 _ _ _ X48 ⟨rfl, rfl, rfl, J48⟩
  rw [J48] at X48
  refine P.ifNo X48 hx 364 (hb hby at_361) (by decide) rfl ?_
  refine P.aload X48 hx 366 (hb hby at_364) rfl rfl rfl ?_
  refine P.iload X48 hx 368 (hb hby at_366) rfl rfl ?_
  refine P.aload X48 hx 370 (hb hby at_368) rfl rfl rfl ?_
  refine P.bipush X48 hx 372 28 (hb hby at_370) rfl rfl ?_
  refine X48.callS hx (w135 cx) (w136 cx) (w137 cx) (w138 cx) (by decide) (Ct.pay (W := 0) (ct_quad cx a29 a30 a24 b24 ([(p1 &&& (255 : Int32)), (p2 &&& (255 : Int32))]) ([(32 : Int32), 111, 102, 102, 115, 101, 116, 32, 63, 32, 114, 111, 119, 115]) (2 : Int32) 28 (28 : Int32) h28 _ _ S35 F38 rfl rfl (nle rfl) (nle rfl)) (w138 cx) (w137 cx) (nle rfl) (nle rfl)) (by rw [hml]; rfl) (argsL := [.ref a29, .int 2, .ref a24, .int 28]) (rest := []) (lenOf pd23 rfl) rfl rfl (Nat.le_of_eq rfl) (hb hby at_372) (nle rfl) (nle rfl) ?_
  rintro T49 h49 _ _ _ X49 ⟨rfl, rfl, rfl, J49⟩
  rw [J49] at X49
  refine P.ifNo X49 hx 378 (hb hby at_375) (by decide) rfl ?_
  refine P.aload X49 hx 380 (hb hby at_378) rfl rfl rfl ?_
  refine P.iload X49 hx 382 (hb hby at_380) rfl rfl ?_
  refine P.aload X49 hx 384 (hb hby at_382) rfl rfl rfl ?_
  refine P.bipush X49 hx 386 32 (hb hby at_384) rfl rfl ?_
  refine X49.callS hx (w135 cx) (w136 cx) (w137 cx) (w138 cx) (by decide) (Ct.pay (W := 0) (ct_quad cx a29 a30 a24 b24 ([(p1 &&& (255 : Int32)), (p2 &&& (255 : Int32))]) ([(32 : Int32), 111, 102, 102, 115, 101, 116, 32, 63, 32, 114, 111, 119, 115]) (2 : Int32) 32 (32 : Int32) h28 _ _ S35 F38 rfl rfl (nle rfl) (nle rfl)) (w138 cx) (w137 cx) (nle rfl) (nle rfl)) (by rw [hml]; rfl) (argsL := [.ref a29, .int 2, .ref a24, .int 32]) (rest := []) (lenOf pd23 rfl) rfl rfl (Nat.le_of_eq rfl) (hb hby at_386) (nle rfl) (nle rfl) ?_
  rintro T50 h50 _ _ _ X50 ⟨rfl, rfl, rfl, J50⟩
  rw [J50] at X50
  refine P.ifNo X50 hx 392 (hb hby at_389) (by decide) rfl ?_
  refine P.aload X50 hx 394 (hb hby at_392) rfl rfl rfl ?_
  refine P.iload X50 hx 396 (hb hby at_394) rfl rfl ?_
  refine P.aload X50 hx 398 (hb hby at_396) rfl rfl rfl ?_
  refine P.bipush X50 hx 400 36 (hb hby at_398) rfl rfl ?_
  refine X50.callS hx (w135 cx) (w136 cx) (w137 cx) (w138 cx) (by decide) (Ct.pay (W := 0) (ct_quad cx a29 a30 a24 b24 ([(p1 &&& (255 : Int32)), (p2 &&& (255 : Int32))]) ([(32 : Int32), 111, 102, 102, 115, 101, 116, 32, 63, 32, 114, 111, 119, 115]) (2 : Int32) 36 (36 : Int32) h28 _ _ S35 F38 rfl rfl (nle rfl) (nle rfl)) (w138 cx) (w137 cx) (nle rfl) (nle rfl)) (by rw [hml]; rfl) (argsL := [.ref a29, .int 2, .ref a24, .int 36]) (rest := []) (lenOf pd23 rfl) rfl rfl (Nat.le_of_eq rfl) (hb hby at_400) (nle rfl) (nle rfl) ?_
  rintro T51 h51 _ _ _ X51 ⟨rfl, rfl, rfl, J51⟩
  rw [J51] at X51
  refine P.ifNo X51 hx 406 (hb hby at_403) (by decide) rfl ?_
  refine P.iconst X51 hx 407 1 (hb hby at_406) rfl rfl ?_
  refine P.goto X51 hx 411 (hb hby at_407) (by decide) (by decide) ?_
  have X52 := WS.drop (A := []) (B := (a6 :: WL)) X51
  have X53 := WS.drop (A := []) (B := WL) X52
  have X54 := WS.fl (FL2 := FL) X53 (fun y hy => (List.mem_append_right [a6, a29, a30, a24, b24, a1, a20] hy))
  exact WS.retN X54 (WL' := []) (FL' := []) hx (t := .boolean) hret (by simp) hlk (hb hby at_411) (nle rfl) (nle rfl) ⟨rfl, rfl, rfl, K34⟩
set_option maxRecDepth 65536 in
set_option maxHeartbeats 4000000 in
theorem ct_law_211 {l : Launch} {Z : State} {a0 : Array Value} {gC : Int32} {gF : Value} (cx : Cx a0 Z gC gF) {n0 : Nat} (p0 : Int32) (p1 : Int32) (p2 : Int32) (p3 : Int32) (h : Heap) (WL FL : List Addr)  (en : (((p0.toUInt32 >>> ((2 : Int32) &&& 31).toUInt32).toInt32) &&& (3 : Int32)) = (2 : Int32)) (es : ¬ (p0 &&& (1 : Int32)) = (0 : Int32)) (el : ¬ (p0 &&& (2 : Int32)) = (0 : Int32)) :
    Ct l Z EL1 n0 x code maxLocals ret room_1 #[(.int p0), (.int p1), (.int p2), (.int p3)] h WL FL (Q_law Z gC gF p0 p1 p2 p3 h) := by
  refine Ct.of (plainFor_of_name pn7) ?_
  intro p e s m below meth c s1 hx hby hml hnm hret hlk X0
  refine Wo.cast (f' := (mkF m 0 #[.val (.int p0), .val (.int p1), .val (.int p2), .val (.int p3), .unset, .unset, .unset, .unset, .unset, .unset, .unset, .unset, .unset] [])) (by first | rfl | (simp [entryFrame, mkF, argsToLocals, Value.category]; done)) ?_
  have K0 : Keep h h [] := Keep.refl _ _
  show Wo _ _ _ _ _ _ _ _ _ _ _ s1 (mkF m 0 #[.val (.int p0), .val (.int p1), .val (.int p2), .val (.int p3), .unset, .unset, .unset, .unset, .unset, .unset, .unset, .unset, .unset] [])
  refine P.iloadN X0 hx 1 (hb hby at_0) rfl rfl ?_
  refine P.iconst X0 hx 2 1 (hb hby at_1) rfl rfl ?_
  refine P.iand X0 hx 3 (z := (p0 &&& (1 : Int32))) (hb hby at_2) rfl rfl ?_
  refine P.ifNo X0 hx 6 (hb hby at_3) ((if0 _ _).trans (feq es).1) rfl ?_
  refine P.iconst X0 hx 7 1 (hb hby at_6) rfl rfl ?_
  refine P.goto X0 hx 11 (hb hby at_7) (by decide) (by decide) ?_
  refine P.istore X0 hx 13 #[.val (.int p0), .val (.int p1), .val (.int p2), .val (.int p3), .val (.int 1), .unset, .unset, .unset, .unset, .unset, .unset, .unset, .unset] (hb hby at_11) rfl rfl ?_
  refine P.iloadN X0 hx 14 (hb hby at_13) rfl rfl ?_
  refine P.iconst X0 hx 15 2 (hb hby at_14) rfl rfl ?_
  refine P.iand X0 hx 16 (z := (p0 &&& (2 : Int32))) (hb hby at_15) rfl rfl ?_
  refine P.ifNo X0 hx 19 (hb hby at_16) ((if0 _ _).trans (feq el).1) rfl ?_
  refine P.iconst X0 hx 20 1 (hb hby at_19) rfl rfl ?_
  refine P.goto X0 hx 24 (hb hby at_20) (by decide) (by decide) ?_
  refine P.istore X0 hx 26 #[.val (.int p0), .val (.int p1), .val (.int p2), .val (.int p3), .val (.int 1), .val (.int 1), .unset, .unset, .unset, .unset, .unset, .unset, .unset] (hb hby at_24) rfl rfl ?_
  refine P.iloadN X0 hx 27 (hb hby at_26) rfl rfl ?_
  refine P.iconst X0 hx 28 2 (hb hby at_27) rfl rfl ?_
  refine P.iushr X0 hx 29 (z := ((p0.toUInt32 >>> ((2 : Int32) &&& 31).toUInt32).toInt32)) (hb hby at_28) rfl rfl ?_
  refine P.iconst X0 hx 30 3 (hb hby at_29) rfl rfl ?_
  refine P.iand X0 hx 31 (z := (2 : Int32)) (hb hby at_30) (by rw [en]) rfl ?_
  refine P.istore X0 hx 33 #[.val (.int p0), .val (.int p1), .val (.int p2), .val (.int p3), .val (.int 1), .val (.int 1), .val (.int 2), .unset, .unset, .unset, .unset, .unset, .unset] (hb hby at_31) rfl rfl ?_
  refine P.iloadN X0 hx 34 (hb hby at_33) rfl rfl ?_
  refine P.sipush X0 hx 37 255 (hb hby at_34) rfl rfl ?_
  refine P.iand X0 hx 38 (z := (p1 &&& (255 : Int32))) (hb hby at_37) rfl rfl ?_
  refine P.i2c X0 hx 39 (z := (p1 &&& (255 : Int32))) (hb hby at_38) (by rw [i2c_mask]) rfl ?_
  refine P.istore X0 hx 41 #[.val (.int p0), .val (.int p1), .val (.int p2), .val (.int p3), .val (.int 1), .val (.int 1), .val (.int 2), .val (.int (p1 &&& (255 : Int32))), .unset, .unset, .unset, .unset, .unset] (hb hby at_39) rfl rfl ?_
  refine P.iloadN X0 hx 42 (hb hby at_41) rfl rfl ?_
  refine P.sipush X0 hx 45 255 (hb hby at_42) rfl rfl ?_
  refine P.iand X0 hx 46 (z := (p2 &&& (255 : Int32))) (hb hby at_45) rfl rfl ?_
  refine P.i2c X0 hx 47 (z := (p2 &&& (255 : Int32))) (hb hby at_46) (by rw [i2c_mask]) rfl ?_
  refine P.istore X0 hx 49 #[.val (.int p0), .val (.int p1), .val (.int p2), .val (.int p3), .val (.int 1), .val (.int 1), .val (.int 2), .val (.int (p1 &&& (255 : Int32))), .val (.int (p2 &&& (255 : Int32))), .unset, .unset, .unset, .unset] (hb hby at_47) rfl rfl ?_
  refine P.iloadN X0 hx 50 (hb hby at_49) rfl rfl ?_
  refine P.sipush X0 hx 53 255 (hb hby at_50) rfl rfl ?_
  refine P.iand X0 hx 54 (z := (p3 &&& (255 : Int32))) (hb hby at_53) rfl rfl ?_
  refine P.i2c X0 hx 55 (z := (p3 &&& (255 : Int32))) (hb hby at_54) (by rw [i2c_mask]) rfl ?_
  refine P.istore X0 hx 57 #[.val (.int p0), .val (.int p1), .val (.int p2), .val (.int p3), .val (.int 1), .val (.int 1), .val (.int 2), .val (.int (p1 &&& (255 : Int32))), .val (.int (p2 &&& (255 : Int32))), .val (.int (p3 &&& (255 : Int32))), .unset, .unset, .unset] (hb hby at_55) rfl rfl ?_
  refine P.iload X0 hx 59 (hb hby at_57) rfl rfl ?_
  refine P.ifYes X0 hx 69 (hb hby at_59) (by decide) (by decide) (by decide) ?_
  refine P.iload X0 hx 71 (hb hby at_69) rfl rfl ?_
  refine P.iconst X0 hx 72 1 (hb hby at_71) rfl rfl ?_
  refine P.icmpYes X0 hx 85 (hb hby at_72) (by decide) (by decide) (by decide) ?_
  refine P.iload X0 hx 87 (hb hby at_85) rfl rfl ?_
  refine P.iconst X0 hx 88 2 (hb hby at_87) rfl rfl ?_
  refine P.icmpNo X0 hx 91 (hb hby at_88) (by decide) rfl ?_
  refine X0.newO hx (w142 cx) (w2 cx) (w1 cx) (hb hby at_91) (nle rfl) (nle rfl) ?_
  intro T1 h1 a1 X1 E1 g1 A1 D1
  have ge2 : h.size ≤ a1 := Nat.le_trans K0.1 g1
  have K3 : Keep h h1 [] := K0.ext E1
  have D4 : Fld Z h1 a1 "java/lang/String" "value" "[B" .null := D1 (Or.inr (w4 cx)) (ty := (.array .byte)) (by decide)
  have D5 : Fld Z h1 a1 "java/lang/String" "coder" "B" (.int 0) := D1 (Or.inr (w5 cx)) (ty := .byte) (by decide)
  refine P.dup X1 hx 95 (hb hby at_94) rfl rfl ?_
  refine P.iconst X1 hx 96 2 (hb hby at_95) rfl rfl ?_
  refine X1.newP (aty := .char) hx (w143 cx) (hb hby at_96) (by decide) (cap := 2) (nle rfl) (nle rfl) (nle rfl) (nle rfl) ?_
  intro T6 h6 a6 k6 X6 E6 g6 A6
  have ge7 : h.size ≤ a6 := Nat.le_trans K3.1 g6
  have K8 : Keep h h6 [] := K3.ext E6
  have V9 : Arv Z h6 a6 k6 .char (2 : Int32) [(.int 0), (.int 0)] (.int 0) := Arv.pad A6 (pad_rep [] _ 2)
  refine P.dup X6 hx 99 (hb hby at_98) rfl rfl ?_
  refine P.iconst X6 hx 100 0 (hb hby at_99) rfl rfl ?_
  refine P.iload X6 hx 102 (hb hby at_100) rfl rfl ?_
  refine X6.stC hx V9 (j := (0 : Int32)) (x := (p1 &&& (255 : Int32))) (i := 0) (by decide) rfl (nlt rfl) (List.mem_of_getElem? (i := 0) rfl) (hb hby at_102) ?_
  intro T10 h10 X10 W10 G10
  have K11 : Keep h h10 [] := K8.wr W10 (Or.inr ge7)
  have V12 : Arv Z h10 a6 k6 .char (2 : Int32) [(.int (p1 &&& (255 : Int32))), (.int 0)] (.int 0) := by have q := G10; rw [nar255] at q; exact q
  refine P.dup X10 hx 104 (hb hby at_103) rfl rfl ?_
  refine P.iconst X10 hx 105 1 (hb hby at_104) rfl rfl ?_
  refine P.iload X10 hx 107 (hb hby at_105) rfl rfl ?_
  refine X10.stC hx V12 (j := (1 : Int32)) (x := (p2 &&& (255 : Int32))) (i := 1) (by decide) rfl (nlt rfl) (List.mem_of_getElem? (i := 0) rfl) (hb hby at_107) ?_
  intro T13 h13 X13 W13 G13
  have K14 : Keep h h13 [] := K11.wr W13 (Or.inr ge7)
  have V15 : Arv Z h13 a6 k6 .char (2 : Int32) [(.int (p1 &&& (255 : Int32))), (.int (p2 &&& (255 : Int32)))] (.int 0) := by have q := G13; rw [nar255] at q; exact q
  have F16 : Exa Z h13 a1 "java/lang/String" := (((A1.ext E6).wr W10).wr W13)
  have F17 : Fld Z h13 a1 "java/lang/String" "value" "[B" .null := (((D4.ext E6).other W10 (Or.inl (X13.ne (i := 1) (j := 0) rfl rfl (by decide)))).other W13 (Or.inl (X13.ne (i := 1) (j := 0) rfl rfl (by decide))))
  have F18 : Fld Z h13 a1 "java/lang/String" "coder" "B" (.int 0) := (((D5.ext E6).other W10 (Or.inl (X13.ne (i := 1) (j := 0) rfl rfl (by decide)))).other W13 (Or.inl (X13.ne (i := 1) (j := 0) rfl rfl (by decide))))
  refine X13.callC hx rfl (w144 cx) (w145 cx) (w146 cx) (by decide) (pay_new (W := 1) (hws cx) (w2 cx) (cs := [(p1 &&& (255 : Int32)), (p2 &&& (255 : Int32))]) (n := 2) (X13.ge (List.mem_of_getElem? (i := 1) rfl)) X13.n0le (List.mem_of_getElem? (i := 1) rfl) F16 F17 F18 V15 (X13.sta (S_C cx)) (N_C cx) rfl rfl (nle rfl) (nle rfl) (fcS (rng255 p1) (fcS (rng255 p2) fc0)) (nle rfl) (nle rfl)) (by rw [hml]; rfl) (argsL := [.ref a6]) (rest := [.ref a1]) (lenOf pd26 rfl) rfl rfl (Nat.le_of_eq rfl) (hb hby at_108) (nle rfl) (nle rfl) ?_
  rintro T19 h19 _ _ _ X19 ⟨a20, rfl, rfl, rfl, J19, G21⟩
  have K22 : Keep h h19 [] := K14.trans J19 (allS (Or.inr ge2) all0)
  refine P.astore X19 hx 113 #[.val (.int p0), .val (.int p1), .val (.int p2), .val (.int p3), .val (.int 1), .val (.int 1), .val (.int 2), .val (.int (p1 &&& (255 : Int32))), .val (.int (p2 &&& (255 : Int32))), .val (.int (p3 &&& (255 : Int32))), .val (.ref a1), .unset, .unset] (hb hby at_111) rfl rfl rfl ?_
  refine P.goto X19 hx 143 (hb hby at_113) (by decide) (by decide) ?_
  have X23 := WS.drop (A := [a6]) (B := WL) X19
  refine P.iload X23 hx 145 (hb hby at_143) rfl rfl ?_
  refine P.ifNo X23 hx 148 (hb hby at_145) (by decide) rfl ?_
  refine P.iload X23 hx 150 (hb hby at_148) rfl rfl ?_
  refine P.ifNo X23 hx 153 (hb hby at_150) (by decide) rfl ?_
  refine X23.ldc hx (w182 cx) (strAtoms cx) (by decide) (vs := [(.int 32), (.int 111), (.int 102), (.int 102), (.int 115), (.int 101), (.int 116), (.int 32), (.int 63), (.int 32), (.int 114), (.int 111), (.int 119), (.int 115), (.int 32), (.int 102), (.int 101), (.int 116), (.int 99), (.int 104), (.int 32), (.int 102), (.int 105), (.int 114), (.int 115), (.int 116), (.int 32), (.int 63), (.int 32), (.int 114), (.int 111), (.int 119), (.int 115), (.int 32), (.int 111), (.int 110), (.int 108), (.int 121)]) (z := (38 : Int32)) ⟨by decide, by decide⟩ (by decide) rfl (hb hby at_153) (n := 152) (nle rfl) (nle rfl) (nle rfl) (nle rfl) ?_
  intro T24 h24 a24 b24 k24 X24 E24 A24 C24 V24 B24
  have K25 : Keep h h24 [] := K22.ext E24
  refine P.astore X24 hx 157 #[.val (.int p0), .val (.int p1), .val (.int p2), .val (.int p3), .val (.int 1), .val (.int 1), .val (.int 2), .val (.int (p1 &&& (255 : Int32))), .val (.int (p2 &&& (255 : Int32))), .val (.int (p3 &&& (255 : Int32))), .val (.ref a1), .val (.ref a24), .unset] (hb hby at_155) rfl rfl rfl ?_
  refine P.goto X24 hx 183 (hb hby at_157) (by decide) (by decide) ?_
  have S26 : StrL Z h24 a24 b24 [(32 : Int32), 111, 102, 102, 115, 101, 116, 32, 63, 32, 114, 111, 119, 115, 32, 102, 101, 116, 99, 104, 32, 102, 105, 114, 115, 116, 32, 63, 32, 114, 111, 119, 115, 32, 111, 110, 108, 121] := ⟨A24, V24, C24, ⟨_, B24⟩, (by decide), nle rfl⟩
  refine P.aload X24 hx 185 (hb hby at_183) rfl rfl rfl ?_
  refine P.iload X24 hx 187 (hb hby at_185) rfl rfl ?_
  refine P.iload X24 hx 189 (hb hby at_187) rfl rfl ?_
  have F27 : StrL Z h24 a1 a20 [(p1 &&& (255 : Int32)), (p2 &&& (255 : Int32))] := (G21.ext E24)
  refine X24.callS hx (w8 cx) (w9 cx) (w10 cx) (w11 cx) (by decide) (Ct.pay (W := 0) (ct_pag11 cx a1 a20 ([(p1 &&& (255 : Int32)), (p2 &&& (255 : Int32))]) h24 _ _ F27 (List.mem_of_getElem? (i := 2) rfl) (List.mem_of_getElem? (i := 3) rfl) (nle rfl)) (w11 cx) (w10 cx) (nle rfl) (nle rfl)) (by rw [hml]; rfl) (argsL := [.ref a1, .int 1, .int 1]) (rest := []) (lenOf pd24 rfl) rfl rfl (Nat.le_of_eq rfl) (hb hby at_189) (nle rfl) (nle rfl) ?_
  rintro T28 h28 _ _ _ X28 ⟨a29, a30, rfl, rfl, rfl, J28, g32, G31⟩
  have ge33 : h.size ≤ a29 := Nat.le_trans K25.1 g32
  have K34 : Keep h h28 [] := K25.trans J28 all0
  have S35 : StrL Z h28 a29 a30 [(p1 &&& (255 : Int32)), (p2 &&& (255 : Int32)), 32, 111, 102, 102, 115, 101, 116, 32, 63, 32, 114, 111, 119, 115, 32, 102, 101, 116, 99, 104, 32, 102, 105, 114, 115, 116, 32, 63, 32, 114, 111, 119, 115, 32, 111, 110, 108, 121] := G31
  refine P.astore X28 hx 194 #[.val (.int p0), .val (.int p1), .val (.int p2), .val (.int p3), .val (.int 1), .val (.int 1), .val (.int 2), .val (.int (p1 &&& (255 : Int32))), .val (.int (p2 &&& (255 : Int32))), .val (.int (p3 &&& (255 : Int32))), .val (.ref a1), .val (.ref a24), .val (.ref a29)] (hb hby at_192) rfl rfl rfl ?_
  refine P.aload X28 hx 196 (hb hby at_194) rfl rfl rfl ?_
  refine P.ifnonnullYes X28 hx 201 (hb hby at_196) (by decide) (by decide) ?_
  refine P.aload X28 hx 203 (hb hby at_201) rfl rfl rfl ?_
  refine X28.callV hx (w134 cx) (w28 cx) (w30 cx) (w29 cx) (fun _ hZ => nf hZ (w30 cx)) (by decide) S35.1 (pay_len (W := 0) (hln cx) (w2 cx) S35 (X28.sta (S_C cx)) (N_C cx) (nle rfl) (nle rfl)) (by rw [hml]; rfl) (argsL := []) (rest := []) (lenOf pd7 rfl) rfl rfl (Nat.le_of_eq rfl) (hb hby at_203) (nle rfl) (nle rfl) ?_
  rintro T36 h36 _ _ _ X36 ⟨rfl, rfl, rfl, J36⟩
  rw [J36] at X36
  show Wo _ _ _ _ _ _ _ _ _ _ _ T36 (mkF m 206 #[.val (.int p0), .val (.int p1), .val (.int p2), .val (.int p3), .val (.int 1), .val (.int 1), .val (.int 2), .val (.int (p1 &&& (255 : Int32))), .val (.int (p2 &&& (255 : Int32))), .val (.int (p3 &&& (255 : Int32))), .val (.ref a1), .val (.ref a24), .val (.ref a29)] [.int 40])
  refine P.iload X36 hx 208 (hb hby at_206) rfl rfl ?_
  refine P.aload X36 hx 210 (hb hby at_208) rfl rfl rfl ?_
  have F37 : Exa Z h28 a24 "java/lang/String" := (S26.1.keep J28)
  have F38 : StrL Z h28 a24 b24 [(32 : Int32), 111, 102, 102, 115, 101, 116, 32, 63, 32, 114, 111, 119, 115, 32, 102, 101, 116, 99, 104, 32, 102, 105, 114, 115, 116, 32, 63, 32, 114, 111, 119, 115, 32, 111, 110, 108, 121] := (S26.keep J28 nin0 nin0)
  refine X36.callV hx (w134 cx) (w28 cx) (w30 cx) (w29 cx) (fun _ hZ => nf hZ (w30 cx)) (by decide) F37 (pay_len (W := 2) (hln cx) (w2 cx) F38 (X36.sta (S_C cx)) (N_C cx) (nle rfl) (nle rfl)) (by rw [hml]; rfl) (argsL := []) (rest := [.int 2, .int 40]) (lenOf pd7 rfl) rfl rfl (Nat.le_of_eq rfl) (hb hby at_210) (nle rfl) (nle rfl) ?_
  rintro T39 h39 _ _ _ X39 ⟨rfl, rfl, rfl, J39⟩
  rw [J39] at X39
  show Wo _ _ _ _ _ _ _ _ _ _ _ T39 (mkF m 213 #[.val (.int p0), .val (.int p1), .val (.int p2), .val (.int p3), .val (.int 1), .val (.int 1), .val (.int 2), .val (.int (p1 &&& (255 : Int32))), .val (.int (p2 &&& (255 : Int32))), .val (.int (p3 &&& (255 : Int32))), .val (.ref a1), .val (.ref a24), .val (.ref a29)] [.int 38, .int 2, .int 40])
  refine P.iadd X39 hx 214 (z := (40 : Int32)) (hb hby at_213) rfl rfl ?_
  refine P.icmpNo X39 hx 217 (hb hby at_214) (by decide) rfl ?_
  refine P.iload X39 hx 219 (hb hby at_217) rfl rfl ?_
  refine P.iconst X39 hx 220 1 (hb hby at_219) rfl rfl ?_
  refine P.icmpNo X39 hx 223 (hb hby at_220) (by decide) rfl ?_
  refine P.aload X39 hx 225 (hb hby at_223) rfl rfl rfl ?_
  refine P.iconst X39 hx 226 0 (hb hby at_225) rfl rfl ?_
  refine X39.callV hx (w160 cx) (w161 cx) (w163 cx) (w162 cx) (fun _ hZ => nf hZ (w163 cx)) (by decide) S35.1 (pay_chr (W := 0) (hch cx) (w2 cx) S35 (X39.sta (S_C cx)) (N_C cx) (X39.sta (S_F cx)) (R_F cx) (i := 0) (nlt rfl) rfl (nle rfl) (nle rfl)) (by rw [hml]; rfl) (argsL := [.int 0]) (rest := []) (lenOf pd22 rfl) rfl rfl (Nat.le_of_eq rfl) (hb hby at_226) (nle rfl) (nle rfl) ?_
  rintro T40 h40 _ _ _ X40 ⟨rfl, rfl, rfl, J40⟩
  rw [J40] at X40
  show Wo _ _ _ _ _ _ _ _ _ _ _ T40 (mkF m 229 #[.val (.int p0), .val (.int p1), .val (.int p2), .val (.int p3), .val (.int 1), .val (.int 1), .val (.int 2), .val (.int (p1 &&& (255 : Int32))), .val (.int (p2 &&& (255 : Int32))), .val (.int (p3 &&& (255 : Int32))), .val (.ref a1), .val (.ref a24), .val (.ref a29)] [.int (p1 &&& (255 : Int32))])
  refine P.iload X40 hx 231 (hb hby at_229) rfl rfl ?_
  refine P.icmpNo X40 hx 234 (hb hby at_231) (teq rfl).2 rfl ?_
  refine P.iload X40 hx 236 (hb hby at_234) rfl rfl ?_
  refine P.iconst X40 hx 237 2 (hb hby at_236) rfl rfl ?_
  refine P.icmpNo X40 hx 240 (hb hby at_237) (by decide) rfl ?_
  refine P.aload X40 hx 242 (hb hby at_240) rfl rfl rfl ?_
  refine P.iconst X40 hx 243 1 (hb hby at_242) rfl rfl ?_
  refine X40.callV hx (w160 cx) (w161 cx) (w163 cx) (w162 cx) (fun _ hZ => nf hZ (w163 cx)) (by decide) S35.1 (pay_chr (W := 0) (hch cx) (w2 cx) S35 (X40.sta (S_C cx)) (N_C cx) (X40.sta (S_F cx)) (R_F cx) (i := 1) (nlt rfl) rfl (nle rfl) (nle rfl)) (by rw [hml]; rfl) (argsL := [.int 1]) (rest := []) (lenOf pd22 rfl) rfl rfl (Nat.le_of_eq rfl) (hb hby at_243) (nle rfl) (nle rfl) ?_
  rintro T41 h41 _ _ _ X41 ⟨rfl, rfl, rfl, J41⟩
  rw [J41] at X41
  show Wo _ _ _ _ _ _ _ _ _ _ _ T41 (mkF m 246 #[.val (.int p0), .val (.int p1), .val (.int p2), .val (.int p3), .val (.int 1), .val (.int 1), .val (.int 2), .val (.int (p1 &&& (255 : Int32))), .val (.int (p2 &&& (255 : Int32))), .val (.int (p3 &&& (255 : Int32))), .val (.ref a1), .val (.ref a24), .val (.ref a29)] [.int (p2 &&& (255 : Int32))])
  refine P.iload X41 hx 248 (hb hby at_246) rfl rfl ?_
  refine P.icmpNo X41 hx 251 (hb hby at_248) (teq rfl).2 rfl ?_
  refine P.iload X41 hx 253 (hb hby at_251) rfl rfl ?_
  refine P.iconst X41 hx 254 3 (hb hby at_253) rfl rfl ?_
  refine P.icmpYes X41 hx 268 (hb hby at_254) (by decide) (by decide) (by decide) ?_
  refine P.aload X41 hx 270 (hb hby at_268) rfl rfl rfl ?_
  refine P.iload X41 hx 272 (hb hby at_270) rfl rfl ?_
  refine P.aload X41 hx 274 (hb hby at_272) rfl rfl rfl ?_
  refine P.iconst X41 hx 275 0 (hb hby at_274) rfl rfl ?_
  refine X41.callS hx (w135 cx) (w136 cx) (w137 cx) (w138 cx) (by decide) (Ct.pay (W := 0) (ct_quad cx a29 a30 a24 b24 ([(p1 &&& (255 : Int32)), (p2 &&& (255 : Int32))]) ([(32 : Int32), 111, 102, 102, 115, 101, 116, 32, 63, 32, 114, 111, 119, 115, 32, 102, 101, 116, 99, 104, 32, 102, 105, 114, 115, 116, 32, 63, 32, 114, 111, 119, 115, 32, 111, 110, 108, 121]) (2 : Int32) 0 (0 : Int32) h28 _ _ S35 F38 rfl rfl (nle rfl) (nle rfl)) (w138 cx) (w137 cx) (nle rfl) (nle rfl)) (by rw [hml]; rfl) (argsL := [.ref a29, .int 2, .ref a24, .int 0]) (rest := []) (lenOf pd23 rfl) rfl rfl (Nat.le_of_eq rfl) (hb hby at_275) (nle rfl) (nle rfl) ?_
  rintro T42 h42 _ _ _ X42 ⟨rfl, rfl, rfl, J42⟩
  rw [J42] at X42
  refine P.ifNo X42 hx 281 (hb hby at_278) (by decide) rfl ?_
  refine P.aload X42 hx 283 (hb hby at_281) rfl rfl rfl ?_
  refine P.iload X42 hx 285 (hb hby at_283) rfl rfl ?_
  refine P.aload X42 hx 287 (hb hby at_285) rfl rfl rfl ?_
  refine P.iconst X42 hx 288 4 (hb hby at_287) rfl rfl ?_
  refine X42.callS hx (w135 cx) (w136 cx) (w137 cx) (w138 cx) (by decide) (Ct.pay (W := 0) (ct_quad cx a29 a30 a24 b24 ([(p1 &&& (255 : Int32)), (p2 &&& (255 : Int32))]) ([(32 : Int32), 111, 102, 102, 115, 101, 116, 32, 63, 32, 114, 111, 119, 115, 32, 102, 101, 116, 99, 104, 32, 102, 105, 114, 115, 116, 32, 63, 32, 114, 111, 119, 115, 32, 111, 110, 108, 121]) (2 : Int32) 4 (4 : Int32) h28 _ _ S35 F38 rfl rfl (nle rfl) (nle rfl)) (w138 cx) (w137 cx) (nle rfl) (nle rfl)) (by rw [hml]; rfl) (argsL := [.ref a29, .int 2, .ref a24, .int 4]) (rest := []) (lenOf pd23 rfl) rfl rfl (Nat.le_of_eq rfl) (hb hby at_288) (nle rfl) (nle rfl) ?_
  rintro T43 h43 _ _ _ X43 ⟨rfl, rfl, rfl, J43⟩
  rw [J43] at X43
  refine P.ifNo X43 hx 294 (hb hby at_291) (by decide) rfl ?_
  refine P.aload X43 hx 296 (hb hby at_294) rfl rfl rfl ?_
  refine P.iload X43 hx 298 (hb hby at_296) rfl rfl ?_
  refine P.aload X43 hx 300 (hb hby at_298) rfl rfl rfl ?_
  refine P.bipush X43 hx 302 8 (hb hby at_300) rfl rfl ?_
  refine X43.callS hx (w135 cx) (w136 cx) (w137 cx) (w138 cx) (by decide) (Ct.pay (W := 0) (ct_quad cx a29 a30 a24 b24 ([(p1 &&& (255 : Int32)), (p2 &&& (255 : Int32))]) ([(32 : Int32), 111, 102, 102, 115, 101, 116, 32, 63, 32, 114, 111, 119, 115, 32, 102, 101, 116, 99, 104, 32, 102, 105, 114, 115, 116, 32, 63, 32, 114, 111, 119, 115, 32, 111, 110, 108, 121]) (2 : Int32) 8 (8 : Int32) h28 _ _ S35 F38 rfl rfl (nle rfl) (nle rfl)) (w138 cx) (w137 cx) (nle rfl) (nle rfl)) (by rw [hml]; rfl) (argsL := [.ref a29, .int 2, .ref a24, .int 8]) (rest := []) (lenOf pd23 rfl) rfl rfl (Nat.le_of_eq rfl) (hb hby at_302) (nle rfl) (nle rfl) ?_
  rintro T44 h44 _ _ _ X44 ⟨rfl, rfl, rfl, J44⟩
  rw [J44] at X44
  refine P.ifNo X44 hx 308 (hb hby at_305) (by decide) rfl ?_
  refine P.aload X44 hx 310 (hb hby at_308) rfl rfl rfl ?_
  refine P.iload X44 hx 312 (hb hby at_310) rfl rfl ?_
  refine P.aload X44 hx 314 (hb hby at_312) rfl rfl rfl ?_
  refine P.bipush X44 hx 316 12 (hb hby at_314) rfl rfl ?_
  refine X44.callS hx (w135 cx) (w136 cx) (w137 cx) (w138 cx) (by decide) (Ct.pay (W := 0) (ct_quad cx a29 a30 a24 b24 ([(p1 &&& (255 : Int32)), (p2 &&& (255 : Int32))]) ([(32 : Int32), 111, 102, 102, 115, 101, 116, 32, 63, 32, 114, 111, 119, 115, 32, 102, 101, 116, 99, 104, 32, 102, 105, 114, 115, 116, 32, 63, 32, 114, 111, 119, 115, 32, 111, 110, 108, 121]) (2 : Int32) 12 (12 : Int32) h28 _ _ S35 F38 rfl rfl (nle rfl) (nle rfl)) (w138 cx) (w137 cx) (nle rfl) (nle rfl)) (by rw [hml]; rfl) (argsL := [.ref a29, .int 2, .ref a24, .int 12]) (rest := []) (lenOf pd23 rfl) rfl rfl (Nat.le_of_eq rfl) (hb hby at_316) (nle rfl) (nle rfl) ?_
  rintro T45 h45 _ _ _ X45 ⟨rfl, rfl, rfl, J45⟩
  rw [J45] at X45
  refine P.ifNo X45 hx 322 (hb hby at_319) (by decide) rfl ?_
  refine P.aload X45 hx 324 (hb hby at_322) rfl rfl rfl ?_
  refine P.iload X45 hx 326 (hb hby at_324) rfl rfl ?_
  refine P.aload X45 hx 328 (hb hby at_326) rfl rfl rfl ?_
  refine P.bipush X45 hx 330 16 (hb hby at_328) rfl rfl ?_
  refine X45.callS hx (w135 cx) (w136 cx) (w137 cx) (w138 cx) (by decide) (Ct.pay (W := 0) (ct_quad cx a29 a30 a24 b24 ([(p1 &&& (255 : Int32)), (p2 &&& (255 : Int32))]) ([(32 : Int32), 111, 102, 102, 115, 101, 116, 32, 63, 32, 114, 111, 119, 115, 32, 102, 101, 116, 99, 104, 32, 102, 105, 114, 115, 116, 32, 63, 32, 114, 111, 119, 115, 32, 111, 110, 108, 121]) (2 : Int32) 16 (16 : Int32) h28 _ _ S35 F38 rfl rfl (nle rfl) (nle rfl)) (w138 cx) (w137 cx) (nle rfl) (nle rfl)) (by rw [hml]; rfl) (argsL := [.ref a29, .int 2, .ref a24, .int 16]) (rest := []) (lenOf pd23 rfl) rfl rfl (Nat.le_of_eq rfl) (hb hby at_330) (nle rfl) (nle rfl) ?_
  rintro T46 h46 _ _ _ X46 ⟨rfl, rfl, rfl, J46⟩
  rw [J46] at X46
  refine P.ifNo X46 hx 336 (hb hby at_333) (by decide) rfl ?_
  refine P.aload X46 hx 338 (hb hby at_336) rfl rfl rfl ?_
  refine P.iload X46 hx 340 (hb hby at_338) rfl rfl ?_
  refine P.aload X46 hx 342 (hb hby at_340) rfl rfl rfl ?_
  refine P.bipush X46 hx 344 20 (hb hby at_342) rfl rfl ?_
  refine X46.callS hx (w135 cx) (w136 cx) (w137 cx) (w138 cx) (by decide) (Ct.pay (W := 0) (ct_quad cx a29 a30 a24 b24 ([(p1 &&& (255 : Int32)), (p2 &&& (255 : Int32))]) ([(32 : Int32), 111, 102, 102, 115, 101, 116, 32, 63, 32, 114, 111, 119, 115, 32, 102, 101, 116, 99, 104, 32, 102, 105, 114, 115, 116, 32, 63, 32, 114, 111, 119, 115, 32, 111, 110, 108, 121]) (2 : Int32) 20 (20 : Int32) h28 _ _ S35 F38 rfl rfl (nle rfl) (nle rfl)) (w138 cx) (w137 cx) (nle rfl) (nle rfl)) (by rw [hml]; rfl) (argsL := [.ref a29, .int 2, .ref a24, .int 20]) (rest := []) (lenOf pd23 rfl) rfl rfl (Nat.le_of_eq rfl) (hb hby at_344) (nle rfl) (nle rfl) ?_
  rintro T47 h47 _ _ _ X47 ⟨rfl, rfl, rfl, J47⟩
  rw [J47] at X47
  refine P.ifNo X47 hx 350 (hb hby at_347) (by decide) rfl ?_
  refine P.aload X47 hx 352 (hb hby at_350) rfl rfl rfl ?_
  refine P.iload X47 hx 354 (hb hby at_352) rfl rfl ?_
  refine P.aload X47 hx 356 (hb hby at_354) rfl rfl rfl ?_
  refine P.bipush X47 hx 358 24 (hb hby at_356) rfl rfl ?_
  refine X47.callS hx (w135 cx) (w136 cx) (w137 cx) (w138 cx) (by decide) (Ct.pay (W := 0) (ct_quad cx a29 a30 a24 b24 ([(p1 &&& (255 : Int32)), (p2 &&& (255 : Int32))]) ([(32 : Int32), 111, 102, 102, 115, 101, 116, 32, 63, 32, 114, 111, 119, 115, 32, 102, 101, 116, 99, 104, 32, 102, 105, 114, 115, 116, 32, 63, 32, 114, 111, 119, 115, 32, 111, 110, 108, 121]) (2 : Int32) 24 (24 : Int32) h28 _ _ S35 F38 rfl rfl (nle rfl) (nle rfl)) (w138 cx) (w137 cx) (nle rfl) (nle rfl)) (by rw [hml]; rfl) (argsL := [.ref a29, .int 2, .ref a24, .int 24]) (rest := []) (lenOf pd23 rfl) rfl rfl (Nat.le_of_eq rfl) (hb hby at_358) (nle rfl) (nle rfl) ?_
  rintro T48 h48 _ _ _ X48 ⟨rfl, rfl, rfl, J48⟩
  rw [J48] at X48
  refine P.ifNo X48 hx 364 (hb hby at_361) (by decide) rfl ?_
  refine P.aload X48 hx 366 (hb hby at_364) rfl rfl rfl ?_
  refine P.iload X48 hx 368 (hb hby at_366) rfl rfl ?_
  refine P.aload X48 hx 370 (hb hby at_368) rfl rfl rfl ?_
  refine P.bipush X48 hx 372 28 (hb hby at_370) rfl rfl ?_
  refine X48.callS hx (w135 cx) (w136 cx) (w137 cx) (w138 cx) (by decide) (Ct.pay (W := 0) (ct_quad cx a29 a30 a24 b24 ([(p1 &&& (255 : Int32)), (p2 &&& (255 : Int32))]) ([(32 : Int32), 111, 102, 102, 115, 101, 116, 32, 63, 32, 114, 111, 119, 115, 32, 102, 101, 116, 99, 104, 32, 102, 105, 114, 115, 116, 32, 63, 32, 114, 111, 119, 115, 32, 111, 110, 108, 121]) (2 : Int32) 28 (28 : Int32) h28 _ _ S35 F38 rfl rfl (nle rfl) (nle rfl)) (w138 cx) (w137 cx) (nle rfl) (nle rfl)) (by rw [hml]; rfl) (argsL := [.ref a29, .int 2, .ref a24, .int 28]) (rest := []) (lenOf pd23 rfl) rfl rfl (Nat.le_of_eq rfl) (hb hby at_372) (nle rfl) (nle rfl) ?_
  rintro T49 h49 _ _ _ X49 ⟨rfl, rfl, rfl, J49⟩
  rw [J49] at X49
  refine P.ifNo X49 hx 378 (hb hby at_375) (by decide) rfl ?_
  refine P.aload X49 hx 380 (hb hby at_378) rfl rfl rfl ?_
  refine P.iload X49 hx 382 (hb hby at_380) rfl rfl ?_
  refine P.aload X49 hx 384 (hb hby at_382) rfl rfl rfl ?_
  refine P.bipush X49 hx 386 32 (hb hby at_384) rfl rfl ?_
  refine X49.callS hx (w135 cx) (w136 cx) (w137 cx) (w138 cx) (by decide) (Ct.pay (W := 0) (ct_quad cx a29 a30 a24 b24 ([(p1 &&& (255 : Int32)), (p2 &&& (255 : Int32))]) ([(32 : Int32), 111, 102, 102, 115, 101, 116, 32, 63, 32, 114, 111, 119, 115, 32, 102, 101, 116, 99, 104, 32, 102, 105, 114, 115, 116, 32, 63, 32, 114, 111, 119, 115, 32, 111, 110, 108, 121]) (2 : Int32) 32 (32 : Int32) h28 _ _ S35 F38 rfl rfl (nle rfl) (nle rfl)) (w138 cx) (w137 cx) (nle rfl) (nle rfl)) (by rw [hml]; rfl) (argsL := [.ref a29, .int 2, .ref a24, .int 32]) (rest := []) (lenOf pd23 rfl) rfl rfl (Nat.le_of_eq rfl) (hb hby at_386) (nle rfl) (nle rfl) ?_
  rintro T50 h50 _ _ _ X50 ⟨rfl, rfl, rfl, J50⟩
  rw [J50] at X50
  refine P.ifNo X50 hx 392 (hb hby at_389) (by decide) rfl ?_
  refine P.aload X50 hx 394 (hb hby at_392) rfl rfl rfl ?_
  refine P.iload X50 hx 396 (hb hby at_394) rfl rfl ?_
  refine P.aload X50 hx 398 (hb hby at_396) rfl rfl rfl ?_
  refine P.bipush X50 hx 400 36 (hb hby at_398) rfl rfl ?_
  refine X50.callS hx (w135 cx) (w136 cx) (w137 cx) (w138 cx) (by decide) (Ct.pay (W := 0) (ct_quad cx a29 a30 a24 b24 ([(p1 &&& (255 : Int32)), (p2 &&& (255 : Int32))]) ([(32 : Int32), 111, 102, 102, 115, 101, 116, 32, 63, 32, 114, 111, 119, 115, 32, 102, 101, 116, 99, 104, 32, 102, 105, 114, 115, 116, 32, 63, 32, 114, 111, 119, 115, 32, 111, 110, 108, 121]) (2 : Int32) 36 (36 : Int32) h28 _ _ S35 F38 rfl rfl (nle rfl) (nle rfl)) (w138 cx) (w137 cx) (nle rfl) (nle rfl)) (by rw [hml]; rfl) (argsL := [.ref a29, .int 2, .ref a24, .int 36]) (rest := []) (lenOf pd23 rfl) rfl rfl (Nat.le_of_eq rfl) (hb hby at_400) (nle rfl) (nle rfl) ?_
  rintro T51 h51 _ _ _ X51 ⟨rfl, rfl, rfl, J51⟩
  rw [J51] at X51
  refine P.ifNo X51 hx 406 (hb hby at_403) (by decide) rfl ?_
  refine P.iconst X51 hx 407 1 (hb hby at_406) rfl rfl ?_
  refine P.goto X51 hx 411 (hb hby at_407) (by decide) (by decide) ?_
  have X52 := WS.drop (A := []) (B := (a6 :: WL)) X51
  have X53 := WS.drop (A := []) (B := WL) X52
  have X54 := WS.fl (FL2 := FL) X53 (fun y hy => (List.mem_append_right [a6, a29, a30, a24, b24, a1, a20] hy))
  exact WS.retN X54 (WL' := []) (FL' := []) hx (t := .boolean) hret (by simp) hlk (hb hby at_411) (nle rfl) (nle rfl) ⟨rfl, rfl, rfl, K34⟩
set_option maxRecDepth 65536 in
set_option maxHeartbeats 4000000 in
theorem ct_law_300 {l : Launch} {Z : State} {a0 : Array Value} {gC : Int32} {gF : Value} (cx : Cx a0 Z gC gF) {n0 : Nat} (p0 : Int32) (p1 : Int32) (p2 : Int32) (p3 : Int32) (h : Heap) (WL FL : List Addr)  (en : (((p0.toUInt32 >>> ((2 : Int32) &&& 31).toUInt32).toInt32) &&& (3 : Int32)) = (3 : Int32)) (es : (p0 &&& (1 : Int32)) = (0 : Int32)) (el : (p0 &&& (2 : Int32)) = (0 : Int32)) :
    Ct l Z EL1 n0 x code maxLocals ret room_1 #[(.int p0), (.int p1), (.int p2), (.int p3)] h WL FL (Q_law Z gC gF p0 p1 p2 p3 h) := by
  refine Ct.of (plainFor_of_name pn7) ?_
  intro p e s m below meth c s1 hx hby hml hnm hret hlk X0
  refine Wo.cast (f' := (mkF m 0 #[.val (.int p0), .val (.int p1), .val (.int p2), .val (.int p3), .unset, .unset, .unset, .unset, .unset, .unset, .unset, .unset, .unset] [])) (by first | rfl | (simp [entryFrame, mkF, argsToLocals, Value.category]; done)) ?_
  have K0 : Keep h h [] := Keep.refl _ _
  show Wo _ _ _ _ _ _ _ _ _ _ _ s1 (mkF m 0 #[.val (.int p0), .val (.int p1), .val (.int p2), .val (.int p3), .unset, .unset, .unset, .unset, .unset, .unset, .unset, .unset, .unset] [])
  refine P.iloadN X0 hx 1 (hb hby at_0) rfl rfl ?_
  refine P.iconst X0 hx 2 1 (hb hby at_1) rfl rfl ?_
  refine P.iand X0 hx 3 (z := (p0 &&& (1 : Int32))) (hb hby at_2) rfl rfl ?_
  refine P.ifYes X0 hx 10 (hb hby at_3) ((if0 _ _).trans (teq es).1) (by decide) (by decide) ?_
  refine P.iconst X0 hx 11 0 (hb hby at_10) rfl rfl ?_
  refine P.istore X0 hx 13 #[.val (.int p0), .val (.int p1), .val (.int p2), .val (.int p3), .val (.int 0), .unset, .unset, .unset, .unset, .unset, .unset, .unset, .unset] (hb hby at_11) rfl rfl ?_
  refine P.iloadN X0 hx 14 (hb hby at_13) rfl rfl ?_
  refine P.iconst X0 hx 15 2 (hb hby at_14) rfl rfl ?_
  refine P.iand X0 hx 16 (z := (p0 &&& (2 : Int32))) (hb hby at_15) rfl rfl ?_
  refine P.ifYes X0 hx 23 (hb hby at_16) ((if0 _ _).trans (teq el).1) (by decide) (by decide) ?_
  refine P.iconst X0 hx 24 0 (hb hby at_23) rfl rfl ?_
  refine P.istore X0 hx 26 #[.val (.int p0), .val (.int p1), .val (.int p2), .val (.int p3), .val (.int 0), .val (.int 0), .unset, .unset, .unset, .unset, .unset, .unset, .unset] (hb hby at_24) rfl rfl ?_
  refine P.iloadN X0 hx 27 (hb hby at_26) rfl rfl ?_
  refine P.iconst X0 hx 28 2 (hb hby at_27) rfl rfl ?_
  refine P.iushr X0 hx 29 (z := ((p0.toUInt32 >>> ((2 : Int32) &&& 31).toUInt32).toInt32)) (hb hby at_28) rfl rfl ?_
  refine P.iconst X0 hx 30 3 (hb hby at_29) rfl rfl ?_
  refine P.iand X0 hx 31 (z := (3 : Int32)) (hb hby at_30) (by rw [en]) rfl ?_
  refine P.istore X0 hx 33 #[.val (.int p0), .val (.int p1), .val (.int p2), .val (.int p3), .val (.int 0), .val (.int 0), .val (.int 3), .unset, .unset, .unset, .unset, .unset, .unset] (hb hby at_31) rfl rfl ?_
  refine P.iloadN X0 hx 34 (hb hby at_33) rfl rfl ?_
  refine P.sipush X0 hx 37 255 (hb hby at_34) rfl rfl ?_
  refine P.iand X0 hx 38 (z := (p1 &&& (255 : Int32))) (hb hby at_37) rfl rfl ?_
  refine P.i2c X0 hx 39 (z := (p1 &&& (255 : Int32))) (hb hby at_38) (by rw [i2c_mask]) rfl ?_
  refine P.istore X0 hx 41 #[.val (.int p0), .val (.int p1), .val (.int p2), .val (.int p3), .val (.int 0), .val (.int 0), .val (.int 3), .val (.int (p1 &&& (255 : Int32))), .unset, .unset, .unset, .unset, .unset] (hb hby at_39) rfl rfl ?_
  refine P.iloadN X0 hx 42 (hb hby at_41) rfl rfl ?_
  refine P.sipush X0 hx 45 255 (hb hby at_42) rfl rfl ?_
  refine P.iand X0 hx 46 (z := (p2 &&& (255 : Int32))) (hb hby at_45) rfl rfl ?_
  refine P.i2c X0 hx 47 (z := (p2 &&& (255 : Int32))) (hb hby at_46) (by rw [i2c_mask]) rfl ?_
  refine P.istore X0 hx 49 #[.val (.int p0), .val (.int p1), .val (.int p2), .val (.int p3), .val (.int 0), .val (.int 0), .val (.int 3), .val (.int (p1 &&& (255 : Int32))), .val (.int (p2 &&& (255 : Int32))), .unset, .unset, .unset, .unset] (hb hby at_47) rfl rfl ?_
  refine P.iloadN X0 hx 50 (hb hby at_49) rfl rfl ?_
  refine P.sipush X0 hx 53 255 (hb hby at_50) rfl rfl ?_
  refine P.iand X0 hx 54 (z := (p3 &&& (255 : Int32))) (hb hby at_53) rfl rfl ?_
  refine P.i2c X0 hx 55 (z := (p3 &&& (255 : Int32))) (hb hby at_54) (by rw [i2c_mask]) rfl ?_
  refine P.istore X0 hx 57 #[.val (.int p0), .val (.int p1), .val (.int p2), .val (.int p3), .val (.int 0), .val (.int 0), .val (.int 3), .val (.int (p1 &&& (255 : Int32))), .val (.int (p2 &&& (255 : Int32))), .val (.int (p3 &&& (255 : Int32))), .unset, .unset, .unset] (hb hby at_55) rfl rfl ?_
  refine P.iload X0 hx 59 (hb hby at_57) rfl rfl ?_
  refine P.ifYes X0 hx 69 (hb hby at_59) (by decide) (by decide) (by decide) ?_
  refine P.iload X0 hx 71 (hb hby at_69) rfl rfl ?_
  refine P.iconst X0 hx 72 1 (hb hby at_71) rfl rfl ?_
  refine P.icmpYes X0 hx 85 (hb hby at_72) (by decide) (by decide) (by decide) ?_
  refine P.iload X0 hx 87 (hb hby at_85) rfl rfl ?_
  refine P.iconst X0 hx 88 2 (hb hby at_87) rfl rfl ?_
  refine P.icmpYes X0 hx 116 (hb hby at_88) (by decide) (by decide) (by decide) ?_
  refine X0.newO hx (w142 cx) (w2 cx) (w1 cx) (hb hby at_116) (nle rfl) (nle rfl) ?_
  intro T1 h1 a1 X1 E1 g1 A1 D1
  have ge2 : h.size ≤ a1 := Nat.le_trans K0.1 g1
  have K3 : Keep h h1 [] := K0.ext E1
  have D4 : Fld Z h1 a1 "java/lang/String" "value" "[B" .null := D1 (Or.inr (w4 cx)) (ty := (.array .byte)) (by decide)
  have D5 : Fld Z h1 a1 "java/lang/String" "coder" "B" (.int 0) := D1 (Or.inr (w5 cx)) (ty := .byte) (by decide)
  refine P.dup X1 hx 120 (hb hby at_119) rfl rfl ?_
  refine P.iconst X1 hx 121 3 (hb hby at_120) rfl rfl ?_
  refine X1.newP (aty := .char) hx (w143 cx) (hb hby at_121) (by decide) (cap := 3) (nle rfl) (nle rfl) (nle rfl) (nle rfl) ?_
  intro T6 h6 a6 k6 X6 E6 g6 A6
  have ge7 : h.size ≤ a6 := Nat.le_trans K3.1 g6
  have K8 : Keep h h6 [] := K3.ext E6
  have V9 : Arv Z h6 a6 k6 .char (3 : Int32) [(.int 0), (.int 0), (.int 0)] (.int 0) := Arv.pad A6 (pad_rep [] _ 3)
  refine P.dup X6 hx 124 (hb hby at_123) rfl rfl ?_
  refine P.iconst X6 hx 125 0 (hb hby at_124) rfl rfl ?_
  refine P.iload X6 hx 127 (hb hby at_125) rfl rfl ?_
  refine X6.stC hx V9 (j := (0 : Int32)) (x := (p1 &&& (255 : Int32))) (i := 0) (by decide) rfl (nlt rfl) (List.mem_of_getElem? (i := 0) rfl) (hb hby at_127) ?_
  intro T10 h10 X10 W10 G10
  have K11 : Keep h h10 [] := K8.wr W10 (Or.inr ge7)
  have V12 : Arv Z h10 a6 k6 .char (3 : Int32) [(.int (p1 &&& (255 : Int32))), (.int 0), (.int 0)] (.int 0) := by have q := G10; rw [nar255] at q; exact q
  refine P.dup X10 hx 129 (hb hby at_128) rfl rfl ?_
  refine P.iconst X10 hx 130 1 (hb hby at_129) rfl rfl ?_
  refine P.iload X10 hx 132 (hb hby at_130) rfl rfl ?_
  refine X10.stC hx V12 (j := (1 : Int32)) (x := (p2 &&& (255 : Int32))) (i := 1) (by decide) rfl (nlt rfl) (List.mem_of_getElem? (i := 0) rfl) (hb hby at_132) ?_
  intro T13 h13 X13 W13 G13
  have K14 : Keep h h13 [] := K11.wr W13 (Or.inr ge7)
  have V15 : Arv Z h13 a6 k6 .char (3 : Int32) [(.int (p1 &&& (255 : Int32))), (.int (p2 &&& (255 : Int32))), (.int 0)] (.int 0) := by have q := G13; rw [nar255] at q; exact q
  refine P.dup X13 hx 134 (hb hby at_133) rfl rfl ?_
  refine P.iconst X13 hx 135 2 (hb hby at_134) rfl rfl ?_
  refine P.iload X13 hx 137 (hb hby at_135) rfl rfl ?_
  refine X13.stC hx V15 (j := (2 : Int32)) (x := (p3 &&& (255 : Int32))) (i := 2) (by decide) rfl (nlt rfl) (List.mem_of_getElem? (i := 0) rfl) (hb hby at_137) ?_
  intro T16 h16 X16 W16 G16
  have K17 : Keep h h16 [] := K14.wr W16 (Or.inr ge7)
  have V18 : Arv Z h16 a6 k6 .char (3 : Int32) [(.int (p1 &&& (255 : Int32))), (.int (p2 &&& (255 : Int32))), (.int (p3 &&& (255 : Int32)))] (.int 0) := by have q := G16; rw [nar255] at q; exact q
  have F19 : Exa Z h16 a1 "java/lang/String" := ((((A1.ext E6).wr W10).wr W13).wr W16)
  have F20 : Fld Z h16 a1 "java/lang/String" "value" "[B" .null := ((((D4.ext E6).other W10 (Or.inl (X16.ne (i := 1) (j := 0) rfl rfl (by decide)))).other W13 (Or.inl (X16.ne (i := 1) (j := 0) rfl rfl (by decide)))).other W16 (Or.inl (X16.ne (i := 1) (j := 0) rfl rfl (by decide))))
  have F21 : Fld Z h16 a1 "java/lang/String" "coder" "B" (.int 0) := ((((D5.ext E6).other W10 (Or.inl (X16.ne (i := 1) (j := 0) rfl rfl (by decide)))).other W13 (Or.inl (X16.ne (i := 1) (j := 0) rfl rfl (by decide)))).other W16 (Or.inl (X16.ne (i := 1) (j := 0) rfl rfl (by decide))))
  refine X16.callC hx rfl (w144 cx) (w145 cx) (w146 cx) (by decide) (pay_new (W := 1) (hws cx) (w2 cx) (cs := [(p1 &&& (255 : Int32)), (p2 &&& (255 : Int32)), (p3 &&& (255 : Int32))]) (n := 3) (X16.ge (List.mem_of_getElem? (i := 1) rfl)) X16.n0le (List.mem_of_getElem? (i := 1) rfl) F19 F20 F21 V18 (X16.sta (S_C cx)) (N_C cx) rfl rfl (nle rfl) (nle rfl) (fcS (rng255 p1) (fcS (rng255 p2) (fcS (rng255 p3) fc0))) (nle rfl) (nle rfl)) (by rw [hml]; rfl) (argsL := [.ref a6]) (rest := [.ref a1]) (lenOf pd26 rfl) rfl rfl (Nat.le_of_eq rfl) (hb hby at_138) (nle rfl) (nle rfl) ?_
  rintro T22 h22 _ _ _ X22 ⟨a23, rfl, rfl, rfl, J22, G24⟩
  have K25 : Keep h h22 [] := K17.trans J22 (allS (Or.inr ge2) all0)
  refine P.astore X22 hx 143 #[.val (.int p0), .val (.int p1), .val (.int p2), .val (.int p3), .val (.int 0), .val (.int 0), .val (.int 3), .val (.int (p1 &&& (255 : Int32))), .val (.int (p2 &&& (255 : Int32))), .val (.int (p3 &&& (255 : Int32))), .val (.ref a1), .unset, .unset] (hb hby at_141) rfl rfl rfl ?_
  have X26 := WS.drop (A := [a6]) (B := WL) X22
  refine P.iload X26 hx 145 (hb hby at_143) rfl rfl ?_
  refine P.ifYes X26 hx 167 (hb hby at_145) (by decide) (by decide) (by decide) ?_
  refine P.iload X26 hx 169 (hb hby at_167) rfl rfl ?_
  refine P.ifYes X26 hx 179 (hb hby at_169) (by decide) (by decide) (by decide) ?_
  refine X26.ldc hx (w0 cx) (strAtoms cx) (by decide) (vs := []) (z := (0 : Int32)) ⟨by decide, by decide⟩ (by decide) rfl (hb hby at_179) (n := 0) (nle rfl) (nle rfl) (nle rfl) (nle rfl) ?_
  intro T27 h27 a27 b27 k27 X27 E27 A27 C27 V27 B27
  have K28 : Keep h h27 [] := K25.ext E27
  refine P.astore X27 hx 183 #[.val (.int p0), .val (.int p1), .val (.int p2), .val (.int p3), .val (.int 0), .val (.int 0), .val (.int 3), .val (.int (p1 &&& (255 : Int32))), .val (.int (p2 &&& (255 : Int32))), .val (.int (p3 &&& (255 : Int32))), .val (.ref a1), .val (.ref a27), .unset] (hb hby at_181) rfl rfl rfl ?_
  have S29 : StrL Z h27 a27 b27 [] := ⟨A27, V27, C27, ⟨_, B27⟩, (by decide), nle rfl⟩
  refine P.aload X27 hx 185 (hb hby at_183) rfl rfl rfl ?_
  refine P.iload X27 hx 187 (hb hby at_185) rfl rfl ?_
  refine P.iload X27 hx 189 (hb hby at_187) rfl rfl ?_
  have F30 : StrL Z h27 a1 a23 [(p1 &&& (255 : Int32)), (p2 &&& (255 : Int32)), (p3 &&& (255 : Int32))] := (G24.ext E27)
  refine X27.callS hx (w8 cx) (w9 cx) (w10 cx) (w11 cx) (by decide) (Ct.pay (W := 0) (ct_pag00 cx a1 a23 ([(p1 &&& (255 : Int32)), (p2 &&& (255 : Int32)), (p3 &&& (255 : Int32))]) h27 _ _ F30 (List.mem_of_getElem? (i := 2) rfl) (List.mem_of_getElem? (i := 3) rfl) (nle rfl)) (w11 cx) (w10 cx) (nle rfl) (nle rfl)) (by rw [hml]; rfl) (argsL := [.ref a1, .int 0, .int 0]) (rest := []) (lenOf pd24 rfl) rfl rfl (Nat.le_of_eq rfl) (hb hby at_189) (nle rfl) (nle rfl) ?_
  rintro T31 h31 _ _ _ X31 ⟨a32, a33, rfl, rfl, rfl, J31, g35, G34⟩
  have ge36 : h.size ≤ a32 := Nat.le_trans K28.1 g35
  have K37 : Keep h h31 [] := K28.trans J31 all0
  have S38 : StrL Z h31 a32 a33 [(p1 &&& (255 : Int32)), (p2 &&& (255 : Int32)), (p3 &&& (255 : Int32))] := G34
  refine P.astore X31 hx 194 #[.val (.int p0), .val (.int p1), .val (.int p2), .val (.int p3), .val (.int 0), .val (.int 0), .val (.int 3), .val (.int (p1 &&& (255 : Int32))), .val (.int (p2 &&& (255 : Int32))), .val (.int (p3 &&& (255 : Int32))), .val (.ref a1), .val (.ref a27), .val (.ref a32)] (hb hby at_192) rfl rfl rfl ?_
  refine P.aload X31 hx 196 (hb hby at_194) rfl rfl rfl ?_
  refine P.ifnonnullYes X31 hx 201 (hb hby at_196) (by decide) (by decide) ?_
  refine P.aload X31 hx 203 (hb hby at_201) rfl rfl rfl ?_
  refine X31.callV hx (w134 cx) (w28 cx) (w30 cx) (w29 cx) (fun _ hZ => nf hZ (w30 cx)) (by decide) S38.1 (pay_len (W := 0) (hln cx) (w2 cx) S38 (X31.sta (S_C cx)) (N_C cx) (nle rfl) (nle rfl)) (by rw [hml]; rfl) (argsL := []) (rest := []) (lenOf pd7 rfl) rfl rfl (Nat.le_of_eq rfl) (hb hby at_203) (nle rfl) (nle rfl) ?_
  rintro T39 h39 _ _ _ X39 ⟨rfl, rfl, rfl, J39⟩
  rw [J39] at X39
  show Wo _ _ _ _ _ _ _ _ _ _ _ T39 (mkF m 206 #[.val (.int p0), .val (.int p1), .val (.int p2), .val (.int p3), .val (.int 0), .val (.int 0), .val (.int 3), .val (.int (p1 &&& (255 : Int32))), .val (.int (p2 &&& (255 : Int32))), .val (.int (p3 &&& (255 : Int32))), .val (.ref a1), .val (.ref a27), .val (.ref a32)] [.int 3])
  refine P.iload X39 hx 208 (hb hby at_206) rfl rfl ?_
  refine P.aload X39 hx 210 (hb hby at_208) rfl rfl rfl ?_
  have F40 : Exa Z h31 a27 "java/lang/String" := (S29.1.keep J31)
  have F41 : StrL Z h31 a27 b27 [] := (S29.keep J31 nin0 nin0)
  refine X39.callV hx (w134 cx) (w28 cx) (w30 cx) (w29 cx) (fun _ hZ => nf hZ (w30 cx)) (by decide) F40 (pay_len (W := 2) (hln cx) (w2 cx) F41 (X39.sta (S_C cx)) (N_C cx) (nle rfl) (nle rfl)) (by rw [hml]; rfl) (argsL := []) (rest := [.int 3, .int 3]) (lenOf pd7 rfl) rfl rfl (Nat.le_of_eq rfl) (hb hby at_210) (nle rfl) (nle rfl) ?_
  rintro T42 h42 _ _ _ X42 ⟨rfl, rfl, rfl, J42⟩
  rw [J42] at X42
  show Wo _ _ _ _ _ _ _ _ _ _ _ T42 (mkF m 213 #[.val (.int p0), .val (.int p1), .val (.int p2), .val (.int p3), .val (.int 0), .val (.int 0), .val (.int 3), .val (.int (p1 &&& (255 : Int32))), .val (.int (p2 &&& (255 : Int32))), .val (.int (p3 &&& (255 : Int32))), .val (.ref a1), .val (.ref a27), .val (.ref a32)] [.int 0, .int 3, .int 3])
  refine P.iadd X42 hx 214 (z := (3 : Int32)) (hb hby at_213) rfl rfl ?_
  refine P.icmpNo X42 hx 217 (hb hby at_214) (by decide) rfl ?_
  refine P.iload X42 hx 219 (hb hby at_217) rfl rfl ?_
  refine P.iconst X42 hx 220 1 (hb hby at_219) rfl rfl ?_
  refine P.icmpNo X42 hx 223 (hb hby at_220) (by decide) rfl ?_
  refine P.aload X42 hx 225 (hb hby at_223) rfl rfl rfl ?_
  refine P.iconst X42 hx 226 0 (hb hby at_225) rfl rfl ?_
  refine X42.callV hx (w160 cx) (w161 cx) (w163 cx) (w162 cx) (fun _ hZ => nf hZ (w163 cx)) (by decide) S38.1 (pay_chr (W := 0) (hch cx) (w2 cx) S38 (X42.sta (S_C cx)) (N_C cx) (X42.sta (S_F cx)) (R_F cx) (i := 0) (nlt rfl) rfl (nle rfl) (nle rfl)) (by rw [hml]; rfl) (argsL := [.int 0]) (rest := []) (lenOf pd22 rfl) rfl rfl (Nat.le_of_eq rfl) (hb hby at_226) (nle rfl) (nle rfl) ?_
  rintro T43 h43 _ _ _ X43 ⟨rfl, rfl, rfl, J43⟩
  rw [J43] at X43
  show Wo _ _ _ _ _ _ _ _ _ _ _ T43 (mkF m 229 #[.val (.int p0), .val (.int p1), .val (.int p2), .val (.int p3), .val (.int 0), .val (.int 0), .val (.int 3), .val (.int (p1 &&& (255 : Int32))), .val (.int (p2 &&& (255 : Int32))), .val (.int (p3 &&& (255 : Int32))), .val (.ref a1), .val (.ref a27), .val (.ref a32)] [.int (p1 &&& (255 : Int32))])
  refine P.iload X43 hx 231 (hb hby at_229) rfl rfl ?_
  refine P.icmpNo X43 hx 234 (hb hby at_231) (teq rfl).2 rfl ?_
  refine P.iload X43 hx 236 (hb hby at_234) rfl rfl ?_
  refine P.iconst X43 hx 237 2 (hb hby at_236) rfl rfl ?_
  refine P.icmpNo X43 hx 240 (hb hby at_237) (by decide) rfl ?_
  refine P.aload X43 hx 242 (hb hby at_240) rfl rfl rfl ?_
  refine P.iconst X43 hx 243 1 (hb hby at_242) rfl rfl ?_
  refine X43.callV hx (w160 cx) (w161 cx) (w163 cx) (w162 cx) (fun _ hZ => nf hZ (w163 cx)) (by decide) S38.1 (pay_chr (W := 0) (hch cx) (w2 cx) S38 (X43.sta (S_C cx)) (N_C cx) (X43.sta (S_F cx)) (R_F cx) (i := 1) (nlt rfl) rfl (nle rfl) (nle rfl)) (by rw [hml]; rfl) (argsL := [.int 1]) (rest := []) (lenOf pd22 rfl) rfl rfl (Nat.le_of_eq rfl) (hb hby at_243) (nle rfl) (nle rfl) ?_
  rintro T44 h44 _ _ _ X44 ⟨rfl, rfl, rfl, J44⟩
  rw [J44] at X44
  show Wo _ _ _ _ _ _ _ _ _ _ _ T44 (mkF m 246 #[.val (.int p0), .val (.int p1), .val (.int p2), .val (.int p3), .val (.int 0), .val (.int 0), .val (.int 3), .val (.int (p1 &&& (255 : Int32))), .val (.int (p2 &&& (255 : Int32))), .val (.int (p3 &&& (255 : Int32))), .val (.ref a1), .val (.ref a27), .val (.ref a32)] [.int (p2 &&& (255 : Int32))])
  refine P.iload X44 hx 248 (hb hby at_246) rfl rfl ?_
  refine P.icmpNo X44 hx 251 (hb hby at_248) (teq rfl).2 rfl ?_
  refine P.iload X44 hx 253 (hb hby at_251) rfl rfl ?_
  refine P.iconst X44 hx 254 3 (hb hby at_253) rfl rfl ?_
  refine P.icmpNo X44 hx 257 (hb hby at_254) (by decide) rfl ?_
  refine P.aload X44 hx 259 (hb hby at_257) rfl rfl rfl ?_
  refine P.iconst X44 hx 260 2 (hb hby at_259) rfl rfl ?_
  refine X44.callV hx (w160 cx) (w161 cx) (w163 cx) (w162 cx) (fun _ hZ => nf hZ (w163 cx)) (by decide) S38.1 (pay_chr (W := 0) (hch cx) (w2 cx) S38 (X44.sta (S_C cx)) (N_C cx) (X44.sta (S_F cx)) (R_F cx) (i := 2) (nlt rfl) rfl (nle rfl) (nle rfl)) (by rw [hml]; rfl) (argsL := [.int 2]) (rest := []) (lenOf pd22 rfl) rfl rfl (Nat.le_of_eq rfl) (hb hby at_260) (nle rfl) (nle rfl) ?_
  rintro T45 h45 _ _ _ X45 ⟨rfl, rfl, rfl, J45⟩
  rw [J45] at X45
  show Wo _ _ _ _ _ _ _ _ _ _ _ T45 (mkF m 263 #[.val (.int p0), .val (.int p1), .val (.int p2), .val (.int p3), .val (.int 0), .val (.int 0), .val (.int 3), .val (.int (p1 &&& (255 : Int32))), .val (.int (p2 &&& (255 : Int32))), .val (.int (p3 &&& (255 : Int32))), .val (.ref a1), .val (.ref a27), .val (.ref a32)] [.int (p3 &&& (255 : Int32))])
  refine P.iload X45 hx 265 (hb hby at_263) rfl rfl ?_
  refine P.icmpNo X45 hx 268 (hb hby at_265) (teq rfl).2 rfl ?_
  refine P.aload X45 hx 270 (hb hby at_268) rfl rfl rfl ?_
  refine P.iload X45 hx 272 (hb hby at_270) rfl rfl ?_
  refine P.aload X45 hx 274 (hb hby at_272) rfl rfl rfl ?_
  refine P.iconst X45 hx 275 0 (hb hby at_274) rfl rfl ?_
  refine X45.callS hx (w135 cx) (w136 cx) (w137 cx) (w138 cx) (by decide) (Ct.pay (W := 0) (ct_quad cx a32 a33 a27 b27 ([(p1 &&& (255 : Int32)), (p2 &&& (255 : Int32)), (p3 &&& (255 : Int32))]) ([]) (3 : Int32) 0 (0 : Int32) h31 _ _ S38 F41 rfl rfl (nle rfl) (nle rfl)) (w138 cx) (w137 cx) (nle rfl) (nle rfl)) (by rw [hml]; rfl) (argsL := [.ref a32, .int 3, .ref a27, .int 0]) (rest := []) (lenOf pd23 rfl) rfl rfl (Nat.le_of_eq rfl) (hb hby at_275) (nle rfl) (nle rfl) ?_
  rintro T46 h46 _ _ _ X46 ⟨rfl, rfl, rfl, J46⟩
  rw [J46] at X46
  refine P.ifNo X46 hx 281 (hb hby at_278) (by decide) rfl ?_
  refine P.aload X46 hx 283 (hb hby at_281) rfl rfl rfl ?_
  refine P.iload X46 hx 285 (hb hby at_283) rfl rfl ?_
  refine P.aload X46 hx 287 (hb hby at_285) rfl rfl rfl ?_
  refine P.iconst X46 hx 288 4 (hb hby at_287) rfl rfl ?_
  refine X46.callS hx (w135 cx) (w136 cx) (w137 cx) (w138 cx) (by decide) (Ct.pay (W := 0) (ct_quad cx a32 a33 a27 b27 ([(p1 &&& (255 : Int32)), (p2 &&& (255 : Int32)), (p3 &&& (255 : Int32))]) ([]) (3 : Int32) 4 (4 : Int32) h31 _ _ S38 F41 rfl rfl (nle rfl) (nle rfl)) (w138 cx) (w137 cx) (nle rfl) (nle rfl)) (by rw [hml]; rfl) (argsL := [.ref a32, .int 3, .ref a27, .int 4]) (rest := []) (lenOf pd23 rfl) rfl rfl (Nat.le_of_eq rfl) (hb hby at_288) (nle rfl) (nle rfl) ?_
  rintro T47 h47 _ _ _ X47 ⟨rfl, rfl, rfl, J47⟩
  rw [J47] at X47
  refine P.ifNo X47 hx 294 (hb hby at_291) (by decide) rfl ?_
  refine P.aload X47 hx 296 (hb hby at_294) rfl rfl rfl ?_
  refine P.iload X47 hx 298 (hb hby at_296) rfl rfl ?_
  refine P.aload X47 hx 300 (hb hby at_298) rfl rfl rfl ?_
  refine P.bipush X47 hx 302 8 (hb hby at_300) rfl rfl ?_
  refine X47.callS hx (w135 cx) (w136 cx) (w137 cx) (w138 cx) (by decide) (Ct.pay (W := 0) (ct_quad cx a32 a33 a27 b27 ([(p1 &&& (255 : Int32)), (p2 &&& (255 : Int32)), (p3 &&& (255 : Int32))]) ([]) (3 : Int32) 8 (8 : Int32) h31 _ _ S38 F41 rfl rfl (nle rfl) (nle rfl)) (w138 cx) (w137 cx) (nle rfl) (nle rfl)) (by rw [hml]; rfl) (argsL := [.ref a32, .int 3, .ref a27, .int 8]) (rest := []) (lenOf pd23 rfl) rfl rfl (Nat.le_of_eq rfl) (hb hby at_302) (nle rfl) (nle rfl) ?_
  rintro T48 h48 _ _ _ X48 ⟨rfl, rfl, rfl, J48⟩
  rw [J48] at X48
  refine P.ifNo X48 hx 308 (hb hby at_305) (by decide) rfl ?_
  refine P.aload X48 hx 310 (hb hby at_308) rfl rfl rfl ?_
  refine P.iload X48 hx 312 (hb hby at_310) rfl rfl ?_
  refine P.aload X48 hx 314 (hb hby at_312) rfl rfl rfl ?_
  refine P.bipush X48 hx 316 12 (hb hby at_314) rfl rfl ?_
  refine X48.callS hx (w135 cx) (w136 cx) (w137 cx) (w138 cx) (by decide) (Ct.pay (W := 0) (ct_quad cx a32 a33 a27 b27 ([(p1 &&& (255 : Int32)), (p2 &&& (255 : Int32)), (p3 &&& (255 : Int32))]) ([]) (3 : Int32) 12 (12 : Int32) h31 _ _ S38 F41 rfl rfl (nle rfl) (nle rfl)) (w138 cx) (w137 cx) (nle rfl) (nle rfl)) (by rw [hml]; rfl) (argsL := [.ref a32, .int 3, .ref a27, .int 12]) (rest := []) (lenOf pd23 rfl) rfl rfl (Nat.le_of_eq rfl) (hb hby at_316) (nle rfl) (nle rfl) ?_
  rintro T49 h49 _ _ _ X49 ⟨rfl, rfl, rfl, J49⟩
  rw [J49] at X49
  refine P.ifNo X49 hx 322 (hb hby at_319) (by decide) rfl ?_
  refine P.aload X49 hx 324 (hb hby at_322) rfl rfl rfl ?_
  refine P.iload X49 hx 326 (hb hby at_324) rfl rfl ?_
  refine P.aload X49 hx 328 (hb hby at_326) rfl rfl rfl ?_
  refine P.bipush X49 hx 330 16 (hb hby at_328) rfl rfl ?_
  refine X49.callS hx (w135 cx) (w136 cx) (w137 cx) (w138 cx) (by decide) (Ct.pay (W := 0) (ct_quad cx a32 a33 a27 b27 ([(p1 &&& (255 : Int32)), (p2 &&& (255 : Int32)), (p3 &&& (255 : Int32))]) ([]) (3 : Int32) 16 (16 : Int32) h31 _ _ S38 F41 rfl rfl (nle rfl) (nle rfl)) (w138 cx) (w137 cx) (nle rfl) (nle rfl)) (by rw [hml]; rfl) (argsL := [.ref a32, .int 3, .ref a27, .int 16]) (rest := []) (lenOf pd23 rfl) rfl rfl (Nat.le_of_eq rfl) (hb hby at_330) (nle rfl) (nle rfl) ?_
  rintro T50 h50 _ _ _ X50 ⟨rfl, rfl, rfl, J50⟩
  rw [J50] at X50
  refine P.ifNo X50 hx 336 (hb hby at_333) (by decide) rfl ?_
  refine P.aload X50 hx 338 (hb hby at_336) rfl rfl rfl ?_
  refine P.iload X50 hx 340 (hb hby at_338) rfl rfl ?_
  refine P.aload X50 hx 342 (hb hby at_340) rfl rfl rfl ?_
  refine P.bipush X50 hx 344 20 (hb hby at_342) rfl rfl ?_
  refine X50.callS hx (w135 cx) (w136 cx) (w137 cx) (w138 cx) (by decide) (Ct.pay (W := 0) (ct_quad cx a32 a33 a27 b27 ([(p1 &&& (255 : Int32)), (p2 &&& (255 : Int32)), (p3 &&& (255 : Int32))]) ([]) (3 : Int32) 20 (20 : Int32) h31 _ _ S38 F41 rfl rfl (nle rfl) (nle rfl)) (w138 cx) (w137 cx) (nle rfl) (nle rfl)) (by rw [hml]; rfl) (argsL := [.ref a32, .int 3, .ref a27, .int 20]) (rest := []) (lenOf pd23 rfl) rfl rfl (Nat.le_of_eq rfl) (hb hby at_344) (nle rfl) (nle rfl) ?_
  rintro T51 h51 _ _ _ X51 ⟨rfl, rfl, rfl, J51⟩
  rw [J51] at X51
  refine P.ifNo X51 hx 350 (hb hby at_347) (by decide) rfl ?_
  refine P.aload X51 hx 352 (hb hby at_350) rfl rfl rfl ?_
  refine P.iload X51 hx 354 (hb hby at_352) rfl rfl ?_
  refine P.aload X51 hx 356 (hb hby at_354) rfl rfl rfl ?_
  refine P.bipush X51 hx 358 24 (hb hby at_356) rfl rfl ?_
  refine X51.callS hx (w135 cx) (w136 cx) (w137 cx) (w138 cx) (by decide) (Ct.pay (W := 0) (ct_quad cx a32 a33 a27 b27 ([(p1 &&& (255 : Int32)), (p2 &&& (255 : Int32)), (p3 &&& (255 : Int32))]) ([]) (3 : Int32) 24 (24 : Int32) h31 _ _ S38 F41 rfl rfl (nle rfl) (nle rfl)) (w138 cx) (w137 cx) (nle rfl) (nle rfl)) (by rw [hml]; rfl) (argsL := [.ref a32, .int 3, .ref a27, .int 24]) (rest := []) (lenOf pd23 rfl) rfl rfl (Nat.le_of_eq rfl) (hb hby at_358) (nle rfl) (nle rfl) ?_
  rintro T52 h52 _ _ _ X52 ⟨rfl, rfl, rfl, J52⟩
  rw [J52] at X52
  refine P.ifNo X52 hx 364 (hb hby at_361) (by decide) rfl ?_
  refine P.aload X52 hx 366 (hb hby at_364) rfl rfl rfl ?_
  refine P.iload X52 hx 368 (hb hby at_366) rfl rfl ?_
  refine P.aload X52 hx 370 (hb hby at_368) rfl rfl rfl ?_
  refine P.bipush X52 hx 372 28 (hb hby at_370) rfl rfl ?_
  refine X52.callS hx (w135 cx) (w136 cx) (w137 cx) (w138 cx) (by decide) (Ct.pay (W := 0) (ct_quad cx a32 a33 a27 b27 ([(p1 &&& (255 : Int32)), (p2 &&& (255 : Int32)), (p3 &&& (255 : Int32))]) ([]) (3 : Int32) 28 (28 : Int32) h31 _ _ S38 F41 rfl rfl (nle rfl) (nle rfl)) (w138 cx) (w137 cx) (nle rfl) (nle rfl)) (by rw [hml]; rfl) (argsL := [.ref a32, .int 3, .ref a27, .int 28]) (rest := []) (lenOf pd23 rfl) rfl rfl (Nat.le_of_eq rfl) (hb hby at_372) (nle rfl) (nle rfl) ?_
  rintro T53 h53 _ _ _ X53 ⟨rfl, rfl, rfl, J53⟩
  rw [J53] at X53
  refine P.ifNo X53 hx 378 (hb hby at_375) (by decide) rfl ?_
  refine P.aload X53 hx 380 (hb hby at_378) rfl rfl rfl ?_
  refine P.iload X53 hx 382 (hb hby at_380) rfl rfl ?_
  refine P.aload X53 hx 384 (hb hby at_382) rfl rfl rfl ?_
  refine P.bipush X53 hx 386 32 (hb hby at_384) rfl rfl ?_
  refine X53.callS hx (w135 cx) (w136 cx) (w137 cx) (w138 cx) (by decide) (Ct.pay (W := 0) (ct_quad cx a32 a33 a27 b27 ([(p1 &&& (255 : Int32)), (p2 &&& (255 : Int32)), (p3 &&& (255 : Int32))]) ([]) (3 : Int32) 32 (32 : Int32) h31 _ _ S38 F41 rfl rfl (nle rfl) (nle rfl)) (w138 cx) (w137 cx) (nle rfl) (nle rfl)) (by rw [hml]; rfl) (argsL := [.ref a32, .int 3, .ref a27, .int 32]) (rest := []) (lenOf pd23 rfl) rfl rfl (Nat.le_of_eq rfl) (hb hby at_386) (nle rfl) (nle rfl) ?_
  rintro T54 h54 _ _ _ X54 ⟨rfl, rfl, rfl, J54⟩
  rw [J54] at X54
  refine P.ifNo X54 hx 392 (hb hby at_389) (by decide) rfl ?_
  refine P.aload X54 hx 394 (hb hby at_392) rfl rfl rfl ?_
  refine P.iload X54 hx 396 (hb hby at_394) rfl rfl ?_
  refine P.aload X54 hx 398 (hb hby at_396) rfl rfl rfl ?_
  refine P.bipush X54 hx 400 36 (hb hby at_398) rfl rfl ?_
  refine X54.callS hx (w135 cx) (w136 cx) (w137 cx) (w138 cx) (by decide) (Ct.pay (W := 0) (ct_quad cx a32 a33 a27 b27 ([(p1 &&& (255 : Int32)), (p2 &&& (255 : Int32)), (p3 &&& (255 : Int32))]) ([]) (3 : Int32) 36 (36 : Int32) h31 _ _ S38 F41 rfl rfl (nle rfl) (nle rfl)) (w138 cx) (w137 cx) (nle rfl) (nle rfl)) (by rw [hml]; rfl) (argsL := [.ref a32, .int 3, .ref a27, .int 36]) (rest := []) (lenOf pd23 rfl) rfl rfl (Nat.le_of_eq rfl) (hb hby at_400) (nle rfl) (nle rfl) ?_
  rintro T55 h55 _ _ _ X55 ⟨rfl, rfl, rfl, J55⟩
  rw [J55] at X55
  refine P.ifNo X55 hx 406 (hb hby at_403) (by decide) rfl ?_
  refine P.iconst X55 hx 407 1 (hb hby at_406) rfl rfl ?_
  refine P.goto X55 hx 411 (hb hby at_407) (by decide) (by decide) ?_
  have X56 := WS.drop (A := []) (B := (a6 :: WL)) X55
  have X57 := WS.drop (A := []) (B := WL) X56
  have X58 := WS.fl (FL2 := FL) X57 (fun y hy => (List.mem_append_right [a6, a32, a33, a27, b27, a1, a23] hy))
  exact WS.retN X58 (WL' := []) (FL' := []) hx (t := .boolean) hret (by simp) hlk (hb hby at_411) (nle rfl) (nle rfl) ⟨rfl, rfl, rfl, K37⟩
set_option maxRecDepth 65536 in
set_option maxHeartbeats 4000000 in
theorem ct_law_301 {l : Launch} {Z : State} {a0 : Array Value} {gC : Int32} {gF : Value} (cx : Cx a0 Z gC gF) {n0 : Nat} (p0 : Int32) (p1 : Int32) (p2 : Int32) (p3 : Int32) (h : Heap) (WL FL : List Addr)  (en : (((p0.toUInt32 >>> ((2 : Int32) &&& 31).toUInt32).toInt32) &&& (3 : Int32)) = (3 : Int32)) (es : (p0 &&& (1 : Int32)) = (0 : Int32)) (el : ¬ (p0 &&& (2 : Int32)) = (0 : Int32)) :
    Ct l Z EL1 n0 x code maxLocals ret room_1 #[(.int p0), (.int p1), (.int p2), (.int p3)] h WL FL (Q_law Z gC gF p0 p1 p2 p3 h) := by
  refine Ct.of (plainFor_of_name pn7) ?_
  intro p e s m below meth c s1 hx hby hml hnm hret hlk X0
  refine Wo.cast (f' := (mkF m 0 #[.val (.int p0), .val (.int p1), .val (.int p2), .val (.int p3), .unset, .unset, .unset, .unset, .unset, .unset, .unset, .unset, .unset] [])) (by first | rfl | (simp [entryFrame, mkF, argsToLocals, Value.category]; done)) ?_
  have K0 : Keep h h [] := Keep.refl _ _
  show Wo _ _ _ _ _ _ _ _ _ _ _ s1 (mkF m 0 #[.val (.int p0), .val (.int p1), .val (.int p2), .val (.int p3), .unset, .unset, .unset, .unset, .unset, .unset, .unset, .unset, .unset] [])
  refine P.iloadN X0 hx 1 (hb hby at_0) rfl rfl ?_
  refine P.iconst X0 hx 2 1 (hb hby at_1) rfl rfl ?_
  refine P.iand X0 hx 3 (z := (p0 &&& (1 : Int32))) (hb hby at_2) rfl rfl ?_
  refine P.ifYes X0 hx 10 (hb hby at_3) ((if0 _ _).trans (teq es).1) (by decide) (by decide) ?_
  refine P.iconst X0 hx 11 0 (hb hby at_10) rfl rfl ?_
  refine P.istore X0 hx 13 #[.val (.int p0), .val (.int p1), .val (.int p2), .val (.int p3), .val (.int 0), .unset, .unset, .unset, .unset, .unset, .unset, .unset, .unset] (hb hby at_11) rfl rfl ?_
  refine P.iloadN X0 hx 14 (hb hby at_13) rfl rfl ?_
  refine P.iconst X0 hx 15 2 (hb hby at_14) rfl rfl ?_
  refine P.iand X0 hx 16 (z := (p0 &&& (2 : Int32))) (hb hby at_15) rfl rfl ?_
  refine P.ifNo X0 hx 19 (hb hby at_16) ((if0 _ _).trans (feq el).1) rfl ?_
  refine P.iconst X0 hx 20 1 (hb hby at_19) rfl rfl ?_
  refine P.goto X0 hx 24 (hb hby at_20) (by decide) (by decide) ?_
  refine P.istore X0 hx 26 #[.val (.int p0), .val (.int p1), .val (.int p2), .val (.int p3), .val (.int 0), .val (.int 1), .unset, .unset, .unset, .unset, .unset, .unset, .unset] (hb hby at_24) rfl rfl ?_
  refine P.iloadN X0 hx 27 (hb hby at_26) rfl rfl ?_
  refine P.iconst X0 hx 28 2 (hb hby at_27) rfl rfl ?_
  refine P.iushr X0 hx 29 (z := ((p0.toUInt32 >>> ((2 : Int32) &&& 31).toUInt32).toInt32)) (hb hby at_28) rfl rfl ?_
  refine P.iconst X0 hx 30 3 (hb hby at_29) rfl rfl ?_
  refine P.iand X0 hx 31 (z := (3 : Int32)) (hb hby at_30) (by rw [en]) rfl ?_
  refine P.istore X0 hx 33 #[.val (.int p0), .val (.int p1), .val (.int p2), .val (.int p3), .val (.int 0), .val (.int 1), .val (.int 3), .unset, .unset, .unset, .unset, .unset, .unset] (hb hby at_31) rfl rfl ?_
  refine P.iloadN X0 hx 34 (hb hby at_33) rfl rfl ?_
  refine P.sipush X0 hx 37 255 (hb hby at_34) rfl rfl ?_
  refine P.iand X0 hx 38 (z := (p1 &&& (255 : Int32))) (hb hby at_37) rfl rfl ?_
  refine P.i2c X0 hx 39 (z := (p1 &&& (255 : Int32))) (hb hby at_38) (by rw [i2c_mask]) rfl ?_
  refine P.istore X0 hx 41 #[.val (.int p0), .val (.int p1), .val (.int p2), .val (.int p3), .val (.int 0), .val (.int 1), .val (.int 3), .val (.int (p1 &&& (255 : Int32))), .unset, .unset, .unset, .unset, .unset] (hb hby at_39) rfl rfl ?_
  refine P.iloadN X0 hx 42 (hb hby at_41) rfl rfl ?_
  refine P.sipush X0 hx 45 255 (hb hby at_42) rfl rfl ?_
  refine P.iand X0 hx 46 (z := (p2 &&& (255 : Int32))) (hb hby at_45) rfl rfl ?_
  refine P.i2c X0 hx 47 (z := (p2 &&& (255 : Int32))) (hb hby at_46) (by rw [i2c_mask]) rfl ?_
  refine P.istore X0 hx 49 #[.val (.int p0), .val (.int p1), .val (.int p2), .val (.int p3), .val (.int 0), .val (.int 1), .val (.int 3), .val (.int (p1 &&& (255 : Int32))), .val (.int (p2 &&& (255 : Int32))), .unset, .unset, .unset, .unset] (hb hby at_47) rfl rfl ?_
  refine P.iloadN X0 hx 50 (hb hby at_49) rfl rfl ?_
  refine P.sipush X0 hx 53 255 (hb hby at_50) rfl rfl ?_
  refine P.iand X0 hx 54 (z := (p3 &&& (255 : Int32))) (hb hby at_53) rfl rfl ?_
  refine P.i2c X0 hx 55 (z := (p3 &&& (255 : Int32))) (hb hby at_54) (by rw [i2c_mask]) rfl ?_
  refine P.istore X0 hx 57 #[.val (.int p0), .val (.int p1), .val (.int p2), .val (.int p3), .val (.int 0), .val (.int 1), .val (.int 3), .val (.int (p1 &&& (255 : Int32))), .val (.int (p2 &&& (255 : Int32))), .val (.int (p3 &&& (255 : Int32))), .unset, .unset, .unset] (hb hby at_55) rfl rfl ?_
  refine P.iload X0 hx 59 (hb hby at_57) rfl rfl ?_
  refine P.ifYes X0 hx 69 (hb hby at_59) (by decide) (by decide) (by decide) ?_
  refine P.iload X0 hx 71 (hb hby at_69) rfl rfl ?_
  refine P.iconst X0 hx 72 1 (hb hby at_71) rfl rfl ?_
  refine P.icmpYes X0 hx 85 (hb hby at_72) (by decide) (by decide) (by decide) ?_
  refine P.iload X0 hx 87 (hb hby at_85) rfl rfl ?_
  refine P.iconst X0 hx 88 2 (hb hby at_87) rfl rfl ?_
  refine P.icmpYes X0 hx 116 (hb hby at_88) (by decide) (by decide) (by decide) ?_
  refine X0.newO hx (w142 cx) (w2 cx) (w1 cx) (hb hby at_116) (nle rfl) (nle rfl) ?_
  intro T1 h1 a1 X1 E1 g1 A1 D1
  have ge2 : h.size ≤ a1 := Nat.le_trans K0.1 g1
  have K3 : Keep h h1 [] := K0.ext E1
  have D4 : Fld Z h1 a1 "java/lang/String" "value" "[B" .null := D1 (Or.inr (w4 cx)) (ty := (.array .byte)) (by decide)
  have D5 : Fld Z h1 a1 "java/lang/String" "coder" "B" (.int 0) := D1 (Or.inr (w5 cx)) (ty := .byte) (by decide)
  refine P.dup X1 hx 120 (hb hby at_119) rfl rfl ?_
  refine P.iconst X1 hx 121 3 (hb hby at_120) rfl rfl ?_
  refine X1.newP (aty := .char) hx (w143 cx) (hb hby at_121) (by decide) (cap := 3) (nle rfl) (nle rfl) (nle rfl) (nle rfl) ?_
  intro T6 h6 a6 k6 X6 E6 g6 A6
  have ge7 : h.size ≤ a6 := Nat.le_trans K3.1 g6
  have K8 : Keep h h6 [] := K3.ext E6
  have V9 : Arv Z h6 a6 k6 .char (3 : Int32) [(.int 0), (.int 0), (.int 0)] (.int 0) := Arv.pad A6 (pad_rep [] _ 3)
  refine P.dup X6 hx 124 (hb hby at_123) rfl rfl ?_
  refine P.iconst X6 hx 125 0 (hb hby at_124) rfl rfl ?_
  refine P.iload X6 hx 127 (hb hby at_125) rfl rfl ?_
  refine X6.stC hx V9 (j := (0 : Int32)) (x := (p1 &&& (255 : Int32))) (i := 0) (by decide) rfl (nlt rfl) (List.mem_of_getElem? (i := 0) rfl) (hb hby at_127) ?_
  intro T10 h10 X10 W10 G10
  have K11 : Keep h h10 [] := K8.wr W10 (Or.inr ge7)
  have V12 : Arv Z h10 a6 k6 .char (3 : Int32) [(.int (p1 &&& (255 : Int32))), (.int 0), (.int 0)] (.int 0) := by have q := G10; rw [nar255] at q; exact q
  refine P.dup X10 hx 129 (hb hby at_128) rfl rfl ?_
  refine P.iconst X10 hx 130 1 (hb hby at_129) rfl rfl ?_
  refine P.iload X10 hx 132 (hb hby at_130) rfl rfl ?_
  refine X10.stC hx V12 (j := (1 : Int32)) (x := (p2 &&& (255 : Int32))) (i := 1) (by decide) rfl (nlt rfl) (List.mem_of_getElem? (i := 0) rfl) (hb hby at_132) ?_
  intro T13 h13 X13 W13 G13
  have K14 : Keep h h13 [] := K11.wr W13 (Or.inr ge7)
  have V15 : Arv Z h13 a6 k6 .char (3 : Int32) [(.int (p1 &&& (255 : Int32))), (.int (p2 &&& (255 : Int32))), (.int 0)] (.int 0) := by have q := G13; rw [nar255] at q; exact q
  refine P.dup X13 hx 134 (hb hby at_133) rfl rfl ?_
  refine P.iconst X13 hx 135 2 (hb hby at_134) rfl rfl ?_
  refine P.iload X13 hx 137 (hb hby at_135) rfl rfl ?_
  refine X13.stC hx V15 (j := (2 : Int32)) (x := (p3 &&& (255 : Int32))) (i := 2) (by decide) rfl (nlt rfl) (List.mem_of_getElem? (i := 0) rfl) (hb hby at_137) ?_
  intro T16 h16 X16 W16 G16
  have K17 : Keep h h16 [] := K14.wr W16 (Or.inr ge7)
  have V18 : Arv Z h16 a6 k6 .char (3 : Int32) [(.int (p1 &&& (255 : Int32))), (.int (p2 &&& (255 : Int32))), (.int (p3 &&& (255 : Int32)))] (.int 0) := by have q := G16; rw [nar255] at q; exact q
  have F19 : Exa Z h16 a1 "java/lang/String" := ((((A1.ext E6).wr W10).wr W13).wr W16)
  have F20 : Fld Z h16 a1 "java/lang/String" "value" "[B" .null := ((((D4.ext E6).other W10 (Or.inl (X16.ne (i := 1) (j := 0) rfl rfl (by decide)))).other W13 (Or.inl (X16.ne (i := 1) (j := 0) rfl rfl (by decide)))).other W16 (Or.inl (X16.ne (i := 1) (j := 0) rfl rfl (by decide))))
  have F21 : Fld Z h16 a1 "java/lang/String" "coder" "B" (.int 0) := ((((D5.ext E6).other W10 (Or.inl (X16.ne (i := 1) (j := 0) rfl rfl (by decide)))).other W13 (Or.inl (X16.ne (i := 1) (j := 0) rfl rfl (by decide)))).other W16 (Or.inl (X16.ne (i := 1) (j := 0) rfl rfl (by decide))))
  refine X16.callC hx rfl (w144 cx) (w145 cx) (w146 cx) (by decide) (pay_new (W := 1) (hws cx) (w2 cx) (cs := [(p1 &&& (255 : Int32)), (p2 &&& (255 : Int32)), (p3 &&& (255 : Int32))]) (n := 3) (X16.ge (List.mem_of_getElem? (i := 1) rfl)) X16.n0le (List.mem_of_getElem? (i := 1) rfl) F19 F20 F21 V18 (X16.sta (S_C cx)) (N_C cx) rfl rfl (nle rfl) (nle rfl) (fcS (rng255 p1) (fcS (rng255 p2) (fcS (rng255 p3) fc0))) (nle rfl) (nle rfl)) (by rw [hml]; rfl) (argsL := [.ref a6]) (rest := [.ref a1]) (lenOf pd26 rfl) rfl rfl (Nat.le_of_eq rfl) (hb hby at_138) (nle rfl) (nle rfl) ?_
  rintro T22 h22 _ _ _ X22 ⟨a23, rfl, rfl, rfl, J22, G24⟩
  have K25 : Keep h h22 [] := K17.trans J22 (allS (Or.inr ge2) all0)
  refine P.astore X22 hx 143 #[.val (.int p0), .val (.int p1), .val (.int p2), .val (.int p3), .val (.int 0), .val (.int 1), .val (.int 3), .val (.int (p1 &&& (255 : Int32))), .val (.int (p2 &&& (255 : Int32))), .val (.int (p3 &&& (255 : Int32))), .val (.ref a1), .unset, .unset] (hb hby at_141) rfl rfl rfl ?_
  have X26 := WS.drop (A := [a6]) (B := WL) X22
  refine P.iload X26 hx 145 (hb hby at_143) rfl rfl ?_
  refine P.ifYes X26 hx 167 (hb hby at_145) (by decide) (by decide) (by decide) ?_
  refine P.iload X26 hx 169 (hb hby at_167) rfl rfl ?_
  refine P.ifNo X26 hx 172 (hb hby at_169) (by decide) rfl ?_
  refine X26.ldc hx (w212 cx) (strAtoms cx) (by decide) (vs := [(.int 32), (.int 102), (.int 101), (.int 116), (.int 99), (.int 104), (.int 32), (.int 102), (.int 105), (.int 114), (.int 115), (.int 116), (.int 32), (.int 63), (.int 32), (.int 114), (.int 111), (.int 119), (.int 115), (.int 32), (.int 111), (.int 110), (.int 108), (.int 121)]) (z := (24 : Int32)) ⟨by decide, by decide⟩ (by decide) rfl (hb hby at_172) (n := 96) (nle rfl) (nle rfl) (nle rfl) (nle rfl) ?_
  intro T27 h27 a27 b27 k27 X27 E27 A27 C27 V27 B27
  have K28 : Keep h h27 [] := K25.ext E27
  refine P.astore X27 hx 176 #[.val (.int p0), .val (.int p1), .val (.int p2), .val (.int p3), .val (.int 0), .val (.int 1), .val (.int 3), .val (.int (p1 &&& (255 : Int32))), .val (.int (p2 &&& (255 : Int32))), .val (.int (p3 &&& (255 : Int32))), .val (.ref a1), .val (.ref a27), .unset] (hb hby at_174) rfl rfl rfl ?_
  refine P.goto X27 hx 183 (hb hby at_176) (by decide) (by decide) ?_
  have S29 : StrL Z h27 a27 b27 [(32 : Int32), 102, 101, 116, 99, 104, 32, 102, 105, 114, 115, 116, 32, 63, 32, 114, 111, 119, 115, 32, 111, 110, 108, 121] := ⟨A27, V27, C27, ⟨_, B27⟩, (by decide), nle rfl⟩
  refine P.aload X27 hx 185 (hb hby at_183) rfl rfl rfl ?_
  refine P.iload X27 hx 187 (hb hby at_185) rfl rfl ?_
  refine P.iload X27 hx 189 (hb hby at_187) rfl rfl ?_
  have F30 : StrL Z h27 a1 a23 [(p1 &&& (255 : Int32)), (p2 &&& (255 : Int32)), (p3 &&& (255 : Int32))] := (G24.ext E27)
  refine X27.callS hx (w8 cx) (w9 cx) (w10 cx) (w11 cx) (by decide) (Ct.pay (W := 0) (ct_pag01 cx a1 a23 ([(p1 &&& (255 : Int32)), (p2 &&& (255 : Int32)), (p3 &&& (255 : Int32))]) h27 _ _ F30 (List.mem_of_getElem? (i := 2) rfl) (List.mem_of_getElem? (i := 3) rfl) (nle rfl)) (w11 cx) (w10 cx) (nle rfl) (nle rfl)) (by rw [hml]; rfl) (argsL := [.ref a1, .int 0, .int 1]) (rest := []) (lenOf pd24 rfl) rfl rfl (Nat.le_of_eq rfl) (hb hby at_189) (nle rfl) (nle rfl) ?_
  rintro T31 h31 _ _ _ X31 ⟨a32, a33, rfl, rfl, rfl, J31, g35, G34⟩
  have ge36 : h.size ≤ a32 := Nat.le_trans K28.1 g35
  have K37 : Keep h h31 [] := K28.trans J31 all0
  have S38 : StrL Z h31 a32 a33 [(p1 &&& (255 : Int32)), (p2 &&& (255 : Int32)), (p3 &&& (255 : Int32)), 32, 102, 101, 116, 99, 104, 32, 102, 105, 114, 115, 116, 32, 63, 32, 114, 111, 119, 115, 32, 111, 110, 108, 121] := G34
  refine P.astore X31 hx 194 #[.val (.int p0), .val (.int p1), .val (.int p2), .val (.int p3), .val (.int 0), .val (.int 1), .val (.int 3), .val (.int (p1 &&& (255 : Int32))), .val (.int (p2 &&& (255 : Int32))), .val (.int (p3 &&& (255 : Int32))), .val (.ref a1), .val (.ref a27), .val (.ref a32)] (hb hby at_192) rfl rfl rfl ?_
  refine P.aload X31 hx 196 (hb hby at_194) rfl rfl rfl ?_
  refine P.ifnonnullYes X31 hx 201 (hb hby at_196) (by decide) (by decide) ?_
  refine P.aload X31 hx 203 (hb hby at_201) rfl rfl rfl ?_
  refine X31.callV hx (w134 cx) (w28 cx) (w30 cx) (w29 cx) (fun _ hZ => nf hZ (w30 cx)) (by decide) S38.1 (pay_len (W := 0) (hln cx) (w2 cx) S38 (X31.sta (S_C cx)) (N_C cx) (nle rfl) (nle rfl)) (by rw [hml]; rfl) (argsL := []) (rest := []) (lenOf pd7 rfl) rfl rfl (Nat.le_of_eq rfl) (hb hby at_203) (nle rfl) (nle rfl) ?_
  rintro T39 h39 _ _ _ X39 ⟨rfl, rfl, rfl, J39⟩
  rw [J39] at X39
  show Wo _ _ _ _ _ _ _ _ _ _ _ T39 (mkF m 206 #[.val (.int p0), .val (.int p1), .val (.int p2), .val (.int p3), .val (.int 0), .val (.int 1), .val (.int 3), .val (.int (p1 &&& (255 : Int32))), .val (.int (p2 &&& (255 : Int32))), .val (.int (p3 &&& (255 : Int32))), .val (.ref a1), .val (.ref a27), .val (.ref a32)] [.int 27])
  refine P.iload X39 hx 208 (hb hby at_206) rfl rfl ?_
  refine P.aload X39 hx 210 (hb hby at_208) rfl rfl rfl ?_
  have F40 : Exa Z h31 a27 "java/lang/String" := (S29.1.keep J31)
  have F41 : StrL Z h31 a27 b27 [(32 : Int32), 102, 101, 116, 99, 104, 32, 102, 105, 114, 115, 116, 32, 63, 32, 114, 111, 119, 115, 32, 111, 110, 108, 121] := (S29.keep J31 nin0 nin0)
  refine X39.callV hx (w134 cx) (w28 cx) (w30 cx) (w29 cx) (fun _ hZ => nf hZ (w30 cx)) (by decide) F40 (pay_len (W := 2) (hln cx) (w2 cx) F41 (X39.sta (S_C cx)) (N_C cx) (nle rfl) (nle rfl)) (by rw [hml]; rfl) (argsL := []) (rest := [.int 3, .int 27]) (lenOf pd7 rfl) rfl rfl (Nat.le_of_eq rfl) (hb hby at_210) (nle rfl) (nle rfl) ?_
  rintro T42 h42 _ _ _ X42 ⟨rfl, rfl, rfl, J42⟩
  rw [J42] at X42
  show Wo _ _ _ _ _ _ _ _ _ _ _ T42 (mkF m 213 #[.val (.int p0), .val (.int p1), .val (.int p2), .val (.int p3), .val (.int 0), .val (.int 1), .val (.int 3), .val (.int (p1 &&& (255 : Int32))), .val (.int (p2 &&& (255 : Int32))), .val (.int (p3 &&& (255 : Int32))), .val (.ref a1), .val (.ref a27), .val (.ref a32)] [.int 24, .int 3, .int 27])
  refine P.iadd X42 hx 214 (z := (27 : Int32)) (hb hby at_213) rfl rfl ?_
  refine P.icmpNo X42 hx 217 (hb hby at_214) (by decide) rfl ?_
  refine P.iload X42 hx 219 (hb hby at_217) rfl rfl ?_
  refine P.iconst X42 hx 220 1 (hb hby at_219) rfl rfl ?_
  refine P.icmpNo X42 hx 223 (hb hby at_220) (by decide) rfl ?_
  refine P.aload X42 hx 225 (hb hby at_223) rfl rfl rfl ?_
  refine P.iconst X42 hx 226 0 (hb hby at_225) rfl rfl ?_
  refine X42.callV hx (w160 cx) (w161 cx) (w163 cx) (w162 cx) (fun _ hZ => nf hZ (w163 cx)) (by decide) S38.1 (pay_chr (W := 0) (hch cx) (w2 cx) S38 (X42.sta (S_C cx)) (N_C cx) (X42.sta (S_F cx)) (R_F cx) (i := 0) (nlt rfl) rfl (nle rfl) (nle rfl)) (by rw [hml]; rfl) (argsL := [.int 0]) (rest := []) (lenOf pd22 rfl) rfl rfl (Nat.le_of_eq rfl) (hb hby at_226) (nle rfl) (nle rfl) ?_
  rintro T43 h43 _ _ _ X43 ⟨rfl, rfl, rfl, J43⟩
  rw [J43] at X43
  show Wo _ _ _ _ _ _ _ _ _ _ _ T43 (mkF m 229 #[.val (.int p0), .val (.int p1), .val (.int p2), .val (.int p3), .val (.int 0), .val (.int 1), .val (.int 3), .val (.int (p1 &&& (255 : Int32))), .val (.int (p2 &&& (255 : Int32))), .val (.int (p3 &&& (255 : Int32))), .val (.ref a1), .val (.ref a27), .val (.ref a32)] [.int (p1 &&& (255 : Int32))])
  refine P.iload X43 hx 231 (hb hby at_229) rfl rfl ?_
  refine P.icmpNo X43 hx 234 (hb hby at_231) (teq rfl).2 rfl ?_
  refine P.iload X43 hx 236 (hb hby at_234) rfl rfl ?_
  refine P.iconst X43 hx 237 2 (hb hby at_236) rfl rfl ?_
  refine P.icmpNo X43 hx 240 (hb hby at_237) (by decide) rfl ?_
  refine P.aload X43 hx 242 (hb hby at_240) rfl rfl rfl ?_
  refine P.iconst X43 hx 243 1 (hb hby at_242) rfl rfl ?_
  refine X43.callV hx (w160 cx) (w161 cx) (w163 cx) (w162 cx) (fun _ hZ => nf hZ (w163 cx)) (by decide) S38.1 (pay_chr (W := 0) (hch cx) (w2 cx) S38 (X43.sta (S_C cx)) (N_C cx) (X43.sta (S_F cx)) (R_F cx) (i := 1) (nlt rfl) rfl (nle rfl) (nle rfl)) (by rw [hml]; rfl) (argsL := [.int 1]) (rest := []) (lenOf pd22 rfl) rfl rfl (Nat.le_of_eq rfl) (hb hby at_243) (nle rfl) (nle rfl) ?_
  rintro T44 h44 _ _ _ X44 ⟨rfl, rfl, rfl, J44⟩
  rw [J44] at X44
  show Wo _ _ _ _ _ _ _ _ _ _ _ T44 (mkF m 246 #[.val (.int p0), .val (.int p1), .val (.int p2), .val (.int p3), .val (.int 0), .val (.int 1), .val (.int 3), .val (.int (p1 &&& (255 : Int32))), .val (.int (p2 &&& (255 : Int32))), .val (.int (p3 &&& (255 : Int32))), .val (.ref a1), .val (.ref a27), .val (.ref a32)] [.int (p2 &&& (255 : Int32))])
  refine P.iload X44 hx 248 (hb hby at_246) rfl rfl ?_
  refine P.icmpNo X44 hx 251 (hb hby at_248) (teq rfl).2 rfl ?_
  refine P.iload X44 hx 253 (hb hby at_251) rfl rfl ?_
  refine P.iconst X44 hx 254 3 (hb hby at_253) rfl rfl ?_
  refine P.icmpNo X44 hx 257 (hb hby at_254) (by decide) rfl ?_
  refine P.aload X44 hx 259 (hb hby at_257) rfl rfl rfl ?_
  refine P.iconst X44 hx 260 2 (hb hby at_259) rfl rfl ?_
  refine X44.callV hx (w160 cx) (w161 cx) (w163 cx) (w162 cx) (fun _ hZ => nf hZ (w163 cx)) (by decide) S38.1 (pay_chr (W := 0) (hch cx) (w2 cx) S38 (X44.sta (S_C cx)) (N_C cx) (X44.sta (S_F cx)) (R_F cx) (i := 2) (nlt rfl) rfl (nle rfl) (nle rfl)) (by rw [hml]; rfl) (argsL := [.int 2]) (rest := []) (lenOf pd22 rfl) rfl rfl (Nat.le_of_eq rfl) (hb hby at_260) (nle rfl) (nle rfl) ?_
  rintro T45 h45 _ _ _ X45 ⟨rfl, rfl, rfl, J45⟩
  rw [J45] at X45
  show Wo _ _ _ _ _ _ _ _ _ _ _ T45 (mkF m 263 #[.val (.int p0), .val (.int p1), .val (.int p2), .val (.int p3), .val (.int 0), .val (.int 1), .val (.int 3), .val (.int (p1 &&& (255 : Int32))), .val (.int (p2 &&& (255 : Int32))), .val (.int (p3 &&& (255 : Int32))), .val (.ref a1), .val (.ref a27), .val (.ref a32)] [.int (p3 &&& (255 : Int32))])
  refine P.iload X45 hx 265 (hb hby at_263) rfl rfl ?_
  refine P.icmpNo X45 hx 268 (hb hby at_265) (teq rfl).2 rfl ?_
  refine P.aload X45 hx 270 (hb hby at_268) rfl rfl rfl ?_
  refine P.iload X45 hx 272 (hb hby at_270) rfl rfl ?_
  refine P.aload X45 hx 274 (hb hby at_272) rfl rfl rfl ?_
  refine P.iconst X45 hx 275 0 (hb hby at_274) rfl rfl ?_
  refine X45.callS hx (w135 cx) (w136 cx) (w137 cx) (w138 cx) (by decide) (Ct.pay (W := 0) (ct_quad cx a32 a33 a27 b27 ([(p1 &&& (255 : Int32)), (p2 &&& (255 : Int32)), (p3 &&& (255 : Int32))]) ([(32 : Int32), 102, 101, 116, 99, 104, 32, 102, 105, 114, 115, 116, 32, 63, 32, 114, 111, 119, 115, 32, 111, 110, 108, 121]) (3 : Int32) 0 (0 : Int32) h31 _ _ S38 F41 rfl rfl (nle rfl) (nle rfl)) (w138 cx) (w137 cx) (nle rfl) (nle rfl)) (by rw [hml]; rfl) (argsL := [.ref a32, .int 3, .ref a27, .int 0]) (rest := []) (lenOf pd23 rfl) rfl rfl (Nat.le_of_eq rfl) (hb hby at_275) (nle rfl) (nle rfl) ?_
  rintro T46 h46 _ _ _ X46 ⟨rfl, rfl, rfl, J46⟩
  rw [J46] at X46
  refine P.ifNo X46 hx 281 (hb hby at_278) (by decide) rfl ?_
  refine P.aload X46 hx 283 (hb hby at_281) rfl rfl rfl ?_
  refine P.iload X46 hx 285 (hb hby at_283) rfl rfl ?_
  refine P.aload X46 hx 287 (hb hby at_285) rfl rfl rfl ?_
  refine P.iconst X46 hx 288 4 (hb hby at_287) rfl rfl ?_
  refine X46.callS hx (w135 cx) (w136 cx) (w137 cx) (w138 cx) (by decide) (Ct.pay (W := 0) (ct_quad cx a32 a33 a27 b27 ([(p1 &&& (255 : Int32)), (p2 &&& (255 : Int32)), (p3 &&& (255 : Int32))]) ([(32 : Int32), 102, 101, 116, 99, 104, 32, 102, 105, 114, 115, 116, 32, 63, 32, 114, 111, 119, 115, 32, 111, 110, 108, 121]) (3 : Int32) 4 (4 : Int32) h31 _ _ S38 F41 rfl rfl (nle rfl) (nle rfl)) (w138 cx) (w137 cx) (nle rfl) (nle rfl)) (by rw [hml]; rfl) (argsL := [.ref a32, .int 3, .ref a27, .int 4]) (rest := []) (lenOf pd23 rfl) rfl rfl (Nat.le_of_eq rfl) (hb hby at_288) (nle rfl) (nle rfl) ?_
  rintro T47 h47 _ _ _ X47 ⟨rfl, rfl, rfl, J47⟩
  rw [J47] at X47
  refine P.ifNo X47 hx 294 (hb hby at_291) (by decide) rfl ?_
  refine P.aload X47 hx 296 (hb hby at_294) rfl rfl rfl ?_
  refine P.iload X47 hx 298 (hb hby at_296) rfl rfl ?_
  refine P.aload X47 hx 300 (hb hby at_298) rfl rfl rfl ?_
  refine P.bipush X47 hx 302 8 (hb hby at_300) rfl rfl ?_
  refine X47.callS hx (w135 cx) (w136 cx) (w137 cx) (w138 cx) (by decide) (Ct.pay (W := 0) (ct_quad cx a32 a33 a27 b27 ([(p1 &&& (255 : Int32)), (p2 &&& (255 : Int32)), (p3 &&& (255 : Int32))]) ([(32 : Int32), 102, 101, 116, 99, 104, 32, 102, 105, 114, 115, 116, 32, 63, 32, 114, 111, 119, 115, 32, 111, 110, 108, 121]) (3 : Int32) 8 (8 : Int32) h31 _ _ S38 F41 rfl rfl (nle rfl) (nle rfl)) (w138 cx) (w137 cx) (nle rfl) (nle rfl)) (by rw [hml]; rfl) (argsL := [.ref a32, .int 3, .ref a27, .int 8]) (rest := []) (lenOf pd23 rfl) rfl rfl (Nat.le_of_eq rfl) (hb hby at_302) (nle rfl) (nle rfl) ?_
  rintro T48 h48 _ _ _ X48 ⟨rfl, rfl, rfl, J48⟩
  rw [J48] at X48
  refine P.ifNo X48 hx 308 (hb hby at_305) (by decide) rfl ?_
  refine P.aload X48 hx 310 (hb hby at_308) rfl rfl rfl ?_
  refine P.iload X48 hx 312 (hb hby at_310) rfl rfl ?_
  refine P.aload X48 hx 314 (hb hby at_312) rfl rfl rfl ?_
  refine P.bipush X48 hx 316 12 (hb hby at_314) rfl rfl ?_
  refine X48.callS hx (w135 cx) (w136 cx) (w137 cx) (w138 cx) (by decide) (Ct.pay (W := 0) (ct_quad cx a32 a33 a27 b27 ([(p1 &&& (255 : Int32)), (p2 &&& (255 : Int32)), (p3 &&& (255 : Int32))]) ([(32 : Int32), 102, 101, 116, 99, 104, 32, 102, 105, 114, 115, 116, 32, 63, 32, 114, 111, 119, 115, 32, 111, 110, 108, 121]) (3 : Int32) 12 (12 : Int32) h31 _ _ S38 F41 rfl rfl (nle rfl) (nle rfl)) (w138 cx) (w137 cx) (nle rfl) (nle rfl)) (by rw [hml]; rfl) (argsL := [.ref a32, .int 3, .ref a27, .int 12]) (rest := []) (lenOf pd23 rfl) rfl rfl (Nat.le_of_eq rfl) (hb hby at_316) (nle rfl) (nle rfl) ?_
  rintro T49 h49 _ _ _ X49 ⟨rfl, rfl, rfl, J49⟩
  rw [J49] at X49
  refine P.ifNo X49 hx 322 (hb hby at_319) (by decide) rfl ?_
  refine P.aload X49 hx 324 (hb hby at_322) rfl rfl rfl ?_
  refine P.iload X49 hx 326 (hb hby at_324) rfl rfl ?_
  refine P.aload X49 hx 328 (hb hby at_326) rfl rfl rfl ?_
  refine P.bipush X49 hx 330 16 (hb hby at_328) rfl rfl ?_
  refine X49.callS hx (w135 cx) (w136 cx) (w137 cx) (w138 cx) (by decide) (Ct.pay (W := 0) (ct_quad cx a32 a33 a27 b27 ([(p1 &&& (255 : Int32)), (p2 &&& (255 : Int32)), (p3 &&& (255 : Int32))]) ([(32 : Int32), 102, 101, 116, 99, 104, 32, 102, 105, 114, 115, 116, 32, 63, 32, 114, 111, 119, 115, 32, 111, 110, 108, 121]) (3 : Int32) 16 (16 : Int32) h31 _ _ S38 F41 rfl rfl (nle rfl) (nle rfl)) (w138 cx) (w137 cx) (nle rfl) (nle rfl)) (by rw [hml]; rfl) (argsL := [.ref a32, .int 3, .ref a27, .int 16]) (rest := []) (lenOf pd23 rfl) rfl rfl (Nat.le_of_eq rfl) (hb hby at_330) (nle rfl) (nle rfl) ?_
  rintro T50 h50 _ _ _ X50 ⟨rfl, rfl, rfl, J50⟩
  rw [J50] at X50
  refine P.ifNo X50 hx 336 (hb hby at_333) (by decide) rfl ?_
  refine P.aload X50 hx 338 (hb hby at_336) rfl rfl rfl ?_
  refine P.iload X50 hx 340 (hb hby at_338) rfl rfl ?_
  refine P.aload X50 hx 342 (hb hby at_340) rfl rfl rfl ?_
  refine P.bipush X50 hx 344 20 (hb hby at_342) rfl rfl ?_
  refine X50.callS hx (w135 cx) (w136 cx) (w137 cx) (w138 cx) (by decide) (Ct.pay (W := 0) (ct_quad cx a32 a33 a27 b27 ([(p1 &&& (255 : Int32)), (p2 &&& (255 : Int32)), (p3 &&& (255 : Int32))]) ([(32 : Int32), 102, 101, 116, 99, 104, 32, 102, 105, 114, 115, 116, 32, 63, 32, 114, 111, 119, 115, 32, 111, 110, 108, 121]) (3 : Int32) 20 (20 : Int32) h31 _ _ S38 F41 rfl rfl (nle rfl) (nle rfl)) (w138 cx) (w137 cx) (nle rfl) (nle rfl)) (by rw [hml]; rfl) (argsL := [.ref a32, .int 3, .ref a27, .int 20]) (rest := []) (lenOf pd23 rfl) rfl rfl (Nat.le_of_eq rfl) (hb hby at_344) (nle rfl) (nle rfl) ?_
  rintro T51 h51 _ _ _ X51 ⟨rfl, rfl, rfl, J51⟩
  rw [J51] at X51
  refine P.ifNo X51 hx 350 (hb hby at_347) (by decide) rfl ?_
  refine P.aload X51 hx 352 (hb hby at_350) rfl rfl rfl ?_
  refine P.iload X51 hx 354 (hb hby at_352) rfl rfl ?_
  refine P.aload X51 hx 356 (hb hby at_354) rfl rfl rfl ?_
  refine P.bipush X51 hx 358 24 (hb hby at_356) rfl rfl ?_
  refine X51.callS hx (w135 cx) (w136 cx) (w137 cx) (w138 cx) (by decide) (Ct.pay (W := 0) (ct_quad cx a32 a33 a27 b27 ([(p1 &&& (255 : Int32)), (p2 &&& (255 : Int32)), (p3 &&& (255 : Int32))]) ([(32 : Int32), 102, 101, 116, 99, 104, 32, 102, 105, 114, 115, 116, 32, 63, 32, 114, 111, 119, 115, 32, 111, 110, 108, 121]) (3 : Int32) 24 (24 : Int32) h31 _ _ S38 F41 rfl rfl (nle rfl) (nle rfl)) (w138 cx) (w137 cx) (nle rfl) (nle rfl)) (by rw [hml]; rfl) (argsL := [.ref a32, .int 3, .ref a27, .int 24]) (rest := []) (lenOf pd23 rfl) rfl rfl (Nat.le_of_eq rfl) (hb hby at_358) (nle rfl) (nle rfl) ?_
  rintro T52 h52 _ _ _ X52 ⟨rfl, rfl, rfl, J52⟩
  rw [J52] at X52
  refine P.ifNo X52 hx 364 (hb hby at_361) (by decide) rfl ?_
  refine P.aload X52 hx 366 (hb hby at_364) rfl rfl rfl ?_
  refine P.iload X52 hx 368 (hb hby at_366) rfl rfl ?_
  refine P.aload X52 hx 370 (hb hby at_368) rfl rfl rfl ?_
  refine P.bipush X52 hx 372 28 (hb hby at_370) rfl rfl ?_
  refine X52.callS hx (w135 cx) (w136 cx) (w137 cx) (w138 cx) (by decide) (Ct.pay (W := 0) (ct_quad cx a32 a33 a27 b27 ([(p1 &&& (255 : Int32)), (p2 &&& (255 : Int32)), (p3 &&& (255 : Int32))]) ([(32 : Int32), 102, 101, 116, 99, 104, 32, 102, 105, 114, 115, 116, 32, 63, 32, 114, 111, 119, 115, 32, 111, 110, 108, 121]) (3 : Int32) 28 (28 : Int32) h31 _ _ S38 F41 rfl rfl (nle rfl) (nle rfl)) (w138 cx) (w137 cx) (nle rfl) (nle rfl)) (by rw [hml]; rfl) (argsL := [.ref a32, .int 3, .ref a27, .int 28]) (rest := []) (lenOf pd23 rfl) rfl rfl (Nat.le_of_eq rfl) (hb hby at_372) (nle rfl) (nle rfl) ?_
  rintro T53 h53 _ _ _ X53 ⟨rfl, rfl, rfl, J53⟩
  rw [J53] at X53
  refine P.ifNo X53 hx 378 (hb hby at_375) (by decide) rfl ?_
  refine P.aload X53 hx 380 (hb hby at_378) rfl rfl rfl ?_
  refine P.iload X53 hx 382 (hb hby at_380) rfl rfl ?_
  refine P.aload X53 hx 384 (hb hby at_382) rfl rfl rfl ?_
  refine P.bipush X53 hx 386 32 (hb hby at_384) rfl rfl ?_
  refine X53.callS hx (w135 cx) (w136 cx) (w137 cx) (w138 cx) (by decide) (Ct.pay (W := 0) (ct_quad cx a32 a33 a27 b27 ([(p1 &&& (255 : Int32)), (p2 &&& (255 : Int32)), (p3 &&& (255 : Int32))]) ([(32 : Int32), 102, 101, 116, 99, 104, 32, 102, 105, 114, 115, 116, 32, 63, 32, 114, 111, 119, 115, 32, 111, 110, 108, 121]) (3 : Int32) 32 (32 : Int32) h31 _ _ S38 F41 rfl rfl (nle rfl) (nle rfl)) (w138 cx) (w137 cx) (nle rfl) (nle rfl)) (by rw [hml]; rfl) (argsL := [.ref a32, .int 3, .ref a27, .int 32]) (rest := []) (lenOf pd23 rfl) rfl rfl (Nat.le_of_eq rfl) (hb hby at_386) (nle rfl) (nle rfl) ?_
  rintro T54 h54 _ _ _ X54 ⟨rfl, rfl, rfl, J54⟩
  rw [J54] at X54
  refine P.ifNo X54 hx 392 (hb hby at_389) (by decide) rfl ?_
  refine P.aload X54 hx 394 (hb hby at_392) rfl rfl rfl ?_
  refine P.iload X54 hx 396 (hb hby at_394) rfl rfl ?_
  refine P.aload X54 hx 398 (hb hby at_396) rfl rfl rfl ?_
  refine P.bipush X54 hx 400 36 (hb hby at_398) rfl rfl ?_
  refine X54.callS hx (w135 cx) (w136 cx) (w137 cx) (w138 cx) (by decide) (Ct.pay (W := 0) (ct_quad cx a32 a33 a27 b27 ([(p1 &&& (255 : Int32)), (p2 &&& (255 : Int32)), (p3 &&& (255 : Int32))]) ([(32 : Int32), 102, 101, 116, 99, 104, 32, 102, 105, 114, 115, 116, 32, 63, 32, 114, 111, 119, 115, 32, 111, 110, 108, 121]) (3 : Int32) 36 (36 : Int32) h31 _ _ S38 F41 rfl rfl (nle rfl) (nle rfl)) (w138 cx) (w137 cx) (nle rfl) (nle rfl)) (by rw [hml]; rfl) (argsL := [.ref a32, .int 3, .ref a27, .int 36]) (rest := []) (lenOf pd23 rfl) rfl rfl (Nat.le_of_eq rfl) (hb hby at_400) (nle rfl) (nle rfl) ?_
  rintro T55 h55 _ _ _ X55 ⟨rfl, rfl, rfl, J55⟩
  rw [J55] at X55
  refine P.ifNo X55 hx 406 (hb hby at_403) (by decide) rfl ?_
  refine P.iconst X55 hx 407 1 (hb hby at_406) rfl rfl ?_
  refine P.goto X55 hx 411 (hb hby at_407) (by decide) (by decide) ?_
  have X56 := WS.drop (A := []) (B := (a6 :: WL)) X55
  have X57 := WS.drop (A := []) (B := WL) X56
  have X58 := WS.fl (FL2 := FL) X57 (fun y hy => (List.mem_append_right [a6, a32, a33, a27, b27, a1, a23] hy))
  exact WS.retN X58 (WL' := []) (FL' := []) hx (t := .boolean) hret (by simp) hlk (hb hby at_411) (nle rfl) (nle rfl) ⟨rfl, rfl, rfl, K37⟩
set_option maxRecDepth 65536 in
set_option maxHeartbeats 4000000 in
theorem ct_law_310 {l : Launch} {Z : State} {a0 : Array Value} {gC : Int32} {gF : Value} (cx : Cx a0 Z gC gF) {n0 : Nat} (p0 : Int32) (p1 : Int32) (p2 : Int32) (p3 : Int32) (h : Heap) (WL FL : List Addr)  (en : (((p0.toUInt32 >>> ((2 : Int32) &&& 31).toUInt32).toInt32) &&& (3 : Int32)) = (3 : Int32)) (es : ¬ (p0 &&& (1 : Int32)) = (0 : Int32)) (el : (p0 &&& (2 : Int32)) = (0 : Int32)) :
    Ct l Z EL1 n0 x code maxLocals ret room_1 #[(.int p0), (.int p1), (.int p2), (.int p3)] h WL FL (Q_law Z gC gF p0 p1 p2 p3 h) := by
  refine Ct.of (plainFor_of_name pn7) ?_
  intro p e s m below meth c s1 hx hby hml hnm hret hlk X0
  refine Wo.cast (f' := (mkF m 0 #[.val (.int p0), .val (.int p1), .val (.int p2), .val (.int p3), .unset, .unset, .unset, .unset, .unset, .unset, .unset, .unset, .unset] [])) (by first | rfl | (simp [entryFrame, mkF, argsToLocals, Value.category]; done)) ?_
  have K0 : Keep h h [] := Keep.refl _ _
  show Wo _ _ _ _ _ _ _ _ _ _ _ s1 (mkF m 0 #[.val (.int p0), .val (.int p1), .val (.int p2), .val (.int p3), .unset, .unset, .unset, .unset, .unset, .unset, .unset, .unset, .unset] [])
  refine P.iloadN X0 hx 1 (hb hby at_0) rfl rfl ?_
  refine P.iconst X0 hx 2 1 (hb hby at_1) rfl rfl ?_
  refine P.iand X0 hx 3 (z := (p0 &&& (1 : Int32))) (hb hby at_2) rfl rfl ?_
  refine P.ifNo X0 hx 6 (hb hby at_3) ((if0 _ _).trans (feq es).1) rfl ?_
  refine P.iconst X0 hx 7 1 (hb hby at_6) rfl rfl ?_
  refine P.goto X0 hx 11 (hb hby at_7) (by decide) (by decide) ?_
  refine P.istore X0 hx 13 #[.val (.int p0), .val (.int p1), .val (.int p2), .val (.int p3), .val (.int 1), .unset, .unset, .unset, .unset, .unset, .unset, .unset, .unset] (hb hby at_11) rfl rfl ?_
  refine P.iloadN X0 hx 14 (hb hby at_13) rfl rfl ?_
  refine P.iconst X0 hx 15 2 (hb hby at_14) rfl rfl ?_
  refine P.iand X0 hx 16 (z := (p0 &&& (2 : Int32))) (hb hby at_15) rfl rfl ?_
  refine P.ifYes X0 hx 23 (hb hby at_16) ((if0 _ _).trans (teq el).1) (by decide) (by decide) ?_
  refine P.iconst X0 hx 24 0 (hb hby at_23) rfl rfl ?_
  refine P.istore X0 hx 26 #[.val (.int p0), .val (.int p1), .val (.int p2), .val (.int p3), .val (.int 1), .val (.int 0), .unset, .unset, .unset, .unset, .unset, .unset, .unset] (hb hby at_24) rfl rfl ?_
  refine P.iloadN X0 hx 27 (hb hby at_26) rfl rfl ?_
  refine P.iconst X0 hx 28 2 (hb hby at_27) rfl rfl ?_
  refine P.iushr X0 hx 29 (z := ((p0.toUInt32 >>> ((2 : Int32) &&& 31).toUInt32).toInt32)) (hb hby at_28) rfl rfl ?_
  refine P.iconst X0 hx 30 3 (hb hby at_29) rfl rfl ?_
  refine P.iand X0 hx 31 (z := (3 : Int32)) (hb hby at_30) (by rw [en]) rfl ?_
  refine P.istore X0 hx 33 #[.val (.int p0), .val (.int p1), .val (.int p2), .val (.int p3), .val (.int 1), .val (.int 0), .val (.int 3), .unset, .unset, .unset, .unset, .unset, .unset] (hb hby at_31) rfl rfl ?_
  refine P.iloadN X0 hx 34 (hb hby at_33) rfl rfl ?_
  refine P.sipush X0 hx 37 255 (hb hby at_34) rfl rfl ?_
  refine P.iand X0 hx 38 (z := (p1 &&& (255 : Int32))) (hb hby at_37) rfl rfl ?_
  refine P.i2c X0 hx 39 (z := (p1 &&& (255 : Int32))) (hb hby at_38) (by rw [i2c_mask]) rfl ?_
  refine P.istore X0 hx 41 #[.val (.int p0), .val (.int p1), .val (.int p2), .val (.int p3), .val (.int 1), .val (.int 0), .val (.int 3), .val (.int (p1 &&& (255 : Int32))), .unset, .unset, .unset, .unset, .unset] (hb hby at_39) rfl rfl ?_
  refine P.iloadN X0 hx 42 (hb hby at_41) rfl rfl ?_
  refine P.sipush X0 hx 45 255 (hb hby at_42) rfl rfl ?_
  refine P.iand X0 hx 46 (z := (p2 &&& (255 : Int32))) (hb hby at_45) rfl rfl ?_
  refine P.i2c X0 hx 47 (z := (p2 &&& (255 : Int32))) (hb hby at_46) (by rw [i2c_mask]) rfl ?_
  refine P.istore X0 hx 49 #[.val (.int p0), .val (.int p1), .val (.int p2), .val (.int p3), .val (.int 1), .val (.int 0), .val (.int 3), .val (.int (p1 &&& (255 : Int32))), .val (.int (p2 &&& (255 : Int32))), .unset, .unset, .unset, .unset] (hb hby at_47) rfl rfl ?_
  refine P.iloadN X0 hx 50 (hb hby at_49) rfl rfl ?_
  refine P.sipush X0 hx 53 255 (hb hby at_50) rfl rfl ?_
  refine P.iand X0 hx 54 (z := (p3 &&& (255 : Int32))) (hb hby at_53) rfl rfl ?_
  refine P.i2c X0 hx 55 (z := (p3 &&& (255 : Int32))) (hb hby at_54) (by rw [i2c_mask]) rfl ?_
  refine P.istore X0 hx 57 #[.val (.int p0), .val (.int p1), .val (.int p2), .val (.int p3), .val (.int 1), .val (.int 0), .val (.int 3), .val (.int (p1 &&& (255 : Int32))), .val (.int (p2 &&& (255 : Int32))), .val (.int (p3 &&& (255 : Int32))), .unset, .unset, .unset] (hb hby at_55) rfl rfl ?_
  refine P.iload X0 hx 59 (hb hby at_57) rfl rfl ?_
  refine P.ifYes X0 hx 69 (hb hby at_59) (by decide) (by decide) (by decide) ?_
  refine P.iload X0 hx 71 (hb hby at_69) rfl rfl ?_
  refine P.iconst X0 hx 72 1 (hb hby at_71) rfl rfl ?_
  refine P.icmpYes X0 hx 85 (hb hby at_72) (by decide) (by decide) (by decide) ?_
  refine P.iload X0 hx 87 (hb hby at_85) rfl rfl ?_
  refine P.iconst X0 hx 88 2 (hb hby at_87) rfl rfl ?_
  refine P.icmpYes X0 hx 116 (hb hby at_88) (by decide) (by decide) (by decide) ?_
  refine X0.newO hx (w142 cx) (w2 cx) (w1 cx) (hb hby at_116) (nle rfl) (nle rfl) ?_
  intro T1 h1 a1 X1 E1 g1 A1 D1
  have ge2 : h.size ≤ a1 := Nat.le_trans K0.1 g1
  have K3 : Keep h h1 [] := K0.ext E1
  have D4 : Fld Z h1 a1 "java/lang/String" "value" "[B" .null := D1 (Or.inr (w4 cx)) (ty := (.array .byte)) (by decide)
  have D5 : Fld Z h1 a1 "java/lang/String" "coder" "B" (.int 0) := D1 (Or.inr (w5 cx)) (ty := .byte) (by decide)
  refine P.dup X1 hx 120 (hb hby at_119) rfl rfl ?_
  refine P.iconst X1 hx 121 3 (hb hby at_120) rfl rfl ?_
  refine X1.newP (aty := .char) hx (w143 cx) (hb hby at_121) (by decide) (cap := 3) (nle rfl) (nle rfl) (nle rfl) (nle rfl) ?_
  intro T6 h6 a6 k6 X6 E6 g6 A6
  have ge7 : h.size ≤ a6 := Nat.le_trans K3.1 g6
  have K8 : Keep h h6 [] := K3.ext E6
  have V9 : Arv Z h6 a6 k6 .char (3 : Int32) [(.int 0), (.int 0), (.int 0)] (.int 0) := Arv.pad A6 (pad_rep [] _ 3)
  refine P.dup X6 hx 124 (hb hby at_123) rfl rfl ?_
  refine P.iconst X6 hx 125 0 (hb hby at_124) rfl rfl ?_
  refine P.iload X6 hx 127 (hb hby at_125) rfl rfl ?_
  refine X6.stC hx V9 (j := (0 : Int32)) (x := (p1 &&& (255 : Int32))) (i := 0) (by decide) rfl (nlt rfl) (List.mem_of_getElem? (i := 0) rfl) (hb hby at_127) ?_
  intro T10 h10 X10 W10 G10
  have K11 : Keep h h10 [] := K8.wr W10 (Or.inr ge7)
  have V12 : Arv Z h10 a6 k6 .char (3 : Int32) [(.int (p1 &&& (255 : Int32))), (.int 0), (.int 0)] (.int 0) := by have q := G10; rw [nar255] at q; exact q
  refine P.dup X10 hx 129 (hb hby at_128) rfl rfl ?_
  refine P.iconst X10 hx 130 1 (hb hby at_129) rfl rfl ?_
  refine P.iload X10 hx 132 (hb hby at_130) rfl rfl ?_
  refine X10.stC hx V12 (j := (1 : Int32)) (x := (p2 &&& (255 : Int32))) (i := 1) (by decide) rfl (nlt rfl) (List.mem_of_getElem? (i := 0) rfl) (hb hby at_132) ?_
  intro T13 h13 X13 W13 G13
  have K14 : Keep h h13 [] := K11.wr W13 (Or.inr ge7)
  have V15 : Arv Z h13 a6 k6 .char (3 : Int32) [(.int (p1 &&& (255 : Int32))), (.int (p2 &&& (255 : Int32))), (.int 0)] (.int 0) := by have q := G13; rw [nar255] at q; exact q
  refine P.dup X13 hx 134 (hb hby at_133) rfl rfl ?_
  refine P.iconst X13 hx 135 2 (hb hby at_134) rfl rfl ?_
  refine P.iload X13 hx 137 (hb hby at_135) rfl rfl ?_
  refine X13.stC hx V15 (j := (2 : Int32)) (x := (p3 &&& (255 : Int32))) (i := 2) (by decide) rfl (nlt rfl) (List.mem_of_getElem? (i := 0) rfl) (hb hby at_137) ?_
  intro T16 h16 X16 W16 G16
  have K17 : Keep h h16 [] := K14.wr W16 (Or.inr ge7)
  have V18 : Arv Z h16 a6 k6 .char (3 : Int32) [(.int (p1 &&& (255 : Int32))), (.int (p2 &&& (255 : Int32))), (.int (p3 &&& (255 : Int32)))] (.int 0) := by have q := G16; rw [nar255] at q; exact q
  have F19 : Exa Z h16 a1 "java/lang/String" := ((((A1.ext E6).wr W10).wr W13).wr W16)
  have F20 : Fld Z h16 a1 "java/lang/String" "value" "[B" .null := ((((D4.ext E6).other W10 (Or.inl (X16.ne (i := 1) (j := 0) rfl rfl (by decide)))).other W13 (Or.inl (X16.ne (i := 1) (j := 0) rfl rfl (by decide)))).other W16 (Or.inl (X16.ne (i := 1) (j := 0) rfl rfl (by decide))))
  have F21 : Fld Z h16 a1 "java/lang/String" "coder" "B" (.int 0) := ((((D5.ext E6).other W10 (Or.inl (X16.ne (i := 1) (j := 0) rfl rfl (by decide)))).other W13 (Or.inl (X16.ne (i := 1) (j := 0) rfl rfl (by decide)))).other W16 (Or.inl (X16.ne (i := 1) (j := 0) rfl rfl (by decide))))
  refine X16.callC hx rfl (w144 cx) (w145 cx) (w146 cx) (by decide) (pay_new (W := 1) (hws cx) (w2 cx) (cs := [(p1 &&& (255 : Int32)), (p2 &&& (255 : Int32)), (p3 &&& (255 : Int32))]) (n := 3) (X16.ge (List.mem_of_getElem? (i := 1) rfl)) X16.n0le (List.mem_of_getElem? (i := 1) rfl) F19 F20 F21 V18 (X16.sta (S_C cx)) (N_C cx) rfl rfl (nle rfl) (nle rfl) (fcS (rng255 p1) (fcS (rng255 p2) (fcS (rng255 p3) fc0))) (nle rfl) (nle rfl)) (by rw [hml]; rfl) (argsL := [.ref a6]) (rest := [.ref a1]) (lenOf pd26 rfl) rfl rfl (Nat.le_of_eq rfl) (hb hby at_138) (nle rfl) (nle rfl) ?_
  rintro T22 h22 _ _ _ X22 ⟨a23, rfl, rfl, rfl, J22, G24⟩
  have K25 : Keep h h22 [] := K17.trans J22 (allS (Or.inr ge2) all0)
  refine P.astore X22 hx 143 #[.val (.int p0), .val (.int p1), .val (.int p2), .val (.int p3), .val (.int 1), .val (.int 0), .val (.int 3), .val (.int (p1 &&& (255 : Int32))), .val (.int (p2 &&& (255 : Int32))), .val (.int (p3 &&& (255 : Int32))), .val (.ref a1), .unset, .unset] (hb hby at_141) rfl rfl rfl ?_
  have X26 := WS.drop (A := [a6]) (B := WL) X22
  refine P.iload X26 hx 145 (hb hby at_143) rfl rfl ?_
  refine P.ifNo X26 hx 148 (hb hby at_145) (by decide) rfl ?_
  refine P.iload X26 hx 150 (hb hby at_148) rfl rfl ?_
  refine P.ifYes X26 hx 160 (hb hby at_150) (by decide) (by decide) (by decide) ?_
  refine X26.ldc hx (w213 cx) (strAtoms cx) (by decide) (vs := [(.int 32), (.int 111), (.int 102), (.int 102), (.int 115), (.int 101), (.int 116), (.int 32), (.int 63), (.int 32), (.int 114), (.int 111), (.int 119), (.int 115)]) (z := (14 : Int32)) ⟨by decide, by decide⟩ (by decide) rfl (hb hby at_160) (n := 56) (nle rfl) (nle rfl) (nle rfl) (nle rfl) ?_
  intro T27 h27 a27 b27 k27 X27 E27 A27 C27 V27 B27
  have K28 : Keep h h27 [] := K25.ext E27
  refine P.astore X27 hx 164 #[.val (.int p0), .val (.int p1), .val (.int p2), .val (.int p3), .val (.int 1), .val (.int 0), .val (.int 3), .val (.int (p1 &&& (255 : Int32))), .val (.int (p2 &&& (255 : Int32))), .val (.int (p3 &&& (255 : Int32))), .val (.ref a1), .val (.ref a27), .unset] (hb hby at_162) rfl rfl rfl ?_
  refine P.goto X27 hx 183 (hb hby at_164) (by decide) (by decide) ?_
  have S29 : StrL Z h27 a27 b27 [(32 : Int32), 111, 102, 102, 115, 101, 116, 32, 63, 32, 114, 111, 119, 115] := ⟨A27, V27, C27, ⟨_, B27⟩, (by decide), nle rfl⟩
  refine P.aload X27 hx 185 (hb hby at_183) rfl rfl rfl ?_
  refine P.iload X27 hx 187 (hb hby at_185) rfl rfl ?_
  refine P.iload X27 hx 189 (hb hby at_187) rfl rfl ?_
  have F30 : StrL Z h27 a1 a23 [(p1 &&& (255 : Int32)), (p2 &&& (255 : Int32)), (p3 &&& (255 : Int32))] := (G24.ext E27)
  refine X27.callS hx (w8 cx) (w9 cx) (w10 cx) (w11 cx) (by decide) (Ct.pay (W := 0) (ct_pag10 cx a1 a23 ([(p1 &&& (255 : Int32)), (p2 &&& (255 : Int32)), (p3 &&& (255 : Int32))]) h27 _ _ F30 (List.mem_of_getElem? (i := 2) rfl) (List.mem_of_getElem? (i := 3) rfl) (nle rfl)) (w11 cx) (w10 cx) (nle rfl) (nle rfl)) (by rw [hml]; rfl) (argsL := [.ref a1, .int 1, .int 0]) (rest := []) (lenOf pd24 rfl) rfl rfl (Nat.le_of_eq rfl) (hb hby at_189) (nle rfl) (nle rfl) ?_
  rintro T31 h31 _ _ _ X31 ⟨a32, a33, rfl, rfl, rfl, J31, g35, G34⟩
  have ge36 : h.size ≤ a32 := Nat.le_trans K28.1 g35
  have K37 : Keep h h31 [] := K28.trans J31 all0
  have S38 : StrL Z h31 a32 a33 [(p1 &&& (255 : Int32)), (p2 &&& (255 : Int32)), (p3 &&& (255 : Int32)), 32, 111, 102, 102, 115, 101, 116, 32, 63, 32, 114, 111, 119, 115] := G34
  refine P.astore X31 hx 194 #[.val (.int p0), .val (.int p1), .val (.int p2), .val (.int p3), .val (.int 1), .val (.int 0), .val (.int 3), .val (.int (p1 &&& (255 : Int32))), .val (.int (p2 &&& (255 : Int32))), .val (.int (p3 &&& (255 : Int32))), .val (.ref a1), .val (.ref a27), .val (.ref a32)] (hb hby at_192) rfl rfl rfl ?_
  refine P.aload X31 hx 196 (hb hby at_194) rfl rfl rfl ?_
  refine P.ifnonnullYes X31 hx 201 (hb hby at_196) (by decide) (by decide) ?_
  refine P.aload X31 hx 203 (hb hby at_201) rfl rfl rfl ?_
  refine X31.callV hx (w134 cx) (w28 cx) (w30 cx) (w29 cx) (fun _ hZ => nf hZ (w30 cx)) (by decide) S38.1 (pay_len (W := 0) (hln cx) (w2 cx) S38 (X31.sta (S_C cx)) (N_C cx) (nle rfl) (nle rfl)) (by rw [hml]; rfl) (argsL := []) (rest := []) (lenOf pd7 rfl) rfl rfl (Nat.le_of_eq rfl) (hb hby at_203) (nle rfl) (nle rfl) ?_
  rintro T39 h39 _ _ _ X39 ⟨rfl, rfl, rfl, J39⟩
  rw [J39] at X39
  show Wo _ _ _ _ _ _ _ _ _ _ _ T39 (mkF m 206 #[.val (.int p0), .val (.int p1), .val (.int p2), .val (.int p3), .val (.int 1), .val (.int 0), .val (.int 3), .val (.int (p1 &&& (255 : Int32))), .val (.int (p2 &&& (255 : Int32))), .val (.int (p3 &&& (255 : Int32))), .val (.ref a1), .val (.ref a27), .val (.ref a32)] [.int 17])
  refine P.iload X39 hx 208 (hb hby at_206) rfl rfl ?_
  refine P.aload X39 hx 210 (hb hby at_208) rfl rfl rfl ?_
  have F40 : Exa Z h31 a27 "java/lang/String" := (S29.1.keep J31)
  have F41 : StrL Z h31 a27 b27 [(32 : Int32), 111, 102, 102, 115, 101, 116, 32, 63, 32, 114, 111, 119, 115] := (S29.keep J31 nin0 nin0)
  refine X39.callV hx (w134 cx) (w28 cx) (w30 cx) (w29 cx) (fun _ hZ => nf hZ (w30 cx)) (by decide) F40 (pay_len (W := 2) (hln cx) (w2 cx) F41 (X39.sta (S_C cx)) (N_C cx) (nle rfl) (nle rfl)) (by rw [hml]; rfl) (argsL := []) (rest := [.int 3, .int 17]) (lenOf pd7 rfl) rfl rfl (Nat.le_of_eq rfl) (hb hby at_210) (nle rfl) (nle rfl) ?_
  rintro T42 h42 _ _ _ X42 ⟨rfl, rfl, rfl, J42⟩
  rw [J42] at X42
  show Wo _ _ _ _ _ _ _ _ _ _ _ T42 (mkF m 213 #[.val (.int p0), .val (.int p1), .val (.int p2), .val (.int p3), .val (.int 1), .val (.int 0), .val (.int 3), .val (.int (p1 &&& (255 : Int32))), .val (.int (p2 &&& (255 : Int32))), .val (.int (p3 &&& (255 : Int32))), .val (.ref a1), .val (.ref a27), .val (.ref a32)] [.int 14, .int 3, .int 17])
  refine P.iadd X42 hx 214 (z := (17 : Int32)) (hb hby at_213) rfl rfl ?_
  refine P.icmpNo X42 hx 217 (hb hby at_214) (by decide) rfl ?_
  refine P.iload X42 hx 219 (hb hby at_217) rfl rfl ?_
  refine P.iconst X42 hx 220 1 (hb hby at_219) rfl rfl ?_
  refine P.icmpNo X42 hx 223 (hb hby at_220) (by decide) rfl ?_
  refine P.aload X42 hx 225 (hb hby at_223) rfl rfl rfl ?_
  refine P.iconst X42 hx 226 0 (hb hby at_225) rfl rfl ?_
  refine X42.callV hx (w160 cx) (w161 cx) (w163 cx) (w162 cx) (fun _ hZ => nf hZ (w163 cx)) (by decide) S38.1 (pay_chr (W := 0) (hch cx) (w2 cx) S38 (X42.sta (S_C cx)) (N_C cx) (X42.sta (S_F cx)) (R_F cx) (i := 0) (nlt rfl) rfl (nle rfl) (nle rfl)) (by rw [hml]; rfl) (argsL := [.int 0]) (rest := []) (lenOf pd22 rfl) rfl rfl (Nat.le_of_eq rfl) (hb hby at_226) (nle rfl) (nle rfl) ?_
  rintro T43 h43 _ _ _ X43 ⟨rfl, rfl, rfl, J43⟩
  rw [J43] at X43
  show Wo _ _ _ _ _ _ _ _ _ _ _ T43 (mkF m 229 #[.val (.int p0), .val (.int p1), .val (.int p2), .val (.int p3), .val (.int 1), .val (.int 0), .val (.int 3), .val (.int (p1 &&& (255 : Int32))), .val (.int (p2 &&& (255 : Int32))), .val (.int (p3 &&& (255 : Int32))), .val (.ref a1), .val (.ref a27), .val (.ref a32)] [.int (p1 &&& (255 : Int32))])
  refine P.iload X43 hx 231 (hb hby at_229) rfl rfl ?_
  refine P.icmpNo X43 hx 234 (hb hby at_231) (teq rfl).2 rfl ?_
  refine P.iload X43 hx 236 (hb hby at_234) rfl rfl ?_
  refine P.iconst X43 hx 237 2 (hb hby at_236) rfl rfl ?_
  refine P.icmpNo X43 hx 240 (hb hby at_237) (by decide) rfl ?_
  refine P.aload X43 hx 242 (hb hby at_240) rfl rfl rfl ?_
  refine P.iconst X43 hx 243 1 (hb hby at_242) rfl rfl ?_
  refine X43.callV hx (w160 cx) (w161 cx) (w163 cx) (w162 cx) (fun _ hZ => nf hZ (w163 cx)) (by decide) S38.1 (pay_chr (W := 0) (hch cx) (w2 cx) S38 (X43.sta (S_C cx)) (N_C cx) (X43.sta (S_F cx)) (R_F cx) (i := 1) (nlt rfl) rfl (nle rfl) (nle rfl)) (by rw [hml]; rfl) (argsL := [.int 1]) (rest := []) (lenOf pd22 rfl) rfl rfl (Nat.le_of_eq rfl) (hb hby at_243) (nle rfl) (nle rfl) ?_
  rintro T44 h44 _ _ _ X44 ⟨rfl, rfl, rfl, J44⟩
  rw [J44] at X44
  show Wo _ _ _ _ _ _ _ _ _ _ _ T44 (mkF m 246 #[.val (.int p0), .val (.int p1), .val (.int p2), .val (.int p3), .val (.int 1), .val (.int 0), .val (.int 3), .val (.int (p1 &&& (255 : Int32))), .val (.int (p2 &&& (255 : Int32))), .val (.int (p3 &&& (255 : Int32))), .val (.ref a1), .val (.ref a27), .val (.ref a32)] [.int (p2 &&& (255 : Int32))])
  refine P.iload X44 hx 248 (hb hby at_246) rfl rfl ?_
  refine P.icmpNo X44 hx 251 (hb hby at_248) (teq rfl).2 rfl ?_
  refine P.iload X44 hx 253 (hb hby at_251) rfl rfl ?_
  refine P.iconst X44 hx 254 3 (hb hby at_253) rfl rfl ?_
  refine P.icmpNo X44 hx 257 (hb hby at_254) (by decide) rfl ?_
  refine P.aload X44 hx 259 (hb hby at_257) rfl rfl rfl ?_
  refine P.iconst X44 hx 260 2 (hb hby at_259) rfl rfl ?_
  refine X44.callV hx (w160 cx) (w161 cx) (w163 cx) (w162 cx) (fun _ hZ => nf hZ (w163 cx)) (by decide) S38.1 (pay_chr (W := 0) (hch cx) (w2 cx) S38 (X44.sta (S_C cx)) (N_C cx) (X44.sta (S_F cx)) (R_F cx) (i := 2) (nlt rfl) rfl (nle rfl) (nle rfl)) (by rw [hml]; rfl) (argsL := [.int 2]) (rest := []) (lenOf pd22 rfl) rfl rfl (Nat.le_of_eq rfl) (hb hby at_260) (nle rfl) (nle rfl) ?_
  rintro T45 h45 _ _ _ X45 ⟨rfl, rfl, rfl, J45⟩
  rw [J45] at X45
  show Wo _ _ _ _ _ _ _ _ _ _ _ T45 (mkF m 263 #[.val (.int p0), .val (.int p1), .val (.int p2), .val (.int p3), .val (.int 1), .val (.int 0), .val (.int 3), .val (.int (p1 &&& (255 : Int32))), .val (.int (p2 &&& (255 : Int32))), .val (.int (p3 &&& (255 : Int32))), .val (.ref a1), .val (.ref a27), .val (.ref a32)] [.int (p3 &&& (255 : Int32))])
  refine P.iload X45 hx 265 (hb hby at_263) rfl rfl ?_
  refine P.icmpNo X45 hx 268 (hb hby at_265) (teq rfl).2 rfl ?_
  refine P.aload X45 hx 270 (hb hby at_268) rfl rfl rfl ?_
  refine P.iload X45 hx 272 (hb hby at_270) rfl rfl ?_
  refine P.aload X45 hx 274 (hb hby at_272) rfl rfl rfl ?_
  refine P.iconst X45 hx 275 0 (hb hby at_274) rfl rfl ?_
  refine X45.callS hx (w135 cx) (w136 cx) (w137 cx) (w138 cx) (by decide) (Ct.pay (W := 0) (ct_quad cx a32 a33 a27 b27 ([(p1 &&& (255 : Int32)), (p2 &&& (255 : Int32)), (p3 &&& (255 : Int32))]) ([(32 : Int32), 111, 102, 102, 115, 101, 116, 32, 63, 32, 114, 111, 119, 115]) (3 : Int32) 0 (0 : Int32) h31 _ _ S38 F41 rfl rfl (nle rfl) (nle rfl)) (w138 cx) (w137 cx) (nle rfl) (nle rfl)) (by rw [hml]; rfl) (argsL := [.ref a32, .int 3, .ref a27, .int 0]) (rest := []) (lenOf pd23 rfl) rfl rfl (Nat.le_of_eq rfl) (hb hby at_275) (nle rfl) (nle rfl) ?_
  rintro T46 h46 _ _ _ X46 ⟨rfl, rfl, rfl, J46⟩
  rw [J46] at X46
  refine P.ifNo X46 hx 281 (hb hby at_278) (by decide) rfl ?_
  refine P.aload X46 hx 283 (hb hby at_281) rfl rfl rfl ?_
  refine P.iload X46 hx 285 (hb hby at_283) rfl rfl ?_
  refine P.aload X46 hx 287 (hb hby at_285) rfl rfl rfl ?_
  refine P.iconst X46 hx 288 4 (hb hby at_287) rfl rfl ?_
  refine X46.callS hx (w135 cx) (w136 cx) (w137 cx) (w138 cx) (by decide) (Ct.pay (W := 0) (ct_quad cx a32 a33 a27 b27 ([(p1 &&& (255 : Int32)), (p2 &&& (255 : Int32)), (p3 &&& (255 : Int32))]) ([(32 : Int32), 111, 102, 102, 115, 101, 116, 32, 63, 32, 114, 111, 119, 115]) (3 : Int32) 4 (4 : Int32) h31 _ _ S38 F41 rfl rfl (nle rfl) (nle rfl)) (w138 cx) (w137 cx) (nle rfl) (nle rfl)) (by rw [hml]; rfl) (argsL := [.ref a32, .int 3, .ref a27, .int 4]) (rest := []) (lenOf pd23 rfl) rfl rfl (Nat.le_of_eq rfl) (hb hby at_288) (nle rfl) (nle rfl) ?_
  rintro T47 h47 _ _ _ X47 ⟨rfl, rfl, rfl, J47⟩
  rw [J47] at X47
  refine P.ifNo X47 hx 294 (hb hby at_291) (by decide) rfl ?_
  refine P.aload X47 hx 296 (hb hby at_294) rfl rfl rfl ?_
  refine P.iload X47 hx 298 (hb hby at_296) rfl rfl ?_
  refine P.aload X47 hx 300 (hb hby at_298) rfl rfl rfl ?_
  refine P.bipush X47 hx 302 8 (hb hby at_300) rfl rfl ?_
  refine X47.callS hx (w135 cx) (w136 cx) (w137 cx) (w138 cx) (by decide) (Ct.pay (W := 0) (ct_quad cx a32 a33 a27 b27 ([(p1 &&& (255 : Int32)), (p2 &&& (255 : Int32)), (p3 &&& (255 : Int32))]) ([(32 : Int32), 111, 102, 102, 115, 101, 116, 32, 63, 32, 114, 111, 119, 115]) (3 : Int32) 8 (8 : Int32) h31 _ _ S38 F41 rfl rfl (nle rfl) (nle rfl)) (w138 cx) (w137 cx) (nle rfl) (nle rfl)) (by rw [hml]; rfl) (argsL := [.ref a32, .int 3, .ref a27, .int 8]) (rest := []) (lenOf pd23 rfl) rfl rfl (Nat.le_of_eq rfl) (hb hby at_302) (nle rfl) (nle rfl) ?_
  rintro T48 h48 _ _ _ X48 ⟨rfl, rfl, rfl, J48⟩
  rw [J48] at X48
  refine P.ifNo X48 hx 308 (hb hby at_305) (by decide) rfl ?_
  refine P.aload X48 hx 310 (hb hby at_308) rfl rfl rfl ?_
  refine P.iload X48 hx 312 (hb hby at_310) rfl rfl ?_
  refine P.aload X48 hx 314 (hb hby at_312) rfl rfl rfl ?_
  refine P.bipush X48 hx 316 12 (hb hby at_314) rfl rfl ?_
  refine X48.callS hx (w135 cx) (w136 cx) (w137 cx) (w138 cx) (by decide) (Ct.pay (W := 0) (ct_quad cx a32 a33 a27 b27 ([(p1 &&& (255 : Int32)), (p2 &&& (255 : Int32)), (p3 &&& (255 : Int32))]) ([(32 : Int32), 111, 102, 102, 115, 101, 116, 32, 63, 32, 114, 111, 119, 115]) (3 : Int32) 12 (12 : Int32) h31 _ _ S38 F41 rfl rfl (nle rfl) (nle rfl)) (w138 cx) (w137 cx) (nle rfl) (nle rfl)) (by rw [hml]; rfl) (argsL := [.ref a32, .int 3, .ref a27, .int 12]) (rest := []) (lenOf pd23 rfl) rfl rfl (Nat.le_of_eq rfl) (hb hby at_316) (nle rfl) (nle rfl) ?_
  rintro T49 h49 _ _ _ X49 ⟨rfl, rfl, rfl, J49⟩
  rw [J49] at X49
  refine P.ifNo X49 hx 322 (hb hby at_319) (by decide) rfl ?_
  refine P.aload X49 hx 324 (hb hby at_322) rfl rfl rfl ?_
  refine P.iload X49 hx 326 (hb hby at_324) rfl rfl ?_
  refine P.aload X49 hx 328 (hb hby at_326) rfl rfl rfl ?_
  refine P.bipush X49 hx 330 16 (hb hby at_328) rfl rfl ?_
  refine X49.callS hx (w135 cx) (w136 cx) (w137 cx) (w138 cx) (by decide) (Ct.pay (W := 0) (ct_quad cx a32 a33 a27 b27 ([(p1 &&& (255 : Int32)), (p2 &&& (255 : Int32)), (p3 &&& (255 : Int32))]) ([(32 : Int32), 111, 102, 102, 115, 101, 116, 32, 63, 32, 114, 111, 119, 115]) (3 : Int32) 16 (16 : Int32) h31 _ _ S38 F41 rfl rfl (nle rfl) (nle rfl)) (w138 cx) (w137 cx) (nle rfl) (nle rfl)) (by rw [hml]; rfl) (argsL := [.ref a32, .int 3, .ref a27, .int 16]) (rest := []) (lenOf pd23 rfl) rfl rfl (Nat.le_of_eq rfl) (hb hby at_330) (nle rfl) (nle rfl) ?_
  rintro T50 h50 _ _ _ X50 ⟨rfl, rfl, rfl, J50⟩
  rw [J50] at X50
  refine P.ifNo X50 hx 336 (hb hby at_333) (by decide) rfl ?_
  refine P.aload X50 hx 338 (hb hby at_336) rfl rfl rfl ?_
  refine P.iload X50 hx 340 (hb hby at_338) rfl rfl ?_
  refine P.aload X50 hx 342 (hb hby at_340) rfl rfl rfl ?_
  refine P.bipush X50 hx 344 20 (hb hby at_342) rfl rfl ?_
  refine X50.callS hx (w135 cx) (w136 cx) (w137 cx) (w138 cx) (by decide) (Ct.pay (W := 0) (ct_quad cx a32 a33 a27 b27 ([(p1 &&& (255 : Int32)), (p2 &&& (255 : Int32)), (p3 &&& (255 : Int32))]) ([(32 : Int32), 111, 102, 102, 115, 101, 116, 32, 63, 32, 114, 111, 119, 115]) (3 : Int32) 20 (20 : Int32) h31 _ _ S38 F41 rfl rfl (nle rfl) (nle rfl)) (w138 cx) (w137 cx) (nle rfl) (nle rfl)) (by rw [hml]; rfl) (argsL := [.ref a32, .int 3, .ref a27, .int 20]) (rest := []) (lenOf pd23 rfl) rfl rfl (Nat.le_of_eq rfl) (hb hby at_344) (nle rfl) (nle rfl) ?_
  rintro T51 h51 _ _ _ X51 ⟨rfl, rfl, rfl, J51⟩
  rw [J51] at X51
  refine P.ifNo X51 hx 350 (hb hby at_347) (by decide) rfl ?_
  refine P.aload X51 hx 352 (hb hby at_350) rfl rfl rfl ?_
  refine P.iload X51 hx 354 (hb hby at_352) rfl rfl ?_
  refine P.aload X51 hx 356 (hb hby at_354) rfl rfl rfl ?_
  refine P.bipush X51 hx 358 24 (hb hby at_356) rfl rfl ?_
  refine X51.callS hx (w135 cx) (w136 cx) (w137 cx) (w138 cx) (by decide) (Ct.pay (W := 0) (ct_quad cx a32 a33 a27 b27 ([(p1 &&& (255 : Int32)), (p2 &&& (255 : Int32)), (p3 &&& (255 : Int32))]) ([(32 : Int32), 111, 102, 102, 115, 101, 116, 32, 63, 32, 114, 111, 119, 115]) (3 : Int32) 24 (24 : Int32) h31 _ _ S38 F41 rfl rfl (nle rfl) (nle rfl)) (w138 cx) (w137 cx) (nle rfl) (nle rfl)) (by rw [hml]; rfl) (argsL := [.ref a32, .int 3, .ref a27, .int 24]) (rest := []) (lenOf pd23 rfl) rfl rfl (Nat.le_of_eq rfl) (hb hby at_358) (nle rfl) (nle rfl) ?_
  rintro T52 h52 _ _ _ X52 ⟨rfl, rfl, rfl, J52⟩
  rw [J52] at X52
  refine P.ifNo X52 hx 364 (hb hby at_361) (by decide) rfl ?_
  refine P.aload X52 hx 366 (hb hby at_364) rfl rfl rfl ?_
  refine P.iload X52 hx 368 (hb hby at_366) rfl rfl ?_
  refine P.aload X52 hx 370 (hb hby at_368) rfl rfl rfl ?_
  refine P.bipush X52 hx 372 28 (hb hby at_370) rfl rfl ?_
  refine X52.callS hx (w135 cx) (w136 cx) (w137 cx) (w138 cx) (by decide) (Ct.pay (W := 0) (ct_quad cx a32 a33 a27 b27 ([(p1 &&& (255 : Int32)), (p2 &&& (255 : Int32)), (p3 &&& (255 : Int32))]) ([(32 : Int32), 111, 102, 102, 115, 101, 116, 32, 63, 32, 114, 111, 119, 115]) (3 : Int32) 28 (28 : Int32) h31 _ _ S38 F41 rfl rfl (nle rfl) (nle rfl)) (w138 cx) (w137 cx) (nle rfl) (nle rfl)) (by rw [hml]; rfl) (argsL := [.ref a32, .int 3, .ref a27, .int 28]) (rest := []) (lenOf pd23 rfl) rfl rfl (Nat.le_of_eq rfl) (hb hby at_372) (nle rfl) (nle rfl) ?_
  rintro T53 h53 _ _ _ X53 ⟨rfl, rfl, rfl, J53⟩
  rw [J53] at X53
  refine P.ifNo X53 hx 378 (hb hby at_375) (by decide) rfl ?_
  refine P.aload X53 hx 380 (hb hby at_378) rfl rfl rfl ?_
  refine P.iload X53 hx 382 (hb hby at_380) rfl rfl ?_
  refine P.aload X53 hx 384 (hb hby at_382) rfl rfl rfl ?_
  refine P.bipush X53 hx 386 32 (hb hby at_384) rfl rfl ?_
  refine X53.callS hx (w135 cx) (w136 cx) (w137 cx) (w138 cx) (by decide) (Ct.pay (W := 0) (ct_quad cx a32 a33 a27 b27 ([(p1 &&& (255 : Int32)), (p2 &&& (255 : Int32)), (p3 &&& (255 : Int32))]) ([(32 : Int32), 111, 102, 102, 115, 101, 116, 32, 63, 32, 114, 111, 119, 115]) (3 : Int32) 32 (32 : Int32) h31 _ _ S38 F41 rfl rfl (nle rfl) (nle rfl)) (w138 cx) (w137 cx) (nle rfl) (nle rfl)) (by rw [hml]; rfl) (argsL := [.ref a32, .int 3, .ref a27, .int 32]) (rest := []) (lenOf pd23 rfl) rfl rfl (Nat.le_of_eq rfl) (hb hby at_386) (nle rfl) (nle rfl) ?_
  rintro T54 h54 _ _ _ X54 ⟨rfl, rfl, rfl, J54⟩
  rw [J54] at X54
  refine P.ifNo X54 hx 392 (hb hby at_389) (by decide) rfl ?_
  refine P.aload X54 hx 394 (hb hby at_392) rfl rfl rfl ?_
  refine P.iload X54 hx 396 (hb hby at_394) rfl rfl ?_
  refine P.aload X54 hx 398 (hb hby at_396) rfl rfl rfl ?_
  refine P.bipush X54 hx 400 36 (hb hby at_398) rfl rfl ?_
  refine X54.callS hx (w135 cx) (w136 cx) (w137 cx) (w138 cx) (by decide) (Ct.pay (W := 0) (ct_quad cx a32 a33 a27 b27 ([(p1 &&& (255 : Int32)), (p2 &&& (255 : Int32)), (p3 &&& (255 : Int32))]) ([(32 : Int32), 111, 102, 102, 115, 101, 116, 32, 63, 32, 114, 111, 119, 115]) (3 : Int32) 36 (36 : Int32) h31 _ _ S38 F41 rfl rfl (nle rfl) (nle rfl)) (w138 cx) (w137 cx) (nle rfl) (nle rfl)) (by rw [hml]; rfl) (argsL := [.ref a32, .int 3, .ref a27, .int 36]) (rest := []) (lenOf pd23 rfl) rfl rfl (Nat.le_of_eq rfl) (hb hby at_400) (nle rfl) (nle rfl) ?_
  rintro T55 h55 _ _ _ X55 ⟨rfl, rfl, rfl, J55⟩
  rw [J55] at X55
  refine P.ifNo X55 hx 406 (hb hby at_403) (by decide) rfl ?_
  refine P.iconst X55 hx 407 1 (hb hby at_406) rfl rfl ?_
  refine P.goto X55 hx 411 (hb hby at_407) (by decide) (by decide) ?_
  have X56 := WS.drop (A := []) (B := (a6 :: WL)) X55
  have X57 := WS.drop (A := []) (B := WL) X56
  have X58 := WS.fl (FL2 := FL) X57 (fun y hy => (List.mem_append_right [a6, a32, a33, a27, b27, a1, a23] hy))
  exact WS.retN X58 (WL' := []) (FL' := []) hx (t := .boolean) hret (by simp) hlk (hb hby at_411) (nle rfl) (nle rfl) ⟨rfl, rfl, rfl, K37⟩
set_option maxRecDepth 65536 in
set_option maxHeartbeats 4000000 in
theorem ct_law_311 {l : Launch} {Z : State} {a0 : Array Value} {gC : Int32} {gF : Value} (cx : Cx a0 Z gC gF) {n0 : Nat} (p0 : Int32) (p1 : Int32) (p2 : Int32) (p3 : Int32) (h : Heap) (WL FL : List Addr)  (en : (((p0.toUInt32 >>> ((2 : Int32) &&& 31).toUInt32).toInt32) &&& (3 : Int32)) = (3 : Int32)) (es : ¬ (p0 &&& (1 : Int32)) = (0 : Int32)) (el : ¬ (p0 &&& (2 : Int32)) = (0 : Int32)) :
    Ct l Z EL1 n0 x code maxLocals ret room_1 #[(.int p0), (.int p1), (.int p2), (.int p3)] h WL FL (Q_law Z gC gF p0 p1 p2 p3 h) := by
  refine Ct.of (plainFor_of_name pn7) ?_
  intro p e s m below meth c s1 hx hby hml hnm hret hlk X0
  refine Wo.cast (f' := (mkF m 0 #[.val (.int p0), .val (.int p1), .val (.int p2), .val (.int p3), .unset, .unset, .unset, .unset, .unset, .unset, .unset, .unset, .unset] [])) (by first | rfl | (simp [entryFrame, mkF, argsToLocals, Value.category]; done)) ?_
  have K0 : Keep h h [] := Keep.refl _ _
  show Wo _ _ _ _ _ _ _ _ _ _ _ s1 (mkF m 0 #[.val (.int p0), .val (.int p1), .val (.int p2), .val (.int p3), .unset, .unset, .unset, .unset, .unset, .unset, .unset, .unset, .unset] [])
  refine P.iloadN X0 hx 1 (hb hby at_0) rfl rfl ?_
  refine P.iconst X0 hx 2 1 (hb hby at_1) rfl rfl ?_
  refine P.iand X0 hx 3 (z := (p0 &&& (1 : Int32))) (hb hby at_2) rfl rfl ?_
  refine P.ifNo X0 hx 6 (hb hby at_3) ((if0 _ _).trans (feq es).1) rfl ?_
  refine P.iconst X0 hx 7 1 (hb hby at_6) rfl rfl ?_
  refine P.goto X0 hx 11 (hb hby at_7) (by decide) (by decide) ?_
  refine P.istore X0 hx 13 #[.val (.int p0), .val (.int p1), .val (.int p2), .val (.int p3), .val (.int 1), .unset, .unset, .unset, .unset, .unset, .unset, .unset, .unset] (hb hby at_11) rfl rfl ?_
  refine P.iloadN X0 hx 14 (hb hby at_13) rfl rfl ?_
  refine P.iconst X0 hx 15 2 (hb hby at_14) rfl rfl ?_
  refine P.iand X0 hx 16 (z := (p0 &&& (2 : Int32))) (hb hby at_15) rfl rfl ?_
  refine P.ifNo X0 hx 19 (hb hby at_16) ((if0 _ _).trans (feq el).1) rfl ?_
  refine P.iconst X0 hx 20 1 (hb hby at_19) rfl rfl ?_
  refine P.goto X0 hx 24 (hb hby at_20) (by decide) (by decide) ?_
  refine P.istore X0 hx 26 #[.val (.int p0), .val (.int p1), .val (.int p2), .val (.int p3), .val (.int 1), .val (.int 1), .unset, .unset, .unset, .unset, .unset, .unset, .unset] (hb hby at_24) rfl rfl ?_
  refine P.iloadN X0 hx 27 (hb hby at_26) rfl rfl ?_
  refine P.iconst X0 hx 28 2 (hb hby at_27) rfl rfl ?_
  refine P.iushr X0 hx 29 (z := ((p0.toUInt32 >>> ((2 : Int32) &&& 31).toUInt32).toInt32)) (hb hby at_28) rfl rfl ?_
  refine P.iconst X0 hx 30 3 (hb hby at_29) rfl rfl ?_
  refine P.iand X0 hx 31 (z := (3 : Int32)) (hb hby at_30) (by rw [en]) rfl ?_
  refine P.istore X0 hx 33 #[.val (.int p0), .val (.int p1), .val (.int p2), .val (.int p3), .val (.int 1), .val (.int 1), .val (.int 3), .unset, .unset, .unset, .unset, .unset, .unset] (hb hby at_31) rfl rfl ?_
  refine P.iloadN X0 hx 34 (hb hby at_33) rfl rfl ?_
  refine P.sipush X0 hx 37 255 (hb hby at_34) rfl rfl ?_
  refine P.iand X0 hx 38 (z := (p1 &&& (255 : Int32))) (hb hby at_37) rfl rfl ?_
  refine P.i2c X0 hx 39 (z := (p1 &&& (255 : Int32))) (hb hby at_38) (by rw [i2c_mask]) rfl ?_
  refine P.istore X0 hx 41 #[.val (.int p0), .val (.int p1), .val (.int p2), .val (.int p3), .val (.int 1), .val (.int 1), .val (.int 3), .val (.int (p1 &&& (255 : Int32))), .unset, .unset, .unset, .unset, .unset] (hb hby at_39) rfl rfl ?_
  refine P.iloadN X0 hx 42 (hb hby at_41) rfl rfl ?_
  refine P.sipush X0 hx 45 255 (hb hby at_42) rfl rfl ?_
  refine P.iand X0 hx 46 (z := (p2 &&& (255 : Int32))) (hb hby at_45) rfl rfl ?_
  refine P.i2c X0 hx 47 (z := (p2 &&& (255 : Int32))) (hb hby at_46) (by rw [i2c_mask]) rfl ?_
  refine P.istore X0 hx 49 #[.val (.int p0), .val (.int p1), .val (.int p2), .val (.int p3), .val (.int 1), .val (.int 1), .val (.int 3), .val (.int (p1 &&& (255 : Int32))), .val (.int (p2 &&& (255 : Int32))), .unset, .unset, .unset, .unset] (hb hby at_47) rfl rfl ?_
  refine P.iloadN X0 hx 50 (hb hby at_49) rfl rfl ?_
  refine P.sipush X0 hx 53 255 (hb hby at_50) rfl rfl ?_
  refine P.iand X0 hx 54 (z := (p3 &&& (255 : Int32))) (hb hby at_53) rfl rfl ?_
  refine P.i2c X0 hx 55 (z := (p3 &&& (255 : Int32))) (hb hby at_54) (by rw [i2c_mask]) rfl ?_
  refine P.istore X0 hx 57 #[.val (.int p0), .val (.int p1), .val (.int p2), .val (.int p3), .val (.int 1), .val (.int 1), .val (.int 3), .val (.int (p1 &&& (255 : Int32))), .val (.int (p2 &&& (255 : Int32))), .val (.int (p3 &&& (255 : Int32))), .unset, .unset, .unset] (hb hby at_55) rfl rfl ?_
  refine P.iload X0 hx 59 (hb hby at_57) rfl rfl ?_
  refine P.ifYes X0 hx 69 (hb hby at_59) (by decide) (by decide) (by decide) ?_
  refine P.iload X0 hx 71 (hb hby at_69) rfl rfl ?_
  refine P.iconst X0 hx 72 1 (hb hby at_71) rfl rfl ?_
  refine P.icmpYes X0 hx 85 (hb hby at_72) (by decide) (by decide) (by decide) ?_
  refine P.iload X0 hx 87 (hb hby at_85) rfl rfl ?_
  refine P.iconst X0 hx 88 2 (hb hby at_87) rfl rfl ?_
  refine P.icmpYes X0 hx 116 (hb hby at_88) (by decide) (by decide) (by decide) ?_
  refine X0.newO hx (w142 cx) (w2 cx) (w1 cx) (hb hby at_116) (nle rfl) (nle rfl) ?_
  intro T1 h1 a1 X1 E1 g1 A1 D1
  have ge2 : h.size ≤ a1 := Nat.le_trans K0.1 g1
  have K3 : Keep h h1 [] := K0.ext E1
  have D4 : Fld Z h1 a1 "java/lang/String" "value" "[B" .null := D1 (Or.inr (w4 cx)) (ty := (.array .byte)) (by decide)
  have D5 : Fld Z h1 a1 "java/lang/String" "coder" "B" (.int 0) := D1 (Or.inr (w5 cx)) (ty := .byte) (by decide)
  refine P.dup X1 hx 120 (hb hby at_119) rfl rfl ?_
  refine P.iconst X1 hx 121 3 (hb hby at_120) rfl rfl ?_
  refine X1.newP (aty := .char) hx (w143 cx) (hb hby at_121) (by decide) (cap := 3) (nle rfl) (nle rfl) (nle rfl) (nle rfl) ?_
  intro T6 h6 a6 k6 X6 E6 g6 A6
  have ge7 : h.size ≤ a6 := Nat.le_trans K3.1 g6
  have K8 : Keep h h6 [] := K3.ext E6
  have V9 : Arv Z h6 a6 k6 .char (3 : Int32) [(.int 0), (.int 0), (.int 0)] (.int 0) := Arv.pad A6 (pad_rep [] _ 3)
  refine P.dup X6 hx 124 (hb hby at_123) rfl rfl ?_
  refine P.iconst X6 hx 125 0 (hb hby at_124) rfl rfl ?_
  refine P.iload X6 hx 127 (hb hby at_125) rfl rfl ?_
  refine X6.stC hx V9 (j := (0 : Int32)) (x := (p1 &&& (255 : Int32))) (i := 0) (by decide) rfl (nlt rfl) (List.mem_of_getElem? (i := 0) rfl) (hb hby at_127) ?_
  intro T10 h10 X10 W10 G10
  have K11 : Keep h h10 [] := K8.wr W10 (Or.inr ge7)
  have V12 : Arv Z h10 a6 k6 .char (3 : Int32) [(.int (p1 &&& (255 : Int32))), (.int 0), (.int 0)] (.int 0) := by have q := G10; rw [nar255] at q; exact q
  refine P.dup X10 hx 129 (hb hby at_128) rfl rfl ?_
  refine P.iconst X10 hx 130 1 (hb hby at_129) rfl rfl ?_
  refine P.iload X10 hx 132 (hb hby at_130) rfl rfl ?_
  refine X10.stC hx V12 (j := (1 : Int32)) (x := (p2 &&& (255 : Int32))) (i := 1) (by decide) rfl (nlt rfl) (List.mem_of_getElem? (i := 0) rfl) (hb hby at_132) ?_
  intro T13 h13 X13 W13 G13
  have K14 : Keep h h13 [] := K11.wr W13 (Or.inr ge7)
  have V15 : Arv Z h13 a6 k6 .char (3 : Int32) [(.int (p1 &&& (255 : Int32))), (.int (p2 &&& (255 : Int32))), (.int 0)] (.int 0) := by have q := G13; rw [nar255] at q; exact q
  refine P.dup X13 hx 134 (hb hby at_133) rfl rfl ?_
  refine P.iconst X13 hx 135 2 (hb hby at_134) rfl rfl ?_
  refine P.iload X13 hx 137 (hb hby at_135) rfl rfl ?_
  refine X13.stC hx V15 (j := (2 : Int32)) (x := (p3 &&& (255 : Int32))) (i := 2) (by decide) rfl (nlt rfl) (List.mem_of_getElem? (i := 0) rfl) (hb hby at_137) ?_
  intro T16 h16 X16 W16 G16
  have K17 : Keep h h16 [] := K14.wr W16 (Or.inr ge7)
  have V18 : Arv Z h16 a6 k6 .char (3 : Int32) [(.int (p1 &&& (255 : Int32))), (.int (p2 &&& (255 : Int32))), (.int (p3 &&& (255 : Int32)))] (.int 0) := by have q := G16; rw [nar255] at q; exact q
  have F19 : Exa Z h16 a1 "java/lang/String" := ((((A1.ext E6).wr W10).wr W13).wr W16)
  have F20 : Fld Z h16 a1 "java/lang/String" "value" "[B" .null := ((((D4.ext E6).other W10 (Or.inl (X16.ne (i := 1) (j := 0) rfl rfl (by decide)))).other W13 (Or.inl (X16.ne (i := 1) (j := 0) rfl rfl (by decide)))).other W16 (Or.inl (X16.ne (i := 1) (j := 0) rfl rfl (by decide))))
  have F21 : Fld Z h16 a1 "java/lang/String" "coder" "B" (.int 0) := ((((D5.ext E6).other W10 (Or.inl (X16.ne (i := 1) (j := 0) rfl rfl (by decide)))).other W13 (Or.inl (X16.ne (i := 1) (j := 0) rfl rfl (by decide)))).other W16 (Or.inl (X16.ne (i := 1) (j := 0) rfl rfl (by decide))))
  refine X16.callC hx rfl (w144 cx) (w145 cx) (w146 cx) (by decide) (pay_new (W := 1) (hws cx) (w2 cx) (cs := [(p1 &&& (255 : Int32)), (p2 &&& (255 : Int32)), (p3 &&& (255 : Int32))]) (n := 3) (X16.ge (List.mem_of_getElem? (i := 1) rfl)) X16.n0le (List.mem_of_getElem? (i := 1) rfl) F19 F20 F21 V18 (X16.sta (S_C cx)) (N_C cx) rfl rfl (nle rfl) (nle rfl) (fcS (rng255 p1) (fcS (rng255 p2) (fcS (rng255 p3) fc0))) (nle rfl) (nle rfl)) (by rw [hml]; rfl) (argsL := [.ref a6]) (rest := [.ref a1]) (lenOf pd26 rfl) rfl rfl (Nat.le_of_eq rfl) (hb hby at_138) (nle rfl) (nle rfl) ?_
  rintro T22 h22 _ _ _ X22 ⟨a23, rfl, rfl, rfl, J22, G24⟩
  have K25 : Keep h h22 [] := K17.trans J22 (allS (Or.inr ge2) all0)
  refine P.astore X22 hx 143 #[.val (.int p0), .val (.int p1), .val (.int p2), .val (.int p3), .val (.int 1), .val (.int 1), .val (.int 3), .val (.int (p1 &&& (255 : Int32))), .val (.int (p2 &&& (255 : Int32))), .val (.int (p3 &&& (255 : Int32))), .val (.ref a1), .unset, .unset] (hb hby at_141) rfl rfl rfl ?_
  have X26 := WS.drop (A := [a6]) (B := WL) X22
  refine P.iload X26 hx 145 (hb hby at_143) rfl rfl ?_
  refine P.ifNo X26 hx 148 (hb hby at_145) (by decide) rfl ?_
  refine P.iload X26 hx 150 (hb hby at_148) rfl rfl ?_
  refine P.ifNo X26 hx 153 (hb hby at_150) (by decide) rfl ?_
  refine X26.ldc hx (w182 cx) (strAtoms cx) (by decide) (vs := [(.int 32), (.int 111), (.int 102), (.int 102), (.int 115), (.int 101), (.int 116), (.int 32), (.int 63), (.int 32), (.int 114), (.int 111), (.int 119), (.int 115), (.int 32), (.int 102), (.int 101), (.int 116), (.int 99), (.int 104), (.int 32), (.int 102), (.int 105), (.int 114), (.int 115), (.int 116), (.int 32), (.int 63), (.int 32), (.int 114), (.int 111), (.int 119), (.int 115), (.int 32), (.int 111), (.int 110), (.int 108), (.int 121)]) (z := (38 : Int32)) ⟨by decide, by decide⟩ (by decide) rfl (hb hby at_153) (n := 152) (nle rfl) (nle rfl) (nle rfl) (nle rfl) ?_
  intro T27 h27 a27 b27 k27 X27 E27 A27 C27 V27 B27
  have K28 : Keep h h27 [] := K25.ext E27
  refine P.astore X27 hx 157 #[.val (.int p0), .val (.int p1), .val (.int p2), .val (.int p3), .val (.int 1), .val (.int 1), .val (.int 3), .val (.int (p1 &&& (255 : Int32))), .val (.int (p2 &&& (255 : Int32))), .val (.int (p3 &&& (255 : Int32))), .val (.ref a1), .val (.ref a27), .unset] (hb hby at_155) rfl rfl rfl ?_
  refine P.goto X27 hx 183 (hb hby at_157) (by decide) (by decide) ?_
  have S29 : StrL Z h27 a27 b27 [(32 : Int32), 111, 102, 102, 115, 101, 116, 32, 63, 32, 114, 111, 119, 115, 32, 102, 101, 116, 99, 104, 32, 102, 105, 114, 115, 116, 32, 63, 32, 114, 111, 119, 115, 32, 111, 110, 108, 121] := ⟨A27, V27, C27, ⟨_, B27⟩, (by decide), nle rfl⟩
  refine P.aload X27 hx 185 (hb hby at_183) rfl rfl rfl ?_
  refine P.iload X27 hx 187 (hb hby at_185) rfl rfl ?_
  refine P.iload X27 hx 189 (hb hby at_187) rfl rfl ?_
  have F30 : StrL Z h27 a1 a23 [(p1 &&& (255 : Int32)), (p2 &&& (255 : Int32)), (p3 &&& (255 : Int32))] := (G24.ext E27)
  refine X27.callS hx (w8 cx) (w9 cx) (w10 cx) (w11 cx) (by decide) (Ct.pay (W := 0) (ct_pag11 cx a1 a23 ([(p1 &&& (255 : Int32)), (p2 &&& (255 : Int32)), (p3 &&& (255 : Int32))]) h27 _ _ F30 (List.mem_of_getElem? (i := 2) rfl) (List.mem_of_getElem? (i := 3) rfl) (nle rfl)) (w11 cx) (w10 cx) (nle rfl) (nle rfl)) (by rw [hml]; rfl) (argsL := [.ref a1, .int 1, .int 1]) (rest := []) (lenOf pd24 rfl) rfl rfl (Nat.le_of_eq rfl) (hb hby at_189) (nle rfl) (nle rfl) ?_
  rintro T31 h31 _ _ _ X31 ⟨a32, a33, rfl, rfl, rfl, J31, g35, G34⟩
  have ge36 : h.size ≤ a32 := Nat.le_trans K28.1 g35
  have K37 : Keep h h31 [] := K28.trans J31 all0
  have S38 : StrL Z h31 a32 a33 [(p1 &&& (255 : Int32)), (p2 &&& (255 : Int32)), (p3 &&& (255 : Int32)), 32, 111, 102, 102, 115, 101, 116, 32, 63, 32, 114, 111, 119, 115, 32, 102, 101, 116, 99, 104, 32, 102, 105, 114, 115, 116, 32, 63, 32, 114, 111, 119, 115, 32, 111, 110, 108, 121] := G34
  refine P.astore X31 hx 194 #[.val (.int p0), .val (.int p1), .val (.int p2), .val (.int p3), .val (.int 1), .val (.int 1), .val (.int 3), .val (.int (p1 &&& (255 : Int32))), .val (.int (p2 &&& (255 : Int32))), .val (.int (p3 &&& (255 : Int32))), .val (.ref a1), .val (.ref a27), .val (.ref a32)] (hb hby at_192) rfl rfl rfl ?_
  refine P.aload X31 hx 196 (hb hby at_194) rfl rfl rfl ?_
  refine P.ifnonnullYes X31 hx 201 (hb hby at_196) (by decide) (by decide) ?_
  refine P.aload X31 hx 203 (hb hby at_201) rfl rfl rfl ?_
  refine X31.callV hx (w134 cx) (w28 cx) (w30 cx) (w29 cx) (fun _ hZ => nf hZ (w30 cx)) (by decide) S38.1 (pay_len (W := 0) (hln cx) (w2 cx) S38 (X31.sta (S_C cx)) (N_C cx) (nle rfl) (nle rfl)) (by rw [hml]; rfl) (argsL := []) (rest := []) (lenOf pd7 rfl) rfl rfl (Nat.le_of_eq rfl) (hb hby at_203) (nle rfl) (nle rfl) ?_
  rintro T39 h39 _ _ _ X39 ⟨rfl, rfl, rfl, J39⟩
  rw [J39] at X39
  show Wo _ _ _ _ _ _ _ _ _ _ _ T39 (mkF m 206 #[.val (.int p0), .val (.int p1), .val (.int p2), .val (.int p3), .val (.int 1), .val (.int 1), .val (.int 3), .val (.int (p1 &&& (255 : Int32))), .val (.int (p2 &&& (255 : Int32))), .val (.int (p3 &&& (255 : Int32))), .val (.ref a1), .val (.ref a27), .val (.ref a32)] [.int 41])
  refine P.iload X39 hx 208 (hb hby at_206) rfl rfl ?_
  refine P.aload X39 hx 210 (hb hby at_208) rfl rfl rfl ?_
  have F40 : Exa Z h31 a27 "java/lang/String" := (S29.1.keep J31)
  have F41 : StrL Z h31 a27 b27 [(32 : Int32), 111, 102, 102, 115, 101, 116, 32, 63, 32, 114, 111, 119, 115, 32, 102, 101, 116, 99, 104, 32, 102, 105, 114, 115, 116, 32, 63, 32, 114, 111, 119, 115, 32, 111, 110, 108, 121] := (S29.keep J31 nin0 nin0)
  refine X39.callV hx (w134 cx) (w28 cx) (w30 cx) (w29 cx) (fun _ hZ => nf hZ (w30 cx)) (by decide) F40 (pay_len (W := 2) (hln cx) (w2 cx) F41 (X39.sta (S_C cx)) (N_C cx) (nle rfl) (nle rfl)) (by rw [hml]; rfl) (argsL := []) (rest := [.int 3, .int 41]) (lenOf pd7 rfl) rfl rfl (Nat.le_of_eq rfl) (hb hby at_210) (nle rfl) (nle rfl) ?_
  rintro T42 h42 _ _ _ X42 ⟨rfl, rfl, rfl, J42⟩
  rw [J42] at X42
  show Wo _ _ _ _ _ _ _ _ _ _ _ T42 (mkF m 213 #[.val (.int p0), .val (.int p1), .val (.int p2), .val (.int p3), .val (.int 1), .val (.int 1), .val (.int 3), .val (.int (p1 &&& (255 : Int32))), .val (.int (p2 &&& (255 : Int32))), .val (.int (p3 &&& (255 : Int32))), .val (.ref a1), .val (.ref a27), .val (.ref a32)] [.int 38, .int 3, .int 41])
  refine P.iadd X42 hx 214 (z := (41 : Int32)) (hb hby at_213) rfl rfl ?_
  refine P.icmpNo X42 hx 217 (hb hby at_214) (by decide) rfl ?_
  refine P.iload X42 hx 219 (hb hby at_217) rfl rfl ?_
  refine P.iconst X42 hx 220 1 (hb hby at_219) rfl rfl ?_
  refine P.icmpNo X42 hx 223 (hb hby at_220) (by decide) rfl ?_
  refine P.aload X42 hx 225 (hb hby at_223) rfl rfl rfl ?_
  refine P.iconst X42 hx 226 0 (hb hby at_225) rfl rfl ?_
  refine X42.callV hx (w160 cx) (w161 cx) (w163 cx) (w162 cx) (fun _ hZ => nf hZ (w163 cx)) (by decide) S38.1 (pay_chr (W := 0) (hch cx) (w2 cx) S38 (X42.sta (S_C cx)) (N_C cx) (X42.sta (S_F cx)) (R_F cx) (i := 0) (nlt rfl) rfl (nle rfl) (nle rfl)) (by rw [hml]; rfl) (argsL := [.int 0]) (rest := []) (lenOf pd22 rfl) rfl rfl (Nat.le_of_eq rfl) (hb hby at_226) (nle rfl) (nle rfl) ?_
  rintro T43 h43 _ _ _ X43 ⟨rfl, rfl, rfl, J43⟩
  rw [J43] at X43
  show Wo _ _ _ _ _ _ _ _ _ _ _ T43 (mkF m 229 #[.val (.int p0), .val (.int p1), .val (.int p2), .val (.int p3), .val (.int 1), .val (.int 1), .val (.int 3), .val (.int (p1 &&& (255 : Int32))), .val (.int (p2 &&& (255 : Int32))), .val (.int (p3 &&& (255 : Int32))), .val (.ref a1), .val (.ref a27), .val (.ref a32)] [.int (p1 &&& (255 : Int32))])
  refine P.iload X43 hx 231 (hb hby at_229) rfl rfl ?_
  refine P.icmpNo X43 hx 234 (hb hby at_231) (teq rfl).2 rfl ?_
  refine P.iload X43 hx 236 (hb hby at_234) rfl rfl ?_
  refine P.iconst X43 hx 237 2 (hb hby at_236) rfl rfl ?_
  refine P.icmpNo X43 hx 240 (hb hby at_237) (by decide) rfl ?_
  refine P.aload X43 hx 242 (hb hby at_240) rfl rfl rfl ?_
  refine P.iconst X43 hx 243 1 (hb hby at_242) rfl rfl ?_
  refine X43.callV hx (w160 cx) (w161 cx) (w163 cx) (w162 cx) (fun _ hZ => nf hZ (w163 cx)) (by decide) S38.1 (pay_chr (W := 0) (hch cx) (w2 cx) S38 (X43.sta (S_C cx)) (N_C cx) (X43.sta (S_F cx)) (R_F cx) (i := 1) (nlt rfl) rfl (nle rfl) (nle rfl)) (by rw [hml]; rfl) (argsL := [.int 1]) (rest := []) (lenOf pd22 rfl) rfl rfl (Nat.le_of_eq rfl) (hb hby at_243) (nle rfl) (nle rfl) ?_
  rintro T44 h44 _ _ _ X44 ⟨rfl, rfl, rfl, J44⟩
  rw [J44] at X44
  show Wo _ _ _ _ _ _ _ _ _ _ _ T44 (mkF m 246 #[.val (.int p0), .val (.int p1), .val (.int p2), .val (.int p3), .val (.int 1), .val (.int 1), .val (.int 3), .val (.int (p1 &&& (255 : Int32))), .val (.int (p2 &&& (255 : Int32))), .val (.int (p3 &&& (255 : Int32))), .val (.ref a1), .val (.ref a27), .val (.ref a32)] [.int (p2 &&& (255 : Int32))])
  refine P.iload X44 hx 248 (hb hby at_246) rfl rfl ?_
  refine P.icmpNo X44 hx 251 (hb hby at_248) (teq rfl).2 rfl ?_
  refine P.iload X44 hx 253 (hb hby at_251) rfl rfl ?_
  refine P.iconst X44 hx 254 3 (hb hby at_253) rfl rfl ?_
  refine P.icmpNo X44 hx 257 (hb hby at_254) (by decide) rfl ?_
  refine P.aload X44 hx 259 (hb hby at_257) rfl rfl rfl ?_
  refine P.iconst X44 hx 260 2 (hb hby at_259) rfl rfl ?_
  refine X44.callV hx (w160 cx) (w161 cx) (w163 cx) (w162 cx) (fun _ hZ => nf hZ (w163 cx)) (by decide) S38.1 (pay_chr (W := 0) (hch cx) (w2 cx) S38 (X44.sta (S_C cx)) (N_C cx) (X44.sta (S_F cx)) (R_F cx) (i := 2) (nlt rfl) rfl (nle rfl) (nle rfl)) (by rw [hml]; rfl) (argsL := [.int 2]) (rest := []) (lenOf pd22 rfl) rfl rfl (Nat.le_of_eq rfl) (hb hby at_260) (nle rfl) (nle rfl) ?_
  rintro T45 h45 _ _ _ X45 ⟨rfl, rfl, rfl, J45⟩
  rw [J45] at X45
  show Wo _ _ _ _ _ _ _ _ _ _ _ T45 (mkF m 263 #[.val (.int p0), .val (.int p1), .val (.int p2), .val (.int p3), .val (.int 1), .val (.int 1), .val (.int 3), .val (.int (p1 &&& (255 : Int32))), .val (.int (p2 &&& (255 : Int32))), .val (.int (p3 &&& (255 : Int32))), .val (.ref a1), .val (.ref a27), .val (.ref a32)] [.int (p3 &&& (255 : Int32))])
  refine P.iload X45 hx 265 (hb hby at_263) rfl rfl ?_
  refine P.icmpNo X45 hx 268 (hb hby at_265) (teq rfl).2 rfl ?_
  refine P.aload X45 hx 270 (hb hby at_268) rfl rfl rfl ?_
  refine P.iload X45 hx 272 (hb hby at_270) rfl rfl ?_
  refine P.aload X45 hx 274 (hb hby at_272) rfl rfl rfl ?_
  refine P.iconst X45 hx 275 0 (hb hby at_274) rfl rfl ?_
  refine X45.callS hx (w135 cx) (w136 cx) (w137 cx) (w138 cx) (by decide) (Ct.pay (W := 0) (ct_quad cx a32 a33 a27 b27 ([(p1 &&& (255 : Int32)), (p2 &&& (255 : Int32)), (p3 &&& (255 : Int32))]) ([(32 : Int32), 111, 102, 102, 115, 101, 116, 32, 63, 32, 114, 111, 119, 115, 32, 102, 101, 116, 99, 104, 32, 102, 105, 114, 115, 116, 32, 63, 32, 114, 111, 119, 115, 32, 111, 110, 108, 121]) (3 : Int32) 0 (0 : Int32) h31 _ _ S38 F41 rfl rfl (nle rfl) (nle rfl)) (w138 cx) (w137 cx) (nle rfl) (nle rfl)) (by rw [hml]; rfl) (argsL := [.ref a32, .int 3, .ref a27, .int 0]) (rest := []) (lenOf pd23 rfl) rfl rfl (Nat.le_of_eq rfl) (hb hby at_275) (nle rfl) (nle rfl) ?_
  rintro T46 h46 _ _ _ X46 ⟨rfl, rfl, rfl, J46⟩
  rw [J46] at X46
  refine P.ifNo X46 hx 281 (hb hby at_278) (by decide) rfl ?_
  refine P.aload X46 hx 283 (hb hby at_281) rfl rfl rfl ?_
  refine P.iload X46 hx 285 (hb hby at_283) rfl rfl ?_
  refine P.aload X46 hx 287 (hb hby at_285) rfl rfl rfl ?_
  refine P.iconst X46 hx 288 4 (hb hby at_287) rfl rfl ?_
  refine X46.callS hx (w135 cx) (w136 cx) (w137 cx) (w138 cx) (by decide) (Ct.pay (W := 0) (ct_quad cx a32 a33 a27 b27 ([(p1 &&& (255 : Int32)), (p2 &&& (255 : Int32)), (p3 &&& (255 : Int32))]) ([(32 : Int32), 111, 102, 102, 115, 101, 116, 32, 63, 32, 114, 111, 119, 115, 32, 102, 101, 116, 99, 104, 32, 102, 105, 114, 115, 116, 32, 63, 32, 114, 111, 119, 115, 32, 111, 110, 108, 121]) (3 : Int32) 4 (4 : Int32) h31 _ _ S38 F41 rfl rfl (nle rfl) (nle rfl)) (w138 cx) (w137 cx) (nle rfl) (nle rfl)) (by rw [hml]; rfl) (argsL := [.ref a32, .int 3, .ref a27, .int 4]) (rest := []) (lenOf pd23 rfl) rfl rfl (Nat.le_of_eq rfl) (hb hby at_288) (nle rfl) (nle rfl) ?_
  rintro T47 h47 _ _ _ X47 ⟨rfl, rfl, rfl, J47⟩
  rw [J47] at X47
  refine P.ifNo X47 hx 294 (hb hby at_291) (by decide) rfl ?_
  refine P.aload X47 hx 296 (hb hby at_294) rfl rfl rfl ?_
  refine P.iload X47 hx 298 (hb hby at_296) rfl rfl ?_
  refine P.aload X47 hx 300 (hb hby at_298) rfl rfl rfl ?_
  refine P.bipush X47 hx 302 8 (hb hby at_300) rfl rfl ?_
  refine X47.callS hx (w135 cx) (w136 cx) (w137 cx) (w138 cx) (by decide) (Ct.pay (W := 0) (ct_quad cx a32 a33 a27 b27 ([(p1 &&& (255 : Int32)), (p2 &&& (255 : Int32)), (p3 &&& (255 : Int32))]) ([(32 : Int32), 111, 102, 102, 115, 101, 116, 32, 63, 32, 114, 111, 119, 115, 32, 102, 101, 116, 99, 104, 32, 102, 105, 114, 115, 116, 32, 63, 32, 114, 111, 119, 115, 32, 111, 110, 108, 121]) (3 : Int32) 8 (8 : Int32) h31 _ _ S38 F41 rfl rfl (nle rfl) (nle rfl)) (w138 cx) (w137 cx) (nle rfl) (nle rfl)) (by rw [hml]; rfl) (argsL := [.ref a32, .int 3, .ref a27, .int 8]) (rest := []) (lenOf pd23 rfl) rfl rfl (Nat.le_of_eq rfl) (hb hby at_302) (nle rfl) (nle rfl) ?_
  rintro T48 h48 _ _ _ X48 ⟨rfl, rfl, rfl, J48⟩
  rw [J48] at X48
  refine P.ifNo X48 hx 308 (hb hby at_305) (by decide) rfl ?_
  refine P.aload X48 hx 310 (hb hby at_308) rfl rfl rfl ?_
  refine P.iload X48 hx 312 (hb hby at_310) rfl rfl ?_
  refine P.aload X48 hx 314 (hb hby at_312) rfl rfl rfl ?_
  refine P.bipush X48 hx 316 12 (hb hby at_314) rfl rfl ?_
  refine X48.callS hx (w135 cx) (w136 cx) (w137 cx) (w138 cx) (by decide) (Ct.pay (W := 0) (ct_quad cx a32 a33 a27 b27 ([(p1 &&& (255 : Int32)), (p2 &&& (255 : Int32)), (p3 &&& (255 : Int32))]) ([(32 : Int32), 111, 102, 102, 115, 101, 116, 32, 63, 32, 114, 111, 119, 115, 32, 102, 101, 116, 99, 104, 32, 102, 105, 114, 115, 116, 32, 63, 32, 114, 111, 119, 115, 32, 111, 110, 108, 121]) (3 : Int32) 12 (12 : Int32) h31 _ _ S38 F41 rfl rfl (nle rfl) (nle rfl)) (w138 cx) (w137 cx) (nle rfl) (nle rfl)) (by rw [hml]; rfl) (argsL := [.ref a32, .int 3, .ref a27, .int 12]) (rest := []) (lenOf pd23 rfl) rfl rfl (Nat.le_of_eq rfl) (hb hby at_316) (nle rfl) (nle rfl) ?_
  rintro T49 h49 _ _ _ X49 ⟨rfl, rfl, rfl, J49⟩
  rw [J49] at X49
  refine P.ifNo X49 hx 322 (hb hby at_319) (by decide) rfl ?_
  refine P.aload X49 hx 324 (hb hby at_322) rfl rfl rfl ?_
  refine P.iload X49 hx 326 (hb hby at_324) rfl rfl ?_
  refine P.aload X49 hx 328 (hb hby at_326) rfl rfl rfl ?_
  refine P.bipush X49 hx 330 16 (hb hby at_328) rfl rfl ?_
  refine X49.callS hx (w135 cx) (w136 cx) (w137 cx) (w138 cx) (by decide) (Ct.pay (W := 0) (ct_quad cx a32 a33 a27 b27 ([(p1 &&& (255 : Int32)), (p2 &&& (255 : Int32)), (p3 &&& (255 : Int32))]) ([(32 : Int32), 111, 102, 102, 115, 101, 116, 32, 63, 32, 114, 111, 119, 115, 32, 102, 101, 116, 99, 104, 32, 102, 105, 114, 115, 116, 32, 63, 32, 114, 111, 119, 115, 32, 111, 110, 108, 121]) (3 : Int32) 16 (16 : Int32) h31 _ _ S38 F41 rfl rfl (nle rfl) (nle rfl)) (w138 cx) (w137 cx) (nle rfl) (nle rfl)) (by rw [hml]; rfl) (argsL := [.ref a32, .int 3, .ref a27, .int 16]) (rest := []) (lenOf pd23 rfl) rfl rfl (Nat.le_of_eq rfl) (hb hby at_330) (nle rfl) (nle rfl) ?_
  rintro T50 h50 _ _ _ X50 ⟨rfl, rfl, rfl, J50⟩
  rw [J50] at X50
  refine P.ifNo X50 hx 336 (hb hby at_333) (by decide) rfl ?_
  refine P.aload X50 hx 338 (hb hby at_336) rfl rfl rfl ?_
  refine P.iload X50 hx 340 (hb hby at_338) rfl rfl ?_
  refine P.aload X50 hx 342 (hb hby at_340) rfl rfl rfl ?_
  refine P.bipush X50 hx 344 20 (hb hby at_342) rfl rfl ?_
  refine X50.callS hx (w135 cx) (w136 cx) (w137 cx) (w138 cx) (by decide) (Ct.pay (W := 0) (ct_quad cx a32 a33 a27 b27 ([(p1 &&& (255 : Int32)), (p2 &&& (255 : Int32)), (p3 &&& (255 : Int32))]) ([(32 : Int32), 111, 102, 102, 115, 101, 116, 32, 63, 32, 114, 111, 119, 115, 32, 102, 101, 116, 99, 104, 32, 102, 105, 114, 115, 116, 32, 63, 32, 114, 111, 119, 115, 32, 111, 110, 108, 121]) (3 : Int32) 20 (20 : Int32) h31 _ _ S38 F41 rfl rfl (nle rfl) (nle rfl)) (w138 cx) (w137 cx) (nle rfl) (nle rfl)) (by rw [hml]; rfl) (argsL := [.ref a32, .int 3, .ref a27, .int 20]) (rest := []) (lenOf pd23 rfl) rfl rfl (Nat.le_of_eq rfl) (hb hby at_344) (nle rfl) (nle rfl) ?_
  rintro T51 h51 _ _ _ X51 ⟨rfl, rfl, rfl, J51⟩
  rw [J51] at X51
  refine P.ifNo X51 hx 350 (hb hby at_347) (by decide) rfl ?_
  refine P.aload X51 hx 352 (hb hby at_350) rfl rfl rfl ?_
  refine P.iload X51 hx 354 (hb hby at_352) rfl rfl ?_
  refine P.aload X51 hx 356 (hb hby at_354) rfl rfl rfl ?_
  refine P.bipush X51 hx 358 24 (hb hby at_356) rfl rfl ?_
  refine X51.callS hx (w135 cx) (w136 cx) (w137 cx) (w138 cx) (by decide) (Ct.pay (W := 0) (ct_quad cx a32 a33 a27 b27 ([(p1 &&& (255 : Int32)), (p2 &&& (255 : Int32)), (p3 &&& (255 : Int32))]) ([(32 : Int32), 111, 102, 102, 115, 101, 116, 32, 63, 32, 114, 111, 119, 115, 32, 102, 101, 116, 99, 104, 32, 102, 105, 114, 115, 116, 32, 63, 32, 114, 111, 119, 115, 32, 111, 110, 108, 121]) (3 : Int32) 24 (24 : Int32) h31 _ _ S38 F41 rfl rfl (nle rfl) (nle rfl)) (w138 cx) (w137 cx) (nle rfl) (nle rfl)) (by rw [hml]; rfl) (argsL := [.ref a32, .int 3, .ref a27, .int 24]) (rest := []) (lenOf pd23 rfl) rfl rfl (Nat.le_of_eq rfl) (hb hby at_358) (nle rfl) (nle rfl) ?_
  rintro T52 h52 _ _ _ X52 ⟨rfl, rfl, rfl, J52⟩
  rw [J52] at X52
  refine P.ifNo X52 hx 364 (hb hby at_361) (by decide) rfl ?_
  refine P.aload X52 hx 366 (hb hby at_364) rfl rfl rfl ?_
  refine P.iload X52 hx 368 (hb hby at_366) rfl rfl ?_
  refine P.aload X52 hx 370 (hb hby at_368) rfl rfl rfl ?_
  refine P.bipush X52 hx 372 28 (hb hby at_370) rfl rfl ?_
  refine X52.callS hx (w135 cx) (w136 cx) (w137 cx) (w138 cx) (by decide) (Ct.pay (W := 0) (ct_quad cx a32 a33 a27 b27 ([(p1 &&& (255 : Int32)), (p2 &&& (255 : Int32)), (p3 &&& (255 : Int32))]) ([(32 : Int32), 111, 102, 102, 115, 101, 116, 32, 63, 32, 114, 111, 119, 115, 32, 102, 101, 116, 99, 104, 32, 102, 105, 114, 115, 116, 32, 63, 32, 114, 111, 119, 115, 32, 111, 110, 108, 121]) (3 : Int32) 28 (28 : Int32) h31 _ _ S38 F41 rfl rfl (nle rfl) (nle rfl)) (w138 cx) (w137 cx) (nle rfl) (nle rfl)) (by rw [hml]; rfl) (argsL := [.ref a32, .int 3, .ref a27, .int 28]) (rest := []) (lenOf pd23 rfl) rfl rfl (Nat.le_of_eq rfl) (hb hby at_372) (nle rfl) (nle rfl) ?_
  rintro T53 h53 _ _ _ X53 ⟨rfl, rfl, rfl, J53⟩
  rw [J53] at X53
  refine P.ifNo X53 hx 378 (hb hby at_375) (by decide) rfl ?_
  refine P.aload X53 hx 380 (hb hby at_378) rfl rfl rfl ?_
  refine P.iload X53 hx 382 (hb hby at_380) rfl rfl ?_
  refine P.aload X53 hx 384 (hb hby at_382) rfl rfl rfl ?_
  refine P.bipush X53 hx 386 32 (hb hby at_384) rfl rfl ?_
  refine X53.callS hx (w135 cx) (w136 cx) (w137 cx) (w138 cx) (by decide) (Ct.pay (W := 0) (ct_quad cx a32 a33 a27 b27 ([(p1 &&& (255 : Int32)), (p2 &&& (255 : Int32)), (p3 &&& (255 : Int32))]) ([(32 : Int32), 111, 102, 102, 115, 101, 116, 32, 63, 32, 114, 111, 119, 115, 32, 102, 101, 116, 99, 104, 32, 102, 105, 114, 115, 116, 32, 63, 32, 114, 111, 119, 115, 32, 111, 110, 108, 121]) (3 : Int32) 32 (32 : Int32) h31 _ _ S38 F41 rfl rfl (nle rfl) (nle rfl)) (w138 cx) (w137 cx) (nle rfl) (nle rfl)) (by rw [hml]; rfl) (argsL := [.ref a32, .int 3, .ref a27, .int 32]) (rest := []) (lenOf pd23 rfl) rfl rfl (Nat.le_of_eq rfl) (hb hby at_386) (nle rfl) (nle rfl) ?_
  rintro T54 h54 _ _ _ X54 ⟨rfl, rfl, rfl, J54⟩
  rw [J54] at X54
  refine P.ifNo X54 hx 392 (hb hby at_389) (by decide) rfl ?_
  refine P.aload X54 hx 394 (hb hby at_392) rfl rfl rfl ?_
  refine P.iload X54 hx 396 (hb hby at_394) rfl rfl ?_
  refine P.aload X54 hx 398 (hb hby at_396) rfl rfl rfl ?_
  refine P.bipush X54 hx 400 36 (hb hby at_398) rfl rfl ?_
  refine X54.callS hx (w135 cx) (w136 cx) (w137 cx) (w138 cx) (by decide) (Ct.pay (W := 0) (ct_quad cx a32 a33 a27 b27 ([(p1 &&& (255 : Int32)), (p2 &&& (255 : Int32)), (p3 &&& (255 : Int32))]) ([(32 : Int32), 111, 102, 102, 115, 101, 116, 32, 63, 32, 114, 111, 119, 115, 32, 102, 101, 116, 99, 104, 32, 102, 105, 114, 115, 116, 32, 63, 32, 114, 111, 119, 115, 32, 111, 110, 108, 121]) (3 : Int32) 36 (36 : Int32) h31 _ _ S38 F41 rfl rfl (nle rfl) (nle rfl)) (w138 cx) (w137 cx) (nle rfl) (nle rfl)) (by rw [hml]; rfl) (argsL := [.ref a32, .int 3, .ref a27, .int 36]) (rest := []) (lenOf pd23 rfl) rfl rfl (Nat.le_of_eq rfl) (hb hby at_400) (nle rfl) (nle rfl) ?_
  rintro T55 h55 _ _ _ X55 ⟨rfl, rfl, rfl, J55⟩
  rw [J55] at X55
  refine P.ifNo X55 hx 406 (hb hby at_403) (by decide) rfl ?_
  refine P.iconst X55 hx 407 1 (hb hby at_406) rfl rfl ?_
  refine P.goto X55 hx 411 (hb hby at_407) (by decide) (by decide) ?_
  have X56 := WS.drop (A := []) (B := (a6 :: WL)) X55
  have X57 := WS.drop (A := []) (B := WL) X56
  have X58 := WS.fl (FL2 := FL) X57 (fun y hy => (List.mem_append_right [a6, a32, a33, a27, b27, a1, a23] hy))
  exact WS.retN X58 (WL' := []) (FL' := []) hx (t := .boolean) hret (by simp) hlk (hb hby at_411) (nle rfl) (nle rfl) ⟨rfl, rfl, rfl, K37⟩
set_option maxRecDepth 65536 in
theorem ct_law {l : Launch} {Z : State} {a0 : Array Value} {gC : Int32} {gF : Value} (cx : Cx a0 Z gC gF) {n0 : Nat} (p0 : Int32) (p1 : Int32) (p2 : Int32) (p3 : Int32) (h : Heap) (WL FL : List Addr)  :
    Ct l Z EL1 n0 x code maxLocals ret room_1 #[(.int p0), (.int p1), (.int p2), (.int p3)] h WL FL (Q_law Z gC gF p0 p1 p2 p3 h) := by
  by_cases es : (p0 &&& (1 : Int32)) = (0 : Int32) <;> by_cases el : (p0 &&& (2 : Int32)) = (0 : Int32) <;> rcases and3 ((p0.toUInt32 >>> ((2 : Int32) &&& 31).toUInt32).toInt32) with en | en | en | en
  · exact ct_law_000 cx p0 p1 p2 p3 h WL FL en es el
  · exact ct_law_100 cx p0 p1 p2 p3 h WL FL en es el
  · exact ct_law_200 cx p0 p1 p2 p3 h WL FL en es el
  · exact ct_law_300 cx p0 p1 p2 p3 h WL FL en es el
  · exact ct_law_001 cx p0 p1 p2 p3 h WL FL en es el
  · exact ct_law_101 cx p0 p1 p2 p3 h WL FL en es el
  · exact ct_law_201 cx p0 p1 p2 p3 h WL FL en es el
  · exact ct_law_301 cx p0 p1 p2 p3 h WL FL en es el
  · exact ct_law_010 cx p0 p1 p2 p3 h WL FL en es el
  · exact ct_law_110 cx p0 p1 p2 p3 h WL FL en es el
  · exact ct_law_210 cx p0 p1 p2 p3 h WL FL en es el
  · exact ct_law_310 cx p0 p1 p2 p3 h WL FL en es el
  · exact ct_law_011 cx p0 p1 p2 p3 h WL FL en es el
  · exact ct_law_111 cx p0 p1 p2 p3 h WL FL en es el
  · exact ct_law_211 cx p0 p1 p2 p3 h WL FL en es el
  · exact ct_law_311 cx p0 p1 p2 p3 h WL FL en es el

set_option maxRecDepth 65536 in
set_option maxHeartbeats 4000000 in
theorem comes_1 {Post : Tables → Env → Array Value → State → Outcome → State → Prop} (hpost : ∀ tb e args s v u, (limb_1_1.after args s (.returned v) u = true ∧ limb_1_2.after args s (.returned v) u = true ∧ True) → Jvm.Pilot.@@N@@.Jvm.D.FramedW s (.returned v) u (Jvm.fieldLocs frame_1_writes args s ++ Jvm.arrayLocs frame_1_arrays args s ++ Jvm.staticLocs frame_1_statics s) 40 6528 → Post tb e args s (.returned v) u) :
    ArmFor flags0 classFile x code maxLocals ret World_1 tables_1 room_1 Calls_1 rest_1 Pre_1 Post := by
  intro l hfl _ _ p e ha hc hk s m args below hf hA hF happ hP
  obtain ⟨hcalls, hrest, hpre⟩ := hP
  obtain ⟨-, -, -, hnamed, -, -, -, hat⟩ := (Spec.applies_iff hf).mp happ
  obtain ⟨hg, hn⟩ := and_e (Cond.before_iff.mp (show (Jvm.Cond.and given_1 narrow_1).before args s = true from hpre))
  obtain ⟨h1, g0⟩ := and_e hg
  obtain ⟨b0, g1⟩ := and_e g0
  obtain ⟨b1, g2⟩ := and_e g1
  obtain ⟨b2, g3⟩ := and_e g2
  obtain ⟨z0, z1, z2, z3, rfl⟩ : ∃ z0 z1 z2 z3 : Value, args = #[z0, z1, z2, z3] := by
    have hs : args.size = 4 := by simpa [Cond.value, given_1] using h1
    obtain ⟨L⟩ := args
    match L, hs with
    | [z0, z1, z2, z3], _ => exact ⟨z0, z1, z2, z3, rfl⟩
  have hw := fun d (hd : d ∈ tables_1) => atoms_spec (ws := Jvm.Cond.code x code maxLocals ret :: tables_1) hat d (List.mem_cons_of_mem _ hd)
  obtain ⟨hsets, hown0⟩ := atoms_of _ (rest_1_c_eq ▸ (show rest_1_c.before _ s = true from hrest))
  have hfit : Fit s := fun {y c} hc i hi => by
    obtain ⟨ha, rfl⟩ := Array.getElem?_eq_some_iff.mp hc
    have q := List.all_eq_true.mp ((Array.all_eq_true_iff_forall_mem.mp hF) _ (Array.getElem_mem ha)) i (List.mem_range.mpr hi)
    simpa [Array.getElem?_eq_getElem hi] using q
  obtain ⟨i_0, e_0⟩ := is_v b0
  obtain rfl : z0 = (.int i_0) := Option.some.inj e_0
  obtain ⟨i_1, e_1⟩ := is_v b1
  obtain rfl : z1 = (.int i_1) := Option.some.inj e_1
  obtain ⟨i_2, e_2⟩ := is_v b2
  obtain rfl : z2 = (.int i_2) := Option.some.inj e_2
  obtain ⟨i_3, e_3⟩ := is_v g3
  obtain rfl : z3 = (.int i_3) := Option.some.inj e_3
  obtain ⟨i7, e7⟩ := is_v (Cond.before_iff.mp (hsets _ (List.mem_of_getElem? (i := 1) rfl)))
  have S7 : Sta s s.heap "java/lang/String" "COMPACT_STRINGS" "Z" (.int i7) := Sta.start e7 (Or.inl (hsets _ (List.mem_of_getElem? (i := 0) rfl)))
  have n7 := not_v (Cond.before_iff.mp (hsets _ (List.mem_of_getElem? (i := 2) rfl)))
  have c7 : ¬ (i7 = (0 : Int32)) := gotF (Cond.eq_ints e7 (Term.int_eval (0))) n7
  obtain ⟨i8, e8, r8⟩ := isR_v (Cond.before_iff.mp (hsets _ (List.mem_of_getElem? (i := 8) rfl)))
  have S8 : Sta s s.heap "jdk/internal/util/Preconditions" "SIOOBE_FORMATTER" "Ljava/util/function/BiFunction;" i8 := Sta.start e8 (Or.inl (hsets _ (List.mem_of_getElem? (i := 7) rfl)))
  have cx : Cx #[(.int i_0), (.int i_1), (.int i_2), (.int i_3)] s i7 i8 := ⟨hw, S7, c7, S8, r8⟩
  have ew : EW s #[(.int i_0), (.int i_1), (.int i_2), (.int i_3)] EL1 := (EW.cons (w183 cx) (by decide) (EW.cons (w185 cx) (by decide) (EW.cons (w0 cx) (by decide) (EW.cons (w182 cx) (by decide) (EW.cons (w213 cx) (by decide) (EW.cons (w212 cx) (by decide) EW.nil))))))
  have inv0 : Inv s EL1 s.heap.size s.vm s.heap [] [] := ⟨⟨_, ew⟩, CHv.start ew (fun p hp => hcalls.1 p hp) (hsets _ (List.mem_of_getElem? (i := 2) rfl)) (strAtoms cx _ (by simp [Bundle.stringAtoms])) (strAtoms cx _ (by simp [Bundle.stringAtoms, Bundle.sN])), Old.start s, fun _ q => (nomatch q), List.nodup_nil, fun _ q => (nomatch q)⟩
  obtain ⟨n, o, h1, h2, h3, _, L, WL', FL', rfl, I', N, ⟨rfl, -⟩, hq⟩ := ct_law (l := l) (Z := s) cx (n0 := s.heap.size) i_0 i_1 i_2 i_3 s.heap [] [] tables_1 p e ha hc hk s m _ below hf ((Spec.applies_iff_loose hf).mp happ).1 ⟨rfl, State.Warmed39.refl s, rfl, inv0⟩ trivial
  exact ⟨n, _, h1, h2, h3, hpost _ _ _ _ _ _ ⟨Cond.after_iff.mpr rfl, Cond.after_iff.mpr (eq_i res_at (Term.int_eval (1)) rfl), trivial⟩ ⟨hq.1, hq.2.1, hq.2.2.1, (hq.2.2.2.sift fun y hy => Or.inr (N y hy)).mono (by decide) (by decide)⟩⟩
theorem main_1_1 : Claimed_1_1 := comes_1 fun _ _ _ _ _ _ h hF => ⟨h.1, hF⟩
theorem main_1_2 : Claimed_1_2 := comes_1 fun _ _ _ _ _ _ h hF => ⟨h.2.1, hF⟩
end Jvm.Pilot.@@N@@
namespace Jvm.Pilot.@@N@@
open Jvm Jvm.ClassFile Sem Op Lib Jvm.Free Jvm.Stand Jvm.Pilot.@@N@@.Jvm.D
/-! MADE BY PROGRAM (witnessworld.py) out of the Statement's table words and the real class files: 26 classes; the members and pool entries that the words name. The judged class is class 1, her method 3. -/
namespace start1
open Jvm.ClassFile
def u (s : String) : CpInfo := .utf8 (stringToUtf16 s)
/-- a pool by its gaps: so many unusable entries, then the entry; so many at the end -/
def gap : Nat → List CpInfo → List CpInfo
  | 0, r => r
  | n + 1, r => .unusable :: gap n r
def poolList (es : List (Nat × CpInfo)) (last : Nat) : List CpInfo := es.foldr (fun e r => gap e.1 (e.2 :: r)) (gap last [])
def pool (es : List (Nat × CpInfo)) (last : Nat) : Array CpInfo := ⟨poolList es last⟩
def fileOf (pool : Array CpInfo) (this : Nat) (attrs : Array Attribute := #[]) (ms : Array MethodInfo := #[]) (fl : Nat := 33) (sup : Nat := 0) (ifs : Array Nat := #[]) (fds : Array FieldInfo := #[]) : ClassFile where
  minorVersion := 0
  majorVersion := 65
  constantPool := pool
  accessFlags := fl
  thisClass := this
  superClass := sup
  interfaces := ifs
  fields := fds
  methods := ms
  attributes := attrs
def plain (name : String) (sup : Option ClassId) : Class where
  name := name
  kind := .ordinary
  loader := none
  accessFlags := 33
  super := sup
  interfaces := #[]
  cf := none
  fields := #[]
  methods := #[]
  instanceTypes := #[]
  staticTypes := #[]
  resolved := #[]
  callSites := []
  init := .initialized
  statics := none
  mirror := none

def pool0 : Array CpInfo := pool [(5, u "<init>"), (0, u "()V"), (1, .class_ 10), (1, u "java/lang/Object"), (85, u "clone"), (0, u "()Ljava/lang/Object;")] 26

def k0c0 : Code := { maxStack := 0, maxLocals := 1, code := object_method_1_code, exceptionTable := #[], attributes := #[] }
def k0m0 : Method := { name := "<init>", desc := "()V", sig := { parameters := [], returnType := none }, accessFlags := 1, code := some k0c0 }
def k0m1 : Method := { name := "clone", desc := "()Ljava/lang/Object;", sig := { parameters := [], returnType := some (.object "java/lang/Object") }, accessFlags := 260, code := none }
/-- java/lang/Object -/
def k0 : Class := { plain "java/lang/Object" none with
  accessFlags := 33
  interfaces := #[]
  cf := some (fileOf pool0 8 #[] #[{ accessFlags := 1, nameIndex := 5, descriptorIndex := 6, attributes := #[] }, { accessFlags := 260, nameIndex := 96, descriptorIndex := 97, attributes := #[] }] 33 0 #[] #[])
  fields := #[]
  methods := #[k0m0, k0m1]
  instanceTypes := #[]
  staticTypes := #[]
  resolved := Array.replicate 124 none
  statics := none }

def pool1 : Array CpInfo := pool [(2, .class_ 4), (1, u "java/lang/Object"), (0, u "<init>"), (0, u "()V"), (0, .methodref 8 9), (0, .class_ 10), (0, .nameAndType 11 12), (0, u "java/lang/String"), (0, u "length"), (0, u "()I"), (0, .methodref 8 14), (0, .nameAndType 15 16), (0, u "charAt"), (0, u "(I)C"), (0, .methodref 18 19), (0, .class_ 20), (0, .nameAndType 21 22), (0, u "com/example/estate4/estate4/jdbc/SelectTextPagedPinLaw"), (0, u "tail"), (0, u "(Ljava/lang/String;ILjava/lang/String;I)Z"), (0, .string 24), (0, u ""), (0, .methodref 8 26), (0, .nameAndType 27 28), (0, u "valueOf"), (0, u "(C)Ljava/lang/String;"), (0, .methodref 8 30), (0, .nameAndType 5 31), (0, u "([C)V"), (0, .string 33), (0, u " offset ? rows fetch first ? rows only"), (0, .string 35), (0, u " offset ? rows"), (0, .string 37), (0, u " fetch first ? rows only"), (0, .methodref 39 40), (0, .class_ 41), (0, .nameAndType 42 43), (0, u "com/example/estate4/estate4/jdbc/SelectText"), (0, u "paged"), (0, u "(Ljava/lang/String;ZZ)Ljava/lang/String;"), (0, .methodref 18 45), (0, .nameAndType 46 22), (0, u "quad"), (3, u "law"), (0, u "(IIII)Z")] 2

def k1m0 : Method := { name := "<init>", desc := "()V", sig := { parameters := [], returnType := none }, accessFlags := 1, code := none }
def k1c1 : Code := { maxStack := 3, maxLocals := 4, code := method_2_code, exceptionTable := #[], attributes := #[] }
def k1m1 : Method := { name := "tail", desc := "(Ljava/lang/String;ILjava/lang/String;I)Z", sig := { parameters := [(.object "java/lang/String"), .int, (.object "java/lang/String"), .int], returnType := some .boolean }, accessFlags := 10, code := some k1c1 }
def k1c2 : Code := { maxStack := 5, maxLocals := 4, code := method_3_code, exceptionTable := #[], attributes := #[] }
def k1m2 : Method := { name := "quad", desc := "(Ljava/lang/String;ILjava/lang/String;I)Z", sig := { parameters := [(.object "java/lang/String"), .int, (.object "java/lang/String"), .int], returnType := some .boolean }, accessFlags := 10, code := some k1c2 }
def k1c3 : Code := { maxStack := 6, maxLocals := 13, code := code, exceptionTable := #[], attributes := #[] }
def k1m3 : Method := { name := "law", desc := "(IIII)Z", sig := { parameters := [.int, .int, .int, .int], returnType := some .boolean }, accessFlags := 9, code := some k1c3 }
/-- com/example/estate4/estate4/jdbc/SelectTextPagedPinLaw -/
def k1 : Class := { plain "com/example/estate4/estate4/jdbc/SelectTextPagedPinLaw" (some 0) with
  accessFlags := 49
  interfaces := #[]
  cf := some (fileOf pool1 18 #[] #[{ accessFlags := 1, nameIndex := 5, descriptorIndex := 6, attributes := #[] }, { accessFlags := 10, nameIndex := 21, descriptorIndex := 22, attributes := #[] }, { accessFlags := 10, nameIndex := 46, descriptorIndex := 22, attributes := #[] }, { accessFlags := 9, nameIndex := 50, descriptorIndex := 51, attributes := #[] }] 49 2 #[] #[])
  fields := #[]
  methods := #[k1m0, k1m1, k1m2, k1m3]
  instanceTypes := #[]
  staticTypes := #[]
  resolved := Array.replicate 54 none
  statics := none }

def pool2 : Array CpInfo := pool [(1, .class_ 2), (0, u "java/io/Serializable"), (0, .class_ 4), (0, u "java/lang/Object")] 2

/-- java/io/Serializable -/
def k2 : Class := { plain "java/io/Serializable" (some 0) with
  accessFlags := 1537
  interfaces := #[]
  cf := some (fileOf pool2 1 #[] #[] 1537 3 #[] #[])
  fields := #[]
  methods := #[]
  instanceTypes := #[]
  staticTypes := #[]
  resolved := Array.replicate 7 none
  statics := none }

def pool3 : Array CpInfo := pool [(1, .class_ 2), (0, u "java/lang/Comparable"), (0, .class_ 4), (0, u "java/lang/Object")] 7

/-- java/lang/Comparable -/
def k3 : Class := { plain "java/lang/Comparable" (some 0) with
  accessFlags := 1537
  interfaces := #[]
  cf := some (fileOf pool3 1 #[] #[] 1537 3 #[] #[])
  fields := #[]
  methods := #[]
  instanceTypes := #[]
  staticTypes := #[]
  resolved := Array.replicate 12 none
  statics := none }

def pool4 : Array CpInfo := pool [(2, .class_ 4), (1, u "java/lang/CharSequence"), (42, .class_ 48), (0, u "java/lang/CharSequence$1CodePointIterator"), (10, .class_ 60), (0, u "java/lang/CharSequence$1CharIterator"), (5, .class_ 67), (0, u "java/lang/Object")] 63

/-- java/lang/CharSequence -/
def k4 : Class := { plain "java/lang/CharSequence" (some 0) with
  accessFlags := 1537
  interfaces := #[]
  cf := some (fileOf pool4 2 #[.nestMembers #[47, 59]] #[] 1537 66 #[] #[])
  fields := #[]
  methods := #[]
  instanceTypes := #[]
  staticTypes := #[]
  resolved := Array.replicate 131 none
  statics := none }

def pool5 : Array CpInfo := pool [(1, .class_ 2), (0, u "java/lang/constant/Constable"), (0, .class_ 4), (0, u "java/lang/Object")] 6

/-- java/lang/constant/Constable -/
def k5 : Class := { plain "java/lang/constant/Constable" (some 0) with
  accessFlags := 1537
  interfaces := #[]
  cf := some (fileOf pool5 1 #[] #[] 1537 3 #[] #[])
  fields := #[]
  methods := #[]
  instanceTypes := #[]
  staticTypes := #[]
  resolved := Array.replicate 11 none
  statics := none }

def pool6 : Array CpInfo := pool [(1, .class_ 2), (0, u "java/lang/constant/ConstantDesc"), (0, .class_ 4), (0, u "java/lang/Object")] 32

/-- java/lang/constant/ConstantDesc -/
def k6 : Class := { plain "java/lang/constant/ConstantDesc" (some 0) with
  accessFlags := 1537
  interfaces := #[]
  cf := some (fileOf pool6 1 #[] #[] 1537 3 #[] #[])
  fields := #[]
  methods := #[]
  instanceTypes := #[]
  staticTypes := #[]
  resolved := Array.replicate 37 none
  statics := none }

def pool7 : Array CpInfo := pool [(1, .methodref 2 3), (0, .class_ 4), (0, .nameAndType 5 6), (0, u "java/lang/Object"), (0, u "<init>"), (0, u "()V"), (2, .fieldref 10 11), (0, .class_ 12), (0, .nameAndType 13 14), (0, u "java/lang/String"), (0, u "value"), (0, u "[B"), (0, .fieldref 10 16), (0, .nameAndType 17 18), (0, u "coder"), (0, u "B"), (2, u "hash"), (0, u "I"), (2, u "hashIsZero"), (0, u "Z"), (0, .methodref 10 28), (0, .nameAndType 5 29), (0, u "([CIILjava/lang/Void;)V"), (8, .fieldref 10 39), (0, .nameAndType 40 26), (0, u "COMPACT_STRINGS"), (1, .class_ 44), (1, u "java/lang/StringUTF16"), (0, u "compress"), (1, .methodref 42 48), (0, .nameAndType 49 50), (0, u "coderFromArrayLen"), (0, u "([BI)B"), (2, u "toBytes"), (0, .methodref 55 56), (0, .class_ 57), (0, .nameAndType 58 59), (0, u "java/util/Arrays"), (0, u "copyOfRange"), (0, u "([BII)[B"), (47, .class_ 109), (1, u "java/lang/StringLatin1"), (32, u "()Z"), (34, .methodref 42 178), (0, .nameAndType 45 179), (0, u "([CII)[B"), (13, .class_ 195), (1, u "java/lang/System"), (13, .methodref 10 210), (0, .nameAndType 5 211), (0, u "([BB)V"), (0, .methodref 193 213), (0, .nameAndType 214 215), (0, u "arraycopy"), (0, u "(Ljava/lang/Object;ILjava/lang/Object;II)V"), (118, u "()I"), (0, .methodref 10 336), (0, .nameAndType 17 337), (0, u "()B"), (2, u "()[B"), (22, u "([BI)C"), (5, u "(C)Z"), (21, u "(II)V"), (35, u "(I)C"), (61, .methodref 10 490), (0, .nameAndType 5 491), (0, u "(Ljava/lang/AbstractStringBuilder;Ljava/lang/Void;)V"), (0, .methodref 10 493), (0, .nameAndType 494 142), (0, u "isLatin1"), (0, .methodref 107 496), (0, .nameAndType 497 363), (0, u "charAt"), (3, u "checkIndex"), (4, .nameAndType 507 334), (0, u "length"), (24, u "getBytes"), (16, .methodref 550 506), (0, .class_ 551), (0, u "java/lang/AbstractStringBuilder"), (0, .methodref 550 553), (0, .nameAndType 554 340), (0, u "getValue"), (20, .class_ 576), (0, u "java/lang/CharSequence"), (22, u "CASE_INSENSITIVE_ORDER"), (0, u "Ljava/util/Comparator;"), (181, u "valueOf"), (0, u "(C)Ljava/lang/String;"), (37, u "([BIB)V"), (188, u "([C)V"), (4, .methodref 107 1016), (0, .nameAndType 1017 369), (0, u "canEncode"), (0, .methodref 107 1019), (0, .nameAndType 53 1020), (0, u "(C)[B"), (26, .methodref 550 493), (5, .fieldref 1054 1055), (0, .class_ 1056), (0, .nameAndType 1057 1058), (0, u "jdk/internal/util/Preconditions"), (0, u "SIOOBE_FORMATTER"), (0, u "Ljava/util/function/BiFunction;"), (0, .methodref 1054 1060), (0, .nameAndType 501 1061), (0, u "(IILjava/util/function/BiFunction;)I"), (39, u "serialPersistentFields"), (0, u "[Ljava/io/ObjectStreamField;"), (0, .class_ 1104), (0, u "java/lang/String$CaseInsensitiveComparator"), (1, .class_ 1107), (0, u "java/io/Serializable"), (0, .class_ 1109), (0, u "java/lang/Comparable"), (0, .class_ 1111), (0, u "java/lang/constant/Constable"), (0, .class_ 1113), (0, u "java/lang/constant/ConstantDesc"), (2, u "serialVersionUID"), (0, u "J"), (3, u "REPL"), (0, u "C"), (2, u "LATIN1"), (1, u "UTF16"), (105, u "(Ljava/lang/StringBuilder;)V")] 217

def k7m0 : Method := { name := "<init>", desc := "()V", sig := { parameters := [], returnType := none }, accessFlags := 1, code := none }
def k7c1 : Code := { maxStack := 5, maxLocals := 2, code := jdk_42_method_3_code, exceptionTable := #[], attributes := #[] }
def k7m1 : Method := { name := "<init>", desc := "([C)V", sig := { parameters := [(.array .char)], returnType := none }, accessFlags := 1, code := some k7c1 }
def k7c2 : Code := { maxStack := 3, maxLocals := 2, code := jdk_42_method_53_code, exceptionTable := #[], attributes := #[] }
def k7m2 : Method := { name := "<init>", desc := "(Ljava/lang/StringBuilder;)V", sig := { parameters := [(.object "java/lang/StringBuilder")], returnType := none }, accessFlags := 1, code := some k7c2 }
def k7c3 : Code := { maxStack := 2, maxLocals := 1, code := jdk_42_method_54_code, exceptionTable := #[], attributes := #[] }
def k7m3 : Method := { name := "length", desc := "()I", sig := { parameters := [], returnType := some .int }, accessFlags := 1, code := some k7c3 }
def k7c4 : Code := { maxStack := 2, maxLocals := 2, code := jdk_42_method_56_code, exceptionTable := #[], attributes := #[] }
def k7m4 : Method := { name := "charAt", desc := "(I)C", sig := { parameters := [.int], returnType := some .char }, accessFlags := 1, code := some k7c4 }
def k7c5 : Code := { maxStack := 4, maxLocals := 1, code := jdk_42_method_139_code, exceptionTable := #[], attributes := #[] }
def k7m5 : Method := { name := "valueOf", desc := "(C)Ljava/lang/String;", sig := { parameters := [.char], returnType := some (.object "java/lang/String") }, accessFlags := 9, code := some k7c5 }
def k7c6 : Code := { maxStack := 5, maxLocals := 4, code := jdk_42_method_147_code, exceptionTable := #[], attributes := #[] }
def k7m6 : Method := { name := "getBytes", desc := "([BIB)V", sig := { parameters := [(.array .byte), .int, .byte], returnType := none }, accessFlags := 0, code := some k7c6 }
def k7c7 : Code := { maxStack := 4, maxLocals := 6, code := jdk_42_method_149_code, exceptionTable := #[], attributes := #[] }
def k7m7 : Method := { name := "<init>", desc := "([CIILjava/lang/Void;)V", sig := { parameters := [(.array .char), .int, .int, (.object "java/lang/Void")], returnType := none }, accessFlags := 2, code := some k7c7 }
def k7c8 : Code := { maxStack := 5, maxLocals := 5, code := jdk_42_method_150_code, exceptionTable := #[], attributes := #[] }
def k7m8 : Method := { name := "<init>", desc := "(Ljava/lang/AbstractStringBuilder;Ljava/lang/Void;)V", sig := { parameters := [(.object "java/lang/AbstractStringBuilder"), (.object "java/lang/Void")], returnType := none }, accessFlags := 0, code := some k7c8 }
def k7c9 : Code := { maxStack := 2, maxLocals := 3, code := jdk_42_method_151_code, exceptionTable := #[], attributes := #[] }
def k7m9 : Method := { name := "<init>", desc := "([BB)V", sig := { parameters := [(.array .byte), .byte], returnType := none }, accessFlags := 0, code := some k7c9 }
def k7c10 : Code := { maxStack := 1, maxLocals := 1, code := jdk_42_method_152_code, exceptionTable := #[], attributes := #[] }
def k7m10 : Method := { name := "coder", desc := "()B", sig := { parameters := [], returnType := some .byte }, accessFlags := 0, code := some k7c10 }
def k7c11 : Code := { maxStack := 1, maxLocals := 1, code := jdk_42_method_154_code, exceptionTable := #[], attributes := #[] }
def k7m11 : Method := { name := "isLatin1", desc := "()Z", sig := { parameters := [], returnType := some .boolean }, accessFlags := 0, code := some k7c11 }
def k7c12 : Code := { maxStack := 3, maxLocals := 2, code := jdk_42_method_155_code, exceptionTable := #[], attributes := #[] }
def k7m12 : Method := { name := "checkIndex", desc := "(II)V", sig := { parameters := [.int, .int], returnType := none }, accessFlags := 8, code := some k7c12 }
/-- java/lang/String -/
def k7 : Class := { plain "java/lang/String" (some 0) with
  accessFlags := 49
  interfaces := #[2, 3, 4, 5, 6]
  cf := some (fileOf pool7 10 #[.nestMembers #[1103]] #[{ accessFlags := 1, nameIndex := 5, descriptorIndex := 6, attributes := #[] }, { accessFlags := 1, nameIndex := 5, descriptorIndex := 1010, attributes := #[] }, { accessFlags := 1, nameIndex := 5, descriptorIndex := 1233, attributes := #[] }, { accessFlags := 1, nameIndex := 507, descriptorIndex := 334, attributes := #[] }, { accessFlags := 1, nameIndex := 497, descriptorIndex := 427, attributes := #[] }, { accessFlags := 9, nameIndex := 782, descriptorIndex := 783, attributes := #[] }, { accessFlags := 0, nameIndex := 532, descriptorIndex := 821, attributes := #[] }, { accessFlags := 2, nameIndex := 5, descriptorIndex := 29, attributes := #[] }, { accessFlags := 0, nameIndex := 5, descriptorIndex := 491, attributes := #[] }, { accessFlags := 0, nameIndex := 5, descriptorIndex := 211, attributes := #[] }, { accessFlags := 0, nameIndex := 17, descriptorIndex := 337, attributes := #[] }, { accessFlags := 0, nameIndex := 494, descriptorIndex := 142, attributes := #[] }, { accessFlags := 8, nameIndex := 501, descriptorIndex := 391, attributes := #[] }] 49 2 #[1106, 1108, 575, 1110, 1112] #[{ accessFlags := 18, nameIndex := 13, descriptorIndex := 14, attributes := #[] }, { accessFlags := 18, nameIndex := 17, descriptorIndex := 18, attributes := #[] }, { accessFlags := 2, nameIndex := 21, descriptorIndex := 22, attributes := #[] }, { accessFlags := 2, nameIndex := 25, descriptorIndex := 26, attributes := #[] }, { accessFlags := 26, nameIndex := 1116, descriptorIndex := 1117, attributes := #[] }, { accessFlags := 24, nameIndex := 40, descriptorIndex := 26, attributes := #[] }, { accessFlags := 26, nameIndex := 1101, descriptorIndex := 1102, attributes := #[] }, { accessFlags := 26, nameIndex := 1121, descriptorIndex := 1122, attributes := #[] }, { accessFlags := 25, nameIndex := 599, descriptorIndex := 600, attributes := #[] }, { accessFlags := 24, nameIndex := 1125, descriptorIndex := 18, attributes := #[] }, { accessFlags := 24, nameIndex := 1127, descriptorIndex := 18, attributes := #[] }])
  fields := #[{ name := "value", type := (.array .byte), accessFlags := 18, slot := 0, constantValue := 0 }, { name := "coder", type := .byte, accessFlags := 18, slot := 1, constantValue := 0 }, { name := "hash", type := .int, accessFlags := 2, slot := 2, constantValue := 0 }, { name := "hashIsZero", type := .boolean, accessFlags := 2, slot := 3, constantValue := 0 }, { name := "serialVersionUID", type := .long, accessFlags := 26, slot := 0, constantValue := 0 }, { name := "COMPACT_STRINGS", type := .boolean, accessFlags := 24, slot := 1, constantValue := 0 }, { name := "serialPersistentFields", type := (.array (.object "java/io/ObjectStreamField")), accessFlags := 26, slot := 2, constantValue := 0 }, { name := "REPL", type := .char, accessFlags := 26, slot := 3, constantValue := 0 }, { name := "CASE_INSENSITIVE_ORDER", type := (.object "java/util/Comparator"), accessFlags := 25, slot := 4, constantValue := 0 }, { name := "LATIN1", type := .byte, accessFlags := 24, slot := 5, constantValue := 0 }, { name := "UTF16", type := .byte, accessFlags := 24, slot := 6, constantValue := 0 }]
  methods := #[k7m0, k7m1, k7m2, k7m3, k7m4, k7m5, k7m6, k7m7, k7m8, k7m9, k7m10, k7m11, k7m12]
  instanceTypes := #[(.array .byte), .byte, .int, .boolean]
  staticTypes := #[.long, .boolean, (.array (.object "java/io/ObjectStreamField")), .char, (.object "java/util/Comparator"), .byte, .byte]
  resolved := Array.replicate 1451 none
  statics := some 0 }

def pool8 : Array CpInfo := pool [(1, .class_ 2), (0, u "com/example/estate4/estate4/jdbc/SelectText$Aliases"), (2, u "<init>"), (2, .class_ 10), (1, u "com/example/estate4/estate4/jdbc/SelectText"), (2, .class_ 14), (0, u "java/lang/Object"), (5, u "columns"), (0, u "Ljava/util/List;"), (2, u "tableColumns"), (2, u "grouping"), (0, .class_ 29), (0, u "java/lang/StringBuilder"), (3, u "from"), (0, u "Ljava/lang/StringBuilder;"), (2, u "aliases"), (0, u "Lcom/example/estate4/estate4/jdbc/SelectText$Aliases;"), (2, u "table"), (0, u "Ljava/lang/String;"), (3, u "()Ljava/lang/String;"), (2, u "first"), (0, .methodref 28 51), (0, .nameAndType 52 53), (0, u "append"), (0, u "(Ljava/lang/String;)Ljava/lang/StringBuilder;"), (12, .class_ 68), (1, u "com/example/estate4/estate4/jdbc/SelectText$Joined"), (13, u "joins"), (0, u "Z"), (40, .methodref 28 125), (0, .nameAndType 5 126), (0, u "(Ljava/lang/String;)V"), (37, .methodref 28 165), (0, .nameAndType 166 46), (0, u "toString"), (27, .string 195), (0, u " offset ? rows"), (0, .string 197), (0, u " fetch first ? rows only"), (0, u "FIRST"), (24, u "paged"), (0, u "(Ljava/lang/String;ZZ)Ljava/lang/String;")] 44

def k8c0 : Code := { maxStack := 3, maxLocals := 4, code := prog_6_method_24_code, exceptionTable := #[], attributes := #[] }
def k8m0 : Method := { name := "paged", desc := "(Ljava/lang/String;ZZ)Ljava/lang/String;", sig := { parameters := [(.object "java/lang/String"), .boolean, .boolean], returnType := some (.object "java/lang/String") }, accessFlags := 9, code := some k8c0 }
/-- com/example/estate4/estate4/jdbc/SelectText -/
def k8 : Class := { plain "com/example/estate4/estate4/jdbc/SelectText" (some 0) with
  accessFlags := 49
  interfaces := #[]
  cf := some (fileOf pool8 8 #[.nestMembers #[1, 66]] #[{ accessFlags := 9, nameIndex := 223, descriptorIndex := 224, attributes := #[] }] 49 13 #[] #[{ accessFlags := 25, nameIndex := 198, descriptorIndex := 42, attributes := #[] }, { accessFlags := 18, nameIndex := 20, descriptorIndex := 21, attributes := #[] }, { accessFlags := 18, nameIndex := 24, descriptorIndex := 21, attributes := #[] }, { accessFlags := 18, nameIndex := 27, descriptorIndex := 21, attributes := #[] }, { accessFlags := 18, nameIndex := 33, descriptorIndex := 34, attributes := #[] }, { accessFlags := 18, nameIndex := 37, descriptorIndex := 38, attributes := #[] }, { accessFlags := 18, nameIndex := 41, descriptorIndex := 42, attributes := #[] }, { accessFlags := 18, nameIndex := 49, descriptorIndex := 42, attributes := #[] }, { accessFlags := 2, nameIndex := 82, descriptorIndex := 83, attributes := #[] }])
  fields := #[{ name := "FIRST", type := (.object "java/lang/String"), accessFlags := 25, slot := 0, constantValue := 0 }, { name := "columns", type := (.object "java/util/List"), accessFlags := 18, slot := 0, constantValue := 0 }, { name := "tableColumns", type := (.object "java/util/List"), accessFlags := 18, slot := 1, constantValue := 0 }, { name := "grouping", type := (.object "java/util/List"), accessFlags := 18, slot := 2, constantValue := 0 }, { name := "from", type := (.object "java/lang/StringBuilder"), accessFlags := 18, slot := 3, constantValue := 0 }, { name := "aliases", type := (.object "com/example/estate4/estate4/jdbc/SelectText$Aliases"), accessFlags := 18, slot := 4, constantValue := 0 }, { name := "table", type := (.object "java/lang/String"), accessFlags := 18, slot := 5, constantValue := 0 }, { name := "first", type := (.object "java/lang/String"), accessFlags := 18, slot := 6, constantValue := 0 }, { name := "joins", type := .boolean, accessFlags := 2, slot := 7, constantValue := 0 }]
  methods := #[k8m0]
  instanceTypes := #[(.object "java/util/List"), (.object "java/util/List"), (.object "java/util/List"), (.object "java/lang/StringBuilder"), (.object "com/example/estate4/estate4/jdbc/SelectText$Aliases"), (.object "java/lang/String"), (.object "java/lang/String"), .boolean]
  staticTypes := #[(.object "java/lang/String")]
  resolved := Array.replicate 269 none
  statics := none }

def pool9 : Array CpInfo := pool [(1, .class_ 2), (0, u "java/lang/Appendable"), (0, .class_ 4), (0, u "java/lang/Object")] 9

/-- java/lang/Appendable -/
def k9 : Class := { plain "java/lang/Appendable" (some 0) with
  accessFlags := 1537
  interfaces := #[]
  cf := some (fileOf pool9 1 #[] #[] 1537 3 #[] #[])
  fields := #[]
  methods := #[]
  instanceTypes := #[]
  staticTypes := #[]
  resolved := Array.replicate 14 none
  statics := none }

def pool10 : Array CpInfo := pool [(1, .class_ 2), (0, u "java/lang/String"), (0, .methodref 4 5), (0, .class_ 6), (0, .nameAndType 7 8), (0, u "java/lang/Object"), (0, u "<init>"), (0, u "()V"), (1, .class_ 12), (1, u "java/lang/AbstractStringBuilder"), (0, u "EMPTYVALUE"), (0, u "[B"), (0, .fieldref 10 16), (0, .nameAndType 17 14), (0, u "value"), (0, .fieldref 1 19), (0, .nameAndType 20 21), (0, u "COMPACT_STRINGS"), (0, u "Z"), (0, .fieldref 10 23), (0, .nameAndType 24 25), (0, u "coder"), (0, u "B"), (6, .methodref 1 33), (0, .nameAndType 34 35), (0, u "length"), (0, u "()I"), (2, .integer 2147483631), (0, .integer 2147483647), (0, .methodref 1 41), (0, .nameAndType 24 42), (0, u "()B"), (0, .methodref 10 44), (0, .nameAndType 45 46), (0, u "append"), (0, u "(Ljava/lang/String;)Ljava/lang/AbstractStringBuilder;"), (1, .class_ 49), (0, u "java/lang/CharSequence"), (19, u "(Ljava/lang/String;)V"), (5, u "maybeLatin1"), (3, .fieldref 10 80), (0, .nameAndType 81 82), (0, u "count"), (0, u "I"), (2, u "isLatin1"), (0, u "()Z"), (13, .methodref 10 101), (0, .nameAndType 102 103), (0, u "ensureCapacityInternal"), (0, u "(I)V"), (0, .methodref 10 105), (0, .nameAndType 106 107), (0, u "newCapacity"), (0, u "(I)I"), (0, .methodref 109 110), (0, .class_ 111), (0, .nameAndType 112 113), (0, u "java/util/Arrays"), (0, u "copyOf"), (0, u "([BI)[B"), (0, .methodref 115 116), (0, .class_ 117), (0, .nameAndType 118 119), (0, u "jdk/internal/util/ArraysSupport"), (0, u "newLength"), (0, u "(III)I"), (88, .methodref 10 209), (0, .nameAndType 210 211), (0, u "putStringAt"), (0, u "(ILjava/lang/String;)V"), (5, u "inflateIfNeededFor"), (2, .nameAndType 221 222), (0, u "getBytes"), (0, u "([BIB)V"), (174, .methodref 10 398), (0, .nameAndType 217 69), (0, .methodref 1 220), (3, u "()[B"), (40, .class_ 445), (0, u "java/lang/Appendable"), (106, u "getValue")] 56

def k10m0 : Method := { name := "<init>", desc := "()V", sig := { parameters := [], returnType := none }, accessFlags := 0, code := none }
def k10c1 : Code := { maxStack := 2, maxLocals := 5, code := jdk_68_method_3_code, exceptionTable := #[], attributes := #[] }
def k10m1 : Method := { name := "<init>", desc := "(Ljava/lang/String;)V", sig := { parameters := [(.object "java/lang/String")], returnType := none }, accessFlags := 0, code := some k10c1 }
def k10c2 : Code := { maxStack := 1, maxLocals := 1, code := jdk_68_method_6_code, exceptionTable := #[], attributes := #[] }
def k10m2 : Method := { name := "length", desc := "()I", sig := { parameters := [], returnType := some .int }, accessFlags := 1, code := some k10c2 }
def k10c3 : Code := { maxStack := 4, maxLocals := 3, code := jdk_68_method_9_code, exceptionTable := #[], attributes := #[] }
def k10m3 : Method := { name := "ensureCapacityInternal", desc := "(I)V", sig := { parameters := [.int], returnType := none }, accessFlags := 2, code := some k10c3 }
def k10c4 : Code := { maxStack := 5, maxLocals := 6, code := jdk_68_method_10_code, exceptionTable := #[], attributes := #[] }
def k10m4 : Method := { name := "newCapacity", desc := "(I)I", sig := { parameters := [.int], returnType := some .int }, accessFlags := 2, code := some k10c4 }
def k10c5 : Code := { maxStack := 3, maxLocals := 3, code := jdk_68_method_22_code, exceptionTable := #[], attributes := #[] }
def k10m5 : Method := { name := "append", desc := "(Ljava/lang/String;)Ljava/lang/AbstractStringBuilder;", sig := { parameters := [(.object "java/lang/String")], returnType := some (.object "java/lang/AbstractStringBuilder") }, accessFlags := 1, code := some k10c5 }
def k10c6 : Code := { maxStack := 1, maxLocals := 1, code := jdk_68_method_64_code, exceptionTable := #[], attributes := #[] }
def k10m6 : Method := { name := "getValue", desc := "()[B", sig := { parameters := [], returnType := some (.array .byte) }, accessFlags := 16, code := some k10c6 }
def k10c7 : Code := { maxStack := 1, maxLocals := 1, code := jdk_68_method_68_code, exceptionTable := #[], attributes := #[] }
def k10m7 : Method := { name := "isLatin1", desc := "()Z", sig := { parameters := [], returnType := some .boolean }, accessFlags := 16, code := some k10c7 }
def k10c8 : Code := { maxStack := 2, maxLocals := 2, code := jdk_68_method_71_code, exceptionTable := #[], attributes := #[] }
def k10m8 : Method := { name := "inflateIfNeededFor", desc := "(Ljava/lang/String;)V", sig := { parameters := [(.object "java/lang/String")], returnType := none }, accessFlags := 2, code := some k10c8 }
def k10c9 : Code := { maxStack := 4, maxLocals := 3, code := jdk_68_method_73_code, exceptionTable := #[], attributes := #[] }
def k10m9 : Method := { name := "putStringAt", desc := "(ILjava/lang/String;)V", sig := { parameters := [.int, (.object "java/lang/String")], returnType := none }, accessFlags := 2, code := some k10c9 }
/-- java/lang/AbstractStringBuilder -/
def k10 : Class := { plain "java/lang/AbstractStringBuilder" (some 0) with
  accessFlags := 1056
  interfaces := #[9, 4]
  cf := some (fileOf pool10 10 #[] #[{ accessFlags := 0, nameIndex := 7, descriptorIndex := 8, attributes := #[] }, { accessFlags := 0, nameIndex := 7, descriptorIndex := 69, attributes := #[] }, { accessFlags := 1, nameIndex := 34, descriptorIndex := 35, attributes := #[] }, { accessFlags := 2, nameIndex := 102, descriptorIndex := 103, attributes := #[] }, { accessFlags := 2, nameIndex := 106, descriptorIndex := 107, attributes := #[] }, { accessFlags := 1, nameIndex := 45, descriptorIndex := 46, attributes := #[] }, { accessFlags := 16, nameIndex := 552, descriptorIndex := 403, attributes := #[] }, { accessFlags := 16, nameIndex := 85, descriptorIndex := 86, attributes := #[] }, { accessFlags := 2, nameIndex := 217, descriptorIndex := 69, attributes := #[] }, { accessFlags := 2, nameIndex := 210, descriptorIndex := 211, attributes := #[] }] 1056 4 #[444, 48] #[{ accessFlags := 0, nameIndex := 17, descriptorIndex := 14, attributes := #[] }, { accessFlags := 0, nameIndex := 24, descriptorIndex := 25, attributes := #[] }, { accessFlags := 0, nameIndex := 75, descriptorIndex := 21, attributes := #[] }, { accessFlags := 0, nameIndex := 81, descriptorIndex := 82, attributes := #[] }, { accessFlags := 26, nameIndex := 13, descriptorIndex := 14, attributes := #[] }])
  fields := #[{ name := "value", type := (.array .byte), accessFlags := 0, slot := 0, constantValue := 0 }, { name := "coder", type := .byte, accessFlags := 0, slot := 1, constantValue := 0 }, { name := "maybeLatin1", type := .boolean, accessFlags := 0, slot := 2, constantValue := 0 }, { name := "count", type := .int, accessFlags := 0, slot := 3, constantValue := 0 }, { name := "EMPTYVALUE", type := (.array .byte), accessFlags := 26, slot := 0, constantValue := 0 }]
  methods := #[k10m0, k10m1, k10m2, k10m3, k10m4, k10m5, k10m6, k10m7, k10m8, k10m9]
  instanceTypes := #[(.array .byte), .byte, .boolean, .int]
  staticTypes := #[(.array .byte)]
  resolved := Array.replicate 609 none
  statics := none }

def pool11 : Array CpInfo := pool [(2, .class_ 4), (1, u "java/lang/AbstractStringBuilder"), (0, u "<init>"), (1, .methodref 2 8), (0, .nameAndType 5 9), (0, u "(Ljava/lang/String;)V"), (8, .class_ 20), (1, u "java/lang/String"), (2, .methodref 24 25), (0, .class_ 26), (0, .nameAndType 27 28), (0, u "java/lang/StringBuilder"), (0, u "append"), (0, u "(Ljava/lang/String;)Ljava/lang/StringBuilder;"), (0, .methodref 2 30), (0, .nameAndType 27 31), (0, u "(Ljava/lang/String;)Ljava/lang/AbstractStringBuilder;"), (105, .methodref 18 138), (0, .nameAndType 5 139), (0, u "(Ljava/lang/StringBuilder;)V"), (5, u "()V"), (10, u "()I"), (186, .methodref 2 344), (0, .nameAndType 345 156), (0, u "length"), (3, .class_ 350), (0, u "java/lang/Appendable"), (0, .class_ 352), (0, u "java/io/Serializable"), (0, .class_ 354), (0, u "java/lang/Comparable"), (0, .class_ 356), (0, u "java/lang/CharSequence"), (0, u "serialVersionUID"), (0, u "J"), (40, u "toString"), (0, u "()Ljava/lang/String;")] 21

def k11m0 : Method := { name := "<init>", desc := "()V", sig := { parameters := [], returnType := none }, accessFlags := 1, code := none }
def k11c1 : Code := { maxStack := 2, maxLocals := 2, code := jdk_67_method_3_code, exceptionTable := #[], attributes := #[] }
def k11m1 : Method := { name := "<init>", desc := "(Ljava/lang/String;)V", sig := { parameters := [(.object "java/lang/String")], returnType := none }, accessFlags := 1, code := some k11c1 }
def k11c2 : Code := { maxStack := 2, maxLocals := 2, code := jdk_67_method_7_code, exceptionTable := #[], attributes := #[] }
def k11m2 : Method := { name := "append", desc := "(Ljava/lang/String;)Ljava/lang/StringBuilder;", sig := { parameters := [(.object "java/lang/String")], returnType := some (.object "java/lang/StringBuilder") }, accessFlags := 1, code := some k11c2 }
def k11c3 : Code := { maxStack := 3, maxLocals := 1, code := jdk_67_method_42_code, exceptionTable := #[], attributes := #[] }
def k11m3 : Method := { name := "toString", desc := "()Ljava/lang/String;", sig := { parameters := [], returnType := some (.object "java/lang/String") }, accessFlags := 1, code := some k11c3 }
def k11c4 : Code := { maxStack := 2, maxLocals := 2, code := jdk_67_method_80_code, exceptionTable := #[], attributes := #[] }
def k11m4 : Method := { name := "append", desc := "(Ljava/lang/String;)Ljava/lang/AbstractStringBuilder;", sig := { parameters := [(.object "java/lang/String")], returnType := some (.object "java/lang/AbstractStringBuilder") }, accessFlags := 4161, code := some k11c4 }
def k11c5 : Code := { maxStack := 1, maxLocals := 1, code := jdk_67_method_93_code, exceptionTable := #[], attributes := #[] }
def k11m5 : Method := { name := "length", desc := "()I", sig := { parameters := [], returnType := some .int }, accessFlags := 4161, code := some k11c5 }
/-- java/lang/StringBuilder -/
def k11 : Class := { plain "java/lang/StringBuilder" (some 10) with
  accessFlags := 49
  interfaces := #[9, 2, 3, 4]
  cf := some (fileOf pool11 24 #[] #[{ accessFlags := 1, nameIndex := 5, descriptorIndex := 145, attributes := #[] }, { accessFlags := 1, nameIndex := 5, descriptorIndex := 9, attributes := #[] }, { accessFlags := 1, nameIndex := 27, descriptorIndex := 28, attributes := #[] }, { accessFlags := 1, nameIndex := 399, descriptorIndex := 400, attributes := #[] }, { accessFlags := 4161, nameIndex := 27, descriptorIndex := 31, attributes := #[] }, { accessFlags := 4161, nameIndex := 345, descriptorIndex := 156, attributes := #[] }] 49 2 #[349, 351, 353, 355] #[{ accessFlags := 24, nameIndex := 357, descriptorIndex := 358, attributes := #[] }])
  fields := #[{ name := "serialVersionUID", type := .long, accessFlags := 24, slot := 0, constantValue := 0 }]
  methods := #[k11m0, k11m1, k11m2, k11m3, k11m4, k11m5]
  instanceTypes := #[(.array .byte), .byte, .boolean, .int]
  staticTypes := #[.long]
  resolved := Array.replicate 422 none
  statics := none }

def pool12 : Array CpInfo := pool [(2, .class_ 4), (1, u "java/lang/Object"), (0, u "<init>"), (0, u "()V"), (1, .class_ 10), (1, u "java/lang/System"), (0, u "allowSecurityManager"), (0, u "I"), (16, u "cons"), (0, u "Ljava/io/Console;"), (77, .class_ 110), (1, u "java/lang/System$CallersHolder"), (43, u "initialErrStream"), (0, u "Ljava/io/PrintStream;"), (19, u "security"), (0, u "Ljava/lang/SecurityManager;"), (31, .class_ 209), (0, u "java/lang/System$1"), (7, u "props"), (0, u "Ljava/util/Properties;"), (2, u "lineSeparator"), (0, u "Ljava/lang/String;"), (96, .class_ 321), (1, u "java/lang/System$LoggerFinder"), (5, .class_ 328), (0, u "java/lang/System$Logger"), (67, u "err"), (2, u "out"), (91, u "notSupportedJnuEncoding"), (15, u "in"), (17, u "initialIn"), (0, u "Ljava/io/InputStream;"), (35, u "bootLayer"), (0, u "Ljava/lang/ModuleLayer;"), (99, .class_ 664), (0, u "java/lang/System$2"), (9, u "NEVER"), (2, u "MAYBE"), (49, u "arraycopy"), (0, u "(Ljava/lang/Object;ILjava/lang/Object;II)V"), (72, .class_ 802), (0, u "java/lang/System$Logger$Level")] 31

def k12m0 : Method := { name := "<init>", desc := "()V", sig := { parameters := [], returnType := none }, accessFlags := 2, code := none }
def k12m1 : Method := { name := "arraycopy", desc := "(Ljava/lang/Object;ILjava/lang/Object;II)V", sig := { parameters := [(.object "java/lang/Object"), .int, (.object "java/lang/Object"), .int, .int], returnType := none }, accessFlags := 265, code := none }
/-- java/lang/System -/
def k12 : Class := { plain "java/lang/System" (some 0) with
  accessFlags := 49
  interfaces := #[]
  cf := some (fileOf pool12 8 #[.nestMembers #[319, 327, 801, 108, 663, 208]] #[{ accessFlags := 2, nameIndex := 5, descriptorIndex := 6, attributes := #[] }, { accessFlags := 265, nameIndex := 727, descriptorIndex := 728, attributes := #[] }] 49 2 #[] #[{ accessFlags := 25, nameIndex := 507, descriptorIndex := 526, attributes := #[] }, { accessFlags := 25, nameIndex := 399, descriptorIndex := 155, attributes := #[] }, { accessFlags := 25, nameIndex := 396, descriptorIndex := 155, attributes := #[] }, { accessFlags := 10, nameIndex := 525, descriptorIndex := 526, attributes := #[] }, { accessFlags := 26, nameIndex := 674, descriptorIndex := 12, attributes := #[] }, { accessFlags := 26, nameIndex := 677, descriptorIndex := 12, attributes := #[] }, { accessFlags := 10, nameIndex := 11, descriptorIndex := 12, attributes := #[] }, { accessFlags := 74, nameIndex := 175, descriptorIndex := 176, attributes := #[] }, { accessFlags := 10, nameIndex := 491, descriptorIndex := 222, attributes := #[] }, { accessFlags := 74, nameIndex := 29, descriptorIndex := 30, attributes := #[] }, { accessFlags := 74, nameIndex := 154, descriptorIndex := 155, attributes := #[] }, { accessFlags := 10, nameIndex := 217, descriptorIndex := 218, attributes := #[] }, { accessFlags := 10, nameIndex := 221, descriptorIndex := 222, attributes := #[] }, { accessFlags := 8, nameIndex := 562, descriptorIndex := 563, attributes := #[] }])
  fields := #[{ name := "in", type := (.object "java/io/InputStream"), accessFlags := 25, slot := 0, constantValue := 0 }, { name := "out", type := (.object "java/io/PrintStream"), accessFlags := 25, slot := 1, constantValue := 0 }, { name := "err", type := (.object "java/io/PrintStream"), accessFlags := 25, slot := 2, constantValue := 0 }, { name := "initialIn", type := (.object "java/io/InputStream"), accessFlags := 10, slot := 3, constantValue := 0 }, { name := "NEVER", type := .int, accessFlags := 26, slot := 4, constantValue := 0 }, { name := "MAYBE", type := .int, accessFlags := 26, slot := 5, constantValue := 0 }, { name := "allowSecurityManager", type := .int, accessFlags := 10, slot := 6, constantValue := 0 }, { name := "security", type := (.object "java/lang/SecurityManager"), accessFlags := 74, slot := 7, constantValue := 0 }, { name := "notSupportedJnuEncoding", type := (.object "java/lang/String"), accessFlags := 10, slot := 8, constantValue := 0 }, { name := "cons", type := (.object "java/io/Console"), accessFlags := 74, slot := 9, constantValue := 0 }, { name := "initialErrStream", type := (.object "java/io/PrintStream"), accessFlags := 74, slot := 10, constantValue := 0 }, { name := "props", type := (.object "java/util/Properties"), accessFlags := 10, slot := 11, constantValue := 0 }, { name := "lineSeparator", type := (.object "java/lang/String"), accessFlags := 10, slot := 12, constantValue := 0 }, { name := "bootLayer", type := (.object "java/lang/ModuleLayer"), accessFlags := 8, slot := 13, constantValue := 0 }]
  methods := #[k12m0, k12m1]
  instanceTypes := #[]
  staticTypes := #[(.object "java/io/InputStream"), (.object "java/io/PrintStream"), (.object "java/io/PrintStream"), (.object "java/io/InputStream"), .int, .int, .int, (.object "java/lang/SecurityManager"), (.object "java/lang/String"), (.object "java/io/Console"), (.object "java/io/PrintStream"), (.object "java/util/Properties"), (.object "java/lang/String"), (.object "java/lang/ModuleLayer")]
  resolved := Array.replicate 834 none
  statics := none }

def pool13 : Array CpInfo := pool [(2, .class_ 4), (1, u "java/lang/Object"), (0, u "<init>"), (0, u "()V"), (7, .class_ 16), (1, u "java/util/Arrays"), (57, .class_ 76), (1, u "java/util/Arrays$NaturalOrder"), (32, u "()Ljava/lang/Object;"), (3, .class_ 115), (1, u "java/util/Arrays$LegacyMergeSort"), (1, u "Z"), (10, .nameAndType 129 109), (0, u "clone"), (9, u "copyOfRange"), (10, .methodref 151 152), (0, .class_ 153), (0, .nameAndType 154 155), (0, u "java/lang/System"), (0, u "arraycopy"), (0, u "(Ljava/lang/Object;ILjava/lang/Object;II)V"), (146, u "copyOf"), (1, .methodref 305 306), (0, .class_ 307), (0, .nameAndType 308 309), (0, u "java/lang/Math"), (0, u "min"), (0, u "(II)I"), (0, .methodref 311 128), (0, .class_ 312), (0, u "[B"), (26, .methodref 14 340), (0, .nameAndType 341 342), (0, u "copyOfRangeByte"), (0, u "([BII)[B"), (0, .methodref 14 344), (0, .nameAndType 345 346), (0, u "checkLength"), (0, u "(II)V"), (28, .class_ 376), (0, u "java/util/Arrays$ArrayList"), (68, u "$assertionsDisabled"), (269, u "MIN_ARRAY_SORT_GRAN"), (0, u "I"), (2, u "INSERTIONSORT_THRESHOLD"), (149, u "([BI)[B"), (105, .class_ 976), (0, u "java/util/Arrays$ArrayItr")] 52

def k13m0 : Method := { name := "<init>", desc := "()V", sig := { parameters := [], returnType := none }, accessFlags := 2, code := none }
def k13c1 : Code := { maxStack := 6, maxLocals := 3, code := jdk_65_method_121_code, exceptionTable := #[], attributes := #[] }
def k13m1 : Method := { name := "copyOf", desc := "([BI)[B", sig := { parameters := [(.array .byte), .int], returnType := some (.array .byte) }, accessFlags := 9, code := some k13c1 }
def k13c2 : Code := { maxStack := 4, maxLocals := 2, code := jdk_65_method_131_code, exceptionTable := #[], attributes := #[] }
def k13m2 : Method := { name := "checkLength", desc := "(II)V", sig := { parameters := [.int, .int], returnType := none }, accessFlags := 10, code := some k13c2 }
def k13c3 : Code := { maxStack := 3, maxLocals := 3, code := jdk_65_method_132_code, exceptionTable := #[], attributes := #[] }
def k13m3 : Method := { name := "copyOfRange", desc := "([BII)[B", sig := { parameters := [(.array .byte), .int, .int], returnType := some (.array .byte) }, accessFlags := 9, code := some k13c3 }
def k13c4 : Code := { maxStack := 6, maxLocals := 5, code := jdk_65_method_133_code, exceptionTable := #[], attributes := #[] }
def k13m4 : Method := { name := "copyOfRangeByte", desc := "([BII)[B", sig := { parameters := [(.array .byte), .int, .int], returnType := some (.array .byte) }, accessFlags := 10, code := some k13c4 }
/-- java/util/Arrays -/
def k13 : Class := { plain "java/util/Arrays" (some 0) with
  accessFlags := 49
  interfaces := #[]
  cf := some (fileOf pool13 14 #[.nestMembers #[975, 375, 113, 74]] #[{ accessFlags := 2, nameIndex := 5, descriptorIndex := 6, attributes := #[] }, { accessFlags := 9, nameIndex := 302, descriptorIndex := 869, attributes := #[] }, { accessFlags := 10, nameIndex := 345, descriptorIndex := 346, attributes := #[] }, { accessFlags := 9, nameIndex := 139, descriptorIndex := 342, attributes := #[] }, { accessFlags := 10, nameIndex := 341, descriptorIndex := 342, attributes := #[] }] 49 2 #[] #[{ accessFlags := 26, nameIndex := 715, descriptorIndex := 716, attributes := #[] }, { accessFlags := 26, nameIndex := 719, descriptorIndex := 716, attributes := #[] }, { accessFlags := 4120, nameIndex := 445, descriptorIndex := 117, attributes := #[] }])
  fields := #[{ name := "MIN_ARRAY_SORT_GRAN", type := .int, accessFlags := 26, slot := 0, constantValue := 0 }, { name := "INSERTIONSORT_THRESHOLD", type := .int, accessFlags := 26, slot := 1, constantValue := 0 }, { name := "$assertionsDisabled", type := .boolean, accessFlags := 4120, slot := 2, constantValue := 0 }]
  methods := #[k13m0, k13m1, k13m2, k13m3, k13m4]
  instanceTypes := #[]
  staticTypes := #[.int, .int, .boolean]
  resolved := Array.replicate 1029 none
  statics := none }

def pool14 : Array CpInfo := pool [(1, .class_ 2), (0, u "java/lang/Math"), (1, .class_ 6), (1, u "java/lang/Object"), (0, u "<init>"), (0, u "()V"), (89, .class_ 100), (1, u "java/lang/Math$RandomNumberGeneratorHolder"), (71, u "negativeZeroFloatBits"), (0, u "J"), (2, u "negativeZeroDoubleBits"), (21, u "max"), (2, u "min"), (43, u "$assertionsDisabled"), (0, u "Z"), (88, u "(II)I"), (2, u "twoToTheDoubleScaleDown"), (0, u "D"), (4, u "twoToTheDoubleScaleUp"), (9, u "E"), (3, u "PI"), (2, u "TAU"), (2, u "DEGREES_TO_RADIANS"), (0, u "RADIANS_TO_DEGREES")] 94

def k14m0 : Method := { name := "<init>", desc := "()V", sig := { parameters := [], returnType := none }, accessFlags := 2, code := none }
def k14c1 : Code := { maxStack := 2, maxLocals := 2, code := jdk_29_method_65_code, exceptionTable := #[], attributes := #[] }
def k14m1 : Method := { name := "max", desc := "(II)I", sig := { parameters := [.int, .int], returnType := some .int }, accessFlags := 9, code := some k14c1 }
def k14c2 : Code := { maxStack := 2, maxLocals := 2, code := jdk_29_method_69_code, exceptionTable := #[], attributes := #[] }
def k14m2 : Method := { name := "min", desc := "(II)I", sig := { parameters := [.int, .int], returnType := some .int }, accessFlags := 9, code := some k14c2 }
/-- java/lang/Math -/
def k14 : Class := { plain "java/lang/Math" (some 0) with
  accessFlags := 49
  interfaces := #[]
  cf := some (fileOf pool14 1 #[.nestMembers #[98]] #[{ accessFlags := 2, nameIndex := 7, descriptorIndex := 8, attributes := #[] }, { accessFlags := 9, nameIndex := 198, descriptorIndex := 335, attributes := #[] }, { accessFlags := 9, nameIndex := 201, descriptorIndex := 335, attributes := #[] }] 49 4 #[] #[{ accessFlags := 25, nameIndex := 354, descriptorIndex := 339, attributes := #[] }, { accessFlags := 25, nameIndex := 358, descriptorIndex := 339, attributes := #[] }, { accessFlags := 25, nameIndex := 361, descriptorIndex := 339, attributes := #[] }, { accessFlags := 26, nameIndex := 364, descriptorIndex := 339, attributes := #[] }, { accessFlags := 26, nameIndex := 365, descriptorIndex := 339, attributes := #[] }, { accessFlags := 26, nameIndex := 172, descriptorIndex := 173, attributes := #[] }, { accessFlags := 26, nameIndex := 176, descriptorIndex := 173, attributes := #[] }, { accessFlags := 8, nameIndex := 344, descriptorIndex := 339, attributes := #[] }, { accessFlags := 8, nameIndex := 338, descriptorIndex := 339, attributes := #[] }, { accessFlags := 4120, nameIndex := 245, descriptorIndex := 246, attributes := #[] }])
  fields := #[{ name := "E", type := .double, accessFlags := 25, slot := 0, constantValue := 0 }, { name := "PI", type := .double, accessFlags := 25, slot := 1, constantValue := 0 }, { name := "TAU", type := .double, accessFlags := 25, slot := 2, constantValue := 0 }, { name := "DEGREES_TO_RADIANS", type := .double, accessFlags := 26, slot := 3, constantValue := 0 }, { name := "RADIANS_TO_DEGREES", type := .double, accessFlags := 26, slot := 4, constantValue := 0 }, { name := "negativeZeroFloatBits", type := .long, accessFlags := 26, slot := 5, constantValue := 0 }, { name := "negativeZeroDoubleBits", type := .long, accessFlags := 26, slot := 6, constantValue := 0 }, { name := "twoToTheDoubleScaleUp", type := .double, accessFlags := 8, slot := 7, constantValue := 0 }, { name := "twoToTheDoubleScaleDown", type := .double, accessFlags := 8, slot := 8, constantValue := 0 }, { name := "$assertionsDisabled", type := .boolean, accessFlags := 4120, slot := 9, constantValue := 0 }]
  methods := #[k14m0, k14m1, k14m2]
  instanceTypes := #[]
  staticTypes := #[.double, .double, .double, .double, .double, .long, .long, .double, .double, .boolean]
  resolved := Array.replicate 460 none
  statics := none }

def pool15 : Array CpInfo := pool [(6, .class_ 8), (1, u "java/lang/Object"), (0, u "<init>"), (0, u "()V"), (1, .class_ 14), (1, u "java/lang/StringUTF16"), (31, u "$assertionsDisabled"), (0, u "Z"), (13, u "HI_BYTE_SHIFT"), (0, u "I"), (2, u "LO_BYTE_SHIFT"), (49, .methodref 12 116), (0, .nameAndType 117 118), (0, u "compress"), (0, u "([CI[BII)I"), (3, u "([CII)[B"), (138, u "coderFromArrayLen"), (0, u "([BI)B"), (106, .class_ 371), (1, u "java/lang/StringUTF16$LinesSpliterator"), (58, u "MAX_LENGTH"), (196, .class_ 628), (0, u "java/lang/StringUTF16$CodePointsSpliterator"), (0, .class_ 630), (0, u "java/lang/StringUTF16$CharsSpliterator")] 4

def k15m0 : Method := { name := "<init>", desc := "()V", sig := { parameters := [], returnType := none }, accessFlags := 0, code := none }
def k15c1 : Code := { maxStack := 2, maxLocals := 2, code := jdk_52_method_15_code, exceptionTable := #[], attributes := #[] }
def k15m1 : Method := { name := "coderFromArrayLen", desc := "([BI)B", sig := { parameters := [(.array .byte), .int], returnType := some .byte }, accessFlags := 8, code := some k15c1 }
def k15c2 : Code := { maxStack := 5, maxLocals := 6, code := jdk_52_method_16_code, exceptionTable := #[], attributes := #[] }
def k15m2 : Method := { name := "compress", desc := "([CII)[B", sig := { parameters := [(.array .char), .int, .int], returnType := some (.array .byte) }, accessFlags := 9, code := some k15c2 }
def k15c3 : Code := { maxStack := 3, maxLocals := 7, code := jdk_52_method_21_code, exceptionTable := #[], attributes := #[] }
def k15m3 : Method := { name := "compress", desc := "([CI[BII)I", sig := { parameters := [(.array .char), .int, (.array .byte), .int, .int], returnType := some .int }, accessFlags := 9, code := some k15c3 }
/-- java/lang/StringUTF16 -/
def k15 : Class := { plain "java/lang/StringUTF16" (some 0) with
  accessFlags := 48
  interfaces := #[]
  cf := some (fileOf pool15 12 #[.nestMembers #[627, 629, 369]] #[{ accessFlags := 0, nameIndex := 9, descriptorIndex := 10, attributes := #[] }, { accessFlags := 8, nameIndex := 261, descriptorIndex := 262, attributes := #[] }, { accessFlags := 9, nameIndex := 117, descriptorIndex := 122, attributes := #[] }, { accessFlags := 9, nameIndex := 117, descriptorIndex := 118, attributes := #[] }] 48 6 #[] #[{ accessFlags := 26, nameIndex := 61, descriptorIndex := 62, attributes := #[] }, { accessFlags := 26, nameIndex := 65, descriptorIndex := 62, attributes := #[] }, { accessFlags := 24, nameIndex := 430, descriptorIndex := 62, attributes := #[] }, { accessFlags := 4120, nameIndex := 46, descriptorIndex := 47, attributes := #[] }])
  fields := #[{ name := "HI_BYTE_SHIFT", type := .int, accessFlags := 26, slot := 0, constantValue := 0 }, { name := "LO_BYTE_SHIFT", type := .int, accessFlags := 26, slot := 1, constantValue := 0 }, { name := "MAX_LENGTH", type := .int, accessFlags := 24, slot := 2, constantValue := 0 }, { name := "$assertionsDisabled", type := .boolean, accessFlags := 4120, slot := 3, constantValue := 0 }]
  methods := #[k15m0, k15m1, k15m2, k15m3]
  instanceTypes := #[]
  staticTypes := #[.int, .int, .int, .boolean]
  resolved := Array.replicate 635 none
  statics := none }

def pool16 : Array CpInfo := pool [(1, .class_ 2), (0, u "java/lang/String"), (1, .class_ 6), (1, u "java/lang/Object"), (0, u "<init>"), (0, u "()V"), (0, .methodref 1 10), (0, .nameAndType 11 12), (0, u "checkIndex"), (0, u "(II)V"), (1, .class_ 16), (1, u "java/lang/StringLatin1"), (36, u "([BI)C"), (36, u "canEncode"), (14, u "(C)Z"), (15, u "$assertionsDisabled"), (0, u "Z"), (98, .class_ 223), (1, u "java/lang/StringLatin1$LinesSpliterator"), (28, u "charAt"), (127, u "toBytes"), (1, u "(C)[B"), (7, .class_ 391), (0, u "java/lang/StringLatin1$CharsSpliterator")] 3

def k16m0 : Method := { name := "<init>", desc := "()V", sig := { parameters := [], returnType := none }, accessFlags := 0, code := none }
def k16c1 : Code := { maxStack := 2, maxLocals := 2, code := jdk_43_method_2_code, exceptionTable := #[], attributes := #[] }
def k16m1 : Method := { name := "charAt", desc := "([BI)C", sig := { parameters := [(.array .byte), .int], returnType := some .char }, accessFlags := 9, code := some k16c1 }
def k16c2 : Code := { maxStack := 2, maxLocals := 1, code := jdk_43_method_3_code, exceptionTable := #[], attributes := #[] }
def k16m2 : Method := { name := "canEncode", desc := "(C)Z", sig := { parameters := [.char], returnType := some .boolean }, accessFlags := 9, code := some k16c2 }
def k16c3 : Code := { maxStack := 4, maxLocals := 1, code := jdk_43_method_46_code, exceptionTable := #[], attributes := #[] }
def k16m3 : Method := { name := "toBytes", desc := "(C)[B", sig := { parameters := [.char], returnType := some (.array .byte) }, accessFlags := 9, code := some k16c3 }
/-- java/lang/StringLatin1 -/
def k16 : Class := { plain "java/lang/StringLatin1" (some 0) with
  accessFlags := 48
  interfaces := #[]
  cf := some (fileOf pool16 14 #[.nestMembers #[390, 221]] #[{ accessFlags := 0, nameIndex := 7, descriptorIndex := 8, attributes := #[] }, { accessFlags := 9, nameIndex := 252, descriptorIndex := 53, attributes := #[] }, { accessFlags := 9, nameIndex := 90, descriptorIndex := 105, attributes := #[] }, { accessFlags := 9, nameIndex := 380, descriptorIndex := 382, attributes := #[] }] 48 4 #[] #[{ accessFlags := 4120, nameIndex := 121, descriptorIndex := 122, attributes := #[] }])
  fields := #[{ name := "$assertionsDisabled", type := .boolean, accessFlags := 4120, slot := 0, constantValue := 0 }]
  methods := #[k16m0, k16m1, k16m2, k16m3]
  instanceTypes := #[]
  staticTypes := #[.boolean]
  resolved := Array.replicate 395 none
  statics := none }

def pool17 : Array CpInfo := pool [(2, .class_ 4), (1, u "java/lang/Object"), (0, u "<init>"), (0, u "()V"), (17, .class_ 26), (1, u "jdk/internal/util/Preconditions"), (6, u "checkIndex"), (21, .class_ 56), (0, u "jdk/internal/util/Preconditions$4"), (57, .class_ 115), (0, u "jdk/internal/util/Preconditions$1"), (7, u "SIOOBE_FORMATTER"), (0, u "Ljava/util/function/BiFunction;"), (0, .class_ 126), (0, u "jdk/internal/util/Preconditions$2"), (3, u "AIOOBE_FORMATTER"), (0, .class_ 132), (0, u "jdk/internal/util/Preconditions$3"), (3, u "IOOBE_FORMATTER"), (41, u "(IILjava/util/function/BiFunction;)I")] 15

def k17m0 : Method := { name := "<init>", desc := "()V", sig := { parameters := [], returnType := none }, accessFlags := 1, code := none }
def k17c1 : Code := { maxStack := 3, maxLocals := 3, code := jdk_41_method_11_code, exceptionTable := #[], attributes := #[] }
def k17m1 : Method := { name := "checkIndex", desc := "(IILjava/util/function/BiFunction;)I", sig := { parameters := [.int, .int, (.object "java/util/function/BiFunction")], returnType := some .int }, accessFlags := 9, code := some k17c1 }
/-- jdk/internal/util/Preconditions -/
def k17 : Class := { plain "jdk/internal/util/Preconditions" (some 0) with
  accessFlags := 33
  interfaces := #[]
  cf := some (fileOf pool17 24 #[.nestMembers #[55, 131, 125, 114]] #[{ accessFlags := 1, nameIndex := 5, descriptorIndex := 6, attributes := #[] }, { accessFlags := 9, nameIndex := 33, descriptorIndex := 178, attributes := #[] }] 33 2 #[] #[{ accessFlags := 25, nameIndex := 123, descriptorIndex := 124, attributes := #[] }, { accessFlags := 25, nameIndex := 130, descriptorIndex := 124, attributes := #[] }, { accessFlags := 25, nameIndex := 136, descriptorIndex := 124, attributes := #[] }])
  fields := #[{ name := "SIOOBE_FORMATTER", type := (.object "java/util/function/BiFunction"), accessFlags := 25, slot := 0, constantValue := 0 }, { name := "AIOOBE_FORMATTER", type := (.object "java/util/function/BiFunction"), accessFlags := 25, slot := 1, constantValue := 0 }, { name := "IOOBE_FORMATTER", type := (.object "java/util/function/BiFunction"), accessFlags := 25, slot := 2, constantValue := 0 }]
  methods := #[k17m0, k17m1]
  instanceTypes := #[]
  staticTypes := #[(.object "java/util/function/BiFunction"), (.object "java/util/function/BiFunction"), (.object "java/util/function/BiFunction")]
  resolved := Array.replicate 194 none
  statics := some 1 }

def pool18 : Array CpInfo := pool [(9, u "<init>"), (6, .class_ 18), (1, u "java/lang/Object"), (0, u "()V"), (1, .class_ 23), (1, u "jdk/internal/util/ArraysSupport"), (0, u "LOG2_ARRAY_LONG_INDEX_SCALE"), (0, u "I"), (2, u "U"), (0, u "Ljdk/internal/misc/Unsafe;"), (8, u "BIG_ENDIAN"), (0, u "Z"), (8, u "LOG2_BYTE_BIT_SIZE"), (4, u "LOG2_ARRAY_INT_INDEX_SCALE"), (54, u "JLA"), (0, u "Ljdk/internal/access/JavaLangAccess;"), (11, u "LOG2_ARRAY_BOOLEAN_INDEX_SCALE"), (9, u "LOG2_ARRAY_BYTE_INDEX_SCALE"), (5, u "LOG2_ARRAY_CHAR_INDEX_SCALE"), (5, u "LOG2_ARRAY_SHORT_INDEX_SCALE"), (18, u "LOG2_ARRAY_FLOAT_INDEX_SCALE"), (24, u "LOG2_ARRAY_DOUBLE_INDEX_SCALE"), (6, .methodref 195 196), (0, .class_ 197), (0, .nameAndType 198 199), (0, u "java/lang/Math"), (0, u "max"), (0, u "(II)I"), (0, .integer 2147483639), (76, u "T_BOOLEAN"), (2, u "T_CHAR"), (1, u "T_FLOAT"), (1, u "T_DOUBLE"), (1, u "T_BYTE"), (1, u "T_SHORT"), (1, u "T_INT"), (1, u "T_LONG"), (1, u "SOFT_MAX_ARRAY_LENGTH"), (56, u "newLength"), (0, u "(III)I")] 25

def k18m0 : Method := { name := "<init>", desc := "()V", sig := { parameters := [], returnType := none }, accessFlags := 2, code := none }
def k18c1 : Code := { maxStack := 3, maxLocals := 4, code := jdk_48_method_27_code, exceptionTable := #[], attributes := #[] }
def k18m1 : Method := { name := "newLength", desc := "(III)I", sig := { parameters := [.int, .int, .int], returnType := some .int }, accessFlags := 9, code := some k18c1 }
/-- jdk/internal/util/ArraysSupport -/
def k18 : Class := { plain "jdk/internal/util/ArraysSupport" (some 0) with
  accessFlags := 33
  interfaces := #[]
  cf := some (fileOf pool18 21 #[] #[{ accessFlags := 2, nameIndex := 9, descriptorIndex := 19, attributes := #[] }, { accessFlags := 9, nameIndex := 351, descriptorIndex := 352, attributes := #[] }] 33 16 #[] #[{ accessFlags := 24, nameIndex := 28, descriptorIndex := 29, attributes := #[] }, { accessFlags := 26, nameIndex := 38, descriptorIndex := 39, attributes := #[] }, { accessFlags := 25, nameIndex := 121, descriptorIndex := 25, attributes := #[] }, { accessFlags := 25, nameIndex := 131, descriptorIndex := 25, attributes := #[] }, { accessFlags := 25, nameIndex := 137, descriptorIndex := 25, attributes := #[] }, { accessFlags := 25, nameIndex := 143, descriptorIndex := 25, attributes := #[] }, { accessFlags := 25, nameIndex := 53, descriptorIndex := 25, attributes := #[] }, { accessFlags := 25, nameIndex := 24, descriptorIndex := 25, attributes := #[] }, { accessFlags := 25, nameIndex := 162, descriptorIndex := 25, attributes := #[] }, { accessFlags := 25, nameIndex := 187, descriptorIndex := 25, attributes := #[] }, { accessFlags := 26, nameIndex := 48, descriptorIndex := 25, attributes := #[] }, { accessFlags := 25, nameIndex := 277, descriptorIndex := 25, attributes := #[] }, { accessFlags := 25, nameIndex := 280, descriptorIndex := 25, attributes := #[] }, { accessFlags := 25, nameIndex := 282, descriptorIndex := 25, attributes := #[] }, { accessFlags := 25, nameIndex := 284, descriptorIndex := 25, attributes := #[] }, { accessFlags := 25, nameIndex := 286, descriptorIndex := 25, attributes := #[] }, { accessFlags := 25, nameIndex := 288, descriptorIndex := 25, attributes := #[] }, { accessFlags := 25, nameIndex := 290, descriptorIndex := 25, attributes := #[] }, { accessFlags := 25, nameIndex := 292, descriptorIndex := 25, attributes := #[] }, { accessFlags := 26, nameIndex := 108, descriptorIndex := 109, attributes := #[] }, { accessFlags := 25, nameIndex := 294, descriptorIndex := 25, attributes := #[] }])
  fields := #[{ name := "U", type := (.object "jdk/internal/misc/Unsafe"), accessFlags := 24, slot := 0, constantValue := 0 }, { name := "BIG_ENDIAN", type := .boolean, accessFlags := 26, slot := 1, constantValue := 0 }, { name := "LOG2_ARRAY_BOOLEAN_INDEX_SCALE", type := .int, accessFlags := 25, slot := 2, constantValue := 0 }, { name := "LOG2_ARRAY_BYTE_INDEX_SCALE", type := .int, accessFlags := 25, slot := 3, constantValue := 0 }, { name := "LOG2_ARRAY_CHAR_INDEX_SCALE", type := .int, accessFlags := 25, slot := 4, constantValue := 0 }, { name := "LOG2_ARRAY_SHORT_INDEX_SCALE", type := .int, accessFlags := 25, slot := 5, constantValue := 0 }, { name := "LOG2_ARRAY_INT_INDEX_SCALE", type := .int, accessFlags := 25, slot := 6, constantValue := 0 }, { name := "LOG2_ARRAY_LONG_INDEX_SCALE", type := .int, accessFlags := 25, slot := 7, constantValue := 0 }, { name := "LOG2_ARRAY_FLOAT_INDEX_SCALE", type := .int, accessFlags := 25, slot := 8, constantValue := 0 }, { name := "LOG2_ARRAY_DOUBLE_INDEX_SCALE", type := .int, accessFlags := 25, slot := 9, constantValue := 0 }, { name := "LOG2_BYTE_BIT_SIZE", type := .int, accessFlags := 26, slot := 10, constantValue := 0 }, { name := "T_BOOLEAN", type := .int, accessFlags := 25, slot := 11, constantValue := 0 }, { name := "T_CHAR", type := .int, accessFlags := 25, slot := 12, constantValue := 0 }, { name := "T_FLOAT", type := .int, accessFlags := 25, slot := 13, constantValue := 0 }, { name := "T_DOUBLE", type := .int, accessFlags := 25, slot := 14, constantValue := 0 }, { name := "T_BYTE", type := .int, accessFlags := 25, slot := 15, constantValue := 0 }, { name := "T_SHORT", type := .int, accessFlags := 25, slot := 16, constantValue := 0 }, { name := "T_INT", type := .int, accessFlags := 25, slot := 17, constantValue := 0 }, { name := "T_LONG", type := .int, accessFlags := 25, slot := 18, constantValue := 0 }, { name := "JLA", type := (.object "jdk/internal/access/JavaLangAccess"), accessFlags := 26, slot := 19, constantValue := 0 }, { name := "SOFT_MAX_ARRAY_LENGTH", type := .int, accessFlags := 25, slot := 20, constantValue := 0 }]
  methods := #[k18m0, k18m1]
  instanceTypes := #[]
  staticTypes := #[(.object "jdk/internal/misc/Unsafe"), .boolean, .int, .int, .int, .int, .int, .int, .int, .int, .int, .int, .int, .int, .int, .int, .int, .int, .int, (.object "jdk/internal/access/JavaLangAccess"), .int]
  resolved := Array.replicate 378 none
  statics := none }

def pool19 : Array CpInfo := pool [(1, .class_ 2), (0, u "java/lang/Cloneable"), (0, .class_ 4), (0, u "java/lang/Object")] 2

/-- java/lang/Cloneable -/
def k19 : Class := { plain "java/lang/Cloneable" (some 0) with
  accessFlags := 1537
  interfaces := #[]
  cf := some (fileOf pool19 1 #[] #[] 1537 3 #[] #[])
  fields := #[]
  methods := #[]
  instanceTypes := #[]
  staticTypes := #[]
  resolved := Array.replicate 7 none
  statics := none }

/-- the primitive byte -/
def k20 : Class := { plain "byte" none with kind := .primitive 'B', accessFlags := 0x411 }
/-- [B -/
def k21 : Class := { plain "[B" (some 0) with kind := .array 20 .byte, interfaces := #[19, 2], accessFlags := 1041 }

/-- the primitive char -/
def k22 : Class := { plain "char" none with kind := .primitive 'C', accessFlags := 0x411 }
/-- [C -/
def k23 : Class := { plain "[C" (some 0) with kind := .array 22 .char, interfaces := #[19, 2], accessFlags := 1041 }

/-- the primitive int -/
def k24 : Class := { plain "int" none with kind := .primitive 'I', accessFlags := 0x411 }
/-- [I -/
def k25 : Class := { plain "[I" (some 0) with kind := .array 24 .int, interfaces := #[19, 2], accessFlags := 1041 }

def heap : Heap := #[{ cls := 7, slots := #[.long 0, .int 1, .null, .int 0, .null, .int 0, .int 0], vm := .statics 7 },
  { cls := 17, slots := #[.null, .null, .null], vm := .statics 17 }]
def classes : Array Class := #[k0, k1, k2, k3, k4, k5, k6, k7, k8, k9, k10, k11, k12, k13, k14, k15, k16, k17, k18, k19, k20, k21, k22, k23, k24, k25]
def interned : List (Array UInt16 × Addr) := []
def slotsUsed : Nat := 10
def theMethod : MethodId := ⟨1, 3⟩
def args0 : Array Value := #[.int 5, .int 5, .int 5, .int 5]
def aboutOver (below : List Frame) : State where
  vm := { classes := classes, interned := interned.toArray }
  heap := heap
  slotsUsed := slotsUsed
  threads := #[{ frames := .invoking theMethod args0 :: below }]
def below0 : List Frame := [.native { method := ⟨0, 0⟩, args := #[] }]
def about1 : State := aboutOver below0
def p0 : Program := .bare "" "" ""
def e0 : Env := launch0.env 0 0 0
theorem w_frames : about1.frames = Frame.invoking theMethod args0 :: below0 := rfl
set_option maxRecDepth 65536 in
theorem w_args : argsFit about1.vm theMethod args0 = true := by decide +kernel
set_option maxRecDepth 65536 in
theorem w_heap : heapFits about1 = true := by decide +kernel
set_option maxRecDepth 65536 in
theorem w_runnable : about1.curStatus? = some .runnable := by decide +kernel
set_option maxRecDepth 65536 in
theorem w_alone : about1.alone = true := by decide +kernel
set_option maxRecDepth 65536 in
theorem w_named : about1.methodNamed? x = some theMethod := by decide +kernel
set_option maxRecDepth 65536 in
theorem w_hears : about1.hears theMethod below0 = true := by decide +kernel
set_option maxRecDepth 65536 in
theorem w_ripe : about1.ripe theMethod args0 below0 = true := by decide +kernel
theorem w_running : about1.status = .running := rfl
set_option maxRecDepth 65536 in
theorem w_room : about1.hasRoom e0.platform room_1 = true :=
  launch0.hasRoom_least _ room_1 (by decide +kernel) (by decide +kernel) (by decide +kernel) (by decide +kernel) (by decide +kernel) (by decide +kernel)
theorem allAtoms_all (ts : List Jvm.Cond) (a : Array Jvm.Value) (st : Jvm.State) : (allAtoms ts).before a st = ts.all (fun c => c.before a st) := by
  induction ts with
  | nil => rfl
  | cons c t ih =>
    show (Jvm.Cond.and c (allAtoms t)).before a st = _
    rw [Jvm.Cond.before_and, ih, List.all_cons]
def words1 : List Jvm.Cond := Jvm.Cond.code x code maxLocals ret :: tables_1
/-- a 'code' word, met by the world's own term for the bytes: nothing is compared byte by byte -/
theorem code_word {y : MethodName} {bytes : ByteArray} {mx : Nat} {rt : Option FieldType} {a : Array Value} {s : State} {m : MethodId} {meth : Method} {c : Code} (h1 : s.methodNamed? y = some m) (h2 : s.vm.method? m = some meth) (h3 : meth.code = some c) (h4 : c.code = bytes)
    (h5 : (c.maxLocals == mx && c.exceptionTable.isEmpty && decide (c.maxStack ≤ mostOperands) && decide (meth.sig.returnType = rt) && !meth.locks && decide (parseMethodDescriptor y.desc = some meth.sig)) = true) : (Jvm.Cond.code y bytes mx rt).before a s = true := by
  simp only [Bool.and_eq_true, beq_iff_eq, Bool.not_eq_true', decide_eq_true_eq] at h5
  obtain ⟨⟨⟨⟨⟨g1, g2⟩, g3⟩, g4⟩, g5⟩, g6⟩ := h5
  simp [Cond.before, Cond.holds, Cond.value, h1, h2, h3, h4, g1, g2, g3, g4, g5, g6]
def isCode : Jvm.Cond → Bool
  | .code _ _ _ _ => true
  | _ => false
theorem all_split {L : List Jvm.Cond} {P : Jvm.Cond → Bool} (h1 : L.all (fun c => isCode c || P c) = true) (h2 : ∀ c ∈ L.filter isCode, P c = true) : L.all P = true := by
  refine List.all_eq_true.mpr fun c hc => ?_
  have h := List.all_eq_true.mp h1 c hc
  rcases Bool.eq_false_or_eq_true (isCode c) with hi | hi
  · exact h2 c (List.mem_filter.mpr ⟨hc, hi⟩)
  · simpa [hi] using h
set_option maxRecDepth 65536 in
theorem w_c0 : (Jvm.Cond.code x code maxLocals ret).before args0 about1 = true := code_word (m := ⟨1, 3⟩) (meth := k1m3) (c := k1c3) (by decide +kernel) rfl rfl rfl (by decide +kernel)
set_option maxRecDepth 65536 in
theorem w_c1 : (Jvm.Cond.code ({ cls := "com/example/estate4/estate4/jdbc/SelectText", name := "paged", desc := "(Ljava/lang/String;ZZ)Ljava/lang/String;" } : Jvm.MethodName) prog_6_method_24_code (4 : Nat) (Option.some (Jvm.ClassFile.FieldType.object "java/lang/String"))).before args0 about1 = true := code_word (m := ⟨8, 0⟩) (meth := k8m0) (c := k8c0) (by decide +kernel) rfl rfl rfl (by decide +kernel)
set_option maxRecDepth 65536 in
theorem w_c2 : (Jvm.Cond.code ({ cls := "java/lang/StringBuilder", name := "<init>", desc := "(Ljava/lang/String;)V" } : Jvm.MethodName) jdk_67_method_3_code (2 : Nat) (Option.none : Option Jvm.ClassFile.FieldType)).before args0 about1 = true := code_word (m := ⟨11, 1⟩) (meth := k11m1) (c := k11c1) (by decide +kernel) rfl rfl rfl (by decide +kernel)
set_option maxRecDepth 65536 in
theorem w_c3 : (Jvm.Cond.code ({ cls := "java/lang/AbstractStringBuilder", name := "<init>", desc := "(Ljava/lang/String;)V" } : Jvm.MethodName) jdk_68_method_3_code (5 : Nat) (Option.none : Option Jvm.ClassFile.FieldType)).before args0 about1 = true := code_word (m := ⟨10, 1⟩) (meth := k10m1) (c := k10c1) (by decide +kernel) rfl rfl rfl (by decide +kernel)
set_option maxRecDepth 65536 in
theorem w_c4 : (Jvm.Cond.code ({ cls := "java/lang/Object", name := "<init>", desc := "()V" } : Jvm.MethodName) object_method_1_code (1 : Nat) (Option.none : Option Jvm.ClassFile.FieldType)).before args0 about1 = true := code_word (m := ⟨0, 0⟩) (meth := k0m0) (c := k0c0) (by decide +kernel) rfl rfl rfl (by decide +kernel)
set_option maxRecDepth 65536 in
theorem w_c5 : (Jvm.Cond.code ({ cls := "java/lang/String", name := "length", desc := "()I" } : Jvm.MethodName) jdk_42_method_54_code (1 : Nat) (Option.some Jvm.ClassFile.FieldType.int)).before args0 about1 = true := code_word (m := ⟨7, 3⟩) (meth := k7m3) (c := k7c3) (by decide +kernel) rfl rfl rfl (by decide +kernel)
set_option maxRecDepth 65536 in
theorem w_c6 : (Jvm.Cond.code ({ cls := "java/lang/String", name := "coder", desc := "()B" } : Jvm.MethodName) jdk_42_method_152_code (1 : Nat) (Option.some Jvm.ClassFile.FieldType.byte)).before args0 about1 = true := code_word (m := ⟨7, 10⟩) (meth := k7m10) (c := k7c10) (by decide +kernel) rfl rfl rfl (by decide +kernel)
set_option maxRecDepth 65536 in
theorem w_c7 : (Jvm.Cond.code ({ cls := "java/lang/StringBuilder", name := "append", desc := "(Ljava/lang/String;)Ljava/lang/AbstractStringBuilder;" } : Jvm.MethodName) jdk_67_method_80_code (2 : Nat) (Option.some (Jvm.ClassFile.FieldType.object "java/lang/AbstractStringBuilder"))).before args0 about1 = true := code_word (m := ⟨11, 4⟩) (meth := k11m4) (c := k11c4) (by decide +kernel) rfl rfl rfl (by decide +kernel)
set_option maxRecDepth 65536 in
theorem w_c8 : (Jvm.Cond.code ({ cls := "java/lang/StringBuilder", name := "append", desc := "(Ljava/lang/String;)Ljava/lang/StringBuilder;" } : Jvm.MethodName) jdk_67_method_7_code (2 : Nat) (Option.some (Jvm.ClassFile.FieldType.object "java/lang/StringBuilder"))).before args0 about1 = true := code_word (m := ⟨11, 2⟩) (meth := k11m2) (c := k11c2) (by decide +kernel) rfl rfl rfl (by decide +kernel)
set_option maxRecDepth 65536 in
theorem w_c9 : (Jvm.Cond.code ({ cls := "java/lang/AbstractStringBuilder", name := "append", desc := "(Ljava/lang/String;)Ljava/lang/AbstractStringBuilder;" } : Jvm.MethodName) jdk_68_method_22_code (3 : Nat) (Option.some (Jvm.ClassFile.FieldType.object "java/lang/AbstractStringBuilder"))).before args0 about1 = true := code_word (m := ⟨10, 5⟩) (meth := k10m5) (c := k10c5) (by decide +kernel) rfl rfl rfl (by decide +kernel)
set_option maxRecDepth 65536 in
theorem w_c10 : (Jvm.Cond.code ({ cls := "java/lang/AbstractStringBuilder", name := "ensureCapacityInternal", desc := "(I)V" } : Jvm.MethodName) jdk_68_method_9_code (3 : Nat) (Option.none : Option Jvm.ClassFile.FieldType)).before args0 about1 = true := code_word (m := ⟨10, 3⟩) (meth := k10m3) (c := k10c3) (by decide +kernel) rfl rfl rfl (by decide +kernel)
set_option maxRecDepth 65536 in
theorem w_c11 : (Jvm.Cond.code ({ cls := "java/lang/AbstractStringBuilder", name := "putStringAt", desc := "(ILjava/lang/String;)V" } : Jvm.MethodName) jdk_68_method_73_code (3 : Nat) (Option.none : Option Jvm.ClassFile.FieldType)).before args0 about1 = true := code_word (m := ⟨10, 9⟩) (meth := k10m9) (c := k10c9) (by decide +kernel) rfl rfl rfl (by decide +kernel)
set_option maxRecDepth 65536 in
theorem w_c12 : (Jvm.Cond.code ({ cls := "java/lang/AbstractStringBuilder", name := "inflateIfNeededFor", desc := "(Ljava/lang/String;)V" } : Jvm.MethodName) jdk_68_method_71_code (2 : Nat) (Option.none : Option Jvm.ClassFile.FieldType)).before args0 about1 = true := code_word (m := ⟨10, 8⟩) (meth := k10m8) (c := k10c8) (by decide +kernel) rfl rfl rfl (by decide +kernel)
set_option maxRecDepth 65536 in
theorem w_c13 : (Jvm.Cond.code ({ cls := "java/lang/String", name := "getBytes", desc := "([BIB)V" } : Jvm.MethodName) jdk_42_method_147_code (4 : Nat) (Option.none : Option Jvm.ClassFile.FieldType)).before args0 about1 = true := code_word (m := ⟨7, 6⟩) (meth := k7m6) (c := k7c6) (by decide +kernel) rfl rfl rfl (by decide +kernel)
set_option maxRecDepth 65536 in
theorem w_c14 : (Jvm.Cond.code ({ cls := "java/lang/StringBuilder", name := "toString", desc := "()Ljava/lang/String;" } : Jvm.MethodName) jdk_67_method_42_code (1 : Nat) (Option.some (Jvm.ClassFile.FieldType.object "java/lang/String"))).before args0 about1 = true := code_word (m := ⟨11, 3⟩) (meth := k11m3) (c := k11c3) (by decide +kernel) rfl rfl rfl (by decide +kernel)
set_option maxRecDepth 65536 in
theorem w_c15 : (Jvm.Cond.code ({ cls := "java/lang/String", name := "<init>", desc := "(Ljava/lang/StringBuilder;)V" } : Jvm.MethodName) jdk_42_method_53_code (2 : Nat) (Option.none : Option Jvm.ClassFile.FieldType)).before args0 about1 = true := code_word (m := ⟨7, 2⟩) (meth := k7m2) (c := k7c2) (by decide +kernel) rfl rfl rfl (by decide +kernel)
set_option maxRecDepth 65536 in
theorem w_c16 : (Jvm.Cond.code ({ cls := "java/lang/String", name := "<init>", desc := "(Ljava/lang/AbstractStringBuilder;Ljava/lang/Void;)V" } : Jvm.MethodName) jdk_42_method_150_code (5 : Nat) (Option.none : Option Jvm.ClassFile.FieldType)).before args0 about1 = true := code_word (m := ⟨7, 8⟩) (meth := k7m8) (c := k7c8) (by decide +kernel) rfl rfl rfl (by decide +kernel)
set_option maxRecDepth 65536 in
theorem w_c17 : (Jvm.Cond.code ({ cls := "java/lang/AbstractStringBuilder", name := "getValue", desc := "()[B" } : Jvm.MethodName) jdk_68_method_64_code (1 : Nat) (Option.some (Jvm.ClassFile.FieldType.array Jvm.ClassFile.FieldType.byte))).before args0 about1 = true := code_word (m := ⟨10, 6⟩) (meth := k10m6) (c := k10c6) (by decide +kernel) rfl rfl rfl (by decide +kernel)
set_option maxRecDepth 65536 in
theorem w_c18 : (Jvm.Cond.code ({ cls := "java/lang/StringBuilder", name := "length", desc := "()I" } : Jvm.MethodName) jdk_67_method_93_code (1 : Nat) (Option.some Jvm.ClassFile.FieldType.int)).before args0 about1 = true := code_word (m := ⟨11, 5⟩) (meth := k11m5) (c := k11c5) (by decide +kernel) rfl rfl rfl (by decide +kernel)
set_option maxRecDepth 65536 in
theorem w_c19 : (Jvm.Cond.code ({ cls := "java/lang/AbstractStringBuilder", name := "length", desc := "()I" } : Jvm.MethodName) jdk_68_method_6_code (1 : Nat) (Option.some Jvm.ClassFile.FieldType.int)).before args0 about1 = true := code_word (m := ⟨10, 2⟩) (meth := k10m2) (c := k10c2) (by decide +kernel) rfl rfl rfl (by decide +kernel)
set_option maxRecDepth 65536 in
theorem w_c20 : (Jvm.Cond.code ({ cls := "java/lang/AbstractStringBuilder", name := "isLatin1", desc := "()Z" } : Jvm.MethodName) jdk_68_method_68_code (1 : Nat) (Option.some Jvm.ClassFile.FieldType.boolean)).before args0 about1 = true := code_word (m := ⟨10, 7⟩) (meth := k10m7) (c := k10c7) (by decide +kernel) rfl rfl rfl (by decide +kernel)
set_option maxRecDepth 65536 in
theorem w_c21 : (Jvm.Cond.code ({ cls := "java/util/Arrays", name := "copyOfRange", desc := "([BII)[B" } : Jvm.MethodName) jdk_65_method_132_code (3 : Nat) (Option.some (Jvm.ClassFile.FieldType.array Jvm.ClassFile.FieldType.byte))).before args0 about1 = true := code_word (m := ⟨13, 3⟩) (meth := k13m3) (c := k13c3) (by decide +kernel) rfl rfl rfl (by decide +kernel)
set_option maxRecDepth 65536 in
theorem w_c22 : (Jvm.Cond.code ({ cls := "java/util/Arrays", name := "copyOfRangeByte", desc := "([BII)[B" } : Jvm.MethodName) jdk_65_method_133_code (5 : Nat) (Option.some (Jvm.ClassFile.FieldType.array Jvm.ClassFile.FieldType.byte))).before args0 about1 = true := code_word (m := ⟨13, 4⟩) (meth := k13m4) (c := k13c4) (by decide +kernel) rfl rfl rfl (by decide +kernel)
set_option maxRecDepth 65536 in
theorem w_c23 : (Jvm.Cond.code ({ cls := "java/util/Arrays", name := "checkLength", desc := "(II)V" } : Jvm.MethodName) jdk_65_method_131_code (2 : Nat) (Option.none : Option Jvm.ClassFile.FieldType)).before args0 about1 = true := code_word (m := ⟨13, 2⟩) (meth := k13m2) (c := k13c2) (by decide +kernel) rfl rfl rfl (by decide +kernel)
set_option maxRecDepth 65536 in
theorem w_c24 : (Jvm.Cond.code ({ cls := "java/lang/Math", name := "min", desc := "(II)I" } : Jvm.MethodName) jdk_29_method_69_code (2 : Nat) (Option.some Jvm.ClassFile.FieldType.int)).before args0 about1 = true := code_word (m := ⟨14, 2⟩) (meth := k14m2) (c := k14c2) (by decide +kernel) rfl rfl rfl (by decide +kernel)
set_option maxRecDepth 65536 in
theorem w_c25 : (Jvm.Cond.code ({ cls := "com/example/estate4/estate4/jdbc/SelectTextPagedPinLaw", name := "quad", desc := "(Ljava/lang/String;ILjava/lang/String;I)Z" } : Jvm.MethodName) method_3_code (4 : Nat) (Option.some Jvm.ClassFile.FieldType.boolean)).before args0 about1 = true := code_word (m := ⟨1, 2⟩) (meth := k1m2) (c := k1c2) (by decide +kernel) rfl rfl rfl (by decide +kernel)
set_option maxRecDepth 65536 in
theorem w_c26 : (Jvm.Cond.code ({ cls := "com/example/estate4/estate4/jdbc/SelectTextPagedPinLaw", name := "tail", desc := "(Ljava/lang/String;ILjava/lang/String;I)Z" } : Jvm.MethodName) method_2_code (4 : Nat) (Option.some Jvm.ClassFile.FieldType.boolean)).before args0 about1 = true := code_word (m := ⟨1, 1⟩) (meth := k1m1) (c := k1c1) (by decide +kernel) rfl rfl rfl (by decide +kernel)
set_option maxRecDepth 65536 in
theorem w_c27 : (Jvm.Cond.code ({ cls := "java/lang/String", name := "<init>", desc := "([C)V" } : Jvm.MethodName) jdk_42_method_3_code (2 : Nat) (Option.none : Option Jvm.ClassFile.FieldType)).before args0 about1 = true := code_word (m := ⟨7, 1⟩) (meth := k7m1) (c := k7c1) (by decide +kernel) rfl rfl rfl (by decide +kernel)
set_option maxRecDepth 65536 in
theorem w_c28 : (Jvm.Cond.code ({ cls := "java/lang/String", name := "<init>", desc := "([CIILjava/lang/Void;)V" } : Jvm.MethodName) jdk_42_method_149_code (6 : Nat) (Option.none : Option Jvm.ClassFile.FieldType)).before args0 about1 = true := code_word (m := ⟨7, 7⟩) (meth := k7m7) (c := k7c7) (by decide +kernel) rfl rfl rfl (by decide +kernel)
set_option maxRecDepth 65536 in
theorem w_c29 : (Jvm.Cond.code ({ cls := "java/lang/StringUTF16", name := "compress", desc := "([CII)[B" } : Jvm.MethodName) jdk_52_method_16_code (6 : Nat) (Option.some (Jvm.ClassFile.FieldType.array Jvm.ClassFile.FieldType.byte))).before args0 about1 = true := code_word (m := ⟨15, 2⟩) (meth := k15m2) (c := k15c2) (by decide +kernel) rfl rfl rfl (by decide +kernel)
set_option maxRecDepth 65536 in
theorem w_c30 : (Jvm.Cond.code ({ cls := "java/lang/StringUTF16", name := "compress", desc := "([CI[BII)I" } : Jvm.MethodName) jdk_52_method_21_code (7 : Nat) (Option.some Jvm.ClassFile.FieldType.int)).before args0 about1 = true := code_word (m := ⟨15, 3⟩) (meth := k15m3) (c := k15c3) (by decide +kernel) rfl rfl rfl (by decide +kernel)
set_option maxRecDepth 65536 in
theorem w_c31 : (Jvm.Cond.code ({ cls := "java/lang/StringUTF16", name := "coderFromArrayLen", desc := "([BI)B" } : Jvm.MethodName) jdk_52_method_15_code (2 : Nat) (Option.some Jvm.ClassFile.FieldType.byte)).before args0 about1 = true := code_word (m := ⟨15, 1⟩) (meth := k15m1) (c := k15c1) (by decide +kernel) rfl rfl rfl (by decide +kernel)
set_option maxRecDepth 65536 in
theorem w_c32 : (Jvm.Cond.code ({ cls := "java/lang/String", name := "charAt", desc := "(I)C" } : Jvm.MethodName) jdk_42_method_56_code (2 : Nat) (Option.some Jvm.ClassFile.FieldType.char)).before args0 about1 = true := code_word (m := ⟨7, 4⟩) (meth := k7m4) (c := k7c4) (by decide +kernel) rfl rfl rfl (by decide +kernel)
set_option maxRecDepth 65536 in
theorem w_c33 : (Jvm.Cond.code ({ cls := "java/lang/String", name := "isLatin1", desc := "()Z" } : Jvm.MethodName) jdk_42_method_154_code (1 : Nat) (Option.some Jvm.ClassFile.FieldType.boolean)).before args0 about1 = true := code_word (m := ⟨7, 11⟩) (meth := k7m11) (c := k7c11) (by decide +kernel) rfl rfl rfl (by decide +kernel)
set_option maxRecDepth 65536 in
theorem w_c34 : (Jvm.Cond.code ({ cls := "java/lang/StringLatin1", name := "charAt", desc := "([BI)C" } : Jvm.MethodName) jdk_43_method_2_code (2 : Nat) (Option.some Jvm.ClassFile.FieldType.char)).before args0 about1 = true := code_word (m := ⟨16, 1⟩) (meth := k16m1) (c := k16c1) (by decide +kernel) rfl rfl rfl (by decide +kernel)
set_option maxRecDepth 65536 in
theorem w_c35 : (Jvm.Cond.code ({ cls := "java/lang/String", name := "checkIndex", desc := "(II)V" } : Jvm.MethodName) jdk_42_method_155_code (2 : Nat) (Option.none : Option Jvm.ClassFile.FieldType)).before args0 about1 = true := code_word (m := ⟨7, 12⟩) (meth := k7m12) (c := k7c12) (by decide +kernel) rfl rfl rfl (by decide +kernel)
set_option maxRecDepth 65536 in
theorem w_c36 : (Jvm.Cond.code ({ cls := "jdk/internal/util/Preconditions", name := "checkIndex", desc := "(IILjava/util/function/BiFunction;)I" } : Jvm.MethodName) jdk_41_method_11_code (3 : Nat) (Option.some Jvm.ClassFile.FieldType.int)).before args0 about1 = true := code_word (m := ⟨17, 1⟩) (meth := k17m1) (c := k17c1) (by decide +kernel) rfl rfl rfl (by decide +kernel)
set_option maxRecDepth 65536 in
theorem w_c37 : (Jvm.Cond.code ({ cls := "java/lang/AbstractStringBuilder", name := "newCapacity", desc := "(I)I" } : Jvm.MethodName) jdk_68_method_10_code (6 : Nat) (Option.some Jvm.ClassFile.FieldType.int)).before args0 about1 = true := code_word (m := ⟨10, 4⟩) (meth := k10m4) (c := k10c4) (by decide +kernel) rfl rfl rfl (by decide +kernel)
set_option maxRecDepth 65536 in
theorem w_c38 : (Jvm.Cond.code ({ cls := "jdk/internal/util/ArraysSupport", name := "newLength", desc := "(III)I" } : Jvm.MethodName) jdk_48_method_27_code (4 : Nat) (Option.some Jvm.ClassFile.FieldType.int)).before args0 about1 = true := code_word (m := ⟨18, 1⟩) (meth := k18m1) (c := k18c1) (by decide +kernel) rfl rfl rfl (by decide +kernel)
set_option maxRecDepth 65536 in
theorem w_c39 : (Jvm.Cond.code ({ cls := "java/lang/Math", name := "max", desc := "(II)I" } : Jvm.MethodName) jdk_29_method_65_code (2 : Nat) (Option.some Jvm.ClassFile.FieldType.int)).before args0 about1 = true := code_word (m := ⟨14, 1⟩) (meth := k14m1) (c := k14c1) (by decide +kernel) rfl rfl rfl (by decide +kernel)
set_option maxRecDepth 65536 in
theorem w_c40 : (Jvm.Cond.code ({ cls := "java/util/Arrays", name := "copyOf", desc := "([BI)[B" } : Jvm.MethodName) jdk_65_method_121_code (3 : Nat) (Option.some (Jvm.ClassFile.FieldType.array Jvm.ClassFile.FieldType.byte))).before args0 about1 = true := code_word (m := ⟨13, 1⟩) (meth := k13m1) (c := k13c1) (by decide +kernel) rfl rfl rfl (by decide +kernel)
set_option maxRecDepth 65536 in
theorem w_c41 : (Jvm.Cond.code ({ cls := "java/lang/String", name := "valueOf", desc := "(C)Ljava/lang/String;" } : Jvm.MethodName) jdk_42_method_139_code (1 : Nat) (Option.some (Jvm.ClassFile.FieldType.object "java/lang/String"))).before args0 about1 = true := code_word (m := ⟨7, 5⟩) (meth := k7m5) (c := k7c5) (by decide +kernel) rfl rfl rfl (by decide +kernel)
set_option maxRecDepth 65536 in
theorem w_c42 : (Jvm.Cond.code ({ cls := "java/lang/StringLatin1", name := "canEncode", desc := "(C)Z" } : Jvm.MethodName) jdk_43_method_3_code (1 : Nat) (Option.some Jvm.ClassFile.FieldType.boolean)).before args0 about1 = true := code_word (m := ⟨16, 2⟩) (meth := k16m2) (c := k16c2) (by decide +kernel) rfl rfl rfl (by decide +kernel)
set_option maxRecDepth 65536 in
theorem w_c43 : (Jvm.Cond.code ({ cls := "java/lang/StringLatin1", name := "toBytes", desc := "(C)[B" } : Jvm.MethodName) jdk_43_method_46_code (1 : Nat) (Option.some (Jvm.ClassFile.FieldType.array Jvm.ClassFile.FieldType.byte))).before args0 about1 = true := code_word (m := ⟨16, 3⟩) (meth := k16m3) (c := k16c3) (by decide +kernel) rfl rfl rfl (by decide +kernel)
set_option maxRecDepth 65536 in
theorem w_c44 : (Jvm.Cond.code ({ cls := "java/lang/String", name := "<init>", desc := "([BB)V" } : Jvm.MethodName) jdk_42_method_151_code (3 : Nat) (Option.none : Option Jvm.ClassFile.FieldType)).before args0 about1 = true := code_word (m := ⟨7, 9⟩) (meth := k7m9) (c := k7c9) (by decide +kernel) rfl rfl rfl (by decide +kernel)
def codes1 : List Jvm.Cond := [Jvm.Cond.code x code maxLocals ret, Jvm.Cond.code ({ cls := "com/example/estate4/estate4/jdbc/SelectText", name := "paged", desc := "(Ljava/lang/String;ZZ)Ljava/lang/String;" } : Jvm.MethodName) prog_6_method_24_code (4 : Nat) (Option.some (Jvm.ClassFile.FieldType.object "java/lang/String")), Jvm.Cond.code ({ cls := "java/lang/StringBuilder", name := "<init>", desc := "(Ljava/lang/String;)V" } : Jvm.MethodName) jdk_67_method_3_code (2 : Nat) (Option.none : Option Jvm.ClassFile.FieldType), Jvm.Cond.code ({ cls := "java/lang/AbstractStringBuilder", name := "<init>", desc := "(Ljava/lang/String;)V" } : Jvm.MethodName) jdk_68_method_3_code (5 : Nat) (Option.none : Option Jvm.ClassFile.FieldType), Jvm.Cond.code ({ cls := "java/lang/Object", name := "<init>", desc := "()V" } : Jvm.MethodName) object_method_1_code (1 : Nat) (Option.none : Option Jvm.ClassFile.FieldType), Jvm.Cond.code ({ cls := "java/lang/String", name := "length", desc := "()I" } : Jvm.MethodName) jdk_42_method_54_code (1 : Nat) (Option.some Jvm.ClassFile.FieldType.int), Jvm.Cond.code ({ cls := "java/lang/String", name := "coder", desc := "()B" } : Jvm.MethodName) jdk_42_method_152_code (1 : Nat) (Option.some Jvm.ClassFile.FieldType.byte), Jvm.Cond.code ({ cls := "java/lang/StringBuilder", name := "append", desc := "(Ljava/lang/String;)Ljava/lang/AbstractStringBuilder;" } : Jvm.MethodName) jdk_67_method_80_code (2 : Nat) (Option.some (Jvm.ClassFile.FieldType.object "java/lang/AbstractStringBuilder")), Jvm.Cond.code ({ cls := "java/lang/StringBuilder", name := "append", desc := "(Ljava/lang/String;)Ljava/lang/StringBuilder;" } : Jvm.MethodName) jdk_67_method_7_code (2 : Nat) (Option.some (Jvm.ClassFile.FieldType.object "java/lang/StringBuilder")), Jvm.Cond.code ({ cls := "java/lang/AbstractStringBuilder", name := "append", desc := "(Ljava/lang/String;)Ljava/lang/AbstractStringBuilder;" } : Jvm.MethodName) jdk_68_method_22_code (3 : Nat) (Option.some (Jvm.ClassFile.FieldType.object "java/lang/AbstractStringBuilder")), Jvm.Cond.code ({ cls := "java/lang/AbstractStringBuilder", name := "ensureCapacityInternal", desc := "(I)V" } : Jvm.MethodName) jdk_68_method_9_code (3 : Nat) (Option.none : Option Jvm.ClassFile.FieldType), Jvm.Cond.code ({ cls := "java/lang/AbstractStringBuilder", name := "putStringAt", desc := "(ILjava/lang/String;)V" } : Jvm.MethodName) jdk_68_method_73_code (3 : Nat) (Option.none : Option Jvm.ClassFile.FieldType), Jvm.Cond.code ({ cls := "java/lang/AbstractStringBuilder", name := "inflateIfNeededFor", desc := "(Ljava/lang/String;)V" } : Jvm.MethodName) jdk_68_method_71_code (2 : Nat) (Option.none : Option Jvm.ClassFile.FieldType), Jvm.Cond.code ({ cls := "java/lang/String", name := "getBytes", desc := "([BIB)V" } : Jvm.MethodName) jdk_42_method_147_code (4 : Nat) (Option.none : Option Jvm.ClassFile.FieldType), Jvm.Cond.code ({ cls := "java/lang/StringBuilder", name := "toString", desc := "()Ljava/lang/String;" } : Jvm.MethodName) jdk_67_method_42_code (1 : Nat) (Option.some (Jvm.ClassFile.FieldType.object "java/lang/String")), Jvm.Cond.code ({ cls := "java/lang/String", name := "<init>", desc := "(Ljava/lang/StringBuilder;)V" } : Jvm.MethodName) jdk_42_method_53_code (2 : Nat) (Option.none : Option Jvm.ClassFile.FieldType), Jvm.Cond.code ({ cls := "java/lang/String", name := "<init>", desc := "(Ljava/lang/AbstractStringBuilder;Ljava/lang/Void;)V" } : Jvm.MethodName) jdk_42_method_150_code (5 : Nat) (Option.none : Option Jvm.ClassFile.FieldType), Jvm.Cond.code ({ cls := "java/lang/AbstractStringBuilder", name := "getValue", desc := "()[B" } : Jvm.MethodName) jdk_68_method_64_code (1 : Nat) (Option.some (Jvm.ClassFile.FieldType.array Jvm.ClassFile.FieldType.byte)), Jvm.Cond.code ({ cls := "java/lang/StringBuilder", name := "length", desc := "()I" } : Jvm.MethodName) jdk_67_method_93_code (1 : Nat) (Option.some Jvm.ClassFile.FieldType.int), Jvm.Cond.code ({ cls := "java/lang/AbstractStringBuilder", name := "length", desc := "()I" } : Jvm.MethodName) jdk_68_method_6_code (1 : Nat) (Option.some Jvm.ClassFile.FieldType.int), Jvm.Cond.code ({ cls := "java/lang/AbstractStringBuilder", name := "isLatin1", desc := "()Z" } : Jvm.MethodName) jdk_68_method_68_code (1 : Nat) (Option.some Jvm.ClassFile.FieldType.boolean), Jvm.Cond.code ({ cls := "java/util/Arrays", name := "copyOfRange", desc := "([BII)[B" } : Jvm.MethodName) jdk_65_method_132_code (3 : Nat) (Option.some (Jvm.ClassFile.FieldType.array Jvm.ClassFile.FieldType.byte)), Jvm.Cond.code ({ cls := "java/util/Arrays", name := "copyOfRangeByte", desc := "([BII)[B" } : Jvm.MethodName) jdk_65_method_133_code (5 : Nat) (Option.some (Jvm.ClassFile.FieldType.array Jvm.ClassFile.FieldType.byte)), Jvm.Cond.code ({ cls := "java/util/Arrays", name := "checkLength", desc := "(II)V" } : Jvm.MethodName) jdk_65_method_131_code (2 : Nat) (Option.none : Option Jvm.ClassFile.FieldType), Jvm.Cond.code ({ cls := "java/lang/Math", name := "min", desc := "(II)I" } : Jvm.MethodName) jdk_29_method_69_code (2 : Nat) (Option.some Jvm.ClassFile.FieldType.int), Jvm.Cond.code ({ cls := "com/example/estate4/estate4/jdbc/SelectTextPagedPinLaw", name := "quad", desc := "(Ljava/lang/String;ILjava/lang/String;I)Z" } : Jvm.MethodName) method_3_code (4 : Nat) (Option.some Jvm.ClassFile.FieldType.boolean), Jvm.Cond.code ({ cls := "com/example/estate4/estate4/jdbc/SelectTextPagedPinLaw", name := "tail", desc := "(Ljava/lang/String;ILjava/lang/String;I)Z" } : Jvm.MethodName) method_2_code (4 : Nat) (Option.some Jvm.ClassFile.FieldType.boolean), Jvm.Cond.code ({ cls := "java/lang/String", name := "<init>", desc := "([C)V" } : Jvm.MethodName) jdk_42_method_3_code (2 : Nat) (Option.none : Option Jvm.ClassFile.FieldType), Jvm.Cond.code ({ cls := "java/lang/String", name := "<init>", desc := "([CIILjava/lang/Void;)V" } : Jvm.MethodName) jdk_42_method_149_code (6 : Nat) (Option.none : Option Jvm.ClassFile.FieldType), Jvm.Cond.code ({ cls := "java/lang/StringUTF16", name := "compress", desc := "([CII)[B" } : Jvm.MethodName) jdk_52_method_16_code (6 : Nat) (Option.some (Jvm.ClassFile.FieldType.array Jvm.ClassFile.FieldType.byte)), Jvm.Cond.code ({ cls := "java/lang/StringUTF16", name := "compress", desc := "([CI[BII)I" } : Jvm.MethodName) jdk_52_method_21_code (7 : Nat) (Option.some Jvm.ClassFile.FieldType.int), Jvm.Cond.code ({ cls := "java/lang/StringUTF16", name := "coderFromArrayLen", desc := "([BI)B" } : Jvm.MethodName) jdk_52_method_15_code (2 : Nat) (Option.some Jvm.ClassFile.FieldType.byte), Jvm.Cond.code ({ cls := "java/lang/String", name := "charAt", desc := "(I)C" } : Jvm.MethodName) jdk_42_method_56_code (2 : Nat) (Option.some Jvm.ClassFile.FieldType.char), Jvm.Cond.code ({ cls := "java/lang/String", name := "isLatin1", desc := "()Z" } : Jvm.MethodName) jdk_42_method_154_code (1 : Nat) (Option.some Jvm.ClassFile.FieldType.boolean), Jvm.Cond.code ({ cls := "java/lang/StringLatin1", name := "charAt", desc := "([BI)C" } : Jvm.MethodName) jdk_43_method_2_code (2 : Nat) (Option.some Jvm.ClassFile.FieldType.char), Jvm.Cond.code ({ cls := "java/lang/String", name := "checkIndex", desc := "(II)V" } : Jvm.MethodName) jdk_42_method_155_code (2 : Nat) (Option.none : Option Jvm.ClassFile.FieldType), Jvm.Cond.code ({ cls := "jdk/internal/util/Preconditions", name := "checkIndex", desc := "(IILjava/util/function/BiFunction;)I" } : Jvm.MethodName) jdk_41_method_11_code (3 : Nat) (Option.some Jvm.ClassFile.FieldType.int), Jvm.Cond.code ({ cls := "java/lang/AbstractStringBuilder", name := "newCapacity", desc := "(I)I" } : Jvm.MethodName) jdk_68_method_10_code (6 : Nat) (Option.some Jvm.ClassFile.FieldType.int), Jvm.Cond.code ({ cls := "jdk/internal/util/ArraysSupport", name := "newLength", desc := "(III)I" } : Jvm.MethodName) jdk_48_method_27_code (4 : Nat) (Option.some Jvm.ClassFile.FieldType.int), Jvm.Cond.code ({ cls := "java/lang/Math", name := "max", desc := "(II)I" } : Jvm.MethodName) jdk_29_method_65_code (2 : Nat) (Option.some Jvm.ClassFile.FieldType.int), Jvm.Cond.code ({ cls := "java/util/Arrays", name := "copyOf", desc := "([BI)[B" } : Jvm.MethodName) jdk_65_method_121_code (3 : Nat) (Option.some (Jvm.ClassFile.FieldType.array Jvm.ClassFile.FieldType.byte)), Jvm.Cond.code ({ cls := "java/lang/String", name := "valueOf", desc := "(C)Ljava/lang/String;" } : Jvm.MethodName) jdk_42_method_139_code (1 : Nat) (Option.some (Jvm.ClassFile.FieldType.object "java/lang/String")), Jvm.Cond.code ({ cls := "java/lang/StringLatin1", name := "canEncode", desc := "(C)Z" } : Jvm.MethodName) jdk_43_method_3_code (1 : Nat) (Option.some Jvm.ClassFile.FieldType.boolean), Jvm.Cond.code ({ cls := "java/lang/StringLatin1", name := "toBytes", desc := "(C)[B" } : Jvm.MethodName) jdk_43_method_46_code (1 : Nat) (Option.some (Jvm.ClassFile.FieldType.array Jvm.ClassFile.FieldType.byte)), Jvm.Cond.code ({ cls := "java/lang/String", name := "<init>", desc := "([BB)V" } : Jvm.MethodName) jdk_42_method_151_code (3 : Nat) (Option.none : Option Jvm.ClassFile.FieldType)]
set_option maxRecDepth 65536 in
theorem codes_eq : words1.filter isCode = codes1 := rfl
theorem w_codes : ∀ c ∈ words1.filter isCode, c.before args0 about1 = true := by
  rw [codes_eq]
  intro c hc
  simp only [codes1, List.mem_cons, List.not_mem_nil, or_false] at hc
  rcases hc with rfl | rfl | rfl | rfl | rfl | rfl | rfl | rfl | rfl | rfl | rfl | rfl | rfl | rfl | rfl | rfl | rfl | rfl | rfl | rfl | rfl | rfl | rfl | rfl | rfl | rfl | rfl | rfl | rfl | rfl | rfl | rfl | rfl | rfl | rfl | rfl | rfl | rfl | rfl | rfl | rfl | rfl | rfl | rfl | rfl
  · exact w_c0
  · exact w_c1
  · exact w_c2
  · exact w_c3
  · exact w_c4
  · exact w_c5
  · exact w_c6
  · exact w_c7
  · exact w_c8
  · exact w_c9
  · exact w_c10
  · exact w_c11
  · exact w_c12
  · exact w_c13
  · exact w_c14
  · exact w_c15
  · exact w_c16
  · exact w_c17
  · exact w_c18
  · exact w_c19
  · exact w_c20
  · exact w_c21
  · exact w_c22
  · exact w_c23
  · exact w_c24
  · exact w_c25
  · exact w_c26
  · exact w_c27
  · exact w_c28
  · exact w_c29
  · exact w_c30
  · exact w_c31
  · exact w_c32
  · exact w_c33
  · exact w_c34
  · exact w_c35
  · exact w_c36
  · exact w_c37
  · exact w_c38
  · exact w_c39
  · exact w_c40
  · exact w_c41
  · exact w_c42
  · exact w_c43
  · exact w_c44
set_option maxRecDepth 65536 in
theorem w_t1 : (words1.take 24).all (fun c => isCode c || c.before args0 about1) = true := by decide +kernel
set_option maxRecDepth 65536 in
theorem w_t2 : ((words1.drop 24).take 24).all (fun c => isCode c || c.before args0 about1) = true := by decide +kernel
set_option maxRecDepth 65536 in
theorem w_t3 : (((words1.drop 24).drop 24).take 24).all (fun c => isCode c || c.before args0 about1) = true := by decide +kernel
set_option maxRecDepth 65536 in
theorem w_t4 : ((((words1.drop 24).drop 24).drop 24).take 24).all (fun c => isCode c || c.before args0 about1) = true := by decide +kernel
set_option maxRecDepth 65536 in
theorem w_t5 : (((((words1.drop 24).drop 24).drop 24).drop 24).take 24).all (fun c => isCode c || c.before args0 about1) = true := by decide +kernel
set_option maxRecDepth 65536 in
theorem w_t6 : ((((((words1.drop 24).drop 24).drop 24).drop 24).drop 24).take 24).all (fun c => isCode c || c.before args0 about1) = true := by decide +kernel
set_option maxRecDepth 65536 in
theorem w_t7 : (((((((words1.drop 24).drop 24).drop 24).drop 24).drop 24).drop 24).take 24).all (fun c => isCode c || c.before args0 about1) = true := by decide +kernel
set_option maxRecDepth 65536 in
theorem w_t8 : ((((((((words1.drop 24).drop 24).drop 24).drop 24).drop 24).drop 24).drop 24).take 24).all (fun c => isCode c || c.before args0 about1) = true := by decide +kernel
set_option maxRecDepth 65536 in
theorem w_t9 : (((((((((words1.drop 24).drop 24).drop 24).drop 24).drop 24).drop 24).drop 24).drop 24).take 24).all (fun c => isCode c || c.before args0 about1) = true := by decide +kernel
set_option maxRecDepth 65536 in
theorem w_t10 : (((((((((words1.drop 24).drop 24).drop 24).drop 24).drop 24).drop 24).drop 24).drop 24).drop 24).all (fun c => isCode c || c.before args0 about1) = true := by decide +kernel
theorem w_tables : (allAtoms (Jvm.Cond.code x code maxLocals ret :: tables_1)).before args0 about1 = true := by
  rw [allAtoms_all]
  show words1.all (fun c => c.before args0 about1) = true
  refine all_split ?_ w_codes
  rw [← List.take_append_drop 24 words1, List.all_append, w_t1, ← List.take_append_drop 24 (words1.drop 24), List.all_append, w_t2, ← List.take_append_drop 24 ((words1.drop 24).drop 24), List.all_append, w_t3, ← List.take_append_drop 24 (((words1.drop 24).drop 24).drop 24), List.all_append, w_t4, ← List.take_append_drop 24 ((((words1.drop 24).drop 24).drop 24).drop 24), List.all_append, w_t5, ← List.take_append_drop 24 (((((words1.drop 24).drop 24).drop 24).drop 24).drop 24), List.all_append, w_t6, ← List.take_append_drop 24 ((((((words1.drop 24).drop 24).drop 24).drop 24).drop 24).drop 24), List.all_append, w_t7, ← List.take_append_drop 24 (((((((words1.drop 24).drop 24).drop 24).drop 24).drop 24).drop 24).drop 24), List.all_append, w_t8, ← List.take_append_drop 24 ((((((((words1.drop 24).drop 24).drop 24).drop 24).drop 24).drop 24).drop 24).drop 24), List.all_append, w_t9, w_t10]
  rfl
set_option maxRecDepth 65536 in
theorem w_rest : rest_1_c.before args0 about1 = true := by decide +kernel
set_option maxRecDepth 65536 in
theorem w_case : (Jvm.Cond.and given_1 narrow_1).before args0 about1 = true := by decide +kernel
set_option maxRecDepth 65536 in
theorem w_consts : constsHeld consts_1 about1 := Jvm.Lit.constsHeldB_iff.mp (by decide +kernel)
theorem w_applies : (headSpec (Jvm.Cond.code x code maxLocals ret :: tables_1) room_1).applies x e0.platform about1 = true :=
  (Spec.applies_iff w_frames).mpr ⟨w_running, w_runnable, w_alone, w_named, w_hears, w_ripe, w_room, w_tables⟩
theorem atStart : AtStart classFile x code maxLocals ret World_1 tables_1 room_1 Calls_1 rest_1 Pre_1 launch0 p0 e0 about1 theMethod args0 below0 :=
  ⟨lists_1, trivial, launch0.admits_env _ _ _, launch0.least_env, fairChoices_fair.cas, fairChoices_fair.clock, w_frames, w_args, w_heap, w_applies, ⟨w_consts, trivial⟩, w_rest, w_case⟩
end start1
theorem witness_1 : WitnessClaimed_1 := ⟨start1.p0, start1.e0, start1.about1, start1.theMethod, start1.args0, start1.below0, start1.atStart⟩
end Jvm.Pilot.@@N@@
